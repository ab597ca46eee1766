import JvmDerived
import JvmDerived.Pilot.@@N@@Statement
import JvmDerived.Pilot.@@N@@Code
set_option linter.unusedVariables false
set_option linter.unusedSimpArgs false
namespace Jvm.Pilot.@@N@@
open Jvm Jvm.ClassFile Sem Op Lib Jvm.Free Jvm.Stand Jvm.LawKit Jvm.RoadKit Bundle Jvm.Pilot.@@N@@.Jvm.D
def own_usr (x y : Int32) : Int32 := (x.toUInt32 >>> (y &&& 31).toUInt32).toInt32
def own_usrL (x : Int64) (y : Int32) : Int64 := (x.toUInt64 >>> (y &&& 0x3f).toInt64.toUInt64).toInt64
/-- where the run came from, where it stands -/
def Go (p : Program) (e : Env) (below : List Frame) (A B : State) : Prop := ∀ t, Steps p.tables e below B t → Steps p.tables e below A t
theorem Go.step {p : Program} {e : Env} {below : List Frame} {A B C : State} (g : Go p e below A B) (h : ∀ t, Steps p.tables e below C t → Steps p.tables e below B t) : Go p e below A C := fun t k => g t (h t k)
theorem Go.tr {p : Program} {e : Env} {below : List Frame} {A B C : State} (g : Go p e below A B) (h : Steps p.tables e below B C) : Go p e below A C := fun t k => g t (h.trans k)
section Rets
variable {p : Program} {l : Launch} {e : Env} {R : Room} {s : State} {m : MethodId} {args : Array Value} {below : List Frame} {meth : Method} {c : Code} {T : State} {locs : List Loc} {cells slots : Nat}
theorem own_retI (X : Stand p l e R s m args below meth c T locs cells slots) (hx : p.tables.exec = Jvm.exec) {pc : Nat} {Ls : Array Slot} {z : Int32} {rest : List Value} (hret : meth.sig.returnType = some .int) (hd : decode c.code pc = .ok (.ireturn, 1)) {fs : List Frame}
    (hl : ∀ (f : JFrame) (acts : List Action), f.method = m → f.locked = none → f.entered = [] → (doReturn e (T.setTop f) acts (some (.int z))).1 = T.setFrames fs) : Steps p.tables e below (T.setTop (mkF m pc Ls (.int z :: rest))) (T.setFrames fs) :=
  retOut X hx (t := .int) hret rfl (Or.inl ⟨rfl, Or.inl rfl, z, rfl⟩) hd hl
theorem own_retL (X : Stand p l e R s m args below meth c T locs cells slots) (hx : p.tables.exec = Jvm.exec) {pc : Nat} {Ls : Array Slot} {z : Int64} {rest : List Value} (hret : meth.sig.returnType = some .long) (hd : decode c.code pc = .ok (.lreturn, 1)) {fs : List Frame}
    (hl : ∀ (f : JFrame) (acts : List Action), f.method = m → f.locked = none → f.entered = [] → (doReturn e (T.setTop f) acts (some (.long z))).1 = T.setFrames fs) : Steps p.tables e below (T.setTop (mkF m pc Ls (.long z :: rest))) (T.setFrames fs) :=
  retOut X hx (t := .long) hret rfl (Or.inr (Or.inl ⟨rfl, rfl, z, rfl⟩)) hd hl
theorem own_retA (X : Stand p l e R s m args below meth c T locs cells slots) (hx : p.tables.exec = Jvm.exec) {t : FieldType} {pc : Nat} {Ls : Array Slot} {z : Addr} {rest : List Value} (hret : meth.sig.returnType = some t) (ht : t.isReference = true) (hn : narrow t (.ref z) = .ref z) (hd : decode c.code pc = .ok (.areturn, 1)) {fs : List Frame}
    (hl : ∀ (f : JFrame) (acts : List Action), f.method = m → f.locked = none → f.entered = [] → (doReturn e (T.setTop f) acts (some (.ref z))).1 = T.setFrames fs) : Steps p.tables e below (T.setTop (mkF m pc Ls (.ref z :: rest))) (T.setFrames fs) :=
  retOut X hx hret hn (Or.inr (Or.inr (Or.inr (Or.inr ⟨rfl, ht, rfl⟩)))) hd hl
end Rets
def own_xs (z : Int64) (k : Int32) : Int64 := z ^^^ own_usrL z k
def own_xs2 (z : Int64) (k k2 : Int32) : Int64 := (z ^^^ own_usrL z k) ^^^ own_usrL z k2
theorem own_sh0 {w : Nat} (x : BitVec w) (n : Nat) (h : w ≤ n) : x >>> n = 0#w := by
  apply BitVec.eq_of_toNat_eq
  rw [BitVec.toNat_ushiftRight, BitVec.toNat_zero, Nat.shiftRight_eq_div_pow]
  exact Nat.div_eq_of_lt (Nat.lt_of_lt_of_le x.isLt (Nat.pow_le_pow_right (by decide) h))
theorem own_bv {w : Nat} (x : BitVec w) (s : Nat) (h : w ≤ s + s + s) : ((x ^^^ x >>> s) ^^^ (x ^^^ x >>> s) >>> s) ^^^ (x ^^^ x >>> s) >>> (s + s) = x := by
  rw [BitVec.ushiftRight_xor_distrib, BitVec.ushiftRight_xor_distrib, ← BitVec.shiftRight_add, ← BitVec.shiftRight_add, own_sh0 x (s + (s + s)) (by omega), BitVec.xor_zero]
  generalize x >>> s = a; generalize x >>> (s + s) = b
  rw [BitVec.xor_assoc x a, ← BitVec.xor_assoc a a b, BitVec.xor_self, BitVec.zero_xor, BitVec.xor_assoc x b b, BitVec.xor_self, BitVec.xor_zero]
theorem own_bv' {w : Nat} (x : BitVec w) (s : Nat) (h : w ≤ s + s + s) : ((x ^^^ x >>> s) ^^^ x >>> (s + s)) ^^^ ((x ^^^ x >>> s) ^^^ x >>> (s + s)) >>> s = x := by
  rw [BitVec.ushiftRight_xor_distrib, BitVec.ushiftRight_xor_distrib, ← BitVec.shiftRight_add, ← BitVec.shiftRight_add, own_sh0 x (s + s + s) (by omega), BitVec.xor_zero]
  generalize x >>> s = a; generalize x >>> (s + s) = b
  rw [BitVec.xor_assoc (x ^^^ a) b, ← BitVec.xor_assoc b a b, BitVec.xor_comm b a, BitVec.xor_assoc a b b, BitVec.xor_self, BitVec.xor_zero, BitVec.xor_assoc x a a, BitVec.xor_self, BitVec.xor_zero]
theorem own_bv_eq (z : Int64) (k : Int32) (n : Nat) (hk : ((k &&& 0x3f).toInt64.toUInt64.toBitVec % 64) = BitVec.ofNat 64 n) (hn : n < 64) : (own_usrL z k).toBitVec = z.toBitVec >>> n := by
  show z.toBitVec >>> ((k &&& 0x3f).toInt64.toUInt64.toBitVec % 64) = _
  rw [hk, BitVec.ushiftRight_eq', BitVec.toNat_ofNat, Nat.mod_eq_of_lt (by omega)]
theorem own_xs_xs2 (z : Int64) (k k2 : Int32) (n : Nat) (hk : ((k &&& 0x3f).toInt64.toUInt64.toBitVec % 64) = BitVec.ofNat 64 n) (hk2 : ((k2 &&& 0x3f).toInt64.toUInt64.toBitVec % 64) = BitVec.ofNat 64 (n + n)) (hn : n + n < 64) (h3 : 64 ≤ n + n + n) : own_xs2 (own_xs z k) k k2 = z := by
  apply Int64.toBitVec_inj.mp
  show (own_xs z k).toBitVec ^^^ (own_usrL (own_xs z k) k).toBitVec ^^^ (own_usrL (own_xs z k) k2).toBitVec = _
  rw [own_bv_eq _ k n hk (by omega), own_bv_eq _ k2 (n + n) hk2 hn]
  show (z.toBitVec ^^^ (own_usrL z k).toBitVec) ^^^ (z.toBitVec ^^^ (own_usrL z k).toBitVec) >>> n ^^^ (z.toBitVec ^^^ (own_usrL z k).toBitVec) >>> (n + n) = _
  rw [own_bv_eq _ k n hk (by omega)]
  exact own_bv _ n h3
theorem own_xs2_xs (z : Int64) (k k2 : Int32) (n : Nat) (hk : ((k &&& 0x3f).toInt64.toUInt64.toBitVec % 64) = BitVec.ofNat 64 n) (hk2 : ((k2 &&& 0x3f).toInt64.toUInt64.toBitVec % 64) = BitVec.ofNat 64 (n + n)) (hn : n + n < 64) (h3 : 64 ≤ n + n + n) : own_xs (own_xs2 z k k2) k = z := by
  apply Int64.toBitVec_inj.mp
  show (own_xs2 z k k2).toBitVec ^^^ (own_usrL (own_xs2 z k k2) k).toBitVec = _
  rw [own_bv_eq _ k n hk (by omega)]
  show (z.toBitVec ^^^ (own_usrL z k).toBitVec ^^^ (own_usrL z k2).toBitVec) ^^^ (z.toBitVec ^^^ (own_usrL z k).toBitVec ^^^ (own_usrL z k2).toBitVec) >>> n = _
  rw [own_bv_eq _ k n hk (by omega), own_bv_eq _ k2 (n + n) hk2 hn]
  exact own_bv' _ n h3
theorem own_mul (z a b : Int64) (h : a * b = 1) : z * a * b = z := by rw [Int64.mul_assoc, h, Int64.mul_one]
def own_mix (x : Int64) : Int64 := own_xs (own_xs (own_xs x (30 : Int32) * (-4658895280553007687 : Int64)) (27 : Int32) * (-7723592293110705685 : Int64)) (31 : Int32)
def own_unm (r : Int64) : Int64 := own_xs2 (own_xs2 (own_xs2 r (31 : Int32) (62 : Int32) * (3573116690164977347 : Int64)) (27 : Int32) (54 : Int32) * (-7575587736534282103 : Int64)) (30 : Int32) (60 : Int32)
theorem own_unm_mix (x : Int64) : own_unm (own_mix x) = x := by
  unfold own_unm own_mix
  rw [own_xs_xs2 _ 31 62 31 (by decide +kernel) (by decide +kernel) (by decide) (by decide), own_mul _ _ _ (by decide +kernel),
    own_xs_xs2 _ 27 54 27 (by decide +kernel) (by decide +kernel) (by decide) (by decide), own_mul _ _ _ (by decide +kernel),
    own_xs_xs2 _ 30 60 30 (by decide +kernel) (by decide +kernel) (by decide) (by decide)]
theorem own_mix_unm (x : Int64) : own_mix (own_unm x) = x := by
  unfold own_unm own_mix
  rw [own_xs2_xs _ 30 60 30 (by decide +kernel) (by decide +kernel) (by decide) (by decide), own_mul _ _ _ (by decide +kernel),
    own_xs2_xs _ 27 54 27 (by decide +kernel) (by decide +kernel) (by decide) (by decide), own_mul _ _ _ (by decide +kernel),
    own_xs2_xs _ 31 62 31 (by decide +kernel) (by decide +kernel) (by decide) (by decide)]
def own_pr (b : Int32) (w : Int64) : Int64 := own_usrL (own_mix w) (32 : Int32) * b.toInt64
def own_thr (b : Int32) : Int64 := ((4294967296 : Int64) - b.toInt64) % b.toInt64
def own_acc (b : Int32) (t w : Int64) : Prop := ¬ (own_pr b w &&& (4294967295 : Int64)) < t
def own_J (b : Int32) (t w1 w : Int64) : Prop := w = w1 ∨ (¬ own_acc b t w1 ∧ (w = w1 + (-7046029254386353131 : Int64) ∨ ¬ own_acc b t (w1 + (-7046029254386353131 : Int64))))
def own_R (k : Nat) (w : Int64) : Prop := w + Int64.ofNat k * (-7046029254386353131 : Int64) = own_unm (4294967296 : Int64)
theorem own_reach (w : Int64) : ∃ k, own_R k w := by
  refine ⟨((own_unm (4294967296 : Int64) - w) * (-1018231460777725123 : Int64)).toBitVec.toNat, ?_⟩
  unfold own_R
  have e : ∀ z : Int64, Int64.ofNat z.toBitVec.toNat = z := fun z => Int64.toBitVec_inj.mp (by show BitVec.ofNat 64 z.toBitVec.toNat = _; simp)
  rw [e, Int64.mul_assoc, show (-1018231460777725123 : Int64) * (-7046029254386353131 : Int64) = 1 from by decide +kernel, Int64.mul_one, Int64.add_comm, Int64.sub_add_cancel]
theorem own_R0 {w : Int64} (h : own_R 0 w) : own_mix w = (4294967296 : Int64) := by
  unfold own_R at h
  rw [show Int64.ofNat 0 * (-7046029254386353131 : Int64) = 0 from by decide +kernel, Int64.add_zero] at h
  rw [h, own_mix_unm]
theorem own_RS {k : Nat} {w : Int64} (h : own_R (k + 1) w) : own_R k (w + (-7046029254386353131 : Int64)) := by
  unfold own_R at h ⊢
  rw [← h, Int64.ofNat_add, Int64.add_mul, show Int64.ofNat 1 * (-7046029254386353131 : Int64) = (-7046029254386353131 : Int64) from by decide +kernel, Int64.add_assoc, Int64.add_comm (-7046029254386353131 : Int64)]
theorem own_b64 {b : Int32} (hb : (0 : Int32) < b) : 0 < b.toInt64.toInt ∧ b.toInt64.toInt = b.toInt ∧ b.toInt < 2147483648 := by
  have r := rng32 b
  have e : b.toInt64.toInt = b.toInt := Int32.toInt_toInt64 b
  rw [Int32.lt_iff_toInt_lt] at hb
  have e0 : (0 : Int32).toInt = 0 := rfl
  omega
theorem own_bnz {b : Int32} (hb : (0 : Int32) < b) : b.toInt64 ≠ (0 : Int64) := fun q => by
  have h := own_b64 hb
  rw [q] at h
  have e0 : (0 : Int64).toInt = 0 := rfl
  omega
theorem own_thr_lt {b : Int32} (hb : (0 : Int32) < b) : 0 ≤ (own_thr b).toInt ∧ (own_thr b).toInt < b.toInt ∧ (own_thr b).toInt = 4294967296 % b.toInt := by
  have h := own_b64 hb
  have q := c_lsub (4294967296 : Int64) b.toInt64
  have r := rng64 ((4294967296 : Int64) - b.toInt64)
  have e : (4294967296 : Int64).toInt = 4294967296 := rfl
  rw [e] at q
  have e1 : ((4294967296 : Int64) - b.toInt64).toInt = 4294967296 - b.toInt := by omega
  have e2 : (own_thr b).toInt = (4294967296 - b.toInt) % b.toInt := by
    unfold own_thr
    rw [Int64.toInt_mod, Int.tmod_eq_emod_of_nonneg (by omega), e1, h.2.1]
  rw [e2]
  have k1 := Int.emod_nonneg (4294967296 - b.toInt) (show b.toInt ≠ 0 by omega)
  have k2 := Int.emod_lt_of_pos (4294967296 - b.toInt) (show 0 < b.toInt by omega)
  refine ⟨k1, k2, ?_⟩
  have e3 := Int.add_mul_emod_self_left (4294967296 - b.toInt) b.toInt 1
  rw [Int.mul_one, Int.sub_add_cancel] at e3
  exact e3.symm
theorem own_thr_eq {b : Int32} (hb : (0 : Int32) < b) : (4294967296 : Int64) % b.toInt64 = own_thr b := by
  apply Int64.toInt_inj.mp
  have h := own_b64 hb
  rw [(own_thr_lt hb).2.2, Int64.toInt_mod, Int.tmod_eq_emod_of_nonneg (by decide), h.2.1]; rfl
theorem own_stop {b : Int32} {w : Int64} (hb : (0 : Int32) < b) (h : own_R 0 w) : own_acc b (own_thr b) w := by
  unfold own_acc own_pr
  rw [own_R0 h, show own_usrL (4294967296 : Int64) (32 : Int32) = 1 from by decide +kernel, Int64.one_mul]
  have h1 := own_b64 hb
  have h2 := own_thr_lt hb
  have h3 := c_maskL b.toInt64 4294967295 32 (by decide) (by decide)
  rw [Int64.lt_iff_toInt_lt, h3]
  omega
theorem own_Jn {b : Int32} {t w1 w : Int64} (h : own_J b t w1 w) (hn : ¬ own_acc b t w) : own_J b t w1 (w + (-7046029254386353131 : Int64)) := by
  rcases h with rfl | ⟨h1, rfl | h2⟩
  · exact Or.inr ⟨hn, Or.inl rfl⟩
  · exact Or.inr ⟨h1, Or.inr hn⟩
  · exact Or.inr ⟨h1, Or.inr h2⟩
theorem own_J1 {b : Int32} {t w1 w : Int64} (h : own_J b t w1 w) (h1 : own_acc b t w1) : w = w1 := by
  rcases h with rfl | ⟨h2, -⟩
  · rfl
  · exact absurd h1 h2
theorem own_J2 {b : Int32} {t w1 w : Int64} (h : own_J b t w1 w) (ha : own_acc b t w) (h1 : ¬ own_acc b t w1) (h2 : own_acc b t (w1 + (-7046029254386353131 : Int64))) : w = w1 + (-7046029254386353131 : Int64) := by
  rcases h with rfl | ⟨-, rfl | h3⟩
  · exact absurd ha h1
  · rfl
  · exact absurd h2 h3
theorem own_cong {x y : Int} (h : (x - y) % 18446744073709551616 = 0) (r : -9223372036854775808 ≤ x ∧ x < 9223372036854775808) (r2 : 0 ≤ y ∧ y < 9223372036854775808) : x = y := by omega
theorem own_rx {x : Int} : 0 ≤ (x % 18446744073709551616) / ((2 ^ 32 : Nat) : Int) ∧ (x % 18446744073709551616) / ((2 ^ 32 : Nat) : Int) < 4294967296 := by omega
theorem own_hi (b : Int32) (w : Int64) (hb : (0 : Int32) < b) : 0 ≤ (own_usrL (own_pr b w) (32 : Int32)).toInt32.toInt ∧ (own_usrL (own_pr b w) (32 : Int32)).toInt32.toInt < b.toInt := by
  have h1 := own_b64 hb
  have h2 : (own_usrL (own_mix w) (32 : Int32)).toInt = ((own_mix w).toInt % 18446744073709551616) / (2 ^ 32 : Nat) := c_lushr (own_mix w) 32 32 (by decide) (by decide)
  have h3 : (own_usrL (own_pr b w) (32 : Int32)).toInt = ((own_pr b w).toInt % 18446744073709551616) / (2 ^ 32 : Nat) := c_lushr (own_pr b w) 32 32 (by decide) (by decide)
  have h4 := c_lmul (own_usrL (own_mix w) (32 : Int32)) b.toInt64
  have r4 := rng64 (own_pr b w)
  change ((own_pr b w).toInt - _) % _ = 0 at h4
  have hX : 0 ≤ (own_usrL (own_mix w) (32 : Int32)).toInt ∧ (own_usrL (own_mix w) (32 : Int32)).toInt < 4294967296 := by
    rw [h2]; exact own_rx
  clear h2
  generalize (own_usrL (own_mix w) (32 : Int32)).toInt = X at *
  rw [h1.2.1] at h4
  have hb' : 0 < b.toInt := by omega
  generalize b.toInt = B at *
  have m1 : 0 ≤ X * B := Int.mul_nonneg hX.1 (by omega)
  have m2 : X * B ≤ 4294967295 * B := Int.mul_le_mul_of_nonneg_right (by omega) (by omega)
  have m3 : (own_pr b w).toInt = X * B := own_cong h4 r4 ⟨m1, Int.lt_of_le_of_lt m2 (by omega)⟩
  have m4 : (X * B) / 4294967296 < B := Int.ediv_lt_of_lt_mul (by decide) (Int.lt_of_le_of_lt m2 (by omega))
  have m5 : 0 ≤ (X * B) / 4294967296 := Int.ediv_nonneg m1 (by decide)
  have m6 : (own_usrL (own_pr b w) (32 : Int32)).toInt = (X * B) / 4294967296 := by
    have e32 : ((2 ^ 32 : Nat) : Int) = 4294967296 := by decide
    rw [h3, m3, Int.emod_eq_of_lt m1 (Int.lt_of_le_of_lt m2 (by omega)), e32]
  have h5 := c_l2i (own_usrL (own_pr b w) (32 : Int32))
  have r5 := rng32 (own_usrL (own_pr b w) (32 : Int32)).toInt32
  rw [m6] at h5
  clear h3 h4 m1 m2 m3 m6 r4
  generalize X * B / 4294967296 = Y at *
  omega
theorem own_bA (x : Int32) : (0 : Int32) < (x &&& (255 : Int32)) + (1 : Int32) := by
  have h := c_mask x 255 8 (by decide) (by decide)
  have q := c_iadd (x &&& (255 : Int32)) 1
  have r := rng32 ((x &&& (255 : Int32)) + 1)
  have e : (1 : Int32).toInt = 1 := rfl
  have e0 : (0 : Int32).toInt = 0 := rfl
  rw [Int32.lt_iff_toInt_lt]
  omega
theorem own_bB {x : Int32} (h : ¬ (x &&& (2147483647 : Int32)) = (0 : Int32)) : (0 : Int32) < (x &&& (2147483647 : Int32)) := by
  have q := c_mask x 2147483647 31 (by decide) (by decide)
  rw [← Int32.toInt_inj] at h
  have e0 : (0 : Int32).toInt = 0 := rfl
  rw [Int32.lt_iff_toInt_lt]
  omega
theorem d1_0 : decode prog_27_method_1_code 0 = .ok (.aload_n 0, 1) := by decide +kernel
theorem d1_1 : decode prog_27_method_1_code 1 = .ok (.invokespecial 1, 3) := by decide +kernel
theorem d1_4 : decode prog_27_method_1_code 4 = .ok (.aload_n 0, 1) := by decide +kernel
theorem d1_5 : decode prog_27_method_1_code 5 = .ok (.lload_n 1, 1) := by decide +kernel
theorem d1_6 : decode prog_27_method_1_code 6 = .ok (.putfield 7, 3) := by decide +kernel
theorem d1_9 : decode prog_27_method_1_code 9 = .ok (.return_, 1) := by decide +kernel
theorem pn_rm1 : plainName "com/example/roundhaul/roundhaul/solver/SeededRandom" = true := by first | (simp [plainName, overriddenIn]; done) | decide +kernel
theorem ef_rm1 (m : MethodId) (o0 : Addr) (q1 : Int64) : entryFrame m #[(.ref o0), (.long q1)] 3 = mkF m 0 #[.val (.ref o0), .val (.long q1), .second] [] := by first | (simp [entryFrame, mkF, argsToLocals, Value.category]; done) | rfl
def Q_rm1 (Z : State) (o0 : Addr) (q1 : Int64) (h0 : Heap) (n0 : Nat) (v : Option Value) (h : Heap) (L : List Loc) : Prop := v = none ∧ Fr n0 L ∧ Keep h0 h [o0] ∧ Exa Z h o0 "com/example/roundhaul/roundhaul/solver/SeededRandom" ∧ Fld Z h o0 "com/example/roundhaul/roundhaul/solver/SeededRandom" "state" "J" (.long q1)
set_option maxRecDepth 65536 in
set_option maxHeartbeats 40000000 in
theorem rm1 (l : Launch) (Z : State) (a0 : Array Value) (hw : ∀ d ∈ tables_1, d.before a0 Z = true) (ws : List Jvm.Cond) (o0 : Addr) (q1 : Int64) (h0 : Heap) (n0 : Nat) (Z0 : n0 ≤ h0.size) (E_o0 : Exa Z h0 o0 "com/example/roundhaul/roundhaul/solver/SeededRandom") (g_o0 : n0 ≤ o0) (F_state : Fld Z h0 o0 "com/example/roundhaul/roundhaul/solver/SeededRandom" "state" "J" (.long (0 : Int64))) :
    MetFree l (⟨"com/example/roundhaul/roundhaul/solver/SeededRandom", "<init>", "(J)V"⟩ : MethodName) (head1 (Jvm.Cond.code (⟨"com/example/roundhaul/roundhaul/solver/SeededRandom", "<init>", "(J)V"⟩ : MethodName) prog_27_method_1_code 3 none :: ws) ({ frames := 1, cells := 0, slots := 0, locals := 12 } : Room)) (fun a U => a = #[(.ref o0), (.long q1)] ∧ Z.Warmed39 U.vm ∧ U.heap = h0) (fun _ _ _ _ _ => True) (fun _ U o U' => ∃ v L, o = .returned v ∧ Q_rm1 Z o0 q1 h0 n0 v U'.heap L ∧ FrameEnd U o U' L ({ frames := 1, cells := 0, slots := 0, locals := 12 } : Room).cells ({ frames := 1, cells := 0, slots := 0, locals := 12 } : Room).slots) := by
  refine MetFree.of_bodySF (plainFor_of_name pn_rm1) hisR ?_
  intro p e s m args below meth c s₁ Bd hml0 hP hK
  obtain ⟨rfl, hZ, hh⟩ := hP
  have hx := Bd.exec
  have hby := Bd.bytes
  have hml : c.maxLocals = 3 := hml0
  have hown : s.vm.findClass "com/example/roundhaul/roundhaul/solver/SeededRandom" = some m.cls := findClass_of_methodNamed Bd.named
  have hnm := (name_of_methodNamed Bd.named Bd.method).1
  have X0 : Stand p l e ({ frames := 1, cells := 0, slots := 0, locals := 12 } : Room) s m #[(.ref o0), (.long q1)] below meth c s₁ [] 0 0 := Stand.of_body Bd
  have e0 : s₁.heap = h0 := by rw [← hh, Bd.state]; rfl
  have N0 := Fr.nil n0
  have K0 := Keep.refl h0 [o0]
  have go0 : Go p e below (s₁.setTop (entryFrame m #[(.ref o0), (.long q1)] 3)) (s₁.setTop (mkF m 0 #[.val (.ref o0), .val (.long q1), .second] [])) := fun t k => castTop (ef_rm1 m o0 q1) k
  have go1 := go0.step (C := s₁.setTop (mkF m 1 #[.val (.ref o0), .val (.long q1), .second] [(.ref o0)])) (fun t k => by
    show Steps p.tables e below (s₁.setTop (mkF m 0 #[.val (.ref o0), .val (.long q1), .second] [])) _
    refine XS.aloadN X0.here hx rfl (hb hby d1_0) rfl rfl ?_
    exact k)
  obtain ⟨T2, X2, e2, st2⟩ := initO X0 hx hZ hown (hw _ (List.mem_of_getElem? (i := 6) rfl)) (hw _ (List.mem_of_getElem? (i := 7) rfl)) (hw _ (List.mem_of_getElem? (i := 8) rfl)) e0 (g := (mkF m 1 #[.val (.ref o0), .val (.long q1), .second] [(.ref o0)])) rfl (by rw [hml]; rfl) rfl (hb hby d1_1) (by decide) (W := 0) (by show 2 * 0 + _ ≤ _; exact Nat.le_of_eq rfl) (by decide)
  have go2 := go1.step (C := T2.setTop (mkF m 4 #[.val (.ref o0), .val (.long q1), .second] [])) (fun t k => st2 t k)
  have go3 := go2.step (C := T2.setTop (mkF m 6 #[.val (.ref o0), .val (.long q1), .second] [(.long q1), (.ref o0)])) (fun t k => by
    show Steps p.tables e below (T2.setTop (mkF m 4 #[.val (.ref o0), .val (.long q1), .second] [])) _
    refine XS.aloadN X2.here hx rfl (hb hby d1_4) rfl rfl ?_
    show Steps p.tables e below (T2.setTop (mkF m 5 #[.val (.ref o0), .val (.long q1), .second] [(.ref o0)])) _
    refine XS.lloadN X2.here hx rfl (hb hby d1_5) rfl ?_
    exact k)
  obtain ⟨T4, h4, X4, e4, W4, st4⟩ := putF X2 hx hZ hown (host := "") (Or.inl (hw _ (List.mem_of_getElem? (i := 9) rfl))) Via.refl e2 F_state E_o0 (Or.inl (hw _ (List.mem_of_getElem? (i := 10) rfl))) (hw _ (List.mem_of_getElem? (i := 1) rfl)) (ty := .long) (by decide) rfl rfl (g := (mkF m 6 #[.val (.ref o0), .val (.long q1), .second] [(.long q1), (.ref o0)])) rfl rfl (hb hby d1_6)
  have f5 := E_o0.wr W4
  have f6 := Fld.same W4 F_state
  have Z4 : n0 ≤ h4.size := Nat.le_trans Z0 (Nat.le_of_eq W4.size.symm)
  have K4 := K0.wr W4 (Or.inl (List.mem_of_getElem? (i := 0) rfl))
  have N4 := Fr.snoc X4 N0 g_o0
  have go4 := go3.step (C := T4.setTop (mkF m 9 #[.val (.ref o0), .val (.long q1), .second] [])) (fun t k => st4 t k)
  obtain ⟨fs, hr, hrun, hended, hW, hsame⟩ := X4.leave (v := none) (fun _ => rfl)
  refine ⟨_, _, go4 _ ?_, hrun, hended, _, _, rfl, ?_, ⟨_, rfl⟩, hW, hsame.mono (by decide) (by decide)⟩
  · exact X4.returnOut hx Bd.returns (hb hby d1_9) hr
  · show Q_rm1 Z o0 q1 h0 n0 _ T4.heap _
    rw [e4]
    exact ⟨rfl, N4, K4, f5, f6⟩
theorem d4_0 : decode prog_27_method_2_code 0 = .ok (.aload_n 0, 1) := by decide +kernel
theorem d4_1 : decode prog_27_method_2_code 1 = .ok (.dup, 1) := by decide +kernel
theorem d4_2 : decode prog_27_method_2_code 2 = .ok (.getfield 7, 3) := by decide +kernel
theorem d4_5 : decode prog_27_method_2_code 5 = .ok (.ldc2_w 13, 3) := by decide +kernel
theorem d4_8 : decode prog_27_method_2_code 8 = .ok (.ladd, 1) := by decide +kernel
theorem d4_9 : decode prog_27_method_2_code 9 = .ok (.putfield 7, 3) := by decide +kernel
theorem d4_12 : decode prog_27_method_2_code 12 = .ok (.aload_n 0, 1) := by decide +kernel
theorem d4_13 : decode prog_27_method_2_code 13 = .ok (.getfield 7, 3) := by decide +kernel
theorem d4_16 : decode prog_27_method_2_code 16 = .ok (.lstore_n 1, 1) := by decide +kernel
theorem d4_17 : decode prog_27_method_2_code 17 = .ok (.lload_n 1, 1) := by decide +kernel
theorem d4_18 : decode prog_27_method_2_code 18 = .ok (.lload_n 1, 1) := by decide +kernel
theorem d4_19 : decode prog_27_method_2_code 19 = .ok (.bipush 30, 2) := by decide +kernel
theorem d4_21 : decode prog_27_method_2_code 21 = .ok (.lushr, 1) := by decide +kernel
theorem d4_22 : decode prog_27_method_2_code 22 = .ok (.lxor, 1) := by decide +kernel
theorem d4_23 : decode prog_27_method_2_code 23 = .ok (.ldc2_w 15, 3) := by decide +kernel
theorem d4_26 : decode prog_27_method_2_code 26 = .ok (.lmul, 1) := by decide +kernel
theorem d4_27 : decode prog_27_method_2_code 27 = .ok (.lstore_n 1, 1) := by decide +kernel
theorem d4_28 : decode prog_27_method_2_code 28 = .ok (.lload_n 1, 1) := by decide +kernel
theorem d4_29 : decode prog_27_method_2_code 29 = .ok (.lload_n 1, 1) := by decide +kernel
theorem d4_30 : decode prog_27_method_2_code 30 = .ok (.bipush 27, 2) := by decide +kernel
theorem d4_32 : decode prog_27_method_2_code 32 = .ok (.lushr, 1) := by decide +kernel
theorem d4_33 : decode prog_27_method_2_code 33 = .ok (.lxor, 1) := by decide +kernel
theorem d4_34 : decode prog_27_method_2_code 34 = .ok (.ldc2_w 17, 3) := by decide +kernel
theorem d4_37 : decode prog_27_method_2_code 37 = .ok (.lmul, 1) := by decide +kernel
theorem d4_38 : decode prog_27_method_2_code 38 = .ok (.lstore_n 1, 1) := by decide +kernel
theorem d4_39 : decode prog_27_method_2_code 39 = .ok (.lload_n 1, 1) := by decide +kernel
theorem d4_40 : decode prog_27_method_2_code 40 = .ok (.lload_n 1, 1) := by decide +kernel
theorem d4_41 : decode prog_27_method_2_code 41 = .ok (.bipush 31, 2) := by decide +kernel
theorem d4_43 : decode prog_27_method_2_code 43 = .ok (.lushr, 1) := by decide +kernel
theorem d4_44 : decode prog_27_method_2_code 44 = .ok (.lxor, 1) := by decide +kernel
theorem d4_45 : decode prog_27_method_2_code 45 = .ok (.lreturn, 1) := by decide +kernel
theorem pn_rm4 : plainName "com/example/roundhaul/roundhaul/solver/SeededRandom" = true := by first | (simp [plainName, overriddenIn]; done) | decide +kernel
theorem ef_rm4 (m : MethodId) (o0 : Addr) : entryFrame m #[(.ref o0)] 3 = mkF m 0 #[.val (.ref o0), .unset, .unset] [] := by first | (simp [entryFrame, mkF, argsToLocals, Value.category]; done) | rfl
def Q_rm4 (Z : State) (o0 : Addr) (w : Int64) (h0 : Heap) (n0 : Nat) (v : Option Value) (h : Heap) (L : List Loc) : Prop := v = some (.long (own_mix (w + (-7046029254386353131 : Int64)))) ∧ Fr n0 L ∧ Keep h0 h [o0] ∧ Exa Z h o0 "com/example/roundhaul/roundhaul/solver/SeededRandom" ∧ Fld Z h o0 "com/example/roundhaul/roundhaul/solver/SeededRandom" "state" "J" (.long (w + (-7046029254386353131 : Int64)))
set_option maxRecDepth 65536 in
set_option maxHeartbeats 40000000 in
theorem rm4 (l : Launch) (Z : State) (a0 : Array Value) (hw : ∀ d ∈ tables_1, d.before a0 Z = true) (ws : List Jvm.Cond) (o0 : Addr) (w : Int64) (h0 : Heap) (n0 : Nat) (Z0 : n0 ≤ h0.size) (E_o0 : Exa Z h0 o0 "com/example/roundhaul/roundhaul/solver/SeededRandom") (F_state_o0 : Fld Z h0 o0 "com/example/roundhaul/roundhaul/solver/SeededRandom" "state" "J" (.long w)) (g_o0 : n0 ≤ o0) :
    MetFree l (⟨"com/example/roundhaul/roundhaul/solver/SeededRandom", "nextLong", "()J"⟩ : MethodName) (head1 (Jvm.Cond.code (⟨"com/example/roundhaul/roundhaul/solver/SeededRandom", "nextLong", "()J"⟩ : MethodName) prog_27_method_2_code 3 (some .long) :: ws) ({ frames := 0, cells := 0, slots := 0, locals := 0 } : Room)) (fun a U => a = #[(.ref o0)] ∧ Z.Warmed39 U.vm ∧ U.heap = h0) (fun _ _ _ _ _ => True) (fun _ U o U' => ∃ v L, o = .returned v ∧ Q_rm4 Z o0 w h0 n0 v U'.heap L ∧ FrameEnd U o U' L ({ frames := 0, cells := 0, slots := 0, locals := 0 } : Room).cells ({ frames := 0, cells := 0, slots := 0, locals := 0 } : Room).slots) := by
  refine MetFree.of_bodySF (plainFor_of_name pn_rm4) hisR ?_
  intro p e s m args below meth c s₁ Bd hml0 hP hK
  obtain ⟨rfl, hZ, hh⟩ := hP
  have hx := Bd.exec
  have hby := Bd.bytes
  have hml : c.maxLocals = 3 := hml0
  have hown : s.vm.findClass "com/example/roundhaul/roundhaul/solver/SeededRandom" = some m.cls := findClass_of_methodNamed Bd.named
  have hnm := (name_of_methodNamed Bd.named Bd.method).1
  have X0 : Stand p l e ({ frames := 0, cells := 0, slots := 0, locals := 0 } : Room) s m #[(.ref o0)] below meth c s₁ [] 0 0 := Stand.of_body Bd
  have e0 : s₁.heap = h0 := by rw [← hh, Bd.state]; rfl
  have N0 := Fr.nil n0
  have K0 := Keep.refl h0 [o0]
  have go0 : Go p e below (s₁.setTop (entryFrame m #[(.ref o0)] 3)) (s₁.setTop (mkF m 0 #[.val (.ref o0), .unset, .unset] [])) := fun t k => castTop (ef_rm4 m o0) k
  have go1 := go0.step (C := s₁.setTop (mkF m 2 #[.val (.ref o0), .unset, .unset] [(.ref o0), (.ref o0)])) (fun t k => by
    show Steps p.tables e below (s₁.setTop (mkF m 0 #[.val (.ref o0), .unset, .unset] [])) _
    refine XS.aloadN X0.here hx rfl (hb hby d4_0) rfl rfl ?_
    show Steps p.tables e below (s₁.setTop (mkF m 1 #[.val (.ref o0), .unset, .unset] [(.ref o0)])) _
    refine XS.dup X0.here hx rfl (hb hby d4_1) rfl rfl ?_
    exact k)
  obtain ⟨T2, X2, e2, st2⟩ := getF X0 hx hZ hown (host := "") (Or.inl (hw _ (List.mem_of_getElem? (i := 9) rfl))) Via.refl e0 F_state_o0 (g := (mkF m 2 #[.val (.ref o0), .unset, .unset] [(.ref o0), (.ref o0)])) rfl rfl (hb hby d4_2)
  have go2 := go1.step (C := T2.setTop (mkF m 5 #[.val (.ref o0), .unset, .unset] [(.long w), (.ref o0)])) (fun t k => st2 t k)
  have go3 := go2.step (C := T2.setTop (mkF m 9 #[.val (.ref o0), .unset, .unset] [(.long (w + (-7046029254386353131 : Int64))), (.ref o0)])) (fun t k => by
    show Steps p.tables e below (T2.setTop (mkF m 5 #[.val (.ref o0), .unset, .unset] [(.long w), (.ref o0)])) _
    refine X2.ldc2Long hx hown (mvT hZ (hw _ (List.mem_of_getElem? (i := 21) rfl))) (g := (mkF m 5 #[.val (.ref o0), .unset, .unset] [(.long w), (.ref o0)])) rfl (hb hby d4_5) _ ?_
    show Steps p.tables e below (T2.setTop (mkF m 8 #[.val (.ref o0), .unset, .unset] [(.long (-7046029254386353131 : Int64)), (.long w), (.ref o0)])) _
    refine XS.ladd X2.here hx rfl (hb hby d4_8) rfl ?_
    exact k)
  obtain ⟨T4, h4, X4, e4, W4, st4⟩ := putF X2 hx hZ hown (host := "") (Or.inl (hw _ (List.mem_of_getElem? (i := 9) rfl))) Via.refl e2 F_state_o0 E_o0 (Or.inl (hw _ (List.mem_of_getElem? (i := 10) rfl))) (hw _ (List.mem_of_getElem? (i := 1) rfl)) (ty := .long) (by decide) rfl rfl (g := (mkF m 9 #[.val (.ref o0), .unset, .unset] [(.long (w + (-7046029254386353131 : Int64))), (.ref o0)])) rfl rfl (hb hby d4_9)
  have f5 := E_o0.wr W4
  have f6 := Fld.same W4 F_state_o0
  have Z4 : n0 ≤ h4.size := Nat.le_trans Z0 (Nat.le_of_eq W4.size.symm)
  have K4 := K0.wr W4 (Or.inl (List.mem_of_getElem? (i := 0) rfl))
  have N4 := Fr.snoc X4 N0 g_o0
  have go4 := go3.step (C := T4.setTop (mkF m 12 #[.val (.ref o0), .unset, .unset] [])) (fun t k => st4 t k)
  have go7 := go4.step (C := T4.setTop (mkF m 13 #[.val (.ref o0), .unset, .unset] [(.ref o0)])) (fun t k => by
    show Steps p.tables e below (T4.setTop (mkF m 12 #[.val (.ref o0), .unset, .unset] [])) _
    refine XS.aloadN X4.here hx rfl (hb hby d4_12) rfl rfl ?_
    exact k)
  obtain ⟨T8, X8, e8, st8⟩ := getF X4 hx hZ hown (host := "") (Or.inl (hw _ (List.mem_of_getElem? (i := 9) rfl))) Via.refl e4 f6 (g := (mkF m 13 #[.val (.ref o0), .unset, .unset] [(.ref o0)])) rfl rfl (hb hby d4_13)
  have go8 := go7.step (C := T8.setTop (mkF m 16 #[.val (.ref o0), .unset, .unset] [(.long (w + (-7046029254386353131 : Int64)))])) (fun t k => st8 t k)
  have go9 := go8.step (C := T8.setTop (mkF m 27 #[.val (.ref o0), .val (.long (w + (-7046029254386353131 : Int64))), .second] [(.long (((w + (-7046029254386353131 : Int64)) ^^^ (own_usrL (w + (-7046029254386353131 : Int64)) (30 : Int32))) * (-4658895280553007687 : Int64)))])) (fun t k => by
    show Steps p.tables e below (T8.setTop (mkF m 16 #[.val (.ref o0), .unset, .unset] [(.long (w + (-7046029254386353131 : Int64)))])) _
    refine XS.lstoreN X8.here hx rfl (hb hby d4_16) rfl (l' := #[.val (.ref o0), .val (.long (w + (-7046029254386353131 : Int64))), .second]) rfl ?_
    show Steps p.tables e below (T8.setTop (mkF m 17 #[.val (.ref o0), .val (.long (w + (-7046029254386353131 : Int64))), .second] [])) _
    refine XS.lloadN X8.here hx rfl (hb hby d4_17) rfl ?_
    show Steps p.tables e below (T8.setTop (mkF m 18 #[.val (.ref o0), .val (.long (w + (-7046029254386353131 : Int64))), .second] [(.long (w + (-7046029254386353131 : Int64)))])) _
    refine XS.lloadN X8.here hx rfl (hb hby d4_18) rfl ?_
    show Steps p.tables e below (T8.setTop (mkF m 19 #[.val (.ref o0), .val (.long (w + (-7046029254386353131 : Int64))), .second] [(.long (w + (-7046029254386353131 : Int64))), (.long (w + (-7046029254386353131 : Int64)))])) _
    refine XS.bipush X8.here hx rfl (hb hby d4_19) ?_
    show Steps p.tables e below (T8.setTop (mkF m 21 #[.val (.ref o0), .val (.long (w + (-7046029254386353131 : Int64))), .second] [(.int (30 : Int32)), (.long (w + (-7046029254386353131 : Int64))), (.long (w + (-7046029254386353131 : Int64)))])) _
    refine XS.lushr X8.here hx rfl (hb hby d4_21) rfl ?_
    show Steps p.tables e below (T8.setTop (mkF m 22 #[.val (.ref o0), .val (.long (w + (-7046029254386353131 : Int64))), .second] [(.long (own_usrL (w + (-7046029254386353131 : Int64)) (30 : Int32))), (.long (w + (-7046029254386353131 : Int64)))])) _
    refine XS.lxor X8.here hx rfl (hb hby d4_22) rfl ?_
    show Steps p.tables e below (T8.setTop (mkF m 23 #[.val (.ref o0), .val (.long (w + (-7046029254386353131 : Int64))), .second] [(.long ((w + (-7046029254386353131 : Int64)) ^^^ (own_usrL (w + (-7046029254386353131 : Int64)) (30 : Int32))))])) _
    refine X8.ldc2Long hx hown (mvT hZ (hw _ (List.mem_of_getElem? (i := 22) rfl))) (g := (mkF m 23 #[.val (.ref o0), .val (.long (w + (-7046029254386353131 : Int64))), .second] [(.long ((w + (-7046029254386353131 : Int64)) ^^^ (own_usrL (w + (-7046029254386353131 : Int64)) (30 : Int32))))])) rfl (hb hby d4_23) _ ?_
    show Steps p.tables e below (T8.setTop (mkF m 26 #[.val (.ref o0), .val (.long (w + (-7046029254386353131 : Int64))), .second] [(.long (-4658895280553007687 : Int64)), (.long ((w + (-7046029254386353131 : Int64)) ^^^ (own_usrL (w + (-7046029254386353131 : Int64)) (30 : Int32))))])) _
    refine XS.lmul X8.here hx rfl (hb hby d4_26) rfl ?_
    exact k)
  obtain ⟨z1, hz1⟩ : ∃ z : Int64, z = (((w + (-7046029254386353131 : Int64)) ^^^ (own_usrL (w + (-7046029254386353131 : Int64)) (30 : Int32))) * (-4658895280553007687 : Int64)) := ⟨_, rfl⟩
  rw [← hz1] at go9
  have go10 := go9.step (C := T8.setTop (mkF m 38 #[.val (.ref o0), .val (.long z1), .second] [(.long ((z1 ^^^ (own_usrL z1 (27 : Int32))) * (-7723592293110705685 : Int64)))])) (fun t k => by
    show Steps p.tables e below (T8.setTop (mkF m 27 #[.val (.ref o0), .val (.long (w + (-7046029254386353131 : Int64))), .second] [(.long z1)])) _
    refine XS.lstoreN X8.here hx rfl (hb hby d4_27) rfl (l' := #[.val (.ref o0), .val (.long z1), .second]) rfl ?_
    show Steps p.tables e below (T8.setTop (mkF m 28 #[.val (.ref o0), .val (.long z1), .second] [])) _
    refine XS.lloadN X8.here hx rfl (hb hby d4_28) rfl ?_
    show Steps p.tables e below (T8.setTop (mkF m 29 #[.val (.ref o0), .val (.long z1), .second] [(.long z1)])) _
    refine XS.lloadN X8.here hx rfl (hb hby d4_29) rfl ?_
    show Steps p.tables e below (T8.setTop (mkF m 30 #[.val (.ref o0), .val (.long z1), .second] [(.long z1), (.long z1)])) _
    refine XS.bipush X8.here hx rfl (hb hby d4_30) ?_
    show Steps p.tables e below (T8.setTop (mkF m 32 #[.val (.ref o0), .val (.long z1), .second] [(.int (27 : Int32)), (.long z1), (.long z1)])) _
    refine XS.lushr X8.here hx rfl (hb hby d4_32) rfl ?_
    show Steps p.tables e below (T8.setTop (mkF m 33 #[.val (.ref o0), .val (.long z1), .second] [(.long (own_usrL z1 (27 : Int32))), (.long z1)])) _
    refine XS.lxor X8.here hx rfl (hb hby d4_33) rfl ?_
    show Steps p.tables e below (T8.setTop (mkF m 34 #[.val (.ref o0), .val (.long z1), .second] [(.long (z1 ^^^ (own_usrL z1 (27 : Int32))))])) _
    refine X8.ldc2Long hx hown (mvT hZ (hw _ (List.mem_of_getElem? (i := 23) rfl))) (g := (mkF m 34 #[.val (.ref o0), .val (.long z1), .second] [(.long (z1 ^^^ (own_usrL z1 (27 : Int32))))])) rfl (hb hby d4_34) _ ?_
    show Steps p.tables e below (T8.setTop (mkF m 37 #[.val (.ref o0), .val (.long z1), .second] [(.long (-7723592293110705685 : Int64)), (.long (z1 ^^^ (own_usrL z1 (27 : Int32))))])) _
    refine XS.lmul X8.here hx rfl (hb hby d4_37) rfl ?_
    exact k)
  obtain ⟨z2, hz2⟩ : ∃ z : Int64, z = ((z1 ^^^ (own_usrL z1 (27 : Int32))) * (-7723592293110705685 : Int64)) := ⟨_, rfl⟩
  rw [← hz2] at go10
  have go11 := go10.step (C := T8.setTop (mkF m 45 #[.val (.ref o0), .val (.long z2), .second] [(.long (z2 ^^^ (own_usrL z2 (31 : Int32))))])) (fun t k => by
    show Steps p.tables e below (T8.setTop (mkF m 38 #[.val (.ref o0), .val (.long z1), .second] [(.long z2)])) _
    refine XS.lstoreN X8.here hx rfl (hb hby d4_38) rfl (l' := #[.val (.ref o0), .val (.long z2), .second]) rfl ?_
    show Steps p.tables e below (T8.setTop (mkF m 39 #[.val (.ref o0), .val (.long z2), .second] [])) _
    refine XS.lloadN X8.here hx rfl (hb hby d4_39) rfl ?_
    show Steps p.tables e below (T8.setTop (mkF m 40 #[.val (.ref o0), .val (.long z2), .second] [(.long z2)])) _
    refine XS.lloadN X8.here hx rfl (hb hby d4_40) rfl ?_
    show Steps p.tables e below (T8.setTop (mkF m 41 #[.val (.ref o0), .val (.long z2), .second] [(.long z2), (.long z2)])) _
    refine XS.bipush X8.here hx rfl (hb hby d4_41) ?_
    show Steps p.tables e below (T8.setTop (mkF m 43 #[.val (.ref o0), .val (.long z2), .second] [(.int (31 : Int32)), (.long z2), (.long z2)])) _
    refine XS.lushr X8.here hx rfl (hb hby d4_43) rfl ?_
    show Steps p.tables e below (T8.setTop (mkF m 44 #[.val (.ref o0), .val (.long z2), .second] [(.long (own_usrL z2 (31 : Int32))), (.long z2)])) _
    refine XS.lxor X8.here hx rfl (hb hby d4_44) rfl ?_
    exact k)
  obtain ⟨fs, hr, hrun, hended, hW, hsame⟩ := X8.leave (v := some (.long (z2 ^^^ (own_usrL z2 (31 : Int32))))) (fun h => by rw [Bd.returns] at h; cases h)
  refine ⟨_, _, go11 _ ?_, hrun, hended, _, _, rfl, ?_, ⟨_, rfl⟩, hW, hsame.mono (by decide) (by decide)⟩
  · exact own_retL X8 hx Bd.returns (hb hby d4_45) hr
  · show Q_rm4 Z o0 w h0 n0 _ T8.heap _
    rw [e8]
    exact ⟨by subst hz2 hz1; rfl, N4, K4, f5, f6⟩
theorem d3_40 : decode prog_27_method_3_code 40 = .ok (.lload_n 2, 1) := by decide +kernel
theorem d3_41 : decode prog_27_method_3_code 41 = .ok (.ldc2_w 34, 3) := by decide +kernel
theorem d3_44 : decode prog_27_method_3_code 44 = .ok (.land, 1) := by decide +kernel
theorem d3_45 : decode prog_27_method_3_code 45 = .ok (.lload 4, 2) := by decide +kernel
theorem d3_47 : decode prog_27_method_3_code 47 = .ok (.lcmp, 1) := by decide +kernel
theorem d3_48 : decode prog_27_method_3_code 48 = .ok (.ifCond .ge 17, 3) := by decide +kernel
theorem d3_51 : decode prog_27_method_3_code 51 = .ok (.aload_n 0, 1) := by decide +kernel
theorem d3_52 : decode prog_27_method_3_code 52 = .ok (.invokevirtual 28, 3) := by decide +kernel
theorem d3_55 : decode prog_27_method_3_code 55 = .ok (.bipush 32, 2) := by decide +kernel
theorem d3_57 : decode prog_27_method_3_code 57 = .ok (.lushr, 1) := by decide +kernel
theorem d3_58 : decode prog_27_method_3_code 58 = .ok (.iload_n 1, 1) := by decide +kernel
theorem d3_59 : decode prog_27_method_3_code 59 = .ok (.i2l, 1) := by decide +kernel
theorem d3_60 : decode prog_27_method_3_code 60 = .ok (.lmul, 1) := by decide +kernel
theorem d3_61 : decode prog_27_method_3_code 61 = .ok (.lstore_n 2, 1) := by decide +kernel
theorem d3_62 : decode prog_27_method_3_code 62 = .ok (.goto (-22), 3) := by decide +kernel
theorem pd_lp_ni_0 : parseMethodDescriptor "()J" = some ⟨[], some .long⟩ := by decide +kernel
set_option maxRecDepth 65536 in
set_option maxHeartbeats 40000000 in
theorem lp_ni {p : Program} {l : Launch} {e : Env} {s : State} {m : MethodId} {args : Array Value} {below : List Frame} {meth : Method} {c : Code} {Z : State} {a0 : Array Value} {A : State} {G : Prop} (o0 : Addr) (p1 : Int32) (zt : Int64) (w1 : Int64) (h0 : Heap) (n0 : Nat)
    (hx : p.tables.exec = Jvm.exec) (hZ : Z.Warmed39 s.vm) (hw : ∀ d ∈ tables_1, d.before a0 Z = true) (hby : c.code = prog_27_method_3_code) (hml : c.maxLocals = 6) (hown : s.vm.findClass "com/example/roundhaul/roundhaul/solver/SeededRandom" = some m.cls) (g_o0 : n0 ≤ o0) (hbd : (0 : Int32) < p1) (hzt : zt = own_thr p1)
    (kx0 : ∀ (T : State) (locs : List Loc) (h : Heap) (w : Int64), Stand p l e ({ frames := 1, cells := 0, slots := 0, locals := 14 } : Room) s m args below meth c T locs 0 0 → T.heap = h → Fr n0 locs → n0 ≤ h.size → Keep h0 h [o0] → own_acc p1 (own_thr p1) w → own_J p1 (own_thr p1) w1 w → Exa Z h o0 "com/example/roundhaul/roundhaul/solver/SeededRandom" → Fld Z h o0 "com/example/roundhaul/roundhaul/solver/SeededRandom" "state" "J" (.long w) → Go p e below A (T.setTop (mkF m 65 #[.val (.ref o0), .val (.int p1), .val (.long ((own_usrL (own_mix w) (32 : Int32)) * (p1.toInt64))), .second, .val (.long zt), .second] [])) → G)
    : ∀ (k : Nat) (T : State) (locs : List Loc) (h : Heap) (w : Int64), Stand p l e ({ frames := 1, cells := 0, slots := 0, locals := 14 } : Room) s m args below meth c T locs 0 0 → T.heap = h → Fr n0 locs → n0 ≤ h.size → Keep h0 h [o0] → own_R k w → own_J p1 (own_thr p1) w1 w → Exa Z h o0 "com/example/roundhaul/roundhaul/solver/SeededRandom" → Fld Z h o0 "com/example/roundhaul/roundhaul/solver/SeededRandom" "state" "J" (.long w) → Go p e below A (T.setTop (mkF m 40 #[.val (.ref o0), .val (.int p1), .val (.long ((own_usrL (own_mix w) (32 : Int32)) * (p1.toInt64))), .second, .val (.long zt), .second] [])) → G := by
  intro k
  induction k with
  | zero =>
    intro T locs h w X0 e0 N0 Z0 K0 hk hJ E_o0 F_st go0
    have go2 := go0.step (C := T.setTop (mkF m 65 #[.val (.ref o0), .val (.int p1), .val (.long ((own_usrL (own_mix w) (32 : Int32)) * (p1.toInt64))), .second, .val (.long zt), .second] [])) (fun t k => by
      show Steps p.tables e below (T.setTop (mkF m 40 #[.val (.ref o0), .val (.int p1), .val (.long ((own_usrL (own_mix w) (32 : Int32)) * (p1.toInt64))), .second, .val (.long zt), .second] [])) _
      refine XS.lloadN X0.here hx rfl (hb hby d3_40) rfl ?_
      show Steps p.tables e below (T.setTop (mkF m 41 #[.val (.ref o0), .val (.int p1), .val (.long ((own_usrL (own_mix w) (32 : Int32)) * (p1.toInt64))), .second, .val (.long zt), .second] [(.long ((own_usrL (own_mix w) (32 : Int32)) * (p1.toInt64)))])) _
      refine X0.ldc2Long hx hown (mvT hZ (hw _ (List.mem_of_getElem? (i := 25) rfl))) (g := (mkF m 41 #[.val (.ref o0), .val (.int p1), .val (.long ((own_usrL (own_mix w) (32 : Int32)) * (p1.toInt64))), .second, .val (.long zt), .second] [(.long ((own_usrL (own_mix w) (32 : Int32)) * (p1.toInt64)))])) rfl (hb hby d3_41) _ ?_
      show Steps p.tables e below (T.setTop (mkF m 44 #[.val (.ref o0), .val (.int p1), .val (.long ((own_usrL (own_mix w) (32 : Int32)) * (p1.toInt64))), .second, .val (.long zt), .second] [(.long (4294967295 : Int64)), (.long ((own_usrL (own_mix w) (32 : Int32)) * (p1.toInt64)))])) _
      refine XS.land X0.here hx rfl (hb hby d3_44) rfl ?_
      show Steps p.tables e below (T.setTop (mkF m 45 #[.val (.ref o0), .val (.int p1), .val (.long ((own_usrL (own_mix w) (32 : Int32)) * (p1.toInt64))), .second, .val (.long zt), .second] [(.long (((own_usrL (own_mix w) (32 : Int32)) * (p1.toInt64)) &&& (4294967295 : Int64)))])) _
      refine XS.lload X0.here hx rfl (hb hby d3_45) rfl ?_
      show Steps p.tables e below (T.setTop (mkF m 47 #[.val (.ref o0), .val (.int p1), .val (.long ((own_usrL (own_mix w) (32 : Int32)) * (p1.toInt64))), .second, .val (.long zt), .second] [(.long zt), (.long (((own_usrL (own_mix w) (32 : Int32)) * (p1.toInt64)) &&& (4294967295 : Int64)))])) _
      refine XS.lcmp X0.here hx rfl (hb hby d3_47) rfl ?_
      show Steps p.tables e below (T.setTop (mkF m 48 #[.val (.ref o0), .val (.int p1), .val (.long ((own_usrL (own_mix w) (32 : Int32)) * (p1.toInt64))), .second, .val (.long zt), .second] [(.int (lcmpW (((own_usrL (own_mix w) (32 : Int32)) * (p1.toInt64)) &&& (4294967295 : Int64)) zt))])) _
      refine XS.ifYes X0.here hx rfl (pc0 := 48) (pc' := 65) rfl (hb hby d3_48) rfl ((if0 _ _).trans (flt (fun q => (fun q => own_stop hbd hk (hzt ▸ q) : ¬ ((((own_usrL (own_mix w) (32 : Int32)) * (p1.toInt64)) &&& (4294967295 : Int64)) < zt)) ((lw_lt _ _).mp q))).2.1) (by decide) (by decide) ?_
      exact k)
    exact kx0 T _ h w X0 e0 N0 Z0 K0 (own_stop hbd hk) hJ E_o0 F_st go2
  | succ k ih =>
    intro T locs h w X0 e0 N0 Z0 K0 hk hJ E_o0 F_st go0
    have go4 := go0.step (C := T.setTop (mkF m 48 #[.val (.ref o0), .val (.int p1), .val (.long ((own_usrL (own_mix w) (32 : Int32)) * (p1.toInt64))), .second, .val (.long zt), .second] [(.int (lcmpW (((own_usrL (own_mix w) (32 : Int32)) * (p1.toInt64)) &&& (4294967295 : Int64)) zt))])) (fun t k => by
      show Steps p.tables e below (T.setTop (mkF m 40 #[.val (.ref o0), .val (.int p1), .val (.long ((own_usrL (own_mix w) (32 : Int32)) * (p1.toInt64))), .second, .val (.long zt), .second] [])) _
      refine XS.lloadN X0.here hx rfl (hb hby d3_40) rfl ?_
      show Steps p.tables e below (T.setTop (mkF m 41 #[.val (.ref o0), .val (.int p1), .val (.long ((own_usrL (own_mix w) (32 : Int32)) * (p1.toInt64))), .second, .val (.long zt), .second] [(.long ((own_usrL (own_mix w) (32 : Int32)) * (p1.toInt64)))])) _
      refine X0.ldc2Long hx hown (mvT hZ (hw _ (List.mem_of_getElem? (i := 25) rfl))) (g := (mkF m 41 #[.val (.ref o0), .val (.int p1), .val (.long ((own_usrL (own_mix w) (32 : Int32)) * (p1.toInt64))), .second, .val (.long zt), .second] [(.long ((own_usrL (own_mix w) (32 : Int32)) * (p1.toInt64)))])) rfl (hb hby d3_41) _ ?_
      show Steps p.tables e below (T.setTop (mkF m 44 #[.val (.ref o0), .val (.int p1), .val (.long ((own_usrL (own_mix w) (32 : Int32)) * (p1.toInt64))), .second, .val (.long zt), .second] [(.long (4294967295 : Int64)), (.long ((own_usrL (own_mix w) (32 : Int32)) * (p1.toInt64)))])) _
      refine XS.land X0.here hx rfl (hb hby d3_44) rfl ?_
      show Steps p.tables e below (T.setTop (mkF m 45 #[.val (.ref o0), .val (.int p1), .val (.long ((own_usrL (own_mix w) (32 : Int32)) * (p1.toInt64))), .second, .val (.long zt), .second] [(.long (((own_usrL (own_mix w) (32 : Int32)) * (p1.toInt64)) &&& (4294967295 : Int64)))])) _
      refine XS.lload X0.here hx rfl (hb hby d3_45) rfl ?_
      show Steps p.tables e below (T.setTop (mkF m 47 #[.val (.ref o0), .val (.int p1), .val (.long ((own_usrL (own_mix w) (32 : Int32)) * (p1.toInt64))), .second, .val (.long zt), .second] [(.long zt), (.long (((own_usrL (own_mix w) (32 : Int32)) * (p1.toInt64)) &&& (4294967295 : Int64)))])) _
      refine XS.lcmp X0.here hx rfl (hb hby d3_47) rfl ?_
      exact k)
    by_cases hc3 : (((own_usrL (own_mix w) (32 : Int32)) * (p1.toInt64)) &&& (4294967295 : Int64)) < zt
    · skip
      have go5 := go4.step (C := T.setTop (mkF m 52 #[.val (.ref o0), .val (.int p1), .val (.long ((own_usrL (own_mix w) (32 : Int32)) * (p1.toInt64))), .second, .val (.long zt), .second] [(.ref o0)])) (fun t k => by
        show Steps p.tables e below (T.setTop (mkF m 48 #[.val (.ref o0), .val (.int p1), .val (.long ((own_usrL (own_mix w) (32 : Int32)) * (p1.toInt64))), .second, .val (.long zt), .second] [(.int (lcmpW (((own_usrL (own_mix w) (32 : Int32)) * (p1.toInt64)) &&& (4294967295 : Int64)) zt))])) _
        refine XS.ifNo X0.here hx rfl (hb hby d3_48) rfl ((if0 _ _).trans (tlt ((lw_lt _ _).mpr hc3)).2.1) ?_
        show Steps p.tables e below (T.setTop (mkF m 51 #[.val (.ref o0), .val (.int p1), .val (.long ((own_usrL (own_mix w) (32 : Int32)) * (p1.toInt64))), .second, .val (.long zt), .second] [])) _
        refine XS.aloadN X0.here hx rfl (hb hby d3_51) rfl rfl ?_
        exact k)
      obtain ⟨cq6, kq6, q6a, q6b, q6c⟩ := isOf hZ e0 E_o0
      obtain ⟨_, _, ⟨T6, L6, k6, n6⟩, -, X6, ⟨Lc6, hQ6, l6, y6, z6⟩, st6⟩ := X0.virtualBack hx (y := (⟨"com/example/roundhaul/roundhaul/solver/SeededRandom", "nextLong", "()J"⟩ : MethodName)) (z := (⟨"com/example/roundhaul/roundhaul/solver/SeededRandom", "nextLong", "()J"⟩ : MethodName)) hown (mvT hZ (hw _ (List.mem_of_getElem? (i := 16) rfl))) (mvT hZ (hw _ (List.mem_of_getElem? (i := 17) rfl))) (notFace_of_selects (args := #[]) (mvT hZ (hw _ (List.mem_of_getElem? (i := 19) rfl)))) (mvT hZ (hw _ (List.mem_of_getElem? (i := 19) rfl))) (mvT hZ (hw _ (List.mem_of_getElem? (i := 18) rfl))) (by decide) (backOf (W := 0) (rm4 l Z a0 hw [] o0 w h n0 Z0 E_o0 F_st g_o0) hZ (hw _ (List.mem_of_getElem? (i := 20) rfl)) (hw _ (List.mem_of_getElem? (i := 2) rfl)) (by decide) (by decide)) q6a q6c (g := (mkF m 52 #[.val (.ref o0), .val (.int p1), .val (.long ((own_usrL (own_mix w) (32 : Int32)) * (p1.toInt64))), .second, .val (.long zt), .second] [(.ref o0)])) rfl (by rw [hml]; rfl) (Steps.refl _) (argsL := []) (rest := []) (lenOf pd_lp_ni_0 rfl) rfl (by show 2 * 0 + _ ≤ _; exact Nat.le_of_eq rfl) (hb hby d3_52) (fun _ _ => ⟨rfl, e0, (by decide : 0 + 0 ≤ _), (by decide : 0 + 0 ≤ _)⟩)
      dsimp only [Pt.U, Pt.locs, Pt.cells, Pt.slots] at X6 l6 y6 z6 st6 hQ6
      rw [l6, y6, z6] at X6
      obtain ⟨rfl, N6q, K6, qp6_0, qp6_1⟩ := hQ6
      have N6 := Fr.app N0 N6q
      have f7 := E_o0.keep K6
      have Z6 : n0 ≤ T6.heap.size := Nat.le_trans Z0 K6.1
      have KK6 := K0.trans K6 (allS (Or.inl (List.mem_of_getElem? (i := 0) rfl)) all0)
      have go6 := go5.tr (C := T6.setTop (mkF m 55 #[.val (.ref o0), .val (.int p1), .val (.long ((own_usrL (own_mix w) (32 : Int32)) * (p1.toInt64))), .second, .val (.long zt), .second] [(.long (own_mix (w + (-7046029254386353131 : Int64))))])) st6
      have go9 := go6.step (C := T6.setTop (mkF m 40 #[.val (.ref o0), .val (.int p1), .val (.long ((own_usrL (own_mix (w + (-7046029254386353131 : Int64))) (32 : Int32)) * (p1.toInt64))), .second, .val (.long zt), .second] [])) (fun t k => by
        show Steps p.tables e below (T6.setTop (mkF m 55 #[.val (.ref o0), .val (.int p1), .val (.long ((own_usrL (own_mix w) (32 : Int32)) * (p1.toInt64))), .second, .val (.long zt), .second] [(.long (own_mix (w + (-7046029254386353131 : Int64))))])) _
        refine XS.bipush X6.here hx rfl (hb hby d3_55) ?_
        show Steps p.tables e below (T6.setTop (mkF m 57 #[.val (.ref o0), .val (.int p1), .val (.long ((own_usrL (own_mix w) (32 : Int32)) * (p1.toInt64))), .second, .val (.long zt), .second] [(.int (32 : Int32)), (.long (own_mix (w + (-7046029254386353131 : Int64))))])) _
        refine XS.lushr X6.here hx rfl (hb hby d3_57) rfl ?_
        show Steps p.tables e below (T6.setTop (mkF m 58 #[.val (.ref o0), .val (.int p1), .val (.long ((own_usrL (own_mix w) (32 : Int32)) * (p1.toInt64))), .second, .val (.long zt), .second] [(.long (own_usrL (own_mix (w + (-7046029254386353131 : Int64))) (32 : Int32)))])) _
        refine XS.iloadN X6.here hx rfl (hb hby d3_58) rfl ?_
        show Steps p.tables e below (T6.setTop (mkF m 59 #[.val (.ref o0), .val (.int p1), .val (.long ((own_usrL (own_mix w) (32 : Int32)) * (p1.toInt64))), .second, .val (.long zt), .second] [(.int p1), (.long (own_usrL (own_mix (w + (-7046029254386353131 : Int64))) (32 : Int32)))])) _
        refine XS.i2l X6.here hx rfl (hb hby d3_59) rfl ?_
        show Steps p.tables e below (T6.setTop (mkF m 60 #[.val (.ref o0), .val (.int p1), .val (.long ((own_usrL (own_mix w) (32 : Int32)) * (p1.toInt64))), .second, .val (.long zt), .second] [(.long (p1.toInt64)), (.long (own_usrL (own_mix (w + (-7046029254386353131 : Int64))) (32 : Int32)))])) _
        refine XS.lmul X6.here hx rfl (hb hby d3_60) rfl ?_
        show Steps p.tables e below (T6.setTop (mkF m 61 #[.val (.ref o0), .val (.int p1), .val (.long ((own_usrL (own_mix w) (32 : Int32)) * (p1.toInt64))), .second, .val (.long zt), .second] [(.long ((own_usrL (own_mix (w + (-7046029254386353131 : Int64))) (32 : Int32)) * (p1.toInt64)))])) _
        refine XS.lstoreN X6.here hx rfl (hb hby d3_61) rfl (l' := #[.val (.ref o0), .val (.int p1), .val (.long ((own_usrL (own_mix (w + (-7046029254386353131 : Int64))) (32 : Int32)) * (p1.toInt64))), .second, .val (.long zt), .second]) rfl ?_
        show Steps p.tables e below (T6.setTop (mkF m 62 #[.val (.ref o0), .val (.int p1), .val (.long ((own_usrL (own_mix (w + (-7046029254386353131 : Int64))) (32 : Int32)) * (p1.toInt64))), .second, .val (.long zt), .second] [])) _
        refine XS.goto X6.here hx rfl (pc0 := 62) (pc' := 40) rfl (hb hby d3_62) (by decide) (by decide) ?_
        exact k)
      exact ih T6 _ T6.heap (w + (-7046029254386353131 : Int64)) X6 rfl N6 Z6 KK6 (own_RS hk) (own_Jn hJ (fun q => q (hzt ▸ hc3))) qp6_0 qp6_1 go9
    · skip
      have go10 := go4.step (C := T.setTop (mkF m 65 #[.val (.ref o0), .val (.int p1), .val (.long ((own_usrL (own_mix w) (32 : Int32)) * (p1.toInt64))), .second, .val (.long zt), .second] [])) (fun t k => by
        show Steps p.tables e below (T.setTop (mkF m 48 #[.val (.ref o0), .val (.int p1), .val (.long ((own_usrL (own_mix w) (32 : Int32)) * (p1.toInt64))), .second, .val (.long zt), .second] [(.int (lcmpW (((own_usrL (own_mix w) (32 : Int32)) * (p1.toInt64)) &&& (4294967295 : Int64)) zt))])) _
        refine XS.ifYes X0.here hx rfl (pc0 := 48) (pc' := 65) rfl (hb hby d3_48) rfl ((if0 _ _).trans (flt (fun q => hc3 ((lw_lt _ _).mp q))).2.1) (by decide) (by decide) ?_
        exact k)
      exact kx0 T _ h w X0 e0 N0 Z0 K0 (hzt ▸ hc3 : own_acc p1 (own_thr p1) w) hJ E_o0 F_st go10
theorem d3_0 : decode prog_27_method_3_code 0 = .ok (.iload_n 1, 1) := by decide +kernel
theorem d3_1 : decode prog_27_method_3_code 1 = .ok (.ifCond .gt 17, 3) := by decide +kernel
theorem d3_18 : decode prog_27_method_3_code 18 = .ok (.aload_n 0, 1) := by decide +kernel
theorem d3_19 : decode prog_27_method_3_code 19 = .ok (.invokevirtual 28, 3) := by decide +kernel
theorem d3_22 : decode prog_27_method_3_code 22 = .ok (.bipush 32, 2) := by decide +kernel
theorem d3_24 : decode prog_27_method_3_code 24 = .ok (.lushr, 1) := by decide +kernel
theorem d3_25 : decode prog_27_method_3_code 25 = .ok (.iload_n 1, 1) := by decide +kernel
theorem d3_26 : decode prog_27_method_3_code 26 = .ok (.i2l, 1) := by decide +kernel
theorem d3_27 : decode prog_27_method_3_code 27 = .ok (.lmul, 1) := by decide +kernel
theorem d3_28 : decode prog_27_method_3_code 28 = .ok (.lstore_n 2, 1) := by decide +kernel
theorem d3_29 : decode prog_27_method_3_code 29 = .ok (.ldc2_w 32, 3) := by decide +kernel
theorem d3_32 : decode prog_27_method_3_code 32 = .ok (.iload_n 1, 1) := by decide +kernel
theorem d3_33 : decode prog_27_method_3_code 33 = .ok (.i2l, 1) := by decide +kernel
theorem d3_34 : decode prog_27_method_3_code 34 = .ok (.lsub, 1) := by decide +kernel
theorem d3_35 : decode prog_27_method_3_code 35 = .ok (.iload_n 1, 1) := by decide +kernel
theorem d3_36 : decode prog_27_method_3_code 36 = .ok (.i2l, 1) := by decide +kernel
theorem d3_37 : decode prog_27_method_3_code 37 = .ok (.lrem, 1) := by decide +kernel
theorem d3_38 : decode prog_27_method_3_code 38 = .ok (.lstore 4, 2) := by decide +kernel
theorem d3_65 : decode prog_27_method_3_code 65 = .ok (.lload_n 2, 1) := by decide +kernel
theorem d3_66 : decode prog_27_method_3_code 66 = .ok (.bipush 32, 2) := by decide +kernel
theorem d3_68 : decode prog_27_method_3_code 68 = .ok (.lushr, 1) := by decide +kernel
theorem d3_69 : decode prog_27_method_3_code 69 = .ok (.l2i, 1) := by decide +kernel
theorem d3_70 : decode prog_27_method_3_code 70 = .ok (.ireturn, 1) := by decide +kernel
theorem pn_rm3 : plainName "com/example/roundhaul/roundhaul/solver/SeededRandom" = true := by first | (simp [plainName, overriddenIn]; done) | decide +kernel
theorem pd_rm3_0 : parseMethodDescriptor "()J" = some ⟨[], some .long⟩ := by decide +kernel
theorem ef_rm3 (m : MethodId) (o0 : Addr) (p1 : Int32) : entryFrame m #[(.ref o0), (.int p1)] 6 = mkF m 0 #[.val (.ref o0), .val (.int p1), .unset, .unset, .unset, .unset] [] := by first | (simp [entryFrame, mkF, argsToLocals, Value.category]; done) | rfl
def Q_rm3 (Z : State) (o0 : Addr) (p1 : Int32) (w : Int64) (h0 : Heap) (n0 : Nat) (v : Option Value) (h : Heap) (L : List Loc) : Prop := ∃ wf : Int64, v = some (.int ((own_usrL ((own_usrL (own_mix wf) (32 : Int32)) * (p1.toInt64)) (32 : Int32)).toInt32)) ∧ Fr n0 L ∧ Keep h0 h [o0] ∧ Exa Z h o0 "com/example/roundhaul/roundhaul/solver/SeededRandom" ∧ Fld Z h o0 "com/example/roundhaul/roundhaul/solver/SeededRandom" "state" "J" (.long wf) ∧ own_acc p1 (own_thr p1) wf ∧ own_J p1 (own_thr p1) (w + (-7046029254386353131 : Int64)) wf
set_option maxRecDepth 65536 in
set_option maxHeartbeats 40000000 in
theorem rm3 (l : Launch) (Z : State) (a0 : Array Value) (hw : ∀ d ∈ tables_1, d.before a0 Z = true) (ws : List Jvm.Cond) (o0 : Addr) (p1 : Int32) (w : Int64) (h0 : Heap) (n0 : Nat) (Z0 : n0 ≤ h0.size) (E_o0 : Exa Z h0 o0 "com/example/roundhaul/roundhaul/solver/SeededRandom") (F_state_o0 : Fld Z h0 o0 "com/example/roundhaul/roundhaul/solver/SeededRandom" "state" "J" (.long w)) (g_o0 : n0 ≤ o0) (hbd : (0 : Int32) < p1) :
    MetFree l (⟨"com/example/roundhaul/roundhaul/solver/SeededRandom", "nextInt", "(I)I"⟩ : MethodName) (head1 (Jvm.Cond.code (⟨"com/example/roundhaul/roundhaul/solver/SeededRandom", "nextInt", "(I)I"⟩ : MethodName) prog_27_method_3_code 6 (some .int) :: ws) ({ frames := 1, cells := 0, slots := 0, locals := 14 } : Room)) (fun a U => a = #[(.ref o0), (.int p1)] ∧ Z.Warmed39 U.vm ∧ U.heap = h0) (fun _ _ _ _ _ => True) (fun _ U o U' => ∃ v L, o = .returned v ∧ Q_rm3 Z o0 p1 w h0 n0 v U'.heap L ∧ FrameEnd U o U' L ({ frames := 1, cells := 0, slots := 0, locals := 14 } : Room).cells ({ frames := 1, cells := 0, slots := 0, locals := 14 } : Room).slots) := by
  refine MetFree.of_bodySF (plainFor_of_name pn_rm3) hisR ?_
  intro p e s m args below meth c s₁ Bd hml0 hP hK
  obtain ⟨rfl, hZ, hh⟩ := hP
  have hx := Bd.exec
  have hby := Bd.bytes
  have hml : c.maxLocals = 6 := hml0
  have hown : s.vm.findClass "com/example/roundhaul/roundhaul/solver/SeededRandom" = some m.cls := findClass_of_methodNamed Bd.named
  have hnm := (name_of_methodNamed Bd.named Bd.method).1
  have X0 : Stand p l e ({ frames := 1, cells := 0, slots := 0, locals := 14 } : Room) s m #[(.ref o0), (.int p1)] below meth c s₁ [] 0 0 := Stand.of_body Bd
  have e0 : s₁.heap = h0 := by rw [← hh, Bd.state]; rfl
  have N0 := Fr.nil n0
  have K0 := Keep.refl h0 [o0]
  have go0 : Go p e below (s₁.setTop (entryFrame m #[(.ref o0), (.int p1)] 6)) (s₁.setTop (mkF m 0 #[.val (.ref o0), .val (.int p1), .unset, .unset, .unset, .unset] [])) := fun t k => castTop (ef_rm3 m o0 p1) k
  have go2 := go0.step (C := s₁.setTop (mkF m 19 #[.val (.ref o0), .val (.int p1), .unset, .unset, .unset, .unset] [(.ref o0)])) (fun t k => by
    show Steps p.tables e below (s₁.setTop (mkF m 0 #[.val (.ref o0), .val (.int p1), .unset, .unset, .unset, .unset] [])) _
    refine XS.iloadN X0.here hx rfl (hb hby d3_0) rfl ?_
    show Steps p.tables e below (s₁.setTop (mkF m 1 #[.val (.ref o0), .val (.int p1), .unset, .unset, .unset, .unset] [(.int p1)])) _
    refine XS.ifYes X0.here hx rfl (pc0 := 1) (pc' := 18) rfl (hb hby d3_1) rfl ((if0 _ _).trans (tlt (hbd : (0 : Int32) < p1)).2.2.1) (by decide) (by decide) ?_
    show Steps p.tables e below (s₁.setTop (mkF m 18 #[.val (.ref o0), .val (.int p1), .unset, .unset, .unset, .unset] [])) _
    refine XS.aloadN X0.here hx rfl (hb hby d3_18) rfl rfl ?_
    exact k)
  obtain ⟨cq3, kq3, q3a, q3b, q3c⟩ := isOf hZ e0 E_o0
  obtain ⟨_, _, ⟨T3, L3, k3, n3⟩, -, X3, ⟨Lc3, hQ3, l3, y3, z3⟩, st3⟩ := X0.virtualBack hx (y := (⟨"com/example/roundhaul/roundhaul/solver/SeededRandom", "nextLong", "()J"⟩ : MethodName)) (z := (⟨"com/example/roundhaul/roundhaul/solver/SeededRandom", "nextLong", "()J"⟩ : MethodName)) hown (mvT hZ (hw _ (List.mem_of_getElem? (i := 16) rfl))) (mvT hZ (hw _ (List.mem_of_getElem? (i := 17) rfl))) (notFace_of_selects (args := #[]) (mvT hZ (hw _ (List.mem_of_getElem? (i := 19) rfl)))) (mvT hZ (hw _ (List.mem_of_getElem? (i := 19) rfl))) (mvT hZ (hw _ (List.mem_of_getElem? (i := 18) rfl))) (by decide) (backOf (W := 0) (rm4 l Z a0 hw [] o0 w h0 n0 Z0 E_o0 F_state_o0 g_o0) hZ (hw _ (List.mem_of_getElem? (i := 20) rfl)) (hw _ (List.mem_of_getElem? (i := 2) rfl)) (by decide) (by decide)) q3a q3c (g := (mkF m 19 #[.val (.ref o0), .val (.int p1), .unset, .unset, .unset, .unset] [(.ref o0)])) rfl (by rw [hml]; rfl) (Steps.refl _) (argsL := []) (rest := []) (lenOf pd_rm3_0 rfl) rfl (by show 2 * 0 + _ ≤ _; exact Nat.le_of_eq rfl) (hb hby d3_19) (fun _ _ => ⟨rfl, e0, (by decide : 0 + 0 ≤ _), (by decide : 0 + 0 ≤ _)⟩)
  dsimp only [Pt.U, Pt.locs, Pt.cells, Pt.slots] at X3 l3 y3 z3 st3 hQ3
  rw [l3, y3, z3] at X3
  obtain ⟨rfl, N3q, K3, qp3_0, qp3_1⟩ := hQ3
  have N3 := Fr.app N0 N3q
  have f4 := E_o0.keep K3
  have Z3 : n0 ≤ T3.heap.size := Nat.le_trans Z0 K3.1
  have KK3 := K0.trans K3 (allS (Or.inl (List.mem_of_getElem? (i := 0) rfl)) all0)
  have go3 := go2.tr (C := T3.setTop (mkF m 22 #[.val (.ref o0), .val (.int p1), .unset, .unset, .unset, .unset] [(.long (own_mix (w + (-7046029254386353131 : Int64))))])) st3
  have go6 := go3.step (C := T3.setTop (mkF m 38 #[.val (.ref o0), .val (.int p1), .val (.long ((own_usrL (own_mix (w + (-7046029254386353131 : Int64))) (32 : Int32)) * (p1.toInt64))), .second, .unset, .unset] [(.long (((4294967296 : Int64) - (p1.toInt64)) % (p1.toInt64)))])) (fun t k => by
    show Steps p.tables e below (T3.setTop (mkF m 22 #[.val (.ref o0), .val (.int p1), .unset, .unset, .unset, .unset] [(.long (own_mix (w + (-7046029254386353131 : Int64))))])) _
    refine XS.bipush X3.here hx rfl (hb hby d3_22) ?_
    show Steps p.tables e below (T3.setTop (mkF m 24 #[.val (.ref o0), .val (.int p1), .unset, .unset, .unset, .unset] [(.int (32 : Int32)), (.long (own_mix (w + (-7046029254386353131 : Int64))))])) _
    refine XS.lushr X3.here hx rfl (hb hby d3_24) rfl ?_
    show Steps p.tables e below (T3.setTop (mkF m 25 #[.val (.ref o0), .val (.int p1), .unset, .unset, .unset, .unset] [(.long (own_usrL (own_mix (w + (-7046029254386353131 : Int64))) (32 : Int32)))])) _
    refine XS.iloadN X3.here hx rfl (hb hby d3_25) rfl ?_
    show Steps p.tables e below (T3.setTop (mkF m 26 #[.val (.ref o0), .val (.int p1), .unset, .unset, .unset, .unset] [(.int p1), (.long (own_usrL (own_mix (w + (-7046029254386353131 : Int64))) (32 : Int32)))])) _
    refine XS.i2l X3.here hx rfl (hb hby d3_26) rfl ?_
    show Steps p.tables e below (T3.setTop (mkF m 27 #[.val (.ref o0), .val (.int p1), .unset, .unset, .unset, .unset] [(.long (p1.toInt64)), (.long (own_usrL (own_mix (w + (-7046029254386353131 : Int64))) (32 : Int32)))])) _
    refine XS.lmul X3.here hx rfl (hb hby d3_27) rfl ?_
    show Steps p.tables e below (T3.setTop (mkF m 28 #[.val (.ref o0), .val (.int p1), .unset, .unset, .unset, .unset] [(.long ((own_usrL (own_mix (w + (-7046029254386353131 : Int64))) (32 : Int32)) * (p1.toInt64)))])) _
    refine XS.lstoreN X3.here hx rfl (hb hby d3_28) rfl (l' := #[.val (.ref o0), .val (.int p1), .val (.long ((own_usrL (own_mix (w + (-7046029254386353131 : Int64))) (32 : Int32)) * (p1.toInt64))), .second, .unset, .unset]) rfl ?_
    show Steps p.tables e below (T3.setTop (mkF m 29 #[.val (.ref o0), .val (.int p1), .val (.long ((own_usrL (own_mix (w + (-7046029254386353131 : Int64))) (32 : Int32)) * (p1.toInt64))), .second, .unset, .unset] [])) _
    refine X3.ldc2Long hx hown (mvT hZ (hw _ (List.mem_of_getElem? (i := 24) rfl))) (g := (mkF m 29 #[.val (.ref o0), .val (.int p1), .val (.long ((own_usrL (own_mix (w + (-7046029254386353131 : Int64))) (32 : Int32)) * (p1.toInt64))), .second, .unset, .unset] [])) rfl (hb hby d3_29) _ ?_
    show Steps p.tables e below (T3.setTop (mkF m 32 #[.val (.ref o0), .val (.int p1), .val (.long ((own_usrL (own_mix (w + (-7046029254386353131 : Int64))) (32 : Int32)) * (p1.toInt64))), .second, .unset, .unset] [(.long (4294967296 : Int64))])) _
    refine XS.iloadN X3.here hx rfl (hb hby d3_32) rfl ?_
    show Steps p.tables e below (T3.setTop (mkF m 33 #[.val (.ref o0), .val (.int p1), .val (.long ((own_usrL (own_mix (w + (-7046029254386353131 : Int64))) (32 : Int32)) * (p1.toInt64))), .second, .unset, .unset] [(.int p1), (.long (4294967296 : Int64))])) _
    refine XS.i2l X3.here hx rfl (hb hby d3_33) rfl ?_
    show Steps p.tables e below (T3.setTop (mkF m 34 #[.val (.ref o0), .val (.int p1), .val (.long ((own_usrL (own_mix (w + (-7046029254386353131 : Int64))) (32 : Int32)) * (p1.toInt64))), .second, .unset, .unset] [(.long (p1.toInt64)), (.long (4294967296 : Int64))])) _
    refine XS.lsub X3.here hx rfl (hb hby d3_34) rfl ?_
    show Steps p.tables e below (T3.setTop (mkF m 35 #[.val (.ref o0), .val (.int p1), .val (.long ((own_usrL (own_mix (w + (-7046029254386353131 : Int64))) (32 : Int32)) * (p1.toInt64))), .second, .unset, .unset] [(.long ((4294967296 : Int64) - (p1.toInt64)))])) _
    refine XS.iloadN X3.here hx rfl (hb hby d3_35) rfl ?_
    show Steps p.tables e below (T3.setTop (mkF m 36 #[.val (.ref o0), .val (.int p1), .val (.long ((own_usrL (own_mix (w + (-7046029254386353131 : Int64))) (32 : Int32)) * (p1.toInt64))), .second, .unset, .unset] [(.int p1), (.long ((4294967296 : Int64) - (p1.toInt64)))])) _
    refine XS.i2l X3.here hx rfl (hb hby d3_36) rfl ?_
    show Steps p.tables e below (T3.setTop (mkF m 37 #[.val (.ref o0), .val (.int p1), .val (.long ((own_usrL (own_mix (w + (-7046029254386353131 : Int64))) (32 : Int32)) * (p1.toInt64))), .second, .unset, .unset] [(.long (p1.toInt64)), (.long ((4294967296 : Int64) - (p1.toInt64)))])) _
    refine XS.lrem X3.here hx rfl (hb hby d3_37) rfl (own_bnz hbd) ?_
    rw [lrem_mod]
    exact k)
  obtain ⟨zt, hzt⟩ : ∃ z : Int64, z = (((4294967296 : Int64) - (p1.toInt64)) % (p1.toInt64)) := ⟨_, rfl⟩
  rw [← hzt] at go6
  have go7 := go6.step (C := T3.setTop (mkF m 40 #[.val (.ref o0), .val (.int p1), .val (.long ((own_usrL (own_mix (w + (-7046029254386353131 : Int64))) (32 : Int32)) * (p1.toInt64))), .second, .val (.long zt), .second] [])) (fun t k => by
    show Steps p.tables e below (T3.setTop (mkF m 38 #[.val (.ref o0), .val (.int p1), .val (.long ((own_usrL (own_mix (w + (-7046029254386353131 : Int64))) (32 : Int32)) * (p1.toInt64))), .second, .unset, .unset] [(.long zt)])) _
    refine XS.lstore X3.here hx rfl (hb hby d3_38) rfl (l' := #[.val (.ref o0), .val (.int p1), .val (.long ((own_usrL (own_mix (w + (-7046029254386353131 : Int64))) (32 : Int32)) * (p1.toInt64))), .second, .val (.long zt), .second]) rfl ?_
    exact k)
  obtain ⟨kk, hkk⟩ := own_reach (w + (-7046029254386353131 : Int64))
  refine lp_ni o0 p1 zt (w + (-7046029254386353131 : Int64)) h0 n0 hx hZ hw hby hml hown g_o0 hbd hzt ?_ kk T3 _ T3.heap (w + (-7046029254386353131 : Int64)) X3 rfl N3 Z3 KK3 hkk (Or.inl rfl) qp3_0 qp3_1 go7
  intro T9 locs9 h9 w9 X9 e9 N9 Z9 K9 hacc9 hJ9 E9 F9 go9
  have go8 := go9.step (C := T9.setTop (mkF m 70 #[.val (.ref o0), .val (.int p1), .val (.long ((own_usrL (own_mix w9) (32 : Int32)) * (p1.toInt64))), .second, .val (.long zt), .second] [(.int ((own_usrL ((own_usrL (own_mix w9) (32 : Int32)) * (p1.toInt64)) (32 : Int32)).toInt32))])) (fun t k => by
    show Steps p.tables e below (T9.setTop (mkF m 65 #[.val (.ref o0), .val (.int p1), .val (.long ((own_usrL (own_mix w9) (32 : Int32)) * (p1.toInt64))), .second, .val (.long zt), .second] [])) _
    refine XS.lloadN X9.here hx rfl (hb hby d3_65) rfl ?_
    show Steps p.tables e below (T9.setTop (mkF m 66 #[.val (.ref o0), .val (.int p1), .val (.long ((own_usrL (own_mix w9) (32 : Int32)) * (p1.toInt64))), .second, .val (.long zt), .second] [(.long ((own_usrL (own_mix w9) (32 : Int32)) * (p1.toInt64)))])) _
    refine XS.bipush X9.here hx rfl (hb hby d3_66) ?_
    show Steps p.tables e below (T9.setTop (mkF m 68 #[.val (.ref o0), .val (.int p1), .val (.long ((own_usrL (own_mix w9) (32 : Int32)) * (p1.toInt64))), .second, .val (.long zt), .second] [(.int (32 : Int32)), (.long ((own_usrL (own_mix w9) (32 : Int32)) * (p1.toInt64)))])) _
    refine XS.lushr X9.here hx rfl (hb hby d3_68) rfl ?_
    show Steps p.tables e below (T9.setTop (mkF m 69 #[.val (.ref o0), .val (.int p1), .val (.long ((own_usrL (own_mix w9) (32 : Int32)) * (p1.toInt64))), .second, .val (.long zt), .second] [(.long (own_usrL ((own_usrL (own_mix w9) (32 : Int32)) * (p1.toInt64)) (32 : Int32)))])) _
    refine XS.l2i X9.here hx rfl (hb hby d3_69) rfl ?_
    exact k)
  obtain ⟨fs, hr, hrun, hended, hW, hsame⟩ := X9.leave (v := some (.int ((own_usrL ((own_usrL (own_mix w9) (32 : Int32)) * (p1.toInt64)) (32 : Int32)).toInt32))) (fun h => by rw [Bd.returns] at h; cases h)
  refine ⟨_, _, go8 _ ?_, hrun, hended, _, _, rfl, ?_, ⟨_, rfl⟩, hW, hsame.mono (by decide) (by decide)⟩
  · exact own_retI X9 hx Bd.returns (hb hby d3_70) hr
  · show Q_rm3 Z o0 p1 w h0 n0 _ T9.heap _
    rw [e9]
    exact ⟨w9, rfl, N9, K9, E9, F9, hacc9, hJ9⟩
theorem pn_rm0 : plainName "com/example/roundhaul/roundhaul/solver/SeededRandomNextIntPinLaw" = true := by first | (simp [plainName, overriddenIn]; done) | decide +kernel
theorem pd_rm0_0 : parseMethodDescriptor "(J)V" = some ⟨[.long], none⟩ := by decide +kernel
theorem pd_rm0_1 : parseMethodDescriptor "(I)I" = some ⟨[.int], some .int⟩ := by decide +kernel
theorem pd_rm0_2 : parseMethodDescriptor "()J" = some ⟨[], some .long⟩ := by decide +kernel
theorem ef_rm0 (m : MethodId) (q0 : Int64) (p1 : Int32) (p2 : Int32) : entryFrame m #[(.long q0), (.int p1), (.int p2)] maxLocals = mkF m 0 #[.val (.long q0), .second, .val (.int p1), .val (.int p2), .unset, .unset, .unset, .unset, .unset, .unset, .unset, .unset, .unset, .unset, .unset] [] := by first | (simp [entryFrame, mkF, argsToLocals, Value.category, maxLocals]; done) | rfl
def Q_rm0 (Z : State) (q0 : Int64) (p1 : Int32) (p2 : Int32) (h0 : Heap) (n0 : Nat) (v : Option Value) (h : Heap) (L : List Loc) : Prop := v = some (.int (1 : Int32)) ∧ Fr n0 L
set_option maxRecDepth 65536 in
set_option maxHeartbeats 40000000 in
theorem rm0 (l : Launch) (Z : State) (a0 : Array Value) (hw : ∀ d ∈ tables_1, d.before a0 Z = true) (ws : List Jvm.Cond) (q0 : Int64) (p1 : Int32) (p2 : Int32) (h0 : Heap) (n0 : Nat) (Z0 : n0 ≤ h0.size) :
    MetFree l x (head1 (Jvm.Cond.code x code maxLocals ret :: ws) room_1) (fun a U => a = #[(.long q0), (.int p1), (.int p2)] ∧ Z.Warmed39 U.vm ∧ U.heap = h0) (fun _ _ _ _ _ => True) (fun _ U o U' => ∃ v L, o = .returned v ∧ Q_rm0 Z q0 p1 p2 h0 n0 v U'.heap L ∧ FrameEnd U o U' L room_1.cells room_1.slots) := by
  refine MetFree.of_bodySF (plainFor_of_name pn_rm0) hisR ?_
  intro p e s m args below meth c s₁ Bd hml0 hP hK
  obtain ⟨rfl, hZ, hh⟩ := hP
  have hx := Bd.exec
  have hby := Bd.bytes
  have hml : c.maxLocals = 15 := hml0
  have hown : s.vm.findClass "com/example/roundhaul/roundhaul/solver/SeededRandomNextIntPinLaw" = some m.cls := findClass_of_methodNamed Bd.named
  have hnm := (name_of_methodNamed Bd.named Bd.method).1
  have X0 : Stand p l e room_1 s m #[(.long q0), (.int p1), (.int p2)] below meth c s₁ [] 0 0 := Stand.of_body Bd
  have e0 : s₁.heap = h0 := by rw [← hh, Bd.state]; rfl
  have N0 := Fr.nil n0
  have K0 := Keep.refl h0 []
  have go0 : Go p e below (s₁.setTop (entryFrame m #[(.long q0), (.int p1), (.int p2)] maxLocals)) (s₁.setTop (mkF m 0 #[.val (.long q0), .second, .val (.int p1), .val (.int p2), .unset, .unset, .unset, .unset, .unset, .unset, .unset, .unset, .unset, .unset, .unset] [])) := fun t k => castTop (ef_rm0 m q0 p1 p2) k
  have go2 := go0.step (C := s₁.setTop (mkF m 3 #[.val (.long q0), .second, .val (.int p1), .val (.int p2), .unset, .unset, .unset, .unset, .unset, .unset, .unset, .unset, .unset, .unset, .unset] [(.int (p2 &&& (1 : Int32)))])) (fun t k => by
    show Steps p.tables e below (s₁.setTop (mkF m 0 #[.val (.long q0), .second, .val (.int p1), .val (.int p2), .unset, .unset, .unset, .unset, .unset, .unset, .unset, .unset, .unset, .unset, .unset] [])) _
    refine XS.iloadN X0.here hx rfl (hb hby at_0) rfl ?_
    show Steps p.tables e below (s₁.setTop (mkF m 1 #[.val (.long q0), .second, .val (.int p1), .val (.int p2), .unset, .unset, .unset, .unset, .unset, .unset, .unset, .unset, .unset, .unset, .unset] [(.int p2)])) _
    refine XS.iconst X0.here hx rfl (hb hby at_1) ?_
    show Steps p.tables e below (s₁.setTop (mkF m 2 #[.val (.long q0), .second, .val (.int p1), .val (.int p2), .unset, .unset, .unset, .unset, .unset, .unset, .unset, .unset, .unset, .unset, .unset] [(.int (1 : Int32)), (.int p2)])) _
    refine XS.iand X0.here hx rfl (hb hby at_2) rfl ?_
    exact k)
  by_cases hc1 : (p2 &&& (1 : Int32)) = (0 : Int32)
  · skip
    have go4 := go2.step (C := s₁.setTop (mkF m 26 #[.val (.long q0), .second, .val (.int p1), .val (.int p2), .unset, .val (.int (p1 &&& (2147483647 : Int32))), .unset, .unset, .unset, .unset, .unset, .unset, .unset, .unset, .unset] [(.int (p1 &&& (2147483647 : Int32)))])) (fun t k => by
      show Steps p.tables e below (s₁.setTop (mkF m 3 #[.val (.long q0), .second, .val (.int p1), .val (.int p2), .unset, .unset, .unset, .unset, .unset, .unset, .unset, .unset, .unset, .unset, .unset] [(.int (p2 &&& (1 : Int32)))])) _
      refine XS.ifYes X0.here hx rfl (pc0 := 3) (pc' := 18) rfl (hb hby at_3) rfl ((if0 _ _).trans (teq hc1).1) (by decide) (by decide) ?_
      show Steps p.tables e below (s₁.setTop (mkF m 18 #[.val (.long q0), .second, .val (.int p1), .val (.int p2), .unset, .unset, .unset, .unset, .unset, .unset, .unset, .unset, .unset, .unset, .unset] [])) _
      refine XS.iloadN X0.here hx rfl (hb hby at_18) rfl ?_
      show Steps p.tables e below (s₁.setTop (mkF m 19 #[.val (.long q0), .second, .val (.int p1), .val (.int p2), .unset, .unset, .unset, .unset, .unset, .unset, .unset, .unset, .unset, .unset, .unset] [(.int p1)])) _
      refine X0.ldcInt hx hown (mvT hZ (hw _ (List.mem_of_getElem? (i := 29) rfl))) (g := (mkF m 19 #[.val (.long q0), .second, .val (.int p1), .val (.int p2), .unset, .unset, .unset, .unset, .unset, .unset, .unset, .unset, .unset, .unset, .unset] [(.int p1)])) rfl (hb hby at_19) _ ?_
      show Steps p.tables e below (s₁.setTop (mkF m 21 #[.val (.long q0), .second, .val (.int p1), .val (.int p2), .unset, .unset, .unset, .unset, .unset, .unset, .unset, .unset, .unset, .unset, .unset] [(.int (2147483647 : Int32)), (.int p1)])) _
      refine XS.iand X0.here hx rfl (hb hby at_21) rfl ?_
      show Steps p.tables e below (s₁.setTop (mkF m 22 #[.val (.long q0), .second, .val (.int p1), .val (.int p2), .unset, .unset, .unset, .unset, .unset, .unset, .unset, .unset, .unset, .unset, .unset] [(.int (p1 &&& (2147483647 : Int32)))])) _
      refine XS.istore X0.here hx rfl (hb hby at_22) rfl (l' := #[.val (.long q0), .second, .val (.int p1), .val (.int p2), .unset, .val (.int (p1 &&& (2147483647 : Int32))), .unset, .unset, .unset, .unset, .unset, .unset, .unset, .unset, .unset]) rfl ?_
      show Steps p.tables e below (s₁.setTop (mkF m 24 #[.val (.long q0), .second, .val (.int p1), .val (.int p2), .unset, .val (.int (p1 &&& (2147483647 : Int32))), .unset, .unset, .unset, .unset, .unset, .unset, .unset, .unset, .unset] [])) _
      refine XS.iload X0.here hx rfl (hb hby at_24) rfl ?_
      exact k)
    by_cases hc3 : (p1 &&& (2147483647 : Int32)) = (0 : Int32)
    · skip
      have go5 := go4.step (C := s₁.setTop (mkF m 37 #[.val (.long q0), .second, .val (.int p1), .val (.int p2), .val (.int (1 : Int32)), .val (.int (p1 &&& (2147483647 : Int32))), .unset, .unset, .unset, .unset, .unset, .unset, .unset, .unset, .unset] [])) (fun t k => by
        show Steps p.tables e below (s₁.setTop (mkF m 26 #[.val (.long q0), .second, .val (.int p1), .val (.int p2), .unset, .val (.int (p1 &&& (2147483647 : Int32))), .unset, .unset, .unset, .unset, .unset, .unset, .unset, .unset, .unset] [(.int (p1 &&& (2147483647 : Int32)))])) _
        refine XS.ifNo X0.here hx rfl (hb hby at_26) rfl ((if0 _ _).trans (teq hc3).2) ?_
        show Steps p.tables e below (s₁.setTop (mkF m 29 #[.val (.long q0), .second, .val (.int p1), .val (.int p2), .unset, .val (.int (p1 &&& (2147483647 : Int32))), .unset, .unset, .unset, .unset, .unset, .unset, .unset, .unset, .unset] [])) _
        refine XS.iconst X0.here hx rfl (hb hby at_29) ?_
        show Steps p.tables e below (s₁.setTop (mkF m 30 #[.val (.long q0), .second, .val (.int p1), .val (.int p2), .unset, .val (.int (p1 &&& (2147483647 : Int32))), .unset, .unset, .unset, .unset, .unset, .unset, .unset, .unset, .unset] [(.int (1 : Int32))])) _
        refine XS.goto X0.here hx rfl (pc0 := 30) (pc' := 35) rfl (hb hby at_30) (by decide) (by decide) ?_
        show Steps p.tables e below (s₁.setTop (mkF m 35 #[.val (.long q0), .second, .val (.int p1), .val (.int p2), .unset, .val (.int (p1 &&& (2147483647 : Int32))), .unset, .unset, .unset, .unset, .unset, .unset, .unset, .unset, .unset] [(.int (1 : Int32))])) _
        refine XS.istore X0.here hx rfl (hb hby at_35) rfl (l' := #[.val (.long q0), .second, .val (.int p1), .val (.int p2), .val (.int (1 : Int32)), .val (.int (p1 &&& (2147483647 : Int32))), .unset, .unset, .unset, .unset, .unset, .unset, .unset, .unset, .unset]) rfl ?_
        exact k)
      have hb0 : (0 : Int32) < (1 : Int32) := by decide
      obtain ⟨zb, hzb⟩ : ∃ z : Int32, z = (1 : Int32) := ⟨_, rfl⟩
      rw [← hzb] at hb0
      have go6 := go5.step (C := s₁.setTop (mkF m 37 #[.val (.long q0), .second, .val (.int p1), .val (.int p2), .val (.int zb), .val (.int (p1 &&& (2147483647 : Int32))), .unset, .unset, .unset, .unset, .unset, .unset, .unset, .unset, .unset] [])) (fun t k => by rw [hzb] at k; exact k)
      obtain ⟨T7, h7, X7, e7, E7, A7, D7, -, st7⟩ := newO X0 hx hZ hown (hw _ (List.mem_of_getElem? (i := 0) rfl)) (hw _ (List.mem_of_getElem? (i := 1) rfl)) (hw _ (List.mem_of_getElem? (i := 2) rfl)) e0 (g := (mkF m 37 #[.val (.long q0), .second, .val (.int p1), .val (.int p2), .val (.int zb), .val (.int (p1 &&& (2147483647 : Int32))), .unset, .unset, .unset, .unset, .unset, .unset, .unset, .unset, .unset] [])) rfl (hb hby at_37) (by decide) (by decide)
      obtain ⟨b7, g7⟩ : ∃ z, z = h0.size := ⟨_, rfl⟩
      rw [← g7] at A7 D7 st7
      have g_b7 : n0 ≤ b7 := Nat.le_trans Z0 (Nat.le_of_eq g7.symm)
      have sz_b7 : h0.size ≤ b7 := Nat.le_trans K0.1 (Nat.le_of_eq g7.symm)
      have F7_state : Fld Z h7 b7 "com/example/roundhaul/roundhaul/solver/SeededRandom" "state" "J" (.long (0 : Int64)) := D7 (Or.inl (hw _ (List.mem_of_getElem? (i := 10) rfl))) (ty := .long) (by decide)
      have Z7 : n0 ≤ h7.size := Nat.le_trans Z0 E7.1
      have K7 := K0.ext E7
      have go7 := go6.step (C := T7.setTop (mkF m 40 #[.val (.long q0), .second, .val (.int p1), .val (.int p2), .val (.int zb), .val (.int (p1 &&& (2147483647 : Int32))), .unset, .unset, .unset, .unset, .unset, .unset, .unset, .unset, .unset] [(.ref b7)])) (fun t k => st7 t k)
      have go8 := go7.step (C := T7.setTop (mkF m 42 #[.val (.long q0), .second, .val (.int p1), .val (.int p2), .val (.int zb), .val (.int (p1 &&& (2147483647 : Int32))), .unset, .unset, .unset, .unset, .unset, .unset, .unset, .unset, .unset] [(.long q0), (.ref b7), (.ref b7)])) (fun t k => by
        show Steps p.tables e below (T7.setTop (mkF m 40 #[.val (.long q0), .second, .val (.int p1), .val (.int p2), .val (.int zb), .val (.int (p1 &&& (2147483647 : Int32))), .unset, .unset, .unset, .unset, .unset, .unset, .unset, .unset, .unset] [(.ref b7)])) _
        refine XS.dup X7.here hx rfl (hb hby at_40) rfl rfl ?_
        show Steps p.tables e below (T7.setTop (mkF m 41 #[.val (.long q0), .second, .val (.int p1), .val (.int p2), .val (.int zb), .val (.int (p1 &&& (2147483647 : Int32))), .unset, .unset, .unset, .unset, .unset, .unset, .unset, .unset, .unset] [(.ref b7), (.ref b7)])) _
        refine XS.lloadN X7.here hx rfl (hb hby at_41) rfl ?_
        exact k)
      obtain ⟨_, _, ⟨T9, L9, k9, n9⟩, -, X9, ⟨Lc9, hQ9, l9, y9, z9⟩, st9⟩ := X7.specialBack hx (y := (⟨"com/example/roundhaul/roundhaul/solver/SeededRandom", "<init>", "(J)V"⟩ : MethodName)) rfl hown (mvT hZ (hw _ (List.mem_of_getElem? (i := 3) rfl))) (mvT hZ (hw _ (List.mem_of_getElem? (i := 4) rfl))) (mvT hZ (hw _ (List.mem_of_getElem? (i := 5) rfl))) (by decide) (backOf (W := 1) (rm1 l Z a0 hw [] b7 q0 h7 n0 Z7 A7 g_b7 F7_state) hZ (hw _ (List.mem_of_getElem? (i := 5) rfl)) (hw _ (List.mem_of_getElem? (i := 2) rfl)) (by decide) (by decide)) (g := (mkF m 42 #[.val (.long q0), .second, .val (.int p1), .val (.int p2), .val (.int zb), .val (.int (p1 &&& (2147483647 : Int32))), .unset, .unset, .unset, .unset, .unset, .unset, .unset, .unset, .unset] [(.long q0), (.ref b7), (.ref b7)])) rfl (by rw [hml]; rfl) (Steps.refl _) (a := b7) (argsL := [(.long q0)]) (rest := [(.ref b7)]) (lenOf pd_rm0_0 rfl) rfl (by show 2 * 0 + _ ≤ _; exact Nat.le_of_eq rfl) (hb hby at_42) (fun _ _ => ⟨rfl, e7, (by decide : 1 + 0 ≤ _), (by decide : 1 + 0 ≤ _)⟩)
      dsimp only [Pt.U, Pt.locs, Pt.cells, Pt.slots] at X9 l9 y9 z9 st9 hQ9
      rw [l9, y9, z9] at X9
      obtain ⟨rfl, N9q, K9, qp9_0, qp9_1⟩ := hQ9
      have N9 := Fr.app N0 N9q
      have f10 := A7.keep K9
      have Z9 : n0 ≤ T9.heap.size := Nat.le_trans Z7 K9.1
      have KK9 := K7.trans K9 (allS (Or.inr sz_b7) all0)
      have go9 := go8.tr (C := T9.setTop (mkF m 45 #[.val (.long q0), .second, .val (.int p1), .val (.int p2), .val (.int zb), .val (.int (p1 &&& (2147483647 : Int32))), .unset, .unset, .unset, .unset, .unset, .unset, .unset, .unset, .unset] [(.ref b7)])) st9
      have go12 := go9.step (C := T9.setTop (mkF m 47 #[.val (.long q0), .second, .val (.int p1), .val (.int p2), .val (.int zb), .val (.ref b7), .unset, .unset, .unset, .unset, .unset, .unset, .unset, .unset, .unset] [])) (fun t k => by
        show Steps p.tables e below (T9.setTop (mkF m 45 #[.val (.long q0), .second, .val (.int p1), .val (.int p2), .val (.int zb), .val (.int (p1 &&& (2147483647 : Int32))), .unset, .unset, .unset, .unset, .unset, .unset, .unset, .unset, .unset] [(.ref b7)])) _
        refine XS.astore X9.here hx rfl (hb hby at_45) rfl rfl (l' := #[.val (.long q0), .second, .val (.int p1), .val (.int p2), .val (.int zb), .val (.ref b7), .unset, .unset, .unset, .unset, .unset, .unset, .unset, .unset, .unset]) rfl ?_
        exact k)
      obtain ⟨T13, h13, X13, e13, E13, A13, D13, -, st13⟩ := newO X9 hx hZ hown (hw _ (List.mem_of_getElem? (i := 0) rfl)) (hw _ (List.mem_of_getElem? (i := 1) rfl)) (hw _ (List.mem_of_getElem? (i := 2) rfl)) rfl (g := (mkF m 47 #[.val (.long q0), .second, .val (.int p1), .val (.int p2), .val (.int zb), .val (.ref b7), .unset, .unset, .unset, .unset, .unset, .unset, .unset, .unset, .unset] [])) rfl (hb hby at_47) (by decide) (by decide)
      obtain ⟨b13, g13⟩ : ∃ z, z = T9.heap.size := ⟨_, rfl⟩
      rw [← g13] at A13 D13 st13
      have ne_b7_b13 : b7 ≠ b13 := Nat.ne_of_lt (Nat.lt_of_lt_of_le qp9_0.lt (Nat.le_of_eq g13.symm))
      have g_b13 : n0 ≤ b13 := Nat.le_trans Z9 (Nat.le_of_eq g13.symm)
      have sz_b13 : h0.size ≤ b13 := Nat.le_trans KK9.1 (Nat.le_of_eq g13.symm)
      have f14 := qp9_0.ext E13
      have f15 := qp9_1.ext E13
      have F13_state : Fld Z h13 b13 "com/example/roundhaul/roundhaul/solver/SeededRandom" "state" "J" (.long (0 : Int64)) := D13 (Or.inl (hw _ (List.mem_of_getElem? (i := 10) rfl))) (ty := .long) (by decide)
      have Z13 : n0 ≤ h13.size := Nat.le_trans Z9 E13.1
      have K13 := KK9.ext E13
      have go13 := go12.step (C := T13.setTop (mkF m 50 #[.val (.long q0), .second, .val (.int p1), .val (.int p2), .val (.int zb), .val (.ref b7), .unset, .unset, .unset, .unset, .unset, .unset, .unset, .unset, .unset] [(.ref b13)])) (fun t k => st13 t k)
      have go16 := go13.step (C := T13.setTop (mkF m 52 #[.val (.long q0), .second, .val (.int p1), .val (.int p2), .val (.int zb), .val (.ref b7), .unset, .unset, .unset, .unset, .unset, .unset, .unset, .unset, .unset] [(.long q0), (.ref b13), (.ref b13)])) (fun t k => by
        show Steps p.tables e below (T13.setTop (mkF m 50 #[.val (.long q0), .second, .val (.int p1), .val (.int p2), .val (.int zb), .val (.ref b7), .unset, .unset, .unset, .unset, .unset, .unset, .unset, .unset, .unset] [(.ref b13)])) _
        refine XS.dup X13.here hx rfl (hb hby at_50) rfl rfl ?_
        show Steps p.tables e below (T13.setTop (mkF m 51 #[.val (.long q0), .second, .val (.int p1), .val (.int p2), .val (.int zb), .val (.ref b7), .unset, .unset, .unset, .unset, .unset, .unset, .unset, .unset, .unset] [(.ref b13), (.ref b13)])) _
        refine XS.lloadN X13.here hx rfl (hb hby at_51) rfl ?_
        exact k)
      obtain ⟨_, _, ⟨T17, L17, k17, n17⟩, -, X17, ⟨Lc17, hQ17, l17, y17, z17⟩, st17⟩ := X13.specialBack hx (y := (⟨"com/example/roundhaul/roundhaul/solver/SeededRandom", "<init>", "(J)V"⟩ : MethodName)) rfl hown (mvT hZ (hw _ (List.mem_of_getElem? (i := 3) rfl))) (mvT hZ (hw _ (List.mem_of_getElem? (i := 4) rfl))) (mvT hZ (hw _ (List.mem_of_getElem? (i := 5) rfl))) (by decide) (backOf (W := 1) (rm1 l Z a0 hw [] b13 q0 h13 n0 Z13 A13 g_b13 F13_state) hZ (hw _ (List.mem_of_getElem? (i := 5) rfl)) (hw _ (List.mem_of_getElem? (i := 2) rfl)) (by decide) (by decide)) (g := (mkF m 52 #[.val (.long q0), .second, .val (.int p1), .val (.int p2), .val (.int zb), .val (.ref b7), .unset, .unset, .unset, .unset, .unset, .unset, .unset, .unset, .unset] [(.long q0), (.ref b13), (.ref b13)])) rfl (by rw [hml]; rfl) (Steps.refl _) (a := b13) (argsL := [(.long q0)]) (rest := [(.ref b13)]) (lenOf pd_rm0_0 rfl) rfl (by show 2 * 0 + _ ≤ _; exact Nat.le_of_eq rfl) (hb hby at_52) (fun _ _ => ⟨rfl, e13, (by decide : 2 + 0 ≤ _), (by decide : 2 + 0 ≤ _)⟩)
      dsimp only [Pt.U, Pt.locs, Pt.cells, Pt.slots] at X17 l17 y17 z17 st17 hQ17
      rw [l17, y17, z17] at X17
      obtain ⟨rfl, N17q, K17, qp17_0, qp17_1⟩ := hQ17
      have N17 := Fr.app N9 N17q
      have f18 := f14.keep K17
      have f19 := f15.keep K17 (ninS ne_b7_b13 nin0)
      have f20 := A13.keep K17
      have Z17 : n0 ≤ T17.heap.size := Nat.le_trans Z13 K17.1
      have KK17 := K13.trans K17 (allS (Or.inr sz_b13) all0)
      have go17 := go16.tr (C := T17.setTop (mkF m 55 #[.val (.long q0), .second, .val (.int p1), .val (.int p2), .val (.int zb), .val (.ref b7), .unset, .unset, .unset, .unset, .unset, .unset, .unset, .unset, .unset] [(.ref b13)])) st17
      have go22 := go17.step (C := T17.setTop (mkF m 61 #[.val (.long q0), .second, .val (.int p1), .val (.int p2), .val (.int zb), .val (.ref b7), .val (.ref b13), .unset, .unset, .unset, .unset, .unset, .unset, .unset, .unset] [(.int zb), (.ref b7)])) (fun t k => by
        show Steps p.tables e below (T17.setTop (mkF m 55 #[.val (.long q0), .second, .val (.int p1), .val (.int p2), .val (.int zb), .val (.ref b7), .unset, .unset, .unset, .unset, .unset, .unset, .unset, .unset, .unset] [(.ref b13)])) _
        refine XS.astore X17.here hx rfl (hb hby at_55) rfl rfl (l' := #[.val (.long q0), .second, .val (.int p1), .val (.int p2), .val (.int zb), .val (.ref b7), .val (.ref b13), .unset, .unset, .unset, .unset, .unset, .unset, .unset, .unset]) rfl ?_
        show Steps p.tables e below (T17.setTop (mkF m 57 #[.val (.long q0), .second, .val (.int p1), .val (.int p2), .val (.int zb), .val (.ref b7), .val (.ref b13), .unset, .unset, .unset, .unset, .unset, .unset, .unset, .unset] [])) _
        refine XS.aload X17.here hx rfl (hb hby at_57) rfl rfl ?_
        show Steps p.tables e below (T17.setTop (mkF m 59 #[.val (.long q0), .second, .val (.int p1), .val (.int p2), .val (.int zb), .val (.ref b7), .val (.ref b13), .unset, .unset, .unset, .unset, .unset, .unset, .unset, .unset] [(.ref b7)])) _
        refine XS.iload X17.here hx rfl (hb hby at_59) rfl ?_
        exact k)
      obtain ⟨cq23, kq23, q23a, q23b, q23c⟩ := isOf hZ rfl f18
      obtain ⟨_, _, ⟨T23, L23, k23, n23⟩, -, X23, ⟨Lc23, hQ23, l23, y23, z23⟩, st23⟩ := X17.virtualBack hx (y := (⟨"com/example/roundhaul/roundhaul/solver/SeededRandom", "nextInt", "(I)I"⟩ : MethodName)) (z := (⟨"com/example/roundhaul/roundhaul/solver/SeededRandom", "nextInt", "(I)I"⟩ : MethodName)) hown (mvT hZ (hw _ (List.mem_of_getElem? (i := 11) rfl))) (mvT hZ (hw _ (List.mem_of_getElem? (i := 12) rfl))) (notFace_of_selects (args := #[]) (mvT hZ (hw _ (List.mem_of_getElem? (i := 14) rfl)))) (mvT hZ (hw _ (List.mem_of_getElem? (i := 14) rfl))) (mvT hZ (hw _ (List.mem_of_getElem? (i := 13) rfl))) (by decide) (backOf (W := 0) (rm3 l Z a0 hw [] b7 zb q0 T17.heap n0 Z17 f18 f19 g_b7 hb0) hZ (hw _ (List.mem_of_getElem? (i := 15) rfl)) (hw _ (List.mem_of_getElem? (i := 2) rfl)) (by decide) (by decide)) q23a q23c (g := (mkF m 61 #[.val (.long q0), .second, .val (.int p1), .val (.int p2), .val (.int zb), .val (.ref b7), .val (.ref b13), .unset, .unset, .unset, .unset, .unset, .unset, .unset, .unset] [(.int zb), (.ref b7)])) rfl (by rw [hml]; rfl) (Steps.refl _) (argsL := [(.int zb)]) (rest := []) (lenOf pd_rm0_1 rfl) rfl (by show 2 * 0 + _ ≤ _; exact Nat.le_of_eq rfl) (hb hby at_61) (fun _ _ => ⟨rfl, rfl, (by decide : 2 + 0 ≤ _), (by decide : 2 + 0 ≤ _)⟩)
      dsimp only [Pt.U, Pt.locs, Pt.cells, Pt.slots] at X23 l23 y23 z23 st23 hQ23
      rw [l23, y23, z23] at X23
      obtain ⟨wf_23, rfl, N23q, K23, qp23_0, qp23_1, qp23_2, qp23_3⟩ := hQ23
      have N23 := Fr.app N17 N23q
      have f24 := f18.keep K23
      have f26 := qp17_0.keep K23
      have f27 := qp17_1.keep K23 (ninS (Ne.symm ne_b7_b13) nin0)
      have Z23 : n0 ≤ T23.heap.size := Nat.le_trans Z17 K23.1
      have KK23 := KK17.trans K23 (allS (Or.inr sz_b7) all0)
      have go23 := go22.tr (C := T23.setTop (mkF m 64 #[.val (.long q0), .second, .val (.int p1), .val (.int p2), .val (.int zb), .val (.ref b7), .val (.ref b13), .unset, .unset, .unset, .unset, .unset, .unset, .unset, .unset] [(.int ((own_usrL ((own_usrL (own_mix wf_23) (32 : Int32)) * (zb.toInt64)) (32 : Int32)).toInt32))])) st23
      have hacc := qp23_2
      have hJ := qp23_3
      have go30 := go23.step (C := T23.setTop (mkF m 92 #[.val (.long q0), .second, .val (.int p1), .val (.int p2), .val (.int zb), .val (.ref b7), .val (.ref b13), .val (.int ((own_usrL ((own_usrL (own_mix wf_23) (32 : Int32)) * (zb.toInt64)) (32 : Int32)).toInt32)), .val (.int (1 : Int32)), .unset, .unset, .unset, .unset, .unset, .unset] [(.long ((4294967296 : Int64) % (zb.toInt64)))])) (fun t k => by
        show Steps p.tables e below (T23.setTop (mkF m 64 #[.val (.long q0), .second, .val (.int p1), .val (.int p2), .val (.int zb), .val (.ref b7), .val (.ref b13), .unset, .unset, .unset, .unset, .unset, .unset, .unset, .unset] [(.int ((own_usrL ((own_usrL (own_mix wf_23) (32 : Int32)) * (zb.toInt64)) (32 : Int32)).toInt32))])) _
        refine XS.istore X23.here hx rfl (hb hby at_64) rfl (l' := #[.val (.long q0), .second, .val (.int p1), .val (.int p2), .val (.int zb), .val (.ref b7), .val (.ref b13), .val (.int ((own_usrL ((own_usrL (own_mix wf_23) (32 : Int32)) * (zb.toInt64)) (32 : Int32)).toInt32)), .unset, .unset, .unset, .unset, .unset, .unset, .unset]) rfl ?_
        show Steps p.tables e below (T23.setTop (mkF m 66 #[.val (.long q0), .second, .val (.int p1), .val (.int p2), .val (.int zb), .val (.ref b7), .val (.ref b13), .val (.int ((own_usrL ((own_usrL (own_mix wf_23) (32 : Int32)) * (zb.toInt64)) (32 : Int32)).toInt32)), .unset, .unset, .unset, .unset, .unset, .unset, .unset] [])) _
        refine XS.iload X23.here hx rfl (hb hby at_66) rfl ?_
        show Steps p.tables e below (T23.setTop (mkF m 68 #[.val (.long q0), .second, .val (.int p1), .val (.int p2), .val (.int zb), .val (.ref b7), .val (.ref b13), .val (.int ((own_usrL ((own_usrL (own_mix wf_23) (32 : Int32)) * (zb.toInt64)) (32 : Int32)).toInt32)), .unset, .unset, .unset, .unset, .unset, .unset, .unset] [(.int ((own_usrL ((own_usrL (own_mix wf_23) (32 : Int32)) * (zb.toInt64)) (32 : Int32)).toInt32))])) _
        refine XS.ifNo X23.here hx rfl (hb hby at_68) rfl ((if0 _ _).trans (flt (by rw [Int32.lt_iff_toInt_lt]; have q := own_hi zb wf_23 hb0; exact fun z => Int.not_lt.mpr q.1 z : ¬ (((own_usrL ((own_usrL (own_mix wf_23) (32 : Int32)) * (zb.toInt64)) (32 : Int32)).toInt32) < (0 : Int32)))).1) ?_
        show Steps p.tables e below (T23.setTop (mkF m 71 #[.val (.long q0), .second, .val (.int p1), .val (.int p2), .val (.int zb), .val (.ref b7), .val (.ref b13), .val (.int ((own_usrL ((own_usrL (own_mix wf_23) (32 : Int32)) * (zb.toInt64)) (32 : Int32)).toInt32)), .unset, .unset, .unset, .unset, .unset, .unset, .unset] [])) _
        refine XS.iload X23.here hx rfl (hb hby at_71) rfl ?_
        show Steps p.tables e below (T23.setTop (mkF m 73 #[.val (.long q0), .second, .val (.int p1), .val (.int p2), .val (.int zb), .val (.ref b7), .val (.ref b13), .val (.int ((own_usrL ((own_usrL (own_mix wf_23) (32 : Int32)) * (zb.toInt64)) (32 : Int32)).toInt32)), .unset, .unset, .unset, .unset, .unset, .unset, .unset] [(.int ((own_usrL ((own_usrL (own_mix wf_23) (32 : Int32)) * (zb.toInt64)) (32 : Int32)).toInt32))])) _
        refine XS.iload X23.here hx rfl (hb hby at_73) rfl ?_
        show Steps p.tables e below (T23.setTop (mkF m 75 #[.val (.long q0), .second, .val (.int p1), .val (.int p2), .val (.int zb), .val (.ref b7), .val (.ref b13), .val (.int ((own_usrL ((own_usrL (own_mix wf_23) (32 : Int32)) * (zb.toInt64)) (32 : Int32)).toInt32)), .unset, .unset, .unset, .unset, .unset, .unset, .unset] [(.int zb), (.int ((own_usrL ((own_usrL (own_mix wf_23) (32 : Int32)) * (zb.toInt64)) (32 : Int32)).toInt32))])) _
        refine XS.icmpNo X23.here hx rfl (hb hby at_75) rfl (tlt (by rw [Int32.lt_iff_toInt_lt]; exact (own_hi zb wf_23 hb0).2 : ((own_usrL ((own_usrL (own_mix wf_23) (32 : Int32)) * (zb.toInt64)) (32 : Int32)).toInt32) < zb)).2.1 ?_
        show Steps p.tables e below (T23.setTop (mkF m 78 #[.val (.long q0), .second, .val (.int p1), .val (.int p2), .val (.int zb), .val (.ref b7), .val (.ref b13), .val (.int ((own_usrL ((own_usrL (own_mix wf_23) (32 : Int32)) * (zb.toInt64)) (32 : Int32)).toInt32)), .unset, .unset, .unset, .unset, .unset, .unset, .unset] [])) _
        refine XS.iconst X23.here hx rfl (hb hby at_78) ?_
        show Steps p.tables e below (T23.setTop (mkF m 79 #[.val (.long q0), .second, .val (.int p1), .val (.int p2), .val (.int zb), .val (.ref b7), .val (.ref b13), .val (.int ((own_usrL ((own_usrL (own_mix wf_23) (32 : Int32)) * (zb.toInt64)) (32 : Int32)).toInt32)), .unset, .unset, .unset, .unset, .unset, .unset, .unset] [(.int (1 : Int32))])) _
        refine XS.goto X23.here hx rfl (pc0 := 79) (pc' := 83) rfl (hb hby at_79) (by decide) (by decide) ?_
        show Steps p.tables e below (T23.setTop (mkF m 83 #[.val (.long q0), .second, .val (.int p1), .val (.int p2), .val (.int zb), .val (.ref b7), .val (.ref b13), .val (.int ((own_usrL ((own_usrL (own_mix wf_23) (32 : Int32)) * (zb.toInt64)) (32 : Int32)).toInt32)), .unset, .unset, .unset, .unset, .unset, .unset, .unset] [(.int (1 : Int32))])) _
        refine XS.istore X23.here hx rfl (hb hby at_83) rfl (l' := #[.val (.long q0), .second, .val (.int p1), .val (.int p2), .val (.int zb), .val (.ref b7), .val (.ref b13), .val (.int ((own_usrL ((own_usrL (own_mix wf_23) (32 : Int32)) * (zb.toInt64)) (32 : Int32)).toInt32)), .val (.int (1 : Int32)), .unset, .unset, .unset, .unset, .unset, .unset]) rfl ?_
        show Steps p.tables e below (T23.setTop (mkF m 85 #[.val (.long q0), .second, .val (.int p1), .val (.int p2), .val (.int zb), .val (.ref b7), .val (.ref b13), .val (.int ((own_usrL ((own_usrL (own_mix wf_23) (32 : Int32)) * (zb.toInt64)) (32 : Int32)).toInt32)), .val (.int (1 : Int32)), .unset, .unset, .unset, .unset, .unset, .unset] [])) _
        refine X23.ldc2Long hx hown (mvT hZ (hw _ (List.mem_of_getElem? (i := 26) rfl))) (g := (mkF m 85 #[.val (.long q0), .second, .val (.int p1), .val (.int p2), .val (.int zb), .val (.ref b7), .val (.ref b13), .val (.int ((own_usrL ((own_usrL (own_mix wf_23) (32 : Int32)) * (zb.toInt64)) (32 : Int32)).toInt32)), .val (.int (1 : Int32)), .unset, .unset, .unset, .unset, .unset, .unset] [])) rfl (hb hby at_85) _ ?_
        show Steps p.tables e below (T23.setTop (mkF m 88 #[.val (.long q0), .second, .val (.int p1), .val (.int p2), .val (.int zb), .val (.ref b7), .val (.ref b13), .val (.int ((own_usrL ((own_usrL (own_mix wf_23) (32 : Int32)) * (zb.toInt64)) (32 : Int32)).toInt32)), .val (.int (1 : Int32)), .unset, .unset, .unset, .unset, .unset, .unset] [(.long (4294967296 : Int64))])) _
        refine XS.iload X23.here hx rfl (hb hby at_88) rfl ?_
        show Steps p.tables e below (T23.setTop (mkF m 90 #[.val (.long q0), .second, .val (.int p1), .val (.int p2), .val (.int zb), .val (.ref b7), .val (.ref b13), .val (.int ((own_usrL ((own_usrL (own_mix wf_23) (32 : Int32)) * (zb.toInt64)) (32 : Int32)).toInt32)), .val (.int (1 : Int32)), .unset, .unset, .unset, .unset, .unset, .unset] [(.int zb), (.long (4294967296 : Int64))])) _
        refine XS.i2l X23.here hx rfl (hb hby at_90) rfl ?_
        show Steps p.tables e below (T23.setTop (mkF m 91 #[.val (.long q0), .second, .val (.int p1), .val (.int p2), .val (.int zb), .val (.ref b7), .val (.ref b13), .val (.int ((own_usrL ((own_usrL (own_mix wf_23) (32 : Int32)) * (zb.toInt64)) (32 : Int32)).toInt32)), .val (.int (1 : Int32)), .unset, .unset, .unset, .unset, .unset, .unset] [(.long (zb.toInt64)), (.long (4294967296 : Int64))])) _
        refine XS.lrem X23.here hx rfl (hb hby at_91) rfl (own_bnz hb0) ?_
        rw [lrem_mod]
        exact k)
      obtain ⟨zs, hzs⟩ : ∃ z : Int64, z = ((4294967296 : Int64) % (zb.toInt64)) := ⟨_, rfl⟩
      rw [← hzs] at go30
      rw [own_thr_eq hb0] at hzs
      have go31 := go30.step (C := T23.setTop (mkF m 96 #[.val (.long q0), .second, .val (.int p1), .val (.int p2), .val (.int zb), .val (.ref b7), .val (.ref b13), .val (.int ((own_usrL ((own_usrL (own_mix wf_23) (32 : Int32)) * (zb.toInt64)) (32 : Int32)).toInt32)), .val (.int (1 : Int32)), .val (.long zs), .second, .unset, .unset, .unset, .unset] [(.ref b13)])) (fun t k => by
        show Steps p.tables e below (T23.setTop (mkF m 92 #[.val (.long q0), .second, .val (.int p1), .val (.int p2), .val (.int zb), .val (.ref b7), .val (.ref b13), .val (.int ((own_usrL ((own_usrL (own_mix wf_23) (32 : Int32)) * (zb.toInt64)) (32 : Int32)).toInt32)), .val (.int (1 : Int32)), .unset, .unset, .unset, .unset, .unset, .unset] [(.long zs)])) _
        refine XS.lstore X23.here hx rfl (hb hby at_92) rfl (l' := #[.val (.long q0), .second, .val (.int p1), .val (.int p2), .val (.int zb), .val (.ref b7), .val (.ref b13), .val (.int ((own_usrL ((own_usrL (own_mix wf_23) (32 : Int32)) * (zb.toInt64)) (32 : Int32)).toInt32)), .val (.int (1 : Int32)), .val (.long zs), .second, .unset, .unset, .unset, .unset]) rfl ?_
        show Steps p.tables e below (T23.setTop (mkF m 94 #[.val (.long q0), .second, .val (.int p1), .val (.int p2), .val (.int zb), .val (.ref b7), .val (.ref b13), .val (.int ((own_usrL ((own_usrL (own_mix wf_23) (32 : Int32)) * (zb.toInt64)) (32 : Int32)).toInt32)), .val (.int (1 : Int32)), .val (.long zs), .second, .unset, .unset, .unset, .unset] [])) _
        refine XS.aload X23.here hx rfl (hb hby at_94) rfl rfl ?_
        exact k)
      obtain ⟨cq32, kq32, q32a, q32b, q32c⟩ := isOf hZ rfl f26
      obtain ⟨_, _, ⟨T32, L32, k32, n32⟩, -, X32, ⟨Lc32, hQ32, l32, y32, z32⟩, st32⟩ := X23.virtualBack hx (y := (⟨"com/example/roundhaul/roundhaul/solver/SeededRandom", "nextLong", "()J"⟩ : MethodName)) (z := (⟨"com/example/roundhaul/roundhaul/solver/SeededRandom", "nextLong", "()J"⟩ : MethodName)) hown (mvT hZ (hw _ (List.mem_of_getElem? (i := 27) rfl))) (mvT hZ (hw _ (List.mem_of_getElem? (i := 17) rfl))) (notFace_of_selects (args := #[]) (mvT hZ (hw _ (List.mem_of_getElem? (i := 19) rfl)))) (mvT hZ (hw _ (List.mem_of_getElem? (i := 19) rfl))) (mvT hZ (hw _ (List.mem_of_getElem? (i := 18) rfl))) (by decide) (backOf (W := 0) (rm4 l Z a0 hw [] b13 q0 T23.heap n0 Z23 f26 f27 g_b13) hZ (hw _ (List.mem_of_getElem? (i := 20) rfl)) (hw _ (List.mem_of_getElem? (i := 2) rfl)) (by decide) (by decide)) q32a q32c (g := (mkF m 96 #[.val (.long q0), .second, .val (.int p1), .val (.int p2), .val (.int zb), .val (.ref b7), .val (.ref b13), .val (.int ((own_usrL ((own_usrL (own_mix wf_23) (32 : Int32)) * (zb.toInt64)) (32 : Int32)).toInt32)), .val (.int (1 : Int32)), .val (.long zs), .second, .unset, .unset, .unset, .unset] [(.ref b13)])) rfl (by rw [hml]; rfl) (Steps.refl _) (argsL := []) (rest := []) (lenOf pd_rm0_2 rfl) rfl (by show 2 * 0 + _ ≤ _; exact Nat.le_of_eq rfl) (hb hby at_96) (fun _ _ => ⟨rfl, rfl, (by decide : 2 + 0 ≤ _), (by decide : 2 + 0 ≤ _)⟩)
      dsimp only [Pt.U, Pt.locs, Pt.cells, Pt.slots] at X32 l32 y32 z32 st32 hQ32
      rw [l32, y32, z32] at X32
      obtain ⟨rfl, N32q, K32, qp32_0, qp32_1⟩ := hQ32
      have N32 := Fr.app N23 N32q
      have f33 := qp23_0.keep K32
      have f34 := f26.keep K32
      have f36 := qp23_1.keep K32 (ninS ne_b7_b13 nin0)
      have Z32 : n0 ≤ T32.heap.size := Nat.le_trans Z23 K32.1
      have KK32 := KK23.trans K32 (allS (Or.inr sz_b13) all0)
      have go32 := go31.tr (C := T32.setTop (mkF m 99 #[.val (.long q0), .second, .val (.int p1), .val (.int p2), .val (.int zb), .val (.ref b7), .val (.ref b13), .val (.int ((own_usrL ((own_usrL (own_mix wf_23) (32 : Int32)) * (zb.toInt64)) (32 : Int32)).toInt32)), .val (.int (1 : Int32)), .val (.long zs), .second, .unset, .unset, .unset, .unset] [(.long (own_mix (q0 + (-7046029254386353131 : Int64))))])) st32
      have go38 := go32.step (C := T32.setTop (mkF m 117 #[.val (.long q0), .second, .val (.int p1), .val (.int p2), .val (.int zb), .val (.ref b7), .val (.ref b13), .val (.int ((own_usrL ((own_usrL (own_mix wf_23) (32 : Int32)) * (zb.toInt64)) (32 : Int32)).toInt32)), .val (.int (1 : Int32)), .val (.long zs), .second, .val (.long ((own_usrL (own_mix (q0 + (-7046029254386353131 : Int64))) (32 : Int32)) * (zb.toInt64))), .second, .unset, .unset] [(.int (lcmpW (((own_usrL (own_mix (q0 + (-7046029254386353131 : Int64))) (32 : Int32)) * (zb.toInt64)) &&& (4294967295 : Int64)) zs))])) (fun t k => by
        show Steps p.tables e below (T32.setTop (mkF m 99 #[.val (.long q0), .second, .val (.int p1), .val (.int p2), .val (.int zb), .val (.ref b7), .val (.ref b13), .val (.int ((own_usrL ((own_usrL (own_mix wf_23) (32 : Int32)) * (zb.toInt64)) (32 : Int32)).toInt32)), .val (.int (1 : Int32)), .val (.long zs), .second, .unset, .unset, .unset, .unset] [(.long (own_mix (q0 + (-7046029254386353131 : Int64))))])) _
        refine XS.bipush X32.here hx rfl (hb hby at_99) ?_
        show Steps p.tables e below (T32.setTop (mkF m 101 #[.val (.long q0), .second, .val (.int p1), .val (.int p2), .val (.int zb), .val (.ref b7), .val (.ref b13), .val (.int ((own_usrL ((own_usrL (own_mix wf_23) (32 : Int32)) * (zb.toInt64)) (32 : Int32)).toInt32)), .val (.int (1 : Int32)), .val (.long zs), .second, .unset, .unset, .unset, .unset] [(.int (32 : Int32)), (.long (own_mix (q0 + (-7046029254386353131 : Int64))))])) _
        refine XS.lushr X32.here hx rfl (hb hby at_101) rfl ?_
        show Steps p.tables e below (T32.setTop (mkF m 102 #[.val (.long q0), .second, .val (.int p1), .val (.int p2), .val (.int zb), .val (.ref b7), .val (.ref b13), .val (.int ((own_usrL ((own_usrL (own_mix wf_23) (32 : Int32)) * (zb.toInt64)) (32 : Int32)).toInt32)), .val (.int (1 : Int32)), .val (.long zs), .second, .unset, .unset, .unset, .unset] [(.long (own_usrL (own_mix (q0 + (-7046029254386353131 : Int64))) (32 : Int32)))])) _
        refine XS.iload X32.here hx rfl (hb hby at_102) rfl ?_
        show Steps p.tables e below (T32.setTop (mkF m 104 #[.val (.long q0), .second, .val (.int p1), .val (.int p2), .val (.int zb), .val (.ref b7), .val (.ref b13), .val (.int ((own_usrL ((own_usrL (own_mix wf_23) (32 : Int32)) * (zb.toInt64)) (32 : Int32)).toInt32)), .val (.int (1 : Int32)), .val (.long zs), .second, .unset, .unset, .unset, .unset] [(.int zb), (.long (own_usrL (own_mix (q0 + (-7046029254386353131 : Int64))) (32 : Int32)))])) _
        refine XS.i2l X32.here hx rfl (hb hby at_104) rfl ?_
        show Steps p.tables e below (T32.setTop (mkF m 105 #[.val (.long q0), .second, .val (.int p1), .val (.int p2), .val (.int zb), .val (.ref b7), .val (.ref b13), .val (.int ((own_usrL ((own_usrL (own_mix wf_23) (32 : Int32)) * (zb.toInt64)) (32 : Int32)).toInt32)), .val (.int (1 : Int32)), .val (.long zs), .second, .unset, .unset, .unset, .unset] [(.long (zb.toInt64)), (.long (own_usrL (own_mix (q0 + (-7046029254386353131 : Int64))) (32 : Int32)))])) _
        refine XS.lmul X32.here hx rfl (hb hby at_105) rfl ?_
        show Steps p.tables e below (T32.setTop (mkF m 106 #[.val (.long q0), .second, .val (.int p1), .val (.int p2), .val (.int zb), .val (.ref b7), .val (.ref b13), .val (.int ((own_usrL ((own_usrL (own_mix wf_23) (32 : Int32)) * (zb.toInt64)) (32 : Int32)).toInt32)), .val (.int (1 : Int32)), .val (.long zs), .second, .unset, .unset, .unset, .unset] [(.long ((own_usrL (own_mix (q0 + (-7046029254386353131 : Int64))) (32 : Int32)) * (zb.toInt64)))])) _
        refine XS.lstore X32.here hx rfl (hb hby at_106) rfl (l' := #[.val (.long q0), .second, .val (.int p1), .val (.int p2), .val (.int zb), .val (.ref b7), .val (.ref b13), .val (.int ((own_usrL ((own_usrL (own_mix wf_23) (32 : Int32)) * (zb.toInt64)) (32 : Int32)).toInt32)), .val (.int (1 : Int32)), .val (.long zs), .second, .val (.long ((own_usrL (own_mix (q0 + (-7046029254386353131 : Int64))) (32 : Int32)) * (zb.toInt64))), .second, .unset, .unset]) rfl ?_
        show Steps p.tables e below (T32.setTop (mkF m 108 #[.val (.long q0), .second, .val (.int p1), .val (.int p2), .val (.int zb), .val (.ref b7), .val (.ref b13), .val (.int ((own_usrL ((own_usrL (own_mix wf_23) (32 : Int32)) * (zb.toInt64)) (32 : Int32)).toInt32)), .val (.int (1 : Int32)), .val (.long zs), .second, .val (.long ((own_usrL (own_mix (q0 + (-7046029254386353131 : Int64))) (32 : Int32)) * (zb.toInt64))), .second, .unset, .unset] [])) _
        refine XS.lload X32.here hx rfl (hb hby at_108) rfl ?_
        show Steps p.tables e below (T32.setTop (mkF m 110 #[.val (.long q0), .second, .val (.int p1), .val (.int p2), .val (.int zb), .val (.ref b7), .val (.ref b13), .val (.int ((own_usrL ((own_usrL (own_mix wf_23) (32 : Int32)) * (zb.toInt64)) (32 : Int32)).toInt32)), .val (.int (1 : Int32)), .val (.long zs), .second, .val (.long ((own_usrL (own_mix (q0 + (-7046029254386353131 : Int64))) (32 : Int32)) * (zb.toInt64))), .second, .unset, .unset] [(.long ((own_usrL (own_mix (q0 + (-7046029254386353131 : Int64))) (32 : Int32)) * (zb.toInt64)))])) _
        refine X32.ldc2Long hx hown (mvT hZ (hw _ (List.mem_of_getElem? (i := 28) rfl))) (g := (mkF m 110 #[.val (.long q0), .second, .val (.int p1), .val (.int p2), .val (.int zb), .val (.ref b7), .val (.ref b13), .val (.int ((own_usrL ((own_usrL (own_mix wf_23) (32 : Int32)) * (zb.toInt64)) (32 : Int32)).toInt32)), .val (.int (1 : Int32)), .val (.long zs), .second, .val (.long ((own_usrL (own_mix (q0 + (-7046029254386353131 : Int64))) (32 : Int32)) * (zb.toInt64))), .second, .unset, .unset] [(.long ((own_usrL (own_mix (q0 + (-7046029254386353131 : Int64))) (32 : Int32)) * (zb.toInt64)))])) rfl (hb hby at_110) _ ?_
        show Steps p.tables e below (T32.setTop (mkF m 113 #[.val (.long q0), .second, .val (.int p1), .val (.int p2), .val (.int zb), .val (.ref b7), .val (.ref b13), .val (.int ((own_usrL ((own_usrL (own_mix wf_23) (32 : Int32)) * (zb.toInt64)) (32 : Int32)).toInt32)), .val (.int (1 : Int32)), .val (.long zs), .second, .val (.long ((own_usrL (own_mix (q0 + (-7046029254386353131 : Int64))) (32 : Int32)) * (zb.toInt64))), .second, .unset, .unset] [(.long (4294967295 : Int64)), (.long ((own_usrL (own_mix (q0 + (-7046029254386353131 : Int64))) (32 : Int32)) * (zb.toInt64)))])) _
        refine XS.land X32.here hx rfl (hb hby at_113) rfl ?_
        show Steps p.tables e below (T32.setTop (mkF m 114 #[.val (.long q0), .second, .val (.int p1), .val (.int p2), .val (.int zb), .val (.ref b7), .val (.ref b13), .val (.int ((own_usrL ((own_usrL (own_mix wf_23) (32 : Int32)) * (zb.toInt64)) (32 : Int32)).toInt32)), .val (.int (1 : Int32)), .val (.long zs), .second, .val (.long ((own_usrL (own_mix (q0 + (-7046029254386353131 : Int64))) (32 : Int32)) * (zb.toInt64))), .second, .unset, .unset] [(.long (((own_usrL (own_mix (q0 + (-7046029254386353131 : Int64))) (32 : Int32)) * (zb.toInt64)) &&& (4294967295 : Int64)))])) _
        refine XS.lload X32.here hx rfl (hb hby at_114) rfl ?_
        show Steps p.tables e below (T32.setTop (mkF m 116 #[.val (.long q0), .second, .val (.int p1), .val (.int p2), .val (.int zb), .val (.ref b7), .val (.ref b13), .val (.int ((own_usrL ((own_usrL (own_mix wf_23) (32 : Int32)) * (zb.toInt64)) (32 : Int32)).toInt32)), .val (.int (1 : Int32)), .val (.long zs), .second, .val (.long ((own_usrL (own_mix (q0 + (-7046029254386353131 : Int64))) (32 : Int32)) * (zb.toInt64))), .second, .unset, .unset] [(.long zs), (.long (((own_usrL (own_mix (q0 + (-7046029254386353131 : Int64))) (32 : Int32)) * (zb.toInt64)) &&& (4294967295 : Int64)))])) _
        refine XS.lcmp X32.here hx rfl (hb hby at_116) rfl ?_
        exact k)
      by_cases hc37 : (((own_usrL (own_mix (q0 + (-7046029254386353131 : Int64))) (32 : Int32)) * (zb.toInt64)) &&& (4294967295 : Int64)) < zs
      · skip
        have go39 := go38.step (C := T32.setTop (mkF m 158 #[.val (.long q0), .second, .val (.int p1), .val (.int p2), .val (.int zb), .val (.ref b7), .val (.ref b13), .val (.int ((own_usrL ((own_usrL (own_mix wf_23) (32 : Int32)) * (zb.toInt64)) (32 : Int32)).toInt32)), .val (.int (1 : Int32)), .val (.long zs), .second, .val (.long ((own_usrL (own_mix (q0 + (-7046029254386353131 : Int64))) (32 : Int32)) * (zb.toInt64))), .second, .unset, .unset] [(.ref b13)])) (fun t k => by
          show Steps p.tables e below (T32.setTop (mkF m 117 #[.val (.long q0), .second, .val (.int p1), .val (.int p2), .val (.int zb), .val (.ref b7), .val (.ref b13), .val (.int ((own_usrL ((own_usrL (own_mix wf_23) (32 : Int32)) * (zb.toInt64)) (32 : Int32)).toInt32)), .val (.int (1 : Int32)), .val (.long zs), .second, .val (.long ((own_usrL (own_mix (q0 + (-7046029254386353131 : Int64))) (32 : Int32)) * (zb.toInt64))), .second, .unset, .unset] [(.int (lcmpW (((own_usrL (own_mix (q0 + (-7046029254386353131 : Int64))) (32 : Int32)) * (zb.toInt64)) &&& (4294967295 : Int64)) zs))])) _
          refine XS.ifYes X32.here hx rfl (pc0 := 117) (pc' := 156) rfl (hb hby at_117) rfl ((if0 _ _).trans (tlt ((lw_lt _ _).mpr hc37)).1) (by decide) (by decide) ?_
          show Steps p.tables e below (T32.setTop (mkF m 156 #[.val (.long q0), .second, .val (.int p1), .val (.int p2), .val (.int zb), .val (.ref b7), .val (.ref b13), .val (.int ((own_usrL ((own_usrL (own_mix wf_23) (32 : Int32)) * (zb.toInt64)) (32 : Int32)).toInt32)), .val (.int (1 : Int32)), .val (.long zs), .second, .val (.long ((own_usrL (own_mix (q0 + (-7046029254386353131 : Int64))) (32 : Int32)) * (zb.toInt64))), .second, .unset, .unset] [])) _
          refine XS.aload X32.here hx rfl (hb hby at_156) rfl rfl ?_
          exact k)
        obtain ⟨cq40, kq40, q40a, q40b, q40c⟩ := isOf hZ rfl qp32_0
        obtain ⟨_, _, ⟨T40, L40, k40, n40⟩, -, X40, ⟨Lc40, hQ40, l40, y40, z40⟩, st40⟩ := X32.virtualBack hx (y := (⟨"com/example/roundhaul/roundhaul/solver/SeededRandom", "nextLong", "()J"⟩ : MethodName)) (z := (⟨"com/example/roundhaul/roundhaul/solver/SeededRandom", "nextLong", "()J"⟩ : MethodName)) hown (mvT hZ (hw _ (List.mem_of_getElem? (i := 27) rfl))) (mvT hZ (hw _ (List.mem_of_getElem? (i := 17) rfl))) (notFace_of_selects (args := #[]) (mvT hZ (hw _ (List.mem_of_getElem? (i := 19) rfl)))) (mvT hZ (hw _ (List.mem_of_getElem? (i := 19) rfl))) (mvT hZ (hw _ (List.mem_of_getElem? (i := 18) rfl))) (by decide) (backOf (W := 0) (rm4 l Z a0 hw [] b13 (q0 + (-7046029254386353131 : Int64)) T32.heap n0 Z32 qp32_0 qp32_1 g_b13) hZ (hw _ (List.mem_of_getElem? (i := 20) rfl)) (hw _ (List.mem_of_getElem? (i := 2) rfl)) (by decide) (by decide)) q40a q40c (g := (mkF m 158 #[.val (.long q0), .second, .val (.int p1), .val (.int p2), .val (.int zb), .val (.ref b7), .val (.ref b13), .val (.int ((own_usrL ((own_usrL (own_mix wf_23) (32 : Int32)) * (zb.toInt64)) (32 : Int32)).toInt32)), .val (.int (1 : Int32)), .val (.long zs), .second, .val (.long ((own_usrL (own_mix (q0 + (-7046029254386353131 : Int64))) (32 : Int32)) * (zb.toInt64))), .second, .unset, .unset] [(.ref b13)])) rfl (by rw [hml]; rfl) (Steps.refl _) (argsL := []) (rest := []) (lenOf pd_rm0_2 rfl) rfl (by show 2 * 0 + _ ≤ _; exact Nat.le_of_eq rfl) (hb hby at_158) (fun _ _ => ⟨rfl, rfl, (by decide : 2 + 0 ≤ _), (by decide : 2 + 0 ≤ _)⟩)
        dsimp only [Pt.U, Pt.locs, Pt.cells, Pt.slots] at X40 l40 y40 z40 st40 hQ40
        rw [l40, y40, z40] at X40
        obtain ⟨rfl, N40q, K40, qp40_0, qp40_1⟩ := hQ40
        have N40 := Fr.app N32 N40q
        have f41 := f33.keep K40
        have f42 := qp32_0.keep K40
        have f43 := f36.keep K40 (ninS ne_b7_b13 nin0)
        have Z40 : n0 ≤ T40.heap.size := Nat.le_trans Z32 K40.1
        have KK40 := KK32.trans K40 (allS (Or.inr sz_b13) all0)
        have go40 := go39.tr (C := T40.setTop (mkF m 161 #[.val (.long q0), .second, .val (.int p1), .val (.int p2), .val (.int zb), .val (.ref b7), .val (.ref b13), .val (.int ((own_usrL ((own_usrL (own_mix wf_23) (32 : Int32)) * (zb.toInt64)) (32 : Int32)).toInt32)), .val (.int (1 : Int32)), .val (.long zs), .second, .val (.long ((own_usrL (own_mix (q0 + (-7046029254386353131 : Int64))) (32 : Int32)) * (zb.toInt64))), .second, .unset, .unset] [(.long (own_mix ((q0 + (-7046029254386353131 : Int64)) + (-7046029254386353131 : Int64))))])) st40
        have go46 := go40.step (C := T40.setTop (mkF m 179 #[.val (.long q0), .second, .val (.int p1), .val (.int p2), .val (.int zb), .val (.ref b7), .val (.ref b13), .val (.int ((own_usrL ((own_usrL (own_mix wf_23) (32 : Int32)) * (zb.toInt64)) (32 : Int32)).toInt32)), .val (.int (1 : Int32)), .val (.long zs), .second, .val (.long ((own_usrL (own_mix (q0 + (-7046029254386353131 : Int64))) (32 : Int32)) * (zb.toInt64))), .second, .val (.long ((own_usrL (own_mix ((q0 + (-7046029254386353131 : Int64)) + (-7046029254386353131 : Int64))) (32 : Int32)) * (zb.toInt64))), .second] [(.int (lcmpW (((own_usrL (own_mix ((q0 + (-7046029254386353131 : Int64)) + (-7046029254386353131 : Int64))) (32 : Int32)) * (zb.toInt64)) &&& (4294967295 : Int64)) zs))])) (fun t k => by
          show Steps p.tables e below (T40.setTop (mkF m 161 #[.val (.long q0), .second, .val (.int p1), .val (.int p2), .val (.int zb), .val (.ref b7), .val (.ref b13), .val (.int ((own_usrL ((own_usrL (own_mix wf_23) (32 : Int32)) * (zb.toInt64)) (32 : Int32)).toInt32)), .val (.int (1 : Int32)), .val (.long zs), .second, .val (.long ((own_usrL (own_mix (q0 + (-7046029254386353131 : Int64))) (32 : Int32)) * (zb.toInt64))), .second, .unset, .unset] [(.long (own_mix ((q0 + (-7046029254386353131 : Int64)) + (-7046029254386353131 : Int64))))])) _
          refine XS.bipush X40.here hx rfl (hb hby at_161) ?_
          show Steps p.tables e below (T40.setTop (mkF m 163 #[.val (.long q0), .second, .val (.int p1), .val (.int p2), .val (.int zb), .val (.ref b7), .val (.ref b13), .val (.int ((own_usrL ((own_usrL (own_mix wf_23) (32 : Int32)) * (zb.toInt64)) (32 : Int32)).toInt32)), .val (.int (1 : Int32)), .val (.long zs), .second, .val (.long ((own_usrL (own_mix (q0 + (-7046029254386353131 : Int64))) (32 : Int32)) * (zb.toInt64))), .second, .unset, .unset] [(.int (32 : Int32)), (.long (own_mix ((q0 + (-7046029254386353131 : Int64)) + (-7046029254386353131 : Int64))))])) _
          refine XS.lushr X40.here hx rfl (hb hby at_163) rfl ?_
          show Steps p.tables e below (T40.setTop (mkF m 164 #[.val (.long q0), .second, .val (.int p1), .val (.int p2), .val (.int zb), .val (.ref b7), .val (.ref b13), .val (.int ((own_usrL ((own_usrL (own_mix wf_23) (32 : Int32)) * (zb.toInt64)) (32 : Int32)).toInt32)), .val (.int (1 : Int32)), .val (.long zs), .second, .val (.long ((own_usrL (own_mix (q0 + (-7046029254386353131 : Int64))) (32 : Int32)) * (zb.toInt64))), .second, .unset, .unset] [(.long (own_usrL (own_mix ((q0 + (-7046029254386353131 : Int64)) + (-7046029254386353131 : Int64))) (32 : Int32)))])) _
          refine XS.iload X40.here hx rfl (hb hby at_164) rfl ?_
          show Steps p.tables e below (T40.setTop (mkF m 166 #[.val (.long q0), .second, .val (.int p1), .val (.int p2), .val (.int zb), .val (.ref b7), .val (.ref b13), .val (.int ((own_usrL ((own_usrL (own_mix wf_23) (32 : Int32)) * (zb.toInt64)) (32 : Int32)).toInt32)), .val (.int (1 : Int32)), .val (.long zs), .second, .val (.long ((own_usrL (own_mix (q0 + (-7046029254386353131 : Int64))) (32 : Int32)) * (zb.toInt64))), .second, .unset, .unset] [(.int zb), (.long (own_usrL (own_mix ((q0 + (-7046029254386353131 : Int64)) + (-7046029254386353131 : Int64))) (32 : Int32)))])) _
          refine XS.i2l X40.here hx rfl (hb hby at_166) rfl ?_
          show Steps p.tables e below (T40.setTop (mkF m 167 #[.val (.long q0), .second, .val (.int p1), .val (.int p2), .val (.int zb), .val (.ref b7), .val (.ref b13), .val (.int ((own_usrL ((own_usrL (own_mix wf_23) (32 : Int32)) * (zb.toInt64)) (32 : Int32)).toInt32)), .val (.int (1 : Int32)), .val (.long zs), .second, .val (.long ((own_usrL (own_mix (q0 + (-7046029254386353131 : Int64))) (32 : Int32)) * (zb.toInt64))), .second, .unset, .unset] [(.long (zb.toInt64)), (.long (own_usrL (own_mix ((q0 + (-7046029254386353131 : Int64)) + (-7046029254386353131 : Int64))) (32 : Int32)))])) _
          refine XS.lmul X40.here hx rfl (hb hby at_167) rfl ?_
          show Steps p.tables e below (T40.setTop (mkF m 168 #[.val (.long q0), .second, .val (.int p1), .val (.int p2), .val (.int zb), .val (.ref b7), .val (.ref b13), .val (.int ((own_usrL ((own_usrL (own_mix wf_23) (32 : Int32)) * (zb.toInt64)) (32 : Int32)).toInt32)), .val (.int (1 : Int32)), .val (.long zs), .second, .val (.long ((own_usrL (own_mix (q0 + (-7046029254386353131 : Int64))) (32 : Int32)) * (zb.toInt64))), .second, .unset, .unset] [(.long ((own_usrL (own_mix ((q0 + (-7046029254386353131 : Int64)) + (-7046029254386353131 : Int64))) (32 : Int32)) * (zb.toInt64)))])) _
          refine XS.lstore X40.here hx rfl (hb hby at_168) rfl (l' := #[.val (.long q0), .second, .val (.int p1), .val (.int p2), .val (.int zb), .val (.ref b7), .val (.ref b13), .val (.int ((own_usrL ((own_usrL (own_mix wf_23) (32 : Int32)) * (zb.toInt64)) (32 : Int32)).toInt32)), .val (.int (1 : Int32)), .val (.long zs), .second, .val (.long ((own_usrL (own_mix (q0 + (-7046029254386353131 : Int64))) (32 : Int32)) * (zb.toInt64))), .second, .val (.long ((own_usrL (own_mix ((q0 + (-7046029254386353131 : Int64)) + (-7046029254386353131 : Int64))) (32 : Int32)) * (zb.toInt64))), .second]) rfl ?_
          show Steps p.tables e below (T40.setTop (mkF m 170 #[.val (.long q0), .second, .val (.int p1), .val (.int p2), .val (.int zb), .val (.ref b7), .val (.ref b13), .val (.int ((own_usrL ((own_usrL (own_mix wf_23) (32 : Int32)) * (zb.toInt64)) (32 : Int32)).toInt32)), .val (.int (1 : Int32)), .val (.long zs), .second, .val (.long ((own_usrL (own_mix (q0 + (-7046029254386353131 : Int64))) (32 : Int32)) * (zb.toInt64))), .second, .val (.long ((own_usrL (own_mix ((q0 + (-7046029254386353131 : Int64)) + (-7046029254386353131 : Int64))) (32 : Int32)) * (zb.toInt64))), .second] [])) _
          refine XS.lload X40.here hx rfl (hb hby at_170) rfl ?_
          show Steps p.tables e below (T40.setTop (mkF m 172 #[.val (.long q0), .second, .val (.int p1), .val (.int p2), .val (.int zb), .val (.ref b7), .val (.ref b13), .val (.int ((own_usrL ((own_usrL (own_mix wf_23) (32 : Int32)) * (zb.toInt64)) (32 : Int32)).toInt32)), .val (.int (1 : Int32)), .val (.long zs), .second, .val (.long ((own_usrL (own_mix (q0 + (-7046029254386353131 : Int64))) (32 : Int32)) * (zb.toInt64))), .second, .val (.long ((own_usrL (own_mix ((q0 + (-7046029254386353131 : Int64)) + (-7046029254386353131 : Int64))) (32 : Int32)) * (zb.toInt64))), .second] [(.long ((own_usrL (own_mix ((q0 + (-7046029254386353131 : Int64)) + (-7046029254386353131 : Int64))) (32 : Int32)) * (zb.toInt64)))])) _
          refine X40.ldc2Long hx hown (mvT hZ (hw _ (List.mem_of_getElem? (i := 28) rfl))) (g := (mkF m 172 #[.val (.long q0), .second, .val (.int p1), .val (.int p2), .val (.int zb), .val (.ref b7), .val (.ref b13), .val (.int ((own_usrL ((own_usrL (own_mix wf_23) (32 : Int32)) * (zb.toInt64)) (32 : Int32)).toInt32)), .val (.int (1 : Int32)), .val (.long zs), .second, .val (.long ((own_usrL (own_mix (q0 + (-7046029254386353131 : Int64))) (32 : Int32)) * (zb.toInt64))), .second, .val (.long ((own_usrL (own_mix ((q0 + (-7046029254386353131 : Int64)) + (-7046029254386353131 : Int64))) (32 : Int32)) * (zb.toInt64))), .second] [(.long ((own_usrL (own_mix ((q0 + (-7046029254386353131 : Int64)) + (-7046029254386353131 : Int64))) (32 : Int32)) * (zb.toInt64)))])) rfl (hb hby at_172) _ ?_
          show Steps p.tables e below (T40.setTop (mkF m 175 #[.val (.long q0), .second, .val (.int p1), .val (.int p2), .val (.int zb), .val (.ref b7), .val (.ref b13), .val (.int ((own_usrL ((own_usrL (own_mix wf_23) (32 : Int32)) * (zb.toInt64)) (32 : Int32)).toInt32)), .val (.int (1 : Int32)), .val (.long zs), .second, .val (.long ((own_usrL (own_mix (q0 + (-7046029254386353131 : Int64))) (32 : Int32)) * (zb.toInt64))), .second, .val (.long ((own_usrL (own_mix ((q0 + (-7046029254386353131 : Int64)) + (-7046029254386353131 : Int64))) (32 : Int32)) * (zb.toInt64))), .second] [(.long (4294967295 : Int64)), (.long ((own_usrL (own_mix ((q0 + (-7046029254386353131 : Int64)) + (-7046029254386353131 : Int64))) (32 : Int32)) * (zb.toInt64)))])) _
          refine XS.land X40.here hx rfl (hb hby at_175) rfl ?_
          show Steps p.tables e below (T40.setTop (mkF m 176 #[.val (.long q0), .second, .val (.int p1), .val (.int p2), .val (.int zb), .val (.ref b7), .val (.ref b13), .val (.int ((own_usrL ((own_usrL (own_mix wf_23) (32 : Int32)) * (zb.toInt64)) (32 : Int32)).toInt32)), .val (.int (1 : Int32)), .val (.long zs), .second, .val (.long ((own_usrL (own_mix (q0 + (-7046029254386353131 : Int64))) (32 : Int32)) * (zb.toInt64))), .second, .val (.long ((own_usrL (own_mix ((q0 + (-7046029254386353131 : Int64)) + (-7046029254386353131 : Int64))) (32 : Int32)) * (zb.toInt64))), .second] [(.long (((own_usrL (own_mix ((q0 + (-7046029254386353131 : Int64)) + (-7046029254386353131 : Int64))) (32 : Int32)) * (zb.toInt64)) &&& (4294967295 : Int64)))])) _
          refine XS.lload X40.here hx rfl (hb hby at_176) rfl ?_
          show Steps p.tables e below (T40.setTop (mkF m 178 #[.val (.long q0), .second, .val (.int p1), .val (.int p2), .val (.int zb), .val (.ref b7), .val (.ref b13), .val (.int ((own_usrL ((own_usrL (own_mix wf_23) (32 : Int32)) * (zb.toInt64)) (32 : Int32)).toInt32)), .val (.int (1 : Int32)), .val (.long zs), .second, .val (.long ((own_usrL (own_mix (q0 + (-7046029254386353131 : Int64))) (32 : Int32)) * (zb.toInt64))), .second, .val (.long ((own_usrL (own_mix ((q0 + (-7046029254386353131 : Int64)) + (-7046029254386353131 : Int64))) (32 : Int32)) * (zb.toInt64))), .second] [(.long zs), (.long (((own_usrL (own_mix ((q0 + (-7046029254386353131 : Int64)) + (-7046029254386353131 : Int64))) (32 : Int32)) * (zb.toInt64)) &&& (4294967295 : Int64)))])) _
          refine XS.lcmp X40.here hx rfl (hb hby at_178) rfl ?_
          exact k)
        by_cases hc45 : (((own_usrL (own_mix ((q0 + (-7046029254386353131 : Int64)) + (-7046029254386353131 : Int64))) (32 : Int32)) * (zb.toInt64)) &&& (4294967295 : Int64)) < zs
        · skip
          have go47 := go46.step (C := T40.setTop (mkF m 220 #[.val (.long q0), .second, .val (.int p1), .val (.int p2), .val (.int zb), .val (.ref b7), .val (.ref b13), .val (.int ((own_usrL ((own_usrL (own_mix wf_23) (32 : Int32)) * (zb.toInt64)) (32 : Int32)).toInt32)), .val (.int (1 : Int32)), .val (.long zs), .second, .val (.long ((own_usrL (own_mix (q0 + (-7046029254386353131 : Int64))) (32 : Int32)) * (zb.toInt64))), .second, .val (.long ((own_usrL (own_mix ((q0 + (-7046029254386353131 : Int64)) + (-7046029254386353131 : Int64))) (32 : Int32)) * (zb.toInt64))), .second] [(.int (1 : Int32))])) (fun t k => by
            show Steps p.tables e below (T40.setTop (mkF m 179 #[.val (.long q0), .second, .val (.int p1), .val (.int p2), .val (.int zb), .val (.ref b7), .val (.ref b13), .val (.int ((own_usrL ((own_usrL (own_mix wf_23) (32 : Int32)) * (zb.toInt64)) (32 : Int32)).toInt32)), .val (.int (1 : Int32)), .val (.long zs), .second, .val (.long ((own_usrL (own_mix (q0 + (-7046029254386353131 : Int64))) (32 : Int32)) * (zb.toInt64))), .second, .val (.long ((own_usrL (own_mix ((q0 + (-7046029254386353131 : Int64)) + (-7046029254386353131 : Int64))) (32 : Int32)) * (zb.toInt64))), .second] [(.int (lcmpW (((own_usrL (own_mix ((q0 + (-7046029254386353131 : Int64)) + (-7046029254386353131 : Int64))) (32 : Int32)) * (zb.toInt64)) &&& (4294967295 : Int64)) zs))])) _
            refine XS.ifYes X40.here hx rfl (pc0 := 179) (pc' := 218) rfl (hb hby at_179) rfl ((if0 _ _).trans (tlt ((lw_lt _ _).mpr hc45)).1) (by decide) (by decide) ?_
            show Steps p.tables e below (T40.setTop (mkF m 218 #[.val (.long q0), .second, .val (.int p1), .val (.int p2), .val (.int zb), .val (.ref b7), .val (.ref b13), .val (.int ((own_usrL ((own_usrL (own_mix wf_23) (32 : Int32)) * (zb.toInt64)) (32 : Int32)).toInt32)), .val (.int (1 : Int32)), .val (.long zs), .second, .val (.long ((own_usrL (own_mix (q0 + (-7046029254386353131 : Int64))) (32 : Int32)) * (zb.toInt64))), .second, .val (.long ((own_usrL (own_mix ((q0 + (-7046029254386353131 : Int64)) + (-7046029254386353131 : Int64))) (32 : Int32)) * (zb.toInt64))), .second] [])) _
            refine XS.iload X40.here hx rfl (hb hby at_218) rfl ?_
            exact k)
          obtain ⟨fs, hr, hrun, hended, hW, hsame⟩ := X40.leave (v := some (.int (1 : Int32))) (fun h => by rw [Bd.returns] at h; cases h)
          refine ⟨_, _, go47 _ ?_, hrun, hended, _, _, rfl, ?_, ⟨_, rfl⟩, hW, hsame.mono (by decide) (by decide)⟩
          · exact retN X40 hx (t := .boolean) Bd.returns (by simp) (hb hby at_220) hr
          · show Q_rm0 Z q0 p1 p2 h0 n0 _ T40.heap _
            exact ⟨rfl, N40⟩
        · skip
          have go50 := go46.step (C := T40.setTop (mkF m 200 #[.val (.long q0), .second, .val (.int p1), .val (.int p2), .val (.int zb), .val (.ref b7), .val (.ref b13), .val (.int ((own_usrL ((own_usrL (own_mix wf_23) (32 : Int32)) * (zb.toInt64)) (32 : Int32)).toInt32)), .val (.int (1 : Int32)), .val (.long zs), .second, .val (.long ((own_usrL (own_mix (q0 + (-7046029254386353131 : Int64))) (32 : Int32)) * (zb.toInt64))), .second, .val (.long ((own_usrL (own_mix ((q0 + (-7046029254386353131 : Int64)) + (-7046029254386353131 : Int64))) (32 : Int32)) * (zb.toInt64))), .second] [(.ref b7)])) (fun t k => by
            show Steps p.tables e below (T40.setTop (mkF m 179 #[.val (.long q0), .second, .val (.int p1), .val (.int p2), .val (.int zb), .val (.ref b7), .val (.ref b13), .val (.int ((own_usrL ((own_usrL (own_mix wf_23) (32 : Int32)) * (zb.toInt64)) (32 : Int32)).toInt32)), .val (.int (1 : Int32)), .val (.long zs), .second, .val (.long ((own_usrL (own_mix (q0 + (-7046029254386353131 : Int64))) (32 : Int32)) * (zb.toInt64))), .second, .val (.long ((own_usrL (own_mix ((q0 + (-7046029254386353131 : Int64)) + (-7046029254386353131 : Int64))) (32 : Int32)) * (zb.toInt64))), .second] [(.int (lcmpW (((own_usrL (own_mix ((q0 + (-7046029254386353131 : Int64)) + (-7046029254386353131 : Int64))) (32 : Int32)) * (zb.toInt64)) &&& (4294967295 : Int64)) zs))])) _
            refine XS.ifNo X40.here hx rfl (hb hby at_179) rfl ((if0 _ _).trans (flt (fun q => hc45 ((lw_lt _ _).mp q))).1) ?_
            show Steps p.tables e below (T40.setTop (mkF m 182 #[.val (.long q0), .second, .val (.int p1), .val (.int p2), .val (.int zb), .val (.ref b7), .val (.ref b13), .val (.int ((own_usrL ((own_usrL (own_mix wf_23) (32 : Int32)) * (zb.toInt64)) (32 : Int32)).toInt32)), .val (.int (1 : Int32)), .val (.long zs), .second, .val (.long ((own_usrL (own_mix (q0 + (-7046029254386353131 : Int64))) (32 : Int32)) * (zb.toInt64))), .second, .val (.long ((own_usrL (own_mix ((q0 + (-7046029254386353131 : Int64)) + (-7046029254386353131 : Int64))) (32 : Int32)) * (zb.toInt64))), .second] [])) _
            refine XS.iload X40.here hx rfl (hb hby at_182) rfl ?_
            show Steps p.tables e below (T40.setTop (mkF m 184 #[.val (.long q0), .second, .val (.int p1), .val (.int p2), .val (.int zb), .val (.ref b7), .val (.ref b13), .val (.int ((own_usrL ((own_usrL (own_mix wf_23) (32 : Int32)) * (zb.toInt64)) (32 : Int32)).toInt32)), .val (.int (1 : Int32)), .val (.long zs), .second, .val (.long ((own_usrL (own_mix (q0 + (-7046029254386353131 : Int64))) (32 : Int32)) * (zb.toInt64))), .second, .val (.long ((own_usrL (own_mix ((q0 + (-7046029254386353131 : Int64)) + (-7046029254386353131 : Int64))) (32 : Int32)) * (zb.toInt64))), .second] [(.int (1 : Int32))])) _
            refine XS.ifNo X40.here hx rfl (hb hby at_184) rfl ((if0 _ _).trans (feq ((by decide) : ¬ ((1 : Int32) = (0 : Int32)))).1) ?_
            show Steps p.tables e below (T40.setTop (mkF m 187 #[.val (.long q0), .second, .val (.int p1), .val (.int p2), .val (.int zb), .val (.ref b7), .val (.ref b13), .val (.int ((own_usrL ((own_usrL (own_mix wf_23) (32 : Int32)) * (zb.toInt64)) (32 : Int32)).toInt32)), .val (.int (1 : Int32)), .val (.long zs), .second, .val (.long ((own_usrL (own_mix (q0 + (-7046029254386353131 : Int64))) (32 : Int32)) * (zb.toInt64))), .second, .val (.long ((own_usrL (own_mix ((q0 + (-7046029254386353131 : Int64)) + (-7046029254386353131 : Int64))) (32 : Int32)) * (zb.toInt64))), .second] [])) _
            refine XS.iload X40.here hx rfl (hb hby at_187) rfl ?_
            show Steps p.tables e below (T40.setTop (mkF m 189 #[.val (.long q0), .second, .val (.int p1), .val (.int p2), .val (.int zb), .val (.ref b7), .val (.ref b13), .val (.int ((own_usrL ((own_usrL (own_mix wf_23) (32 : Int32)) * (zb.toInt64)) (32 : Int32)).toInt32)), .val (.int (1 : Int32)), .val (.long zs), .second, .val (.long ((own_usrL (own_mix (q0 + (-7046029254386353131 : Int64))) (32 : Int32)) * (zb.toInt64))), .second, .val (.long ((own_usrL (own_mix ((q0 + (-7046029254386353131 : Int64)) + (-7046029254386353131 : Int64))) (32 : Int32)) * (zb.toInt64))), .second] [(.int ((own_usrL ((own_usrL (own_mix wf_23) (32 : Int32)) * (zb.toInt64)) (32 : Int32)).toInt32))])) _
            refine XS.lload X40.here hx rfl (hb hby at_189) rfl ?_
            show Steps p.tables e below (T40.setTop (mkF m 191 #[.val (.long q0), .second, .val (.int p1), .val (.int p2), .val (.int zb), .val (.ref b7), .val (.ref b13), .val (.int ((own_usrL ((own_usrL (own_mix wf_23) (32 : Int32)) * (zb.toInt64)) (32 : Int32)).toInt32)), .val (.int (1 : Int32)), .val (.long zs), .second, .val (.long ((own_usrL (own_mix (q0 + (-7046029254386353131 : Int64))) (32 : Int32)) * (zb.toInt64))), .second, .val (.long ((own_usrL (own_mix ((q0 + (-7046029254386353131 : Int64)) + (-7046029254386353131 : Int64))) (32 : Int32)) * (zb.toInt64))), .second] [(.long ((own_usrL (own_mix ((q0 + (-7046029254386353131 : Int64)) + (-7046029254386353131 : Int64))) (32 : Int32)) * (zb.toInt64))), (.int ((own_usrL ((own_usrL (own_mix wf_23) (32 : Int32)) * (zb.toInt64)) (32 : Int32)).toInt32))])) _
            refine XS.bipush X40.here hx rfl (hb hby at_191) ?_
            show Steps p.tables e below (T40.setTop (mkF m 193 #[.val (.long q0), .second, .val (.int p1), .val (.int p2), .val (.int zb), .val (.ref b7), .val (.ref b13), .val (.int ((own_usrL ((own_usrL (own_mix wf_23) (32 : Int32)) * (zb.toInt64)) (32 : Int32)).toInt32)), .val (.int (1 : Int32)), .val (.long zs), .second, .val (.long ((own_usrL (own_mix (q0 + (-7046029254386353131 : Int64))) (32 : Int32)) * (zb.toInt64))), .second, .val (.long ((own_usrL (own_mix ((q0 + (-7046029254386353131 : Int64)) + (-7046029254386353131 : Int64))) (32 : Int32)) * (zb.toInt64))), .second] [(.int (32 : Int32)), (.long ((own_usrL (own_mix ((q0 + (-7046029254386353131 : Int64)) + (-7046029254386353131 : Int64))) (32 : Int32)) * (zb.toInt64))), (.int ((own_usrL ((own_usrL (own_mix wf_23) (32 : Int32)) * (zb.toInt64)) (32 : Int32)).toInt32))])) _
            refine XS.lushr X40.here hx rfl (hb hby at_193) rfl ?_
            show Steps p.tables e below (T40.setTop (mkF m 194 #[.val (.long q0), .second, .val (.int p1), .val (.int p2), .val (.int zb), .val (.ref b7), .val (.ref b13), .val (.int ((own_usrL ((own_usrL (own_mix wf_23) (32 : Int32)) * (zb.toInt64)) (32 : Int32)).toInt32)), .val (.int (1 : Int32)), .val (.long zs), .second, .val (.long ((own_usrL (own_mix (q0 + (-7046029254386353131 : Int64))) (32 : Int32)) * (zb.toInt64))), .second, .val (.long ((own_usrL (own_mix ((q0 + (-7046029254386353131 : Int64)) + (-7046029254386353131 : Int64))) (32 : Int32)) * (zb.toInt64))), .second] [(.long (own_usrL ((own_usrL (own_mix ((q0 + (-7046029254386353131 : Int64)) + (-7046029254386353131 : Int64))) (32 : Int32)) * (zb.toInt64)) (32 : Int32))), (.int ((own_usrL ((own_usrL (own_mix wf_23) (32 : Int32)) * (zb.toInt64)) (32 : Int32)).toInt32))])) _
            refine XS.l2i X40.here hx rfl (hb hby at_194) rfl ?_
            show Steps p.tables e below (T40.setTop (mkF m 195 #[.val (.long q0), .second, .val (.int p1), .val (.int p2), .val (.int zb), .val (.ref b7), .val (.ref b13), .val (.int ((own_usrL ((own_usrL (own_mix wf_23) (32 : Int32)) * (zb.toInt64)) (32 : Int32)).toInt32)), .val (.int (1 : Int32)), .val (.long zs), .second, .val (.long ((own_usrL (own_mix (q0 + (-7046029254386353131 : Int64))) (32 : Int32)) * (zb.toInt64))), .second, .val (.long ((own_usrL (own_mix ((q0 + (-7046029254386353131 : Int64)) + (-7046029254386353131 : Int64))) (32 : Int32)) * (zb.toInt64))), .second] [(.int ((own_usrL ((own_usrL (own_mix ((q0 + (-7046029254386353131 : Int64)) + (-7046029254386353131 : Int64))) (32 : Int32)) * (zb.toInt64)) (32 : Int32)).toInt32)), (.int ((own_usrL ((own_usrL (own_mix wf_23) (32 : Int32)) * (zb.toInt64)) (32 : Int32)).toInt32))])) _
            refine XS.icmpNo X40.here hx rfl (hb hby at_195) rfl (teq (by rw [(own_J2 hJ hacc (fun q => q (hzs ▸ hc37)) (hzs ▸ hc45))] : ((own_usrL ((own_usrL (own_mix wf_23) (32 : Int32)) * (zb.toInt64)) (32 : Int32)).toInt32) = ((own_usrL ((own_usrL (own_mix ((q0 + (-7046029254386353131 : Int64)) + (-7046029254386353131 : Int64))) (32 : Int32)) * (zb.toInt64)) (32 : Int32)).toInt32))).2 ?_
            show Steps p.tables e below (T40.setTop (mkF m 198 #[.val (.long q0), .second, .val (.int p1), .val (.int p2), .val (.int zb), .val (.ref b7), .val (.ref b13), .val (.int ((own_usrL ((own_usrL (own_mix wf_23) (32 : Int32)) * (zb.toInt64)) (32 : Int32)).toInt32)), .val (.int (1 : Int32)), .val (.long zs), .second, .val (.long ((own_usrL (own_mix (q0 + (-7046029254386353131 : Int64))) (32 : Int32)) * (zb.toInt64))), .second, .val (.long ((own_usrL (own_mix ((q0 + (-7046029254386353131 : Int64)) + (-7046029254386353131 : Int64))) (32 : Int32)) * (zb.toInt64))), .second] [])) _
            refine XS.aload X40.here hx rfl (hb hby at_198) rfl rfl ?_
            exact k)
          obtain ⟨cq51, kq51, q51a, q51b, q51c⟩ := isOf hZ rfl f41
          obtain ⟨_, _, ⟨T51, L51, k51, n51⟩, -, X51, ⟨Lc51, hQ51, l51, y51, z51⟩, st51⟩ := X40.virtualBack hx (y := (⟨"com/example/roundhaul/roundhaul/solver/SeededRandom", "nextLong", "()J"⟩ : MethodName)) (z := (⟨"com/example/roundhaul/roundhaul/solver/SeededRandom", "nextLong", "()J"⟩ : MethodName)) hown (mvT hZ (hw _ (List.mem_of_getElem? (i := 27) rfl))) (mvT hZ (hw _ (List.mem_of_getElem? (i := 17) rfl))) (notFace_of_selects (args := #[]) (mvT hZ (hw _ (List.mem_of_getElem? (i := 19) rfl)))) (mvT hZ (hw _ (List.mem_of_getElem? (i := 19) rfl))) (mvT hZ (hw _ (List.mem_of_getElem? (i := 18) rfl))) (by decide) (backOf (W := 0) (rm4 l Z a0 hw [] b7 wf_23 T40.heap n0 Z40 f41 f43 g_b7) hZ (hw _ (List.mem_of_getElem? (i := 20) rfl)) (hw _ (List.mem_of_getElem? (i := 2) rfl)) (by decide) (by decide)) q51a q51c (g := (mkF m 200 #[.val (.long q0), .second, .val (.int p1), .val (.int p2), .val (.int zb), .val (.ref b7), .val (.ref b13), .val (.int ((own_usrL ((own_usrL (own_mix wf_23) (32 : Int32)) * (zb.toInt64)) (32 : Int32)).toInt32)), .val (.int (1 : Int32)), .val (.long zs), .second, .val (.long ((own_usrL (own_mix (q0 + (-7046029254386353131 : Int64))) (32 : Int32)) * (zb.toInt64))), .second, .val (.long ((own_usrL (own_mix ((q0 + (-7046029254386353131 : Int64)) + (-7046029254386353131 : Int64))) (32 : Int32)) * (zb.toInt64))), .second] [(.ref b7)])) rfl (by rw [hml]; rfl) (Steps.refl _) (argsL := []) (rest := []) (lenOf pd_rm0_2 rfl) rfl (by show 2 * 0 + _ ≤ _; exact Nat.le_of_eq rfl) (hb hby at_200) (fun _ _ => ⟨rfl, rfl, (by decide : 2 + 0 ≤ _), (by decide : 2 + 0 ≤ _)⟩)
          dsimp only [Pt.U, Pt.locs, Pt.cells, Pt.slots] at X51 l51 y51 z51 st51 hQ51
          rw [l51, y51, z51] at X51
          obtain ⟨rfl, N51q, K51, qp51_0, qp51_1⟩ := hQ51
          have N51 := Fr.app N40 N51q
          have f52 := f41.keep K51
          have f53 := qp40_0.keep K51
          have f55 := qp40_1.keep K51 (ninS (Ne.symm ne_b7_b13) nin0)
          have Z51 : n0 ≤ T51.heap.size := Nat.le_trans Z40 K51.1
          have KK51 := KK40.trans K51 (allS (Or.inr sz_b7) all0)
          have go51 := go50.tr (C := T51.setTop (mkF m 203 #[.val (.long q0), .second, .val (.int p1), .val (.int p2), .val (.int zb), .val (.ref b7), .val (.ref b13), .val (.int ((own_usrL ((own_usrL (own_mix wf_23) (32 : Int32)) * (zb.toInt64)) (32 : Int32)).toInt32)), .val (.int (1 : Int32)), .val (.long zs), .second, .val (.long ((own_usrL (own_mix (q0 + (-7046029254386353131 : Int64))) (32 : Int32)) * (zb.toInt64))), .second, .val (.long ((own_usrL (own_mix ((q0 + (-7046029254386353131 : Int64)) + (-7046029254386353131 : Int64))) (32 : Int32)) * (zb.toInt64))), .second] [(.long (own_mix (wf_23 + (-7046029254386353131 : Int64))))])) st51
          have go56 := go51.step (C := T51.setTop (mkF m 205 #[.val (.long q0), .second, .val (.int p1), .val (.int p2), .val (.int zb), .val (.ref b7), .val (.ref b13), .val (.int ((own_usrL ((own_usrL (own_mix wf_23) (32 : Int32)) * (zb.toInt64)) (32 : Int32)).toInt32)), .val (.int (1 : Int32)), .val (.long zs), .second, .val (.long ((own_usrL (own_mix (q0 + (-7046029254386353131 : Int64))) (32 : Int32)) * (zb.toInt64))), .second, .val (.long ((own_usrL (own_mix ((q0 + (-7046029254386353131 : Int64)) + (-7046029254386353131 : Int64))) (32 : Int32)) * (zb.toInt64))), .second] [(.ref b13), (.long (own_mix (wf_23 + (-7046029254386353131 : Int64))))])) (fun t k => by
            show Steps p.tables e below (T51.setTop (mkF m 203 #[.val (.long q0), .second, .val (.int p1), .val (.int p2), .val (.int zb), .val (.ref b7), .val (.ref b13), .val (.int ((own_usrL ((own_usrL (own_mix wf_23) (32 : Int32)) * (zb.toInt64)) (32 : Int32)).toInt32)), .val (.int (1 : Int32)), .val (.long zs), .second, .val (.long ((own_usrL (own_mix (q0 + (-7046029254386353131 : Int64))) (32 : Int32)) * (zb.toInt64))), .second, .val (.long ((own_usrL (own_mix ((q0 + (-7046029254386353131 : Int64)) + (-7046029254386353131 : Int64))) (32 : Int32)) * (zb.toInt64))), .second] [(.long (own_mix (wf_23 + (-7046029254386353131 : Int64))))])) _
            refine XS.aload X51.here hx rfl (hb hby at_203) rfl rfl ?_
            exact k)
          obtain ⟨cq57, kq57, q57a, q57b, q57c⟩ := isOf hZ rfl f53
          obtain ⟨_, _, ⟨T57, L57, k57, n57⟩, -, X57, ⟨Lc57, hQ57, l57, y57, z57⟩, st57⟩ := X51.virtualBack hx (y := (⟨"com/example/roundhaul/roundhaul/solver/SeededRandom", "nextLong", "()J"⟩ : MethodName)) (z := (⟨"com/example/roundhaul/roundhaul/solver/SeededRandom", "nextLong", "()J"⟩ : MethodName)) hown (mvT hZ (hw _ (List.mem_of_getElem? (i := 27) rfl))) (mvT hZ (hw _ (List.mem_of_getElem? (i := 17) rfl))) (notFace_of_selects (args := #[]) (mvT hZ (hw _ (List.mem_of_getElem? (i := 19) rfl)))) (mvT hZ (hw _ (List.mem_of_getElem? (i := 19) rfl))) (mvT hZ (hw _ (List.mem_of_getElem? (i := 18) rfl))) (by decide) (backOf (W := 2) (rm4 l Z a0 hw [] b13 ((q0 + (-7046029254386353131 : Int64)) + (-7046029254386353131 : Int64)) T51.heap n0 Z51 f53 f55 g_b13) hZ (hw _ (List.mem_of_getElem? (i := 20) rfl)) (hw _ (List.mem_of_getElem? (i := 2) rfl)) (by decide) (by decide)) q57a q57c (g := (mkF m 205 #[.val (.long q0), .second, .val (.int p1), .val (.int p2), .val (.int zb), .val (.ref b7), .val (.ref b13), .val (.int ((own_usrL ((own_usrL (own_mix wf_23) (32 : Int32)) * (zb.toInt64)) (32 : Int32)).toInt32)), .val (.int (1 : Int32)), .val (.long zs), .second, .val (.long ((own_usrL (own_mix (q0 + (-7046029254386353131 : Int64))) (32 : Int32)) * (zb.toInt64))), .second, .val (.long ((own_usrL (own_mix ((q0 + (-7046029254386353131 : Int64)) + (-7046029254386353131 : Int64))) (32 : Int32)) * (zb.toInt64))), .second] [(.ref b13), (.long (own_mix (wf_23 + (-7046029254386353131 : Int64))))])) rfl (by rw [hml]; rfl) (Steps.refl _) (argsL := []) (rest := [(.long (own_mix (wf_23 + (-7046029254386353131 : Int64))))]) (lenOf pd_rm0_2 rfl) rfl (by show 2 * 0 + _ ≤ _; exact Nat.le_of_eq rfl) (hb hby at_205) (fun _ _ => ⟨rfl, rfl, (by decide : 2 + 0 ≤ _), (by decide : 2 + 0 ≤ _)⟩)
          dsimp only [Pt.U, Pt.locs, Pt.cells, Pt.slots] at X57 l57 y57 z57 st57 hQ57
          rw [l57, y57, z57] at X57
          obtain ⟨rfl, N57q, K57, qp57_0, qp57_1⟩ := hQ57
          have N57 := Fr.app N51 N57q
          have f58 := qp51_0.keep K57
          have f59 := f53.keep K57
          have f61 := qp51_1.keep K57 (ninS ne_b7_b13 nin0)
          have Z57 : n0 ≤ T57.heap.size := Nat.le_trans Z51 K57.1
          have KK57 := KK51.trans K57 (allS (Or.inr sz_b13) all0)
          have go57 := go56.tr (C := T57.setTop (mkF m 208 #[.val (.long q0), .second, .val (.int p1), .val (.int p2), .val (.int zb), .val (.ref b7), .val (.ref b13), .val (.int ((own_usrL ((own_usrL (own_mix wf_23) (32 : Int32)) * (zb.toInt64)) (32 : Int32)).toInt32)), .val (.int (1 : Int32)), .val (.long zs), .second, .val (.long ((own_usrL (own_mix (q0 + (-7046029254386353131 : Int64))) (32 : Int32)) * (zb.toInt64))), .second, .val (.long ((own_usrL (own_mix ((q0 + (-7046029254386353131 : Int64)) + (-7046029254386353131 : Int64))) (32 : Int32)) * (zb.toInt64))), .second] [(.long (own_mix (((q0 + (-7046029254386353131 : Int64)) + (-7046029254386353131 : Int64)) + (-7046029254386353131 : Int64)))), (.long (own_mix (wf_23 + (-7046029254386353131 : Int64))))])) st57
          have go63 := go57.step (C := T57.setTop (mkF m 217 #[.val (.long q0), .second, .val (.int p1), .val (.int p2), .val (.int zb), .val (.ref b7), .val (.ref b13), .val (.int ((own_usrL ((own_usrL (own_mix wf_23) (32 : Int32)) * (zb.toInt64)) (32 : Int32)).toInt32)), .val (.int (1 : Int32)), .val (.long zs), .second, .val (.long ((own_usrL (own_mix (q0 + (-7046029254386353131 : Int64))) (32 : Int32)) * (zb.toInt64))), .second, .val (.long ((own_usrL (own_mix ((q0 + (-7046029254386353131 : Int64)) + (-7046029254386353131 : Int64))) (32 : Int32)) * (zb.toInt64))), .second] [(.int (1 : Int32))])) (fun t k => by
            show Steps p.tables e below (T57.setTop (mkF m 208 #[.val (.long q0), .second, .val (.int p1), .val (.int p2), .val (.int zb), .val (.ref b7), .val (.ref b13), .val (.int ((own_usrL ((own_usrL (own_mix wf_23) (32 : Int32)) * (zb.toInt64)) (32 : Int32)).toInt32)), .val (.int (1 : Int32)), .val (.long zs), .second, .val (.long ((own_usrL (own_mix (q0 + (-7046029254386353131 : Int64))) (32 : Int32)) * (zb.toInt64))), .second, .val (.long ((own_usrL (own_mix ((q0 + (-7046029254386353131 : Int64)) + (-7046029254386353131 : Int64))) (32 : Int32)) * (zb.toInt64))), .second] [(.long (own_mix (((q0 + (-7046029254386353131 : Int64)) + (-7046029254386353131 : Int64)) + (-7046029254386353131 : Int64)))), (.long (own_mix (wf_23 + (-7046029254386353131 : Int64))))])) _
            refine XS.lcmp X57.here hx rfl (hb hby at_208) rfl ?_
            show Steps p.tables e below (T57.setTop (mkF m 209 #[.val (.long q0), .second, .val (.int p1), .val (.int p2), .val (.int zb), .val (.ref b7), .val (.ref b13), .val (.int ((own_usrL ((own_usrL (own_mix wf_23) (32 : Int32)) * (zb.toInt64)) (32 : Int32)).toInt32)), .val (.int (1 : Int32)), .val (.long zs), .second, .val (.long ((own_usrL (own_mix (q0 + (-7046029254386353131 : Int64))) (32 : Int32)) * (zb.toInt64))), .second, .val (.long ((own_usrL (own_mix ((q0 + (-7046029254386353131 : Int64)) + (-7046029254386353131 : Int64))) (32 : Int32)) * (zb.toInt64))), .second] [(.int (lcmpW (own_mix (wf_23 + (-7046029254386353131 : Int64))) (own_mix (((q0 + (-7046029254386353131 : Int64)) + (-7046029254386353131 : Int64)) + (-7046029254386353131 : Int64)))))])) _
            refine XS.ifNo X57.here hx rfl (hb hby at_209) rfl ((if0 _ _).trans (teq ((lw_eq _ _).mpr (by rw [(own_J2 hJ hacc (fun q => q (hzs ▸ hc37)) (hzs ▸ hc45))] : (own_mix (wf_23 + (-7046029254386353131 : Int64))) = (own_mix (((q0 + (-7046029254386353131 : Int64)) + (-7046029254386353131 : Int64)) + (-7046029254386353131 : Int64)))))).2) ?_
            show Steps p.tables e below (T57.setTop (mkF m 212 #[.val (.long q0), .second, .val (.int p1), .val (.int p2), .val (.int zb), .val (.ref b7), .val (.ref b13), .val (.int ((own_usrL ((own_usrL (own_mix wf_23) (32 : Int32)) * (zb.toInt64)) (32 : Int32)).toInt32)), .val (.int (1 : Int32)), .val (.long zs), .second, .val (.long ((own_usrL (own_mix (q0 + (-7046029254386353131 : Int64))) (32 : Int32)) * (zb.toInt64))), .second, .val (.long ((own_usrL (own_mix ((q0 + (-7046029254386353131 : Int64)) + (-7046029254386353131 : Int64))) (32 : Int32)) * (zb.toInt64))), .second] [])) _
            refine XS.iconst X57.here hx rfl (hb hby at_212) ?_
            show Steps p.tables e below (T57.setTop (mkF m 213 #[.val (.long q0), .second, .val (.int p1), .val (.int p2), .val (.int zb), .val (.ref b7), .val (.ref b13), .val (.int ((own_usrL ((own_usrL (own_mix wf_23) (32 : Int32)) * (zb.toInt64)) (32 : Int32)).toInt32)), .val (.int (1 : Int32)), .val (.long zs), .second, .val (.long ((own_usrL (own_mix (q0 + (-7046029254386353131 : Int64))) (32 : Int32)) * (zb.toInt64))), .second, .val (.long ((own_usrL (own_mix ((q0 + (-7046029254386353131 : Int64)) + (-7046029254386353131 : Int64))) (32 : Int32)) * (zb.toInt64))), .second] [(.int (1 : Int32))])) _
            refine XS.goto X57.here hx rfl (pc0 := 213) (pc' := 217) rfl (hb hby at_213) (by decide) (by decide) ?_
            exact k)
          obtain ⟨fs, hr, hrun, hended, hW, hsame⟩ := X57.leave (v := some (.int (1 : Int32))) (fun h => by rw [Bd.returns] at h; cases h)
          refine ⟨_, _, go63 _ ?_, hrun, hended, _, _, rfl, ?_, ⟨_, rfl⟩, hW, hsame.mono (by decide) (by decide)⟩
          · exact retN X57 hx (t := .boolean) Bd.returns (by simp) (hb hby at_217) hr
          · show Q_rm0 Z q0 p1 p2 h0 n0 _ T57.heap _
            exact ⟨rfl, N57⟩
      · skip
        have go66 := go38.step (C := T32.setTop (mkF m 138 #[.val (.long q0), .second, .val (.int p1), .val (.int p2), .val (.int zb), .val (.ref b7), .val (.ref b13), .val (.int ((own_usrL ((own_usrL (own_mix wf_23) (32 : Int32)) * (zb.toInt64)) (32 : Int32)).toInt32)), .val (.int (1 : Int32)), .val (.long zs), .second, .val (.long ((own_usrL (own_mix (q0 + (-7046029254386353131 : Int64))) (32 : Int32)) * (zb.toInt64))), .second, .unset, .unset] [(.ref b7)])) (fun t k => by
          show Steps p.tables e below (T32.setTop (mkF m 117 #[.val (.long q0), .second, .val (.int p1), .val (.int p2), .val (.int zb), .val (.ref b7), .val (.ref b13), .val (.int ((own_usrL ((own_usrL (own_mix wf_23) (32 : Int32)) * (zb.toInt64)) (32 : Int32)).toInt32)), .val (.int (1 : Int32)), .val (.long zs), .second, .val (.long ((own_usrL (own_mix (q0 + (-7046029254386353131 : Int64))) (32 : Int32)) * (zb.toInt64))), .second, .unset, .unset] [(.int (lcmpW (((own_usrL (own_mix (q0 + (-7046029254386353131 : Int64))) (32 : Int32)) * (zb.toInt64)) &&& (4294967295 : Int64)) zs))])) _
          refine XS.ifNo X32.here hx rfl (hb hby at_117) rfl ((if0 _ _).trans (flt (fun q => hc37 ((lw_lt _ _).mp q))).1) ?_
          show Steps p.tables e below (T32.setTop (mkF m 120 #[.val (.long q0), .second, .val (.int p1), .val (.int p2), .val (.int zb), .val (.ref b7), .val (.ref b13), .val (.int ((own_usrL ((own_usrL (own_mix wf_23) (32 : Int32)) * (zb.toInt64)) (32 : Int32)).toInt32)), .val (.int (1 : Int32)), .val (.long zs), .second, .val (.long ((own_usrL (own_mix (q0 + (-7046029254386353131 : Int64))) (32 : Int32)) * (zb.toInt64))), .second, .unset, .unset] [])) _
          refine XS.iload X32.here hx rfl (hb hby at_120) rfl ?_
          show Steps p.tables e below (T32.setTop (mkF m 122 #[.val (.long q0), .second, .val (.int p1), .val (.int p2), .val (.int zb), .val (.ref b7), .val (.ref b13), .val (.int ((own_usrL ((own_usrL (own_mix wf_23) (32 : Int32)) * (zb.toInt64)) (32 : Int32)).toInt32)), .val (.int (1 : Int32)), .val (.long zs), .second, .val (.long ((own_usrL (own_mix (q0 + (-7046029254386353131 : Int64))) (32 : Int32)) * (zb.toInt64))), .second, .unset, .unset] [(.int (1 : Int32))])) _
          refine XS.ifNo X32.here hx rfl (hb hby at_122) rfl ((if0 _ _).trans (feq ((by decide) : ¬ ((1 : Int32) = (0 : Int32)))).1) ?_
          show Steps p.tables e below (T32.setTop (mkF m 125 #[.val (.long q0), .second, .val (.int p1), .val (.int p2), .val (.int zb), .val (.ref b7), .val (.ref b13), .val (.int ((own_usrL ((own_usrL (own_mix wf_23) (32 : Int32)) * (zb.toInt64)) (32 : Int32)).toInt32)), .val (.int (1 : Int32)), .val (.long zs), .second, .val (.long ((own_usrL (own_mix (q0 + (-7046029254386353131 : Int64))) (32 : Int32)) * (zb.toInt64))), .second, .unset, .unset] [])) _
          refine XS.iload X32.here hx rfl (hb hby at_125) rfl ?_
          show Steps p.tables e below (T32.setTop (mkF m 127 #[.val (.long q0), .second, .val (.int p1), .val (.int p2), .val (.int zb), .val (.ref b7), .val (.ref b13), .val (.int ((own_usrL ((own_usrL (own_mix wf_23) (32 : Int32)) * (zb.toInt64)) (32 : Int32)).toInt32)), .val (.int (1 : Int32)), .val (.long zs), .second, .val (.long ((own_usrL (own_mix (q0 + (-7046029254386353131 : Int64))) (32 : Int32)) * (zb.toInt64))), .second, .unset, .unset] [(.int ((own_usrL ((own_usrL (own_mix wf_23) (32 : Int32)) * (zb.toInt64)) (32 : Int32)).toInt32))])) _
          refine XS.lload X32.here hx rfl (hb hby at_127) rfl ?_
          show Steps p.tables e below (T32.setTop (mkF m 129 #[.val (.long q0), .second, .val (.int p1), .val (.int p2), .val (.int zb), .val (.ref b7), .val (.ref b13), .val (.int ((own_usrL ((own_usrL (own_mix wf_23) (32 : Int32)) * (zb.toInt64)) (32 : Int32)).toInt32)), .val (.int (1 : Int32)), .val (.long zs), .second, .val (.long ((own_usrL (own_mix (q0 + (-7046029254386353131 : Int64))) (32 : Int32)) * (zb.toInt64))), .second, .unset, .unset] [(.long ((own_usrL (own_mix (q0 + (-7046029254386353131 : Int64))) (32 : Int32)) * (zb.toInt64))), (.int ((own_usrL ((own_usrL (own_mix wf_23) (32 : Int32)) * (zb.toInt64)) (32 : Int32)).toInt32))])) _
          refine XS.bipush X32.here hx rfl (hb hby at_129) ?_
          show Steps p.tables e below (T32.setTop (mkF m 131 #[.val (.long q0), .second, .val (.int p1), .val (.int p2), .val (.int zb), .val (.ref b7), .val (.ref b13), .val (.int ((own_usrL ((own_usrL (own_mix wf_23) (32 : Int32)) * (zb.toInt64)) (32 : Int32)).toInt32)), .val (.int (1 : Int32)), .val (.long zs), .second, .val (.long ((own_usrL (own_mix (q0 + (-7046029254386353131 : Int64))) (32 : Int32)) * (zb.toInt64))), .second, .unset, .unset] [(.int (32 : Int32)), (.long ((own_usrL (own_mix (q0 + (-7046029254386353131 : Int64))) (32 : Int32)) * (zb.toInt64))), (.int ((own_usrL ((own_usrL (own_mix wf_23) (32 : Int32)) * (zb.toInt64)) (32 : Int32)).toInt32))])) _
          refine XS.lushr X32.here hx rfl (hb hby at_131) rfl ?_
          show Steps p.tables e below (T32.setTop (mkF m 132 #[.val (.long q0), .second, .val (.int p1), .val (.int p2), .val (.int zb), .val (.ref b7), .val (.ref b13), .val (.int ((own_usrL ((own_usrL (own_mix wf_23) (32 : Int32)) * (zb.toInt64)) (32 : Int32)).toInt32)), .val (.int (1 : Int32)), .val (.long zs), .second, .val (.long ((own_usrL (own_mix (q0 + (-7046029254386353131 : Int64))) (32 : Int32)) * (zb.toInt64))), .second, .unset, .unset] [(.long (own_usrL ((own_usrL (own_mix (q0 + (-7046029254386353131 : Int64))) (32 : Int32)) * (zb.toInt64)) (32 : Int32))), (.int ((own_usrL ((own_usrL (own_mix wf_23) (32 : Int32)) * (zb.toInt64)) (32 : Int32)).toInt32))])) _
          refine XS.l2i X32.here hx rfl (hb hby at_132) rfl ?_
          show Steps p.tables e below (T32.setTop (mkF m 133 #[.val (.long q0), .second, .val (.int p1), .val (.int p2), .val (.int zb), .val (.ref b7), .val (.ref b13), .val (.int ((own_usrL ((own_usrL (own_mix wf_23) (32 : Int32)) * (zb.toInt64)) (32 : Int32)).toInt32)), .val (.int (1 : Int32)), .val (.long zs), .second, .val (.long ((own_usrL (own_mix (q0 + (-7046029254386353131 : Int64))) (32 : Int32)) * (zb.toInt64))), .second, .unset, .unset] [(.int ((own_usrL ((own_usrL (own_mix (q0 + (-7046029254386353131 : Int64))) (32 : Int32)) * (zb.toInt64)) (32 : Int32)).toInt32)), (.int ((own_usrL ((own_usrL (own_mix wf_23) (32 : Int32)) * (zb.toInt64)) (32 : Int32)).toInt32))])) _
          refine XS.icmpNo X32.here hx rfl (hb hby at_133) rfl (teq (by rw [(own_J1 hJ (hzs ▸ hc37))] : ((own_usrL ((own_usrL (own_mix wf_23) (32 : Int32)) * (zb.toInt64)) (32 : Int32)).toInt32) = ((own_usrL ((own_usrL (own_mix (q0 + (-7046029254386353131 : Int64))) (32 : Int32)) * (zb.toInt64)) (32 : Int32)).toInt32))).2 ?_
          show Steps p.tables e below (T32.setTop (mkF m 136 #[.val (.long q0), .second, .val (.int p1), .val (.int p2), .val (.int zb), .val (.ref b7), .val (.ref b13), .val (.int ((own_usrL ((own_usrL (own_mix wf_23) (32 : Int32)) * (zb.toInt64)) (32 : Int32)).toInt32)), .val (.int (1 : Int32)), .val (.long zs), .second, .val (.long ((own_usrL (own_mix (q0 + (-7046029254386353131 : Int64))) (32 : Int32)) * (zb.toInt64))), .second, .unset, .unset] [])) _
          refine XS.aload X32.here hx rfl (hb hby at_136) rfl rfl ?_
          exact k)
        obtain ⟨cq67, kq67, q67a, q67b, q67c⟩ := isOf hZ rfl f33
        obtain ⟨_, _, ⟨T67, L67, k67, n67⟩, -, X67, ⟨Lc67, hQ67, l67, y67, z67⟩, st67⟩ := X32.virtualBack hx (y := (⟨"com/example/roundhaul/roundhaul/solver/SeededRandom", "nextLong", "()J"⟩ : MethodName)) (z := (⟨"com/example/roundhaul/roundhaul/solver/SeededRandom", "nextLong", "()J"⟩ : MethodName)) hown (mvT hZ (hw _ (List.mem_of_getElem? (i := 27) rfl))) (mvT hZ (hw _ (List.mem_of_getElem? (i := 17) rfl))) (notFace_of_selects (args := #[]) (mvT hZ (hw _ (List.mem_of_getElem? (i := 19) rfl)))) (mvT hZ (hw _ (List.mem_of_getElem? (i := 19) rfl))) (mvT hZ (hw _ (List.mem_of_getElem? (i := 18) rfl))) (by decide) (backOf (W := 0) (rm4 l Z a0 hw [] b7 wf_23 T32.heap n0 Z32 f33 f36 g_b7) hZ (hw _ (List.mem_of_getElem? (i := 20) rfl)) (hw _ (List.mem_of_getElem? (i := 2) rfl)) (by decide) (by decide)) q67a q67c (g := (mkF m 138 #[.val (.long q0), .second, .val (.int p1), .val (.int p2), .val (.int zb), .val (.ref b7), .val (.ref b13), .val (.int ((own_usrL ((own_usrL (own_mix wf_23) (32 : Int32)) * (zb.toInt64)) (32 : Int32)).toInt32)), .val (.int (1 : Int32)), .val (.long zs), .second, .val (.long ((own_usrL (own_mix (q0 + (-7046029254386353131 : Int64))) (32 : Int32)) * (zb.toInt64))), .second, .unset, .unset] [(.ref b7)])) rfl (by rw [hml]; rfl) (Steps.refl _) (argsL := []) (rest := []) (lenOf pd_rm0_2 rfl) rfl (by show 2 * 0 + _ ≤ _; exact Nat.le_of_eq rfl) (hb hby at_138) (fun _ _ => ⟨rfl, rfl, (by decide : 2 + 0 ≤ _), (by decide : 2 + 0 ≤ _)⟩)
        dsimp only [Pt.U, Pt.locs, Pt.cells, Pt.slots] at X67 l67 y67 z67 st67 hQ67
        rw [l67, y67, z67] at X67
        obtain ⟨rfl, N67q, K67, qp67_0, qp67_1⟩ := hQ67
        have N67 := Fr.app N32 N67q
        have f68 := f33.keep K67
        have f69 := qp32_0.keep K67
        have f71 := qp32_1.keep K67 (ninS (Ne.symm ne_b7_b13) nin0)
        have Z67 : n0 ≤ T67.heap.size := Nat.le_trans Z32 K67.1
        have KK67 := KK32.trans K67 (allS (Or.inr sz_b7) all0)
        have go67 := go66.tr (C := T67.setTop (mkF m 141 #[.val (.long q0), .second, .val (.int p1), .val (.int p2), .val (.int zb), .val (.ref b7), .val (.ref b13), .val (.int ((own_usrL ((own_usrL (own_mix wf_23) (32 : Int32)) * (zb.toInt64)) (32 : Int32)).toInt32)), .val (.int (1 : Int32)), .val (.long zs), .second, .val (.long ((own_usrL (own_mix (q0 + (-7046029254386353131 : Int64))) (32 : Int32)) * (zb.toInt64))), .second, .unset, .unset] [(.long (own_mix (wf_23 + (-7046029254386353131 : Int64))))])) st67
        have go72 := go67.step (C := T67.setTop (mkF m 143 #[.val (.long q0), .second, .val (.int p1), .val (.int p2), .val (.int zb), .val (.ref b7), .val (.ref b13), .val (.int ((own_usrL ((own_usrL (own_mix wf_23) (32 : Int32)) * (zb.toInt64)) (32 : Int32)).toInt32)), .val (.int (1 : Int32)), .val (.long zs), .second, .val (.long ((own_usrL (own_mix (q0 + (-7046029254386353131 : Int64))) (32 : Int32)) * (zb.toInt64))), .second, .unset, .unset] [(.ref b13), (.long (own_mix (wf_23 + (-7046029254386353131 : Int64))))])) (fun t k => by
          show Steps p.tables e below (T67.setTop (mkF m 141 #[.val (.long q0), .second, .val (.int p1), .val (.int p2), .val (.int zb), .val (.ref b7), .val (.ref b13), .val (.int ((own_usrL ((own_usrL (own_mix wf_23) (32 : Int32)) * (zb.toInt64)) (32 : Int32)).toInt32)), .val (.int (1 : Int32)), .val (.long zs), .second, .val (.long ((own_usrL (own_mix (q0 + (-7046029254386353131 : Int64))) (32 : Int32)) * (zb.toInt64))), .second, .unset, .unset] [(.long (own_mix (wf_23 + (-7046029254386353131 : Int64))))])) _
          refine XS.aload X67.here hx rfl (hb hby at_141) rfl rfl ?_
          exact k)
        obtain ⟨cq73, kq73, q73a, q73b, q73c⟩ := isOf hZ rfl f69
        obtain ⟨_, _, ⟨T73, L73, k73, n73⟩, -, X73, ⟨Lc73, hQ73, l73, y73, z73⟩, st73⟩ := X67.virtualBack hx (y := (⟨"com/example/roundhaul/roundhaul/solver/SeededRandom", "nextLong", "()J"⟩ : MethodName)) (z := (⟨"com/example/roundhaul/roundhaul/solver/SeededRandom", "nextLong", "()J"⟩ : MethodName)) hown (mvT hZ (hw _ (List.mem_of_getElem? (i := 27) rfl))) (mvT hZ (hw _ (List.mem_of_getElem? (i := 17) rfl))) (notFace_of_selects (args := #[]) (mvT hZ (hw _ (List.mem_of_getElem? (i := 19) rfl)))) (mvT hZ (hw _ (List.mem_of_getElem? (i := 19) rfl))) (mvT hZ (hw _ (List.mem_of_getElem? (i := 18) rfl))) (by decide) (backOf (W := 2) (rm4 l Z a0 hw [] b13 (q0 + (-7046029254386353131 : Int64)) T67.heap n0 Z67 f69 f71 g_b13) hZ (hw _ (List.mem_of_getElem? (i := 20) rfl)) (hw _ (List.mem_of_getElem? (i := 2) rfl)) (by decide) (by decide)) q73a q73c (g := (mkF m 143 #[.val (.long q0), .second, .val (.int p1), .val (.int p2), .val (.int zb), .val (.ref b7), .val (.ref b13), .val (.int ((own_usrL ((own_usrL (own_mix wf_23) (32 : Int32)) * (zb.toInt64)) (32 : Int32)).toInt32)), .val (.int (1 : Int32)), .val (.long zs), .second, .val (.long ((own_usrL (own_mix (q0 + (-7046029254386353131 : Int64))) (32 : Int32)) * (zb.toInt64))), .second, .unset, .unset] [(.ref b13), (.long (own_mix (wf_23 + (-7046029254386353131 : Int64))))])) rfl (by rw [hml]; rfl) (Steps.refl _) (argsL := []) (rest := [(.long (own_mix (wf_23 + (-7046029254386353131 : Int64))))]) (lenOf pd_rm0_2 rfl) rfl (by show 2 * 0 + _ ≤ _; exact Nat.le_of_eq rfl) (hb hby at_143) (fun _ _ => ⟨rfl, rfl, (by decide : 2 + 0 ≤ _), (by decide : 2 + 0 ≤ _)⟩)
        dsimp only [Pt.U, Pt.locs, Pt.cells, Pt.slots] at X73 l73 y73 z73 st73 hQ73
        rw [l73, y73, z73] at X73
        obtain ⟨rfl, N73q, K73, qp73_0, qp73_1⟩ := hQ73
        have N73 := Fr.app N67 N73q
        have f74 := qp67_0.keep K73
        have f75 := f69.keep K73
        have f77 := qp67_1.keep K73 (ninS ne_b7_b13 nin0)
        have Z73 : n0 ≤ T73.heap.size := Nat.le_trans Z67 K73.1
        have KK73 := KK67.trans K73 (allS (Or.inr sz_b13) all0)
        have go73 := go72.tr (C := T73.setTop (mkF m 146 #[.val (.long q0), .second, .val (.int p1), .val (.int p2), .val (.int zb), .val (.ref b7), .val (.ref b13), .val (.int ((own_usrL ((own_usrL (own_mix wf_23) (32 : Int32)) * (zb.toInt64)) (32 : Int32)).toInt32)), .val (.int (1 : Int32)), .val (.long zs), .second, .val (.long ((own_usrL (own_mix (q0 + (-7046029254386353131 : Int64))) (32 : Int32)) * (zb.toInt64))), .second, .unset, .unset] [(.long (own_mix ((q0 + (-7046029254386353131 : Int64)) + (-7046029254386353131 : Int64)))), (.long (own_mix (wf_23 + (-7046029254386353131 : Int64))))])) st73
        have go79 := go73.step (C := T73.setTop (mkF m 155 #[.val (.long q0), .second, .val (.int p1), .val (.int p2), .val (.int zb), .val (.ref b7), .val (.ref b13), .val (.int ((own_usrL ((own_usrL (own_mix wf_23) (32 : Int32)) * (zb.toInt64)) (32 : Int32)).toInt32)), .val (.int (1 : Int32)), .val (.long zs), .second, .val (.long ((own_usrL (own_mix (q0 + (-7046029254386353131 : Int64))) (32 : Int32)) * (zb.toInt64))), .second, .unset, .unset] [(.int (1 : Int32))])) (fun t k => by
          show Steps p.tables e below (T73.setTop (mkF m 146 #[.val (.long q0), .second, .val (.int p1), .val (.int p2), .val (.int zb), .val (.ref b7), .val (.ref b13), .val (.int ((own_usrL ((own_usrL (own_mix wf_23) (32 : Int32)) * (zb.toInt64)) (32 : Int32)).toInt32)), .val (.int (1 : Int32)), .val (.long zs), .second, .val (.long ((own_usrL (own_mix (q0 + (-7046029254386353131 : Int64))) (32 : Int32)) * (zb.toInt64))), .second, .unset, .unset] [(.long (own_mix ((q0 + (-7046029254386353131 : Int64)) + (-7046029254386353131 : Int64)))), (.long (own_mix (wf_23 + (-7046029254386353131 : Int64))))])) _
          refine XS.lcmp X73.here hx rfl (hb hby at_146) rfl ?_
          show Steps p.tables e below (T73.setTop (mkF m 147 #[.val (.long q0), .second, .val (.int p1), .val (.int p2), .val (.int zb), .val (.ref b7), .val (.ref b13), .val (.int ((own_usrL ((own_usrL (own_mix wf_23) (32 : Int32)) * (zb.toInt64)) (32 : Int32)).toInt32)), .val (.int (1 : Int32)), .val (.long zs), .second, .val (.long ((own_usrL (own_mix (q0 + (-7046029254386353131 : Int64))) (32 : Int32)) * (zb.toInt64))), .second, .unset, .unset] [(.int (lcmpW (own_mix (wf_23 + (-7046029254386353131 : Int64))) (own_mix ((q0 + (-7046029254386353131 : Int64)) + (-7046029254386353131 : Int64)))))])) _
          refine XS.ifNo X73.here hx rfl (hb hby at_147) rfl ((if0 _ _).trans (teq ((lw_eq _ _).mpr (by rw [(own_J1 hJ (hzs ▸ hc37))] : (own_mix (wf_23 + (-7046029254386353131 : Int64))) = (own_mix ((q0 + (-7046029254386353131 : Int64)) + (-7046029254386353131 : Int64)))))).2) ?_
          show Steps p.tables e below (T73.setTop (mkF m 150 #[.val (.long q0), .second, .val (.int p1), .val (.int p2), .val (.int zb), .val (.ref b7), .val (.ref b13), .val (.int ((own_usrL ((own_usrL (own_mix wf_23) (32 : Int32)) * (zb.toInt64)) (32 : Int32)).toInt32)), .val (.int (1 : Int32)), .val (.long zs), .second, .val (.long ((own_usrL (own_mix (q0 + (-7046029254386353131 : Int64))) (32 : Int32)) * (zb.toInt64))), .second, .unset, .unset] [])) _
          refine XS.iconst X73.here hx rfl (hb hby at_150) ?_
          show Steps p.tables e below (T73.setTop (mkF m 151 #[.val (.long q0), .second, .val (.int p1), .val (.int p2), .val (.int zb), .val (.ref b7), .val (.ref b13), .val (.int ((own_usrL ((own_usrL (own_mix wf_23) (32 : Int32)) * (zb.toInt64)) (32 : Int32)).toInt32)), .val (.int (1 : Int32)), .val (.long zs), .second, .val (.long ((own_usrL (own_mix (q0 + (-7046029254386353131 : Int64))) (32 : Int32)) * (zb.toInt64))), .second, .unset, .unset] [(.int (1 : Int32))])) _
          refine XS.goto X73.here hx rfl (pc0 := 151) (pc' := 155) rfl (hb hby at_151) (by decide) (by decide) ?_
          exact k)
        obtain ⟨fs, hr, hrun, hended, hW, hsame⟩ := X73.leave (v := some (.int (1 : Int32))) (fun h => by rw [Bd.returns] at h; cases h)
        refine ⟨_, _, go79 _ ?_, hrun, hended, _, _, rfl, ?_, ⟨_, rfl⟩, hW, hsame.mono (by decide) (by decide)⟩
        · exact retN X73 hx (t := .boolean) Bd.returns (by simp) (hb hby at_155) hr
        · show Q_rm0 Z q0 p1 p2 h0 n0 _ T73.heap _
          exact ⟨rfl, N73⟩
    · skip
      have go80 := go4.step (C := s₁.setTop (mkF m 37 #[.val (.long q0), .second, .val (.int p1), .val (.int p2), .val (.int (p1 &&& (2147483647 : Int32))), .val (.int (p1 &&& (2147483647 : Int32))), .unset, .unset, .unset, .unset, .unset, .unset, .unset, .unset, .unset] [])) (fun t k => by
        show Steps p.tables e below (s₁.setTop (mkF m 26 #[.val (.long q0), .second, .val (.int p1), .val (.int p2), .unset, .val (.int (p1 &&& (2147483647 : Int32))), .unset, .unset, .unset, .unset, .unset, .unset, .unset, .unset, .unset] [(.int (p1 &&& (2147483647 : Int32)))])) _
        refine XS.ifYes X0.here hx rfl (pc0 := 26) (pc' := 33) rfl (hb hby at_26) rfl ((if0 _ _).trans (feq hc3).2) (by decide) (by decide) ?_
        show Steps p.tables e below (s₁.setTop (mkF m 33 #[.val (.long q0), .second, .val (.int p1), .val (.int p2), .unset, .val (.int (p1 &&& (2147483647 : Int32))), .unset, .unset, .unset, .unset, .unset, .unset, .unset, .unset, .unset] [])) _
        refine XS.iload X0.here hx rfl (hb hby at_33) rfl ?_
        show Steps p.tables e below (s₁.setTop (mkF m 35 #[.val (.long q0), .second, .val (.int p1), .val (.int p2), .unset, .val (.int (p1 &&& (2147483647 : Int32))), .unset, .unset, .unset, .unset, .unset, .unset, .unset, .unset, .unset] [(.int (p1 &&& (2147483647 : Int32)))])) _
        refine XS.istore X0.here hx rfl (hb hby at_35) rfl (l' := #[.val (.long q0), .second, .val (.int p1), .val (.int p2), .val (.int (p1 &&& (2147483647 : Int32))), .val (.int (p1 &&& (2147483647 : Int32))), .unset, .unset, .unset, .unset, .unset, .unset, .unset, .unset, .unset]) rfl ?_
        exact k)
      have hb0 : (0 : Int32) < (p1 &&& (2147483647 : Int32)) := own_bB hc3
      obtain ⟨zb, hzb⟩ : ∃ z : Int32, z = (p1 &&& (2147483647 : Int32)) := ⟨_, rfl⟩
      rw [← hzb] at hb0
      have go81 := go80.step (C := s₁.setTop (mkF m 37 #[.val (.long q0), .second, .val (.int p1), .val (.int p2), .val (.int zb), .val (.int (p1 &&& (2147483647 : Int32))), .unset, .unset, .unset, .unset, .unset, .unset, .unset, .unset, .unset] [])) (fun t k => by rw [hzb] at k; exact k)
      obtain ⟨T82, h82, X82, e82, E82, A82, D82, -, st82⟩ := newO X0 hx hZ hown (hw _ (List.mem_of_getElem? (i := 0) rfl)) (hw _ (List.mem_of_getElem? (i := 1) rfl)) (hw _ (List.mem_of_getElem? (i := 2) rfl)) e0 (g := (mkF m 37 #[.val (.long q0), .second, .val (.int p1), .val (.int p2), .val (.int zb), .val (.int (p1 &&& (2147483647 : Int32))), .unset, .unset, .unset, .unset, .unset, .unset, .unset, .unset, .unset] [])) rfl (hb hby at_37) (by decide) (by decide)
      obtain ⟨b82, g82⟩ : ∃ z, z = h0.size := ⟨_, rfl⟩
      rw [← g82] at A82 D82 st82
      have g_b82 : n0 ≤ b82 := Nat.le_trans Z0 (Nat.le_of_eq g82.symm)
      have sz_b82 : h0.size ≤ b82 := Nat.le_trans K0.1 (Nat.le_of_eq g82.symm)
      have F82_state : Fld Z h82 b82 "com/example/roundhaul/roundhaul/solver/SeededRandom" "state" "J" (.long (0 : Int64)) := D82 (Or.inl (hw _ (List.mem_of_getElem? (i := 10) rfl))) (ty := .long) (by decide)
      have Z82 : n0 ≤ h82.size := Nat.le_trans Z0 E82.1
      have K82 := K0.ext E82
      have go82 := go81.step (C := T82.setTop (mkF m 40 #[.val (.long q0), .second, .val (.int p1), .val (.int p2), .val (.int zb), .val (.int (p1 &&& (2147483647 : Int32))), .unset, .unset, .unset, .unset, .unset, .unset, .unset, .unset, .unset] [(.ref b82)])) (fun t k => st82 t k)
      have go83 := go82.step (C := T82.setTop (mkF m 42 #[.val (.long q0), .second, .val (.int p1), .val (.int p2), .val (.int zb), .val (.int (p1 &&& (2147483647 : Int32))), .unset, .unset, .unset, .unset, .unset, .unset, .unset, .unset, .unset] [(.long q0), (.ref b82), (.ref b82)])) (fun t k => by
        show Steps p.tables e below (T82.setTop (mkF m 40 #[.val (.long q0), .second, .val (.int p1), .val (.int p2), .val (.int zb), .val (.int (p1 &&& (2147483647 : Int32))), .unset, .unset, .unset, .unset, .unset, .unset, .unset, .unset, .unset] [(.ref b82)])) _
        refine XS.dup X82.here hx rfl (hb hby at_40) rfl rfl ?_
        show Steps p.tables e below (T82.setTop (mkF m 41 #[.val (.long q0), .second, .val (.int p1), .val (.int p2), .val (.int zb), .val (.int (p1 &&& (2147483647 : Int32))), .unset, .unset, .unset, .unset, .unset, .unset, .unset, .unset, .unset] [(.ref b82), (.ref b82)])) _
        refine XS.lloadN X82.here hx rfl (hb hby at_41) rfl ?_
        exact k)
      obtain ⟨_, _, ⟨T84, L84, k84, n84⟩, -, X84, ⟨Lc84, hQ84, l84, y84, z84⟩, st84⟩ := X82.specialBack hx (y := (⟨"com/example/roundhaul/roundhaul/solver/SeededRandom", "<init>", "(J)V"⟩ : MethodName)) rfl hown (mvT hZ (hw _ (List.mem_of_getElem? (i := 3) rfl))) (mvT hZ (hw _ (List.mem_of_getElem? (i := 4) rfl))) (mvT hZ (hw _ (List.mem_of_getElem? (i := 5) rfl))) (by decide) (backOf (W := 1) (rm1 l Z a0 hw [] b82 q0 h82 n0 Z82 A82 g_b82 F82_state) hZ (hw _ (List.mem_of_getElem? (i := 5) rfl)) (hw _ (List.mem_of_getElem? (i := 2) rfl)) (by decide) (by decide)) (g := (mkF m 42 #[.val (.long q0), .second, .val (.int p1), .val (.int p2), .val (.int zb), .val (.int (p1 &&& (2147483647 : Int32))), .unset, .unset, .unset, .unset, .unset, .unset, .unset, .unset, .unset] [(.long q0), (.ref b82), (.ref b82)])) rfl (by rw [hml]; rfl) (Steps.refl _) (a := b82) (argsL := [(.long q0)]) (rest := [(.ref b82)]) (lenOf pd_rm0_0 rfl) rfl (by show 2 * 0 + _ ≤ _; exact Nat.le_of_eq rfl) (hb hby at_42) (fun _ _ => ⟨rfl, e82, (by decide : 1 + 0 ≤ _), (by decide : 1 + 0 ≤ _)⟩)
      dsimp only [Pt.U, Pt.locs, Pt.cells, Pt.slots] at X84 l84 y84 z84 st84 hQ84
      rw [l84, y84, z84] at X84
      obtain ⟨rfl, N84q, K84, qp84_0, qp84_1⟩ := hQ84
      have N84 := Fr.app N0 N84q
      have f85 := A82.keep K84
      have Z84 : n0 ≤ T84.heap.size := Nat.le_trans Z82 K84.1
      have KK84 := K82.trans K84 (allS (Or.inr sz_b82) all0)
      have go84 := go83.tr (C := T84.setTop (mkF m 45 #[.val (.long q0), .second, .val (.int p1), .val (.int p2), .val (.int zb), .val (.int (p1 &&& (2147483647 : Int32))), .unset, .unset, .unset, .unset, .unset, .unset, .unset, .unset, .unset] [(.ref b82)])) st84
      have go87 := go84.step (C := T84.setTop (mkF m 47 #[.val (.long q0), .second, .val (.int p1), .val (.int p2), .val (.int zb), .val (.ref b82), .unset, .unset, .unset, .unset, .unset, .unset, .unset, .unset, .unset] [])) (fun t k => by
        show Steps p.tables e below (T84.setTop (mkF m 45 #[.val (.long q0), .second, .val (.int p1), .val (.int p2), .val (.int zb), .val (.int (p1 &&& (2147483647 : Int32))), .unset, .unset, .unset, .unset, .unset, .unset, .unset, .unset, .unset] [(.ref b82)])) _
        refine XS.astore X84.here hx rfl (hb hby at_45) rfl rfl (l' := #[.val (.long q0), .second, .val (.int p1), .val (.int p2), .val (.int zb), .val (.ref b82), .unset, .unset, .unset, .unset, .unset, .unset, .unset, .unset, .unset]) rfl ?_
        exact k)
      obtain ⟨T88, h88, X88, e88, E88, A88, D88, -, st88⟩ := newO X84 hx hZ hown (hw _ (List.mem_of_getElem? (i := 0) rfl)) (hw _ (List.mem_of_getElem? (i := 1) rfl)) (hw _ (List.mem_of_getElem? (i := 2) rfl)) rfl (g := (mkF m 47 #[.val (.long q0), .second, .val (.int p1), .val (.int p2), .val (.int zb), .val (.ref b82), .unset, .unset, .unset, .unset, .unset, .unset, .unset, .unset, .unset] [])) rfl (hb hby at_47) (by decide) (by decide)
      obtain ⟨b88, g88⟩ : ∃ z, z = T84.heap.size := ⟨_, rfl⟩
      rw [← g88] at A88 D88 st88
      have ne_b82_b88 : b82 ≠ b88 := Nat.ne_of_lt (Nat.lt_of_lt_of_le qp84_0.lt (Nat.le_of_eq g88.symm))
      have g_b88 : n0 ≤ b88 := Nat.le_trans Z84 (Nat.le_of_eq g88.symm)
      have sz_b88 : h0.size ≤ b88 := Nat.le_trans KK84.1 (Nat.le_of_eq g88.symm)
      have f89 := qp84_0.ext E88
      have f90 := qp84_1.ext E88
      have F88_state : Fld Z h88 b88 "com/example/roundhaul/roundhaul/solver/SeededRandom" "state" "J" (.long (0 : Int64)) := D88 (Or.inl (hw _ (List.mem_of_getElem? (i := 10) rfl))) (ty := .long) (by decide)
      have Z88 : n0 ≤ h88.size := Nat.le_trans Z84 E88.1
      have K88 := KK84.ext E88
      have go88 := go87.step (C := T88.setTop (mkF m 50 #[.val (.long q0), .second, .val (.int p1), .val (.int p2), .val (.int zb), .val (.ref b82), .unset, .unset, .unset, .unset, .unset, .unset, .unset, .unset, .unset] [(.ref b88)])) (fun t k => st88 t k)
      have go91 := go88.step (C := T88.setTop (mkF m 52 #[.val (.long q0), .second, .val (.int p1), .val (.int p2), .val (.int zb), .val (.ref b82), .unset, .unset, .unset, .unset, .unset, .unset, .unset, .unset, .unset] [(.long q0), (.ref b88), (.ref b88)])) (fun t k => by
        show Steps p.tables e below (T88.setTop (mkF m 50 #[.val (.long q0), .second, .val (.int p1), .val (.int p2), .val (.int zb), .val (.ref b82), .unset, .unset, .unset, .unset, .unset, .unset, .unset, .unset, .unset] [(.ref b88)])) _
        refine XS.dup X88.here hx rfl (hb hby at_50) rfl rfl ?_
        show Steps p.tables e below (T88.setTop (mkF m 51 #[.val (.long q0), .second, .val (.int p1), .val (.int p2), .val (.int zb), .val (.ref b82), .unset, .unset, .unset, .unset, .unset, .unset, .unset, .unset, .unset] [(.ref b88), (.ref b88)])) _
        refine XS.lloadN X88.here hx rfl (hb hby at_51) rfl ?_
        exact k)
      obtain ⟨_, _, ⟨T92, L92, k92, n92⟩, -, X92, ⟨Lc92, hQ92, l92, y92, z92⟩, st92⟩ := X88.specialBack hx (y := (⟨"com/example/roundhaul/roundhaul/solver/SeededRandom", "<init>", "(J)V"⟩ : MethodName)) rfl hown (mvT hZ (hw _ (List.mem_of_getElem? (i := 3) rfl))) (mvT hZ (hw _ (List.mem_of_getElem? (i := 4) rfl))) (mvT hZ (hw _ (List.mem_of_getElem? (i := 5) rfl))) (by decide) (backOf (W := 1) (rm1 l Z a0 hw [] b88 q0 h88 n0 Z88 A88 g_b88 F88_state) hZ (hw _ (List.mem_of_getElem? (i := 5) rfl)) (hw _ (List.mem_of_getElem? (i := 2) rfl)) (by decide) (by decide)) (g := (mkF m 52 #[.val (.long q0), .second, .val (.int p1), .val (.int p2), .val (.int zb), .val (.ref b82), .unset, .unset, .unset, .unset, .unset, .unset, .unset, .unset, .unset] [(.long q0), (.ref b88), (.ref b88)])) rfl (by rw [hml]; rfl) (Steps.refl _) (a := b88) (argsL := [(.long q0)]) (rest := [(.ref b88)]) (lenOf pd_rm0_0 rfl) rfl (by show 2 * 0 + _ ≤ _; exact Nat.le_of_eq rfl) (hb hby at_52) (fun _ _ => ⟨rfl, e88, (by decide : 2 + 0 ≤ _), (by decide : 2 + 0 ≤ _)⟩)
      dsimp only [Pt.U, Pt.locs, Pt.cells, Pt.slots] at X92 l92 y92 z92 st92 hQ92
      rw [l92, y92, z92] at X92
      obtain ⟨rfl, N92q, K92, qp92_0, qp92_1⟩ := hQ92
      have N92 := Fr.app N84 N92q
      have f93 := f89.keep K92
      have f94 := f90.keep K92 (ninS ne_b82_b88 nin0)
      have f95 := A88.keep K92
      have Z92 : n0 ≤ T92.heap.size := Nat.le_trans Z88 K92.1
      have KK92 := K88.trans K92 (allS (Or.inr sz_b88) all0)
      have go92 := go91.tr (C := T92.setTop (mkF m 55 #[.val (.long q0), .second, .val (.int p1), .val (.int p2), .val (.int zb), .val (.ref b82), .unset, .unset, .unset, .unset, .unset, .unset, .unset, .unset, .unset] [(.ref b88)])) st92
      have go97 := go92.step (C := T92.setTop (mkF m 61 #[.val (.long q0), .second, .val (.int p1), .val (.int p2), .val (.int zb), .val (.ref b82), .val (.ref b88), .unset, .unset, .unset, .unset, .unset, .unset, .unset, .unset] [(.int zb), (.ref b82)])) (fun t k => by
        show Steps p.tables e below (T92.setTop (mkF m 55 #[.val (.long q0), .second, .val (.int p1), .val (.int p2), .val (.int zb), .val (.ref b82), .unset, .unset, .unset, .unset, .unset, .unset, .unset, .unset, .unset] [(.ref b88)])) _
        refine XS.astore X92.here hx rfl (hb hby at_55) rfl rfl (l' := #[.val (.long q0), .second, .val (.int p1), .val (.int p2), .val (.int zb), .val (.ref b82), .val (.ref b88), .unset, .unset, .unset, .unset, .unset, .unset, .unset, .unset]) rfl ?_
        show Steps p.tables e below (T92.setTop (mkF m 57 #[.val (.long q0), .second, .val (.int p1), .val (.int p2), .val (.int zb), .val (.ref b82), .val (.ref b88), .unset, .unset, .unset, .unset, .unset, .unset, .unset, .unset] [])) _
        refine XS.aload X92.here hx rfl (hb hby at_57) rfl rfl ?_
        show Steps p.tables e below (T92.setTop (mkF m 59 #[.val (.long q0), .second, .val (.int p1), .val (.int p2), .val (.int zb), .val (.ref b82), .val (.ref b88), .unset, .unset, .unset, .unset, .unset, .unset, .unset, .unset] [(.ref b82)])) _
        refine XS.iload X92.here hx rfl (hb hby at_59) rfl ?_
        exact k)
      obtain ⟨cq98, kq98, q98a, q98b, q98c⟩ := isOf hZ rfl f93
      obtain ⟨_, _, ⟨T98, L98, k98, n98⟩, -, X98, ⟨Lc98, hQ98, l98, y98, z98⟩, st98⟩ := X92.virtualBack hx (y := (⟨"com/example/roundhaul/roundhaul/solver/SeededRandom", "nextInt", "(I)I"⟩ : MethodName)) (z := (⟨"com/example/roundhaul/roundhaul/solver/SeededRandom", "nextInt", "(I)I"⟩ : MethodName)) hown (mvT hZ (hw _ (List.mem_of_getElem? (i := 11) rfl))) (mvT hZ (hw _ (List.mem_of_getElem? (i := 12) rfl))) (notFace_of_selects (args := #[]) (mvT hZ (hw _ (List.mem_of_getElem? (i := 14) rfl)))) (mvT hZ (hw _ (List.mem_of_getElem? (i := 14) rfl))) (mvT hZ (hw _ (List.mem_of_getElem? (i := 13) rfl))) (by decide) (backOf (W := 0) (rm3 l Z a0 hw [] b82 zb q0 T92.heap n0 Z92 f93 f94 g_b82 hb0) hZ (hw _ (List.mem_of_getElem? (i := 15) rfl)) (hw _ (List.mem_of_getElem? (i := 2) rfl)) (by decide) (by decide)) q98a q98c (g := (mkF m 61 #[.val (.long q0), .second, .val (.int p1), .val (.int p2), .val (.int zb), .val (.ref b82), .val (.ref b88), .unset, .unset, .unset, .unset, .unset, .unset, .unset, .unset] [(.int zb), (.ref b82)])) rfl (by rw [hml]; rfl) (Steps.refl _) (argsL := [(.int zb)]) (rest := []) (lenOf pd_rm0_1 rfl) rfl (by show 2 * 0 + _ ≤ _; exact Nat.le_of_eq rfl) (hb hby at_61) (fun _ _ => ⟨rfl, rfl, (by decide : 2 + 0 ≤ _), (by decide : 2 + 0 ≤ _)⟩)
      dsimp only [Pt.U, Pt.locs, Pt.cells, Pt.slots] at X98 l98 y98 z98 st98 hQ98
      rw [l98, y98, z98] at X98
      obtain ⟨wf_98, rfl, N98q, K98, qp98_0, qp98_1, qp98_2, qp98_3⟩ := hQ98
      have N98 := Fr.app N92 N98q
      have f99 := f93.keep K98
      have f101 := qp92_0.keep K98
      have f102 := qp92_1.keep K98 (ninS (Ne.symm ne_b82_b88) nin0)
      have Z98 : n0 ≤ T98.heap.size := Nat.le_trans Z92 K98.1
      have KK98 := KK92.trans K98 (allS (Or.inr sz_b82) all0)
      have go98 := go97.tr (C := T98.setTop (mkF m 64 #[.val (.long q0), .second, .val (.int p1), .val (.int p2), .val (.int zb), .val (.ref b82), .val (.ref b88), .unset, .unset, .unset, .unset, .unset, .unset, .unset, .unset] [(.int ((own_usrL ((own_usrL (own_mix wf_98) (32 : Int32)) * (zb.toInt64)) (32 : Int32)).toInt32))])) st98
      have hacc := qp98_2
      have hJ := qp98_3
      have go105 := go98.step (C := T98.setTop (mkF m 92 #[.val (.long q0), .second, .val (.int p1), .val (.int p2), .val (.int zb), .val (.ref b82), .val (.ref b88), .val (.int ((own_usrL ((own_usrL (own_mix wf_98) (32 : Int32)) * (zb.toInt64)) (32 : Int32)).toInt32)), .val (.int (1 : Int32)), .unset, .unset, .unset, .unset, .unset, .unset] [(.long ((4294967296 : Int64) % (zb.toInt64)))])) (fun t k => by
        show Steps p.tables e below (T98.setTop (mkF m 64 #[.val (.long q0), .second, .val (.int p1), .val (.int p2), .val (.int zb), .val (.ref b82), .val (.ref b88), .unset, .unset, .unset, .unset, .unset, .unset, .unset, .unset] [(.int ((own_usrL ((own_usrL (own_mix wf_98) (32 : Int32)) * (zb.toInt64)) (32 : Int32)).toInt32))])) _
        refine XS.istore X98.here hx rfl (hb hby at_64) rfl (l' := #[.val (.long q0), .second, .val (.int p1), .val (.int p2), .val (.int zb), .val (.ref b82), .val (.ref b88), .val (.int ((own_usrL ((own_usrL (own_mix wf_98) (32 : Int32)) * (zb.toInt64)) (32 : Int32)).toInt32)), .unset, .unset, .unset, .unset, .unset, .unset, .unset]) rfl ?_
        show Steps p.tables e below (T98.setTop (mkF m 66 #[.val (.long q0), .second, .val (.int p1), .val (.int p2), .val (.int zb), .val (.ref b82), .val (.ref b88), .val (.int ((own_usrL ((own_usrL (own_mix wf_98) (32 : Int32)) * (zb.toInt64)) (32 : Int32)).toInt32)), .unset, .unset, .unset, .unset, .unset, .unset, .unset] [])) _
        refine XS.iload X98.here hx rfl (hb hby at_66) rfl ?_
        show Steps p.tables e below (T98.setTop (mkF m 68 #[.val (.long q0), .second, .val (.int p1), .val (.int p2), .val (.int zb), .val (.ref b82), .val (.ref b88), .val (.int ((own_usrL ((own_usrL (own_mix wf_98) (32 : Int32)) * (zb.toInt64)) (32 : Int32)).toInt32)), .unset, .unset, .unset, .unset, .unset, .unset, .unset] [(.int ((own_usrL ((own_usrL (own_mix wf_98) (32 : Int32)) * (zb.toInt64)) (32 : Int32)).toInt32))])) _
        refine XS.ifNo X98.here hx rfl (hb hby at_68) rfl ((if0 _ _).trans (flt (by rw [Int32.lt_iff_toInt_lt]; have q := own_hi zb wf_98 hb0; exact fun z => Int.not_lt.mpr q.1 z : ¬ (((own_usrL ((own_usrL (own_mix wf_98) (32 : Int32)) * (zb.toInt64)) (32 : Int32)).toInt32) < (0 : Int32)))).1) ?_
        show Steps p.tables e below (T98.setTop (mkF m 71 #[.val (.long q0), .second, .val (.int p1), .val (.int p2), .val (.int zb), .val (.ref b82), .val (.ref b88), .val (.int ((own_usrL ((own_usrL (own_mix wf_98) (32 : Int32)) * (zb.toInt64)) (32 : Int32)).toInt32)), .unset, .unset, .unset, .unset, .unset, .unset, .unset] [])) _
        refine XS.iload X98.here hx rfl (hb hby at_71) rfl ?_
        show Steps p.tables e below (T98.setTop (mkF m 73 #[.val (.long q0), .second, .val (.int p1), .val (.int p2), .val (.int zb), .val (.ref b82), .val (.ref b88), .val (.int ((own_usrL ((own_usrL (own_mix wf_98) (32 : Int32)) * (zb.toInt64)) (32 : Int32)).toInt32)), .unset, .unset, .unset, .unset, .unset, .unset, .unset] [(.int ((own_usrL ((own_usrL (own_mix wf_98) (32 : Int32)) * (zb.toInt64)) (32 : Int32)).toInt32))])) _
        refine XS.iload X98.here hx rfl (hb hby at_73) rfl ?_
        show Steps p.tables e below (T98.setTop (mkF m 75 #[.val (.long q0), .second, .val (.int p1), .val (.int p2), .val (.int zb), .val (.ref b82), .val (.ref b88), .val (.int ((own_usrL ((own_usrL (own_mix wf_98) (32 : Int32)) * (zb.toInt64)) (32 : Int32)).toInt32)), .unset, .unset, .unset, .unset, .unset, .unset, .unset] [(.int zb), (.int ((own_usrL ((own_usrL (own_mix wf_98) (32 : Int32)) * (zb.toInt64)) (32 : Int32)).toInt32))])) _
        refine XS.icmpNo X98.here hx rfl (hb hby at_75) rfl (tlt (by rw [Int32.lt_iff_toInt_lt]; exact (own_hi zb wf_98 hb0).2 : ((own_usrL ((own_usrL (own_mix wf_98) (32 : Int32)) * (zb.toInt64)) (32 : Int32)).toInt32) < zb)).2.1 ?_
        show Steps p.tables e below (T98.setTop (mkF m 78 #[.val (.long q0), .second, .val (.int p1), .val (.int p2), .val (.int zb), .val (.ref b82), .val (.ref b88), .val (.int ((own_usrL ((own_usrL (own_mix wf_98) (32 : Int32)) * (zb.toInt64)) (32 : Int32)).toInt32)), .unset, .unset, .unset, .unset, .unset, .unset, .unset] [])) _
        refine XS.iconst X98.here hx rfl (hb hby at_78) ?_
        show Steps p.tables e below (T98.setTop (mkF m 79 #[.val (.long q0), .second, .val (.int p1), .val (.int p2), .val (.int zb), .val (.ref b82), .val (.ref b88), .val (.int ((own_usrL ((own_usrL (own_mix wf_98) (32 : Int32)) * (zb.toInt64)) (32 : Int32)).toInt32)), .unset, .unset, .unset, .unset, .unset, .unset, .unset] [(.int (1 : Int32))])) _
        refine XS.goto X98.here hx rfl (pc0 := 79) (pc' := 83) rfl (hb hby at_79) (by decide) (by decide) ?_
        show Steps p.tables e below (T98.setTop (mkF m 83 #[.val (.long q0), .second, .val (.int p1), .val (.int p2), .val (.int zb), .val (.ref b82), .val (.ref b88), .val (.int ((own_usrL ((own_usrL (own_mix wf_98) (32 : Int32)) * (zb.toInt64)) (32 : Int32)).toInt32)), .unset, .unset, .unset, .unset, .unset, .unset, .unset] [(.int (1 : Int32))])) _
        refine XS.istore X98.here hx rfl (hb hby at_83) rfl (l' := #[.val (.long q0), .second, .val (.int p1), .val (.int p2), .val (.int zb), .val (.ref b82), .val (.ref b88), .val (.int ((own_usrL ((own_usrL (own_mix wf_98) (32 : Int32)) * (zb.toInt64)) (32 : Int32)).toInt32)), .val (.int (1 : Int32)), .unset, .unset, .unset, .unset, .unset, .unset]) rfl ?_
        show Steps p.tables e below (T98.setTop (mkF m 85 #[.val (.long q0), .second, .val (.int p1), .val (.int p2), .val (.int zb), .val (.ref b82), .val (.ref b88), .val (.int ((own_usrL ((own_usrL (own_mix wf_98) (32 : Int32)) * (zb.toInt64)) (32 : Int32)).toInt32)), .val (.int (1 : Int32)), .unset, .unset, .unset, .unset, .unset, .unset] [])) _
        refine X98.ldc2Long hx hown (mvT hZ (hw _ (List.mem_of_getElem? (i := 26) rfl))) (g := (mkF m 85 #[.val (.long q0), .second, .val (.int p1), .val (.int p2), .val (.int zb), .val (.ref b82), .val (.ref b88), .val (.int ((own_usrL ((own_usrL (own_mix wf_98) (32 : Int32)) * (zb.toInt64)) (32 : Int32)).toInt32)), .val (.int (1 : Int32)), .unset, .unset, .unset, .unset, .unset, .unset] [])) rfl (hb hby at_85) _ ?_
        show Steps p.tables e below (T98.setTop (mkF m 88 #[.val (.long q0), .second, .val (.int p1), .val (.int p2), .val (.int zb), .val (.ref b82), .val (.ref b88), .val (.int ((own_usrL ((own_usrL (own_mix wf_98) (32 : Int32)) * (zb.toInt64)) (32 : Int32)).toInt32)), .val (.int (1 : Int32)), .unset, .unset, .unset, .unset, .unset, .unset] [(.long (4294967296 : Int64))])) _
        refine XS.iload X98.here hx rfl (hb hby at_88) rfl ?_
        show Steps p.tables e below (T98.setTop (mkF m 90 #[.val (.long q0), .second, .val (.int p1), .val (.int p2), .val (.int zb), .val (.ref b82), .val (.ref b88), .val (.int ((own_usrL ((own_usrL (own_mix wf_98) (32 : Int32)) * (zb.toInt64)) (32 : Int32)).toInt32)), .val (.int (1 : Int32)), .unset, .unset, .unset, .unset, .unset, .unset] [(.int zb), (.long (4294967296 : Int64))])) _
        refine XS.i2l X98.here hx rfl (hb hby at_90) rfl ?_
        show Steps p.tables e below (T98.setTop (mkF m 91 #[.val (.long q0), .second, .val (.int p1), .val (.int p2), .val (.int zb), .val (.ref b82), .val (.ref b88), .val (.int ((own_usrL ((own_usrL (own_mix wf_98) (32 : Int32)) * (zb.toInt64)) (32 : Int32)).toInt32)), .val (.int (1 : Int32)), .unset, .unset, .unset, .unset, .unset, .unset] [(.long (zb.toInt64)), (.long (4294967296 : Int64))])) _
        refine XS.lrem X98.here hx rfl (hb hby at_91) rfl (own_bnz hb0) ?_
        rw [lrem_mod]
        exact k)
      obtain ⟨zs, hzs⟩ : ∃ z : Int64, z = ((4294967296 : Int64) % (zb.toInt64)) := ⟨_, rfl⟩
      rw [← hzs] at go105
      rw [own_thr_eq hb0] at hzs
      have go106 := go105.step (C := T98.setTop (mkF m 96 #[.val (.long q0), .second, .val (.int p1), .val (.int p2), .val (.int zb), .val (.ref b82), .val (.ref b88), .val (.int ((own_usrL ((own_usrL (own_mix wf_98) (32 : Int32)) * (zb.toInt64)) (32 : Int32)).toInt32)), .val (.int (1 : Int32)), .val (.long zs), .second, .unset, .unset, .unset, .unset] [(.ref b88)])) (fun t k => by
        show Steps p.tables e below (T98.setTop (mkF m 92 #[.val (.long q0), .second, .val (.int p1), .val (.int p2), .val (.int zb), .val (.ref b82), .val (.ref b88), .val (.int ((own_usrL ((own_usrL (own_mix wf_98) (32 : Int32)) * (zb.toInt64)) (32 : Int32)).toInt32)), .val (.int (1 : Int32)), .unset, .unset, .unset, .unset, .unset, .unset] [(.long zs)])) _
        refine XS.lstore X98.here hx rfl (hb hby at_92) rfl (l' := #[.val (.long q0), .second, .val (.int p1), .val (.int p2), .val (.int zb), .val (.ref b82), .val (.ref b88), .val (.int ((own_usrL ((own_usrL (own_mix wf_98) (32 : Int32)) * (zb.toInt64)) (32 : Int32)).toInt32)), .val (.int (1 : Int32)), .val (.long zs), .second, .unset, .unset, .unset, .unset]) rfl ?_
        show Steps p.tables e below (T98.setTop (mkF m 94 #[.val (.long q0), .second, .val (.int p1), .val (.int p2), .val (.int zb), .val (.ref b82), .val (.ref b88), .val (.int ((own_usrL ((own_usrL (own_mix wf_98) (32 : Int32)) * (zb.toInt64)) (32 : Int32)).toInt32)), .val (.int (1 : Int32)), .val (.long zs), .second, .unset, .unset, .unset, .unset] [])) _
        refine XS.aload X98.here hx rfl (hb hby at_94) rfl rfl ?_
        exact k)
      obtain ⟨cq107, kq107, q107a, q107b, q107c⟩ := isOf hZ rfl f101
      obtain ⟨_, _, ⟨T107, L107, k107, n107⟩, -, X107, ⟨Lc107, hQ107, l107, y107, z107⟩, st107⟩ := X98.virtualBack hx (y := (⟨"com/example/roundhaul/roundhaul/solver/SeededRandom", "nextLong", "()J"⟩ : MethodName)) (z := (⟨"com/example/roundhaul/roundhaul/solver/SeededRandom", "nextLong", "()J"⟩ : MethodName)) hown (mvT hZ (hw _ (List.mem_of_getElem? (i := 27) rfl))) (mvT hZ (hw _ (List.mem_of_getElem? (i := 17) rfl))) (notFace_of_selects (args := #[]) (mvT hZ (hw _ (List.mem_of_getElem? (i := 19) rfl)))) (mvT hZ (hw _ (List.mem_of_getElem? (i := 19) rfl))) (mvT hZ (hw _ (List.mem_of_getElem? (i := 18) rfl))) (by decide) (backOf (W := 0) (rm4 l Z a0 hw [] b88 q0 T98.heap n0 Z98 f101 f102 g_b88) hZ (hw _ (List.mem_of_getElem? (i := 20) rfl)) (hw _ (List.mem_of_getElem? (i := 2) rfl)) (by decide) (by decide)) q107a q107c (g := (mkF m 96 #[.val (.long q0), .second, .val (.int p1), .val (.int p2), .val (.int zb), .val (.ref b82), .val (.ref b88), .val (.int ((own_usrL ((own_usrL (own_mix wf_98) (32 : Int32)) * (zb.toInt64)) (32 : Int32)).toInt32)), .val (.int (1 : Int32)), .val (.long zs), .second, .unset, .unset, .unset, .unset] [(.ref b88)])) rfl (by rw [hml]; rfl) (Steps.refl _) (argsL := []) (rest := []) (lenOf pd_rm0_2 rfl) rfl (by show 2 * 0 + _ ≤ _; exact Nat.le_of_eq rfl) (hb hby at_96) (fun _ _ => ⟨rfl, rfl, (by decide : 2 + 0 ≤ _), (by decide : 2 + 0 ≤ _)⟩)
      dsimp only [Pt.U, Pt.locs, Pt.cells, Pt.slots] at X107 l107 y107 z107 st107 hQ107
      rw [l107, y107, z107] at X107
      obtain ⟨rfl, N107q, K107, qp107_0, qp107_1⟩ := hQ107
      have N107 := Fr.app N98 N107q
      have f108 := qp98_0.keep K107
      have f109 := f101.keep K107
      have f111 := qp98_1.keep K107 (ninS ne_b82_b88 nin0)
      have Z107 : n0 ≤ T107.heap.size := Nat.le_trans Z98 K107.1
      have KK107 := KK98.trans K107 (allS (Or.inr sz_b88) all0)
      have go107 := go106.tr (C := T107.setTop (mkF m 99 #[.val (.long q0), .second, .val (.int p1), .val (.int p2), .val (.int zb), .val (.ref b82), .val (.ref b88), .val (.int ((own_usrL ((own_usrL (own_mix wf_98) (32 : Int32)) * (zb.toInt64)) (32 : Int32)).toInt32)), .val (.int (1 : Int32)), .val (.long zs), .second, .unset, .unset, .unset, .unset] [(.long (own_mix (q0 + (-7046029254386353131 : Int64))))])) st107
      have go113 := go107.step (C := T107.setTop (mkF m 117 #[.val (.long q0), .second, .val (.int p1), .val (.int p2), .val (.int zb), .val (.ref b82), .val (.ref b88), .val (.int ((own_usrL ((own_usrL (own_mix wf_98) (32 : Int32)) * (zb.toInt64)) (32 : Int32)).toInt32)), .val (.int (1 : Int32)), .val (.long zs), .second, .val (.long ((own_usrL (own_mix (q0 + (-7046029254386353131 : Int64))) (32 : Int32)) * (zb.toInt64))), .second, .unset, .unset] [(.int (lcmpW (((own_usrL (own_mix (q0 + (-7046029254386353131 : Int64))) (32 : Int32)) * (zb.toInt64)) &&& (4294967295 : Int64)) zs))])) (fun t k => by
        show Steps p.tables e below (T107.setTop (mkF m 99 #[.val (.long q0), .second, .val (.int p1), .val (.int p2), .val (.int zb), .val (.ref b82), .val (.ref b88), .val (.int ((own_usrL ((own_usrL (own_mix wf_98) (32 : Int32)) * (zb.toInt64)) (32 : Int32)).toInt32)), .val (.int (1 : Int32)), .val (.long zs), .second, .unset, .unset, .unset, .unset] [(.long (own_mix (q0 + (-7046029254386353131 : Int64))))])) _
        refine XS.bipush X107.here hx rfl (hb hby at_99) ?_
        show Steps p.tables e below (T107.setTop (mkF m 101 #[.val (.long q0), .second, .val (.int p1), .val (.int p2), .val (.int zb), .val (.ref b82), .val (.ref b88), .val (.int ((own_usrL ((own_usrL (own_mix wf_98) (32 : Int32)) * (zb.toInt64)) (32 : Int32)).toInt32)), .val (.int (1 : Int32)), .val (.long zs), .second, .unset, .unset, .unset, .unset] [(.int (32 : Int32)), (.long (own_mix (q0 + (-7046029254386353131 : Int64))))])) _
        refine XS.lushr X107.here hx rfl (hb hby at_101) rfl ?_
        show Steps p.tables e below (T107.setTop (mkF m 102 #[.val (.long q0), .second, .val (.int p1), .val (.int p2), .val (.int zb), .val (.ref b82), .val (.ref b88), .val (.int ((own_usrL ((own_usrL (own_mix wf_98) (32 : Int32)) * (zb.toInt64)) (32 : Int32)).toInt32)), .val (.int (1 : Int32)), .val (.long zs), .second, .unset, .unset, .unset, .unset] [(.long (own_usrL (own_mix (q0 + (-7046029254386353131 : Int64))) (32 : Int32)))])) _
        refine XS.iload X107.here hx rfl (hb hby at_102) rfl ?_
        show Steps p.tables e below (T107.setTop (mkF m 104 #[.val (.long q0), .second, .val (.int p1), .val (.int p2), .val (.int zb), .val (.ref b82), .val (.ref b88), .val (.int ((own_usrL ((own_usrL (own_mix wf_98) (32 : Int32)) * (zb.toInt64)) (32 : Int32)).toInt32)), .val (.int (1 : Int32)), .val (.long zs), .second, .unset, .unset, .unset, .unset] [(.int zb), (.long (own_usrL (own_mix (q0 + (-7046029254386353131 : Int64))) (32 : Int32)))])) _
        refine XS.i2l X107.here hx rfl (hb hby at_104) rfl ?_
        show Steps p.tables e below (T107.setTop (mkF m 105 #[.val (.long q0), .second, .val (.int p1), .val (.int p2), .val (.int zb), .val (.ref b82), .val (.ref b88), .val (.int ((own_usrL ((own_usrL (own_mix wf_98) (32 : Int32)) * (zb.toInt64)) (32 : Int32)).toInt32)), .val (.int (1 : Int32)), .val (.long zs), .second, .unset, .unset, .unset, .unset] [(.long (zb.toInt64)), (.long (own_usrL (own_mix (q0 + (-7046029254386353131 : Int64))) (32 : Int32)))])) _
        refine XS.lmul X107.here hx rfl (hb hby at_105) rfl ?_
        show Steps p.tables e below (T107.setTop (mkF m 106 #[.val (.long q0), .second, .val (.int p1), .val (.int p2), .val (.int zb), .val (.ref b82), .val (.ref b88), .val (.int ((own_usrL ((own_usrL (own_mix wf_98) (32 : Int32)) * (zb.toInt64)) (32 : Int32)).toInt32)), .val (.int (1 : Int32)), .val (.long zs), .second, .unset, .unset, .unset, .unset] [(.long ((own_usrL (own_mix (q0 + (-7046029254386353131 : Int64))) (32 : Int32)) * (zb.toInt64)))])) _
        refine XS.lstore X107.here hx rfl (hb hby at_106) rfl (l' := #[.val (.long q0), .second, .val (.int p1), .val (.int p2), .val (.int zb), .val (.ref b82), .val (.ref b88), .val (.int ((own_usrL ((own_usrL (own_mix wf_98) (32 : Int32)) * (zb.toInt64)) (32 : Int32)).toInt32)), .val (.int (1 : Int32)), .val (.long zs), .second, .val (.long ((own_usrL (own_mix (q0 + (-7046029254386353131 : Int64))) (32 : Int32)) * (zb.toInt64))), .second, .unset, .unset]) rfl ?_
        show Steps p.tables e below (T107.setTop (mkF m 108 #[.val (.long q0), .second, .val (.int p1), .val (.int p2), .val (.int zb), .val (.ref b82), .val (.ref b88), .val (.int ((own_usrL ((own_usrL (own_mix wf_98) (32 : Int32)) * (zb.toInt64)) (32 : Int32)).toInt32)), .val (.int (1 : Int32)), .val (.long zs), .second, .val (.long ((own_usrL (own_mix (q0 + (-7046029254386353131 : Int64))) (32 : Int32)) * (zb.toInt64))), .second, .unset, .unset] [])) _
        refine XS.lload X107.here hx rfl (hb hby at_108) rfl ?_
        show Steps p.tables e below (T107.setTop (mkF m 110 #[.val (.long q0), .second, .val (.int p1), .val (.int p2), .val (.int zb), .val (.ref b82), .val (.ref b88), .val (.int ((own_usrL ((own_usrL (own_mix wf_98) (32 : Int32)) * (zb.toInt64)) (32 : Int32)).toInt32)), .val (.int (1 : Int32)), .val (.long zs), .second, .val (.long ((own_usrL (own_mix (q0 + (-7046029254386353131 : Int64))) (32 : Int32)) * (zb.toInt64))), .second, .unset, .unset] [(.long ((own_usrL (own_mix (q0 + (-7046029254386353131 : Int64))) (32 : Int32)) * (zb.toInt64)))])) _
        refine X107.ldc2Long hx hown (mvT hZ (hw _ (List.mem_of_getElem? (i := 28) rfl))) (g := (mkF m 110 #[.val (.long q0), .second, .val (.int p1), .val (.int p2), .val (.int zb), .val (.ref b82), .val (.ref b88), .val (.int ((own_usrL ((own_usrL (own_mix wf_98) (32 : Int32)) * (zb.toInt64)) (32 : Int32)).toInt32)), .val (.int (1 : Int32)), .val (.long zs), .second, .val (.long ((own_usrL (own_mix (q0 + (-7046029254386353131 : Int64))) (32 : Int32)) * (zb.toInt64))), .second, .unset, .unset] [(.long ((own_usrL (own_mix (q0 + (-7046029254386353131 : Int64))) (32 : Int32)) * (zb.toInt64)))])) rfl (hb hby at_110) _ ?_
        show Steps p.tables e below (T107.setTop (mkF m 113 #[.val (.long q0), .second, .val (.int p1), .val (.int p2), .val (.int zb), .val (.ref b82), .val (.ref b88), .val (.int ((own_usrL ((own_usrL (own_mix wf_98) (32 : Int32)) * (zb.toInt64)) (32 : Int32)).toInt32)), .val (.int (1 : Int32)), .val (.long zs), .second, .val (.long ((own_usrL (own_mix (q0 + (-7046029254386353131 : Int64))) (32 : Int32)) * (zb.toInt64))), .second, .unset, .unset] [(.long (4294967295 : Int64)), (.long ((own_usrL (own_mix (q0 + (-7046029254386353131 : Int64))) (32 : Int32)) * (zb.toInt64)))])) _
        refine XS.land X107.here hx rfl (hb hby at_113) rfl ?_
        show Steps p.tables e below (T107.setTop (mkF m 114 #[.val (.long q0), .second, .val (.int p1), .val (.int p2), .val (.int zb), .val (.ref b82), .val (.ref b88), .val (.int ((own_usrL ((own_usrL (own_mix wf_98) (32 : Int32)) * (zb.toInt64)) (32 : Int32)).toInt32)), .val (.int (1 : Int32)), .val (.long zs), .second, .val (.long ((own_usrL (own_mix (q0 + (-7046029254386353131 : Int64))) (32 : Int32)) * (zb.toInt64))), .second, .unset, .unset] [(.long (((own_usrL (own_mix (q0 + (-7046029254386353131 : Int64))) (32 : Int32)) * (zb.toInt64)) &&& (4294967295 : Int64)))])) _
        refine XS.lload X107.here hx rfl (hb hby at_114) rfl ?_
        show Steps p.tables e below (T107.setTop (mkF m 116 #[.val (.long q0), .second, .val (.int p1), .val (.int p2), .val (.int zb), .val (.ref b82), .val (.ref b88), .val (.int ((own_usrL ((own_usrL (own_mix wf_98) (32 : Int32)) * (zb.toInt64)) (32 : Int32)).toInt32)), .val (.int (1 : Int32)), .val (.long zs), .second, .val (.long ((own_usrL (own_mix (q0 + (-7046029254386353131 : Int64))) (32 : Int32)) * (zb.toInt64))), .second, .unset, .unset] [(.long zs), (.long (((own_usrL (own_mix (q0 + (-7046029254386353131 : Int64))) (32 : Int32)) * (zb.toInt64)) &&& (4294967295 : Int64)))])) _
        refine XS.lcmp X107.here hx rfl (hb hby at_116) rfl ?_
        exact k)
      by_cases hc112 : (((own_usrL (own_mix (q0 + (-7046029254386353131 : Int64))) (32 : Int32)) * (zb.toInt64)) &&& (4294967295 : Int64)) < zs
      · skip
        have go114 := go113.step (C := T107.setTop (mkF m 158 #[.val (.long q0), .second, .val (.int p1), .val (.int p2), .val (.int zb), .val (.ref b82), .val (.ref b88), .val (.int ((own_usrL ((own_usrL (own_mix wf_98) (32 : Int32)) * (zb.toInt64)) (32 : Int32)).toInt32)), .val (.int (1 : Int32)), .val (.long zs), .second, .val (.long ((own_usrL (own_mix (q0 + (-7046029254386353131 : Int64))) (32 : Int32)) * (zb.toInt64))), .second, .unset, .unset] [(.ref b88)])) (fun t k => by
          show Steps p.tables e below (T107.setTop (mkF m 117 #[.val (.long q0), .second, .val (.int p1), .val (.int p2), .val (.int zb), .val (.ref b82), .val (.ref b88), .val (.int ((own_usrL ((own_usrL (own_mix wf_98) (32 : Int32)) * (zb.toInt64)) (32 : Int32)).toInt32)), .val (.int (1 : Int32)), .val (.long zs), .second, .val (.long ((own_usrL (own_mix (q0 + (-7046029254386353131 : Int64))) (32 : Int32)) * (zb.toInt64))), .second, .unset, .unset] [(.int (lcmpW (((own_usrL (own_mix (q0 + (-7046029254386353131 : Int64))) (32 : Int32)) * (zb.toInt64)) &&& (4294967295 : Int64)) zs))])) _
          refine XS.ifYes X107.here hx rfl (pc0 := 117) (pc' := 156) rfl (hb hby at_117) rfl ((if0 _ _).trans (tlt ((lw_lt _ _).mpr hc112)).1) (by decide) (by decide) ?_
          show Steps p.tables e below (T107.setTop (mkF m 156 #[.val (.long q0), .second, .val (.int p1), .val (.int p2), .val (.int zb), .val (.ref b82), .val (.ref b88), .val (.int ((own_usrL ((own_usrL (own_mix wf_98) (32 : Int32)) * (zb.toInt64)) (32 : Int32)).toInt32)), .val (.int (1 : Int32)), .val (.long zs), .second, .val (.long ((own_usrL (own_mix (q0 + (-7046029254386353131 : Int64))) (32 : Int32)) * (zb.toInt64))), .second, .unset, .unset] [])) _
          refine XS.aload X107.here hx rfl (hb hby at_156) rfl rfl ?_
          exact k)
        obtain ⟨cq115, kq115, q115a, q115b, q115c⟩ := isOf hZ rfl qp107_0
        obtain ⟨_, _, ⟨T115, L115, k115, n115⟩, -, X115, ⟨Lc115, hQ115, l115, y115, z115⟩, st115⟩ := X107.virtualBack hx (y := (⟨"com/example/roundhaul/roundhaul/solver/SeededRandom", "nextLong", "()J"⟩ : MethodName)) (z := (⟨"com/example/roundhaul/roundhaul/solver/SeededRandom", "nextLong", "()J"⟩ : MethodName)) hown (mvT hZ (hw _ (List.mem_of_getElem? (i := 27) rfl))) (mvT hZ (hw _ (List.mem_of_getElem? (i := 17) rfl))) (notFace_of_selects (args := #[]) (mvT hZ (hw _ (List.mem_of_getElem? (i := 19) rfl)))) (mvT hZ (hw _ (List.mem_of_getElem? (i := 19) rfl))) (mvT hZ (hw _ (List.mem_of_getElem? (i := 18) rfl))) (by decide) (backOf (W := 0) (rm4 l Z a0 hw [] b88 (q0 + (-7046029254386353131 : Int64)) T107.heap n0 Z107 qp107_0 qp107_1 g_b88) hZ (hw _ (List.mem_of_getElem? (i := 20) rfl)) (hw _ (List.mem_of_getElem? (i := 2) rfl)) (by decide) (by decide)) q115a q115c (g := (mkF m 158 #[.val (.long q0), .second, .val (.int p1), .val (.int p2), .val (.int zb), .val (.ref b82), .val (.ref b88), .val (.int ((own_usrL ((own_usrL (own_mix wf_98) (32 : Int32)) * (zb.toInt64)) (32 : Int32)).toInt32)), .val (.int (1 : Int32)), .val (.long zs), .second, .val (.long ((own_usrL (own_mix (q0 + (-7046029254386353131 : Int64))) (32 : Int32)) * (zb.toInt64))), .second, .unset, .unset] [(.ref b88)])) rfl (by rw [hml]; rfl) (Steps.refl _) (argsL := []) (rest := []) (lenOf pd_rm0_2 rfl) rfl (by show 2 * 0 + _ ≤ _; exact Nat.le_of_eq rfl) (hb hby at_158) (fun _ _ => ⟨rfl, rfl, (by decide : 2 + 0 ≤ _), (by decide : 2 + 0 ≤ _)⟩)
        dsimp only [Pt.U, Pt.locs, Pt.cells, Pt.slots] at X115 l115 y115 z115 st115 hQ115
        rw [l115, y115, z115] at X115
        obtain ⟨rfl, N115q, K115, qp115_0, qp115_1⟩ := hQ115
        have N115 := Fr.app N107 N115q
        have f116 := f108.keep K115
        have f117 := qp107_0.keep K115
        have f118 := f111.keep K115 (ninS ne_b82_b88 nin0)
        have Z115 : n0 ≤ T115.heap.size := Nat.le_trans Z107 K115.1
        have KK115 := KK107.trans K115 (allS (Or.inr sz_b88) all0)
        have go115 := go114.tr (C := T115.setTop (mkF m 161 #[.val (.long q0), .second, .val (.int p1), .val (.int p2), .val (.int zb), .val (.ref b82), .val (.ref b88), .val (.int ((own_usrL ((own_usrL (own_mix wf_98) (32 : Int32)) * (zb.toInt64)) (32 : Int32)).toInt32)), .val (.int (1 : Int32)), .val (.long zs), .second, .val (.long ((own_usrL (own_mix (q0 + (-7046029254386353131 : Int64))) (32 : Int32)) * (zb.toInt64))), .second, .unset, .unset] [(.long (own_mix ((q0 + (-7046029254386353131 : Int64)) + (-7046029254386353131 : Int64))))])) st115
        have go121 := go115.step (C := T115.setTop (mkF m 179 #[.val (.long q0), .second, .val (.int p1), .val (.int p2), .val (.int zb), .val (.ref b82), .val (.ref b88), .val (.int ((own_usrL ((own_usrL (own_mix wf_98) (32 : Int32)) * (zb.toInt64)) (32 : Int32)).toInt32)), .val (.int (1 : Int32)), .val (.long zs), .second, .val (.long ((own_usrL (own_mix (q0 + (-7046029254386353131 : Int64))) (32 : Int32)) * (zb.toInt64))), .second, .val (.long ((own_usrL (own_mix ((q0 + (-7046029254386353131 : Int64)) + (-7046029254386353131 : Int64))) (32 : Int32)) * (zb.toInt64))), .second] [(.int (lcmpW (((own_usrL (own_mix ((q0 + (-7046029254386353131 : Int64)) + (-7046029254386353131 : Int64))) (32 : Int32)) * (zb.toInt64)) &&& (4294967295 : Int64)) zs))])) (fun t k => by
          show Steps p.tables e below (T115.setTop (mkF m 161 #[.val (.long q0), .second, .val (.int p1), .val (.int p2), .val (.int zb), .val (.ref b82), .val (.ref b88), .val (.int ((own_usrL ((own_usrL (own_mix wf_98) (32 : Int32)) * (zb.toInt64)) (32 : Int32)).toInt32)), .val (.int (1 : Int32)), .val (.long zs), .second, .val (.long ((own_usrL (own_mix (q0 + (-7046029254386353131 : Int64))) (32 : Int32)) * (zb.toInt64))), .second, .unset, .unset] [(.long (own_mix ((q0 + (-7046029254386353131 : Int64)) + (-7046029254386353131 : Int64))))])) _
          refine XS.bipush X115.here hx rfl (hb hby at_161) ?_
          show Steps p.tables e below (T115.setTop (mkF m 163 #[.val (.long q0), .second, .val (.int p1), .val (.int p2), .val (.int zb), .val (.ref b82), .val (.ref b88), .val (.int ((own_usrL ((own_usrL (own_mix wf_98) (32 : Int32)) * (zb.toInt64)) (32 : Int32)).toInt32)), .val (.int (1 : Int32)), .val (.long zs), .second, .val (.long ((own_usrL (own_mix (q0 + (-7046029254386353131 : Int64))) (32 : Int32)) * (zb.toInt64))), .second, .unset, .unset] [(.int (32 : Int32)), (.long (own_mix ((q0 + (-7046029254386353131 : Int64)) + (-7046029254386353131 : Int64))))])) _
          refine XS.lushr X115.here hx rfl (hb hby at_163) rfl ?_
          show Steps p.tables e below (T115.setTop (mkF m 164 #[.val (.long q0), .second, .val (.int p1), .val (.int p2), .val (.int zb), .val (.ref b82), .val (.ref b88), .val (.int ((own_usrL ((own_usrL (own_mix wf_98) (32 : Int32)) * (zb.toInt64)) (32 : Int32)).toInt32)), .val (.int (1 : Int32)), .val (.long zs), .second, .val (.long ((own_usrL (own_mix (q0 + (-7046029254386353131 : Int64))) (32 : Int32)) * (zb.toInt64))), .second, .unset, .unset] [(.long (own_usrL (own_mix ((q0 + (-7046029254386353131 : Int64)) + (-7046029254386353131 : Int64))) (32 : Int32)))])) _
          refine XS.iload X115.here hx rfl (hb hby at_164) rfl ?_
          show Steps p.tables e below (T115.setTop (mkF m 166 #[.val (.long q0), .second, .val (.int p1), .val (.int p2), .val (.int zb), .val (.ref b82), .val (.ref b88), .val (.int ((own_usrL ((own_usrL (own_mix wf_98) (32 : Int32)) * (zb.toInt64)) (32 : Int32)).toInt32)), .val (.int (1 : Int32)), .val (.long zs), .second, .val (.long ((own_usrL (own_mix (q0 + (-7046029254386353131 : Int64))) (32 : Int32)) * (zb.toInt64))), .second, .unset, .unset] [(.int zb), (.long (own_usrL (own_mix ((q0 + (-7046029254386353131 : Int64)) + (-7046029254386353131 : Int64))) (32 : Int32)))])) _
          refine XS.i2l X115.here hx rfl (hb hby at_166) rfl ?_
          show Steps p.tables e below (T115.setTop (mkF m 167 #[.val (.long q0), .second, .val (.int p1), .val (.int p2), .val (.int zb), .val (.ref b82), .val (.ref b88), .val (.int ((own_usrL ((own_usrL (own_mix wf_98) (32 : Int32)) * (zb.toInt64)) (32 : Int32)).toInt32)), .val (.int (1 : Int32)), .val (.long zs), .second, .val (.long ((own_usrL (own_mix (q0 + (-7046029254386353131 : Int64))) (32 : Int32)) * (zb.toInt64))), .second, .unset, .unset] [(.long (zb.toInt64)), (.long (own_usrL (own_mix ((q0 + (-7046029254386353131 : Int64)) + (-7046029254386353131 : Int64))) (32 : Int32)))])) _
          refine XS.lmul X115.here hx rfl (hb hby at_167) rfl ?_
          show Steps p.tables e below (T115.setTop (mkF m 168 #[.val (.long q0), .second, .val (.int p1), .val (.int p2), .val (.int zb), .val (.ref b82), .val (.ref b88), .val (.int ((own_usrL ((own_usrL (own_mix wf_98) (32 : Int32)) * (zb.toInt64)) (32 : Int32)).toInt32)), .val (.int (1 : Int32)), .val (.long zs), .second, .val (.long ((own_usrL (own_mix (q0 + (-7046029254386353131 : Int64))) (32 : Int32)) * (zb.toInt64))), .second, .unset, .unset] [(.long ((own_usrL (own_mix ((q0 + (-7046029254386353131 : Int64)) + (-7046029254386353131 : Int64))) (32 : Int32)) * (zb.toInt64)))])) _
          refine XS.lstore X115.here hx rfl (hb hby at_168) rfl (l' := #[.val (.long q0), .second, .val (.int p1), .val (.int p2), .val (.int zb), .val (.ref b82), .val (.ref b88), .val (.int ((own_usrL ((own_usrL (own_mix wf_98) (32 : Int32)) * (zb.toInt64)) (32 : Int32)).toInt32)), .val (.int (1 : Int32)), .val (.long zs), .second, .val (.long ((own_usrL (own_mix (q0 + (-7046029254386353131 : Int64))) (32 : Int32)) * (zb.toInt64))), .second, .val (.long ((own_usrL (own_mix ((q0 + (-7046029254386353131 : Int64)) + (-7046029254386353131 : Int64))) (32 : Int32)) * (zb.toInt64))), .second]) rfl ?_
          show Steps p.tables e below (T115.setTop (mkF m 170 #[.val (.long q0), .second, .val (.int p1), .val (.int p2), .val (.int zb), .val (.ref b82), .val (.ref b88), .val (.int ((own_usrL ((own_usrL (own_mix wf_98) (32 : Int32)) * (zb.toInt64)) (32 : Int32)).toInt32)), .val (.int (1 : Int32)), .val (.long zs), .second, .val (.long ((own_usrL (own_mix (q0 + (-7046029254386353131 : Int64))) (32 : Int32)) * (zb.toInt64))), .second, .val (.long ((own_usrL (own_mix ((q0 + (-7046029254386353131 : Int64)) + (-7046029254386353131 : Int64))) (32 : Int32)) * (zb.toInt64))), .second] [])) _
          refine XS.lload X115.here hx rfl (hb hby at_170) rfl ?_
          show Steps p.tables e below (T115.setTop (mkF m 172 #[.val (.long q0), .second, .val (.int p1), .val (.int p2), .val (.int zb), .val (.ref b82), .val (.ref b88), .val (.int ((own_usrL ((own_usrL (own_mix wf_98) (32 : Int32)) * (zb.toInt64)) (32 : Int32)).toInt32)), .val (.int (1 : Int32)), .val (.long zs), .second, .val (.long ((own_usrL (own_mix (q0 + (-7046029254386353131 : Int64))) (32 : Int32)) * (zb.toInt64))), .second, .val (.long ((own_usrL (own_mix ((q0 + (-7046029254386353131 : Int64)) + (-7046029254386353131 : Int64))) (32 : Int32)) * (zb.toInt64))), .second] [(.long ((own_usrL (own_mix ((q0 + (-7046029254386353131 : Int64)) + (-7046029254386353131 : Int64))) (32 : Int32)) * (zb.toInt64)))])) _
          refine X115.ldc2Long hx hown (mvT hZ (hw _ (List.mem_of_getElem? (i := 28) rfl))) (g := (mkF m 172 #[.val (.long q0), .second, .val (.int p1), .val (.int p2), .val (.int zb), .val (.ref b82), .val (.ref b88), .val (.int ((own_usrL ((own_usrL (own_mix wf_98) (32 : Int32)) * (zb.toInt64)) (32 : Int32)).toInt32)), .val (.int (1 : Int32)), .val (.long zs), .second, .val (.long ((own_usrL (own_mix (q0 + (-7046029254386353131 : Int64))) (32 : Int32)) * (zb.toInt64))), .second, .val (.long ((own_usrL (own_mix ((q0 + (-7046029254386353131 : Int64)) + (-7046029254386353131 : Int64))) (32 : Int32)) * (zb.toInt64))), .second] [(.long ((own_usrL (own_mix ((q0 + (-7046029254386353131 : Int64)) + (-7046029254386353131 : Int64))) (32 : Int32)) * (zb.toInt64)))])) rfl (hb hby at_172) _ ?_
          show Steps p.tables e below (T115.setTop (mkF m 175 #[.val (.long q0), .second, .val (.int p1), .val (.int p2), .val (.int zb), .val (.ref b82), .val (.ref b88), .val (.int ((own_usrL ((own_usrL (own_mix wf_98) (32 : Int32)) * (zb.toInt64)) (32 : Int32)).toInt32)), .val (.int (1 : Int32)), .val (.long zs), .second, .val (.long ((own_usrL (own_mix (q0 + (-7046029254386353131 : Int64))) (32 : Int32)) * (zb.toInt64))), .second, .val (.long ((own_usrL (own_mix ((q0 + (-7046029254386353131 : Int64)) + (-7046029254386353131 : Int64))) (32 : Int32)) * (zb.toInt64))), .second] [(.long (4294967295 : Int64)), (.long ((own_usrL (own_mix ((q0 + (-7046029254386353131 : Int64)) + (-7046029254386353131 : Int64))) (32 : Int32)) * (zb.toInt64)))])) _
          refine XS.land X115.here hx rfl (hb hby at_175) rfl ?_
          show Steps p.tables e below (T115.setTop (mkF m 176 #[.val (.long q0), .second, .val (.int p1), .val (.int p2), .val (.int zb), .val (.ref b82), .val (.ref b88), .val (.int ((own_usrL ((own_usrL (own_mix wf_98) (32 : Int32)) * (zb.toInt64)) (32 : Int32)).toInt32)), .val (.int (1 : Int32)), .val (.long zs), .second, .val (.long ((own_usrL (own_mix (q0 + (-7046029254386353131 : Int64))) (32 : Int32)) * (zb.toInt64))), .second, .val (.long ((own_usrL (own_mix ((q0 + (-7046029254386353131 : Int64)) + (-7046029254386353131 : Int64))) (32 : Int32)) * (zb.toInt64))), .second] [(.long (((own_usrL (own_mix ((q0 + (-7046029254386353131 : Int64)) + (-7046029254386353131 : Int64))) (32 : Int32)) * (zb.toInt64)) &&& (4294967295 : Int64)))])) _
          refine XS.lload X115.here hx rfl (hb hby at_176) rfl ?_
          show Steps p.tables e below (T115.setTop (mkF m 178 #[.val (.long q0), .second, .val (.int p1), .val (.int p2), .val (.int zb), .val (.ref b82), .val (.ref b88), .val (.int ((own_usrL ((own_usrL (own_mix wf_98) (32 : Int32)) * (zb.toInt64)) (32 : Int32)).toInt32)), .val (.int (1 : Int32)), .val (.long zs), .second, .val (.long ((own_usrL (own_mix (q0 + (-7046029254386353131 : Int64))) (32 : Int32)) * (zb.toInt64))), .second, .val (.long ((own_usrL (own_mix ((q0 + (-7046029254386353131 : Int64)) + (-7046029254386353131 : Int64))) (32 : Int32)) * (zb.toInt64))), .second] [(.long zs), (.long (((own_usrL (own_mix ((q0 + (-7046029254386353131 : Int64)) + (-7046029254386353131 : Int64))) (32 : Int32)) * (zb.toInt64)) &&& (4294967295 : Int64)))])) _
          refine XS.lcmp X115.here hx rfl (hb hby at_178) rfl ?_
          exact k)
        by_cases hc120 : (((own_usrL (own_mix ((q0 + (-7046029254386353131 : Int64)) + (-7046029254386353131 : Int64))) (32 : Int32)) * (zb.toInt64)) &&& (4294967295 : Int64)) < zs
        · skip
          have go122 := go121.step (C := T115.setTop (mkF m 220 #[.val (.long q0), .second, .val (.int p1), .val (.int p2), .val (.int zb), .val (.ref b82), .val (.ref b88), .val (.int ((own_usrL ((own_usrL (own_mix wf_98) (32 : Int32)) * (zb.toInt64)) (32 : Int32)).toInt32)), .val (.int (1 : Int32)), .val (.long zs), .second, .val (.long ((own_usrL (own_mix (q0 + (-7046029254386353131 : Int64))) (32 : Int32)) * (zb.toInt64))), .second, .val (.long ((own_usrL (own_mix ((q0 + (-7046029254386353131 : Int64)) + (-7046029254386353131 : Int64))) (32 : Int32)) * (zb.toInt64))), .second] [(.int (1 : Int32))])) (fun t k => by
            show Steps p.tables e below (T115.setTop (mkF m 179 #[.val (.long q0), .second, .val (.int p1), .val (.int p2), .val (.int zb), .val (.ref b82), .val (.ref b88), .val (.int ((own_usrL ((own_usrL (own_mix wf_98) (32 : Int32)) * (zb.toInt64)) (32 : Int32)).toInt32)), .val (.int (1 : Int32)), .val (.long zs), .second, .val (.long ((own_usrL (own_mix (q0 + (-7046029254386353131 : Int64))) (32 : Int32)) * (zb.toInt64))), .second, .val (.long ((own_usrL (own_mix ((q0 + (-7046029254386353131 : Int64)) + (-7046029254386353131 : Int64))) (32 : Int32)) * (zb.toInt64))), .second] [(.int (lcmpW (((own_usrL (own_mix ((q0 + (-7046029254386353131 : Int64)) + (-7046029254386353131 : Int64))) (32 : Int32)) * (zb.toInt64)) &&& (4294967295 : Int64)) zs))])) _
            refine XS.ifYes X115.here hx rfl (pc0 := 179) (pc' := 218) rfl (hb hby at_179) rfl ((if0 _ _).trans (tlt ((lw_lt _ _).mpr hc120)).1) (by decide) (by decide) ?_
            show Steps p.tables e below (T115.setTop (mkF m 218 #[.val (.long q0), .second, .val (.int p1), .val (.int p2), .val (.int zb), .val (.ref b82), .val (.ref b88), .val (.int ((own_usrL ((own_usrL (own_mix wf_98) (32 : Int32)) * (zb.toInt64)) (32 : Int32)).toInt32)), .val (.int (1 : Int32)), .val (.long zs), .second, .val (.long ((own_usrL (own_mix (q0 + (-7046029254386353131 : Int64))) (32 : Int32)) * (zb.toInt64))), .second, .val (.long ((own_usrL (own_mix ((q0 + (-7046029254386353131 : Int64)) + (-7046029254386353131 : Int64))) (32 : Int32)) * (zb.toInt64))), .second] [])) _
            refine XS.iload X115.here hx rfl (hb hby at_218) rfl ?_
            exact k)
          obtain ⟨fs, hr, hrun, hended, hW, hsame⟩ := X115.leave (v := some (.int (1 : Int32))) (fun h => by rw [Bd.returns] at h; cases h)
          refine ⟨_, _, go122 _ ?_, hrun, hended, _, _, rfl, ?_, ⟨_, rfl⟩, hW, hsame.mono (by decide) (by decide)⟩
          · exact retN X115 hx (t := .boolean) Bd.returns (by simp) (hb hby at_220) hr
          · show Q_rm0 Z q0 p1 p2 h0 n0 _ T115.heap _
            exact ⟨rfl, N115⟩
        · skip
          have go125 := go121.step (C := T115.setTop (mkF m 200 #[.val (.long q0), .second, .val (.int p1), .val (.int p2), .val (.int zb), .val (.ref b82), .val (.ref b88), .val (.int ((own_usrL ((own_usrL (own_mix wf_98) (32 : Int32)) * (zb.toInt64)) (32 : Int32)).toInt32)), .val (.int (1 : Int32)), .val (.long zs), .second, .val (.long ((own_usrL (own_mix (q0 + (-7046029254386353131 : Int64))) (32 : Int32)) * (zb.toInt64))), .second, .val (.long ((own_usrL (own_mix ((q0 + (-7046029254386353131 : Int64)) + (-7046029254386353131 : Int64))) (32 : Int32)) * (zb.toInt64))), .second] [(.ref b82)])) (fun t k => by
            show Steps p.tables e below (T115.setTop (mkF m 179 #[.val (.long q0), .second, .val (.int p1), .val (.int p2), .val (.int zb), .val (.ref b82), .val (.ref b88), .val (.int ((own_usrL ((own_usrL (own_mix wf_98) (32 : Int32)) * (zb.toInt64)) (32 : Int32)).toInt32)), .val (.int (1 : Int32)), .val (.long zs), .second, .val (.long ((own_usrL (own_mix (q0 + (-7046029254386353131 : Int64))) (32 : Int32)) * (zb.toInt64))), .second, .val (.long ((own_usrL (own_mix ((q0 + (-7046029254386353131 : Int64)) + (-7046029254386353131 : Int64))) (32 : Int32)) * (zb.toInt64))), .second] [(.int (lcmpW (((own_usrL (own_mix ((q0 + (-7046029254386353131 : Int64)) + (-7046029254386353131 : Int64))) (32 : Int32)) * (zb.toInt64)) &&& (4294967295 : Int64)) zs))])) _
            refine XS.ifNo X115.here hx rfl (hb hby at_179) rfl ((if0 _ _).trans (flt (fun q => hc120 ((lw_lt _ _).mp q))).1) ?_
            show Steps p.tables e below (T115.setTop (mkF m 182 #[.val (.long q0), .second, .val (.int p1), .val (.int p2), .val (.int zb), .val (.ref b82), .val (.ref b88), .val (.int ((own_usrL ((own_usrL (own_mix wf_98) (32 : Int32)) * (zb.toInt64)) (32 : Int32)).toInt32)), .val (.int (1 : Int32)), .val (.long zs), .second, .val (.long ((own_usrL (own_mix (q0 + (-7046029254386353131 : Int64))) (32 : Int32)) * (zb.toInt64))), .second, .val (.long ((own_usrL (own_mix ((q0 + (-7046029254386353131 : Int64)) + (-7046029254386353131 : Int64))) (32 : Int32)) * (zb.toInt64))), .second] [])) _
            refine XS.iload X115.here hx rfl (hb hby at_182) rfl ?_
            show Steps p.tables e below (T115.setTop (mkF m 184 #[.val (.long q0), .second, .val (.int p1), .val (.int p2), .val (.int zb), .val (.ref b82), .val (.ref b88), .val (.int ((own_usrL ((own_usrL (own_mix wf_98) (32 : Int32)) * (zb.toInt64)) (32 : Int32)).toInt32)), .val (.int (1 : Int32)), .val (.long zs), .second, .val (.long ((own_usrL (own_mix (q0 + (-7046029254386353131 : Int64))) (32 : Int32)) * (zb.toInt64))), .second, .val (.long ((own_usrL (own_mix ((q0 + (-7046029254386353131 : Int64)) + (-7046029254386353131 : Int64))) (32 : Int32)) * (zb.toInt64))), .second] [(.int (1 : Int32))])) _
            refine XS.ifNo X115.here hx rfl (hb hby at_184) rfl ((if0 _ _).trans (feq ((by decide) : ¬ ((1 : Int32) = (0 : Int32)))).1) ?_
            show Steps p.tables e below (T115.setTop (mkF m 187 #[.val (.long q0), .second, .val (.int p1), .val (.int p2), .val (.int zb), .val (.ref b82), .val (.ref b88), .val (.int ((own_usrL ((own_usrL (own_mix wf_98) (32 : Int32)) * (zb.toInt64)) (32 : Int32)).toInt32)), .val (.int (1 : Int32)), .val (.long zs), .second, .val (.long ((own_usrL (own_mix (q0 + (-7046029254386353131 : Int64))) (32 : Int32)) * (zb.toInt64))), .second, .val (.long ((own_usrL (own_mix ((q0 + (-7046029254386353131 : Int64)) + (-7046029254386353131 : Int64))) (32 : Int32)) * (zb.toInt64))), .second] [])) _
            refine XS.iload X115.here hx rfl (hb hby at_187) rfl ?_
            show Steps p.tables e below (T115.setTop (mkF m 189 #[.val (.long q0), .second, .val (.int p1), .val (.int p2), .val (.int zb), .val (.ref b82), .val (.ref b88), .val (.int ((own_usrL ((own_usrL (own_mix wf_98) (32 : Int32)) * (zb.toInt64)) (32 : Int32)).toInt32)), .val (.int (1 : Int32)), .val (.long zs), .second, .val (.long ((own_usrL (own_mix (q0 + (-7046029254386353131 : Int64))) (32 : Int32)) * (zb.toInt64))), .second, .val (.long ((own_usrL (own_mix ((q0 + (-7046029254386353131 : Int64)) + (-7046029254386353131 : Int64))) (32 : Int32)) * (zb.toInt64))), .second] [(.int ((own_usrL ((own_usrL (own_mix wf_98) (32 : Int32)) * (zb.toInt64)) (32 : Int32)).toInt32))])) _
            refine XS.lload X115.here hx rfl (hb hby at_189) rfl ?_
            show Steps p.tables e below (T115.setTop (mkF m 191 #[.val (.long q0), .second, .val (.int p1), .val (.int p2), .val (.int zb), .val (.ref b82), .val (.ref b88), .val (.int ((own_usrL ((own_usrL (own_mix wf_98) (32 : Int32)) * (zb.toInt64)) (32 : Int32)).toInt32)), .val (.int (1 : Int32)), .val (.long zs), .second, .val (.long ((own_usrL (own_mix (q0 + (-7046029254386353131 : Int64))) (32 : Int32)) * (zb.toInt64))), .second, .val (.long ((own_usrL (own_mix ((q0 + (-7046029254386353131 : Int64)) + (-7046029254386353131 : Int64))) (32 : Int32)) * (zb.toInt64))), .second] [(.long ((own_usrL (own_mix ((q0 + (-7046029254386353131 : Int64)) + (-7046029254386353131 : Int64))) (32 : Int32)) * (zb.toInt64))), (.int ((own_usrL ((own_usrL (own_mix wf_98) (32 : Int32)) * (zb.toInt64)) (32 : Int32)).toInt32))])) _
            refine XS.bipush X115.here hx rfl (hb hby at_191) ?_
            show Steps p.tables e below (T115.setTop (mkF m 193 #[.val (.long q0), .second, .val (.int p1), .val (.int p2), .val (.int zb), .val (.ref b82), .val (.ref b88), .val (.int ((own_usrL ((own_usrL (own_mix wf_98) (32 : Int32)) * (zb.toInt64)) (32 : Int32)).toInt32)), .val (.int (1 : Int32)), .val (.long zs), .second, .val (.long ((own_usrL (own_mix (q0 + (-7046029254386353131 : Int64))) (32 : Int32)) * (zb.toInt64))), .second, .val (.long ((own_usrL (own_mix ((q0 + (-7046029254386353131 : Int64)) + (-7046029254386353131 : Int64))) (32 : Int32)) * (zb.toInt64))), .second] [(.int (32 : Int32)), (.long ((own_usrL (own_mix ((q0 + (-7046029254386353131 : Int64)) + (-7046029254386353131 : Int64))) (32 : Int32)) * (zb.toInt64))), (.int ((own_usrL ((own_usrL (own_mix wf_98) (32 : Int32)) * (zb.toInt64)) (32 : Int32)).toInt32))])) _
            refine XS.lushr X115.here hx rfl (hb hby at_193) rfl ?_
            show Steps p.tables e below (T115.setTop (mkF m 194 #[.val (.long q0), .second, .val (.int p1), .val (.int p2), .val (.int zb), .val (.ref b82), .val (.ref b88), .val (.int ((own_usrL ((own_usrL (own_mix wf_98) (32 : Int32)) * (zb.toInt64)) (32 : Int32)).toInt32)), .val (.int (1 : Int32)), .val (.long zs), .second, .val (.long ((own_usrL (own_mix (q0 + (-7046029254386353131 : Int64))) (32 : Int32)) * (zb.toInt64))), .second, .val (.long ((own_usrL (own_mix ((q0 + (-7046029254386353131 : Int64)) + (-7046029254386353131 : Int64))) (32 : Int32)) * (zb.toInt64))), .second] [(.long (own_usrL ((own_usrL (own_mix ((q0 + (-7046029254386353131 : Int64)) + (-7046029254386353131 : Int64))) (32 : Int32)) * (zb.toInt64)) (32 : Int32))), (.int ((own_usrL ((own_usrL (own_mix wf_98) (32 : Int32)) * (zb.toInt64)) (32 : Int32)).toInt32))])) _
            refine XS.l2i X115.here hx rfl (hb hby at_194) rfl ?_
            show Steps p.tables e below (T115.setTop (mkF m 195 #[.val (.long q0), .second, .val (.int p1), .val (.int p2), .val (.int zb), .val (.ref b82), .val (.ref b88), .val (.int ((own_usrL ((own_usrL (own_mix wf_98) (32 : Int32)) * (zb.toInt64)) (32 : Int32)).toInt32)), .val (.int (1 : Int32)), .val (.long zs), .second, .val (.long ((own_usrL (own_mix (q0 + (-7046029254386353131 : Int64))) (32 : Int32)) * (zb.toInt64))), .second, .val (.long ((own_usrL (own_mix ((q0 + (-7046029254386353131 : Int64)) + (-7046029254386353131 : Int64))) (32 : Int32)) * (zb.toInt64))), .second] [(.int ((own_usrL ((own_usrL (own_mix ((q0 + (-7046029254386353131 : Int64)) + (-7046029254386353131 : Int64))) (32 : Int32)) * (zb.toInt64)) (32 : Int32)).toInt32)), (.int ((own_usrL ((own_usrL (own_mix wf_98) (32 : Int32)) * (zb.toInt64)) (32 : Int32)).toInt32))])) _
            refine XS.icmpNo X115.here hx rfl (hb hby at_195) rfl (teq (by rw [(own_J2 hJ hacc (fun q => q (hzs ▸ hc112)) (hzs ▸ hc120))] : ((own_usrL ((own_usrL (own_mix wf_98) (32 : Int32)) * (zb.toInt64)) (32 : Int32)).toInt32) = ((own_usrL ((own_usrL (own_mix ((q0 + (-7046029254386353131 : Int64)) + (-7046029254386353131 : Int64))) (32 : Int32)) * (zb.toInt64)) (32 : Int32)).toInt32))).2 ?_
            show Steps p.tables e below (T115.setTop (mkF m 198 #[.val (.long q0), .second, .val (.int p1), .val (.int p2), .val (.int zb), .val (.ref b82), .val (.ref b88), .val (.int ((own_usrL ((own_usrL (own_mix wf_98) (32 : Int32)) * (zb.toInt64)) (32 : Int32)).toInt32)), .val (.int (1 : Int32)), .val (.long zs), .second, .val (.long ((own_usrL (own_mix (q0 + (-7046029254386353131 : Int64))) (32 : Int32)) * (zb.toInt64))), .second, .val (.long ((own_usrL (own_mix ((q0 + (-7046029254386353131 : Int64)) + (-7046029254386353131 : Int64))) (32 : Int32)) * (zb.toInt64))), .second] [])) _
            refine XS.aload X115.here hx rfl (hb hby at_198) rfl rfl ?_
            exact k)
          obtain ⟨cq126, kq126, q126a, q126b, q126c⟩ := isOf hZ rfl f116
          obtain ⟨_, _, ⟨T126, L126, k126, n126⟩, -, X126, ⟨Lc126, hQ126, l126, y126, z126⟩, st126⟩ := X115.virtualBack hx (y := (⟨"com/example/roundhaul/roundhaul/solver/SeededRandom", "nextLong", "()J"⟩ : MethodName)) (z := (⟨"com/example/roundhaul/roundhaul/solver/SeededRandom", "nextLong", "()J"⟩ : MethodName)) hown (mvT hZ (hw _ (List.mem_of_getElem? (i := 27) rfl))) (mvT hZ (hw _ (List.mem_of_getElem? (i := 17) rfl))) (notFace_of_selects (args := #[]) (mvT hZ (hw _ (List.mem_of_getElem? (i := 19) rfl)))) (mvT hZ (hw _ (List.mem_of_getElem? (i := 19) rfl))) (mvT hZ (hw _ (List.mem_of_getElem? (i := 18) rfl))) (by decide) (backOf (W := 0) (rm4 l Z a0 hw [] b82 wf_98 T115.heap n0 Z115 f116 f118 g_b82) hZ (hw _ (List.mem_of_getElem? (i := 20) rfl)) (hw _ (List.mem_of_getElem? (i := 2) rfl)) (by decide) (by decide)) q126a q126c (g := (mkF m 200 #[.val (.long q0), .second, .val (.int p1), .val (.int p2), .val (.int zb), .val (.ref b82), .val (.ref b88), .val (.int ((own_usrL ((own_usrL (own_mix wf_98) (32 : Int32)) * (zb.toInt64)) (32 : Int32)).toInt32)), .val (.int (1 : Int32)), .val (.long zs), .second, .val (.long ((own_usrL (own_mix (q0 + (-7046029254386353131 : Int64))) (32 : Int32)) * (zb.toInt64))), .second, .val (.long ((own_usrL (own_mix ((q0 + (-7046029254386353131 : Int64)) + (-7046029254386353131 : Int64))) (32 : Int32)) * (zb.toInt64))), .second] [(.ref b82)])) rfl (by rw [hml]; rfl) (Steps.refl _) (argsL := []) (rest := []) (lenOf pd_rm0_2 rfl) rfl (by show 2 * 0 + _ ≤ _; exact Nat.le_of_eq rfl) (hb hby at_200) (fun _ _ => ⟨rfl, rfl, (by decide : 2 + 0 ≤ _), (by decide : 2 + 0 ≤ _)⟩)
          dsimp only [Pt.U, Pt.locs, Pt.cells, Pt.slots] at X126 l126 y126 z126 st126 hQ126
          rw [l126, y126, z126] at X126
          obtain ⟨rfl, N126q, K126, qp126_0, qp126_1⟩ := hQ126
          have N126 := Fr.app N115 N126q
          have f127 := f116.keep K126
          have f128 := qp115_0.keep K126
          have f130 := qp115_1.keep K126 (ninS (Ne.symm ne_b82_b88) nin0)
          have Z126 : n0 ≤ T126.heap.size := Nat.le_trans Z115 K126.1
          have KK126 := KK115.trans K126 (allS (Or.inr sz_b82) all0)
          have go126 := go125.tr (C := T126.setTop (mkF m 203 #[.val (.long q0), .second, .val (.int p1), .val (.int p2), .val (.int zb), .val (.ref b82), .val (.ref b88), .val (.int ((own_usrL ((own_usrL (own_mix wf_98) (32 : Int32)) * (zb.toInt64)) (32 : Int32)).toInt32)), .val (.int (1 : Int32)), .val (.long zs), .second, .val (.long ((own_usrL (own_mix (q0 + (-7046029254386353131 : Int64))) (32 : Int32)) * (zb.toInt64))), .second, .val (.long ((own_usrL (own_mix ((q0 + (-7046029254386353131 : Int64)) + (-7046029254386353131 : Int64))) (32 : Int32)) * (zb.toInt64))), .second] [(.long (own_mix (wf_98 + (-7046029254386353131 : Int64))))])) st126
          have go131 := go126.step (C := T126.setTop (mkF m 205 #[.val (.long q0), .second, .val (.int p1), .val (.int p2), .val (.int zb), .val (.ref b82), .val (.ref b88), .val (.int ((own_usrL ((own_usrL (own_mix wf_98) (32 : Int32)) * (zb.toInt64)) (32 : Int32)).toInt32)), .val (.int (1 : Int32)), .val (.long zs), .second, .val (.long ((own_usrL (own_mix (q0 + (-7046029254386353131 : Int64))) (32 : Int32)) * (zb.toInt64))), .second, .val (.long ((own_usrL (own_mix ((q0 + (-7046029254386353131 : Int64)) + (-7046029254386353131 : Int64))) (32 : Int32)) * (zb.toInt64))), .second] [(.ref b88), (.long (own_mix (wf_98 + (-7046029254386353131 : Int64))))])) (fun t k => by
            show Steps p.tables e below (T126.setTop (mkF m 203 #[.val (.long q0), .second, .val (.int p1), .val (.int p2), .val (.int zb), .val (.ref b82), .val (.ref b88), .val (.int ((own_usrL ((own_usrL (own_mix wf_98) (32 : Int32)) * (zb.toInt64)) (32 : Int32)).toInt32)), .val (.int (1 : Int32)), .val (.long zs), .second, .val (.long ((own_usrL (own_mix (q0 + (-7046029254386353131 : Int64))) (32 : Int32)) * (zb.toInt64))), .second, .val (.long ((own_usrL (own_mix ((q0 + (-7046029254386353131 : Int64)) + (-7046029254386353131 : Int64))) (32 : Int32)) * (zb.toInt64))), .second] [(.long (own_mix (wf_98 + (-7046029254386353131 : Int64))))])) _
            refine XS.aload X126.here hx rfl (hb hby at_203) rfl rfl ?_
            exact k)
          obtain ⟨cq132, kq132, q132a, q132b, q132c⟩ := isOf hZ rfl f128
          obtain ⟨_, _, ⟨T132, L132, k132, n132⟩, -, X132, ⟨Lc132, hQ132, l132, y132, z132⟩, st132⟩ := X126.virtualBack hx (y := (⟨"com/example/roundhaul/roundhaul/solver/SeededRandom", "nextLong", "()J"⟩ : MethodName)) (z := (⟨"com/example/roundhaul/roundhaul/solver/SeededRandom", "nextLong", "()J"⟩ : MethodName)) hown (mvT hZ (hw _ (List.mem_of_getElem? (i := 27) rfl))) (mvT hZ (hw _ (List.mem_of_getElem? (i := 17) rfl))) (notFace_of_selects (args := #[]) (mvT hZ (hw _ (List.mem_of_getElem? (i := 19) rfl)))) (mvT hZ (hw _ (List.mem_of_getElem? (i := 19) rfl))) (mvT hZ (hw _ (List.mem_of_getElem? (i := 18) rfl))) (by decide) (backOf (W := 2) (rm4 l Z a0 hw [] b88 ((q0 + (-7046029254386353131 : Int64)) + (-7046029254386353131 : Int64)) T126.heap n0 Z126 f128 f130 g_b88) hZ (hw _ (List.mem_of_getElem? (i := 20) rfl)) (hw _ (List.mem_of_getElem? (i := 2) rfl)) (by decide) (by decide)) q132a q132c (g := (mkF m 205 #[.val (.long q0), .second, .val (.int p1), .val (.int p2), .val (.int zb), .val (.ref b82), .val (.ref b88), .val (.int ((own_usrL ((own_usrL (own_mix wf_98) (32 : Int32)) * (zb.toInt64)) (32 : Int32)).toInt32)), .val (.int (1 : Int32)), .val (.long zs), .second, .val (.long ((own_usrL (own_mix (q0 + (-7046029254386353131 : Int64))) (32 : Int32)) * (zb.toInt64))), .second, .val (.long ((own_usrL (own_mix ((q0 + (-7046029254386353131 : Int64)) + (-7046029254386353131 : Int64))) (32 : Int32)) * (zb.toInt64))), .second] [(.ref b88), (.long (own_mix (wf_98 + (-7046029254386353131 : Int64))))])) rfl (by rw [hml]; rfl) (Steps.refl _) (argsL := []) (rest := [(.long (own_mix (wf_98 + (-7046029254386353131 : Int64))))]) (lenOf pd_rm0_2 rfl) rfl (by show 2 * 0 + _ ≤ _; exact Nat.le_of_eq rfl) (hb hby at_205) (fun _ _ => ⟨rfl, rfl, (by decide : 2 + 0 ≤ _), (by decide : 2 + 0 ≤ _)⟩)
          dsimp only [Pt.U, Pt.locs, Pt.cells, Pt.slots] at X132 l132 y132 z132 st132 hQ132
          rw [l132, y132, z132] at X132
          obtain ⟨rfl, N132q, K132, qp132_0, qp132_1⟩ := hQ132
          have N132 := Fr.app N126 N132q
          have f133 := qp126_0.keep K132
          have f134 := f128.keep K132
          have f136 := qp126_1.keep K132 (ninS ne_b82_b88 nin0)
          have Z132 : n0 ≤ T132.heap.size := Nat.le_trans Z126 K132.1
          have KK132 := KK126.trans K132 (allS (Or.inr sz_b88) all0)
          have go132 := go131.tr (C := T132.setTop (mkF m 208 #[.val (.long q0), .second, .val (.int p1), .val (.int p2), .val (.int zb), .val (.ref b82), .val (.ref b88), .val (.int ((own_usrL ((own_usrL (own_mix wf_98) (32 : Int32)) * (zb.toInt64)) (32 : Int32)).toInt32)), .val (.int (1 : Int32)), .val (.long zs), .second, .val (.long ((own_usrL (own_mix (q0 + (-7046029254386353131 : Int64))) (32 : Int32)) * (zb.toInt64))), .second, .val (.long ((own_usrL (own_mix ((q0 + (-7046029254386353131 : Int64)) + (-7046029254386353131 : Int64))) (32 : Int32)) * (zb.toInt64))), .second] [(.long (own_mix (((q0 + (-7046029254386353131 : Int64)) + (-7046029254386353131 : Int64)) + (-7046029254386353131 : Int64)))), (.long (own_mix (wf_98 + (-7046029254386353131 : Int64))))])) st132
          have go138 := go132.step (C := T132.setTop (mkF m 217 #[.val (.long q0), .second, .val (.int p1), .val (.int p2), .val (.int zb), .val (.ref b82), .val (.ref b88), .val (.int ((own_usrL ((own_usrL (own_mix wf_98) (32 : Int32)) * (zb.toInt64)) (32 : Int32)).toInt32)), .val (.int (1 : Int32)), .val (.long zs), .second, .val (.long ((own_usrL (own_mix (q0 + (-7046029254386353131 : Int64))) (32 : Int32)) * (zb.toInt64))), .second, .val (.long ((own_usrL (own_mix ((q0 + (-7046029254386353131 : Int64)) + (-7046029254386353131 : Int64))) (32 : Int32)) * (zb.toInt64))), .second] [(.int (1 : Int32))])) (fun t k => by
            show Steps p.tables e below (T132.setTop (mkF m 208 #[.val (.long q0), .second, .val (.int p1), .val (.int p2), .val (.int zb), .val (.ref b82), .val (.ref b88), .val (.int ((own_usrL ((own_usrL (own_mix wf_98) (32 : Int32)) * (zb.toInt64)) (32 : Int32)).toInt32)), .val (.int (1 : Int32)), .val (.long zs), .second, .val (.long ((own_usrL (own_mix (q0 + (-7046029254386353131 : Int64))) (32 : Int32)) * (zb.toInt64))), .second, .val (.long ((own_usrL (own_mix ((q0 + (-7046029254386353131 : Int64)) + (-7046029254386353131 : Int64))) (32 : Int32)) * (zb.toInt64))), .second] [(.long (own_mix (((q0 + (-7046029254386353131 : Int64)) + (-7046029254386353131 : Int64)) + (-7046029254386353131 : Int64)))), (.long (own_mix (wf_98 + (-7046029254386353131 : Int64))))])) _
            refine XS.lcmp X132.here hx rfl (hb hby at_208) rfl ?_
            show Steps p.tables e below (T132.setTop (mkF m 209 #[.val (.long q0), .second, .val (.int p1), .val (.int p2), .val (.int zb), .val (.ref b82), .val (.ref b88), .val (.int ((own_usrL ((own_usrL (own_mix wf_98) (32 : Int32)) * (zb.toInt64)) (32 : Int32)).toInt32)), .val (.int (1 : Int32)), .val (.long zs), .second, .val (.long ((own_usrL (own_mix (q0 + (-7046029254386353131 : Int64))) (32 : Int32)) * (zb.toInt64))), .second, .val (.long ((own_usrL (own_mix ((q0 + (-7046029254386353131 : Int64)) + (-7046029254386353131 : Int64))) (32 : Int32)) * (zb.toInt64))), .second] [(.int (lcmpW (own_mix (wf_98 + (-7046029254386353131 : Int64))) (own_mix (((q0 + (-7046029254386353131 : Int64)) + (-7046029254386353131 : Int64)) + (-7046029254386353131 : Int64)))))])) _
            refine XS.ifNo X132.here hx rfl (hb hby at_209) rfl ((if0 _ _).trans (teq ((lw_eq _ _).mpr (by rw [(own_J2 hJ hacc (fun q => q (hzs ▸ hc112)) (hzs ▸ hc120))] : (own_mix (wf_98 + (-7046029254386353131 : Int64))) = (own_mix (((q0 + (-7046029254386353131 : Int64)) + (-7046029254386353131 : Int64)) + (-7046029254386353131 : Int64)))))).2) ?_
            show Steps p.tables e below (T132.setTop (mkF m 212 #[.val (.long q0), .second, .val (.int p1), .val (.int p2), .val (.int zb), .val (.ref b82), .val (.ref b88), .val (.int ((own_usrL ((own_usrL (own_mix wf_98) (32 : Int32)) * (zb.toInt64)) (32 : Int32)).toInt32)), .val (.int (1 : Int32)), .val (.long zs), .second, .val (.long ((own_usrL (own_mix (q0 + (-7046029254386353131 : Int64))) (32 : Int32)) * (zb.toInt64))), .second, .val (.long ((own_usrL (own_mix ((q0 + (-7046029254386353131 : Int64)) + (-7046029254386353131 : Int64))) (32 : Int32)) * (zb.toInt64))), .second] [])) _
            refine XS.iconst X132.here hx rfl (hb hby at_212) ?_
            show Steps p.tables e below (T132.setTop (mkF m 213 #[.val (.long q0), .second, .val (.int p1), .val (.int p2), .val (.int zb), .val (.ref b82), .val (.ref b88), .val (.int ((own_usrL ((own_usrL (own_mix wf_98) (32 : Int32)) * (zb.toInt64)) (32 : Int32)).toInt32)), .val (.int (1 : Int32)), .val (.long zs), .second, .val (.long ((own_usrL (own_mix (q0 + (-7046029254386353131 : Int64))) (32 : Int32)) * (zb.toInt64))), .second, .val (.long ((own_usrL (own_mix ((q0 + (-7046029254386353131 : Int64)) + (-7046029254386353131 : Int64))) (32 : Int32)) * (zb.toInt64))), .second] [(.int (1 : Int32))])) _
            refine XS.goto X132.here hx rfl (pc0 := 213) (pc' := 217) rfl (hb hby at_213) (by decide) (by decide) ?_
            exact k)
          obtain ⟨fs, hr, hrun, hended, hW, hsame⟩ := X132.leave (v := some (.int (1 : Int32))) (fun h => by rw [Bd.returns] at h; cases h)
          refine ⟨_, _, go138 _ ?_, hrun, hended, _, _, rfl, ?_, ⟨_, rfl⟩, hW, hsame.mono (by decide) (by decide)⟩
          · exact retN X132 hx (t := .boolean) Bd.returns (by simp) (hb hby at_217) hr
          · show Q_rm0 Z q0 p1 p2 h0 n0 _ T132.heap _
            exact ⟨rfl, N132⟩
      · skip
        have go141 := go113.step (C := T107.setTop (mkF m 138 #[.val (.long q0), .second, .val (.int p1), .val (.int p2), .val (.int zb), .val (.ref b82), .val (.ref b88), .val (.int ((own_usrL ((own_usrL (own_mix wf_98) (32 : Int32)) * (zb.toInt64)) (32 : Int32)).toInt32)), .val (.int (1 : Int32)), .val (.long zs), .second, .val (.long ((own_usrL (own_mix (q0 + (-7046029254386353131 : Int64))) (32 : Int32)) * (zb.toInt64))), .second, .unset, .unset] [(.ref b82)])) (fun t k => by
          show Steps p.tables e below (T107.setTop (mkF m 117 #[.val (.long q0), .second, .val (.int p1), .val (.int p2), .val (.int zb), .val (.ref b82), .val (.ref b88), .val (.int ((own_usrL ((own_usrL (own_mix wf_98) (32 : Int32)) * (zb.toInt64)) (32 : Int32)).toInt32)), .val (.int (1 : Int32)), .val (.long zs), .second, .val (.long ((own_usrL (own_mix (q0 + (-7046029254386353131 : Int64))) (32 : Int32)) * (zb.toInt64))), .second, .unset, .unset] [(.int (lcmpW (((own_usrL (own_mix (q0 + (-7046029254386353131 : Int64))) (32 : Int32)) * (zb.toInt64)) &&& (4294967295 : Int64)) zs))])) _
          refine XS.ifNo X107.here hx rfl (hb hby at_117) rfl ((if0 _ _).trans (flt (fun q => hc112 ((lw_lt _ _).mp q))).1) ?_
          show Steps p.tables e below (T107.setTop (mkF m 120 #[.val (.long q0), .second, .val (.int p1), .val (.int p2), .val (.int zb), .val (.ref b82), .val (.ref b88), .val (.int ((own_usrL ((own_usrL (own_mix wf_98) (32 : Int32)) * (zb.toInt64)) (32 : Int32)).toInt32)), .val (.int (1 : Int32)), .val (.long zs), .second, .val (.long ((own_usrL (own_mix (q0 + (-7046029254386353131 : Int64))) (32 : Int32)) * (zb.toInt64))), .second, .unset, .unset] [])) _
          refine XS.iload X107.here hx rfl (hb hby at_120) rfl ?_
          show Steps p.tables e below (T107.setTop (mkF m 122 #[.val (.long q0), .second, .val (.int p1), .val (.int p2), .val (.int zb), .val (.ref b82), .val (.ref b88), .val (.int ((own_usrL ((own_usrL (own_mix wf_98) (32 : Int32)) * (zb.toInt64)) (32 : Int32)).toInt32)), .val (.int (1 : Int32)), .val (.long zs), .second, .val (.long ((own_usrL (own_mix (q0 + (-7046029254386353131 : Int64))) (32 : Int32)) * (zb.toInt64))), .second, .unset, .unset] [(.int (1 : Int32))])) _
          refine XS.ifNo X107.here hx rfl (hb hby at_122) rfl ((if0 _ _).trans (feq ((by decide) : ¬ ((1 : Int32) = (0 : Int32)))).1) ?_
          show Steps p.tables e below (T107.setTop (mkF m 125 #[.val (.long q0), .second, .val (.int p1), .val (.int p2), .val (.int zb), .val (.ref b82), .val (.ref b88), .val (.int ((own_usrL ((own_usrL (own_mix wf_98) (32 : Int32)) * (zb.toInt64)) (32 : Int32)).toInt32)), .val (.int (1 : Int32)), .val (.long zs), .second, .val (.long ((own_usrL (own_mix (q0 + (-7046029254386353131 : Int64))) (32 : Int32)) * (zb.toInt64))), .second, .unset, .unset] [])) _
          refine XS.iload X107.here hx rfl (hb hby at_125) rfl ?_
          show Steps p.tables e below (T107.setTop (mkF m 127 #[.val (.long q0), .second, .val (.int p1), .val (.int p2), .val (.int zb), .val (.ref b82), .val (.ref b88), .val (.int ((own_usrL ((own_usrL (own_mix wf_98) (32 : Int32)) * (zb.toInt64)) (32 : Int32)).toInt32)), .val (.int (1 : Int32)), .val (.long zs), .second, .val (.long ((own_usrL (own_mix (q0 + (-7046029254386353131 : Int64))) (32 : Int32)) * (zb.toInt64))), .second, .unset, .unset] [(.int ((own_usrL ((own_usrL (own_mix wf_98) (32 : Int32)) * (zb.toInt64)) (32 : Int32)).toInt32))])) _
          refine XS.lload X107.here hx rfl (hb hby at_127) rfl ?_
          show Steps p.tables e below (T107.setTop (mkF m 129 #[.val (.long q0), .second, .val (.int p1), .val (.int p2), .val (.int zb), .val (.ref b82), .val (.ref b88), .val (.int ((own_usrL ((own_usrL (own_mix wf_98) (32 : Int32)) * (zb.toInt64)) (32 : Int32)).toInt32)), .val (.int (1 : Int32)), .val (.long zs), .second, .val (.long ((own_usrL (own_mix (q0 + (-7046029254386353131 : Int64))) (32 : Int32)) * (zb.toInt64))), .second, .unset, .unset] [(.long ((own_usrL (own_mix (q0 + (-7046029254386353131 : Int64))) (32 : Int32)) * (zb.toInt64))), (.int ((own_usrL ((own_usrL (own_mix wf_98) (32 : Int32)) * (zb.toInt64)) (32 : Int32)).toInt32))])) _
          refine XS.bipush X107.here hx rfl (hb hby at_129) ?_
          show Steps p.tables e below (T107.setTop (mkF m 131 #[.val (.long q0), .second, .val (.int p1), .val (.int p2), .val (.int zb), .val (.ref b82), .val (.ref b88), .val (.int ((own_usrL ((own_usrL (own_mix wf_98) (32 : Int32)) * (zb.toInt64)) (32 : Int32)).toInt32)), .val (.int (1 : Int32)), .val (.long zs), .second, .val (.long ((own_usrL (own_mix (q0 + (-7046029254386353131 : Int64))) (32 : Int32)) * (zb.toInt64))), .second, .unset, .unset] [(.int (32 : Int32)), (.long ((own_usrL (own_mix (q0 + (-7046029254386353131 : Int64))) (32 : Int32)) * (zb.toInt64))), (.int ((own_usrL ((own_usrL (own_mix wf_98) (32 : Int32)) * (zb.toInt64)) (32 : Int32)).toInt32))])) _
          refine XS.lushr X107.here hx rfl (hb hby at_131) rfl ?_
          show Steps p.tables e below (T107.setTop (mkF m 132 #[.val (.long q0), .second, .val (.int p1), .val (.int p2), .val (.int zb), .val (.ref b82), .val (.ref b88), .val (.int ((own_usrL ((own_usrL (own_mix wf_98) (32 : Int32)) * (zb.toInt64)) (32 : Int32)).toInt32)), .val (.int (1 : Int32)), .val (.long zs), .second, .val (.long ((own_usrL (own_mix (q0 + (-7046029254386353131 : Int64))) (32 : Int32)) * (zb.toInt64))), .second, .unset, .unset] [(.long (own_usrL ((own_usrL (own_mix (q0 + (-7046029254386353131 : Int64))) (32 : Int32)) * (zb.toInt64)) (32 : Int32))), (.int ((own_usrL ((own_usrL (own_mix wf_98) (32 : Int32)) * (zb.toInt64)) (32 : Int32)).toInt32))])) _
          refine XS.l2i X107.here hx rfl (hb hby at_132) rfl ?_
          show Steps p.tables e below (T107.setTop (mkF m 133 #[.val (.long q0), .second, .val (.int p1), .val (.int p2), .val (.int zb), .val (.ref b82), .val (.ref b88), .val (.int ((own_usrL ((own_usrL (own_mix wf_98) (32 : Int32)) * (zb.toInt64)) (32 : Int32)).toInt32)), .val (.int (1 : Int32)), .val (.long zs), .second, .val (.long ((own_usrL (own_mix (q0 + (-7046029254386353131 : Int64))) (32 : Int32)) * (zb.toInt64))), .second, .unset, .unset] [(.int ((own_usrL ((own_usrL (own_mix (q0 + (-7046029254386353131 : Int64))) (32 : Int32)) * (zb.toInt64)) (32 : Int32)).toInt32)), (.int ((own_usrL ((own_usrL (own_mix wf_98) (32 : Int32)) * (zb.toInt64)) (32 : Int32)).toInt32))])) _
          refine XS.icmpNo X107.here hx rfl (hb hby at_133) rfl (teq (by rw [(own_J1 hJ (hzs ▸ hc112))] : ((own_usrL ((own_usrL (own_mix wf_98) (32 : Int32)) * (zb.toInt64)) (32 : Int32)).toInt32) = ((own_usrL ((own_usrL (own_mix (q0 + (-7046029254386353131 : Int64))) (32 : Int32)) * (zb.toInt64)) (32 : Int32)).toInt32))).2 ?_
          show Steps p.tables e below (T107.setTop (mkF m 136 #[.val (.long q0), .second, .val (.int p1), .val (.int p2), .val (.int zb), .val (.ref b82), .val (.ref b88), .val (.int ((own_usrL ((own_usrL (own_mix wf_98) (32 : Int32)) * (zb.toInt64)) (32 : Int32)).toInt32)), .val (.int (1 : Int32)), .val (.long zs), .second, .val (.long ((own_usrL (own_mix (q0 + (-7046029254386353131 : Int64))) (32 : Int32)) * (zb.toInt64))), .second, .unset, .unset] [])) _
          refine XS.aload X107.here hx rfl (hb hby at_136) rfl rfl ?_
          exact k)
        obtain ⟨cq142, kq142, q142a, q142b, q142c⟩ := isOf hZ rfl f108
        obtain ⟨_, _, ⟨T142, L142, k142, n142⟩, -, X142, ⟨Lc142, hQ142, l142, y142, z142⟩, st142⟩ := X107.virtualBack hx (y := (⟨"com/example/roundhaul/roundhaul/solver/SeededRandom", "nextLong", "()J"⟩ : MethodName)) (z := (⟨"com/example/roundhaul/roundhaul/solver/SeededRandom", "nextLong", "()J"⟩ : MethodName)) hown (mvT hZ (hw _ (List.mem_of_getElem? (i := 27) rfl))) (mvT hZ (hw _ (List.mem_of_getElem? (i := 17) rfl))) (notFace_of_selects (args := #[]) (mvT hZ (hw _ (List.mem_of_getElem? (i := 19) rfl)))) (mvT hZ (hw _ (List.mem_of_getElem? (i := 19) rfl))) (mvT hZ (hw _ (List.mem_of_getElem? (i := 18) rfl))) (by decide) (backOf (W := 0) (rm4 l Z a0 hw [] b82 wf_98 T107.heap n0 Z107 f108 f111 g_b82) hZ (hw _ (List.mem_of_getElem? (i := 20) rfl)) (hw _ (List.mem_of_getElem? (i := 2) rfl)) (by decide) (by decide)) q142a q142c (g := (mkF m 138 #[.val (.long q0), .second, .val (.int p1), .val (.int p2), .val (.int zb), .val (.ref b82), .val (.ref b88), .val (.int ((own_usrL ((own_usrL (own_mix wf_98) (32 : Int32)) * (zb.toInt64)) (32 : Int32)).toInt32)), .val (.int (1 : Int32)), .val (.long zs), .second, .val (.long ((own_usrL (own_mix (q0 + (-7046029254386353131 : Int64))) (32 : Int32)) * (zb.toInt64))), .second, .unset, .unset] [(.ref b82)])) rfl (by rw [hml]; rfl) (Steps.refl _) (argsL := []) (rest := []) (lenOf pd_rm0_2 rfl) rfl (by show 2 * 0 + _ ≤ _; exact Nat.le_of_eq rfl) (hb hby at_138) (fun _ _ => ⟨rfl, rfl, (by decide : 2 + 0 ≤ _), (by decide : 2 + 0 ≤ _)⟩)
        dsimp only [Pt.U, Pt.locs, Pt.cells, Pt.slots] at X142 l142 y142 z142 st142 hQ142
        rw [l142, y142, z142] at X142
        obtain ⟨rfl, N142q, K142, qp142_0, qp142_1⟩ := hQ142
        have N142 := Fr.app N107 N142q
        have f143 := f108.keep K142
        have f144 := qp107_0.keep K142
        have f146 := qp107_1.keep K142 (ninS (Ne.symm ne_b82_b88) nin0)
        have Z142 : n0 ≤ T142.heap.size := Nat.le_trans Z107 K142.1
        have KK142 := KK107.trans K142 (allS (Or.inr sz_b82) all0)
        have go142 := go141.tr (C := T142.setTop (mkF m 141 #[.val (.long q0), .second, .val (.int p1), .val (.int p2), .val (.int zb), .val (.ref b82), .val (.ref b88), .val (.int ((own_usrL ((own_usrL (own_mix wf_98) (32 : Int32)) * (zb.toInt64)) (32 : Int32)).toInt32)), .val (.int (1 : Int32)), .val (.long zs), .second, .val (.long ((own_usrL (own_mix (q0 + (-7046029254386353131 : Int64))) (32 : Int32)) * (zb.toInt64))), .second, .unset, .unset] [(.long (own_mix (wf_98 + (-7046029254386353131 : Int64))))])) st142
        have go147 := go142.step (C := T142.setTop (mkF m 143 #[.val (.long q0), .second, .val (.int p1), .val (.int p2), .val (.int zb), .val (.ref b82), .val (.ref b88), .val (.int ((own_usrL ((own_usrL (own_mix wf_98) (32 : Int32)) * (zb.toInt64)) (32 : Int32)).toInt32)), .val (.int (1 : Int32)), .val (.long zs), .second, .val (.long ((own_usrL (own_mix (q0 + (-7046029254386353131 : Int64))) (32 : Int32)) * (zb.toInt64))), .second, .unset, .unset] [(.ref b88), (.long (own_mix (wf_98 + (-7046029254386353131 : Int64))))])) (fun t k => by
          show Steps p.tables e below (T142.setTop (mkF m 141 #[.val (.long q0), .second, .val (.int p1), .val (.int p2), .val (.int zb), .val (.ref b82), .val (.ref b88), .val (.int ((own_usrL ((own_usrL (own_mix wf_98) (32 : Int32)) * (zb.toInt64)) (32 : Int32)).toInt32)), .val (.int (1 : Int32)), .val (.long zs), .second, .val (.long ((own_usrL (own_mix (q0 + (-7046029254386353131 : Int64))) (32 : Int32)) * (zb.toInt64))), .second, .unset, .unset] [(.long (own_mix (wf_98 + (-7046029254386353131 : Int64))))])) _
          refine XS.aload X142.here hx rfl (hb hby at_141) rfl rfl ?_
          exact k)
        obtain ⟨cq148, kq148, q148a, q148b, q148c⟩ := isOf hZ rfl f144
        obtain ⟨_, _, ⟨T148, L148, k148, n148⟩, -, X148, ⟨Lc148, hQ148, l148, y148, z148⟩, st148⟩ := X142.virtualBack hx (y := (⟨"com/example/roundhaul/roundhaul/solver/SeededRandom", "nextLong", "()J"⟩ : MethodName)) (z := (⟨"com/example/roundhaul/roundhaul/solver/SeededRandom", "nextLong", "()J"⟩ : MethodName)) hown (mvT hZ (hw _ (List.mem_of_getElem? (i := 27) rfl))) (mvT hZ (hw _ (List.mem_of_getElem? (i := 17) rfl))) (notFace_of_selects (args := #[]) (mvT hZ (hw _ (List.mem_of_getElem? (i := 19) rfl)))) (mvT hZ (hw _ (List.mem_of_getElem? (i := 19) rfl))) (mvT hZ (hw _ (List.mem_of_getElem? (i := 18) rfl))) (by decide) (backOf (W := 2) (rm4 l Z a0 hw [] b88 (q0 + (-7046029254386353131 : Int64)) T142.heap n0 Z142 f144 f146 g_b88) hZ (hw _ (List.mem_of_getElem? (i := 20) rfl)) (hw _ (List.mem_of_getElem? (i := 2) rfl)) (by decide) (by decide)) q148a q148c (g := (mkF m 143 #[.val (.long q0), .second, .val (.int p1), .val (.int p2), .val (.int zb), .val (.ref b82), .val (.ref b88), .val (.int ((own_usrL ((own_usrL (own_mix wf_98) (32 : Int32)) * (zb.toInt64)) (32 : Int32)).toInt32)), .val (.int (1 : Int32)), .val (.long zs), .second, .val (.long ((own_usrL (own_mix (q0 + (-7046029254386353131 : Int64))) (32 : Int32)) * (zb.toInt64))), .second, .unset, .unset] [(.ref b88), (.long (own_mix (wf_98 + (-7046029254386353131 : Int64))))])) rfl (by rw [hml]; rfl) (Steps.refl _) (argsL := []) (rest := [(.long (own_mix (wf_98 + (-7046029254386353131 : Int64))))]) (lenOf pd_rm0_2 rfl) rfl (by show 2 * 0 + _ ≤ _; exact Nat.le_of_eq rfl) (hb hby at_143) (fun _ _ => ⟨rfl, rfl, (by decide : 2 + 0 ≤ _), (by decide : 2 + 0 ≤ _)⟩)
        dsimp only [Pt.U, Pt.locs, Pt.cells, Pt.slots] at X148 l148 y148 z148 st148 hQ148
        rw [l148, y148, z148] at X148
        obtain ⟨rfl, N148q, K148, qp148_0, qp148_1⟩ := hQ148
        have N148 := Fr.app N142 N148q
        have f149 := qp142_0.keep K148
        have f150 := f144.keep K148
        have f152 := qp142_1.keep K148 (ninS ne_b82_b88 nin0)
        have Z148 : n0 ≤ T148.heap.size := Nat.le_trans Z142 K148.1
        have KK148 := KK142.trans K148 (allS (Or.inr sz_b88) all0)
        have go148 := go147.tr (C := T148.setTop (mkF m 146 #[.val (.long q0), .second, .val (.int p1), .val (.int p2), .val (.int zb), .val (.ref b82), .val (.ref b88), .val (.int ((own_usrL ((own_usrL (own_mix wf_98) (32 : Int32)) * (zb.toInt64)) (32 : Int32)).toInt32)), .val (.int (1 : Int32)), .val (.long zs), .second, .val (.long ((own_usrL (own_mix (q0 + (-7046029254386353131 : Int64))) (32 : Int32)) * (zb.toInt64))), .second, .unset, .unset] [(.long (own_mix ((q0 + (-7046029254386353131 : Int64)) + (-7046029254386353131 : Int64)))), (.long (own_mix (wf_98 + (-7046029254386353131 : Int64))))])) st148
        have go154 := go148.step (C := T148.setTop (mkF m 155 #[.val (.long q0), .second, .val (.int p1), .val (.int p2), .val (.int zb), .val (.ref b82), .val (.ref b88), .val (.int ((own_usrL ((own_usrL (own_mix wf_98) (32 : Int32)) * (zb.toInt64)) (32 : Int32)).toInt32)), .val (.int (1 : Int32)), .val (.long zs), .second, .val (.long ((own_usrL (own_mix (q0 + (-7046029254386353131 : Int64))) (32 : Int32)) * (zb.toInt64))), .second, .unset, .unset] [(.int (1 : Int32))])) (fun t k => by
          show Steps p.tables e below (T148.setTop (mkF m 146 #[.val (.long q0), .second, .val (.int p1), .val (.int p2), .val (.int zb), .val (.ref b82), .val (.ref b88), .val (.int ((own_usrL ((own_usrL (own_mix wf_98) (32 : Int32)) * (zb.toInt64)) (32 : Int32)).toInt32)), .val (.int (1 : Int32)), .val (.long zs), .second, .val (.long ((own_usrL (own_mix (q0 + (-7046029254386353131 : Int64))) (32 : Int32)) * (zb.toInt64))), .second, .unset, .unset] [(.long (own_mix ((q0 + (-7046029254386353131 : Int64)) + (-7046029254386353131 : Int64)))), (.long (own_mix (wf_98 + (-7046029254386353131 : Int64))))])) _
          refine XS.lcmp X148.here hx rfl (hb hby at_146) rfl ?_
          show Steps p.tables e below (T148.setTop (mkF m 147 #[.val (.long q0), .second, .val (.int p1), .val (.int p2), .val (.int zb), .val (.ref b82), .val (.ref b88), .val (.int ((own_usrL ((own_usrL (own_mix wf_98) (32 : Int32)) * (zb.toInt64)) (32 : Int32)).toInt32)), .val (.int (1 : Int32)), .val (.long zs), .second, .val (.long ((own_usrL (own_mix (q0 + (-7046029254386353131 : Int64))) (32 : Int32)) * (zb.toInt64))), .second, .unset, .unset] [(.int (lcmpW (own_mix (wf_98 + (-7046029254386353131 : Int64))) (own_mix ((q0 + (-7046029254386353131 : Int64)) + (-7046029254386353131 : Int64)))))])) _
          refine XS.ifNo X148.here hx rfl (hb hby at_147) rfl ((if0 _ _).trans (teq ((lw_eq _ _).mpr (by rw [(own_J1 hJ (hzs ▸ hc112))] : (own_mix (wf_98 + (-7046029254386353131 : Int64))) = (own_mix ((q0 + (-7046029254386353131 : Int64)) + (-7046029254386353131 : Int64)))))).2) ?_
          show Steps p.tables e below (T148.setTop (mkF m 150 #[.val (.long q0), .second, .val (.int p1), .val (.int p2), .val (.int zb), .val (.ref b82), .val (.ref b88), .val (.int ((own_usrL ((own_usrL (own_mix wf_98) (32 : Int32)) * (zb.toInt64)) (32 : Int32)).toInt32)), .val (.int (1 : Int32)), .val (.long zs), .second, .val (.long ((own_usrL (own_mix (q0 + (-7046029254386353131 : Int64))) (32 : Int32)) * (zb.toInt64))), .second, .unset, .unset] [])) _
          refine XS.iconst X148.here hx rfl (hb hby at_150) ?_
          show Steps p.tables e below (T148.setTop (mkF m 151 #[.val (.long q0), .second, .val (.int p1), .val (.int p2), .val (.int zb), .val (.ref b82), .val (.ref b88), .val (.int ((own_usrL ((own_usrL (own_mix wf_98) (32 : Int32)) * (zb.toInt64)) (32 : Int32)).toInt32)), .val (.int (1 : Int32)), .val (.long zs), .second, .val (.long ((own_usrL (own_mix (q0 + (-7046029254386353131 : Int64))) (32 : Int32)) * (zb.toInt64))), .second, .unset, .unset] [(.int (1 : Int32))])) _
          refine XS.goto X148.here hx rfl (pc0 := 151) (pc' := 155) rfl (hb hby at_151) (by decide) (by decide) ?_
          exact k)
        obtain ⟨fs, hr, hrun, hended, hW, hsame⟩ := X148.leave (v := some (.int (1 : Int32))) (fun h => by rw [Bd.returns] at h; cases h)
        refine ⟨_, _, go154 _ ?_, hrun, hended, _, _, rfl, ?_, ⟨_, rfl⟩, hW, hsame.mono (by decide) (by decide)⟩
        · exact retN X148 hx (t := .boolean) Bd.returns (by simp) (hb hby at_155) hr
        · show Q_rm0 Z q0 p1 p2 h0 n0 _ T148.heap _
          exact ⟨rfl, N148⟩
  · skip
    have go155 := go2.step (C := s₁.setTop (mkF m 37 #[.val (.long q0), .second, .val (.int p1), .val (.int p2), .val (.int ((p1 &&& (255 : Int32)) + (1 : Int32))), .unset, .unset, .unset, .unset, .unset, .unset, .unset, .unset, .unset, .unset] [])) (fun t k => by
      show Steps p.tables e below (s₁.setTop (mkF m 3 #[.val (.long q0), .second, .val (.int p1), .val (.int p2), .unset, .unset, .unset, .unset, .unset, .unset, .unset, .unset, .unset, .unset, .unset] [(.int (p2 &&& (1 : Int32)))])) _
      refine XS.ifNo X0.here hx rfl (hb hby at_3) rfl ((if0 _ _).trans (feq hc1).1) ?_
      show Steps p.tables e below (s₁.setTop (mkF m 6 #[.val (.long q0), .second, .val (.int p1), .val (.int p2), .unset, .unset, .unset, .unset, .unset, .unset, .unset, .unset, .unset, .unset, .unset] [])) _
      refine XS.iloadN X0.here hx rfl (hb hby at_6) rfl ?_
      show Steps p.tables e below (s₁.setTop (mkF m 7 #[.val (.long q0), .second, .val (.int p1), .val (.int p2), .unset, .unset, .unset, .unset, .unset, .unset, .unset, .unset, .unset, .unset, .unset] [(.int p1)])) _
      refine XS.sipush X0.here hx rfl (hb hby at_7) ?_
      show Steps p.tables e below (s₁.setTop (mkF m 10 #[.val (.long q0), .second, .val (.int p1), .val (.int p2), .unset, .unset, .unset, .unset, .unset, .unset, .unset, .unset, .unset, .unset, .unset] [(.int (255 : Int32)), (.int p1)])) _
      refine XS.iand X0.here hx rfl (hb hby at_10) rfl ?_
      show Steps p.tables e below (s₁.setTop (mkF m 11 #[.val (.long q0), .second, .val (.int p1), .val (.int p2), .unset, .unset, .unset, .unset, .unset, .unset, .unset, .unset, .unset, .unset, .unset] [(.int (p1 &&& (255 : Int32)))])) _
      refine XS.iconst X0.here hx rfl (hb hby at_11) ?_
      show Steps p.tables e below (s₁.setTop (mkF m 12 #[.val (.long q0), .second, .val (.int p1), .val (.int p2), .unset, .unset, .unset, .unset, .unset, .unset, .unset, .unset, .unset, .unset, .unset] [(.int (1 : Int32)), (.int (p1 &&& (255 : Int32)))])) _
      refine XS.iadd X0.here hx rfl (hb hby at_12) rfl ?_
      show Steps p.tables e below (s₁.setTop (mkF m 13 #[.val (.long q0), .second, .val (.int p1), .val (.int p2), .unset, .unset, .unset, .unset, .unset, .unset, .unset, .unset, .unset, .unset, .unset] [(.int ((p1 &&& (255 : Int32)) + (1 : Int32)))])) _
      refine XS.istore X0.here hx rfl (hb hby at_13) rfl (l' := #[.val (.long q0), .second, .val (.int p1), .val (.int p2), .val (.int ((p1 &&& (255 : Int32)) + (1 : Int32))), .unset, .unset, .unset, .unset, .unset, .unset, .unset, .unset, .unset, .unset]) rfl ?_
      show Steps p.tables e below (s₁.setTop (mkF m 15 #[.val (.long q0), .second, .val (.int p1), .val (.int p2), .val (.int ((p1 &&& (255 : Int32)) + (1 : Int32))), .unset, .unset, .unset, .unset, .unset, .unset, .unset, .unset, .unset, .unset] [])) _
      refine XS.goto X0.here hx rfl (pc0 := 15) (pc' := 37) rfl (hb hby at_15) (by decide) (by decide) ?_
      exact k)
    have hb0 : (0 : Int32) < ((p1 &&& (255 : Int32)) + (1 : Int32)) := own_bA _
    obtain ⟨zb, hzb⟩ : ∃ z : Int32, z = ((p1 &&& (255 : Int32)) + (1 : Int32)) := ⟨_, rfl⟩
    rw [← hzb] at hb0
    have go156 := go155.step (C := s₁.setTop (mkF m 37 #[.val (.long q0), .second, .val (.int p1), .val (.int p2), .val (.int zb), .unset, .unset, .unset, .unset, .unset, .unset, .unset, .unset, .unset, .unset] [])) (fun t k => by rw [hzb] at k; exact k)
    obtain ⟨T157, h157, X157, e157, E157, A157, D157, -, st157⟩ := newO X0 hx hZ hown (hw _ (List.mem_of_getElem? (i := 0) rfl)) (hw _ (List.mem_of_getElem? (i := 1) rfl)) (hw _ (List.mem_of_getElem? (i := 2) rfl)) e0 (g := (mkF m 37 #[.val (.long q0), .second, .val (.int p1), .val (.int p2), .val (.int zb), .unset, .unset, .unset, .unset, .unset, .unset, .unset, .unset, .unset, .unset] [])) rfl (hb hby at_37) (by decide) (by decide)
    obtain ⟨b157, g157⟩ : ∃ z, z = h0.size := ⟨_, rfl⟩
    rw [← g157] at A157 D157 st157
    have g_b157 : n0 ≤ b157 := Nat.le_trans Z0 (Nat.le_of_eq g157.symm)
    have sz_b157 : h0.size ≤ b157 := Nat.le_trans K0.1 (Nat.le_of_eq g157.symm)
    have F157_state : Fld Z h157 b157 "com/example/roundhaul/roundhaul/solver/SeededRandom" "state" "J" (.long (0 : Int64)) := D157 (Or.inl (hw _ (List.mem_of_getElem? (i := 10) rfl))) (ty := .long) (by decide)
    have Z157 : n0 ≤ h157.size := Nat.le_trans Z0 E157.1
    have K157 := K0.ext E157
    have go157 := go156.step (C := T157.setTop (mkF m 40 #[.val (.long q0), .second, .val (.int p1), .val (.int p2), .val (.int zb), .unset, .unset, .unset, .unset, .unset, .unset, .unset, .unset, .unset, .unset] [(.ref b157)])) (fun t k => st157 t k)
    have go158 := go157.step (C := T157.setTop (mkF m 42 #[.val (.long q0), .second, .val (.int p1), .val (.int p2), .val (.int zb), .unset, .unset, .unset, .unset, .unset, .unset, .unset, .unset, .unset, .unset] [(.long q0), (.ref b157), (.ref b157)])) (fun t k => by
      show Steps p.tables e below (T157.setTop (mkF m 40 #[.val (.long q0), .second, .val (.int p1), .val (.int p2), .val (.int zb), .unset, .unset, .unset, .unset, .unset, .unset, .unset, .unset, .unset, .unset] [(.ref b157)])) _
      refine XS.dup X157.here hx rfl (hb hby at_40) rfl rfl ?_
      show Steps p.tables e below (T157.setTop (mkF m 41 #[.val (.long q0), .second, .val (.int p1), .val (.int p2), .val (.int zb), .unset, .unset, .unset, .unset, .unset, .unset, .unset, .unset, .unset, .unset] [(.ref b157), (.ref b157)])) _
      refine XS.lloadN X157.here hx rfl (hb hby at_41) rfl ?_
      exact k)
    obtain ⟨_, _, ⟨T159, L159, k159, n159⟩, -, X159, ⟨Lc159, hQ159, l159, y159, z159⟩, st159⟩ := X157.specialBack hx (y := (⟨"com/example/roundhaul/roundhaul/solver/SeededRandom", "<init>", "(J)V"⟩ : MethodName)) rfl hown (mvT hZ (hw _ (List.mem_of_getElem? (i := 3) rfl))) (mvT hZ (hw _ (List.mem_of_getElem? (i := 4) rfl))) (mvT hZ (hw _ (List.mem_of_getElem? (i := 5) rfl))) (by decide) (backOf (W := 1) (rm1 l Z a0 hw [] b157 q0 h157 n0 Z157 A157 g_b157 F157_state) hZ (hw _ (List.mem_of_getElem? (i := 5) rfl)) (hw _ (List.mem_of_getElem? (i := 2) rfl)) (by decide) (by decide)) (g := (mkF m 42 #[.val (.long q0), .second, .val (.int p1), .val (.int p2), .val (.int zb), .unset, .unset, .unset, .unset, .unset, .unset, .unset, .unset, .unset, .unset] [(.long q0), (.ref b157), (.ref b157)])) rfl (by rw [hml]; rfl) (Steps.refl _) (a := b157) (argsL := [(.long q0)]) (rest := [(.ref b157)]) (lenOf pd_rm0_0 rfl) rfl (by show 2 * 0 + _ ≤ _; exact Nat.le_of_eq rfl) (hb hby at_42) (fun _ _ => ⟨rfl, e157, (by decide : 1 + 0 ≤ _), (by decide : 1 + 0 ≤ _)⟩)
    dsimp only [Pt.U, Pt.locs, Pt.cells, Pt.slots] at X159 l159 y159 z159 st159 hQ159
    rw [l159, y159, z159] at X159
    obtain ⟨rfl, N159q, K159, qp159_0, qp159_1⟩ := hQ159
    have N159 := Fr.app N0 N159q
    have f160 := A157.keep K159
    have Z159 : n0 ≤ T159.heap.size := Nat.le_trans Z157 K159.1
    have KK159 := K157.trans K159 (allS (Or.inr sz_b157) all0)
    have go159 := go158.tr (C := T159.setTop (mkF m 45 #[.val (.long q0), .second, .val (.int p1), .val (.int p2), .val (.int zb), .unset, .unset, .unset, .unset, .unset, .unset, .unset, .unset, .unset, .unset] [(.ref b157)])) st159
    have go162 := go159.step (C := T159.setTop (mkF m 47 #[.val (.long q0), .second, .val (.int p1), .val (.int p2), .val (.int zb), .val (.ref b157), .unset, .unset, .unset, .unset, .unset, .unset, .unset, .unset, .unset] [])) (fun t k => by
      show Steps p.tables e below (T159.setTop (mkF m 45 #[.val (.long q0), .second, .val (.int p1), .val (.int p2), .val (.int zb), .unset, .unset, .unset, .unset, .unset, .unset, .unset, .unset, .unset, .unset] [(.ref b157)])) _
      refine XS.astore X159.here hx rfl (hb hby at_45) rfl rfl (l' := #[.val (.long q0), .second, .val (.int p1), .val (.int p2), .val (.int zb), .val (.ref b157), .unset, .unset, .unset, .unset, .unset, .unset, .unset, .unset, .unset]) rfl ?_
      exact k)
    obtain ⟨T163, h163, X163, e163, E163, A163, D163, -, st163⟩ := newO X159 hx hZ hown (hw _ (List.mem_of_getElem? (i := 0) rfl)) (hw _ (List.mem_of_getElem? (i := 1) rfl)) (hw _ (List.mem_of_getElem? (i := 2) rfl)) rfl (g := (mkF m 47 #[.val (.long q0), .second, .val (.int p1), .val (.int p2), .val (.int zb), .val (.ref b157), .unset, .unset, .unset, .unset, .unset, .unset, .unset, .unset, .unset] [])) rfl (hb hby at_47) (by decide) (by decide)
    obtain ⟨b163, g163⟩ : ∃ z, z = T159.heap.size := ⟨_, rfl⟩
    rw [← g163] at A163 D163 st163
    have ne_b157_b163 : b157 ≠ b163 := Nat.ne_of_lt (Nat.lt_of_lt_of_le qp159_0.lt (Nat.le_of_eq g163.symm))
    have g_b163 : n0 ≤ b163 := Nat.le_trans Z159 (Nat.le_of_eq g163.symm)
    have sz_b163 : h0.size ≤ b163 := Nat.le_trans KK159.1 (Nat.le_of_eq g163.symm)
    have f164 := qp159_0.ext E163
    have f165 := qp159_1.ext E163
    have F163_state : Fld Z h163 b163 "com/example/roundhaul/roundhaul/solver/SeededRandom" "state" "J" (.long (0 : Int64)) := D163 (Or.inl (hw _ (List.mem_of_getElem? (i := 10) rfl))) (ty := .long) (by decide)
    have Z163 : n0 ≤ h163.size := Nat.le_trans Z159 E163.1
    have K163 := KK159.ext E163
    have go163 := go162.step (C := T163.setTop (mkF m 50 #[.val (.long q0), .second, .val (.int p1), .val (.int p2), .val (.int zb), .val (.ref b157), .unset, .unset, .unset, .unset, .unset, .unset, .unset, .unset, .unset] [(.ref b163)])) (fun t k => st163 t k)
    have go166 := go163.step (C := T163.setTop (mkF m 52 #[.val (.long q0), .second, .val (.int p1), .val (.int p2), .val (.int zb), .val (.ref b157), .unset, .unset, .unset, .unset, .unset, .unset, .unset, .unset, .unset] [(.long q0), (.ref b163), (.ref b163)])) (fun t k => by
      show Steps p.tables e below (T163.setTop (mkF m 50 #[.val (.long q0), .second, .val (.int p1), .val (.int p2), .val (.int zb), .val (.ref b157), .unset, .unset, .unset, .unset, .unset, .unset, .unset, .unset, .unset] [(.ref b163)])) _
      refine XS.dup X163.here hx rfl (hb hby at_50) rfl rfl ?_
      show Steps p.tables e below (T163.setTop (mkF m 51 #[.val (.long q0), .second, .val (.int p1), .val (.int p2), .val (.int zb), .val (.ref b157), .unset, .unset, .unset, .unset, .unset, .unset, .unset, .unset, .unset] [(.ref b163), (.ref b163)])) _
      refine XS.lloadN X163.here hx rfl (hb hby at_51) rfl ?_
      exact k)
    obtain ⟨_, _, ⟨T167, L167, k167, n167⟩, -, X167, ⟨Lc167, hQ167, l167, y167, z167⟩, st167⟩ := X163.specialBack hx (y := (⟨"com/example/roundhaul/roundhaul/solver/SeededRandom", "<init>", "(J)V"⟩ : MethodName)) rfl hown (mvT hZ (hw _ (List.mem_of_getElem? (i := 3) rfl))) (mvT hZ (hw _ (List.mem_of_getElem? (i := 4) rfl))) (mvT hZ (hw _ (List.mem_of_getElem? (i := 5) rfl))) (by decide) (backOf (W := 1) (rm1 l Z a0 hw [] b163 q0 h163 n0 Z163 A163 g_b163 F163_state) hZ (hw _ (List.mem_of_getElem? (i := 5) rfl)) (hw _ (List.mem_of_getElem? (i := 2) rfl)) (by decide) (by decide)) (g := (mkF m 52 #[.val (.long q0), .second, .val (.int p1), .val (.int p2), .val (.int zb), .val (.ref b157), .unset, .unset, .unset, .unset, .unset, .unset, .unset, .unset, .unset] [(.long q0), (.ref b163), (.ref b163)])) rfl (by rw [hml]; rfl) (Steps.refl _) (a := b163) (argsL := [(.long q0)]) (rest := [(.ref b163)]) (lenOf pd_rm0_0 rfl) rfl (by show 2 * 0 + _ ≤ _; exact Nat.le_of_eq rfl) (hb hby at_52) (fun _ _ => ⟨rfl, e163, (by decide : 2 + 0 ≤ _), (by decide : 2 + 0 ≤ _)⟩)
    dsimp only [Pt.U, Pt.locs, Pt.cells, Pt.slots] at X167 l167 y167 z167 st167 hQ167
    rw [l167, y167, z167] at X167
    obtain ⟨rfl, N167q, K167, qp167_0, qp167_1⟩ := hQ167
    have N167 := Fr.app N159 N167q
    have f168 := f164.keep K167
    have f169 := f165.keep K167 (ninS ne_b157_b163 nin0)
    have f170 := A163.keep K167
    have Z167 : n0 ≤ T167.heap.size := Nat.le_trans Z163 K167.1
    have KK167 := K163.trans K167 (allS (Or.inr sz_b163) all0)
    have go167 := go166.tr (C := T167.setTop (mkF m 55 #[.val (.long q0), .second, .val (.int p1), .val (.int p2), .val (.int zb), .val (.ref b157), .unset, .unset, .unset, .unset, .unset, .unset, .unset, .unset, .unset] [(.ref b163)])) st167
    have go172 := go167.step (C := T167.setTop (mkF m 61 #[.val (.long q0), .second, .val (.int p1), .val (.int p2), .val (.int zb), .val (.ref b157), .val (.ref b163), .unset, .unset, .unset, .unset, .unset, .unset, .unset, .unset] [(.int zb), (.ref b157)])) (fun t k => by
      show Steps p.tables e below (T167.setTop (mkF m 55 #[.val (.long q0), .second, .val (.int p1), .val (.int p2), .val (.int zb), .val (.ref b157), .unset, .unset, .unset, .unset, .unset, .unset, .unset, .unset, .unset] [(.ref b163)])) _
      refine XS.astore X167.here hx rfl (hb hby at_55) rfl rfl (l' := #[.val (.long q0), .second, .val (.int p1), .val (.int p2), .val (.int zb), .val (.ref b157), .val (.ref b163), .unset, .unset, .unset, .unset, .unset, .unset, .unset, .unset]) rfl ?_
      show Steps p.tables e below (T167.setTop (mkF m 57 #[.val (.long q0), .second, .val (.int p1), .val (.int p2), .val (.int zb), .val (.ref b157), .val (.ref b163), .unset, .unset, .unset, .unset, .unset, .unset, .unset, .unset] [])) _
      refine XS.aload X167.here hx rfl (hb hby at_57) rfl rfl ?_
      show Steps p.tables e below (T167.setTop (mkF m 59 #[.val (.long q0), .second, .val (.int p1), .val (.int p2), .val (.int zb), .val (.ref b157), .val (.ref b163), .unset, .unset, .unset, .unset, .unset, .unset, .unset, .unset] [(.ref b157)])) _
      refine XS.iload X167.here hx rfl (hb hby at_59) rfl ?_
      exact k)
    obtain ⟨cq173, kq173, q173a, q173b, q173c⟩ := isOf hZ rfl f168
    obtain ⟨_, _, ⟨T173, L173, k173, n173⟩, -, X173, ⟨Lc173, hQ173, l173, y173, z173⟩, st173⟩ := X167.virtualBack hx (y := (⟨"com/example/roundhaul/roundhaul/solver/SeededRandom", "nextInt", "(I)I"⟩ : MethodName)) (z := (⟨"com/example/roundhaul/roundhaul/solver/SeededRandom", "nextInt", "(I)I"⟩ : MethodName)) hown (mvT hZ (hw _ (List.mem_of_getElem? (i := 11) rfl))) (mvT hZ (hw _ (List.mem_of_getElem? (i := 12) rfl))) (notFace_of_selects (args := #[]) (mvT hZ (hw _ (List.mem_of_getElem? (i := 14) rfl)))) (mvT hZ (hw _ (List.mem_of_getElem? (i := 14) rfl))) (mvT hZ (hw _ (List.mem_of_getElem? (i := 13) rfl))) (by decide) (backOf (W := 0) (rm3 l Z a0 hw [] b157 zb q0 T167.heap n0 Z167 f168 f169 g_b157 hb0) hZ (hw _ (List.mem_of_getElem? (i := 15) rfl)) (hw _ (List.mem_of_getElem? (i := 2) rfl)) (by decide) (by decide)) q173a q173c (g := (mkF m 61 #[.val (.long q0), .second, .val (.int p1), .val (.int p2), .val (.int zb), .val (.ref b157), .val (.ref b163), .unset, .unset, .unset, .unset, .unset, .unset, .unset, .unset] [(.int zb), (.ref b157)])) rfl (by rw [hml]; rfl) (Steps.refl _) (argsL := [(.int zb)]) (rest := []) (lenOf pd_rm0_1 rfl) rfl (by show 2 * 0 + _ ≤ _; exact Nat.le_of_eq rfl) (hb hby at_61) (fun _ _ => ⟨rfl, rfl, (by decide : 2 + 0 ≤ _), (by decide : 2 + 0 ≤ _)⟩)
    dsimp only [Pt.U, Pt.locs, Pt.cells, Pt.slots] at X173 l173 y173 z173 st173 hQ173
    rw [l173, y173, z173] at X173
    obtain ⟨wf_173, rfl, N173q, K173, qp173_0, qp173_1, qp173_2, qp173_3⟩ := hQ173
    have N173 := Fr.app N167 N173q
    have f174 := f168.keep K173
    have f176 := qp167_0.keep K173
    have f177 := qp167_1.keep K173 (ninS (Ne.symm ne_b157_b163) nin0)
    have Z173 : n0 ≤ T173.heap.size := Nat.le_trans Z167 K173.1
    have KK173 := KK167.trans K173 (allS (Or.inr sz_b157) all0)
    have go173 := go172.tr (C := T173.setTop (mkF m 64 #[.val (.long q0), .second, .val (.int p1), .val (.int p2), .val (.int zb), .val (.ref b157), .val (.ref b163), .unset, .unset, .unset, .unset, .unset, .unset, .unset, .unset] [(.int ((own_usrL ((own_usrL (own_mix wf_173) (32 : Int32)) * (zb.toInt64)) (32 : Int32)).toInt32))])) st173
    have hacc := qp173_2
    have hJ := qp173_3
    have go180 := go173.step (C := T173.setTop (mkF m 92 #[.val (.long q0), .second, .val (.int p1), .val (.int p2), .val (.int zb), .val (.ref b157), .val (.ref b163), .val (.int ((own_usrL ((own_usrL (own_mix wf_173) (32 : Int32)) * (zb.toInt64)) (32 : Int32)).toInt32)), .val (.int (1 : Int32)), .unset, .unset, .unset, .unset, .unset, .unset] [(.long ((4294967296 : Int64) % (zb.toInt64)))])) (fun t k => by
      show Steps p.tables e below (T173.setTop (mkF m 64 #[.val (.long q0), .second, .val (.int p1), .val (.int p2), .val (.int zb), .val (.ref b157), .val (.ref b163), .unset, .unset, .unset, .unset, .unset, .unset, .unset, .unset] [(.int ((own_usrL ((own_usrL (own_mix wf_173) (32 : Int32)) * (zb.toInt64)) (32 : Int32)).toInt32))])) _
      refine XS.istore X173.here hx rfl (hb hby at_64) rfl (l' := #[.val (.long q0), .second, .val (.int p1), .val (.int p2), .val (.int zb), .val (.ref b157), .val (.ref b163), .val (.int ((own_usrL ((own_usrL (own_mix wf_173) (32 : Int32)) * (zb.toInt64)) (32 : Int32)).toInt32)), .unset, .unset, .unset, .unset, .unset, .unset, .unset]) rfl ?_
      show Steps p.tables e below (T173.setTop (mkF m 66 #[.val (.long q0), .second, .val (.int p1), .val (.int p2), .val (.int zb), .val (.ref b157), .val (.ref b163), .val (.int ((own_usrL ((own_usrL (own_mix wf_173) (32 : Int32)) * (zb.toInt64)) (32 : Int32)).toInt32)), .unset, .unset, .unset, .unset, .unset, .unset, .unset] [])) _
      refine XS.iload X173.here hx rfl (hb hby at_66) rfl ?_
      show Steps p.tables e below (T173.setTop (mkF m 68 #[.val (.long q0), .second, .val (.int p1), .val (.int p2), .val (.int zb), .val (.ref b157), .val (.ref b163), .val (.int ((own_usrL ((own_usrL (own_mix wf_173) (32 : Int32)) * (zb.toInt64)) (32 : Int32)).toInt32)), .unset, .unset, .unset, .unset, .unset, .unset, .unset] [(.int ((own_usrL ((own_usrL (own_mix wf_173) (32 : Int32)) * (zb.toInt64)) (32 : Int32)).toInt32))])) _
      refine XS.ifNo X173.here hx rfl (hb hby at_68) rfl ((if0 _ _).trans (flt (by rw [Int32.lt_iff_toInt_lt]; have q := own_hi zb wf_173 hb0; exact fun z => Int.not_lt.mpr q.1 z : ¬ (((own_usrL ((own_usrL (own_mix wf_173) (32 : Int32)) * (zb.toInt64)) (32 : Int32)).toInt32) < (0 : Int32)))).1) ?_
      show Steps p.tables e below (T173.setTop (mkF m 71 #[.val (.long q0), .second, .val (.int p1), .val (.int p2), .val (.int zb), .val (.ref b157), .val (.ref b163), .val (.int ((own_usrL ((own_usrL (own_mix wf_173) (32 : Int32)) * (zb.toInt64)) (32 : Int32)).toInt32)), .unset, .unset, .unset, .unset, .unset, .unset, .unset] [])) _
      refine XS.iload X173.here hx rfl (hb hby at_71) rfl ?_
      show Steps p.tables e below (T173.setTop (mkF m 73 #[.val (.long q0), .second, .val (.int p1), .val (.int p2), .val (.int zb), .val (.ref b157), .val (.ref b163), .val (.int ((own_usrL ((own_usrL (own_mix wf_173) (32 : Int32)) * (zb.toInt64)) (32 : Int32)).toInt32)), .unset, .unset, .unset, .unset, .unset, .unset, .unset] [(.int ((own_usrL ((own_usrL (own_mix wf_173) (32 : Int32)) * (zb.toInt64)) (32 : Int32)).toInt32))])) _
      refine XS.iload X173.here hx rfl (hb hby at_73) rfl ?_
      show Steps p.tables e below (T173.setTop (mkF m 75 #[.val (.long q0), .second, .val (.int p1), .val (.int p2), .val (.int zb), .val (.ref b157), .val (.ref b163), .val (.int ((own_usrL ((own_usrL (own_mix wf_173) (32 : Int32)) * (zb.toInt64)) (32 : Int32)).toInt32)), .unset, .unset, .unset, .unset, .unset, .unset, .unset] [(.int zb), (.int ((own_usrL ((own_usrL (own_mix wf_173) (32 : Int32)) * (zb.toInt64)) (32 : Int32)).toInt32))])) _
      refine XS.icmpNo X173.here hx rfl (hb hby at_75) rfl (tlt (by rw [Int32.lt_iff_toInt_lt]; exact (own_hi zb wf_173 hb0).2 : ((own_usrL ((own_usrL (own_mix wf_173) (32 : Int32)) * (zb.toInt64)) (32 : Int32)).toInt32) < zb)).2.1 ?_
      show Steps p.tables e below (T173.setTop (mkF m 78 #[.val (.long q0), .second, .val (.int p1), .val (.int p2), .val (.int zb), .val (.ref b157), .val (.ref b163), .val (.int ((own_usrL ((own_usrL (own_mix wf_173) (32 : Int32)) * (zb.toInt64)) (32 : Int32)).toInt32)), .unset, .unset, .unset, .unset, .unset, .unset, .unset] [])) _
      refine XS.iconst X173.here hx rfl (hb hby at_78) ?_
      show Steps p.tables e below (T173.setTop (mkF m 79 #[.val (.long q0), .second, .val (.int p1), .val (.int p2), .val (.int zb), .val (.ref b157), .val (.ref b163), .val (.int ((own_usrL ((own_usrL (own_mix wf_173) (32 : Int32)) * (zb.toInt64)) (32 : Int32)).toInt32)), .unset, .unset, .unset, .unset, .unset, .unset, .unset] [(.int (1 : Int32))])) _
      refine XS.goto X173.here hx rfl (pc0 := 79) (pc' := 83) rfl (hb hby at_79) (by decide) (by decide) ?_
      show Steps p.tables e below (T173.setTop (mkF m 83 #[.val (.long q0), .second, .val (.int p1), .val (.int p2), .val (.int zb), .val (.ref b157), .val (.ref b163), .val (.int ((own_usrL ((own_usrL (own_mix wf_173) (32 : Int32)) * (zb.toInt64)) (32 : Int32)).toInt32)), .unset, .unset, .unset, .unset, .unset, .unset, .unset] [(.int (1 : Int32))])) _
      refine XS.istore X173.here hx rfl (hb hby at_83) rfl (l' := #[.val (.long q0), .second, .val (.int p1), .val (.int p2), .val (.int zb), .val (.ref b157), .val (.ref b163), .val (.int ((own_usrL ((own_usrL (own_mix wf_173) (32 : Int32)) * (zb.toInt64)) (32 : Int32)).toInt32)), .val (.int (1 : Int32)), .unset, .unset, .unset, .unset, .unset, .unset]) rfl ?_
      show Steps p.tables e below (T173.setTop (mkF m 85 #[.val (.long q0), .second, .val (.int p1), .val (.int p2), .val (.int zb), .val (.ref b157), .val (.ref b163), .val (.int ((own_usrL ((own_usrL (own_mix wf_173) (32 : Int32)) * (zb.toInt64)) (32 : Int32)).toInt32)), .val (.int (1 : Int32)), .unset, .unset, .unset, .unset, .unset, .unset] [])) _
      refine X173.ldc2Long hx hown (mvT hZ (hw _ (List.mem_of_getElem? (i := 26) rfl))) (g := (mkF m 85 #[.val (.long q0), .second, .val (.int p1), .val (.int p2), .val (.int zb), .val (.ref b157), .val (.ref b163), .val (.int ((own_usrL ((own_usrL (own_mix wf_173) (32 : Int32)) * (zb.toInt64)) (32 : Int32)).toInt32)), .val (.int (1 : Int32)), .unset, .unset, .unset, .unset, .unset, .unset] [])) rfl (hb hby at_85) _ ?_
      show Steps p.tables e below (T173.setTop (mkF m 88 #[.val (.long q0), .second, .val (.int p1), .val (.int p2), .val (.int zb), .val (.ref b157), .val (.ref b163), .val (.int ((own_usrL ((own_usrL (own_mix wf_173) (32 : Int32)) * (zb.toInt64)) (32 : Int32)).toInt32)), .val (.int (1 : Int32)), .unset, .unset, .unset, .unset, .unset, .unset] [(.long (4294967296 : Int64))])) _
      refine XS.iload X173.here hx rfl (hb hby at_88) rfl ?_
      show Steps p.tables e below (T173.setTop (mkF m 90 #[.val (.long q0), .second, .val (.int p1), .val (.int p2), .val (.int zb), .val (.ref b157), .val (.ref b163), .val (.int ((own_usrL ((own_usrL (own_mix wf_173) (32 : Int32)) * (zb.toInt64)) (32 : Int32)).toInt32)), .val (.int (1 : Int32)), .unset, .unset, .unset, .unset, .unset, .unset] [(.int zb), (.long (4294967296 : Int64))])) _
      refine XS.i2l X173.here hx rfl (hb hby at_90) rfl ?_
      show Steps p.tables e below (T173.setTop (mkF m 91 #[.val (.long q0), .second, .val (.int p1), .val (.int p2), .val (.int zb), .val (.ref b157), .val (.ref b163), .val (.int ((own_usrL ((own_usrL (own_mix wf_173) (32 : Int32)) * (zb.toInt64)) (32 : Int32)).toInt32)), .val (.int (1 : Int32)), .unset, .unset, .unset, .unset, .unset, .unset] [(.long (zb.toInt64)), (.long (4294967296 : Int64))])) _
      refine XS.lrem X173.here hx rfl (hb hby at_91) rfl (own_bnz hb0) ?_
      rw [lrem_mod]
      exact k)
    obtain ⟨zs, hzs⟩ : ∃ z : Int64, z = ((4294967296 : Int64) % (zb.toInt64)) := ⟨_, rfl⟩
    rw [← hzs] at go180
    rw [own_thr_eq hb0] at hzs
    have go181 := go180.step (C := T173.setTop (mkF m 96 #[.val (.long q0), .second, .val (.int p1), .val (.int p2), .val (.int zb), .val (.ref b157), .val (.ref b163), .val (.int ((own_usrL ((own_usrL (own_mix wf_173) (32 : Int32)) * (zb.toInt64)) (32 : Int32)).toInt32)), .val (.int (1 : Int32)), .val (.long zs), .second, .unset, .unset, .unset, .unset] [(.ref b163)])) (fun t k => by
      show Steps p.tables e below (T173.setTop (mkF m 92 #[.val (.long q0), .second, .val (.int p1), .val (.int p2), .val (.int zb), .val (.ref b157), .val (.ref b163), .val (.int ((own_usrL ((own_usrL (own_mix wf_173) (32 : Int32)) * (zb.toInt64)) (32 : Int32)).toInt32)), .val (.int (1 : Int32)), .unset, .unset, .unset, .unset, .unset, .unset] [(.long zs)])) _
      refine XS.lstore X173.here hx rfl (hb hby at_92) rfl (l' := #[.val (.long q0), .second, .val (.int p1), .val (.int p2), .val (.int zb), .val (.ref b157), .val (.ref b163), .val (.int ((own_usrL ((own_usrL (own_mix wf_173) (32 : Int32)) * (zb.toInt64)) (32 : Int32)).toInt32)), .val (.int (1 : Int32)), .val (.long zs), .second, .unset, .unset, .unset, .unset]) rfl ?_
      show Steps p.tables e below (T173.setTop (mkF m 94 #[.val (.long q0), .second, .val (.int p1), .val (.int p2), .val (.int zb), .val (.ref b157), .val (.ref b163), .val (.int ((own_usrL ((own_usrL (own_mix wf_173) (32 : Int32)) * (zb.toInt64)) (32 : Int32)).toInt32)), .val (.int (1 : Int32)), .val (.long zs), .second, .unset, .unset, .unset, .unset] [])) _
      refine XS.aload X173.here hx rfl (hb hby at_94) rfl rfl ?_
      exact k)
    obtain ⟨cq182, kq182, q182a, q182b, q182c⟩ := isOf hZ rfl f176
    obtain ⟨_, _, ⟨T182, L182, k182, n182⟩, -, X182, ⟨Lc182, hQ182, l182, y182, z182⟩, st182⟩ := X173.virtualBack hx (y := (⟨"com/example/roundhaul/roundhaul/solver/SeededRandom", "nextLong", "()J"⟩ : MethodName)) (z := (⟨"com/example/roundhaul/roundhaul/solver/SeededRandom", "nextLong", "()J"⟩ : MethodName)) hown (mvT hZ (hw _ (List.mem_of_getElem? (i := 27) rfl))) (mvT hZ (hw _ (List.mem_of_getElem? (i := 17) rfl))) (notFace_of_selects (args := #[]) (mvT hZ (hw _ (List.mem_of_getElem? (i := 19) rfl)))) (mvT hZ (hw _ (List.mem_of_getElem? (i := 19) rfl))) (mvT hZ (hw _ (List.mem_of_getElem? (i := 18) rfl))) (by decide) (backOf (W := 0) (rm4 l Z a0 hw [] b163 q0 T173.heap n0 Z173 f176 f177 g_b163) hZ (hw _ (List.mem_of_getElem? (i := 20) rfl)) (hw _ (List.mem_of_getElem? (i := 2) rfl)) (by decide) (by decide)) q182a q182c (g := (mkF m 96 #[.val (.long q0), .second, .val (.int p1), .val (.int p2), .val (.int zb), .val (.ref b157), .val (.ref b163), .val (.int ((own_usrL ((own_usrL (own_mix wf_173) (32 : Int32)) * (zb.toInt64)) (32 : Int32)).toInt32)), .val (.int (1 : Int32)), .val (.long zs), .second, .unset, .unset, .unset, .unset] [(.ref b163)])) rfl (by rw [hml]; rfl) (Steps.refl _) (argsL := []) (rest := []) (lenOf pd_rm0_2 rfl) rfl (by show 2 * 0 + _ ≤ _; exact Nat.le_of_eq rfl) (hb hby at_96) (fun _ _ => ⟨rfl, rfl, (by decide : 2 + 0 ≤ _), (by decide : 2 + 0 ≤ _)⟩)
    dsimp only [Pt.U, Pt.locs, Pt.cells, Pt.slots] at X182 l182 y182 z182 st182 hQ182
    rw [l182, y182, z182] at X182
    obtain ⟨rfl, N182q, K182, qp182_0, qp182_1⟩ := hQ182
    have N182 := Fr.app N173 N182q
    have f183 := qp173_0.keep K182
    have f184 := f176.keep K182
    have f186 := qp173_1.keep K182 (ninS ne_b157_b163 nin0)
    have Z182 : n0 ≤ T182.heap.size := Nat.le_trans Z173 K182.1
    have KK182 := KK173.trans K182 (allS (Or.inr sz_b163) all0)
    have go182 := go181.tr (C := T182.setTop (mkF m 99 #[.val (.long q0), .second, .val (.int p1), .val (.int p2), .val (.int zb), .val (.ref b157), .val (.ref b163), .val (.int ((own_usrL ((own_usrL (own_mix wf_173) (32 : Int32)) * (zb.toInt64)) (32 : Int32)).toInt32)), .val (.int (1 : Int32)), .val (.long zs), .second, .unset, .unset, .unset, .unset] [(.long (own_mix (q0 + (-7046029254386353131 : Int64))))])) st182
    have go188 := go182.step (C := T182.setTop (mkF m 117 #[.val (.long q0), .second, .val (.int p1), .val (.int p2), .val (.int zb), .val (.ref b157), .val (.ref b163), .val (.int ((own_usrL ((own_usrL (own_mix wf_173) (32 : Int32)) * (zb.toInt64)) (32 : Int32)).toInt32)), .val (.int (1 : Int32)), .val (.long zs), .second, .val (.long ((own_usrL (own_mix (q0 + (-7046029254386353131 : Int64))) (32 : Int32)) * (zb.toInt64))), .second, .unset, .unset] [(.int (lcmpW (((own_usrL (own_mix (q0 + (-7046029254386353131 : Int64))) (32 : Int32)) * (zb.toInt64)) &&& (4294967295 : Int64)) zs))])) (fun t k => by
      show Steps p.tables e below (T182.setTop (mkF m 99 #[.val (.long q0), .second, .val (.int p1), .val (.int p2), .val (.int zb), .val (.ref b157), .val (.ref b163), .val (.int ((own_usrL ((own_usrL (own_mix wf_173) (32 : Int32)) * (zb.toInt64)) (32 : Int32)).toInt32)), .val (.int (1 : Int32)), .val (.long zs), .second, .unset, .unset, .unset, .unset] [(.long (own_mix (q0 + (-7046029254386353131 : Int64))))])) _
      refine XS.bipush X182.here hx rfl (hb hby at_99) ?_
      show Steps p.tables e below (T182.setTop (mkF m 101 #[.val (.long q0), .second, .val (.int p1), .val (.int p2), .val (.int zb), .val (.ref b157), .val (.ref b163), .val (.int ((own_usrL ((own_usrL (own_mix wf_173) (32 : Int32)) * (zb.toInt64)) (32 : Int32)).toInt32)), .val (.int (1 : Int32)), .val (.long zs), .second, .unset, .unset, .unset, .unset] [(.int (32 : Int32)), (.long (own_mix (q0 + (-7046029254386353131 : Int64))))])) _
      refine XS.lushr X182.here hx rfl (hb hby at_101) rfl ?_
      show Steps p.tables e below (T182.setTop (mkF m 102 #[.val (.long q0), .second, .val (.int p1), .val (.int p2), .val (.int zb), .val (.ref b157), .val (.ref b163), .val (.int ((own_usrL ((own_usrL (own_mix wf_173) (32 : Int32)) * (zb.toInt64)) (32 : Int32)).toInt32)), .val (.int (1 : Int32)), .val (.long zs), .second, .unset, .unset, .unset, .unset] [(.long (own_usrL (own_mix (q0 + (-7046029254386353131 : Int64))) (32 : Int32)))])) _
      refine XS.iload X182.here hx rfl (hb hby at_102) rfl ?_
      show Steps p.tables e below (T182.setTop (mkF m 104 #[.val (.long q0), .second, .val (.int p1), .val (.int p2), .val (.int zb), .val (.ref b157), .val (.ref b163), .val (.int ((own_usrL ((own_usrL (own_mix wf_173) (32 : Int32)) * (zb.toInt64)) (32 : Int32)).toInt32)), .val (.int (1 : Int32)), .val (.long zs), .second, .unset, .unset, .unset, .unset] [(.int zb), (.long (own_usrL (own_mix (q0 + (-7046029254386353131 : Int64))) (32 : Int32)))])) _
      refine XS.i2l X182.here hx rfl (hb hby at_104) rfl ?_
      show Steps p.tables e below (T182.setTop (mkF m 105 #[.val (.long q0), .second, .val (.int p1), .val (.int p2), .val (.int zb), .val (.ref b157), .val (.ref b163), .val (.int ((own_usrL ((own_usrL (own_mix wf_173) (32 : Int32)) * (zb.toInt64)) (32 : Int32)).toInt32)), .val (.int (1 : Int32)), .val (.long zs), .second, .unset, .unset, .unset, .unset] [(.long (zb.toInt64)), (.long (own_usrL (own_mix (q0 + (-7046029254386353131 : Int64))) (32 : Int32)))])) _
      refine XS.lmul X182.here hx rfl (hb hby at_105) rfl ?_
      show Steps p.tables e below (T182.setTop (mkF m 106 #[.val (.long q0), .second, .val (.int p1), .val (.int p2), .val (.int zb), .val (.ref b157), .val (.ref b163), .val (.int ((own_usrL ((own_usrL (own_mix wf_173) (32 : Int32)) * (zb.toInt64)) (32 : Int32)).toInt32)), .val (.int (1 : Int32)), .val (.long zs), .second, .unset, .unset, .unset, .unset] [(.long ((own_usrL (own_mix (q0 + (-7046029254386353131 : Int64))) (32 : Int32)) * (zb.toInt64)))])) _
      refine XS.lstore X182.here hx rfl (hb hby at_106) rfl (l' := #[.val (.long q0), .second, .val (.int p1), .val (.int p2), .val (.int zb), .val (.ref b157), .val (.ref b163), .val (.int ((own_usrL ((own_usrL (own_mix wf_173) (32 : Int32)) * (zb.toInt64)) (32 : Int32)).toInt32)), .val (.int (1 : Int32)), .val (.long zs), .second, .val (.long ((own_usrL (own_mix (q0 + (-7046029254386353131 : Int64))) (32 : Int32)) * (zb.toInt64))), .second, .unset, .unset]) rfl ?_
      show Steps p.tables e below (T182.setTop (mkF m 108 #[.val (.long q0), .second, .val (.int p1), .val (.int p2), .val (.int zb), .val (.ref b157), .val (.ref b163), .val (.int ((own_usrL ((own_usrL (own_mix wf_173) (32 : Int32)) * (zb.toInt64)) (32 : Int32)).toInt32)), .val (.int (1 : Int32)), .val (.long zs), .second, .val (.long ((own_usrL (own_mix (q0 + (-7046029254386353131 : Int64))) (32 : Int32)) * (zb.toInt64))), .second, .unset, .unset] [])) _
      refine XS.lload X182.here hx rfl (hb hby at_108) rfl ?_
      show Steps p.tables e below (T182.setTop (mkF m 110 #[.val (.long q0), .second, .val (.int p1), .val (.int p2), .val (.int zb), .val (.ref b157), .val (.ref b163), .val (.int ((own_usrL ((own_usrL (own_mix wf_173) (32 : Int32)) * (zb.toInt64)) (32 : Int32)).toInt32)), .val (.int (1 : Int32)), .val (.long zs), .second, .val (.long ((own_usrL (own_mix (q0 + (-7046029254386353131 : Int64))) (32 : Int32)) * (zb.toInt64))), .second, .unset, .unset] [(.long ((own_usrL (own_mix (q0 + (-7046029254386353131 : Int64))) (32 : Int32)) * (zb.toInt64)))])) _
      refine X182.ldc2Long hx hown (mvT hZ (hw _ (List.mem_of_getElem? (i := 28) rfl))) (g := (mkF m 110 #[.val (.long q0), .second, .val (.int p1), .val (.int p2), .val (.int zb), .val (.ref b157), .val (.ref b163), .val (.int ((own_usrL ((own_usrL (own_mix wf_173) (32 : Int32)) * (zb.toInt64)) (32 : Int32)).toInt32)), .val (.int (1 : Int32)), .val (.long zs), .second, .val (.long ((own_usrL (own_mix (q0 + (-7046029254386353131 : Int64))) (32 : Int32)) * (zb.toInt64))), .second, .unset, .unset] [(.long ((own_usrL (own_mix (q0 + (-7046029254386353131 : Int64))) (32 : Int32)) * (zb.toInt64)))])) rfl (hb hby at_110) _ ?_
      show Steps p.tables e below (T182.setTop (mkF m 113 #[.val (.long q0), .second, .val (.int p1), .val (.int p2), .val (.int zb), .val (.ref b157), .val (.ref b163), .val (.int ((own_usrL ((own_usrL (own_mix wf_173) (32 : Int32)) * (zb.toInt64)) (32 : Int32)).toInt32)), .val (.int (1 : Int32)), .val (.long zs), .second, .val (.long ((own_usrL (own_mix (q0 + (-7046029254386353131 : Int64))) (32 : Int32)) * (zb.toInt64))), .second, .unset, .unset] [(.long (4294967295 : Int64)), (.long ((own_usrL (own_mix (q0 + (-7046029254386353131 : Int64))) (32 : Int32)) * (zb.toInt64)))])) _
      refine XS.land X182.here hx rfl (hb hby at_113) rfl ?_
      show Steps p.tables e below (T182.setTop (mkF m 114 #[.val (.long q0), .second, .val (.int p1), .val (.int p2), .val (.int zb), .val (.ref b157), .val (.ref b163), .val (.int ((own_usrL ((own_usrL (own_mix wf_173) (32 : Int32)) * (zb.toInt64)) (32 : Int32)).toInt32)), .val (.int (1 : Int32)), .val (.long zs), .second, .val (.long ((own_usrL (own_mix (q0 + (-7046029254386353131 : Int64))) (32 : Int32)) * (zb.toInt64))), .second, .unset, .unset] [(.long (((own_usrL (own_mix (q0 + (-7046029254386353131 : Int64))) (32 : Int32)) * (zb.toInt64)) &&& (4294967295 : Int64)))])) _
      refine XS.lload X182.here hx rfl (hb hby at_114) rfl ?_
      show Steps p.tables e below (T182.setTop (mkF m 116 #[.val (.long q0), .second, .val (.int p1), .val (.int p2), .val (.int zb), .val (.ref b157), .val (.ref b163), .val (.int ((own_usrL ((own_usrL (own_mix wf_173) (32 : Int32)) * (zb.toInt64)) (32 : Int32)).toInt32)), .val (.int (1 : Int32)), .val (.long zs), .second, .val (.long ((own_usrL (own_mix (q0 + (-7046029254386353131 : Int64))) (32 : Int32)) * (zb.toInt64))), .second, .unset, .unset] [(.long zs), (.long (((own_usrL (own_mix (q0 + (-7046029254386353131 : Int64))) (32 : Int32)) * (zb.toInt64)) &&& (4294967295 : Int64)))])) _
      refine XS.lcmp X182.here hx rfl (hb hby at_116) rfl ?_
      exact k)
    by_cases hc187 : (((own_usrL (own_mix (q0 + (-7046029254386353131 : Int64))) (32 : Int32)) * (zb.toInt64)) &&& (4294967295 : Int64)) < zs
    · skip
      have go189 := go188.step (C := T182.setTop (mkF m 158 #[.val (.long q0), .second, .val (.int p1), .val (.int p2), .val (.int zb), .val (.ref b157), .val (.ref b163), .val (.int ((own_usrL ((own_usrL (own_mix wf_173) (32 : Int32)) * (zb.toInt64)) (32 : Int32)).toInt32)), .val (.int (1 : Int32)), .val (.long zs), .second, .val (.long ((own_usrL (own_mix (q0 + (-7046029254386353131 : Int64))) (32 : Int32)) * (zb.toInt64))), .second, .unset, .unset] [(.ref b163)])) (fun t k => by
        show Steps p.tables e below (T182.setTop (mkF m 117 #[.val (.long q0), .second, .val (.int p1), .val (.int p2), .val (.int zb), .val (.ref b157), .val (.ref b163), .val (.int ((own_usrL ((own_usrL (own_mix wf_173) (32 : Int32)) * (zb.toInt64)) (32 : Int32)).toInt32)), .val (.int (1 : Int32)), .val (.long zs), .second, .val (.long ((own_usrL (own_mix (q0 + (-7046029254386353131 : Int64))) (32 : Int32)) * (zb.toInt64))), .second, .unset, .unset] [(.int (lcmpW (((own_usrL (own_mix (q0 + (-7046029254386353131 : Int64))) (32 : Int32)) * (zb.toInt64)) &&& (4294967295 : Int64)) zs))])) _
        refine XS.ifYes X182.here hx rfl (pc0 := 117) (pc' := 156) rfl (hb hby at_117) rfl ((if0 _ _).trans (tlt ((lw_lt _ _).mpr hc187)).1) (by decide) (by decide) ?_
        show Steps p.tables e below (T182.setTop (mkF m 156 #[.val (.long q0), .second, .val (.int p1), .val (.int p2), .val (.int zb), .val (.ref b157), .val (.ref b163), .val (.int ((own_usrL ((own_usrL (own_mix wf_173) (32 : Int32)) * (zb.toInt64)) (32 : Int32)).toInt32)), .val (.int (1 : Int32)), .val (.long zs), .second, .val (.long ((own_usrL (own_mix (q0 + (-7046029254386353131 : Int64))) (32 : Int32)) * (zb.toInt64))), .second, .unset, .unset] [])) _
        refine XS.aload X182.here hx rfl (hb hby at_156) rfl rfl ?_
        exact k)
      obtain ⟨cq190, kq190, q190a, q190b, q190c⟩ := isOf hZ rfl qp182_0
      obtain ⟨_, _, ⟨T190, L190, k190, n190⟩, -, X190, ⟨Lc190, hQ190, l190, y190, z190⟩, st190⟩ := X182.virtualBack hx (y := (⟨"com/example/roundhaul/roundhaul/solver/SeededRandom", "nextLong", "()J"⟩ : MethodName)) (z := (⟨"com/example/roundhaul/roundhaul/solver/SeededRandom", "nextLong", "()J"⟩ : MethodName)) hown (mvT hZ (hw _ (List.mem_of_getElem? (i := 27) rfl))) (mvT hZ (hw _ (List.mem_of_getElem? (i := 17) rfl))) (notFace_of_selects (args := #[]) (mvT hZ (hw _ (List.mem_of_getElem? (i := 19) rfl)))) (mvT hZ (hw _ (List.mem_of_getElem? (i := 19) rfl))) (mvT hZ (hw _ (List.mem_of_getElem? (i := 18) rfl))) (by decide) (backOf (W := 0) (rm4 l Z a0 hw [] b163 (q0 + (-7046029254386353131 : Int64)) T182.heap n0 Z182 qp182_0 qp182_1 g_b163) hZ (hw _ (List.mem_of_getElem? (i := 20) rfl)) (hw _ (List.mem_of_getElem? (i := 2) rfl)) (by decide) (by decide)) q190a q190c (g := (mkF m 158 #[.val (.long q0), .second, .val (.int p1), .val (.int p2), .val (.int zb), .val (.ref b157), .val (.ref b163), .val (.int ((own_usrL ((own_usrL (own_mix wf_173) (32 : Int32)) * (zb.toInt64)) (32 : Int32)).toInt32)), .val (.int (1 : Int32)), .val (.long zs), .second, .val (.long ((own_usrL (own_mix (q0 + (-7046029254386353131 : Int64))) (32 : Int32)) * (zb.toInt64))), .second, .unset, .unset] [(.ref b163)])) rfl (by rw [hml]; rfl) (Steps.refl _) (argsL := []) (rest := []) (lenOf pd_rm0_2 rfl) rfl (by show 2 * 0 + _ ≤ _; exact Nat.le_of_eq rfl) (hb hby at_158) (fun _ _ => ⟨rfl, rfl, (by decide : 2 + 0 ≤ _), (by decide : 2 + 0 ≤ _)⟩)
      dsimp only [Pt.U, Pt.locs, Pt.cells, Pt.slots] at X190 l190 y190 z190 st190 hQ190
      rw [l190, y190, z190] at X190
      obtain ⟨rfl, N190q, K190, qp190_0, qp190_1⟩ := hQ190
      have N190 := Fr.app N182 N190q
      have f191 := f183.keep K190
      have f192 := qp182_0.keep K190
      have f193 := f186.keep K190 (ninS ne_b157_b163 nin0)
      have Z190 : n0 ≤ T190.heap.size := Nat.le_trans Z182 K190.1
      have KK190 := KK182.trans K190 (allS (Or.inr sz_b163) all0)
      have go190 := go189.tr (C := T190.setTop (mkF m 161 #[.val (.long q0), .second, .val (.int p1), .val (.int p2), .val (.int zb), .val (.ref b157), .val (.ref b163), .val (.int ((own_usrL ((own_usrL (own_mix wf_173) (32 : Int32)) * (zb.toInt64)) (32 : Int32)).toInt32)), .val (.int (1 : Int32)), .val (.long zs), .second, .val (.long ((own_usrL (own_mix (q0 + (-7046029254386353131 : Int64))) (32 : Int32)) * (zb.toInt64))), .second, .unset, .unset] [(.long (own_mix ((q0 + (-7046029254386353131 : Int64)) + (-7046029254386353131 : Int64))))])) st190
      have go196 := go190.step (C := T190.setTop (mkF m 179 #[.val (.long q0), .second, .val (.int p1), .val (.int p2), .val (.int zb), .val (.ref b157), .val (.ref b163), .val (.int ((own_usrL ((own_usrL (own_mix wf_173) (32 : Int32)) * (zb.toInt64)) (32 : Int32)).toInt32)), .val (.int (1 : Int32)), .val (.long zs), .second, .val (.long ((own_usrL (own_mix (q0 + (-7046029254386353131 : Int64))) (32 : Int32)) * (zb.toInt64))), .second, .val (.long ((own_usrL (own_mix ((q0 + (-7046029254386353131 : Int64)) + (-7046029254386353131 : Int64))) (32 : Int32)) * (zb.toInt64))), .second] [(.int (lcmpW (((own_usrL (own_mix ((q0 + (-7046029254386353131 : Int64)) + (-7046029254386353131 : Int64))) (32 : Int32)) * (zb.toInt64)) &&& (4294967295 : Int64)) zs))])) (fun t k => by
        show Steps p.tables e below (T190.setTop (mkF m 161 #[.val (.long q0), .second, .val (.int p1), .val (.int p2), .val (.int zb), .val (.ref b157), .val (.ref b163), .val (.int ((own_usrL ((own_usrL (own_mix wf_173) (32 : Int32)) * (zb.toInt64)) (32 : Int32)).toInt32)), .val (.int (1 : Int32)), .val (.long zs), .second, .val (.long ((own_usrL (own_mix (q0 + (-7046029254386353131 : Int64))) (32 : Int32)) * (zb.toInt64))), .second, .unset, .unset] [(.long (own_mix ((q0 + (-7046029254386353131 : Int64)) + (-7046029254386353131 : Int64))))])) _
        refine XS.bipush X190.here hx rfl (hb hby at_161) ?_
        show Steps p.tables e below (T190.setTop (mkF m 163 #[.val (.long q0), .second, .val (.int p1), .val (.int p2), .val (.int zb), .val (.ref b157), .val (.ref b163), .val (.int ((own_usrL ((own_usrL (own_mix wf_173) (32 : Int32)) * (zb.toInt64)) (32 : Int32)).toInt32)), .val (.int (1 : Int32)), .val (.long zs), .second, .val (.long ((own_usrL (own_mix (q0 + (-7046029254386353131 : Int64))) (32 : Int32)) * (zb.toInt64))), .second, .unset, .unset] [(.int (32 : Int32)), (.long (own_mix ((q0 + (-7046029254386353131 : Int64)) + (-7046029254386353131 : Int64))))])) _
        refine XS.lushr X190.here hx rfl (hb hby at_163) rfl ?_
        show Steps p.tables e below (T190.setTop (mkF m 164 #[.val (.long q0), .second, .val (.int p1), .val (.int p2), .val (.int zb), .val (.ref b157), .val (.ref b163), .val (.int ((own_usrL ((own_usrL (own_mix wf_173) (32 : Int32)) * (zb.toInt64)) (32 : Int32)).toInt32)), .val (.int (1 : Int32)), .val (.long zs), .second, .val (.long ((own_usrL (own_mix (q0 + (-7046029254386353131 : Int64))) (32 : Int32)) * (zb.toInt64))), .second, .unset, .unset] [(.long (own_usrL (own_mix ((q0 + (-7046029254386353131 : Int64)) + (-7046029254386353131 : Int64))) (32 : Int32)))])) _
        refine XS.iload X190.here hx rfl (hb hby at_164) rfl ?_
        show Steps p.tables e below (T190.setTop (mkF m 166 #[.val (.long q0), .second, .val (.int p1), .val (.int p2), .val (.int zb), .val (.ref b157), .val (.ref b163), .val (.int ((own_usrL ((own_usrL (own_mix wf_173) (32 : Int32)) * (zb.toInt64)) (32 : Int32)).toInt32)), .val (.int (1 : Int32)), .val (.long zs), .second, .val (.long ((own_usrL (own_mix (q0 + (-7046029254386353131 : Int64))) (32 : Int32)) * (zb.toInt64))), .second, .unset, .unset] [(.int zb), (.long (own_usrL (own_mix ((q0 + (-7046029254386353131 : Int64)) + (-7046029254386353131 : Int64))) (32 : Int32)))])) _
        refine XS.i2l X190.here hx rfl (hb hby at_166) rfl ?_
        show Steps p.tables e below (T190.setTop (mkF m 167 #[.val (.long q0), .second, .val (.int p1), .val (.int p2), .val (.int zb), .val (.ref b157), .val (.ref b163), .val (.int ((own_usrL ((own_usrL (own_mix wf_173) (32 : Int32)) * (zb.toInt64)) (32 : Int32)).toInt32)), .val (.int (1 : Int32)), .val (.long zs), .second, .val (.long ((own_usrL (own_mix (q0 + (-7046029254386353131 : Int64))) (32 : Int32)) * (zb.toInt64))), .second, .unset, .unset] [(.long (zb.toInt64)), (.long (own_usrL (own_mix ((q0 + (-7046029254386353131 : Int64)) + (-7046029254386353131 : Int64))) (32 : Int32)))])) _
        refine XS.lmul X190.here hx rfl (hb hby at_167) rfl ?_
        show Steps p.tables e below (T190.setTop (mkF m 168 #[.val (.long q0), .second, .val (.int p1), .val (.int p2), .val (.int zb), .val (.ref b157), .val (.ref b163), .val (.int ((own_usrL ((own_usrL (own_mix wf_173) (32 : Int32)) * (zb.toInt64)) (32 : Int32)).toInt32)), .val (.int (1 : Int32)), .val (.long zs), .second, .val (.long ((own_usrL (own_mix (q0 + (-7046029254386353131 : Int64))) (32 : Int32)) * (zb.toInt64))), .second, .unset, .unset] [(.long ((own_usrL (own_mix ((q0 + (-7046029254386353131 : Int64)) + (-7046029254386353131 : Int64))) (32 : Int32)) * (zb.toInt64)))])) _
        refine XS.lstore X190.here hx rfl (hb hby at_168) rfl (l' := #[.val (.long q0), .second, .val (.int p1), .val (.int p2), .val (.int zb), .val (.ref b157), .val (.ref b163), .val (.int ((own_usrL ((own_usrL (own_mix wf_173) (32 : Int32)) * (zb.toInt64)) (32 : Int32)).toInt32)), .val (.int (1 : Int32)), .val (.long zs), .second, .val (.long ((own_usrL (own_mix (q0 + (-7046029254386353131 : Int64))) (32 : Int32)) * (zb.toInt64))), .second, .val (.long ((own_usrL (own_mix ((q0 + (-7046029254386353131 : Int64)) + (-7046029254386353131 : Int64))) (32 : Int32)) * (zb.toInt64))), .second]) rfl ?_
        show Steps p.tables e below (T190.setTop (mkF m 170 #[.val (.long q0), .second, .val (.int p1), .val (.int p2), .val (.int zb), .val (.ref b157), .val (.ref b163), .val (.int ((own_usrL ((own_usrL (own_mix wf_173) (32 : Int32)) * (zb.toInt64)) (32 : Int32)).toInt32)), .val (.int (1 : Int32)), .val (.long zs), .second, .val (.long ((own_usrL (own_mix (q0 + (-7046029254386353131 : Int64))) (32 : Int32)) * (zb.toInt64))), .second, .val (.long ((own_usrL (own_mix ((q0 + (-7046029254386353131 : Int64)) + (-7046029254386353131 : Int64))) (32 : Int32)) * (zb.toInt64))), .second] [])) _
        refine XS.lload X190.here hx rfl (hb hby at_170) rfl ?_
        show Steps p.tables e below (T190.setTop (mkF m 172 #[.val (.long q0), .second, .val (.int p1), .val (.int p2), .val (.int zb), .val (.ref b157), .val (.ref b163), .val (.int ((own_usrL ((own_usrL (own_mix wf_173) (32 : Int32)) * (zb.toInt64)) (32 : Int32)).toInt32)), .val (.int (1 : Int32)), .val (.long zs), .second, .val (.long ((own_usrL (own_mix (q0 + (-7046029254386353131 : Int64))) (32 : Int32)) * (zb.toInt64))), .second, .val (.long ((own_usrL (own_mix ((q0 + (-7046029254386353131 : Int64)) + (-7046029254386353131 : Int64))) (32 : Int32)) * (zb.toInt64))), .second] [(.long ((own_usrL (own_mix ((q0 + (-7046029254386353131 : Int64)) + (-7046029254386353131 : Int64))) (32 : Int32)) * (zb.toInt64)))])) _
        refine X190.ldc2Long hx hown (mvT hZ (hw _ (List.mem_of_getElem? (i := 28) rfl))) (g := (mkF m 172 #[.val (.long q0), .second, .val (.int p1), .val (.int p2), .val (.int zb), .val (.ref b157), .val (.ref b163), .val (.int ((own_usrL ((own_usrL (own_mix wf_173) (32 : Int32)) * (zb.toInt64)) (32 : Int32)).toInt32)), .val (.int (1 : Int32)), .val (.long zs), .second, .val (.long ((own_usrL (own_mix (q0 + (-7046029254386353131 : Int64))) (32 : Int32)) * (zb.toInt64))), .second, .val (.long ((own_usrL (own_mix ((q0 + (-7046029254386353131 : Int64)) + (-7046029254386353131 : Int64))) (32 : Int32)) * (zb.toInt64))), .second] [(.long ((own_usrL (own_mix ((q0 + (-7046029254386353131 : Int64)) + (-7046029254386353131 : Int64))) (32 : Int32)) * (zb.toInt64)))])) rfl (hb hby at_172) _ ?_
        show Steps p.tables e below (T190.setTop (mkF m 175 #[.val (.long q0), .second, .val (.int p1), .val (.int p2), .val (.int zb), .val (.ref b157), .val (.ref b163), .val (.int ((own_usrL ((own_usrL (own_mix wf_173) (32 : Int32)) * (zb.toInt64)) (32 : Int32)).toInt32)), .val (.int (1 : Int32)), .val (.long zs), .second, .val (.long ((own_usrL (own_mix (q0 + (-7046029254386353131 : Int64))) (32 : Int32)) * (zb.toInt64))), .second, .val (.long ((own_usrL (own_mix ((q0 + (-7046029254386353131 : Int64)) + (-7046029254386353131 : Int64))) (32 : Int32)) * (zb.toInt64))), .second] [(.long (4294967295 : Int64)), (.long ((own_usrL (own_mix ((q0 + (-7046029254386353131 : Int64)) + (-7046029254386353131 : Int64))) (32 : Int32)) * (zb.toInt64)))])) _
        refine XS.land X190.here hx rfl (hb hby at_175) rfl ?_
        show Steps p.tables e below (T190.setTop (mkF m 176 #[.val (.long q0), .second, .val (.int p1), .val (.int p2), .val (.int zb), .val (.ref b157), .val (.ref b163), .val (.int ((own_usrL ((own_usrL (own_mix wf_173) (32 : Int32)) * (zb.toInt64)) (32 : Int32)).toInt32)), .val (.int (1 : Int32)), .val (.long zs), .second, .val (.long ((own_usrL (own_mix (q0 + (-7046029254386353131 : Int64))) (32 : Int32)) * (zb.toInt64))), .second, .val (.long ((own_usrL (own_mix ((q0 + (-7046029254386353131 : Int64)) + (-7046029254386353131 : Int64))) (32 : Int32)) * (zb.toInt64))), .second] [(.long (((own_usrL (own_mix ((q0 + (-7046029254386353131 : Int64)) + (-7046029254386353131 : Int64))) (32 : Int32)) * (zb.toInt64)) &&& (4294967295 : Int64)))])) _
        refine XS.lload X190.here hx rfl (hb hby at_176) rfl ?_
        show Steps p.tables e below (T190.setTop (mkF m 178 #[.val (.long q0), .second, .val (.int p1), .val (.int p2), .val (.int zb), .val (.ref b157), .val (.ref b163), .val (.int ((own_usrL ((own_usrL (own_mix wf_173) (32 : Int32)) * (zb.toInt64)) (32 : Int32)).toInt32)), .val (.int (1 : Int32)), .val (.long zs), .second, .val (.long ((own_usrL (own_mix (q0 + (-7046029254386353131 : Int64))) (32 : Int32)) * (zb.toInt64))), .second, .val (.long ((own_usrL (own_mix ((q0 + (-7046029254386353131 : Int64)) + (-7046029254386353131 : Int64))) (32 : Int32)) * (zb.toInt64))), .second] [(.long zs), (.long (((own_usrL (own_mix ((q0 + (-7046029254386353131 : Int64)) + (-7046029254386353131 : Int64))) (32 : Int32)) * (zb.toInt64)) &&& (4294967295 : Int64)))])) _
        refine XS.lcmp X190.here hx rfl (hb hby at_178) rfl ?_
        exact k)
      by_cases hc195 : (((own_usrL (own_mix ((q0 + (-7046029254386353131 : Int64)) + (-7046029254386353131 : Int64))) (32 : Int32)) * (zb.toInt64)) &&& (4294967295 : Int64)) < zs
      · skip
        have go197 := go196.step (C := T190.setTop (mkF m 220 #[.val (.long q0), .second, .val (.int p1), .val (.int p2), .val (.int zb), .val (.ref b157), .val (.ref b163), .val (.int ((own_usrL ((own_usrL (own_mix wf_173) (32 : Int32)) * (zb.toInt64)) (32 : Int32)).toInt32)), .val (.int (1 : Int32)), .val (.long zs), .second, .val (.long ((own_usrL (own_mix (q0 + (-7046029254386353131 : Int64))) (32 : Int32)) * (zb.toInt64))), .second, .val (.long ((own_usrL (own_mix ((q0 + (-7046029254386353131 : Int64)) + (-7046029254386353131 : Int64))) (32 : Int32)) * (zb.toInt64))), .second] [(.int (1 : Int32))])) (fun t k => by
          show Steps p.tables e below (T190.setTop (mkF m 179 #[.val (.long q0), .second, .val (.int p1), .val (.int p2), .val (.int zb), .val (.ref b157), .val (.ref b163), .val (.int ((own_usrL ((own_usrL (own_mix wf_173) (32 : Int32)) * (zb.toInt64)) (32 : Int32)).toInt32)), .val (.int (1 : Int32)), .val (.long zs), .second, .val (.long ((own_usrL (own_mix (q0 + (-7046029254386353131 : Int64))) (32 : Int32)) * (zb.toInt64))), .second, .val (.long ((own_usrL (own_mix ((q0 + (-7046029254386353131 : Int64)) + (-7046029254386353131 : Int64))) (32 : Int32)) * (zb.toInt64))), .second] [(.int (lcmpW (((own_usrL (own_mix ((q0 + (-7046029254386353131 : Int64)) + (-7046029254386353131 : Int64))) (32 : Int32)) * (zb.toInt64)) &&& (4294967295 : Int64)) zs))])) _
          refine XS.ifYes X190.here hx rfl (pc0 := 179) (pc' := 218) rfl (hb hby at_179) rfl ((if0 _ _).trans (tlt ((lw_lt _ _).mpr hc195)).1) (by decide) (by decide) ?_
          show Steps p.tables e below (T190.setTop (mkF m 218 #[.val (.long q0), .second, .val (.int p1), .val (.int p2), .val (.int zb), .val (.ref b157), .val (.ref b163), .val (.int ((own_usrL ((own_usrL (own_mix wf_173) (32 : Int32)) * (zb.toInt64)) (32 : Int32)).toInt32)), .val (.int (1 : Int32)), .val (.long zs), .second, .val (.long ((own_usrL (own_mix (q0 + (-7046029254386353131 : Int64))) (32 : Int32)) * (zb.toInt64))), .second, .val (.long ((own_usrL (own_mix ((q0 + (-7046029254386353131 : Int64)) + (-7046029254386353131 : Int64))) (32 : Int32)) * (zb.toInt64))), .second] [])) _
          refine XS.iload X190.here hx rfl (hb hby at_218) rfl ?_
          exact k)
        obtain ⟨fs, hr, hrun, hended, hW, hsame⟩ := X190.leave (v := some (.int (1 : Int32))) (fun h => by rw [Bd.returns] at h; cases h)
        refine ⟨_, _, go197 _ ?_, hrun, hended, _, _, rfl, ?_, ⟨_, rfl⟩, hW, hsame.mono (by decide) (by decide)⟩
        · exact retN X190 hx (t := .boolean) Bd.returns (by simp) (hb hby at_220) hr
        · show Q_rm0 Z q0 p1 p2 h0 n0 _ T190.heap _
          exact ⟨rfl, N190⟩
      · skip
        have go200 := go196.step (C := T190.setTop (mkF m 200 #[.val (.long q0), .second, .val (.int p1), .val (.int p2), .val (.int zb), .val (.ref b157), .val (.ref b163), .val (.int ((own_usrL ((own_usrL (own_mix wf_173) (32 : Int32)) * (zb.toInt64)) (32 : Int32)).toInt32)), .val (.int (1 : Int32)), .val (.long zs), .second, .val (.long ((own_usrL (own_mix (q0 + (-7046029254386353131 : Int64))) (32 : Int32)) * (zb.toInt64))), .second, .val (.long ((own_usrL (own_mix ((q0 + (-7046029254386353131 : Int64)) + (-7046029254386353131 : Int64))) (32 : Int32)) * (zb.toInt64))), .second] [(.ref b157)])) (fun t k => by
          show Steps p.tables e below (T190.setTop (mkF m 179 #[.val (.long q0), .second, .val (.int p1), .val (.int p2), .val (.int zb), .val (.ref b157), .val (.ref b163), .val (.int ((own_usrL ((own_usrL (own_mix wf_173) (32 : Int32)) * (zb.toInt64)) (32 : Int32)).toInt32)), .val (.int (1 : Int32)), .val (.long zs), .second, .val (.long ((own_usrL (own_mix (q0 + (-7046029254386353131 : Int64))) (32 : Int32)) * (zb.toInt64))), .second, .val (.long ((own_usrL (own_mix ((q0 + (-7046029254386353131 : Int64)) + (-7046029254386353131 : Int64))) (32 : Int32)) * (zb.toInt64))), .second] [(.int (lcmpW (((own_usrL (own_mix ((q0 + (-7046029254386353131 : Int64)) + (-7046029254386353131 : Int64))) (32 : Int32)) * (zb.toInt64)) &&& (4294967295 : Int64)) zs))])) _
          refine XS.ifNo X190.here hx rfl (hb hby at_179) rfl ((if0 _ _).trans (flt (fun q => hc195 ((lw_lt _ _).mp q))).1) ?_
          show Steps p.tables e below (T190.setTop (mkF m 182 #[.val (.long q0), .second, .val (.int p1), .val (.int p2), .val (.int zb), .val (.ref b157), .val (.ref b163), .val (.int ((own_usrL ((own_usrL (own_mix wf_173) (32 : Int32)) * (zb.toInt64)) (32 : Int32)).toInt32)), .val (.int (1 : Int32)), .val (.long zs), .second, .val (.long ((own_usrL (own_mix (q0 + (-7046029254386353131 : Int64))) (32 : Int32)) * (zb.toInt64))), .second, .val (.long ((own_usrL (own_mix ((q0 + (-7046029254386353131 : Int64)) + (-7046029254386353131 : Int64))) (32 : Int32)) * (zb.toInt64))), .second] [])) _
          refine XS.iload X190.here hx rfl (hb hby at_182) rfl ?_
          show Steps p.tables e below (T190.setTop (mkF m 184 #[.val (.long q0), .second, .val (.int p1), .val (.int p2), .val (.int zb), .val (.ref b157), .val (.ref b163), .val (.int ((own_usrL ((own_usrL (own_mix wf_173) (32 : Int32)) * (zb.toInt64)) (32 : Int32)).toInt32)), .val (.int (1 : Int32)), .val (.long zs), .second, .val (.long ((own_usrL (own_mix (q0 + (-7046029254386353131 : Int64))) (32 : Int32)) * (zb.toInt64))), .second, .val (.long ((own_usrL (own_mix ((q0 + (-7046029254386353131 : Int64)) + (-7046029254386353131 : Int64))) (32 : Int32)) * (zb.toInt64))), .second] [(.int (1 : Int32))])) _
          refine XS.ifNo X190.here hx rfl (hb hby at_184) rfl ((if0 _ _).trans (feq ((by decide) : ¬ ((1 : Int32) = (0 : Int32)))).1) ?_
          show Steps p.tables e below (T190.setTop (mkF m 187 #[.val (.long q0), .second, .val (.int p1), .val (.int p2), .val (.int zb), .val (.ref b157), .val (.ref b163), .val (.int ((own_usrL ((own_usrL (own_mix wf_173) (32 : Int32)) * (zb.toInt64)) (32 : Int32)).toInt32)), .val (.int (1 : Int32)), .val (.long zs), .second, .val (.long ((own_usrL (own_mix (q0 + (-7046029254386353131 : Int64))) (32 : Int32)) * (zb.toInt64))), .second, .val (.long ((own_usrL (own_mix ((q0 + (-7046029254386353131 : Int64)) + (-7046029254386353131 : Int64))) (32 : Int32)) * (zb.toInt64))), .second] [])) _
          refine XS.iload X190.here hx rfl (hb hby at_187) rfl ?_
          show Steps p.tables e below (T190.setTop (mkF m 189 #[.val (.long q0), .second, .val (.int p1), .val (.int p2), .val (.int zb), .val (.ref b157), .val (.ref b163), .val (.int ((own_usrL ((own_usrL (own_mix wf_173) (32 : Int32)) * (zb.toInt64)) (32 : Int32)).toInt32)), .val (.int (1 : Int32)), .val (.long zs), .second, .val (.long ((own_usrL (own_mix (q0 + (-7046029254386353131 : Int64))) (32 : Int32)) * (zb.toInt64))), .second, .val (.long ((own_usrL (own_mix ((q0 + (-7046029254386353131 : Int64)) + (-7046029254386353131 : Int64))) (32 : Int32)) * (zb.toInt64))), .second] [(.int ((own_usrL ((own_usrL (own_mix wf_173) (32 : Int32)) * (zb.toInt64)) (32 : Int32)).toInt32))])) _
          refine XS.lload X190.here hx rfl (hb hby at_189) rfl ?_
          show Steps p.tables e below (T190.setTop (mkF m 191 #[.val (.long q0), .second, .val (.int p1), .val (.int p2), .val (.int zb), .val (.ref b157), .val (.ref b163), .val (.int ((own_usrL ((own_usrL (own_mix wf_173) (32 : Int32)) * (zb.toInt64)) (32 : Int32)).toInt32)), .val (.int (1 : Int32)), .val (.long zs), .second, .val (.long ((own_usrL (own_mix (q0 + (-7046029254386353131 : Int64))) (32 : Int32)) * (zb.toInt64))), .second, .val (.long ((own_usrL (own_mix ((q0 + (-7046029254386353131 : Int64)) + (-7046029254386353131 : Int64))) (32 : Int32)) * (zb.toInt64))), .second] [(.long ((own_usrL (own_mix ((q0 + (-7046029254386353131 : Int64)) + (-7046029254386353131 : Int64))) (32 : Int32)) * (zb.toInt64))), (.int ((own_usrL ((own_usrL (own_mix wf_173) (32 : Int32)) * (zb.toInt64)) (32 : Int32)).toInt32))])) _
          refine XS.bipush X190.here hx rfl (hb hby at_191) ?_
          show Steps p.tables e below (T190.setTop (mkF m 193 #[.val (.long q0), .second, .val (.int p1), .val (.int p2), .val (.int zb), .val (.ref b157), .val (.ref b163), .val (.int ((own_usrL ((own_usrL (own_mix wf_173) (32 : Int32)) * (zb.toInt64)) (32 : Int32)).toInt32)), .val (.int (1 : Int32)), .val (.long zs), .second, .val (.long ((own_usrL (own_mix (q0 + (-7046029254386353131 : Int64))) (32 : Int32)) * (zb.toInt64))), .second, .val (.long ((own_usrL (own_mix ((q0 + (-7046029254386353131 : Int64)) + (-7046029254386353131 : Int64))) (32 : Int32)) * (zb.toInt64))), .second] [(.int (32 : Int32)), (.long ((own_usrL (own_mix ((q0 + (-7046029254386353131 : Int64)) + (-7046029254386353131 : Int64))) (32 : Int32)) * (zb.toInt64))), (.int ((own_usrL ((own_usrL (own_mix wf_173) (32 : Int32)) * (zb.toInt64)) (32 : Int32)).toInt32))])) _
          refine XS.lushr X190.here hx rfl (hb hby at_193) rfl ?_
          show Steps p.tables e below (T190.setTop (mkF m 194 #[.val (.long q0), .second, .val (.int p1), .val (.int p2), .val (.int zb), .val (.ref b157), .val (.ref b163), .val (.int ((own_usrL ((own_usrL (own_mix wf_173) (32 : Int32)) * (zb.toInt64)) (32 : Int32)).toInt32)), .val (.int (1 : Int32)), .val (.long zs), .second, .val (.long ((own_usrL (own_mix (q0 + (-7046029254386353131 : Int64))) (32 : Int32)) * (zb.toInt64))), .second, .val (.long ((own_usrL (own_mix ((q0 + (-7046029254386353131 : Int64)) + (-7046029254386353131 : Int64))) (32 : Int32)) * (zb.toInt64))), .second] [(.long (own_usrL ((own_usrL (own_mix ((q0 + (-7046029254386353131 : Int64)) + (-7046029254386353131 : Int64))) (32 : Int32)) * (zb.toInt64)) (32 : Int32))), (.int ((own_usrL ((own_usrL (own_mix wf_173) (32 : Int32)) * (zb.toInt64)) (32 : Int32)).toInt32))])) _
          refine XS.l2i X190.here hx rfl (hb hby at_194) rfl ?_
          show Steps p.tables e below (T190.setTop (mkF m 195 #[.val (.long q0), .second, .val (.int p1), .val (.int p2), .val (.int zb), .val (.ref b157), .val (.ref b163), .val (.int ((own_usrL ((own_usrL (own_mix wf_173) (32 : Int32)) * (zb.toInt64)) (32 : Int32)).toInt32)), .val (.int (1 : Int32)), .val (.long zs), .second, .val (.long ((own_usrL (own_mix (q0 + (-7046029254386353131 : Int64))) (32 : Int32)) * (zb.toInt64))), .second, .val (.long ((own_usrL (own_mix ((q0 + (-7046029254386353131 : Int64)) + (-7046029254386353131 : Int64))) (32 : Int32)) * (zb.toInt64))), .second] [(.int ((own_usrL ((own_usrL (own_mix ((q0 + (-7046029254386353131 : Int64)) + (-7046029254386353131 : Int64))) (32 : Int32)) * (zb.toInt64)) (32 : Int32)).toInt32)), (.int ((own_usrL ((own_usrL (own_mix wf_173) (32 : Int32)) * (zb.toInt64)) (32 : Int32)).toInt32))])) _
          refine XS.icmpNo X190.here hx rfl (hb hby at_195) rfl (teq (by rw [(own_J2 hJ hacc (fun q => q (hzs ▸ hc187)) (hzs ▸ hc195))] : ((own_usrL ((own_usrL (own_mix wf_173) (32 : Int32)) * (zb.toInt64)) (32 : Int32)).toInt32) = ((own_usrL ((own_usrL (own_mix ((q0 + (-7046029254386353131 : Int64)) + (-7046029254386353131 : Int64))) (32 : Int32)) * (zb.toInt64)) (32 : Int32)).toInt32))).2 ?_
          show Steps p.tables e below (T190.setTop (mkF m 198 #[.val (.long q0), .second, .val (.int p1), .val (.int p2), .val (.int zb), .val (.ref b157), .val (.ref b163), .val (.int ((own_usrL ((own_usrL (own_mix wf_173) (32 : Int32)) * (zb.toInt64)) (32 : Int32)).toInt32)), .val (.int (1 : Int32)), .val (.long zs), .second, .val (.long ((own_usrL (own_mix (q0 + (-7046029254386353131 : Int64))) (32 : Int32)) * (zb.toInt64))), .second, .val (.long ((own_usrL (own_mix ((q0 + (-7046029254386353131 : Int64)) + (-7046029254386353131 : Int64))) (32 : Int32)) * (zb.toInt64))), .second] [])) _
          refine XS.aload X190.here hx rfl (hb hby at_198) rfl rfl ?_
          exact k)
        obtain ⟨cq201, kq201, q201a, q201b, q201c⟩ := isOf hZ rfl f191
        obtain ⟨_, _, ⟨T201, L201, k201, n201⟩, -, X201, ⟨Lc201, hQ201, l201, y201, z201⟩, st201⟩ := X190.virtualBack hx (y := (⟨"com/example/roundhaul/roundhaul/solver/SeededRandom", "nextLong", "()J"⟩ : MethodName)) (z := (⟨"com/example/roundhaul/roundhaul/solver/SeededRandom", "nextLong", "()J"⟩ : MethodName)) hown (mvT hZ (hw _ (List.mem_of_getElem? (i := 27) rfl))) (mvT hZ (hw _ (List.mem_of_getElem? (i := 17) rfl))) (notFace_of_selects (args := #[]) (mvT hZ (hw _ (List.mem_of_getElem? (i := 19) rfl)))) (mvT hZ (hw _ (List.mem_of_getElem? (i := 19) rfl))) (mvT hZ (hw _ (List.mem_of_getElem? (i := 18) rfl))) (by decide) (backOf (W := 0) (rm4 l Z a0 hw [] b157 wf_173 T190.heap n0 Z190 f191 f193 g_b157) hZ (hw _ (List.mem_of_getElem? (i := 20) rfl)) (hw _ (List.mem_of_getElem? (i := 2) rfl)) (by decide) (by decide)) q201a q201c (g := (mkF m 200 #[.val (.long q0), .second, .val (.int p1), .val (.int p2), .val (.int zb), .val (.ref b157), .val (.ref b163), .val (.int ((own_usrL ((own_usrL (own_mix wf_173) (32 : Int32)) * (zb.toInt64)) (32 : Int32)).toInt32)), .val (.int (1 : Int32)), .val (.long zs), .second, .val (.long ((own_usrL (own_mix (q0 + (-7046029254386353131 : Int64))) (32 : Int32)) * (zb.toInt64))), .second, .val (.long ((own_usrL (own_mix ((q0 + (-7046029254386353131 : Int64)) + (-7046029254386353131 : Int64))) (32 : Int32)) * (zb.toInt64))), .second] [(.ref b157)])) rfl (by rw [hml]; rfl) (Steps.refl _) (argsL := []) (rest := []) (lenOf pd_rm0_2 rfl) rfl (by show 2 * 0 + _ ≤ _; exact Nat.le_of_eq rfl) (hb hby at_200) (fun _ _ => ⟨rfl, rfl, (by decide : 2 + 0 ≤ _), (by decide : 2 + 0 ≤ _)⟩)
        dsimp only [Pt.U, Pt.locs, Pt.cells, Pt.slots] at X201 l201 y201 z201 st201 hQ201
        rw [l201, y201, z201] at X201
        obtain ⟨rfl, N201q, K201, qp201_0, qp201_1⟩ := hQ201
        have N201 := Fr.app N190 N201q
        have f202 := f191.keep K201
        have f203 := qp190_0.keep K201
        have f205 := qp190_1.keep K201 (ninS (Ne.symm ne_b157_b163) nin0)
        have Z201 : n0 ≤ T201.heap.size := Nat.le_trans Z190 K201.1
        have KK201 := KK190.trans K201 (allS (Or.inr sz_b157) all0)
        have go201 := go200.tr (C := T201.setTop (mkF m 203 #[.val (.long q0), .second, .val (.int p1), .val (.int p2), .val (.int zb), .val (.ref b157), .val (.ref b163), .val (.int ((own_usrL ((own_usrL (own_mix wf_173) (32 : Int32)) * (zb.toInt64)) (32 : Int32)).toInt32)), .val (.int (1 : Int32)), .val (.long zs), .second, .val (.long ((own_usrL (own_mix (q0 + (-7046029254386353131 : Int64))) (32 : Int32)) * (zb.toInt64))), .second, .val (.long ((own_usrL (own_mix ((q0 + (-7046029254386353131 : Int64)) + (-7046029254386353131 : Int64))) (32 : Int32)) * (zb.toInt64))), .second] [(.long (own_mix (wf_173 + (-7046029254386353131 : Int64))))])) st201
        have go206 := go201.step (C := T201.setTop (mkF m 205 #[.val (.long q0), .second, .val (.int p1), .val (.int p2), .val (.int zb), .val (.ref b157), .val (.ref b163), .val (.int ((own_usrL ((own_usrL (own_mix wf_173) (32 : Int32)) * (zb.toInt64)) (32 : Int32)).toInt32)), .val (.int (1 : Int32)), .val (.long zs), .second, .val (.long ((own_usrL (own_mix (q0 + (-7046029254386353131 : Int64))) (32 : Int32)) * (zb.toInt64))), .second, .val (.long ((own_usrL (own_mix ((q0 + (-7046029254386353131 : Int64)) + (-7046029254386353131 : Int64))) (32 : Int32)) * (zb.toInt64))), .second] [(.ref b163), (.long (own_mix (wf_173 + (-7046029254386353131 : Int64))))])) (fun t k => by
          show Steps p.tables e below (T201.setTop (mkF m 203 #[.val (.long q0), .second, .val (.int p1), .val (.int p2), .val (.int zb), .val (.ref b157), .val (.ref b163), .val (.int ((own_usrL ((own_usrL (own_mix wf_173) (32 : Int32)) * (zb.toInt64)) (32 : Int32)).toInt32)), .val (.int (1 : Int32)), .val (.long zs), .second, .val (.long ((own_usrL (own_mix (q0 + (-7046029254386353131 : Int64))) (32 : Int32)) * (zb.toInt64))), .second, .val (.long ((own_usrL (own_mix ((q0 + (-7046029254386353131 : Int64)) + (-7046029254386353131 : Int64))) (32 : Int32)) * (zb.toInt64))), .second] [(.long (own_mix (wf_173 + (-7046029254386353131 : Int64))))])) _
          refine XS.aload X201.here hx rfl (hb hby at_203) rfl rfl ?_
          exact k)
        obtain ⟨cq207, kq207, q207a, q207b, q207c⟩ := isOf hZ rfl f203
        obtain ⟨_, _, ⟨T207, L207, k207, n207⟩, -, X207, ⟨Lc207, hQ207, l207, y207, z207⟩, st207⟩ := X201.virtualBack hx (y := (⟨"com/example/roundhaul/roundhaul/solver/SeededRandom", "nextLong", "()J"⟩ : MethodName)) (z := (⟨"com/example/roundhaul/roundhaul/solver/SeededRandom", "nextLong", "()J"⟩ : MethodName)) hown (mvT hZ (hw _ (List.mem_of_getElem? (i := 27) rfl))) (mvT hZ (hw _ (List.mem_of_getElem? (i := 17) rfl))) (notFace_of_selects (args := #[]) (mvT hZ (hw _ (List.mem_of_getElem? (i := 19) rfl)))) (mvT hZ (hw _ (List.mem_of_getElem? (i := 19) rfl))) (mvT hZ (hw _ (List.mem_of_getElem? (i := 18) rfl))) (by decide) (backOf (W := 2) (rm4 l Z a0 hw [] b163 ((q0 + (-7046029254386353131 : Int64)) + (-7046029254386353131 : Int64)) T201.heap n0 Z201 f203 f205 g_b163) hZ (hw _ (List.mem_of_getElem? (i := 20) rfl)) (hw _ (List.mem_of_getElem? (i := 2) rfl)) (by decide) (by decide)) q207a q207c (g := (mkF m 205 #[.val (.long q0), .second, .val (.int p1), .val (.int p2), .val (.int zb), .val (.ref b157), .val (.ref b163), .val (.int ((own_usrL ((own_usrL (own_mix wf_173) (32 : Int32)) * (zb.toInt64)) (32 : Int32)).toInt32)), .val (.int (1 : Int32)), .val (.long zs), .second, .val (.long ((own_usrL (own_mix (q0 + (-7046029254386353131 : Int64))) (32 : Int32)) * (zb.toInt64))), .second, .val (.long ((own_usrL (own_mix ((q0 + (-7046029254386353131 : Int64)) + (-7046029254386353131 : Int64))) (32 : Int32)) * (zb.toInt64))), .second] [(.ref b163), (.long (own_mix (wf_173 + (-7046029254386353131 : Int64))))])) rfl (by rw [hml]; rfl) (Steps.refl _) (argsL := []) (rest := [(.long (own_mix (wf_173 + (-7046029254386353131 : Int64))))]) (lenOf pd_rm0_2 rfl) rfl (by show 2 * 0 + _ ≤ _; exact Nat.le_of_eq rfl) (hb hby at_205) (fun _ _ => ⟨rfl, rfl, (by decide : 2 + 0 ≤ _), (by decide : 2 + 0 ≤ _)⟩)
        dsimp only [Pt.U, Pt.locs, Pt.cells, Pt.slots] at X207 l207 y207 z207 st207 hQ207
        rw [l207, y207, z207] at X207
        obtain ⟨rfl, N207q, K207, qp207_0, qp207_1⟩ := hQ207
        have N207 := Fr.app N201 N207q
        have f208 := qp201_0.keep K207
        have f209 := f203.keep K207
        have f211 := qp201_1.keep K207 (ninS ne_b157_b163 nin0)
        have Z207 : n0 ≤ T207.heap.size := Nat.le_trans Z201 K207.1
        have KK207 := KK201.trans K207 (allS (Or.inr sz_b163) all0)
        have go207 := go206.tr (C := T207.setTop (mkF m 208 #[.val (.long q0), .second, .val (.int p1), .val (.int p2), .val (.int zb), .val (.ref b157), .val (.ref b163), .val (.int ((own_usrL ((own_usrL (own_mix wf_173) (32 : Int32)) * (zb.toInt64)) (32 : Int32)).toInt32)), .val (.int (1 : Int32)), .val (.long zs), .second, .val (.long ((own_usrL (own_mix (q0 + (-7046029254386353131 : Int64))) (32 : Int32)) * (zb.toInt64))), .second, .val (.long ((own_usrL (own_mix ((q0 + (-7046029254386353131 : Int64)) + (-7046029254386353131 : Int64))) (32 : Int32)) * (zb.toInt64))), .second] [(.long (own_mix (((q0 + (-7046029254386353131 : Int64)) + (-7046029254386353131 : Int64)) + (-7046029254386353131 : Int64)))), (.long (own_mix (wf_173 + (-7046029254386353131 : Int64))))])) st207
        have go213 := go207.step (C := T207.setTop (mkF m 217 #[.val (.long q0), .second, .val (.int p1), .val (.int p2), .val (.int zb), .val (.ref b157), .val (.ref b163), .val (.int ((own_usrL ((own_usrL (own_mix wf_173) (32 : Int32)) * (zb.toInt64)) (32 : Int32)).toInt32)), .val (.int (1 : Int32)), .val (.long zs), .second, .val (.long ((own_usrL (own_mix (q0 + (-7046029254386353131 : Int64))) (32 : Int32)) * (zb.toInt64))), .second, .val (.long ((own_usrL (own_mix ((q0 + (-7046029254386353131 : Int64)) + (-7046029254386353131 : Int64))) (32 : Int32)) * (zb.toInt64))), .second] [(.int (1 : Int32))])) (fun t k => by
          show Steps p.tables e below (T207.setTop (mkF m 208 #[.val (.long q0), .second, .val (.int p1), .val (.int p2), .val (.int zb), .val (.ref b157), .val (.ref b163), .val (.int ((own_usrL ((own_usrL (own_mix wf_173) (32 : Int32)) * (zb.toInt64)) (32 : Int32)).toInt32)), .val (.int (1 : Int32)), .val (.long zs), .second, .val (.long ((own_usrL (own_mix (q0 + (-7046029254386353131 : Int64))) (32 : Int32)) * (zb.toInt64))), .second, .val (.long ((own_usrL (own_mix ((q0 + (-7046029254386353131 : Int64)) + (-7046029254386353131 : Int64))) (32 : Int32)) * (zb.toInt64))), .second] [(.long (own_mix (((q0 + (-7046029254386353131 : Int64)) + (-7046029254386353131 : Int64)) + (-7046029254386353131 : Int64)))), (.long (own_mix (wf_173 + (-7046029254386353131 : Int64))))])) _
          refine XS.lcmp X207.here hx rfl (hb hby at_208) rfl ?_
          show Steps p.tables e below (T207.setTop (mkF m 209 #[.val (.long q0), .second, .val (.int p1), .val (.int p2), .val (.int zb), .val (.ref b157), .val (.ref b163), .val (.int ((own_usrL ((own_usrL (own_mix wf_173) (32 : Int32)) * (zb.toInt64)) (32 : Int32)).toInt32)), .val (.int (1 : Int32)), .val (.long zs), .second, .val (.long ((own_usrL (own_mix (q0 + (-7046029254386353131 : Int64))) (32 : Int32)) * (zb.toInt64))), .second, .val (.long ((own_usrL (own_mix ((q0 + (-7046029254386353131 : Int64)) + (-7046029254386353131 : Int64))) (32 : Int32)) * (zb.toInt64))), .second] [(.int (lcmpW (own_mix (wf_173 + (-7046029254386353131 : Int64))) (own_mix (((q0 + (-7046029254386353131 : Int64)) + (-7046029254386353131 : Int64)) + (-7046029254386353131 : Int64)))))])) _
          refine XS.ifNo X207.here hx rfl (hb hby at_209) rfl ((if0 _ _).trans (teq ((lw_eq _ _).mpr (by rw [(own_J2 hJ hacc (fun q => q (hzs ▸ hc187)) (hzs ▸ hc195))] : (own_mix (wf_173 + (-7046029254386353131 : Int64))) = (own_mix (((q0 + (-7046029254386353131 : Int64)) + (-7046029254386353131 : Int64)) + (-7046029254386353131 : Int64)))))).2) ?_
          show Steps p.tables e below (T207.setTop (mkF m 212 #[.val (.long q0), .second, .val (.int p1), .val (.int p2), .val (.int zb), .val (.ref b157), .val (.ref b163), .val (.int ((own_usrL ((own_usrL (own_mix wf_173) (32 : Int32)) * (zb.toInt64)) (32 : Int32)).toInt32)), .val (.int (1 : Int32)), .val (.long zs), .second, .val (.long ((own_usrL (own_mix (q0 + (-7046029254386353131 : Int64))) (32 : Int32)) * (zb.toInt64))), .second, .val (.long ((own_usrL (own_mix ((q0 + (-7046029254386353131 : Int64)) + (-7046029254386353131 : Int64))) (32 : Int32)) * (zb.toInt64))), .second] [])) _
          refine XS.iconst X207.here hx rfl (hb hby at_212) ?_
          show Steps p.tables e below (T207.setTop (mkF m 213 #[.val (.long q0), .second, .val (.int p1), .val (.int p2), .val (.int zb), .val (.ref b157), .val (.ref b163), .val (.int ((own_usrL ((own_usrL (own_mix wf_173) (32 : Int32)) * (zb.toInt64)) (32 : Int32)).toInt32)), .val (.int (1 : Int32)), .val (.long zs), .second, .val (.long ((own_usrL (own_mix (q0 + (-7046029254386353131 : Int64))) (32 : Int32)) * (zb.toInt64))), .second, .val (.long ((own_usrL (own_mix ((q0 + (-7046029254386353131 : Int64)) + (-7046029254386353131 : Int64))) (32 : Int32)) * (zb.toInt64))), .second] [(.int (1 : Int32))])) _
          refine XS.goto X207.here hx rfl (pc0 := 213) (pc' := 217) rfl (hb hby at_213) (by decide) (by decide) ?_
          exact k)
        obtain ⟨fs, hr, hrun, hended, hW, hsame⟩ := X207.leave (v := some (.int (1 : Int32))) (fun h => by rw [Bd.returns] at h; cases h)
        refine ⟨_, _, go213 _ ?_, hrun, hended, _, _, rfl, ?_, ⟨_, rfl⟩, hW, hsame.mono (by decide) (by decide)⟩
        · exact retN X207 hx (t := .boolean) Bd.returns (by simp) (hb hby at_217) hr
        · show Q_rm0 Z q0 p1 p2 h0 n0 _ T207.heap _
          exact ⟨rfl, N207⟩
    · skip
      have go216 := go188.step (C := T182.setTop (mkF m 138 #[.val (.long q0), .second, .val (.int p1), .val (.int p2), .val (.int zb), .val (.ref b157), .val (.ref b163), .val (.int ((own_usrL ((own_usrL (own_mix wf_173) (32 : Int32)) * (zb.toInt64)) (32 : Int32)).toInt32)), .val (.int (1 : Int32)), .val (.long zs), .second, .val (.long ((own_usrL (own_mix (q0 + (-7046029254386353131 : Int64))) (32 : Int32)) * (zb.toInt64))), .second, .unset, .unset] [(.ref b157)])) (fun t k => by
        show Steps p.tables e below (T182.setTop (mkF m 117 #[.val (.long q0), .second, .val (.int p1), .val (.int p2), .val (.int zb), .val (.ref b157), .val (.ref b163), .val (.int ((own_usrL ((own_usrL (own_mix wf_173) (32 : Int32)) * (zb.toInt64)) (32 : Int32)).toInt32)), .val (.int (1 : Int32)), .val (.long zs), .second, .val (.long ((own_usrL (own_mix (q0 + (-7046029254386353131 : Int64))) (32 : Int32)) * (zb.toInt64))), .second, .unset, .unset] [(.int (lcmpW (((own_usrL (own_mix (q0 + (-7046029254386353131 : Int64))) (32 : Int32)) * (zb.toInt64)) &&& (4294967295 : Int64)) zs))])) _
        refine XS.ifNo X182.here hx rfl (hb hby at_117) rfl ((if0 _ _).trans (flt (fun q => hc187 ((lw_lt _ _).mp q))).1) ?_
        show Steps p.tables e below (T182.setTop (mkF m 120 #[.val (.long q0), .second, .val (.int p1), .val (.int p2), .val (.int zb), .val (.ref b157), .val (.ref b163), .val (.int ((own_usrL ((own_usrL (own_mix wf_173) (32 : Int32)) * (zb.toInt64)) (32 : Int32)).toInt32)), .val (.int (1 : Int32)), .val (.long zs), .second, .val (.long ((own_usrL (own_mix (q0 + (-7046029254386353131 : Int64))) (32 : Int32)) * (zb.toInt64))), .second, .unset, .unset] [])) _
        refine XS.iload X182.here hx rfl (hb hby at_120) rfl ?_
        show Steps p.tables e below (T182.setTop (mkF m 122 #[.val (.long q0), .second, .val (.int p1), .val (.int p2), .val (.int zb), .val (.ref b157), .val (.ref b163), .val (.int ((own_usrL ((own_usrL (own_mix wf_173) (32 : Int32)) * (zb.toInt64)) (32 : Int32)).toInt32)), .val (.int (1 : Int32)), .val (.long zs), .second, .val (.long ((own_usrL (own_mix (q0 + (-7046029254386353131 : Int64))) (32 : Int32)) * (zb.toInt64))), .second, .unset, .unset] [(.int (1 : Int32))])) _
        refine XS.ifNo X182.here hx rfl (hb hby at_122) rfl ((if0 _ _).trans (feq ((by decide) : ¬ ((1 : Int32) = (0 : Int32)))).1) ?_
        show Steps p.tables e below (T182.setTop (mkF m 125 #[.val (.long q0), .second, .val (.int p1), .val (.int p2), .val (.int zb), .val (.ref b157), .val (.ref b163), .val (.int ((own_usrL ((own_usrL (own_mix wf_173) (32 : Int32)) * (zb.toInt64)) (32 : Int32)).toInt32)), .val (.int (1 : Int32)), .val (.long zs), .second, .val (.long ((own_usrL (own_mix (q0 + (-7046029254386353131 : Int64))) (32 : Int32)) * (zb.toInt64))), .second, .unset, .unset] [])) _
        refine XS.iload X182.here hx rfl (hb hby at_125) rfl ?_
        show Steps p.tables e below (T182.setTop (mkF m 127 #[.val (.long q0), .second, .val (.int p1), .val (.int p2), .val (.int zb), .val (.ref b157), .val (.ref b163), .val (.int ((own_usrL ((own_usrL (own_mix wf_173) (32 : Int32)) * (zb.toInt64)) (32 : Int32)).toInt32)), .val (.int (1 : Int32)), .val (.long zs), .second, .val (.long ((own_usrL (own_mix (q0 + (-7046029254386353131 : Int64))) (32 : Int32)) * (zb.toInt64))), .second, .unset, .unset] [(.int ((own_usrL ((own_usrL (own_mix wf_173) (32 : Int32)) * (zb.toInt64)) (32 : Int32)).toInt32))])) _
        refine XS.lload X182.here hx rfl (hb hby at_127) rfl ?_
        show Steps p.tables e below (T182.setTop (mkF m 129 #[.val (.long q0), .second, .val (.int p1), .val (.int p2), .val (.int zb), .val (.ref b157), .val (.ref b163), .val (.int ((own_usrL ((own_usrL (own_mix wf_173) (32 : Int32)) * (zb.toInt64)) (32 : Int32)).toInt32)), .val (.int (1 : Int32)), .val (.long zs), .second, .val (.long ((own_usrL (own_mix (q0 + (-7046029254386353131 : Int64))) (32 : Int32)) * (zb.toInt64))), .second, .unset, .unset] [(.long ((own_usrL (own_mix (q0 + (-7046029254386353131 : Int64))) (32 : Int32)) * (zb.toInt64))), (.int ((own_usrL ((own_usrL (own_mix wf_173) (32 : Int32)) * (zb.toInt64)) (32 : Int32)).toInt32))])) _
        refine XS.bipush X182.here hx rfl (hb hby at_129) ?_
        show Steps p.tables e below (T182.setTop (mkF m 131 #[.val (.long q0), .second, .val (.int p1), .val (.int p2), .val (.int zb), .val (.ref b157), .val (.ref b163), .val (.int ((own_usrL ((own_usrL (own_mix wf_173) (32 : Int32)) * (zb.toInt64)) (32 : Int32)).toInt32)), .val (.int (1 : Int32)), .val (.long zs), .second, .val (.long ((own_usrL (own_mix (q0 + (-7046029254386353131 : Int64))) (32 : Int32)) * (zb.toInt64))), .second, .unset, .unset] [(.int (32 : Int32)), (.long ((own_usrL (own_mix (q0 + (-7046029254386353131 : Int64))) (32 : Int32)) * (zb.toInt64))), (.int ((own_usrL ((own_usrL (own_mix wf_173) (32 : Int32)) * (zb.toInt64)) (32 : Int32)).toInt32))])) _
        refine XS.lushr X182.here hx rfl (hb hby at_131) rfl ?_
        show Steps p.tables e below (T182.setTop (mkF m 132 #[.val (.long q0), .second, .val (.int p1), .val (.int p2), .val (.int zb), .val (.ref b157), .val (.ref b163), .val (.int ((own_usrL ((own_usrL (own_mix wf_173) (32 : Int32)) * (zb.toInt64)) (32 : Int32)).toInt32)), .val (.int (1 : Int32)), .val (.long zs), .second, .val (.long ((own_usrL (own_mix (q0 + (-7046029254386353131 : Int64))) (32 : Int32)) * (zb.toInt64))), .second, .unset, .unset] [(.long (own_usrL ((own_usrL (own_mix (q0 + (-7046029254386353131 : Int64))) (32 : Int32)) * (zb.toInt64)) (32 : Int32))), (.int ((own_usrL ((own_usrL (own_mix wf_173) (32 : Int32)) * (zb.toInt64)) (32 : Int32)).toInt32))])) _
        refine XS.l2i X182.here hx rfl (hb hby at_132) rfl ?_
        show Steps p.tables e below (T182.setTop (mkF m 133 #[.val (.long q0), .second, .val (.int p1), .val (.int p2), .val (.int zb), .val (.ref b157), .val (.ref b163), .val (.int ((own_usrL ((own_usrL (own_mix wf_173) (32 : Int32)) * (zb.toInt64)) (32 : Int32)).toInt32)), .val (.int (1 : Int32)), .val (.long zs), .second, .val (.long ((own_usrL (own_mix (q0 + (-7046029254386353131 : Int64))) (32 : Int32)) * (zb.toInt64))), .second, .unset, .unset] [(.int ((own_usrL ((own_usrL (own_mix (q0 + (-7046029254386353131 : Int64))) (32 : Int32)) * (zb.toInt64)) (32 : Int32)).toInt32)), (.int ((own_usrL ((own_usrL (own_mix wf_173) (32 : Int32)) * (zb.toInt64)) (32 : Int32)).toInt32))])) _
        refine XS.icmpNo X182.here hx rfl (hb hby at_133) rfl (teq (by rw [(own_J1 hJ (hzs ▸ hc187))] : ((own_usrL ((own_usrL (own_mix wf_173) (32 : Int32)) * (zb.toInt64)) (32 : Int32)).toInt32) = ((own_usrL ((own_usrL (own_mix (q0 + (-7046029254386353131 : Int64))) (32 : Int32)) * (zb.toInt64)) (32 : Int32)).toInt32))).2 ?_
        show Steps p.tables e below (T182.setTop (mkF m 136 #[.val (.long q0), .second, .val (.int p1), .val (.int p2), .val (.int zb), .val (.ref b157), .val (.ref b163), .val (.int ((own_usrL ((own_usrL (own_mix wf_173) (32 : Int32)) * (zb.toInt64)) (32 : Int32)).toInt32)), .val (.int (1 : Int32)), .val (.long zs), .second, .val (.long ((own_usrL (own_mix (q0 + (-7046029254386353131 : Int64))) (32 : Int32)) * (zb.toInt64))), .second, .unset, .unset] [])) _
        refine XS.aload X182.here hx rfl (hb hby at_136) rfl rfl ?_
        exact k)
      obtain ⟨cq217, kq217, q217a, q217b, q217c⟩ := isOf hZ rfl f183
      obtain ⟨_, _, ⟨T217, L217, k217, n217⟩, -, X217, ⟨Lc217, hQ217, l217, y217, z217⟩, st217⟩ := X182.virtualBack hx (y := (⟨"com/example/roundhaul/roundhaul/solver/SeededRandom", "nextLong", "()J"⟩ : MethodName)) (z := (⟨"com/example/roundhaul/roundhaul/solver/SeededRandom", "nextLong", "()J"⟩ : MethodName)) hown (mvT hZ (hw _ (List.mem_of_getElem? (i := 27) rfl))) (mvT hZ (hw _ (List.mem_of_getElem? (i := 17) rfl))) (notFace_of_selects (args := #[]) (mvT hZ (hw _ (List.mem_of_getElem? (i := 19) rfl)))) (mvT hZ (hw _ (List.mem_of_getElem? (i := 19) rfl))) (mvT hZ (hw _ (List.mem_of_getElem? (i := 18) rfl))) (by decide) (backOf (W := 0) (rm4 l Z a0 hw [] b157 wf_173 T182.heap n0 Z182 f183 f186 g_b157) hZ (hw _ (List.mem_of_getElem? (i := 20) rfl)) (hw _ (List.mem_of_getElem? (i := 2) rfl)) (by decide) (by decide)) q217a q217c (g := (mkF m 138 #[.val (.long q0), .second, .val (.int p1), .val (.int p2), .val (.int zb), .val (.ref b157), .val (.ref b163), .val (.int ((own_usrL ((own_usrL (own_mix wf_173) (32 : Int32)) * (zb.toInt64)) (32 : Int32)).toInt32)), .val (.int (1 : Int32)), .val (.long zs), .second, .val (.long ((own_usrL (own_mix (q0 + (-7046029254386353131 : Int64))) (32 : Int32)) * (zb.toInt64))), .second, .unset, .unset] [(.ref b157)])) rfl (by rw [hml]; rfl) (Steps.refl _) (argsL := []) (rest := []) (lenOf pd_rm0_2 rfl) rfl (by show 2 * 0 + _ ≤ _; exact Nat.le_of_eq rfl) (hb hby at_138) (fun _ _ => ⟨rfl, rfl, (by decide : 2 + 0 ≤ _), (by decide : 2 + 0 ≤ _)⟩)
      dsimp only [Pt.U, Pt.locs, Pt.cells, Pt.slots] at X217 l217 y217 z217 st217 hQ217
      rw [l217, y217, z217] at X217
      obtain ⟨rfl, N217q, K217, qp217_0, qp217_1⟩ := hQ217
      have N217 := Fr.app N182 N217q
      have f218 := f183.keep K217
      have f219 := qp182_0.keep K217
      have f221 := qp182_1.keep K217 (ninS (Ne.symm ne_b157_b163) nin0)
      have Z217 : n0 ≤ T217.heap.size := Nat.le_trans Z182 K217.1
      have KK217 := KK182.trans K217 (allS (Or.inr sz_b157) all0)
      have go217 := go216.tr (C := T217.setTop (mkF m 141 #[.val (.long q0), .second, .val (.int p1), .val (.int p2), .val (.int zb), .val (.ref b157), .val (.ref b163), .val (.int ((own_usrL ((own_usrL (own_mix wf_173) (32 : Int32)) * (zb.toInt64)) (32 : Int32)).toInt32)), .val (.int (1 : Int32)), .val (.long zs), .second, .val (.long ((own_usrL (own_mix (q0 + (-7046029254386353131 : Int64))) (32 : Int32)) * (zb.toInt64))), .second, .unset, .unset] [(.long (own_mix (wf_173 + (-7046029254386353131 : Int64))))])) st217
      have go222 := go217.step (C := T217.setTop (mkF m 143 #[.val (.long q0), .second, .val (.int p1), .val (.int p2), .val (.int zb), .val (.ref b157), .val (.ref b163), .val (.int ((own_usrL ((own_usrL (own_mix wf_173) (32 : Int32)) * (zb.toInt64)) (32 : Int32)).toInt32)), .val (.int (1 : Int32)), .val (.long zs), .second, .val (.long ((own_usrL (own_mix (q0 + (-7046029254386353131 : Int64))) (32 : Int32)) * (zb.toInt64))), .second, .unset, .unset] [(.ref b163), (.long (own_mix (wf_173 + (-7046029254386353131 : Int64))))])) (fun t k => by
        show Steps p.tables e below (T217.setTop (mkF m 141 #[.val (.long q0), .second, .val (.int p1), .val (.int p2), .val (.int zb), .val (.ref b157), .val (.ref b163), .val (.int ((own_usrL ((own_usrL (own_mix wf_173) (32 : Int32)) * (zb.toInt64)) (32 : Int32)).toInt32)), .val (.int (1 : Int32)), .val (.long zs), .second, .val (.long ((own_usrL (own_mix (q0 + (-7046029254386353131 : Int64))) (32 : Int32)) * (zb.toInt64))), .second, .unset, .unset] [(.long (own_mix (wf_173 + (-7046029254386353131 : Int64))))])) _
        refine XS.aload X217.here hx rfl (hb hby at_141) rfl rfl ?_
        exact k)
      obtain ⟨cq223, kq223, q223a, q223b, q223c⟩ := isOf hZ rfl f219
      obtain ⟨_, _, ⟨T223, L223, k223, n223⟩, -, X223, ⟨Lc223, hQ223, l223, y223, z223⟩, st223⟩ := X217.virtualBack hx (y := (⟨"com/example/roundhaul/roundhaul/solver/SeededRandom", "nextLong", "()J"⟩ : MethodName)) (z := (⟨"com/example/roundhaul/roundhaul/solver/SeededRandom", "nextLong", "()J"⟩ : MethodName)) hown (mvT hZ (hw _ (List.mem_of_getElem? (i := 27) rfl))) (mvT hZ (hw _ (List.mem_of_getElem? (i := 17) rfl))) (notFace_of_selects (args := #[]) (mvT hZ (hw _ (List.mem_of_getElem? (i := 19) rfl)))) (mvT hZ (hw _ (List.mem_of_getElem? (i := 19) rfl))) (mvT hZ (hw _ (List.mem_of_getElem? (i := 18) rfl))) (by decide) (backOf (W := 2) (rm4 l Z a0 hw [] b163 (q0 + (-7046029254386353131 : Int64)) T217.heap n0 Z217 f219 f221 g_b163) hZ (hw _ (List.mem_of_getElem? (i := 20) rfl)) (hw _ (List.mem_of_getElem? (i := 2) rfl)) (by decide) (by decide)) q223a q223c (g := (mkF m 143 #[.val (.long q0), .second, .val (.int p1), .val (.int p2), .val (.int zb), .val (.ref b157), .val (.ref b163), .val (.int ((own_usrL ((own_usrL (own_mix wf_173) (32 : Int32)) * (zb.toInt64)) (32 : Int32)).toInt32)), .val (.int (1 : Int32)), .val (.long zs), .second, .val (.long ((own_usrL (own_mix (q0 + (-7046029254386353131 : Int64))) (32 : Int32)) * (zb.toInt64))), .second, .unset, .unset] [(.ref b163), (.long (own_mix (wf_173 + (-7046029254386353131 : Int64))))])) rfl (by rw [hml]; rfl) (Steps.refl _) (argsL := []) (rest := [(.long (own_mix (wf_173 + (-7046029254386353131 : Int64))))]) (lenOf pd_rm0_2 rfl) rfl (by show 2 * 0 + _ ≤ _; exact Nat.le_of_eq rfl) (hb hby at_143) (fun _ _ => ⟨rfl, rfl, (by decide : 2 + 0 ≤ _), (by decide : 2 + 0 ≤ _)⟩)
      dsimp only [Pt.U, Pt.locs, Pt.cells, Pt.slots] at X223 l223 y223 z223 st223 hQ223
      rw [l223, y223, z223] at X223
      obtain ⟨rfl, N223q, K223, qp223_0, qp223_1⟩ := hQ223
      have N223 := Fr.app N217 N223q
      have f224 := qp217_0.keep K223
      have f225 := f219.keep K223
      have f227 := qp217_1.keep K223 (ninS ne_b157_b163 nin0)
      have Z223 : n0 ≤ T223.heap.size := Nat.le_trans Z217 K223.1
      have KK223 := KK217.trans K223 (allS (Or.inr sz_b163) all0)
      have go223 := go222.tr (C := T223.setTop (mkF m 146 #[.val (.long q0), .second, .val (.int p1), .val (.int p2), .val (.int zb), .val (.ref b157), .val (.ref b163), .val (.int ((own_usrL ((own_usrL (own_mix wf_173) (32 : Int32)) * (zb.toInt64)) (32 : Int32)).toInt32)), .val (.int (1 : Int32)), .val (.long zs), .second, .val (.long ((own_usrL (own_mix (q0 + (-7046029254386353131 : Int64))) (32 : Int32)) * (zb.toInt64))), .second, .unset, .unset] [(.long (own_mix ((q0 + (-7046029254386353131 : Int64)) + (-7046029254386353131 : Int64)))), (.long (own_mix (wf_173 + (-7046029254386353131 : Int64))))])) st223
      have go229 := go223.step (C := T223.setTop (mkF m 155 #[.val (.long q0), .second, .val (.int p1), .val (.int p2), .val (.int zb), .val (.ref b157), .val (.ref b163), .val (.int ((own_usrL ((own_usrL (own_mix wf_173) (32 : Int32)) * (zb.toInt64)) (32 : Int32)).toInt32)), .val (.int (1 : Int32)), .val (.long zs), .second, .val (.long ((own_usrL (own_mix (q0 + (-7046029254386353131 : Int64))) (32 : Int32)) * (zb.toInt64))), .second, .unset, .unset] [(.int (1 : Int32))])) (fun t k => by
        show Steps p.tables e below (T223.setTop (mkF m 146 #[.val (.long q0), .second, .val (.int p1), .val (.int p2), .val (.int zb), .val (.ref b157), .val (.ref b163), .val (.int ((own_usrL ((own_usrL (own_mix wf_173) (32 : Int32)) * (zb.toInt64)) (32 : Int32)).toInt32)), .val (.int (1 : Int32)), .val (.long zs), .second, .val (.long ((own_usrL (own_mix (q0 + (-7046029254386353131 : Int64))) (32 : Int32)) * (zb.toInt64))), .second, .unset, .unset] [(.long (own_mix ((q0 + (-7046029254386353131 : Int64)) + (-7046029254386353131 : Int64)))), (.long (own_mix (wf_173 + (-7046029254386353131 : Int64))))])) _
        refine XS.lcmp X223.here hx rfl (hb hby at_146) rfl ?_
        show Steps p.tables e below (T223.setTop (mkF m 147 #[.val (.long q0), .second, .val (.int p1), .val (.int p2), .val (.int zb), .val (.ref b157), .val (.ref b163), .val (.int ((own_usrL ((own_usrL (own_mix wf_173) (32 : Int32)) * (zb.toInt64)) (32 : Int32)).toInt32)), .val (.int (1 : Int32)), .val (.long zs), .second, .val (.long ((own_usrL (own_mix (q0 + (-7046029254386353131 : Int64))) (32 : Int32)) * (zb.toInt64))), .second, .unset, .unset] [(.int (lcmpW (own_mix (wf_173 + (-7046029254386353131 : Int64))) (own_mix ((q0 + (-7046029254386353131 : Int64)) + (-7046029254386353131 : Int64)))))])) _
        refine XS.ifNo X223.here hx rfl (hb hby at_147) rfl ((if0 _ _).trans (teq ((lw_eq _ _).mpr (by rw [(own_J1 hJ (hzs ▸ hc187))] : (own_mix (wf_173 + (-7046029254386353131 : Int64))) = (own_mix ((q0 + (-7046029254386353131 : Int64)) + (-7046029254386353131 : Int64)))))).2) ?_
        show Steps p.tables e below (T223.setTop (mkF m 150 #[.val (.long q0), .second, .val (.int p1), .val (.int p2), .val (.int zb), .val (.ref b157), .val (.ref b163), .val (.int ((own_usrL ((own_usrL (own_mix wf_173) (32 : Int32)) * (zb.toInt64)) (32 : Int32)).toInt32)), .val (.int (1 : Int32)), .val (.long zs), .second, .val (.long ((own_usrL (own_mix (q0 + (-7046029254386353131 : Int64))) (32 : Int32)) * (zb.toInt64))), .second, .unset, .unset] [])) _
        refine XS.iconst X223.here hx rfl (hb hby at_150) ?_
        show Steps p.tables e below (T223.setTop (mkF m 151 #[.val (.long q0), .second, .val (.int p1), .val (.int p2), .val (.int zb), .val (.ref b157), .val (.ref b163), .val (.int ((own_usrL ((own_usrL (own_mix wf_173) (32 : Int32)) * (zb.toInt64)) (32 : Int32)).toInt32)), .val (.int (1 : Int32)), .val (.long zs), .second, .val (.long ((own_usrL (own_mix (q0 + (-7046029254386353131 : Int64))) (32 : Int32)) * (zb.toInt64))), .second, .unset, .unset] [(.int (1 : Int32))])) _
        refine XS.goto X223.here hx rfl (pc0 := 151) (pc' := 155) rfl (hb hby at_151) (by decide) (by decide) ?_
        exact k)
      obtain ⟨fs, hr, hrun, hended, hW, hsame⟩ := X223.leave (v := some (.int (1 : Int32))) (fun h => by rw [Bd.returns] at h; cases h)
      refine ⟨_, _, go229 _ ?_, hrun, hended, _, _, rfl, ?_, ⟨_, rfl⟩, hW, hsame.mono (by decide) (by decide)⟩
      · exact retN X223 hx (t := .boolean) Bd.returns (by simp) (hb hby at_155) hr
      · show Q_rm0 Z q0 p1 p2 h0 n0 _ T223.heap _
        exact ⟨rfl, N223⟩
set_option maxRecDepth 65536 in
set_option maxHeartbeats 40000000 in
theorem comes_1 {Post : Tables → Env → Array Value → State → Outcome → State → Prop} (hpost : ∀ tb e args s v u, (limb_1_1.after args s (.returned v) u = true ∧ limb_1_2.after args s (.returned v) u = true ∧ True) → FrameEnd s (.returned v) u (Jvm.fieldLocs frame_1_writes args s ++ Jvm.arrayLocs frame_1_arrays args s ++ Jvm.staticLocs frame_1_statics s) 16 128 → Post tb e args s (.returned v) u) :
    ArmFor flags0 classFile x code maxLocals ret World_1 tables_1 room_1 Calls_1 rest_1 Pre_1 Post := by
  intro l hfl _ _ p e ha hc hk s m args below hf hA hF happ hP
  obtain ⟨hcalls, hrest, hpre⟩ := hP
  obtain ⟨-, -, -, hnamed, -, -, -, hat⟩ := (Spec.applies_iff hf).mp happ
  obtain ⟨hg, hn⟩ := and_e (Cond.before_iff.mp (show (Jvm.Cond.and given_1 narrow_1).before args s = true from hpre))
  obtain ⟨gg0, gr0⟩ := and_e hg
  obtain ⟨gg1, gr1⟩ := and_e gr0
  obtain ⟨gg2, gr2⟩ := and_e gr1
  obtain ⟨w0, w1, w2, rfl⟩ : ∃ w0 w1 w2 : Value, args = #[w0, w1, w2] := by
    have hs : args.size = 3 := by simpa [Cond.value, given_1] using gg0
    obtain ⟨L⟩ := args
    match L, hs with
    | [w0, w1, w2], _ => exact ⟨w0, w1, w2, rfl⟩
  have hw := fun d (hd : d ∈ tables_1) => atoms_spec (ws := Jvm.Cond.code x code maxLocals ret :: tables_1) hat d (List.mem_cons_of_mem _ hd)
  have hfit : Fit s := fun {y c} hc i hi => by
    obtain ⟨ha, rfl⟩ := Array.getElem?_eq_some_iff.mp hc
    have q := List.all_eq_true.mp ((Array.all_eq_true_iff_forall_mem.mp hF) _ (Array.getElem_mem ha)) i (List.mem_range.mpr hi)
    simpa [Array.getElem?_eq_getElem hi] using q
  obtain ⟨i0, ei0⟩ := isL_v gg1
  obtain rfl : w0 = (.long i0) := Option.some.inj ei0
  obtain ⟨i1, ei1⟩ := is_v gg2
  obtain rfl : w1 = (.int i1) := Option.some.inj ei1
  obtain ⟨i2, ei2⟩ := is_v gr2
  obtain rfl : w2 = (.int i2) := Option.some.inj ei2
  obtain ⟨n, o, h1, h2, h3, _, L, rfl, ⟨rfl, N⟩, hq⟩ := rm0 l s _ hw tables_1 i0 i1 i2  s.heap s.heap.size (Nat.le_refl _)  p e ha hc hk s m _ below hf ((Spec.applies_iff_loose hf).mp happ).1 ⟨rfl, State.Warmed39.refl s, rfl⟩ trivial
  refine ⟨n, _, h1, h2, h3, hpost _ _ _ _ _ _ ⟨Cond.after_iff.mpr rfl, Cond.after_iff.mpr (eq_i res_at (Term.int_eval (1)) rfl), trivial⟩ ⟨hq.1, hq.2.1, (hq.2.2.sift fun y hy => Or.inr (N y hy)).mono (by decide) (by decide)⟩⟩
theorem main_1_1 : Claimed_1_1 := comes_1 fun _ _ _ _ _ _ h hF => ⟨h.1, hF⟩
theorem main_1_2 : Claimed_1_2 := comes_1 fun _ _ _ _ _ _ h hF => ⟨h.2.1, hF⟩
end Jvm.Pilot.@@N@@
namespace Jvm.Pilot.@@N@@
open Jvm Jvm.ClassFile Sem Op Lib Jvm.Free Jvm.Stand Jvm.Pilot.@@N@@.Jvm.D
/-! MADE BY PROGRAM (witnessworld.py) out of the Statement's table words and the real class files: 9 classes; the members and pool entries that the words name. The judged class is class 1, her method 1. -/
namespace start1
open Jvm.ClassFile
def u (s : String) : CpInfo := .utf8 (stringToUtf16 s)
/-- a pool by its gaps: so many unusable entries, then the entry; so many at the end -/
def gap : Nat → List CpInfo → List CpInfo
  | 0, r => r
  | n + 1, r => .unusable :: gap n r
def poolList (es : List (Nat × CpInfo)) (last : Nat) : List CpInfo := es.foldr (fun e r => gap e.1 (e.2 :: r)) (gap last [])
def pool (es : List (Nat × CpInfo)) (last : Nat) : Array CpInfo := ⟨poolList es last⟩
def fileOf (pool : Array CpInfo) (this : Nat) (attrs : Array Attribute := #[]) (ms : Array MethodInfo := #[]) (fl : Nat := 33) (sup : Nat := 0) (ifs : Array Nat := #[]) (fds : Array FieldInfo := #[]) : ClassFile where
  minorVersion := 0
  majorVersion := 65
  constantPool := pool
  accessFlags := fl
  thisClass := this
  superClass := sup
  interfaces := ifs
  fields := fds
  methods := ms
  attributes := attrs
def plain (name : String) (sup : Option ClassId) : Class where
  name := name
  kind := .ordinary
  loader := none
  accessFlags := 33
  super := sup
  interfaces := #[]
  cf := none
  fields := #[]
  methods := #[]
  instanceTypes := #[]
  staticTypes := #[]
  resolved := #[]
  callSites := []
  init := .initialized
  statics := none
  mirror := none

def pool0 : Array CpInfo := pool [(5, u "<init>"), (0, u "()V"), (1, .class_ 10), (1, u "java/lang/Object")] 113

def k0c0 : Code := { maxStack := 0, maxLocals := 1, code := object_method_1_code, exceptionTable := #[], attributes := #[] }
def k0m0 : Method := { name := "<init>", desc := "()V", sig := { parameters := [], returnType := none }, accessFlags := 1, code := some k0c0 }
/-- java/lang/Object -/
def k0 : Class := { plain "java/lang/Object" none with
  accessFlags := 33
  interfaces := #[]
  cf := some (fileOf pool0 8 #[] #[{ accessFlags := 1, nameIndex := 5, descriptorIndex := 6, attributes := #[] }] 33 0 #[] #[])
  fields := #[]
  methods := #[k0m0]
  instanceTypes := #[]
  staticTypes := #[]
  resolved := Array.replicate 124 none
  statics := none }

def pool1 : Array CpInfo := pool [(2, .class_ 4), (1, u "java/lang/Object"), (0, u "<init>"), (0, u "()V"), (0, .integer 2147483647), (0, .class_ 9), (0, u "com/example/roundhaul/roundhaul/solver/SeededRandom"), (0, .methodref 8 11), (0, .nameAndType 5 12), (0, u "(J)V"), (0, .methodref 8 14), (0, .nameAndType 15 16), (0, u "nextInt"), (0, u "(I)I"), (0, .long 4294967296), (1, .methodref 8 20), (0, .nameAndType 21 22), (0, u "nextLong"), (0, u "()J"), (0, .long 4294967295), (1, .class_ 26), (0, u "com/example/roundhaul/roundhaul/solver/SeededRandomNextIntPinLaw"), (2, u "law"), (0, u "(JII)Z")] 3

def k1m0 : Method := { name := "<init>", desc := "()V", sig := { parameters := [], returnType := none }, accessFlags := 1, code := none }
def k1c1 : Code := { maxStack := 4, maxLocals := 15, code := code, exceptionTable := #[], attributes := #[] }
def k1m1 : Method := { name := "law", desc := "(JII)Z", sig := { parameters := [.long, .int, .int], returnType := some .boolean }, accessFlags := 9, code := some k1c1 }
/-- com/example/roundhaul/roundhaul/solver/SeededRandomNextIntPinLaw -/
def k1 : Class := { plain "com/example/roundhaul/roundhaul/solver/SeededRandomNextIntPinLaw" (some 0) with
  accessFlags := 49
  interfaces := #[]
  cf := some (fileOf pool1 25 #[] #[{ accessFlags := 1, nameIndex := 5, descriptorIndex := 6, attributes := #[] }, { accessFlags := 9, nameIndex := 29, descriptorIndex := 30, attributes := #[] }] 49 2 #[] #[])
  fields := #[]
  methods := #[k1m0, k1m1]
  instanceTypes := #[]
  staticTypes := #[]
  resolved := Array.replicate 34 none
  statics := none }

def pool2 : Array CpInfo := pool [(1, .methodref 2 3), (0, .class_ 4), (0, .nameAndType 5 6), (0, u "java/lang/Object"), (0, u "<init>"), (0, u "()V"), (0, .fieldref 8 9), (0, .class_ 10), (0, .nameAndType 11 12), (0, u "com/example/roundhaul/roundhaul/solver/SeededRandom"), (0, u "state"), (0, u "J"), (0, .long 11400714819323198485), (1, .long 13787848793156543929), (1, .long 10723151780598845931), (10, .methodref 8 29), (0, .nameAndType 30 31), (0, u "nextLong"), (0, u "()J"), (0, .long 4294967296), (1, .long 4294967295), (3, u "GAMMA"), (1, u "LOW_32_BITS"), (0, u "TWO_TO_32"), (0, u "(J)V"), (2, u "nextInt"), (0, u "(I)I")] 20

def k2c0 : Code := { maxStack := 3, maxLocals := 3, code := prog_27_method_1_code, exceptionTable := #[], attributes := #[] }
def k2m0 : Method := { name := "<init>", desc := "(J)V", sig := { parameters := [.long], returnType := none }, accessFlags := 1, code := some k2c0 }
def k2c1 : Code := { maxStack := 5, maxLocals := 3, code := prog_27_method_2_code, exceptionTable := #[], attributes := #[] }
def k2m1 : Method := { name := "nextLong", desc := "()J", sig := { parameters := [], returnType := some .long }, accessFlags := 1, code := some k2c1 }
def k2c2 : Code := { maxStack := 4, maxLocals := 6, code := prog_27_method_3_code, exceptionTable := #[], attributes := #[] }
def k2m2 : Method := { name := "nextInt", desc := "(I)I", sig := { parameters := [.int], returnType := some .int }, accessFlags := 1, code := some k2c2 }
/-- com/example/roundhaul/roundhaul/solver/SeededRandom -/
def k2 : Class := { plain "com/example/roundhaul/roundhaul/solver/SeededRandom" (some 0) with
  accessFlags := 49
  interfaces := #[]
  cf := some (fileOf pool2 8 #[] #[{ accessFlags := 1, nameIndex := 5, descriptorIndex := 42, attributes := #[] }, { accessFlags := 1, nameIndex := 30, descriptorIndex := 31, attributes := #[] }, { accessFlags := 1, nameIndex := 45, descriptorIndex := 46, attributes := #[] }] 49 2 #[] #[{ accessFlags := 26, nameIndex := 38, descriptorIndex := 12, attributes := #[] }, { accessFlags := 26, nameIndex := 40, descriptorIndex := 12, attributes := #[] }, { accessFlags := 26, nameIndex := 41, descriptorIndex := 12, attributes := #[] }, { accessFlags := 2, nameIndex := 11, descriptorIndex := 12, attributes := #[] }])
  fields := #[{ name := "GAMMA", type := .long, accessFlags := 26, slot := 0, constantValue := 0 }, { name := "LOW_32_BITS", type := .long, accessFlags := 26, slot := 1, constantValue := 0 }, { name := "TWO_TO_32", type := .long, accessFlags := 26, slot := 2, constantValue := 0 }, { name := "state", type := .long, accessFlags := 2, slot := 0, constantValue := 0 }]
  methods := #[k2m0, k2m1, k2m2]
  instanceTypes := #[.long]
  staticTypes := #[.long, .long, .long]
  resolved := Array.replicate 67 none
  statics := none }

def pool3 : Array CpInfo := pool [(1, u "java/lang/Cloneable"), (0, .class_ 1), (0, u "java/lang/Object"), (0, .class_ 3)] 3

/-- java/lang/Cloneable -/
def k3 : Class := { plain "java/lang/Cloneable" (some 0) with
  accessFlags := 1537
  interfaces := #[]
  cf := some (fileOf pool3 2 #[] #[] 1537 4 #[] #[])
  fields := #[]
  methods := #[]
  instanceTypes := #[]
  staticTypes := #[]
  resolved := Array.replicate 8 none
  statics := none }

def pool4 : Array CpInfo := pool [(1, u "java/io/Serializable"), (0, .class_ 1), (0, u "java/lang/Object"), (0, .class_ 3)] 3

/-- java/io/Serializable -/
def k4 : Class := { plain "java/io/Serializable" (some 0) with
  accessFlags := 1537
  interfaces := #[]
  cf := some (fileOf pool4 2 #[] #[] 1537 4 #[] #[])
  fields := #[]
  methods := #[]
  instanceTypes := #[]
  staticTypes := #[]
  resolved := Array.replicate 8 none
  statics := none }

/-- the primitive byte -/
def k5 : Class := { plain "byte" none with kind := .primitive 'B', accessFlags := 0x411 }
/-- [B -/
def k6 : Class := { plain "[B" (some 0) with kind := .array 5 .byte, interfaces := #[3, 4], accessFlags := 1041 }

/-- the primitive int -/
def k7 : Class := { plain "int" none with kind := .primitive 'I', accessFlags := 0x411 }
/-- [I -/
def k8 : Class := { plain "[I" (some 0) with kind := .array 7 .int, interfaces := #[3, 4], accessFlags := 1041 }

def heap : Heap := #[]
def classes : Array Class := #[k0, k1, k2, k3, k4, k5, k6, k7, k8]
def interned : List (Array UInt16 × Addr) := []
def slotsUsed : Nat := 0
def theMethod : MethodId := ⟨1, 1⟩
def args0 : Array Value := #[.long 5, .int 7, .int 3]
def aboutOver (below : List Frame) : State where
  vm := { classes := classes, interned := interned.toArray }
  heap := heap
  slotsUsed := slotsUsed
  threads := #[{ frames := .invoking theMethod args0 :: below }]
def below0 : List Frame := [.native { method := ⟨0, 0⟩, args := #[] }]
def about1 : State := aboutOver below0
def p0 : Program := .bare "" "" ""
def e0 : Env := launch0.env 0 0 0
theorem w_frames : about1.frames = Frame.invoking theMethod args0 :: below0 := rfl
set_option maxRecDepth 65536 in
theorem w_args : argsFit about1.vm theMethod args0 = true := by decide +kernel
set_option maxRecDepth 65536 in
theorem w_heap : heapFits about1 = true := by decide +kernel
set_option maxRecDepth 65536 in
theorem w_runnable : about1.curStatus? = some .runnable := by decide +kernel
set_option maxRecDepth 65536 in
theorem w_alone : about1.alone = true := by decide +kernel
set_option maxRecDepth 65536 in
theorem w_named : about1.methodNamed? x = some theMethod := by decide +kernel
set_option maxRecDepth 65536 in
theorem w_hears : about1.hears theMethod below0 = true := by decide +kernel
set_option maxRecDepth 65536 in
theorem w_ripe : about1.ripe theMethod args0 below0 = true := by decide +kernel
theorem w_running : about1.status = .running := rfl
set_option maxRecDepth 65536 in
theorem w_room : about1.hasRoom e0.platform room_1 = true :=
  launch0.hasRoom_least _ room_1 (by decide +kernel) (by decide +kernel) (by decide +kernel) (by decide +kernel) (by decide +kernel) (by decide +kernel)
theorem allAtoms_all (ts : List Jvm.Cond) (a : Array Jvm.Value) (st : Jvm.State) : (allAtoms ts).before a st = ts.all (fun c => c.before a st) := by
  induction ts with
  | nil => rfl
  | cons c t ih =>
    show (Jvm.Cond.and c (allAtoms t)).before a st = _
    rw [Jvm.Cond.before_and, ih, List.all_cons]
def words1 : List Jvm.Cond := Jvm.Cond.code x code maxLocals ret :: tables_1
/-- a 'code' word, met by the world's own term for the bytes: nothing is compared byte by byte -/
theorem code_word {y : MethodName} {bytes : ByteArray} {mx : Nat} {rt : Option FieldType} {a : Array Value} {s : State} {m : MethodId} {meth : Method} {c : Code} (h1 : s.methodNamed? y = some m) (h2 : s.vm.method? m = some meth) (h3 : meth.code = some c) (h4 : c.code = bytes)
    (h5 : (c.maxLocals == mx && c.exceptionTable.isEmpty && decide (c.maxStack ≤ mostOperands) && decide (meth.sig.returnType = rt) && !meth.locks && decide (parseMethodDescriptor y.desc = some meth.sig)) = true) : (Jvm.Cond.code y bytes mx rt).before a s = true := by
  simp only [Bool.and_eq_true, beq_iff_eq, Bool.not_eq_true', decide_eq_true_eq] at h5
  obtain ⟨⟨⟨⟨⟨g1, g2⟩, g3⟩, g4⟩, g5⟩, g6⟩ := h5
  simp [Cond.before, Cond.holds, Cond.value, h1, h2, h3, h4, g1, g2, g3, g4, g5, g6]
def isCode : Jvm.Cond → Bool
  | .code _ _ _ _ => true
  | _ => false
theorem all_split {L : List Jvm.Cond} {P : Jvm.Cond → Bool} (h1 : L.all (fun c => isCode c || P c) = true) (h2 : ∀ c ∈ L.filter isCode, P c = true) : L.all P = true := by
  refine List.all_eq_true.mpr fun c hc => ?_
  have h := List.all_eq_true.mp h1 c hc
  rcases Bool.eq_false_or_eq_true (isCode c) with hi | hi
  · exact h2 c (List.mem_filter.mpr ⟨hc, hi⟩)
  · simpa [hi] using h
set_option maxRecDepth 65536 in
theorem w_c0 : (Jvm.Cond.code x code maxLocals ret).before args0 about1 = true := code_word (m := ⟨1, 1⟩) (meth := k1m1) (c := k1c1) (by decide +kernel) rfl rfl rfl (by decide +kernel)
set_option maxRecDepth 65536 in
theorem w_c1 : (Jvm.Cond.code ({ cls := "com/example/roundhaul/roundhaul/solver/SeededRandom", name := "<init>", desc := "(J)V" } : Jvm.MethodName) prog_27_method_1_code (3 : Nat) (Option.none : Option Jvm.ClassFile.FieldType)).before args0 about1 = true := code_word (m := ⟨2, 0⟩) (meth := k2m0) (c := k2c0) (by decide +kernel) rfl rfl rfl (by decide +kernel)
set_option maxRecDepth 65536 in
theorem w_c2 : (Jvm.Cond.code ({ cls := "java/lang/Object", name := "<init>", desc := "()V" } : Jvm.MethodName) object_method_1_code (1 : Nat) (Option.none : Option Jvm.ClassFile.FieldType)).before args0 about1 = true := code_word (m := ⟨0, 0⟩) (meth := k0m0) (c := k0c0) (by decide +kernel) rfl rfl rfl (by decide +kernel)
set_option maxRecDepth 65536 in
theorem w_c3 : (Jvm.Cond.code ({ cls := "com/example/roundhaul/roundhaul/solver/SeededRandom", name := "nextInt", desc := "(I)I" } : Jvm.MethodName) prog_27_method_3_code (6 : Nat) (Option.some Jvm.ClassFile.FieldType.int)).before args0 about1 = true := code_word (m := ⟨2, 2⟩) (meth := k2m2) (c := k2c2) (by decide +kernel) rfl rfl rfl (by decide +kernel)
set_option maxRecDepth 65536 in
theorem w_c4 : (Jvm.Cond.code ({ cls := "com/example/roundhaul/roundhaul/solver/SeededRandom", name := "nextLong", desc := "()J" } : Jvm.MethodName) prog_27_method_2_code (3 : Nat) (Option.some Jvm.ClassFile.FieldType.long)).before args0 about1 = true := code_word (m := ⟨2, 1⟩) (meth := k2m1) (c := k2c1) (by decide +kernel) rfl rfl rfl (by decide +kernel)
def codes1 : List Jvm.Cond := [Jvm.Cond.code x code maxLocals ret, Jvm.Cond.code ({ cls := "com/example/roundhaul/roundhaul/solver/SeededRandom", name := "<init>", desc := "(J)V" } : Jvm.MethodName) prog_27_method_1_code (3 : Nat) (Option.none : Option Jvm.ClassFile.FieldType), Jvm.Cond.code ({ cls := "java/lang/Object", name := "<init>", desc := "()V" } : Jvm.MethodName) object_method_1_code (1 : Nat) (Option.none : Option Jvm.ClassFile.FieldType), Jvm.Cond.code ({ cls := "com/example/roundhaul/roundhaul/solver/SeededRandom", name := "nextInt", desc := "(I)I" } : Jvm.MethodName) prog_27_method_3_code (6 : Nat) (Option.some Jvm.ClassFile.FieldType.int), Jvm.Cond.code ({ cls := "com/example/roundhaul/roundhaul/solver/SeededRandom", name := "nextLong", desc := "()J" } : Jvm.MethodName) prog_27_method_2_code (3 : Nat) (Option.some Jvm.ClassFile.FieldType.long)]
set_option maxRecDepth 65536 in
theorem codes_eq : words1.filter isCode = codes1 := rfl
theorem w_codes : ∀ c ∈ words1.filter isCode, c.before args0 about1 = true := by
  rw [codes_eq]
  intro c hc
  simp only [codes1, List.mem_cons, List.not_mem_nil, or_false] at hc
  rcases hc with rfl | rfl | rfl | rfl | rfl
  · exact w_c0
  · exact w_c1
  · exact w_c2
  · exact w_c3
  · exact w_c4
set_option maxRecDepth 65536 in
theorem w_t1 : (words1.take 24).all (fun c => isCode c || c.before args0 about1) = true := by decide +kernel
set_option maxRecDepth 65536 in
theorem w_t2 : (words1.drop 24).all (fun c => isCode c || c.before args0 about1) = true := by decide +kernel
theorem w_tables : (allAtoms (Jvm.Cond.code x code maxLocals ret :: tables_1)).before args0 about1 = true := by
  rw [allAtoms_all]
  show words1.all (fun c => c.before args0 about1) = true
  refine all_split ?_ w_codes
  rw [← List.take_append_drop 24 words1, List.all_append, w_t1, w_t2]
  rfl
set_option maxRecDepth 65536 in
theorem w_case : (Jvm.Cond.and given_1 narrow_1).before args0 about1 = true := by decide +kernel
theorem w_applies : (headSpec (Jvm.Cond.code x code maxLocals ret :: tables_1) room_1).applies x e0.platform about1 = true :=
  (Spec.applies_iff w_frames).mpr ⟨w_running, w_runnable, w_alone, w_named, w_hears, w_ripe, w_room, w_tables⟩
theorem atStart : AtStart classFile x code maxLocals ret World_1 tables_1 room_1 Calls_1 rest_1 Pre_1 launch0 p0 e0 about1 theMethod args0 below0 :=
  ⟨lists_1, trivial, launch0.admits_env _ _ _, launch0.least_env, fairChoices_fair.cas, fairChoices_fair.clock, w_frames, w_args, w_heap, w_applies, trivial, trivial, w_case⟩
end start1
theorem witness_1 : WitnessClaimed_1 := ⟨start1.p0, start1.e0, start1.about1, start1.theMethod, start1.args0, start1.below0, start1.atStart⟩
end Jvm.Pilot.@@N@@
