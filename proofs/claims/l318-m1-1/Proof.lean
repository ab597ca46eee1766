import JvmDerived
import JvmDerived.Pilot.@@N@@Statement
import JvmDerived.Pilot.@@N@@Code
set_option linter.unusedVariables false
set_option linter.unusedSimpArgs false
namespace Jvm.Pilot.@@N@@
open Jvm Jvm.ClassFile Sem Op Lib Jvm.Free Jvm.Stand Jvm.LawKit Jvm.RoadKit Bundle Jvm.Pilot.@@N@@.Jvm.D
def own_usr (x y : Int32) : Int32 := (x.toUInt32 >>> (y &&& 31).toUInt32).toInt32
def own_usrL (x : Int64) (y : Int32) : Int64 := (x.toUInt64 >>> (y &&& 0x3f).toInt64.toUInt64).toInt64
/-- where the run came from, where it stands -/
def Go (p : Program) (e : Env) (below : List Frame) (A B : State) : Prop := ∀ t, Steps p.tables e below B t → Steps p.tables e below A t
theorem Go.step {p : Program} {e : Env} {below : List Frame} {A B C : State} (g : Go p e below A B) (h : ∀ t, Steps p.tables e below C t → Steps p.tables e below B t) : Go p e below A C := fun t k => g t (h t k)
theorem Go.tr {p : Program} {e : Env} {below : List Frame} {A B C : State} (g : Go p e below A B) (h : Steps p.tables e below B C) : Go p e below A C := fun t k => g t (h.trans k)
section Rets
variable {p : Program} {l : Launch} {e : Env} {R : Room} {s : State} {m : MethodId} {args : Array Value} {below : List Frame} {meth : Method} {c : Code} {T : State} {locs : List Loc} {cells slots : Nat}
theorem own_retI (X : Stand p l e R s m args below meth c T locs cells slots) (hx : p.tables.exec = Jvm.exec) {pc : Nat} {Ls : Array Slot} {z : Int32} {rest : List Value} (hret : meth.sig.returnType = some .int) (hd : decode c.code pc = .ok (.ireturn, 1)) {fs : List Frame}
    (hl : ∀ (f : JFrame) (acts : List Action), f.method = m → f.locked = none → f.entered = [] → (doReturn e (T.setTop f) acts (some (.int z))).1 = T.setFrames fs) : Steps p.tables e below (T.setTop (mkF m pc Ls (.int z :: rest))) (T.setFrames fs) :=
  retOut X hx (t := .int) hret rfl (Or.inl ⟨rfl, Or.inl rfl, z, rfl⟩) hd hl
theorem own_retL (X : Stand p l e R s m args below meth c T locs cells slots) (hx : p.tables.exec = Jvm.exec) {pc : Nat} {Ls : Array Slot} {z : Int64} {rest : List Value} (hret : meth.sig.returnType = some .long) (hd : decode c.code pc = .ok (.lreturn, 1)) {fs : List Frame}
    (hl : ∀ (f : JFrame) (acts : List Action), f.method = m → f.locked = none → f.entered = [] → (doReturn e (T.setTop f) acts (some (.long z))).1 = T.setFrames fs) : Steps p.tables e below (T.setTop (mkF m pc Ls (.long z :: rest))) (T.setFrames fs) :=
  retOut X hx (t := .long) hret rfl (Or.inr (Or.inl ⟨rfl, rfl, z, rfl⟩)) hd hl
theorem own_retA (X : Stand p l e R s m args below meth c T locs cells slots) (hx : p.tables.exec = Jvm.exec) {t : FieldType} {pc : Nat} {Ls : Array Slot} {z : Addr} {rest : List Value} (hret : meth.sig.returnType = some t) (ht : t.isReference = true) (hn : narrow t (.ref z) = .ref z) (hd : decode c.code pc = .ok (.areturn, 1)) {fs : List Frame}
    (hl : ∀ (f : JFrame) (acts : List Action), f.method = m → f.locked = none → f.entered = [] → (doReturn e (T.setTop f) acts (some (.ref z))).1 = T.setFrames fs) : Steps p.tables e below (T.setTop (mkF m pc Ls (.ref z :: rest))) (T.setFrames fs) :=
  retOut X hx hret hn (Or.inr (Or.inr (Or.inr (Or.inr ⟨rfl, ht, rfl⟩)))) hd hl
end Rets
def own_P : Nat := 2305843009213693951
/-- b^e times acc, modulo P -/
def own_pw : Nat → Nat → Nat → Nat → Nat
  | 0, _, _, acc => acc
  | f + 1, b, e, acc => own_pw f (b * b % own_P) (e / 2) (if e % 2 = 1 then acc * b % own_P else acc)
theorem own_pow_mod (b k : Nat) : (b % own_P) ^ k % own_P = b ^ k % own_P := (Nat.pow_mod b k own_P).symm
theorem own_pw_eq : ∀ (f b e acc : Nat), e < 2 ^ f → own_pw f b e acc % own_P = acc * b ^ e % own_P
  | 0, b, e, acc, h => by
    have : e = 0 := by simpa using h
    subst this; simp [own_pw]
  | f + 1, b, e, acc, h => by
    rw [own_pw, own_pw_eq f _ _ _ (by rw [Nat.pow_succ] at h; omega)]
    have e1 : (b * b % own_P) ^ (e / 2) % own_P = b ^ (2 * (e / 2)) % own_P := by rw [own_pow_mod, Nat.pow_mul, Nat.pow_two]
    by_cases he : e % 2 = 1
    · rw [if_pos he, Nat.mul_mod, e1, ← Nat.mul_mod, Nat.mod_mul_mod, Nat.mul_assoc, ← Nat.pow_succ']
      congr 3; omega
    · rw [if_neg he, Nat.mul_mod, e1, ← Nat.mul_mod]
      congr 3; omega
def own_n : Nat := 2305843009213693950
def own_g : Nat := 37
theorem own_gn : own_g ^ own_n % own_P = 1 := by
  have h := own_pw_eq 61 own_g own_n 1 (by decide)
  rw [Nat.one_mul] at h
  rw [← h]; decide +kernel
def own_qs : List Nat := [2, 3, 5, 7, 11, 13, 31, 41, 61, 151, 331, 1321]
theorem own_gq : ∀ q ∈ own_qs, ¬ own_g ^ (own_n / q) % own_P = 1 := by
  intro q hq
  have hb : own_n / q < 2 ^ 61 := Nat.lt_of_le_of_lt (Nat.div_le_self _ _) (by decide)
  have h := own_pw_eq 61 own_g (own_n / q) 1 hb
  rw [Nat.one_mul] at h
  rw [← h]
  have : ∀ q ∈ own_qs, ¬ own_pw 61 own_g (own_n / q) 1 % own_P = 1 := by decide +kernel
  exact this q hq
theorem own_qp : ∀ q ∈ own_qs, ∀ m, m < q + 1 → m ∣ q → m = 1 ∨ m = q := by decide +kernel
theorem own_q0 : ∀ q ∈ own_qs, 0 < q := by decide
/-- the exponents at which g is 1 are closed under gcd -/
theorem own_gcd1 (a b : Nat) : own_g ^ a % own_P = 1 → own_g ^ b % own_P = 1 → own_g ^ (Nat.gcd a b) % own_P = 1 := by
  induction a, b using Nat.gcd.induction with
  | H0 n => intro _ h; simpa using h
  | H1 m n hm ih =>
    intro h1 h2
    rw [Nat.gcd_rec]
    refine ih ?_ h1
    have e : own_g ^ n = (own_g ^ m) ^ (n / m) * own_g ^ (n % m) := by rw [← Nat.pow_mul, ← Nat.pow_add, Nat.div_add_mod]
    rw [e, Nat.mul_mod, Nat.pow_mod, h1, Nat.one_pow] at h2
    have : (1 : Nat) % own_P = 1 := by decide
    rw [this, Nat.one_mul, Nat.mod_mod] at h2
    exact h2
theorem own_cop {r : Nat} (h : ∀ q ∈ own_qs, ¬ q ∣ r) : Nat.Coprime r own_n := by
  have c : ∀ q ∈ own_qs, Nat.Coprime r q := fun q hq => by
    have d1 : Nat.gcd r q ∣ q := Nat.gcd_dvd_right r q
    have hq0 : 0 < q := own_q0 q hq
    rcases own_qp q hq _ (Nat.lt_succ_of_le (Nat.le_of_dvd hq0 d1)) d1 with e | e
    · exact e
    · exact absurd (e ▸ Nat.gcd_dvd_left r q) (h q hq)
  have e : own_n = 2 * (3 * (3 * (5 * (5 * (7 * (11 * (13 * (31 * (41 * (61 * (151 * (331 * 1321)))))))))))) := by decide
  rw [e]
  repeat' apply Nat.Coprime.mul_right
  all_goals (apply c; decide)
theorem own_ord (k : Nat) (h0 : 0 < k) (hk : k < own_n) : ¬ own_g ^ k % own_P = 1 := fun h => by
  have hd := own_gcd1 k own_n h own_gn
  have d1 : Nat.gcd k own_n ∣ own_n := Nat.gcd_dvd_right _ _
  have hle : Nat.gcd k own_n ≤ k := Nat.le_of_dvd h0 (Nat.gcd_dvd_left _ _)
  generalize Nat.gcd k own_n = d at *
  obtain ⟨r, hr⟩ := d1
  have hr1 : r ≠ 1 := fun q => by rw [q, Nat.mul_one] at hr; omega
  by_cases hx : ∃ q ∈ own_qs, q ∣ r
  · obtain ⟨q, hq, r', rfl⟩ := hx
    have hq0 : 0 < q := own_q0 q hq
    refine own_gq q hq ?_
    have e : own_n / q = d * r' := by rw [hr, Nat.mul_left_comm, Nat.mul_div_cancel_left _ hq0]
    rw [e, Nat.pow_mul, Nat.pow_mod, hd, Nat.one_pow]; decide
  · have c := own_cop (r := r) (fun q hq hd => hx ⟨q, hq, hd⟩)
    exact hr1 (Nat.Coprime.eq_one_of_dvd c ⟨d, by rw [hr, Nat.mul_comm]⟩)
theorem own_pig : ∀ (n : Nat) (f : Nat → Nat), (∀ i, i < n → f i < n) → (∀ i, i < n → ∀ j, j < n → f i = f j → i = j) → ∀ y, y < n → ∃ i, i < n ∧ f i = y
  | 0, _, _, _, _, hy => absurd hy (Nat.not_lt_zero _)
  | n + 1, f, hf, hi, y, hy => by
    by_cases hm : y = f n
    · exact ⟨n, Nat.lt_succ_self n, hm.symm⟩
    have IH := own_pig n (fun i => if f i = n then f n else f i) (fun i h => by
      show (if f i = n then f n else f i) < n
      by_cases q : f i = n
      · rw [if_pos q]
        have h1 := hf n (Nat.lt_succ_self n)
        have h2 : f n ≠ n := fun z => by have := hi i (by omega) n (by omega) (q.trans z.symm); omega
        omega
      · rw [if_neg q]; have := hf i (by omega); omega) (fun i h j h' e => by
      by_cases q : f i = n <;> by_cases q' : f j = n
      · exact hi i (by omega) j (by omega) (q.trans q'.symm)
      · rw [if_pos q, if_neg q'] at e
        have := hi n (by omega) j (by omega) e; omega
      · rw [if_neg q, if_pos q'] at e
        have := hi i (by omega) n (by omega) e; omega
      · rw [if_neg q, if_neg q'] at e
        exact hi i (by omega) j (by omega) e)
    by_cases hyn : y = n
    · have hfn : f n < n := by have := hf n (by omega); omega
      obtain ⟨i, h1, h2⟩ := IH (f n) hfn
      by_cases q : f i = n
      · exact ⟨i, by omega, q.trans hyn.symm⟩
      · rw [if_neg q] at h2
        have := hi i (by omega) n (by omega) h2; omega
    · obtain ⟨i, h1, h2⟩ := IH y (by omega)
      by_cases q : f i = n
      · rw [if_pos q] at h2; exact absurd h2.symm hm
      · rw [if_neg q] at h2; exact ⟨i, by omega, h2⟩
theorem own_unit {i : Nat} (hi : i ≤ own_n) : (own_g ^ i % own_P) * (own_g ^ (own_n - i)) % own_P = 1 := by
  rw [Nat.mod_mul_mod, ← Nat.pow_add, Nat.add_sub_cancel' hi, own_gn]
theorem own_pos {i : Nat} (hi : i ≤ own_n) : 0 < own_g ^ i % own_P := Nat.pos_of_ne_zero fun h => by
  have := own_unit hi
  rw [h, Nat.zero_mul] at this
  exact absurd this (by decide)
theorem own_inj {i j : Nat} (hij : i < j) (hj : j < own_n) : ¬ own_g ^ i % own_P = own_g ^ j % own_P := fun h => by
  refine own_ord (j - i) (by omega) (by omega) ?_
  have h1 : own_g ^ i * own_g ^ (own_n - i) % own_P = own_g ^ j * own_g ^ (own_n - i) % own_P := by rw [Nat.mul_mod, h, ← Nat.mul_mod]
  rw [← Nat.pow_add, ← Nat.pow_add, show i + (own_n - i) = own_n by omega, show j + (own_n - i) = own_n + (j - i) by omega, own_gn, Nat.pow_add, Nat.mul_mod, own_gn, Nat.one_mul, Nat.mod_mod] at h1
  exact h1.symm
theorem own_coprime (a : Nat) (h0 : 0 < a) (h : a < own_P) : Nat.gcd a own_P = 1 := by
  obtain ⟨i, h1, h2⟩ := own_pig own_n (fun i => own_g ^ i % own_P - 1) (fun i hi => by
    have h1 := own_pos (Nat.le_of_lt hi)
    have h2 : own_g ^ i % own_P < own_P := Nat.mod_lt _ (by decide)
    have e : own_P = own_n + 1 := by decide
    generalize own_g ^ i % own_P = z at *
    omega) (fun i hi j hj e => by
    have h1 := own_pos (Nat.le_of_lt hi); have h2 := own_pos (Nat.le_of_lt hj)
    have e' : own_g ^ i % own_P = own_g ^ j % own_P := by
      generalize own_g ^ i % own_P = z at *
      generalize own_g ^ j % own_P = w at *
      omega
    rcases Nat.lt_trichotomy i j with q | q | q
    · exact absurd e' (own_inj q hj)
    · exact q
    · exact absurd e'.symm (own_inj q hi)) (a - 1) (by have e : own_P = own_n + 1 := by decide
                                                       omega)
  have hp := own_pos (Nat.le_of_lt h1)
  have ea : a = own_g ^ i % own_P := by
    generalize own_g ^ i % own_P = z at *
    omega
  have hu := own_unit (Nat.le_of_lt h1)
  rw [← ea] at hu
  have d1 : Nat.gcd a own_P ∣ a * own_g ^ (own_n - i) % own_P := (Nat.dvd_mod_iff (Nat.gcd_dvd_right a own_P)).mpr (Nat.dvd_mul_right_of_dvd (Nat.gcd_dvd_left a own_P) _)
  rw [hu] at d1
  exact Nat.dvd_one.mp d1
theorem own_bd {a b A B : Int} (ha : 0 ≤ a ∧ a ≤ A) (hb : 0 ≤ b ∧ b ≤ B) : 0 ≤ a * b ∧ a * b ≤ A * B :=
  ⟨Int.mul_nonneg ha.1 hb.1, Int.mul_le_mul ha.2 hb.2 hb.1 (Int.le_trans ha.1 ha.2)⟩
theorem own_cong {x y : Int} (h : (x - y) % 18446744073709551616 = 0) (r : -9223372036854775808 ≤ x ∧ x < 9223372036854775808) (r2 : -9223372036854775808 ≤ y ∧ y < 9223372036854775808) : x = y := by omega
theorem own_lm {x y : Int64} (h : -9223372036854775808 ≤ x.toInt * y.toInt ∧ x.toInt * y.toInt < 9223372036854775808) : (x * y).toInt = x.toInt * y.toInt := own_cong (c_lmul x y) (rng64 _) h
theorem own_la {x y : Int64} (h : -9223372036854775808 ≤ x.toInt + y.toInt ∧ x.toInt + y.toInt < 9223372036854775808) : (x + y).toInt = x.toInt + y.toInt := own_cong (c_ladd x y) (rng64 _) h
theorem own_ls {x y : Int64} (h : -9223372036854775808 ≤ x.toInt - y.toInt ∧ x.toInt - y.toInt < 9223372036854775808) : (x - y).toInt = x.toInt - y.toInt := own_cong (c_lsub x y) (rng64 _) h
theorem own_sr (x : Int64) : (x >>> ((32 : Int32) &&& 0x3f).toInt64).toInt = x.toInt / 4294967296 := by
  have := c_lshr x 32 32 (by decide)
  rw [this]; rfl
theorem own_ur (x : Int64) : (own_usrL x (32 : Int32)).toInt = (x.toInt % 18446744073709551616) / 4294967296 := by
  have := c_lushr x 32 32 (by decide) (by decide)
  exact this
theorem own_mk (x : Int64) : (x &&& (4294967295 : Int64)).toInt = x.toInt % 4294967296 := c_maskL x 4294967295 32 (by decide) (by decide)
theorem own_arith {A B D E : Int} (hA : 0 ≤ A) (hB : 0 ≤ B) (hD : 0 ≤ D) (hE : 0 ≤ E) : A + (B + E / 4294967296) / 4294967296 + ((B + E / 4294967296) % 4294967296 + D) / 4294967296 = (A * 18446744073709551616 + (B + D) * 4294967296 + E) / 18446744073709551616 := by omega
theorem own_split (X1 X2 Y1 Y2 : Int) : (X1 * 4294967296 + X2) * (Y1 * 4294967296 + Y2) = X1 * Y1 * 18446744073709551616 + (X1 * Y2 + X2 * Y1) * 4294967296 + X2 * Y2 := by
  grind
theorem own_mh {x y x1 x2 y1 y2 z2 t z1 : Int64} (hx : 0 ≤ x.toInt ∧ x.toInt < 2305843009213693952) (hy : 0 ≤ y.toInt ∧ y.toInt < 2305843009213693952) (h1 : x1 = x >>> ((32 : Int32) &&& 0x3f).toInt64) (h2 : x2 = x &&& (4294967295 : Int64)) (h3 : y1 = y >>> ((32 : Int32) &&& 0x3f).toInt64) (h4 : y2 = y &&& (4294967295 : Int64))
    (h5 : z2 = x2 * y2) (h6 : t = x1 * y2 + own_usrL z2 (32 : Int32)) (h7 : z1 = (t &&& (4294967295 : Int64)) + x2 * y1) : (((x1 * y1) + (t >>> ((32 : Int32) &&& 0x3f).toInt64)) + (z1 >>> ((32 : Int32) &&& 0x3f).toInt64)).toInt = (x.toInt * y.toInt) / 18446744073709551616 := by
  have e1 : x1.toInt = x.toInt / 4294967296 := by rw [h1, own_sr]
  have e2 : x2.toInt = x.toInt % 4294967296 := by rw [h2, own_mk]
  have e3 : y1.toInt = y.toInt / 4294967296 := by rw [h3, own_sr]
  have e4 : y2.toInt = y.toInt % 4294967296 := by rw [h4, own_mk]
  have b1 : 0 ≤ x1.toInt ∧ x1.toInt ≤ 536870911 := by omega
  have b2 : 0 ≤ x2.toInt ∧ x2.toInt ≤ 4294967295 := by omega
  have b3 : 0 ≤ y1.toInt ∧ y1.toInt ≤ 536870911 := by omega
  have b4 : 0 ≤ y2.toInt ∧ y2.toInt ≤ 4294967295 := by omega
  have dx : x.toInt = x1.toInt * 4294967296 + x2.toInt := by omega
  have dy : y.toInt = y1.toInt * 4294967296 + y2.toInt := by omega
  have m22 := own_bd b2 b4
  have m12 := own_bd b1 b4
  have m21 := own_bd b2 b3
  have m11 := own_bd b1 b3
  have q5 := c_lmul x2 y2
  rw [← h5] at q5
  have r5 := rng64 z2
  have q6 : (own_usrL z2 (32 : Int32)).toInt = (x2.toInt * y2.toInt) / 4294967296 := by
    rw [own_ur]
    generalize x2.toInt * y2.toInt = E at *
    have : z2.toInt % 18446744073709551616 = E := by omega
    rw [this]
  have q7 : (x1 * y2).toInt = x1.toInt * y2.toInt := own_lm (by omega)
  have q8 : (x2 * y1).toInt = x2.toInt * y1.toInt := own_lm (by omega)
  have q9 : (x1 * y1).toInt = x1.toInt * y1.toInt := own_lm (by omega)
  rw [dx, dy, own_split]
  generalize x2.toInt * y2.toInt = E at *
  generalize x1.toInt * y2.toInt = B at *
  generalize x2.toInt * y1.toInt = D at *
  generalize x1.toInt * y1.toInt = A at *
  have qt : t.toInt = B + E / 4294967296 := by rw [h6, own_la (by rw [q7, q6]; omega), q7, q6]
  have qm := own_mk t
  have qz : z1.toInt = (B + E / 4294967296) % 4294967296 + D := by rw [h7, own_la (by rw [qm, q8, qt]; omega), qm, q8, qt]
  have s1 := own_sr t
  have s2 := own_sr z1
  rw [qt] at s1; rw [qz] at s2
  have qa : ((x1 * y1) + (t >>> ((32 : Int32) &&& 0x3f).toInt64)).toInt = A + (B + E / 4294967296) / 4294967296 := by rw [own_la (by rw [q9, s1]; omega), q9, s1]
  rw [own_la (by rw [qa, s2]; omega), qa, s2]
  exact own_arith (by omega) (by omega) (by omega) (by omega)
theorem d3_0 : decode jdk_29_method_45_code 0 = .ok (.lload_n 0, 1) := by decide +kernel
theorem d3_1 : decode jdk_29_method_45_code 1 = .ok (.bipush 32, 2) := by decide +kernel
theorem d3_3 : decode jdk_29_method_45_code 3 = .ok (.lshr, 1) := by decide +kernel
theorem d3_4 : decode jdk_29_method_45_code 4 = .ok (.lstore 4, 2) := by decide +kernel
theorem d3_6 : decode jdk_29_method_45_code 6 = .ok (.lload_n 0, 1) := by decide +kernel
theorem d3_7 : decode jdk_29_method_45_code 7 = .ok (.ldc2_w 138, 3) := by decide +kernel
theorem d3_10 : decode jdk_29_method_45_code 10 = .ok (.land, 1) := by decide +kernel
theorem d3_11 : decode jdk_29_method_45_code 11 = .ok (.lstore 6, 2) := by decide +kernel
theorem d3_13 : decode jdk_29_method_45_code 13 = .ok (.lload_n 2, 1) := by decide +kernel
theorem d3_14 : decode jdk_29_method_45_code 14 = .ok (.bipush 32, 2) := by decide +kernel
theorem d3_16 : decode jdk_29_method_45_code 16 = .ok (.lshr, 1) := by decide +kernel
theorem d3_17 : decode jdk_29_method_45_code 17 = .ok (.lstore 8, 2) := by decide +kernel
theorem d3_19 : decode jdk_29_method_45_code 19 = .ok (.lload_n 2, 1) := by decide +kernel
theorem d3_20 : decode jdk_29_method_45_code 20 = .ok (.ldc2_w 138, 3) := by decide +kernel
theorem d3_23 : decode jdk_29_method_45_code 23 = .ok (.land, 1) := by decide +kernel
theorem d3_24 : decode jdk_29_method_45_code 24 = .ok (.lstore 10, 2) := by decide +kernel
theorem d3_26 : decode jdk_29_method_45_code 26 = .ok (.lload 6, 2) := by decide +kernel
theorem d3_28 : decode jdk_29_method_45_code 28 = .ok (.lload 10, 2) := by decide +kernel
theorem d3_30 : decode jdk_29_method_45_code 30 = .ok (.lmul, 1) := by decide +kernel
theorem d3_31 : decode jdk_29_method_45_code 31 = .ok (.lstore 12, 2) := by decide +kernel
theorem d3_33 : decode jdk_29_method_45_code 33 = .ok (.lload 4, 2) := by decide +kernel
theorem d3_35 : decode jdk_29_method_45_code 35 = .ok (.lload 10, 2) := by decide +kernel
theorem d3_37 : decode jdk_29_method_45_code 37 = .ok (.lmul, 1) := by decide +kernel
theorem d3_38 : decode jdk_29_method_45_code 38 = .ok (.lload 12, 2) := by decide +kernel
theorem d3_40 : decode jdk_29_method_45_code 40 = .ok (.bipush 32, 2) := by decide +kernel
theorem d3_42 : decode jdk_29_method_45_code 42 = .ok (.lushr, 1) := by decide +kernel
theorem d3_43 : decode jdk_29_method_45_code 43 = .ok (.ladd, 1) := by decide +kernel
theorem d3_44 : decode jdk_29_method_45_code 44 = .ok (.lstore 14, 2) := by decide +kernel
theorem d3_46 : decode jdk_29_method_45_code 46 = .ok (.lload 14, 2) := by decide +kernel
theorem d3_48 : decode jdk_29_method_45_code 48 = .ok (.ldc2_w 138, 3) := by decide +kernel
theorem d3_51 : decode jdk_29_method_45_code 51 = .ok (.land, 1) := by decide +kernel
theorem d3_52 : decode jdk_29_method_45_code 52 = .ok (.lstore 16, 2) := by decide +kernel
theorem d3_54 : decode jdk_29_method_45_code 54 = .ok (.lload 14, 2) := by decide +kernel
theorem d3_56 : decode jdk_29_method_45_code 56 = .ok (.bipush 32, 2) := by decide +kernel
theorem d3_58 : decode jdk_29_method_45_code 58 = .ok (.lshr, 1) := by decide +kernel
theorem d3_59 : decode jdk_29_method_45_code 59 = .ok (.lstore 18, 2) := by decide +kernel
theorem d3_61 : decode jdk_29_method_45_code 61 = .ok (.lload 16, 2) := by decide +kernel
theorem d3_63 : decode jdk_29_method_45_code 63 = .ok (.lload 6, 2) := by decide +kernel
theorem d3_65 : decode jdk_29_method_45_code 65 = .ok (.lload 8, 2) := by decide +kernel
theorem d3_67 : decode jdk_29_method_45_code 67 = .ok (.lmul, 1) := by decide +kernel
theorem d3_68 : decode jdk_29_method_45_code 68 = .ok (.ladd, 1) := by decide +kernel
theorem d3_69 : decode jdk_29_method_45_code 69 = .ok (.lstore 16, 2) := by decide +kernel
theorem d3_71 : decode jdk_29_method_45_code 71 = .ok (.lload 4, 2) := by decide +kernel
theorem d3_73 : decode jdk_29_method_45_code 73 = .ok (.lload 8, 2) := by decide +kernel
theorem d3_75 : decode jdk_29_method_45_code 75 = .ok (.lmul, 1) := by decide +kernel
theorem d3_76 : decode jdk_29_method_45_code 76 = .ok (.lload 18, 2) := by decide +kernel
theorem d3_78 : decode jdk_29_method_45_code 78 = .ok (.ladd, 1) := by decide +kernel
theorem d3_79 : decode jdk_29_method_45_code 79 = .ok (.lload 16, 2) := by decide +kernel
theorem d3_81 : decode jdk_29_method_45_code 81 = .ok (.bipush 32, 2) := by decide +kernel
theorem d3_83 : decode jdk_29_method_45_code 83 = .ok (.lshr, 1) := by decide +kernel
theorem d3_84 : decode jdk_29_method_45_code 84 = .ok (.ladd, 1) := by decide +kernel
theorem d3_85 : decode jdk_29_method_45_code 85 = .ok (.lreturn, 1) := by decide +kernel
theorem ef_rm3 (m : MethodId) (q0 : Int64) (q1 : Int64) : entryFrame m #[(.long q0), (.long q1)] 20 = mkF m 0 #[.val (.long q0), .second, .val (.long q1), .second, .unset, .unset, .unset, .unset, .unset, .unset, .unset, .unset, .unset, .unset, .unset, .unset, .unset, .unset, .unset, .unset] [] := by first | (simp [entryFrame, mkF, argsToLocals, Value.category]; done) | rfl
def Q_rm3 (Z : State) (q0 : Int64) (q1 : Int64) (h0 : Heap) (n0 : Nat) (v : Option Value) (h : Heap) (L : List Loc) : Prop := ∃ z : Int64, v = some (.long z) ∧ Fr n0 L ∧ h = h0 ∧ z.toInt = (q0.toInt * q1.toInt) / 18446744073709551616
set_option maxRecDepth 65536 in
set_option maxHeartbeats 40000000 in
theorem rm3 (l : Launch) (Z : State) (a0 : Array Value) (hw : ∀ d ∈ tables_1, d.before a0 Z = true) (ws : List Jvm.Cond) (q0 : Int64) (q1 : Int64) (h0 : Heap) (n0 : Nat) (Z0 : n0 ≤ h0.size) (hx0 : 0 ≤ q0.toInt ∧ q0.toInt < 2305843009213693952) (hy0 : 0 ≤ q1.toInt ∧ q1.toInt < 2305843009213693952) :
    MetFree l (⟨"java/lang/Math", "multiplyHigh", "(JJ)J"⟩ : MethodName) (head1 (Jvm.Cond.code (⟨"java/lang/Math", "multiplyHigh", "(JJ)J"⟩ : MethodName) jdk_29_method_45_code 20 (some .long) :: ws) ({ frames := 0, cells := 0, slots := 0, locals := 0 } : Room)) (fun a U => a = #[(.long q0), (.long q1)] ∧ Z.Warmed39 U.vm ∧ U.heap = h0) (fun _ _ _ _ _ => True) (fun _ U o U' => ∃ v L, o = .returned v ∧ Q_rm3 Z q0 q1 h0 n0 v U'.heap L ∧ FrameEnd U o U' L ({ frames := 0, cells := 0, slots := 0, locals := 0 } : Room).cells ({ frames := 0, cells := 0, slots := 0, locals := 0 } : Room).slots) := by
  refine MetFree.of_bodySF (Jvm.Free.JP.mathPlain rfl (by decide +kernel)) hisR ?_
  intro p e s m args below meth c s₁ Bd hml0 hP hK
  obtain ⟨rfl, hZ, hh⟩ := hP
  have hx := Bd.exec
  have hby := Bd.bytes
  have hml : c.maxLocals = 20 := hml0
  have hown : s.vm.findClass "java/lang/Math" = some m.cls := findClass_of_methodNamed Bd.named
  have hnm := (name_of_methodNamed Bd.named Bd.method).1
  have X0 : Stand p l e ({ frames := 0, cells := 0, slots := 0, locals := 0 } : Room) s m #[(.long q0), (.long q1)] below meth c s₁ [] 0 0 := Stand.of_body Bd
  have e0 : s₁.heap = h0 := by rw [← hh, Bd.state]; rfl
  have N0 := Fr.nil n0
  have K0 := Keep.refl h0 []
  have go0 : Go p e below (s₁.setTop (entryFrame m #[(.long q0), (.long q1)] 20)) (s₁.setTop (mkF m 0 #[.val (.long q0), .second, .val (.long q1), .second, .unset, .unset, .unset, .unset, .unset, .unset, .unset, .unset, .unset, .unset, .unset, .unset, .unset, .unset, .unset, .unset] [])) := fun t k => castTop (ef_rm3 m q0 q1) k
  have go1 := go0.step (C := s₁.setTop (mkF m 4 #[.val (.long q0), .second, .val (.long q1), .second, .unset, .unset, .unset, .unset, .unset, .unset, .unset, .unset, .unset, .unset, .unset, .unset, .unset, .unset, .unset, .unset] [(.long (q0 >>> ((32 : Int32) &&& 0x3f).toInt64))])) (fun t k => by
    show Steps p.tables e below (s₁.setTop (mkF m 0 #[.val (.long q0), .second, .val (.long q1), .second, .unset, .unset, .unset, .unset, .unset, .unset, .unset, .unset, .unset, .unset, .unset, .unset, .unset, .unset, .unset, .unset] [])) _
    refine XS.lloadN X0.here hx rfl (hb hby d3_0) rfl ?_
    show Steps p.tables e below (s₁.setTop (mkF m 1 #[.val (.long q0), .second, .val (.long q1), .second, .unset, .unset, .unset, .unset, .unset, .unset, .unset, .unset, .unset, .unset, .unset, .unset, .unset, .unset, .unset, .unset] [(.long q0)])) _
    refine XS.bipush X0.here hx rfl (hb hby d3_1) ?_
    show Steps p.tables e below (s₁.setTop (mkF m 3 #[.val (.long q0), .second, .val (.long q1), .second, .unset, .unset, .unset, .unset, .unset, .unset, .unset, .unset, .unset, .unset, .unset, .unset, .unset, .unset, .unset, .unset] [(.int (32 : Int32)), (.long q0)])) _
    refine XS.lshr X0.here hx rfl (hb hby d3_3) rfl ?_
    exact k)
  obtain ⟨x1, hx1⟩ : ∃ z : Int64, z = (q0 >>> ((32 : Int32) &&& 0x3f).toInt64) := ⟨_, rfl⟩
  rw [← hx1] at go1
  have go2 := go1.step (C := s₁.setTop (mkF m 11 #[.val (.long q0), .second, .val (.long q1), .second, .val (.long x1), .second, .unset, .unset, .unset, .unset, .unset, .unset, .unset, .unset, .unset, .unset, .unset, .unset, .unset, .unset] [(.long (q0 &&& (4294967295 : Int64)))])) (fun t k => by
    show Steps p.tables e below (s₁.setTop (mkF m 4 #[.val (.long q0), .second, .val (.long q1), .second, .unset, .unset, .unset, .unset, .unset, .unset, .unset, .unset, .unset, .unset, .unset, .unset, .unset, .unset, .unset, .unset] [(.long x1)])) _
    refine XS.lstore X0.here hx rfl (hb hby d3_4) rfl (l' := #[.val (.long q0), .second, .val (.long q1), .second, .val (.long x1), .second, .unset, .unset, .unset, .unset, .unset, .unset, .unset, .unset, .unset, .unset, .unset, .unset, .unset, .unset]) rfl ?_
    show Steps p.tables e below (s₁.setTop (mkF m 6 #[.val (.long q0), .second, .val (.long q1), .second, .val (.long x1), .second, .unset, .unset, .unset, .unset, .unset, .unset, .unset, .unset, .unset, .unset, .unset, .unset, .unset, .unset] [])) _
    refine XS.lloadN X0.here hx rfl (hb hby d3_6) rfl ?_
    show Steps p.tables e below (s₁.setTop (mkF m 7 #[.val (.long q0), .second, .val (.long q1), .second, .val (.long x1), .second, .unset, .unset, .unset, .unset, .unset, .unset, .unset, .unset, .unset, .unset, .unset, .unset, .unset, .unset] [(.long q0)])) _
    refine X0.ldc2Long hx hown (mvT hZ (hw _ (List.mem_of_getElem? (i := 14) rfl))) (g := (mkF m 7 #[.val (.long q0), .second, .val (.long q1), .second, .val (.long x1), .second, .unset, .unset, .unset, .unset, .unset, .unset, .unset, .unset, .unset, .unset, .unset, .unset, .unset, .unset] [(.long q0)])) rfl (hb hby d3_7) _ ?_
    show Steps p.tables e below (s₁.setTop (mkF m 10 #[.val (.long q0), .second, .val (.long q1), .second, .val (.long x1), .second, .unset, .unset, .unset, .unset, .unset, .unset, .unset, .unset, .unset, .unset, .unset, .unset, .unset, .unset] [(.long (4294967295 : Int64)), (.long q0)])) _
    refine XS.land X0.here hx rfl (hb hby d3_10) rfl ?_
    exact k)
  obtain ⟨x2, hx2⟩ : ∃ z : Int64, z = (q0 &&& (4294967295 : Int64)) := ⟨_, rfl⟩
  rw [← hx2] at go2
  have go3 := go2.step (C := s₁.setTop (mkF m 17 #[.val (.long q0), .second, .val (.long q1), .second, .val (.long x1), .second, .val (.long x2), .second, .unset, .unset, .unset, .unset, .unset, .unset, .unset, .unset, .unset, .unset, .unset, .unset] [(.long (q1 >>> ((32 : Int32) &&& 0x3f).toInt64))])) (fun t k => by
    show Steps p.tables e below (s₁.setTop (mkF m 11 #[.val (.long q0), .second, .val (.long q1), .second, .val (.long x1), .second, .unset, .unset, .unset, .unset, .unset, .unset, .unset, .unset, .unset, .unset, .unset, .unset, .unset, .unset] [(.long x2)])) _
    refine XS.lstore X0.here hx rfl (hb hby d3_11) rfl (l' := #[.val (.long q0), .second, .val (.long q1), .second, .val (.long x1), .second, .val (.long x2), .second, .unset, .unset, .unset, .unset, .unset, .unset, .unset, .unset, .unset, .unset, .unset, .unset]) rfl ?_
    show Steps p.tables e below (s₁.setTop (mkF m 13 #[.val (.long q0), .second, .val (.long q1), .second, .val (.long x1), .second, .val (.long x2), .second, .unset, .unset, .unset, .unset, .unset, .unset, .unset, .unset, .unset, .unset, .unset, .unset] [])) _
    refine XS.lloadN X0.here hx rfl (hb hby d3_13) rfl ?_
    show Steps p.tables e below (s₁.setTop (mkF m 14 #[.val (.long q0), .second, .val (.long q1), .second, .val (.long x1), .second, .val (.long x2), .second, .unset, .unset, .unset, .unset, .unset, .unset, .unset, .unset, .unset, .unset, .unset, .unset] [(.long q1)])) _
    refine XS.bipush X0.here hx rfl (hb hby d3_14) ?_
    show Steps p.tables e below (s₁.setTop (mkF m 16 #[.val (.long q0), .second, .val (.long q1), .second, .val (.long x1), .second, .val (.long x2), .second, .unset, .unset, .unset, .unset, .unset, .unset, .unset, .unset, .unset, .unset, .unset, .unset] [(.int (32 : Int32)), (.long q1)])) _
    refine XS.lshr X0.here hx rfl (hb hby d3_16) rfl ?_
    exact k)
  obtain ⟨y1, hy1⟩ : ∃ z : Int64, z = (q1 >>> ((32 : Int32) &&& 0x3f).toInt64) := ⟨_, rfl⟩
  rw [← hy1] at go3
  have go4 := go3.step (C := s₁.setTop (mkF m 24 #[.val (.long q0), .second, .val (.long q1), .second, .val (.long x1), .second, .val (.long x2), .second, .val (.long y1), .second, .unset, .unset, .unset, .unset, .unset, .unset, .unset, .unset, .unset, .unset] [(.long (q1 &&& (4294967295 : Int64)))])) (fun t k => by
    show Steps p.tables e below (s₁.setTop (mkF m 17 #[.val (.long q0), .second, .val (.long q1), .second, .val (.long x1), .second, .val (.long x2), .second, .unset, .unset, .unset, .unset, .unset, .unset, .unset, .unset, .unset, .unset, .unset, .unset] [(.long y1)])) _
    refine XS.lstore X0.here hx rfl (hb hby d3_17) rfl (l' := #[.val (.long q0), .second, .val (.long q1), .second, .val (.long x1), .second, .val (.long x2), .second, .val (.long y1), .second, .unset, .unset, .unset, .unset, .unset, .unset, .unset, .unset, .unset, .unset]) rfl ?_
    show Steps p.tables e below (s₁.setTop (mkF m 19 #[.val (.long q0), .second, .val (.long q1), .second, .val (.long x1), .second, .val (.long x2), .second, .val (.long y1), .second, .unset, .unset, .unset, .unset, .unset, .unset, .unset, .unset, .unset, .unset] [])) _
    refine XS.lloadN X0.here hx rfl (hb hby d3_19) rfl ?_
    show Steps p.tables e below (s₁.setTop (mkF m 20 #[.val (.long q0), .second, .val (.long q1), .second, .val (.long x1), .second, .val (.long x2), .second, .val (.long y1), .second, .unset, .unset, .unset, .unset, .unset, .unset, .unset, .unset, .unset, .unset] [(.long q1)])) _
    refine X0.ldc2Long hx hown (mvT hZ (hw _ (List.mem_of_getElem? (i := 14) rfl))) (g := (mkF m 20 #[.val (.long q0), .second, .val (.long q1), .second, .val (.long x1), .second, .val (.long x2), .second, .val (.long y1), .second, .unset, .unset, .unset, .unset, .unset, .unset, .unset, .unset, .unset, .unset] [(.long q1)])) rfl (hb hby d3_20) _ ?_
    show Steps p.tables e below (s₁.setTop (mkF m 23 #[.val (.long q0), .second, .val (.long q1), .second, .val (.long x1), .second, .val (.long x2), .second, .val (.long y1), .second, .unset, .unset, .unset, .unset, .unset, .unset, .unset, .unset, .unset, .unset] [(.long (4294967295 : Int64)), (.long q1)])) _
    refine XS.land X0.here hx rfl (hb hby d3_23) rfl ?_
    exact k)
  obtain ⟨y2, hy2⟩ : ∃ z : Int64, z = (q1 &&& (4294967295 : Int64)) := ⟨_, rfl⟩
  rw [← hy2] at go4
  have go5 := go4.step (C := s₁.setTop (mkF m 31 #[.val (.long q0), .second, .val (.long q1), .second, .val (.long x1), .second, .val (.long x2), .second, .val (.long y1), .second, .val (.long y2), .second, .unset, .unset, .unset, .unset, .unset, .unset, .unset, .unset] [(.long (x2 * y2))])) (fun t k => by
    show Steps p.tables e below (s₁.setTop (mkF m 24 #[.val (.long q0), .second, .val (.long q1), .second, .val (.long x1), .second, .val (.long x2), .second, .val (.long y1), .second, .unset, .unset, .unset, .unset, .unset, .unset, .unset, .unset, .unset, .unset] [(.long y2)])) _
    refine XS.lstore X0.here hx rfl (hb hby d3_24) rfl (l' := #[.val (.long q0), .second, .val (.long q1), .second, .val (.long x1), .second, .val (.long x2), .second, .val (.long y1), .second, .val (.long y2), .second, .unset, .unset, .unset, .unset, .unset, .unset, .unset, .unset]) rfl ?_
    show Steps p.tables e below (s₁.setTop (mkF m 26 #[.val (.long q0), .second, .val (.long q1), .second, .val (.long x1), .second, .val (.long x2), .second, .val (.long y1), .second, .val (.long y2), .second, .unset, .unset, .unset, .unset, .unset, .unset, .unset, .unset] [])) _
    refine XS.lload X0.here hx rfl (hb hby d3_26) rfl ?_
    show Steps p.tables e below (s₁.setTop (mkF m 28 #[.val (.long q0), .second, .val (.long q1), .second, .val (.long x1), .second, .val (.long x2), .second, .val (.long y1), .second, .val (.long y2), .second, .unset, .unset, .unset, .unset, .unset, .unset, .unset, .unset] [(.long x2)])) _
    refine XS.lload X0.here hx rfl (hb hby d3_28) rfl ?_
    show Steps p.tables e below (s₁.setTop (mkF m 30 #[.val (.long q0), .second, .val (.long q1), .second, .val (.long x1), .second, .val (.long x2), .second, .val (.long y1), .second, .val (.long y2), .second, .unset, .unset, .unset, .unset, .unset, .unset, .unset, .unset] [(.long y2), (.long x2)])) _
    refine XS.lmul X0.here hx rfl (hb hby d3_30) rfl ?_
    exact k)
  obtain ⟨z2, hz2⟩ : ∃ z : Int64, z = (x2 * y2) := ⟨_, rfl⟩
  rw [← hz2] at go5
  have go6 := go5.step (C := s₁.setTop (mkF m 44 #[.val (.long q0), .second, .val (.long q1), .second, .val (.long x1), .second, .val (.long x2), .second, .val (.long y1), .second, .val (.long y2), .second, .val (.long z2), .second, .unset, .unset, .unset, .unset, .unset, .unset] [(.long ((x1 * y2) + (own_usrL z2 (32 : Int32))))])) (fun t k => by
    show Steps p.tables e below (s₁.setTop (mkF m 31 #[.val (.long q0), .second, .val (.long q1), .second, .val (.long x1), .second, .val (.long x2), .second, .val (.long y1), .second, .val (.long y2), .second, .unset, .unset, .unset, .unset, .unset, .unset, .unset, .unset] [(.long z2)])) _
    refine XS.lstore X0.here hx rfl (hb hby d3_31) rfl (l' := #[.val (.long q0), .second, .val (.long q1), .second, .val (.long x1), .second, .val (.long x2), .second, .val (.long y1), .second, .val (.long y2), .second, .val (.long z2), .second, .unset, .unset, .unset, .unset, .unset, .unset]) rfl ?_
    show Steps p.tables e below (s₁.setTop (mkF m 33 #[.val (.long q0), .second, .val (.long q1), .second, .val (.long x1), .second, .val (.long x2), .second, .val (.long y1), .second, .val (.long y2), .second, .val (.long z2), .second, .unset, .unset, .unset, .unset, .unset, .unset] [])) _
    refine XS.lload X0.here hx rfl (hb hby d3_33) rfl ?_
    show Steps p.tables e below (s₁.setTop (mkF m 35 #[.val (.long q0), .second, .val (.long q1), .second, .val (.long x1), .second, .val (.long x2), .second, .val (.long y1), .second, .val (.long y2), .second, .val (.long z2), .second, .unset, .unset, .unset, .unset, .unset, .unset] [(.long x1)])) _
    refine XS.lload X0.here hx rfl (hb hby d3_35) rfl ?_
    show Steps p.tables e below (s₁.setTop (mkF m 37 #[.val (.long q0), .second, .val (.long q1), .second, .val (.long x1), .second, .val (.long x2), .second, .val (.long y1), .second, .val (.long y2), .second, .val (.long z2), .second, .unset, .unset, .unset, .unset, .unset, .unset] [(.long y2), (.long x1)])) _
    refine XS.lmul X0.here hx rfl (hb hby d3_37) rfl ?_
    show Steps p.tables e below (s₁.setTop (mkF m 38 #[.val (.long q0), .second, .val (.long q1), .second, .val (.long x1), .second, .val (.long x2), .second, .val (.long y1), .second, .val (.long y2), .second, .val (.long z2), .second, .unset, .unset, .unset, .unset, .unset, .unset] [(.long (x1 * y2))])) _
    refine XS.lload X0.here hx rfl (hb hby d3_38) rfl ?_
    show Steps p.tables e below (s₁.setTop (mkF m 40 #[.val (.long q0), .second, .val (.long q1), .second, .val (.long x1), .second, .val (.long x2), .second, .val (.long y1), .second, .val (.long y2), .second, .val (.long z2), .second, .unset, .unset, .unset, .unset, .unset, .unset] [(.long z2), (.long (x1 * y2))])) _
    refine XS.bipush X0.here hx rfl (hb hby d3_40) ?_
    show Steps p.tables e below (s₁.setTop (mkF m 42 #[.val (.long q0), .second, .val (.long q1), .second, .val (.long x1), .second, .val (.long x2), .second, .val (.long y1), .second, .val (.long y2), .second, .val (.long z2), .second, .unset, .unset, .unset, .unset, .unset, .unset] [(.int (32 : Int32)), (.long z2), (.long (x1 * y2))])) _
    refine XS.lushr X0.here hx rfl (hb hby d3_42) rfl ?_
    show Steps p.tables e below (s₁.setTop (mkF m 43 #[.val (.long q0), .second, .val (.long q1), .second, .val (.long x1), .second, .val (.long x2), .second, .val (.long y1), .second, .val (.long y2), .second, .val (.long z2), .second, .unset, .unset, .unset, .unset, .unset, .unset] [(.long (own_usrL z2 (32 : Int32))), (.long (x1 * y2))])) _
    refine XS.ladd X0.here hx rfl (hb hby d3_43) rfl ?_
    exact k)
  obtain ⟨t_, ht_⟩ : ∃ z : Int64, z = ((x1 * y2) + (own_usrL z2 (32 : Int32))) := ⟨_, rfl⟩
  rw [← ht_] at go6
  have go7 := go6.step (C := s₁.setTop (mkF m 69 #[.val (.long q0), .second, .val (.long q1), .second, .val (.long x1), .second, .val (.long x2), .second, .val (.long y1), .second, .val (.long y2), .second, .val (.long z2), .second, .val (.long t_), .second, .val (.long (t_ &&& (4294967295 : Int64))), .second, .val (.long (t_ >>> ((32 : Int32) &&& 0x3f).toInt64)), .second] [(.long ((t_ &&& (4294967295 : Int64)) + (x2 * y1)))])) (fun t k => by
    show Steps p.tables e below (s₁.setTop (mkF m 44 #[.val (.long q0), .second, .val (.long q1), .second, .val (.long x1), .second, .val (.long x2), .second, .val (.long y1), .second, .val (.long y2), .second, .val (.long z2), .second, .unset, .unset, .unset, .unset, .unset, .unset] [(.long t_)])) _
    refine XS.lstore X0.here hx rfl (hb hby d3_44) rfl (l' := #[.val (.long q0), .second, .val (.long q1), .second, .val (.long x1), .second, .val (.long x2), .second, .val (.long y1), .second, .val (.long y2), .second, .val (.long z2), .second, .val (.long t_), .second, .unset, .unset, .unset, .unset]) rfl ?_
    show Steps p.tables e below (s₁.setTop (mkF m 46 #[.val (.long q0), .second, .val (.long q1), .second, .val (.long x1), .second, .val (.long x2), .second, .val (.long y1), .second, .val (.long y2), .second, .val (.long z2), .second, .val (.long t_), .second, .unset, .unset, .unset, .unset] [])) _
    refine XS.lload X0.here hx rfl (hb hby d3_46) rfl ?_
    show Steps p.tables e below (s₁.setTop (mkF m 48 #[.val (.long q0), .second, .val (.long q1), .second, .val (.long x1), .second, .val (.long x2), .second, .val (.long y1), .second, .val (.long y2), .second, .val (.long z2), .second, .val (.long t_), .second, .unset, .unset, .unset, .unset] [(.long t_)])) _
    refine X0.ldc2Long hx hown (mvT hZ (hw _ (List.mem_of_getElem? (i := 14) rfl))) (g := (mkF m 48 #[.val (.long q0), .second, .val (.long q1), .second, .val (.long x1), .second, .val (.long x2), .second, .val (.long y1), .second, .val (.long y2), .second, .val (.long z2), .second, .val (.long t_), .second, .unset, .unset, .unset, .unset] [(.long t_)])) rfl (hb hby d3_48) _ ?_
    show Steps p.tables e below (s₁.setTop (mkF m 51 #[.val (.long q0), .second, .val (.long q1), .second, .val (.long x1), .second, .val (.long x2), .second, .val (.long y1), .second, .val (.long y2), .second, .val (.long z2), .second, .val (.long t_), .second, .unset, .unset, .unset, .unset] [(.long (4294967295 : Int64)), (.long t_)])) _
    refine XS.land X0.here hx rfl (hb hby d3_51) rfl ?_
    show Steps p.tables e below (s₁.setTop (mkF m 52 #[.val (.long q0), .second, .val (.long q1), .second, .val (.long x1), .second, .val (.long x2), .second, .val (.long y1), .second, .val (.long y2), .second, .val (.long z2), .second, .val (.long t_), .second, .unset, .unset, .unset, .unset] [(.long (t_ &&& (4294967295 : Int64)))])) _
    refine XS.lstore X0.here hx rfl (hb hby d3_52) rfl (l' := #[.val (.long q0), .second, .val (.long q1), .second, .val (.long x1), .second, .val (.long x2), .second, .val (.long y1), .second, .val (.long y2), .second, .val (.long z2), .second, .val (.long t_), .second, .val (.long (t_ &&& (4294967295 : Int64))), .second, .unset, .unset]) rfl ?_
    show Steps p.tables e below (s₁.setTop (mkF m 54 #[.val (.long q0), .second, .val (.long q1), .second, .val (.long x1), .second, .val (.long x2), .second, .val (.long y1), .second, .val (.long y2), .second, .val (.long z2), .second, .val (.long t_), .second, .val (.long (t_ &&& (4294967295 : Int64))), .second, .unset, .unset] [])) _
    refine XS.lload X0.here hx rfl (hb hby d3_54) rfl ?_
    show Steps p.tables e below (s₁.setTop (mkF m 56 #[.val (.long q0), .second, .val (.long q1), .second, .val (.long x1), .second, .val (.long x2), .second, .val (.long y1), .second, .val (.long y2), .second, .val (.long z2), .second, .val (.long t_), .second, .val (.long (t_ &&& (4294967295 : Int64))), .second, .unset, .unset] [(.long t_)])) _
    refine XS.bipush X0.here hx rfl (hb hby d3_56) ?_
    show Steps p.tables e below (s₁.setTop (mkF m 58 #[.val (.long q0), .second, .val (.long q1), .second, .val (.long x1), .second, .val (.long x2), .second, .val (.long y1), .second, .val (.long y2), .second, .val (.long z2), .second, .val (.long t_), .second, .val (.long (t_ &&& (4294967295 : Int64))), .second, .unset, .unset] [(.int (32 : Int32)), (.long t_)])) _
    refine XS.lshr X0.here hx rfl (hb hby d3_58) rfl ?_
    show Steps p.tables e below (s₁.setTop (mkF m 59 #[.val (.long q0), .second, .val (.long q1), .second, .val (.long x1), .second, .val (.long x2), .second, .val (.long y1), .second, .val (.long y2), .second, .val (.long z2), .second, .val (.long t_), .second, .val (.long (t_ &&& (4294967295 : Int64))), .second, .unset, .unset] [(.long (t_ >>> ((32 : Int32) &&& 0x3f).toInt64))])) _
    refine XS.lstore X0.here hx rfl (hb hby d3_59) rfl (l' := #[.val (.long q0), .second, .val (.long q1), .second, .val (.long x1), .second, .val (.long x2), .second, .val (.long y1), .second, .val (.long y2), .second, .val (.long z2), .second, .val (.long t_), .second, .val (.long (t_ &&& (4294967295 : Int64))), .second, .val (.long (t_ >>> ((32 : Int32) &&& 0x3f).toInt64)), .second]) rfl ?_
    show Steps p.tables e below (s₁.setTop (mkF m 61 #[.val (.long q0), .second, .val (.long q1), .second, .val (.long x1), .second, .val (.long x2), .second, .val (.long y1), .second, .val (.long y2), .second, .val (.long z2), .second, .val (.long t_), .second, .val (.long (t_ &&& (4294967295 : Int64))), .second, .val (.long (t_ >>> ((32 : Int32) &&& 0x3f).toInt64)), .second] [])) _
    refine XS.lload X0.here hx rfl (hb hby d3_61) rfl ?_
    show Steps p.tables e below (s₁.setTop (mkF m 63 #[.val (.long q0), .second, .val (.long q1), .second, .val (.long x1), .second, .val (.long x2), .second, .val (.long y1), .second, .val (.long y2), .second, .val (.long z2), .second, .val (.long t_), .second, .val (.long (t_ &&& (4294967295 : Int64))), .second, .val (.long (t_ >>> ((32 : Int32) &&& 0x3f).toInt64)), .second] [(.long (t_ &&& (4294967295 : Int64)))])) _
    refine XS.lload X0.here hx rfl (hb hby d3_63) rfl ?_
    show Steps p.tables e below (s₁.setTop (mkF m 65 #[.val (.long q0), .second, .val (.long q1), .second, .val (.long x1), .second, .val (.long x2), .second, .val (.long y1), .second, .val (.long y2), .second, .val (.long z2), .second, .val (.long t_), .second, .val (.long (t_ &&& (4294967295 : Int64))), .second, .val (.long (t_ >>> ((32 : Int32) &&& 0x3f).toInt64)), .second] [(.long x2), (.long (t_ &&& (4294967295 : Int64)))])) _
    refine XS.lload X0.here hx rfl (hb hby d3_65) rfl ?_
    show Steps p.tables e below (s₁.setTop (mkF m 67 #[.val (.long q0), .second, .val (.long q1), .second, .val (.long x1), .second, .val (.long x2), .second, .val (.long y1), .second, .val (.long y2), .second, .val (.long z2), .second, .val (.long t_), .second, .val (.long (t_ &&& (4294967295 : Int64))), .second, .val (.long (t_ >>> ((32 : Int32) &&& 0x3f).toInt64)), .second] [(.long y1), (.long x2), (.long (t_ &&& (4294967295 : Int64)))])) _
    refine XS.lmul X0.here hx rfl (hb hby d3_67) rfl ?_
    show Steps p.tables e below (s₁.setTop (mkF m 68 #[.val (.long q0), .second, .val (.long q1), .second, .val (.long x1), .second, .val (.long x2), .second, .val (.long y1), .second, .val (.long y2), .second, .val (.long z2), .second, .val (.long t_), .second, .val (.long (t_ &&& (4294967295 : Int64))), .second, .val (.long (t_ >>> ((32 : Int32) &&& 0x3f).toInt64)), .second] [(.long (x2 * y1)), (.long (t_ &&& (4294967295 : Int64)))])) _
    refine XS.ladd X0.here hx rfl (hb hby d3_68) rfl ?_
    exact k)
  obtain ⟨z1, hz1⟩ : ∃ z : Int64, z = ((t_ &&& (4294967295 : Int64)) + (x2 * y1)) := ⟨_, rfl⟩
  rw [← hz1] at go7
  have go8 := go7.step (C := s₁.setTop (mkF m 85 #[.val (.long q0), .second, .val (.long q1), .second, .val (.long x1), .second, .val (.long x2), .second, .val (.long y1), .second, .val (.long y2), .second, .val (.long z2), .second, .val (.long t_), .second, .val (.long z1), .second, .val (.long (t_ >>> ((32 : Int32) &&& 0x3f).toInt64)), .second] [(.long (((x1 * y1) + (t_ >>> ((32 : Int32) &&& 0x3f).toInt64)) + (z1 >>> ((32 : Int32) &&& 0x3f).toInt64)))])) (fun t k => by
    show Steps p.tables e below (s₁.setTop (mkF m 69 #[.val (.long q0), .second, .val (.long q1), .second, .val (.long x1), .second, .val (.long x2), .second, .val (.long y1), .second, .val (.long y2), .second, .val (.long z2), .second, .val (.long t_), .second, .val (.long (t_ &&& (4294967295 : Int64))), .second, .val (.long (t_ >>> ((32 : Int32) &&& 0x3f).toInt64)), .second] [(.long z1)])) _
    refine XS.lstore X0.here hx rfl (hb hby d3_69) rfl (l' := #[.val (.long q0), .second, .val (.long q1), .second, .val (.long x1), .second, .val (.long x2), .second, .val (.long y1), .second, .val (.long y2), .second, .val (.long z2), .second, .val (.long t_), .second, .val (.long z1), .second, .val (.long (t_ >>> ((32 : Int32) &&& 0x3f).toInt64)), .second]) rfl ?_
    show Steps p.tables e below (s₁.setTop (mkF m 71 #[.val (.long q0), .second, .val (.long q1), .second, .val (.long x1), .second, .val (.long x2), .second, .val (.long y1), .second, .val (.long y2), .second, .val (.long z2), .second, .val (.long t_), .second, .val (.long z1), .second, .val (.long (t_ >>> ((32 : Int32) &&& 0x3f).toInt64)), .second] [])) _
    refine XS.lload X0.here hx rfl (hb hby d3_71) rfl ?_
    show Steps p.tables e below (s₁.setTop (mkF m 73 #[.val (.long q0), .second, .val (.long q1), .second, .val (.long x1), .second, .val (.long x2), .second, .val (.long y1), .second, .val (.long y2), .second, .val (.long z2), .second, .val (.long t_), .second, .val (.long z1), .second, .val (.long (t_ >>> ((32 : Int32) &&& 0x3f).toInt64)), .second] [(.long x1)])) _
    refine XS.lload X0.here hx rfl (hb hby d3_73) rfl ?_
    show Steps p.tables e below (s₁.setTop (mkF m 75 #[.val (.long q0), .second, .val (.long q1), .second, .val (.long x1), .second, .val (.long x2), .second, .val (.long y1), .second, .val (.long y2), .second, .val (.long z2), .second, .val (.long t_), .second, .val (.long z1), .second, .val (.long (t_ >>> ((32 : Int32) &&& 0x3f).toInt64)), .second] [(.long y1), (.long x1)])) _
    refine XS.lmul X0.here hx rfl (hb hby d3_75) rfl ?_
    show Steps p.tables e below (s₁.setTop (mkF m 76 #[.val (.long q0), .second, .val (.long q1), .second, .val (.long x1), .second, .val (.long x2), .second, .val (.long y1), .second, .val (.long y2), .second, .val (.long z2), .second, .val (.long t_), .second, .val (.long z1), .second, .val (.long (t_ >>> ((32 : Int32) &&& 0x3f).toInt64)), .second] [(.long (x1 * y1))])) _
    refine XS.lload X0.here hx rfl (hb hby d3_76) rfl ?_
    show Steps p.tables e below (s₁.setTop (mkF m 78 #[.val (.long q0), .second, .val (.long q1), .second, .val (.long x1), .second, .val (.long x2), .second, .val (.long y1), .second, .val (.long y2), .second, .val (.long z2), .second, .val (.long t_), .second, .val (.long z1), .second, .val (.long (t_ >>> ((32 : Int32) &&& 0x3f).toInt64)), .second] [(.long (t_ >>> ((32 : Int32) &&& 0x3f).toInt64)), (.long (x1 * y1))])) _
    refine XS.ladd X0.here hx rfl (hb hby d3_78) rfl ?_
    show Steps p.tables e below (s₁.setTop (mkF m 79 #[.val (.long q0), .second, .val (.long q1), .second, .val (.long x1), .second, .val (.long x2), .second, .val (.long y1), .second, .val (.long y2), .second, .val (.long z2), .second, .val (.long t_), .second, .val (.long z1), .second, .val (.long (t_ >>> ((32 : Int32) &&& 0x3f).toInt64)), .second] [(.long ((x1 * y1) + (t_ >>> ((32 : Int32) &&& 0x3f).toInt64)))])) _
    refine XS.lload X0.here hx rfl (hb hby d3_79) rfl ?_
    show Steps p.tables e below (s₁.setTop (mkF m 81 #[.val (.long q0), .second, .val (.long q1), .second, .val (.long x1), .second, .val (.long x2), .second, .val (.long y1), .second, .val (.long y2), .second, .val (.long z2), .second, .val (.long t_), .second, .val (.long z1), .second, .val (.long (t_ >>> ((32 : Int32) &&& 0x3f).toInt64)), .second] [(.long z1), (.long ((x1 * y1) + (t_ >>> ((32 : Int32) &&& 0x3f).toInt64)))])) _
    refine XS.bipush X0.here hx rfl (hb hby d3_81) ?_
    show Steps p.tables e below (s₁.setTop (mkF m 83 #[.val (.long q0), .second, .val (.long q1), .second, .val (.long x1), .second, .val (.long x2), .second, .val (.long y1), .second, .val (.long y2), .second, .val (.long z2), .second, .val (.long t_), .second, .val (.long z1), .second, .val (.long (t_ >>> ((32 : Int32) &&& 0x3f).toInt64)), .second] [(.int (32 : Int32)), (.long z1), (.long ((x1 * y1) + (t_ >>> ((32 : Int32) &&& 0x3f).toInt64)))])) _
    refine XS.lshr X0.here hx rfl (hb hby d3_83) rfl ?_
    show Steps p.tables e below (s₁.setTop (mkF m 84 #[.val (.long q0), .second, .val (.long q1), .second, .val (.long x1), .second, .val (.long x2), .second, .val (.long y1), .second, .val (.long y2), .second, .val (.long z2), .second, .val (.long t_), .second, .val (.long z1), .second, .val (.long (t_ >>> ((32 : Int32) &&& 0x3f).toInt64)), .second] [(.long (z1 >>> ((32 : Int32) &&& 0x3f).toInt64)), (.long ((x1 * y1) + (t_ >>> ((32 : Int32) &&& 0x3f).toInt64)))])) _
    refine XS.ladd X0.here hx rfl (hb hby d3_84) rfl ?_
    exact k)
  obtain ⟨fs, hr, hrun, hended, hW, hsame⟩ := X0.leave (v := some (.long (((x1 * y1) + (t_ >>> ((32 : Int32) &&& 0x3f).toInt64)) + (z1 >>> ((32 : Int32) &&& 0x3f).toInt64)))) (fun h => by rw [Bd.returns] at h; cases h)
  refine ⟨_, _, go8 _ ?_, hrun, hended, _, _, rfl, ?_, ⟨_, rfl⟩, hW, hsame.mono (by decide) (by decide)⟩
  · exact own_retL X0 hx Bd.returns (hb hby d3_85) hr
  · show Q_rm3 Z q0 q1 h0 n0 _ s₁.heap _
    rw [e0]
    exact ⟨_, rfl, N0, rfl, own_mh hx0 hy0 hx1 hx2 hy1 hy2 hz2 ht_ hz1⟩
theorem own_3 {z : Int64} (h : 0 ≤ z.toInt ∧ z.toInt < 288230376151711744) : (z <<< ((3 : Int32) &&& 0x3f).toInt64).toInt = z.toInt * 8 := by
  have q := c_lshl z 3 3 (by decide)
  have r := rng64 (z <<< ((3 : Int32) &&& 0x3f).toInt64)
  have e : ((2 ^ 3 : Nat) : Int) = 8 := by decide
  rw [e] at q
  exact own_cong q r (by omega)
theorem own_61 (x : Int64) : (own_usrL x (61 : Int32)).toInt = (x.toInt % 18446744073709551616) / 2305843009213693952 := c_lushr x 61 61 (by decide) (by decide)
theorem own_mp (x : Int64) : (x &&& (2305843009213693951 : Int64)).toInt = x.toInt % 2305843009213693952 := c_maskL x 2305843009213693951 61 (by decide) (by decide)
theorem own_or {a b : Int64} (ha : a.toInt % 8 = 0) (h1 : 0 ≤ a.toInt ∧ a.toInt < 2305843009213693952) (hb : 0 ≤ b.toInt ∧ b.toInt < 8) : (a ||| b).toInt = a.toInt + b.toInt :=
  own_cong (c_orL a b 3 (by decide) 8 (by decide) ha hb.1 hb.2) (rng64 _) (by omega)
theorem own_sum {x y z lo sm : Int64} (hx : 0 ≤ x.toInt ∧ x.toInt < 2305843009213693951) (hy : 0 ≤ y.toInt ∧ y.toInt < 2305843009213693951) (hz : z.toInt = (x.toInt * y.toInt) / 18446744073709551616) (hlo : lo = x * y) (hsm : sm = (lo &&& (2305843009213693951 : Int64)) + ((z <<< ((3 : Int32) &&& 0x3f).toInt64) ||| own_usrL lo (61 : Int32))) :
    sm.toInt = (x.toInt * y.toInt) % 2305843009213693952 + (x.toInt * y.toInt) / 2305843009213693952 ∧ 0 ≤ x.toInt * y.toInt ∧ x.toInt * y.toInt ≤ 2305843009213693950 * 2305843009213693950 := by
  have m := own_bd (A := 2305843009213693950) (B := 2305843009213693950) (a := x.toInt) (b := y.toInt) (by omega) (by omega)
  have q := c_lmul x y
  rw [← hlo] at q
  have k1 := own_mp lo
  have k2 := own_61 lo
  generalize x.toInt * y.toInt = W at *
  have k3 : lo.toInt % 18446744073709551616 = W % 18446744073709551616 := by omega
  have k4 : lo.toInt % 2305843009213693952 = W % 2305843009213693952 := by omega
  rw [k3] at k2; rw [k4] at k1
  have z1 : 0 ≤ z.toInt ∧ z.toInt < 288230376151711744 := by omega
  have k5 := own_3 z1
  have k6 := own_or (a := z <<< ((3 : Int32) &&& 0x3f).toInt64) (b := own_usrL lo (61 : Int32)) (by omega) (by omega) (by omega)
  refine ⟨?_, m⟩
  rw [hsm, own_la (by rw [k1, k6, k5, k2]; omega), k1, k6, k5, k2, hz]
  omega
theorem own_red {W : Int} (h : 0 ≤ W ∧ W ≤ 2305843009213693950 * 2305843009213693950) (h1 : W % 2305843009213693952 + W / 2305843009213693952 < 2305843009213693951) : W % 2305843009213693952 + W / 2305843009213693952 = W % 2305843009213693951 := by omega
theorem own_red2 {W : Int} (h : 0 ≤ W ∧ W ≤ 2305843009213693950 * 2305843009213693950) (h1 : ¬ W % 2305843009213693952 + W / 2305843009213693952 < 2305843009213693951) : W % 2305843009213693952 + W / 2305843009213693952 - 2305843009213693951 = W % 2305843009213693951 := by omega
theorem own_ml {x y z lo sm : Int64} (hx : 0 ≤ x.toInt ∧ x.toInt < 2305843009213693951) (hy : 0 ≤ y.toInt ∧ y.toInt < 2305843009213693951) (hz : z.toInt = (x.toInt * y.toInt) / 18446744073709551616) (hlo : lo = x * y) (hsm : sm = (lo &&& (2305843009213693951 : Int64)) + ((z <<< ((3 : Int32) &&& 0x3f).toInt64) ||| own_usrL lo (61 : Int32))) (h : sm < (2305843009213693951 : Int64)) : sm.toInt = (x.toInt * y.toInt) % 2305843009213693951 := by
  obtain ⟨k, m⟩ := own_sum hx hy hz hlo hsm
  have e : (2305843009213693951 : Int64).toInt = 2305843009213693951 := rfl
  rw [Int64.lt_iff_toInt_lt, e, k] at h
  rw [k]; exact own_red m h
theorem own_mg {x y z lo sm : Int64} (hx : 0 ≤ x.toInt ∧ x.toInt < 2305843009213693951) (hy : 0 ≤ y.toInt ∧ y.toInt < 2305843009213693951) (hz : z.toInt = (x.toInt * y.toInt) / 18446744073709551616) (hlo : lo = x * y) (hsm : sm = (lo &&& (2305843009213693951 : Int64)) + ((z <<< ((3 : Int32) &&& 0x3f).toInt64) ||| own_usrL lo (61 : Int32))) (h : ¬ sm < (2305843009213693951 : Int64)) : (sm - (2305843009213693951 : Int64)).toInt = (x.toInt * y.toInt) % 2305843009213693951 := by
  obtain ⟨k, m⟩ := own_sum hx hy hz hlo hsm
  have e : (2305843009213693951 : Int64).toInt = 2305843009213693951 := rfl
  have r := rng64 sm
  rw [Int64.lt_iff_toInt_lt, e] at h
  rw [own_ls (by rw [e]; omega), e]
  rw [k] at h ⊢
  exact own_red2 m h
def own_Inv (a r t m s : Int) : Prop := 0 ≤ t ∧ t < r ∧ r ≤ 2305843009213693951 ∧ (∃ u, m * a = r + 2305843009213693951 * u) ∧ (∃ u, s * a = t + 2305843009213693951 * u) ∧ Int.gcd r t = 1 ∧ -2305843009213693951 ≤ 2 * m ∧ 2 * m ≤ 2305843009213693951 ∧ -2305843009213693951 ≤ s ∧ s ≤ 2305843009213693951 ∧
  ((m ≤ 0 ∧ 0 ≤ s ∧ r * s - t * m = 2305843009213693951) ∨ (0 ≤ m ∧ s ≤ 0 ∧ t * m - r * s = 2305843009213693951))
theorem own_inv0 {a : Int} (h : 0 < a ∧ a < 2305843009213693951) : own_Inv a 2305843009213693951 a 0 1 := by
  refine ⟨by omega, by omega, by omega, ⟨-1, by omega⟩, ⟨0, by omega⟩, ?_, by omega, by omega, by omega, by omega, Or.inl ⟨by omega, by omega, by omega⟩⟩
  have q := own_coprime a.toNat (by omega) (by show a.toNat < 2305843009213693951; omega)
  rw [Int.gcd_comm]
  show Nat.gcd a.natAbs (2305843009213693951 : Int).natAbs = 1
  rw [show a.natAbs = a.toNat by omega]; exact q
theorem own_gcdstep {r t q : Int} (h : Int.gcd r t = 1) : Int.gcd t (r - q * t) = 1 := by
  have d1 : ((Int.gcd t (r - q * t) : Nat) : Int) ∣ t := Int.gcd_dvd_left ..
  have d2 : ((Int.gcd t (r - q * t) : Nat) : Int) ∣ r - q * t := Int.gcd_dvd_right ..
  have d3 : ((Int.gcd t (r - q * t) : Nat) : Int) ∣ r := by
    have := Int.dvd_add d2 (Int.dvd_trans d1 (Int.dvd_mul_left q t))
    rwa [Int.sub_add_cancel] at this
  have d4 := Int.dvd_coe_gcd d3 d1
  rw [h] at d4
  exact Nat.dvd_one.mp (Int.natCast_dvd_natCast.mp d4)
theorem own_alg (r t m s q : Int) : t * (m - q * s) - (r - q * t) * s = t * m - r * s := by grind
/-- one turn of Euclid's loop -/
theorem own_step {a r t m s q : Int} (h : own_Inv a r t m s) (ht : 0 < t) (hq : q = r / t) :
    own_Inv a t (r - q * t) s (m - q * s) ∧ 0 ≤ q * t ∧ q * t ≤ r ∧ -2305843009213693951 ≤ q * s ∧ q * s ≤ 2305843009213693951 ∧ r - q * t < t := by
  obtain ⟨h1, h2, h3, ⟨u, h4⟩, ⟨w, h5⟩, h6, h7, h8, h9, h10, h11⟩ := h
  have e1 : r % t = r - q * t := by rw [hq, Int.emod_def, Int.mul_comm]
  have k1 : 0 ≤ r - q * t := by rw [← e1]; exact Int.emod_nonneg _ (by omega)
  have k2 : r - q * t < t := by rw [← e1]; exact Int.emod_lt_of_pos _ ht
  have k3 : 0 ≤ q := by rw [hq]; exact Int.ediv_nonneg (by omega) (by omega)
  have k4 : 0 ≤ q * t := Int.mul_nonneg k3 h1
  have al := own_alg r t m s q
  have c1 : ∃ u, (m - q * s) * a = r - q * t + 2305843009213693951 * u := ⟨u - q * w, by
    rw [Int.sub_mul, Int.mul_assoc, h4, h5]; grind⟩
  have g := own_gcdstep (q := q) h6
  rcases h11 with ⟨p1, p2, p3⟩ | ⟨p1, p2, p3⟩
  · have qs : 0 ≤ q * s := Int.mul_nonneg k3 p2
    have Ts : 0 ≤ (r - q * t) * s := Int.mul_nonneg k1 p2
    have tm : t * m ≤ 0 := Int.mul_nonpos_of_nonneg_of_nonpos h1 p1
    have rs : 2 * s ≤ r * s := Int.mul_le_mul_of_nonneg_right (by omega) p2
    have tS : t * (m - q * s) ≤ 1 * (m - q * s) := Int.mul_le_mul_of_nonpos_right (by omega) (by omega)
    rw [Int.one_mul] at tS
    exact ⟨⟨by omega, by omega, by omega, ⟨w, h5⟩, c1, g, by omega, by omega, by omega, by omega, Or.inr ⟨by omega, by omega, by omega⟩⟩, by omega, by omega, by omega, by omega, by omega⟩
  · have qs : q * s ≤ 0 := Int.mul_nonpos_of_nonneg_of_nonpos k3 p2
    have Ts : (r - q * t) * s ≤ 0 := Int.mul_nonpos_of_nonneg_of_nonpos k1 p2
    have tm : 0 ≤ t * m := Int.mul_nonneg h1 p1
    have rs : r * s ≤ 2 * s := Int.mul_le_mul_of_nonpos_right (by omega) p2
    have tS : 1 * (m - q * s) ≤ t * (m - q * s) := Int.mul_le_mul_of_nonneg_right (by omega) (by omega)
    rw [Int.one_mul] at tS
    exact ⟨⟨by omega, by omega, by omega, ⟨w, h5⟩, c1, g, by omega, by omega, by omega, by omega, Or.inl ⟨by omega, by omega, by omega⟩⟩, by omega, by omega, by omega, by omega, by omega⟩
theorem own_tpos {a r m s : Int} {t : Int64} (h : own_Inv a r t.toInt m s) (ht : ¬ t = (0 : Int64)) : 0 < t.toInt := by
  have h1 := h.1
  rw [← Int64.toInt_inj] at ht
  have e : (0 : Int64).toInt = 0 := rfl
  omega
theorem own_step64 {a : Int} {r t m s : Int64} (h : own_Inv a r.toInt t.toInt m.toInt s.toInt) (ht : ¬ t = (0 : Int64)) :
    own_Inv a t.toInt (r - ((r / t) * t)).toInt s.toInt (m - ((r / t) * s)).toInt ∧ (r - ((r / t) * t)).toInt < t.toInt := by
  have tp := own_tpos h ht
  have hr : 0 ≤ r.toInt := by have h1 := h.1; have h2 := h.2.1; omega
  have eq : (r / t).toInt = r.toInt / t.toInt := (c_ldiv r t t.toInt rfl (fun q => by rw [q] at tp; exact absurd tp (by decide))).1 hr
  have st := own_step h tp eq
  obtain ⟨i1, i2, i3, i4, i5, i6⟩ := st
  have hb := h.2.2.1
  have e1 : ((r / t) * t).toInt = (r / t).toInt * t.toInt := own_lm (by omega)
  have e2 : ((r / t) * s).toInt = (r / t).toInt * s.toInt := own_lm (by omega)
  have rr := rng64 r; have rm := rng64 m
  have bm := h.2.2.2.2.2.2
  have e3 : (r - ((r / t) * t)).toInt = r.toInt - (r / t).toInt * t.toInt := by rw [own_ls (by rw [e1]; omega), e1]
  have e4 : (m - ((r / t) * s)).toInt = m.toInt - (r / t).toInt * s.toInt := by rw [own_ls (by rw [e2]; omega), e2]
  rw [e3, e4]
  exact ⟨i1, i6⟩
theorem own_end {a r m s : Int} (h : own_Inv a r 0 m s) : (0 ≤ m → 0 < m ∧ m < 2305843009213693951 ∧ (a * m) % 2305843009213693951 = 1) ∧ (m < 0 → 0 < m + 2305843009213693951 ∧ m + 2305843009213693951 < 2305843009213693951 ∧ (a * (m + 2305843009213693951)) % 2305843009213693951 = 1) := by
  obtain ⟨h1, h2, h3, ⟨u, h4⟩, -, h6, h7, h8, -⟩ := h
  have er : r = 1 := by
    rw [Int.gcd_zero_right] at h6; omega
  subst er
  have m0 : m ≠ 0 := fun q => by
    subst q
    rw [Int.zero_mul] at h4; omega
  refine ⟨fun q => ⟨by omega, by omega, ?_⟩, fun q => ⟨by omega, by omega, ?_⟩⟩
  · rw [Int.mul_comm, h4, Int.add_mul_emod_self_left]; rfl
  · rw [Int.mul_comm, Int.add_mul, h4, Int.add_assoc, ← Int.mul_add, Int.add_mul_emod_self_left]; rfl
theorem own_end1 {a : Int} {r t m s : Int64} (h : own_Inv a r.toInt t.toInt m.toInt s.toInt) (ht : t = (0 : Int64)) (hm : ¬ m < (0 : Int64)) : 0 < m.toInt ∧ m.toInt < 2305843009213693951 ∧ (a * m.toInt) % 2305843009213693951 = 1 := by
  subst ht
  have e : (0 : Int64).toInt = 0 := rfl
  rw [e] at h
  rw [Int64.lt_iff_toInt_lt, e] at hm
  exact (own_end h).1 (by omega)
theorem own_end2 {a : Int} {r t m s : Int64} (h : own_Inv a r.toInt t.toInt m.toInt s.toInt) (ht : t = (0 : Int64)) (hm : m < (0 : Int64)) : 0 < (m + (2305843009213693951 : Int64)).toInt ∧ (m + (2305843009213693951 : Int64)).toInt < 2305843009213693951 ∧ (a * (m + (2305843009213693951 : Int64)).toInt) % 2305843009213693951 = 1 := by
  subst ht
  have e : (0 : Int64).toInt = 0 := rfl
  have eP : (2305843009213693951 : Int64).toInt = 2305843009213693951 := rfl
  rw [e] at h
  rw [Int64.lt_iff_toInt_lt, e] at hm
  have b := h.2.2.2.2.2.2
  have e2 : (m + (2305843009213693951 : Int64)).toInt = m.toInt + 2305843009213693951 := by rw [own_la (by rw [eP]; omega), eP]
  rw [e2]
  exact (own_end h).2 hm
theorem own_a {x p a : Int64} (hp : p = (2305843009213693951 : Int64)) (ha : a = ((x &&& (9223372036854775807 : Int64)) % (p - (1 : Int64))) + (1 : Int64)) : 0 < a.toInt ∧ a.toInt < 2305843009213693951 := by
  subst hp
  have q := c_maskL x 9223372036854775807 63 (by decide) (by decide)
  have e : ((2305843009213693951 : Int64) - (1 : Int64)).toInt = 2305843009213693950 := by decide +kernel
  generalize x &&& (9223372036854775807 : Int64) = y at *
  have hy : 0 ≤ y.toInt := by omega
  have k : (y % ((2305843009213693951 : Int64) - (1 : Int64))).toInt = y.toInt % 2305843009213693950 := by rw [Int64.toInt_mod, e, Int.tmod_eq_emod_of_nonneg hy]
  have e1 : (1 : Int64).toInt = 1 := rfl
  rw [ha, own_la (by rw [k, e1]; omega), k, e1]
  omega
theorem d2_0 : decode prog_68_method_4_code 0 = .ok (.lload_n 0, 1) := by decide +kernel
theorem d2_1 : decode prog_68_method_4_code 1 = .ok (.lload_n 2, 1) := by decide +kernel
theorem d2_2 : decode prog_68_method_4_code 2 = .ok (.invokestatic 19, 3) := by decide +kernel
theorem d2_5 : decode prog_68_method_4_code 5 = .ok (.lstore 4, 2) := by decide +kernel
theorem d2_7 : decode prog_68_method_4_code 7 = .ok (.lload_n 0, 1) := by decide +kernel
theorem d2_8 : decode prog_68_method_4_code 8 = .ok (.lload_n 2, 1) := by decide +kernel
theorem d2_9 : decode prog_68_method_4_code 9 = .ok (.lmul, 1) := by decide +kernel
theorem d2_10 : decode prog_68_method_4_code 10 = .ok (.lstore 6, 2) := by decide +kernel
theorem d2_12 : decode prog_68_method_4_code 12 = .ok (.lload 6, 2) := by decide +kernel
theorem d2_14 : decode prog_68_method_4_code 14 = .ok (.ldc2_w 17, 3) := by decide +kernel
theorem d2_17 : decode prog_68_method_4_code 17 = .ok (.land, 1) := by decide +kernel
theorem d2_18 : decode prog_68_method_4_code 18 = .ok (.lload 4, 2) := by decide +kernel
theorem d2_20 : decode prog_68_method_4_code 20 = .ok (.iconst 3, 1) := by decide +kernel
theorem d2_21 : decode prog_68_method_4_code 21 = .ok (.lshl, 1) := by decide +kernel
theorem d2_22 : decode prog_68_method_4_code 22 = .ok (.lload 6, 2) := by decide +kernel
theorem d2_24 : decode prog_68_method_4_code 24 = .ok (.bipush 61, 2) := by decide +kernel
theorem d2_26 : decode prog_68_method_4_code 26 = .ok (.lushr, 1) := by decide +kernel
theorem d2_27 : decode prog_68_method_4_code 27 = .ok (.lor, 1) := by decide +kernel
theorem d2_28 : decode prog_68_method_4_code 28 = .ok (.ladd, 1) := by decide +kernel
theorem d2_29 : decode prog_68_method_4_code 29 = .ok (.lstore 8, 2) := by decide +kernel
theorem d2_31 : decode prog_68_method_4_code 31 = .ok (.lload 8, 2) := by decide +kernel
theorem d2_33 : decode prog_68_method_4_code 33 = .ok (.ldc2_w 17, 3) := by decide +kernel
theorem d2_36 : decode prog_68_method_4_code 36 = .ok (.lcmp, 1) := by decide +kernel
theorem d2_37 : decode prog_68_method_4_code 37 = .ok (.ifCond .lt 12, 3) := by decide +kernel
theorem d2_40 : decode prog_68_method_4_code 40 = .ok (.lload 8, 2) := by decide +kernel
theorem d2_42 : decode prog_68_method_4_code 42 = .ok (.ldc2_w 17, 3) := by decide +kernel
theorem d2_45 : decode prog_68_method_4_code 45 = .ok (.lsub, 1) := by decide +kernel
theorem d2_46 : decode prog_68_method_4_code 46 = .ok (.goto 5, 3) := by decide +kernel
theorem d2_49 : decode prog_68_method_4_code 49 = .ok (.lload 8, 2) := by decide +kernel
theorem d2_51 : decode prog_68_method_4_code 51 = .ok (.lreturn, 1) := by decide +kernel
theorem pn_rm2 : plainName "sketchspan/sketch/ModPrime" = true := by first | (simp [plainName, overriddenIn]; done) | decide +kernel
theorem pd_rm2_0 : parseMethodDescriptor "(JJ)J" = some ⟨[.long, .long], some .long⟩ := by decide +kernel
theorem ef_rm2 (m : MethodId) (q0 : Int64) (q1 : Int64) : entryFrame m #[(.long q0), (.long q1)] 10 = mkF m 0 #[.val (.long q0), .second, .val (.long q1), .second, .unset, .unset, .unset, .unset, .unset, .unset] [] := by first | (simp [entryFrame, mkF, argsToLocals, Value.category]; done) | rfl
def Q_rm2 (Z : State) (q0 : Int64) (q1 : Int64) (h0 : Heap) (n0 : Nat) (v : Option Value) (h : Heap) (L : List Loc) : Prop := ∃ z : Int64, v = some (.long z) ∧ Fr n0 L ∧ h = h0 ∧ z.toInt = (q0.toInt * q1.toInt) % 2305843009213693951
set_option maxRecDepth 65536 in
set_option maxHeartbeats 40000000 in
theorem rm2 (l : Launch) (Z : State) (a0 : Array Value) (hw : ∀ d ∈ tables_1, d.before a0 Z = true) (ws : List Jvm.Cond) (q0 : Int64) (q1 : Int64) (h0 : Heap) (n0 : Nat) (Z0 : n0 ≤ h0.size) (hxp : 0 ≤ q0.toInt ∧ q0.toInt < 2305843009213693951) (hyp : 0 ≤ q1.toInt ∧ q1.toInt < 2305843009213693951) :
    MetFree l (⟨"sketchspan/sketch/ModPrime", "multiply", "(JJ)J"⟩ : MethodName) (head1 (Jvm.Cond.code (⟨"sketchspan/sketch/ModPrime", "multiply", "(JJ)J"⟩ : MethodName) prog_68_method_4_code 10 (some .long) :: ws) ({ frames := 1, cells := 0, slots := 0, locals := 31 } : Room)) (fun a U => a = #[(.long q0), (.long q1)] ∧ Z.Warmed39 U.vm ∧ U.heap = h0) (fun _ _ _ _ _ => True) (fun _ U o U' => ∃ v L, o = .returned v ∧ Q_rm2 Z q0 q1 h0 n0 v U'.heap L ∧ FrameEnd U o U' L ({ frames := 1, cells := 0, slots := 0, locals := 31 } : Room).cells ({ frames := 1, cells := 0, slots := 0, locals := 31 } : Room).slots) := by
  refine MetFree.of_bodySF (plainFor_of_name pn_rm2) hisR ?_
  intro p e s m args below meth c s₁ Bd hml0 hP hK
  obtain ⟨rfl, hZ, hh⟩ := hP
  have hx := Bd.exec
  have hby := Bd.bytes
  have hml : c.maxLocals = 10 := hml0
  have hown : s.vm.findClass "sketchspan/sketch/ModPrime" = some m.cls := findClass_of_methodNamed Bd.named
  have hnm := (name_of_methodNamed Bd.named Bd.method).1
  have X0 : Stand p l e ({ frames := 1, cells := 0, slots := 0, locals := 31 } : Room) s m #[(.long q0), (.long q1)] below meth c s₁ [] 0 0 := Stand.of_body Bd
  have e0 : s₁.heap = h0 := by rw [← hh, Bd.state]; rfl
  have N0 := Fr.nil n0
  have K0 := Keep.refl h0 []
  have go0 : Go p e below (s₁.setTop (entryFrame m #[(.long q0), (.long q1)] 10)) (s₁.setTop (mkF m 0 #[.val (.long q0), .second, .val (.long q1), .second, .unset, .unset, .unset, .unset, .unset, .unset] [])) := fun t k => castTop (ef_rm2 m q0 q1) k
  have go1 := go0.step (C := s₁.setTop (mkF m 2 #[.val (.long q0), .second, .val (.long q1), .second, .unset, .unset, .unset, .unset, .unset, .unset] [(.long q1), (.long q0)])) (fun t k => by
    show Steps p.tables e below (s₁.setTop (mkF m 0 #[.val (.long q0), .second, .val (.long q1), .second, .unset, .unset, .unset, .unset, .unset, .unset] [])) _
    refine XS.lloadN X0.here hx rfl (hb hby d2_0) rfl ?_
    show Steps p.tables e below (s₁.setTop (mkF m 1 #[.val (.long q0), .second, .val (.long q1), .second, .unset, .unset, .unset, .unset, .unset, .unset] [(.long q0)])) _
    refine XS.lloadN X0.here hx rfl (hb hby d2_1) rfl ?_
    exact k)
  obtain ⟨_, _, ⟨T2, L2, k2, n2⟩, -, X2, ⟨Lc2, hQ2, l2, y2, z2⟩, st2⟩ := Jvm.LawKit.callS X0 hx (y := (⟨"java/lang/Math", "multiplyHigh", "(JJ)J"⟩ : MethodName)) hown (mvT hZ (hw _ (List.mem_of_getElem? (i := 10) rfl))) (mvT hZ (hw _ (List.mem_of_getElem? (i := 11) rfl))) (mvT hZ (hw _ (List.mem_of_getElem? (i := 12) rfl))) (mvT hZ (hw _ (List.mem_of_getElem? (i := 13) rfl))) (by decide) (backOf (W := 0) (rm3 l Z a0 hw [] q0 q1 h0 n0 Z0 ⟨hxp.1, Int.lt_trans hxp.2 (by decide)⟩ ⟨hyp.1, Int.lt_trans hyp.2 (by decide)⟩) hZ (hw _ (List.mem_of_getElem? (i := 13) rfl)) (hw _ (List.mem_of_getElem? (i := 12) rfl)) (by decide) (by decide)) (g := (mkF m 2 #[.val (.long q0), .second, .val (.long q1), .second, .unset, .unset, .unset, .unset, .unset, .unset] [(.long q1), (.long q0)])) rfl (by rw [hml]; rfl) (argsL := [(.long q0), (.long q1)]) (rest := []) (lenOf pd_rm2_0 rfl) rfl (by show 2 * 0 + _ ≤ _; exact Nat.le_of_eq rfl) (hb hby d2_2) (fun _ _ => ⟨rfl, e0, (by decide : 0 + 0 ≤ _), (by decide : 0 + 0 ≤ _)⟩)
  dsimp only [Pt.U, Pt.locs, Pt.cells, Pt.slots] at X2 l2 y2 z2 st2 hQ2
  rw [l2, y2, z2] at X2
  obtain ⟨z_2, rfl, N2q, e2, qp2_0⟩ := hQ2
  have N2 := Fr.app N0 N2q
  have go2 := go1.step (C := T2.setTop (mkF m 5 #[.val (.long q0), .second, .val (.long q1), .second, .unset, .unset, .unset, .unset, .unset, .unset] [(.long z_2)])) (fun t k => st2 t k)
  have hmh := qp2_0
  have go3 := go2.step (C := T2.setTop (mkF m 10 #[.val (.long q0), .second, .val (.long q1), .second, .val (.long z_2), .second, .unset, .unset, .unset, .unset] [(.long (q0 * q1))])) (fun t k => by
    show Steps p.tables e below (T2.setTop (mkF m 5 #[.val (.long q0), .second, .val (.long q1), .second, .unset, .unset, .unset, .unset, .unset, .unset] [(.long z_2)])) _
    refine XS.lstore X2.here hx rfl (hb hby d2_5) rfl (l' := #[.val (.long q0), .second, .val (.long q1), .second, .val (.long z_2), .second, .unset, .unset, .unset, .unset]) rfl ?_
    show Steps p.tables e below (T2.setTop (mkF m 7 #[.val (.long q0), .second, .val (.long q1), .second, .val (.long z_2), .second, .unset, .unset, .unset, .unset] [])) _
    refine XS.lloadN X2.here hx rfl (hb hby d2_7) rfl ?_
    show Steps p.tables e below (T2.setTop (mkF m 8 #[.val (.long q0), .second, .val (.long q1), .second, .val (.long z_2), .second, .unset, .unset, .unset, .unset] [(.long q0)])) _
    refine XS.lloadN X2.here hx rfl (hb hby d2_8) rfl ?_
    show Steps p.tables e below (T2.setTop (mkF m 9 #[.val (.long q0), .second, .val (.long q1), .second, .val (.long z_2), .second, .unset, .unset, .unset, .unset] [(.long q1), (.long q0)])) _
    refine XS.lmul X2.here hx rfl (hb hby d2_9) rfl ?_
    exact k)
  obtain ⟨lo, hlo⟩ : ∃ z : Int64, z = (q0 * q1) := ⟨_, rfl⟩
  rw [← hlo] at go3
  have go4 := go3.step (C := T2.setTop (mkF m 29 #[.val (.long q0), .second, .val (.long q1), .second, .val (.long z_2), .second, .val (.long lo), .second, .unset, .unset] [(.long ((lo &&& (2305843009213693951 : Int64)) + ((z_2 <<< ((3 : Int32) &&& 0x3f).toInt64) ||| (own_usrL lo (61 : Int32)))))])) (fun t k => by
    show Steps p.tables e below (T2.setTop (mkF m 10 #[.val (.long q0), .second, .val (.long q1), .second, .val (.long z_2), .second, .unset, .unset, .unset, .unset] [(.long lo)])) _
    refine XS.lstore X2.here hx rfl (hb hby d2_10) rfl (l' := #[.val (.long q0), .second, .val (.long q1), .second, .val (.long z_2), .second, .val (.long lo), .second, .unset, .unset]) rfl ?_
    show Steps p.tables e below (T2.setTop (mkF m 12 #[.val (.long q0), .second, .val (.long q1), .second, .val (.long z_2), .second, .val (.long lo), .second, .unset, .unset] [])) _
    refine XS.lload X2.here hx rfl (hb hby d2_12) rfl ?_
    show Steps p.tables e below (T2.setTop (mkF m 14 #[.val (.long q0), .second, .val (.long q1), .second, .val (.long z_2), .second, .val (.long lo), .second, .unset, .unset] [(.long lo)])) _
    refine X2.ldc2Long hx hown (mvT hZ (hw _ (List.mem_of_getElem? (i := 6) rfl))) (g := (mkF m 14 #[.val (.long q0), .second, .val (.long q1), .second, .val (.long z_2), .second, .val (.long lo), .second, .unset, .unset] [(.long lo)])) rfl (hb hby d2_14) _ ?_
    show Steps p.tables e below (T2.setTop (mkF m 17 #[.val (.long q0), .second, .val (.long q1), .second, .val (.long z_2), .second, .val (.long lo), .second, .unset, .unset] [(.long (2305843009213693951 : Int64)), (.long lo)])) _
    refine XS.land X2.here hx rfl (hb hby d2_17) rfl ?_
    show Steps p.tables e below (T2.setTop (mkF m 18 #[.val (.long q0), .second, .val (.long q1), .second, .val (.long z_2), .second, .val (.long lo), .second, .unset, .unset] [(.long (lo &&& (2305843009213693951 : Int64)))])) _
    refine XS.lload X2.here hx rfl (hb hby d2_18) rfl ?_
    show Steps p.tables e below (T2.setTop (mkF m 20 #[.val (.long q0), .second, .val (.long q1), .second, .val (.long z_2), .second, .val (.long lo), .second, .unset, .unset] [(.long z_2), (.long (lo &&& (2305843009213693951 : Int64)))])) _
    refine XS.iconst X2.here hx rfl (hb hby d2_20) ?_
    show Steps p.tables e below (T2.setTop (mkF m 21 #[.val (.long q0), .second, .val (.long q1), .second, .val (.long z_2), .second, .val (.long lo), .second, .unset, .unset] [(.int (3 : Int32)), (.long z_2), (.long (lo &&& (2305843009213693951 : Int64)))])) _
    refine XS.lshl X2.here hx rfl (hb hby d2_21) rfl ?_
    show Steps p.tables e below (T2.setTop (mkF m 22 #[.val (.long q0), .second, .val (.long q1), .second, .val (.long z_2), .second, .val (.long lo), .second, .unset, .unset] [(.long (z_2 <<< ((3 : Int32) &&& 0x3f).toInt64)), (.long (lo &&& (2305843009213693951 : Int64)))])) _
    refine XS.lload X2.here hx rfl (hb hby d2_22) rfl ?_
    show Steps p.tables e below (T2.setTop (mkF m 24 #[.val (.long q0), .second, .val (.long q1), .second, .val (.long z_2), .second, .val (.long lo), .second, .unset, .unset] [(.long lo), (.long (z_2 <<< ((3 : Int32) &&& 0x3f).toInt64)), (.long (lo &&& (2305843009213693951 : Int64)))])) _
    refine XS.bipush X2.here hx rfl (hb hby d2_24) ?_
    show Steps p.tables e below (T2.setTop (mkF m 26 #[.val (.long q0), .second, .val (.long q1), .second, .val (.long z_2), .second, .val (.long lo), .second, .unset, .unset] [(.int (61 : Int32)), (.long lo), (.long (z_2 <<< ((3 : Int32) &&& 0x3f).toInt64)), (.long (lo &&& (2305843009213693951 : Int64)))])) _
    refine XS.lushr X2.here hx rfl (hb hby d2_26) rfl ?_
    show Steps p.tables e below (T2.setTop (mkF m 27 #[.val (.long q0), .second, .val (.long q1), .second, .val (.long z_2), .second, .val (.long lo), .second, .unset, .unset] [(.long (own_usrL lo (61 : Int32))), (.long (z_2 <<< ((3 : Int32) &&& 0x3f).toInt64)), (.long (lo &&& (2305843009213693951 : Int64)))])) _
    refine XS.lor X2.here hx rfl (hb hby d2_27) rfl ?_
    show Steps p.tables e below (T2.setTop (mkF m 28 #[.val (.long q0), .second, .val (.long q1), .second, .val (.long z_2), .second, .val (.long lo), .second, .unset, .unset] [(.long ((z_2 <<< ((3 : Int32) &&& 0x3f).toInt64) ||| (own_usrL lo (61 : Int32)))), (.long (lo &&& (2305843009213693951 : Int64)))])) _
    refine XS.ladd X2.here hx rfl (hb hby d2_28) rfl ?_
    exact k)
  obtain ⟨sm, hsm⟩ : ∃ z : Int64, z = ((lo &&& (2305843009213693951 : Int64)) + ((z_2 <<< ((3 : Int32) &&& 0x3f).toInt64) ||| (own_usrL lo (61 : Int32)))) := ⟨_, rfl⟩
  rw [← hsm] at go4
  have go6 := go4.step (C := T2.setTop (mkF m 37 #[.val (.long q0), .second, .val (.long q1), .second, .val (.long z_2), .second, .val (.long lo), .second, .val (.long sm), .second] [(.int (lcmpW sm (2305843009213693951 : Int64)))])) (fun t k => by
    show Steps p.tables e below (T2.setTop (mkF m 29 #[.val (.long q0), .second, .val (.long q1), .second, .val (.long z_2), .second, .val (.long lo), .second, .unset, .unset] [(.long sm)])) _
    refine XS.lstore X2.here hx rfl (hb hby d2_29) rfl (l' := #[.val (.long q0), .second, .val (.long q1), .second, .val (.long z_2), .second, .val (.long lo), .second, .val (.long sm), .second]) rfl ?_
    show Steps p.tables e below (T2.setTop (mkF m 31 #[.val (.long q0), .second, .val (.long q1), .second, .val (.long z_2), .second, .val (.long lo), .second, .val (.long sm), .second] [])) _
    refine XS.lload X2.here hx rfl (hb hby d2_31) rfl ?_
    show Steps p.tables e below (T2.setTop (mkF m 33 #[.val (.long q0), .second, .val (.long q1), .second, .val (.long z_2), .second, .val (.long lo), .second, .val (.long sm), .second] [(.long sm)])) _
    refine X2.ldc2Long hx hown (mvT hZ (hw _ (List.mem_of_getElem? (i := 6) rfl))) (g := (mkF m 33 #[.val (.long q0), .second, .val (.long q1), .second, .val (.long z_2), .second, .val (.long lo), .second, .val (.long sm), .second] [(.long sm)])) rfl (hb hby d2_33) _ ?_
    show Steps p.tables e below (T2.setTop (mkF m 36 #[.val (.long q0), .second, .val (.long q1), .second, .val (.long z_2), .second, .val (.long lo), .second, .val (.long sm), .second] [(.long (2305843009213693951 : Int64)), (.long sm)])) _
    refine XS.lcmp X2.here hx rfl (hb hby d2_36) rfl ?_
    exact k)
  by_cases hc5 : sm < (2305843009213693951 : Int64)
  · skip
    have go7 := go6.step (C := T2.setTop (mkF m 51 #[.val (.long q0), .second, .val (.long q1), .second, .val (.long z_2), .second, .val (.long lo), .second, .val (.long sm), .second] [(.long sm)])) (fun t k => by
      show Steps p.tables e below (T2.setTop (mkF m 37 #[.val (.long q0), .second, .val (.long q1), .second, .val (.long z_2), .second, .val (.long lo), .second, .val (.long sm), .second] [(.int (lcmpW sm (2305843009213693951 : Int64)))])) _
      refine XS.ifYes X2.here hx rfl (pc0 := 37) (pc' := 49) rfl (hb hby d2_37) rfl ((if0 _ _).trans (tlt ((lw_lt _ _).mpr hc5)).1) (by decide) (by decide) ?_
      show Steps p.tables e below (T2.setTop (mkF m 49 #[.val (.long q0), .second, .val (.long q1), .second, .val (.long z_2), .second, .val (.long lo), .second, .val (.long sm), .second] [])) _
      refine XS.lload X2.here hx rfl (hb hby d2_49) rfl ?_
      exact k)
    obtain ⟨fs, hr, hrun, hended, hW, hsame⟩ := X2.leave (v := some (.long sm)) (fun h => by rw [Bd.returns] at h; cases h)
    refine ⟨_, _, go7 _ ?_, hrun, hended, _, _, rfl, ?_, ⟨_, rfl⟩, hW, hsame.mono (by decide) (by decide)⟩
    · exact own_retL X2 hx Bd.returns (hb hby d2_51) hr
    · show Q_rm2 Z q0 q1 h0 n0 _ T2.heap _
      rw [e2]
      exact ⟨_, rfl, N2, rfl, own_ml hxp hyp hmh hlo hsm hc5⟩
  · skip
    have go8 := go6.step (C := T2.setTop (mkF m 51 #[.val (.long q0), .second, .val (.long q1), .second, .val (.long z_2), .second, .val (.long lo), .second, .val (.long sm), .second] [(.long (sm - (2305843009213693951 : Int64)))])) (fun t k => by
      show Steps p.tables e below (T2.setTop (mkF m 37 #[.val (.long q0), .second, .val (.long q1), .second, .val (.long z_2), .second, .val (.long lo), .second, .val (.long sm), .second] [(.int (lcmpW sm (2305843009213693951 : Int64)))])) _
      refine XS.ifNo X2.here hx rfl (hb hby d2_37) rfl ((if0 _ _).trans (flt (fun q => hc5 ((lw_lt _ _).mp q))).1) ?_
      show Steps p.tables e below (T2.setTop (mkF m 40 #[.val (.long q0), .second, .val (.long q1), .second, .val (.long z_2), .second, .val (.long lo), .second, .val (.long sm), .second] [])) _
      refine XS.lload X2.here hx rfl (hb hby d2_40) rfl ?_
      show Steps p.tables e below (T2.setTop (mkF m 42 #[.val (.long q0), .second, .val (.long q1), .second, .val (.long z_2), .second, .val (.long lo), .second, .val (.long sm), .second] [(.long sm)])) _
      refine X2.ldc2Long hx hown (mvT hZ (hw _ (List.mem_of_getElem? (i := 6) rfl))) (g := (mkF m 42 #[.val (.long q0), .second, .val (.long q1), .second, .val (.long z_2), .second, .val (.long lo), .second, .val (.long sm), .second] [(.long sm)])) rfl (hb hby d2_42) _ ?_
      show Steps p.tables e below (T2.setTop (mkF m 45 #[.val (.long q0), .second, .val (.long q1), .second, .val (.long z_2), .second, .val (.long lo), .second, .val (.long sm), .second] [(.long (2305843009213693951 : Int64)), (.long sm)])) _
      refine XS.lsub X2.here hx rfl (hb hby d2_45) rfl ?_
      show Steps p.tables e below (T2.setTop (mkF m 46 #[.val (.long q0), .second, .val (.long q1), .second, .val (.long z_2), .second, .val (.long lo), .second, .val (.long sm), .second] [(.long (sm - (2305843009213693951 : Int64)))])) _
      refine XS.goto X2.here hx rfl (pc0 := 46) (pc' := 51) rfl (hb hby d2_46) (by decide) (by decide) ?_
      exact k)
    obtain ⟨fs, hr, hrun, hended, hW, hsame⟩ := X2.leave (v := some (.long (sm - (2305843009213693951 : Int64)))) (fun h => by rw [Bd.returns] at h; cases h)
    refine ⟨_, _, go8 _ ?_, hrun, hended, _, _, rfl, ?_, ⟨_, rfl⟩, hW, hsame.mono (by decide) (by decide)⟩
    · exact own_retL X2 hx Bd.returns (hb hby d2_51) hr
    · show Q_rm2 Z q0 q1 h0 n0 _ T2.heap _
      rw [e2]
      exact ⟨_, rfl, N2, rfl, own_mg hxp hyp hmh hlo hsm hc5⟩
theorem own_t0 {a r m s : Int} {t : Int64} (h : own_Inv a r t.toInt m s) (hk : t.toInt ≤ ((0 : Nat) : Int)) : t = (0 : Int64) := by
  apply Int64.toInt_inj.mp
  have h1 := h.1
  have e : (0 : Int64).toInt = 0 := rfl
  omega
theorem d1_13 : decode prog_68_method_5_code 13 = .ok (.lload 4, 2) := by decide +kernel
theorem d1_15 : decode prog_68_method_5_code 15 = .ok (.lconst 0, 1) := by decide +kernel
theorem d1_16 : decode prog_68_method_5_code 16 = .ok (.lcmp, 1) := by decide +kernel
theorem d1_17 : decode prog_68_method_5_code 17 = .ok (.ifCond .eq 46, 3) := by decide +kernel
theorem d1_20 : decode prog_68_method_5_code 20 = .ok (.lload_n 2, 1) := by decide +kernel
theorem d1_21 : decode prog_68_method_5_code 21 = .ok (.lload 4, 2) := by decide +kernel
theorem d1_23 : decode prog_68_method_5_code 23 = .ok (.ldiv, 1) := by decide +kernel
theorem d1_24 : decode prog_68_method_5_code 24 = .ok (.lstore 10, 2) := by decide +kernel
theorem d1_26 : decode prog_68_method_5_code 26 = .ok (.lload_n 2, 1) := by decide +kernel
theorem d1_27 : decode prog_68_method_5_code 27 = .ok (.lload 10, 2) := by decide +kernel
theorem d1_29 : decode prog_68_method_5_code 29 = .ok (.lload 4, 2) := by decide +kernel
theorem d1_31 : decode prog_68_method_5_code 31 = .ok (.lmul, 1) := by decide +kernel
theorem d1_32 : decode prog_68_method_5_code 32 = .ok (.lsub, 1) := by decide +kernel
theorem d1_33 : decode prog_68_method_5_code 33 = .ok (.lstore 12, 2) := by decide +kernel
theorem d1_35 : decode prog_68_method_5_code 35 = .ok (.lload 4, 2) := by decide +kernel
theorem d1_37 : decode prog_68_method_5_code 37 = .ok (.lstore_n 2, 1) := by decide +kernel
theorem d1_38 : decode prog_68_method_5_code 38 = .ok (.lload 12, 2) := by decide +kernel
theorem d1_40 : decode prog_68_method_5_code 40 = .ok (.lstore 4, 2) := by decide +kernel
theorem d1_42 : decode prog_68_method_5_code 42 = .ok (.lload 6, 2) := by decide +kernel
theorem d1_44 : decode prog_68_method_5_code 44 = .ok (.lload 10, 2) := by decide +kernel
theorem d1_46 : decode prog_68_method_5_code 46 = .ok (.lload 8, 2) := by decide +kernel
theorem d1_48 : decode prog_68_method_5_code 48 = .ok (.lmul, 1) := by decide +kernel
theorem d1_49 : decode prog_68_method_5_code 49 = .ok (.lsub, 1) := by decide +kernel
theorem d1_50 : decode prog_68_method_5_code 50 = .ok (.lstore 14, 2) := by decide +kernel
theorem d1_52 : decode prog_68_method_5_code 52 = .ok (.lload 8, 2) := by decide +kernel
theorem d1_54 : decode prog_68_method_5_code 54 = .ok (.lstore 6, 2) := by decide +kernel
theorem d1_56 : decode prog_68_method_5_code 56 = .ok (.lload 14, 2) := by decide +kernel
theorem d1_58 : decode prog_68_method_5_code 58 = .ok (.lstore 8, 2) := by decide +kernel
theorem d1_60 : decode prog_68_method_5_code 60 = .ok (.goto (-47), 3) := by decide +kernel
set_option maxRecDepth 65536 in
set_option maxHeartbeats 40000000 in
theorem lp_iv {p : Program} {l : Launch} {e : Env} {R : Room} {s : State} {m : MethodId} {args : Array Value} {below : List Frame} {meth : Method} {c : Code} {cells slots : Nat} {Z : State} {a0 : Array Value} {A : State} {G : Prop} (q0 : Int64) (h0 : Heap) (n0 : Nat)
    (hx : p.tables.exec = Jvm.exec) (hZ : Z.Warmed39 s.vm) (hw : ∀ d ∈ tables_1, d.before a0 Z = true) (hby : c.code = prog_68_method_5_code) (hml : c.maxLocals = 16) (hown : s.vm.findClass "sketchspan/sketch/ModPrime" = some m.cls)
    (kx0 : ∀ (T : State) (locs : List Loc) (r : Int64) (tt : Int64) (m_ : Int64) (s_ : Int64) (x10 : Int64) (x12 : Int64) (x14 : Int64), Stand p l e R s m args below meth c T locs cells slots → T.heap = h0 → Fr n0 locs → own_Inv q0.toInt r.toInt tt.toInt m_.toInt s_.toInt → tt = (0 : Int64) → Go p e below A (T.setTop (mkF m 63 #[.val (.long q0), .second, .val (.long r), .second, .val (.long tt), .second, .val (.long m_), .second, .val (.long s_), .second, .val (.long x10), .second, .val (.long x12), .second, .val (.long x14), .second] [])) → G)
    : ∀ (k : Nat) (T : State) (locs : List Loc) (r : Int64) (tt : Int64) (m_ : Int64) (s_ : Int64) (x10 : Int64) (x12 : Int64) (x14 : Int64), Stand p l e R s m args below meth c T locs cells slots → T.heap = h0 → Fr n0 locs → own_Inv q0.toInt r.toInt tt.toInt m_.toInt s_.toInt → tt.toInt ≤ ((k : Nat) : Int) → Go p e below A (T.setTop (mkF m 13 #[.val (.long q0), .second, .val (.long r), .second, .val (.long tt), .second, .val (.long m_), .second, .val (.long s_), .second, .val (.long x10), .second, .val (.long x12), .second, .val (.long x14), .second] [])) → G := by
  intro k
  induction k with
  | zero =>
    intro T locs r tt m_ s_ x10 x12 x14 X0 e0 N0 hI hk go0
    have Z0 : n0 ≤ n0 := Nat.le_refl _
    have K0 := Keep.refl h0 []
    have go2 := go0.step (C := T.setTop (mkF m 63 #[.val (.long q0), .second, .val (.long r), .second, .val (.long tt), .second, .val (.long m_), .second, .val (.long s_), .second, .val (.long x10), .second, .val (.long x12), .second, .val (.long x14), .second] [])) (fun t k => by
      show Steps p.tables e below (T.setTop (mkF m 13 #[.val (.long q0), .second, .val (.long r), .second, .val (.long tt), .second, .val (.long m_), .second, .val (.long s_), .second, .val (.long x10), .second, .val (.long x12), .second, .val (.long x14), .second] [])) _
      refine XS.lload X0.here hx rfl (hb hby d1_13) rfl ?_
      show Steps p.tables e below (T.setTop (mkF m 15 #[.val (.long q0), .second, .val (.long r), .second, .val (.long tt), .second, .val (.long m_), .second, .val (.long s_), .second, .val (.long x10), .second, .val (.long x12), .second, .val (.long x14), .second] [(.long tt)])) _
      refine XS.lconst X0.here hx rfl (hb hby d1_15) ?_
      show Steps p.tables e below (T.setTop (mkF m 16 #[.val (.long q0), .second, .val (.long r), .second, .val (.long tt), .second, .val (.long m_), .second, .val (.long s_), .second, .val (.long x10), .second, .val (.long x12), .second, .val (.long x14), .second] [(.long (0 : Int64)), (.long tt)])) _
      refine XS.lcmp X0.here hx rfl (hb hby d1_16) rfl ?_
      show Steps p.tables e below (T.setTop (mkF m 17 #[.val (.long q0), .second, .val (.long r), .second, .val (.long tt), .second, .val (.long m_), .second, .val (.long s_), .second, .val (.long x10), .second, .val (.long x12), .second, .val (.long x14), .second] [(.int (lcmpW tt (0 : Int64)))])) _
      refine XS.ifYes X0.here hx rfl (pc0 := 17) (pc' := 63) rfl (hb hby d1_17) rfl ((if0 _ _).trans (teq ((lw_eq _ _).mpr (own_t0 hI hk : tt = (0 : Int64)))).1) (by decide) (by decide) ?_
      exact k)
    exact kx0 T _ r tt m_ s_ x10 x12 x14 X0 e0 N0 hI (own_t0 hI hk) go2
  | succ k ih =>
    intro T locs r tt m_ s_ x10 x12 x14 X0 e0 N0 hI hk go0
    have Z0 : n0 ≤ n0 := Nat.le_refl _
    have K0 := Keep.refl h0 []
    have go4 := go0.step (C := T.setTop (mkF m 17 #[.val (.long q0), .second, .val (.long r), .second, .val (.long tt), .second, .val (.long m_), .second, .val (.long s_), .second, .val (.long x10), .second, .val (.long x12), .second, .val (.long x14), .second] [(.int (lcmpW tt (0 : Int64)))])) (fun t k => by
      show Steps p.tables e below (T.setTop (mkF m 13 #[.val (.long q0), .second, .val (.long r), .second, .val (.long tt), .second, .val (.long m_), .second, .val (.long s_), .second, .val (.long x10), .second, .val (.long x12), .second, .val (.long x14), .second] [])) _
      refine XS.lload X0.here hx rfl (hb hby d1_13) rfl ?_
      show Steps p.tables e below (T.setTop (mkF m 15 #[.val (.long q0), .second, .val (.long r), .second, .val (.long tt), .second, .val (.long m_), .second, .val (.long s_), .second, .val (.long x10), .second, .val (.long x12), .second, .val (.long x14), .second] [(.long tt)])) _
      refine XS.lconst X0.here hx rfl (hb hby d1_15) ?_
      show Steps p.tables e below (T.setTop (mkF m 16 #[.val (.long q0), .second, .val (.long r), .second, .val (.long tt), .second, .val (.long m_), .second, .val (.long s_), .second, .val (.long x10), .second, .val (.long x12), .second, .val (.long x14), .second] [(.long (0 : Int64)), (.long tt)])) _
      refine XS.lcmp X0.here hx rfl (hb hby d1_16) rfl ?_
      exact k)
    by_cases hc3 : tt = (0 : Int64)
    · skip
      have go5 := go4.step (C := T.setTop (mkF m 63 #[.val (.long q0), .second, .val (.long r), .second, .val (.long tt), .second, .val (.long m_), .second, .val (.long s_), .second, .val (.long x10), .second, .val (.long x12), .second, .val (.long x14), .second] [])) (fun t k => by
        show Steps p.tables e below (T.setTop (mkF m 17 #[.val (.long q0), .second, .val (.long r), .second, .val (.long tt), .second, .val (.long m_), .second, .val (.long s_), .second, .val (.long x10), .second, .val (.long x12), .second, .val (.long x14), .second] [(.int (lcmpW tt (0 : Int64)))])) _
        refine XS.ifYes X0.here hx rfl (pc0 := 17) (pc' := 63) rfl (hb hby d1_17) rfl ((if0 _ _).trans (teq ((lw_eq _ _).mpr hc3)).1) (by decide) (by decide) ?_
        exact k)
      exact kx0 T _ r tt m_ s_ x10 x12 x14 X0 e0 N0 hI hc3 go5
    · skip
      have go6 := go4.step (C := T.setTop (mkF m 13 #[.val (.long q0), .second, .val (.long tt), .second, .val (.long (r - ((r / tt) * tt))), .second, .val (.long s_), .second, .val (.long (m_ - ((r / tt) * s_))), .second, .val (.long (r / tt)), .second, .val (.long (r - ((r / tt) * tt))), .second, .val (.long (m_ - ((r / tt) * s_))), .second] [])) (fun t k => by
        show Steps p.tables e below (T.setTop (mkF m 17 #[.val (.long q0), .second, .val (.long r), .second, .val (.long tt), .second, .val (.long m_), .second, .val (.long s_), .second, .val (.long x10), .second, .val (.long x12), .second, .val (.long x14), .second] [(.int (lcmpW tt (0 : Int64)))])) _
        refine XS.ifNo X0.here hx rfl (hb hby d1_17) rfl ((if0 _ _).trans (feq (fun q => hc3 ((lw_eq _ _).mp q))).1) ?_
        show Steps p.tables e below (T.setTop (mkF m 20 #[.val (.long q0), .second, .val (.long r), .second, .val (.long tt), .second, .val (.long m_), .second, .val (.long s_), .second, .val (.long x10), .second, .val (.long x12), .second, .val (.long x14), .second] [])) _
        refine XS.lloadN X0.here hx rfl (hb hby d1_20) rfl ?_
        show Steps p.tables e below (T.setTop (mkF m 21 #[.val (.long q0), .second, .val (.long r), .second, .val (.long tt), .second, .val (.long m_), .second, .val (.long s_), .second, .val (.long x10), .second, .val (.long x12), .second, .val (.long x14), .second] [(.long r)])) _
        refine XS.lload X0.here hx rfl (hb hby d1_21) rfl ?_
        show Steps p.tables e below (T.setTop (mkF m 23 #[.val (.long q0), .second, .val (.long r), .second, .val (.long tt), .second, .val (.long m_), .second, .val (.long s_), .second, .val (.long x10), .second, .val (.long x12), .second, .val (.long x14), .second] [(.long tt), (.long r)])) _
        refine XS.ldiv X0.here hx rfl (hb hby d1_23) rfl hc3 ?_
        show Steps p.tables e below (T.setTop (mkF m 24 #[.val (.long q0), .second, .val (.long r), .second, .val (.long tt), .second, .val (.long m_), .second, .val (.long s_), .second, .val (.long x10), .second, .val (.long x12), .second, .val (.long x14), .second] [(.long (r / tt))])) _
        refine XS.lstore X0.here hx rfl (hb hby d1_24) rfl (l' := #[.val (.long q0), .second, .val (.long r), .second, .val (.long tt), .second, .val (.long m_), .second, .val (.long s_), .second, .val (.long (r / tt)), .second, .val (.long x12), .second, .val (.long x14), .second]) rfl ?_
        show Steps p.tables e below (T.setTop (mkF m 26 #[.val (.long q0), .second, .val (.long r), .second, .val (.long tt), .second, .val (.long m_), .second, .val (.long s_), .second, .val (.long (r / tt)), .second, .val (.long x12), .second, .val (.long x14), .second] [])) _
        refine XS.lloadN X0.here hx rfl (hb hby d1_26) rfl ?_
        show Steps p.tables e below (T.setTop (mkF m 27 #[.val (.long q0), .second, .val (.long r), .second, .val (.long tt), .second, .val (.long m_), .second, .val (.long s_), .second, .val (.long (r / tt)), .second, .val (.long x12), .second, .val (.long x14), .second] [(.long r)])) _
        refine XS.lload X0.here hx rfl (hb hby d1_27) rfl ?_
        show Steps p.tables e below (T.setTop (mkF m 29 #[.val (.long q0), .second, .val (.long r), .second, .val (.long tt), .second, .val (.long m_), .second, .val (.long s_), .second, .val (.long (r / tt)), .second, .val (.long x12), .second, .val (.long x14), .second] [(.long (r / tt)), (.long r)])) _
        refine XS.lload X0.here hx rfl (hb hby d1_29) rfl ?_
        show Steps p.tables e below (T.setTop (mkF m 31 #[.val (.long q0), .second, .val (.long r), .second, .val (.long tt), .second, .val (.long m_), .second, .val (.long s_), .second, .val (.long (r / tt)), .second, .val (.long x12), .second, .val (.long x14), .second] [(.long tt), (.long (r / tt)), (.long r)])) _
        refine XS.lmul X0.here hx rfl (hb hby d1_31) rfl ?_
        show Steps p.tables e below (T.setTop (mkF m 32 #[.val (.long q0), .second, .val (.long r), .second, .val (.long tt), .second, .val (.long m_), .second, .val (.long s_), .second, .val (.long (r / tt)), .second, .val (.long x12), .second, .val (.long x14), .second] [(.long ((r / tt) * tt)), (.long r)])) _
        refine XS.lsub X0.here hx rfl (hb hby d1_32) rfl ?_
        show Steps p.tables e below (T.setTop (mkF m 33 #[.val (.long q0), .second, .val (.long r), .second, .val (.long tt), .second, .val (.long m_), .second, .val (.long s_), .second, .val (.long (r / tt)), .second, .val (.long x12), .second, .val (.long x14), .second] [(.long (r - ((r / tt) * tt)))])) _
        refine XS.lstore X0.here hx rfl (hb hby d1_33) rfl (l' := #[.val (.long q0), .second, .val (.long r), .second, .val (.long tt), .second, .val (.long m_), .second, .val (.long s_), .second, .val (.long (r / tt)), .second, .val (.long (r - ((r / tt) * tt))), .second, .val (.long x14), .second]) rfl ?_
        show Steps p.tables e below (T.setTop (mkF m 35 #[.val (.long q0), .second, .val (.long r), .second, .val (.long tt), .second, .val (.long m_), .second, .val (.long s_), .second, .val (.long (r / tt)), .second, .val (.long (r - ((r / tt) * tt))), .second, .val (.long x14), .second] [])) _
        refine XS.lload X0.here hx rfl (hb hby d1_35) rfl ?_
        show Steps p.tables e below (T.setTop (mkF m 37 #[.val (.long q0), .second, .val (.long r), .second, .val (.long tt), .second, .val (.long m_), .second, .val (.long s_), .second, .val (.long (r / tt)), .second, .val (.long (r - ((r / tt) * tt))), .second, .val (.long x14), .second] [(.long tt)])) _
        refine XS.lstoreN X0.here hx rfl (hb hby d1_37) rfl (l' := #[.val (.long q0), .second, .val (.long tt), .second, .val (.long tt), .second, .val (.long m_), .second, .val (.long s_), .second, .val (.long (r / tt)), .second, .val (.long (r - ((r / tt) * tt))), .second, .val (.long x14), .second]) rfl ?_
        show Steps p.tables e below (T.setTop (mkF m 38 #[.val (.long q0), .second, .val (.long tt), .second, .val (.long tt), .second, .val (.long m_), .second, .val (.long s_), .second, .val (.long (r / tt)), .second, .val (.long (r - ((r / tt) * tt))), .second, .val (.long x14), .second] [])) _
        refine XS.lload X0.here hx rfl (hb hby d1_38) rfl ?_
        show Steps p.tables e below (T.setTop (mkF m 40 #[.val (.long q0), .second, .val (.long tt), .second, .val (.long tt), .second, .val (.long m_), .second, .val (.long s_), .second, .val (.long (r / tt)), .second, .val (.long (r - ((r / tt) * tt))), .second, .val (.long x14), .second] [(.long (r - ((r / tt) * tt)))])) _
        refine XS.lstore X0.here hx rfl (hb hby d1_40) rfl (l' := #[.val (.long q0), .second, .val (.long tt), .second, .val (.long (r - ((r / tt) * tt))), .second, .val (.long m_), .second, .val (.long s_), .second, .val (.long (r / tt)), .second, .val (.long (r - ((r / tt) * tt))), .second, .val (.long x14), .second]) rfl ?_
        show Steps p.tables e below (T.setTop (mkF m 42 #[.val (.long q0), .second, .val (.long tt), .second, .val (.long (r - ((r / tt) * tt))), .second, .val (.long m_), .second, .val (.long s_), .second, .val (.long (r / tt)), .second, .val (.long (r - ((r / tt) * tt))), .second, .val (.long x14), .second] [])) _
        refine XS.lload X0.here hx rfl (hb hby d1_42) rfl ?_
        show Steps p.tables e below (T.setTop (mkF m 44 #[.val (.long q0), .second, .val (.long tt), .second, .val (.long (r - ((r / tt) * tt))), .second, .val (.long m_), .second, .val (.long s_), .second, .val (.long (r / tt)), .second, .val (.long (r - ((r / tt) * tt))), .second, .val (.long x14), .second] [(.long m_)])) _
        refine XS.lload X0.here hx rfl (hb hby d1_44) rfl ?_
        show Steps p.tables e below (T.setTop (mkF m 46 #[.val (.long q0), .second, .val (.long tt), .second, .val (.long (r - ((r / tt) * tt))), .second, .val (.long m_), .second, .val (.long s_), .second, .val (.long (r / tt)), .second, .val (.long (r - ((r / tt) * tt))), .second, .val (.long x14), .second] [(.long (r / tt)), (.long m_)])) _
        refine XS.lload X0.here hx rfl (hb hby d1_46) rfl ?_
        show Steps p.tables e below (T.setTop (mkF m 48 #[.val (.long q0), .second, .val (.long tt), .second, .val (.long (r - ((r / tt) * tt))), .second, .val (.long m_), .second, .val (.long s_), .second, .val (.long (r / tt)), .second, .val (.long (r - ((r / tt) * tt))), .second, .val (.long x14), .second] [(.long s_), (.long (r / tt)), (.long m_)])) _
        refine XS.lmul X0.here hx rfl (hb hby d1_48) rfl ?_
        show Steps p.tables e below (T.setTop (mkF m 49 #[.val (.long q0), .second, .val (.long tt), .second, .val (.long (r - ((r / tt) * tt))), .second, .val (.long m_), .second, .val (.long s_), .second, .val (.long (r / tt)), .second, .val (.long (r - ((r / tt) * tt))), .second, .val (.long x14), .second] [(.long ((r / tt) * s_)), (.long m_)])) _
        refine XS.lsub X0.here hx rfl (hb hby d1_49) rfl ?_
        show Steps p.tables e below (T.setTop (mkF m 50 #[.val (.long q0), .second, .val (.long tt), .second, .val (.long (r - ((r / tt) * tt))), .second, .val (.long m_), .second, .val (.long s_), .second, .val (.long (r / tt)), .second, .val (.long (r - ((r / tt) * tt))), .second, .val (.long x14), .second] [(.long (m_ - ((r / tt) * s_)))])) _
        refine XS.lstore X0.here hx rfl (hb hby d1_50) rfl (l' := #[.val (.long q0), .second, .val (.long tt), .second, .val (.long (r - ((r / tt) * tt))), .second, .val (.long m_), .second, .val (.long s_), .second, .val (.long (r / tt)), .second, .val (.long (r - ((r / tt) * tt))), .second, .val (.long (m_ - ((r / tt) * s_))), .second]) rfl ?_
        show Steps p.tables e below (T.setTop (mkF m 52 #[.val (.long q0), .second, .val (.long tt), .second, .val (.long (r - ((r / tt) * tt))), .second, .val (.long m_), .second, .val (.long s_), .second, .val (.long (r / tt)), .second, .val (.long (r - ((r / tt) * tt))), .second, .val (.long (m_ - ((r / tt) * s_))), .second] [])) _
        refine XS.lload X0.here hx rfl (hb hby d1_52) rfl ?_
        show Steps p.tables e below (T.setTop (mkF m 54 #[.val (.long q0), .second, .val (.long tt), .second, .val (.long (r - ((r / tt) * tt))), .second, .val (.long m_), .second, .val (.long s_), .second, .val (.long (r / tt)), .second, .val (.long (r - ((r / tt) * tt))), .second, .val (.long (m_ - ((r / tt) * s_))), .second] [(.long s_)])) _
        refine XS.lstore X0.here hx rfl (hb hby d1_54) rfl (l' := #[.val (.long q0), .second, .val (.long tt), .second, .val (.long (r - ((r / tt) * tt))), .second, .val (.long s_), .second, .val (.long s_), .second, .val (.long (r / tt)), .second, .val (.long (r - ((r / tt) * tt))), .second, .val (.long (m_ - ((r / tt) * s_))), .second]) rfl ?_
        show Steps p.tables e below (T.setTop (mkF m 56 #[.val (.long q0), .second, .val (.long tt), .second, .val (.long (r - ((r / tt) * tt))), .second, .val (.long s_), .second, .val (.long s_), .second, .val (.long (r / tt)), .second, .val (.long (r - ((r / tt) * tt))), .second, .val (.long (m_ - ((r / tt) * s_))), .second] [])) _
        refine XS.lload X0.here hx rfl (hb hby d1_56) rfl ?_
        show Steps p.tables e below (T.setTop (mkF m 58 #[.val (.long q0), .second, .val (.long tt), .second, .val (.long (r - ((r / tt) * tt))), .second, .val (.long s_), .second, .val (.long s_), .second, .val (.long (r / tt)), .second, .val (.long (r - ((r / tt) * tt))), .second, .val (.long (m_ - ((r / tt) * s_))), .second] [(.long (m_ - ((r / tt) * s_)))])) _
        refine XS.lstore X0.here hx rfl (hb hby d1_58) rfl (l' := #[.val (.long q0), .second, .val (.long tt), .second, .val (.long (r - ((r / tt) * tt))), .second, .val (.long s_), .second, .val (.long (m_ - ((r / tt) * s_))), .second, .val (.long (r / tt)), .second, .val (.long (r - ((r / tt) * tt))), .second, .val (.long (m_ - ((r / tt) * s_))), .second]) rfl ?_
        show Steps p.tables e below (T.setTop (mkF m 60 #[.val (.long q0), .second, .val (.long tt), .second, .val (.long (r - ((r / tt) * tt))), .second, .val (.long s_), .second, .val (.long (m_ - ((r / tt) * s_))), .second, .val (.long (r / tt)), .second, .val (.long (r - ((r / tt) * tt))), .second, .val (.long (m_ - ((r / tt) * s_))), .second] [])) _
        refine XS.goto X0.here hx rfl (pc0 := 60) (pc' := 13) rfl (hb hby d1_60) (by decide) (by decide) ?_
        exact k)
      exact ih T _ tt (r - ((r / tt) * tt)) s_ (m_ - ((r / tt) * s_)) (r / tt) (r - ((r / tt) * tt)) (m_ - ((r / tt) * s_)) X0 e0 N0 (own_step64 hI hc3).1 (by have := (own_step64 hI hc3).2; omega) go6
theorem d1_0 : decode prog_68_method_5_code 0 = .ok (.ldc2_w 17, 3) := by decide +kernel
theorem d1_3 : decode prog_68_method_5_code 3 = .ok (.lstore_n 2, 1) := by decide +kernel
theorem d1_4 : decode prog_68_method_5_code 4 = .ok (.lload_n 0, 1) := by decide +kernel
theorem d1_5 : decode prog_68_method_5_code 5 = .ok (.lstore 4, 2) := by decide +kernel
theorem d1_7 : decode prog_68_method_5_code 7 = .ok (.lconst 0, 1) := by decide +kernel
theorem d1_8 : decode prog_68_method_5_code 8 = .ok (.lstore 6, 2) := by decide +kernel
theorem d1_10 : decode prog_68_method_5_code 10 = .ok (.lconst 1, 1) := by decide +kernel
theorem d1_11 : decode prog_68_method_5_code 11 = .ok (.lstore 8, 2) := by decide +kernel
theorem d1_63 : decode prog_68_method_5_code 63 = .ok (.lload 6, 2) := by decide +kernel
theorem d1_65 : decode prog_68_method_5_code 65 = .ok (.lconst 0, 1) := by decide +kernel
theorem d1_66 : decode prog_68_method_5_code 66 = .ok (.lcmp, 1) := by decide +kernel
theorem d1_67 : decode prog_68_method_5_code 67 = .ok (.ifCond .ge 12, 3) := by decide +kernel
theorem d1_70 : decode prog_68_method_5_code 70 = .ok (.lload 6, 2) := by decide +kernel
theorem d1_72 : decode prog_68_method_5_code 72 = .ok (.ldc2_w 17, 3) := by decide +kernel
theorem d1_75 : decode prog_68_method_5_code 75 = .ok (.ladd, 1) := by decide +kernel
theorem d1_76 : decode prog_68_method_5_code 76 = .ok (.goto 5, 3) := by decide +kernel
theorem d1_79 : decode prog_68_method_5_code 79 = .ok (.lload 6, 2) := by decide +kernel
theorem d1_81 : decode prog_68_method_5_code 81 = .ok (.lreturn, 1) := by decide +kernel
theorem pn_rm1 : plainName "sketchspan/sketch/ModPrime" = true := by first | (simp [plainName, overriddenIn]; done) | decide +kernel
theorem ef_rm1 (m : MethodId) (q0 : Int64) : entryFrame m #[(.long q0)] 16 = mkF m 0 #[.val (.long q0), .second, .unset, .unset, .unset, .unset, .unset, .unset, .unset, .unset, .unset, .unset, .unset, .unset, .unset, .unset] [] := by first | (simp [entryFrame, mkF, argsToLocals, Value.category]; done) | rfl
def Q_rm1 (Z : State) (q0 : Int64) (h0 : Heap) (n0 : Nat) (v : Option Value) (h : Heap) (L : List Loc) : Prop := ∃ b : Int64, v = some (.long b) ∧ Fr n0 L ∧ h = h0 ∧ 0 < b.toInt ∧ b.toInt < 2305843009213693951 ∧ (q0.toInt * b.toInt) % 2305843009213693951 = 1
set_option maxRecDepth 65536 in
set_option maxHeartbeats 40000000 in
theorem rm1 (l : Launch) (Z : State) (a0 : Array Value) (hw : ∀ d ∈ tables_1, d.before a0 Z = true) (ws : List Jvm.Cond) (q0 : Int64) (h0 : Heap) (n0 : Nat) (Z0 : n0 ≤ h0.size) (ha : 0 < q0.toInt ∧ q0.toInt < 2305843009213693951) :
    MetFree l (⟨"sketchspan/sketch/ModPrime", "inverse", "(J)J"⟩ : MethodName) (head1 (Jvm.Cond.code (⟨"sketchspan/sketch/ModPrime", "inverse", "(J)J"⟩ : MethodName) prog_68_method_5_code 16 (some .long) :: ws) ({ frames := 0, cells := 0, slots := 0, locals := 0 } : Room)) (fun a U => a = #[(.long q0)] ∧ Z.Warmed39 U.vm ∧ U.heap = h0) (fun _ _ _ _ _ => True) (fun _ U o U' => ∃ v L, o = .returned v ∧ Q_rm1 Z q0 h0 n0 v U'.heap L ∧ FrameEnd U o U' L ({ frames := 0, cells := 0, slots := 0, locals := 0 } : Room).cells ({ frames := 0, cells := 0, slots := 0, locals := 0 } : Room).slots) := by
  refine MetFree.of_bodySF (plainFor_of_name pn_rm1) hisR ?_
  intro p e s m args below meth c s₁ Bd hml0 hP hK
  obtain ⟨rfl, hZ, hh⟩ := hP
  have hx := Bd.exec
  have hby := Bd.bytes
  have hml : c.maxLocals = 16 := hml0
  have hown : s.vm.findClass "sketchspan/sketch/ModPrime" = some m.cls := findClass_of_methodNamed Bd.named
  have hnm := (name_of_methodNamed Bd.named Bd.method).1
  have X0 : Stand p l e ({ frames := 0, cells := 0, slots := 0, locals := 0 } : Room) s m #[(.long q0)] below meth c s₁ [] 0 0 := Stand.of_body Bd
  have e0 : s₁.heap = h0 := by rw [← hh, Bd.state]; rfl
  have N0 := Fr.nil n0
  have K0 := Keep.refl h0 []
  have go0 : Go p e below (s₁.setTop (entryFrame m #[(.long q0)] 16)) (s₁.setTop (mkF m 0 #[.val (.long q0), .second, .unset, .unset, .unset, .unset, .unset, .unset, .unset, .unset, .unset, .unset, .unset, .unset, .unset, .unset] [])) := fun t k => castTop (ef_rm1 m q0) k
  have ha0 : ¬ q0 = (0 : Int64) := fun q => by
    rw [q] at ha; exact absurd ha.1 (by decide)
  have go2 := go0.step (C := s₁.setTop (mkF m 13 #[.val (.long q0), .second, .val (.long q0), .second, .val (.long ((2305843009213693951 : Int64) - (((2305843009213693951 : Int64) / q0) * q0))), .second, .val (.long (1 : Int64)), .second, .val (.long ((0 : Int64) - (((2305843009213693951 : Int64) / q0) * (1 : Int64)))), .second, .val (.long ((2305843009213693951 : Int64) / q0)), .second, .val (.long ((2305843009213693951 : Int64) - (((2305843009213693951 : Int64) / q0) * q0))), .second, .val (.long ((0 : Int64) - (((2305843009213693951 : Int64) / q0) * (1 : Int64)))), .second] [])) (fun t k => by
    show Steps p.tables e below (s₁.setTop (mkF m 0 #[.val (.long q0), .second, .unset, .unset, .unset, .unset, .unset, .unset, .unset, .unset, .unset, .unset, .unset, .unset, .unset, .unset] [])) _
    refine X0.ldc2Long hx hown (mvT hZ (hw _ (List.mem_of_getElem? (i := 6) rfl))) (g := (mkF m 0 #[.val (.long q0), .second, .unset, .unset, .unset, .unset, .unset, .unset, .unset, .unset, .unset, .unset, .unset, .unset, .unset, .unset] [])) rfl (hb hby d1_0) _ ?_
    show Steps p.tables e below (s₁.setTop (mkF m 3 #[.val (.long q0), .second, .unset, .unset, .unset, .unset, .unset, .unset, .unset, .unset, .unset, .unset, .unset, .unset, .unset, .unset] [(.long (2305843009213693951 : Int64))])) _
    refine XS.lstoreN X0.here hx rfl (hb hby d1_3) rfl (l' := #[.val (.long q0), .second, .val (.long (2305843009213693951 : Int64)), .second, .unset, .unset, .unset, .unset, .unset, .unset, .unset, .unset, .unset, .unset, .unset, .unset]) rfl ?_
    show Steps p.tables e below (s₁.setTop (mkF m 4 #[.val (.long q0), .second, .val (.long (2305843009213693951 : Int64)), .second, .unset, .unset, .unset, .unset, .unset, .unset, .unset, .unset, .unset, .unset, .unset, .unset] [])) _
    refine XS.lloadN X0.here hx rfl (hb hby d1_4) rfl ?_
    show Steps p.tables e below (s₁.setTop (mkF m 5 #[.val (.long q0), .second, .val (.long (2305843009213693951 : Int64)), .second, .unset, .unset, .unset, .unset, .unset, .unset, .unset, .unset, .unset, .unset, .unset, .unset] [(.long q0)])) _
    refine XS.lstore X0.here hx rfl (hb hby d1_5) rfl (l' := #[.val (.long q0), .second, .val (.long (2305843009213693951 : Int64)), .second, .val (.long q0), .second, .unset, .unset, .unset, .unset, .unset, .unset, .unset, .unset, .unset, .unset]) rfl ?_
    show Steps p.tables e below (s₁.setTop (mkF m 7 #[.val (.long q0), .second, .val (.long (2305843009213693951 : Int64)), .second, .val (.long q0), .second, .unset, .unset, .unset, .unset, .unset, .unset, .unset, .unset, .unset, .unset] [])) _
    refine XS.lconst X0.here hx rfl (hb hby d1_7) ?_
    show Steps p.tables e below (s₁.setTop (mkF m 8 #[.val (.long q0), .second, .val (.long (2305843009213693951 : Int64)), .second, .val (.long q0), .second, .unset, .unset, .unset, .unset, .unset, .unset, .unset, .unset, .unset, .unset] [(.long (0 : Int64))])) _
    refine XS.lstore X0.here hx rfl (hb hby d1_8) rfl (l' := #[.val (.long q0), .second, .val (.long (2305843009213693951 : Int64)), .second, .val (.long q0), .second, .val (.long (0 : Int64)), .second, .unset, .unset, .unset, .unset, .unset, .unset, .unset, .unset]) rfl ?_
    show Steps p.tables e below (s₁.setTop (mkF m 10 #[.val (.long q0), .second, .val (.long (2305843009213693951 : Int64)), .second, .val (.long q0), .second, .val (.long (0 : Int64)), .second, .unset, .unset, .unset, .unset, .unset, .unset, .unset, .unset] [])) _
    refine XS.lconst X0.here hx rfl (hb hby d1_10) ?_
    show Steps p.tables e below (s₁.setTop (mkF m 11 #[.val (.long q0), .second, .val (.long (2305843009213693951 : Int64)), .second, .val (.long q0), .second, .val (.long (0 : Int64)), .second, .unset, .unset, .unset, .unset, .unset, .unset, .unset, .unset] [(.long (1 : Int64))])) _
    refine XS.lstore X0.here hx rfl (hb hby d1_11) rfl (l' := #[.val (.long q0), .second, .val (.long (2305843009213693951 : Int64)), .second, .val (.long q0), .second, .val (.long (0 : Int64)), .second, .val (.long (1 : Int64)), .second, .unset, .unset, .unset, .unset, .unset, .unset]) rfl ?_
    show Steps p.tables e below (s₁.setTop (mkF m 13 #[.val (.long q0), .second, .val (.long (2305843009213693951 : Int64)), .second, .val (.long q0), .second, .val (.long (0 : Int64)), .second, .val (.long (1 : Int64)), .second, .unset, .unset, .unset, .unset, .unset, .unset] [])) _
    refine XS.lload X0.here hx rfl (hb hby d1_13) rfl ?_
    show Steps p.tables e below (s₁.setTop (mkF m 15 #[.val (.long q0), .second, .val (.long (2305843009213693951 : Int64)), .second, .val (.long q0), .second, .val (.long (0 : Int64)), .second, .val (.long (1 : Int64)), .second, .unset, .unset, .unset, .unset, .unset, .unset] [(.long q0)])) _
    refine XS.lconst X0.here hx rfl (hb hby d1_15) ?_
    show Steps p.tables e below (s₁.setTop (mkF m 16 #[.val (.long q0), .second, .val (.long (2305843009213693951 : Int64)), .second, .val (.long q0), .second, .val (.long (0 : Int64)), .second, .val (.long (1 : Int64)), .second, .unset, .unset, .unset, .unset, .unset, .unset] [(.long (0 : Int64)), (.long q0)])) _
    refine XS.lcmp X0.here hx rfl (hb hby d1_16) rfl ?_
    show Steps p.tables e below (s₁.setTop (mkF m 17 #[.val (.long q0), .second, .val (.long (2305843009213693951 : Int64)), .second, .val (.long q0), .second, .val (.long (0 : Int64)), .second, .val (.long (1 : Int64)), .second, .unset, .unset, .unset, .unset, .unset, .unset] [(.int (lcmpW q0 (0 : Int64)))])) _
    refine XS.ifNo X0.here hx rfl (hb hby d1_17) rfl ((if0 _ _).trans (feq (fun q => (ha0 : ¬ (q0 = (0 : Int64))) ((lw_eq _ _).mp q))).1) ?_
    show Steps p.tables e below (s₁.setTop (mkF m 20 #[.val (.long q0), .second, .val (.long (2305843009213693951 : Int64)), .second, .val (.long q0), .second, .val (.long (0 : Int64)), .second, .val (.long (1 : Int64)), .second, .unset, .unset, .unset, .unset, .unset, .unset] [])) _
    refine XS.lloadN X0.here hx rfl (hb hby d1_20) rfl ?_
    show Steps p.tables e below (s₁.setTop (mkF m 21 #[.val (.long q0), .second, .val (.long (2305843009213693951 : Int64)), .second, .val (.long q0), .second, .val (.long (0 : Int64)), .second, .val (.long (1 : Int64)), .second, .unset, .unset, .unset, .unset, .unset, .unset] [(.long (2305843009213693951 : Int64))])) _
    refine XS.lload X0.here hx rfl (hb hby d1_21) rfl ?_
    show Steps p.tables e below (s₁.setTop (mkF m 23 #[.val (.long q0), .second, .val (.long (2305843009213693951 : Int64)), .second, .val (.long q0), .second, .val (.long (0 : Int64)), .second, .val (.long (1 : Int64)), .second, .unset, .unset, .unset, .unset, .unset, .unset] [(.long q0), (.long (2305843009213693951 : Int64))])) _
    refine XS.ldiv X0.here hx rfl (hb hby d1_23) rfl ha0 ?_
    show Steps p.tables e below (s₁.setTop (mkF m 24 #[.val (.long q0), .second, .val (.long (2305843009213693951 : Int64)), .second, .val (.long q0), .second, .val (.long (0 : Int64)), .second, .val (.long (1 : Int64)), .second, .unset, .unset, .unset, .unset, .unset, .unset] [(.long ((2305843009213693951 : Int64) / q0))])) _
    refine XS.lstore X0.here hx rfl (hb hby d1_24) rfl (l' := #[.val (.long q0), .second, .val (.long (2305843009213693951 : Int64)), .second, .val (.long q0), .second, .val (.long (0 : Int64)), .second, .val (.long (1 : Int64)), .second, .val (.long ((2305843009213693951 : Int64) / q0)), .second, .unset, .unset, .unset, .unset]) rfl ?_
    show Steps p.tables e below (s₁.setTop (mkF m 26 #[.val (.long q0), .second, .val (.long (2305843009213693951 : Int64)), .second, .val (.long q0), .second, .val (.long (0 : Int64)), .second, .val (.long (1 : Int64)), .second, .val (.long ((2305843009213693951 : Int64) / q0)), .second, .unset, .unset, .unset, .unset] [])) _
    refine XS.lloadN X0.here hx rfl (hb hby d1_26) rfl ?_
    show Steps p.tables e below (s₁.setTop (mkF m 27 #[.val (.long q0), .second, .val (.long (2305843009213693951 : Int64)), .second, .val (.long q0), .second, .val (.long (0 : Int64)), .second, .val (.long (1 : Int64)), .second, .val (.long ((2305843009213693951 : Int64) / q0)), .second, .unset, .unset, .unset, .unset] [(.long (2305843009213693951 : Int64))])) _
    refine XS.lload X0.here hx rfl (hb hby d1_27) rfl ?_
    show Steps p.tables e below (s₁.setTop (mkF m 29 #[.val (.long q0), .second, .val (.long (2305843009213693951 : Int64)), .second, .val (.long q0), .second, .val (.long (0 : Int64)), .second, .val (.long (1 : Int64)), .second, .val (.long ((2305843009213693951 : Int64) / q0)), .second, .unset, .unset, .unset, .unset] [(.long ((2305843009213693951 : Int64) / q0)), (.long (2305843009213693951 : Int64))])) _
    refine XS.lload X0.here hx rfl (hb hby d1_29) rfl ?_
    show Steps p.tables e below (s₁.setTop (mkF m 31 #[.val (.long q0), .second, .val (.long (2305843009213693951 : Int64)), .second, .val (.long q0), .second, .val (.long (0 : Int64)), .second, .val (.long (1 : Int64)), .second, .val (.long ((2305843009213693951 : Int64) / q0)), .second, .unset, .unset, .unset, .unset] [(.long q0), (.long ((2305843009213693951 : Int64) / q0)), (.long (2305843009213693951 : Int64))])) _
    refine XS.lmul X0.here hx rfl (hb hby d1_31) rfl ?_
    show Steps p.tables e below (s₁.setTop (mkF m 32 #[.val (.long q0), .second, .val (.long (2305843009213693951 : Int64)), .second, .val (.long q0), .second, .val (.long (0 : Int64)), .second, .val (.long (1 : Int64)), .second, .val (.long ((2305843009213693951 : Int64) / q0)), .second, .unset, .unset, .unset, .unset] [(.long (((2305843009213693951 : Int64) / q0) * q0)), (.long (2305843009213693951 : Int64))])) _
    refine XS.lsub X0.here hx rfl (hb hby d1_32) rfl ?_
    show Steps p.tables e below (s₁.setTop (mkF m 33 #[.val (.long q0), .second, .val (.long (2305843009213693951 : Int64)), .second, .val (.long q0), .second, .val (.long (0 : Int64)), .second, .val (.long (1 : Int64)), .second, .val (.long ((2305843009213693951 : Int64) / q0)), .second, .unset, .unset, .unset, .unset] [(.long ((2305843009213693951 : Int64) - (((2305843009213693951 : Int64) / q0) * q0)))])) _
    refine XS.lstore X0.here hx rfl (hb hby d1_33) rfl (l' := #[.val (.long q0), .second, .val (.long (2305843009213693951 : Int64)), .second, .val (.long q0), .second, .val (.long (0 : Int64)), .second, .val (.long (1 : Int64)), .second, .val (.long ((2305843009213693951 : Int64) / q0)), .second, .val (.long ((2305843009213693951 : Int64) - (((2305843009213693951 : Int64) / q0) * q0))), .second, .unset, .unset]) rfl ?_
    show Steps p.tables e below (s₁.setTop (mkF m 35 #[.val (.long q0), .second, .val (.long (2305843009213693951 : Int64)), .second, .val (.long q0), .second, .val (.long (0 : Int64)), .second, .val (.long (1 : Int64)), .second, .val (.long ((2305843009213693951 : Int64) / q0)), .second, .val (.long ((2305843009213693951 : Int64) - (((2305843009213693951 : Int64) / q0) * q0))), .second, .unset, .unset] [])) _
    refine XS.lload X0.here hx rfl (hb hby d1_35) rfl ?_
    show Steps p.tables e below (s₁.setTop (mkF m 37 #[.val (.long q0), .second, .val (.long (2305843009213693951 : Int64)), .second, .val (.long q0), .second, .val (.long (0 : Int64)), .second, .val (.long (1 : Int64)), .second, .val (.long ((2305843009213693951 : Int64) / q0)), .second, .val (.long ((2305843009213693951 : Int64) - (((2305843009213693951 : Int64) / q0) * q0))), .second, .unset, .unset] [(.long q0)])) _
    refine XS.lstoreN X0.here hx rfl (hb hby d1_37) rfl (l' := #[.val (.long q0), .second, .val (.long q0), .second, .val (.long q0), .second, .val (.long (0 : Int64)), .second, .val (.long (1 : Int64)), .second, .val (.long ((2305843009213693951 : Int64) / q0)), .second, .val (.long ((2305843009213693951 : Int64) - (((2305843009213693951 : Int64) / q0) * q0))), .second, .unset, .unset]) rfl ?_
    show Steps p.tables e below (s₁.setTop (mkF m 38 #[.val (.long q0), .second, .val (.long q0), .second, .val (.long q0), .second, .val (.long (0 : Int64)), .second, .val (.long (1 : Int64)), .second, .val (.long ((2305843009213693951 : Int64) / q0)), .second, .val (.long ((2305843009213693951 : Int64) - (((2305843009213693951 : Int64) / q0) * q0))), .second, .unset, .unset] [])) _
    refine XS.lload X0.here hx rfl (hb hby d1_38) rfl ?_
    show Steps p.tables e below (s₁.setTop (mkF m 40 #[.val (.long q0), .second, .val (.long q0), .second, .val (.long q0), .second, .val (.long (0 : Int64)), .second, .val (.long (1 : Int64)), .second, .val (.long ((2305843009213693951 : Int64) / q0)), .second, .val (.long ((2305843009213693951 : Int64) - (((2305843009213693951 : Int64) / q0) * q0))), .second, .unset, .unset] [(.long ((2305843009213693951 : Int64) - (((2305843009213693951 : Int64) / q0) * q0)))])) _
    refine XS.lstore X0.here hx rfl (hb hby d1_40) rfl (l' := #[.val (.long q0), .second, .val (.long q0), .second, .val (.long ((2305843009213693951 : Int64) - (((2305843009213693951 : Int64) / q0) * q0))), .second, .val (.long (0 : Int64)), .second, .val (.long (1 : Int64)), .second, .val (.long ((2305843009213693951 : Int64) / q0)), .second, .val (.long ((2305843009213693951 : Int64) - (((2305843009213693951 : Int64) / q0) * q0))), .second, .unset, .unset]) rfl ?_
    show Steps p.tables e below (s₁.setTop (mkF m 42 #[.val (.long q0), .second, .val (.long q0), .second, .val (.long ((2305843009213693951 : Int64) - (((2305843009213693951 : Int64) / q0) * q0))), .second, .val (.long (0 : Int64)), .second, .val (.long (1 : Int64)), .second, .val (.long ((2305843009213693951 : Int64) / q0)), .second, .val (.long ((2305843009213693951 : Int64) - (((2305843009213693951 : Int64) / q0) * q0))), .second, .unset, .unset] [])) _
    refine XS.lload X0.here hx rfl (hb hby d1_42) rfl ?_
    show Steps p.tables e below (s₁.setTop (mkF m 44 #[.val (.long q0), .second, .val (.long q0), .second, .val (.long ((2305843009213693951 : Int64) - (((2305843009213693951 : Int64) / q0) * q0))), .second, .val (.long (0 : Int64)), .second, .val (.long (1 : Int64)), .second, .val (.long ((2305843009213693951 : Int64) / q0)), .second, .val (.long ((2305843009213693951 : Int64) - (((2305843009213693951 : Int64) / q0) * q0))), .second, .unset, .unset] [(.long (0 : Int64))])) _
    refine XS.lload X0.here hx rfl (hb hby d1_44) rfl ?_
    show Steps p.tables e below (s₁.setTop (mkF m 46 #[.val (.long q0), .second, .val (.long q0), .second, .val (.long ((2305843009213693951 : Int64) - (((2305843009213693951 : Int64) / q0) * q0))), .second, .val (.long (0 : Int64)), .second, .val (.long (1 : Int64)), .second, .val (.long ((2305843009213693951 : Int64) / q0)), .second, .val (.long ((2305843009213693951 : Int64) - (((2305843009213693951 : Int64) / q0) * q0))), .second, .unset, .unset] [(.long ((2305843009213693951 : Int64) / q0)), (.long (0 : Int64))])) _
    refine XS.lload X0.here hx rfl (hb hby d1_46) rfl ?_
    show Steps p.tables e below (s₁.setTop (mkF m 48 #[.val (.long q0), .second, .val (.long q0), .second, .val (.long ((2305843009213693951 : Int64) - (((2305843009213693951 : Int64) / q0) * q0))), .second, .val (.long (0 : Int64)), .second, .val (.long (1 : Int64)), .second, .val (.long ((2305843009213693951 : Int64) / q0)), .second, .val (.long ((2305843009213693951 : Int64) - (((2305843009213693951 : Int64) / q0) * q0))), .second, .unset, .unset] [(.long (1 : Int64)), (.long ((2305843009213693951 : Int64) / q0)), (.long (0 : Int64))])) _
    refine XS.lmul X0.here hx rfl (hb hby d1_48) rfl ?_
    show Steps p.tables e below (s₁.setTop (mkF m 49 #[.val (.long q0), .second, .val (.long q0), .second, .val (.long ((2305843009213693951 : Int64) - (((2305843009213693951 : Int64) / q0) * q0))), .second, .val (.long (0 : Int64)), .second, .val (.long (1 : Int64)), .second, .val (.long ((2305843009213693951 : Int64) / q0)), .second, .val (.long ((2305843009213693951 : Int64) - (((2305843009213693951 : Int64) / q0) * q0))), .second, .unset, .unset] [(.long (((2305843009213693951 : Int64) / q0) * (1 : Int64))), (.long (0 : Int64))])) _
    refine XS.lsub X0.here hx rfl (hb hby d1_49) rfl ?_
    show Steps p.tables e below (s₁.setTop (mkF m 50 #[.val (.long q0), .second, .val (.long q0), .second, .val (.long ((2305843009213693951 : Int64) - (((2305843009213693951 : Int64) / q0) * q0))), .second, .val (.long (0 : Int64)), .second, .val (.long (1 : Int64)), .second, .val (.long ((2305843009213693951 : Int64) / q0)), .second, .val (.long ((2305843009213693951 : Int64) - (((2305843009213693951 : Int64) / q0) * q0))), .second, .unset, .unset] [(.long ((0 : Int64) - (((2305843009213693951 : Int64) / q0) * (1 : Int64))))])) _
    refine XS.lstore X0.here hx rfl (hb hby d1_50) rfl (l' := #[.val (.long q0), .second, .val (.long q0), .second, .val (.long ((2305843009213693951 : Int64) - (((2305843009213693951 : Int64) / q0) * q0))), .second, .val (.long (0 : Int64)), .second, .val (.long (1 : Int64)), .second, .val (.long ((2305843009213693951 : Int64) / q0)), .second, .val (.long ((2305843009213693951 : Int64) - (((2305843009213693951 : Int64) / q0) * q0))), .second, .val (.long ((0 : Int64) - (((2305843009213693951 : Int64) / q0) * (1 : Int64)))), .second]) rfl ?_
    show Steps p.tables e below (s₁.setTop (mkF m 52 #[.val (.long q0), .second, .val (.long q0), .second, .val (.long ((2305843009213693951 : Int64) - (((2305843009213693951 : Int64) / q0) * q0))), .second, .val (.long (0 : Int64)), .second, .val (.long (1 : Int64)), .second, .val (.long ((2305843009213693951 : Int64) / q0)), .second, .val (.long ((2305843009213693951 : Int64) - (((2305843009213693951 : Int64) / q0) * q0))), .second, .val (.long ((0 : Int64) - (((2305843009213693951 : Int64) / q0) * (1 : Int64)))), .second] [])) _
    refine XS.lload X0.here hx rfl (hb hby d1_52) rfl ?_
    show Steps p.tables e below (s₁.setTop (mkF m 54 #[.val (.long q0), .second, .val (.long q0), .second, .val (.long ((2305843009213693951 : Int64) - (((2305843009213693951 : Int64) / q0) * q0))), .second, .val (.long (0 : Int64)), .second, .val (.long (1 : Int64)), .second, .val (.long ((2305843009213693951 : Int64) / q0)), .second, .val (.long ((2305843009213693951 : Int64) - (((2305843009213693951 : Int64) / q0) * q0))), .second, .val (.long ((0 : Int64) - (((2305843009213693951 : Int64) / q0) * (1 : Int64)))), .second] [(.long (1 : Int64))])) _
    refine XS.lstore X0.here hx rfl (hb hby d1_54) rfl (l' := #[.val (.long q0), .second, .val (.long q0), .second, .val (.long ((2305843009213693951 : Int64) - (((2305843009213693951 : Int64) / q0) * q0))), .second, .val (.long (1 : Int64)), .second, .val (.long (1 : Int64)), .second, .val (.long ((2305843009213693951 : Int64) / q0)), .second, .val (.long ((2305843009213693951 : Int64) - (((2305843009213693951 : Int64) / q0) * q0))), .second, .val (.long ((0 : Int64) - (((2305843009213693951 : Int64) / q0) * (1 : Int64)))), .second]) rfl ?_
    show Steps p.tables e below (s₁.setTop (mkF m 56 #[.val (.long q0), .second, .val (.long q0), .second, .val (.long ((2305843009213693951 : Int64) - (((2305843009213693951 : Int64) / q0) * q0))), .second, .val (.long (1 : Int64)), .second, .val (.long (1 : Int64)), .second, .val (.long ((2305843009213693951 : Int64) / q0)), .second, .val (.long ((2305843009213693951 : Int64) - (((2305843009213693951 : Int64) / q0) * q0))), .second, .val (.long ((0 : Int64) - (((2305843009213693951 : Int64) / q0) * (1 : Int64)))), .second] [])) _
    refine XS.lload X0.here hx rfl (hb hby d1_56) rfl ?_
    show Steps p.tables e below (s₁.setTop (mkF m 58 #[.val (.long q0), .second, .val (.long q0), .second, .val (.long ((2305843009213693951 : Int64) - (((2305843009213693951 : Int64) / q0) * q0))), .second, .val (.long (1 : Int64)), .second, .val (.long (1 : Int64)), .second, .val (.long ((2305843009213693951 : Int64) / q0)), .second, .val (.long ((2305843009213693951 : Int64) - (((2305843009213693951 : Int64) / q0) * q0))), .second, .val (.long ((0 : Int64) - (((2305843009213693951 : Int64) / q0) * (1 : Int64)))), .second] [(.long ((0 : Int64) - (((2305843009213693951 : Int64) / q0) * (1 : Int64))))])) _
    refine XS.lstore X0.here hx rfl (hb hby d1_58) rfl (l' := #[.val (.long q0), .second, .val (.long q0), .second, .val (.long ((2305843009213693951 : Int64) - (((2305843009213693951 : Int64) / q0) * q0))), .second, .val (.long (1 : Int64)), .second, .val (.long ((0 : Int64) - (((2305843009213693951 : Int64) / q0) * (1 : Int64)))), .second, .val (.long ((2305843009213693951 : Int64) / q0)), .second, .val (.long ((2305843009213693951 : Int64) - (((2305843009213693951 : Int64) / q0) * q0))), .second, .val (.long ((0 : Int64) - (((2305843009213693951 : Int64) / q0) * (1 : Int64)))), .second]) rfl ?_
    show Steps p.tables e below (s₁.setTop (mkF m 60 #[.val (.long q0), .second, .val (.long q0), .second, .val (.long ((2305843009213693951 : Int64) - (((2305843009213693951 : Int64) / q0) * q0))), .second, .val (.long (1 : Int64)), .second, .val (.long ((0 : Int64) - (((2305843009213693951 : Int64) / q0) * (1 : Int64)))), .second, .val (.long ((2305843009213693951 : Int64) / q0)), .second, .val (.long ((2305843009213693951 : Int64) - (((2305843009213693951 : Int64) / q0) * q0))), .second, .val (.long ((0 : Int64) - (((2305843009213693951 : Int64) / q0) * (1 : Int64)))), .second] [])) _
    refine XS.goto X0.here hx rfl (pc0 := 60) (pc' := 13) rfl (hb hby d1_60) (by decide) (by decide) ?_
    exact k)
  have hI0 : own_Inv q0.toInt (2305843009213693951 : Int64).toInt q0.toInt (0 : Int64).toInt (1 : Int64).toInt := own_inv0 ha
  have hI1 := own_step64 hI0 ha0
  refine lp_iv q0 h0 n0 hx hZ hw hby hml hown ?_ ((2305843009213693951 : Int64) - (((2305843009213693951 : Int64) / q0) * q0)).toInt.toNat s₁ _ q0 ((2305843009213693951 : Int64) - (((2305843009213693951 : Int64) / q0) * q0)) (1 : Int64) ((0 : Int64) - (((2305843009213693951 : Int64) / q0) * (1 : Int64))) ((2305843009213693951 : Int64) / q0) ((2305843009213693951 : Int64) - (((2305843009213693951 : Int64) / q0) * q0)) ((0 : Int64) - (((2305843009213693951 : Int64) / q0) * (1 : Int64))) X0 e0 N0 hI1.1 (by have q := hI1.1.1; omega) go2
  intro T9 locs9 r9 t9 m9 s9 x9 y9 z9 X9 e9 N9 hI9 ht9 go9
  have go4 := go9.step (C := T9.setTop (mkF m 67 #[.val (.long q0), .second, .val (.long r9), .second, .val (.long t9), .second, .val (.long m9), .second, .val (.long s9), .second, .val (.long x9), .second, .val (.long y9), .second, .val (.long z9), .second] [(.int (lcmpW m9 (0 : Int64)))])) (fun t k => by
    show Steps p.tables e below (T9.setTop (mkF m 63 #[.val (.long q0), .second, .val (.long r9), .second, .val (.long t9), .second, .val (.long m9), .second, .val (.long s9), .second, .val (.long x9), .second, .val (.long y9), .second, .val (.long z9), .second] [])) _
    refine XS.lload X9.here hx rfl (hb hby d1_63) rfl ?_
    show Steps p.tables e below (T9.setTop (mkF m 65 #[.val (.long q0), .second, .val (.long r9), .second, .val (.long t9), .second, .val (.long m9), .second, .val (.long s9), .second, .val (.long x9), .second, .val (.long y9), .second, .val (.long z9), .second] [(.long m9)])) _
    refine XS.lconst X9.here hx rfl (hb hby d1_65) ?_
    show Steps p.tables e below (T9.setTop (mkF m 66 #[.val (.long q0), .second, .val (.long r9), .second, .val (.long t9), .second, .val (.long m9), .second, .val (.long s9), .second, .val (.long x9), .second, .val (.long y9), .second, .val (.long z9), .second] [(.long (0 : Int64)), (.long m9)])) _
    refine XS.lcmp X9.here hx rfl (hb hby d1_66) rfl ?_
    exact k)
  by_cases hc3 : m9 < (0 : Int64)
  · skip
    have go5 := go4.step (C := T9.setTop (mkF m 81 #[.val (.long q0), .second, .val (.long r9), .second, .val (.long t9), .second, .val (.long m9), .second, .val (.long s9), .second, .val (.long x9), .second, .val (.long y9), .second, .val (.long z9), .second] [(.long (m9 + (2305843009213693951 : Int64)))])) (fun t k => by
      show Steps p.tables e below (T9.setTop (mkF m 67 #[.val (.long q0), .second, .val (.long r9), .second, .val (.long t9), .second, .val (.long m9), .second, .val (.long s9), .second, .val (.long x9), .second, .val (.long y9), .second, .val (.long z9), .second] [(.int (lcmpW m9 (0 : Int64)))])) _
      refine XS.ifNo X9.here hx rfl (hb hby d1_67) rfl ((if0 _ _).trans (tlt ((lw_lt _ _).mpr hc3)).2.1) ?_
      show Steps p.tables e below (T9.setTop (mkF m 70 #[.val (.long q0), .second, .val (.long r9), .second, .val (.long t9), .second, .val (.long m9), .second, .val (.long s9), .second, .val (.long x9), .second, .val (.long y9), .second, .val (.long z9), .second] [])) _
      refine XS.lload X9.here hx rfl (hb hby d1_70) rfl ?_
      show Steps p.tables e below (T9.setTop (mkF m 72 #[.val (.long q0), .second, .val (.long r9), .second, .val (.long t9), .second, .val (.long m9), .second, .val (.long s9), .second, .val (.long x9), .second, .val (.long y9), .second, .val (.long z9), .second] [(.long m9)])) _
      refine X9.ldc2Long hx hown (mvT hZ (hw _ (List.mem_of_getElem? (i := 6) rfl))) (g := (mkF m 72 #[.val (.long q0), .second, .val (.long r9), .second, .val (.long t9), .second, .val (.long m9), .second, .val (.long s9), .second, .val (.long x9), .second, .val (.long y9), .second, .val (.long z9), .second] [(.long m9)])) rfl (hb hby d1_72) _ ?_
      show Steps p.tables e below (T9.setTop (mkF m 75 #[.val (.long q0), .second, .val (.long r9), .second, .val (.long t9), .second, .val (.long m9), .second, .val (.long s9), .second, .val (.long x9), .second, .val (.long y9), .second, .val (.long z9), .second] [(.long (2305843009213693951 : Int64)), (.long m9)])) _
      refine XS.ladd X9.here hx rfl (hb hby d1_75) rfl ?_
      show Steps p.tables e below (T9.setTop (mkF m 76 #[.val (.long q0), .second, .val (.long r9), .second, .val (.long t9), .second, .val (.long m9), .second, .val (.long s9), .second, .val (.long x9), .second, .val (.long y9), .second, .val (.long z9), .second] [(.long (m9 + (2305843009213693951 : Int64)))])) _
      refine XS.goto X9.here hx rfl (pc0 := 76) (pc' := 81) rfl (hb hby d1_76) (by decide) (by decide) ?_
      exact k)
    obtain ⟨fs, hr, hrun, hended, hW, hsame⟩ := X9.leave (v := some (.long (m9 + (2305843009213693951 : Int64)))) (fun h => by rw [Bd.returns] at h; cases h)
    refine ⟨_, _, go5 _ ?_, hrun, hended, _, _, rfl, ?_, ⟨_, rfl⟩, hW, hsame.mono (by decide) (by decide)⟩
    · exact own_retL X9 hx Bd.returns (hb hby d1_81) hr
    · show Q_rm1 Z q0 h0 n0 _ T9.heap _
      rw [e9]
      exact ⟨_, rfl, N9, rfl, own_end2 hI9 ht9 hc3⟩
  · skip
    have go6 := go4.step (C := T9.setTop (mkF m 81 #[.val (.long q0), .second, .val (.long r9), .second, .val (.long t9), .second, .val (.long m9), .second, .val (.long s9), .second, .val (.long x9), .second, .val (.long y9), .second, .val (.long z9), .second] [(.long m9)])) (fun t k => by
      show Steps p.tables e below (T9.setTop (mkF m 67 #[.val (.long q0), .second, .val (.long r9), .second, .val (.long t9), .second, .val (.long m9), .second, .val (.long s9), .second, .val (.long x9), .second, .val (.long y9), .second, .val (.long z9), .second] [(.int (lcmpW m9 (0 : Int64)))])) _
      refine XS.ifYes X9.here hx rfl (pc0 := 67) (pc' := 79) rfl (hb hby d1_67) rfl ((if0 _ _).trans (flt (fun q => hc3 ((lw_lt _ _).mp q))).2.1) (by decide) (by decide) ?_
      show Steps p.tables e below (T9.setTop (mkF m 79 #[.val (.long q0), .second, .val (.long r9), .second, .val (.long t9), .second, .val (.long m9), .second, .val (.long s9), .second, .val (.long x9), .second, .val (.long y9), .second, .val (.long z9), .second] [])) _
      refine XS.lload X9.here hx rfl (hb hby d1_79) rfl ?_
      exact k)
    obtain ⟨fs, hr, hrun, hended, hW, hsame⟩ := X9.leave (v := some (.long m9)) (fun h => by rw [Bd.returns] at h; cases h)
    refine ⟨_, _, go6 _ ?_, hrun, hended, _, _, rfl, ?_, ⟨_, rfl⟩, hW, hsame.mono (by decide) (by decide)⟩
    · exact own_retL X9 hx Bd.returns (hb hby d1_81) hr
    · show Q_rm1 Z q0 h0 n0 _ T9.heap _
      rw [e9]
      exact ⟨_, rfl, N9, rfl, own_end1 hI9 ht9 hc3⟩
theorem pn_rm0 : plainName "sketchspan/sketch/ModPrimeInversePinLaw" = true := by first | (simp [plainName, overriddenIn]; done) | decide +kernel
theorem pd_rm0_0 : parseMethodDescriptor "(J)J" = some ⟨[.long], some .long⟩ := by decide +kernel
theorem pd_rm0_1 : parseMethodDescriptor "(JJ)J" = some ⟨[.long, .long], some .long⟩ := by decide +kernel
theorem ef_rm0 (m : MethodId) (q0 : Int64) : entryFrame m #[(.long q0)] maxLocals = mkF m 0 #[.val (.long q0), .second, .unset, .unset, .unset, .unset, .unset, .unset] [] := by first | (simp [entryFrame, mkF, argsToLocals, Value.category, maxLocals]; done) | rfl
def Q_rm0 (Z : State) (q0 : Int64) (h0 : Heap) (n0 : Nat) (v : Option Value) (h : Heap) (L : List Loc) : Prop := v = some (.int (1 : Int32)) ∧ Fr n0 L
set_option maxRecDepth 65536 in
set_option maxHeartbeats 40000000 in
theorem rm0 (l : Launch) (Z : State) (a0 : Array Value) (hw : ∀ d ∈ tables_1, d.before a0 Z = true) (ws : List Jvm.Cond) (q0 : Int64) (h0 : Heap) (n0 : Nat) (Z0 : n0 ≤ h0.size) :
    MetFree l x (head1 (Jvm.Cond.code x code maxLocals ret :: ws) room_1) (fun a U => a = #[(.long q0)] ∧ Z.Warmed39 U.vm ∧ U.heap = h0) (fun _ _ _ _ _ => True) (fun _ U o U' => ∃ v L, o = .returned v ∧ Q_rm0 Z q0 h0 n0 v U'.heap L ∧ FrameEnd U o U' L room_1.cells room_1.slots) := by
  refine MetFree.of_bodySF (plainFor_of_name pn_rm0) hisR ?_
  intro p e s m args below meth c s₁ Bd hml0 hP hK
  obtain ⟨rfl, hZ, hh⟩ := hP
  have hx := Bd.exec
  have hby := Bd.bytes
  have hml : c.maxLocals = 8 := hml0
  have hown : s.vm.findClass "sketchspan/sketch/ModPrimeInversePinLaw" = some m.cls := findClass_of_methodNamed Bd.named
  have hnm := (name_of_methodNamed Bd.named Bd.method).1
  have X0 : Stand p l e room_1 s m #[(.long q0)] below meth c s₁ [] 0 0 := Stand.of_body Bd
  have e0 : s₁.heap = h0 := by rw [← hh, Bd.state]; rfl
  have N0 := Fr.nil n0
  have K0 := Keep.refl h0 []
  have go0 : Go p e below (s₁.setTop (entryFrame m #[(.long q0)] maxLocals)) (s₁.setTop (mkF m 0 #[.val (.long q0), .second, .unset, .unset, .unset, .unset, .unset, .unset] [])) := fun t k => castTop (ef_rm0 m q0) k
  have go1 := go0.step (C := s₁.setTop (mkF m 15 #[.val (.long q0), .second, .val (.long (2305843009213693951 : Int64)), .second, .unset, .unset, .unset, .unset] [(.long (((q0 &&& (9223372036854775807 : Int64)) % ((2305843009213693951 : Int64) - (1 : Int64))) + (1 : Int64)))])) (fun t k => by
    show Steps p.tables e below (s₁.setTop (mkF m 0 #[.val (.long q0), .second, .unset, .unset, .unset, .unset, .unset, .unset] [])) _
    refine X0.ldc2Long hx hown (mvT hZ (hw _ (List.mem_of_getElem? (i := 0) rfl))) (g := (mkF m 0 #[.val (.long q0), .second, .unset, .unset, .unset, .unset, .unset, .unset] [])) rfl (hb hby at_0) _ ?_
    show Steps p.tables e below (s₁.setTop (mkF m 3 #[.val (.long q0), .second, .unset, .unset, .unset, .unset, .unset, .unset] [(.long (2305843009213693951 : Int64))])) _
    refine XS.lstoreN X0.here hx rfl (hb hby at_3) rfl (l' := #[.val (.long q0), .second, .val (.long (2305843009213693951 : Int64)), .second, .unset, .unset, .unset, .unset]) rfl ?_
    show Steps p.tables e below (s₁.setTop (mkF m 4 #[.val (.long q0), .second, .val (.long (2305843009213693951 : Int64)), .second, .unset, .unset, .unset, .unset] [])) _
    refine XS.lloadN X0.here hx rfl (hb hby at_4) rfl ?_
    show Steps p.tables e below (s₁.setTop (mkF m 5 #[.val (.long q0), .second, .val (.long (2305843009213693951 : Int64)), .second, .unset, .unset, .unset, .unset] [(.long q0)])) _
    refine X0.ldc2Long hx hown (mvT hZ (hw _ (List.mem_of_getElem? (i := 1) rfl))) (g := (mkF m 5 #[.val (.long q0), .second, .val (.long (2305843009213693951 : Int64)), .second, .unset, .unset, .unset, .unset] [(.long q0)])) rfl (hb hby at_5) _ ?_
    show Steps p.tables e below (s₁.setTop (mkF m 8 #[.val (.long q0), .second, .val (.long (2305843009213693951 : Int64)), .second, .unset, .unset, .unset, .unset] [(.long (9223372036854775807 : Int64)), (.long q0)])) _
    refine XS.land X0.here hx rfl (hb hby at_8) rfl ?_
    show Steps p.tables e below (s₁.setTop (mkF m 9 #[.val (.long q0), .second, .val (.long (2305843009213693951 : Int64)), .second, .unset, .unset, .unset, .unset] [(.long (q0 &&& (9223372036854775807 : Int64)))])) _
    refine XS.lloadN X0.here hx rfl (hb hby at_9) rfl ?_
    show Steps p.tables e below (s₁.setTop (mkF m 10 #[.val (.long q0), .second, .val (.long (2305843009213693951 : Int64)), .second, .unset, .unset, .unset, .unset] [(.long (2305843009213693951 : Int64)), (.long (q0 &&& (9223372036854775807 : Int64)))])) _
    refine XS.lconst X0.here hx rfl (hb hby at_10) ?_
    show Steps p.tables e below (s₁.setTop (mkF m 11 #[.val (.long q0), .second, .val (.long (2305843009213693951 : Int64)), .second, .unset, .unset, .unset, .unset] [(.long (1 : Int64)), (.long (2305843009213693951 : Int64)), (.long (q0 &&& (9223372036854775807 : Int64)))])) _
    refine XS.lsub X0.here hx rfl (hb hby at_11) rfl ?_
    show Steps p.tables e below (s₁.setTop (mkF m 12 #[.val (.long q0), .second, .val (.long (2305843009213693951 : Int64)), .second, .unset, .unset, .unset, .unset] [(.long ((2305843009213693951 : Int64) - (1 : Int64))), (.long (q0 &&& (9223372036854775807 : Int64)))])) _
    refine XS.lrem X0.here hx rfl (hb hby at_12) rfl (by decide) ?_
    rw [lrem_mod]
    show Steps p.tables e below (s₁.setTop (mkF m 13 #[.val (.long q0), .second, .val (.long (2305843009213693951 : Int64)), .second, .unset, .unset, .unset, .unset] [(.long ((q0 &&& (9223372036854775807 : Int64)) % ((2305843009213693951 : Int64) - (1 : Int64))))])) _
    refine XS.lconst X0.here hx rfl (hb hby at_13) ?_
    show Steps p.tables e below (s₁.setTop (mkF m 14 #[.val (.long q0), .second, .val (.long (2305843009213693951 : Int64)), .second, .unset, .unset, .unset, .unset] [(.long (1 : Int64)), (.long ((q0 &&& (9223372036854775807 : Int64)) % ((2305843009213693951 : Int64) - (1 : Int64))))])) _
    refine XS.ladd X0.here hx rfl (hb hby at_14) rfl ?_
    exact k)
  obtain ⟨za, hza⟩ : ∃ z : Int64, z = (((q0 &&& (9223372036854775807 : Int64)) % ((2305843009213693951 : Int64) - (1 : Int64))) + (1 : Int64)) := ⟨_, rfl⟩
  rw [← hza] at go1
  have go2 := go1.step (C := s₁.setTop (mkF m 19 #[.val (.long q0), .second, .val (.long (2305843009213693951 : Int64)), .second, .val (.long za), .second, .unset, .unset] [(.long za)])) (fun t k => by
    show Steps p.tables e below (s₁.setTop (mkF m 15 #[.val (.long q0), .second, .val (.long (2305843009213693951 : Int64)), .second, .unset, .unset, .unset, .unset] [(.long za)])) _
    refine XS.lstore X0.here hx rfl (hb hby at_15) rfl (l' := #[.val (.long q0), .second, .val (.long (2305843009213693951 : Int64)), .second, .val (.long za), .second, .unset, .unset]) rfl ?_
    show Steps p.tables e below (s₁.setTop (mkF m 17 #[.val (.long q0), .second, .val (.long (2305843009213693951 : Int64)), .second, .val (.long za), .second, .unset, .unset] [])) _
    refine XS.lload X0.here hx rfl (hb hby at_17) rfl ?_
    exact k)
  obtain ⟨_, _, ⟨T3, L3, k3, n3⟩, -, X3, ⟨Lc3, hQ3, l3, y3, z3⟩, st3⟩ := Jvm.LawKit.callS X0 hx (y := (⟨"sketchspan/sketch/ModPrime", "inverse", "(J)J"⟩ : MethodName)) hown (mvT hZ (hw _ (List.mem_of_getElem? (i := 2) rfl))) (mvT hZ (hw _ (List.mem_of_getElem? (i := 3) rfl))) (mvT hZ (hw _ (List.mem_of_getElem? (i := 4) rfl))) (mvT hZ (hw _ (List.mem_of_getElem? (i := 5) rfl))) (by decide) (backOf (W := 0) (rm1 l Z a0 hw [] za h0 n0 Z0 (own_a rfl hza)) hZ (hw _ (List.mem_of_getElem? (i := 5) rfl)) (hw _ (List.mem_of_getElem? (i := 4) rfl)) (by decide) (by decide)) (g := (mkF m 19 #[.val (.long q0), .second, .val (.long (2305843009213693951 : Int64)), .second, .val (.long za), .second, .unset, .unset] [(.long za)])) rfl (by rw [hml]; rfl) (argsL := [(.long za)]) (rest := []) (lenOf pd_rm0_0 rfl) rfl (by show 2 * 0 + _ ≤ _; exact Nat.le_of_eq rfl) (hb hby at_19) (fun _ _ => ⟨rfl, e0, (by decide : 0 + 0 ≤ _), (by decide : 0 + 0 ≤ _)⟩)
  dsimp only [Pt.U, Pt.locs, Pt.cells, Pt.slots] at X3 l3 y3 z3 st3 hQ3
  rw [l3, y3, z3] at X3
  obtain ⟨b_3, rfl, N3q, e3, qp3_0⟩ := hQ3
  have N3 := Fr.app N0 N3q
  have go3 := go2.step (C := T3.setTop (mkF m 22 #[.val (.long q0), .second, .val (.long (2305843009213693951 : Int64)), .second, .val (.long za), .second, .unset, .unset] [(.long b_3)])) (fun t k => st3 t k)
  have hiv := qp3_0
  have go6 := go3.step (C := T3.setTop (mkF m 42 #[.val (.long q0), .second, .val (.long (2305843009213693951 : Int64)), .second, .val (.long za), .second, .val (.long b_3), .second] [(.long b_3), (.long za)])) (fun t k => by
    show Steps p.tables e below (T3.setTop (mkF m 22 #[.val (.long q0), .second, .val (.long (2305843009213693951 : Int64)), .second, .val (.long za), .second, .unset, .unset] [(.long b_3)])) _
    refine XS.lstore X3.here hx rfl (hb hby at_22) rfl (l' := #[.val (.long q0), .second, .val (.long (2305843009213693951 : Int64)), .second, .val (.long za), .second, .val (.long b_3), .second]) rfl ?_
    show Steps p.tables e below (T3.setTop (mkF m 24 #[.val (.long q0), .second, .val (.long (2305843009213693951 : Int64)), .second, .val (.long za), .second, .val (.long b_3), .second] [])) _
    refine XS.lload X3.here hx rfl (hb hby at_24) rfl ?_
    show Steps p.tables e below (T3.setTop (mkF m 26 #[.val (.long q0), .second, .val (.long (2305843009213693951 : Int64)), .second, .val (.long za), .second, .val (.long b_3), .second] [(.long b_3)])) _
    refine XS.lconst X3.here hx rfl (hb hby at_26) ?_
    show Steps p.tables e below (T3.setTop (mkF m 27 #[.val (.long q0), .second, .val (.long (2305843009213693951 : Int64)), .second, .val (.long za), .second, .val (.long b_3), .second] [(.long (1 : Int64)), (.long b_3)])) _
    refine XS.lcmp X3.here hx rfl (hb hby at_27) rfl ?_
    show Steps p.tables e below (T3.setTop (mkF m 28 #[.val (.long q0), .second, .val (.long (2305843009213693951 : Int64)), .second, .val (.long za), .second, .val (.long b_3), .second] [(.int (lcmpW b_3 (1 : Int64)))])) _
    refine XS.ifNo X3.here hx rfl (hb hby at_28) rfl ((if0 _ _).trans (flt (fun q => (by rw [Int64.lt_iff_toInt_lt]; exact fun q => by have e : (1 : Int64).toInt = 1 := rfl; have := hiv.1; omega : ¬ (b_3 < (1 : Int64))) ((lw_lt _ _).mp q))).1) ?_
    show Steps p.tables e below (T3.setTop (mkF m 31 #[.val (.long q0), .second, .val (.long (2305843009213693951 : Int64)), .second, .val (.long za), .second, .val (.long b_3), .second] [])) _
    refine XS.lload X3.here hx rfl (hb hby at_31) rfl ?_
    show Steps p.tables e below (T3.setTop (mkF m 33 #[.val (.long q0), .second, .val (.long (2305843009213693951 : Int64)), .second, .val (.long za), .second, .val (.long b_3), .second] [(.long b_3)])) _
    refine XS.lloadN X3.here hx rfl (hb hby at_33) rfl ?_
    show Steps p.tables e below (T3.setTop (mkF m 34 #[.val (.long q0), .second, .val (.long (2305843009213693951 : Int64)), .second, .val (.long za), .second, .val (.long b_3), .second] [(.long (2305843009213693951 : Int64)), (.long b_3)])) _
    refine XS.lcmp X3.here hx rfl (hb hby at_34) rfl ?_
    show Steps p.tables e below (T3.setTop (mkF m 35 #[.val (.long q0), .second, .val (.long (2305843009213693951 : Int64)), .second, .val (.long za), .second, .val (.long b_3), .second] [(.int (lcmpW b_3 (2305843009213693951 : Int64)))])) _
    refine XS.ifNo X3.here hx rfl (hb hby at_35) rfl ((if0 _ _).trans (tlt ((lw_lt _ _).mpr (by rw [Int64.lt_iff_toInt_lt]; exact hiv.2.1 : b_3 < (2305843009213693951 : Int64)))).2.1) ?_
    show Steps p.tables e below (T3.setTop (mkF m 38 #[.val (.long q0), .second, .val (.long (2305843009213693951 : Int64)), .second, .val (.long za), .second, .val (.long b_3), .second] [])) _
    refine XS.lload X3.here hx rfl (hb hby at_38) rfl ?_
    show Steps p.tables e below (T3.setTop (mkF m 40 #[.val (.long q0), .second, .val (.long (2305843009213693951 : Int64)), .second, .val (.long za), .second, .val (.long b_3), .second] [(.long za)])) _
    refine XS.lload X3.here hx rfl (hb hby at_40) rfl ?_
    exact k)
  obtain ⟨_, _, ⟨T7, L7, k7, n7⟩, -, X7, ⟨Lc7, hQ7, l7, y7, z7⟩, st7⟩ := Jvm.LawKit.callS X3 hx (y := (⟨"sketchspan/sketch/ModPrime", "multiply", "(JJ)J"⟩ : MethodName)) hown (mvT hZ (hw _ (List.mem_of_getElem? (i := 7) rfl))) (mvT hZ (hw _ (List.mem_of_getElem? (i := 8) rfl))) (mvT hZ (hw _ (List.mem_of_getElem? (i := 4) rfl))) (mvT hZ (hw _ (List.mem_of_getElem? (i := 9) rfl))) (by decide) (backOf (W := 0) (rm2 l Z a0 hw [] za b_3 h0 n0 Z0 ⟨Int.le_of_lt (own_a rfl hza).1, (own_a rfl hza).2⟩ ⟨Int.le_of_lt hiv.1, hiv.2.1⟩) hZ (hw _ (List.mem_of_getElem? (i := 9) rfl)) (hw _ (List.mem_of_getElem? (i := 4) rfl)) (by decide) (by decide)) (g := (mkF m 42 #[.val (.long q0), .second, .val (.long (2305843009213693951 : Int64)), .second, .val (.long za), .second, .val (.long b_3), .second] [(.long b_3), (.long za)])) rfl (by rw [hml]; rfl) (argsL := [(.long za), (.long b_3)]) (rest := []) (lenOf pd_rm0_1 rfl) rfl (by show 2 * 0 + _ ≤ _; exact Nat.le_of_eq rfl) (hb hby at_42) (fun _ _ => ⟨rfl, e3, (by decide : 0 + 0 ≤ _), (by decide : 0 + 0 ≤ _)⟩)
  dsimp only [Pt.U, Pt.locs, Pt.cells, Pt.slots] at X7 l7 y7 z7 st7 hQ7
  rw [l7, y7, z7] at X7
  obtain ⟨z_7, rfl, N7q, e7, qp7_0⟩ := hQ7
  have N7 := Fr.app N3 N7q
  have go7 := go6.step (C := T7.setTop (mkF m 45 #[.val (.long q0), .second, .val (.long (2305843009213693951 : Int64)), .second, .val (.long za), .second, .val (.long b_3), .second] [(.long z_7)])) (fun t k => st7 t k)
  have hmu := qp7_0
  rw [hiv.2.2] at hmu
  have go9 := go7.step (C := T7.setTop (mkF m 55 #[.val (.long q0), .second, .val (.long (2305843009213693951 : Int64)), .second, .val (.long za), .second, .val (.long b_3), .second] [(.int (1 : Int32))])) (fun t k => by
    show Steps p.tables e below (T7.setTop (mkF m 45 #[.val (.long q0), .second, .val (.long (2305843009213693951 : Int64)), .second, .val (.long za), .second, .val (.long b_3), .second] [(.long z_7)])) _
    refine XS.lconst X7.here hx rfl (hb hby at_45) ?_
    show Steps p.tables e below (T7.setTop (mkF m 46 #[.val (.long q0), .second, .val (.long (2305843009213693951 : Int64)), .second, .val (.long za), .second, .val (.long b_3), .second] [(.long (1 : Int64)), (.long z_7)])) _
    refine XS.lcmp X7.here hx rfl (hb hby at_46) rfl ?_
    show Steps p.tables e below (T7.setTop (mkF m 47 #[.val (.long q0), .second, .val (.long (2305843009213693951 : Int64)), .second, .val (.long za), .second, .val (.long b_3), .second] [(.int (lcmpW z_7 (1 : Int64)))])) _
    refine XS.ifNo X7.here hx rfl (hb hby at_47) rfl ((if0 _ _).trans (teq ((lw_eq _ _).mpr (Int64.toInt_inj.mp hmu : z_7 = (1 : Int64)))).2) ?_
    show Steps p.tables e below (T7.setTop (mkF m 50 #[.val (.long q0), .second, .val (.long (2305843009213693951 : Int64)), .second, .val (.long za), .second, .val (.long b_3), .second] [])) _
    refine XS.iconst X7.here hx rfl (hb hby at_50) ?_
    show Steps p.tables e below (T7.setTop (mkF m 51 #[.val (.long q0), .second, .val (.long (2305843009213693951 : Int64)), .second, .val (.long za), .second, .val (.long b_3), .second] [(.int (1 : Int32))])) _
    refine XS.goto X7.here hx rfl (pc0 := 51) (pc' := 55) rfl (hb hby at_51) (by decide) (by decide) ?_
    exact k)
  obtain ⟨fs, hr, hrun, hended, hW, hsame⟩ := X7.leave (v := some (.int (1 : Int32))) (fun h => by rw [Bd.returns] at h; cases h)
  refine ⟨_, _, go9 _ ?_, hrun, hended, _, _, rfl, ?_, ⟨_, rfl⟩, hW, hsame.mono (by decide) (by decide)⟩
  · exact retN X7 hx (t := .boolean) Bd.returns (by simp) (hb hby at_55) hr
  · show Q_rm0 Z q0 h0 n0 _ T7.heap _
    rw [e7]
    exact ⟨rfl, N7⟩
set_option maxRecDepth 65536 in
set_option maxHeartbeats 40000000 in
theorem comes_1 {Post : Tables → Env → Array Value → State → Outcome → State → Prop} (hpost : ∀ tb e args s v u, (limb_1_1.after args s (.returned v) u = true ∧ limb_1_2.after args s (.returned v) u = true ∧ True) → FrameEnd s (.returned v) u (Jvm.fieldLocs frame_1_writes args s ++ Jvm.arrayLocs frame_1_arrays args s ++ Jvm.staticLocs frame_1_statics s) 0 0 → Post tb e args s (.returned v) u) :
    ArmFor flags0 classFile x code maxLocals ret World_1 tables_1 room_1 Calls_1 rest_1 Pre_1 Post := by
  intro l hfl _ _ p e ha hc hk s m args below hf hA hF happ hP
  obtain ⟨hcalls, hrest, hpre⟩ := hP
  obtain ⟨-, -, -, hnamed, -, -, -, hat⟩ := (Spec.applies_iff hf).mp happ
  obtain ⟨hg, hn⟩ := and_e (Cond.before_iff.mp (show (Jvm.Cond.and given_1 narrow_1).before args s = true from hpre))
  obtain ⟨gg0, gr0⟩ := and_e hg
  obtain ⟨w0, rfl⟩ : ∃ w0 : Value, args = #[w0] := by
    have hs : args.size = 1 := by simpa [Cond.value, given_1] using gg0
    obtain ⟨L⟩ := args
    match L, hs with
    | [w0], _ => exact ⟨w0, rfl⟩
  have hw := fun d (hd : d ∈ tables_1) => atoms_spec (ws := Jvm.Cond.code x code maxLocals ret :: tables_1) hat d (List.mem_cons_of_mem _ hd)
  have hfit : Fit s := fun {y c} hc i hi => by
    obtain ⟨ha, rfl⟩ := Array.getElem?_eq_some_iff.mp hc
    have q := List.all_eq_true.mp ((Array.all_eq_true_iff_forall_mem.mp hF) _ (Array.getElem_mem ha)) i (List.mem_range.mpr hi)
    simpa [Array.getElem?_eq_getElem hi] using q
  obtain ⟨i0, ei0⟩ := isL_v gr0
  obtain rfl : w0 = (.long i0) := Option.some.inj ei0
  obtain ⟨n, o, h1, h2, h3, _, L, rfl, ⟨rfl, N⟩, hq⟩ := rm0 l s _ hw tables_1 i0  s.heap s.heap.size (Nat.le_refl _)  p e ha hc hk s m _ below hf ((Spec.applies_iff_loose hf).mp happ).1 ⟨rfl, State.Warmed39.refl s, rfl⟩ trivial
  refine ⟨n, _, h1, h2, h3, hpost _ _ _ _ _ _ ⟨Cond.after_iff.mpr rfl, Cond.after_iff.mpr (eq_i res_at (Term.int_eval (1)) rfl), trivial⟩ ⟨hq.1, hq.2.1, (hq.2.2.sift fun y hy => Or.inr (N y hy)).mono (by decide) (by decide)⟩⟩
theorem main_1_1 : Claimed_1_1 := comes_1 fun _ _ _ _ _ _ h hF => ⟨h.1, hF⟩
theorem main_1_2 : Claimed_1_2 := comes_1 fun _ _ _ _ _ _ h hF => ⟨h.2.1, hF⟩
end Jvm.Pilot.@@N@@
namespace Jvm.Pilot.@@N@@
open Jvm Jvm.ClassFile Sem Op Lib Jvm.Free Jvm.Stand Jvm.Pilot.@@N@@.Jvm.D
/-! MADE BY PROGRAM (witnessworld.py) out of the Statement's table words and the real class files: 10 classes; the members and pool entries that the words name. The judged class is class 1, her method 1. -/
namespace start1
open Jvm.ClassFile
def u (s : String) : CpInfo := .utf8 (stringToUtf16 s)
/-- a pool by its gaps: so many unusable entries, then the entry; so many at the end -/
def gap : Nat → List CpInfo → List CpInfo
  | 0, r => r
  | n + 1, r => .unusable :: gap n r
def poolList (es : List (Nat × CpInfo)) (last : Nat) : List CpInfo := es.foldr (fun e r => gap e.1 (e.2 :: r)) (gap last [])
def pool (es : List (Nat × CpInfo)) (last : Nat) : Array CpInfo := ⟨poolList es last⟩
def fileOf (pool : Array CpInfo) (this : Nat) (attrs : Array Attribute := #[]) (ms : Array MethodInfo := #[]) (fl : Nat := 33) (sup : Nat := 0) (ifs : Array Nat := #[]) (fds : Array FieldInfo := #[]) : ClassFile where
  minorVersion := 0
  majorVersion := 65
  constantPool := pool
  accessFlags := fl
  thisClass := this
  superClass := sup
  interfaces := ifs
  fields := fds
  methods := ms
  attributes := attrs
def plain (name : String) (sup : Option ClassId) : Class where
  name := name
  kind := .ordinary
  loader := none
  accessFlags := 33
  super := sup
  interfaces := #[]
  cf := none
  fields := #[]
  methods := #[]
  instanceTypes := #[]
  staticTypes := #[]
  resolved := #[]
  callSites := []
  init := .initialized
  statics := none
  mirror := none

def pool0 : Array CpInfo := pool [(5, u "<init>"), (0, u "()V"), (1, .class_ 10), (1, u "java/lang/Object")] 113

def k0m0 : Method := { name := "<init>", desc := "()V", sig := { parameters := [], returnType := none }, accessFlags := 1, code := none }
/-- java/lang/Object -/
def k0 : Class := { plain "java/lang/Object" none with
  accessFlags := 33
  interfaces := #[]
  cf := some (fileOf pool0 8 #[] #[{ accessFlags := 1, nameIndex := 5, descriptorIndex := 6, attributes := #[] }] 33 0 #[] #[])
  fields := #[]
  methods := #[k0m0]
  instanceTypes := #[]
  staticTypes := #[]
  resolved := Array.replicate 124 none
  statics := none }

def pool1 : Array CpInfo := pool [(2, .class_ 4), (1, u "java/lang/Object"), (0, u "<init>"), (0, u "()V"), (0, .long 2305843009213693951), (3, .long 9223372036854775807), (1, .methodref 14 15), (0, .class_ 16), (0, .nameAndType 17 18), (0, u "sketchspan/sketch/ModPrime"), (0, u "inverse"), (0, u "(J)J"), (0, .methodref 14 20), (0, .nameAndType 21 22), (0, u "multiply"), (0, u "(JJ)J"), (0, .class_ 24), (0, u "sketchspan/sketch/ModPrimeInversePinLaw"), (2, u "law"), (0, u "(J)Z")] 3

def k1m0 : Method := { name := "<init>", desc := "()V", sig := { parameters := [], returnType := none }, accessFlags := 2, code := none }
def k1c1 : Code := { maxStack := 6, maxLocals := 8, code := code, exceptionTable := #[], attributes := #[] }
def k1m1 : Method := { name := "law", desc := "(J)Z", sig := { parameters := [.long], returnType := some .boolean }, accessFlags := 9, code := some k1c1 }
/-- sketchspan/sketch/ModPrimeInversePinLaw -/
def k1 : Class := { plain "sketchspan/sketch/ModPrimeInversePinLaw" (some 0) with
  accessFlags := 49
  interfaces := #[]
  cf := some (fileOf pool1 23 #[] #[{ accessFlags := 2, nameIndex := 5, descriptorIndex := 6, attributes := #[] }, { accessFlags := 9, nameIndex := 27, descriptorIndex := 28, attributes := #[] }] 49 2 #[] #[])
  fields := #[]
  methods := #[k1m0, k1m1]
  instanceTypes := #[]
  staticTypes := #[]
  resolved := Array.replicate 32 none
  statics := none }

def pool2 : Array CpInfo := pool [(2, .class_ 4), (1, u "java/lang/Object"), (0, u "<init>"), (0, u "()V"), (5, u "(JJ)J"), (2, .class_ 16), (0, u "sketchspan/sketch/ModPrime"), (0, .long 2305843009213693951), (1, .methodref 20 21), (0, .class_ 22), (0, .nameAndType 23 12), (0, u "java/lang/Math"), (0, u "multiplyHigh"), (0, u "PRIME"), (0, u "J"), (5, u "multiply"), (0, u "inverse"), (0, u "(J)J")] 2

def k2m0 : Method := { name := "<init>", desc := "()V", sig := { parameters := [], returnType := none }, accessFlags := 2, code := none }
def k2c1 : Code := { maxStack := 7, maxLocals := 10, code := prog_68_method_4_code, exceptionTable := #[], attributes := #[] }
def k2m1 : Method := { name := "multiply", desc := "(JJ)J", sig := { parameters := [.long, .long], returnType := some .long }, accessFlags := 8, code := some k2c1 }
def k2c2 : Code := { maxStack := 6, maxLocals := 16, code := prog_68_method_5_code, exceptionTable := #[], attributes := #[] }
def k2m2 : Method := { name := "inverse", desc := "(J)J", sig := { parameters := [.long], returnType := some .long }, accessFlags := 8, code := some k2c2 }
/-- sketchspan/sketch/ModPrime -/
def k2 : Class := { plain "sketchspan/sketch/ModPrime" (some 0) with
  accessFlags := 48
  interfaces := #[]
  cf := some (fileOf pool2 15 #[] #[{ accessFlags := 2, nameIndex := 5, descriptorIndex := 6, attributes := #[] }, { accessFlags := 8, nameIndex := 31, descriptorIndex := 12, attributes := #[] }, { accessFlags := 8, nameIndex := 32, descriptorIndex := 33, attributes := #[] }] 48 2 #[] #[{ accessFlags := 24, nameIndex := 24, descriptorIndex := 25, attributes := #[] }])
  fields := #[{ name := "PRIME", type := .long, accessFlags := 24, slot := 0, constantValue := 0 }]
  methods := #[k2m0, k2m1, k2m2]
  instanceTypes := #[]
  staticTypes := #[.long]
  resolved := Array.replicate 36 none
  statics := none }

def pool3 : Array CpInfo := pool [(1, .class_ 2), (0, u "java/lang/Math"), (1, .class_ 6), (1, u "java/lang/Object"), (0, u "<init>"), (0, u "()V"), (89, .class_ 100), (1, u "java/lang/Math$RandomNumberGeneratorHolder"), (20, u "(JJ)J"), (16, .long 4294967295), (3, u "multiplyHigh"), (29, u "negativeZeroFloatBits"), (0, u "J"), (2, u "negativeZeroDoubleBits"), (68, u "$assertionsDisabled"), (0, u "Z"), (91, u "twoToTheDoubleScaleDown"), (0, u "D"), (4, u "twoToTheDoubleScaleUp"), (9, u "E"), (3, u "PI"), (2, u "TAU"), (2, u "DEGREES_TO_RADIANS"), (0, u "RADIANS_TO_DEGREES")] 94

def k3m0 : Method := { name := "<init>", desc := "()V", sig := { parameters := [], returnType := none }, accessFlags := 2, code := none }
def k3c1 : Code := { maxStack := 6, maxLocals := 20, code := jdk_29_method_45_code, exceptionTable := #[], attributes := #[] }
def k3m1 : Method := { name := "multiplyHigh", desc := "(JJ)J", sig := { parameters := [.long, .long], returnType := some .long }, accessFlags := 9, code := some k3c1 }
/-- java/lang/Math -/
def k3 : Class := { plain "java/lang/Math" (some 0) with
  accessFlags := 49
  interfaces := #[]
  cf := some (fileOf pool3 1 #[.nestMembers #[98]] #[{ accessFlags := 2, nameIndex := 7, descriptorIndex := 8, attributes := #[] }, { accessFlags := 9, nameIndex := 142, descriptorIndex := 121, attributes := #[] }] 49 4 #[] #[{ accessFlags := 25, nameIndex := 354, descriptorIndex := 339, attributes := #[] }, { accessFlags := 25, nameIndex := 358, descriptorIndex := 339, attributes := #[] }, { accessFlags := 25, nameIndex := 361, descriptorIndex := 339, attributes := #[] }, { accessFlags := 26, nameIndex := 364, descriptorIndex := 339, attributes := #[] }, { accessFlags := 26, nameIndex := 365, descriptorIndex := 339, attributes := #[] }, { accessFlags := 26, nameIndex := 172, descriptorIndex := 173, attributes := #[] }, { accessFlags := 26, nameIndex := 176, descriptorIndex := 173, attributes := #[] }, { accessFlags := 8, nameIndex := 344, descriptorIndex := 339, attributes := #[] }, { accessFlags := 8, nameIndex := 338, descriptorIndex := 339, attributes := #[] }, { accessFlags := 4120, nameIndex := 245, descriptorIndex := 246, attributes := #[] }])
  fields := #[{ name := "E", type := .double, accessFlags := 25, slot := 0, constantValue := 0 }, { name := "PI", type := .double, accessFlags := 25, slot := 1, constantValue := 0 }, { name := "TAU", type := .double, accessFlags := 25, slot := 2, constantValue := 0 }, { name := "DEGREES_TO_RADIANS", type := .double, accessFlags := 26, slot := 3, constantValue := 0 }, { name := "RADIANS_TO_DEGREES", type := .double, accessFlags := 26, slot := 4, constantValue := 0 }, { name := "negativeZeroFloatBits", type := .long, accessFlags := 26, slot := 5, constantValue := 0 }, { name := "negativeZeroDoubleBits", type := .long, accessFlags := 26, slot := 6, constantValue := 0 }, { name := "twoToTheDoubleScaleUp", type := .double, accessFlags := 8, slot := 7, constantValue := 0 }, { name := "twoToTheDoubleScaleDown", type := .double, accessFlags := 8, slot := 8, constantValue := 0 }, { name := "$assertionsDisabled", type := .boolean, accessFlags := 4120, slot := 9, constantValue := 0 }]
  methods := #[k3m0, k3m1]
  instanceTypes := #[]
  staticTypes := #[.double, .double, .double, .double, .double, .long, .long, .double, .double, .boolean]
  resolved := Array.replicate 460 none
  statics := none }

def pool4 : Array CpInfo := pool [(1, u "java/lang/Cloneable"), (0, .class_ 1), (0, u "java/lang/Object"), (0, .class_ 3)] 3

/-- java/lang/Cloneable -/
def k4 : Class := { plain "java/lang/Cloneable" (some 0) with
  accessFlags := 1537
  interfaces := #[]
  cf := some (fileOf pool4 2 #[] #[] 1537 4 #[] #[])
  fields := #[]
  methods := #[]
  instanceTypes := #[]
  staticTypes := #[]
  resolved := Array.replicate 8 none
  statics := none }

def pool5 : Array CpInfo := pool [(1, u "java/io/Serializable"), (0, .class_ 1), (0, u "java/lang/Object"), (0, .class_ 3)] 3

/-- java/io/Serializable -/
def k5 : Class := { plain "java/io/Serializable" (some 0) with
  accessFlags := 1537
  interfaces := #[]
  cf := some (fileOf pool5 2 #[] #[] 1537 4 #[] #[])
  fields := #[]
  methods := #[]
  instanceTypes := #[]
  staticTypes := #[]
  resolved := Array.replicate 8 none
  statics := none }

/-- the primitive byte -/
def k6 : Class := { plain "byte" none with kind := .primitive 'B', accessFlags := 0x411 }
/-- [B -/
def k7 : Class := { plain "[B" (some 0) with kind := .array 6 .byte, interfaces := #[4, 5], accessFlags := 1041 }

/-- the primitive int -/
def k8 : Class := { plain "int" none with kind := .primitive 'I', accessFlags := 0x411 }
/-- [I -/
def k9 : Class := { plain "[I" (some 0) with kind := .array 8 .int, interfaces := #[4, 5], accessFlags := 1041 }

def heap : Heap := #[]
def classes : Array Class := #[k0, k1, k2, k3, k4, k5, k6, k7, k8, k9]
def interned : List (Array UInt16 × Addr) := []
def slotsUsed : Nat := 0
def theMethod : MethodId := ⟨1, 1⟩
def args0 : Array Value := #[.long 5]
def aboutOver (below : List Frame) : State where
  vm := { classes := classes, interned := interned.toArray }
  heap := heap
  slotsUsed := slotsUsed
  threads := #[{ frames := .invoking theMethod args0 :: below }]
def below0 : List Frame := [.native { method := ⟨0, 0⟩, args := #[] }]
def about1 : State := aboutOver below0
def p0 : Program := .bare "" "" ""
def e0 : Env := launch0.env 0 0 0
theorem w_frames : about1.frames = Frame.invoking theMethod args0 :: below0 := rfl
set_option maxRecDepth 65536 in
theorem w_args : argsFit about1.vm theMethod args0 = true := by decide +kernel
set_option maxRecDepth 65536 in
theorem w_heap : heapFits about1 = true := by decide +kernel
set_option maxRecDepth 65536 in
theorem w_runnable : about1.curStatus? = some .runnable := by decide +kernel
set_option maxRecDepth 65536 in
theorem w_alone : about1.alone = true := by decide +kernel
set_option maxRecDepth 65536 in
theorem w_named : about1.methodNamed? x = some theMethod := by decide +kernel
set_option maxRecDepth 65536 in
theorem w_hears : about1.hears theMethod below0 = true := by decide +kernel
set_option maxRecDepth 65536 in
theorem w_ripe : about1.ripe theMethod args0 below0 = true := by decide +kernel
theorem w_running : about1.status = .running := rfl
set_option maxRecDepth 65536 in
theorem w_room : about1.hasRoom e0.platform room_1 = true :=
  launch0.hasRoom_least _ room_1 (by decide +kernel) (by decide +kernel) (by decide +kernel) (by decide +kernel) (by decide +kernel) (by decide +kernel)
theorem allAtoms_all (ts : List Jvm.Cond) (a : Array Jvm.Value) (st : Jvm.State) : (allAtoms ts).before a st = ts.all (fun c => c.before a st) := by
  induction ts with
  | nil => rfl
  | cons c t ih =>
    show (Jvm.Cond.and c (allAtoms t)).before a st = _
    rw [Jvm.Cond.before_and, ih, List.all_cons]
def words1 : List Jvm.Cond := Jvm.Cond.code x code maxLocals ret :: tables_1
/-- a 'code' word, met by the world's own term for the bytes: nothing is compared byte by byte -/
theorem code_word {y : MethodName} {bytes : ByteArray} {mx : Nat} {rt : Option FieldType} {a : Array Value} {s : State} {m : MethodId} {meth : Method} {c : Code} (h1 : s.methodNamed? y = some m) (h2 : s.vm.method? m = some meth) (h3 : meth.code = some c) (h4 : c.code = bytes)
    (h5 : (c.maxLocals == mx && c.exceptionTable.isEmpty && decide (c.maxStack ≤ mostOperands) && decide (meth.sig.returnType = rt) && !meth.locks && decide (parseMethodDescriptor y.desc = some meth.sig)) = true) : (Jvm.Cond.code y bytes mx rt).before a s = true := by
  simp only [Bool.and_eq_true, beq_iff_eq, Bool.not_eq_true', decide_eq_true_eq] at h5
  obtain ⟨⟨⟨⟨⟨g1, g2⟩, g3⟩, g4⟩, g5⟩, g6⟩ := h5
  simp [Cond.before, Cond.holds, Cond.value, h1, h2, h3, h4, g1, g2, g3, g4, g5, g6]
def isCode : Jvm.Cond → Bool
  | .code _ _ _ _ => true
  | _ => false
theorem all_split {L : List Jvm.Cond} {P : Jvm.Cond → Bool} (h1 : L.all (fun c => isCode c || P c) = true) (h2 : ∀ c ∈ L.filter isCode, P c = true) : L.all P = true := by
  refine List.all_eq_true.mpr fun c hc => ?_
  have h := List.all_eq_true.mp h1 c hc
  rcases Bool.eq_false_or_eq_true (isCode c) with hi | hi
  · exact h2 c (List.mem_filter.mpr ⟨hc, hi⟩)
  · simpa [hi] using h
set_option maxRecDepth 65536 in
theorem w_c0 : (Jvm.Cond.code x code maxLocals ret).before args0 about1 = true := code_word (m := ⟨1, 1⟩) (meth := k1m1) (c := k1c1) (by decide +kernel) rfl rfl rfl (by decide +kernel)
set_option maxRecDepth 65536 in
theorem w_c1 : (Jvm.Cond.code ({ cls := "sketchspan/sketch/ModPrime", name := "inverse", desc := "(J)J" } : Jvm.MethodName) prog_68_method_5_code (16 : Nat) (Option.some Jvm.ClassFile.FieldType.long)).before args0 about1 = true := code_word (m := ⟨2, 2⟩) (meth := k2m2) (c := k2c2) (by decide +kernel) rfl rfl rfl (by decide +kernel)
set_option maxRecDepth 65536 in
theorem w_c2 : (Jvm.Cond.code ({ cls := "sketchspan/sketch/ModPrime", name := "multiply", desc := "(JJ)J" } : Jvm.MethodName) prog_68_method_4_code (10 : Nat) (Option.some Jvm.ClassFile.FieldType.long)).before args0 about1 = true := code_word (m := ⟨2, 1⟩) (meth := k2m1) (c := k2c1) (by decide +kernel) rfl rfl rfl (by decide +kernel)
set_option maxRecDepth 65536 in
theorem w_c3 : (Jvm.Cond.code ({ cls := "java/lang/Math", name := "multiplyHigh", desc := "(JJ)J" } : Jvm.MethodName) jdk_29_method_45_code (20 : Nat) (Option.some Jvm.ClassFile.FieldType.long)).before args0 about1 = true := code_word (m := ⟨3, 1⟩) (meth := k3m1) (c := k3c1) (by decide +kernel) rfl rfl rfl (by decide +kernel)
def codes1 : List Jvm.Cond := [Jvm.Cond.code x code maxLocals ret, Jvm.Cond.code ({ cls := "sketchspan/sketch/ModPrime", name := "inverse", desc := "(J)J" } : Jvm.MethodName) prog_68_method_5_code (16 : Nat) (Option.some Jvm.ClassFile.FieldType.long), Jvm.Cond.code ({ cls := "sketchspan/sketch/ModPrime", name := "multiply", desc := "(JJ)J" } : Jvm.MethodName) prog_68_method_4_code (10 : Nat) (Option.some Jvm.ClassFile.FieldType.long), Jvm.Cond.code ({ cls := "java/lang/Math", name := "multiplyHigh", desc := "(JJ)J" } : Jvm.MethodName) jdk_29_method_45_code (20 : Nat) (Option.some Jvm.ClassFile.FieldType.long)]
set_option maxRecDepth 65536 in
theorem codes_eq : words1.filter isCode = codes1 := rfl
theorem w_codes : ∀ c ∈ words1.filter isCode, c.before args0 about1 = true := by
  rw [codes_eq]
  intro c hc
  simp only [codes1, List.mem_cons, List.not_mem_nil, or_false] at hc
  rcases hc with rfl | rfl | rfl | rfl
  · exact w_c0
  · exact w_c1
  · exact w_c2
  · exact w_c3
set_option maxRecDepth 65536 in
theorem w_t1 : words1.all (fun c => isCode c || c.before args0 about1) = true := by decide +kernel
theorem w_tables : (allAtoms (Jvm.Cond.code x code maxLocals ret :: tables_1)).before args0 about1 = true := by
  rw [allAtoms_all]
  show words1.all (fun c => c.before args0 about1) = true
  refine all_split ?_ w_codes
  rw [w_t1]
set_option maxRecDepth 65536 in
theorem w_case : (Jvm.Cond.and given_1 narrow_1).before args0 about1 = true := by decide +kernel
theorem w_applies : (headSpec (Jvm.Cond.code x code maxLocals ret :: tables_1) room_1).applies x e0.platform about1 = true :=
  (Spec.applies_iff w_frames).mpr ⟨w_running, w_runnable, w_alone, w_named, w_hears, w_ripe, w_room, w_tables⟩
theorem atStart : AtStart classFile x code maxLocals ret World_1 tables_1 room_1 Calls_1 rest_1 Pre_1 launch0 p0 e0 about1 theMethod args0 below0 :=
  ⟨lists_1, trivial, launch0.admits_env _ _ _, launch0.least_env, fairChoices_fair.cas, fairChoices_fair.clock, w_frames, w_args, w_heap, w_applies, trivial, trivial, w_case⟩
end start1
theorem witness_1 : WitnessClaimed_1 := ⟨start1.p0, start1.e0, start1.about1, start1.theMethod, start1.args0, start1.below0, start1.atStart⟩
end Jvm.Pilot.@@N@@
