import JvmDerived
import JvmDerived.Pilot.@@N@@Statement
import JvmDerived.Pilot.@@N@@Code
set_option linter.unusedVariables false
set_option linter.unusedSimpArgs false
namespace Jvm.Pilot.@@N@@
open Jvm Jvm.ClassFile Sem Op Lib Jvm.Free Jvm.Stand Jvm.LawKit Jvm.RoadKit Bundle Jvm.Pilot.@@N@@.Jvm.D
def own_usr (x y : Int32) : Int32 := (x.toUInt32 >>> (y &&& 31).toUInt32).toInt32
def own_usrL (x : Int64) (y : Int32) : Int64 := (x.toUInt64 >>> (y &&& 0x3f).toInt64.toUInt64).toInt64
/-- where the run came from, where it stands -/
def Go (p : Program) (e : Env) (below : List Frame) (A B : State) : Prop := ∀ t, Steps p.tables e below B t → Steps p.tables e below A t
theorem Go.step {p : Program} {e : Env} {below : List Frame} {A B C : State} (g : Go p e below A B) (h : ∀ t, Steps p.tables e below C t → Steps p.tables e below B t) : Go p e below A C := fun t k => g t (h t k)
theorem Go.tr {p : Program} {e : Env} {below : List Frame} {A B C : State} (g : Go p e below A B) (h : Steps p.tables e below B C) : Go p e below A C := fun t k => g t (h.trans k)
abbrev vI (x : Int32) : Slot := .val (.int x)
abbrev vJ (x : Int64) : Slot := .val (.long x)
abbrev vR (x : Addr) : Slot := .val (.ref x)
abbrev uu : Slot := .unset
abbrev sc : Slot := .second
abbrev jM : Int64 := 9223372036854775807
abbrev sI (x : Int32) : Value := .int x
abbrev sJ (x : Int64) : Value := .long x
abbrev sR (x : Addr) : Value := .ref x
abbrev i0 : Int32 := 0
abbrev i1 : Int32 := 1
abbrev i2 : Int32 := 2
abbrev SP (p : Program) (e : Env) (below : List Frame) (T : State) (f : JFrame) (t : State) : Prop := Steps p.tables e below (T.setTop f) t
theorem Go.st {p : Program} {e : Env} {below : List Frame} {A B : State} (g : Go p e below A B) (T : State) (f : JFrame) (h : ∀ t, Steps p.tables e below (T.setTop f) t → Steps p.tables e below B t) : Go p e below A (T.setTop f) := fun t k => g t (h t k)
theorem wD {Z : State} {a0 : Array Value} (hw : ∀ d ∈ tables_1, d.before a0 Z = true) (i : Nat) {d : Jvm.Cond} (h : tables_1[i]? = some d) : d.before a0 Z = true := hw d (List.mem_of_getElem? h)
abbrev yN0 : MethodName := ⟨"java/lang/Math", "min", "(JJ)J"⟩
abbrev yN1 : MethodName := ⟨"java/lang/Math", "max", "(JJ)J"⟩
abbrev yN2 : MethodName := ⟨"java/lang/Math", "abs", "(J)J"⟩
abbrev yN3 : MethodName := ⟨"java/lang/Math", "max", "(II)I"⟩
abbrev yN4 : MethodName := ⟨"java/lang/Math", "min", "(II)I"⟩
abbrev yN5 : MethodName := ⟨"java/lang/Math", "multiplyExact", "(JJ)J"⟩
abbrev yN6 : MethodName := ⟨"java/lang/Math", "multiplyExact", "(JI)J"⟩
abbrev yN7 : MethodName := ⟨"java/lang/Math", "addExact", "(JJ)J"⟩
abbrev yN8 : MethodName := ⟨"com/example/equipoise/equipoise/BuilderDepartPinLaw", "d", "(JJ)C"⟩
abbrev yN9 : MethodName := ⟨"java/lang/StringUTF16", "compress", "([CI[BII)I"⟩
abbrev yN10 : MethodName := ⟨"java/lang/StringUTF16", "compress", "([CII)[B"⟩
abbrev yN11 : MethodName := ⟨"java/lang/StringUTF16", "coderFromArrayLen", "([BI)B"⟩
abbrev yN12 : MethodName := ⟨"java/lang/String", "<init>", "([CIILjava/lang/Void;)V"⟩
abbrev yN13 : MethodName := ⟨"java/lang/String", "<init>", "([C)V"⟩
abbrev yN14 : MethodName := ⟨"com/example/equipoise/equipoise/BuilderDepartPinLaw", "text", "(J)Ljava/lang/String;"⟩
abbrev yN15 : MethodName := ⟨"java/lang/String", "isLatin1", "()Z"⟩
abbrev yN16 : MethodName := ⟨"java/lang/String", "coder", "()B"⟩
abbrev yN17 : MethodName := ⟨"java/lang/String", "length", "()I"⟩
abbrev yN18 : MethodName := ⟨"jdk/internal/util/Preconditions", "checkIndex", "(IILjava/util/function/BiFunction;)I"⟩
abbrev yN19 : MethodName := ⟨"java/lang/String", "checkIndex", "(II)V"⟩
abbrev yN20 : MethodName := ⟨"java/lang/StringLatin1", "charAt", "([BI)C"⟩
abbrev yN21 : MethodName := ⟨"java/lang/String", "charAt", "(I)C"⟩
abbrev yN22 : MethodName := ⟨"java/lang/StringLatin1", "canEncode", "(I)Z"⟩
abbrev yN23 : MethodName := ⟨"java/lang/StringLatin1", "indexOfChar", "([BIII)I"⟩
abbrev yN24 : MethodName := ⟨"java/lang/StringLatin1", "indexOf", "([BIII)I"⟩
abbrev yN25 : MethodName := ⟨"java/lang/String", "indexOf", "(II)I"⟩
abbrev yN26 : MethodName := ⟨"java/lang/String", "indexOf", "(I)I"⟩
abbrev yN27 : MethodName := ⟨"com/example/equipoise/equipoise/InputLines", "isDigits", "(Ljava/lang/String;II)Z"⟩
abbrev yN28 : MethodName := ⟨"com/example/equipoise/equipoise/InputLines", "decimalPoint", "(Ljava/lang/String;)I"⟩
abbrev yN29 : MethodName := ⟨"com/example/equipoise/equipoise/WeightFile$Builder", "digits", "(Ljava/lang/String;II)J"⟩
abbrev yN30 : MethodName := ⟨"java/lang/Number", "<init>", "()V"⟩
abbrev yN31 : MethodName := ⟨"java/math/BigInteger", "<init>", "(J)V"⟩
abbrev yN32 : MethodName := ⟨"java/math/BigInteger", "valueOf", "(J)Ljava/math/BigInteger;"⟩
abbrev yN33 : MethodName := ⟨"java/math/BigInteger", "add", "([I[I)[I"⟩
abbrev yN34 : MethodName := ⟨"java/math/BigInteger", "<init>", "([II)V"⟩
abbrev yN35 : MethodName := ⟨"java/math/BigInteger", "add", "(Ljava/math/BigInteger;)Ljava/math/BigInteger;"⟩
abbrev yN36 : MethodName := ⟨"com/example/equipoise/equipoise/WeightList", "sum", "([J)Ljava/math/BigInteger;"⟩
abbrev yN37 : MethodName := ⟨"java/util/Arrays", "copyOf", "([JI)[J"⟩
abbrev yN38 : MethodName := ⟨"com/example/equipoise/equipoise/WeightList", "<init>", "([JILjava/math/BigInteger;J)V"⟩
abbrev yN39 : MethodName := ⟨"com/example/equipoise/equipoise/WeightList", "ofUnits", "([JII)Lcom/example/equipoise/equipoise/WeightList;"⟩
abbrev yN40 : MethodName := ⟨"com/example/equipoise/equipoise/WeightFile$Builder", "build", "()Lcom/example/equipoise/equipoise/WeightList;"⟩
abbrev yN41 : MethodName := ⟨"com/example/equipoise/equipoise/WeightList", "size", "()I"⟩
abbrev yN42 : MethodName := ⟨"com/example/equipoise/equipoise/WeightList", "units", "(I)J"⟩
abbrev yN43 : MethodName := ⟨"com/example/equipoise/equipoise/WeightList", "powerOfTen", "(I)J"⟩
abbrev yN44 : MethodName := ⟨"com/example/equipoise/equipoise/WeightFile$Builder", "<init>", "(Ljava/lang/String;Ljava/lang/String;)V"⟩
abbrev yN45 : MethodName := ⟨"com/example/equipoise/equipoise/WeightFile$Builder", "add", "(ILjava/lang/String;)J"⟩
abbrev yN46 : MethodName := ⟨"com/example/equipoise/equipoise/WeightFile$Builder", "depart", "(I)V"⟩
section Rets
variable {p : Program} {l : Launch} {e : Env} {R : Room} {s : State} {m : MethodId} {args : Array Value} {below : List Frame} {meth : Method} {c : Code} {T : State} {locs : List Loc} {cells slots : Nat}
theorem own_retI (X : Stand p l e R s m args below meth c T locs cells slots) (hx : p.tables.exec = Jvm.exec) {pc : Nat} {Ls : Array Slot} {z : Int32} {rest : List Value} (hret : meth.sig.returnType = some .int) (hd : decode c.code pc = .ok (.ireturn, 1)) {fs : List Frame}
    (hl : ∀ (f : JFrame) (acts : List Action), f.method = m → f.locked = none → f.entered = [] → (doReturn e (T.setTop f) acts (some (.int z))).1 = T.setFrames fs) : Steps p.tables e below (T.setTop (mkF m pc Ls (.int z :: rest))) (T.setFrames fs) :=
  retOut X hx (t := .int) hret rfl (Or.inl ⟨rfl, Or.inl rfl, z, rfl⟩) hd hl
theorem own_retL (X : Stand p l e R s m args below meth c T locs cells slots) (hx : p.tables.exec = Jvm.exec) {pc : Nat} {Ls : Array Slot} {z : Int64} {rest : List Value} (hret : meth.sig.returnType = some .long) (hd : decode c.code pc = .ok (.lreturn, 1)) {fs : List Frame}
    (hl : ∀ (f : JFrame) (acts : List Action), f.method = m → f.locked = none → f.entered = [] → (doReturn e (T.setTop f) acts (some (.long z))).1 = T.setFrames fs) : Steps p.tables e below (T.setTop (mkF m pc Ls (.long z :: rest))) (T.setFrames fs) :=
  retOut X hx (t := .long) hret rfl (Or.inr (Or.inl ⟨rfl, rfl, z, rfl⟩)) hd hl
theorem own_retA (X : Stand p l e R s m args below meth c T locs cells slots) (hx : p.tables.exec = Jvm.exec) {t : FieldType} {pc : Nat} {Ls : Array Slot} {z : Addr} {rest : List Value} (hret : meth.sig.returnType = some t) (ht : t.isReference = true) (hn : narrow t (.ref z) = .ref z) (hd : decode c.code pc = .ok (.areturn, 1)) {fs : List Frame}
    (hl : ∀ (f : JFrame) (acts : List Action), f.method = m → f.locked = none → f.entered = [] → (doReturn e (T.setTop f) acts (some (.ref z))).1 = T.setFrames fs) : Steps p.tables e below (T.setTop (mkF m pc Ls (.ref z :: rest))) (T.setFrames fs) :=
  retOut X hx hret hn (Or.inr (Or.inr (Or.inr (Or.inr ⟨rfl, ht, rfl⟩)))) hd hl
end Rets
def own_d (q0 q1 : Int64) : Int32 := nar .char (((48 : Int32) + (((q0 / q1) % (10 : Int64)).toInt32)).toUInt32.toUInt16.toUInt32.toInt32)
def own_f (x : Int64) : Nat → Int32
  | 0 => own_d x (1000000000000000000 : Int64)
  | 1 => own_d x (100000000000000000 : Int64)
  | 2 => own_d x (10000000000000000 : Int64)
  | 3 => own_d x (1000000000000000 : Int64)
  | 4 => own_d x (100000000000000 : Int64)
  | 5 => own_d x (10000000000000 : Int64)
  | 6 => own_d x (1000000000000 : Int64)
  | 7 => own_d x (100000000000 : Int64)
  | 8 => own_d x (10000000000 : Int64)
  | 9 => own_d x (1000000000 : Int64)
  | 10 => own_d x (100000000 : Int64)
  | 11 => own_d x (10000000 : Int64)
  | 12 => own_d x (1000000 : Int64)
  | 13 => own_d x (100000 : Int64)
  | 14 => own_d x (10000 : Int64)
  | 15 => own_d x (1000 : Int64)
  | 16 => own_d x (100 : Int64)
  | 17 => own_d x (10 : Int64)
  | 18 => own_d x (1 : Int64)
  | _ => 48
def own_Vs (vs : List Value) (x : Int64) : Prop := ∀ j, j < 19 → vs.getD j (.int (0 : Int32)) = .int (own_f x j)
def own_D (x : Int64) (j : Nat) : Nat := x.toInt.toNat / 10 ^ (18 - j)
def own_P (x : Int64) : Nat → Nat
  | 0 => 0
  | j + 1 => own_D x j
theorem own_chr (x : Int32) : (nar .char (x.toUInt32.toUInt16.toUInt32.toInt32)) = x.toUInt32.toUInt16.toUInt32.toInt32 := by
  show (x.toUInt32.toUInt16.toUInt32.toInt32).toUInt32.toUInt16.toUInt32.toInt32 = _
  have h : ∀ u : UInt16, u.toUInt32.toInt32.toUInt32.toUInt16 = u := fun u => by simp
  exact congrArg (fun u : UInt16 => u.toUInt32.toInt32) (h _)
theorem own_nn (x y : Int64) : nar .char (own_d x y) = own_d x y := own_chr _
theorem own_dk (w : Int32) (h0 : 0 ≤ w.toInt) (h1 : w.toInt < 10) : (nar .char (((48 : Int32) + w).toUInt32.toUInt16.toUInt32.toInt32)).toInt = 48 + w.toInt := by
  have a1 := c_iadd (48 : Int32) w
  have a2 := rng32 ((48 : Int32) + w)
  have e48 : (48 : Int32).toInt = 48 := rfl
  have b1 := c_i2c ((48 : Int32) + w)
  have b2 := c_i2c (((48 : Int32) + w).toUInt32.toUInt16.toUInt32.toInt32)
  show ((((48 : Int32) + w).toUInt32.toUInt16.toUInt32.toInt32).toUInt32.toUInt16.toUInt32.toInt32).toInt = _
  rw [e48] at a1
  generalize ((((48 : Int32) + w).toUInt32.toUInt16.toUInt32.toInt32).toUInt32.toUInt16.toUInt32.toInt32).toInt = B at *
  generalize (((48 : Int32) + w).toUInt32.toUInt16.toUInt32.toInt32).toInt = B' at *
  omega
theorem own_dv {x y : Int64} {d : Nat} (hx : 0 ≤ x.toInt) (hy : y.toInt = (d : Int)) (hd : 0 < d) : (own_d x y).toInt = 48 + ((x.toInt.toNat / d % 10 : Nat) : Int) := by
  have h1 : y ≠ -1 := fun q => by
    rw [q] at hy
    have e : (-1 : Int64).toInt = -1 := rfl
    omega
  have q1 := (c_ldiv x y d hy h1).1 hx
  obtain ⟨N, hN⟩ : ∃ N : Nat, x.toInt = (N : Int) := ⟨x.toInt.toNat, by omega⟩
  have hN' : x.toInt.toNat = N := by omega
  have q3 : (x / y).toInt = ((N / d : Nat) : Int) := by rw [q1, hN]; exact (Int.natCast_ediv N d).symm
  rw [hN']
  generalize N / d = D at *
  have q2 : ((x / y) % (10 : Int64)).toInt = ((D % 10 : Nat) : Int) := by
    rw [Int64.toInt_mod, q3, show (10 : Int64).toInt = 10 from rfl, Int.tmod_eq_emod_of_nonneg (by omega)]; omega
  have r1 := c_l2i ((x / y) % (10 : Int64))
  have r2 := rng32 ((x / y) % (10 : Int64)).toInt32
  have r3 : ((x / y) % (10 : Int64)).toInt32.toInt = ((D % 10 : Nat) : Int) := by omega
  unfold own_d
  rw [own_dk _ (by omega) (by omega), r3]
theorem own_fv {x : Int64} (hx : 0 ≤ x.toInt) : ∀ j, j < 19 → (own_f x j).toInt = 48 + ((own_D x j % 10 : Nat) : Int)
  | 0, _ => own_dv hx (d := 1000000000000000000) rfl (by decide)
  | 1, _ => own_dv hx (d := 100000000000000000) rfl (by decide)
  | 2, _ => own_dv hx (d := 10000000000000000) rfl (by decide)
  | 3, _ => own_dv hx (d := 1000000000000000) rfl (by decide)
  | 4, _ => own_dv hx (d := 100000000000000) rfl (by decide)
  | 5, _ => own_dv hx (d := 10000000000000) rfl (by decide)
  | 6, _ => own_dv hx (d := 1000000000000) rfl (by decide)
  | 7, _ => own_dv hx (d := 100000000000) rfl (by decide)
  | 8, _ => own_dv hx (d := 10000000000) rfl (by decide)
  | 9, _ => own_dv hx (d := 1000000000) rfl (by decide)
  | 10, _ => own_dv hx (d := 100000000) rfl (by decide)
  | 11, _ => own_dv hx (d := 10000000) rfl (by decide)
  | 12, _ => own_dv hx (d := 1000000) rfl (by decide)
  | 13, _ => own_dv hx (d := 100000) rfl (by decide)
  | 14, _ => own_dv hx (d := 10000) rfl (by decide)
  | 15, _ => own_dv hx (d := 1000) rfl (by decide)
  | 16, _ => own_dv hx (d := 100) rfl (by decide)
  | 17, _ => own_dv hx (d := 10) rfl (by decide)
  | 18, _ => own_dv hx (d := 1) rfl (by decide)
  | n + 19, h => absurd h (by omega)
theorem own_fr {x : Int64} (hx : 0 ≤ x.toInt) {j : Nat} (hj : j < 19) : 48 ≤ (own_f x j).toInt ∧ (own_f x j).toInt ≤ 57 := by
  have := own_fv hx j hj
  generalize own_D x j = D at *
  omega
theorem own_P1 {x : Int64} (hx : 0 ≤ x.toInt) : ∀ j, j < 19 → own_P x j = own_D x j / 10
  | 0, _ => by
    have r := rng64 x
    show 0 = x.toInt.toNat / 1000000000000000000 / 10
    omega
  | j + 1, h => by
    show x.toInt.toNat / 10 ^ (18 - j) = x.toInt.toNat / 10 ^ (18 - (j + 1)) / 10
    rw [show 18 - j = (18 - (j + 1)) + 1 from by omega, Nat.pow_succ, Nat.div_div_eq_div_mul]
theorem own_Dle (x : Int64) (j : Nat) : own_D x j ≤ x.toInt.toNat := Nat.div_le_self _ _
theorem own_noov {a b : Int64} (ha : 0 ≤ a.toInt) (hb : 0 ≤ b.toInt) (h : a.toInt + b.toInt ≤ 9223372036854775807) : (¬ ((a ^^^ (a + b)) &&& (b ^^^ (a + b))) < (0 : Int64)) ∧ (a + b).toInt = a.toInt + b.toInt := by
  have q := c_ladd a b
  have r := rng64 (a + b)
  have s : (a + b).toInt = a.toInt + b.toInt := by omega
  have x1 := (c_xorSL a (a + b)).2.2.2 ha (by omega)
  have n := (c_andSL (a ^^^ (a + b)) (b ^^^ (a + b))).2.1 x1
  refine ⟨?_, s⟩
  rw [Int64.lt_iff_toInt_lt, show (0 : Int64).toInt = 0 from rfl]; omega
theorem own_m10 {x acc : Int64} (hx : 0 ≤ x.toInt) {j : Nat} (hj : j < 19) (ha : acc.toInt = (own_P x j : Int)) : (acc * (10 : Int64)).toInt = acc.toInt * 10 ∧ 0 ≤ acc.toInt ∧ acc.toInt * 10 + ((own_D x j % 10 : Nat) : Int) = (own_D x j : Int) ∧ own_D x j < 9223372036854775808 := by
  have p := own_P1 hx j hj
  have dl := own_Dle x j
  have r := rng64 x
  generalize own_D x j = D at *
  have m := c_lmul acc (10 : Int64)
  have e : (10 : Int64).toInt = 10 := rfl
  have r2 := rng64 (acc * (10 : Int64))
  rw [e] at m
  omega
theorem own_mA {x acc : Int64} (hx : 0 ≤ x.toInt) {j : Nat} (hj : j < 19) (ha : acc.toInt = (own_P x j : Int)) : (acc * (10 : Int64)) / (10 : Int64) = acc := by
  have h := own_m10 hx hj ha
  apply Int64.toInt_inj.mp
  have q := (c_ldiv (acc * (10 : Int64)) 10 10 rfl (by decide)).1 (by omega)
  rw [q, h.1]; omega
theorem own_mB {x acc : Int64} {j : Nat} (ha : acc.toInt = (own_P x j : Int)) : ¬ acc = (-9223372036854775808 : Int64) := fun q => by
  rw [q] at ha
  have e : (-9223372036854775808 : Int64).toInt = -9223372036854775808 := rfl
  omega
theorem own_dw {x : Int64} (hx : 0 ≤ x.toInt) {j : Nat} (hj : j < 19) : (((own_f x j) - (48 : Int32)).toInt64).toInt = ((own_D x j % 10 : Nat) : Int) := by
  have f := own_fv hx j hj
  have q := c_isub (own_f x j) (48 : Int32)
  have r := rng32 ((own_f x j) - (48 : Int32))
  have e : (48 : Int32).toInt = 48 := rfl
  rw [c_i2l]
  rw [e] at q
  generalize own_D x j = D at *
  omega
theorem own_mC {x acc : Int64} (hx : 0 ≤ x.toInt) {j : Nat} (hj : j < 19) (ha : acc.toInt = (own_P x j : Int)) : (¬ (((acc * (10 : Int64)) ^^^ ((acc * (10 : Int64)) + (((own_f x j) - (48 : Int32)).toInt64))) &&& ((((own_f x j) - (48 : Int32)).toInt64) ^^^ ((acc * (10 : Int64)) + (((own_f x j) - (48 : Int32)).toInt64)))) < (0 : Int64)) ∧ ((acc * (10 : Int64)) + (((own_f x j) - (48 : Int32)).toInt64)).toInt = (own_P x (j + 1) : Int) := by
  have h := own_m10 hx hj ha
  have w := own_dw hx hj
  have n := own_noov (a := acc * (10 : Int64)) (b := ((own_f x j) - (48 : Int32)).toInt64) (by omega) (by omega) (by omega)
  refine ⟨n.1, ?_⟩
  rw [n.2, w, h.1, h.2.2.1]; rfl
theorem own_end {x acc : Int64} (hx : 0 ≤ x.toInt) (ha : acc.toInt = (own_P x 19 : Int)) : acc = x := by
  apply Int64.toInt_inj.mp
  rw [ha]
  show ((x.toInt.toNat / 10 ^ (18 - 18) : Nat) : Int) = _
  rw [show (10 ^ (18 - 18) : Nat) = 1 from rfl, Nat.div_one]; omega
theorem own_in {i : Int32} {j : Nat} (h : i.toInt = (j : Int)) (hj : j < 19) : ¬ i < 0 ∧ i < (19 : Int32) := by
  have e0 : (0 : Int32).toInt = 0 := rfl
  have e7 : (19 : Int32).toInt = 19 := rfl
  rw [Int32.lt_iff_toInt_lt, Int32.lt_iff_toInt_lt, e0, e7]; omega
theorem own_cl {i : Int32} {j : Nat} (h : i.toInt = (j : Int)) : i.toNatClampNeg = j := by show i.toInt.toNat = j; omega
theorem own_rd {vs : List Value} {x : Int64} (hv : own_Vs vs x) {i : Int32} {j : Nat} (h : i.toInt = (j : Int)) (hj : j < 19) : vs.getD (i).toNatClampNeg (.int (0 : Int32)) = .int (own_f x j) := by
  rw [own_cl h]; exact hv j hj
theorem own_succ {i : Int32} {j : Nat} (h : i.toInt = (j : Int)) (hj : j < 19) : (i + (1 : Int32)).toInt = ((j + 1 : Nat) : Int) := by
  have := c_iadd i 1
  have r := rng32 (i + 1)
  have e : (1 : Int32).toInt = 1 := rfl
  rw [e] at this
  omega
theorem own_lt {i : Int32} {j k : Nat} (h : i.toInt = (j : Int)) (hk : j + (k + 1) = 19) : i < (19 : Int32) := (own_in h (by omega)).2
theorem own_nlt {i : Int32} {j : Nat} (h : i.toInt = (j : Int)) (hk : j + 0 = 19) : ¬ i < (19 : Int32) := by
  have e7 : (19 : Int32).toInt = 19 := rfl
  rw [Int32.lt_iff_toInt_lt, e7]; omega
theorem own_u {u : Int32} (h : 48 ≤ u.toInt ∧ u.toInt ≤ 57) : (¬ (255 : Int32) < u) ∧ (¬ u = (46 : Int32)) ∧ (¬ u < (48 : Int32)) ∧ (¬ (57 : Int32) < u) := by
  have e1 : (255 : Int32).toInt = 255 := rfl
  have e2 : (46 : Int32).toInt = 46 := rfl
  have e3 : (48 : Int32).toInt = 48 := rfl
  have e4 : (57 : Int32).toInt = 57 := rfl
  rw [← Int32.toInt_inj, Int32.lt_iff_toInt_lt, Int32.lt_iff_toInt_lt, Int32.lt_iff_toInt_lt, e1, e2, e3, e4]
  omega
theorem own_nb {u : Int32} (h : 48 ≤ u.toInt ∧ u.toInt ≤ 57) : nar .byte (u.toInt8.toInt32) = u := by
  show (u.toInt8.toInt32).toInt8.toInt32 = u
  have q1 := c_i2b u
  have q2 := c_i2b u.toInt8.toInt32
  apply Int32.toInt_inj.mp; omega
theorem own_id {t : Int32} (h : 0 ≤ t.toInt ∧ t.toInt < 65536) : t.toUInt32.toUInt16.toUInt32.toInt32 = t := by
  have q := c_i2c t
  apply Int32.toInt_inj.mp; omega
theorem own_cid {u : Int32} (h : 48 ≤ u.toInt ∧ u.toInt ≤ 57) : nar .char u = u := own_id (by omega)
theorem own_chid {u : Int32} (h : 48 ≤ u.toInt ∧ u.toInt ≤ 57) : nar .char ((u &&& (255 : Int32)).toUInt32.toUInt16.toUInt32.toInt32) = u := by
  have q := c_mask u 255 8 (by decide) (by decide)
  have e : u &&& (255 : Int32) = u := by apply Int32.toInt_inj.mp; omega
  rw [e, own_id (by omega)]; exact own_cid h
theorem own_hb {bs : List Value} {x : Int64} {j : Nat} (hx : 0 ≤ x.toInt) (hj : j < 19) (hl : bs.length = 19) (h : ∀ t, t < j → bs.getD t (.int (0 : Int32)) = .int (own_f x t)) : ∀ t, t < j + 1 → (bs.set j (.int (nar .byte ((own_f x j).toInt8.toInt32)))).getD t (.int (0 : Int32)) = .int (own_f x t) := fun t ht => by
  rw [own_nb (own_fr hx hj)]
  by_cases q : t = j
  · subst q; simp [List.getD, hl, hj]
  · have h2 := h t (by omega)
    simp only [List.getD] at h2 ⊢
    rw [List.getElem?_set_ne (Ne.symm q)]; exact h2
theorem own_n0 : nar .byte (0 : Int32) = (0 : Int32) := by decide
def own_minL (q0 : Int64) (q1 : Int64) : Int64 := (if q1 < q0 then q1 else q0)
theorem d1_0 : decode jdk_29_method_70_code 0 = .ok (.lload_n 0, 1) := by decide +kernel
theorem d1_1 : decode jdk_29_method_70_code 1 = .ok (.lload_n 2, 1) := by decide +kernel
theorem d1_2 : decode jdk_29_method_70_code 2 = .ok (.lcmp, 1) := by decide +kernel
theorem d1_3 : decode jdk_29_method_70_code 3 = .ok (.ifCond .gt 7, 3) := by decide +kernel
theorem d1_6 : decode jdk_29_method_70_code 6 = .ok (.lload_n 0, 1) := by decide +kernel
theorem d1_7 : decode jdk_29_method_70_code 7 = .ok (.goto 4, 3) := by decide +kernel
theorem d1_10 : decode jdk_29_method_70_code 10 = .ok (.lload_n 2, 1) := by decide +kernel
theorem d1_11 : decode jdk_29_method_70_code 11 = .ok (.lreturn, 1) := by decide +kernel
theorem ef_rm_minJ (m : MethodId) (q0 : Int64) (q1 : Int64) : entryFrame m #[(.long q0), (.long q1)] 4 = mkF m 0 #[.val (.long q0), .second, .val (.long q1), .second] [] := by first | (simp [entryFrame, mkF, argsToLocals, Value.category]; done) | rfl
def Q_rm_minJ (Z : State) (q0 : Int64) (q1 : Int64) (h0 : Heap) (n0 : Nat) (v : Option Value) (h : Heap) (L : List Loc) : Prop := v = some (.long (own_minL q0 q1)) ∧ Fr n0 L ∧ h = h0
set_option maxRecDepth 65536 in
set_option maxHeartbeats 40000000 in
theorem rm_minJ (l : Launch) (Z : State) (a0 : Array Value) (hw : ∀ d ∈ tables_1, d.before a0 Z = true) (ws : List Jvm.Cond) (q0 : Int64) (q1 : Int64) (h0 : Heap) (n0 : Nat) (Z0 : n0 ≤ h0.size) :
    MetFree l yN0 (head1 (Jvm.Cond.code yN0 jdk_29_method_70_code 4 (some .long) :: ws) ({ frames := 0, cells := 0, slots := 0, locals := 0 } : Room)) (fun a U => a = #[(.long q0), (.long q1)] ∧ Z.Warmed39 U.vm ∧ U.heap = h0) (fun _ _ _ _ _ => True) (fun _ U o U' => ∃ v L, o = .returned v ∧ Q_rm_minJ Z q0 q1 h0 n0 v U'.heap L ∧ FrameEnd U o U' L ({ frames := 0, cells := 0, slots := 0, locals := 0 } : Room).cells ({ frames := 0, cells := 0, slots := 0, locals := 0 } : Room).slots) := by
  refine MetFree.of_bodySF (Jvm.Free.JP.mathPlain rfl (by decide +kernel)) hisR ?_
  intro p e s m args below meth c s₁ Bd hml0 hP hK
  obtain ⟨rfl, hZ, hh⟩ := hP
  have hx := Bd.exec
  have hby := Bd.bytes
  have hml : c.maxLocals = 4 := hml0
  have hown : s.vm.findClass "java/lang/Math" = some m.cls := findClass_of_methodNamed Bd.named
  have hnm := (name_of_methodNamed Bd.named Bd.method).1
  have X0 : Stand p l e ({ frames := 0, cells := 0, slots := 0, locals := 0 } : Room) s m #[(.long q0), (.long q1)] below meth c s₁ [] 0 0 := Stand.of_body Bd
  have e0 : s₁.heap = h0 := by rw [← hh, Bd.state]; rfl
  have N0 := Fr.nil n0
  have K0 := Keep.refl h0 []
  have go0 : Go p e below (s₁.setTop (entryFrame m #[(.long q0), (.long q1)] 4)) (s₁.setTop (mkF m 0 #[vJ q0, sc, vJ q1, sc] [])) := fun t k => castTop (ef_rm_minJ m q0 q1) k
  have go2 := go0.st s₁ (mkF m 3 #[vJ q0, sc, vJ q1, sc] [(sI (lcmpW q0 q1))]) (fun t k => by
    refine XS.lloadN X0.here hx rfl (hb hby d1_0) rfl ?_
    refine XS.lloadN X0.here hx rfl (hb hby d1_1) rfl ?_
    refine XS.lcmp X0.here hx rfl (hb hby d1_2) rfl ?_
    exact k)
  by_cases hc1 : q1 < q0
  · skip
    have go3 := go2.st s₁ (mkF m 11 #[vJ q0, sc, vJ q1, sc] [sJ q1]) (fun t k => by
      refine XS.ifYes X0.here hx rfl (pc0 := 3) (pc' := 10) rfl (hb hby d1_3) rfl ((if0 _ _).trans (tlt ((lw_gt _ _).mpr hc1)).2.2.1) (by decide) (by decide) ?_
      refine XS.lloadN X0.here hx rfl (hb hby d1_10) rfl ?_
      exact k)
    obtain ⟨fs, hr, hrun, hended, hW, hsame⟩ := X0.leave (v := some (.long q1)) (fun h => by rw [Bd.returns] at h; cases h)
    refine ⟨_, _, go3 _ ?_, hrun, hended, _, _, rfl, ?_, ⟨_, rfl⟩, hW, hsame.mono (by decide) (by decide)⟩
    · exact own_retL X0 hx Bd.returns (hb hby d1_11) hr
    · show Q_rm_minJ Z q0 q1 h0 n0 _ s₁.heap _
      rw [e0]
      exact ⟨by unfold own_minL; simp only [if_pos hc1], N0, rfl⟩
  · skip
    have go4 := go2.st s₁ (mkF m 11 #[vJ q0, sc, vJ q1, sc] [sJ q0]) (fun t k => by
      refine XS.ifNo X0.here hx rfl (hb hby d1_3) rfl ((if0 _ _).trans (flt (fun q => hc1 ((lw_gt _ _).mp q))).2.2.1) ?_
      refine XS.lloadN X0.here hx rfl (hb hby d1_6) rfl ?_
      refine XS.goto X0.here hx rfl (pc0 := 7) (pc' := 11) rfl (hb hby d1_7) (by decide) (by decide) ?_
      exact k)
    obtain ⟨fs, hr, hrun, hended, hW, hsame⟩ := X0.leave (v := some (.long q0)) (fun h => by rw [Bd.returns] at h; cases h)
    refine ⟨_, _, go4 _ ?_, hrun, hended, _, _, rfl, ?_, ⟨_, rfl⟩, hW, hsame.mono (by decide) (by decide)⟩
    · exact own_retL X0 hx Bd.returns (hb hby d1_11) hr
    · show Q_rm_minJ Z q0 q1 h0 n0 _ s₁.heap _
      rw [e0]
      exact ⟨by unfold own_minL; simp only [if_neg hc1], N0, rfl⟩
def own_maxL (q0 : Int64) (q1 : Int64) : Int64 := (if q0 < q1 then q1 else q0)
theorem d33_0 : decode jdk_29_method_66_code 0 = .ok (.lload_n 0, 1) := by decide +kernel
theorem d33_1 : decode jdk_29_method_66_code 1 = .ok (.lload_n 2, 1) := by decide +kernel
theorem d33_2 : decode jdk_29_method_66_code 2 = .ok (.lcmp, 1) := by decide +kernel
theorem d33_3 : decode jdk_29_method_66_code 3 = .ok (.ifCond .lt 7, 3) := by decide +kernel
theorem d33_6 : decode jdk_29_method_66_code 6 = .ok (.lload_n 0, 1) := by decide +kernel
theorem d33_7 : decode jdk_29_method_66_code 7 = .ok (.goto 4, 3) := by decide +kernel
theorem d33_10 : decode jdk_29_method_66_code 10 = .ok (.lload_n 2, 1) := by decide +kernel
theorem d33_11 : decode jdk_29_method_66_code 11 = .ok (.lreturn, 1) := by decide +kernel
theorem ef_rm_maxJ (m : MethodId) (q0 : Int64) (q1 : Int64) : entryFrame m #[(.long q0), (.long q1)] 4 = mkF m 0 #[.val (.long q0), .second, .val (.long q1), .second] [] := by first | (simp [entryFrame, mkF, argsToLocals, Value.category]; done) | rfl
def Q_rm_maxJ (Z : State) (q0 : Int64) (q1 : Int64) (h0 : Heap) (n0 : Nat) (v : Option Value) (h : Heap) (L : List Loc) : Prop := v = some (.long (own_maxL q0 q1)) ∧ Fr n0 L ∧ h = h0
set_option maxRecDepth 65536 in
set_option maxHeartbeats 40000000 in
theorem rm_maxJ (l : Launch) (Z : State) (a0 : Array Value) (hw : ∀ d ∈ tables_1, d.before a0 Z = true) (ws : List Jvm.Cond) (q0 : Int64) (q1 : Int64) (h0 : Heap) (n0 : Nat) (Z0 : n0 ≤ h0.size) :
    MetFree l yN1 (head1 (Jvm.Cond.code yN1 jdk_29_method_66_code 4 (some .long) :: ws) ({ frames := 0, cells := 0, slots := 0, locals := 0 } : Room)) (fun a U => a = #[(.long q0), (.long q1)] ∧ Z.Warmed39 U.vm ∧ U.heap = h0) (fun _ _ _ _ _ => True) (fun _ U o U' => ∃ v L, o = .returned v ∧ Q_rm_maxJ Z q0 q1 h0 n0 v U'.heap L ∧ FrameEnd U o U' L ({ frames := 0, cells := 0, slots := 0, locals := 0 } : Room).cells ({ frames := 0, cells := 0, slots := 0, locals := 0 } : Room).slots) := by
  refine MetFree.of_bodySF (Jvm.Free.JP.mathPlain rfl (by decide +kernel)) hisR ?_
  intro p e s m args below meth c s₁ Bd hml0 hP hK
  obtain ⟨rfl, hZ, hh⟩ := hP
  have hx := Bd.exec
  have hby := Bd.bytes
  have hml : c.maxLocals = 4 := hml0
  have hown : s.vm.findClass "java/lang/Math" = some m.cls := findClass_of_methodNamed Bd.named
  have hnm := (name_of_methodNamed Bd.named Bd.method).1
  have X0 : Stand p l e ({ frames := 0, cells := 0, slots := 0, locals := 0 } : Room) s m #[(.long q0), (.long q1)] below meth c s₁ [] 0 0 := Stand.of_body Bd
  have e0 : s₁.heap = h0 := by rw [← hh, Bd.state]; rfl
  have N0 := Fr.nil n0
  have K0 := Keep.refl h0 []
  have go0 : Go p e below (s₁.setTop (entryFrame m #[(.long q0), (.long q1)] 4)) (s₁.setTop (mkF m 0 #[vJ q0, sc, vJ q1, sc] [])) := fun t k => castTop (ef_rm_maxJ m q0 q1) k
  have go2 := go0.st s₁ (mkF m 3 #[vJ q0, sc, vJ q1, sc] [(sI (lcmpW q0 q1))]) (fun t k => by
    refine XS.lloadN X0.here hx rfl (hb hby d33_0) rfl ?_
    refine XS.lloadN X0.here hx rfl (hb hby d33_1) rfl ?_
    refine XS.lcmp X0.here hx rfl (hb hby d33_2) rfl ?_
    exact k)
  by_cases hc1 : q0 < q1
  · skip
    have go3 := go2.st s₁ (mkF m 11 #[vJ q0, sc, vJ q1, sc] [sJ q1]) (fun t k => by
      refine XS.ifYes X0.here hx rfl (pc0 := 3) (pc' := 10) rfl (hb hby d33_3) rfl ((if0 _ _).trans (tlt ((lw_lt _ _).mpr hc1)).1) (by decide) (by decide) ?_
      refine XS.lloadN X0.here hx rfl (hb hby d33_10) rfl ?_
      exact k)
    obtain ⟨fs, hr, hrun, hended, hW, hsame⟩ := X0.leave (v := some (.long q1)) (fun h => by rw [Bd.returns] at h; cases h)
    refine ⟨_, _, go3 _ ?_, hrun, hended, _, _, rfl, ?_, ⟨_, rfl⟩, hW, hsame.mono (by decide) (by decide)⟩
    · exact own_retL X0 hx Bd.returns (hb hby d33_11) hr
    · show Q_rm_maxJ Z q0 q1 h0 n0 _ s₁.heap _
      rw [e0]
      exact ⟨by unfold own_maxL; simp only [if_pos hc1], N0, rfl⟩
  · skip
    have go4 := go2.st s₁ (mkF m 11 #[vJ q0, sc, vJ q1, sc] [sJ q0]) (fun t k => by
      refine XS.ifNo X0.here hx rfl (hb hby d33_3) rfl ((if0 _ _).trans (flt (fun q => hc1 ((lw_lt _ _).mp q))).1) ?_
      refine XS.lloadN X0.here hx rfl (hb hby d33_6) rfl ?_
      refine XS.goto X0.here hx rfl (pc0 := 7) (pc' := 11) rfl (hb hby d33_7) (by decide) (by decide) ?_
      exact k)
    obtain ⟨fs, hr, hrun, hended, hW, hsame⟩ := X0.leave (v := some (.long q0)) (fun h => by rw [Bd.returns] at h; cases h)
    refine ⟨_, _, go4 _ ?_, hrun, hended, _, _, rfl, ?_, ⟨_, rfl⟩, hW, hsame.mono (by decide) (by decide)⟩
    · exact own_retL X0 hx Bd.returns (hb hby d33_11) hr
    · show Q_rm_maxJ Z q0 q1 h0 n0 _ s₁.heap _
      rw [e0]
      exact ⟨by unfold own_maxL; simp only [if_neg hc1], N0, rfl⟩
def own_absL (q0 : Int64) : Int64 := (if q0 < (0 : Int64) then (-q0) else q0)
theorem d30_0 : decode jdk_29_method_61_code 0 = .ok (.lload_n 0, 1) := by decide +kernel
theorem d30_1 : decode jdk_29_method_61_code 1 = .ok (.lconst 0, 1) := by decide +kernel
theorem d30_2 : decode jdk_29_method_61_code 2 = .ok (.lcmp, 1) := by decide +kernel
theorem d30_3 : decode jdk_29_method_61_code 3 = .ok (.ifCond .ge 8, 3) := by decide +kernel
theorem d30_6 : decode jdk_29_method_61_code 6 = .ok (.lload_n 0, 1) := by decide +kernel
theorem d30_7 : decode jdk_29_method_61_code 7 = .ok (.lneg, 1) := by decide +kernel
theorem d30_8 : decode jdk_29_method_61_code 8 = .ok (.goto 4, 3) := by decide +kernel
theorem d30_11 : decode jdk_29_method_61_code 11 = .ok (.lload_n 0, 1) := by decide +kernel
theorem d30_12 : decode jdk_29_method_61_code 12 = .ok (.lreturn, 1) := by decide +kernel
theorem ef_rm_absJ (m : MethodId) (q0 : Int64) : entryFrame m #[(.long q0)] 2 = mkF m 0 #[.val (.long q0), .second] [] := by first | (simp [entryFrame, mkF, argsToLocals, Value.category]; done) | rfl
def Q_rm_absJ (Z : State) (q0 : Int64) (h0 : Heap) (n0 : Nat) (v : Option Value) (h : Heap) (L : List Loc) : Prop := v = some (.long (own_absL q0)) ∧ Fr n0 L ∧ h = h0
set_option maxRecDepth 65536 in
set_option maxHeartbeats 40000000 in
theorem rm_absJ (l : Launch) (Z : State) (a0 : Array Value) (hw : ∀ d ∈ tables_1, d.before a0 Z = true) (ws : List Jvm.Cond) (q0 : Int64) (h0 : Heap) (n0 : Nat) (Z0 : n0 ≤ h0.size) :
    MetFree l yN2 (head1 (Jvm.Cond.code yN2 jdk_29_method_61_code 2 (some .long) :: ws) ({ frames := 0, cells := 0, slots := 0, locals := 0 } : Room)) (fun a U => a = #[(.long q0)] ∧ Z.Warmed39 U.vm ∧ U.heap = h0) (fun _ _ _ _ _ => True) (fun _ U o U' => ∃ v L, o = .returned v ∧ Q_rm_absJ Z q0 h0 n0 v U'.heap L ∧ FrameEnd U o U' L ({ frames := 0, cells := 0, slots := 0, locals := 0 } : Room).cells ({ frames := 0, cells := 0, slots := 0, locals := 0 } : Room).slots) := by
  refine MetFree.of_bodySF (Jvm.Free.JP.mathPlain rfl (by decide +kernel)) hisR ?_
  intro p e s m args below meth c s₁ Bd hml0 hP hK
  obtain ⟨rfl, hZ, hh⟩ := hP
  have hx := Bd.exec
  have hby := Bd.bytes
  have hml : c.maxLocals = 2 := hml0
  have hown : s.vm.findClass "java/lang/Math" = some m.cls := findClass_of_methodNamed Bd.named
  have hnm := (name_of_methodNamed Bd.named Bd.method).1
  have X0 : Stand p l e ({ frames := 0, cells := 0, slots := 0, locals := 0 } : Room) s m #[(.long q0)] below meth c s₁ [] 0 0 := Stand.of_body Bd
  have e0 : s₁.heap = h0 := by rw [← hh, Bd.state]; rfl
  have N0 := Fr.nil n0
  have K0 := Keep.refl h0 []
  have go0 : Go p e below (s₁.setTop (entryFrame m #[(.long q0)] 2)) (s₁.setTop (mkF m 0 #[vJ q0, sc] [])) := fun t k => castTop (ef_rm_absJ m q0) k
  have go2 := go0.st s₁ (mkF m 3 #[vJ q0, sc] [(sI (lcmpW q0 (0 : Int64)))]) (fun t k => by
    refine XS.lloadN X0.here hx rfl (hb hby d30_0) rfl ?_
    refine XS.lconst X0.here hx rfl (hb hby d30_1) ?_
    refine XS.lcmp X0.here hx rfl (hb hby d30_2) rfl ?_
    exact k)
  by_cases hc1 : q0 < (0 : Int64)
  · skip
    have go3 := go2.st s₁ (mkF m 12 #[vJ q0, sc] [(sJ (-q0))]) (fun t k => by
      refine XS.ifNo X0.here hx rfl (hb hby d30_3) rfl ((if0 _ _).trans (tlt ((lw_lt _ _).mpr hc1)).2.1) ?_
      refine XS.lloadN X0.here hx rfl (hb hby d30_6) rfl ?_
      refine XS.lneg X0.here hx rfl (hb hby d30_7) rfl ?_
      refine XS.goto X0.here hx rfl (pc0 := 8) (pc' := 12) rfl (hb hby d30_8) (by decide) (by decide) ?_
      exact k)
    obtain ⟨fs, hr, hrun, hended, hW, hsame⟩ := X0.leave (v := some (.long (-q0))) (fun h => by rw [Bd.returns] at h; cases h)
    refine ⟨_, _, go3 _ ?_, hrun, hended, _, _, rfl, ?_, ⟨_, rfl⟩, hW, hsame.mono (by decide) (by decide)⟩
    · exact own_retL X0 hx Bd.returns (hb hby d30_12) hr
    · show Q_rm_absJ Z q0 h0 n0 _ s₁.heap _
      rw [e0]
      exact ⟨by unfold own_absL; simp only [if_pos hc1], N0, rfl⟩
  · skip
    have go4 := go2.st s₁ (mkF m 12 #[vJ q0, sc] [sJ q0]) (fun t k => by
      refine XS.ifYes X0.here hx rfl (pc0 := 3) (pc' := 11) rfl (hb hby d30_3) rfl ((if0 _ _).trans (flt (fun q => hc1 ((lw_lt _ _).mp q))).2.1) (by decide) (by decide) ?_
      refine XS.lloadN X0.here hx rfl (hb hby d30_11) rfl ?_
      exact k)
    obtain ⟨fs, hr, hrun, hended, hW, hsame⟩ := X0.leave (v := some (.long q0)) (fun h => by rw [Bd.returns] at h; cases h)
    refine ⟨_, _, go4 _ ?_, hrun, hended, _, _, rfl, ?_, ⟨_, rfl⟩, hW, hsame.mono (by decide) (by decide)⟩
    · exact own_retL X0 hx Bd.returns (hb hby d30_12) hr
    · show Q_rm_absJ Z q0 h0 n0 _ s₁.heap _
      rw [e0]
      exact ⟨by unfold own_absL; simp only [if_neg hc1], N0, rfl⟩
theorem d19_0 : decode jdk_29_method_65_code 0 = .ok (.iload_n 0, 1) := by decide +kernel
theorem d19_1 : decode jdk_29_method_65_code 1 = .ok (.iload_n 1, 1) := by decide +kernel
theorem d19_2 : decode jdk_29_method_65_code 2 = .ok (.if_icmp .lt 7, 3) := by decide +kernel
theorem d19_5 : decode jdk_29_method_65_code 5 = .ok (.iload_n 0, 1) := by decide +kernel
theorem d19_6 : decode jdk_29_method_65_code 6 = .ok (.goto 4, 3) := by decide +kernel
theorem d19_10 : decode jdk_29_method_65_code 10 = .ok (.ireturn, 1) := by decide +kernel
theorem ef_rm_max00 (m : MethodId) : entryFrame m #[(.int (0 : Int32)), (.int (0 : Int32))] 2 = mkF m 0 #[.val (.int (0 : Int32)), .val (.int (0 : Int32))] [] := by first | (simp [entryFrame, mkF, argsToLocals, Value.category]; done) | rfl
def Q_rm_max00 (Z : State) (h0 : Heap) (n0 : Nat) (v : Option Value) (h : Heap) (L : List Loc) : Prop := v = some (.int (0 : Int32)) ∧ Fr n0 L ∧ h = h0
set_option maxRecDepth 65536 in
set_option maxHeartbeats 40000000 in
theorem rm_max00 (l : Launch) (Z : State) (a0 : Array Value) (hw : ∀ d ∈ tables_1, d.before a0 Z = true) (ws : List Jvm.Cond) (h0 : Heap) (n0 : Nat) (Z0 : n0 ≤ h0.size) :
    MetFree l yN3 (head1 (Jvm.Cond.code yN3 jdk_29_method_65_code 2 (some .int) :: ws) ({ frames := 0, cells := 0, slots := 0, locals := 0 } : Room)) (fun a U => a = #[(.int (0 : Int32)), (.int (0 : Int32))] ∧ Z.Warmed39 U.vm ∧ U.heap = h0) (fun _ _ _ _ _ => True) (fun _ U o U' => ∃ v L, o = .returned v ∧ Q_rm_max00 Z h0 n0 v U'.heap L ∧ FrameEnd U o U' L ({ frames := 0, cells := 0, slots := 0, locals := 0 } : Room).cells ({ frames := 0, cells := 0, slots := 0, locals := 0 } : Room).slots) := by
  refine MetFree.of_bodySF (Jvm.Free.JP.mathPlain rfl (by decide +kernel)) hisR ?_
  intro p e s m args below meth c s₁ Bd hml0 hP hK
  obtain ⟨rfl, hZ, hh⟩ := hP
  have hx := Bd.exec
  have hby := Bd.bytes
  have hml : c.maxLocals = 2 := hml0
  have hown : s.vm.findClass "java/lang/Math" = some m.cls := findClass_of_methodNamed Bd.named
  have hnm := (name_of_methodNamed Bd.named Bd.method).1
  have X0 : Stand p l e ({ frames := 0, cells := 0, slots := 0, locals := 0 } : Room) s m #[(.int (0 : Int32)), (.int (0 : Int32))] below meth c s₁ [] 0 0 := Stand.of_body Bd
  have e0 : s₁.heap = h0 := by rw [← hh, Bd.state]; rfl
  have N0 := Fr.nil n0
  have K0 := Keep.refl h0 []
  have go0 : Go p e below (s₁.setTop (entryFrame m #[(.int (0 : Int32)), (.int (0 : Int32))] 2)) (s₁.setTop (mkF m 0 #[vI i0, vI i0] [])) := fun t k => castTop (ef_rm_max00 m) k
  have go2 := go0.st s₁ (mkF m 10 #[vI i0, vI i0] [sI i0]) (fun t k => by
    refine XS.iloadN X0.here hx rfl (hb hby d19_0) rfl ?_
    refine XS.iloadN X0.here hx rfl (hb hby d19_1) rfl ?_
    refine XS.icmpNo X0.here hx rfl (hb hby d19_2) rfl (flt ((by decide) : ¬ ((0 : Int32) < (0 : Int32)))).1 ?_
    refine XS.iloadN X0.here hx rfl (hb hby d19_5) rfl ?_
    refine XS.goto X0.here hx rfl (pc0 := 6) (pc' := 10) rfl (hb hby d19_6) (by decide) (by decide) ?_
    exact k)
  obtain ⟨fs, hr, hrun, hended, hW, hsame⟩ := X0.leave (v := some (.int (0 : Int32))) (fun h => by rw [Bd.returns] at h; cases h)
  refine ⟨_, _, go2 _ ?_, hrun, hended, _, _, rfl, ?_, ⟨_, rfl⟩, hW, hsame.mono (by decide) (by decide)⟩
  · exact own_retI X0 hx Bd.returns (hb hby d19_10) hr
  · show Q_rm_max00 Z h0 n0 _ s₁.heap _
    rw [e0]
    exact ⟨rfl, N0, rfl⟩
theorem d19_9 : decode jdk_29_method_65_code 9 = .ok (.iload_n 1, 1) := by decide +kernel
theorem ef_rm_maxm1 (m : MethodId) : entryFrame m #[(.int (-1 : Int32)), (.int (0 : Int32))] 2 = mkF m 0 #[.val (.int (-1 : Int32)), .val (.int (0 : Int32))] [] := by first | (simp [entryFrame, mkF, argsToLocals, Value.category]; done) | rfl
def Q_rm_maxm1 (Z : State) (h0 : Heap) (n0 : Nat) (v : Option Value) (h : Heap) (L : List Loc) : Prop := v = some (.int (0 : Int32)) ∧ Fr n0 L ∧ h = h0
set_option maxRecDepth 65536 in
set_option maxHeartbeats 40000000 in
theorem rm_maxm1 (l : Launch) (Z : State) (a0 : Array Value) (hw : ∀ d ∈ tables_1, d.before a0 Z = true) (ws : List Jvm.Cond) (h0 : Heap) (n0 : Nat) (Z0 : n0 ≤ h0.size) :
    MetFree l yN3 (head1 (Jvm.Cond.code yN3 jdk_29_method_65_code 2 (some .int) :: ws) ({ frames := 0, cells := 0, slots := 0, locals := 0 } : Room)) (fun a U => a = #[(.int (-1 : Int32)), (.int (0 : Int32))] ∧ Z.Warmed39 U.vm ∧ U.heap = h0) (fun _ _ _ _ _ => True) (fun _ U o U' => ∃ v L, o = .returned v ∧ Q_rm_maxm1 Z h0 n0 v U'.heap L ∧ FrameEnd U o U' L ({ frames := 0, cells := 0, slots := 0, locals := 0 } : Room).cells ({ frames := 0, cells := 0, slots := 0, locals := 0 } : Room).slots) := by
  refine MetFree.of_bodySF (Jvm.Free.JP.mathPlain rfl (by decide +kernel)) hisR ?_
  intro p e s m args below meth c s₁ Bd hml0 hP hK
  obtain ⟨rfl, hZ, hh⟩ := hP
  have hx := Bd.exec
  have hby := Bd.bytes
  have hml : c.maxLocals = 2 := hml0
  have hown : s.vm.findClass "java/lang/Math" = some m.cls := findClass_of_methodNamed Bd.named
  have hnm := (name_of_methodNamed Bd.named Bd.method).1
  have X0 : Stand p l e ({ frames := 0, cells := 0, slots := 0, locals := 0 } : Room) s m #[(.int (-1 : Int32)), (.int (0 : Int32))] below meth c s₁ [] 0 0 := Stand.of_body Bd
  have e0 : s₁.heap = h0 := by rw [← hh, Bd.state]; rfl
  have N0 := Fr.nil n0
  have K0 := Keep.refl h0 []
  have go0 : Go p e below (s₁.setTop (entryFrame m #[(.int (-1 : Int32)), (.int (0 : Int32))] 2)) (s₁.setTop (mkF m 0 #[vI ((-1 : Int32)), vI i0] [])) := fun t k => castTop (ef_rm_maxm1 m) k
  have go2 := go0.st s₁ (mkF m 10 #[vI ((-1 : Int32)), vI i0] [sI i0]) (fun t k => by
    refine XS.iloadN X0.here hx rfl (hb hby d19_0) rfl ?_
    refine XS.iloadN X0.here hx rfl (hb hby d19_1) rfl ?_
    refine XS.icmpYes X0.here hx rfl (pc0 := 2) (pc' := 9) rfl (hb hby d19_2) rfl (tlt ((by decide) : (-1 : Int32) < (0 : Int32))).1 (by decide) (by decide) ?_
    refine XS.iloadN X0.here hx rfl (hb hby d19_9) rfl ?_
    exact k)
  obtain ⟨fs, hr, hrun, hended, hW, hsame⟩ := X0.leave (v := some (.int (0 : Int32))) (fun h => by rw [Bd.returns] at h; cases h)
  refine ⟨_, _, go2 _ ?_, hrun, hended, _, _, rfl, ?_, ⟨_, rfl⟩, hW, hsame.mono (by decide) (by decide)⟩
  · exact own_retI X0 hx Bd.returns (hb hby d19_10) hr
  · show Q_rm_maxm1 Z h0 n0 _ s₁.heap _
    rw [e0]
    exact ⟨rfl, N0, rfl⟩
theorem d20_0 : decode jdk_29_method_69_code 0 = .ok (.iload_n 0, 1) := by decide +kernel
theorem d20_1 : decode jdk_29_method_69_code 1 = .ok (.iload_n 1, 1) := by decide +kernel
theorem d20_2 : decode jdk_29_method_69_code 2 = .ok (.if_icmp .gt 7, 3) := by decide +kernel
theorem d20_5 : decode jdk_29_method_69_code 5 = .ok (.iload_n 0, 1) := by decide +kernel
theorem d20_6 : decode jdk_29_method_69_code 6 = .ok (.goto 4, 3) := by decide +kernel
theorem d20_10 : decode jdk_29_method_69_code 10 = .ok (.ireturn, 1) := by decide +kernel
theorem ef_rm_min19 (m : MethodId) : entryFrame m #[(.int (19 : Int32)), (.int (19 : Int32))] 2 = mkF m 0 #[.val (.int (19 : Int32)), .val (.int (19 : Int32))] [] := by first | (simp [entryFrame, mkF, argsToLocals, Value.category]; done) | rfl
def Q_rm_min19 (Z : State) (h0 : Heap) (n0 : Nat) (v : Option Value) (h : Heap) (L : List Loc) : Prop := v = some (.int (19 : Int32)) ∧ Fr n0 L ∧ h = h0
set_option maxRecDepth 65536 in
set_option maxHeartbeats 40000000 in
theorem rm_min19 (l : Launch) (Z : State) (a0 : Array Value) (hw : ∀ d ∈ tables_1, d.before a0 Z = true) (ws : List Jvm.Cond) (h0 : Heap) (n0 : Nat) (Z0 : n0 ≤ h0.size) :
    MetFree l yN4 (head1 (Jvm.Cond.code yN4 jdk_29_method_69_code 2 (some .int) :: ws) ({ frames := 0, cells := 0, slots := 0, locals := 0 } : Room)) (fun a U => a = #[(.int (19 : Int32)), (.int (19 : Int32))] ∧ Z.Warmed39 U.vm ∧ U.heap = h0) (fun _ _ _ _ _ => True) (fun _ U o U' => ∃ v L, o = .returned v ∧ Q_rm_min19 Z h0 n0 v U'.heap L ∧ FrameEnd U o U' L ({ frames := 0, cells := 0, slots := 0, locals := 0 } : Room).cells ({ frames := 0, cells := 0, slots := 0, locals := 0 } : Room).slots) := by
  refine MetFree.of_bodySF (Jvm.Free.JP.mathPlain rfl (by decide +kernel)) hisR ?_
  intro p e s m args below meth c s₁ Bd hml0 hP hK
  obtain ⟨rfl, hZ, hh⟩ := hP
  have hx := Bd.exec
  have hby := Bd.bytes
  have hml : c.maxLocals = 2 := hml0
  have hown : s.vm.findClass "java/lang/Math" = some m.cls := findClass_of_methodNamed Bd.named
  have hnm := (name_of_methodNamed Bd.named Bd.method).1
  have X0 : Stand p l e ({ frames := 0, cells := 0, slots := 0, locals := 0 } : Room) s m #[(.int (19 : Int32)), (.int (19 : Int32))] below meth c s₁ [] 0 0 := Stand.of_body Bd
  have e0 : s₁.heap = h0 := by rw [← hh, Bd.state]; rfl
  have N0 := Fr.nil n0
  have K0 := Keep.refl h0 []
  have go0 : Go p e below (s₁.setTop (entryFrame m #[(.int (19 : Int32)), (.int (19 : Int32))] 2)) (s₁.setTop (mkF m 0 #[vI ((19 : Int32)), vI ((19 : Int32))] [])) := fun t k => castTop (ef_rm_min19 m) k
  have go2 := go0.st s₁ (mkF m 10 #[vI ((19 : Int32)), vI ((19 : Int32))] [(sI (19 : Int32))]) (fun t k => by
    refine XS.iloadN X0.here hx rfl (hb hby d20_0) rfl ?_
    refine XS.iloadN X0.here hx rfl (hb hby d20_1) rfl ?_
    refine XS.icmpNo X0.here hx rfl (hb hby d20_2) rfl (flt ((by decide) : ¬ ((19 : Int32) < (19 : Int32)))).2.2.1 ?_
    refine XS.iloadN X0.here hx rfl (hb hby d20_5) rfl ?_
    refine XS.goto X0.here hx rfl (pc0 := 6) (pc' := 10) rfl (hb hby d20_6) (by decide) (by decide) ?_
    exact k)
  obtain ⟨fs, hr, hrun, hended, hW, hsame⟩ := X0.leave (v := some (.int (19 : Int32))) (fun h => by rw [Bd.returns] at h; cases h)
  refine ⟨_, _, go2 _ ?_, hrun, hended, _, _, rfl, ?_, ⟨_, rfl⟩, hW, hsame.mono (by decide) (by decide)⟩
  · exact own_retI X0 hx Bd.returns (hb hby d20_10) hr
  · show Q_rm_min19 Z h0 n0 _ s₁.heap _
    rw [e0]
    exact ⟨rfl, N0, rfl⟩
theorem d20_9 : decode jdk_29_method_69_code 9 = .ok (.iload_n 1, 1) := by decide +kernel
theorem ef_rm_min3 (m : MethodId) : entryFrame m #[(.int (1024 : Int32)), (.int (3 : Int32))] 2 = mkF m 0 #[.val (.int (1024 : Int32)), .val (.int (3 : Int32))] [] := by first | (simp [entryFrame, mkF, argsToLocals, Value.category]; done) | rfl
def Q_rm_min3 (Z : State) (h0 : Heap) (n0 : Nat) (v : Option Value) (h : Heap) (L : List Loc) : Prop := v = some (.int (3 : Int32)) ∧ Fr n0 L ∧ h = h0
set_option maxRecDepth 65536 in
set_option maxHeartbeats 40000000 in
theorem rm_min3 (l : Launch) (Z : State) (a0 : Array Value) (hw : ∀ d ∈ tables_1, d.before a0 Z = true) (ws : List Jvm.Cond) (h0 : Heap) (n0 : Nat) (Z0 : n0 ≤ h0.size) :
    MetFree l yN4 (head1 (Jvm.Cond.code yN4 jdk_29_method_69_code 2 (some .int) :: ws) ({ frames := 0, cells := 0, slots := 0, locals := 0 } : Room)) (fun a U => a = #[(.int (1024 : Int32)), (.int (3 : Int32))] ∧ Z.Warmed39 U.vm ∧ U.heap = h0) (fun _ _ _ _ _ => True) (fun _ U o U' => ∃ v L, o = .returned v ∧ Q_rm_min3 Z h0 n0 v U'.heap L ∧ FrameEnd U o U' L ({ frames := 0, cells := 0, slots := 0, locals := 0 } : Room).cells ({ frames := 0, cells := 0, slots := 0, locals := 0 } : Room).slots) := by
  refine MetFree.of_bodySF (Jvm.Free.JP.mathPlain rfl (by decide +kernel)) hisR ?_
  intro p e s m args below meth c s₁ Bd hml0 hP hK
  obtain ⟨rfl, hZ, hh⟩ := hP
  have hx := Bd.exec
  have hby := Bd.bytes
  have hml : c.maxLocals = 2 := hml0
  have hown : s.vm.findClass "java/lang/Math" = some m.cls := findClass_of_methodNamed Bd.named
  have hnm := (name_of_methodNamed Bd.named Bd.method).1
  have X0 : Stand p l e ({ frames := 0, cells := 0, slots := 0, locals := 0 } : Room) s m #[(.int (1024 : Int32)), (.int (3 : Int32))] below meth c s₁ [] 0 0 := Stand.of_body Bd
  have e0 : s₁.heap = h0 := by rw [← hh, Bd.state]; rfl
  have N0 := Fr.nil n0
  have K0 := Keep.refl h0 []
  have go0 : Go p e below (s₁.setTop (entryFrame m #[(.int (1024 : Int32)), (.int (3 : Int32))] 2)) (s₁.setTop (mkF m 0 #[vI ((1024 : Int32)), vI ((3 : Int32))] [])) := fun t k => castTop (ef_rm_min3 m) k
  have go2 := go0.st s₁ (mkF m 10 #[vI ((1024 : Int32)), vI ((3 : Int32))] [(sI (3 : Int32))]) (fun t k => by
    refine XS.iloadN X0.here hx rfl (hb hby d20_0) rfl ?_
    refine XS.iloadN X0.here hx rfl (hb hby d20_1) rfl ?_
    refine XS.icmpYes X0.here hx rfl (pc0 := 2) (pc' := 9) rfl (hb hby d20_2) rfl (tlt ((by decide) : (3 : Int32) < (1024 : Int32))).2.2.1 (by decide) (by decide) ?_
    refine XS.iloadN X0.here hx rfl (hb hby d20_9) rfl ?_
    exact k)
  obtain ⟨fs, hr, hrun, hended, hW, hsame⟩ := X0.leave (v := some (.int (3 : Int32))) (fun h => by rw [Bd.returns] at h; cases h)
  refine ⟨_, _, go2 _ ?_, hrun, hended, _, _, rfl, ?_, ⟨_, rfl⟩, hW, hsame.mono (by decide) (by decide)⟩
  · exact own_retI X0 hx Bd.returns (hb hby d20_10) hr
  · show Q_rm_min3 Z h0 n0 _ s₁.heap _
    rw [e0]
    exact ⟨rfl, N0, rfl⟩
theorem d29_0 : decode jdk_29_method_30_code 0 = .ok (.lload_n 0, 1) := by decide +kernel
theorem d29_1 : decode jdk_29_method_30_code 1 = .ok (.lload_n 2, 1) := by decide +kernel
theorem d29_2 : decode jdk_29_method_30_code 2 = .ok (.lmul, 1) := by decide +kernel
theorem d29_3 : decode jdk_29_method_30_code 3 = .ok (.lstore 4, 2) := by decide +kernel
theorem d29_5 : decode jdk_29_method_30_code 5 = .ok (.lload_n 0, 1) := by decide +kernel
theorem d29_6 : decode jdk_29_method_30_code 6 = .ok (.invokestatic 122, 3) := by decide +kernel
theorem d29_9 : decode jdk_29_method_30_code 9 = .ok (.lstore 6, 2) := by decide +kernel
theorem d29_11 : decode jdk_29_method_30_code 11 = .ok (.lload_n 2, 1) := by decide +kernel
theorem d29_12 : decode jdk_29_method_30_code 12 = .ok (.invokestatic 122, 3) := by decide +kernel
theorem d29_15 : decode jdk_29_method_30_code 15 = .ok (.lstore 8, 2) := by decide +kernel
theorem d29_17 : decode jdk_29_method_30_code 17 = .ok (.lload 6, 2) := by decide +kernel
theorem d29_19 : decode jdk_29_method_30_code 19 = .ok (.lload 8, 2) := by decide +kernel
theorem d29_21 : decode jdk_29_method_30_code 21 = .ok (.lor, 1) := by decide +kernel
theorem d29_22 : decode jdk_29_method_30_code 22 = .ok (.bipush 31, 2) := by decide +kernel
theorem d29_24 : decode jdk_29_method_30_code 24 = .ok (.lushr, 1) := by decide +kernel
theorem d29_25 : decode jdk_29_method_30_code 25 = .ok (.lconst 0, 1) := by decide +kernel
theorem d29_26 : decode jdk_29_method_30_code 26 = .ok (.lcmp, 1) := by decide +kernel
theorem d29_27 : decode jdk_29_method_30_code 27 = .ok (.ifCond .eq 44, 3) := by decide +kernel
theorem d29_30 : decode jdk_29_method_30_code 30 = .ok (.lload_n 2, 1) := by decide +kernel
theorem d29_31 : decode jdk_29_method_30_code 31 = .ok (.lconst 0, 1) := by decide +kernel
theorem d29_32 : decode jdk_29_method_30_code 32 = .ok (.lcmp, 1) := by decide +kernel
theorem d29_33 : decode jdk_29_method_30_code 33 = .ok (.ifCond .eq 12, 3) := by decide +kernel
theorem d29_36 : decode jdk_29_method_30_code 36 = .ok (.lload 4, 2) := by decide +kernel
theorem d29_38 : decode jdk_29_method_30_code 38 = .ok (.lload_n 2, 1) := by decide +kernel
theorem d29_39 : decode jdk_29_method_30_code 39 = .ok (.ldiv, 1) := by decide +kernel
theorem d29_40 : decode jdk_29_method_30_code 40 = .ok (.lload_n 0, 1) := by decide +kernel
theorem d29_41 : decode jdk_29_method_30_code 41 = .ok (.lcmp, 1) := by decide +kernel
theorem d29_42 : decode jdk_29_method_30_code 42 = .ok (.ifCond .ne 19, 3) := by decide +kernel
theorem d29_45 : decode jdk_29_method_30_code 45 = .ok (.lload_n 0, 1) := by decide +kernel
theorem d29_46 : decode jdk_29_method_30_code 46 = .ok (.ldc2_w 128, 3) := by decide +kernel
theorem d29_49 : decode jdk_29_method_30_code 49 = .ok (.lcmp, 1) := by decide +kernel
theorem d29_50 : decode jdk_29_method_30_code 50 = .ok (.ifCond .ne 21, 3) := by decide +kernel
theorem d29_71 : decode jdk_29_method_30_code 71 = .ok (.lload 4, 2) := by decide +kernel
theorem d29_73 : decode jdk_29_method_30_code 73 = .ok (.lreturn, 1) := by decide +kernel
theorem pd_rm_mul10_0 : parseMethodDescriptor "(J)J" = some ⟨[.long], some .long⟩ := by decide +kernel
theorem ef_rm_mul10 (m : MethodId) (q0 : Int64) : entryFrame m #[(.long q0), (.long (10 : Int64))] 10 = mkF m 0 #[.val (.long q0), .second, .val (.long (10 : Int64)), .second, uu, uu, uu, uu, uu, uu] [] := by first | (simp [entryFrame, mkF, argsToLocals, Value.category]; done) | rfl
def Q_rm_mul10 (Z : State) (q0 : Int64) (h0 : Heap) (n0 : Nat) (v : Option Value) (h : Heap) (L : List Loc) : Prop := v = some (.long (q0 * (10 : Int64))) ∧ Fr n0 L ∧ h = h0
set_option maxRecDepth 65536 in
set_option maxHeartbeats 40000000 in
theorem rm_mul10 (l : Launch) (Z : State) (a0 : Array Value) (hw : ∀ d ∈ tables_1, d.before a0 Z = true) (ws : List Jvm.Cond) (q0 : Int64) (h0 : Heap) (n0 : Nat) (Z0 : n0 ≤ h0.size) (hd : (q0 * (10 : Int64)) / (10 : Int64) = q0) (hm : ¬ q0 = (-9223372036854775808 : Int64)) :
    MetFree l yN5 (head1 (Jvm.Cond.code yN5 jdk_29_method_30_code 10 (some .long) :: ws) ({ frames := 1, cells := 0, slots := 0, locals := 13 } : Room)) (fun a U => a = #[(.long q0), (.long (10 : Int64))] ∧ Z.Warmed39 U.vm ∧ U.heap = h0) (fun _ _ _ _ _ => True) (fun _ U o U' => ∃ v L, o = .returned v ∧ Q_rm_mul10 Z q0 h0 n0 v U'.heap L ∧ FrameEnd U o U' L ({ frames := 1, cells := 0, slots := 0, locals := 13 } : Room).cells ({ frames := 1, cells := 0, slots := 0, locals := 13 } : Room).slots) := by
  refine MetFree.of_bodySF (Jvm.Free.JP.mathPlain rfl (by decide +kernel)) hisR ?_
  intro p e s m args below meth c s₁ Bd hml0 hP hK
  obtain ⟨rfl, hZ, hh⟩ := hP
  have hx := Bd.exec
  have hby := Bd.bytes
  have hml : c.maxLocals = 10 := hml0
  have hown : s.vm.findClass "java/lang/Math" = some m.cls := findClass_of_methodNamed Bd.named
  have hnm := (name_of_methodNamed Bd.named Bd.method).1
  have X0 : Stand p l e ({ frames := 1, cells := 0, slots := 0, locals := 13 } : Room) s m #[(.long q0), (.long (10 : Int64))] below meth c s₁ [] 0 0 := Stand.of_body Bd
  have e0 : s₁.heap = h0 := by rw [← hh, Bd.state]; rfl
  have N0 := Fr.nil n0
  have K0 := Keep.refl h0 []
  have go0 : Go p e below (s₁.setTop (entryFrame m #[(.long q0), (.long (10 : Int64))] 10)) (s₁.setTop (mkF m 0 #[vJ q0, sc, vJ ((10 : Int64)), sc, uu, uu, uu, uu, uu, uu] [])) := fun t k => castTop (ef_rm_mul10 m q0) k
  have go1 := go0.st s₁ (mkF m 6 #[vJ q0, sc, vJ ((10 : Int64)), sc, vJ ((q0 * (10 : Int64))), sc, uu, uu, uu, uu] [sJ q0]) (fun t k => by
    refine XS.lloadN X0.here hx rfl (hb hby d29_0) rfl ?_
    refine XS.lloadN X0.here hx rfl (hb hby d29_1) rfl ?_
    refine XS.lmul X0.here hx rfl (hb hby d29_2) rfl ?_
    refine XS.lstore X0.here hx rfl (hb hby d29_3) rfl (l' := #[vJ q0, sc, vJ ((10 : Int64)), sc, vJ ((q0 * (10 : Int64))), sc, uu, uu, uu, uu]) rfl ?_
    refine XS.lloadN X0.here hx rfl (hb hby d29_5) rfl ?_
    exact k)
  obtain ⟨_, _, ⟨T2, L2, k2, n2⟩, -, X2, ⟨Lc2, hQ2, l2, y2, z2⟩, st2⟩ := Jvm.LawKit.callS X0 hx (y := yN2) hown (mvT hZ (wD hw 161 rfl)) (mvT hZ (wD hw 162 rfl)) (mvT hZ (wD hw 3 rfl)) (mvT hZ (wD hw 163 rfl)) (by decide) (backOf (W := 0) (rm_absJ l Z a0 hw [] q0 h0 n0 Z0 ) hZ (wD hw 163 rfl) (wD hw 3 rfl) (by decide) (by decide)) (g := (mkF m 6 #[vJ q0, sc, vJ ((10 : Int64)), sc, vJ ((q0 * (10 : Int64))), sc, uu, uu, uu, uu] [sJ q0])) rfl (by rw [hml]; rfl) (argsL := [(.long q0)]) (rest := []) (lenOf pd_rm_mul10_0 rfl) rfl (by show 2 * 0 + _ ≤ _; exact Nat.le_of_eq rfl) (hb hby d29_6) (fun _ _ => ⟨rfl, e0, (by decide : 0 + 0 ≤ _), (by decide : 0 + 0 ≤ _)⟩)
  dsimp only [Pt.U, Pt.locs, Pt.cells, Pt.slots] at X2 l2 y2 z2 st2 hQ2
  rw [l2, y2, z2] at X2
  obtain ⟨rfl, N2q, e2⟩ := hQ2
  have N2 := Fr.app N0 N2q
  have go3 := go1.st T2 (mkF m 12 #[vJ q0, sc, vJ ((10 : Int64)), sc, vJ ((q0 * (10 : Int64))), sc, vJ ((own_absL q0)), sc, uu, uu] [(sJ (10 : Int64))]) (fun t k => by
    refine st2 _ ?_
    show SP p e below T2 (mkF m 9 #[vJ q0, sc, vJ ((10 : Int64)), sc, vJ ((q0 * (10 : Int64))), sc, uu, uu, uu, uu] [(sJ (own_absL q0))]) _
    refine XS.lstore X2.here hx rfl (hb hby d29_9) rfl (l' := #[vJ q0, sc, vJ ((10 : Int64)), sc, vJ ((q0 * (10 : Int64))), sc, vJ ((own_absL q0)), sc, uu, uu]) rfl ?_
    refine XS.lloadN X2.here hx rfl (hb hby d29_11) rfl ?_
    exact k)
  obtain ⟨_, _, ⟨T4, L4, k4, n4⟩, -, X4, ⟨Lc4, hQ4, l4, y4, z4⟩, st4⟩ := Jvm.LawKit.callS X2 hx (y := yN2) hown (mvT hZ (wD hw 161 rfl)) (mvT hZ (wD hw 162 rfl)) (mvT hZ (wD hw 3 rfl)) (mvT hZ (wD hw 163 rfl)) (by decide) (backOf (W := 0) (rm_absJ l Z a0 hw [] (10 : Int64) h0 n0 Z0 ) hZ (wD hw 163 rfl) (wD hw 3 rfl) (by decide) (by decide)) (g := (mkF m 12 #[vJ q0, sc, vJ ((10 : Int64)), sc, vJ ((q0 * (10 : Int64))), sc, vJ ((own_absL q0)), sc, uu, uu] [(sJ (10 : Int64))])) rfl (by rw [hml]; rfl) (argsL := [(.long (10 : Int64))]) (rest := []) (lenOf pd_rm_mul10_0 rfl) rfl (by show 2 * 0 + _ ≤ _; exact Nat.le_of_eq rfl) (hb hby d29_12) (fun _ _ => ⟨rfl, e2, (by decide : 0 + 0 ≤ _), (by decide : 0 + 0 ≤ _)⟩)
  dsimp only [Pt.U, Pt.locs, Pt.cells, Pt.slots] at X4 l4 y4 z4 st4 hQ4
  rw [l4, y4, z4] at X4
  obtain ⟨rfl, N4q, e4⟩ := hQ4
  have N4 := Fr.app N2 N4q
  have go6 := go3.st T4 (mkF m 27 #[vJ q0, sc, vJ ((10 : Int64)), sc, vJ ((q0 * (10 : Int64))), sc, vJ ((own_absL q0)), sc, vJ ((own_absL (10 : Int64))), sc] [(sI (lcmpW (own_usrL ((own_absL q0) ||| (own_absL (10 : Int64))) (31 : Int32)) (0 : Int64)))]) (fun t k => by
    refine st4 _ ?_
    show SP p e below T4 (mkF m 15 #[vJ q0, sc, vJ ((10 : Int64)), sc, vJ ((q0 * (10 : Int64))), sc, vJ ((own_absL q0)), sc, uu, uu] [(sJ (own_absL (10 : Int64)))]) _
    refine XS.lstore X4.here hx rfl (hb hby d29_15) rfl (l' := #[vJ q0, sc, vJ ((10 : Int64)), sc, vJ ((q0 * (10 : Int64))), sc, vJ ((own_absL q0)), sc, vJ ((own_absL (10 : Int64))), sc]) rfl ?_
    refine XS.lload X4.here hx rfl (hb hby d29_17) rfl ?_
    refine XS.lload X4.here hx rfl (hb hby d29_19) rfl ?_
    refine XS.lor X4.here hx rfl (hb hby d29_21) rfl ?_
    refine XS.bipush X4.here hx rfl (hb hby d29_22) ?_
    refine XS.lushr X4.here hx rfl (hb hby d29_24) rfl ?_
    refine XS.lconst X4.here hx rfl (hb hby d29_25) ?_
    refine XS.lcmp X4.here hx rfl (hb hby d29_26) rfl ?_
    exact k)
  by_cases hc5 : (own_usrL ((own_absL q0) ||| (own_absL (10 : Int64))) (31 : Int32)) = (0 : Int64)
  · skip
    have go7 := go6.st T4 (mkF m 73 #[vJ q0, sc, vJ ((10 : Int64)), sc, vJ ((q0 * (10 : Int64))), sc, vJ ((own_absL q0)), sc, vJ ((own_absL (10 : Int64))), sc] [(sJ (q0 * (10 : Int64)))]) (fun t k => by
      refine XS.ifYes X4.here hx rfl (pc0 := 27) (pc' := 71) rfl (hb hby d29_27) rfl ((if0 _ _).trans (teq ((lw_eq _ _).mpr hc5)).1) (by decide) (by decide) ?_
      refine XS.lload X4.here hx rfl (hb hby d29_71) rfl ?_
      exact k)
    obtain ⟨fs, hr, hrun, hended, hW, hsame⟩ := X4.leave (v := some (.long (q0 * (10 : Int64)))) (fun h => by rw [Bd.returns] at h; cases h)
    refine ⟨_, _, go7 _ ?_, hrun, hended, _, _, rfl, ?_, ⟨_, rfl⟩, hW, hsame.mono (by decide) (by decide)⟩
    · exact own_retL X4 hx Bd.returns (hb hby d29_73) hr
    · show Q_rm_mul10 Z q0 h0 n0 _ T4.heap _
      rw [e4]
      exact ⟨rfl, N4, rfl⟩
  · skip
    have go11 := go6.st T4 (mkF m 73 #[vJ q0, sc, vJ ((10 : Int64)), sc, vJ ((q0 * (10 : Int64))), sc, vJ ((own_absL q0)), sc, vJ ((own_absL (10 : Int64))), sc] [(sJ (q0 * (10 : Int64)))]) (fun t k => by
      refine XS.ifNo X4.here hx rfl (hb hby d29_27) rfl ((if0 _ _).trans (feq (fun q => hc5 ((lw_eq _ _).mp q))).1) ?_
      refine XS.lloadN X4.here hx rfl (hb hby d29_30) rfl ?_
      refine XS.lconst X4.here hx rfl (hb hby d29_31) ?_
      refine XS.lcmp X4.here hx rfl (hb hby d29_32) rfl ?_
      refine XS.ifNo X4.here hx rfl (hb hby d29_33) rfl ((if0 _ _).trans (feq ((by decide) : ¬ ((1 : Int32) = (0 : Int32)))).1) ?_
      refine XS.lload X4.here hx rfl (hb hby d29_36) rfl ?_
      refine XS.lloadN X4.here hx rfl (hb hby d29_38) rfl ?_
      refine XS.ldiv X4.here hx rfl (hb hby d29_39) rfl (by decide) ?_
      show SP p e below T4 (mkF m 40 #[vJ q0, sc, vJ ((10 : Int64)), sc, vJ ((q0 * (10 : Int64))), sc, vJ ((own_absL q0)), sc, vJ ((own_absL (10 : Int64))), sc] [(sJ ((q0 * (10 : Int64)) / (10 : Int64)))]) _
      refine XS.lloadN X4.here hx rfl (hb hby d29_40) rfl ?_
      refine XS.lcmp X4.here hx rfl (hb hby d29_41) rfl ?_
      refine XS.ifNo X4.here hx rfl (hb hby d29_42) rfl ((if0 _ _).trans (teq ((lw_eq _ _).mpr (hd : ((q0 * (10 : Int64)) / (10 : Int64)) = q0))).2) ?_
      refine XS.lloadN X4.here hx rfl (hb hby d29_45) rfl ?_
      refine X4.ldc2Long hx hown (mvT hZ (wD hw 189 rfl)) (g := (mkF m 46 #[vJ q0, sc, vJ ((10 : Int64)), sc, vJ ((q0 * (10 : Int64))), sc, vJ ((own_absL q0)), sc, vJ ((own_absL (10 : Int64))), sc] [sJ q0])) rfl (hb hby d29_46) _ ?_
      refine XS.lcmp X4.here hx rfl (hb hby d29_49) rfl ?_
      refine XS.ifYes X4.here hx rfl (pc0 := 50) (pc' := 71) rfl (hb hby d29_50) rfl ((if0 _ _).trans (feq (fun q => (hm : ¬ (q0 = (-9223372036854775808 : Int64))) ((lw_eq _ _).mp q))).2) (by decide) (by decide) ?_
      refine XS.lload X4.here hx rfl (hb hby d29_71) rfl ?_
      exact k)
    obtain ⟨fs, hr, hrun, hended, hW, hsame⟩ := X4.leave (v := some (.long (q0 * (10 : Int64)))) (fun h => by rw [Bd.returns] at h; cases h)
    refine ⟨_, _, go11 _ ?_, hrun, hended, _, _, rfl, ?_, ⟨_, rfl⟩, hW, hsame.mono (by decide) (by decide)⟩
    · exact own_retL X4 hx Bd.returns (hb hby d29_73) hr
    · show Q_rm_mul10 Z q0 h0 n0 _ T4.heap _
      rw [e4]
      exact ⟨rfl, N4, rfl⟩
theorem pd_rm_mul1_0 : parseMethodDescriptor "(J)J" = some ⟨[.long], some .long⟩ := by decide +kernel
theorem ef_rm_mul1 (m : MethodId) (q0 : Int64) : entryFrame m #[(.long q0), (.long (1 : Int64))] 10 = mkF m 0 #[.val (.long q0), .second, .val (.long (1 : Int64)), .second, uu, uu, uu, uu, uu, uu] [] := by first | (simp [entryFrame, mkF, argsToLocals, Value.category]; done) | rfl
def Q_rm_mul1 (Z : State) (q0 : Int64) (h0 : Heap) (n0 : Nat) (v : Option Value) (h : Heap) (L : List Loc) : Prop := v = some (.long q0) ∧ Fr n0 L ∧ h = h0
set_option maxRecDepth 65536 in
set_option maxHeartbeats 40000000 in
theorem rm_mul1 (l : Launch) (Z : State) (a0 : Array Value) (hw : ∀ d ∈ tables_1, d.before a0 Z = true) (ws : List Jvm.Cond) (q0 : Int64) (h0 : Heap) (n0 : Nat) (Z0 : n0 ≤ h0.size) (hd : (q0 * (1 : Int64)) / (1 : Int64) = q0) (hm : ¬ q0 = (-9223372036854775808 : Int64)) :
    MetFree l yN5 (head1 (Jvm.Cond.code yN5 jdk_29_method_30_code 10 (some .long) :: ws) ({ frames := 1, cells := 0, slots := 0, locals := 13 } : Room)) (fun a U => a = #[(.long q0), (.long (1 : Int64))] ∧ Z.Warmed39 U.vm ∧ U.heap = h0) (fun _ _ _ _ _ => True) (fun _ U o U' => ∃ v L, o = .returned v ∧ Q_rm_mul1 Z q0 h0 n0 v U'.heap L ∧ FrameEnd U o U' L ({ frames := 1, cells := 0, slots := 0, locals := 13 } : Room).cells ({ frames := 1, cells := 0, slots := 0, locals := 13 } : Room).slots) := by
  refine MetFree.of_bodySF (Jvm.Free.JP.mathPlain rfl (by decide +kernel)) hisR ?_
  intro p e s m args below meth c s₁ Bd hml0 hP hK
  obtain ⟨rfl, hZ, hh⟩ := hP
  have hx := Bd.exec
  have hby := Bd.bytes
  have hml : c.maxLocals = 10 := hml0
  have hown : s.vm.findClass "java/lang/Math" = some m.cls := findClass_of_methodNamed Bd.named
  have hnm := (name_of_methodNamed Bd.named Bd.method).1
  have X0 : Stand p l e ({ frames := 1, cells := 0, slots := 0, locals := 13 } : Room) s m #[(.long q0), (.long (1 : Int64))] below meth c s₁ [] 0 0 := Stand.of_body Bd
  have e0 : s₁.heap = h0 := by rw [← hh, Bd.state]; rfl
  have N0 := Fr.nil n0
  have K0 := Keep.refl h0 []
  have go0 : Go p e below (s₁.setTop (entryFrame m #[(.long q0), (.long (1 : Int64))] 10)) (s₁.setTop (mkF m 0 #[vJ q0, sc, vJ ((1 : Int64)), sc, uu, uu, uu, uu, uu, uu] [])) := fun t k => castTop (ef_rm_mul1 m q0) k
  have go1 := go0.st s₁ (mkF m 6 #[vJ q0, sc, vJ ((1 : Int64)), sc, vJ ((q0 * (1 : Int64))), sc, uu, uu, uu, uu] [sJ q0]) (fun t k => by
    refine XS.lloadN X0.here hx rfl (hb hby d29_0) rfl ?_
    refine XS.lloadN X0.here hx rfl (hb hby d29_1) rfl ?_
    refine XS.lmul X0.here hx rfl (hb hby d29_2) rfl ?_
    refine XS.lstore X0.here hx rfl (hb hby d29_3) rfl (l' := #[vJ q0, sc, vJ ((1 : Int64)), sc, vJ ((q0 * (1 : Int64))), sc, uu, uu, uu, uu]) rfl ?_
    refine XS.lloadN X0.here hx rfl (hb hby d29_5) rfl ?_
    exact k)
  obtain ⟨_, _, ⟨T2, L2, k2, n2⟩, -, X2, ⟨Lc2, hQ2, l2, y2, z2⟩, st2⟩ := Jvm.LawKit.callS X0 hx (y := yN2) hown (mvT hZ (wD hw 161 rfl)) (mvT hZ (wD hw 162 rfl)) (mvT hZ (wD hw 3 rfl)) (mvT hZ (wD hw 163 rfl)) (by decide) (backOf (W := 0) (rm_absJ l Z a0 hw [] q0 h0 n0 Z0 ) hZ (wD hw 163 rfl) (wD hw 3 rfl) (by decide) (by decide)) (g := (mkF m 6 #[vJ q0, sc, vJ ((1 : Int64)), sc, vJ ((q0 * (1 : Int64))), sc, uu, uu, uu, uu] [sJ q0])) rfl (by rw [hml]; rfl) (argsL := [(.long q0)]) (rest := []) (lenOf pd_rm_mul1_0 rfl) rfl (by show 2 * 0 + _ ≤ _; exact Nat.le_of_eq rfl) (hb hby d29_6) (fun _ _ => ⟨rfl, e0, (by decide : 0 + 0 ≤ _), (by decide : 0 + 0 ≤ _)⟩)
  dsimp only [Pt.U, Pt.locs, Pt.cells, Pt.slots] at X2 l2 y2 z2 st2 hQ2
  rw [l2, y2, z2] at X2
  obtain ⟨rfl, N2q, e2⟩ := hQ2
  have N2 := Fr.app N0 N2q
  have go3 := go1.st T2 (mkF m 12 #[vJ q0, sc, vJ ((1 : Int64)), sc, vJ ((q0 * (1 : Int64))), sc, vJ ((own_absL q0)), sc, uu, uu] [(sJ (1 : Int64))]) (fun t k => by
    refine st2 _ ?_
    show SP p e below T2 (mkF m 9 #[vJ q0, sc, vJ ((1 : Int64)), sc, vJ ((q0 * (1 : Int64))), sc, uu, uu, uu, uu] [(sJ (own_absL q0))]) _
    refine XS.lstore X2.here hx rfl (hb hby d29_9) rfl (l' := #[vJ q0, sc, vJ ((1 : Int64)), sc, vJ ((q0 * (1 : Int64))), sc, vJ ((own_absL q0)), sc, uu, uu]) rfl ?_
    refine XS.lloadN X2.here hx rfl (hb hby d29_11) rfl ?_
    exact k)
  obtain ⟨_, _, ⟨T4, L4, k4, n4⟩, -, X4, ⟨Lc4, hQ4, l4, y4, z4⟩, st4⟩ := Jvm.LawKit.callS X2 hx (y := yN2) hown (mvT hZ (wD hw 161 rfl)) (mvT hZ (wD hw 162 rfl)) (mvT hZ (wD hw 3 rfl)) (mvT hZ (wD hw 163 rfl)) (by decide) (backOf (W := 0) (rm_absJ l Z a0 hw [] (1 : Int64) h0 n0 Z0 ) hZ (wD hw 163 rfl) (wD hw 3 rfl) (by decide) (by decide)) (g := (mkF m 12 #[vJ q0, sc, vJ ((1 : Int64)), sc, vJ ((q0 * (1 : Int64))), sc, vJ ((own_absL q0)), sc, uu, uu] [(sJ (1 : Int64))])) rfl (by rw [hml]; rfl) (argsL := [(.long (1 : Int64))]) (rest := []) (lenOf pd_rm_mul1_0 rfl) rfl (by show 2 * 0 + _ ≤ _; exact Nat.le_of_eq rfl) (hb hby d29_12) (fun _ _ => ⟨rfl, e2, (by decide : 0 + 0 ≤ _), (by decide : 0 + 0 ≤ _)⟩)
  dsimp only [Pt.U, Pt.locs, Pt.cells, Pt.slots] at X4 l4 y4 z4 st4 hQ4
  rw [l4, y4, z4] at X4
  obtain ⟨rfl, N4q, e4⟩ := hQ4
  have N4 := Fr.app N2 N4q
  have go6 := go3.st T4 (mkF m 27 #[vJ q0, sc, vJ ((1 : Int64)), sc, vJ ((q0 * (1 : Int64))), sc, vJ ((own_absL q0)), sc, vJ ((own_absL (1 : Int64))), sc] [(sI (lcmpW (own_usrL ((own_absL q0) ||| (own_absL (1 : Int64))) (31 : Int32)) (0 : Int64)))]) (fun t k => by
    refine st4 _ ?_
    show SP p e below T4 (mkF m 15 #[vJ q0, sc, vJ ((1 : Int64)), sc, vJ ((q0 * (1 : Int64))), sc, vJ ((own_absL q0)), sc, uu, uu] [(sJ (own_absL (1 : Int64)))]) _
    refine XS.lstore X4.here hx rfl (hb hby d29_15) rfl (l' := #[vJ q0, sc, vJ ((1 : Int64)), sc, vJ ((q0 * (1 : Int64))), sc, vJ ((own_absL q0)), sc, vJ ((own_absL (1 : Int64))), sc]) rfl ?_
    refine XS.lload X4.here hx rfl (hb hby d29_17) rfl ?_
    refine XS.lload X4.here hx rfl (hb hby d29_19) rfl ?_
    refine XS.lor X4.here hx rfl (hb hby d29_21) rfl ?_
    refine XS.bipush X4.here hx rfl (hb hby d29_22) ?_
    refine XS.lushr X4.here hx rfl (hb hby d29_24) rfl ?_
    refine XS.lconst X4.here hx rfl (hb hby d29_25) ?_
    refine XS.lcmp X4.here hx rfl (hb hby d29_26) rfl ?_
    exact k)
  by_cases hc5 : (own_usrL ((own_absL q0) ||| (own_absL (1 : Int64))) (31 : Int32)) = (0 : Int64)
  · skip
    have go7 := go6.st T4 (mkF m 73 #[vJ q0, sc, vJ ((1 : Int64)), sc, vJ ((q0 * (1 : Int64))), sc, vJ ((own_absL q0)), sc, vJ ((own_absL (1 : Int64))), sc] [(sJ (q0 * (1 : Int64)))]) (fun t k => by
      refine XS.ifYes X4.here hx rfl (pc0 := 27) (pc' := 71) rfl (hb hby d29_27) rfl ((if0 _ _).trans (teq ((lw_eq _ _).mpr hc5)).1) (by decide) (by decide) ?_
      refine XS.lload X4.here hx rfl (hb hby d29_71) rfl ?_
      exact k)
    obtain ⟨fs, hr, hrun, hended, hW, hsame⟩ := X4.leave (v := some (.long (q0 * (1 : Int64)))) (fun h => by rw [Bd.returns] at h; cases h)
    refine ⟨_, _, go7 _ ?_, hrun, hended, _, _, rfl, ?_, ⟨_, rfl⟩, hW, hsame.mono (by decide) (by decide)⟩
    · exact own_retL X4 hx Bd.returns (hb hby d29_73) hr
    · show Q_rm_mul1 Z q0 h0 n0 _ T4.heap _
      rw [e4]
      exact ⟨by rw [Int64.mul_one], N4, rfl⟩
  · skip
    have go11 := go6.st T4 (mkF m 73 #[vJ q0, sc, vJ ((1 : Int64)), sc, vJ ((q0 * (1 : Int64))), sc, vJ ((own_absL q0)), sc, vJ ((own_absL (1 : Int64))), sc] [(sJ (q0 * (1 : Int64)))]) (fun t k => by
      refine XS.ifNo X4.here hx rfl (hb hby d29_27) rfl ((if0 _ _).trans (feq (fun q => hc5 ((lw_eq _ _).mp q))).1) ?_
      refine XS.lloadN X4.here hx rfl (hb hby d29_30) rfl ?_
      refine XS.lconst X4.here hx rfl (hb hby d29_31) ?_
      refine XS.lcmp X4.here hx rfl (hb hby d29_32) rfl ?_
      refine XS.ifNo X4.here hx rfl (hb hby d29_33) rfl ((if0 _ _).trans (feq ((by decide) : ¬ ((1 : Int32) = (0 : Int32)))).1) ?_
      refine XS.lload X4.here hx rfl (hb hby d29_36) rfl ?_
      refine XS.lloadN X4.here hx rfl (hb hby d29_38) rfl ?_
      refine XS.ldiv X4.here hx rfl (hb hby d29_39) rfl (by decide) ?_
      show SP p e below T4 (mkF m 40 #[vJ q0, sc, vJ ((1 : Int64)), sc, vJ ((q0 * (1 : Int64))), sc, vJ ((own_absL q0)), sc, vJ ((own_absL (1 : Int64))), sc] [(sJ ((q0 * (1 : Int64)) / (1 : Int64)))]) _
      refine XS.lloadN X4.here hx rfl (hb hby d29_40) rfl ?_
      refine XS.lcmp X4.here hx rfl (hb hby d29_41) rfl ?_
      refine XS.ifNo X4.here hx rfl (hb hby d29_42) rfl ((if0 _ _).trans (teq ((lw_eq _ _).mpr (hd : ((q0 * (1 : Int64)) / (1 : Int64)) = q0))).2) ?_
      refine XS.lloadN X4.here hx rfl (hb hby d29_45) rfl ?_
      refine X4.ldc2Long hx hown (mvT hZ (wD hw 189 rfl)) (g := (mkF m 46 #[vJ q0, sc, vJ ((1 : Int64)), sc, vJ ((q0 * (1 : Int64))), sc, vJ ((own_absL q0)), sc, vJ ((own_absL (1 : Int64))), sc] [sJ q0])) rfl (hb hby d29_46) _ ?_
      refine XS.lcmp X4.here hx rfl (hb hby d29_49) rfl ?_
      refine XS.ifYes X4.here hx rfl (pc0 := 50) (pc' := 71) rfl (hb hby d29_50) rfl ((if0 _ _).trans (feq (fun q => (hm : ¬ (q0 = (-9223372036854775808 : Int64))) ((lw_eq _ _).mp q))).2) (by decide) (by decide) ?_
      refine XS.lload X4.here hx rfl (hb hby d29_71) rfl ?_
      exact k)
    obtain ⟨fs, hr, hrun, hended, hW, hsame⟩ := X4.leave (v := some (.long (q0 * (1 : Int64)))) (fun h => by rw [Bd.returns] at h; cases h)
    refine ⟨_, _, go11 _ ?_, hrun, hended, _, _, rfl, ?_, ⟨_, rfl⟩, hW, hsame.mono (by decide) (by decide)⟩
    · exact own_retL X4 hx Bd.returns (hb hby d29_73) hr
    · show Q_rm_mul1 Z q0 h0 n0 _ T4.heap _
      rw [e4]
      exact ⟨by rw [Int64.mul_one], N4, rfl⟩
theorem d28_0 : decode jdk_29_method_29_code 0 = .ok (.lload_n 0, 1) := by decide +kernel
theorem d28_1 : decode jdk_29_method_29_code 1 = .ok (.iload_n 2, 1) := by decide +kernel
theorem d28_2 : decode jdk_29_method_29_code 2 = .ok (.i2l, 1) := by decide +kernel
theorem d28_3 : decode jdk_29_method_29_code 3 = .ok (.invokestatic 118, 3) := by decide +kernel
theorem d28_6 : decode jdk_29_method_29_code 6 = .ok (.lreturn, 1) := by decide +kernel
theorem pd_rm_mulI_0 : parseMethodDescriptor "(JJ)J" = some ⟨[.long, .long], some .long⟩ := by decide +kernel
theorem ef_rm_mulI (m : MethodId) (q0 : Int64) : entryFrame m #[(.long q0), (.int (10 : Int32))] 3 = mkF m 0 #[.val (.long q0), .second, .val (.int (10 : Int32))] [] := by first | (simp [entryFrame, mkF, argsToLocals, Value.category]; done) | rfl
def Q_rm_mulI (Z : State) (q0 : Int64) (h0 : Heap) (n0 : Nat) (v : Option Value) (h : Heap) (L : List Loc) : Prop := v = some (.long (q0 * (10 : Int64))) ∧ Fr n0 L ∧ h = h0
set_option maxRecDepth 65536 in
set_option maxHeartbeats 40000000 in
theorem rm_mulI (l : Launch) (Z : State) (a0 : Array Value) (hw : ∀ d ∈ tables_1, d.before a0 Z = true) (ws : List Jvm.Cond) (q0 : Int64) (h0 : Heap) (n0 : Nat) (Z0 : n0 ≤ h0.size) (hd : (q0 * (10 : Int64)) / (10 : Int64) = q0) (hm : ¬ q0 = (-9223372036854775808 : Int64)) :
    MetFree l yN6 (head1 (Jvm.Cond.code yN6 jdk_29_method_29_code 3 (some .long) :: ws) ({ frames := 2, cells := 0, slots := 0, locals := 34 } : Room)) (fun a U => a = #[(.long q0), (.int (10 : Int32))] ∧ Z.Warmed39 U.vm ∧ U.heap = h0) (fun _ _ _ _ _ => True) (fun _ U o U' => ∃ v L, o = .returned v ∧ Q_rm_mulI Z q0 h0 n0 v U'.heap L ∧ FrameEnd U o U' L ({ frames := 2, cells := 0, slots := 0, locals := 34 } : Room).cells ({ frames := 2, cells := 0, slots := 0, locals := 34 } : Room).slots) := by
  refine MetFree.of_bodySF (Jvm.Free.JP.mathPlain rfl (by decide +kernel)) hisR ?_
  intro p e s m args below meth c s₁ Bd hml0 hP hK
  obtain ⟨rfl, hZ, hh⟩ := hP
  have hx := Bd.exec
  have hby := Bd.bytes
  have hml : c.maxLocals = 3 := hml0
  have hown : s.vm.findClass "java/lang/Math" = some m.cls := findClass_of_methodNamed Bd.named
  have hnm := (name_of_methodNamed Bd.named Bd.method).1
  have X0 : Stand p l e ({ frames := 2, cells := 0, slots := 0, locals := 34 } : Room) s m #[(.long q0), (.int (10 : Int32))] below meth c s₁ [] 0 0 := Stand.of_body Bd
  have e0 : s₁.heap = h0 := by rw [← hh, Bd.state]; rfl
  have N0 := Fr.nil n0
  have K0 := Keep.refl h0 []
  have go0 : Go p e below (s₁.setTop (entryFrame m #[(.long q0), (.int (10 : Int32))] 3)) (s₁.setTop (mkF m 0 #[vJ q0, sc, vI ((10 : Int32))] [])) := fun t k => castTop (ef_rm_mulI m q0) k
  have go1 := go0.st s₁ (mkF m 3 #[vJ q0, sc, vI ((10 : Int32))] [(sJ (10 : Int64)), sJ q0]) (fun t k => by
    refine XS.lloadN X0.here hx rfl (hb hby d28_0) rfl ?_
    refine XS.iloadN X0.here hx rfl (hb hby d28_1) rfl ?_
    refine XS.i2l X0.here hx rfl (hb hby d28_2) rfl ?_
    exact k)
  obtain ⟨_, _, ⟨T2, L2, k2, n2⟩, -, X2, ⟨Lc2, hQ2, l2, y2, z2⟩, st2⟩ := Jvm.LawKit.callS X0 hx (y := yN5) hown (mvT hZ (wD hw 158 rfl)) (mvT hZ (wD hw 159 rfl)) (mvT hZ (wD hw 3 rfl)) (mvT hZ (wD hw 160 rfl)) (by decide) (backOf (W := 0) (rm_mul10 l Z a0 hw [] q0 h0 n0 Z0 hd hm) hZ (wD hw 160 rfl) (wD hw 3 rfl) (by decide) (by decide)) (g := (mkF m 3 #[vJ q0, sc, vI ((10 : Int32))] [(sJ (10 : Int64)), sJ q0])) rfl (by rw [hml]; rfl) (argsL := [(.long q0), (.long (10 : Int64))]) (rest := []) (lenOf pd_rm_mulI_0 rfl) rfl (by show 2 * 0 + _ ≤ _; exact Nat.le_of_eq rfl) (hb hby d28_3) (fun _ _ => ⟨rfl, e0, (by decide : 0 + 0 ≤ _), (by decide : 0 + 0 ≤ _)⟩)
  dsimp only [Pt.U, Pt.locs, Pt.cells, Pt.slots] at X2 l2 y2 z2 st2 hQ2
  rw [l2, y2, z2] at X2
  obtain ⟨rfl, N2q, e2⟩ := hQ2
  have N2 := Fr.app N0 N2q
  have go3 := go1.st T2 (mkF m 6 #[vJ q0, sc, vI ((10 : Int32))] [(sJ (q0 * (10 : Int64)))]) (fun t k => by
    refine st2 _ ?_
    exact k)
  obtain ⟨fs, hr, hrun, hended, hW, hsame⟩ := X2.leave (v := some (.long (q0 * (10 : Int64)))) (fun h => by rw [Bd.returns] at h; cases h)
  refine ⟨_, _, go3 _ ?_, hrun, hended, _, _, rfl, ?_, ⟨_, rfl⟩, hW, hsame.mono (by decide) (by decide)⟩
  · exact own_retL X2 hx Bd.returns (hb hby d28_6) hr
  · show Q_rm_mulI Z q0 h0 n0 _ T2.heap _
    rw [e2]
    exact ⟨rfl, N2, rfl⟩
theorem d31_0 : decode jdk_29_method_25_code 0 = .ok (.lload_n 0, 1) := by decide +kernel
theorem d31_1 : decode jdk_29_method_25_code 1 = .ok (.lload_n 2, 1) := by decide +kernel
theorem d31_2 : decode jdk_29_method_25_code 2 = .ok (.ladd, 1) := by decide +kernel
theorem d31_3 : decode jdk_29_method_25_code 3 = .ok (.lstore 4, 2) := by decide +kernel
theorem d31_5 : decode jdk_29_method_25_code 5 = .ok (.lload_n 0, 1) := by decide +kernel
theorem d31_6 : decode jdk_29_method_25_code 6 = .ok (.lload 4, 2) := by decide +kernel
theorem d31_8 : decode jdk_29_method_25_code 8 = .ok (.lxor, 1) := by decide +kernel
theorem d31_9 : decode jdk_29_method_25_code 9 = .ok (.lload_n 2, 1) := by decide +kernel
theorem d31_10 : decode jdk_29_method_25_code 10 = .ok (.lload 4, 2) := by decide +kernel
theorem d31_12 : decode jdk_29_method_25_code 12 = .ok (.lxor, 1) := by decide +kernel
theorem d31_13 : decode jdk_29_method_25_code 13 = .ok (.land, 1) := by decide +kernel
theorem d31_14 : decode jdk_29_method_25_code 14 = .ok (.lconst 0, 1) := by decide +kernel
theorem d31_15 : decode jdk_29_method_25_code 15 = .ok (.lcmp, 1) := by decide +kernel
theorem d31_16 : decode jdk_29_method_25_code 16 = .ok (.ifCond .ge 13, 3) := by decide +kernel
theorem d31_29 : decode jdk_29_method_25_code 29 = .ok (.lload 4, 2) := by decide +kernel
theorem d31_31 : decode jdk_29_method_25_code 31 = .ok (.lreturn, 1) := by decide +kernel
theorem ef_rm_addX (m : MethodId) (q0 : Int64) (q1 : Int64) : entryFrame m #[(.long q0), (.long q1)] 6 = mkF m 0 #[.val (.long q0), .second, .val (.long q1), .second, uu, uu] [] := by first | (simp [entryFrame, mkF, argsToLocals, Value.category]; done) | rfl
def Q_rm_addX (Z : State) (q0 : Int64) (q1 : Int64) (h0 : Heap) (n0 : Nat) (v : Option Value) (h : Heap) (L : List Loc) : Prop := v = some (.long (q0 + q1)) ∧ Fr n0 L ∧ h = h0
set_option maxRecDepth 65536 in
set_option maxHeartbeats 40000000 in
theorem rm_addX (l : Launch) (Z : State) (a0 : Array Value) (hw : ∀ d ∈ tables_1, d.before a0 Z = true) (ws : List Jvm.Cond) (q0 : Int64) (q1 : Int64) (h0 : Heap) (n0 : Nat) (Z0 : n0 ≤ h0.size) (ho : ¬ ((q0 ^^^ (q0 + q1)) &&& (q1 ^^^ (q0 + q1))) < (0 : Int64)) :
    MetFree l yN7 (head1 (Jvm.Cond.code yN7 jdk_29_method_25_code 6 (some .long) :: ws) ({ frames := 0, cells := 0, slots := 0, locals := 0 } : Room)) (fun a U => a = #[(.long q0), (.long q1)] ∧ Z.Warmed39 U.vm ∧ U.heap = h0) (fun _ _ _ _ _ => True) (fun _ U o U' => ∃ v L, o = .returned v ∧ Q_rm_addX Z q0 q1 h0 n0 v U'.heap L ∧ FrameEnd U o U' L ({ frames := 0, cells := 0, slots := 0, locals := 0 } : Room).cells ({ frames := 0, cells := 0, slots := 0, locals := 0 } : Room).slots) := by
  refine MetFree.of_bodySF (Jvm.Free.JP.mathPlain rfl (by decide +kernel)) hisR ?_
  intro p e s m args below meth c s₁ Bd hml0 hP hK
  obtain ⟨rfl, hZ, hh⟩ := hP
  have hx := Bd.exec
  have hby := Bd.bytes
  have hml : c.maxLocals = 6 := hml0
  have hown : s.vm.findClass "java/lang/Math" = some m.cls := findClass_of_methodNamed Bd.named
  have hnm := (name_of_methodNamed Bd.named Bd.method).1
  have X0 : Stand p l e ({ frames := 0, cells := 0, slots := 0, locals := 0 } : Room) s m #[(.long q0), (.long q1)] below meth c s₁ [] 0 0 := Stand.of_body Bd
  have e0 : s₁.heap = h0 := by rw [← hh, Bd.state]; rfl
  have N0 := Fr.nil n0
  have K0 := Keep.refl h0 []
  have go0 : Go p e below (s₁.setTop (entryFrame m #[(.long q0), (.long q1)] 6)) (s₁.setTop (mkF m 0 #[vJ q0, sc, vJ q1, sc, uu, uu] [])) := fun t k => castTop (ef_rm_addX m q0 q1) k
  have go2 := go0.st s₁ (mkF m 31 #[vJ q0, sc, vJ q1, sc, vJ ((q0 + q1)), sc] [(sJ (q0 + q1))]) (fun t k => by
    refine XS.lloadN X0.here hx rfl (hb hby d31_0) rfl ?_
    refine XS.lloadN X0.here hx rfl (hb hby d31_1) rfl ?_
    refine XS.ladd X0.here hx rfl (hb hby d31_2) rfl ?_
    refine XS.lstore X0.here hx rfl (hb hby d31_3) rfl (l' := #[vJ q0, sc, vJ q1, sc, vJ ((q0 + q1)), sc]) rfl ?_
    refine XS.lloadN X0.here hx rfl (hb hby d31_5) rfl ?_
    refine XS.lload X0.here hx rfl (hb hby d31_6) rfl ?_
    refine XS.lxor X0.here hx rfl (hb hby d31_8) rfl ?_
    refine XS.lloadN X0.here hx rfl (hb hby d31_9) rfl ?_
    show SP p e below s₁ (mkF m 10 #[vJ q0, sc, vJ q1, sc, vJ ((q0 + q1)), sc] [sJ q1, (sJ (q0 ^^^ (q0 + q1)))]) _
    refine XS.lload X0.here hx rfl (hb hby d31_10) rfl ?_
    refine XS.lxor X0.here hx rfl (hb hby d31_12) rfl ?_
    refine XS.land X0.here hx rfl (hb hby d31_13) rfl ?_
    refine XS.lconst X0.here hx rfl (hb hby d31_14) ?_
    refine XS.lcmp X0.here hx rfl (hb hby d31_15) rfl ?_
    refine XS.ifYes X0.here hx rfl (pc0 := 16) (pc' := 29) rfl (hb hby d31_16) rfl ((if0 _ _).trans (flt (fun q => (ho : ¬ (((q0 ^^^ (q0 + q1)) &&& (q1 ^^^ (q0 + q1))) < (0 : Int64))) ((lw_lt _ _).mp q))).2.1) (by decide) (by decide) ?_
    refine XS.lload X0.here hx rfl (hb hby d31_29) rfl ?_
    exact k)
  obtain ⟨fs, hr, hrun, hended, hW, hsame⟩ := X0.leave (v := some (.long (q0 + q1))) (fun h => by rw [Bd.returns] at h; cases h)
  refine ⟨_, _, go2 _ ?_, hrun, hended, _, _, rfl, ?_, ⟨_, rfl⟩, hW, hsame.mono (by decide) (by decide)⟩
  · exact own_retL X0 hx Bd.returns (hb hby d31_31) hr
  · show Q_rm_addX Z q0 q1 h0 n0 _ s₁.heap _
    rw [e0]
    exact ⟨rfl, N0, rfl⟩
theorem d3_0 : decode method_2_code 0 = .ok (.bipush 48, 2) := by decide +kernel
theorem d3_2 : decode method_2_code 2 = .ok (.lload_n 0, 1) := by decide +kernel
theorem d3_3 : decode method_2_code 3 = .ok (.lload_n 2, 1) := by decide +kernel
theorem d3_4 : decode method_2_code 4 = .ok (.ldiv, 1) := by decide +kernel
theorem d3_5 : decode method_2_code 5 = .ok (.ldc2_w 7, 3) := by decide +kernel
theorem d3_8 : decode method_2_code 8 = .ok (.lrem, 1) := by decide +kernel
theorem d3_9 : decode method_2_code 9 = .ok (.l2i, 1) := by decide +kernel
theorem d3_10 : decode method_2_code 10 = .ok (.iadd, 1) := by decide +kernel
theorem d3_11 : decode method_2_code 11 = .ok (.i2c, 1) := by decide +kernel
theorem d3_12 : decode method_2_code 12 = .ok (.ireturn, 1) := by decide +kernel
theorem pn_rm_d : plainName "com/example/equipoise/equipoise/BuilderDepartPinLaw" = true := by first | (simp [plainName, overriddenIn]; done) | decide +kernel
theorem ef_rm_d (m : MethodId) (q0 : Int64) (q1 : Int64) : entryFrame m #[(.long q0), (.long q1)] 4 = mkF m 0 #[.val (.long q0), .second, .val (.long q1), .second] [] := by first | (simp [entryFrame, mkF, argsToLocals, Value.category]; done) | rfl
def Q_rm_d (Z : State) (q0 : Int64) (q1 : Int64) (h0 : Heap) (n0 : Nat) (v : Option Value) (h : Heap) (L : List Loc) : Prop := v = some (.int (own_d q0 q1)) ∧ Fr n0 L ∧ h = h0
set_option maxRecDepth 65536 in
set_option maxHeartbeats 40000000 in
theorem rm_d (l : Launch) (Z : State) (a0 : Array Value) (hw : ∀ d ∈ tables_1, d.before a0 Z = true) (ws : List Jvm.Cond) (q0 : Int64) (q1 : Int64) (h0 : Heap) (n0 : Nat) (Z0 : n0 ≤ h0.size) (hnz : q1 ≠ (0 : Int64)) :
    MetFree l yN8 (head1 (Jvm.Cond.code yN8 method_2_code 4 (some .char) :: ws) ({ frames := 0, cells := 0, slots := 0, locals := 0 } : Room)) (fun a U => a = #[(.long q0), (.long q1)] ∧ Z.Warmed39 U.vm ∧ U.heap = h0) (fun _ _ _ _ _ => True) (fun _ U o U' => ∃ v L, o = .returned v ∧ Q_rm_d Z q0 q1 h0 n0 v U'.heap L ∧ FrameEnd U o U' L ({ frames := 0, cells := 0, slots := 0, locals := 0 } : Room).cells ({ frames := 0, cells := 0, slots := 0, locals := 0 } : Room).slots) := by
  refine MetFree.of_bodySF (plainFor_of_name pn_rm_d) hisR ?_
  intro p e s m args below meth c s₁ Bd hml0 hP hK
  obtain ⟨rfl, hZ, hh⟩ := hP
  have hx := Bd.exec
  have hby := Bd.bytes
  have hml : c.maxLocals = 4 := hml0
  have hown : s.vm.findClass "com/example/equipoise/equipoise/BuilderDepartPinLaw" = some m.cls := findClass_of_methodNamed Bd.named
  have hnm := (name_of_methodNamed Bd.named Bd.method).1
  have X0 : Stand p l e ({ frames := 0, cells := 0, slots := 0, locals := 0 } : Room) s m #[(.long q0), (.long q1)] below meth c s₁ [] 0 0 := Stand.of_body Bd
  have e0 : s₁.heap = h0 := by rw [← hh, Bd.state]; rfl
  have N0 := Fr.nil n0
  have K0 := Keep.refl h0 []
  have go0 : Go p e below (s₁.setTop (entryFrame m #[(.long q0), (.long q1)] 4)) (s₁.setTop (mkF m 0 #[vJ q0, sc, vJ q1, sc] [])) := fun t k => castTop (ef_rm_d m q0 q1) k
  have go1 := go0.st s₁ (mkF m 12 #[vJ q0, sc, vJ q1, sc] [(sI (((48 : Int32) + (((q0 / q1) % (10 : Int64)).toInt32)).toUInt32.toUInt16.toUInt32.toInt32))]) (fun t k => by
    refine XS.bipush X0.here hx rfl (hb hby d3_0) ?_
    refine XS.lloadN X0.here hx rfl (hb hby d3_2) rfl ?_
    refine XS.lloadN X0.here hx rfl (hb hby d3_3) rfl ?_
    refine XS.ldiv X0.here hx rfl (hb hby d3_4) rfl hnz ?_
    refine X0.ldc2Long hx hown (mvT hZ (wD hw 14 rfl)) (g := (mkF m 5 #[vJ q0, sc, vJ q1, sc] [(sJ (q0 / q1)), (sI (48 : Int32))])) rfl (hb hby d3_5) _ ?_
    refine XS.lrem X0.here hx rfl (hb hby d3_8) rfl (by decide) ?_
    rw [lrem_mod]
    refine XS.l2i X0.here hx rfl (hb hby d3_9) rfl ?_
    refine XS.iadd X0.here hx rfl (hb hby d3_10) rfl ?_
    show SP p e below s₁ (mkF m 11 #[vJ q0, sc, vJ q1, sc] [(sI ((48 : Int32) + (((q0 / q1) % (10 : Int64)).toInt32)))]) _
    refine XS.i2c X0.here hx rfl (hb hby d3_11) rfl ?_
    exact k)
  obtain ⟨fs, hr, hrun, hended, hW, hsame⟩ := X0.leave (v := some (.int (nar .char (((48 : Int32) + (((q0 / q1) % (10 : Int64)).toInt32)).toUInt32.toUInt16.toUInt32.toInt32)))) (fun h => by rw [Bd.returns] at h; cases h)
  refine ⟨_, _, go1 _ ?_, hrun, hended, _, _, rfl, ?_, ⟨_, rfl⟩, hW, hsame.mono (by decide) (by decide)⟩
  · exact retN X0 hx (t := .char) Bd.returns (by simp) (hb hby d3_12) hr
  · show Q_rm_d Z q0 q1 h0 n0 _ s₁.heap _
    rw [e0]
    exact ⟨rfl, N0, rfl⟩
theorem d8_3 : decode jdk_52_method_21_code 3 = .ok (.iload 5, 2) := by decide +kernel
theorem d8_5 : decode jdk_52_method_21_code 5 = .ok (.iload 4, 2) := by decide +kernel
theorem d8_7 : decode jdk_52_method_21_code 7 = .ok (.if_icmp .ge 37, 3) := by decide +kernel
theorem d8_10 : decode jdk_52_method_21_code 10 = .ok (.aload_n 0, 1) := by decide +kernel
theorem d8_11 : decode jdk_52_method_21_code 11 = .ok (.iload_n 1, 1) := by decide +kernel
theorem d8_12 : decode jdk_52_method_21_code 12 = .ok (.caload, 1) := by decide +kernel
theorem d8_13 : decode jdk_52_method_21_code 13 = .ok (.istore 6, 2) := by decide +kernel
theorem d8_15 : decode jdk_52_method_21_code 15 = .ok (.iload 6, 2) := by decide +kernel
theorem d8_17 : decode jdk_52_method_21_code 17 = .ok (.sipush 255, 3) := by decide +kernel
theorem d8_20 : decode jdk_52_method_21_code 20 = .ok (.if_icmp .le 6, 3) := by decide +kernel
theorem d8_26 : decode jdk_52_method_21_code 26 = .ok (.aload_n 2, 1) := by decide +kernel
theorem d8_27 : decode jdk_52_method_21_code 27 = .ok (.iload_n 3, 1) := by decide +kernel
theorem d8_28 : decode jdk_52_method_21_code 28 = .ok (.iload 6, 2) := by decide +kernel
theorem d8_30 : decode jdk_52_method_21_code 30 = .ok (.i2b, 1) := by decide +kernel
theorem d8_31 : decode jdk_52_method_21_code 31 = .ok (.bastore, 1) := by decide +kernel
theorem d8_32 : decode jdk_52_method_21_code 32 = .ok (.iinc 1 1, 3) := by decide +kernel
theorem d8_35 : decode jdk_52_method_21_code 35 = .ok (.iinc 3 1, 3) := by decide +kernel
theorem d8_38 : decode jdk_52_method_21_code 38 = .ok (.iinc 5 1, 3) := by decide +kernel
theorem d8_41 : decode jdk_52_method_21_code 41 = .ok (.goto (-38), 3) := by decide +kernel
set_option maxRecDepth 65536 in
set_option maxHeartbeats 40000000 in
theorem lp_cmp {p : Program} {l : Launch} {e : Env} {R : Room} {s : State} {m : MethodId} {args : Array Value} {below : List Frame} {meth : Method} {c : Code} {cells slots : Nat} {Z : State} {a0 : Array Value} {A : State} {G : Prop} (o0 : Addr) (o2 : Addr) (kc : ClassId) (kb : ClassId) (us : List Value) (qv : Int64) (h0 : Heap) (n0 : Nat)
    (hx : p.tables.exec = Jvm.exec) (hZ : Z.Warmed39 s.vm) (hw : ∀ d ∈ tables_1, d.before a0 Z = true) (hby : c.code = jdk_52_method_21_code) (hml : c.maxLocals = 7) (hown : s.vm.findClass "java/lang/StringUTF16" = some m.cls) (g_o2 : n0 ≤ o2) (hne : o0 ≠ o2) (hu : own_Vs us qv) (hq : 0 ≤ qv.toInt)
    (kx0 : ∀ (T : State) (locs : List Loc) (h : Heap) (i : Int32) (s6 : Slot) (bs : List Value), Stand p l e R s m args below meth c T locs cells slots → T.heap = h → Fr n0 locs → n0 ≤ h.size → Keep h0 h [o2] → Arv Z h o0 kc .char (19 : Int32) us (.int (0 : Int32)) → Arv Z h o2 kb .byte (19 : Int32) bs (.int (0 : Int32)) → own_Vs bs qv → Go p e below A (T.setTop (mkF m 44 #[vR o0, vI i, vR o2, vI i, vI ((19 : Int32)), vI i, s6] [])) → G)
    : ∀ (k : Nat) (T : State) (locs : List Loc) (h : Heap) (i : Int32) (j : Nat) (s6 : Slot) (bs : List Value), Stand p l e R s m args below meth c T locs cells slots → T.heap = h → Fr n0 locs → n0 ≤ h.size → Keep h0 h [o2] → i.toInt = (j : Int) → j + k = 19 → bs.length = 19 → (∀ t, t < j → bs.getD t (.int (0 : Int32)) = .int (own_f qv t)) → One s6 → Arv Z h o0 kc .char (19 : Int32) us (.int (0 : Int32)) → Arv Z h o2 kb .byte (19 : Int32) bs (.int (0 : Int32)) → Go p e below A (T.setTop (mkF m 3 #[vR o0, vI i, vR o2, vI i, vI ((19 : Int32)), vI i, s6] [])) → G := by
  intro k
  induction k with
  | zero =>
    intro T locs h i j s6 bs X0 e0 N0 Z0 K0 hi hk hl hbs hs6 V_o0 V_o2 go0
    have go2 := go0.st T (mkF m 44 #[vR o0, vI i, vR o2, vI i, vI ((19 : Int32)), vI i, s6] []) (fun t k => by
      refine XS.iload X0.here hx rfl (hb hby d8_3) rfl ?_
      refine XS.iload X0.here hx rfl (hb hby d8_5) rfl ?_
      refine XS.icmpYes X0.here hx rfl (pc0 := 7) (pc' := 44) rfl (hb hby d8_7) rfl (flt (own_nlt hi hk : ¬ (i < (19 : Int32)))).2.1 (by decide) (by decide) ?_
      exact k)
    exact kx0 T _ h i s6 bs X0 e0 N0 Z0 K0 V_o0 V_o2 (fun t ht => hbs t (by omega)) go2
  | succ k ih =>
    intro T locs h i j s6 bs X0 e0 N0 Z0 K0 hi hk hl hbs hs6 V_o0 V_o2 go0
    have go4 := go0.st T (mkF m 12 #[vR o0, vI i, vR o2, vI i, vI ((19 : Int32)), vI i, s6] [sI i, sR o0]) (fun t k => by
      refine XS.iload X0.here hx rfl (hb hby d8_3) rfl ?_
      refine XS.iload X0.here hx rfl (hb hby d8_5) rfl ?_
      refine XS.icmpNo X0.here hx rfl (hb hby d8_7) rfl (tlt (own_lt hi hk : i < (19 : Int32))).2.1 ?_
      refine XS.aloadN X0.here hx rfl (hb hby d8_10) rfl rfl ?_
      refine XS.iloadN X0.here hx rfl (hb hby d8_11) rfl ?_
      exact k)
    have Vo5 := V_o0
    obtain ⟨cl5, Ar5, qa5, Sa5, Na5, Ha5, Ga5⟩ := Vo5
    have hin5 := inb_of (j := i) Sa5 (own_in hi (by omega))
    have hat5 : cl5.slots[(i).toNatClampNeg]? = some (.int (own_f qv j)) := Has.at Ha5 hin5 (own_rd hu hi (by omega))
    have go7 := go4.st T (mkF m 31 #[vR o0, vI i, vR o2, vI i, vI ((19 : Int32)), vI i, vI ((own_f qv j))] [(sI ((own_f qv j).toInt8.toInt32)), sI i, sR o2]) (fun t k => by
      refine X0.caload hx (j := i) (v := (.int (own_f qv j))) (by rw [e0]; exact Ar5.1) (State.isArrayOf_alike hZ.alike Ar5.2.1) Ar5.2.2 hin5 hat5 (g := (mkF m 12 #[vR o0, vI i, vR o2, vI i, vI ((19 : Int32)), vI i, s6] [sI i, sR o0])) rfl rfl (hb hby d8_12) _ ?_
      refine XS.istoreS X0.here hx rfl (hb hby d8_13) rfl rfl hs6 ?_
      refine XS.iload X0.here hx rfl (hb hby d8_15) rfl ?_
      refine XS.sipush X0.here hx rfl (hb hby d8_17) ?_
      refine XS.icmpYes X0.here hx rfl (pc0 := 20) (pc' := 26) rfl (hb hby d8_20) rfl (flt ((own_u (own_fr hq (by omega))).1 : ¬ ((255 : Int32) < (own_f qv j)))).2.2.2 (by decide) (by decide) ?_
      refine XS.aloadN X0.here hx rfl (hb hby d8_26) rfl rfl ?_
      refine XS.iloadN X0.here hx rfl (hb hby d8_27) rfl ?_
      refine XS.iload X0.here hx rfl (hb hby d8_28) rfl ?_
      show SP p e below T (mkF m 30 #[vR o0, vI i, vR o2, vI i, vI ((19 : Int32)), vI i, vI ((own_f qv j))] [(sI (own_f qv j)), sI i, sR o2]) _
      refine XS.i2b X0.here hx rfl (hb hby d8_30) rfl ?_
      exact k)
    have Vo8 := V_o2
    obtain ⟨cl8, Ar8, qa8, Sa8, Na8, Ha8, Ga8⟩ := Vo8
    have hin8 := inb_of (j := i) Sa8 (own_in hi (by omega))
    obtain ⟨T9, h9, X9, e9, W9, st9⟩ := stB X0 hx hZ e0 Ar8 (j := i) hin8 (g := (mkF m 31 #[vR o0, vI i, vR o2, vI i, vI ((19 : Int32)), vI i, vI ((own_f qv j))] [(sI ((own_f qv j).toInt8.toInt32)), sI i, sR o2])) rfl rfl (hb hby d8_31)
    have V9 : Arv Z h9 o2 kb .byte (19 : Int32) (bs.set j (.int (nar .byte ((own_f qv j).toInt8.toInt32)))) (.int (0 : Int32)) := (Arv.set Ar8 qa8 Sa8 Na8 Ha8 Ga8 (fits_nar_byte _) W9 j (own_cl hi) (by omega))
    have f10 := Arv.other V_o0 W9 hne
    have Z9 : n0 ≤ h9.size := Nat.le_trans Z0 (Nat.le_of_eq W9.size.symm)
    have K9 := K0.wr W9 (Or.inl (List.mem_of_getElem? (i := 0) rfl))
    have N9 := Fr.snoc X9 N0 g_o2
    have go12 := go7.st T9 (mkF m 3 #[vR o0, vI ((i + i1)), vR o2, vI ((i + i1)), vI ((19 : Int32)), vI ((i + i1)), vI ((own_f qv j))] []) (fun t k => by
      refine st9 _ ?_
      show SP p e below T9 (mkF m 32 #[vR o0, vI i, vR o2, vI i, vI ((19 : Int32)), vI i, vI ((own_f qv j))] []) _
      refine XS.iinc X9.here hx rfl (hb hby d8_32) rfl (l' := #[vR o0, vI ((i + i1)), vR o2, vI i, vI ((19 : Int32)), vI i, vI ((own_f qv j))]) rfl ?_
      refine XS.iinc X9.here hx rfl (hb hby d8_35) rfl (l' := #[vR o0, vI ((i + i1)), vR o2, vI ((i + i1)), vI ((19 : Int32)), vI i, vI ((own_f qv j))]) rfl ?_
      refine XS.iinc X9.here hx rfl (hb hby d8_38) rfl (l' := #[vR o0, vI ((i + i1)), vR o2, vI ((i + i1)), vI ((19 : Int32)), vI ((i + i1)), vI ((own_f qv j))]) rfl ?_
      refine XS.goto X9.here hx rfl (pc0 := 41) (pc' := 3) rfl (hb hby d8_41) (by decide) (by decide) ?_
      exact k)
    exact ih T9 _ h9 (i + (1 : Int32)) (j + 1) (.val (.int (own_f qv j))) (bs.set j (.int (nar .byte ((own_f qv j).toInt8.toInt32)))) X9 e9 N9 Z9 K9 (own_succ hi (by omega)) (by omega) (by rw [List.length_set]; exact hl) (own_hb hq (by omega) hl hbs) (One.val rfl) f10 V9 go12
theorem d8_0 : decode jdk_52_method_21_code 0 = .ok (.iconst 0, 1) := by decide +kernel
theorem d8_1 : decode jdk_52_method_21_code 1 = .ok (.istore 5, 2) := by decide +kernel
theorem d8_44 : decode jdk_52_method_21_code 44 = .ok (.iload 4, 2) := by decide +kernel
theorem d8_46 : decode jdk_52_method_21_code 46 = .ok (.ireturn, 1) := by decide +kernel
theorem pn_rm_cmpI : plainName "java/lang/StringUTF16" = true := by first | (simp [plainName, overriddenIn]; done) | decide +kernel
theorem ef_rm_cmpI (m : MethodId) (o0 : Addr) (o2 : Addr) : entryFrame m #[(.ref o0), (.int (0 : Int32)), (.ref o2), (.int (0 : Int32)), (.int (19 : Int32))] 7 = mkF m 0 #[.val (.ref o0), .val (.int (0 : Int32)), .val (.ref o2), .val (.int (0 : Int32)), .val (.int (19 : Int32)), uu, uu] [] := by first | (simp [entryFrame, mkF, argsToLocals, Value.category]; done) | rfl
def Q_rm_cmpI (Z : State) (o0 : Addr) (o2 : Addr) (kc : ClassId) (kb : ClassId) (us : List Value) (bs : List Value) (qv : Int64) (h0 : Heap) (n0 : Nat) (v : Option Value) (h : Heap) (L : List Loc) : Prop := ∃ vs : List Value, v = some (.int (19 : Int32)) ∧ Fr n0 L ∧ Keep h0 h [o2] ∧ Arv Z h o2 kb .byte (19 : Int32) vs (.int (0 : Int32)) ∧ own_Vs vs qv
set_option maxRecDepth 65536 in
set_option maxHeartbeats 40000000 in
theorem rm_cmpI (l : Launch) (Z : State) (a0 : Array Value) (hw : ∀ d ∈ tables_1, d.before a0 Z = true) (ws : List Jvm.Cond) (o0 : Addr) (o2 : Addr) (kc : ClassId) (kb : ClassId) (us : List Value) (bs : List Value) (qv : Int64) (h0 : Heap) (n0 : Nat) (Z0 : n0 ≤ h0.size) (V_o0 : Arv Z h0 o0 kc .char (19 : Int32) us (.int (0 : Int32))) (V_o2 : Arv Z h0 o2 kb .byte (19 : Int32) bs (.int (0 : Int32))) (g_o2 : n0 ≤ o2) (ne_o0_o2 : o0 ≠ o2) (hu : own_Vs us qv) (hq : 0 ≤ qv.toInt) (hl : bs.length = 19) :
    MetFree l yN9 (head1 (Jvm.Cond.code yN9 jdk_52_method_21_code 7 (some .int) :: ws) ({ frames := 0, cells := 0, slots := 0, locals := 0 } : Room)) (fun a U => a = #[(.ref o0), (.int (0 : Int32)), (.ref o2), (.int (0 : Int32)), (.int (19 : Int32))] ∧ Z.Warmed39 U.vm ∧ U.heap = h0) (fun _ _ _ _ _ => True) (fun _ U o U' => ∃ v L, o = .returned v ∧ Q_rm_cmpI Z o0 o2 kc kb us bs qv h0 n0 v U'.heap L ∧ FrameEnd U o U' L ({ frames := 0, cells := 0, slots := 0, locals := 0 } : Room).cells ({ frames := 0, cells := 0, slots := 0, locals := 0 } : Room).slots) := by
  refine MetFree.of_bodySF (plainFor_of_name pn_rm_cmpI) hisR ?_
  intro p e s m args below meth c s₁ Bd hml0 hP hK
  obtain ⟨rfl, hZ, hh⟩ := hP
  have hx := Bd.exec
  have hby := Bd.bytes
  have hml : c.maxLocals = 7 := hml0
  have hown : s.vm.findClass "java/lang/StringUTF16" = some m.cls := findClass_of_methodNamed Bd.named
  have hnm := (name_of_methodNamed Bd.named Bd.method).1
  have X0 : Stand p l e ({ frames := 0, cells := 0, slots := 0, locals := 0 } : Room) s m #[(.ref o0), (.int (0 : Int32)), (.ref o2), (.int (0 : Int32)), (.int (19 : Int32))] below meth c s₁ [] 0 0 := Stand.of_body Bd
  have e0 : s₁.heap = h0 := by rw [← hh, Bd.state]; rfl
  have N0 := Fr.nil n0
  have K0 := Keep.refl h0 [o2]
  have go0 : Go p e below (s₁.setTop (entryFrame m #[(.ref o0), (.int (0 : Int32)), (.ref o2), (.int (0 : Int32)), (.int (19 : Int32))] 7)) (s₁.setTop (mkF m 0 #[vR o0, vI i0, vR o2, vI i0, vI ((19 : Int32)), uu, uu] [])) := fun t k => castTop (ef_rm_cmpI m o0 o2) k
  have go1 := go0.st s₁ (mkF m 3 #[vR o0, vI i0, vR o2, vI i0, vI ((19 : Int32)), vI i0, uu] []) (fun t k => by
    refine XS.iconst X0.here hx rfl (hb hby d8_0) ?_
    refine XS.istore X0.here hx rfl (hb hby d8_1) rfl (l' := #[vR o0, vI i0, vR o2, vI i0, vI ((19 : Int32)), vI i0, uu]) rfl ?_
    exact k)
  refine lp_cmp o0 o2 kc kb us qv h0 n0 hx hZ hw hby hml hown g_o2 ne_o0_o2 hu hq ?_ 19 s₁ _ h0 (0 : Int32) 0 uu bs X0 e0 N0 Z0 K0 rfl rfl hl (fun t ht => absurd ht (Nat.not_lt_zero t)) One.u V_o0 V_o2 go1
  intro T9 locs9 h9 i9 s9 bs9 X9 e9 N9 Z9 K9 V90 V92 hv9 go9
  have go2 := go9.st T9 (mkF m 46 #[vR o0, vI i9, vR o2, vI i9, vI ((19 : Int32)), vI i9, s9] [(sI (19 : Int32))]) (fun t k => by
    refine XS.iload X9.here hx rfl (hb hby d8_44) rfl ?_
    exact k)
  obtain ⟨fs, hr, hrun, hended, hW, hsame⟩ := X9.leave (v := some (.int (19 : Int32))) (fun h => by rw [Bd.returns] at h; cases h)
  refine ⟨_, _, go2 _ ?_, hrun, hended, _, _, rfl, ?_, ⟨_, rfl⟩, hW, hsame.mono (by decide) (by decide)⟩
  · exact own_retI X9 hx Bd.returns (hb hby d8_46) hr
  · show Q_rm_cmpI Z o0 o2 kc kb us bs qv h0 n0 _ T9.heap _
    rw [e9]
    exact ⟨bs9, rfl, N9, K9, V92, hv9⟩
theorem d7_0 : decode jdk_52_method_16_code 0 = .ok (.iload_n 2, 1) := by decide +kernel
theorem d7_1 : decode jdk_52_method_16_code 1 = .ok (.newarray .byte, 2) := by decide +kernel
theorem d7_3 : decode jdk_52_method_16_code 3 = .ok (.astore_n 3, 1) := by decide +kernel
theorem d7_4 : decode jdk_52_method_16_code 4 = .ok (.aload_n 0, 1) := by decide +kernel
theorem d7_5 : decode jdk_52_method_16_code 5 = .ok (.iload_n 1, 1) := by decide +kernel
theorem d7_6 : decode jdk_52_method_16_code 6 = .ok (.aload_n 3, 1) := by decide +kernel
theorem d7_7 : decode jdk_52_method_16_code 7 = .ok (.iconst 0, 1) := by decide +kernel
theorem d7_8 : decode jdk_52_method_16_code 8 = .ok (.iload_n 2, 1) := by decide +kernel
theorem d7_9 : decode jdk_52_method_16_code 9 = .ok (.invokestatic 115, 3) := by decide +kernel
theorem d7_12 : decode jdk_52_method_16_code 12 = .ok (.istore 4, 2) := by decide +kernel
theorem d7_14 : decode jdk_52_method_16_code 14 = .ok (.iload 4, 2) := by decide +kernel
theorem d7_16 : decode jdk_52_method_16_code 16 = .ok (.iload_n 2, 1) := by decide +kernel
theorem d7_17 : decode jdk_52_method_16_code 17 = .ok (.if_icmp .eq 40, 3) := by decide +kernel
theorem d7_57 : decode jdk_52_method_16_code 57 = .ok (.aload_n 3, 1) := by decide +kernel
theorem d7_58 : decode jdk_52_method_16_code 58 = .ok (.areturn, 1) := by decide +kernel
theorem pn_rm_cmpA : plainName "java/lang/StringUTF16" = true := by first | (simp [plainName, overriddenIn]; done) | decide +kernel
theorem pd_rm_cmpA_0 : parseMethodDescriptor "([CI[BII)I" = some ⟨[(.array .char), .int, (.array .byte), .int, .int], some .int⟩ := by decide +kernel
theorem ef_rm_cmpA (m : MethodId) (o0 : Addr) : entryFrame m #[(.ref o0), (.int (0 : Int32)), (.int (19 : Int32))] 6 = mkF m 0 #[.val (.ref o0), .val (.int (0 : Int32)), .val (.int (19 : Int32)), uu, uu, uu] [] := by first | (simp [entryFrame, mkF, argsToLocals, Value.category]; done) | rfl
def Q_rm_cmpA (Z : State) (o0 : Addr) (kc : ClassId) (us : List Value) (qv : Int64) (h0 : Heap) (n0 : Nat) (v : Option Value) (h : Heap) (L : List Loc) : Prop := ∃ b : Addr, ∃ kb : ClassId, ∃ vs : List Value, v = some (.ref b) ∧ Fr n0 L ∧ Keep h0 h [] ∧ n0 ≤ b ∧ h0.size ≤ b ∧ Arv Z h b kb .byte (19 : Int32) vs (.int (0 : Int32)) ∧ own_Vs vs qv
set_option maxRecDepth 65536 in
set_option maxHeartbeats 40000000 in
theorem rm_cmpA (l : Launch) (Z : State) (a0 : Array Value) (hw : ∀ d ∈ tables_1, d.before a0 Z = true) (ws : List Jvm.Cond) (o0 : Addr) (kc : ClassId) (us : List Value) (qv : Int64) (h0 : Heap) (n0 : Nat) (Z0 : n0 ≤ h0.size) (V_o0 : Arv Z h0 o0 kc .char (19 : Int32) us (.int (0 : Int32))) (hu : own_Vs us qv) (hq : 0 ≤ qv.toInt) :
    MetFree l yN10 (head1 (Jvm.Cond.code yN10 jdk_52_method_16_code 6 (some (.array .byte)) :: ws) ({ frames := 1, cells := 1, slots := 19, locals := 18 } : Room)) (fun a U => a = #[(.ref o0), (.int (0 : Int32)), (.int (19 : Int32))] ∧ Z.Warmed39 U.vm ∧ U.heap = h0) (fun _ _ _ _ _ => True) (fun _ U o U' => ∃ v L, o = .returned v ∧ Q_rm_cmpA Z o0 kc us qv h0 n0 v U'.heap L ∧ FrameEnd U o U' L ({ frames := 1, cells := 1, slots := 19, locals := 18 } : Room).cells ({ frames := 1, cells := 1, slots := 19, locals := 18 } : Room).slots) := by
  refine MetFree.of_bodySF (plainFor_of_name pn_rm_cmpA) hisR ?_
  intro p e s m args below meth c s₁ Bd hml0 hP hK
  obtain ⟨rfl, hZ, hh⟩ := hP
  have hx := Bd.exec
  have hby := Bd.bytes
  have hml : c.maxLocals = 6 := hml0
  have hown : s.vm.findClass "java/lang/StringUTF16" = some m.cls := findClass_of_methodNamed Bd.named
  have hnm := (name_of_methodNamed Bd.named Bd.method).1
  have X0 : Stand p l e ({ frames := 1, cells := 1, slots := 19, locals := 18 } : Room) s m #[(.ref o0), (.int (0 : Int32)), (.int (19 : Int32))] below meth c s₁ [] 0 0 := Stand.of_body Bd
  have e0 : s₁.heap = h0 := by rw [← hh, Bd.state]; rfl
  have N0 := Fr.nil n0
  have K0 := Keep.refl h0 []
  have go0 : Go p e below (s₁.setTop (entryFrame m #[(.ref o0), (.int (0 : Int32)), (.int (19 : Int32))] 6)) (s₁.setTop (mkF m 0 #[vR o0, vI i0, vI ((19 : Int32)), uu, uu, uu] [])) := fun t k => castTop (ef_rm_cmpA m o0) k
  have go1 := go0.st s₁ (mkF m 1 #[vR o0, vI i0, vI ((19 : Int32)), uu, uu, uu] [(sI (19 : Int32))]) (fun t k => by
    refine XS.iloadN X0.here hx rfl (hb hby d7_0) rfl ?_
    exact k)
  obtain ⟨T2, h2, k2, X2, e2, E2, A2, st2⟩ := newP X0 hx hZ (wD hw 49 rfl) e0 (g := (mkF m 1 #[vR o0, vI i0, vI ((19 : Int32)), uu, uu, uu] [(sI (19 : Int32))])) rfl (hb hby d7_1) rfl (by decide) (cap := 19) (by decide) (by decide) (by decide) (by decide)
  obtain ⟨b2, g2⟩ : ∃ z, z = h0.size := ⟨_, rfl⟩
  rw [← g2] at A2 st2
  have ne_o0_b2 : o0 ≠ b2 := Nat.ne_of_lt (Nat.lt_of_lt_of_le V_o0.lt (Nat.le_of_eq g2.symm))
  have g_b2 : n0 ≤ b2 := Nat.le_trans Z0 (Nat.le_of_eq g2.symm)
  have sz_b2 : h0.size ≤ b2 := Nat.le_trans K0.1 (Nat.le_of_eq g2.symm)
  have f3 := V_o0.ext E2
  have V2 : Arv Z h2 b2 k2 .byte (19 : Int32) [(.int (0 : Int32)), (.int (0 : Int32)), (.int (0 : Int32)), (.int (0 : Int32)), (.int (0 : Int32)), (.int (0 : Int32)), (.int (0 : Int32)), (.int (0 : Int32)), (.int (0 : Int32)), (.int (0 : Int32)), (.int (0 : Int32)), (.int (0 : Int32)), (.int (0 : Int32)), (.int (0 : Int32)), (.int (0 : Int32)), (.int (0 : Int32)), (.int (0 : Int32)), (.int (0 : Int32)), (.int (0 : Int32))] (.int (0 : Int32)) := (Arv.new A2 (by decide)).pad (pad_rep [] (.int (0 : Int32)) 19)
  have Z2 : n0 ≤ h2.size := Nat.le_trans Z0 E2.1
  have K2 := K0.ext E2
  have go4 := go1.st T2 (mkF m 9 #[vR o0, vI i0, vI ((19 : Int32)), vR b2, uu, uu] [(sI (19 : Int32)), sI i0, sR b2, sI i0, sR o0]) (fun t k => by
    refine st2 _ ?_
    show SP p e below T2 (mkF m 3 #[vR o0, vI i0, vI ((19 : Int32)), uu, uu, uu] [sR b2]) _
    refine XS.astoreN X2.here hx rfl (hb hby d7_3) rfl rfl (l' := #[vR o0, vI i0, vI ((19 : Int32)), vR b2, uu, uu]) rfl ?_
    refine XS.aloadN X2.here hx rfl (hb hby d7_4) rfl rfl ?_
    refine XS.iloadN X2.here hx rfl (hb hby d7_5) rfl ?_
    refine XS.aloadN X2.here hx rfl (hb hby d7_6) rfl rfl ?_
    refine XS.iconst X2.here hx rfl (hb hby d7_7) ?_
    refine XS.iloadN X2.here hx rfl (hb hby d7_8) rfl ?_
    exact k)
  obtain ⟨_, _, ⟨T5, L5, k5, n5⟩, -, X5, ⟨Lc5, hQ5, l5, y5, z5⟩, st5⟩ := Jvm.LawKit.callS X2 hx (y := yN9) hown (mvT hZ (wD hw 50 rfl)) (mvT hZ (wD hw 51 rfl)) (mvT hZ (wD hw 47 rfl)) (mvT hZ (wD hw 52 rfl)) (by decide) (backOf (W := 0) (rm_cmpI l Z a0 hw [] o0 b2 kc k2 us [(.int (0 : Int32)), (.int (0 : Int32)), (.int (0 : Int32)), (.int (0 : Int32)), (.int (0 : Int32)), (.int (0 : Int32)), (.int (0 : Int32)), (.int (0 : Int32)), (.int (0 : Int32)), (.int (0 : Int32)), (.int (0 : Int32)), (.int (0 : Int32)), (.int (0 : Int32)), (.int (0 : Int32)), (.int (0 : Int32)), (.int (0 : Int32)), (.int (0 : Int32)), (.int (0 : Int32)), (.int (0 : Int32))] qv h2 n0 Z2 f3 V2 g_b2 ne_o0_b2 hu hq rfl) hZ (wD hw 52 rfl) (wD hw 47 rfl) (by decide) (by decide)) (g := (mkF m 9 #[vR o0, vI i0, vI ((19 : Int32)), vR b2, uu, uu] [(sI (19 : Int32)), sI i0, sR b2, sI i0, sR o0])) rfl (by rw [hml]; rfl) (argsL := [(.ref o0), (.int (0 : Int32)), (.ref b2), (.int (0 : Int32)), (.int (19 : Int32))]) (rest := []) (lenOf pd_rm_cmpA_0 rfl) rfl (by show 2 * 0 + _ ≤ _; exact Nat.le_of_eq rfl) (hb hby d7_9) (fun _ _ => ⟨rfl, e2, (by decide : 1 + 0 ≤ _), (by decide : 19 + 0 ≤ _)⟩)
  dsimp only [Pt.U, Pt.locs, Pt.cells, Pt.slots] at X5 l5 y5 z5 st5 hQ5
  rw [l5, y5, z5] at X5
  obtain ⟨vs_5, rfl, N5q, K5, qp5_0, qp5_1⟩ := hQ5
  have N5 := Fr.app N0 N5q
  have f6 := f3.keep K5 (ninS ne_o0_b2 nin0)
  have Z5 : n0 ≤ T5.heap.size := Nat.le_trans Z2 K5.1
  have KK5 := K2.trans K5 (allS (Or.inr sz_b2) all0)
  have go9 := go4.st T5 (mkF m 58 #[vR o0, vI i0, vI ((19 : Int32)), vR b2, vI ((19 : Int32)), uu] [sR b2]) (fun t k => by
    refine st5 _ ?_
    show SP p e below T5 (mkF m 12 #[vR o0, vI i0, vI ((19 : Int32)), vR b2, uu, uu] [(sI (19 : Int32))]) _
    refine XS.istore X5.here hx rfl (hb hby d7_12) rfl (l' := #[vR o0, vI i0, vI ((19 : Int32)), vR b2, vI ((19 : Int32)), uu]) rfl ?_
    refine XS.iload X5.here hx rfl (hb hby d7_14) rfl ?_
    refine XS.iloadN X5.here hx rfl (hb hby d7_16) rfl ?_
    refine XS.icmpYes X5.here hx rfl (pc0 := 17) (pc' := 57) rfl (hb hby d7_17) rfl (teq ((by decide) : (19 : Int32) = (19 : Int32))).1 (by decide) (by decide) ?_
    refine XS.aloadN X5.here hx rfl (hb hby d7_57) rfl rfl ?_
    exact k)
  obtain ⟨fs, hr, hrun, hended, hW, hsame⟩ := X5.leave (v := some (.ref b2)) (fun h => by rw [Bd.returns] at h; cases h)
  refine ⟨_, _, go9 _ ?_, hrun, hended, _, _, rfl, ?_, ⟨_, rfl⟩, hW, hsame.mono (by decide) (by decide)⟩
  · exact own_retA X5 hx Bd.returns rfl rfl (hb hby d7_58) hr
  · show Q_rm_cmpA Z o0 kc us qv h0 n0 _ T5.heap _
    exact ⟨b2, k2, vs_5, rfl, N5, KK5, g_b2, sz_b2, qp5_0, qp5_1⟩
theorem d9_0 : decode jdk_52_method_15_code 0 = .ok (.iload_n 1, 1) := by decide +kernel
theorem d9_1 : decode jdk_52_method_15_code 1 = .ok (.aload_n 0, 1) := by decide +kernel
theorem d9_2 : decode jdk_52_method_15_code 2 = .ok (.arraylength, 1) := by decide +kernel
theorem d9_3 : decode jdk_52_method_15_code 3 = .ok (.isub, 1) := by decide +kernel
theorem d9_4 : decode jdk_52_method_15_code 4 = .ok (.bipush 31, 2) := by decide +kernel
theorem d9_6 : decode jdk_52_method_15_code 6 = .ok (.iushr, 1) := by decide +kernel
theorem d9_7 : decode jdk_52_method_15_code 7 = .ok (.i2b, 1) := by decide +kernel
theorem d9_8 : decode jdk_52_method_15_code 8 = .ok (.ireturn, 1) := by decide +kernel
theorem pn_rm_cfa : plainName "java/lang/StringUTF16" = true := by first | (simp [plainName, overriddenIn]; done) | decide +kernel
theorem ef_rm_cfa (m : MethodId) (o0 : Addr) : entryFrame m #[(.ref o0), (.int (19 : Int32))] 2 = mkF m 0 #[.val (.ref o0), .val (.int (19 : Int32))] [] := by first | (simp [entryFrame, mkF, argsToLocals, Value.category]; done) | rfl
def Q_rm_cfa (Z : State) (o0 : Addr) (kb : ClassId) (vs : List Value) (h0 : Heap) (n0 : Nat) (v : Option Value) (h : Heap) (L : List Loc) : Prop := v = some (.int (0 : Int32)) ∧ Fr n0 L ∧ h = h0
set_option maxRecDepth 65536 in
set_option maxHeartbeats 40000000 in
theorem rm_cfa (l : Launch) (Z : State) (a0 : Array Value) (hw : ∀ d ∈ tables_1, d.before a0 Z = true) (ws : List Jvm.Cond) (o0 : Addr) (kb : ClassId) (vs : List Value) (h0 : Heap) (n0 : Nat) (Z0 : n0 ≤ h0.size) (V_o0 : Arv Z h0 o0 kb .byte (19 : Int32) vs (.int (0 : Int32))) :
    MetFree l yN11 (head1 (Jvm.Cond.code yN11 jdk_52_method_15_code 2 (some .byte) :: ws) ({ frames := 0, cells := 0, slots := 0, locals := 0 } : Room)) (fun a U => a = #[(.ref o0), (.int (19 : Int32))] ∧ Z.Warmed39 U.vm ∧ U.heap = h0) (fun _ _ _ _ _ => True) (fun _ U o U' => ∃ v L, o = .returned v ∧ Q_rm_cfa Z o0 kb vs h0 n0 v U'.heap L ∧ FrameEnd U o U' L ({ frames := 0, cells := 0, slots := 0, locals := 0 } : Room).cells ({ frames := 0, cells := 0, slots := 0, locals := 0 } : Room).slots) := by
  refine MetFree.of_bodySF (plainFor_of_name pn_rm_cfa) hisR ?_
  intro p e s m args below meth c s₁ Bd hml0 hP hK
  obtain ⟨rfl, hZ, hh⟩ := hP
  have hx := Bd.exec
  have hby := Bd.bytes
  have hml : c.maxLocals = 2 := hml0
  have hown : s.vm.findClass "java/lang/StringUTF16" = some m.cls := findClass_of_methodNamed Bd.named
  have hnm := (name_of_methodNamed Bd.named Bd.method).1
  have X0 : Stand p l e ({ frames := 0, cells := 0, slots := 0, locals := 0 } : Room) s m #[(.ref o0), (.int (19 : Int32))] below meth c s₁ [] 0 0 := Stand.of_body Bd
  have e0 : s₁.heap = h0 := by rw [← hh, Bd.state]; rfl
  have N0 := Fr.nil n0
  have K0 := Keep.refl h0 []
  have go0 : Go p e below (s₁.setTop (entryFrame m #[(.ref o0), (.int (19 : Int32))] 2)) (s₁.setTop (mkF m 0 #[vR o0, vI ((19 : Int32))] [])) := fun t k => castTop (ef_rm_cfa m o0) k
  have go1 := go0.st s₁ (mkF m 2 #[vR o0, vI ((19 : Int32))] [sR o0, (sI (19 : Int32))]) (fun t k => by
    refine XS.iloadN X0.here hx rfl (hb hby d9_0) rfl ?_
    refine XS.aloadN X0.here hx rfl (hb hby d9_1) rfl rfl ?_
    exact k)
  have Vo2 := V_o0
  obtain ⟨cl2, Ar2, qa2, Sa2, Na2, Ha2, Ga2⟩ := Vo2
  have go3 := go1.st s₁ (mkF m 8 #[vR o0, vI ((19 : Int32))] [sI i0]) (fun t k => by
    refine X0.arraylength hx (by rw [e0]; exact Ar2.1) (State.isArrayOf_alike hZ.alike Ar2.2.1) (g := (mkF m 2 #[vR o0, vI ((19 : Int32))] [sR o0, (sI (19 : Int32))])) rfl rfl (hb hby d9_2) _ ?_
    rw [len_of Sa2 Na2]
    refine XS.isub X0.here hx rfl (hb hby d9_3) rfl ?_
    refine XS.bipush X0.here hx rfl (hb hby d9_4) ?_
    refine XS.iushr X0.here hx rfl (hb hby d9_6) rfl ?_
    refine XS.i2b X0.here hx rfl (hb hby d9_7) rfl ?_
    exact k)
  obtain ⟨fs, hr, hrun, hended, hW, hsame⟩ := X0.leave (v := some (.int (nar .byte (0 : Int32)))) (fun h => by rw [Bd.returns] at h; cases h)
  refine ⟨_, _, go3 _ ?_, hrun, hended, _, _, rfl, ?_, ⟨_, rfl⟩, hW, hsame.mono (by decide) (by decide)⟩
  · exact retN X0 hx (t := .byte) Bd.returns (by simp) (hb hby d9_8) hr
  · show Q_rm_cfa Z o0 kb vs h0 n0 _ s₁.heap _
    rw [e0]
    exact ⟨by rw [own_n0], N0, rfl⟩
theorem d5_0 : decode jdk_42_method_149_code 0 = .ok (.aload_n 0, 1) := by decide +kernel
theorem d5_1 : decode jdk_42_method_149_code 1 = .ok (.invokespecial 1, 3) := by decide +kernel
theorem d5_4 : decode jdk_42_method_149_code 4 = .ok (.iload_n 3, 1) := by decide +kernel
theorem d5_5 : decode jdk_42_method_149_code 5 = .ok (.ifCond .ne 22, 3) := by decide +kernel
theorem d5_27 : decode jdk_42_method_149_code 27 = .ok (.getstatic 38, 3) := by decide +kernel
theorem d5_30 : decode jdk_42_method_149_code 30 = .ok (.ifCond .eq 28, 3) := by decide +kernel
theorem d5_33 : decode jdk_42_method_149_code 33 = .ok (.aload_n 1, 1) := by decide +kernel
theorem d5_34 : decode jdk_42_method_149_code 34 = .ok (.iload_n 2, 1) := by decide +kernel
theorem d5_35 : decode jdk_42_method_149_code 35 = .ok (.iload_n 3, 1) := by decide +kernel
theorem d5_36 : decode jdk_42_method_149_code 36 = .ok (.invokestatic 177, 3) := by decide +kernel
theorem d5_39 : decode jdk_42_method_149_code 39 = .ok (.astore 5, 2) := by decide +kernel
theorem d5_41 : decode jdk_42_method_149_code 41 = .ok (.aload_n 0, 1) := by decide +kernel
theorem d5_42 : decode jdk_42_method_149_code 42 = .ok (.aload 5, 2) := by decide +kernel
theorem d5_44 : decode jdk_42_method_149_code 44 = .ok (.iload_n 3, 1) := by decide +kernel
theorem d5_45 : decode jdk_42_method_149_code 45 = .ok (.invokestatic 47, 3) := by decide +kernel
theorem d5_48 : decode jdk_42_method_149_code 48 = .ok (.putfield 15, 3) := by decide +kernel
theorem d5_51 : decode jdk_42_method_149_code 51 = .ok (.aload_n 0, 1) := by decide +kernel
theorem d5_52 : decode jdk_42_method_149_code 52 = .ok (.aload 5, 2) := by decide +kernel
theorem d5_54 : decode jdk_42_method_149_code 54 = .ok (.putfield 9, 3) := by decide +kernel
theorem d5_57 : decode jdk_42_method_149_code 57 = .ok (.return_, 1) := by decide +kernel
theorem pn_rm_si4 : plainName "java/lang/String" = true := by first | (simp [plainName, overriddenIn]; done) | decide +kernel
theorem pd_rm_si4_0 : parseMethodDescriptor "([CII)[B" = some ⟨[(.array .char), .int, .int], some (.array .byte)⟩ := by decide +kernel
theorem pd_rm_si4_1 : parseMethodDescriptor "([BI)B" = some ⟨[(.array .byte), .int], some .byte⟩ := by decide +kernel
theorem ef_rm_si4 (m : MethodId) (o0 : Addr) (o1 : Addr) : entryFrame m #[(.ref o0), (.ref o1), (.int (0 : Int32)), (.int (19 : Int32)), .null] 6 = mkF m 0 #[.val (.ref o0), .val (.ref o1), .val (.int (0 : Int32)), .val (.int (19 : Int32)), .val .null, uu] [] := by first | (simp [entryFrame, mkF, argsToLocals, Value.category]; done) | rfl
def Q_rm_si4 (Z : State) (o0 : Addr) (o1 : Addr) (cs : Int32) (kc : ClassId) (us : List Value) (qv : Int64) (h0 : Heap) (n0 : Nat) (v : Option Value) (h : Heap) (L : List Loc) : Prop := ∃ vb : Addr, ∃ kb : ClassId, ∃ vs : List Value, v = none ∧ Fr n0 L ∧ Keep h0 h [o0] ∧ n0 ≤ vb ∧ h0.size ≤ vb ∧ Exa Z h o0 "java/lang/String" ∧ Fld Z h o0 "java/lang/String" "coder" "B" (.int (0 : Int32)) ∧ Fld Z h o0 "java/lang/String" "value" "[B" (.ref vb) ∧ Arv Z h vb kb .byte (19 : Int32) vs (.int (0 : Int32)) ∧ own_Vs vs qv
set_option maxRecDepth 65536 in
set_option maxHeartbeats 40000000 in
theorem rm_si4 (l : Launch) (Z : State) (a0 : Array Value) (hw : ∀ d ∈ tables_1, d.before a0 Z = true) (ws : List Jvm.Cond) (o0 : Addr) (o1 : Addr) (cs : Int32) (kc : ClassId) (us : List Value) (qv : Int64) (h0 : Heap) (n0 : Nat) (Z0 : n0 ≤ h0.size) (Ol : Old Z n0 h0) (S_cs : Sta Z Z.heap "java/lang/String" "COMPACT_STRINGS" "Z" (.int cs)) (hcs : ¬ cs = (0 : Int32)) (E_o0 : Exa Z h0 o0 "java/lang/String") (g_o0 : n0 ≤ o0) (F_value_o0 : Fld Z h0 o0 "java/lang/String" "value" "[B" .null) (F_coder_o0 : Fld Z h0 o0 "java/lang/String" "coder" "B" (.int (0 : Int32))) (V_o1 : Arv Z h0 o1 kc .char (19 : Int32) us (.int (0 : Int32))) (hu : own_Vs us qv) (hq : 0 ≤ qv.toInt) :
    MetFree l yN12 (head1 (Jvm.Cond.code yN12 jdk_42_method_149_code 6 none :: ws) ({ frames := 2, cells := 1, slots := 19, locals := 35 } : Room)) (fun a U => a = #[(.ref o0), (.ref o1), (.int (0 : Int32)), (.int (19 : Int32)), .null] ∧ Z.Warmed39 U.vm ∧ U.heap = h0) (fun _ _ _ _ _ => True) (fun _ U o U' => ∃ v L, o = .returned v ∧ Q_rm_si4 Z o0 o1 cs kc us qv h0 n0 v U'.heap L ∧ FrameEnd U o U' L ({ frames := 2, cells := 1, slots := 19, locals := 35 } : Room).cells ({ frames := 2, cells := 1, slots := 19, locals := 35 } : Room).slots) := by
  refine MetFree.of_bodySF (plainFor_of_name pn_rm_si4) hisR ?_
  intro p e s m args below meth c s₁ Bd hml0 hP hK
  obtain ⟨rfl, hZ, hh⟩ := hP
  have hx := Bd.exec
  have hby := Bd.bytes
  have hml : c.maxLocals = 6 := hml0
  have hown : s.vm.findClass "java/lang/String" = some m.cls := findClass_of_methodNamed Bd.named
  have hnm := (name_of_methodNamed Bd.named Bd.method).1
  have X0 : Stand p l e ({ frames := 2, cells := 1, slots := 19, locals := 35 } : Room) s m #[(.ref o0), (.ref o1), (.int (0 : Int32)), (.int (19 : Int32)), .null] below meth c s₁ [] 0 0 := Stand.of_body Bd
  have e0 : s₁.heap = h0 := by rw [← hh, Bd.state]; rfl
  have N0 := Fr.nil n0
  have K0 := Keep.refl h0 [o0]
  have go0 : Go p e below (s₁.setTop (entryFrame m #[(.ref o0), (.ref o1), (.int (0 : Int32)), (.int (19 : Int32)), .null] 6)) (s₁.setTop (mkF m 0 #[vR o0, vR o1, vI i0, vI ((19 : Int32)), .val .null, uu] [])) := fun t k => castTop (ef_rm_si4 m o0 o1) k
  have go1 := go0.st s₁ (mkF m 1 #[vR o0, vR o1, vI i0, vI ((19 : Int32)), .val .null, uu] [sR o0]) (fun t k => by
    refine XS.aloadN X0.here hx rfl (hb hby d5_0) rfl rfl ?_
    exact k)
  obtain ⟨T2, X2, e2, st2⟩ := initO X0 hx hZ hown (wD hw 41 rfl) (wD hw 42 rfl) (wD hw 43 rfl) e0 (g := (mkF m 1 #[vR o0, vR o1, vI i0, vI ((19 : Int32)), .val .null, uu] [sR o0])) rfl (by rw [hml]; rfl) rfl (hb hby d5_1) (by decide) (W := 0) (by show 2 * 0 + _ ≤ _; exact Nat.le_of_eq rfl) (by decide)
  have go4 := go1.st T2 (mkF m 27 #[vR o0, vR o1, vI i0, vI ((19 : Int32)), .val .null, uu] []) (fun t k => by
    refine st2 _ ?_
    show SP p e below T2 (mkF m 4 #[vR o0, vR o1, vI i0, vI ((19 : Int32)), .val .null, uu] []) _
    refine XS.iloadN X2.here hx rfl (hb hby d5_4) rfl ?_
    refine XS.ifYes X2.here hx rfl (pc0 := 5) (pc' := 27) rfl (hb hby d5_5) rfl ((if0 _ _).trans (feq ((by decide) : ¬ ((19 : Int32) = (0 : Int32)))).2) (by decide) (by decide) ?_
    exact k)
  have f5 := S_cs.ext Ol.2
  obtain ⟨T6, X6, e6, st6⟩ := getS2 X2 hx hZ hown (host := "") (Or.inl (wD hw 44 rfl)) Via.refl e2 f5 (g := (mkF m 27 #[vR o0, vR o1, vI i0, vI ((19 : Int32)), .val .null, uu] [])) rfl (hb hby d5_27)
  have go8 := go4.st T6 (mkF m 36 #[vR o0, vR o1, vI i0, vI ((19 : Int32)), .val .null, uu] [(sI (19 : Int32)), sI i0, sR o1]) (fun t k => by
    refine st6 _ ?_
    show SP p e below T6 (mkF m 30 #[vR o0, vR o1, vI i0, vI ((19 : Int32)), .val .null, uu] [sI cs]) _
    refine XS.ifNo X6.here hx rfl (hb hby d5_30) rfl ((if0 _ _).trans (feq (hcs : ¬ (cs = (0 : Int32)))).1) ?_
    refine XS.aloadN X6.here hx rfl (hb hby d5_33) rfl rfl ?_
    refine XS.iloadN X6.here hx rfl (hb hby d5_34) rfl ?_
    refine XS.iloadN X6.here hx rfl (hb hby d5_35) rfl ?_
    exact k)
  obtain ⟨_, _, ⟨T9, L9, k9, n9⟩, -, X9, ⟨Lc9, hQ9, l9, y9, z9⟩, st9⟩ := Jvm.LawKit.callS X6 hx (y := yN10) hown (mvT hZ (wD hw 45 rfl)) (mvT hZ (wD hw 46 rfl)) (mvT hZ (wD hw 47 rfl)) (mvT hZ (wD hw 48 rfl)) (by decide) (backOf (W := 0) (rm_cmpA l Z a0 hw [] o1 kc us qv h0 n0 Z0 V_o1 hu hq) hZ (wD hw 48 rfl) (wD hw 47 rfl) (by decide) (by decide)) (g := (mkF m 36 #[vR o0, vR o1, vI i0, vI ((19 : Int32)), .val .null, uu] [(sI (19 : Int32)), sI i0, sR o1])) rfl (by rw [hml]; rfl) (argsL := [(.ref o1), (.int (0 : Int32)), (.int (19 : Int32))]) (rest := []) (lenOf pd_rm_si4_0 rfl) rfl (by show 2 * 0 + _ ≤ _; exact Nat.le_of_eq rfl) (hb hby d5_36) (fun _ _ => ⟨rfl, e6, (by decide : 0 + 1 ≤ _), (by decide : 0 + 19 ≤ _)⟩)
  dsimp only [Pt.U, Pt.locs, Pt.cells, Pt.slots] at X9 l9 y9 z9 st9 hQ9
  rw [l9, y9, z9] at X9
  obtain ⟨b_9, kb_9, vs_9, rfl, N9q, K9, qp9_0, qp9_1, qp9_2, qp9_3⟩ := hQ9
  have N9 := Fr.app N0 N9q
  have f10 := Old.keep Ol K9 all0
  have f11 := E_o0.keep K9
  have f12 := F_value_o0.keep K9 nin0
  have f13 := F_coder_o0.keep K9 nin0
  have f14 := V_o1.keep K9 nin0
  have Z9 : n0 ≤ T9.heap.size := Nat.le_trans Z0 K9.1
  have KK9 := K0.trans K9 all0
  have g_b_9 := qp9_0
  have sz_b_9 := Nat.le_trans K0.1 qp9_1
  have ne_o0_b_9 : o0 ≠ b_9 := Nat.ne_of_lt (Nat.lt_of_lt_of_le E_o0.lt qp9_1)
  have ne_o1_b_9 : o1 ≠ b_9 := Nat.ne_of_lt (Nat.lt_of_lt_of_le V_o1.lt qp9_1)
  have go15 := go8.st T9 (mkF m 45 #[vR o0, vR o1, vI i0, vI ((19 : Int32)), .val .null, vR b_9] [(sI (19 : Int32)), sR b_9, sR o0]) (fun t k => by
    refine st9 _ ?_
    show SP p e below T9 (mkF m 39 #[vR o0, vR o1, vI i0, vI ((19 : Int32)), .val .null, uu] [sR b_9]) _
    refine XS.astore X9.here hx rfl (hb hby d5_39) rfl rfl (l' := #[vR o0, vR o1, vI i0, vI ((19 : Int32)), .val .null, vR b_9]) rfl ?_
    refine XS.aloadN X9.here hx rfl (hb hby d5_41) rfl rfl ?_
    refine XS.aload X9.here hx rfl (hb hby d5_42) rfl rfl ?_
    refine XS.iloadN X9.here hx rfl (hb hby d5_44) rfl ?_
    exact k)
  obtain ⟨_, _, ⟨T16, L16, k16, n16⟩, -, X16, ⟨Lc16, hQ16, l16, y16, z16⟩, st16⟩ := Jvm.LawKit.callS X9 hx (y := yN11) hown (mvT hZ (wD hw 53 rfl)) (mvT hZ (wD hw 54 rfl)) (mvT hZ (wD hw 47 rfl)) (mvT hZ (wD hw 55 rfl)) (by decide) (backOf (W := 1) (rm_cfa l Z a0 hw [] b_9 kb_9 vs_9 T9.heap n0 Z9 qp9_2) hZ (wD hw 55 rfl) (wD hw 47 rfl) (by decide) (by decide)) (g := (mkF m 45 #[vR o0, vR o1, vI i0, vI ((19 : Int32)), .val .null, vR b_9] [(sI (19 : Int32)), sR b_9, sR o0])) rfl (by rw [hml]; rfl) (argsL := [(.ref b_9), (.int (19 : Int32))]) (rest := [(.ref o0)]) (lenOf pd_rm_si4_1 rfl) rfl (by show 2 * 0 + _ ≤ _; exact Nat.le_of_eq rfl) (hb hby d5_45) (fun _ _ => ⟨rfl, rfl, (by decide : 1 + 0 ≤ _), (by decide : 19 + 0 ≤ _)⟩)
  dsimp only [Pt.U, Pt.locs, Pt.cells, Pt.slots] at X16 l16 y16 z16 st16 hQ16
  rw [l16, y16, z16] at X16
  obtain ⟨rfl, N16q, e16⟩ := hQ16
  have N16 := Fr.app N9 N16q
  have go17 := go15.st T16 (mkF m 48 #[vR o0, vR o1, vI i0, vI ((19 : Int32)), .val .null, vR b_9] [sI i0, sR o0]) (fun t k => by
    refine st16 _ ?_
    exact k)
  obtain ⟨T18, h18, X18, e18, W18, st18⟩ := putFN X16 hx hZ hown (wD hw 56 rfl) Via.refl e16 f13 f11 (Or.inr ⟨(wD hw 57 rfl), rfl, hnm⟩) (wD hw 32 rfl) (ty := .byte) (v' := (.int (nar .byte (0 : Int32)))) (by decide) rfl (fits_nar_byte _) (g := (mkF m 48 #[vR o0, vR o1, vI i0, vI ((19 : Int32)), .val .null, vR b_9] [sI i0, sR o0])) rfl rfl (hb hby d5_48)
  have f19 := Old.wr f10 W18 g_o0
  have f20 := f11.wr W18
  have f21 := Fld.other W18 f12 (Or.inr (slot_ne (Or.inr (wD hw 59 rfl)) (Or.inr (wD hw 57 rfl)) (by decide) (t := (.array .byte)) (t' := .byte) (by decide) (by decide)))
  have f22 := Fld.same W18 f13
  have f23 := Arv.other qp9_2 W18 (Ne.symm ne_o0_b_9)
  have Z18 : n0 ≤ h18.size := Nat.le_trans Z9 (Nat.le_of_eq W18.size.symm)
  have K18 := KK9.wr W18 (Or.inl (List.mem_of_getElem? (i := 0) rfl))
  have N18 := Fr.snoc X18 N16 g_o0
  have fc24 : Fld Z h18 o0 "java/lang/String" "coder" "B" (.int (0 : Int32)) := by have z := f22; rw [own_n0] at z; exact z
  have go25 := go17.st T18 (mkF m 54 #[vR o0, vR o1, vI i0, vI ((19 : Int32)), .val .null, vR b_9] [sR b_9, sR o0]) (fun t k => by
    refine st18 _ ?_
    show SP p e below T18 (mkF m 51 #[vR o0, vR o1, vI i0, vI ((19 : Int32)), .val .null, vR b_9] []) _
    refine XS.aloadN X18.here hx rfl (hb hby d5_51) rfl rfl ?_
    refine XS.aload X18.here hx rfl (hb hby d5_52) rfl rfl ?_
    exact k)
  obtain ⟨T26, h26, X26, e26, W26, st26⟩ := putF X18 hx hZ hown (host := "") (Or.inl (wD hw 58 rfl)) Via.refl e18 f21 f20 (Or.inr ⟨(wD hw 59 rfl), rfl, hnm⟩) (wD hw 32 rfl) (ty := (.array .byte)) (by decide) rfl rfl (g := (mkF m 54 #[vR o0, vR o1, vI i0, vI ((19 : Int32)), .val .null, vR b_9] [sR b_9, sR o0])) rfl rfl (hb hby d5_54)
  have f27 := Old.wr f19 W26 g_o0
  have f28 := f20.wr W26
  have f29 := Fld.same W26 f21
  have f30 := Fld.other W26 fc24 (Or.inr (slot_ne (Or.inr (wD hw 57 rfl)) (Or.inr (wD hw 59 rfl)) (by decide) (t := .byte) (t' := (.array .byte)) (by decide) (by decide)))
  have f31 := Arv.other f23 W26 (Ne.symm ne_o0_b_9)
  have Z26 : n0 ≤ h26.size := Nat.le_trans Z18 (Nat.le_of_eq W26.size.symm)
  have K26 := K18.wr W26 (Or.inl (List.mem_of_getElem? (i := 0) rfl))
  have N26 := Fr.snoc X26 N18 g_o0
  have go32 := go25.st T26 (mkF m 57 #[vR o0, vR o1, vI i0, vI ((19 : Int32)), .val .null, vR b_9] []) (fun t k => by
    refine st26 _ ?_
    exact k)
  obtain ⟨fs, hr, hrun, hended, hW, hsame⟩ := X26.leave (v := none) (fun _ => rfl)
  refine ⟨_, _, go32 _ ?_, hrun, hended, _, _, rfl, ?_, ⟨_, rfl⟩, hW, hsame.mono (by decide) (by decide)⟩
  · exact X26.returnOut hx Bd.returns (hb hby d5_57) hr
  · show Q_rm_si4 Z o0 o1 cs kc us qv h0 n0 _ T26.heap _
    rw [e26]
    exact ⟨b_9, kb_9, vs_9, rfl, N26, K26, g_b_9, sz_b_9, f28, f30, f29, f31, qp9_3⟩
theorem d4_0 : decode jdk_42_method_3_code 0 = .ok (.aload_n 0, 1) := by decide +kernel
theorem d4_1 : decode jdk_42_method_3_code 1 = .ok (.aload_n 1, 1) := by decide +kernel
theorem d4_2 : decode jdk_42_method_3_code 2 = .ok (.iconst 0, 1) := by decide +kernel
theorem d4_3 : decode jdk_42_method_3_code 3 = .ok (.aload_n 1, 1) := by decide +kernel
theorem d4_4 : decode jdk_42_method_3_code 4 = .ok (.arraylength, 1) := by decide +kernel
theorem d4_5 : decode jdk_42_method_3_code 5 = .ok (.aconst_null, 1) := by decide +kernel
theorem d4_6 : decode jdk_42_method_3_code 6 = .ok (.invokespecial 27, 3) := by decide +kernel
theorem d4_9 : decode jdk_42_method_3_code 9 = .ok (.return_, 1) := by decide +kernel
theorem pn_rm_si1 : plainName "java/lang/String" = true := by first | (simp [plainName, overriddenIn]; done) | decide +kernel
theorem pd_rm_si1_0 : parseMethodDescriptor "([CIILjava/lang/Void;)V" = some ⟨[(.array .char), .int, .int, (.object "java/lang/Void")], none⟩ := by decide +kernel
theorem ef_rm_si1 (m : MethodId) (o0 : Addr) (o1 : Addr) : entryFrame m #[(.ref o0), (.ref o1)] 2 = mkF m 0 #[.val (.ref o0), .val (.ref o1)] [] := by first | (simp [entryFrame, mkF, argsToLocals, Value.category]; done) | rfl
def Q_rm_si1 (Z : State) (o0 : Addr) (o1 : Addr) (cs : Int32) (kc : ClassId) (us : List Value) (qv : Int64) (h0 : Heap) (n0 : Nat) (v : Option Value) (h : Heap) (L : List Loc) : Prop := ∃ vb : Addr, ∃ kb : ClassId, ∃ vs : List Value, v = none ∧ Fr n0 L ∧ Keep h0 h [o0] ∧ n0 ≤ vb ∧ h0.size ≤ vb ∧ Exa Z h o0 "java/lang/String" ∧ Fld Z h o0 "java/lang/String" "coder" "B" (.int (0 : Int32)) ∧ Fld Z h o0 "java/lang/String" "value" "[B" (.ref vb) ∧ Arv Z h vb kb .byte (19 : Int32) vs (.int (0 : Int32)) ∧ own_Vs vs qv
set_option maxRecDepth 65536 in
set_option maxHeartbeats 40000000 in
theorem rm_si1 (l : Launch) (Z : State) (a0 : Array Value) (hw : ∀ d ∈ tables_1, d.before a0 Z = true) (ws : List Jvm.Cond) (o0 : Addr) (o1 : Addr) (cs : Int32) (kc : ClassId) (us : List Value) (qv : Int64) (h0 : Heap) (n0 : Nat) (Z0 : n0 ≤ h0.size) (Ol : Old Z n0 h0) (S_cs : Sta Z Z.heap "java/lang/String" "COMPACT_STRINGS" "Z" (.int cs)) (hcs : ¬ cs = (0 : Int32)) (E_o0 : Exa Z h0 o0 "java/lang/String") (g_o0 : n0 ≤ o0) (F_value_o0 : Fld Z h0 o0 "java/lang/String" "value" "[B" .null) (F_coder_o0 : Fld Z h0 o0 "java/lang/String" "coder" "B" (.int (0 : Int32))) (V_o1 : Arv Z h0 o1 kc .char (19 : Int32) us (.int (0 : Int32))) (hu : own_Vs us qv) (hq : 0 ≤ qv.toInt) (ne_o0_o1 : o0 ≠ o1) :
    MetFree l yN13 (head1 (Jvm.Cond.code yN13 jdk_42_method_3_code 2 none :: ws) ({ frames := 3, cells := 1, slots := 19, locals := 52 } : Room)) (fun a U => a = #[(.ref o0), (.ref o1)] ∧ Z.Warmed39 U.vm ∧ U.heap = h0) (fun _ _ _ _ _ => True) (fun _ U o U' => ∃ v L, o = .returned v ∧ Q_rm_si1 Z o0 o1 cs kc us qv h0 n0 v U'.heap L ∧ FrameEnd U o U' L ({ frames := 3, cells := 1, slots := 19, locals := 52 } : Room).cells ({ frames := 3, cells := 1, slots := 19, locals := 52 } : Room).slots) := by
  refine MetFree.of_bodySF (plainFor_of_name pn_rm_si1) hisR ?_
  intro p e s m args below meth c s₁ Bd hml0 hP hK
  obtain ⟨rfl, hZ, hh⟩ := hP
  have hx := Bd.exec
  have hby := Bd.bytes
  have hml : c.maxLocals = 2 := hml0
  have hown : s.vm.findClass "java/lang/String" = some m.cls := findClass_of_methodNamed Bd.named
  have hnm := (name_of_methodNamed Bd.named Bd.method).1
  have X0 : Stand p l e ({ frames := 3, cells := 1, slots := 19, locals := 52 } : Room) s m #[(.ref o0), (.ref o1)] below meth c s₁ [] 0 0 := Stand.of_body Bd
  have e0 : s₁.heap = h0 := by rw [← hh, Bd.state]; rfl
  have N0 := Fr.nil n0
  have K0 := Keep.refl h0 [o0]
  have go0 : Go p e below (s₁.setTop (entryFrame m #[(.ref o0), (.ref o1)] 2)) (s₁.setTop (mkF m 0 #[vR o0, vR o1] [])) := fun t k => castTop (ef_rm_si1 m o0 o1) k
  have go1 := go0.st s₁ (mkF m 4 #[vR o0, vR o1] [sR o1, sI i0, sR o1, sR o0]) (fun t k => by
    refine XS.aloadN X0.here hx rfl (hb hby d4_0) rfl rfl ?_
    refine XS.aloadN X0.here hx rfl (hb hby d4_1) rfl rfl ?_
    refine XS.iconst X0.here hx rfl (hb hby d4_2) ?_
    refine XS.aloadN X0.here hx rfl (hb hby d4_3) rfl rfl ?_
    exact k)
  have Vo2 := V_o1
  obtain ⟨cl2, Ar2, qa2, Sa2, Na2, Ha2, Ga2⟩ := Vo2
  have go3 := go1.st s₁ (mkF m 6 #[vR o0, vR o1] [.null, (sI (19 : Int32)), sI i0, sR o1, sR o0]) (fun t k => by
    refine X0.arraylength hx (by rw [e0]; exact Ar2.1) (State.isArrayOf_alike hZ.alike Ar2.2.1) (g := (mkF m 4 #[vR o0, vR o1] [sR o1, sI i0, sR o1, sR o0])) rfl rfl (hb hby d4_4) _ ?_
    rw [len_of Sa2 Na2]
    refine XS.aconstNull X0.here hx rfl (hb hby d4_5) ?_
    exact k)
  obtain ⟨_, _, ⟨T4, L4, k4, n4⟩, -, X4, ⟨Lc4, hQ4, l4, y4, z4⟩, st4⟩ := X0.specialBack hx (y := yN12) rfl hown (mvT hZ (wD hw 37 rfl)) (mvT hZ (wD hw 38 rfl)) (mvT hZ (wD hw 40 rfl)) (by decide) (backOf (W := 0) (rm_si4 l Z a0 hw [] o0 o1 cs kc us qv h0 n0 Z0 Ol S_cs hcs E_o0 g_o0 F_value_o0 F_coder_o0 V_o1 hu hq) hZ (wD hw 40 rfl) (wD hw 33 rfl) (by decide) (by decide)) (g := (mkF m 6 #[vR o0, vR o1] [.null, (sI (19 : Int32)), sI i0, sR o1, sR o0])) rfl (by rw [hml]; rfl) (Steps.refl _) (a := o0) (argsL := [(.ref o1), (.int (0 : Int32)), (.int (19 : Int32)), .null]) (rest := []) (lenOf pd_rm_si1_0 rfl) rfl (by show 2 * 0 + _ ≤ _; exact Nat.le_of_eq rfl) (hb hby d4_6) (fun _ _ => ⟨rfl, e0, (by decide : 0 + 1 ≤ _), (by decide : 0 + 19 ≤ _)⟩)
  dsimp only [Pt.U, Pt.locs, Pt.cells, Pt.slots] at X4 l4 y4 z4 st4 hQ4
  rw [l4, y4, z4] at X4
  obtain ⟨vb_4, kb_4, vs_4, rfl, N4q, K4, qp4_0, qp4_1, qp4_2, qp4_3, qp4_4, qp4_5, qp4_6⟩ := hQ4
  have N4 := Fr.app N0 N4q
  have f5 := Old.keep Ol K4 (allS g_o0 all0)
  have f6 := E_o0.keep K4
  have f9 := V_o1.keep K4 (ninS (Ne.symm ne_o0_o1) nin0)
  have Z4 : n0 ≤ T4.heap.size := Nat.le_trans Z0 K4.1
  have KK4 := K0.trans K4 (allS (Or.inl (List.mem_of_getElem? (i := 0) rfl)) all0)
  have g_vb_4 := qp4_0
  have sz_vb_4 := Nat.le_trans K0.1 qp4_1
  have ne_o0_vb_4 : o0 ≠ vb_4 := Nat.ne_of_lt (Nat.lt_of_lt_of_le E_o0.lt qp4_1)
  have ne_o1_vb_4 : o1 ≠ vb_4 := Nat.ne_of_lt (Nat.lt_of_lt_of_le V_o1.lt qp4_1)
  have go10 := go3.st T4 (mkF m 9 #[vR o0, vR o1] []) (fun t k => by
    refine st4.trans ?_
    exact k)
  obtain ⟨fs, hr, hrun, hended, hW, hsame⟩ := X4.leave (v := none) (fun _ => rfl)
  refine ⟨_, _, go10 _ ?_, hrun, hended, _, _, rfl, ?_, ⟨_, rfl⟩, hW, hsame.mono (by decide) (by decide)⟩
  · exact X4.returnOut hx Bd.returns (hb hby d4_9) hr
  · show Q_rm_si1 Z o0 o1 cs kc us qv h0 n0 _ T4.heap _
    exact ⟨vb_4, kb_4, vs_4, rfl, N4, KK4, g_vb_4, sz_vb_4, qp4_2, qp4_3, qp4_4, qp4_5, qp4_6⟩
theorem own_cv (x : Int64) : own_Vs [(.int (nar .char (own_d x (1000000000000000000 : Int64)))), (.int (nar .char (own_d x (100000000000000000 : Int64)))), (.int (nar .char (own_d x (10000000000000000 : Int64)))), (.int (nar .char (own_d x (1000000000000000 : Int64)))), (.int (nar .char (own_d x (100000000000000 : Int64)))), (.int (nar .char (own_d x (10000000000000 : Int64)))), (.int (nar .char (own_d x (1000000000000 : Int64)))), (.int (nar .char (own_d x (100000000000 : Int64)))), (.int (nar .char (own_d x (10000000000 : Int64)))), (.int (nar .char (own_d x (1000000000 : Int64)))), (.int (nar .char (own_d x (100000000 : Int64)))), (.int (nar .char (own_d x (10000000 : Int64)))), (.int (nar .char (own_d x (1000000 : Int64)))), (.int (nar .char (own_d x (100000 : Int64)))), (.int (nar .char (own_d x (10000 : Int64)))), (.int (nar .char (own_d x (1000 : Int64)))), (.int (nar .char (own_d x (100 : Int64)))), (.int (nar .char (own_d x (10 : Int64)))), (.int (nar .char (own_d x (1 : Int64))))] x := fun j hj => by
  match j, hj with
  | 0, _ => show Value.int (nar .char (own_d x (1000000000000000000 : Int64))) = Value.int (own_d x (1000000000000000000 : Int64)); rw [own_nn]
  | 1, _ => show Value.int (nar .char (own_d x (100000000000000000 : Int64))) = Value.int (own_d x (100000000000000000 : Int64)); rw [own_nn]
  | 2, _ => show Value.int (nar .char (own_d x (10000000000000000 : Int64))) = Value.int (own_d x (10000000000000000 : Int64)); rw [own_nn]
  | 3, _ => show Value.int (nar .char (own_d x (1000000000000000 : Int64))) = Value.int (own_d x (1000000000000000 : Int64)); rw [own_nn]
  | 4, _ => show Value.int (nar .char (own_d x (100000000000000 : Int64))) = Value.int (own_d x (100000000000000 : Int64)); rw [own_nn]
  | 5, _ => show Value.int (nar .char (own_d x (10000000000000 : Int64))) = Value.int (own_d x (10000000000000 : Int64)); rw [own_nn]
  | 6, _ => show Value.int (nar .char (own_d x (1000000000000 : Int64))) = Value.int (own_d x (1000000000000 : Int64)); rw [own_nn]
  | 7, _ => show Value.int (nar .char (own_d x (100000000000 : Int64))) = Value.int (own_d x (100000000000 : Int64)); rw [own_nn]
  | 8, _ => show Value.int (nar .char (own_d x (10000000000 : Int64))) = Value.int (own_d x (10000000000 : Int64)); rw [own_nn]
  | 9, _ => show Value.int (nar .char (own_d x (1000000000 : Int64))) = Value.int (own_d x (1000000000 : Int64)); rw [own_nn]
  | 10, _ => show Value.int (nar .char (own_d x (100000000 : Int64))) = Value.int (own_d x (100000000 : Int64)); rw [own_nn]
  | 11, _ => show Value.int (nar .char (own_d x (10000000 : Int64))) = Value.int (own_d x (10000000 : Int64)); rw [own_nn]
  | 12, _ => show Value.int (nar .char (own_d x (1000000 : Int64))) = Value.int (own_d x (1000000 : Int64)); rw [own_nn]
  | 13, _ => show Value.int (nar .char (own_d x (100000 : Int64))) = Value.int (own_d x (100000 : Int64)); rw [own_nn]
  | 14, _ => show Value.int (nar .char (own_d x (10000 : Int64))) = Value.int (own_d x (10000 : Int64)); rw [own_nn]
  | 15, _ => show Value.int (nar .char (own_d x (1000 : Int64))) = Value.int (own_d x (1000 : Int64)); rw [own_nn]
  | 16, _ => show Value.int (nar .char (own_d x (100 : Int64))) = Value.int (own_d x (100 : Int64)); rw [own_nn]
  | 17, _ => show Value.int (nar .char (own_d x (10 : Int64))) = Value.int (own_d x (10 : Int64)); rw [own_nn]
  | 18, _ => show Value.int (nar .char (own_d x (1 : Int64))) = Value.int (own_d x (1 : Int64)); rw [own_nn]
  | n + 19, h => exact absurd h (by omega)
theorem d2_0 : decode method_3_code 0 = .ok (.bipush 19, 2) := by decide +kernel
theorem d2_2 : decode method_3_code 2 = .ok (.newarray .char, 2) := by decide +kernel
theorem d2_4 : decode method_3_code 4 = .ok (.astore_n 2, 1) := by decide +kernel
theorem d2_5 : decode method_3_code 5 = .ok (.aload_n 2, 1) := by decide +kernel
theorem d2_6 : decode method_3_code 6 = .ok (.iconst 0, 1) := by decide +kernel
theorem d2_7 : decode method_3_code 7 = .ok (.lload_n 0, 1) := by decide +kernel
theorem d2_8 : decode method_3_code 8 = .ok (.ldc2_w 9, 3) := by decide +kernel
theorem d2_11 : decode method_3_code 11 = .ok (.invokestatic 11, 3) := by decide +kernel
theorem d2_14 : decode method_3_code 14 = .ok (.castore, 1) := by decide +kernel
theorem d2_15 : decode method_3_code 15 = .ok (.aload_n 2, 1) := by decide +kernel
theorem d2_16 : decode method_3_code 16 = .ok (.iconst 1, 1) := by decide +kernel
theorem d2_17 : decode method_3_code 17 = .ok (.lload_n 0, 1) := by decide +kernel
theorem d2_18 : decode method_3_code 18 = .ok (.ldc2_w 17, 3) := by decide +kernel
theorem d2_21 : decode method_3_code 21 = .ok (.invokestatic 11, 3) := by decide +kernel
theorem d2_24 : decode method_3_code 24 = .ok (.castore, 1) := by decide +kernel
theorem d2_25 : decode method_3_code 25 = .ok (.aload_n 2, 1) := by decide +kernel
theorem d2_26 : decode method_3_code 26 = .ok (.iconst 2, 1) := by decide +kernel
theorem d2_27 : decode method_3_code 27 = .ok (.lload_n 0, 1) := by decide +kernel
theorem d2_28 : decode method_3_code 28 = .ok (.ldc2_w 19, 3) := by decide +kernel
theorem d2_31 : decode method_3_code 31 = .ok (.invokestatic 11, 3) := by decide +kernel
theorem d2_34 : decode method_3_code 34 = .ok (.castore, 1) := by decide +kernel
theorem d2_35 : decode method_3_code 35 = .ok (.aload_n 2, 1) := by decide +kernel
theorem d2_36 : decode method_3_code 36 = .ok (.iconst 3, 1) := by decide +kernel
theorem d2_37 : decode method_3_code 37 = .ok (.lload_n 0, 1) := by decide +kernel
theorem d2_38 : decode method_3_code 38 = .ok (.ldc2_w 21, 3) := by decide +kernel
theorem d2_41 : decode method_3_code 41 = .ok (.invokestatic 11, 3) := by decide +kernel
theorem d2_44 : decode method_3_code 44 = .ok (.castore, 1) := by decide +kernel
theorem d2_45 : decode method_3_code 45 = .ok (.aload_n 2, 1) := by decide +kernel
theorem d2_46 : decode method_3_code 46 = .ok (.iconst 4, 1) := by decide +kernel
theorem d2_47 : decode method_3_code 47 = .ok (.lload_n 0, 1) := by decide +kernel
theorem d2_48 : decode method_3_code 48 = .ok (.ldc2_w 23, 3) := by decide +kernel
theorem d2_51 : decode method_3_code 51 = .ok (.invokestatic 11, 3) := by decide +kernel
theorem d2_54 : decode method_3_code 54 = .ok (.castore, 1) := by decide +kernel
theorem d2_55 : decode method_3_code 55 = .ok (.aload_n 2, 1) := by decide +kernel
theorem d2_56 : decode method_3_code 56 = .ok (.iconst 5, 1) := by decide +kernel
theorem d2_57 : decode method_3_code 57 = .ok (.lload_n 0, 1) := by decide +kernel
theorem d2_58 : decode method_3_code 58 = .ok (.ldc2_w 25, 3) := by decide +kernel
theorem d2_61 : decode method_3_code 61 = .ok (.invokestatic 11, 3) := by decide +kernel
theorem d2_64 : decode method_3_code 64 = .ok (.castore, 1) := by decide +kernel
theorem d2_65 : decode method_3_code 65 = .ok (.aload_n 2, 1) := by decide +kernel
theorem d2_66 : decode method_3_code 66 = .ok (.bipush 6, 2) := by decide +kernel
theorem d2_68 : decode method_3_code 68 = .ok (.lload_n 0, 1) := by decide +kernel
theorem d2_69 : decode method_3_code 69 = .ok (.ldc2_w 27, 3) := by decide +kernel
theorem d2_72 : decode method_3_code 72 = .ok (.invokestatic 11, 3) := by decide +kernel
theorem d2_75 : decode method_3_code 75 = .ok (.castore, 1) := by decide +kernel
theorem d2_76 : decode method_3_code 76 = .ok (.aload_n 2, 1) := by decide +kernel
theorem d2_77 : decode method_3_code 77 = .ok (.bipush 7, 2) := by decide +kernel
theorem d2_79 : decode method_3_code 79 = .ok (.lload_n 0, 1) := by decide +kernel
theorem d2_80 : decode method_3_code 80 = .ok (.ldc2_w 29, 3) := by decide +kernel
theorem d2_83 : decode method_3_code 83 = .ok (.invokestatic 11, 3) := by decide +kernel
theorem d2_86 : decode method_3_code 86 = .ok (.castore, 1) := by decide +kernel
theorem d2_87 : decode method_3_code 87 = .ok (.aload_n 2, 1) := by decide +kernel
theorem d2_88 : decode method_3_code 88 = .ok (.bipush 8, 2) := by decide +kernel
theorem d2_90 : decode method_3_code 90 = .ok (.lload_n 0, 1) := by decide +kernel
theorem d2_91 : decode method_3_code 91 = .ok (.ldc2_w 31, 3) := by decide +kernel
theorem d2_94 : decode method_3_code 94 = .ok (.invokestatic 11, 3) := by decide +kernel
theorem d2_97 : decode method_3_code 97 = .ok (.castore, 1) := by decide +kernel
theorem d2_98 : decode method_3_code 98 = .ok (.aload_n 2, 1) := by decide +kernel
theorem d2_99 : decode method_3_code 99 = .ok (.bipush 9, 2) := by decide +kernel
theorem d2_101 : decode method_3_code 101 = .ok (.lload_n 0, 1) := by decide +kernel
theorem d2_102 : decode method_3_code 102 = .ok (.ldc2_w 33, 3) := by decide +kernel
theorem d2_105 : decode method_3_code 105 = .ok (.invokestatic 11, 3) := by decide +kernel
theorem d2_108 : decode method_3_code 108 = .ok (.castore, 1) := by decide +kernel
theorem d2_109 : decode method_3_code 109 = .ok (.aload_n 2, 1) := by decide +kernel
theorem d2_110 : decode method_3_code 110 = .ok (.bipush 10, 2) := by decide +kernel
theorem d2_112 : decode method_3_code 112 = .ok (.lload_n 0, 1) := by decide +kernel
theorem d2_113 : decode method_3_code 113 = .ok (.ldc2_w 35, 3) := by decide +kernel
theorem d2_116 : decode method_3_code 116 = .ok (.invokestatic 11, 3) := by decide +kernel
theorem d2_119 : decode method_3_code 119 = .ok (.castore, 1) := by decide +kernel
theorem d2_120 : decode method_3_code 120 = .ok (.aload_n 2, 1) := by decide +kernel
theorem d2_121 : decode method_3_code 121 = .ok (.bipush 11, 2) := by decide +kernel
theorem d2_123 : decode method_3_code 123 = .ok (.lload_n 0, 1) := by decide +kernel
theorem d2_124 : decode method_3_code 124 = .ok (.ldc2_w 37, 3) := by decide +kernel
theorem d2_127 : decode method_3_code 127 = .ok (.invokestatic 11, 3) := by decide +kernel
theorem d2_130 : decode method_3_code 130 = .ok (.castore, 1) := by decide +kernel
theorem d2_131 : decode method_3_code 131 = .ok (.aload_n 2, 1) := by decide +kernel
theorem d2_132 : decode method_3_code 132 = .ok (.bipush 12, 2) := by decide +kernel
theorem d2_134 : decode method_3_code 134 = .ok (.lload_n 0, 1) := by decide +kernel
theorem d2_135 : decode method_3_code 135 = .ok (.ldc2_w 39, 3) := by decide +kernel
theorem d2_138 : decode method_3_code 138 = .ok (.invokestatic 11, 3) := by decide +kernel
theorem d2_141 : decode method_3_code 141 = .ok (.castore, 1) := by decide +kernel
theorem d2_142 : decode method_3_code 142 = .ok (.aload_n 2, 1) := by decide +kernel
theorem d2_143 : decode method_3_code 143 = .ok (.bipush 13, 2) := by decide +kernel
theorem d2_145 : decode method_3_code 145 = .ok (.lload_n 0, 1) := by decide +kernel
theorem d2_146 : decode method_3_code 146 = .ok (.ldc2_w 41, 3) := by decide +kernel
theorem d2_149 : decode method_3_code 149 = .ok (.invokestatic 11, 3) := by decide +kernel
theorem d2_152 : decode method_3_code 152 = .ok (.castore, 1) := by decide +kernel
theorem d2_153 : decode method_3_code 153 = .ok (.aload_n 2, 1) := by decide +kernel
theorem d2_154 : decode method_3_code 154 = .ok (.bipush 14, 2) := by decide +kernel
theorem d2_156 : decode method_3_code 156 = .ok (.lload_n 0, 1) := by decide +kernel
theorem d2_157 : decode method_3_code 157 = .ok (.ldc2_w 43, 3) := by decide +kernel
theorem d2_160 : decode method_3_code 160 = .ok (.invokestatic 11, 3) := by decide +kernel
theorem d2_163 : decode method_3_code 163 = .ok (.castore, 1) := by decide +kernel
theorem d2_164 : decode method_3_code 164 = .ok (.aload_n 2, 1) := by decide +kernel
theorem d2_165 : decode method_3_code 165 = .ok (.bipush 15, 2) := by decide +kernel
theorem d2_167 : decode method_3_code 167 = .ok (.lload_n 0, 1) := by decide +kernel
theorem d2_168 : decode method_3_code 168 = .ok (.ldc2_w 45, 3) := by decide +kernel
theorem d2_171 : decode method_3_code 171 = .ok (.invokestatic 11, 3) := by decide +kernel
theorem d2_174 : decode method_3_code 174 = .ok (.castore, 1) := by decide +kernel
theorem d2_175 : decode method_3_code 175 = .ok (.aload_n 2, 1) := by decide +kernel
theorem d2_176 : decode method_3_code 176 = .ok (.bipush 16, 2) := by decide +kernel
theorem d2_178 : decode method_3_code 178 = .ok (.lload_n 0, 1) := by decide +kernel
theorem d2_179 : decode method_3_code 179 = .ok (.ldc2_w 47, 3) := by decide +kernel
theorem d2_182 : decode method_3_code 182 = .ok (.invokestatic 11, 3) := by decide +kernel
theorem d2_185 : decode method_3_code 185 = .ok (.castore, 1) := by decide +kernel
theorem d2_186 : decode method_3_code 186 = .ok (.aload_n 2, 1) := by decide +kernel
theorem d2_187 : decode method_3_code 187 = .ok (.bipush 17, 2) := by decide +kernel
theorem d2_189 : decode method_3_code 189 = .ok (.lload_n 0, 1) := by decide +kernel
theorem d2_190 : decode method_3_code 190 = .ok (.ldc2_w 7, 3) := by decide +kernel
theorem d2_193 : decode method_3_code 193 = .ok (.invokestatic 11, 3) := by decide +kernel
theorem d2_196 : decode method_3_code 196 = .ok (.castore, 1) := by decide +kernel
theorem d2_197 : decode method_3_code 197 = .ok (.aload_n 2, 1) := by decide +kernel
theorem d2_198 : decode method_3_code 198 = .ok (.bipush 18, 2) := by decide +kernel
theorem d2_200 : decode method_3_code 200 = .ok (.lload_n 0, 1) := by decide +kernel
theorem d2_201 : decode method_3_code 201 = .ok (.lconst 1, 1) := by decide +kernel
theorem d2_202 : decode method_3_code 202 = .ok (.invokestatic 11, 3) := by decide +kernel
theorem d2_205 : decode method_3_code 205 = .ok (.castore, 1) := by decide +kernel
theorem d2_206 : decode method_3_code 206 = .ok (.new 49, 3) := by decide +kernel
theorem d2_209 : decode method_3_code 209 = .ok (.dup, 1) := by decide +kernel
theorem d2_210 : decode method_3_code 210 = .ok (.aload_n 2, 1) := by decide +kernel
theorem d2_211 : decode method_3_code 211 = .ok (.invokespecial 51, 3) := by decide +kernel
theorem d2_214 : decode method_3_code 214 = .ok (.areturn, 1) := by decide +kernel
theorem pn_rm_text : plainName "com/example/equipoise/equipoise/BuilderDepartPinLaw" = true := by first | (simp [plainName, overriddenIn]; done) | decide +kernel
theorem pd_rm_text_0 : parseMethodDescriptor "(JJ)C" = some ⟨[.long, .long], some .char⟩ := by decide +kernel
theorem pd_rm_text_1 : parseMethodDescriptor "([C)V" = some ⟨[(.array .char)], none⟩ := by decide +kernel
theorem ef_rm_text (m : MethodId) (q0 : Int64) : entryFrame m #[(.long q0)] 3 = mkF m 0 #[.val (.long q0), .second, uu] [] := by first | (simp [entryFrame, mkF, argsToLocals, Value.category]; done) | rfl
def Q_rm_text (Z : State) (q0 : Int64) (cs : Int32) (h0 : Heap) (n0 : Nat) (v : Option Value) (h : Heap) (L : List Loc) : Prop := ∃ b : Addr, ∃ vb : Addr, ∃ kb : ClassId, ∃ vs : List Value, v = some (.ref b) ∧ Fr n0 L ∧ Keep h0 h [] ∧ n0 ≤ b ∧ h0.size ≤ b ∧ n0 ≤ vb ∧ h0.size ≤ vb ∧ Exa Z h b "java/lang/String" ∧ Fld Z h b "java/lang/String" "coder" "B" (.int (0 : Int32)) ∧ Fld Z h b "java/lang/String" "value" "[B" (.ref vb) ∧ Arv Z h vb kb .byte (19 : Int32) vs (.int (0 : Int32)) ∧ own_Vs vs q0
set_option maxRecDepth 65536 in
set_option maxHeartbeats 40000000 in
theorem rm_text (l : Launch) (Z : State) (a0 : Array Value) (hw : ∀ d ∈ tables_1, d.before a0 Z = true) (ws : List Jvm.Cond) (q0 : Int64) (cs : Int32) (h0 : Heap) (n0 : Nat) (Z0 : n0 ≤ h0.size) (Ol : Old Z n0 h0) (S_cs : Sta Z Z.heap "java/lang/String" "COMPACT_STRINGS" "Z" (.int cs)) (hcs : ¬ cs = (0 : Int32)) (hq : 0 ≤ q0.toInt) :
    MetFree l yN14 (head1 (Jvm.Cond.code yN14 method_3_code 3 (some (.object "java/lang/String")) :: ws) ({ frames := 4, cells := 3, slots := 42, locals := 66 } : Room)) (fun a U => a = #[(.long q0)] ∧ Z.Warmed39 U.vm ∧ U.heap = h0) (fun _ _ _ _ _ => True) (fun _ U o U' => ∃ v L, o = .returned v ∧ Q_rm_text Z q0 cs h0 n0 v U'.heap L ∧ FrameEnd U o U' L ({ frames := 4, cells := 3, slots := 42, locals := 66 } : Room).cells ({ frames := 4, cells := 3, slots := 42, locals := 66 } : Room).slots) := by
  refine MetFree.of_bodySF (plainFor_of_name pn_rm_text) hisR ?_
  intro p e s m args below meth c s₁ Bd hml0 hP hK
  obtain ⟨rfl, hZ, hh⟩ := hP
  have hx := Bd.exec
  have hby := Bd.bytes
  have hml : c.maxLocals = 3 := hml0
  have hown : s.vm.findClass "com/example/equipoise/equipoise/BuilderDepartPinLaw" = some m.cls := findClass_of_methodNamed Bd.named
  have hnm := (name_of_methodNamed Bd.named Bd.method).1
  have X0 : Stand p l e ({ frames := 4, cells := 3, slots := 42, locals := 66 } : Room) s m #[(.long q0)] below meth c s₁ [] 0 0 := Stand.of_body Bd
  have e0 : s₁.heap = h0 := by rw [← hh, Bd.state]; rfl
  have N0 := Fr.nil n0
  have K0 := Keep.refl h0 []
  have go0 : Go p e below (s₁.setTop (entryFrame m #[(.long q0)] 3)) (s₁.setTop (mkF m 0 #[vJ q0, sc, uu] [])) := fun t k => castTop (ef_rm_text m q0) k
  have go1 := go0.st s₁ (mkF m 2 #[vJ q0, sc, uu] [(sI (19 : Int32))]) (fun t k => by
    refine XS.bipush X0.here hx rfl (hb hby d2_0) ?_
    exact k)
  obtain ⟨T2, h2, k2, X2, e2, E2, A2, st2⟩ := newP X0 hx hZ (wD hw 9 rfl) e0 (g := (mkF m 2 #[vJ q0, sc, uu] [(sI (19 : Int32))])) rfl (hb hby d2_2) rfl (by decide) (cap := 19) (by decide) (by decide) (by decide) (by decide)
  obtain ⟨b2, g2⟩ : ∃ z, z = h0.size := ⟨_, rfl⟩
  rw [← g2] at A2 st2
  have g_b2 : n0 ≤ b2 := Nat.le_trans Z0 (Nat.le_of_eq g2.symm)
  have sz_b2 : h0.size ≤ b2 := Nat.le_trans K0.1 (Nat.le_of_eq g2.symm)
  have f3 := Old.ext Ol E2
  have V2 : Arv Z h2 b2 k2 .char (19 : Int32) [(.int (0 : Int32)), (.int (0 : Int32)), (.int (0 : Int32)), (.int (0 : Int32)), (.int (0 : Int32)), (.int (0 : Int32)), (.int (0 : Int32)), (.int (0 : Int32)), (.int (0 : Int32)), (.int (0 : Int32)), (.int (0 : Int32)), (.int (0 : Int32)), (.int (0 : Int32)), (.int (0 : Int32)), (.int (0 : Int32)), (.int (0 : Int32)), (.int (0 : Int32)), (.int (0 : Int32)), (.int (0 : Int32))] (.int (0 : Int32)) := (Arv.new A2 (by decide)).pad (pad_rep [] (.int (0 : Int32)) 19)
  have Z2 : n0 ≤ h2.size := Nat.le_trans Z0 E2.1
  have K2 := K0.ext E2
  have go4 := go1.st T2 (mkF m 11 #[vJ q0, sc, vR b2] [(sJ (1000000000000000000 : Int64)), sJ q0, sI i0, sR b2]) (fun t k => by
    refine st2 _ ?_
    show SP p e below T2 (mkF m 4 #[vJ q0, sc, uu] [sR b2]) _
    refine XS.astoreN X2.here hx rfl (hb hby d2_4) rfl rfl (l' := #[vJ q0, sc, vR b2]) rfl ?_
    refine XS.aloadN X2.here hx rfl (hb hby d2_5) rfl rfl ?_
    refine XS.iconst X2.here hx rfl (hb hby d2_6) ?_
    refine XS.lloadN X2.here hx rfl (hb hby d2_7) rfl ?_
    refine X2.ldc2Long hx hown (mvT hZ (wD hw 10 rfl)) (g := (mkF m 8 #[vJ q0, sc, vR b2] [sJ q0, sI i0, sR b2])) rfl (hb hby d2_8) _ ?_
    exact k)
  obtain ⟨_, _, ⟨T5, L5, k5, n5⟩, -, X5, ⟨Lc5, hQ5, l5, y5, z5⟩, st5⟩ := Jvm.LawKit.callS X2 hx (y := yN8) hown (mvT hZ (wD hw 11 rfl)) (mvT hZ (wD hw 12 rfl)) (mvT hZ (wD hw 7 rfl)) (mvT hZ (wD hw 13 rfl)) (by decide) (backOf (W := 2) (rm_d l Z a0 hw [] q0 (1000000000000000000 : Int64) h2 n0 Z2 (by decide)) hZ (wD hw 13 rfl) (wD hw 7 rfl) (by decide) (by decide)) (g := (mkF m 11 #[vJ q0, sc, vR b2] [(sJ (1000000000000000000 : Int64)), sJ q0, sI i0, sR b2])) rfl (by rw [hml]; rfl) (argsL := [(.long q0), (.long (1000000000000000000 : Int64))]) (rest := [(.int (0 : Int32)), (.ref b2)]) (lenOf pd_rm_text_0 rfl) rfl (by show 2 * 0 + _ ≤ _; exact Nat.le_of_eq rfl) (hb hby d2_11) (fun _ _ => ⟨rfl, e2, (by decide : 1 + 0 ≤ _), (by decide : 19 + 0 ≤ _)⟩)
  dsimp only [Pt.U, Pt.locs, Pt.cells, Pt.slots] at X5 l5 y5 z5 st5 hQ5
  rw [l5, y5, z5] at X5
  obtain ⟨rfl, N5q, e5⟩ := hQ5
  have N5 := Fr.app N0 N5q
  have go6 := go4.st T5 (mkF m 14 #[vJ q0, sc, vR b2] [(sI (own_d q0 (1000000000000000000 : Int64))), sI i0, sR b2]) (fun t k => by
    refine st5 _ ?_
    exact k)
  have Vo7 := V2
  obtain ⟨cl7, Ar7, qa7, Sa7, Na7, Ha7, Ga7⟩ := Vo7
  have hin7 := inb_of (j := (0 : Int32)) Sa7 ⟨by decide, by decide⟩
  obtain ⟨T8, h8, X8, e8, W8, st8⟩ := stC X5 hx hZ e5 Ar7 (j := (0 : Int32)) hin7 (g := (mkF m 14 #[vJ q0, sc, vR b2] [(sI (own_d q0 (1000000000000000000 : Int64))), sI i0, sR b2])) rfl rfl (hb hby d2_14)
  have V8 : Arv Z h8 b2 k2 .char (19 : Int32) [(.int (nar .char (own_d q0 (1000000000000000000 : Int64)))), (.int (0 : Int32)), (.int (0 : Int32)), (.int (0 : Int32)), (.int (0 : Int32)), (.int (0 : Int32)), (.int (0 : Int32)), (.int (0 : Int32)), (.int (0 : Int32)), (.int (0 : Int32)), (.int (0 : Int32)), (.int (0 : Int32)), (.int (0 : Int32)), (.int (0 : Int32)), (.int (0 : Int32)), (.int (0 : Int32)), (.int (0 : Int32)), (.int (0 : Int32)), (.int (0 : Int32))] (.int (0 : Int32)) := Arv.set Ar7 qa7 Sa7 Na7 Ha7 Ga7 (fits_nar_char _) W8 0 rfl (Nat.le_of_ble_eq_true rfl)
  have f9 := Old.wr f3 W8 g_b2
  have Z8 : n0 ≤ h8.size := Nat.le_trans Z2 (Nat.le_of_eq W8.size.symm)
  have K8 := K2.wr W8 (Or.inr sz_b2)
  have N8 := Fr.snoc X8 N5 g_b2
  have go11 := go6.st T8 (mkF m 21 #[vJ q0, sc, vR b2] [(sJ (100000000000000000 : Int64)), sJ q0, sI i1, sR b2]) (fun t k => by
    refine st8 _ ?_
    show SP p e below T8 (mkF m 15 #[vJ q0, sc, vR b2] []) _
    refine XS.aloadN X8.here hx rfl (hb hby d2_15) rfl rfl ?_
    refine XS.iconst X8.here hx rfl (hb hby d2_16) ?_
    refine XS.lloadN X8.here hx rfl (hb hby d2_17) rfl ?_
    refine X8.ldc2Long hx hown (mvT hZ (wD hw 15 rfl)) (g := (mkF m 18 #[vJ q0, sc, vR b2] [sJ q0, sI i1, sR b2])) rfl (hb hby d2_18) _ ?_
    exact k)
  obtain ⟨_, _, ⟨T12, L12, k12, n12⟩, -, X12, ⟨Lc12, hQ12, l12, y12, z12⟩, st12⟩ := Jvm.LawKit.callS X8 hx (y := yN8) hown (mvT hZ (wD hw 11 rfl)) (mvT hZ (wD hw 12 rfl)) (mvT hZ (wD hw 7 rfl)) (mvT hZ (wD hw 13 rfl)) (by decide) (backOf (W := 2) (rm_d l Z a0 hw [] q0 (100000000000000000 : Int64) h8 n0 Z8 (by decide)) hZ (wD hw 13 rfl) (wD hw 7 rfl) (by decide) (by decide)) (g := (mkF m 21 #[vJ q0, sc, vR b2] [(sJ (100000000000000000 : Int64)), sJ q0, sI i1, sR b2])) rfl (by rw [hml]; rfl) (argsL := [(.long q0), (.long (100000000000000000 : Int64))]) (rest := [(.int (1 : Int32)), (.ref b2)]) (lenOf pd_rm_text_0 rfl) rfl (by show 2 * 0 + _ ≤ _; exact Nat.le_of_eq rfl) (hb hby d2_21) (fun _ _ => ⟨rfl, e8, (by decide : 1 + 0 ≤ _), (by decide : 19 + 0 ≤ _)⟩)
  dsimp only [Pt.U, Pt.locs, Pt.cells, Pt.slots] at X12 l12 y12 z12 st12 hQ12
  rw [l12, y12, z12] at X12
  obtain ⟨rfl, N12q, e12⟩ := hQ12
  have N12 := Fr.app N8 N12q
  have go13 := go11.st T12 (mkF m 24 #[vJ q0, sc, vR b2] [(sI (own_d q0 (100000000000000000 : Int64))), sI i1, sR b2]) (fun t k => by
    refine st12 _ ?_
    exact k)
  have Vo14 := V8
  obtain ⟨cl14, Ar14, qa14, Sa14, Na14, Ha14, Ga14⟩ := Vo14
  have hin14 := inb_of (j := (1 : Int32)) Sa14 ⟨by decide, by decide⟩
  obtain ⟨T15, h15, X15, e15, W15, st15⟩ := stC X12 hx hZ e12 Ar14 (j := (1 : Int32)) hin14 (g := (mkF m 24 #[vJ q0, sc, vR b2] [(sI (own_d q0 (100000000000000000 : Int64))), sI i1, sR b2])) rfl rfl (hb hby d2_24)
  have V15 : Arv Z h15 b2 k2 .char (19 : Int32) [(.int (nar .char (own_d q0 (1000000000000000000 : Int64)))), (.int (nar .char (own_d q0 (100000000000000000 : Int64)))), (.int (0 : Int32)), (.int (0 : Int32)), (.int (0 : Int32)), (.int (0 : Int32)), (.int (0 : Int32)), (.int (0 : Int32)), (.int (0 : Int32)), (.int (0 : Int32)), (.int (0 : Int32)), (.int (0 : Int32)), (.int (0 : Int32)), (.int (0 : Int32)), (.int (0 : Int32)), (.int (0 : Int32)), (.int (0 : Int32)), (.int (0 : Int32)), (.int (0 : Int32))] (.int (0 : Int32)) := Arv.set Ar14 qa14 Sa14 Na14 Ha14 Ga14 (fits_nar_char _) W15 1 rfl (Nat.le_of_ble_eq_true rfl)
  have f16 := Old.wr f9 W15 g_b2
  have Z15 : n0 ≤ h15.size := Nat.le_trans Z8 (Nat.le_of_eq W15.size.symm)
  have K15 := K8.wr W15 (Or.inr sz_b2)
  have N15 := Fr.snoc X15 N12 g_b2
  have go18 := go13.st T15 (mkF m 31 #[vJ q0, sc, vR b2] [(sJ (10000000000000000 : Int64)), sJ q0, sI i2, sR b2]) (fun t k => by
    refine st15 _ ?_
    show SP p e below T15 (mkF m 25 #[vJ q0, sc, vR b2] []) _
    refine XS.aloadN X15.here hx rfl (hb hby d2_25) rfl rfl ?_
    refine XS.iconst X15.here hx rfl (hb hby d2_26) ?_
    refine XS.lloadN X15.here hx rfl (hb hby d2_27) rfl ?_
    refine X15.ldc2Long hx hown (mvT hZ (wD hw 16 rfl)) (g := (mkF m 28 #[vJ q0, sc, vR b2] [sJ q0, sI i2, sR b2])) rfl (hb hby d2_28) _ ?_
    exact k)
  obtain ⟨_, _, ⟨T19, L19, k19, n19⟩, -, X19, ⟨Lc19, hQ19, l19, y19, z19⟩, st19⟩ := Jvm.LawKit.callS X15 hx (y := yN8) hown (mvT hZ (wD hw 11 rfl)) (mvT hZ (wD hw 12 rfl)) (mvT hZ (wD hw 7 rfl)) (mvT hZ (wD hw 13 rfl)) (by decide) (backOf (W := 2) (rm_d l Z a0 hw [] q0 (10000000000000000 : Int64) h15 n0 Z15 (by decide)) hZ (wD hw 13 rfl) (wD hw 7 rfl) (by decide) (by decide)) (g := (mkF m 31 #[vJ q0, sc, vR b2] [(sJ (10000000000000000 : Int64)), sJ q0, sI i2, sR b2])) rfl (by rw [hml]; rfl) (argsL := [(.long q0), (.long (10000000000000000 : Int64))]) (rest := [(.int (2 : Int32)), (.ref b2)]) (lenOf pd_rm_text_0 rfl) rfl (by show 2 * 0 + _ ≤ _; exact Nat.le_of_eq rfl) (hb hby d2_31) (fun _ _ => ⟨rfl, e15, (by decide : 1 + 0 ≤ _), (by decide : 19 + 0 ≤ _)⟩)
  dsimp only [Pt.U, Pt.locs, Pt.cells, Pt.slots] at X19 l19 y19 z19 st19 hQ19
  rw [l19, y19, z19] at X19
  obtain ⟨rfl, N19q, e19⟩ := hQ19
  have N19 := Fr.app N15 N19q
  have go20 := go18.st T19 (mkF m 34 #[vJ q0, sc, vR b2] [(sI (own_d q0 (10000000000000000 : Int64))), sI i2, sR b2]) (fun t k => by
    refine st19 _ ?_
    exact k)
  have Vo21 := V15
  obtain ⟨cl21, Ar21, qa21, Sa21, Na21, Ha21, Ga21⟩ := Vo21
  have hin21 := inb_of (j := (2 : Int32)) Sa21 ⟨by decide, by decide⟩
  obtain ⟨T22, h22, X22, e22, W22, st22⟩ := stC X19 hx hZ e19 Ar21 (j := (2 : Int32)) hin21 (g := (mkF m 34 #[vJ q0, sc, vR b2] [(sI (own_d q0 (10000000000000000 : Int64))), sI i2, sR b2])) rfl rfl (hb hby d2_34)
  have V22 : Arv Z h22 b2 k2 .char (19 : Int32) [(.int (nar .char (own_d q0 (1000000000000000000 : Int64)))), (.int (nar .char (own_d q0 (100000000000000000 : Int64)))), (.int (nar .char (own_d q0 (10000000000000000 : Int64)))), (.int (0 : Int32)), (.int (0 : Int32)), (.int (0 : Int32)), (.int (0 : Int32)), (.int (0 : Int32)), (.int (0 : Int32)), (.int (0 : Int32)), (.int (0 : Int32)), (.int (0 : Int32)), (.int (0 : Int32)), (.int (0 : Int32)), (.int (0 : Int32)), (.int (0 : Int32)), (.int (0 : Int32)), (.int (0 : Int32)), (.int (0 : Int32))] (.int (0 : Int32)) := Arv.set Ar21 qa21 Sa21 Na21 Ha21 Ga21 (fits_nar_char _) W22 2 rfl (Nat.le_of_ble_eq_true rfl)
  have f23 := Old.wr f16 W22 g_b2
  have Z22 : n0 ≤ h22.size := Nat.le_trans Z15 (Nat.le_of_eq W22.size.symm)
  have K22 := K15.wr W22 (Or.inr sz_b2)
  have N22 := Fr.snoc X22 N19 g_b2
  have go25 := go20.st T22 (mkF m 41 #[vJ q0, sc, vR b2] [(sJ (1000000000000000 : Int64)), sJ q0, (sI (3 : Int32)), sR b2]) (fun t k => by
    refine st22 _ ?_
    show SP p e below T22 (mkF m 35 #[vJ q0, sc, vR b2] []) _
    refine XS.aloadN X22.here hx rfl (hb hby d2_35) rfl rfl ?_
    refine XS.iconst X22.here hx rfl (hb hby d2_36) ?_
    refine XS.lloadN X22.here hx rfl (hb hby d2_37) rfl ?_
    refine X22.ldc2Long hx hown (mvT hZ (wD hw 17 rfl)) (g := (mkF m 38 #[vJ q0, sc, vR b2] [sJ q0, (sI (3 : Int32)), sR b2])) rfl (hb hby d2_38) _ ?_
    exact k)
  obtain ⟨_, _, ⟨T26, L26, k26, n26⟩, -, X26, ⟨Lc26, hQ26, l26, y26, z26⟩, st26⟩ := Jvm.LawKit.callS X22 hx (y := yN8) hown (mvT hZ (wD hw 11 rfl)) (mvT hZ (wD hw 12 rfl)) (mvT hZ (wD hw 7 rfl)) (mvT hZ (wD hw 13 rfl)) (by decide) (backOf (W := 2) (rm_d l Z a0 hw [] q0 (1000000000000000 : Int64) h22 n0 Z22 (by decide)) hZ (wD hw 13 rfl) (wD hw 7 rfl) (by decide) (by decide)) (g := (mkF m 41 #[vJ q0, sc, vR b2] [(sJ (1000000000000000 : Int64)), sJ q0, (sI (3 : Int32)), sR b2])) rfl (by rw [hml]; rfl) (argsL := [(.long q0), (.long (1000000000000000 : Int64))]) (rest := [(.int (3 : Int32)), (.ref b2)]) (lenOf pd_rm_text_0 rfl) rfl (by show 2 * 0 + _ ≤ _; exact Nat.le_of_eq rfl) (hb hby d2_41) (fun _ _ => ⟨rfl, e22, (by decide : 1 + 0 ≤ _), (by decide : 19 + 0 ≤ _)⟩)
  dsimp only [Pt.U, Pt.locs, Pt.cells, Pt.slots] at X26 l26 y26 z26 st26 hQ26
  rw [l26, y26, z26] at X26
  obtain ⟨rfl, N26q, e26⟩ := hQ26
  have N26 := Fr.app N22 N26q
  have go27 := go25.st T26 (mkF m 44 #[vJ q0, sc, vR b2] [(sI (own_d q0 (1000000000000000 : Int64))), (sI (3 : Int32)), sR b2]) (fun t k => by
    refine st26 _ ?_
    exact k)
  have Vo28 := V22
  obtain ⟨cl28, Ar28, qa28, Sa28, Na28, Ha28, Ga28⟩ := Vo28
  have hin28 := inb_of (j := (3 : Int32)) Sa28 ⟨by decide, by decide⟩
  obtain ⟨T29, h29, X29, e29, W29, st29⟩ := stC X26 hx hZ e26 Ar28 (j := (3 : Int32)) hin28 (g := (mkF m 44 #[vJ q0, sc, vR b2] [(sI (own_d q0 (1000000000000000 : Int64))), (sI (3 : Int32)), sR b2])) rfl rfl (hb hby d2_44)
  have V29 : Arv Z h29 b2 k2 .char (19 : Int32) [(.int (nar .char (own_d q0 (1000000000000000000 : Int64)))), (.int (nar .char (own_d q0 (100000000000000000 : Int64)))), (.int (nar .char (own_d q0 (10000000000000000 : Int64)))), (.int (nar .char (own_d q0 (1000000000000000 : Int64)))), (.int (0 : Int32)), (.int (0 : Int32)), (.int (0 : Int32)), (.int (0 : Int32)), (.int (0 : Int32)), (.int (0 : Int32)), (.int (0 : Int32)), (.int (0 : Int32)), (.int (0 : Int32)), (.int (0 : Int32)), (.int (0 : Int32)), (.int (0 : Int32)), (.int (0 : Int32)), (.int (0 : Int32)), (.int (0 : Int32))] (.int (0 : Int32)) := Arv.set Ar28 qa28 Sa28 Na28 Ha28 Ga28 (fits_nar_char _) W29 3 rfl (Nat.le_of_ble_eq_true rfl)
  have f30 := Old.wr f23 W29 g_b2
  have Z29 : n0 ≤ h29.size := Nat.le_trans Z22 (Nat.le_of_eq W29.size.symm)
  have K29 := K22.wr W29 (Or.inr sz_b2)
  have N29 := Fr.snoc X29 N26 g_b2
  have go32 := go27.st T29 (mkF m 51 #[vJ q0, sc, vR b2] [(sJ (100000000000000 : Int64)), sJ q0, (sI (4 : Int32)), sR b2]) (fun t k => by
    refine st29 _ ?_
    show SP p e below T29 (mkF m 45 #[vJ q0, sc, vR b2] []) _
    refine XS.aloadN X29.here hx rfl (hb hby d2_45) rfl rfl ?_
    refine XS.iconst X29.here hx rfl (hb hby d2_46) ?_
    refine XS.lloadN X29.here hx rfl (hb hby d2_47) rfl ?_
    refine X29.ldc2Long hx hown (mvT hZ (wD hw 18 rfl)) (g := (mkF m 48 #[vJ q0, sc, vR b2] [sJ q0, (sI (4 : Int32)), sR b2])) rfl (hb hby d2_48) _ ?_
    exact k)
  obtain ⟨_, _, ⟨T33, L33, k33, n33⟩, -, X33, ⟨Lc33, hQ33, l33, y33, z33⟩, st33⟩ := Jvm.LawKit.callS X29 hx (y := yN8) hown (mvT hZ (wD hw 11 rfl)) (mvT hZ (wD hw 12 rfl)) (mvT hZ (wD hw 7 rfl)) (mvT hZ (wD hw 13 rfl)) (by decide) (backOf (W := 2) (rm_d l Z a0 hw [] q0 (100000000000000 : Int64) h29 n0 Z29 (by decide)) hZ (wD hw 13 rfl) (wD hw 7 rfl) (by decide) (by decide)) (g := (mkF m 51 #[vJ q0, sc, vR b2] [(sJ (100000000000000 : Int64)), sJ q0, (sI (4 : Int32)), sR b2])) rfl (by rw [hml]; rfl) (argsL := [(.long q0), (.long (100000000000000 : Int64))]) (rest := [(.int (4 : Int32)), (.ref b2)]) (lenOf pd_rm_text_0 rfl) rfl (by show 2 * 0 + _ ≤ _; exact Nat.le_of_eq rfl) (hb hby d2_51) (fun _ _ => ⟨rfl, e29, (by decide : 1 + 0 ≤ _), (by decide : 19 + 0 ≤ _)⟩)
  dsimp only [Pt.U, Pt.locs, Pt.cells, Pt.slots] at X33 l33 y33 z33 st33 hQ33
  rw [l33, y33, z33] at X33
  obtain ⟨rfl, N33q, e33⟩ := hQ33
  have N33 := Fr.app N29 N33q
  have go34 := go32.st T33 (mkF m 54 #[vJ q0, sc, vR b2] [(sI (own_d q0 (100000000000000 : Int64))), (sI (4 : Int32)), sR b2]) (fun t k => by
    refine st33 _ ?_
    exact k)
  have Vo35 := V29
  obtain ⟨cl35, Ar35, qa35, Sa35, Na35, Ha35, Ga35⟩ := Vo35
  have hin35 := inb_of (j := (4 : Int32)) Sa35 ⟨by decide, by decide⟩
  obtain ⟨T36, h36, X36, e36, W36, st36⟩ := stC X33 hx hZ e33 Ar35 (j := (4 : Int32)) hin35 (g := (mkF m 54 #[vJ q0, sc, vR b2] [(sI (own_d q0 (100000000000000 : Int64))), (sI (4 : Int32)), sR b2])) rfl rfl (hb hby d2_54)
  have V36 : Arv Z h36 b2 k2 .char (19 : Int32) [(.int (nar .char (own_d q0 (1000000000000000000 : Int64)))), (.int (nar .char (own_d q0 (100000000000000000 : Int64)))), (.int (nar .char (own_d q0 (10000000000000000 : Int64)))), (.int (nar .char (own_d q0 (1000000000000000 : Int64)))), (.int (nar .char (own_d q0 (100000000000000 : Int64)))), (.int (0 : Int32)), (.int (0 : Int32)), (.int (0 : Int32)), (.int (0 : Int32)), (.int (0 : Int32)), (.int (0 : Int32)), (.int (0 : Int32)), (.int (0 : Int32)), (.int (0 : Int32)), (.int (0 : Int32)), (.int (0 : Int32)), (.int (0 : Int32)), (.int (0 : Int32)), (.int (0 : Int32))] (.int (0 : Int32)) := Arv.set Ar35 qa35 Sa35 Na35 Ha35 Ga35 (fits_nar_char _) W36 4 rfl (Nat.le_of_ble_eq_true rfl)
  have f37 := Old.wr f30 W36 g_b2
  have Z36 : n0 ≤ h36.size := Nat.le_trans Z29 (Nat.le_of_eq W36.size.symm)
  have K36 := K29.wr W36 (Or.inr sz_b2)
  have N36 := Fr.snoc X36 N33 g_b2
  have go39 := go34.st T36 (mkF m 61 #[vJ q0, sc, vR b2] [(sJ (10000000000000 : Int64)), sJ q0, (sI (5 : Int32)), sR b2]) (fun t k => by
    refine st36 _ ?_
    show SP p e below T36 (mkF m 55 #[vJ q0, sc, vR b2] []) _
    refine XS.aloadN X36.here hx rfl (hb hby d2_55) rfl rfl ?_
    refine XS.iconst X36.here hx rfl (hb hby d2_56) ?_
    refine XS.lloadN X36.here hx rfl (hb hby d2_57) rfl ?_
    refine X36.ldc2Long hx hown (mvT hZ (wD hw 19 rfl)) (g := (mkF m 58 #[vJ q0, sc, vR b2] [sJ q0, (sI (5 : Int32)), sR b2])) rfl (hb hby d2_58) _ ?_
    exact k)
  obtain ⟨_, _, ⟨T40, L40, k40, n40⟩, -, X40, ⟨Lc40, hQ40, l40, y40, z40⟩, st40⟩ := Jvm.LawKit.callS X36 hx (y := yN8) hown (mvT hZ (wD hw 11 rfl)) (mvT hZ (wD hw 12 rfl)) (mvT hZ (wD hw 7 rfl)) (mvT hZ (wD hw 13 rfl)) (by decide) (backOf (W := 2) (rm_d l Z a0 hw [] q0 (10000000000000 : Int64) h36 n0 Z36 (by decide)) hZ (wD hw 13 rfl) (wD hw 7 rfl) (by decide) (by decide)) (g := (mkF m 61 #[vJ q0, sc, vR b2] [(sJ (10000000000000 : Int64)), sJ q0, (sI (5 : Int32)), sR b2])) rfl (by rw [hml]; rfl) (argsL := [(.long q0), (.long (10000000000000 : Int64))]) (rest := [(.int (5 : Int32)), (.ref b2)]) (lenOf pd_rm_text_0 rfl) rfl (by show 2 * 0 + _ ≤ _; exact Nat.le_of_eq rfl) (hb hby d2_61) (fun _ _ => ⟨rfl, e36, (by decide : 1 + 0 ≤ _), (by decide : 19 + 0 ≤ _)⟩)
  dsimp only [Pt.U, Pt.locs, Pt.cells, Pt.slots] at X40 l40 y40 z40 st40 hQ40
  rw [l40, y40, z40] at X40
  obtain ⟨rfl, N40q, e40⟩ := hQ40
  have N40 := Fr.app N36 N40q
  have go41 := go39.st T40 (mkF m 64 #[vJ q0, sc, vR b2] [(sI (own_d q0 (10000000000000 : Int64))), (sI (5 : Int32)), sR b2]) (fun t k => by
    refine st40 _ ?_
    exact k)
  have Vo42 := V36
  obtain ⟨cl42, Ar42, qa42, Sa42, Na42, Ha42, Ga42⟩ := Vo42
  have hin42 := inb_of (j := (5 : Int32)) Sa42 ⟨by decide, by decide⟩
  obtain ⟨T43, h43, X43, e43, W43, st43⟩ := stC X40 hx hZ e40 Ar42 (j := (5 : Int32)) hin42 (g := (mkF m 64 #[vJ q0, sc, vR b2] [(sI (own_d q0 (10000000000000 : Int64))), (sI (5 : Int32)), sR b2])) rfl rfl (hb hby d2_64)
  have V43 : Arv Z h43 b2 k2 .char (19 : Int32) [(.int (nar .char (own_d q0 (1000000000000000000 : Int64)))), (.int (nar .char (own_d q0 (100000000000000000 : Int64)))), (.int (nar .char (own_d q0 (10000000000000000 : Int64)))), (.int (nar .char (own_d q0 (1000000000000000 : Int64)))), (.int (nar .char (own_d q0 (100000000000000 : Int64)))), (.int (nar .char (own_d q0 (10000000000000 : Int64)))), (.int (0 : Int32)), (.int (0 : Int32)), (.int (0 : Int32)), (.int (0 : Int32)), (.int (0 : Int32)), (.int (0 : Int32)), (.int (0 : Int32)), (.int (0 : Int32)), (.int (0 : Int32)), (.int (0 : Int32)), (.int (0 : Int32)), (.int (0 : Int32)), (.int (0 : Int32))] (.int (0 : Int32)) := Arv.set Ar42 qa42 Sa42 Na42 Ha42 Ga42 (fits_nar_char _) W43 5 rfl (Nat.le_of_ble_eq_true rfl)
  have f44 := Old.wr f37 W43 g_b2
  have Z43 : n0 ≤ h43.size := Nat.le_trans Z36 (Nat.le_of_eq W43.size.symm)
  have K43 := K36.wr W43 (Or.inr sz_b2)
  have N43 := Fr.snoc X43 N40 g_b2
  have go46 := go41.st T43 (mkF m 72 #[vJ q0, sc, vR b2] [(sJ (1000000000000 : Int64)), sJ q0, (sI (6 : Int32)), sR b2]) (fun t k => by
    refine st43 _ ?_
    show SP p e below T43 (mkF m 65 #[vJ q0, sc, vR b2] []) _
    refine XS.aloadN X43.here hx rfl (hb hby d2_65) rfl rfl ?_
    refine XS.bipush X43.here hx rfl (hb hby d2_66) ?_
    refine XS.lloadN X43.here hx rfl (hb hby d2_68) rfl ?_
    refine X43.ldc2Long hx hown (mvT hZ (wD hw 20 rfl)) (g := (mkF m 69 #[vJ q0, sc, vR b2] [sJ q0, (sI (6 : Int32)), sR b2])) rfl (hb hby d2_69) _ ?_
    exact k)
  obtain ⟨_, _, ⟨T47, L47, k47, n47⟩, -, X47, ⟨Lc47, hQ47, l47, y47, z47⟩, st47⟩ := Jvm.LawKit.callS X43 hx (y := yN8) hown (mvT hZ (wD hw 11 rfl)) (mvT hZ (wD hw 12 rfl)) (mvT hZ (wD hw 7 rfl)) (mvT hZ (wD hw 13 rfl)) (by decide) (backOf (W := 2) (rm_d l Z a0 hw [] q0 (1000000000000 : Int64) h43 n0 Z43 (by decide)) hZ (wD hw 13 rfl) (wD hw 7 rfl) (by decide) (by decide)) (g := (mkF m 72 #[vJ q0, sc, vR b2] [(sJ (1000000000000 : Int64)), sJ q0, (sI (6 : Int32)), sR b2])) rfl (by rw [hml]; rfl) (argsL := [(.long q0), (.long (1000000000000 : Int64))]) (rest := [(.int (6 : Int32)), (.ref b2)]) (lenOf pd_rm_text_0 rfl) rfl (by show 2 * 0 + _ ≤ _; exact Nat.le_of_eq rfl) (hb hby d2_72) (fun _ _ => ⟨rfl, e43, (by decide : 1 + 0 ≤ _), (by decide : 19 + 0 ≤ _)⟩)
  dsimp only [Pt.U, Pt.locs, Pt.cells, Pt.slots] at X47 l47 y47 z47 st47 hQ47
  rw [l47, y47, z47] at X47
  obtain ⟨rfl, N47q, e47⟩ := hQ47
  have N47 := Fr.app N43 N47q
  have go48 := go46.st T47 (mkF m 75 #[vJ q0, sc, vR b2] [(sI (own_d q0 (1000000000000 : Int64))), (sI (6 : Int32)), sR b2]) (fun t k => by
    refine st47 _ ?_
    exact k)
  have Vo49 := V43
  obtain ⟨cl49, Ar49, qa49, Sa49, Na49, Ha49, Ga49⟩ := Vo49
  have hin49 := inb_of (j := (6 : Int32)) Sa49 ⟨by decide, by decide⟩
  obtain ⟨T50, h50, X50, e50, W50, st50⟩ := stC X47 hx hZ e47 Ar49 (j := (6 : Int32)) hin49 (g := (mkF m 75 #[vJ q0, sc, vR b2] [(sI (own_d q0 (1000000000000 : Int64))), (sI (6 : Int32)), sR b2])) rfl rfl (hb hby d2_75)
  have V50 : Arv Z h50 b2 k2 .char (19 : Int32) [(.int (nar .char (own_d q0 (1000000000000000000 : Int64)))), (.int (nar .char (own_d q0 (100000000000000000 : Int64)))), (.int (nar .char (own_d q0 (10000000000000000 : Int64)))), (.int (nar .char (own_d q0 (1000000000000000 : Int64)))), (.int (nar .char (own_d q0 (100000000000000 : Int64)))), (.int (nar .char (own_d q0 (10000000000000 : Int64)))), (.int (nar .char (own_d q0 (1000000000000 : Int64)))), (.int (0 : Int32)), (.int (0 : Int32)), (.int (0 : Int32)), (.int (0 : Int32)), (.int (0 : Int32)), (.int (0 : Int32)), (.int (0 : Int32)), (.int (0 : Int32)), (.int (0 : Int32)), (.int (0 : Int32)), (.int (0 : Int32)), (.int (0 : Int32))] (.int (0 : Int32)) := Arv.set Ar49 qa49 Sa49 Na49 Ha49 Ga49 (fits_nar_char _) W50 6 rfl (Nat.le_of_ble_eq_true rfl)
  have f51 := Old.wr f44 W50 g_b2
  have Z50 : n0 ≤ h50.size := Nat.le_trans Z43 (Nat.le_of_eq W50.size.symm)
  have K50 := K43.wr W50 (Or.inr sz_b2)
  have N50 := Fr.snoc X50 N47 g_b2
  have go53 := go48.st T50 (mkF m 83 #[vJ q0, sc, vR b2] [(sJ (100000000000 : Int64)), sJ q0, (sI (7 : Int32)), sR b2]) (fun t k => by
    refine st50 _ ?_
    show SP p e below T50 (mkF m 76 #[vJ q0, sc, vR b2] []) _
    refine XS.aloadN X50.here hx rfl (hb hby d2_76) rfl rfl ?_
    refine XS.bipush X50.here hx rfl (hb hby d2_77) ?_
    refine XS.lloadN X50.here hx rfl (hb hby d2_79) rfl ?_
    refine X50.ldc2Long hx hown (mvT hZ (wD hw 21 rfl)) (g := (mkF m 80 #[vJ q0, sc, vR b2] [sJ q0, (sI (7 : Int32)), sR b2])) rfl (hb hby d2_80) _ ?_
    exact k)
  obtain ⟨_, _, ⟨T54, L54, k54, n54⟩, -, X54, ⟨Lc54, hQ54, l54, y54, z54⟩, st54⟩ := Jvm.LawKit.callS X50 hx (y := yN8) hown (mvT hZ (wD hw 11 rfl)) (mvT hZ (wD hw 12 rfl)) (mvT hZ (wD hw 7 rfl)) (mvT hZ (wD hw 13 rfl)) (by decide) (backOf (W := 2) (rm_d l Z a0 hw [] q0 (100000000000 : Int64) h50 n0 Z50 (by decide)) hZ (wD hw 13 rfl) (wD hw 7 rfl) (by decide) (by decide)) (g := (mkF m 83 #[vJ q0, sc, vR b2] [(sJ (100000000000 : Int64)), sJ q0, (sI (7 : Int32)), sR b2])) rfl (by rw [hml]; rfl) (argsL := [(.long q0), (.long (100000000000 : Int64))]) (rest := [(.int (7 : Int32)), (.ref b2)]) (lenOf pd_rm_text_0 rfl) rfl (by show 2 * 0 + _ ≤ _; exact Nat.le_of_eq rfl) (hb hby d2_83) (fun _ _ => ⟨rfl, e50, (by decide : 1 + 0 ≤ _), (by decide : 19 + 0 ≤ _)⟩)
  dsimp only [Pt.U, Pt.locs, Pt.cells, Pt.slots] at X54 l54 y54 z54 st54 hQ54
  rw [l54, y54, z54] at X54
  obtain ⟨rfl, N54q, e54⟩ := hQ54
  have N54 := Fr.app N50 N54q
  have go55 := go53.st T54 (mkF m 86 #[vJ q0, sc, vR b2] [(sI (own_d q0 (100000000000 : Int64))), (sI (7 : Int32)), sR b2]) (fun t k => by
    refine st54 _ ?_
    exact k)
  have Vo56 := V50
  obtain ⟨cl56, Ar56, qa56, Sa56, Na56, Ha56, Ga56⟩ := Vo56
  have hin56 := inb_of (j := (7 : Int32)) Sa56 ⟨by decide, by decide⟩
  obtain ⟨T57, h57, X57, e57, W57, st57⟩ := stC X54 hx hZ e54 Ar56 (j := (7 : Int32)) hin56 (g := (mkF m 86 #[vJ q0, sc, vR b2] [(sI (own_d q0 (100000000000 : Int64))), (sI (7 : Int32)), sR b2])) rfl rfl (hb hby d2_86)
  have V57 : Arv Z h57 b2 k2 .char (19 : Int32) [(.int (nar .char (own_d q0 (1000000000000000000 : Int64)))), (.int (nar .char (own_d q0 (100000000000000000 : Int64)))), (.int (nar .char (own_d q0 (10000000000000000 : Int64)))), (.int (nar .char (own_d q0 (1000000000000000 : Int64)))), (.int (nar .char (own_d q0 (100000000000000 : Int64)))), (.int (nar .char (own_d q0 (10000000000000 : Int64)))), (.int (nar .char (own_d q0 (1000000000000 : Int64)))), (.int (nar .char (own_d q0 (100000000000 : Int64)))), (.int (0 : Int32)), (.int (0 : Int32)), (.int (0 : Int32)), (.int (0 : Int32)), (.int (0 : Int32)), (.int (0 : Int32)), (.int (0 : Int32)), (.int (0 : Int32)), (.int (0 : Int32)), (.int (0 : Int32)), (.int (0 : Int32))] (.int (0 : Int32)) := Arv.set Ar56 qa56 Sa56 Na56 Ha56 Ga56 (fits_nar_char _) W57 7 rfl (Nat.le_of_ble_eq_true rfl)
  have f58 := Old.wr f51 W57 g_b2
  have Z57 : n0 ≤ h57.size := Nat.le_trans Z50 (Nat.le_of_eq W57.size.symm)
  have K57 := K50.wr W57 (Or.inr sz_b2)
  have N57 := Fr.snoc X57 N54 g_b2
  have go60 := go55.st T57 (mkF m 94 #[vJ q0, sc, vR b2] [(sJ (10000000000 : Int64)), sJ q0, (sI (8 : Int32)), sR b2]) (fun t k => by
    refine st57 _ ?_
    show SP p e below T57 (mkF m 87 #[vJ q0, sc, vR b2] []) _
    refine XS.aloadN X57.here hx rfl (hb hby d2_87) rfl rfl ?_
    refine XS.bipush X57.here hx rfl (hb hby d2_88) ?_
    refine XS.lloadN X57.here hx rfl (hb hby d2_90) rfl ?_
    refine X57.ldc2Long hx hown (mvT hZ (wD hw 22 rfl)) (g := (mkF m 91 #[vJ q0, sc, vR b2] [sJ q0, (sI (8 : Int32)), sR b2])) rfl (hb hby d2_91) _ ?_
    exact k)
  obtain ⟨_, _, ⟨T61, L61, k61, n61⟩, -, X61, ⟨Lc61, hQ61, l61, y61, z61⟩, st61⟩ := Jvm.LawKit.callS X57 hx (y := yN8) hown (mvT hZ (wD hw 11 rfl)) (mvT hZ (wD hw 12 rfl)) (mvT hZ (wD hw 7 rfl)) (mvT hZ (wD hw 13 rfl)) (by decide) (backOf (W := 2) (rm_d l Z a0 hw [] q0 (10000000000 : Int64) h57 n0 Z57 (by decide)) hZ (wD hw 13 rfl) (wD hw 7 rfl) (by decide) (by decide)) (g := (mkF m 94 #[vJ q0, sc, vR b2] [(sJ (10000000000 : Int64)), sJ q0, (sI (8 : Int32)), sR b2])) rfl (by rw [hml]; rfl) (argsL := [(.long q0), (.long (10000000000 : Int64))]) (rest := [(.int (8 : Int32)), (.ref b2)]) (lenOf pd_rm_text_0 rfl) rfl (by show 2 * 0 + _ ≤ _; exact Nat.le_of_eq rfl) (hb hby d2_94) (fun _ _ => ⟨rfl, e57, (by decide : 1 + 0 ≤ _), (by decide : 19 + 0 ≤ _)⟩)
  dsimp only [Pt.U, Pt.locs, Pt.cells, Pt.slots] at X61 l61 y61 z61 st61 hQ61
  rw [l61, y61, z61] at X61
  obtain ⟨rfl, N61q, e61⟩ := hQ61
  have N61 := Fr.app N57 N61q
  have go62 := go60.st T61 (mkF m 97 #[vJ q0, sc, vR b2] [(sI (own_d q0 (10000000000 : Int64))), (sI (8 : Int32)), sR b2]) (fun t k => by
    refine st61 _ ?_
    exact k)
  have Vo63 := V57
  obtain ⟨cl63, Ar63, qa63, Sa63, Na63, Ha63, Ga63⟩ := Vo63
  have hin63 := inb_of (j := (8 : Int32)) Sa63 ⟨by decide, by decide⟩
  obtain ⟨T64, h64, X64, e64, W64, st64⟩ := stC X61 hx hZ e61 Ar63 (j := (8 : Int32)) hin63 (g := (mkF m 97 #[vJ q0, sc, vR b2] [(sI (own_d q0 (10000000000 : Int64))), (sI (8 : Int32)), sR b2])) rfl rfl (hb hby d2_97)
  have V64 : Arv Z h64 b2 k2 .char (19 : Int32) [(.int (nar .char (own_d q0 (1000000000000000000 : Int64)))), (.int (nar .char (own_d q0 (100000000000000000 : Int64)))), (.int (nar .char (own_d q0 (10000000000000000 : Int64)))), (.int (nar .char (own_d q0 (1000000000000000 : Int64)))), (.int (nar .char (own_d q0 (100000000000000 : Int64)))), (.int (nar .char (own_d q0 (10000000000000 : Int64)))), (.int (nar .char (own_d q0 (1000000000000 : Int64)))), (.int (nar .char (own_d q0 (100000000000 : Int64)))), (.int (nar .char (own_d q0 (10000000000 : Int64)))), (.int (0 : Int32)), (.int (0 : Int32)), (.int (0 : Int32)), (.int (0 : Int32)), (.int (0 : Int32)), (.int (0 : Int32)), (.int (0 : Int32)), (.int (0 : Int32)), (.int (0 : Int32)), (.int (0 : Int32))] (.int (0 : Int32)) := Arv.set Ar63 qa63 Sa63 Na63 Ha63 Ga63 (fits_nar_char _) W64 8 rfl (Nat.le_of_ble_eq_true rfl)
  have f65 := Old.wr f58 W64 g_b2
  have Z64 : n0 ≤ h64.size := Nat.le_trans Z57 (Nat.le_of_eq W64.size.symm)
  have K64 := K57.wr W64 (Or.inr sz_b2)
  have N64 := Fr.snoc X64 N61 g_b2
  have go67 := go62.st T64 (mkF m 105 #[vJ q0, sc, vR b2] [(sJ (1000000000 : Int64)), sJ q0, (sI (9 : Int32)), sR b2]) (fun t k => by
    refine st64 _ ?_
    show SP p e below T64 (mkF m 98 #[vJ q0, sc, vR b2] []) _
    refine XS.aloadN X64.here hx rfl (hb hby d2_98) rfl rfl ?_
    refine XS.bipush X64.here hx rfl (hb hby d2_99) ?_
    refine XS.lloadN X64.here hx rfl (hb hby d2_101) rfl ?_
    refine X64.ldc2Long hx hown (mvT hZ (wD hw 23 rfl)) (g := (mkF m 102 #[vJ q0, sc, vR b2] [sJ q0, (sI (9 : Int32)), sR b2])) rfl (hb hby d2_102) _ ?_
    exact k)
  obtain ⟨_, _, ⟨T68, L68, k68, n68⟩, -, X68, ⟨Lc68, hQ68, l68, y68, z68⟩, st68⟩ := Jvm.LawKit.callS X64 hx (y := yN8) hown (mvT hZ (wD hw 11 rfl)) (mvT hZ (wD hw 12 rfl)) (mvT hZ (wD hw 7 rfl)) (mvT hZ (wD hw 13 rfl)) (by decide) (backOf (W := 2) (rm_d l Z a0 hw [] q0 (1000000000 : Int64) h64 n0 Z64 (by decide)) hZ (wD hw 13 rfl) (wD hw 7 rfl) (by decide) (by decide)) (g := (mkF m 105 #[vJ q0, sc, vR b2] [(sJ (1000000000 : Int64)), sJ q0, (sI (9 : Int32)), sR b2])) rfl (by rw [hml]; rfl) (argsL := [(.long q0), (.long (1000000000 : Int64))]) (rest := [(.int (9 : Int32)), (.ref b2)]) (lenOf pd_rm_text_0 rfl) rfl (by show 2 * 0 + _ ≤ _; exact Nat.le_of_eq rfl) (hb hby d2_105) (fun _ _ => ⟨rfl, e64, (by decide : 1 + 0 ≤ _), (by decide : 19 + 0 ≤ _)⟩)
  dsimp only [Pt.U, Pt.locs, Pt.cells, Pt.slots] at X68 l68 y68 z68 st68 hQ68
  rw [l68, y68, z68] at X68
  obtain ⟨rfl, N68q, e68⟩ := hQ68
  have N68 := Fr.app N64 N68q
  have go69 := go67.st T68 (mkF m 108 #[vJ q0, sc, vR b2] [(sI (own_d q0 (1000000000 : Int64))), (sI (9 : Int32)), sR b2]) (fun t k => by
    refine st68 _ ?_
    exact k)
  have Vo70 := V64
  obtain ⟨cl70, Ar70, qa70, Sa70, Na70, Ha70, Ga70⟩ := Vo70
  have hin70 := inb_of (j := (9 : Int32)) Sa70 ⟨by decide, by decide⟩
  obtain ⟨T71, h71, X71, e71, W71, st71⟩ := stC X68 hx hZ e68 Ar70 (j := (9 : Int32)) hin70 (g := (mkF m 108 #[vJ q0, sc, vR b2] [(sI (own_d q0 (1000000000 : Int64))), (sI (9 : Int32)), sR b2])) rfl rfl (hb hby d2_108)
  have V71 : Arv Z h71 b2 k2 .char (19 : Int32) [(.int (nar .char (own_d q0 (1000000000000000000 : Int64)))), (.int (nar .char (own_d q0 (100000000000000000 : Int64)))), (.int (nar .char (own_d q0 (10000000000000000 : Int64)))), (.int (nar .char (own_d q0 (1000000000000000 : Int64)))), (.int (nar .char (own_d q0 (100000000000000 : Int64)))), (.int (nar .char (own_d q0 (10000000000000 : Int64)))), (.int (nar .char (own_d q0 (1000000000000 : Int64)))), (.int (nar .char (own_d q0 (100000000000 : Int64)))), (.int (nar .char (own_d q0 (10000000000 : Int64)))), (.int (nar .char (own_d q0 (1000000000 : Int64)))), (.int (0 : Int32)), (.int (0 : Int32)), (.int (0 : Int32)), (.int (0 : Int32)), (.int (0 : Int32)), (.int (0 : Int32)), (.int (0 : Int32)), (.int (0 : Int32)), (.int (0 : Int32))] (.int (0 : Int32)) := Arv.set Ar70 qa70 Sa70 Na70 Ha70 Ga70 (fits_nar_char _) W71 9 rfl (Nat.le_of_ble_eq_true rfl)
  have f72 := Old.wr f65 W71 g_b2
  have Z71 : n0 ≤ h71.size := Nat.le_trans Z64 (Nat.le_of_eq W71.size.symm)
  have K71 := K64.wr W71 (Or.inr sz_b2)
  have N71 := Fr.snoc X71 N68 g_b2
  have go74 := go69.st T71 (mkF m 116 #[vJ q0, sc, vR b2] [(sJ (100000000 : Int64)), sJ q0, (sI (10 : Int32)), sR b2]) (fun t k => by
    refine st71 _ ?_
    show SP p e below T71 (mkF m 109 #[vJ q0, sc, vR b2] []) _
    refine XS.aloadN X71.here hx rfl (hb hby d2_109) rfl rfl ?_
    refine XS.bipush X71.here hx rfl (hb hby d2_110) ?_
    refine XS.lloadN X71.here hx rfl (hb hby d2_112) rfl ?_
    refine X71.ldc2Long hx hown (mvT hZ (wD hw 24 rfl)) (g := (mkF m 113 #[vJ q0, sc, vR b2] [sJ q0, (sI (10 : Int32)), sR b2])) rfl (hb hby d2_113) _ ?_
    exact k)
  obtain ⟨_, _, ⟨T75, L75, k75, n75⟩, -, X75, ⟨Lc75, hQ75, l75, y75, z75⟩, st75⟩ := Jvm.LawKit.callS X71 hx (y := yN8) hown (mvT hZ (wD hw 11 rfl)) (mvT hZ (wD hw 12 rfl)) (mvT hZ (wD hw 7 rfl)) (mvT hZ (wD hw 13 rfl)) (by decide) (backOf (W := 2) (rm_d l Z a0 hw [] q0 (100000000 : Int64) h71 n0 Z71 (by decide)) hZ (wD hw 13 rfl) (wD hw 7 rfl) (by decide) (by decide)) (g := (mkF m 116 #[vJ q0, sc, vR b2] [(sJ (100000000 : Int64)), sJ q0, (sI (10 : Int32)), sR b2])) rfl (by rw [hml]; rfl) (argsL := [(.long q0), (.long (100000000 : Int64))]) (rest := [(.int (10 : Int32)), (.ref b2)]) (lenOf pd_rm_text_0 rfl) rfl (by show 2 * 0 + _ ≤ _; exact Nat.le_of_eq rfl) (hb hby d2_116) (fun _ _ => ⟨rfl, e71, (by decide : 1 + 0 ≤ _), (by decide : 19 + 0 ≤ _)⟩)
  dsimp only [Pt.U, Pt.locs, Pt.cells, Pt.slots] at X75 l75 y75 z75 st75 hQ75
  rw [l75, y75, z75] at X75
  obtain ⟨rfl, N75q, e75⟩ := hQ75
  have N75 := Fr.app N71 N75q
  have go76 := go74.st T75 (mkF m 119 #[vJ q0, sc, vR b2] [(sI (own_d q0 (100000000 : Int64))), (sI (10 : Int32)), sR b2]) (fun t k => by
    refine st75 _ ?_
    exact k)
  have Vo77 := V71
  obtain ⟨cl77, Ar77, qa77, Sa77, Na77, Ha77, Ga77⟩ := Vo77
  have hin77 := inb_of (j := (10 : Int32)) Sa77 ⟨by decide, by decide⟩
  obtain ⟨T78, h78, X78, e78, W78, st78⟩ := stC X75 hx hZ e75 Ar77 (j := (10 : Int32)) hin77 (g := (mkF m 119 #[vJ q0, sc, vR b2] [(sI (own_d q0 (100000000 : Int64))), (sI (10 : Int32)), sR b2])) rfl rfl (hb hby d2_119)
  have V78 : Arv Z h78 b2 k2 .char (19 : Int32) [(.int (nar .char (own_d q0 (1000000000000000000 : Int64)))), (.int (nar .char (own_d q0 (100000000000000000 : Int64)))), (.int (nar .char (own_d q0 (10000000000000000 : Int64)))), (.int (nar .char (own_d q0 (1000000000000000 : Int64)))), (.int (nar .char (own_d q0 (100000000000000 : Int64)))), (.int (nar .char (own_d q0 (10000000000000 : Int64)))), (.int (nar .char (own_d q0 (1000000000000 : Int64)))), (.int (nar .char (own_d q0 (100000000000 : Int64)))), (.int (nar .char (own_d q0 (10000000000 : Int64)))), (.int (nar .char (own_d q0 (1000000000 : Int64)))), (.int (nar .char (own_d q0 (100000000 : Int64)))), (.int (0 : Int32)), (.int (0 : Int32)), (.int (0 : Int32)), (.int (0 : Int32)), (.int (0 : Int32)), (.int (0 : Int32)), (.int (0 : Int32)), (.int (0 : Int32))] (.int (0 : Int32)) := Arv.set Ar77 qa77 Sa77 Na77 Ha77 Ga77 (fits_nar_char _) W78 10 rfl (Nat.le_of_ble_eq_true rfl)
  have f79 := Old.wr f72 W78 g_b2
  have Z78 : n0 ≤ h78.size := Nat.le_trans Z71 (Nat.le_of_eq W78.size.symm)
  have K78 := K71.wr W78 (Or.inr sz_b2)
  have N78 := Fr.snoc X78 N75 g_b2
  have go81 := go76.st T78 (mkF m 127 #[vJ q0, sc, vR b2] [(sJ (10000000 : Int64)), sJ q0, (sI (11 : Int32)), sR b2]) (fun t k => by
    refine st78 _ ?_
    show SP p e below T78 (mkF m 120 #[vJ q0, sc, vR b2] []) _
    refine XS.aloadN X78.here hx rfl (hb hby d2_120) rfl rfl ?_
    refine XS.bipush X78.here hx rfl (hb hby d2_121) ?_
    refine XS.lloadN X78.here hx rfl (hb hby d2_123) rfl ?_
    refine X78.ldc2Long hx hown (mvT hZ (wD hw 25 rfl)) (g := (mkF m 124 #[vJ q0, sc, vR b2] [sJ q0, (sI (11 : Int32)), sR b2])) rfl (hb hby d2_124) _ ?_
    exact k)
  obtain ⟨_, _, ⟨T82, L82, k82, n82⟩, -, X82, ⟨Lc82, hQ82, l82, y82, z82⟩, st82⟩ := Jvm.LawKit.callS X78 hx (y := yN8) hown (mvT hZ (wD hw 11 rfl)) (mvT hZ (wD hw 12 rfl)) (mvT hZ (wD hw 7 rfl)) (mvT hZ (wD hw 13 rfl)) (by decide) (backOf (W := 2) (rm_d l Z a0 hw [] q0 (10000000 : Int64) h78 n0 Z78 (by decide)) hZ (wD hw 13 rfl) (wD hw 7 rfl) (by decide) (by decide)) (g := (mkF m 127 #[vJ q0, sc, vR b2] [(sJ (10000000 : Int64)), sJ q0, (sI (11 : Int32)), sR b2])) rfl (by rw [hml]; rfl) (argsL := [(.long q0), (.long (10000000 : Int64))]) (rest := [(.int (11 : Int32)), (.ref b2)]) (lenOf pd_rm_text_0 rfl) rfl (by show 2 * 0 + _ ≤ _; exact Nat.le_of_eq rfl) (hb hby d2_127) (fun _ _ => ⟨rfl, e78, (by decide : 1 + 0 ≤ _), (by decide : 19 + 0 ≤ _)⟩)
  dsimp only [Pt.U, Pt.locs, Pt.cells, Pt.slots] at X82 l82 y82 z82 st82 hQ82
  rw [l82, y82, z82] at X82
  obtain ⟨rfl, N82q, e82⟩ := hQ82
  have N82 := Fr.app N78 N82q
  have go83 := go81.st T82 (mkF m 130 #[vJ q0, sc, vR b2] [(sI (own_d q0 (10000000 : Int64))), (sI (11 : Int32)), sR b2]) (fun t k => by
    refine st82 _ ?_
    exact k)
  have Vo84 := V78
  obtain ⟨cl84, Ar84, qa84, Sa84, Na84, Ha84, Ga84⟩ := Vo84
  have hin84 := inb_of (j := (11 : Int32)) Sa84 ⟨by decide, by decide⟩
  obtain ⟨T85, h85, X85, e85, W85, st85⟩ := stC X82 hx hZ e82 Ar84 (j := (11 : Int32)) hin84 (g := (mkF m 130 #[vJ q0, sc, vR b2] [(sI (own_d q0 (10000000 : Int64))), (sI (11 : Int32)), sR b2])) rfl rfl (hb hby d2_130)
  have V85 : Arv Z h85 b2 k2 .char (19 : Int32) [(.int (nar .char (own_d q0 (1000000000000000000 : Int64)))), (.int (nar .char (own_d q0 (100000000000000000 : Int64)))), (.int (nar .char (own_d q0 (10000000000000000 : Int64)))), (.int (nar .char (own_d q0 (1000000000000000 : Int64)))), (.int (nar .char (own_d q0 (100000000000000 : Int64)))), (.int (nar .char (own_d q0 (10000000000000 : Int64)))), (.int (nar .char (own_d q0 (1000000000000 : Int64)))), (.int (nar .char (own_d q0 (100000000000 : Int64)))), (.int (nar .char (own_d q0 (10000000000 : Int64)))), (.int (nar .char (own_d q0 (1000000000 : Int64)))), (.int (nar .char (own_d q0 (100000000 : Int64)))), (.int (nar .char (own_d q0 (10000000 : Int64)))), (.int (0 : Int32)), (.int (0 : Int32)), (.int (0 : Int32)), (.int (0 : Int32)), (.int (0 : Int32)), (.int (0 : Int32)), (.int (0 : Int32))] (.int (0 : Int32)) := Arv.set Ar84 qa84 Sa84 Na84 Ha84 Ga84 (fits_nar_char _) W85 11 rfl (Nat.le_of_ble_eq_true rfl)
  have f86 := Old.wr f79 W85 g_b2
  have Z85 : n0 ≤ h85.size := Nat.le_trans Z78 (Nat.le_of_eq W85.size.symm)
  have K85 := K78.wr W85 (Or.inr sz_b2)
  have N85 := Fr.snoc X85 N82 g_b2
  have go88 := go83.st T85 (mkF m 138 #[vJ q0, sc, vR b2] [(sJ (1000000 : Int64)), sJ q0, (sI (12 : Int32)), sR b2]) (fun t k => by
    refine st85 _ ?_
    show SP p e below T85 (mkF m 131 #[vJ q0, sc, vR b2] []) _
    refine XS.aloadN X85.here hx rfl (hb hby d2_131) rfl rfl ?_
    refine XS.bipush X85.here hx rfl (hb hby d2_132) ?_
    refine XS.lloadN X85.here hx rfl (hb hby d2_134) rfl ?_
    refine X85.ldc2Long hx hown (mvT hZ (wD hw 26 rfl)) (g := (mkF m 135 #[vJ q0, sc, vR b2] [sJ q0, (sI (12 : Int32)), sR b2])) rfl (hb hby d2_135) _ ?_
    exact k)
  obtain ⟨_, _, ⟨T89, L89, k89, n89⟩, -, X89, ⟨Lc89, hQ89, l89, y89, z89⟩, st89⟩ := Jvm.LawKit.callS X85 hx (y := yN8) hown (mvT hZ (wD hw 11 rfl)) (mvT hZ (wD hw 12 rfl)) (mvT hZ (wD hw 7 rfl)) (mvT hZ (wD hw 13 rfl)) (by decide) (backOf (W := 2) (rm_d l Z a0 hw [] q0 (1000000 : Int64) h85 n0 Z85 (by decide)) hZ (wD hw 13 rfl) (wD hw 7 rfl) (by decide) (by decide)) (g := (mkF m 138 #[vJ q0, sc, vR b2] [(sJ (1000000 : Int64)), sJ q0, (sI (12 : Int32)), sR b2])) rfl (by rw [hml]; rfl) (argsL := [(.long q0), (.long (1000000 : Int64))]) (rest := [(.int (12 : Int32)), (.ref b2)]) (lenOf pd_rm_text_0 rfl) rfl (by show 2 * 0 + _ ≤ _; exact Nat.le_of_eq rfl) (hb hby d2_138) (fun _ _ => ⟨rfl, e85, (by decide : 1 + 0 ≤ _), (by decide : 19 + 0 ≤ _)⟩)
  dsimp only [Pt.U, Pt.locs, Pt.cells, Pt.slots] at X89 l89 y89 z89 st89 hQ89
  rw [l89, y89, z89] at X89
  obtain ⟨rfl, N89q, e89⟩ := hQ89
  have N89 := Fr.app N85 N89q
  have go90 := go88.st T89 (mkF m 141 #[vJ q0, sc, vR b2] [(sI (own_d q0 (1000000 : Int64))), (sI (12 : Int32)), sR b2]) (fun t k => by
    refine st89 _ ?_
    exact k)
  have Vo91 := V85
  obtain ⟨cl91, Ar91, qa91, Sa91, Na91, Ha91, Ga91⟩ := Vo91
  have hin91 := inb_of (j := (12 : Int32)) Sa91 ⟨by decide, by decide⟩
  obtain ⟨T92, h92, X92, e92, W92, st92⟩ := stC X89 hx hZ e89 Ar91 (j := (12 : Int32)) hin91 (g := (mkF m 141 #[vJ q0, sc, vR b2] [(sI (own_d q0 (1000000 : Int64))), (sI (12 : Int32)), sR b2])) rfl rfl (hb hby d2_141)
  have V92 : Arv Z h92 b2 k2 .char (19 : Int32) [(.int (nar .char (own_d q0 (1000000000000000000 : Int64)))), (.int (nar .char (own_d q0 (100000000000000000 : Int64)))), (.int (nar .char (own_d q0 (10000000000000000 : Int64)))), (.int (nar .char (own_d q0 (1000000000000000 : Int64)))), (.int (nar .char (own_d q0 (100000000000000 : Int64)))), (.int (nar .char (own_d q0 (10000000000000 : Int64)))), (.int (nar .char (own_d q0 (1000000000000 : Int64)))), (.int (nar .char (own_d q0 (100000000000 : Int64)))), (.int (nar .char (own_d q0 (10000000000 : Int64)))), (.int (nar .char (own_d q0 (1000000000 : Int64)))), (.int (nar .char (own_d q0 (100000000 : Int64)))), (.int (nar .char (own_d q0 (10000000 : Int64)))), (.int (nar .char (own_d q0 (1000000 : Int64)))), (.int (0 : Int32)), (.int (0 : Int32)), (.int (0 : Int32)), (.int (0 : Int32)), (.int (0 : Int32)), (.int (0 : Int32))] (.int (0 : Int32)) := Arv.set Ar91 qa91 Sa91 Na91 Ha91 Ga91 (fits_nar_char _) W92 12 rfl (Nat.le_of_ble_eq_true rfl)
  have f93 := Old.wr f86 W92 g_b2
  have Z92 : n0 ≤ h92.size := Nat.le_trans Z85 (Nat.le_of_eq W92.size.symm)
  have K92 := K85.wr W92 (Or.inr sz_b2)
  have N92 := Fr.snoc X92 N89 g_b2
  have go95 := go90.st T92 (mkF m 149 #[vJ q0, sc, vR b2] [(sJ (100000 : Int64)), sJ q0, (sI (13 : Int32)), sR b2]) (fun t k => by
    refine st92 _ ?_
    show SP p e below T92 (mkF m 142 #[vJ q0, sc, vR b2] []) _
    refine XS.aloadN X92.here hx rfl (hb hby d2_142) rfl rfl ?_
    refine XS.bipush X92.here hx rfl (hb hby d2_143) ?_
    refine XS.lloadN X92.here hx rfl (hb hby d2_145) rfl ?_
    refine X92.ldc2Long hx hown (mvT hZ (wD hw 27 rfl)) (g := (mkF m 146 #[vJ q0, sc, vR b2] [sJ q0, (sI (13 : Int32)), sR b2])) rfl (hb hby d2_146) _ ?_
    exact k)
  obtain ⟨_, _, ⟨T96, L96, k96, n96⟩, -, X96, ⟨Lc96, hQ96, l96, y96, z96⟩, st96⟩ := Jvm.LawKit.callS X92 hx (y := yN8) hown (mvT hZ (wD hw 11 rfl)) (mvT hZ (wD hw 12 rfl)) (mvT hZ (wD hw 7 rfl)) (mvT hZ (wD hw 13 rfl)) (by decide) (backOf (W := 2) (rm_d l Z a0 hw [] q0 (100000 : Int64) h92 n0 Z92 (by decide)) hZ (wD hw 13 rfl) (wD hw 7 rfl) (by decide) (by decide)) (g := (mkF m 149 #[vJ q0, sc, vR b2] [(sJ (100000 : Int64)), sJ q0, (sI (13 : Int32)), sR b2])) rfl (by rw [hml]; rfl) (argsL := [(.long q0), (.long (100000 : Int64))]) (rest := [(.int (13 : Int32)), (.ref b2)]) (lenOf pd_rm_text_0 rfl) rfl (by show 2 * 0 + _ ≤ _; exact Nat.le_of_eq rfl) (hb hby d2_149) (fun _ _ => ⟨rfl, e92, (by decide : 1 + 0 ≤ _), (by decide : 19 + 0 ≤ _)⟩)
  dsimp only [Pt.U, Pt.locs, Pt.cells, Pt.slots] at X96 l96 y96 z96 st96 hQ96
  rw [l96, y96, z96] at X96
  obtain ⟨rfl, N96q, e96⟩ := hQ96
  have N96 := Fr.app N92 N96q
  have go97 := go95.st T96 (mkF m 152 #[vJ q0, sc, vR b2] [(sI (own_d q0 (100000 : Int64))), (sI (13 : Int32)), sR b2]) (fun t k => by
    refine st96 _ ?_
    exact k)
  have Vo98 := V92
  obtain ⟨cl98, Ar98, qa98, Sa98, Na98, Ha98, Ga98⟩ := Vo98
  have hin98 := inb_of (j := (13 : Int32)) Sa98 ⟨by decide, by decide⟩
  obtain ⟨T99, h99, X99, e99, W99, st99⟩ := stC X96 hx hZ e96 Ar98 (j := (13 : Int32)) hin98 (g := (mkF m 152 #[vJ q0, sc, vR b2] [(sI (own_d q0 (100000 : Int64))), (sI (13 : Int32)), sR b2])) rfl rfl (hb hby d2_152)
  have V99 : Arv Z h99 b2 k2 .char (19 : Int32) [(.int (nar .char (own_d q0 (1000000000000000000 : Int64)))), (.int (nar .char (own_d q0 (100000000000000000 : Int64)))), (.int (nar .char (own_d q0 (10000000000000000 : Int64)))), (.int (nar .char (own_d q0 (1000000000000000 : Int64)))), (.int (nar .char (own_d q0 (100000000000000 : Int64)))), (.int (nar .char (own_d q0 (10000000000000 : Int64)))), (.int (nar .char (own_d q0 (1000000000000 : Int64)))), (.int (nar .char (own_d q0 (100000000000 : Int64)))), (.int (nar .char (own_d q0 (10000000000 : Int64)))), (.int (nar .char (own_d q0 (1000000000 : Int64)))), (.int (nar .char (own_d q0 (100000000 : Int64)))), (.int (nar .char (own_d q0 (10000000 : Int64)))), (.int (nar .char (own_d q0 (1000000 : Int64)))), (.int (nar .char (own_d q0 (100000 : Int64)))), (.int (0 : Int32)), (.int (0 : Int32)), (.int (0 : Int32)), (.int (0 : Int32)), (.int (0 : Int32))] (.int (0 : Int32)) := Arv.set Ar98 qa98 Sa98 Na98 Ha98 Ga98 (fits_nar_char _) W99 13 rfl (Nat.le_of_ble_eq_true rfl)
  have f100 := Old.wr f93 W99 g_b2
  have Z99 : n0 ≤ h99.size := Nat.le_trans Z92 (Nat.le_of_eq W99.size.symm)
  have K99 := K92.wr W99 (Or.inr sz_b2)
  have N99 := Fr.snoc X99 N96 g_b2
  have go102 := go97.st T99 (mkF m 160 #[vJ q0, sc, vR b2] [(sJ (10000 : Int64)), sJ q0, (sI (14 : Int32)), sR b2]) (fun t k => by
    refine st99 _ ?_
    show SP p e below T99 (mkF m 153 #[vJ q0, sc, vR b2] []) _
    refine XS.aloadN X99.here hx rfl (hb hby d2_153) rfl rfl ?_
    refine XS.bipush X99.here hx rfl (hb hby d2_154) ?_
    refine XS.lloadN X99.here hx rfl (hb hby d2_156) rfl ?_
    refine X99.ldc2Long hx hown (mvT hZ (wD hw 28 rfl)) (g := (mkF m 157 #[vJ q0, sc, vR b2] [sJ q0, (sI (14 : Int32)), sR b2])) rfl (hb hby d2_157) _ ?_
    exact k)
  obtain ⟨_, _, ⟨T103, L103, k103, n103⟩, -, X103, ⟨Lc103, hQ103, l103, y103, z103⟩, st103⟩ := Jvm.LawKit.callS X99 hx (y := yN8) hown (mvT hZ (wD hw 11 rfl)) (mvT hZ (wD hw 12 rfl)) (mvT hZ (wD hw 7 rfl)) (mvT hZ (wD hw 13 rfl)) (by decide) (backOf (W := 2) (rm_d l Z a0 hw [] q0 (10000 : Int64) h99 n0 Z99 (by decide)) hZ (wD hw 13 rfl) (wD hw 7 rfl) (by decide) (by decide)) (g := (mkF m 160 #[vJ q0, sc, vR b2] [(sJ (10000 : Int64)), sJ q0, (sI (14 : Int32)), sR b2])) rfl (by rw [hml]; rfl) (argsL := [(.long q0), (.long (10000 : Int64))]) (rest := [(.int (14 : Int32)), (.ref b2)]) (lenOf pd_rm_text_0 rfl) rfl (by show 2 * 0 + _ ≤ _; exact Nat.le_of_eq rfl) (hb hby d2_160) (fun _ _ => ⟨rfl, e99, (by decide : 1 + 0 ≤ _), (by decide : 19 + 0 ≤ _)⟩)
  dsimp only [Pt.U, Pt.locs, Pt.cells, Pt.slots] at X103 l103 y103 z103 st103 hQ103
  rw [l103, y103, z103] at X103
  obtain ⟨rfl, N103q, e103⟩ := hQ103
  have N103 := Fr.app N99 N103q
  have go104 := go102.st T103 (mkF m 163 #[vJ q0, sc, vR b2] [(sI (own_d q0 (10000 : Int64))), (sI (14 : Int32)), sR b2]) (fun t k => by
    refine st103 _ ?_
    exact k)
  have Vo105 := V99
  obtain ⟨cl105, Ar105, qa105, Sa105, Na105, Ha105, Ga105⟩ := Vo105
  have hin105 := inb_of (j := (14 : Int32)) Sa105 ⟨by decide, by decide⟩
  obtain ⟨T106, h106, X106, e106, W106, st106⟩ := stC X103 hx hZ e103 Ar105 (j := (14 : Int32)) hin105 (g := (mkF m 163 #[vJ q0, sc, vR b2] [(sI (own_d q0 (10000 : Int64))), (sI (14 : Int32)), sR b2])) rfl rfl (hb hby d2_163)
  have V106 : Arv Z h106 b2 k2 .char (19 : Int32) [(.int (nar .char (own_d q0 (1000000000000000000 : Int64)))), (.int (nar .char (own_d q0 (100000000000000000 : Int64)))), (.int (nar .char (own_d q0 (10000000000000000 : Int64)))), (.int (nar .char (own_d q0 (1000000000000000 : Int64)))), (.int (nar .char (own_d q0 (100000000000000 : Int64)))), (.int (nar .char (own_d q0 (10000000000000 : Int64)))), (.int (nar .char (own_d q0 (1000000000000 : Int64)))), (.int (nar .char (own_d q0 (100000000000 : Int64)))), (.int (nar .char (own_d q0 (10000000000 : Int64)))), (.int (nar .char (own_d q0 (1000000000 : Int64)))), (.int (nar .char (own_d q0 (100000000 : Int64)))), (.int (nar .char (own_d q0 (10000000 : Int64)))), (.int (nar .char (own_d q0 (1000000 : Int64)))), (.int (nar .char (own_d q0 (100000 : Int64)))), (.int (nar .char (own_d q0 (10000 : Int64)))), (.int (0 : Int32)), (.int (0 : Int32)), (.int (0 : Int32)), (.int (0 : Int32))] (.int (0 : Int32)) := Arv.set Ar105 qa105 Sa105 Na105 Ha105 Ga105 (fits_nar_char _) W106 14 rfl (Nat.le_of_ble_eq_true rfl)
  have f107 := Old.wr f100 W106 g_b2
  have Z106 : n0 ≤ h106.size := Nat.le_trans Z99 (Nat.le_of_eq W106.size.symm)
  have K106 := K99.wr W106 (Or.inr sz_b2)
  have N106 := Fr.snoc X106 N103 g_b2
  have go109 := go104.st T106 (mkF m 171 #[vJ q0, sc, vR b2] [(sJ (1000 : Int64)), sJ q0, (sI (15 : Int32)), sR b2]) (fun t k => by
    refine st106 _ ?_
    show SP p e below T106 (mkF m 164 #[vJ q0, sc, vR b2] []) _
    refine XS.aloadN X106.here hx rfl (hb hby d2_164) rfl rfl ?_
    refine XS.bipush X106.here hx rfl (hb hby d2_165) ?_
    refine XS.lloadN X106.here hx rfl (hb hby d2_167) rfl ?_
    refine X106.ldc2Long hx hown (mvT hZ (wD hw 29 rfl)) (g := (mkF m 168 #[vJ q0, sc, vR b2] [sJ q0, (sI (15 : Int32)), sR b2])) rfl (hb hby d2_168) _ ?_
    exact k)
  obtain ⟨_, _, ⟨T110, L110, k110, n110⟩, -, X110, ⟨Lc110, hQ110, l110, y110, z110⟩, st110⟩ := Jvm.LawKit.callS X106 hx (y := yN8) hown (mvT hZ (wD hw 11 rfl)) (mvT hZ (wD hw 12 rfl)) (mvT hZ (wD hw 7 rfl)) (mvT hZ (wD hw 13 rfl)) (by decide) (backOf (W := 2) (rm_d l Z a0 hw [] q0 (1000 : Int64) h106 n0 Z106 (by decide)) hZ (wD hw 13 rfl) (wD hw 7 rfl) (by decide) (by decide)) (g := (mkF m 171 #[vJ q0, sc, vR b2] [(sJ (1000 : Int64)), sJ q0, (sI (15 : Int32)), sR b2])) rfl (by rw [hml]; rfl) (argsL := [(.long q0), (.long (1000 : Int64))]) (rest := [(.int (15 : Int32)), (.ref b2)]) (lenOf pd_rm_text_0 rfl) rfl (by show 2 * 0 + _ ≤ _; exact Nat.le_of_eq rfl) (hb hby d2_171) (fun _ _ => ⟨rfl, e106, (by decide : 1 + 0 ≤ _), (by decide : 19 + 0 ≤ _)⟩)
  dsimp only [Pt.U, Pt.locs, Pt.cells, Pt.slots] at X110 l110 y110 z110 st110 hQ110
  rw [l110, y110, z110] at X110
  obtain ⟨rfl, N110q, e110⟩ := hQ110
  have N110 := Fr.app N106 N110q
  have go111 := go109.st T110 (mkF m 174 #[vJ q0, sc, vR b2] [(sI (own_d q0 (1000 : Int64))), (sI (15 : Int32)), sR b2]) (fun t k => by
    refine st110 _ ?_
    exact k)
  have Vo112 := V106
  obtain ⟨cl112, Ar112, qa112, Sa112, Na112, Ha112, Ga112⟩ := Vo112
  have hin112 := inb_of (j := (15 : Int32)) Sa112 ⟨by decide, by decide⟩
  obtain ⟨T113, h113, X113, e113, W113, st113⟩ := stC X110 hx hZ e110 Ar112 (j := (15 : Int32)) hin112 (g := (mkF m 174 #[vJ q0, sc, vR b2] [(sI (own_d q0 (1000 : Int64))), (sI (15 : Int32)), sR b2])) rfl rfl (hb hby d2_174)
  have V113 : Arv Z h113 b2 k2 .char (19 : Int32) [(.int (nar .char (own_d q0 (1000000000000000000 : Int64)))), (.int (nar .char (own_d q0 (100000000000000000 : Int64)))), (.int (nar .char (own_d q0 (10000000000000000 : Int64)))), (.int (nar .char (own_d q0 (1000000000000000 : Int64)))), (.int (nar .char (own_d q0 (100000000000000 : Int64)))), (.int (nar .char (own_d q0 (10000000000000 : Int64)))), (.int (nar .char (own_d q0 (1000000000000 : Int64)))), (.int (nar .char (own_d q0 (100000000000 : Int64)))), (.int (nar .char (own_d q0 (10000000000 : Int64)))), (.int (nar .char (own_d q0 (1000000000 : Int64)))), (.int (nar .char (own_d q0 (100000000 : Int64)))), (.int (nar .char (own_d q0 (10000000 : Int64)))), (.int (nar .char (own_d q0 (1000000 : Int64)))), (.int (nar .char (own_d q0 (100000 : Int64)))), (.int (nar .char (own_d q0 (10000 : Int64)))), (.int (nar .char (own_d q0 (1000 : Int64)))), (.int (0 : Int32)), (.int (0 : Int32)), (.int (0 : Int32))] (.int (0 : Int32)) := Arv.set Ar112 qa112 Sa112 Na112 Ha112 Ga112 (fits_nar_char _) W113 15 rfl (Nat.le_of_ble_eq_true rfl)
  have f114 := Old.wr f107 W113 g_b2
  have Z113 : n0 ≤ h113.size := Nat.le_trans Z106 (Nat.le_of_eq W113.size.symm)
  have K113 := K106.wr W113 (Or.inr sz_b2)
  have N113 := Fr.snoc X113 N110 g_b2
  have go116 := go111.st T113 (mkF m 182 #[vJ q0, sc, vR b2] [(sJ (100 : Int64)), sJ q0, (sI (16 : Int32)), sR b2]) (fun t k => by
    refine st113 _ ?_
    show SP p e below T113 (mkF m 175 #[vJ q0, sc, vR b2] []) _
    refine XS.aloadN X113.here hx rfl (hb hby d2_175) rfl rfl ?_
    refine XS.bipush X113.here hx rfl (hb hby d2_176) ?_
    refine XS.lloadN X113.here hx rfl (hb hby d2_178) rfl ?_
    refine X113.ldc2Long hx hown (mvT hZ (wD hw 30 rfl)) (g := (mkF m 179 #[vJ q0, sc, vR b2] [sJ q0, (sI (16 : Int32)), sR b2])) rfl (hb hby d2_179) _ ?_
    exact k)
  obtain ⟨_, _, ⟨T117, L117, k117, n117⟩, -, X117, ⟨Lc117, hQ117, l117, y117, z117⟩, st117⟩ := Jvm.LawKit.callS X113 hx (y := yN8) hown (mvT hZ (wD hw 11 rfl)) (mvT hZ (wD hw 12 rfl)) (mvT hZ (wD hw 7 rfl)) (mvT hZ (wD hw 13 rfl)) (by decide) (backOf (W := 2) (rm_d l Z a0 hw [] q0 (100 : Int64) h113 n0 Z113 (by decide)) hZ (wD hw 13 rfl) (wD hw 7 rfl) (by decide) (by decide)) (g := (mkF m 182 #[vJ q0, sc, vR b2] [(sJ (100 : Int64)), sJ q0, (sI (16 : Int32)), sR b2])) rfl (by rw [hml]; rfl) (argsL := [(.long q0), (.long (100 : Int64))]) (rest := [(.int (16 : Int32)), (.ref b2)]) (lenOf pd_rm_text_0 rfl) rfl (by show 2 * 0 + _ ≤ _; exact Nat.le_of_eq rfl) (hb hby d2_182) (fun _ _ => ⟨rfl, e113, (by decide : 1 + 0 ≤ _), (by decide : 19 + 0 ≤ _)⟩)
  dsimp only [Pt.U, Pt.locs, Pt.cells, Pt.slots] at X117 l117 y117 z117 st117 hQ117
  rw [l117, y117, z117] at X117
  obtain ⟨rfl, N117q, e117⟩ := hQ117
  have N117 := Fr.app N113 N117q
  have go118 := go116.st T117 (mkF m 185 #[vJ q0, sc, vR b2] [(sI (own_d q0 (100 : Int64))), (sI (16 : Int32)), sR b2]) (fun t k => by
    refine st117 _ ?_
    exact k)
  have Vo119 := V113
  obtain ⟨cl119, Ar119, qa119, Sa119, Na119, Ha119, Ga119⟩ := Vo119
  have hin119 := inb_of (j := (16 : Int32)) Sa119 ⟨by decide, by decide⟩
  obtain ⟨T120, h120, X120, e120, W120, st120⟩ := stC X117 hx hZ e117 Ar119 (j := (16 : Int32)) hin119 (g := (mkF m 185 #[vJ q0, sc, vR b2] [(sI (own_d q0 (100 : Int64))), (sI (16 : Int32)), sR b2])) rfl rfl (hb hby d2_185)
  have V120 : Arv Z h120 b2 k2 .char (19 : Int32) [(.int (nar .char (own_d q0 (1000000000000000000 : Int64)))), (.int (nar .char (own_d q0 (100000000000000000 : Int64)))), (.int (nar .char (own_d q0 (10000000000000000 : Int64)))), (.int (nar .char (own_d q0 (1000000000000000 : Int64)))), (.int (nar .char (own_d q0 (100000000000000 : Int64)))), (.int (nar .char (own_d q0 (10000000000000 : Int64)))), (.int (nar .char (own_d q0 (1000000000000 : Int64)))), (.int (nar .char (own_d q0 (100000000000 : Int64)))), (.int (nar .char (own_d q0 (10000000000 : Int64)))), (.int (nar .char (own_d q0 (1000000000 : Int64)))), (.int (nar .char (own_d q0 (100000000 : Int64)))), (.int (nar .char (own_d q0 (10000000 : Int64)))), (.int (nar .char (own_d q0 (1000000 : Int64)))), (.int (nar .char (own_d q0 (100000 : Int64)))), (.int (nar .char (own_d q0 (10000 : Int64)))), (.int (nar .char (own_d q0 (1000 : Int64)))), (.int (nar .char (own_d q0 (100 : Int64)))), (.int (0 : Int32)), (.int (0 : Int32))] (.int (0 : Int32)) := Arv.set Ar119 qa119 Sa119 Na119 Ha119 Ga119 (fits_nar_char _) W120 16 rfl (Nat.le_of_ble_eq_true rfl)
  have f121 := Old.wr f114 W120 g_b2
  have Z120 : n0 ≤ h120.size := Nat.le_trans Z113 (Nat.le_of_eq W120.size.symm)
  have K120 := K113.wr W120 (Or.inr sz_b2)
  have N120 := Fr.snoc X120 N117 g_b2
  have go123 := go118.st T120 (mkF m 193 #[vJ q0, sc, vR b2] [(sJ (10 : Int64)), sJ q0, (sI (17 : Int32)), sR b2]) (fun t k => by
    refine st120 _ ?_
    show SP p e below T120 (mkF m 186 #[vJ q0, sc, vR b2] []) _
    refine XS.aloadN X120.here hx rfl (hb hby d2_186) rfl rfl ?_
    refine XS.bipush X120.here hx rfl (hb hby d2_187) ?_
    refine XS.lloadN X120.here hx rfl (hb hby d2_189) rfl ?_
    refine X120.ldc2Long hx hown (mvT hZ (wD hw 14 rfl)) (g := (mkF m 190 #[vJ q0, sc, vR b2] [sJ q0, (sI (17 : Int32)), sR b2])) rfl (hb hby d2_190) _ ?_
    exact k)
  obtain ⟨_, _, ⟨T124, L124, k124, n124⟩, -, X124, ⟨Lc124, hQ124, l124, y124, z124⟩, st124⟩ := Jvm.LawKit.callS X120 hx (y := yN8) hown (mvT hZ (wD hw 11 rfl)) (mvT hZ (wD hw 12 rfl)) (mvT hZ (wD hw 7 rfl)) (mvT hZ (wD hw 13 rfl)) (by decide) (backOf (W := 2) (rm_d l Z a0 hw [] q0 (10 : Int64) h120 n0 Z120 (by decide)) hZ (wD hw 13 rfl) (wD hw 7 rfl) (by decide) (by decide)) (g := (mkF m 193 #[vJ q0, sc, vR b2] [(sJ (10 : Int64)), sJ q0, (sI (17 : Int32)), sR b2])) rfl (by rw [hml]; rfl) (argsL := [(.long q0), (.long (10 : Int64))]) (rest := [(.int (17 : Int32)), (.ref b2)]) (lenOf pd_rm_text_0 rfl) rfl (by show 2 * 0 + _ ≤ _; exact Nat.le_of_eq rfl) (hb hby d2_193) (fun _ _ => ⟨rfl, e120, (by decide : 1 + 0 ≤ _), (by decide : 19 + 0 ≤ _)⟩)
  dsimp only [Pt.U, Pt.locs, Pt.cells, Pt.slots] at X124 l124 y124 z124 st124 hQ124
  rw [l124, y124, z124] at X124
  obtain ⟨rfl, N124q, e124⟩ := hQ124
  have N124 := Fr.app N120 N124q
  have go125 := go123.st T124 (mkF m 196 #[vJ q0, sc, vR b2] [(sI (own_d q0 (10 : Int64))), (sI (17 : Int32)), sR b2]) (fun t k => by
    refine st124 _ ?_
    exact k)
  have Vo126 := V120
  obtain ⟨cl126, Ar126, qa126, Sa126, Na126, Ha126, Ga126⟩ := Vo126
  have hin126 := inb_of (j := (17 : Int32)) Sa126 ⟨by decide, by decide⟩
  obtain ⟨T127, h127, X127, e127, W127, st127⟩ := stC X124 hx hZ e124 Ar126 (j := (17 : Int32)) hin126 (g := (mkF m 196 #[vJ q0, sc, vR b2] [(sI (own_d q0 (10 : Int64))), (sI (17 : Int32)), sR b2])) rfl rfl (hb hby d2_196)
  have V127 : Arv Z h127 b2 k2 .char (19 : Int32) [(.int (nar .char (own_d q0 (1000000000000000000 : Int64)))), (.int (nar .char (own_d q0 (100000000000000000 : Int64)))), (.int (nar .char (own_d q0 (10000000000000000 : Int64)))), (.int (nar .char (own_d q0 (1000000000000000 : Int64)))), (.int (nar .char (own_d q0 (100000000000000 : Int64)))), (.int (nar .char (own_d q0 (10000000000000 : Int64)))), (.int (nar .char (own_d q0 (1000000000000 : Int64)))), (.int (nar .char (own_d q0 (100000000000 : Int64)))), (.int (nar .char (own_d q0 (10000000000 : Int64)))), (.int (nar .char (own_d q0 (1000000000 : Int64)))), (.int (nar .char (own_d q0 (100000000 : Int64)))), (.int (nar .char (own_d q0 (10000000 : Int64)))), (.int (nar .char (own_d q0 (1000000 : Int64)))), (.int (nar .char (own_d q0 (100000 : Int64)))), (.int (nar .char (own_d q0 (10000 : Int64)))), (.int (nar .char (own_d q0 (1000 : Int64)))), (.int (nar .char (own_d q0 (100 : Int64)))), (.int (nar .char (own_d q0 (10 : Int64)))), (.int (0 : Int32))] (.int (0 : Int32)) := Arv.set Ar126 qa126 Sa126 Na126 Ha126 Ga126 (fits_nar_char _) W127 17 rfl (Nat.le_of_ble_eq_true rfl)
  have f128 := Old.wr f121 W127 g_b2
  have Z127 : n0 ≤ h127.size := Nat.le_trans Z120 (Nat.le_of_eq W127.size.symm)
  have K127 := K120.wr W127 (Or.inr sz_b2)
  have N127 := Fr.snoc X127 N124 g_b2
  have go130 := go125.st T127 (mkF m 202 #[vJ q0, sc, vR b2] [(sJ (1 : Int64)), sJ q0, (sI (18 : Int32)), sR b2]) (fun t k => by
    refine st127 _ ?_
    show SP p e below T127 (mkF m 197 #[vJ q0, sc, vR b2] []) _
    refine XS.aloadN X127.here hx rfl (hb hby d2_197) rfl rfl ?_
    refine XS.bipush X127.here hx rfl (hb hby d2_198) ?_
    refine XS.lloadN X127.here hx rfl (hb hby d2_200) rfl ?_
    refine XS.lconst X127.here hx rfl (hb hby d2_201) ?_
    exact k)
  obtain ⟨_, _, ⟨T131, L131, k131, n131⟩, -, X131, ⟨Lc131, hQ131, l131, y131, z131⟩, st131⟩ := Jvm.LawKit.callS X127 hx (y := yN8) hown (mvT hZ (wD hw 11 rfl)) (mvT hZ (wD hw 12 rfl)) (mvT hZ (wD hw 7 rfl)) (mvT hZ (wD hw 13 rfl)) (by decide) (backOf (W := 2) (rm_d l Z a0 hw [] q0 (1 : Int64) h127 n0 Z127 (by decide)) hZ (wD hw 13 rfl) (wD hw 7 rfl) (by decide) (by decide)) (g := (mkF m 202 #[vJ q0, sc, vR b2] [(sJ (1 : Int64)), sJ q0, (sI (18 : Int32)), sR b2])) rfl (by rw [hml]; rfl) (argsL := [(.long q0), (.long (1 : Int64))]) (rest := [(.int (18 : Int32)), (.ref b2)]) (lenOf pd_rm_text_0 rfl) rfl (by show 2 * 0 + _ ≤ _; exact Nat.le_of_eq rfl) (hb hby d2_202) (fun _ _ => ⟨rfl, e127, (by decide : 1 + 0 ≤ _), (by decide : 19 + 0 ≤ _)⟩)
  dsimp only [Pt.U, Pt.locs, Pt.cells, Pt.slots] at X131 l131 y131 z131 st131 hQ131
  rw [l131, y131, z131] at X131
  obtain ⟨rfl, N131q, e131⟩ := hQ131
  have N131 := Fr.app N127 N131q
  have go132 := go130.st T131 (mkF m 205 #[vJ q0, sc, vR b2] [(sI (own_d q0 (1 : Int64))), (sI (18 : Int32)), sR b2]) (fun t k => by
    refine st131 _ ?_
    exact k)
  have Vo133 := V127
  obtain ⟨cl133, Ar133, qa133, Sa133, Na133, Ha133, Ga133⟩ := Vo133
  have hin133 := inb_of (j := (18 : Int32)) Sa133 ⟨by decide, by decide⟩
  obtain ⟨T134, h134, X134, e134, W134, st134⟩ := stC X131 hx hZ e131 Ar133 (j := (18 : Int32)) hin133 (g := (mkF m 205 #[vJ q0, sc, vR b2] [(sI (own_d q0 (1 : Int64))), (sI (18 : Int32)), sR b2])) rfl rfl (hb hby d2_205)
  have V134 : Arv Z h134 b2 k2 .char (19 : Int32) [(.int (nar .char (own_d q0 (1000000000000000000 : Int64)))), (.int (nar .char (own_d q0 (100000000000000000 : Int64)))), (.int (nar .char (own_d q0 (10000000000000000 : Int64)))), (.int (nar .char (own_d q0 (1000000000000000 : Int64)))), (.int (nar .char (own_d q0 (100000000000000 : Int64)))), (.int (nar .char (own_d q0 (10000000000000 : Int64)))), (.int (nar .char (own_d q0 (1000000000000 : Int64)))), (.int (nar .char (own_d q0 (100000000000 : Int64)))), (.int (nar .char (own_d q0 (10000000000 : Int64)))), (.int (nar .char (own_d q0 (1000000000 : Int64)))), (.int (nar .char (own_d q0 (100000000 : Int64)))), (.int (nar .char (own_d q0 (10000000 : Int64)))), (.int (nar .char (own_d q0 (1000000 : Int64)))), (.int (nar .char (own_d q0 (100000 : Int64)))), (.int (nar .char (own_d q0 (10000 : Int64)))), (.int (nar .char (own_d q0 (1000 : Int64)))), (.int (nar .char (own_d q0 (100 : Int64)))), (.int (nar .char (own_d q0 (10 : Int64)))), (.int (nar .char (own_d q0 (1 : Int64))))] (.int (0 : Int32)) := Arv.set Ar133 qa133 Sa133 Na133 Ha133 Ga133 (fits_nar_char _) W134 18 rfl (Nat.le_of_ble_eq_true rfl)
  have f135 := Old.wr f128 W134 g_b2
  have Z134 : n0 ≤ h134.size := Nat.le_trans Z127 (Nat.le_of_eq W134.size.symm)
  have K134 := K127.wr W134 (Or.inr sz_b2)
  have N134 := Fr.snoc X134 N131 g_b2
  have go137 := go132.st T134 (mkF m 206 #[vJ q0, sc, vR b2] []) (fun t k => by
    refine st134 _ ?_
    exact k)
  obtain ⟨T138, h138, X138, e138, E138, A138, D138, -, st138⟩ := newO X134 hx hZ hown (wD hw 31 rfl) (wD hw 32 rfl) (wD hw 33 rfl) e134 (g := (mkF m 206 #[vJ q0, sc, vR b2] [])) rfl (hb hby d2_206) (by decide) (by decide)
  obtain ⟨b138, g138⟩ : ∃ z, z = h134.size := ⟨_, rfl⟩
  rw [← g138] at A138 D138 st138
  have ne_b2_b138 : b2 ≠ b138 := Nat.ne_of_lt (Nat.lt_of_lt_of_le V134.lt (Nat.le_of_eq g138.symm))
  have g_b138 : n0 ≤ b138 := Nat.le_trans Z134 (Nat.le_of_eq g138.symm)
  have sz_b138 : h0.size ≤ b138 := Nat.le_trans K134.1 (Nat.le_of_eq g138.symm)
  have f139 := Old.ext f135 E138
  have f140 := V134.ext E138
  have F138_coder : Fld Z h138 b138 "java/lang/String" "coder" "B" (.int (0 : Int32)) := D138 (Or.inr (wD hw 57 rfl)) (ty := .byte) (by decide)
  have F138_value : Fld Z h138 b138 "java/lang/String" "value" "[B" .null := D138 (Or.inr (wD hw 59 rfl)) (ty := (.array .byte)) (by decide)
  have Z138 : n0 ≤ h138.size := Nat.le_trans Z134 E138.1
  have K138 := K134.ext E138
  have go141 := go137.st T138 (mkF m 211 #[vJ q0, sc, vR b2] [sR b2, sR b138, sR b138]) (fun t k => by
    refine st138 _ ?_
    show SP p e below T138 (mkF m 209 #[vJ q0, sc, vR b2] [sR b138]) _
    refine XS.dup X138.here hx rfl (hb hby d2_209) rfl rfl ?_
    refine XS.aloadN X138.here hx rfl (hb hby d2_210) rfl rfl ?_
    exact k)
  obtain ⟨_, _, ⟨T142, L142, k142, n142⟩, -, X142, ⟨Lc142, hQ142, l142, y142, z142⟩, st142⟩ := X138.specialBack hx (y := yN13) rfl hown (mvT hZ (wD hw 34 rfl)) (mvT hZ (wD hw 35 rfl)) (mvT hZ (wD hw 36 rfl)) (by decide) (backOf (W := 1) (rm_si1 l Z a0 hw [] b138 b2 cs k2 [(.int (nar .char (own_d q0 (1000000000000000000 : Int64)))), (.int (nar .char (own_d q0 (100000000000000000 : Int64)))), (.int (nar .char (own_d q0 (10000000000000000 : Int64)))), (.int (nar .char (own_d q0 (1000000000000000 : Int64)))), (.int (nar .char (own_d q0 (100000000000000 : Int64)))), (.int (nar .char (own_d q0 (10000000000000 : Int64)))), (.int (nar .char (own_d q0 (1000000000000 : Int64)))), (.int (nar .char (own_d q0 (100000000000 : Int64)))), (.int (nar .char (own_d q0 (10000000000 : Int64)))), (.int (nar .char (own_d q0 (1000000000 : Int64)))), (.int (nar .char (own_d q0 (100000000 : Int64)))), (.int (nar .char (own_d q0 (10000000 : Int64)))), (.int (nar .char (own_d q0 (1000000 : Int64)))), (.int (nar .char (own_d q0 (100000 : Int64)))), (.int (nar .char (own_d q0 (10000 : Int64)))), (.int (nar .char (own_d q0 (1000 : Int64)))), (.int (nar .char (own_d q0 (100 : Int64)))), (.int (nar .char (own_d q0 (10 : Int64)))), (.int (nar .char (own_d q0 (1 : Int64))))] q0 h138 n0 Z138 f139 S_cs hcs A138 g_b138 F138_value F138_coder f140 (own_cv q0) hq (Ne.symm ne_b2_b138)) hZ (wD hw 36 rfl) (wD hw 33 rfl) (by decide) (by decide)) (g := (mkF m 211 #[vJ q0, sc, vR b2] [sR b2, sR b138, sR b138])) rfl (by rw [hml]; rfl) (Steps.refl _) (a := b138) (argsL := [(.ref b2)]) (rest := [(.ref b138)]) (lenOf pd_rm_text_1 rfl) rfl (by show 2 * 0 + _ ≤ _; exact Nat.le_of_eq rfl) (hb hby d2_211) (fun _ _ => ⟨rfl, e138, (by decide : 2 + 1 ≤ _), (by decide : 23 + 19 ≤ _)⟩)
  dsimp only [Pt.U, Pt.locs, Pt.cells, Pt.slots] at X142 l142 y142 z142 st142 hQ142
  rw [l142, y142, z142] at X142
  obtain ⟨vb_142, kb_142, vs_142, rfl, N142q, K142, qp142_0, qp142_1, qp142_2, qp142_3, qp142_4, qp142_5, qp142_6⟩ := hQ142
  have N142 := Fr.app N134 N142q
  have f143 := Old.keep f139 K142 (allS g_b138 all0)
  have f144 := f140.keep K142 (ninS ne_b2_b138 nin0)
  have f145 := A138.keep K142
  have Z142 : n0 ≤ T142.heap.size := Nat.le_trans Z138 K142.1
  have KK142 := K138.trans K142 (allS (Or.inr sz_b138) all0)
  have g_vb_142 := qp142_0
  have sz_vb_142 := Nat.le_trans K138.1 qp142_1
  have ne_b2_vb_142 : b2 ≠ vb_142 := Nat.ne_of_lt (Nat.lt_of_lt_of_le f140.lt qp142_1)
  have ne_b138_vb_142 : b138 ≠ vb_142 := Nat.ne_of_lt (Nat.lt_of_lt_of_le A138.lt qp142_1)
  have go148 := go141.st T142 (mkF m 214 #[vJ q0, sc, vR b2] [sR b138]) (fun t k => by
    refine st142.trans ?_
    exact k)
  obtain ⟨fs, hr, hrun, hended, hW, hsame⟩ := X142.leave (v := some (.ref b138)) (fun h => by rw [Bd.returns] at h; cases h)
  refine ⟨_, _, go148 _ ?_, hrun, hended, _, _, rfl, ?_, ⟨_, rfl⟩, hW, hsame.mono (by decide) (by decide)⟩
  · exact own_retA X142 hx Bd.returns rfl rfl (hb hby d2_214) hr
  · show Q_rm_text Z q0 cs h0 n0 _ T142.heap _
    exact ⟨b138, vb_142, kb_142, vs_142, rfl, N142, KK142, g_b138, sz_b138, g_vb_142, sz_vb_142, qp142_2, qp142_3, qp142_4, qp142_5, qp142_6⟩
theorem d16_0 : decode jdk_42_method_154_code 0 = .ok (.getstatic 38, 3) := by decide +kernel
theorem d16_3 : decode jdk_42_method_154_code 3 = .ok (.ifCond .eq 14, 3) := by decide +kernel
theorem d16_6 : decode jdk_42_method_154_code 6 = .ok (.aload_n 0, 1) := by decide +kernel
theorem d16_7 : decode jdk_42_method_154_code 7 = .ok (.getfield 15, 3) := by decide +kernel
theorem d16_10 : decode jdk_42_method_154_code 10 = .ok (.ifCond .ne 7, 3) := by decide +kernel
theorem d16_13 : decode jdk_42_method_154_code 13 = .ok (.iconst 1, 1) := by decide +kernel
theorem d16_14 : decode jdk_42_method_154_code 14 = .ok (.goto 4, 3) := by decide +kernel
theorem d16_18 : decode jdk_42_method_154_code 18 = .ok (.ireturn, 1) := by decide +kernel
theorem pn_rm_lat : plainName "java/lang/String" = true := by first | (simp [plainName, overriddenIn]; done) | decide +kernel
theorem ef_rm_lat (m : MethodId) (o0 : Addr) : entryFrame m #[(.ref o0)] 1 = mkF m 0 #[.val (.ref o0)] [] := by first | (simp [entryFrame, mkF, argsToLocals, Value.category]; done) | rfl
def Q_rm_lat (Z : State) (o0 : Addr) (cs : Int32) (h0 : Heap) (n0 : Nat) (v : Option Value) (h : Heap) (L : List Loc) : Prop := v = some (.int (1 : Int32)) ∧ Fr n0 L ∧ h = h0
set_option maxRecDepth 65536 in
set_option maxHeartbeats 40000000 in
theorem rm_lat (l : Launch) (Z : State) (a0 : Array Value) (hw : ∀ d ∈ tables_1, d.before a0 Z = true) (ws : List Jvm.Cond) (o0 : Addr) (cs : Int32) (h0 : Heap) (n0 : Nat) (Z0 : n0 ≤ h0.size) (Ol : Old Z n0 h0) (S_cs : Sta Z Z.heap "java/lang/String" "COMPACT_STRINGS" "Z" (.int cs)) (hcs : ¬ cs = (0 : Int32)) (F_coder_o0 : Fld Z h0 o0 "java/lang/String" "coder" "B" (.int (0 : Int32))) :
    MetFree l yN15 (head1 (Jvm.Cond.code yN15 jdk_42_method_154_code 1 (some .boolean) :: ws) ({ frames := 0, cells := 0, slots := 0, locals := 0 } : Room)) (fun a U => a = #[(.ref o0)] ∧ Z.Warmed39 U.vm ∧ U.heap = h0) (fun _ _ _ _ _ => True) (fun _ U o U' => ∃ v L, o = .returned v ∧ Q_rm_lat Z o0 cs h0 n0 v U'.heap L ∧ FrameEnd U o U' L ({ frames := 0, cells := 0, slots := 0, locals := 0 } : Room).cells ({ frames := 0, cells := 0, slots := 0, locals := 0 } : Room).slots) := by
  refine MetFree.of_bodySF (plainFor_of_name pn_rm_lat) hisR ?_
  intro p e s m args below meth c s₁ Bd hml0 hP hK
  obtain ⟨rfl, hZ, hh⟩ := hP
  have hx := Bd.exec
  have hby := Bd.bytes
  have hml : c.maxLocals = 1 := hml0
  have hown : s.vm.findClass "java/lang/String" = some m.cls := findClass_of_methodNamed Bd.named
  have hnm := (name_of_methodNamed Bd.named Bd.method).1
  have X0 : Stand p l e ({ frames := 0, cells := 0, slots := 0, locals := 0 } : Room) s m #[(.ref o0)] below meth c s₁ [] 0 0 := Stand.of_body Bd
  have e0 : s₁.heap = h0 := by rw [← hh, Bd.state]; rfl
  have N0 := Fr.nil n0
  have K0 := Keep.refl h0 []
  have go0 : Go p e below (s₁.setTop (entryFrame m #[(.ref o0)] 1)) (s₁.setTop (mkF m 0 #[vR o0] [])) := fun t k => castTop (ef_rm_lat m o0) k
  have f1 := S_cs.ext Ol.2
  obtain ⟨T2, X2, e2, st2⟩ := getS2 X0 hx hZ hown (host := "") (Or.inl (wD hw 44 rfl)) Via.refl e0 f1 (g := (mkF m 0 #[vR o0] [])) rfl (hb hby d16_0)
  have go4 := go0.st T2 (mkF m 7 #[vR o0] [sR o0]) (fun t k => by
    refine st2 _ ?_
    show SP p e below T2 (mkF m 3 #[vR o0] [sI cs]) _
    refine XS.ifNo X2.here hx rfl (hb hby d16_3) rfl ((if0 _ _).trans (feq (hcs : ¬ (cs = (0 : Int32)))).1) ?_
    refine XS.aloadN X2.here hx rfl (hb hby d16_6) rfl rfl ?_
    exact k)
  obtain ⟨T5, X5, e5, st5⟩ := getF X2 hx hZ hown (host := "") (Or.inl (wD hw 56 rfl)) Via.refl e2 F_coder_o0 (g := (mkF m 7 #[vR o0] [sR o0])) rfl rfl (hb hby d16_7)
  have go7 := go4.st T5 (mkF m 18 #[vR o0] [sI i1]) (fun t k => by
    refine st5 _ ?_
    show SP p e below T5 (mkF m 10 #[vR o0] [sI i0]) _
    refine XS.ifNo X5.here hx rfl (hb hby d16_10) rfl ((if0 _ _).trans (teq ((by decide) : (0 : Int32) = (0 : Int32))).2) ?_
    refine XS.iconst X5.here hx rfl (hb hby d16_13) ?_
    refine XS.goto X5.here hx rfl (pc0 := 14) (pc' := 18) rfl (hb hby d16_14) (by decide) (by decide) ?_
    exact k)
  obtain ⟨fs, hr, hrun, hended, hW, hsame⟩ := X5.leave (v := some (.int (1 : Int32))) (fun h => by rw [Bd.returns] at h; cases h)
  refine ⟨_, _, go7 _ ?_, hrun, hended, _, _, rfl, ?_, ⟨_, rfl⟩, hW, hsame.mono (by decide) (by decide)⟩
  · exact retN X5 hx (t := .boolean) Bd.returns (by simp) (hb hby d16_18) hr
  · show Q_rm_lat Z o0 cs h0 n0 _ T5.heap _
    rw [e5]
    exact ⟨rfl, N0, rfl⟩
theorem d13_0 : decode jdk_42_method_152_code 0 = .ok (.getstatic 38, 3) := by decide +kernel
theorem d13_3 : decode jdk_42_method_152_code 3 = .ok (.ifCond .eq 10, 3) := by decide +kernel
theorem d13_6 : decode jdk_42_method_152_code 6 = .ok (.aload_n 0, 1) := by decide +kernel
theorem d13_7 : decode jdk_42_method_152_code 7 = .ok (.getfield 15, 3) := by decide +kernel
theorem d13_10 : decode jdk_42_method_152_code 10 = .ok (.goto 4, 3) := by decide +kernel
theorem d13_14 : decode jdk_42_method_152_code 14 = .ok (.ireturn, 1) := by decide +kernel
theorem pn_rm_coder : plainName "java/lang/String" = true := by first | (simp [plainName, overriddenIn]; done) | decide +kernel
theorem ef_rm_coder (m : MethodId) (o0 : Addr) : entryFrame m #[(.ref o0)] 1 = mkF m 0 #[.val (.ref o0)] [] := by first | (simp [entryFrame, mkF, argsToLocals, Value.category]; done) | rfl
def Q_rm_coder (Z : State) (o0 : Addr) (cs : Int32) (h0 : Heap) (n0 : Nat) (v : Option Value) (h : Heap) (L : List Loc) : Prop := v = some (.int (0 : Int32)) ∧ Fr n0 L ∧ h = h0
set_option maxRecDepth 65536 in
set_option maxHeartbeats 40000000 in
theorem rm_coder (l : Launch) (Z : State) (a0 : Array Value) (hw : ∀ d ∈ tables_1, d.before a0 Z = true) (ws : List Jvm.Cond) (o0 : Addr) (cs : Int32) (h0 : Heap) (n0 : Nat) (Z0 : n0 ≤ h0.size) (Ol : Old Z n0 h0) (S_cs : Sta Z Z.heap "java/lang/String" "COMPACT_STRINGS" "Z" (.int cs)) (hcs : ¬ cs = (0 : Int32)) (F_coder_o0 : Fld Z h0 o0 "java/lang/String" "coder" "B" (.int (0 : Int32))) :
    MetFree l yN16 (head1 (Jvm.Cond.code yN16 jdk_42_method_152_code 1 (some .byte) :: ws) ({ frames := 0, cells := 0, slots := 0, locals := 0 } : Room)) (fun a U => a = #[(.ref o0)] ∧ Z.Warmed39 U.vm ∧ U.heap = h0) (fun _ _ _ _ _ => True) (fun _ U o U' => ∃ v L, o = .returned v ∧ Q_rm_coder Z o0 cs h0 n0 v U'.heap L ∧ FrameEnd U o U' L ({ frames := 0, cells := 0, slots := 0, locals := 0 } : Room).cells ({ frames := 0, cells := 0, slots := 0, locals := 0 } : Room).slots) := by
  refine MetFree.of_bodySF (plainFor_of_name pn_rm_coder) hisR ?_
  intro p e s m args below meth c s₁ Bd hml0 hP hK
  obtain ⟨rfl, hZ, hh⟩ := hP
  have hx := Bd.exec
  have hby := Bd.bytes
  have hml : c.maxLocals = 1 := hml0
  have hown : s.vm.findClass "java/lang/String" = some m.cls := findClass_of_methodNamed Bd.named
  have hnm := (name_of_methodNamed Bd.named Bd.method).1
  have X0 : Stand p l e ({ frames := 0, cells := 0, slots := 0, locals := 0 } : Room) s m #[(.ref o0)] below meth c s₁ [] 0 0 := Stand.of_body Bd
  have e0 : s₁.heap = h0 := by rw [← hh, Bd.state]; rfl
  have N0 := Fr.nil n0
  have K0 := Keep.refl h0 []
  have go0 : Go p e below (s₁.setTop (entryFrame m #[(.ref o0)] 1)) (s₁.setTop (mkF m 0 #[vR o0] [])) := fun t k => castTop (ef_rm_coder m o0) k
  have f1 := S_cs.ext Ol.2
  obtain ⟨T2, X2, e2, st2⟩ := getS2 X0 hx hZ hown (host := "") (Or.inl (wD hw 44 rfl)) Via.refl e0 f1 (g := (mkF m 0 #[vR o0] [])) rfl (hb hby d13_0)
  have go4 := go0.st T2 (mkF m 7 #[vR o0] [sR o0]) (fun t k => by
    refine st2 _ ?_
    show SP p e below T2 (mkF m 3 #[vR o0] [sI cs]) _
    refine XS.ifNo X2.here hx rfl (hb hby d13_3) rfl ((if0 _ _).trans (feq (hcs : ¬ (cs = (0 : Int32)))).1) ?_
    refine XS.aloadN X2.here hx rfl (hb hby d13_6) rfl rfl ?_
    exact k)
  obtain ⟨T5, X5, e5, st5⟩ := getF X2 hx hZ hown (host := "") (Or.inl (wD hw 56 rfl)) Via.refl e2 F_coder_o0 (g := (mkF m 7 #[vR o0] [sR o0])) rfl rfl (hb hby d13_7)
  have go6 := go4.st T5 (mkF m 14 #[vR o0] [sI i0]) (fun t k => by
    refine st5 _ ?_
    show SP p e below T5 (mkF m 10 #[vR o0] [sI i0]) _
    refine XS.goto X5.here hx rfl (pc0 := 10) (pc' := 14) rfl (hb hby d13_10) (by decide) (by decide) ?_
    exact k)
  obtain ⟨fs, hr, hrun, hended, hW, hsame⟩ := X5.leave (v := some (.int (nar .byte (0 : Int32)))) (fun h => by rw [Bd.returns] at h; cases h)
  refine ⟨_, _, go6 _ ?_, hrun, hended, _, _, rfl, ?_, ⟨_, rfl⟩, hW, hsame.mono (by decide) (by decide)⟩
  · exact retN X5 hx (t := .byte) Bd.returns (by simp) (hb hby d13_14) hr
  · show Q_rm_coder Z o0 cs h0 n0 _ T5.heap _
    rw [e5]
    exact ⟨by rw [own_n0], N0, rfl⟩
theorem d12_0 : decode jdk_42_method_54_code 0 = .ok (.aload_n 0, 1) := by decide +kernel
theorem d12_1 : decode jdk_42_method_54_code 1 = .ok (.getfield 9, 3) := by decide +kernel
theorem d12_4 : decode jdk_42_method_54_code 4 = .ok (.arraylength, 1) := by decide +kernel
theorem d12_5 : decode jdk_42_method_54_code 5 = .ok (.aload_n 0, 1) := by decide +kernel
theorem d12_6 : decode jdk_42_method_54_code 6 = .ok (.invokevirtual 335, 3) := by decide +kernel
theorem d12_9 : decode jdk_42_method_54_code 9 = .ok (.ishr, 1) := by decide +kernel
theorem d12_10 : decode jdk_42_method_54_code 10 = .ok (.ireturn, 1) := by decide +kernel
theorem pn_rm_len : plainName "java/lang/String" = true := by first | (simp [plainName, overriddenIn]; done) | decide +kernel
theorem pd_rm_len_0 : parseMethodDescriptor "()B" = some ⟨[], some .byte⟩ := by decide +kernel
theorem ef_rm_len (m : MethodId) (o0 : Addr) : entryFrame m #[(.ref o0)] 1 = mkF m 0 #[.val (.ref o0)] [] := by first | (simp [entryFrame, mkF, argsToLocals, Value.category]; done) | rfl
def Q_rm_len (Z : State) (o0 : Addr) (cs : Int32) (vb : Addr) (kb : ClassId) (vs : List Value) (h0 : Heap) (n0 : Nat) (v : Option Value) (h : Heap) (L : List Loc) : Prop := v = some (.int (19 : Int32)) ∧ Fr n0 L ∧ h = h0
set_option maxRecDepth 65536 in
set_option maxHeartbeats 40000000 in
theorem rm_len (l : Launch) (Z : State) (a0 : Array Value) (hw : ∀ d ∈ tables_1, d.before a0 Z = true) (ws : List Jvm.Cond) (o0 : Addr) (cs : Int32) (vb : Addr) (kb : ClassId) (vs : List Value) (h0 : Heap) (n0 : Nat) (Z0 : n0 ≤ h0.size) (Ol : Old Z n0 h0) (S_cs : Sta Z Z.heap "java/lang/String" "COMPACT_STRINGS" "Z" (.int cs)) (hcs : ¬ cs = (0 : Int32)) (E_o0 : Exa Z h0 o0 "java/lang/String") (F_coder_o0 : Fld Z h0 o0 "java/lang/String" "coder" "B" (.int (0 : Int32))) (F_value_o0 : Fld Z h0 o0 "java/lang/String" "value" "[B" (.ref vb)) (V_vb : Arv Z h0 vb kb .byte (19 : Int32) vs (.int (0 : Int32))) :
    MetFree l yN17 (head1 (Jvm.Cond.code yN17 jdk_42_method_54_code 1 (some .int) :: ws) ({ frames := 1, cells := 0, slots := 0, locals := 13 } : Room)) (fun a U => a = #[(.ref o0)] ∧ Z.Warmed39 U.vm ∧ U.heap = h0) (fun _ _ _ _ _ => True) (fun _ U o U' => ∃ v L, o = .returned v ∧ Q_rm_len Z o0 cs vb kb vs h0 n0 v U'.heap L ∧ FrameEnd U o U' L ({ frames := 1, cells := 0, slots := 0, locals := 13 } : Room).cells ({ frames := 1, cells := 0, slots := 0, locals := 13 } : Room).slots) := by
  refine MetFree.of_bodySF (plainFor_of_name pn_rm_len) hisR ?_
  intro p e s m args below meth c s₁ Bd hml0 hP hK
  obtain ⟨rfl, hZ, hh⟩ := hP
  have hx := Bd.exec
  have hby := Bd.bytes
  have hml : c.maxLocals = 1 := hml0
  have hown : s.vm.findClass "java/lang/String" = some m.cls := findClass_of_methodNamed Bd.named
  have hnm := (name_of_methodNamed Bd.named Bd.method).1
  have X0 : Stand p l e ({ frames := 1, cells := 0, slots := 0, locals := 13 } : Room) s m #[(.ref o0)] below meth c s₁ [] 0 0 := Stand.of_body Bd
  have e0 : s₁.heap = h0 := by rw [← hh, Bd.state]; rfl
  have N0 := Fr.nil n0
  have K0 := Keep.refl h0 []
  have go0 : Go p e below (s₁.setTop (entryFrame m #[(.ref o0)] 1)) (s₁.setTop (mkF m 0 #[vR o0] [])) := fun t k => castTop (ef_rm_len m o0) k
  have go1 := go0.st s₁ (mkF m 1 #[vR o0] [sR o0]) (fun t k => by
    refine XS.aloadN X0.here hx rfl (hb hby d12_0) rfl rfl ?_
    exact k)
  obtain ⟨T2, X2, e2, st2⟩ := getF X0 hx hZ hown (host := "") (Or.inl (wD hw 58 rfl)) Via.refl e0 F_value_o0 (g := (mkF m 1 #[vR o0] [sR o0])) rfl rfl (hb hby d12_1)
  have go3 := go1.st T2 (mkF m 4 #[vR o0] [sR vb]) (fun t k => by
    refine st2 _ ?_
    exact k)
  have Vo4 := V_vb
  obtain ⟨cl4, Ar4, qa4, Sa4, Na4, Ha4, Ga4⟩ := Vo4
  have go5 := go3.st T2 (mkF m 6 #[vR o0] [sR o0, (sI (19 : Int32))]) (fun t k => by
    refine X2.arraylength hx (by rw [e2]; exact Ar4.1) (State.isArrayOf_alike hZ.alike Ar4.2.1) (g := (mkF m 4 #[vR o0] [sR vb])) rfl rfl (hb hby d12_4) _ ?_
    rw [len_of Sa4 Na4]
    refine XS.aloadN X2.here hx rfl (hb hby d12_5) rfl rfl ?_
    exact k)
  obtain ⟨cq6, kq6, q6a, q6b, q6c⟩ := isOf hZ e2 E_o0
  obtain ⟨_, _, ⟨T6, L6, k6, n6⟩, -, X6, ⟨Lc6, hQ6, l6, y6, z6⟩, st6⟩ := X2.virtualBack hx (y := yN16) (z := yN16) hown (mvT hZ (wD hw 92 rfl)) (mvT hZ (wD hw 93 rfl)) (notFace_of_selects (args := #[]) (mvT hZ (wD hw 95 rfl))) (mvT hZ (wD hw 95 rfl)) (mvT hZ (wD hw 94 rfl)) (by decide) (backOf (W := 1) (rm_coder l Z a0 hw [] o0 cs h0 n0 Z0 Ol S_cs hcs F_coder_o0) hZ (wD hw 96 rfl) (wD hw 33 rfl) (by decide) (by decide)) q6a q6c (g := (mkF m 6 #[vR o0] [sR o0, (sI (19 : Int32))])) rfl (by rw [hml]; rfl) (Steps.refl _) (argsL := []) (rest := [(.int (19 : Int32))]) (lenOf pd_rm_len_0 rfl) rfl (by show 2 * 0 + _ ≤ _; exact Nat.le_of_eq rfl) (hb hby d12_6) (fun _ _ => ⟨rfl, e2, (by decide : 0 + 0 ≤ _), (by decide : 0 + 0 ≤ _)⟩)
  dsimp only [Pt.U, Pt.locs, Pt.cells, Pt.slots] at X6 l6 y6 z6 st6 hQ6
  rw [l6, y6, z6] at X6
  obtain ⟨rfl, N6q, e6⟩ := hQ6
  have N6 := Fr.app N0 N6q
  have go7 := go5.st T6 (mkF m 10 #[vR o0] [(sI (19 : Int32))]) (fun t k => by
    refine st6.trans ?_
    show SP p e below T6 (mkF m 9 #[vR o0] [sI i0, (sI (19 : Int32))]) _
    refine XS.ishr X6.here hx rfl (hb hby d12_9) rfl ?_
    exact k)
  obtain ⟨fs, hr, hrun, hended, hW, hsame⟩ := X6.leave (v := some (.int (19 : Int32))) (fun h => by rw [Bd.returns] at h; cases h)
  refine ⟨_, _, go7 _ ?_, hrun, hended, _, _, rfl, ?_, ⟨_, rfl⟩, hW, hsame.mono (by decide) (by decide)⟩
  · exact own_retI X6 hx Bd.returns (hb hby d12_10) hr
  · show Q_rm_len Z o0 cs vb kb vs h0 n0 _ T6.heap _
    rw [e6]
    exact ⟨rfl, N6, rfl⟩
theorem d26_0 : decode jdk_41_method_11_code 0 = .ok (.iload_n 0, 1) := by decide +kernel
theorem d26_1 : decode jdk_41_method_11_code 1 = .ok (.ifCond .lt 8, 3) := by decide +kernel
theorem d26_4 : decode jdk_41_method_11_code 4 = .ok (.iload_n 0, 1) := by decide +kernel
theorem d26_5 : decode jdk_41_method_11_code 5 = .ok (.iload_n 1, 1) := by decide +kernel
theorem d26_6 : decode jdk_41_method_11_code 6 = .ok (.if_icmp .lt 10, 3) := by decide +kernel
theorem d26_16 : decode jdk_41_method_11_code 16 = .ok (.iload_n 0, 1) := by decide +kernel
theorem d26_17 : decode jdk_41_method_11_code 17 = .ok (.ireturn, 1) := by decide +kernel
theorem pn_rmck_n : plainName "jdk/internal/util/Preconditions" = true := by first | (simp [plainName, overriddenIn]; done) | decide +kernel
theorem ef_rmck_n (m : MethodId) (p0 : Int32) (p1 : Int32) : entryFrame m #[(.int p0), (.int p1), .null] 3 = mkF m 0 #[.val (.int p0), .val (.int p1), .val .null] [] := by first | (simp [entryFrame, mkF, argsToLocals, Value.category]; done) | rfl
def Q_rmck_n (Z : State) (p0 : Int32) (p1 : Int32) (h0 : Heap) (n0 : Nat) (v : Option Value) (h : Heap) (L : List Loc) : Prop := v = some (.int p0) ∧ Fr n0 L ∧ h = h0
set_option maxRecDepth 65536 in
set_option maxHeartbeats 40000000 in
theorem rmck_n (l : Launch) (Z : State) (a0 : Array Value) (hw : ∀ d ∈ tables_1, d.before a0 Z = true) (ws : List Jvm.Cond) (p0 : Int32) (p1 : Int32) (h0 : Heap) (n0 : Nat) (Z0 : n0 ≤ h0.size) (hi0 : ¬ p0 < (0 : Int32)) (hi1 : p0 < p1) :
    MetFree l yN18 (head1 (Jvm.Cond.code yN18 jdk_41_method_11_code 3 (some .int) :: ws) ({ frames := 0, cells := 0, slots := 0, locals := 0 } : Room)) (fun a U => a = #[(.int p0), (.int p1), .null] ∧ Z.Warmed39 U.vm ∧ U.heap = h0) (fun _ _ _ _ _ => True) (fun _ U o U' => ∃ v L, o = .returned v ∧ Q_rmck_n Z p0 p1 h0 n0 v U'.heap L ∧ FrameEnd U o U' L ({ frames := 0, cells := 0, slots := 0, locals := 0 } : Room).cells ({ frames := 0, cells := 0, slots := 0, locals := 0 } : Room).slots) := by
  refine MetFree.of_bodySF (plainFor_of_name pn_rmck_n) hisR ?_
  intro p e s m args below meth c s₁ Bd hml0 hP hK
  obtain ⟨rfl, hZ, hh⟩ := hP
  have hx := Bd.exec
  have hby := Bd.bytes
  have hml : c.maxLocals = 3 := hml0
  have hown : s.vm.findClass "jdk/internal/util/Preconditions" = some m.cls := findClass_of_methodNamed Bd.named
  have hnm := (name_of_methodNamed Bd.named Bd.method).1
  have X0 : Stand p l e ({ frames := 0, cells := 0, slots := 0, locals := 0 } : Room) s m #[(.int p0), (.int p1), .null] below meth c s₁ [] 0 0 := Stand.of_body Bd
  have e0 : s₁.heap = h0 := by rw [← hh, Bd.state]; rfl
  have N0 := Fr.nil n0
  have K0 := Keep.refl h0 []
  have go0 : Go p e below (s₁.setTop (entryFrame m #[(.int p0), (.int p1), .null] 3)) (s₁.setTop (mkF m 0 #[vI p0, vI p1, .val .null] [])) := fun t k => castTop (ef_rmck_n m p0 p1) k
  have go3 := go0.st s₁ (mkF m 17 #[vI p0, vI p1, .val .null] [sI p0]) (fun t k => by
    refine XS.iloadN X0.here hx rfl (hb hby d26_0) rfl ?_
    refine XS.ifNo X0.here hx rfl (hb hby d26_1) rfl ((if0 _ _).trans (flt (hi0 : ¬ (p0 < (0 : Int32)))).1) ?_
    refine XS.iloadN X0.here hx rfl (hb hby d26_4) rfl ?_
    refine XS.iloadN X0.here hx rfl (hb hby d26_5) rfl ?_
    refine XS.icmpYes X0.here hx rfl (pc0 := 6) (pc' := 16) rfl (hb hby d26_6) rfl (tlt (hi1 : p0 < p1)).1 (by decide) (by decide) ?_
    refine XS.iloadN X0.here hx rfl (hb hby d26_16) rfl ?_
    exact k)
  obtain ⟨fs, hr, hrun, hended, hW, hsame⟩ := X0.leave (v := some (.int p0)) (fun h => by rw [Bd.returns] at h; cases h)
  refine ⟨_, _, go3 _ ?_, hrun, hended, _, _, rfl, ?_, ⟨_, rfl⟩, hW, hsame.mono (by decide) (by decide)⟩
  · exact own_retI X0 hx Bd.returns (hb hby d26_17) hr
  · show Q_rmck_n Z p0 p1 h0 n0 _ s₁.heap _
    rw [e0]
    exact ⟨rfl, N0, rfl⟩
theorem pn_rmck_r : plainName "jdk/internal/util/Preconditions" = true := by first | (simp [plainName, overriddenIn]; done) | decide +kernel
theorem ef_rmck_r (m : MethodId) (p0 : Int32) (p1 : Int32) (o2 : Addr) : entryFrame m #[(.int p0), (.int p1), (.ref o2)] 3 = mkF m 0 #[.val (.int p0), .val (.int p1), .val (.ref o2)] [] := by first | (simp [entryFrame, mkF, argsToLocals, Value.category]; done) | rfl
def Q_rmck_r (Z : State) (p0 : Int32) (p1 : Int32) (o2 : Addr) (h0 : Heap) (n0 : Nat) (v : Option Value) (h : Heap) (L : List Loc) : Prop := v = some (.int p0) ∧ Fr n0 L ∧ h = h0
set_option maxRecDepth 65536 in
set_option maxHeartbeats 40000000 in
theorem rmck_r (l : Launch) (Z : State) (a0 : Array Value) (hw : ∀ d ∈ tables_1, d.before a0 Z = true) (ws : List Jvm.Cond) (p0 : Int32) (p1 : Int32) (o2 : Addr) (h0 : Heap) (n0 : Nat) (Z0 : n0 ≤ h0.size) (hi0 : ¬ p0 < (0 : Int32)) (hi1 : p0 < p1) :
    MetFree l yN18 (head1 (Jvm.Cond.code yN18 jdk_41_method_11_code 3 (some .int) :: ws) ({ frames := 0, cells := 0, slots := 0, locals := 0 } : Room)) (fun a U => a = #[(.int p0), (.int p1), (.ref o2)] ∧ Z.Warmed39 U.vm ∧ U.heap = h0) (fun _ _ _ _ _ => True) (fun _ U o U' => ∃ v L, o = .returned v ∧ Q_rmck_r Z p0 p1 o2 h0 n0 v U'.heap L ∧ FrameEnd U o U' L ({ frames := 0, cells := 0, slots := 0, locals := 0 } : Room).cells ({ frames := 0, cells := 0, slots := 0, locals := 0 } : Room).slots) := by
  refine MetFree.of_bodySF (plainFor_of_name pn_rmck_r) hisR ?_
  intro p e s m args below meth c s₁ Bd hml0 hP hK
  obtain ⟨rfl, hZ, hh⟩ := hP
  have hx := Bd.exec
  have hby := Bd.bytes
  have hml : c.maxLocals = 3 := hml0
  have hown : s.vm.findClass "jdk/internal/util/Preconditions" = some m.cls := findClass_of_methodNamed Bd.named
  have hnm := (name_of_methodNamed Bd.named Bd.method).1
  have X0 : Stand p l e ({ frames := 0, cells := 0, slots := 0, locals := 0 } : Room) s m #[(.int p0), (.int p1), (.ref o2)] below meth c s₁ [] 0 0 := Stand.of_body Bd
  have e0 : s₁.heap = h0 := by rw [← hh, Bd.state]; rfl
  have N0 := Fr.nil n0
  have K0 := Keep.refl h0 []
  have go0 : Go p e below (s₁.setTop (entryFrame m #[(.int p0), (.int p1), (.ref o2)] 3)) (s₁.setTop (mkF m 0 #[vI p0, vI p1, vR o2] [])) := fun t k => castTop (ef_rmck_r m p0 p1 o2) k
  have go3 := go0.st s₁ (mkF m 17 #[vI p0, vI p1, vR o2] [sI p0]) (fun t k => by
    refine XS.iloadN X0.here hx rfl (hb hby d26_0) rfl ?_
    refine XS.ifNo X0.here hx rfl (hb hby d26_1) rfl ((if0 _ _).trans (flt (hi0 : ¬ (p0 < (0 : Int32)))).1) ?_
    refine XS.iloadN X0.here hx rfl (hb hby d26_4) rfl ?_
    refine XS.iloadN X0.here hx rfl (hb hby d26_5) rfl ?_
    refine XS.icmpYes X0.here hx rfl (pc0 := 6) (pc' := 16) rfl (hb hby d26_6) rfl (tlt (hi1 : p0 < p1)).1 (by decide) (by decide) ?_
    refine XS.iloadN X0.here hx rfl (hb hby d26_16) rfl ?_
    exact k)
  obtain ⟨fs, hr, hrun, hended, hW, hsame⟩ := X0.leave (v := some (.int p0)) (fun h => by rw [Bd.returns] at h; cases h)
  refine ⟨_, _, go3 _ ?_, hrun, hended, _, _, rfl, ?_, ⟨_, rfl⟩, hW, hsame.mono (by decide) (by decide)⟩
  · exact own_retI X0 hx Bd.returns (hb hby d26_17) hr
  · show Q_rmck_r Z p0 p1 o2 h0 n0 _ s₁.heap _
    rw [e0]
    exact ⟨rfl, N0, rfl⟩
theorem rmck (l : Launch) (Z : State) (a0 : Array Value) (hw : ∀ d ∈ tables_1, d.before a0 Z = true) (ws : List Jvm.Cond) (p0 : Int32) (p1 : Int32) (vf : Value) (h0 : Heap) (n0 : Nat) (Z0 : n0 ≤ h0.size) (hvf : vf.isRef = true) (hi0 : ¬ p0 < (0 : Int32)) (hi1 : p0 < p1) :
    MetFree l yN18 (head1 (Jvm.Cond.code yN18 jdk_41_method_11_code 3 (some .int) :: ws) ({ frames := 0, cells := 0, slots := 0, locals := 0 } : Room)) (fun a U => a = #[(.int p0), (.int p1), vf] ∧ Z.Warmed39 U.vm ∧ U.heap = h0) (fun _ _ _ _ _ => True) (fun _ U o U' => ∃ v L, o = .returned v ∧ Q_rmck_n Z p0 p1 h0 n0 v U'.heap L ∧ FrameEnd U o U' L ({ frames := 0, cells := 0, slots := 0, locals := 0 } : Room).cells ({ frames := 0, cells := 0, slots := 0, locals := 0 } : Room).slots) := by
  rcases ref_cases hvf with rfl | ⟨o2, rfl⟩
  · exact rmck_n l Z a0 hw ws p0 p1 h0 n0 Z0 hi0 hi1
  · exact rmck_r l Z a0 hw ws p0 p1 o2 h0 n0 Z0 hi0 hi1
theorem d25_0 : decode jdk_42_method_155_code 0 = .ok (.iload_n 0, 1) := by decide +kernel
theorem d25_1 : decode jdk_42_method_155_code 1 = .ok (.iload_n 1, 1) := by decide +kernel
theorem d25_2 : decode jdk_42_method_155_code 2 = .ok (.getstatic 1053, 3) := by decide +kernel
theorem d25_5 : decode jdk_42_method_155_code 5 = .ok (.invokestatic 1059, 3) := by decide +kernel
theorem d25_8 : decode jdk_42_method_155_code 8 = .ok (.pop, 1) := by decide +kernel
theorem d25_9 : decode jdk_42_method_155_code 9 = .ok (.return_, 1) := by decide +kernel
theorem pn_rm_ck : plainName "java/lang/String" = true := by first | (simp [plainName, overriddenIn]; done) | decide +kernel
theorem pd_rm_ck_0 : parseMethodDescriptor "(IILjava/util/function/BiFunction;)I" = some ⟨[.int, .int, (.object "java/util/function/BiFunction")], some .int⟩ := by decide +kernel
theorem ef_rm_ck (m : MethodId) (p0 : Int32) (p1 : Int32) : entryFrame m #[(.int p0), (.int p1)] 2 = mkF m 0 #[.val (.int p0), .val (.int p1)] [] := by first | (simp [entryFrame, mkF, argsToLocals, Value.category]; done) | rfl
def Q_rm_ck (Z : State) (p0 : Int32) (p1 : Int32) (vf : Value) (h0 : Heap) (n0 : Nat) (v : Option Value) (h : Heap) (L : List Loc) : Prop := v = none ∧ Fr n0 L ∧ h = h0
set_option maxRecDepth 65536 in
set_option maxHeartbeats 40000000 in
theorem rm_ck (l : Launch) (Z : State) (a0 : Array Value) (hw : ∀ d ∈ tables_1, d.before a0 Z = true) (ws : List Jvm.Cond) (p0 : Int32) (p1 : Int32) (vf : Value) (h0 : Heap) (n0 : Nat) (Z0 : n0 ≤ h0.size) (Ol : Old Z n0 h0) (S_sf : Sta Z Z.heap "jdk/internal/util/Preconditions" "SIOOBE_FORMATTER" "Ljava/util/function/BiFunction;" vf) (hvf : vf.isRef = true) (hi0 : ¬ p0 < (0 : Int32)) (hi1 : p0 < p1) :
    MetFree l yN19 (head1 (Jvm.Cond.code yN19 jdk_42_method_155_code 2 none :: ws) ({ frames := 1, cells := 0, slots := 0, locals := 14 } : Room)) (fun a U => a = #[(.int p0), (.int p1)] ∧ Z.Warmed39 U.vm ∧ U.heap = h0) (fun _ _ _ _ _ => True) (fun _ U o U' => ∃ v L, o = .returned v ∧ Q_rm_ck Z p0 p1 vf h0 n0 v U'.heap L ∧ FrameEnd U o U' L ({ frames := 1, cells := 0, slots := 0, locals := 14 } : Room).cells ({ frames := 1, cells := 0, slots := 0, locals := 14 } : Room).slots) := by
  refine MetFree.of_bodySF (plainFor_of_name pn_rm_ck) hisR ?_
  intro p e s m args below meth c s₁ Bd hml0 hP hK
  obtain ⟨rfl, hZ, hh⟩ := hP
  have hx := Bd.exec
  have hby := Bd.bytes
  have hml : c.maxLocals = 2 := hml0
  have hown : s.vm.findClass "java/lang/String" = some m.cls := findClass_of_methodNamed Bd.named
  have hnm := (name_of_methodNamed Bd.named Bd.method).1
  have X0 : Stand p l e ({ frames := 1, cells := 0, slots := 0, locals := 14 } : Room) s m #[(.int p0), (.int p1)] below meth c s₁ [] 0 0 := Stand.of_body Bd
  have e0 : s₁.heap = h0 := by rw [← hh, Bd.state]; rfl
  have N0 := Fr.nil n0
  have K0 := Keep.refl h0 []
  have go0 : Go p e below (s₁.setTop (entryFrame m #[(.int p0), (.int p1)] 2)) (s₁.setTop (mkF m 0 #[vI p0, vI p1] [])) := fun t k => castTop (ef_rm_ck m p0 p1) k
  have go1 := go0.st s₁ (mkF m 2 #[vI p0, vI p1] [sI p1, sI p0]) (fun t k => by
    refine XS.iloadN X0.here hx rfl (hb hby d25_0) rfl ?_
    refine XS.iloadN X0.here hx rfl (hb hby d25_1) rfl ?_
    exact k)
  have f2 := S_sf.ext Ol.2
  obtain ⟨T3, X3, e3, st3⟩ := getS2 X0 hx hZ hown (host := "") (Or.inl (wD hw 143 rfl)) Via.refl e0 f2 (g := (mkF m 2 #[vI p0, vI p1] [sI p1, sI p0])) rfl (hb hby d25_2)
  have go4 := go1.st T3 (mkF m 5 #[vI p0, vI p1] [vf, sI p1, sI p0]) (fun t k => by
    refine st3 _ ?_
    exact k)
  obtain ⟨_, _, ⟨T5, L5, k5, n5⟩, -, X5, ⟨Lc5, hQ5, l5, y5, z5⟩, st5⟩ := Jvm.LawKit.callS X3 hx (y := yN18) hown (mvT hZ (wD hw 145 rfl)) (mvT hZ (wD hw 146 rfl)) (mvT hZ (wD hw 144 rfl)) (mvT hZ (wD hw 147 rfl)) (by decide) (backOf (W := 0) (rmck l Z a0 hw [] p0 p1 vf h0 n0 Z0 hvf hi0 hi1) hZ (wD hw 147 rfl) (wD hw 144 rfl) (by decide) (by decide)) (g := (mkF m 5 #[vI p0, vI p1] [vf, sI p1, sI p0])) rfl (by rw [hml]; rfl) (argsL := [(.int p0), (.int p1), vf]) (rest := []) (lenOf pd_rm_ck_0 rfl) rfl (by show 2 * 0 + _ ≤ _; exact Nat.le_of_eq rfl) (hb hby d25_5) (fun _ _ => ⟨rfl, e3, (by decide : 0 + 0 ≤ _), (by decide : 0 + 0 ≤ _)⟩)
  dsimp only [Pt.U, Pt.locs, Pt.cells, Pt.slots] at X5 l5 y5 z5 st5 hQ5
  rw [l5, y5, z5] at X5
  obtain ⟨rfl, N5q, e5⟩ := hQ5
  have N5 := Fr.app N0 N5q
  have go6 := go4.st T5 (mkF m 9 #[vI p0, vI p1] []) (fun t k => by
    refine st5 _ ?_
    show SP p e below T5 (mkF m 8 #[vI p0, vI p1] [sI p0]) _
    refine XS.pop X5.here hx rfl (hb hby d25_8) rfl rfl ?_
    exact k)
  obtain ⟨fs, hr, hrun, hended, hW, hsame⟩ := X5.leave (v := none) (fun _ => rfl)
  refine ⟨_, _, go6 _ ?_, hrun, hended, _, _, rfl, ?_, ⟨_, rfl⟩, hW, hsame.mono (by decide) (by decide)⟩
  · exact X5.returnOut hx Bd.returns (hb hby d25_9) hr
  · show Q_rm_ck Z p0 p1 vf h0 n0 _ T5.heap _
    rw [e5]
    exact ⟨rfl, N5, rfl⟩
theorem d24_0 : decode jdk_43_method_2_code 0 = .ok (.iload_n 1, 1) := by decide +kernel
theorem d24_1 : decode jdk_43_method_2_code 1 = .ok (.aload_n 0, 1) := by decide +kernel
theorem d24_2 : decode jdk_43_method_2_code 2 = .ok (.arraylength, 1) := by decide +kernel
theorem d24_3 : decode jdk_43_method_2_code 3 = .ok (.invokestatic 9, 3) := by decide +kernel
theorem d24_6 : decode jdk_43_method_2_code 6 = .ok (.aload_n 0, 1) := by decide +kernel
theorem d24_7 : decode jdk_43_method_2_code 7 = .ok (.iload_n 1, 1) := by decide +kernel
theorem d24_8 : decode jdk_43_method_2_code 8 = .ok (.baload, 1) := by decide +kernel
theorem d24_9 : decode jdk_43_method_2_code 9 = .ok (.sipush 255, 3) := by decide +kernel
theorem d24_12 : decode jdk_43_method_2_code 12 = .ok (.iand, 1) := by decide +kernel
theorem d24_13 : decode jdk_43_method_2_code 13 = .ok (.i2c, 1) := by decide +kernel
theorem d24_14 : decode jdk_43_method_2_code 14 = .ok (.ireturn, 1) := by decide +kernel
theorem pn_rm_lca : plainName "java/lang/StringLatin1" = true := by first | (simp [plainName, overriddenIn]; done) | decide +kernel
theorem pd_rm_lca_0 : parseMethodDescriptor "(II)V" = some ⟨[.int, .int], none⟩ := by decide +kernel
theorem ef_rm_lca (m : MethodId) (o0 : Addr) (p1 : Int32) : entryFrame m #[(.ref o0), (.int p1)] 2 = mkF m 0 #[.val (.ref o0), .val (.int p1)] [] := by first | (simp [entryFrame, mkF, argsToLocals, Value.category]; done) | rfl
def Q_rm_lca (Z : State) (o0 : Addr) (p1 : Int32) (vf : Value) (kb : ClassId) (vs : List Value) (u : Int32) (h0 : Heap) (n0 : Nat) (v : Option Value) (h : Heap) (L : List Loc) : Prop := v = some (.int u) ∧ Fr n0 L ∧ h = h0
set_option maxRecDepth 65536 in
set_option maxHeartbeats 40000000 in
theorem rm_lca (l : Launch) (Z : State) (a0 : Array Value) (hw : ∀ d ∈ tables_1, d.before a0 Z = true) (ws : List Jvm.Cond) (o0 : Addr) (p1 : Int32) (vf : Value) (kb : ClassId) (vs : List Value) (u : Int32) (h0 : Heap) (n0 : Nat) (Z0 : n0 ≤ h0.size) (Ol : Old Z n0 h0) (S_sf : Sta Z Z.heap "jdk/internal/util/Preconditions" "SIOOBE_FORMATTER" "Ljava/util/function/BiFunction;" vf) (hvf : vf.isRef = true) (V_o0 : Arv Z h0 o0 kb .byte (19 : Int32) vs (.int (0 : Int32))) (hj0 : ¬ p1 < (0 : Int32)) (hj1 : p1 < (19 : Int32)) (hu : vs.getD (p1).toNatClampNeg (.int (0 : Int32)) = .int u) (hur : 48 ≤ u.toInt ∧ u.toInt ≤ 57) :
    MetFree l yN20 (head1 (Jvm.Cond.code yN20 jdk_43_method_2_code 2 (some .char) :: ws) ({ frames := 2, cells := 0, slots := 0, locals := 27 } : Room)) (fun a U => a = #[(.ref o0), (.int p1)] ∧ Z.Warmed39 U.vm ∧ U.heap = h0) (fun _ _ _ _ _ => True) (fun _ U o U' => ∃ v L, o = .returned v ∧ Q_rm_lca Z o0 p1 vf kb vs u h0 n0 v U'.heap L ∧ FrameEnd U o U' L ({ frames := 2, cells := 0, slots := 0, locals := 27 } : Room).cells ({ frames := 2, cells := 0, slots := 0, locals := 27 } : Room).slots) := by
  refine MetFree.of_bodySF (plainFor_of_name pn_rm_lca) hisR ?_
  intro p e s m args below meth c s₁ Bd hml0 hP hK
  obtain ⟨rfl, hZ, hh⟩ := hP
  have hx := Bd.exec
  have hby := Bd.bytes
  have hml : c.maxLocals = 2 := hml0
  have hown : s.vm.findClass "java/lang/StringLatin1" = some m.cls := findClass_of_methodNamed Bd.named
  have hnm := (name_of_methodNamed Bd.named Bd.method).1
  have X0 : Stand p l e ({ frames := 2, cells := 0, slots := 0, locals := 27 } : Room) s m #[(.ref o0), (.int p1)] below meth c s₁ [] 0 0 := Stand.of_body Bd
  have e0 : s₁.heap = h0 := by rw [← hh, Bd.state]; rfl
  have N0 := Fr.nil n0
  have K0 := Keep.refl h0 []
  have go0 : Go p e below (s₁.setTop (entryFrame m #[(.ref o0), (.int p1)] 2)) (s₁.setTop (mkF m 0 #[vR o0, vI p1] [])) := fun t k => castTop (ef_rm_lca m o0 p1) k
  have go1 := go0.st s₁ (mkF m 2 #[vR o0, vI p1] [sR o0, sI p1]) (fun t k => by
    refine XS.iloadN X0.here hx rfl (hb hby d24_0) rfl ?_
    refine XS.aloadN X0.here hx rfl (hb hby d24_1) rfl rfl ?_
    exact k)
  have Vo2 := V_o0
  obtain ⟨cl2, Ar2, qa2, Sa2, Na2, Ha2, Ga2⟩ := Vo2
  have go3 := go1.st s₁ (mkF m 3 #[vR o0, vI p1] [(sI (19 : Int32)), sI p1]) (fun t k => by
    refine X0.arraylength hx (by rw [e0]; exact Ar2.1) (State.isArrayOf_alike hZ.alike Ar2.2.1) (g := (mkF m 2 #[vR o0, vI p1] [sR o0, sI p1])) rfl rfl (hb hby d24_2) _ ?_
    rw [len_of Sa2 Na2]
    exact k)
  obtain ⟨_, _, ⟨T4, L4, k4, n4⟩, -, X4, ⟨Lc4, hQ4, l4, y4, z4⟩, st4⟩ := Jvm.LawKit.callS X0 hx (y := yN19) hown (mvT hZ (wD hw 140 rfl)) (mvT hZ (wD hw 141 rfl)) (mvT hZ (wD hw 33 rfl)) (mvT hZ (wD hw 142 rfl)) (by decide) (backOf (W := 0) (rm_ck l Z a0 hw [] p1 (19 : Int32) vf h0 n0 Z0 Ol S_sf hvf hj0 hj1) hZ (wD hw 142 rfl) (wD hw 33 rfl) (by decide) (by decide)) (g := (mkF m 3 #[vR o0, vI p1] [(sI (19 : Int32)), sI p1])) rfl (by rw [hml]; rfl) (argsL := [(.int p1), (.int (19 : Int32))]) (rest := []) (lenOf pd_rm_lca_0 rfl) rfl (by show 2 * 0 + _ ≤ _; exact Nat.le_of_eq rfl) (hb hby d24_3) (fun _ _ => ⟨rfl, e0, (by decide : 0 + 0 ≤ _), (by decide : 0 + 0 ≤ _)⟩)
  dsimp only [Pt.U, Pt.locs, Pt.cells, Pt.slots] at X4 l4 y4 z4 st4 hQ4
  rw [l4, y4, z4] at X4
  obtain ⟨rfl, N4q, e4⟩ := hQ4
  have N4 := Fr.app N0 N4q
  have go5 := go3.st T4 (mkF m 8 #[vR o0, vI p1] [sI p1, sR o0]) (fun t k => by
    refine st4 _ ?_
    show SP p e below T4 (mkF m 6 #[vR o0, vI p1] []) _
    refine XS.aloadN X4.here hx rfl (hb hby d24_6) rfl rfl ?_
    refine XS.iloadN X4.here hx rfl (hb hby d24_7) rfl ?_
    exact k)
  have Vo6 := V_o0
  obtain ⟨cl6, Ar6, qa6, Sa6, Na6, Ha6, Ga6⟩ := Vo6
  have hin6 := inb_of (j := p1) Sa6 ⟨hj0, hj1⟩
  have hat6 : cl6.slots[(p1).toNatClampNeg]? = some (.int u) := Has.at Ha6 hin6 hu
  have go7 := go5.st T4 (mkF m 14 #[vR o0, vI p1] [(sI ((u &&& (255 : Int32)).toUInt32.toUInt16.toUInt32.toInt32))]) (fun t k => by
    refine X4.baloadBytes hx (j := p1) (v := (.int u)) (by rw [e4]; exact Ar6.1) (State.isArrayOf_alike hZ.alike Ar6.2.1) Ar6.2.2 hin6 hat6 (g := (mkF m 8 #[vR o0, vI p1] [sI p1, sR o0])) rfl rfl (hb hby d24_8) _ ?_
    refine XS.sipush X4.here hx rfl (hb hby d24_9) ?_
    refine XS.iand X4.here hx rfl (hb hby d24_12) rfl ?_
    refine XS.i2c X4.here hx rfl (hb hby d24_13) rfl ?_
    exact k)
  obtain ⟨fs, hr, hrun, hended, hW, hsame⟩ := X4.leave (v := some (.int (nar .char ((u &&& (255 : Int32)).toUInt32.toUInt16.toUInt32.toInt32)))) (fun h => by rw [Bd.returns] at h; cases h)
  refine ⟨_, _, go7 _ ?_, hrun, hended, _, _, rfl, ?_, ⟨_, rfl⟩, hW, hsame.mono (by decide) (by decide)⟩
  · exact retN X4 hx (t := .char) Bd.returns (by simp) (hb hby d24_14) hr
  · show Q_rm_lca Z o0 p1 vf kb vs u h0 n0 _ T4.heap _
    rw [e4]
    exact ⟨by rw [own_chid hur], N4, rfl⟩
theorem d23_0 : decode jdk_42_method_56_code 0 = .ok (.aload_n 0, 1) := by decide +kernel
theorem d23_1 : decode jdk_42_method_56_code 1 = .ok (.invokevirtual 492, 3) := by decide +kernel
theorem d23_4 : decode jdk_42_method_56_code 4 = .ok (.ifCond .eq 12, 3) := by decide +kernel
theorem d23_7 : decode jdk_42_method_56_code 7 = .ok (.aload_n 0, 1) := by decide +kernel
theorem d23_8 : decode jdk_42_method_56_code 8 = .ok (.getfield 9, 3) := by decide +kernel
theorem d23_11 : decode jdk_42_method_56_code 11 = .ok (.iload_n 1, 1) := by decide +kernel
theorem d23_12 : decode jdk_42_method_56_code 12 = .ok (.invokestatic 495, 3) := by decide +kernel
theorem d23_15 : decode jdk_42_method_56_code 15 = .ok (.ireturn, 1) := by decide +kernel
theorem pn_rm_ca : plainName "java/lang/String" = true := by first | (simp [plainName, overriddenIn]; done) | decide +kernel
theorem pd_rm_ca_0 : parseMethodDescriptor "()Z" = some ⟨[], some .boolean⟩ := by decide +kernel
theorem pd_rm_ca_1 : parseMethodDescriptor "([BI)C" = some ⟨[(.array .byte), .int], some .char⟩ := by decide +kernel
theorem ef_rm_ca (m : MethodId) (o0 : Addr) (p1 : Int32) : entryFrame m #[(.ref o0), (.int p1)] 2 = mkF m 0 #[.val (.ref o0), .val (.int p1)] [] := by first | (simp [entryFrame, mkF, argsToLocals, Value.category]; done) | rfl
def Q_rm_ca (Z : State) (o0 : Addr) (p1 : Int32) (cs : Int32) (vf : Value) (vb : Addr) (kb : ClassId) (vs : List Value) (u : Int32) (h0 : Heap) (n0 : Nat) (v : Option Value) (h : Heap) (L : List Loc) : Prop := v = some (.int u) ∧ Fr n0 L ∧ h = h0
set_option maxRecDepth 65536 in
set_option maxHeartbeats 40000000 in
theorem rm_ca (l : Launch) (Z : State) (a0 : Array Value) (hw : ∀ d ∈ tables_1, d.before a0 Z = true) (ws : List Jvm.Cond) (o0 : Addr) (p1 : Int32) (cs : Int32) (vf : Value) (vb : Addr) (kb : ClassId) (vs : List Value) (u : Int32) (h0 : Heap) (n0 : Nat) (Z0 : n0 ≤ h0.size) (Ol : Old Z n0 h0) (S_cs : Sta Z Z.heap "java/lang/String" "COMPACT_STRINGS" "Z" (.int cs)) (hcs : ¬ cs = (0 : Int32)) (S_sf : Sta Z Z.heap "jdk/internal/util/Preconditions" "SIOOBE_FORMATTER" "Ljava/util/function/BiFunction;" vf) (hvf : vf.isRef = true) (E_o0 : Exa Z h0 o0 "java/lang/String") (F_coder_o0 : Fld Z h0 o0 "java/lang/String" "coder" "B" (.int (0 : Int32))) (F_value_o0 : Fld Z h0 o0 "java/lang/String" "value" "[B" (.ref vb)) (V_vb : Arv Z h0 vb kb .byte (19 : Int32) vs (.int (0 : Int32))) (hj0 : ¬ p1 < (0 : Int32)) (hj1 : p1 < (19 : Int32)) (hu : vs.getD (p1).toNatClampNeg (.int (0 : Int32)) = .int u) (hur : 48 ≤ u.toInt ∧ u.toInt ≤ 57) :
    MetFree l yN21 (head1 (Jvm.Cond.code yN21 jdk_42_method_56_code 2 (some .char) :: ws) ({ frames := 3, cells := 0, slots := 0, locals := 40 } : Room)) (fun a U => a = #[(.ref o0), (.int p1)] ∧ Z.Warmed39 U.vm ∧ U.heap = h0) (fun _ _ _ _ _ => True) (fun _ U o U' => ∃ v L, o = .returned v ∧ Q_rm_ca Z o0 p1 cs vf vb kb vs u h0 n0 v U'.heap L ∧ FrameEnd U o U' L ({ frames := 3, cells := 0, slots := 0, locals := 40 } : Room).cells ({ frames := 3, cells := 0, slots := 0, locals := 40 } : Room).slots) := by
  refine MetFree.of_bodySF (plainFor_of_name pn_rm_ca) hisR ?_
  intro p e s m args below meth c s₁ Bd hml0 hP hK
  obtain ⟨rfl, hZ, hh⟩ := hP
  have hx := Bd.exec
  have hby := Bd.bytes
  have hml : c.maxLocals = 2 := hml0
  have hown : s.vm.findClass "java/lang/String" = some m.cls := findClass_of_methodNamed Bd.named
  have hnm := (name_of_methodNamed Bd.named Bd.method).1
  have X0 : Stand p l e ({ frames := 3, cells := 0, slots := 0, locals := 40 } : Room) s m #[(.ref o0), (.int p1)] below meth c s₁ [] 0 0 := Stand.of_body Bd
  have e0 : s₁.heap = h0 := by rw [← hh, Bd.state]; rfl
  have N0 := Fr.nil n0
  have K0 := Keep.refl h0 []
  have go0 : Go p e below (s₁.setTop (entryFrame m #[(.ref o0), (.int p1)] 2)) (s₁.setTop (mkF m 0 #[vR o0, vI p1] [])) := fun t k => castTop (ef_rm_ca m o0 p1) k
  have go1 := go0.st s₁ (mkF m 1 #[vR o0, vI p1] [sR o0]) (fun t k => by
    refine XS.aloadN X0.here hx rfl (hb hby d23_0) rfl rfl ?_
    exact k)
  obtain ⟨cq2, kq2, q2a, q2b, q2c⟩ := isOf hZ e0 E_o0
  obtain ⟨_, _, ⟨T2, L2, k2, n2⟩, -, X2, ⟨Lc2, hQ2, l2, y2, z2⟩, st2⟩ := X0.virtualBack hx (y := yN15) (z := yN15) hown (mvT hZ (wD hw 107 rfl)) (mvT hZ (wD hw 108 rfl)) (notFace_of_selects (args := #[]) (mvT hZ (wD hw 110 rfl))) (mvT hZ (wD hw 110 rfl)) (mvT hZ (wD hw 109 rfl)) (by decide) (backOf (W := 0) (rm_lat l Z a0 hw [] o0 cs h0 n0 Z0 Ol S_cs hcs F_coder_o0) hZ (wD hw 111 rfl) (wD hw 33 rfl) (by decide) (by decide)) q2a q2c (g := (mkF m 1 #[vR o0, vI p1] [sR o0])) rfl (by rw [hml]; rfl) (Steps.refl _) (argsL := []) (rest := []) (lenOf pd_rm_ca_0 rfl) rfl (by show 2 * 0 + _ ≤ _; exact Nat.le_of_eq rfl) (hb hby d23_1) (fun _ _ => ⟨rfl, e0, (by decide : 0 + 0 ≤ _), (by decide : 0 + 0 ≤ _)⟩)
  dsimp only [Pt.U, Pt.locs, Pt.cells, Pt.slots] at X2 l2 y2 z2 st2 hQ2
  rw [l2, y2, z2] at X2
  obtain ⟨rfl, N2q, e2⟩ := hQ2
  have N2 := Fr.app N0 N2q
  have go4 := go1.st T2 (mkF m 8 #[vR o0, vI p1] [sR o0]) (fun t k => by
    refine st2.trans ?_
    show SP p e below T2 (mkF m 4 #[vR o0, vI p1] [sI i1]) _
    refine XS.ifNo X2.here hx rfl (hb hby d23_4) rfl ((if0 _ _).trans (feq ((by decide) : ¬ ((1 : Int32) = (0 : Int32)))).1) ?_
    refine XS.aloadN X2.here hx rfl (hb hby d23_7) rfl rfl ?_
    exact k)
  obtain ⟨T5, X5, e5, st5⟩ := getF X2 hx hZ hown (host := "") (Or.inl (wD hw 58 rfl)) Via.refl e2 F_value_o0 (g := (mkF m 8 #[vR o0, vI p1] [sR o0])) rfl rfl (hb hby d23_8)
  have go6 := go4.st T5 (mkF m 12 #[vR o0, vI p1] [sI p1, sR vb]) (fun t k => by
    refine st5 _ ?_
    show SP p e below T5 (mkF m 11 #[vR o0, vI p1] [sR vb]) _
    refine XS.iloadN X5.here hx rfl (hb hby d23_11) rfl ?_
    exact k)
  obtain ⟨_, _, ⟨T7, L7, k7, n7⟩, -, X7, ⟨Lc7, hQ7, l7, y7, z7⟩, st7⟩ := Jvm.LawKit.callS X5 hx (y := yN20) hown (mvT hZ (wD hw 137 rfl)) (mvT hZ (wD hw 138 rfl)) (mvT hZ (wD hw 115 rfl)) (mvT hZ (wD hw 139 rfl)) (by decide) (backOf (W := 0) (rm_lca l Z a0 hw [] vb p1 vf kb vs u h0 n0 Z0 Ol S_sf hvf V_vb hj0 hj1 hu hur) hZ (wD hw 139 rfl) (wD hw 115 rfl) (by decide) (by decide)) (g := (mkF m 12 #[vR o0, vI p1] [sI p1, sR vb])) rfl (by rw [hml]; rfl) (argsL := [(.ref vb), (.int p1)]) (rest := []) (lenOf pd_rm_ca_1 rfl) rfl (by show 2 * 0 + _ ≤ _; exact Nat.le_of_eq rfl) (hb hby d23_12) (fun _ _ => ⟨rfl, e5, (by decide : 0 + 0 ≤ _), (by decide : 0 + 0 ≤ _)⟩)
  dsimp only [Pt.U, Pt.locs, Pt.cells, Pt.slots] at X7 l7 y7 z7 st7 hQ7
  rw [l7, y7, z7] at X7
  obtain ⟨rfl, N7q, e7⟩ := hQ7
  have N7 := Fr.app N2 N7q
  have go8 := go6.st T7 (mkF m 15 #[vR o0, vI p1] [sI u]) (fun t k => by
    refine st7 _ ?_
    exact k)
  obtain ⟨fs, hr, hrun, hended, hW, hsame⟩ := X7.leave (v := some (.int (nar .char u))) (fun h => by rw [Bd.returns] at h; cases h)
  refine ⟨_, _, go8 _ ?_, hrun, hended, _, _, rfl, ?_, ⟨_, rfl⟩, hW, hsame.mono (by decide) (by decide)⟩
  · exact retN X7 hx (t := .char) Bd.returns (by simp) (hb hby d23_15) hr
  · show Q_rm_ca Z o0 p1 cs vf vb kb vs u h0 n0 _ T7.heap _
    rw [e7]
    exact ⟨by rw [own_cid hur], N7, rfl⟩
theorem d18_0 : decode jdk_43_method_4_code 0 = .ok (.iload_n 0, 1) := by decide +kernel
theorem d18_1 : decode jdk_43_method_4_code 1 = .ok (.ifCond .lt 14, 3) := by decide +kernel
theorem d18_4 : decode jdk_43_method_4_code 4 = .ok (.iload_n 0, 1) := by decide +kernel
theorem d18_5 : decode jdk_43_method_4_code 5 = .ok (.sipush 255, 3) := by decide +kernel
theorem d18_8 : decode jdk_43_method_4_code 8 = .ok (.if_icmp .gt 7, 3) := by decide +kernel
theorem d18_11 : decode jdk_43_method_4_code 11 = .ok (.iconst 1, 1) := by decide +kernel
theorem d18_12 : decode jdk_43_method_4_code 12 = .ok (.goto 4, 3) := by decide +kernel
theorem d18_16 : decode jdk_43_method_4_code 16 = .ok (.ireturn, 1) := by decide +kernel
theorem pn_rm_can : plainName "java/lang/StringLatin1" = true := by first | (simp [plainName, overriddenIn]; done) | decide +kernel
theorem ef_rm_can (m : MethodId) : entryFrame m #[(.int (46 : Int32))] 1 = mkF m 0 #[.val (.int (46 : Int32))] [] := by first | (simp [entryFrame, mkF, argsToLocals, Value.category]; done) | rfl
def Q_rm_can (Z : State) (h0 : Heap) (n0 : Nat) (v : Option Value) (h : Heap) (L : List Loc) : Prop := v = some (.int (1 : Int32)) ∧ Fr n0 L ∧ h = h0
set_option maxRecDepth 65536 in
set_option maxHeartbeats 40000000 in
theorem rm_can (l : Launch) (Z : State) (a0 : Array Value) (hw : ∀ d ∈ tables_1, d.before a0 Z = true) (ws : List Jvm.Cond) (h0 : Heap) (n0 : Nat) (Z0 : n0 ≤ h0.size) :
    MetFree l yN22 (head1 (Jvm.Cond.code yN22 jdk_43_method_4_code 1 (some .boolean) :: ws) ({ frames := 0, cells := 0, slots := 0, locals := 0 } : Room)) (fun a U => a = #[(.int (46 : Int32))] ∧ Z.Warmed39 U.vm ∧ U.heap = h0) (fun _ _ _ _ _ => True) (fun _ U o U' => ∃ v L, o = .returned v ∧ Q_rm_can Z h0 n0 v U'.heap L ∧ FrameEnd U o U' L ({ frames := 0, cells := 0, slots := 0, locals := 0 } : Room).cells ({ frames := 0, cells := 0, slots := 0, locals := 0 } : Room).slots) := by
  refine MetFree.of_bodySF (plainFor_of_name pn_rm_can) hisR ?_
  intro p e s m args below meth c s₁ Bd hml0 hP hK
  obtain ⟨rfl, hZ, hh⟩ := hP
  have hx := Bd.exec
  have hby := Bd.bytes
  have hml : c.maxLocals = 1 := hml0
  have hown : s.vm.findClass "java/lang/StringLatin1" = some m.cls := findClass_of_methodNamed Bd.named
  have hnm := (name_of_methodNamed Bd.named Bd.method).1
  have X0 : Stand p l e ({ frames := 0, cells := 0, slots := 0, locals := 0 } : Room) s m #[(.int (46 : Int32))] below meth c s₁ [] 0 0 := Stand.of_body Bd
  have e0 : s₁.heap = h0 := by rw [← hh, Bd.state]; rfl
  have N0 := Fr.nil n0
  have K0 := Keep.refl h0 []
  have go0 : Go p e below (s₁.setTop (entryFrame m #[(.int (46 : Int32))] 1)) (s₁.setTop (mkF m 0 #[vI ((46 : Int32))] [])) := fun t k => castTop (ef_rm_can m) k
  have go3 := go0.st s₁ (mkF m 16 #[vI ((46 : Int32))] [sI i1]) (fun t k => by
    refine XS.iloadN X0.here hx rfl (hb hby d18_0) rfl ?_
    refine XS.ifNo X0.here hx rfl (hb hby d18_1) rfl ((if0 _ _).trans (flt ((by decide) : ¬ ((46 : Int32) < (0 : Int32)))).1) ?_
    refine XS.iloadN X0.here hx rfl (hb hby d18_4) rfl ?_
    refine XS.sipush X0.here hx rfl (hb hby d18_5) ?_
    refine XS.icmpNo X0.here hx rfl (hb hby d18_8) rfl (flt ((by decide) : ¬ ((255 : Int32) < (46 : Int32)))).2.2.1 ?_
    refine XS.iconst X0.here hx rfl (hb hby d18_11) ?_
    refine XS.goto X0.here hx rfl (pc0 := 12) (pc' := 16) rfl (hb hby d18_12) (by decide) (by decide) ?_
    exact k)
  obtain ⟨fs, hr, hrun, hended, hW, hsame⟩ := X0.leave (v := some (.int (1 : Int32))) (fun h => by rw [Bd.returns] at h; cases h)
  refine ⟨_, _, go3 _ ?_, hrun, hended, _, _, rfl, ?_, ⟨_, rfl⟩, hW, hsame.mono (by decide) (by decide)⟩
  · exact retN X0 hx (t := .boolean) Bd.returns (by simp) (hb hby d18_16) hr
  · show Q_rm_can Z h0 n0 _ s₁.heap _
    rw [e0]
    exact ⟨rfl, N0, rfl⟩
theorem d21_7 : decode jdk_43_method_23_code 7 = .ok (.iload 5, 2) := by decide +kernel
theorem d21_9 : decode jdk_43_method_23_code 9 = .ok (.iload_n 3, 1) := by decide +kernel
theorem d21_10 : decode jdk_43_method_23_code 10 = .ok (.if_icmp .ge 21, 3) := by decide +kernel
theorem d21_13 : decode jdk_43_method_23_code 13 = .ok (.aload_n 0, 1) := by decide +kernel
theorem d21_14 : decode jdk_43_method_23_code 14 = .ok (.iload 5, 2) := by decide +kernel
theorem d21_16 : decode jdk_43_method_23_code 16 = .ok (.baload, 1) := by decide +kernel
theorem d21_17 : decode jdk_43_method_23_code 17 = .ok (.iload 4, 2) := by decide +kernel
theorem d21_19 : decode jdk_43_method_23_code 19 = .ok (.if_icmp .ne 6, 3) := by decide +kernel
theorem d21_25 : decode jdk_43_method_23_code 25 = .ok (.iinc 5 1, 3) := by decide +kernel
theorem d21_28 : decode jdk_43_method_23_code 28 = .ok (.goto (-21), 3) := by decide +kernel
set_option maxRecDepth 65536 in
set_option maxHeartbeats 40000000 in
theorem lp_io {p : Program} {l : Launch} {e : Env} {R : Room} {s : State} {m : MethodId} {args : Array Value} {below : List Frame} {meth : Method} {c : Code} {cells slots : Nat} {Z : State} {a0 : Array Value} {A : State} {G : Prop} (o0 : Addr) (kb : ClassId) (vs : List Value) (qv : Int64) (h0 : Heap) (n0 : Nat)
    (hx : p.tables.exec = Jvm.exec) (hZ : Z.Warmed39 s.vm) (hw : ∀ d ∈ tables_1, d.before a0 Z = true) (hby : c.code = jdk_43_method_23_code) (hml : c.maxLocals = 6) (hown : s.vm.findClass "java/lang/StringLatin1" = some m.cls) (V_o0 : Arv Z h0 o0 kb .byte (19 : Int32) vs (.int (0 : Int32))) (hv : own_Vs vs qv) (hq : 0 ≤ qv.toInt)
    (kx0 : ∀ (T : State) (locs : List Loc) (i : Int32), Stand p l e R s m args below meth c T locs cells slots → T.heap = h0 → Fr n0 locs → Go p e below A (T.setTop (mkF m 31 #[vR o0, vI ((46 : Int32)), vI i0, vI ((19 : Int32)), vI ((46 : Int32)), vI i] [])) → G)
    : ∀ (k : Nat) (T : State) (locs : List Loc) (i : Int32) (j : Nat), Stand p l e R s m args below meth c T locs cells slots → T.heap = h0 → Fr n0 locs → i.toInt = (j : Int) → j + k = 19 → Go p e below A (T.setTop (mkF m 7 #[vR o0, vI ((46 : Int32)), vI i0, vI ((19 : Int32)), vI ((46 : Int32)), vI i] [])) → G := by
  intro k
  induction k with
  | zero =>
    intro T locs i j X0 e0 N0 hi hk go0
    have Z0 : n0 ≤ n0 := Nat.le_refl _
    have K0 := Keep.refl h0 []
    have go2 := go0.st T (mkF m 31 #[vR o0, vI ((46 : Int32)), vI i0, vI ((19 : Int32)), vI ((46 : Int32)), vI i] []) (fun t k => by
      refine XS.iload X0.here hx rfl (hb hby d21_7) rfl ?_
      refine XS.iloadN X0.here hx rfl (hb hby d21_9) rfl ?_
      refine XS.icmpYes X0.here hx rfl (pc0 := 10) (pc' := 31) rfl (hb hby d21_10) rfl (flt (own_nlt hi hk : ¬ (i < (19 : Int32)))).2.1 (by decide) (by decide) ?_
      exact k)
    exact kx0 T _ i X0 e0 N0  go2
  | succ k ih =>
    intro T locs i j X0 e0 N0 hi hk go0
    have Z0 : n0 ≤ n0 := Nat.le_refl _
    have K0 := Keep.refl h0 []
    have go4 := go0.st T (mkF m 16 #[vR o0, vI ((46 : Int32)), vI i0, vI ((19 : Int32)), vI ((46 : Int32)), vI i] [sI i, sR o0]) (fun t k => by
      refine XS.iload X0.here hx rfl (hb hby d21_7) rfl ?_
      refine XS.iloadN X0.here hx rfl (hb hby d21_9) rfl ?_
      refine XS.icmpNo X0.here hx rfl (hb hby d21_10) rfl (tlt (own_lt hi hk : i < (19 : Int32))).2.1 ?_
      refine XS.aloadN X0.here hx rfl (hb hby d21_13) rfl rfl ?_
      refine XS.iload X0.here hx rfl (hb hby d21_14) rfl ?_
      exact k)
    have Vo5 := V_o0
    obtain ⟨cl5, Ar5, qa5, Sa5, Na5, Ha5, Ga5⟩ := Vo5
    have hin5 := inb_of (j := i) Sa5 (own_in hi (by omega))
    have hat5 : cl5.slots[(i).toNatClampNeg]? = some (.int (own_f qv j)) := Has.at Ha5 hin5 (own_rd hv hi (by omega))
    have go7 := go4.st T (mkF m 7 #[vR o0, vI ((46 : Int32)), vI i0, vI ((19 : Int32)), vI ((46 : Int32)), vI ((i + i1))] []) (fun t k => by
      refine X0.baloadBytes hx (j := i) (v := (.int (own_f qv j))) (by rw [e0]; exact Ar5.1) (State.isArrayOf_alike hZ.alike Ar5.2.1) Ar5.2.2 hin5 hat5 (g := (mkF m 16 #[vR o0, vI ((46 : Int32)), vI i0, vI ((19 : Int32)), vI ((46 : Int32)), vI i] [sI i, sR o0])) rfl rfl (hb hby d21_16) _ ?_
      refine XS.iload X0.here hx rfl (hb hby d21_17) rfl ?_
      refine XS.icmpYes X0.here hx rfl (pc0 := 19) (pc' := 25) rfl (hb hby d21_19) rfl (feq ((own_u (own_fr hq (by omega))).2.1 : ¬ ((own_f qv j) = (46 : Int32)))).2 (by decide) (by decide) ?_
      refine XS.iinc X0.here hx rfl (hb hby d21_25) rfl (l' := #[vR o0, vI ((46 : Int32)), vI i0, vI ((19 : Int32)), vI ((46 : Int32)), vI ((i + i1))]) rfl ?_
      refine XS.goto X0.here hx rfl (pc0 := 28) (pc' := 7) rfl (hb hby d21_28) (by decide) (by decide) ?_
      exact k)
    exact ih T _ (i + (1 : Int32)) (j + 1) X0 e0 N0 (own_succ hi (by omega)) (by omega) go7
theorem d21_0 : decode jdk_43_method_23_code 0 = .ok (.iload_n 1, 1) := by decide +kernel
theorem d21_1 : decode jdk_43_method_23_code 1 = .ok (.i2b, 1) := by decide +kernel
theorem d21_2 : decode jdk_43_method_23_code 2 = .ok (.istore 4, 2) := by decide +kernel
theorem d21_4 : decode jdk_43_method_23_code 4 = .ok (.iload_n 2, 1) := by decide +kernel
theorem d21_5 : decode jdk_43_method_23_code 5 = .ok (.istore 5, 2) := by decide +kernel
theorem d21_31 : decode jdk_43_method_23_code 31 = .ok (.iconst (-1), 1) := by decide +kernel
theorem d21_32 : decode jdk_43_method_23_code 32 = .ok (.ireturn, 1) := by decide +kernel
theorem pn_rm_ioc : plainName "java/lang/StringLatin1" = true := by first | (simp [plainName, overriddenIn]; done) | decide +kernel
theorem ef_rm_ioc (m : MethodId) (o0 : Addr) : entryFrame m #[(.ref o0), (.int (46 : Int32)), (.int (0 : Int32)), (.int (19 : Int32))] 6 = mkF m 0 #[.val (.ref o0), .val (.int (46 : Int32)), .val (.int (0 : Int32)), .val (.int (19 : Int32)), uu, uu] [] := by first | (simp [entryFrame, mkF, argsToLocals, Value.category]; done) | rfl
def Q_rm_ioc (Z : State) (o0 : Addr) (kb : ClassId) (vs : List Value) (qv : Int64) (h0 : Heap) (n0 : Nat) (v : Option Value) (h : Heap) (L : List Loc) : Prop := v = some (.int (-1 : Int32)) ∧ Fr n0 L ∧ h = h0
set_option maxRecDepth 65536 in
set_option maxHeartbeats 40000000 in
theorem rm_ioc (l : Launch) (Z : State) (a0 : Array Value) (hw : ∀ d ∈ tables_1, d.before a0 Z = true) (ws : List Jvm.Cond) (o0 : Addr) (kb : ClassId) (vs : List Value) (qv : Int64) (h0 : Heap) (n0 : Nat) (Z0 : n0 ≤ h0.size) (V_o0 : Arv Z h0 o0 kb .byte (19 : Int32) vs (.int (0 : Int32))) (hv : own_Vs vs qv) (hq : 0 ≤ qv.toInt) :
    MetFree l yN23 (head1 (Jvm.Cond.code yN23 jdk_43_method_23_code 6 (some .int) :: ws) ({ frames := 0, cells := 0, slots := 0, locals := 0 } : Room)) (fun a U => a = #[(.ref o0), (.int (46 : Int32)), (.int (0 : Int32)), (.int (19 : Int32))] ∧ Z.Warmed39 U.vm ∧ U.heap = h0) (fun _ _ _ _ _ => True) (fun _ U o U' => ∃ v L, o = .returned v ∧ Q_rm_ioc Z o0 kb vs qv h0 n0 v U'.heap L ∧ FrameEnd U o U' L ({ frames := 0, cells := 0, slots := 0, locals := 0 } : Room).cells ({ frames := 0, cells := 0, slots := 0, locals := 0 } : Room).slots) := by
  refine MetFree.of_bodySF (plainFor_of_name pn_rm_ioc) hisR ?_
  intro p e s m args below meth c s₁ Bd hml0 hP hK
  obtain ⟨rfl, hZ, hh⟩ := hP
  have hx := Bd.exec
  have hby := Bd.bytes
  have hml : c.maxLocals = 6 := hml0
  have hown : s.vm.findClass "java/lang/StringLatin1" = some m.cls := findClass_of_methodNamed Bd.named
  have hnm := (name_of_methodNamed Bd.named Bd.method).1
  have X0 : Stand p l e ({ frames := 0, cells := 0, slots := 0, locals := 0 } : Room) s m #[(.ref o0), (.int (46 : Int32)), (.int (0 : Int32)), (.int (19 : Int32))] below meth c s₁ [] 0 0 := Stand.of_body Bd
  have e0 : s₁.heap = h0 := by rw [← hh, Bd.state]; rfl
  have N0 := Fr.nil n0
  have K0 := Keep.refl h0 []
  have go0 : Go p e below (s₁.setTop (entryFrame m #[(.ref o0), (.int (46 : Int32)), (.int (0 : Int32)), (.int (19 : Int32))] 6)) (s₁.setTop (mkF m 0 #[vR o0, vI ((46 : Int32)), vI i0, vI ((19 : Int32)), uu, uu] [])) := fun t k => castTop (ef_rm_ioc m o0) k
  have go1 := go0.st s₁ (mkF m 7 #[vR o0, vI ((46 : Int32)), vI i0, vI ((19 : Int32)), vI ((46 : Int32)), vI i0] []) (fun t k => by
    refine XS.iloadN X0.here hx rfl (hb hby d21_0) rfl ?_
    refine XS.i2b X0.here hx rfl (hb hby d21_1) rfl ?_
    refine XS.istore X0.here hx rfl (hb hby d21_2) rfl (l' := #[vR o0, vI ((46 : Int32)), vI i0, vI ((19 : Int32)), vI ((46 : Int32)), uu]) rfl ?_
    refine XS.iloadN X0.here hx rfl (hb hby d21_4) rfl ?_
    refine XS.istore X0.here hx rfl (hb hby d21_5) rfl (l' := #[vR o0, vI ((46 : Int32)), vI i0, vI ((19 : Int32)), vI ((46 : Int32)), vI i0]) rfl ?_
    exact k)
  refine lp_io o0 kb vs qv h0 n0 hx hZ hw hby hml hown V_o0 hv hq ?_ 19 s₁ _ (0 : Int32) 0 X0 e0 N0 rfl rfl go1
  intro T9 locs9 i9 X9 e9 N9 go9
  have go2 := go9.st T9 (mkF m 32 #[vR o0, vI ((46 : Int32)), vI i0, vI ((19 : Int32)), vI ((46 : Int32)), vI i9] [(sI (-1 : Int32))]) (fun t k => by
    refine XS.iconst X9.here hx rfl (hb hby d21_31) ?_
    exact k)
  obtain ⟨fs, hr, hrun, hended, hW, hsame⟩ := X9.leave (v := some (.int (-1 : Int32))) (fun h => by rw [Bd.returns] at h; cases h)
  refine ⟨_, _, go2 _ ?_, hrun, hended, _, _, rfl, ?_, ⟨_, rfl⟩, hW, hsame.mono (by decide) (by decide)⟩
  · exact own_retI X9 hx Bd.returns (hb hby d21_32) hr
  · show Q_rm_ioc Z o0 kb vs qv h0 n0 _ T9.heap _
    rw [e9]
    exact ⟨rfl, N9, rfl⟩
theorem d17_0 : decode jdk_43_method_22_code 0 = .ok (.iload_n 1, 1) := by decide +kernel
theorem d17_1 : decode jdk_43_method_22_code 1 = .ok (.invokestatic 88, 3) := by decide +kernel
theorem d17_4 : decode jdk_43_method_22_code 4 = .ok (.ifCond .ne 5, 3) := by decide +kernel
theorem d17_9 : decode jdk_43_method_22_code 9 = .ok (.iload_n 2, 1) := by decide +kernel
theorem d17_10 : decode jdk_43_method_22_code 10 = .ok (.iconst 0, 1) := by decide +kernel
theorem d17_11 : decode jdk_43_method_22_code 11 = .ok (.invokestatic 92, 3) := by decide +kernel
theorem d17_14 : decode jdk_43_method_22_code 14 = .ok (.istore_n 2, 1) := by decide +kernel
theorem d17_15 : decode jdk_43_method_22_code 15 = .ok (.iload_n 3, 1) := by decide +kernel
theorem d17_16 : decode jdk_43_method_22_code 16 = .ok (.aload_n 0, 1) := by decide +kernel
theorem d17_17 : decode jdk_43_method_22_code 17 = .ok (.arraylength, 1) := by decide +kernel
theorem d17_18 : decode jdk_43_method_22_code 18 = .ok (.invokestatic 38, 3) := by decide +kernel
theorem d17_21 : decode jdk_43_method_22_code 21 = .ok (.istore_n 3, 1) := by decide +kernel
theorem d17_22 : decode jdk_43_method_22_code 22 = .ok (.iload_n 2, 1) := by decide +kernel
theorem d17_23 : decode jdk_43_method_22_code 23 = .ok (.iload_n 3, 1) := by decide +kernel
theorem d17_24 : decode jdk_43_method_22_code 24 = .ok (.if_icmp .lt 5, 3) := by decide +kernel
theorem d17_29 : decode jdk_43_method_22_code 29 = .ok (.aload_n 0, 1) := by decide +kernel
theorem d17_30 : decode jdk_43_method_22_code 30 = .ok (.iload_n 1, 1) := by decide +kernel
theorem d17_31 : decode jdk_43_method_22_code 31 = .ok (.iload_n 2, 1) := by decide +kernel
theorem d17_32 : decode jdk_43_method_22_code 32 = .ok (.iload_n 3, 1) := by decide +kernel
theorem d17_33 : decode jdk_43_method_22_code 33 = .ok (.invokestatic 95, 3) := by decide +kernel
theorem d17_36 : decode jdk_43_method_22_code 36 = .ok (.ireturn, 1) := by decide +kernel
theorem pn_rm_lio : plainName "java/lang/StringLatin1" = true := by first | (simp [plainName, overriddenIn]; done) | decide +kernel
theorem pd_rm_lio_0 : parseMethodDescriptor "(I)Z" = some ⟨[.int], some .boolean⟩ := by decide +kernel
theorem pd_rm_lio_1 : parseMethodDescriptor "(II)I" = some ⟨[.int, .int], some .int⟩ := by decide +kernel
theorem pd_rm_lio_2 : parseMethodDescriptor "([BIII)I" = some ⟨[(.array .byte), .int, .int, .int], some .int⟩ := by decide +kernel
theorem ef_rm_lio (m : MethodId) (o0 : Addr) : entryFrame m #[(.ref o0), (.int (46 : Int32)), (.int (0 : Int32)), (.int (19 : Int32))] 4 = mkF m 0 #[.val (.ref o0), .val (.int (46 : Int32)), .val (.int (0 : Int32)), .val (.int (19 : Int32))] [] := by first | (simp [entryFrame, mkF, argsToLocals, Value.category]; done) | rfl
def Q_rm_lio (Z : State) (o0 : Addr) (kb : ClassId) (vs : List Value) (qv : Int64) (h0 : Heap) (n0 : Nat) (v : Option Value) (h : Heap) (L : List Loc) : Prop := v = some (.int (-1 : Int32)) ∧ Fr n0 L ∧ h = h0
set_option maxRecDepth 65536 in
set_option maxHeartbeats 40000000 in
theorem rm_lio (l : Launch) (Z : State) (a0 : Array Value) (hw : ∀ d ∈ tables_1, d.before a0 Z = true) (ws : List Jvm.Cond) (o0 : Addr) (kb : ClassId) (vs : List Value) (qv : Int64) (h0 : Heap) (n0 : Nat) (Z0 : n0 ≤ h0.size) (V_o0 : Arv Z h0 o0 kb .byte (19 : Int32) vs (.int (0 : Int32))) (hv : own_Vs vs qv) (hq : 0 ≤ qv.toInt) :
    MetFree l yN24 (head1 (Jvm.Cond.code yN24 jdk_43_method_22_code 4 (some .int) :: ws) ({ frames := 1, cells := 0, slots := 0, locals := 17 } : Room)) (fun a U => a = #[(.ref o0), (.int (46 : Int32)), (.int (0 : Int32)), (.int (19 : Int32))] ∧ Z.Warmed39 U.vm ∧ U.heap = h0) (fun _ _ _ _ _ => True) (fun _ U o U' => ∃ v L, o = .returned v ∧ Q_rm_lio Z o0 kb vs qv h0 n0 v U'.heap L ∧ FrameEnd U o U' L ({ frames := 1, cells := 0, slots := 0, locals := 17 } : Room).cells ({ frames := 1, cells := 0, slots := 0, locals := 17 } : Room).slots) := by
  refine MetFree.of_bodySF (plainFor_of_name pn_rm_lio) hisR ?_
  intro p e s m args below meth c s₁ Bd hml0 hP hK
  obtain ⟨rfl, hZ, hh⟩ := hP
  have hx := Bd.exec
  have hby := Bd.bytes
  have hml : c.maxLocals = 4 := hml0
  have hown : s.vm.findClass "java/lang/StringLatin1" = some m.cls := findClass_of_methodNamed Bd.named
  have hnm := (name_of_methodNamed Bd.named Bd.method).1
  have X0 : Stand p l e ({ frames := 1, cells := 0, slots := 0, locals := 17 } : Room) s m #[(.ref o0), (.int (46 : Int32)), (.int (0 : Int32)), (.int (19 : Int32))] below meth c s₁ [] 0 0 := Stand.of_body Bd
  have e0 : s₁.heap = h0 := by rw [← hh, Bd.state]; rfl
  have N0 := Fr.nil n0
  have K0 := Keep.refl h0 []
  have go0 : Go p e below (s₁.setTop (entryFrame m #[(.ref o0), (.int (46 : Int32)), (.int (0 : Int32)), (.int (19 : Int32))] 4)) (s₁.setTop (mkF m 0 #[vR o0, vI ((46 : Int32)), vI i0, vI ((19 : Int32))] [])) := fun t k => castTop (ef_rm_lio m o0) k
  have go1 := go0.st s₁ (mkF m 1 #[vR o0, vI ((46 : Int32)), vI i0, vI ((19 : Int32))] [(sI (46 : Int32))]) (fun t k => by
    refine XS.iloadN X0.here hx rfl (hb hby d17_0) rfl ?_
    exact k)
  obtain ⟨_, _, ⟨T2, L2, k2, n2⟩, -, X2, ⟨Lc2, hQ2, l2, y2, z2⟩, st2⟩ := Jvm.LawKit.callS X0 hx (y := yN22) hown (mvT hZ (wD hw 117 rfl)) (mvT hZ (wD hw 118 rfl)) (mvT hZ (wD hw 115 rfl)) (mvT hZ (wD hw 119 rfl)) (by decide) (backOf (W := 0) (rm_can l Z a0 hw []  h0 n0 Z0 ) hZ (wD hw 119 rfl) (wD hw 115 rfl) (by decide) (by decide)) (g := (mkF m 1 #[vR o0, vI ((46 : Int32)), vI i0, vI ((19 : Int32))] [(sI (46 : Int32))])) rfl (by rw [hml]; rfl) (argsL := [(.int (46 : Int32))]) (rest := []) (lenOf pd_rm_lio_0 rfl) rfl (by show 2 * 0 + _ ≤ _; exact Nat.le_of_eq rfl) (hb hby d17_1) (fun _ _ => ⟨rfl, e0, (by decide : 0 + 0 ≤ _), (by decide : 0 + 0 ≤ _)⟩)
  dsimp only [Pt.U, Pt.locs, Pt.cells, Pt.slots] at X2 l2 y2 z2 st2 hQ2
  rw [l2, y2, z2] at X2
  obtain ⟨rfl, N2q, e2⟩ := hQ2
  have N2 := Fr.app N0 N2q
  have go4 := go1.st T2 (mkF m 11 #[vR o0, vI ((46 : Int32)), vI i0, vI ((19 : Int32))] [sI i0, sI i0]) (fun t k => by
    refine st2 _ ?_
    show SP p e below T2 (mkF m 4 #[vR o0, vI ((46 : Int32)), vI i0, vI ((19 : Int32))] [sI i1]) _
    refine XS.ifYes X2.here hx rfl (pc0 := 4) (pc' := 9) rfl (hb hby d17_4) rfl ((if0 _ _).trans (feq ((by decide) : ¬ ((1 : Int32) = (0 : Int32)))).2) (by decide) (by decide) ?_
    refine XS.iloadN X2.here hx rfl (hb hby d17_9) rfl ?_
    refine XS.iconst X2.here hx rfl (hb hby d17_10) ?_
    exact k)
  obtain ⟨_, _, ⟨T5, L5, k5, n5⟩, -, X5, ⟨Lc5, hQ5, l5, y5, z5⟩, st5⟩ := Jvm.LawKit.callS X2 hx (y := yN3) hown (mvT hZ (wD hw 120 rfl)) (mvT hZ (wD hw 121 rfl)) (mvT hZ (wD hw 3 rfl)) (mvT hZ (wD hw 122 rfl)) (by decide) (backOf (W := 0) (rm_max00 l Z a0 hw []  h0 n0 Z0 ) hZ (wD hw 122 rfl) (wD hw 3 rfl) (by decide) (by decide)) (g := (mkF m 11 #[vR o0, vI ((46 : Int32)), vI i0, vI ((19 : Int32))] [sI i0, sI i0])) rfl (by rw [hml]; rfl) (argsL := [(.int (0 : Int32)), (.int (0 : Int32))]) (rest := []) (lenOf pd_rm_lio_1 rfl) rfl (by show 2 * 0 + _ ≤ _; exact Nat.le_of_eq rfl) (hb hby d17_11) (fun _ _ => ⟨rfl, e2, (by decide : 0 + 0 ≤ _), (by decide : 0 + 0 ≤ _)⟩)
  dsimp only [Pt.U, Pt.locs, Pt.cells, Pt.slots] at X5 l5 y5 z5 st5 hQ5
  rw [l5, y5, z5] at X5
  obtain ⟨rfl, N5q, e5⟩ := hQ5
  have N5 := Fr.app N2 N5q
  have go6 := go4.st T5 (mkF m 17 #[vR o0, vI ((46 : Int32)), vI i0, vI ((19 : Int32))] [sR o0, (sI (19 : Int32))]) (fun t k => by
    refine st5 _ ?_
    show SP p e below T5 (mkF m 14 #[vR o0, vI ((46 : Int32)), vI i0, vI ((19 : Int32))] [sI i0]) _
    refine XS.istoreN X5.here hx rfl (hb hby d17_14) rfl (l' := #[vR o0, vI ((46 : Int32)), vI i0, vI ((19 : Int32))]) rfl ?_
    refine XS.iloadN X5.here hx rfl (hb hby d17_15) rfl ?_
    refine XS.aloadN X5.here hx rfl (hb hby d17_16) rfl rfl ?_
    exact k)
  have Vo7 := V_o0
  obtain ⟨cl7, Ar7, qa7, Sa7, Na7, Ha7, Ga7⟩ := Vo7
  have go8 := go6.st T5 (mkF m 18 #[vR o0, vI ((46 : Int32)), vI i0, vI ((19 : Int32))] [(sI (19 : Int32)), (sI (19 : Int32))]) (fun t k => by
    refine X5.arraylength hx (by rw [e5]; exact Ar7.1) (State.isArrayOf_alike hZ.alike Ar7.2.1) (g := (mkF m 17 #[vR o0, vI ((46 : Int32)), vI i0, vI ((19 : Int32))] [sR o0, (sI (19 : Int32))])) rfl rfl (hb hby d17_17) _ ?_
    rw [len_of Sa7 Na7]
    exact k)
  obtain ⟨_, _, ⟨T9, L9, k9, n9⟩, -, X9, ⟨Lc9, hQ9, l9, y9, z9⟩, st9⟩ := Jvm.LawKit.callS X5 hx (y := yN4) hown (mvT hZ (wD hw 123 rfl)) (mvT hZ (wD hw 124 rfl)) (mvT hZ (wD hw 3 rfl)) (mvT hZ (wD hw 125 rfl)) (by decide) (backOf (W := 0) (rm_min19 l Z a0 hw []  h0 n0 Z0 ) hZ (wD hw 125 rfl) (wD hw 3 rfl) (by decide) (by decide)) (g := (mkF m 18 #[vR o0, vI ((46 : Int32)), vI i0, vI ((19 : Int32))] [(sI (19 : Int32)), (sI (19 : Int32))])) rfl (by rw [hml]; rfl) (argsL := [(.int (19 : Int32)), (.int (19 : Int32))]) (rest := []) (lenOf pd_rm_lio_1 rfl) rfl (by show 2 * 0 + _ ≤ _; exact Nat.le_of_eq rfl) (hb hby d17_18) (fun _ _ => ⟨rfl, e5, (by decide : 0 + 0 ≤ _), (by decide : 0 + 0 ≤ _)⟩)
  dsimp only [Pt.U, Pt.locs, Pt.cells, Pt.slots] at X9 l9 y9 z9 st9 hQ9
  rw [l9, y9, z9] at X9
  obtain ⟨rfl, N9q, e9⟩ := hQ9
  have N9 := Fr.app N5 N9q
  have go11 := go8.st T9 (mkF m 33 #[vR o0, vI ((46 : Int32)), vI i0, vI ((19 : Int32))] [(sI (19 : Int32)), sI i0, (sI (46 : Int32)), sR o0]) (fun t k => by
    refine st9 _ ?_
    show SP p e below T9 (mkF m 21 #[vR o0, vI ((46 : Int32)), vI i0, vI ((19 : Int32))] [(sI (19 : Int32))]) _
    refine XS.istoreN X9.here hx rfl (hb hby d17_21) rfl (l' := #[vR o0, vI ((46 : Int32)), vI i0, vI ((19 : Int32))]) rfl ?_
    refine XS.iloadN X9.here hx rfl (hb hby d17_22) rfl ?_
    refine XS.iloadN X9.here hx rfl (hb hby d17_23) rfl ?_
    refine XS.icmpYes X9.here hx rfl (pc0 := 24) (pc' := 29) rfl (hb hby d17_24) rfl (tlt ((by decide) : (0 : Int32) < (19 : Int32))).1 (by decide) (by decide) ?_
    refine XS.aloadN X9.here hx rfl (hb hby d17_29) rfl rfl ?_
    refine XS.iloadN X9.here hx rfl (hb hby d17_30) rfl ?_
    refine XS.iloadN X9.here hx rfl (hb hby d17_31) rfl ?_
    refine XS.iloadN X9.here hx rfl (hb hby d17_32) rfl ?_
    exact k)
  obtain ⟨_, _, ⟨T12, L12, k12, n12⟩, -, X12, ⟨Lc12, hQ12, l12, y12, z12⟩, st12⟩ := Jvm.LawKit.callS X9 hx (y := yN23) hown (mvT hZ (wD hw 126 rfl)) (mvT hZ (wD hw 127 rfl)) (mvT hZ (wD hw 115 rfl)) (mvT hZ (wD hw 128 rfl)) (by decide) (backOf (W := 0) (rm_ioc l Z a0 hw [] o0 kb vs qv h0 n0 Z0 V_o0 hv hq) hZ (wD hw 128 rfl) (wD hw 115 rfl) (by decide) (by decide)) (g := (mkF m 33 #[vR o0, vI ((46 : Int32)), vI i0, vI ((19 : Int32))] [(sI (19 : Int32)), sI i0, (sI (46 : Int32)), sR o0])) rfl (by rw [hml]; rfl) (argsL := [(.ref o0), (.int (46 : Int32)), (.int (0 : Int32)), (.int (19 : Int32))]) (rest := []) (lenOf pd_rm_lio_2 rfl) rfl (by show 2 * 0 + _ ≤ _; exact Nat.le_of_eq rfl) (hb hby d17_33) (fun _ _ => ⟨rfl, e9, (by decide : 0 + 0 ≤ _), (by decide : 0 + 0 ≤ _)⟩)
  dsimp only [Pt.U, Pt.locs, Pt.cells, Pt.slots] at X12 l12 y12 z12 st12 hQ12
  rw [l12, y12, z12] at X12
  obtain ⟨rfl, N12q, e12⟩ := hQ12
  have N12 := Fr.app N9 N12q
  have go13 := go11.st T12 (mkF m 36 #[vR o0, vI ((46 : Int32)), vI i0, vI ((19 : Int32))] [(sI (-1 : Int32))]) (fun t k => by
    refine st12 _ ?_
    exact k)
  obtain ⟨fs, hr, hrun, hended, hW, hsame⟩ := X12.leave (v := some (.int (-1 : Int32))) (fun h => by rw [Bd.returns] at h; cases h)
  refine ⟨_, _, go13 _ ?_, hrun, hended, _, _, rfl, ?_, ⟨_, rfl⟩, hW, hsame.mono (by decide) (by decide)⟩
  · exact own_retI X12 hx Bd.returns (hb hby d17_36) hr
  · show Q_rm_lio Z o0 kb vs qv h0 n0 _ T12.heap _
    rw [e12]
    exact ⟨rfl, N12, rfl⟩
theorem d15_0 : decode jdk_42_method_80_code 0 = .ok (.aload_n 0, 1) := by decide +kernel
theorem d15_1 : decode jdk_42_method_80_code 1 = .ok (.invokevirtual 492, 3) := by decide +kernel
theorem d15_4 : decode jdk_42_method_80_code 4 = .ok (.ifCond .eq 19, 3) := by decide +kernel
theorem d15_7 : decode jdk_42_method_80_code 7 = .ok (.aload_n 0, 1) := by decide +kernel
theorem d15_8 : decode jdk_42_method_80_code 8 = .ok (.getfield 9, 3) := by decide +kernel
theorem d15_11 : decode jdk_42_method_80_code 11 = .ok (.iload_n 1, 1) := by decide +kernel
theorem d15_12 : decode jdk_42_method_80_code 12 = .ok (.iload_n 2, 1) := by decide +kernel
theorem d15_13 : decode jdk_42_method_80_code 13 = .ok (.aload_n 0, 1) := by decide +kernel
theorem d15_14 : decode jdk_42_method_80_code 14 = .ok (.invokevirtual 505, 3) := by decide +kernel
theorem d15_17 : decode jdk_42_method_80_code 17 = .ok (.invokestatic 637, 3) := by decide +kernel
theorem d15_20 : decode jdk_42_method_80_code 20 = .ok (.goto 16, 3) := by decide +kernel
theorem d15_36 : decode jdk_42_method_80_code 36 = .ok (.ireturn, 1) := by decide +kernel
theorem pn_rm_io2 : plainName "java/lang/String" = true := by first | (simp [plainName, overriddenIn]; done) | decide +kernel
theorem pd_rm_io2_0 : parseMethodDescriptor "()Z" = some ⟨[], some .boolean⟩ := by decide +kernel
theorem pd_rm_io2_1 : parseMethodDescriptor "()I" = some ⟨[], some .int⟩ := by decide +kernel
theorem pd_rm_io2_2 : parseMethodDescriptor "([BIII)I" = some ⟨[(.array .byte), .int, .int, .int], some .int⟩ := by decide +kernel
theorem ef_rm_io2 (m : MethodId) (o0 : Addr) : entryFrame m #[(.ref o0), (.int (46 : Int32)), (.int (0 : Int32))] 3 = mkF m 0 #[.val (.ref o0), .val (.int (46 : Int32)), .val (.int (0 : Int32))] [] := by first | (simp [entryFrame, mkF, argsToLocals, Value.category]; done) | rfl
def Q_rm_io2 (Z : State) (o0 : Addr) (cs : Int32) (vb : Addr) (kb : ClassId) (vs : List Value) (qv : Int64) (h0 : Heap) (n0 : Nat) (v : Option Value) (h : Heap) (L : List Loc) : Prop := v = some (.int (-1 : Int32)) ∧ Fr n0 L ∧ h = h0
set_option maxRecDepth 65536 in
set_option maxHeartbeats 40000000 in
theorem rm_io2 (l : Launch) (Z : State) (a0 : Array Value) (hw : ∀ d ∈ tables_1, d.before a0 Z = true) (ws : List Jvm.Cond) (o0 : Addr) (cs : Int32) (vb : Addr) (kb : ClassId) (vs : List Value) (qv : Int64) (h0 : Heap) (n0 : Nat) (Z0 : n0 ≤ h0.size) (Ol : Old Z n0 h0) (S_cs : Sta Z Z.heap "java/lang/String" "COMPACT_STRINGS" "Z" (.int cs)) (hcs : ¬ cs = (0 : Int32)) (E_o0 : Exa Z h0 o0 "java/lang/String") (F_coder_o0 : Fld Z h0 o0 "java/lang/String" "coder" "B" (.int (0 : Int32))) (F_value_o0 : Fld Z h0 o0 "java/lang/String" "value" "[B" (.ref vb)) (V_vb : Arv Z h0 vb kb .byte (19 : Int32) vs (.int (0 : Int32))) (hv : own_Vs vs qv) (hq : 0 ≤ qv.toInt) :
    MetFree l yN25 (head1 (Jvm.Cond.code yN25 jdk_42_method_80_code 3 (some .int) :: ws) ({ frames := 2, cells := 0, slots := 0, locals := 32 } : Room)) (fun a U => a = #[(.ref o0), (.int (46 : Int32)), (.int (0 : Int32))] ∧ Z.Warmed39 U.vm ∧ U.heap = h0) (fun _ _ _ _ _ => True) (fun _ U o U' => ∃ v L, o = .returned v ∧ Q_rm_io2 Z o0 cs vb kb vs qv h0 n0 v U'.heap L ∧ FrameEnd U o U' L ({ frames := 2, cells := 0, slots := 0, locals := 32 } : Room).cells ({ frames := 2, cells := 0, slots := 0, locals := 32 } : Room).slots) := by
  refine MetFree.of_bodySF (plainFor_of_name pn_rm_io2) hisR ?_
  intro p e s m args below meth c s₁ Bd hml0 hP hK
  obtain ⟨rfl, hZ, hh⟩ := hP
  have hx := Bd.exec
  have hby := Bd.bytes
  have hml : c.maxLocals = 3 := hml0
  have hown : s.vm.findClass "java/lang/String" = some m.cls := findClass_of_methodNamed Bd.named
  have hnm := (name_of_methodNamed Bd.named Bd.method).1
  have X0 : Stand p l e ({ frames := 2, cells := 0, slots := 0, locals := 32 } : Room) s m #[(.ref o0), (.int (46 : Int32)), (.int (0 : Int32))] below meth c s₁ [] 0 0 := Stand.of_body Bd
  have e0 : s₁.heap = h0 := by rw [← hh, Bd.state]; rfl
  have N0 := Fr.nil n0
  have K0 := Keep.refl h0 []
  have go0 : Go p e below (s₁.setTop (entryFrame m #[(.ref o0), (.int (46 : Int32)), (.int (0 : Int32))] 3)) (s₁.setTop (mkF m 0 #[vR o0, vI ((46 : Int32)), vI i0] [])) := fun t k => castTop (ef_rm_io2 m o0) k
  have go1 := go0.st s₁ (mkF m 1 #[vR o0, vI ((46 : Int32)), vI i0] [sR o0]) (fun t k => by
    refine XS.aloadN X0.here hx rfl (hb hby d15_0) rfl rfl ?_
    exact k)
  obtain ⟨cq2, kq2, q2a, q2b, q2c⟩ := isOf hZ e0 E_o0
  obtain ⟨_, _, ⟨T2, L2, k2, n2⟩, -, X2, ⟨Lc2, hQ2, l2, y2, z2⟩, st2⟩ := X0.virtualBack hx (y := yN15) (z := yN15) hown (mvT hZ (wD hw 107 rfl)) (mvT hZ (wD hw 108 rfl)) (notFace_of_selects (args := #[]) (mvT hZ (wD hw 110 rfl))) (mvT hZ (wD hw 110 rfl)) (mvT hZ (wD hw 109 rfl)) (by decide) (backOf (W := 0) (rm_lat l Z a0 hw [] o0 cs h0 n0 Z0 Ol S_cs hcs F_coder_o0) hZ (wD hw 111 rfl) (wD hw 33 rfl) (by decide) (by decide)) q2a q2c (g := (mkF m 1 #[vR o0, vI ((46 : Int32)), vI i0] [sR o0])) rfl (by rw [hml]; rfl) (Steps.refl _) (argsL := []) (rest := []) (lenOf pd_rm_io2_0 rfl) rfl (by show 2 * 0 + _ ≤ _; exact Nat.le_of_eq rfl) (hb hby d15_1) (fun _ _ => ⟨rfl, e0, (by decide : 0 + 0 ≤ _), (by decide : 0 + 0 ≤ _)⟩)
  dsimp only [Pt.U, Pt.locs, Pt.cells, Pt.slots] at X2 l2 y2 z2 st2 hQ2
  rw [l2, y2, z2] at X2
  obtain ⟨rfl, N2q, e2⟩ := hQ2
  have N2 := Fr.app N0 N2q
  have go4 := go1.st T2 (mkF m 8 #[vR o0, vI ((46 : Int32)), vI i0] [sR o0]) (fun t k => by
    refine st2.trans ?_
    show SP p e below T2 (mkF m 4 #[vR o0, vI ((46 : Int32)), vI i0] [sI i1]) _
    refine XS.ifNo X2.here hx rfl (hb hby d15_4) rfl ((if0 _ _).trans (feq ((by decide) : ¬ ((1 : Int32) = (0 : Int32)))).1) ?_
    refine XS.aloadN X2.here hx rfl (hb hby d15_7) rfl rfl ?_
    exact k)
  obtain ⟨T5, X5, e5, st5⟩ := getF X2 hx hZ hown (host := "") (Or.inl (wD hw 58 rfl)) Via.refl e2 F_value_o0 (g := (mkF m 8 #[vR o0, vI ((46 : Int32)), vI i0] [sR o0])) rfl rfl (hb hby d15_8)
  have go6 := go4.st T5 (mkF m 14 #[vR o0, vI ((46 : Int32)), vI i0] [sR o0, sI i0, (sI (46 : Int32)), sR vb]) (fun t k => by
    refine st5 _ ?_
    show SP p e below T5 (mkF m 11 #[vR o0, vI ((46 : Int32)), vI i0] [sR vb]) _
    refine XS.iloadN X5.here hx rfl (hb hby d15_11) rfl ?_
    refine XS.iloadN X5.here hx rfl (hb hby d15_12) rfl ?_
    refine XS.aloadN X5.here hx rfl (hb hby d15_13) rfl rfl ?_
    exact k)
  obtain ⟨cq7, kq7, q7a, q7b, q7c⟩ := isOf hZ e5 E_o0
  obtain ⟨_, _, ⟨T7, L7, k7, n7⟩, -, X7, ⟨Lc7, hQ7, l7, y7, z7⟩, st7⟩ := X5.virtualBack hx (y := yN17) (z := yN17) hown (mvT hZ (wD hw 112 rfl)) (mvT hZ (wD hw 88 rfl)) (notFace_of_selects (args := #[]) (mvT hZ (wD hw 90 rfl))) (mvT hZ (wD hw 90 rfl)) (mvT hZ (wD hw 89 rfl)) (by decide) (backOf (W := 3) (rm_len l Z a0 hw [] o0 cs vb kb vs h0 n0 Z0 Ol S_cs hcs E_o0 F_coder_o0 F_value_o0 V_vb) hZ (wD hw 91 rfl) (wD hw 33 rfl) (by decide) (by decide)) q7a q7c (g := (mkF m 14 #[vR o0, vI ((46 : Int32)), vI i0] [sR o0, sI i0, (sI (46 : Int32)), sR vb])) rfl (by rw [hml]; rfl) (Steps.refl _) (argsL := []) (rest := [(.int (0 : Int32)), (.int (46 : Int32)), (.ref vb)]) (lenOf pd_rm_io2_1 rfl) rfl (by show 2 * 0 + _ ≤ _; exact Nat.le_of_eq rfl) (hb hby d15_14) (fun _ _ => ⟨rfl, e5, (by decide : 0 + 0 ≤ _), (by decide : 0 + 0 ≤ _)⟩)
  dsimp only [Pt.U, Pt.locs, Pt.cells, Pt.slots] at X7 l7 y7 z7 st7 hQ7
  rw [l7, y7, z7] at X7
  obtain ⟨rfl, N7q, e7⟩ := hQ7
  have N7 := Fr.app N2 N7q
  have go8 := go6.st T7 (mkF m 17 #[vR o0, vI ((46 : Int32)), vI i0] [(sI (19 : Int32)), sI i0, (sI (46 : Int32)), sR vb]) (fun t k => by
    refine st7.trans ?_
    exact k)
  obtain ⟨_, _, ⟨T9, L9, k9, n9⟩, -, X9, ⟨Lc9, hQ9, l9, y9, z9⟩, st9⟩ := Jvm.LawKit.callS X7 hx (y := yN24) hown (mvT hZ (wD hw 113 rfl)) (mvT hZ (wD hw 114 rfl)) (mvT hZ (wD hw 115 rfl)) (mvT hZ (wD hw 116 rfl)) (by decide) (backOf (W := 0) (rm_lio l Z a0 hw [] vb kb vs qv h0 n0 Z0 V_vb hv hq) hZ (wD hw 116 rfl) (wD hw 115 rfl) (by decide) (by decide)) (g := (mkF m 17 #[vR o0, vI ((46 : Int32)), vI i0] [(sI (19 : Int32)), sI i0, (sI (46 : Int32)), sR vb])) rfl (by rw [hml]; rfl) (argsL := [(.ref vb), (.int (46 : Int32)), (.int (0 : Int32)), (.int (19 : Int32))]) (rest := []) (lenOf pd_rm_io2_2 rfl) rfl (by show 2 * 0 + _ ≤ _; exact Nat.le_of_eq rfl) (hb hby d15_17) (fun _ _ => ⟨rfl, e7, (by decide : 0 + 0 ≤ _), (by decide : 0 + 0 ≤ _)⟩)
  dsimp only [Pt.U, Pt.locs, Pt.cells, Pt.slots] at X9 l9 y9 z9 st9 hQ9
  rw [l9, y9, z9] at X9
  obtain ⟨rfl, N9q, e9⟩ := hQ9
  have N9 := Fr.app N7 N9q
  have go10 := go8.st T9 (mkF m 36 #[vR o0, vI ((46 : Int32)), vI i0] [(sI (-1 : Int32))]) (fun t k => by
    refine st9 _ ?_
    show SP p e below T9 (mkF m 20 #[vR o0, vI ((46 : Int32)), vI i0] [(sI (-1 : Int32))]) _
    refine XS.goto X9.here hx rfl (pc0 := 20) (pc' := 36) rfl (hb hby d15_20) (by decide) (by decide) ?_
    exact k)
  obtain ⟨fs, hr, hrun, hended, hW, hsame⟩ := X9.leave (v := some (.int (-1 : Int32))) (fun h => by rw [Bd.returns] at h; cases h)
  refine ⟨_, _, go10 _ ?_, hrun, hended, _, _, rfl, ?_, ⟨_, rfl⟩, hW, hsame.mono (by decide) (by decide)⟩
  · exact own_retI X9 hx Bd.returns (hb hby d15_36) hr
  · show Q_rm_io2 Z o0 cs vb kb vs qv h0 n0 _ T9.heap _
    rw [e9]
    exact ⟨rfl, N9, rfl⟩
theorem d14_0 : decode jdk_42_method_79_code 0 = .ok (.aload_n 0, 1) := by decide +kernel
theorem d14_1 : decode jdk_42_method_79_code 1 = .ok (.iload_n 1, 1) := by decide +kernel
theorem d14_2 : decode jdk_42_method_79_code 2 = .ok (.iconst 0, 1) := by decide +kernel
theorem d14_3 : decode jdk_42_method_79_code 3 = .ok (.invokevirtual 633, 3) := by decide +kernel
theorem d14_6 : decode jdk_42_method_79_code 6 = .ok (.ireturn, 1) := by decide +kernel
theorem pn_rm_io1 : plainName "java/lang/String" = true := by first | (simp [plainName, overriddenIn]; done) | decide +kernel
theorem pd_rm_io1_0 : parseMethodDescriptor "(II)I" = some ⟨[.int, .int], some .int⟩ := by decide +kernel
theorem ef_rm_io1 (m : MethodId) (o0 : Addr) : entryFrame m #[(.ref o0), (.int (46 : Int32))] 2 = mkF m 0 #[.val (.ref o0), .val (.int (46 : Int32))] [] := by first | (simp [entryFrame, mkF, argsToLocals, Value.category]; done) | rfl
def Q_rm_io1 (Z : State) (o0 : Addr) (cs : Int32) (vb : Addr) (kb : ClassId) (vs : List Value) (qv : Int64) (h0 : Heap) (n0 : Nat) (v : Option Value) (h : Heap) (L : List Loc) : Prop := v = some (.int (-1 : Int32)) ∧ Fr n0 L ∧ h = h0
set_option maxRecDepth 65536 in
set_option maxHeartbeats 40000000 in
theorem rm_io1 (l : Launch) (Z : State) (a0 : Array Value) (hw : ∀ d ∈ tables_1, d.before a0 Z = true) (ws : List Jvm.Cond) (o0 : Addr) (cs : Int32) (vb : Addr) (kb : ClassId) (vs : List Value) (qv : Int64) (h0 : Heap) (n0 : Nat) (Z0 : n0 ≤ h0.size) (Ol : Old Z n0 h0) (S_cs : Sta Z Z.heap "java/lang/String" "COMPACT_STRINGS" "Z" (.int cs)) (hcs : ¬ cs = (0 : Int32)) (E_o0 : Exa Z h0 o0 "java/lang/String") (F_coder_o0 : Fld Z h0 o0 "java/lang/String" "coder" "B" (.int (0 : Int32))) (F_value_o0 : Fld Z h0 o0 "java/lang/String" "value" "[B" (.ref vb)) (V_vb : Arv Z h0 vb kb .byte (19 : Int32) vs (.int (0 : Int32))) (hv : own_Vs vs qv) (hq : 0 ≤ qv.toInt) :
    MetFree l yN26 (head1 (Jvm.Cond.code yN26 jdk_42_method_79_code 2 (some .int) :: ws) ({ frames := 3, cells := 0, slots := 0, locals := 46 } : Room)) (fun a U => a = #[(.ref o0), (.int (46 : Int32))] ∧ Z.Warmed39 U.vm ∧ U.heap = h0) (fun _ _ _ _ _ => True) (fun _ U o U' => ∃ v L, o = .returned v ∧ Q_rm_io1 Z o0 cs vb kb vs qv h0 n0 v U'.heap L ∧ FrameEnd U o U' L ({ frames := 3, cells := 0, slots := 0, locals := 46 } : Room).cells ({ frames := 3, cells := 0, slots := 0, locals := 46 } : Room).slots) := by
  refine MetFree.of_bodySF (plainFor_of_name pn_rm_io1) hisR ?_
  intro p e s m args below meth c s₁ Bd hml0 hP hK
  obtain ⟨rfl, hZ, hh⟩ := hP
  have hx := Bd.exec
  have hby := Bd.bytes
  have hml : c.maxLocals = 2 := hml0
  have hown : s.vm.findClass "java/lang/String" = some m.cls := findClass_of_methodNamed Bd.named
  have hnm := (name_of_methodNamed Bd.named Bd.method).1
  have X0 : Stand p l e ({ frames := 3, cells := 0, slots := 0, locals := 46 } : Room) s m #[(.ref o0), (.int (46 : Int32))] below meth c s₁ [] 0 0 := Stand.of_body Bd
  have e0 : s₁.heap = h0 := by rw [← hh, Bd.state]; rfl
  have N0 := Fr.nil n0
  have K0 := Keep.refl h0 []
  have go0 : Go p e below (s₁.setTop (entryFrame m #[(.ref o0), (.int (46 : Int32))] 2)) (s₁.setTop (mkF m 0 #[vR o0, vI ((46 : Int32))] [])) := fun t k => castTop (ef_rm_io1 m o0) k
  have go1 := go0.st s₁ (mkF m 3 #[vR o0, vI ((46 : Int32))] [sI i0, (sI (46 : Int32)), sR o0]) (fun t k => by
    refine XS.aloadN X0.here hx rfl (hb hby d14_0) rfl rfl ?_
    refine XS.iloadN X0.here hx rfl (hb hby d14_1) rfl ?_
    refine XS.iconst X0.here hx rfl (hb hby d14_2) ?_
    exact k)
  obtain ⟨cq2, kq2, q2a, q2b, q2c⟩ := isOf hZ e0 E_o0
  obtain ⟨_, _, ⟨T2, L2, k2, n2⟩, -, X2, ⟨Lc2, hQ2, l2, y2, z2⟩, st2⟩ := X0.virtualBack hx (y := yN25) (z := yN25) hown (mvT hZ (wD hw 102 rfl)) (mvT hZ (wD hw 103 rfl)) (notFace_of_selects (args := #[]) (mvT hZ (wD hw 105 rfl))) (mvT hZ (wD hw 105 rfl)) (mvT hZ (wD hw 104 rfl)) (by decide) (backOf (W := 0) (rm_io2 l Z a0 hw [] o0 cs vb kb vs qv h0 n0 Z0 Ol S_cs hcs E_o0 F_coder_o0 F_value_o0 V_vb hv hq) hZ (wD hw 106 rfl) (wD hw 33 rfl) (by decide) (by decide)) q2a q2c (g := (mkF m 3 #[vR o0, vI ((46 : Int32))] [sI i0, (sI (46 : Int32)), sR o0])) rfl (by rw [hml]; rfl) (Steps.refl _) (argsL := [(.int (46 : Int32)), (.int (0 : Int32))]) (rest := []) (lenOf pd_rm_io1_0 rfl) rfl (by show 2 * 0 + _ ≤ _; exact Nat.le_of_eq rfl) (hb hby d14_3) (fun _ _ => ⟨rfl, e0, (by decide : 0 + 0 ≤ _), (by decide : 0 + 0 ≤ _)⟩)
  dsimp only [Pt.U, Pt.locs, Pt.cells, Pt.slots] at X2 l2 y2 z2 st2 hQ2
  rw [l2, y2, z2] at X2
  obtain ⟨rfl, N2q, e2⟩ := hQ2
  have N2 := Fr.app N0 N2q
  have go3 := go1.st T2 (mkF m 6 #[vR o0, vI ((46 : Int32))] [(sI (-1 : Int32))]) (fun t k => by
    refine st2.trans ?_
    exact k)
  obtain ⟨fs, hr, hrun, hended, hW, hsame⟩ := X2.leave (v := some (.int (-1 : Int32))) (fun h => by rw [Bd.returns] at h; cases h)
  refine ⟨_, _, go3 _ ?_, hrun, hended, _, _, rfl, ?_, ⟨_, rfl⟩, hW, hsame.mono (by decide) (by decide)⟩
  · exact own_retI X2 hx Bd.returns (hb hby d14_6) hr
  · show Q_rm_io1 Z o0 cs vb kb vs qv h0 n0 _ T2.heap _
    rw [e2]
    exact ⟨rfl, N2, rfl⟩
theorem d22_9 : decode prog_30_method_6_code 9 = .ok (.iload_n 3, 1) := by decide +kernel
theorem d22_10 : decode prog_30_method_6_code 10 = .ok (.iload_n 2, 1) := by decide +kernel
theorem d22_11 : decode prog_30_method_6_code 11 = .ok (.if_icmp .ge 31, 3) := by decide +kernel
theorem d22_14 : decode prog_30_method_6_code 14 = .ok (.aload_n 0, 1) := by decide +kernel
theorem d22_15 : decode prog_30_method_6_code 15 = .ok (.iload_n 3, 1) := by decide +kernel
theorem d22_16 : decode prog_30_method_6_code 16 = .ok (.invokevirtual 91, 3) := by decide +kernel
theorem d22_19 : decode prog_30_method_6_code 19 = .ok (.bipush 48, 2) := by decide +kernel
theorem d22_21 : decode prog_30_method_6_code 21 = .ok (.if_icmp .lt 13, 3) := by decide +kernel
theorem d22_24 : decode prog_30_method_6_code 24 = .ok (.aload_n 0, 1) := by decide +kernel
theorem d22_25 : decode prog_30_method_6_code 25 = .ok (.iload_n 3, 1) := by decide +kernel
theorem d22_26 : decode prog_30_method_6_code 26 = .ok (.invokevirtual 91, 3) := by decide +kernel
theorem d22_29 : decode prog_30_method_6_code 29 = .ok (.bipush 57, 2) := by decide +kernel
theorem d22_31 : decode prog_30_method_6_code 31 = .ok (.if_icmp .le 5, 3) := by decide +kernel
theorem d22_36 : decode prog_30_method_6_code 36 = .ok (.iinc 3 1, 3) := by decide +kernel
theorem d22_39 : decode prog_30_method_6_code 39 = .ok (.goto (-30), 3) := by decide +kernel
theorem pd_lp_isd_0 : parseMethodDescriptor "(I)C" = some ⟨[.int], some .char⟩ := by decide +kernel
set_option maxRecDepth 65536 in
set_option maxHeartbeats 40000000 in
theorem lp_isd {p : Program} {l : Launch} {e : Env} {s : State} {m : MethodId} {args : Array Value} {below : List Frame} {meth : Method} {c : Code} {Z : State} {a0 : Array Value} {A : State} {G : Prop} (o0 : Addr) (cs : Int32) (vf : Value) (vb : Addr) (kb : ClassId) (vs : List Value) (qv : Int64) (h0 : Heap) (n0 : Nat)
    (hx : p.tables.exec = Jvm.exec) (hZ : Z.Warmed39 s.vm) (hw : ∀ d ∈ tables_1, d.before a0 Z = true) (hby : c.code = prog_30_method_6_code) (hml : c.maxLocals = 4) (hown : s.vm.findClass "com/example/equipoise/equipoise/InputLines" = some m.cls) (Ol : Old Z n0 h0) (S_cs : Sta Z Z.heap "java/lang/String" "COMPACT_STRINGS" "Z" (.int cs)) (hcs : ¬ cs = (0 : Int32)) (S_sf : Sta Z Z.heap "jdk/internal/util/Preconditions" "SIOOBE_FORMATTER" "Ljava/util/function/BiFunction;" vf) (hvf : vf.isRef = true) (E_o0 : Exa Z h0 o0 "java/lang/String") (F_coder_o0 : Fld Z h0 o0 "java/lang/String" "coder" "B" (.int (0 : Int32))) (F_value_o0 : Fld Z h0 o0 "java/lang/String" "value" "[B" (.ref vb)) (V_vb : Arv Z h0 vb kb .byte (19 : Int32) vs (.int (0 : Int32))) (hv : own_Vs vs qv) (hq : 0 ≤ qv.toInt) (Z0h : n0 ≤ h0.size)
    (kx0 : ∀ (T : State) (locs : List Loc) (i : Int32), Stand p l e ({ frames := 4, cells := 0, slots := 0, locals := 53 } : Room) s m args below meth c T locs 0 0 → T.heap = h0 → Fr n0 locs → Go p e below A (T.setTop (mkF m 42 #[vR o0, vI i0, vI ((19 : Int32)), vI i] [])) → G)
    : ∀ (k : Nat) (T : State) (locs : List Loc) (i : Int32) (j : Nat), Stand p l e ({ frames := 4, cells := 0, slots := 0, locals := 53 } : Room) s m args below meth c T locs 0 0 → T.heap = h0 → Fr n0 locs → i.toInt = (j : Int) → j + k = 19 → Go p e below A (T.setTop (mkF m 9 #[vR o0, vI i0, vI ((19 : Int32)), vI i] [])) → G := by
  intro k
  induction k with
  | zero =>
    intro T locs i j X0 e0 N0 hi hk go0
    have Z0 := Z0h
    have K0 := Keep.refl h0 []
    have go2 := go0.st T (mkF m 42 #[vR o0, vI i0, vI ((19 : Int32)), vI i] []) (fun t k => by
      refine XS.iloadN X0.here hx rfl (hb hby d22_9) rfl ?_
      refine XS.iloadN X0.here hx rfl (hb hby d22_10) rfl ?_
      refine XS.icmpYes X0.here hx rfl (pc0 := 11) (pc' := 42) rfl (hb hby d22_11) rfl (flt (own_nlt hi hk : ¬ (i < (19 : Int32)))).2.1 (by decide) (by decide) ?_
      exact k)
    exact kx0 T _ i X0 e0 N0  go2
  | succ k ih =>
    intro T locs i j X0 e0 N0 hi hk go0
    have Z0 := Z0h
    have K0 := Keep.refl h0 []
    have go4 := go0.st T (mkF m 16 #[vR o0, vI i0, vI ((19 : Int32)), vI i] [sI i, sR o0]) (fun t k => by
      refine XS.iloadN X0.here hx rfl (hb hby d22_9) rfl ?_
      refine XS.iloadN X0.here hx rfl (hb hby d22_10) rfl ?_
      refine XS.icmpNo X0.here hx rfl (hb hby d22_11) rfl (tlt (own_lt hi hk : i < (19 : Int32))).2.1 ?_
      refine XS.aloadN X0.here hx rfl (hb hby d22_14) rfl rfl ?_
      refine XS.iloadN X0.here hx rfl (hb hby d22_15) rfl ?_
      exact k)
    obtain ⟨cq5, kq5, q5a, q5b, q5c⟩ := isOf hZ e0 E_o0
    obtain ⟨_, _, ⟨T5, L5, k5, n5⟩, -, X5, ⟨Lc5, hQ5, l5, y5, z5⟩, st5⟩ := X0.virtualBack hx (y := yN21) (z := yN21) hown (mvT hZ (wD hw 132 rfl)) (mvT hZ (wD hw 133 rfl)) (notFace_of_selects (args := #[]) (mvT hZ (wD hw 135 rfl))) (mvT hZ (wD hw 135 rfl)) (mvT hZ (wD hw 134 rfl)) (by decide) (backOf (W := 0) (rm_ca l Z a0 hw [] o0 i cs vf vb kb vs (own_f qv j) h0 n0 Z0 Ol S_cs hcs S_sf hvf E_o0 F_coder_o0 F_value_o0 V_vb (own_in hi (by omega)).1 (own_in hi (by omega)).2 (own_rd hv hi (by omega)) (own_fr hq (by omega))) hZ (wD hw 136 rfl) (wD hw 33 rfl) (by decide) (by decide)) q5a q5c (g := (mkF m 16 #[vR o0, vI i0, vI ((19 : Int32)), vI i] [sI i, sR o0])) rfl (by rw [hml]; rfl) (Steps.refl _) (argsL := [(.int i)]) (rest := []) (lenOf pd_lp_isd_0 rfl) rfl (by show 2 * 0 + _ ≤ _; exact Nat.le_of_eq rfl) (hb hby d22_16) (fun _ _ => ⟨rfl, e0, (by decide : 0 + 0 ≤ _), (by decide : 0 + 0 ≤ _)⟩)
    dsimp only [Pt.U, Pt.locs, Pt.cells, Pt.slots] at X5 l5 y5 z5 st5 hQ5
    rw [l5, y5, z5] at X5
    obtain ⟨rfl, N5q, e5⟩ := hQ5
    have N5 := Fr.app N0 N5q
    have go7 := go4.st T5 (mkF m 26 #[vR o0, vI i0, vI ((19 : Int32)), vI i] [sI i, sR o0]) (fun t k => by
      refine st5.trans ?_
      show SP p e below T5 (mkF m 19 #[vR o0, vI i0, vI ((19 : Int32)), vI i] [(sI (own_f qv j))]) _
      refine XS.bipush X5.here hx rfl (hb hby d22_19) ?_
      refine XS.icmpNo X5.here hx rfl (hb hby d22_21) rfl (flt ((own_u (own_fr hq (by omega))).2.2.1 : ¬ ((own_f qv j) < (48 : Int32)))).1 ?_
      refine XS.aloadN X5.here hx rfl (hb hby d22_24) rfl rfl ?_
      refine XS.iloadN X5.here hx rfl (hb hby d22_25) rfl ?_
      exact k)
    obtain ⟨cq8, kq8, q8a, q8b, q8c⟩ := isOf hZ e5 E_o0
    obtain ⟨_, _, ⟨T8, L8, k8, n8⟩, -, X8, ⟨Lc8, hQ8, l8, y8, z8⟩, st8⟩ := X5.virtualBack hx (y := yN21) (z := yN21) hown (mvT hZ (wD hw 132 rfl)) (mvT hZ (wD hw 133 rfl)) (notFace_of_selects (args := #[]) (mvT hZ (wD hw 135 rfl))) (mvT hZ (wD hw 135 rfl)) (mvT hZ (wD hw 134 rfl)) (by decide) (backOf (W := 0) (rm_ca l Z a0 hw [] o0 i cs vf vb kb vs (own_f qv j) h0 n0 Z0 Ol S_cs hcs S_sf hvf E_o0 F_coder_o0 F_value_o0 V_vb (own_in hi (by omega)).1 (own_in hi (by omega)).2 (own_rd hv hi (by omega)) (own_fr hq (by omega))) hZ (wD hw 136 rfl) (wD hw 33 rfl) (by decide) (by decide)) q8a q8c (g := (mkF m 26 #[vR o0, vI i0, vI ((19 : Int32)), vI i] [sI i, sR o0])) rfl (by rw [hml]; rfl) (Steps.refl _) (argsL := [(.int i)]) (rest := []) (lenOf pd_lp_isd_0 rfl) rfl (by show 2 * 0 + _ ≤ _; exact Nat.le_of_eq rfl) (hb hby d22_26) (fun _ _ => ⟨rfl, e5, (by decide : 0 + 0 ≤ _), (by decide : 0 + 0 ≤ _)⟩)
    dsimp only [Pt.U, Pt.locs, Pt.cells, Pt.slots] at X8 l8 y8 z8 st8 hQ8
    rw [l8, y8, z8] at X8
    obtain ⟨rfl, N8q, e8⟩ := hQ8
    have N8 := Fr.app N5 N8q
    have go10 := go7.st T8 (mkF m 9 #[vR o0, vI i0, vI ((19 : Int32)), vI ((i + i1))] []) (fun t k => by
      refine st8.trans ?_
      show SP p e below T8 (mkF m 29 #[vR o0, vI i0, vI ((19 : Int32)), vI i] [(sI (own_f qv j))]) _
      refine XS.bipush X8.here hx rfl (hb hby d22_29) ?_
      refine XS.icmpYes X8.here hx rfl (pc0 := 31) (pc' := 36) rfl (hb hby d22_31) rfl (flt ((own_u (own_fr hq (by omega))).2.2.2 : ¬ ((57 : Int32) < (own_f qv j)))).2.2.2 (by decide) (by decide) ?_
      refine XS.iinc X8.here hx rfl (hb hby d22_36) rfl (l' := #[vR o0, vI i0, vI ((19 : Int32)), vI ((i + i1))]) rfl ?_
      refine XS.goto X8.here hx rfl (pc0 := 39) (pc' := 9) rfl (hb hby d22_39) (by decide) (by decide) ?_
      exact k)
    exact ih T8 _ (i + (1 : Int32)) (j + 1) X8 e8 N8 (own_succ hi (by omega)) (by omega) go10
theorem d22_0 : decode prog_30_method_6_code 0 = .ok (.iload_n 1, 1) := by decide +kernel
theorem d22_1 : decode prog_30_method_6_code 1 = .ok (.iload_n 2, 1) := by decide +kernel
theorem d22_2 : decode prog_30_method_6_code 2 = .ok (.if_icmp .ne 5, 3) := by decide +kernel
theorem d22_7 : decode prog_30_method_6_code 7 = .ok (.iload_n 1, 1) := by decide +kernel
theorem d22_8 : decode prog_30_method_6_code 8 = .ok (.istore_n 3, 1) := by decide +kernel
theorem d22_42 : decode prog_30_method_6_code 42 = .ok (.iconst 1, 1) := by decide +kernel
theorem d22_43 : decode prog_30_method_6_code 43 = .ok (.ireturn, 1) := by decide +kernel
theorem pn_rm_isd : plainName "com/example/equipoise/equipoise/InputLines" = true := by first | (simp [plainName, overriddenIn]; done) | decide +kernel
theorem ef_rm_isd (m : MethodId) (o0 : Addr) : entryFrame m #[(.ref o0), (.int (0 : Int32)), (.int (19 : Int32))] 4 = mkF m 0 #[.val (.ref o0), .val (.int (0 : Int32)), .val (.int (19 : Int32)), uu] [] := by first | (simp [entryFrame, mkF, argsToLocals, Value.category]; done) | rfl
def Q_rm_isd (Z : State) (o0 : Addr) (cs : Int32) (vf : Value) (vb : Addr) (kb : ClassId) (vs : List Value) (qv : Int64) (h0 : Heap) (n0 : Nat) (v : Option Value) (h : Heap) (L : List Loc) : Prop := v = some (.int (1 : Int32)) ∧ Fr n0 L ∧ h = h0
set_option maxRecDepth 65536 in
set_option maxHeartbeats 40000000 in
theorem rm_isd (l : Launch) (Z : State) (a0 : Array Value) (hw : ∀ d ∈ tables_1, d.before a0 Z = true) (ws : List Jvm.Cond) (o0 : Addr) (cs : Int32) (vf : Value) (vb : Addr) (kb : ClassId) (vs : List Value) (qv : Int64) (h0 : Heap) (n0 : Nat) (Z0 : n0 ≤ h0.size) (Ol : Old Z n0 h0) (S_cs : Sta Z Z.heap "java/lang/String" "COMPACT_STRINGS" "Z" (.int cs)) (hcs : ¬ cs = (0 : Int32)) (S_sf : Sta Z Z.heap "jdk/internal/util/Preconditions" "SIOOBE_FORMATTER" "Ljava/util/function/BiFunction;" vf) (hvf : vf.isRef = true) (E_o0 : Exa Z h0 o0 "java/lang/String") (F_coder_o0 : Fld Z h0 o0 "java/lang/String" "coder" "B" (.int (0 : Int32))) (F_value_o0 : Fld Z h0 o0 "java/lang/String" "value" "[B" (.ref vb)) (V_vb : Arv Z h0 vb kb .byte (19 : Int32) vs (.int (0 : Int32))) (hv : own_Vs vs qv) (hq : 0 ≤ qv.toInt) :
    MetFree l yN27 (head1 (Jvm.Cond.code yN27 prog_30_method_6_code 4 (some .boolean) :: ws) ({ frames := 4, cells := 0, slots := 0, locals := 53 } : Room)) (fun a U => a = #[(.ref o0), (.int (0 : Int32)), (.int (19 : Int32))] ∧ Z.Warmed39 U.vm ∧ U.heap = h0) (fun _ _ _ _ _ => True) (fun _ U o U' => ∃ v L, o = .returned v ∧ Q_rm_isd Z o0 cs vf vb kb vs qv h0 n0 v U'.heap L ∧ FrameEnd U o U' L ({ frames := 4, cells := 0, slots := 0, locals := 53 } : Room).cells ({ frames := 4, cells := 0, slots := 0, locals := 53 } : Room).slots) := by
  refine MetFree.of_bodySF (plainFor_of_name pn_rm_isd) hisR ?_
  intro p e s m args below meth c s₁ Bd hml0 hP hK
  obtain ⟨rfl, hZ, hh⟩ := hP
  have hx := Bd.exec
  have hby := Bd.bytes
  have hml : c.maxLocals = 4 := hml0
  have hown : s.vm.findClass "com/example/equipoise/equipoise/InputLines" = some m.cls := findClass_of_methodNamed Bd.named
  have hnm := (name_of_methodNamed Bd.named Bd.method).1
  have X0 : Stand p l e ({ frames := 4, cells := 0, slots := 0, locals := 53 } : Room) s m #[(.ref o0), (.int (0 : Int32)), (.int (19 : Int32))] below meth c s₁ [] 0 0 := Stand.of_body Bd
  have e0 : s₁.heap = h0 := by rw [← hh, Bd.state]; rfl
  have N0 := Fr.nil n0
  have K0 := Keep.refl h0 []
  have go0 : Go p e below (s₁.setTop (entryFrame m #[(.ref o0), (.int (0 : Int32)), (.int (19 : Int32))] 4)) (s₁.setTop (mkF m 0 #[vR o0, vI i0, vI ((19 : Int32)), uu] [])) := fun t k => castTop (ef_rm_isd m o0) k
  have go2 := go0.st s₁ (mkF m 9 #[vR o0, vI i0, vI ((19 : Int32)), vI i0] []) (fun t k => by
    refine XS.iloadN X0.here hx rfl (hb hby d22_0) rfl ?_
    refine XS.iloadN X0.here hx rfl (hb hby d22_1) rfl ?_
    refine XS.icmpYes X0.here hx rfl (pc0 := 2) (pc' := 7) rfl (hb hby d22_2) rfl (feq ((by decide) : ¬ ((0 : Int32) = (19 : Int32)))).2 (by decide) (by decide) ?_
    refine XS.iloadN X0.here hx rfl (hb hby d22_7) rfl ?_
    refine XS.istoreN X0.here hx rfl (hb hby d22_8) rfl (l' := #[vR o0, vI i0, vI ((19 : Int32)), vI i0]) rfl ?_
    exact k)
  refine lp_isd o0 cs vf vb kb vs qv h0 n0 hx hZ hw hby hml hown Ol S_cs hcs S_sf hvf E_o0 F_coder_o0 F_value_o0 V_vb hv hq Z0 ?_ 19 s₁ _ (0 : Int32) 0 X0 e0 N0 rfl rfl go2
  intro T9 locs9 i9 X9 e9 N9 go9
  have go3 := go9.st T9 (mkF m 43 #[vR o0, vI i0, vI ((19 : Int32)), vI i9] [sI i1]) (fun t k => by
    refine XS.iconst X9.here hx rfl (hb hby d22_42) ?_
    exact k)
  obtain ⟨fs, hr, hrun, hended, hW, hsame⟩ := X9.leave (v := some (.int (1 : Int32))) (fun h => by rw [Bd.returns] at h; cases h)
  refine ⟨_, _, go3 _ ?_, hrun, hended, _, _, rfl, ?_, ⟨_, rfl⟩, hW, hsame.mono (by decide) (by decide)⟩
  · exact retN X9 hx (t := .boolean) Bd.returns (by simp) (hb hby d22_43) hr
  · show Q_rm_isd Z o0 cs vf vb kb vs qv h0 n0 _ T9.heap _
    rw [e9]
    exact ⟨rfl, N9, rfl⟩
theorem d11_0 : decode prog_30_method_8_code 0 = .ok (.aload_n 0, 1) := by decide +kernel
theorem d11_1 : decode prog_30_method_8_code 1 = .ok (.invokevirtual 83, 3) := by decide +kernel
theorem d11_4 : decode prog_30_method_8_code 4 = .ok (.istore_n 1, 1) := by decide +kernel
theorem d11_5 : decode prog_30_method_8_code 5 = .ok (.aload_n 0, 1) := by decide +kernel
theorem d11_6 : decode prog_30_method_8_code 6 = .ok (.bipush 46, 2) := by decide +kernel
theorem d11_8 : decode prog_30_method_8_code 8 = .ok (.invokevirtual 99, 3) := by decide +kernel
theorem d11_11 : decode prog_30_method_8_code 11 = .ok (.istore_n 2, 1) := by decide +kernel
theorem d11_12 : decode prog_30_method_8_code 12 = .ok (.iload_n 2, 1) := by decide +kernel
theorem d11_13 : decode prog_30_method_8_code 13 = .ok (.ifCond .ge 15, 3) := by decide +kernel
theorem d11_16 : decode prog_30_method_8_code 16 = .ok (.iload_n 1, 1) := by decide +kernel
theorem d11_17 : decode prog_30_method_8_code 17 = .ok (.istore_n 2, 1) := by decide +kernel
theorem d11_18 : decode prog_30_method_8_code 18 = .ok (.aload_n 0, 1) := by decide +kernel
theorem d11_19 : decode prog_30_method_8_code 19 = .ok (.iconst 0, 1) := by decide +kernel
theorem d11_20 : decode prog_30_method_8_code 20 = .ok (.iload_n 1, 1) := by decide +kernel
theorem d11_21 : decode prog_30_method_8_code 21 = .ok (.invokestatic 87, 3) := by decide +kernel
theorem d11_24 : decode prog_30_method_8_code 24 = .ok (.istore_n 3, 1) := by decide +kernel
theorem d11_25 : decode prog_30_method_8_code 25 = .ok (.goto 29, 3) := by decide +kernel
theorem d11_54 : decode prog_30_method_8_code 54 = .ok (.iload_n 3, 1) := by decide +kernel
theorem d11_55 : decode prog_30_method_8_code 55 = .ok (.ifCond .eq 7, 3) := by decide +kernel
theorem d11_58 : decode prog_30_method_8_code 58 = .ok (.iload_n 2, 1) := by decide +kernel
theorem d11_59 : decode prog_30_method_8_code 59 = .ok (.goto 4, 3) := by decide +kernel
theorem d11_63 : decode prog_30_method_8_code 63 = .ok (.ireturn, 1) := by decide +kernel
theorem pn_rm_dp : plainName "com/example/equipoise/equipoise/InputLines" = true := by first | (simp [plainName, overriddenIn]; done) | decide +kernel
theorem pd_rm_dp_0 : parseMethodDescriptor "()I" = some ⟨[], some .int⟩ := by decide +kernel
theorem pd_rm_dp_1 : parseMethodDescriptor "(I)I" = some ⟨[.int], some .int⟩ := by decide +kernel
theorem pd_rm_dp_2 : parseMethodDescriptor "(Ljava/lang/String;II)Z" = some ⟨[(.object "java/lang/String"), .int, .int], some .boolean⟩ := by decide +kernel
theorem ef_rm_dp (m : MethodId) (o0 : Addr) : entryFrame m #[(.ref o0)] 4 = mkF m 0 #[.val (.ref o0), uu, uu, uu] [] := by first | (simp [entryFrame, mkF, argsToLocals, Value.category]; done) | rfl
def Q_rm_dp (Z : State) (o0 : Addr) (cs : Int32) (vf : Value) (vb : Addr) (kb : ClassId) (vs : List Value) (qv : Int64) (h0 : Heap) (n0 : Nat) (v : Option Value) (h : Heap) (L : List Loc) : Prop := v = some (.int (19 : Int32)) ∧ Fr n0 L ∧ h = h0
set_option maxRecDepth 65536 in
set_option maxHeartbeats 40000000 in
theorem rm_dp (l : Launch) (Z : State) (a0 : Array Value) (hw : ∀ d ∈ tables_1, d.before a0 Z = true) (ws : List Jvm.Cond) (o0 : Addr) (cs : Int32) (vf : Value) (vb : Addr) (kb : ClassId) (vs : List Value) (qv : Int64) (h0 : Heap) (n0 : Nat) (Z0 : n0 ≤ h0.size) (Ol : Old Z n0 h0) (S_cs : Sta Z Z.heap "java/lang/String" "COMPACT_STRINGS" "Z" (.int cs)) (hcs : ¬ cs = (0 : Int32)) (S_sf : Sta Z Z.heap "jdk/internal/util/Preconditions" "SIOOBE_FORMATTER" "Ljava/util/function/BiFunction;" vf) (hvf : vf.isRef = true) (E_o0 : Exa Z h0 o0 "java/lang/String") (F_coder_o0 : Fld Z h0 o0 "java/lang/String" "coder" "B" (.int (0 : Int32))) (F_value_o0 : Fld Z h0 o0 "java/lang/String" "value" "[B" (.ref vb)) (V_vb : Arv Z h0 vb kb .byte (19 : Int32) vs (.int (0 : Int32))) (hv : own_Vs vs qv) (hq : 0 ≤ qv.toInt) :
    MetFree l yN28 (head1 (Jvm.Cond.code yN28 prog_30_method_8_code 4 (some .int) :: ws) ({ frames := 5, cells := 0, slots := 0, locals := 68 } : Room)) (fun a U => a = #[(.ref o0)] ∧ Z.Warmed39 U.vm ∧ U.heap = h0) (fun _ _ _ _ _ => True) (fun _ U o U' => ∃ v L, o = .returned v ∧ Q_rm_dp Z o0 cs vf vb kb vs qv h0 n0 v U'.heap L ∧ FrameEnd U o U' L ({ frames := 5, cells := 0, slots := 0, locals := 68 } : Room).cells ({ frames := 5, cells := 0, slots := 0, locals := 68 } : Room).slots) := by
  refine MetFree.of_bodySF (plainFor_of_name pn_rm_dp) hisR ?_
  intro p e s m args below meth c s₁ Bd hml0 hP hK
  obtain ⟨rfl, hZ, hh⟩ := hP
  have hx := Bd.exec
  have hby := Bd.bytes
  have hml : c.maxLocals = 4 := hml0
  have hown : s.vm.findClass "com/example/equipoise/equipoise/InputLines" = some m.cls := findClass_of_methodNamed Bd.named
  have hnm := (name_of_methodNamed Bd.named Bd.method).1
  have X0 : Stand p l e ({ frames := 5, cells := 0, slots := 0, locals := 68 } : Room) s m #[(.ref o0)] below meth c s₁ [] 0 0 := Stand.of_body Bd
  have e0 : s₁.heap = h0 := by rw [← hh, Bd.state]; rfl
  have N0 := Fr.nil n0
  have K0 := Keep.refl h0 []
  have go0 : Go p e below (s₁.setTop (entryFrame m #[(.ref o0)] 4)) (s₁.setTop (mkF m 0 #[vR o0, uu, uu, uu] [])) := fun t k => castTop (ef_rm_dp m o0) k
  have go1 := go0.st s₁ (mkF m 1 #[vR o0, uu, uu, uu] [sR o0]) (fun t k => by
    refine XS.aloadN X0.here hx rfl (hb hby d11_0) rfl rfl ?_
    exact k)
  obtain ⟨cq2, kq2, q2a, q2b, q2c⟩ := isOf hZ e0 E_o0
  obtain ⟨_, _, ⟨T2, L2, k2, n2⟩, -, X2, ⟨Lc2, hQ2, l2, y2, z2⟩, st2⟩ := X0.virtualBack hx (y := yN17) (z := yN17) hown (mvT hZ (wD hw 87 rfl)) (mvT hZ (wD hw 88 rfl)) (notFace_of_selects (args := #[]) (mvT hZ (wD hw 90 rfl))) (mvT hZ (wD hw 90 rfl)) (mvT hZ (wD hw 89 rfl)) (by decide) (backOf (W := 0) (rm_len l Z a0 hw [] o0 cs vb kb vs h0 n0 Z0 Ol S_cs hcs E_o0 F_coder_o0 F_value_o0 V_vb) hZ (wD hw 91 rfl) (wD hw 33 rfl) (by decide) (by decide)) q2a q2c (g := (mkF m 1 #[vR o0, uu, uu, uu] [sR o0])) rfl (by rw [hml]; rfl) (Steps.refl _) (argsL := []) (rest := []) (lenOf pd_rm_dp_0 rfl) rfl (by show 2 * 0 + _ ≤ _; exact Nat.le_of_eq rfl) (hb hby d11_1) (fun _ _ => ⟨rfl, e0, (by decide : 0 + 0 ≤ _), (by decide : 0 + 0 ≤ _)⟩)
  dsimp only [Pt.U, Pt.locs, Pt.cells, Pt.slots] at X2 l2 y2 z2 st2 hQ2
  rw [l2, y2, z2] at X2
  obtain ⟨rfl, N2q, e2⟩ := hQ2
  have N2 := Fr.app N0 N2q
  have go3 := go1.st T2 (mkF m 8 #[vR o0, vI ((19 : Int32)), uu, uu] [(sI (46 : Int32)), sR o0]) (fun t k => by
    refine st2.trans ?_
    show SP p e below T2 (mkF m 4 #[vR o0, uu, uu, uu] [(sI (19 : Int32))]) _
    refine XS.istoreN X2.here hx rfl (hb hby d11_4) rfl (l' := #[vR o0, vI ((19 : Int32)), uu, uu]) rfl ?_
    refine XS.aloadN X2.here hx rfl (hb hby d11_5) rfl rfl ?_
    refine XS.bipush X2.here hx rfl (hb hby d11_6) ?_
    exact k)
  obtain ⟨cq4, kq4, q4a, q4b, q4c⟩ := isOf hZ e2 E_o0
  obtain ⟨_, _, ⟨T4, L4, k4, n4⟩, -, X4, ⟨Lc4, hQ4, l4, y4, z4⟩, st4⟩ := X2.virtualBack hx (y := yN26) (z := yN26) hown (mvT hZ (wD hw 97 rfl)) (mvT hZ (wD hw 98 rfl)) (notFace_of_selects (args := #[]) (mvT hZ (wD hw 100 rfl))) (mvT hZ (wD hw 100 rfl)) (mvT hZ (wD hw 99 rfl)) (by decide) (backOf (W := 0) (rm_io1 l Z a0 hw [] o0 cs vb kb vs qv h0 n0 Z0 Ol S_cs hcs E_o0 F_coder_o0 F_value_o0 V_vb hv hq) hZ (wD hw 101 rfl) (wD hw 33 rfl) (by decide) (by decide)) q4a q4c (g := (mkF m 8 #[vR o0, vI ((19 : Int32)), uu, uu] [(sI (46 : Int32)), sR o0])) rfl (by rw [hml]; rfl) (Steps.refl _) (argsL := [(.int (46 : Int32))]) (rest := []) (lenOf pd_rm_dp_1 rfl) rfl (by show 2 * 0 + _ ≤ _; exact Nat.le_of_eq rfl) (hb hby d11_8) (fun _ _ => ⟨rfl, e2, (by decide : 0 + 0 ≤ _), (by decide : 0 + 0 ≤ _)⟩)
  dsimp only [Pt.U, Pt.locs, Pt.cells, Pt.slots] at X4 l4 y4 z4 st4 hQ4
  rw [l4, y4, z4] at X4
  obtain ⟨rfl, N4q, e4⟩ := hQ4
  have N4 := Fr.app N2 N4q
  have go6 := go3.st T4 (mkF m 21 #[vR o0, vI ((19 : Int32)), vI ((19 : Int32)), uu] [(sI (19 : Int32)), sI i0, sR o0]) (fun t k => by
    refine st4.trans ?_
    show SP p e below T4 (mkF m 11 #[vR o0, vI ((19 : Int32)), uu, uu] [(sI (-1 : Int32))]) _
    refine XS.istoreN X4.here hx rfl (hb hby d11_11) rfl (l' := #[vR o0, vI ((19 : Int32)), vI ((-1 : Int32)), uu]) rfl ?_
    refine XS.iloadN X4.here hx rfl (hb hby d11_12) rfl ?_
    refine XS.ifNo X4.here hx rfl (hb hby d11_13) rfl ((if0 _ _).trans (tlt ((by decide) : (-1 : Int32) < (0 : Int32))).2.1) ?_
    refine XS.iloadN X4.here hx rfl (hb hby d11_16) rfl ?_
    refine XS.istoreN X4.here hx rfl (hb hby d11_17) rfl (l' := #[vR o0, vI ((19 : Int32)), vI ((19 : Int32)), uu]) rfl ?_
    refine XS.aloadN X4.here hx rfl (hb hby d11_18) rfl rfl ?_
    refine XS.iconst X4.here hx rfl (hb hby d11_19) ?_
    refine XS.iloadN X4.here hx rfl (hb hby d11_20) rfl ?_
    exact k)
  obtain ⟨_, _, ⟨T7, L7, k7, n7⟩, -, X7, ⟨Lc7, hQ7, l7, y7, z7⟩, st7⟩ := Jvm.LawKit.callS X4 hx (y := yN27) hown (mvT hZ (wD hw 129 rfl)) (mvT hZ (wD hw 130 rfl)) (mvT hZ (wD hw 85 rfl)) (mvT hZ (wD hw 131 rfl)) (by decide) (backOf (W := 0) (rm_isd l Z a0 hw [] o0 cs vf vb kb vs qv h0 n0 Z0 Ol S_cs hcs S_sf hvf E_o0 F_coder_o0 F_value_o0 V_vb hv hq) hZ (wD hw 131 rfl) (wD hw 85 rfl) (by decide) (by decide)) (g := (mkF m 21 #[vR o0, vI ((19 : Int32)), vI ((19 : Int32)), uu] [(sI (19 : Int32)), sI i0, sR o0])) rfl (by rw [hml]; rfl) (argsL := [(.ref o0), (.int (0 : Int32)), (.int (19 : Int32))]) (rest := []) (lenOf pd_rm_dp_2 rfl) rfl (by show 2 * 0 + _ ≤ _; exact Nat.le_of_eq rfl) (hb hby d11_21) (fun _ _ => ⟨rfl, e4, (by decide : 0 + 0 ≤ _), (by decide : 0 + 0 ≤ _)⟩)
  dsimp only [Pt.U, Pt.locs, Pt.cells, Pt.slots] at X7 l7 y7 z7 st7 hQ7
  rw [l7, y7, z7] at X7
  obtain ⟨rfl, N7q, e7⟩ := hQ7
  have N7 := Fr.app N4 N7q
  have go9 := go6.st T7 (mkF m 63 #[vR o0, vI ((19 : Int32)), vI ((19 : Int32)), vI i1] [(sI (19 : Int32))]) (fun t k => by
    refine st7 _ ?_
    show SP p e below T7 (mkF m 24 #[vR o0, vI ((19 : Int32)), vI ((19 : Int32)), uu] [sI i1]) _
    refine XS.istoreN X7.here hx rfl (hb hby d11_24) rfl (l' := #[vR o0, vI ((19 : Int32)), vI ((19 : Int32)), vI i1]) rfl ?_
    refine XS.goto X7.here hx rfl (pc0 := 25) (pc' := 54) rfl (hb hby d11_25) (by decide) (by decide) ?_
    refine XS.iloadN X7.here hx rfl (hb hby d11_54) rfl ?_
    refine XS.ifNo X7.here hx rfl (hb hby d11_55) rfl ((if0 _ _).trans (feq ((by decide) : ¬ ((1 : Int32) = (0 : Int32)))).1) ?_
    refine XS.iloadN X7.here hx rfl (hb hby d11_58) rfl ?_
    refine XS.goto X7.here hx rfl (pc0 := 59) (pc' := 63) rfl (hb hby d11_59) (by decide) (by decide) ?_
    exact k)
  obtain ⟨fs, hr, hrun, hended, hW, hsame⟩ := X7.leave (v := some (.int (19 : Int32))) (fun h => by rw [Bd.returns] at h; cases h)
  refine ⟨_, _, go9 _ ?_, hrun, hended, _, _, rfl, ?_, ⟨_, rfl⟩, hW, hsame.mono (by decide) (by decide)⟩
  · exact own_retI X7 hx Bd.returns (hb hby d11_63) hr
  · show Q_rm_dp Z o0 cs vf vb kb vs qv h0 n0 _ T7.heap _
    rw [e7]
    exact ⟨rfl, N7, rfl⟩
theorem d27_5 : decode prog_88_method_7_code 5 = .ok (.iload 5, 2) := by decide +kernel
theorem d27_7 : decode prog_88_method_7_code 7 = .ok (.iload_n 2, 1) := by decide +kernel
theorem d27_8 : decode prog_88_method_7_code 8 = .ok (.if_icmp .ge 29, 3) := by decide +kernel
theorem d27_11 : decode prog_88_method_7_code 11 = .ok (.lload_n 3, 1) := by decide +kernel
theorem d27_12 : decode prog_88_method_7_code 12 = .ok (.bipush 10, 2) := by decide +kernel
theorem d27_14 : decode prog_88_method_7_code 14 = .ok (.invokestatic 131, 3) := by decide +kernel
theorem d27_17 : decode prog_88_method_7_code 17 = .ok (.aload_n 0, 1) := by decide +kernel
theorem d27_18 : decode prog_88_method_7_code 18 = .ok (.iload 5, 2) := by decide +kernel
theorem d27_20 : decode prog_88_method_7_code 20 = .ok (.invokevirtual 66, 3) := by decide +kernel
theorem d27_23 : decode prog_88_method_7_code 23 = .ok (.bipush 48, 2) := by decide +kernel
theorem d27_25 : decode prog_88_method_7_code 25 = .ok (.isub, 1) := by decide +kernel
theorem d27_26 : decode prog_88_method_7_code 26 = .ok (.i2l, 1) := by decide +kernel
theorem d27_27 : decode prog_88_method_7_code 27 = .ok (.invokestatic 98, 3) := by decide +kernel
theorem d27_30 : decode prog_88_method_7_code 30 = .ok (.lstore_n 3, 1) := by decide +kernel
theorem d27_31 : decode prog_88_method_7_code 31 = .ok (.iinc 5 1, 3) := by decide +kernel
theorem d27_34 : decode prog_88_method_7_code 34 = .ok (.goto (-29), 3) := by decide +kernel
theorem pd_lp_dg_0 : parseMethodDescriptor "(JI)J" = some ⟨[.long, .int], some .long⟩ := by decide +kernel
theorem pd_lp_dg_1 : parseMethodDescriptor "(I)C" = some ⟨[.int], some .char⟩ := by decide +kernel
theorem pd_lp_dg_2 : parseMethodDescriptor "(JJ)J" = some ⟨[.long, .long], some .long⟩ := by decide +kernel
set_option maxRecDepth 65536 in
set_option maxHeartbeats 40000000 in
theorem lp_dg {p : Program} {l : Launch} {e : Env} {s : State} {m : MethodId} {args : Array Value} {below : List Frame} {meth : Method} {c : Code} {Z : State} {a0 : Array Value} {A : State} {G : Prop} (o0 : Addr) (cs : Int32) (vf : Value) (vb : Addr) (kb : ClassId) (vs : List Value) (qv : Int64) (h0 : Heap) (n0 : Nat)
    (hx : p.tables.exec = Jvm.exec) (hZ : Z.Warmed39 s.vm) (hw : ∀ d ∈ tables_1, d.before a0 Z = true) (hby : c.code = prog_88_method_7_code) (hml : c.maxLocals = 6) (hown : s.vm.findClass "com/example/equipoise/equipoise/WeightFile$Builder" = some m.cls) (Ol : Old Z n0 h0) (S_cs : Sta Z Z.heap "java/lang/String" "COMPACT_STRINGS" "Z" (.int cs)) (hcs : ¬ cs = (0 : Int32)) (S_sf : Sta Z Z.heap "jdk/internal/util/Preconditions" "SIOOBE_FORMATTER" "Ljava/util/function/BiFunction;" vf) (hvf : vf.isRef = true) (E_o0 : Exa Z h0 o0 "java/lang/String") (F_coder_o0 : Fld Z h0 o0 "java/lang/String" "coder" "B" (.int (0 : Int32))) (F_value_o0 : Fld Z h0 o0 "java/lang/String" "value" "[B" (.ref vb)) (V_vb : Arv Z h0 vb kb .byte (19 : Int32) vs (.int (0 : Int32))) (hv : own_Vs vs qv) (hq : 0 ≤ qv.toInt) (Z0h : n0 ≤ h0.size)
    (kx0 : ∀ (T : State) (locs : List Loc) (acc : Int64) (i : Int32), Stand p l e ({ frames := 4, cells := 0, slots := 0, locals := 55 } : Room) s m args below meth c T locs 0 0 → T.heap = h0 → Fr n0 locs → acc = qv → Go p e below A (T.setTop (mkF m 37 #[vR o0, vI i0, vI ((19 : Int32)), vJ acc, sc, vI i] [])) → G)
    : ∀ (k : Nat) (T : State) (locs : List Loc) (acc : Int64) (i : Int32) (j : Nat), Stand p l e ({ frames := 4, cells := 0, slots := 0, locals := 55 } : Room) s m args below meth c T locs 0 0 → T.heap = h0 → Fr n0 locs → i.toInt = (j : Int) → j + k = 19 → acc.toInt = (own_P qv j : Int) → Go p e below A (T.setTop (mkF m 5 #[vR o0, vI i0, vI ((19 : Int32)), vJ acc, sc, vI i] [])) → G := by
  intro k
  induction k with
  | zero =>
    intro T locs acc i j X0 e0 N0 hi hk hacc go0
    have Z0 := Z0h
    have K0 := Keep.refl h0 []
    have go2 := go0.st T (mkF m 37 #[vR o0, vI i0, vI ((19 : Int32)), vJ acc, sc, vI i] []) (fun t k => by
      refine XS.iload X0.here hx rfl (hb hby d27_5) rfl ?_
      refine XS.iloadN X0.here hx rfl (hb hby d27_7) rfl ?_
      refine XS.icmpYes X0.here hx rfl (pc0 := 8) (pc' := 37) rfl (hb hby d27_8) rfl (flt (own_nlt hi hk : ¬ (i < (19 : Int32)))).2.1 (by decide) (by decide) ?_
      exact k)
    exact kx0 T _ acc i X0 e0 N0 (own_end hq (by rw [hacc, show j = 19 from hk])) go2
  | succ k ih =>
    intro T locs acc i j X0 e0 N0 hi hk hacc go0
    have Z0 := Z0h
    have K0 := Keep.refl h0 []
    have go4 := go0.st T (mkF m 14 #[vR o0, vI i0, vI ((19 : Int32)), vJ acc, sc, vI i] [(sI (10 : Int32)), sJ acc]) (fun t k => by
      refine XS.iload X0.here hx rfl (hb hby d27_5) rfl ?_
      refine XS.iloadN X0.here hx rfl (hb hby d27_7) rfl ?_
      refine XS.icmpNo X0.here hx rfl (hb hby d27_8) rfl (tlt (own_lt hi hk : i < (19 : Int32))).2.1 ?_
      refine XS.lloadN X0.here hx rfl (hb hby d27_11) rfl ?_
      refine XS.bipush X0.here hx rfl (hb hby d27_12) ?_
      exact k)
    obtain ⟨_, _, ⟨T5, L5, k5, n5⟩, -, X5, ⟨Lc5, hQ5, l5, y5, z5⟩, st5⟩ := Jvm.LawKit.callS X0 hx (y := yN6) hown (mvT hZ (wD hw 155 rfl)) (mvT hZ (wD hw 156 rfl)) (mvT hZ (wD hw 3 rfl)) (mvT hZ (wD hw 157 rfl)) (by decide) (backOf (W := 0) (rm_mulI l Z a0 hw [] acc h0 n0 Z0 (own_mA hq (by omega) hacc) (own_mB hacc)) hZ (wD hw 157 rfl) (wD hw 3 rfl) (by decide) (by decide)) (g := (mkF m 14 #[vR o0, vI i0, vI ((19 : Int32)), vJ acc, sc, vI i] [(sI (10 : Int32)), sJ acc])) rfl (by rw [hml]; rfl) (argsL := [(.long acc), (.int (10 : Int32))]) (rest := []) (lenOf pd_lp_dg_0 rfl) rfl (by show 2 * 0 + _ ≤ _; exact Nat.le_of_eq rfl) (hb hby d27_14) (fun _ _ => ⟨rfl, e0, (by decide : 0 + 0 ≤ _), (by decide : 0 + 0 ≤ _)⟩)
    dsimp only [Pt.U, Pt.locs, Pt.cells, Pt.slots] at X5 l5 y5 z5 st5 hQ5
    rw [l5, y5, z5] at X5
    obtain ⟨rfl, N5q, e5⟩ := hQ5
    have N5 := Fr.app N0 N5q
    have go6 := go4.st T5 (mkF m 20 #[vR o0, vI i0, vI ((19 : Int32)), vJ acc, sc, vI i] [sI i, sR o0, (sJ (acc * (10 : Int64)))]) (fun t k => by
      refine st5 _ ?_
      show SP p e below T5 (mkF m 17 #[vR o0, vI i0, vI ((19 : Int32)), vJ acc, sc, vI i] [(sJ (acc * (10 : Int64)))]) _
      refine XS.aloadN X5.here hx rfl (hb hby d27_17) rfl rfl ?_
      refine XS.iload X5.here hx rfl (hb hby d27_18) rfl ?_
      exact k)
    obtain ⟨cq7, kq7, q7a, q7b, q7c⟩ := isOf hZ e5 E_o0
    obtain ⟨_, _, ⟨T7, L7, k7, n7⟩, -, X7, ⟨Lc7, hQ7, l7, y7, z7⟩, st7⟩ := X5.virtualBack hx (y := yN21) (z := yN21) hown (mvT hZ (wD hw 164 rfl)) (mvT hZ (wD hw 133 rfl)) (notFace_of_selects (args := #[]) (mvT hZ (wD hw 135 rfl))) (mvT hZ (wD hw 135 rfl)) (mvT hZ (wD hw 134 rfl)) (by decide) (backOf (W := 2) (rm_ca l Z a0 hw [] o0 i cs vf vb kb vs (own_f qv j) h0 n0 Z0 Ol S_cs hcs S_sf hvf E_o0 F_coder_o0 F_value_o0 V_vb (own_in hi (by omega)).1 (own_in hi (by omega)).2 (own_rd hv hi (by omega)) (own_fr hq (by omega))) hZ (wD hw 136 rfl) (wD hw 33 rfl) (by decide) (by decide)) q7a q7c (g := (mkF m 20 #[vR o0, vI i0, vI ((19 : Int32)), vJ acc, sc, vI i] [sI i, sR o0, (sJ (acc * (10 : Int64)))])) rfl (by rw [hml]; rfl) (Steps.refl _) (argsL := [(.int i)]) (rest := [(.long (acc * (10 : Int64)))]) (lenOf pd_lp_dg_1 rfl) rfl (by show 2 * 0 + _ ≤ _; exact Nat.le_of_eq rfl) (hb hby d27_20) (fun _ _ => ⟨rfl, e5, (by decide : 0 + 0 ≤ _), (by decide : 0 + 0 ≤ _)⟩)
    dsimp only [Pt.U, Pt.locs, Pt.cells, Pt.slots] at X7 l7 y7 z7 st7 hQ7
    rw [l7, y7, z7] at X7
    obtain ⟨rfl, N7q, e7⟩ := hQ7
    have N7 := Fr.app N5 N7q
    have go8 := go6.st T7 (mkF m 27 #[vR o0, vI i0, vI ((19 : Int32)), vJ acc, sc, vI i] [(sJ (((own_f qv j) - (48 : Int32)).toInt64)), (sJ (acc * (10 : Int64)))]) (fun t k => by
      refine st7.trans ?_
      show SP p e below T7 (mkF m 23 #[vR o0, vI i0, vI ((19 : Int32)), vJ acc, sc, vI i] [(sI (own_f qv j)), (sJ (acc * (10 : Int64)))]) _
      refine XS.bipush X7.here hx rfl (hb hby d27_23) ?_
      refine XS.isub X7.here hx rfl (hb hby d27_25) rfl ?_
      refine XS.i2l X7.here hx rfl (hb hby d27_26) rfl ?_
      exact k)
    obtain ⟨_, _, ⟨T9, L9, k9, n9⟩, -, X9, ⟨Lc9, hQ9, l9, y9, z9⟩, st9⟩ := Jvm.LawKit.callS X7 hx (y := yN7) hown (mvT hZ (wD hw 165 rfl)) (mvT hZ (wD hw 166 rfl)) (mvT hZ (wD hw 3 rfl)) (mvT hZ (wD hw 167 rfl)) (by decide) (backOf (W := 0) (rm_addX l Z a0 hw [] (acc * (10 : Int64)) (((own_f qv j) - (48 : Int32)).toInt64) h0 n0 Z0 (own_mC hq (by omega) hacc).1) hZ (wD hw 167 rfl) (wD hw 3 rfl) (by decide) (by decide)) (g := (mkF m 27 #[vR o0, vI i0, vI ((19 : Int32)), vJ acc, sc, vI i] [(sJ (((own_f qv j) - (48 : Int32)).toInt64)), (sJ (acc * (10 : Int64)))])) rfl (by rw [hml]; rfl) (argsL := [(.long (acc * (10 : Int64))), (.long (((own_f qv j) - (48 : Int32)).toInt64))]) (rest := []) (lenOf pd_lp_dg_2 rfl) rfl (by show 2 * 0 + _ ≤ _; exact Nat.le_of_eq rfl) (hb hby d27_27) (fun _ _ => ⟨rfl, e7, (by decide : 0 + 0 ≤ _), (by decide : 0 + 0 ≤ _)⟩)
    dsimp only [Pt.U, Pt.locs, Pt.cells, Pt.slots] at X9 l9 y9 z9 st9 hQ9
    rw [l9, y9, z9] at X9
    obtain ⟨rfl, N9q, e9⟩ := hQ9
    have N9 := Fr.app N7 N9q
    have go10 := go8.st T9 (mkF m 5 #[vR o0, vI i0, vI ((19 : Int32)), vJ (((acc * (10 : Int64)) + (((own_f qv j) - (48 : Int32)).toInt64))), sc, vI ((i + i1))] []) (fun t k => by
      refine st9 _ ?_
      show SP p e below T9 (mkF m 30 #[vR o0, vI i0, vI ((19 : Int32)), vJ acc, sc, vI i] [(sJ ((acc * (10 : Int64)) + (((own_f qv j) - (48 : Int32)).toInt64)))]) _
      refine XS.lstoreN X9.here hx rfl (hb hby d27_30) rfl (l' := #[vR o0, vI i0, vI ((19 : Int32)), vJ (((acc * (10 : Int64)) + (((own_f qv j) - (48 : Int32)).toInt64))), sc, vI i]) rfl ?_
      refine XS.iinc X9.here hx rfl (hb hby d27_31) rfl (l' := #[vR o0, vI i0, vI ((19 : Int32)), vJ (((acc * (10 : Int64)) + (((own_f qv j) - (48 : Int32)).toInt64))), sc, vI ((i + i1))]) rfl ?_
      refine XS.goto X9.here hx rfl (pc0 := 34) (pc' := 5) rfl (hb hby d27_34) (by decide) (by decide) ?_
      exact k)
    exact ih T9 _ ((acc * (10 : Int64)) + (((own_f qv j) - (48 : Int32)).toInt64)) (i + (1 : Int32)) (j + 1) X9 e9 N9 (own_succ hi (by omega)) (by omega) (own_mC hq (by omega) hacc).2 go10
theorem d27_0 : decode prog_88_method_7_code 0 = .ok (.lconst 0, 1) := by decide +kernel
theorem d27_1 : decode prog_88_method_7_code 1 = .ok (.lstore_n 3, 1) := by decide +kernel
theorem d27_2 : decode prog_88_method_7_code 2 = .ok (.iload_n 1, 1) := by decide +kernel
theorem d27_3 : decode prog_88_method_7_code 3 = .ok (.istore 5, 2) := by decide +kernel
theorem d27_37 : decode prog_88_method_7_code 37 = .ok (.lload_n 3, 1) := by decide +kernel
theorem d27_38 : decode prog_88_method_7_code 38 = .ok (.lreturn, 1) := by decide +kernel
theorem pn_rm_dg : plainName "com/example/equipoise/equipoise/WeightFile$Builder" = true := by first | (simp [plainName, overriddenIn]; done) | decide +kernel
theorem ef_rm_dg (m : MethodId) (o0 : Addr) : entryFrame m #[(.ref o0), (.int (0 : Int32)), (.int (19 : Int32))] 6 = mkF m 0 #[.val (.ref o0), .val (.int (0 : Int32)), .val (.int (19 : Int32)), uu, uu, uu] [] := by first | (simp [entryFrame, mkF, argsToLocals, Value.category]; done) | rfl
def Q_rm_dg (Z : State) (o0 : Addr) (cs : Int32) (vf : Value) (vb : Addr) (kb : ClassId) (vs : List Value) (qv : Int64) (h0 : Heap) (n0 : Nat) (v : Option Value) (h : Heap) (L : List Loc) : Prop := v = some (.long qv) ∧ Fr n0 L ∧ h = h0
set_option maxRecDepth 65536 in
set_option maxHeartbeats 40000000 in
theorem rm_dg (l : Launch) (Z : State) (a0 : Array Value) (hw : ∀ d ∈ tables_1, d.before a0 Z = true) (ws : List Jvm.Cond) (o0 : Addr) (cs : Int32) (vf : Value) (vb : Addr) (kb : ClassId) (vs : List Value) (qv : Int64) (h0 : Heap) (n0 : Nat) (Z0 : n0 ≤ h0.size) (Ol : Old Z n0 h0) (S_cs : Sta Z Z.heap "java/lang/String" "COMPACT_STRINGS" "Z" (.int cs)) (hcs : ¬ cs = (0 : Int32)) (S_sf : Sta Z Z.heap "jdk/internal/util/Preconditions" "SIOOBE_FORMATTER" "Ljava/util/function/BiFunction;" vf) (hvf : vf.isRef = true) (E_o0 : Exa Z h0 o0 "java/lang/String") (F_coder_o0 : Fld Z h0 o0 "java/lang/String" "coder" "B" (.int (0 : Int32))) (F_value_o0 : Fld Z h0 o0 "java/lang/String" "value" "[B" (.ref vb)) (V_vb : Arv Z h0 vb kb .byte (19 : Int32) vs (.int (0 : Int32))) (hv : own_Vs vs qv) (hq : 0 ≤ qv.toInt) :
    MetFree l yN29 (head1 (Jvm.Cond.code yN29 prog_88_method_7_code 6 (some .long) :: ws) ({ frames := 4, cells := 0, slots := 0, locals := 55 } : Room)) (fun a U => a = #[(.ref o0), (.int (0 : Int32)), (.int (19 : Int32))] ∧ Z.Warmed39 U.vm ∧ U.heap = h0) (fun _ _ _ _ _ => True) (fun _ U o U' => ∃ v L, o = .returned v ∧ Q_rm_dg Z o0 cs vf vb kb vs qv h0 n0 v U'.heap L ∧ FrameEnd U o U' L ({ frames := 4, cells := 0, slots := 0, locals := 55 } : Room).cells ({ frames := 4, cells := 0, slots := 0, locals := 55 } : Room).slots) := by
  refine MetFree.of_bodySF (plainFor_of_name pn_rm_dg) hisR ?_
  intro p e s m args below meth c s₁ Bd hml0 hP hK
  obtain ⟨rfl, hZ, hh⟩ := hP
  have hx := Bd.exec
  have hby := Bd.bytes
  have hml : c.maxLocals = 6 := hml0
  have hown : s.vm.findClass "com/example/equipoise/equipoise/WeightFile$Builder" = some m.cls := findClass_of_methodNamed Bd.named
  have hnm := (name_of_methodNamed Bd.named Bd.method).1
  have X0 : Stand p l e ({ frames := 4, cells := 0, slots := 0, locals := 55 } : Room) s m #[(.ref o0), (.int (0 : Int32)), (.int (19 : Int32))] below meth c s₁ [] 0 0 := Stand.of_body Bd
  have e0 : s₁.heap = h0 := by rw [← hh, Bd.state]; rfl
  have N0 := Fr.nil n0
  have K0 := Keep.refl h0 []
  have go0 : Go p e below (s₁.setTop (entryFrame m #[(.ref o0), (.int (0 : Int32)), (.int (19 : Int32))] 6)) (s₁.setTop (mkF m 0 #[vR o0, vI i0, vI ((19 : Int32)), uu, uu, uu] [])) := fun t k => castTop (ef_rm_dg m o0) k
  have go1 := go0.st s₁ (mkF m 5 #[vR o0, vI i0, vI ((19 : Int32)), vJ ((0 : Int64)), sc, vI i0] []) (fun t k => by
    refine XS.lconst X0.here hx rfl (hb hby d27_0) ?_
    refine XS.lstoreN X0.here hx rfl (hb hby d27_1) rfl (l' := #[vR o0, vI i0, vI ((19 : Int32)), vJ ((0 : Int64)), sc, uu]) rfl ?_
    refine XS.iloadN X0.here hx rfl (hb hby d27_2) rfl ?_
    refine XS.istore X0.here hx rfl (hb hby d27_3) rfl (l' := #[vR o0, vI i0, vI ((19 : Int32)), vJ ((0 : Int64)), sc, vI i0]) rfl ?_
    exact k)
  refine lp_dg o0 cs vf vb kb vs qv h0 n0 hx hZ hw hby hml hown Ol S_cs hcs S_sf hvf E_o0 F_coder_o0 F_value_o0 V_vb hv hq Z0 ?_ 19 s₁ _ (0 : Int64) (0 : Int32) 0 X0 e0 N0 rfl rfl rfl go1
  intro T9 locs9 acc9 i9 X9 e9 N9 hr9 go9
  have go2 := go9.st T9 (mkF m 38 #[vR o0, vI i0, vI ((19 : Int32)), vJ acc9, sc, vI i9] [sJ acc9]) (fun t k => by
    refine XS.lloadN X9.here hx rfl (hb hby d27_37) rfl ?_
    exact k)
  obtain ⟨fs, hr, hrun, hended, hW, hsame⟩ := X9.leave (v := some (.long acc9)) (fun h => by rw [Bd.returns] at h; cases h)
  refine ⟨_, _, go2 _ ?_, hrun, hended, _, _, rfl, ?_, ⟨_, rfl⟩, hW, hsame.mono (by decide) (by decide)⟩
  · exact own_retL X9 hx Bd.returns (hb hby d27_38) hr
  · show Q_rm_dg Z o0 cs vf vb kb vs qv h0 n0 _ T9.heap _
    rw [e9]
    exact ⟨by rw [hr9], N9, rfl⟩
theorem own_hi {x : Int64} (hx : 0 ≤ x.toInt) : ((own_usrL x (32 : Int32)).toInt32).toInt = x.toInt / 4294967296 := by
  have h3 : (own_usrL x (32 : Int32)).toInt = (x.toInt % 18446744073709551616) / (2 ^ 32 : Nat) := c_lushr x 32 32 (by decide) (by decide)
  have e32 : ((2 ^ 32 : Nat) : Int) = 4294967296 := by decide
  have r := rng64 x
  have h5 := c_l2i (own_usrL x (32 : Int32))
  have r5 := rng32 (own_usrL x (32 : Int32)).toInt32
  rw [e32] at h3
  omega
theorem own_hi0 {x : Int64} (hx : 0 ≤ x.toInt) (h : ((own_usrL x (32 : Int32)).toInt32) = (0 : Int32)) : x.toInt < 4294967296 := by
  have q := own_hi hx
  rw [h] at q
  have e0 : (0 : Int32).toInt = 0 := rfl
  omega
theorem own_hin {x : Int64} (hx : 0 ≤ x.toInt) (h : 4294967296 ≤ x.toInt) : ¬ ((own_usrL x (32 : Int32)).toInt32) = (0 : Int32) := fun q => by
  have := own_hi0 hx q
  omega
theorem own_pos {x : Int64} (h : (0 : Int64) < x) : 0 ≤ x.toInt ∧ 0 < x.toInt := by
  rw [Int64.lt_iff_toInt_lt, show (0 : Int64).toInt = 0 from rfl] at h
  omega
theorem own_h16 {x : Int64} (hp : (0 : Int64) < x) (h : ¬ ((own_usrL x (32 : Int32)).toInt32) = (0 : Int32)) : (16 : Int64) < x := by
  have p := own_pos hp
  have q := own_hi p.1
  rw [Int64.lt_iff_toInt_lt, show (16 : Int64).toInt = 16 from rfl]
  rw [← Int32.toInt_inj, q, show (0 : Int32).toInt = 0 from rfl] at h
  omega
theorem own_n0J {x : Int64} (hp : (0 : Int64) < x) : ¬ x = (0 : Int64) := fun q => by
  have p := own_pos hp
  rw [q, show (0 : Int64).toInt = 0 from rfl] at p
  omega
theorem own_nlJ {x : Int64} (hp : (0 : Int64) < x) : ¬ x < (0 : Int64) := by
  have p := own_pos hp
  rw [Int64.lt_iff_toInt_lt, show (0 : Int64).toInt = 0 from rfl]
  omega
theorem own_nmin {x : Int64} (h : 0 ≤ x.toInt) : ¬ x = (-9223372036854775808 : Int64) := fun q => by
  rw [q, show (-9223372036854775808 : Int64).toInt = -9223372036854775808 from rfl] at h
  omega
theorem own_mk (x : Int32) : 0 ≤ ((x.toInt64) &&& (4294967295 : Int64)).toInt ∧ ((x.toInt64) &&& (4294967295 : Int64)).toInt < 4294967296 ∧ (0 ≤ x.toInt → ((x.toInt64) &&& (4294967295 : Int64)).toInt = x.toInt) := by
  have h := c_maskL (x.toInt64) 4294967295 32 (by decide) (by decide)
  have e32 : ((2 ^ 32 : Nat) : Int) = 4294967296 := by decide
  have r := rng32 x
  rw [e32, c_i2l] at h
  omega
theorem own_us {x : Int64} (hx : 0 ≤ x.toInt) : (own_usrL x (32 : Int32)).toInt = x.toInt / 4294967296 := by
  have h3 : (own_usrL x (32 : Int32)).toInt = (x.toInt % 18446744073709551616) / (2 ^ 32 : Nat) := c_lushr x 32 32 (by decide) (by decide)
  have e32 : ((2 ^ 32 : Nat) : Int) = 4294967296 := by decide
  have r := rng64 x
  rw [e32] at h3
  omega
theorem own_c22 {xh xl yh yl : Int32} (hxh : 0 ≤ xh.toInt) (hyh : 0 ≤ yh.toInt) : (own_usrL ((((xh.toInt64) &&& (4294967295 : Int64)) + ((yh.toInt64) &&& (4294967295 : Int64))) + (own_usrL ((((xl.toInt64) &&& (4294967295 : Int64)) + ((yl.toInt64) &&& (4294967295 : Int64))) + (0 : Int64)) (32 : Int32))) (32 : Int32)) = (0 : Int64) := by
  have r1 := rng32 xh
  have r2 := rng32 yh
  have a := own_mk xh
  have b := own_mk yh
  have c := own_mk xl
  have d := own_mk yl
  generalize ((xh.toInt64) &&& (4294967295 : Int64)) = A at *
  generalize ((yh.toInt64) &&& (4294967295 : Int64)) = B at *
  generalize ((xl.toInt64) &&& (4294967295 : Int64)) = C at *
  generalize ((yl.toInt64) &&& (4294967295 : Int64)) = D at *
  have s1 := c_ladd C D
  have t1 := rng64 (C + D)
  have s2 := c_ladd (C + D) (0 : Int64)
  have t2 := rng64 ((C + D) + (0 : Int64))
  have e0 : (0 : Int64).toInt = 0 := rfl
  have u1 := own_us (x := (C + D) + (0 : Int64)) (by omega)
  have s3 := c_ladd A B
  have t3 := rng64 (A + B)
  have s4 := c_ladd (A + B) (own_usrL ((C + D) + (0 : Int64)) (32 : Int32))
  have t4 := rng64 ((A + B) + (own_usrL ((C + D) + (0 : Int64)) (32 : Int32)))
  have u2 := own_us (x := (A + B) + (own_usrL ((C + D) + (0 : Int64)) (32 : Int32))) (by omega)
  apply Int64.toInt_inj.mp
  rw [u2, e0]
  omega
theorem own_x1 {xh : Int32} (h : 0 ≤ xh.toInt) : ¬ (xh + (1 : Int32)) = (0 : Int32) := fun q => by
  have a := c_iadd xh 1
  have r := rng32 xh
  rw [q] at a
  have e0 : (0 : Int32).toInt = 0 := rfl
  have e1 : (1 : Int32).toInt = 1 := rfl
  omega
def own_S (x0 x1 x2 : Int64) : Prop := 0 ≤ x0.toInt ∧ 0 ≤ x1.toInt ∧ 0 ≤ x2.toInt ∧ x0.toInt + x1.toInt ≤ 9223372036854775807 ∧ 9223372036854775807 ≤ x0.toInt + x1.toInt + x2.toInt
theorem own_z0 {x : Int64} : ((0 : Int64) + x).toInt = x.toInt := by rw [Int64.zero_add]
theorem own_mx {x : Int64} (h : 0 ≤ x.toInt) : ((9223372036854775807 : Int64) - x).toInt = 9223372036854775807 - x.toInt := by
  have q := c_lsub (9223372036854775807 : Int64) x
  have r := rng64 x
  have r2 := rng64 ((9223372036854775807 : Int64) - x)
  have e : (9223372036854775807 : Int64).toInt = 9223372036854775807 := rfl
  omega
theorem own_s0 {x0 x1 x2 : Int64} (hs : own_S x0 x1 x2) : ¬ ((9223372036854775807 : Int64) - x0) < (0 : Int64) := by
  have r := rng64 x0
  rw [Int64.lt_iff_toInt_lt, own_mx hs.1, show (0 : Int64).toInt = 0 from rfl]; omega
theorem own_s1 {x0 x1 x2 : Int64} (hs : own_S x0 x1 x2) : ¬ ((9223372036854775807 : Int64) - x1) < ((0 : Int64) + x0) := by
  have h := hs.2.2.2.1
  rw [Int64.lt_iff_toInt_lt, own_mx hs.2.1, own_z0]; omega
theorem own_sa {x0 x1 x2 : Int64} (hs : own_S x0 x1 x2) : (((0 : Int64) + x0) + x1).toInt = x0.toInt + x1.toInt := by
  have q := c_ladd ((0 : Int64) + x0) x1
  have r := rng64 (((0 : Int64) + x0) + x1)
  have r0 := rng64 x0
  have r1 := rng64 x1
  have h := hs.2.2.2.1
  have a := hs.1
  have b := hs.2.1
  rw [own_z0] at q; omega
theorem own_sA {x0 x1 x2 : Int64} (hs : own_S x0 x1 x2) (hc : ((9223372036854775807 : Int64) - x2) < (((0 : Int64) + x0) + x1)) : (0 : Int64) < (((0 : Int64) + x0) + x1) ∧ (0 : Int64) < ((0 : Int64) + x2) := by
  have r2 := rng64 x2
  have h := hs.2.2.2.1
  rw [Int64.lt_iff_toInt_lt, own_mx hs.2.2.1, own_sa hs] at hc
  rw [Int64.lt_iff_toInt_lt, Int64.lt_iff_toInt_lt, own_sa hs, own_z0, show (0 : Int64).toInt = 0 from rfl]; omega
theorem own_s11 {x0 x1 x2 : Int64} (hs : own_S x0 x1 x2) (hA : ((own_usrL (((0 : Int64) + x0) + x1) (32 : Int32)).toInt32) = (0 : Int32)) (hB : ((own_usrL ((0 : Int64) + x2) (32 : Int32)).toInt32) = (0 : Int32)) : False := by
  have a := own_hi0 (by rw [own_sa hs]; have := hs.1; have := hs.2.1; omega) hA
  have b := own_hi0 (by rw [own_z0]; exact hs.2.2.1) hB
  rw [own_sa hs] at a
  rw [own_z0] at b
  have := hs.2.2.2.2
  omega
theorem own_sP {x0 x1 x2 : Int64} (hs : own_S x0 x1 x2) (hc : ¬ ((9223372036854775807 : Int64) - x2) < (((0 : Int64) + x0) + x1)) : (0 : Int64) < ((((0 : Int64) + x0) + x1) + x2) ∧ ¬ ((own_usrL ((((0 : Int64) + x0) + x1) + x2) (32 : Int32)).toInt32) = (0 : Int32) := by
  rw [Int64.lt_iff_toInt_lt, own_mx hs.2.2.1, own_sa hs] at hc
  have q := c_ladd (((0 : Int64) + x0) + x1) x2
  have r := rng64 ((((0 : Int64) + x0) + x1) + x2)
  rw [own_sa hs] at q
  have h5 := hs.2.2.2.2
  have e : ((((0 : Int64) + x0) + x1) + x2).toInt = 9223372036854775807 := by omega
  refine ⟨?_, own_hin (by omega) (by omega)⟩
  rw [Int64.lt_iff_toInt_lt, e, show (0 : Int64).toInt = 0 from rfl]; omega
def own_PC (Z : State) : Prop := ∃ (pa : Addr) (kq : ClassId) (us : List Value), Sta Z Z.heap "java/math/BigInteger" "posConst" "[Ljava/math/BigInteger;" (.ref pa) ∧ Arv Z Z.heap pa kq (.object "java/math/BigInteger") (17 : Int32) us .null ∧ ∀ i, 1 ≤ i → i ≤ 16 → ∃ (r mg : Addr) (km : ClassId) (w : Int32), us.getD i .null = .ref r ∧ Exa Z Z.heap r "java/math/BigInteger" ∧ Fld Z Z.heap r "java/math/BigInteger" "signum" "I" (.int (1 : Int32)) ∧ Fld Z Z.heap r "java/math/BigInteger" "mag" "[I" (.ref mg) ∧ Arv Z Z.heap mg km .int (1 : Int32) [.int w] (.int (0 : Int32))
theorem own_ix {x : Int64} (hp : (0 : Int64) < x) (h : ¬ (16 : Int64) < x) : 1 ≤ x.toInt32.toNatClampNeg ∧ x.toInt32.toNatClampNeg ≤ 16 ∧ ¬ x.toInt32 < 0 ∧ x.toInt32 < (17 : Int32) := by
  have p := own_pos hp
  rw [Int64.lt_iff_toInt_lt, show (16 : Int64).toInt = 16 from rfl] at h
  have q := c_l2i x
  have r := rng32 x.toInt32
  have e : x.toInt32.toInt = x.toInt := by omega
  rw [Int32.lt_iff_toInt_lt, Int32.lt_iff_toInt_lt, show (0 : Int32).toInt = 0 from rfl, show (17 : Int32).toInt = 17 from rfl]
  have en : x.toInt32.toNatClampNeg = x.toInt32.toInt.toNat := rfl
  omega
theorem d42_0 : decode jdk_18_method_1_code 0 = .ok (.aload_n 0, 1) := by decide +kernel
theorem d42_1 : decode jdk_18_method_1_code 1 = .ok (.invokespecial 1, 3) := by decide +kernel
theorem d42_4 : decode jdk_18_method_1_code 4 = .ok (.return_, 1) := by decide +kernel
theorem pn_rm_num : plainName "java/lang/Number" = true := by first | (simp [plainName, overriddenIn]; done) | decide +kernel
theorem ef_rm_num (m : MethodId) (o0 : Addr) : entryFrame m #[(.ref o0)] 1 = mkF m 0 #[.val (.ref o0)] [] := by first | (simp [entryFrame, mkF, argsToLocals, Value.category]; done) | rfl
def Q_rm_num (Z : State) (o0 : Addr) (h0 : Heap) (n0 : Nat) (v : Option Value) (h : Heap) (L : List Loc) : Prop := v = none ∧ Fr n0 L ∧ h = h0
set_option maxRecDepth 65536 in
set_option maxHeartbeats 40000000 in
theorem rm_num (l : Launch) (Z : State) (a0 : Array Value) (hw : ∀ d ∈ tables_1, d.before a0 Z = true) (ws : List Jvm.Cond) (o0 : Addr) (h0 : Heap) (n0 : Nat) (Z0 : n0 ≤ h0.size) :
    MetFree l yN30 (head1 (Jvm.Cond.code yN30 jdk_18_method_1_code 1 none :: ws) ({ frames := 1, cells := 0, slots := 0, locals := 12 } : Room)) (fun a U => a = #[(.ref o0)] ∧ Z.Warmed39 U.vm ∧ U.heap = h0) (fun _ _ _ _ _ => True) (fun _ U o U' => ∃ v L, o = .returned v ∧ Q_rm_num Z o0 h0 n0 v U'.heap L ∧ FrameEnd U o U' L ({ frames := 1, cells := 0, slots := 0, locals := 12 } : Room).cells ({ frames := 1, cells := 0, slots := 0, locals := 12 } : Room).slots) := by
  refine MetFree.of_bodySF (plainFor_of_name pn_rm_num) hisR ?_
  intro p e s m args below meth c s₁ Bd hml0 hP hK
  obtain ⟨rfl, hZ, hh⟩ := hP
  have hx := Bd.exec
  have hby := Bd.bytes
  have hml : c.maxLocals = 1 := hml0
  have hown : s.vm.findClass "java/lang/Number" = some m.cls := findClass_of_methodNamed Bd.named
  have hnm := (name_of_methodNamed Bd.named Bd.method).1
  have X0 : Stand p l e ({ frames := 1, cells := 0, slots := 0, locals := 12 } : Room) s m #[(.ref o0)] below meth c s₁ [] 0 0 := Stand.of_body Bd
  have e0 : s₁.heap = h0 := by rw [← hh, Bd.state]; rfl
  have N0 := Fr.nil n0
  have K0 := Keep.refl h0 []
  have go0 : Go p e below (s₁.setTop (entryFrame m #[(.ref o0)] 1)) (s₁.setTop (mkF m 0 #[vR o0] [])) := fun t k => castTop (ef_rm_num m o0) k
  have go1 := go0.st s₁ (mkF m 1 #[vR o0] [sR o0]) (fun t k => by
    refine XS.aloadN X0.here hx rfl (hb hby d42_0) rfl rfl ?_
    exact k)
  obtain ⟨T2, X2, e2, st2⟩ := initO X0 hx hZ hown (wD hw 240 rfl) (wD hw 42 rfl) (wD hw 43 rfl) e0 (g := (mkF m 1 #[vR o0] [sR o0])) rfl (by rw [hml]; rfl) rfl (hb hby d42_1) (by decide) (W := 0) (by show 2 * 0 + _ ≤ _; exact Nat.le_of_eq rfl) (by decide)
  have go3 := go1.st T2 (mkF m 4 #[vR o0] []) (fun t k => by
    refine st2 _ ?_
    exact k)
  obtain ⟨fs, hr, hrun, hended, hW, hsame⟩ := X2.leave (v := none) (fun _ => rfl)
  refine ⟨_, _, go3 _ ?_, hrun, hended, _, _, rfl, ?_, ⟨_, rfl⟩, hW, hsame.mono (by decide) (by decide)⟩
  · exact X2.returnOut hx Bd.returns (hb hby d42_4) hr
  · show Q_rm_num Z o0 h0 n0 _ T2.heap _
    rw [e2]
    exact ⟨rfl, N0, rfl⟩
theorem d41_0 : decode jdk_2097_method_30_code 0 = .ok (.aload_n 0, 1) := by decide +kernel
theorem d41_1 : decode jdk_2097_method_30_code 1 = .ok (.invokespecial 3, 3) := by decide +kernel
theorem d41_4 : decode jdk_2097_method_30_code 4 = .ok (.lload_n 1, 1) := by decide +kernel
theorem d41_5 : decode jdk_2097_method_30_code 5 = .ok (.lconst 0, 1) := by decide +kernel
theorem d41_6 : decode jdk_2097_method_30_code 6 = .ok (.lcmp, 1) := by decide +kernel
theorem d41_7 : decode jdk_2097_method_30_code 7 = .ok (.ifCond .ge 14, 3) := by decide +kernel
theorem d41_21 : decode jdk_2097_method_30_code 21 = .ok (.aload_n 0, 1) := by decide +kernel
theorem d41_22 : decode jdk_2097_method_30_code 22 = .ok (.iconst 1, 1) := by decide +kernel
theorem d41_23 : decode jdk_2097_method_30_code 23 = .ok (.putfield 32, 3) := by decide +kernel
theorem d41_26 : decode jdk_2097_method_30_code 26 = .ok (.lload_n 1, 1) := by decide +kernel
theorem d41_27 : decode jdk_2097_method_30_code 27 = .ok (.bipush 32, 2) := by decide +kernel
theorem d41_29 : decode jdk_2097_method_30_code 29 = .ok (.lushr, 1) := by decide +kernel
theorem d41_30 : decode jdk_2097_method_30_code 30 = .ok (.l2i, 1) := by decide +kernel
theorem d41_31 : decode jdk_2097_method_30_code 31 = .ok (.istore_n 3, 1) := by decide +kernel
theorem d41_32 : decode jdk_2097_method_30_code 32 = .ok (.iload_n 3, 1) := by decide +kernel
theorem d41_33 : decode jdk_2097_method_30_code 33 = .ok (.ifCond .ne 21, 3) := by decide +kernel
theorem d41_36 : decode jdk_2097_method_30_code 36 = .ok (.aload_n 0, 1) := by decide +kernel
theorem d41_37 : decode jdk_2097_method_30_code 37 = .ok (.iconst 1, 1) := by decide +kernel
theorem d41_38 : decode jdk_2097_method_30_code 38 = .ok (.newarray .int, 2) := by decide +kernel
theorem d41_40 : decode jdk_2097_method_30_code 40 = .ok (.putfield 28, 3) := by decide +kernel
theorem d41_43 : decode jdk_2097_method_30_code 43 = .ok (.aload_n 0, 1) := by decide +kernel
theorem d41_44 : decode jdk_2097_method_30_code 44 = .ok (.getfield 28, 3) := by decide +kernel
theorem d41_47 : decode jdk_2097_method_30_code 47 = .ok (.iconst 0, 1) := by decide +kernel
theorem d41_48 : decode jdk_2097_method_30_code 48 = .ok (.lload_n 1, 1) := by decide +kernel
theorem d41_49 : decode jdk_2097_method_30_code 49 = .ok (.l2i, 1) := by decide +kernel
theorem d41_50 : decode jdk_2097_method_30_code 50 = .ok (.iastore, 1) := by decide +kernel
theorem d41_51 : decode jdk_2097_method_30_code 51 = .ok (.goto 25, 3) := by decide +kernel
theorem d41_76 : decode jdk_2097_method_30_code 76 = .ok (.return_, 1) := by decide +kernel
theorem pn_rm_bj1 : plainName "java/math/BigInteger" = true := by first | (simp [plainName, overriddenIn]; done) | decide +kernel
theorem pd_rm_bj1_0 : parseMethodDescriptor "()V" = some ⟨[], none⟩ := by decide +kernel
theorem ef_rm_bj1 (m : MethodId) (o0 : Addr) (q1 : Int64) : entryFrame m #[(.ref o0), (.long q1)] 4 = mkF m 0 #[.val (.ref o0), .val (.long q1), .second, uu] [] := by first | (simp [entryFrame, mkF, argsToLocals, Value.category]; done) | rfl
def Q_rm_bj1 (Z : State) (o0 : Addr) (q1 : Int64) (h0 : Heap) (n0 : Nat) (v : Option Value) (h : Heap) (L : List Loc) : Prop := ∃ mg : Addr, ∃ km : ClassId, v = none ∧ Fr n0 L ∧ Keep h0 h [o0] ∧ Exa Z h o0 "java/math/BigInteger" ∧ Fld Z h o0 "java/math/BigInteger" "signum" "I" (.int (1 : Int32)) ∧ Fld Z h o0 "java/math/BigInteger" "mag" "[I" (.ref mg) ∧ Arv Z h mg km .int (1 : Int32) [(.int (q1.toInt32))] (.int (0 : Int32))
set_option maxRecDepth 65536 in
set_option maxHeartbeats 40000000 in
theorem rm_bj1 (l : Launch) (Z : State) (a0 : Array Value) (hw : ∀ d ∈ tables_1, d.before a0 Z = true) (ws : List Jvm.Cond) (o0 : Addr) (q1 : Int64) (h0 : Heap) (n0 : Nat) (Z0 : n0 ≤ h0.size) (E_o0 : Exa Z h0 o0 "java/math/BigInteger") (g_o0 : n0 ≤ o0) (F_signum_o0 : Fld Z h0 o0 "java/math/BigInteger" "signum" "I" (.int (0 : Int32))) (F_mag_o0 : Fld Z h0 o0 "java/math/BigInteger" "mag" "[I" .null) (hpos : ¬ q1 < (0 : Int64)) (hhi : ((own_usrL q1 (32 : Int32)).toInt32) = (0 : Int32)) :
    MetFree l yN31 (head1 (Jvm.Cond.code yN31 jdk_2097_method_30_code 4 none :: ws) ({ frames := 2, cells := 1, slots := 1, locals := 24 } : Room)) (fun a U => a = #[(.ref o0), (.long q1)] ∧ Z.Warmed39 U.vm ∧ U.heap = h0) (fun _ _ _ _ _ => True) (fun _ U o U' => ∃ v L, o = .returned v ∧ Q_rm_bj1 Z o0 q1 h0 n0 v U'.heap L ∧ FrameEnd U o U' L ({ frames := 2, cells := 1, slots := 1, locals := 24 } : Room).cells ({ frames := 2, cells := 1, slots := 1, locals := 24 } : Room).slots) := by
  refine MetFree.of_bodySF (plainFor_of_name pn_rm_bj1) hisR ?_
  intro p e s m args below meth c s₁ Bd hml0 hP hK
  obtain ⟨rfl, hZ, hh⟩ := hP
  have hx := Bd.exec
  have hby := Bd.bytes
  have hml : c.maxLocals = 4 := hml0
  have hown : s.vm.findClass "java/math/BigInteger" = some m.cls := findClass_of_methodNamed Bd.named
  have hnm := (name_of_methodNamed Bd.named Bd.method).1
  have X0 : Stand p l e ({ frames := 2, cells := 1, slots := 1, locals := 24 } : Room) s m #[(.ref o0), (.long q1)] below meth c s₁ [] 0 0 := Stand.of_body Bd
  have e0 : s₁.heap = h0 := by rw [← hh, Bd.state]; rfl
  have N0 := Fr.nil n0
  have K0 := Keep.refl h0 [o0]
  have go0 : Go p e below (s₁.setTop (entryFrame m #[(.ref o0), (.long q1)] 4)) (s₁.setTop (mkF m 0 #[vR o0, vJ q1, sc, uu] [])) := fun t k => castTop (ef_rm_bj1 m o0 q1) k
  have go1 := go0.st s₁ (mkF m 1 #[vR o0, vJ q1, sc, uu] [sR o0]) (fun t k => by
    refine XS.aloadN X0.here hx rfl (hb hby d41_0) rfl rfl ?_
    exact k)
  obtain ⟨_, _, ⟨T2, L2, k2, n2⟩, -, X2, ⟨Lc2, hQ2, l2, y2, z2⟩, st2⟩ := X0.specialBack hx (y := yN30) rfl hown (mvT hZ (wD hw 234 rfl)) (mvT hZ (wD hw 235 rfl)) (mvT hZ (wD hw 239 rfl)) (by decide) (backOf (W := 0) (rm_num l Z a0 hw [] o0 h0 n0 Z0 ) hZ (wD hw 239 rfl) (wD hw 238 rfl) (by decide) (by decide)) (g := (mkF m 1 #[vR o0, vJ q1, sc, uu] [sR o0])) rfl (by rw [hml]; rfl) (Steps.refl _) (a := o0) (argsL := []) (rest := []) (lenOf pd_rm_bj1_0 rfl) rfl (by show 2 * 0 + _ ≤ _; exact Nat.le_of_eq rfl) (hb hby d41_1) (fun _ _ => ⟨rfl, e0, (by decide : 0 + 0 ≤ _), (by decide : 0 + 0 ≤ _)⟩)
  dsimp only [Pt.U, Pt.locs, Pt.cells, Pt.slots] at X2 l2 y2 z2 st2 hQ2
  rw [l2, y2, z2] at X2
  obtain ⟨rfl, N2q, e2⟩ := hQ2
  have N2 := Fr.app N0 N2q
  have go4 := go1.st T2 (mkF m 23 #[vR o0, vJ q1, sc, uu] [sI i1, sR o0]) (fun t k => by
    refine st2.trans ?_
    show SP p e below T2 (mkF m 4 #[vR o0, vJ q1, sc, uu] []) _
    refine XS.lloadN X2.here hx rfl (hb hby d41_4) rfl ?_
    refine XS.lconst X2.here hx rfl (hb hby d41_5) ?_
    refine XS.lcmp X2.here hx rfl (hb hby d41_6) rfl ?_
    refine XS.ifYes X2.here hx rfl (pc0 := 7) (pc' := 21) rfl (hb hby d41_7) rfl ((if0 _ _).trans (flt (fun q => (hpos : ¬ (q1 < (0 : Int64))) ((lw_lt _ _).mp q))).2.1) (by decide) (by decide) ?_
    refine XS.aloadN X2.here hx rfl (hb hby d41_21) rfl rfl ?_
    refine XS.iconst X2.here hx rfl (hb hby d41_22) ?_
    exact k)
  obtain ⟨T5, h5, X5, e5, W5, st5⟩ := putF X2 hx hZ hown (host := "") (Or.inl (wD hw 226 rfl)) Via.refl e2 F_signum_o0 E_o0 (Or.inr ⟨(wD hw 227 rfl), rfl, hnm⟩) (wD hw 229 rfl) (ty := .int) (by decide) rfl rfl (g := (mkF m 23 #[vR o0, vJ q1, sc, uu] [sI i1, sR o0])) rfl rfl (hb hby d41_23)
  have f6 := E_o0.wr W5
  have f7 := Fld.same W5 F_signum_o0
  have f8 := Fld.other W5 F_mag_o0 (Or.inr (slot_ne (Or.inr (wD hw 243 rfl)) (Or.inr (wD hw 227 rfl)) (by decide) (t := (.array .int)) (t' := .int) (by decide) (by decide)))
  have Z5 : n0 ≤ h5.size := Nat.le_trans Z0 (Nat.le_of_eq W5.size.symm)
  have K5 := K0.wr W5 (Or.inl (List.mem_of_getElem? (i := 0) rfl))
  have N5 := Fr.snoc X5 N2 g_o0
  have go10 := go4.st T5 (mkF m 38 #[vR o0, vJ q1, sc, vI (((own_usrL q1 (32 : Int32)).toInt32))] [sI i1, sR o0]) (fun t k => by
    refine st5 _ ?_
    show SP p e below T5 (mkF m 26 #[vR o0, vJ q1, sc, uu] []) _
    refine XS.lloadN X5.here hx rfl (hb hby d41_26) rfl ?_
    refine XS.bipush X5.here hx rfl (hb hby d41_27) ?_
    refine XS.lushr X5.here hx rfl (hb hby d41_29) rfl ?_
    refine XS.l2i X5.here hx rfl (hb hby d41_30) rfl ?_
    refine XS.istoreN X5.here hx rfl (hb hby d41_31) rfl (l' := #[vR o0, vJ q1, sc, vI (((own_usrL q1 (32 : Int32)).toInt32))]) rfl ?_
    refine XS.iloadN X5.here hx rfl (hb hby d41_32) rfl ?_
    refine XS.ifNo X5.here hx rfl (hb hby d41_33) rfl ((if0 _ _).trans (teq (hhi : ((own_usrL q1 (32 : Int32)).toInt32) = (0 : Int32))).2) ?_
    refine XS.aloadN X5.here hx rfl (hb hby d41_36) rfl rfl ?_
    refine XS.iconst X5.here hx rfl (hb hby d41_37) ?_
    exact k)
  obtain ⟨T11, h11, k11, X11, e11, E11, A11, st11⟩ := newP X5 hx hZ (wD hw 241 rfl) e5 (g := (mkF m 38 #[vR o0, vJ q1, sc, vI (((own_usrL q1 (32 : Int32)).toInt32))] [sI i1, sR o0])) rfl (hb hby d41_38) rfl (by decide) (cap := 1) (by decide) (by decide) (by decide) (by decide)
  obtain ⟨b11, g11⟩ : ∃ z, z = h5.size := ⟨_, rfl⟩
  rw [← g11] at A11 st11
  have ne_o0_b11 : o0 ≠ b11 := Nat.ne_of_lt (Nat.lt_of_lt_of_le f6.lt (Nat.le_of_eq g11.symm))
  have g_b11 : n0 ≤ b11 := Nat.le_trans Z5 (Nat.le_of_eq g11.symm)
  have sz_b11 : h0.size ≤ b11 := Nat.le_trans K5.1 (Nat.le_of_eq g11.symm)
  have f12 := f6.ext E11
  have f13 := f7.ext E11
  have f14 := f8.ext E11
  have V11 : Arv Z h11 b11 k11 .int (1 : Int32) [(.int (0 : Int32))] (.int (0 : Int32)) := (Arv.new A11 (by decide)).pad (pad_rep [] (.int (0 : Int32)) 1)
  have Z11 : n0 ≤ h11.size := Nat.le_trans Z5 E11.1
  have K11 := K5.ext E11
  have go15 := go10.st T11 (mkF m 40 #[vR o0, vJ q1, sc, vI (((own_usrL q1 (32 : Int32)).toInt32))] [sR b11, sR o0]) (fun t k => by
    refine st11 _ ?_
    exact k)
  obtain ⟨T16, h16, X16, e16, W16, st16⟩ := putF X11 hx hZ hown (host := "") (Or.inl (wD hw 242 rfl)) Via.refl e11 f14 f12 (Or.inr ⟨(wD hw 243 rfl), rfl, hnm⟩) (wD hw 229 rfl) (ty := (.array .int)) (by decide) rfl rfl (g := (mkF m 40 #[vR o0, vJ q1, sc, vI (((own_usrL q1 (32 : Int32)).toInt32))] [sR b11, sR o0])) rfl rfl (hb hby d41_40)
  have f17 := f12.wr W16
  have f18 := Fld.other W16 f13 (Or.inr (slot_ne (Or.inr (wD hw 227 rfl)) (Or.inr (wD hw 243 rfl)) (by decide) (t := .int) (t' := (.array .int)) (by decide) (by decide)))
  have f19 := Fld.same W16 f14
  have f20 := Arv.other V11 W16 (Ne.symm ne_o0_b11)
  have Z16 : n0 ≤ h16.size := Nat.le_trans Z11 (Nat.le_of_eq W16.size.symm)
  have K16 := K11.wr W16 (Or.inl (List.mem_of_getElem? (i := 0) rfl))
  have N16 := Fr.snoc X16 N5 g_o0
  have go21 := go15.st T16 (mkF m 44 #[vR o0, vJ q1, sc, vI (((own_usrL q1 (32 : Int32)).toInt32))] [sR o0]) (fun t k => by
    refine st16 _ ?_
    show SP p e below T16 (mkF m 43 #[vR o0, vJ q1, sc, vI (((own_usrL q1 (32 : Int32)).toInt32))] []) _
    refine XS.aloadN X16.here hx rfl (hb hby d41_43) rfl rfl ?_
    exact k)
  obtain ⟨T22, X22, e22, st22⟩ := getF X16 hx hZ hown (host := "") (Or.inl (wD hw 242 rfl)) Via.refl e16 f19 (g := (mkF m 44 #[vR o0, vJ q1, sc, vI (((own_usrL q1 (32 : Int32)).toInt32))] [sR o0])) rfl rfl (hb hby d41_44)
  have go23 := go21.st T22 (mkF m 50 #[vR o0, vJ q1, sc, vI (((own_usrL q1 (32 : Int32)).toInt32))] [(sI (q1.toInt32)), sI i0, sR b11]) (fun t k => by
    refine st22 _ ?_
    show SP p e below T22 (mkF m 47 #[vR o0, vJ q1, sc, vI (((own_usrL q1 (32 : Int32)).toInt32))] [sR b11]) _
    refine XS.iconst X22.here hx rfl (hb hby d41_47) ?_
    refine XS.lloadN X22.here hx rfl (hb hby d41_48) rfl ?_
    refine XS.l2i X22.here hx rfl (hb hby d41_49) rfl ?_
    exact k)
  have Vo24 := f20
  obtain ⟨cl24, Ar24, qa24, Sa24, Na24, Ha24, Ga24⟩ := Vo24
  have hin24 := inb_of (j := (0 : Int32)) Sa24 ⟨by decide, by decide⟩
  obtain ⟨T25, h25, X25, e25, W25, st25⟩ := stI X22 hx hZ e22 Ar24 (j := (0 : Int32)) hin24 (g := (mkF m 50 #[vR o0, vJ q1, sc, vI (((own_usrL q1 (32 : Int32)).toInt32))] [(sI (q1.toInt32)), sI i0, sR b11])) rfl rfl (hb hby d41_50)
  have V25 : Arv Z h25 b11 k11 .int (1 : Int32) [(.int (q1.toInt32))] (.int (0 : Int32)) := Arv.set Ar24 qa24 Sa24 Na24 Ha24 Ga24 rfl W25 0 rfl (Nat.le_of_ble_eq_true rfl)
  have f26 := f17.wr W25
  have f27 := Fld.other W25 f18 (Or.inl ne_o0_b11)
  have f28 := Fld.other W25 f19 (Or.inl ne_o0_b11)
  have Z25 : n0 ≤ h25.size := Nat.le_trans Z16 (Nat.le_of_eq W25.size.symm)
  have K25 := K16.wr W25 (Or.inr sz_b11)
  have N25 := Fr.snoc X25 N16 g_b11
  have go30 := go23.st T25 (mkF m 76 #[vR o0, vJ q1, sc, vI (((own_usrL q1 (32 : Int32)).toInt32))] []) (fun t k => by
    refine st25 _ ?_
    show SP p e below T25 (mkF m 51 #[vR o0, vJ q1, sc, vI (((own_usrL q1 (32 : Int32)).toInt32))] []) _
    refine XS.goto X25.here hx rfl (pc0 := 51) (pc' := 76) rfl (hb hby d41_51) (by decide) (by decide) ?_
    exact k)
  obtain ⟨fs, hr, hrun, hended, hW, hsame⟩ := X25.leave (v := none) (fun _ => rfl)
  refine ⟨_, _, go30 _ ?_, hrun, hended, _, _, rfl, ?_, ⟨_, rfl⟩, hW, hsame.mono (by decide) (by decide)⟩
  · exact X25.returnOut hx Bd.returns (hb hby d41_76) hr
  · show Q_rm_bj1 Z o0 q1 h0 n0 _ T25.heap _
    rw [e25]
    exact ⟨b11, k11, rfl, N25, K25, f26, f27, f28, V25⟩
theorem d41_54 : decode jdk_2097_method_30_code 54 = .ok (.aload_n 0, 1) := by decide +kernel
theorem d41_55 : decode jdk_2097_method_30_code 55 = .ok (.iconst 2, 1) := by decide +kernel
theorem d41_56 : decode jdk_2097_method_30_code 56 = .ok (.newarray .int, 2) := by decide +kernel
theorem d41_58 : decode jdk_2097_method_30_code 58 = .ok (.putfield 28, 3) := by decide +kernel
theorem d41_61 : decode jdk_2097_method_30_code 61 = .ok (.aload_n 0, 1) := by decide +kernel
theorem d41_62 : decode jdk_2097_method_30_code 62 = .ok (.getfield 28, 3) := by decide +kernel
theorem d41_65 : decode jdk_2097_method_30_code 65 = .ok (.iconst 0, 1) := by decide +kernel
theorem d41_66 : decode jdk_2097_method_30_code 66 = .ok (.iload_n 3, 1) := by decide +kernel
theorem d41_67 : decode jdk_2097_method_30_code 67 = .ok (.iastore, 1) := by decide +kernel
theorem d41_68 : decode jdk_2097_method_30_code 68 = .ok (.aload_n 0, 1) := by decide +kernel
theorem d41_69 : decode jdk_2097_method_30_code 69 = .ok (.getfield 28, 3) := by decide +kernel
theorem d41_72 : decode jdk_2097_method_30_code 72 = .ok (.iconst 1, 1) := by decide +kernel
theorem d41_73 : decode jdk_2097_method_30_code 73 = .ok (.lload_n 1, 1) := by decide +kernel
theorem d41_74 : decode jdk_2097_method_30_code 74 = .ok (.l2i, 1) := by decide +kernel
theorem d41_75 : decode jdk_2097_method_30_code 75 = .ok (.iastore, 1) := by decide +kernel
theorem pn_rm_bj2 : plainName "java/math/BigInteger" = true := by first | (simp [plainName, overriddenIn]; done) | decide +kernel
theorem pd_rm_bj2_0 : parseMethodDescriptor "()V" = some ⟨[], none⟩ := by decide +kernel
theorem ef_rm_bj2 (m : MethodId) (o0 : Addr) (q1 : Int64) : entryFrame m #[(.ref o0), (.long q1)] 4 = mkF m 0 #[.val (.ref o0), .val (.long q1), .second, uu] [] := by first | (simp [entryFrame, mkF, argsToLocals, Value.category]; done) | rfl
def Q_rm_bj2 (Z : State) (o0 : Addr) (q1 : Int64) (h0 : Heap) (n0 : Nat) (v : Option Value) (h : Heap) (L : List Loc) : Prop := ∃ mg : Addr, ∃ km : ClassId, v = none ∧ Fr n0 L ∧ Keep h0 h [o0] ∧ Exa Z h o0 "java/math/BigInteger" ∧ Fld Z h o0 "java/math/BigInteger" "signum" "I" (.int (1 : Int32)) ∧ Fld Z h o0 "java/math/BigInteger" "mag" "[I" (.ref mg) ∧ Arv Z h mg km .int (2 : Int32) [(.int ((own_usrL q1 (32 : Int32)).toInt32)), (.int (q1.toInt32))] (.int (0 : Int32))
set_option maxRecDepth 65536 in
set_option maxHeartbeats 40000000 in
theorem rm_bj2 (l : Launch) (Z : State) (a0 : Array Value) (hw : ∀ d ∈ tables_1, d.before a0 Z = true) (ws : List Jvm.Cond) (o0 : Addr) (q1 : Int64) (h0 : Heap) (n0 : Nat) (Z0 : n0 ≤ h0.size) (E_o0 : Exa Z h0 o0 "java/math/BigInteger") (g_o0 : n0 ≤ o0) (F_signum_o0 : Fld Z h0 o0 "java/math/BigInteger" "signum" "I" (.int (0 : Int32))) (F_mag_o0 : Fld Z h0 o0 "java/math/BigInteger" "mag" "[I" .null) (hpos : ¬ q1 < (0 : Int64)) (hhi : ¬ ((own_usrL q1 (32 : Int32)).toInt32) = (0 : Int32)) :
    MetFree l yN31 (head1 (Jvm.Cond.code yN31 jdk_2097_method_30_code 4 none :: ws) ({ frames := 2, cells := 1, slots := 2, locals := 24 } : Room)) (fun a U => a = #[(.ref o0), (.long q1)] ∧ Z.Warmed39 U.vm ∧ U.heap = h0) (fun _ _ _ _ _ => True) (fun _ U o U' => ∃ v L, o = .returned v ∧ Q_rm_bj2 Z o0 q1 h0 n0 v U'.heap L ∧ FrameEnd U o U' L ({ frames := 2, cells := 1, slots := 2, locals := 24 } : Room).cells ({ frames := 2, cells := 1, slots := 2, locals := 24 } : Room).slots) := by
  refine MetFree.of_bodySF (plainFor_of_name pn_rm_bj2) hisR ?_
  intro p e s m args below meth c s₁ Bd hml0 hP hK
  obtain ⟨rfl, hZ, hh⟩ := hP
  have hx := Bd.exec
  have hby := Bd.bytes
  have hml : c.maxLocals = 4 := hml0
  have hown : s.vm.findClass "java/math/BigInteger" = some m.cls := findClass_of_methodNamed Bd.named
  have hnm := (name_of_methodNamed Bd.named Bd.method).1
  have X0 : Stand p l e ({ frames := 2, cells := 1, slots := 2, locals := 24 } : Room) s m #[(.ref o0), (.long q1)] below meth c s₁ [] 0 0 := Stand.of_body Bd
  have e0 : s₁.heap = h0 := by rw [← hh, Bd.state]; rfl
  have N0 := Fr.nil n0
  have K0 := Keep.refl h0 [o0]
  have go0 : Go p e below (s₁.setTop (entryFrame m #[(.ref o0), (.long q1)] 4)) (s₁.setTop (mkF m 0 #[vR o0, vJ q1, sc, uu] [])) := fun t k => castTop (ef_rm_bj2 m o0 q1) k
  have go1 := go0.st s₁ (mkF m 1 #[vR o0, vJ q1, sc, uu] [sR o0]) (fun t k => by
    refine XS.aloadN X0.here hx rfl (hb hby d41_0) rfl rfl ?_
    exact k)
  obtain ⟨_, _, ⟨T2, L2, k2, n2⟩, -, X2, ⟨Lc2, hQ2, l2, y2, z2⟩, st2⟩ := X0.specialBack hx (y := yN30) rfl hown (mvT hZ (wD hw 234 rfl)) (mvT hZ (wD hw 235 rfl)) (mvT hZ (wD hw 239 rfl)) (by decide) (backOf (W := 0) (rm_num l Z a0 hw [] o0 h0 n0 Z0 ) hZ (wD hw 239 rfl) (wD hw 238 rfl) (by decide) (by decide)) (g := (mkF m 1 #[vR o0, vJ q1, sc, uu] [sR o0])) rfl (by rw [hml]; rfl) (Steps.refl _) (a := o0) (argsL := []) (rest := []) (lenOf pd_rm_bj2_0 rfl) rfl (by show 2 * 0 + _ ≤ _; exact Nat.le_of_eq rfl) (hb hby d41_1) (fun _ _ => ⟨rfl, e0, (by decide : 0 + 0 ≤ _), (by decide : 0 + 0 ≤ _)⟩)
  dsimp only [Pt.U, Pt.locs, Pt.cells, Pt.slots] at X2 l2 y2 z2 st2 hQ2
  rw [l2, y2, z2] at X2
  obtain ⟨rfl, N2q, e2⟩ := hQ2
  have N2 := Fr.app N0 N2q
  have go4 := go1.st T2 (mkF m 23 #[vR o0, vJ q1, sc, uu] [sI i1, sR o0]) (fun t k => by
    refine st2.trans ?_
    show SP p e below T2 (mkF m 4 #[vR o0, vJ q1, sc, uu] []) _
    refine XS.lloadN X2.here hx rfl (hb hby d41_4) rfl ?_
    refine XS.lconst X2.here hx rfl (hb hby d41_5) ?_
    refine XS.lcmp X2.here hx rfl (hb hby d41_6) rfl ?_
    refine XS.ifYes X2.here hx rfl (pc0 := 7) (pc' := 21) rfl (hb hby d41_7) rfl ((if0 _ _).trans (flt (fun q => (hpos : ¬ (q1 < (0 : Int64))) ((lw_lt _ _).mp q))).2.1) (by decide) (by decide) ?_
    refine XS.aloadN X2.here hx rfl (hb hby d41_21) rfl rfl ?_
    refine XS.iconst X2.here hx rfl (hb hby d41_22) ?_
    exact k)
  obtain ⟨T5, h5, X5, e5, W5, st5⟩ := putF X2 hx hZ hown (host := "") (Or.inl (wD hw 226 rfl)) Via.refl e2 F_signum_o0 E_o0 (Or.inr ⟨(wD hw 227 rfl), rfl, hnm⟩) (wD hw 229 rfl) (ty := .int) (by decide) rfl rfl (g := (mkF m 23 #[vR o0, vJ q1, sc, uu] [sI i1, sR o0])) rfl rfl (hb hby d41_23)
  have f6 := E_o0.wr W5
  have f7 := Fld.same W5 F_signum_o0
  have f8 := Fld.other W5 F_mag_o0 (Or.inr (slot_ne (Or.inr (wD hw 243 rfl)) (Or.inr (wD hw 227 rfl)) (by decide) (t := (.array .int)) (t' := .int) (by decide) (by decide)))
  have Z5 : n0 ≤ h5.size := Nat.le_trans Z0 (Nat.le_of_eq W5.size.symm)
  have K5 := K0.wr W5 (Or.inl (List.mem_of_getElem? (i := 0) rfl))
  have N5 := Fr.snoc X5 N2 g_o0
  have go10 := go4.st T5 (mkF m 56 #[vR o0, vJ q1, sc, vI (((own_usrL q1 (32 : Int32)).toInt32))] [sI i2, sR o0]) (fun t k => by
    refine st5 _ ?_
    show SP p e below T5 (mkF m 26 #[vR o0, vJ q1, sc, uu] []) _
    refine XS.lloadN X5.here hx rfl (hb hby d41_26) rfl ?_
    refine XS.bipush X5.here hx rfl (hb hby d41_27) ?_
    refine XS.lushr X5.here hx rfl (hb hby d41_29) rfl ?_
    refine XS.l2i X5.here hx rfl (hb hby d41_30) rfl ?_
    refine XS.istoreN X5.here hx rfl (hb hby d41_31) rfl (l' := #[vR o0, vJ q1, sc, vI (((own_usrL q1 (32 : Int32)).toInt32))]) rfl ?_
    refine XS.iloadN X5.here hx rfl (hb hby d41_32) rfl ?_
    refine XS.ifYes X5.here hx rfl (pc0 := 33) (pc' := 54) rfl (hb hby d41_33) rfl ((if0 _ _).trans (feq (hhi : ¬ (((own_usrL q1 (32 : Int32)).toInt32) = (0 : Int32)))).2) (by decide) (by decide) ?_
    refine XS.aloadN X5.here hx rfl (hb hby d41_54) rfl rfl ?_
    refine XS.iconst X5.here hx rfl (hb hby d41_55) ?_
    exact k)
  obtain ⟨T11, h11, k11, X11, e11, E11, A11, st11⟩ := newP X5 hx hZ (wD hw 241 rfl) e5 (g := (mkF m 56 #[vR o0, vJ q1, sc, vI (((own_usrL q1 (32 : Int32)).toInt32))] [sI i2, sR o0])) rfl (hb hby d41_56) rfl (by decide) (cap := 2) (by decide) (by decide) (by decide) (by decide)
  obtain ⟨b11, g11⟩ : ∃ z, z = h5.size := ⟨_, rfl⟩
  rw [← g11] at A11 st11
  have ne_o0_b11 : o0 ≠ b11 := Nat.ne_of_lt (Nat.lt_of_lt_of_le f6.lt (Nat.le_of_eq g11.symm))
  have g_b11 : n0 ≤ b11 := Nat.le_trans Z5 (Nat.le_of_eq g11.symm)
  have sz_b11 : h0.size ≤ b11 := Nat.le_trans K5.1 (Nat.le_of_eq g11.symm)
  have f12 := f6.ext E11
  have f13 := f7.ext E11
  have f14 := f8.ext E11
  have V11 : Arv Z h11 b11 k11 .int (2 : Int32) [(.int (0 : Int32)), (.int (0 : Int32))] (.int (0 : Int32)) := (Arv.new A11 (by decide)).pad (pad_rep [] (.int (0 : Int32)) 2)
  have Z11 : n0 ≤ h11.size := Nat.le_trans Z5 E11.1
  have K11 := K5.ext E11
  have go15 := go10.st T11 (mkF m 58 #[vR o0, vJ q1, sc, vI (((own_usrL q1 (32 : Int32)).toInt32))] [sR b11, sR o0]) (fun t k => by
    refine st11 _ ?_
    exact k)
  obtain ⟨T16, h16, X16, e16, W16, st16⟩ := putF X11 hx hZ hown (host := "") (Or.inl (wD hw 242 rfl)) Via.refl e11 f14 f12 (Or.inr ⟨(wD hw 243 rfl), rfl, hnm⟩) (wD hw 229 rfl) (ty := (.array .int)) (by decide) rfl rfl (g := (mkF m 58 #[vR o0, vJ q1, sc, vI (((own_usrL q1 (32 : Int32)).toInt32))] [sR b11, sR o0])) rfl rfl (hb hby d41_58)
  have f17 := f12.wr W16
  have f18 := Fld.other W16 f13 (Or.inr (slot_ne (Or.inr (wD hw 227 rfl)) (Or.inr (wD hw 243 rfl)) (by decide) (t := .int) (t' := (.array .int)) (by decide) (by decide)))
  have f19 := Fld.same W16 f14
  have f20 := Arv.other V11 W16 (Ne.symm ne_o0_b11)
  have Z16 : n0 ≤ h16.size := Nat.le_trans Z11 (Nat.le_of_eq W16.size.symm)
  have K16 := K11.wr W16 (Or.inl (List.mem_of_getElem? (i := 0) rfl))
  have N16 := Fr.snoc X16 N5 g_o0
  have go21 := go15.st T16 (mkF m 62 #[vR o0, vJ q1, sc, vI (((own_usrL q1 (32 : Int32)).toInt32))] [sR o0]) (fun t k => by
    refine st16 _ ?_
    show SP p e below T16 (mkF m 61 #[vR o0, vJ q1, sc, vI (((own_usrL q1 (32 : Int32)).toInt32))] []) _
    refine XS.aloadN X16.here hx rfl (hb hby d41_61) rfl rfl ?_
    exact k)
  obtain ⟨T22, X22, e22, st22⟩ := getF X16 hx hZ hown (host := "") (Or.inl (wD hw 242 rfl)) Via.refl e16 f19 (g := (mkF m 62 #[vR o0, vJ q1, sc, vI (((own_usrL q1 (32 : Int32)).toInt32))] [sR o0])) rfl rfl (hb hby d41_62)
  have go23 := go21.st T22 (mkF m 67 #[vR o0, vJ q1, sc, vI (((own_usrL q1 (32 : Int32)).toInt32))] [(sI ((own_usrL q1 (32 : Int32)).toInt32)), sI i0, sR b11]) (fun t k => by
    refine st22 _ ?_
    show SP p e below T22 (mkF m 65 #[vR o0, vJ q1, sc, vI (((own_usrL q1 (32 : Int32)).toInt32))] [sR b11]) _
    refine XS.iconst X22.here hx rfl (hb hby d41_65) ?_
    refine XS.iloadN X22.here hx rfl (hb hby d41_66) rfl ?_
    exact k)
  have Vo24 := f20
  obtain ⟨cl24, Ar24, qa24, Sa24, Na24, Ha24, Ga24⟩ := Vo24
  have hin24 := inb_of (j := (0 : Int32)) Sa24 ⟨by decide, by decide⟩
  obtain ⟨T25, h25, X25, e25, W25, st25⟩ := stI X22 hx hZ e22 Ar24 (j := (0 : Int32)) hin24 (g := (mkF m 67 #[vR o0, vJ q1, sc, vI (((own_usrL q1 (32 : Int32)).toInt32))] [(sI ((own_usrL q1 (32 : Int32)).toInt32)), sI i0, sR b11])) rfl rfl (hb hby d41_67)
  have V25 : Arv Z h25 b11 k11 .int (2 : Int32) [(.int ((own_usrL q1 (32 : Int32)).toInt32)), (.int (0 : Int32))] (.int (0 : Int32)) := Arv.set Ar24 qa24 Sa24 Na24 Ha24 Ga24 rfl W25 0 rfl (Nat.le_of_ble_eq_true rfl)
  have f26 := f17.wr W25
  have f27 := Fld.other W25 f18 (Or.inl ne_o0_b11)
  have f28 := Fld.other W25 f19 (Or.inl ne_o0_b11)
  have Z25 : n0 ≤ h25.size := Nat.le_trans Z16 (Nat.le_of_eq W25.size.symm)
  have K25 := K16.wr W25 (Or.inr sz_b11)
  have N25 := Fr.snoc X25 N16 g_b11
  have go30 := go23.st T25 (mkF m 69 #[vR o0, vJ q1, sc, vI (((own_usrL q1 (32 : Int32)).toInt32))] [sR o0]) (fun t k => by
    refine st25 _ ?_
    show SP p e below T25 (mkF m 68 #[vR o0, vJ q1, sc, vI (((own_usrL q1 (32 : Int32)).toInt32))] []) _
    refine XS.aloadN X25.here hx rfl (hb hby d41_68) rfl rfl ?_
    exact k)
  obtain ⟨T31, X31, e31, st31⟩ := getF X25 hx hZ hown (host := "") (Or.inl (wD hw 242 rfl)) Via.refl e25 f28 (g := (mkF m 69 #[vR o0, vJ q1, sc, vI (((own_usrL q1 (32 : Int32)).toInt32))] [sR o0])) rfl rfl (hb hby d41_69)
  have go32 := go30.st T31 (mkF m 75 #[vR o0, vJ q1, sc, vI (((own_usrL q1 (32 : Int32)).toInt32))] [(sI (q1.toInt32)), sI i1, sR b11]) (fun t k => by
    refine st31 _ ?_
    show SP p e below T31 (mkF m 72 #[vR o0, vJ q1, sc, vI (((own_usrL q1 (32 : Int32)).toInt32))] [sR b11]) _
    refine XS.iconst X31.here hx rfl (hb hby d41_72) ?_
    refine XS.lloadN X31.here hx rfl (hb hby d41_73) rfl ?_
    refine XS.l2i X31.here hx rfl (hb hby d41_74) rfl ?_
    exact k)
  have Vo33 := V25
  obtain ⟨cl33, Ar33, qa33, Sa33, Na33, Ha33, Ga33⟩ := Vo33
  have hin33 := inb_of (j := (1 : Int32)) Sa33 ⟨by decide, by decide⟩
  obtain ⟨T34, h34, X34, e34, W34, st34⟩ := stI X31 hx hZ e31 Ar33 (j := (1 : Int32)) hin33 (g := (mkF m 75 #[vR o0, vJ q1, sc, vI (((own_usrL q1 (32 : Int32)).toInt32))] [(sI (q1.toInt32)), sI i1, sR b11])) rfl rfl (hb hby d41_75)
  have V34 : Arv Z h34 b11 k11 .int (2 : Int32) [(.int ((own_usrL q1 (32 : Int32)).toInt32)), (.int (q1.toInt32))] (.int (0 : Int32)) := Arv.set Ar33 qa33 Sa33 Na33 Ha33 Ga33 rfl W34 1 rfl (Nat.le_of_ble_eq_true rfl)
  have f35 := f26.wr W34
  have f36 := Fld.other W34 f27 (Or.inl ne_o0_b11)
  have f37 := Fld.other W34 f28 (Or.inl ne_o0_b11)
  have Z34 : n0 ≤ h34.size := Nat.le_trans Z25 (Nat.le_of_eq W34.size.symm)
  have K34 := K25.wr W34 (Or.inr sz_b11)
  have N34 := Fr.snoc X34 N25 g_b11
  have go39 := go32.st T34 (mkF m 76 #[vR o0, vJ q1, sc, vI (((own_usrL q1 (32 : Int32)).toInt32))] []) (fun t k => by
    refine st34 _ ?_
    exact k)
  obtain ⟨fs, hr, hrun, hended, hW, hsame⟩ := X34.leave (v := none) (fun _ => rfl)
  refine ⟨_, _, go39 _ ?_, hrun, hended, _, _, rfl, ?_, ⟨_, rfl⟩, hW, hsame.mono (by decide) (by decide)⟩
  · exact X34.returnOut hx Bd.returns (hb hby d41_76) hr
  · show Q_rm_bj2 Z o0 q1 h0 n0 _ T34.heap _
    rw [e34]
    exact ⟨b11, k11, rfl, N34, K34, f35, f36, f37, V34⟩
theorem d39_0 : decode jdk_2097_method_29_code 0 = .ok (.lload_n 0, 1) := by decide +kernel
theorem d39_1 : decode jdk_2097_method_29_code 1 = .ok (.lconst 0, 1) := by decide +kernel
theorem d39_2 : decode jdk_2097_method_29_code 2 = .ok (.lcmp, 1) := by decide +kernel
theorem d39_3 : decode jdk_2097_method_29_code 3 = .ok (.ifCond .ne 7, 3) := by decide +kernel
theorem d39_10 : decode jdk_2097_method_29_code 10 = .ok (.lload_n 0, 1) := by decide +kernel
theorem d39_11 : decode jdk_2097_method_29_code 11 = .ok (.lconst 0, 1) := by decide +kernel
theorem d39_12 : decode jdk_2097_method_29_code 12 = .ok (.lcmp, 1) := by decide +kernel
theorem d39_13 : decode jdk_2097_method_29_code 13 = .ok (.ifCond .le 18, 3) := by decide +kernel
theorem d39_16 : decode jdk_2097_method_29_code 16 = .ok (.lload_n 0, 1) := by decide +kernel
theorem d39_17 : decode jdk_2097_method_29_code 17 = .ok (.ldc2_w 345, 3) := by decide +kernel
theorem d39_20 : decode jdk_2097_method_29_code 20 = .ok (.lcmp, 1) := by decide +kernel
theorem d39_21 : decode jdk_2097_method_29_code 21 = .ok (.ifCond .gt 10, 3) := by decide +kernel
theorem d39_31 : decode jdk_2097_method_29_code 31 = .ok (.lload_n 0, 1) := by decide +kernel
theorem d39_32 : decode jdk_2097_method_29_code 32 = .ok (.lconst 0, 1) := by decide +kernel
theorem d39_33 : decode jdk_2097_method_29_code 33 = .ok (.lcmp, 1) := by decide +kernel
theorem d39_34 : decode jdk_2097_method_29_code 34 = .ok (.ifCond .ge 19, 3) := by decide +kernel
theorem d39_53 : decode jdk_2097_method_29_code 53 = .ok (.new 23, 3) := by decide +kernel
theorem d39_56 : decode jdk_2097_method_29_code 56 = .ok (.dup, 1) := by decide +kernel
theorem d39_57 : decode jdk_2097_method_29_code 57 = .ok (.lload_n 0, 1) := by decide +kernel
theorem d39_58 : decode jdk_2097_method_29_code 58 = .ok (.invokespecial 356, 3) := by decide +kernel
theorem d39_61 : decode jdk_2097_method_29_code 61 = .ok (.areturn, 1) := by decide +kernel
theorem pn_rm_vo2 : plainName "java/math/BigInteger" = true := by first | (simp [plainName, overriddenIn]; done) | decide +kernel
theorem pd_rm_vo2_0 : parseMethodDescriptor "(J)V" = some ⟨[.long], none⟩ := by decide +kernel
theorem ef_rm_vo2 (m : MethodId) (q0 : Int64) : entryFrame m #[(.long q0)] 2 = mkF m 0 #[.val (.long q0), .second] [] := by first | (simp [entryFrame, mkF, argsToLocals, Value.category]; done) | rfl
def Q_rm_vo2 (Z : State) (q0 : Int64) (h0 : Heap) (n0 : Nat) (v : Option Value) (h : Heap) (L : List Loc) : Prop := ∃ b : Addr, ∃ mg : Addr, ∃ km : ClassId, v = some (.ref b) ∧ Fr n0 L ∧ Keep h0 h [] ∧ Exa Z h b "java/math/BigInteger" ∧ Fld Z h b "java/math/BigInteger" "signum" "I" (.int (1 : Int32)) ∧ Fld Z h b "java/math/BigInteger" "mag" "[I" (.ref mg) ∧ Arv Z h mg km .int (2 : Int32) [(.int ((own_usrL q0 (32 : Int32)).toInt32)), (.int (q0.toInt32))] (.int (0 : Int32))
set_option maxRecDepth 65536 in
set_option maxHeartbeats 40000000 in
theorem rm_vo2 (l : Launch) (Z : State) (a0 : Array Value) (hw : ∀ d ∈ tables_1, d.before a0 Z = true) (ws : List Jvm.Cond) (q0 : Int64) (h0 : Heap) (n0 : Nat) (Z0 : n0 ≤ h0.size) (hpos : (0 : Int64) < q0) (hhi : ¬ ((own_usrL q0 (32 : Int32)).toInt32) = (0 : Int32)) :
    MetFree l yN32 (head1 (Jvm.Cond.code yN32 jdk_2097_method_29_code 2 (some (.object "java/math/BigInteger")) :: ws) ({ frames := 3, cells := 2, slots := 8, locals := 40 } : Room)) (fun a U => a = #[(.long q0)] ∧ Z.Warmed39 U.vm ∧ U.heap = h0) (fun _ _ _ _ _ => True) (fun _ U o U' => ∃ v L, o = .returned v ∧ Q_rm_vo2 Z q0 h0 n0 v U'.heap L ∧ FrameEnd U o U' L ({ frames := 3, cells := 2, slots := 8, locals := 40 } : Room).cells ({ frames := 3, cells := 2, slots := 8, locals := 40 } : Room).slots) := by
  refine MetFree.of_bodySF (plainFor_of_name pn_rm_vo2) hisR ?_
  intro p e s m args below meth c s₁ Bd hml0 hP hK
  obtain ⟨rfl, hZ, hh⟩ := hP
  have hx := Bd.exec
  have hby := Bd.bytes
  have hml : c.maxLocals = 2 := hml0
  have hown : s.vm.findClass "java/math/BigInteger" = some m.cls := findClass_of_methodNamed Bd.named
  have hnm := (name_of_methodNamed Bd.named Bd.method).1
  have X0 : Stand p l e ({ frames := 3, cells := 2, slots := 8, locals := 40 } : Room) s m #[(.long q0)] below meth c s₁ [] 0 0 := Stand.of_body Bd
  have e0 : s₁.heap = h0 := by rw [← hh, Bd.state]; rfl
  have N0 := Fr.nil n0
  have K0 := Keep.refl h0 []
  have go0 : Go p e below (s₁.setTop (entryFrame m #[(.long q0)] 2)) (s₁.setTop (mkF m 0 #[vJ q0, sc] [])) := fun t k => castTop (ef_rm_vo2 m q0) k
  have go5 := go0.st s₁ (mkF m 53 #[vJ q0, sc] []) (fun t k => by
    refine XS.lloadN X0.here hx rfl (hb hby d39_0) rfl ?_
    refine XS.lconst X0.here hx rfl (hb hby d39_1) ?_
    refine XS.lcmp X0.here hx rfl (hb hby d39_2) rfl ?_
    refine XS.ifYes X0.here hx rfl (pc0 := 3) (pc' := 10) rfl (hb hby d39_3) rfl ((if0 _ _).trans (feq (fun q => (own_n0J hpos : ¬ (q0 = (0 : Int64))) ((lw_eq _ _).mp q))).2) (by decide) (by decide) ?_
    refine XS.lloadN X0.here hx rfl (hb hby d39_10) rfl ?_
    refine XS.lconst X0.here hx rfl (hb hby d39_11) ?_
    refine XS.lcmp X0.here hx rfl (hb hby d39_12) rfl ?_
    refine XS.ifNo X0.here hx rfl (hb hby d39_13) rfl ((if0 _ _).trans (tlt ((lw_gt _ _).mpr (hpos : (0 : Int64) < q0))).2.2.2) ?_
    show SP p e below s₁ (mkF m 16 #[vJ q0, sc] []) _
    refine XS.lloadN X0.here hx rfl (hb hby d39_16) rfl ?_
    refine X0.ldc2Long hx hown (mvT hZ (wD hw 219 rfl)) (g := (mkF m 17 #[vJ q0, sc] [sJ q0])) rfl (hb hby d39_17) _ ?_
    refine XS.lcmp X0.here hx rfl (hb hby d39_20) rfl ?_
    refine XS.ifYes X0.here hx rfl (pc0 := 21) (pc' := 31) rfl (hb hby d39_21) rfl ((if0 _ _).trans (tlt ((lw_gt _ _).mpr (own_h16 hpos hhi : (16 : Int64) < q0))).2.2.1) (by decide) (by decide) ?_
    refine XS.lloadN X0.here hx rfl (hb hby d39_31) rfl ?_
    refine XS.lconst X0.here hx rfl (hb hby d39_32) ?_
    refine XS.lcmp X0.here hx rfl (hb hby d39_33) rfl ?_
    refine XS.ifYes X0.here hx rfl (pc0 := 34) (pc' := 53) rfl (hb hby d39_34) rfl ((if0 _ _).trans (flt (fun q => (own_nlJ hpos : ¬ (q0 < (0 : Int64))) ((lw_lt _ _).mp q))).2.1) (by decide) (by decide) ?_
    exact k)
  obtain ⟨T6, h6, X6, e6, E6, A6, D6, -, st6⟩ := newO X0 hx hZ hown (wD hw 228 rfl) (wD hw 229 rfl) (wD hw 214 rfl) e0 (g := (mkF m 53 #[vJ q0, sc] [])) rfl (hb hby d39_53) (by decide) (by decide)
  obtain ⟨b6, g6⟩ : ∃ z, z = h0.size := ⟨_, rfl⟩
  rw [← g6] at A6 D6 st6
  have g_b6 : n0 ≤ b6 := Nat.le_trans Z0 (Nat.le_of_eq g6.symm)
  have sz_b6 : h0.size ≤ b6 := Nat.le_trans K0.1 (Nat.le_of_eq g6.symm)
  have F6_signum : Fld Z h6 b6 "java/math/BigInteger" "signum" "I" (.int (0 : Int32)) := D6 (Or.inr (wD hw 227 rfl)) (ty := .int) (by decide)
  have F6_mag : Fld Z h6 b6 "java/math/BigInteger" "mag" "[I" .null := D6 (Or.inr (wD hw 243 rfl)) (ty := (.array .int)) (by decide)
  have Z6 : n0 ≤ h6.size := Nat.le_trans Z0 E6.1
  have K6 := K0.ext E6
  have go7 := go5.st T6 (mkF m 58 #[vJ q0, sc] [sJ q0, sR b6, sR b6]) (fun t k => by
    refine st6 _ ?_
    show SP p e below T6 (mkF m 56 #[vJ q0, sc] [sR b6]) _
    refine XS.dup X6.here hx rfl (hb hby d39_56) rfl rfl ?_
    refine XS.lloadN X6.here hx rfl (hb hby d39_57) rfl ?_
    exact k)
  obtain ⟨_, _, ⟨T8, L8, k8, n8⟩, -, X8, ⟨Lc8, hQ8, l8, y8, z8⟩, st8⟩ := X6.specialBack hx (y := yN31) rfl hown (mvT hZ (wD hw 230 rfl)) (mvT hZ (wD hw 231 rfl)) (mvT hZ (wD hw 233 rfl)) (by decide) (backOf (W := 1) (rm_bj2 l Z a0 hw [] b6 q0 h6 n0 Z6 A6 g_b6 F6_signum F6_mag (own_nlJ hpos) hhi) hZ (wD hw 233 rfl) (wD hw 214 rfl) (by decide) (by decide)) (g := (mkF m 58 #[vJ q0, sc] [sJ q0, sR b6, sR b6])) rfl (by rw [hml]; rfl) (Steps.refl _) (a := b6) (argsL := [(.long q0)]) (rest := [(.ref b6)]) (lenOf pd_rm_vo2_0 rfl) rfl (by show 2 * 0 + _ ≤ _; exact Nat.le_of_eq rfl) (hb hby d39_58) (fun _ _ => ⟨rfl, e6, (by decide : 1 + 1 ≤ _), (by decide : 6 + 2 ≤ _)⟩)
  dsimp only [Pt.U, Pt.locs, Pt.cells, Pt.slots] at X8 l8 y8 z8 st8 hQ8
  rw [l8, y8, z8] at X8
  obtain ⟨mg_8, km_8, rfl, N8q, K8, qp8_0, qp8_1, qp8_2, qp8_3⟩ := hQ8
  have N8 := Fr.app N0 N8q
  have f9 := A6.keep K8
  have Z8 : n0 ≤ T8.heap.size := Nat.le_trans Z6 K8.1
  have KK8 := K6.trans K8 (allS (Or.inr sz_b6) all0)
  have go12 := go7.st T8 (mkF m 61 #[vJ q0, sc] [sR b6]) (fun t k => by
    refine st8.trans ?_
    exact k)
  obtain ⟨fs, hr, hrun, hended, hW, hsame⟩ := X8.leave (v := some (.ref b6)) (fun h => by rw [Bd.returns] at h; cases h)
  refine ⟨_, _, go12 _ ?_, hrun, hended, _, _, rfl, ?_, ⟨_, rfl⟩, hW, hsame.mono (by decide) (by decide)⟩
  · exact own_retA X8 hx Bd.returns rfl rfl (hb hby d39_61) hr
  · show Q_rm_vo2 Z q0 h0 n0 _ T8.heap _
    exact ⟨b6, mg_8, km_8, rfl, N8, KK8, qp8_0, qp8_1, qp8_2, qp8_3⟩
theorem d39_24 : decode jdk_2097_method_29_code 24 = .ok (.getstatic 347, 3) := by decide +kernel
theorem d39_27 : decode jdk_2097_method_29_code 27 = .ok (.lload_n 0, 1) := by decide +kernel
theorem d39_28 : decode jdk_2097_method_29_code 28 = .ok (.l2i, 1) := by decide +kernel
theorem d39_29 : decode jdk_2097_method_29_code 29 = .ok (.aaload, 1) := by decide +kernel
theorem d39_30 : decode jdk_2097_method_29_code 30 = .ok (.areturn, 1) := by decide +kernel
theorem pn_rm_vo1 : plainName "java/math/BigInteger" = true := by first | (simp [plainName, overriddenIn]; done) | decide +kernel
theorem pd_rm_vo1_0 : parseMethodDescriptor "(J)V" = some ⟨[.long], none⟩ := by decide +kernel
theorem ef_rm_vo1 (m : MethodId) (q0 : Int64) : entryFrame m #[(.long q0)] 2 = mkF m 0 #[.val (.long q0), .second] [] := by first | (simp [entryFrame, mkF, argsToLocals, Value.category]; done) | rfl
def Q_rm_vo1 (Z : State) (q0 : Int64) (h0 : Heap) (n0 : Nat) (v : Option Value) (h : Heap) (L : List Loc) : Prop := ∃ b : Addr, ∃ mg : Addr, ∃ km : ClassId, ∃ w : Int32, v = some (.ref b) ∧ Fr n0 L ∧ Keep h0 h [] ∧ Exa Z h b "java/math/BigInteger" ∧ Fld Z h b "java/math/BigInteger" "signum" "I" (.int (1 : Int32)) ∧ Fld Z h b "java/math/BigInteger" "mag" "[I" (.ref mg) ∧ Arv Z h mg km .int (1 : Int32) [(.int w)] (.int (0 : Int32))
set_option maxRecDepth 65536 in
set_option maxHeartbeats 40000000 in
theorem rm_vo1 (l : Launch) (Z : State) (a0 : Array Value) (hw : ∀ d ∈ tables_1, d.before a0 Z = true) (ws : List Jvm.Cond) (q0 : Int64) (h0 : Heap) (n0 : Nat) (Z0 : n0 ≤ h0.size) (Ol : Old Z n0 h0) (hPC : own_PC Z) (hpos : (0 : Int64) < q0) (hhi : ((own_usrL q0 (32 : Int32)).toInt32) = (0 : Int32)) :
    MetFree l yN32 (head1 (Jvm.Cond.code yN32 jdk_2097_method_29_code 2 (some (.object "java/math/BigInteger")) :: ws) ({ frames := 3, cells := 2, slots := 7, locals := 40 } : Room)) (fun a U => a = #[(.long q0)] ∧ Z.Warmed39 U.vm ∧ U.heap = h0) (fun _ _ _ _ _ => True) (fun _ U o U' => ∃ v L, o = .returned v ∧ Q_rm_vo1 Z q0 h0 n0 v U'.heap L ∧ FrameEnd U o U' L ({ frames := 3, cells := 2, slots := 7, locals := 40 } : Room).cells ({ frames := 3, cells := 2, slots := 7, locals := 40 } : Room).slots) := by
  refine MetFree.of_bodySF (plainFor_of_name pn_rm_vo1) hisR ?_
  intro p e s m args below meth c s₁ Bd hml0 hP hK
  obtain ⟨rfl, hZ, hh⟩ := hP
  have hx := Bd.exec
  have hby := Bd.bytes
  have hml : c.maxLocals = 2 := hml0
  have hown : s.vm.findClass "java/math/BigInteger" = some m.cls := findClass_of_methodNamed Bd.named
  have hnm := (name_of_methodNamed Bd.named Bd.method).1
  have X0 : Stand p l e ({ frames := 3, cells := 2, slots := 7, locals := 40 } : Room) s m #[(.long q0)] below meth c s₁ [] 0 0 := Stand.of_body Bd
  have e0 : s₁.heap = h0 := by rw [← hh, Bd.state]; rfl
  have N0 := Fr.nil n0
  have K0 := Keep.refl h0 []
  have go0 : Go p e below (s₁.setTop (entryFrame m #[(.long q0)] 2)) (s₁.setTop (mkF m 0 #[vJ q0, sc] [])) := fun t k => castTop (ef_rm_vo1 m q0) k
  have go4 := go0.st s₁ (mkF m 21 #[vJ q0, sc] [(sI (lcmpW q0 (16 : Int64)))]) (fun t k => by
    refine XS.lloadN X0.here hx rfl (hb hby d39_0) rfl ?_
    refine XS.lconst X0.here hx rfl (hb hby d39_1) ?_
    refine XS.lcmp X0.here hx rfl (hb hby d39_2) rfl ?_
    refine XS.ifYes X0.here hx rfl (pc0 := 3) (pc' := 10) rfl (hb hby d39_3) rfl ((if0 _ _).trans (feq (fun q => (own_n0J hpos : ¬ (q0 = (0 : Int64))) ((lw_eq _ _).mp q))).2) (by decide) (by decide) ?_
    refine XS.lloadN X0.here hx rfl (hb hby d39_10) rfl ?_
    refine XS.lconst X0.here hx rfl (hb hby d39_11) ?_
    refine XS.lcmp X0.here hx rfl (hb hby d39_12) rfl ?_
    refine XS.ifNo X0.here hx rfl (hb hby d39_13) rfl ((if0 _ _).trans (tlt ((lw_gt _ _).mpr (hpos : (0 : Int64) < q0))).2.2.2) ?_
    show SP p e below s₁ (mkF m 16 #[vJ q0, sc] []) _
    refine XS.lloadN X0.here hx rfl (hb hby d39_16) rfl ?_
    refine X0.ldc2Long hx hown (mvT hZ (wD hw 219 rfl)) (g := (mkF m 17 #[vJ q0, sc] [sJ q0])) rfl (hb hby d39_17) _ ?_
    refine XS.lcmp X0.here hx rfl (hb hby d39_20) rfl ?_
    exact k)
  by_cases hc3 : (16 : Int64) < q0
  · skip
    have go6 := go4.st s₁ (mkF m 53 #[vJ q0, sc] []) (fun t k => by
      refine XS.ifYes X0.here hx rfl (pc0 := 21) (pc' := 31) rfl (hb hby d39_21) rfl ((if0 _ _).trans (tlt ((lw_gt _ _).mpr hc3)).2.2.1) (by decide) (by decide) ?_
      refine XS.lloadN X0.here hx rfl (hb hby d39_31) rfl ?_
      refine XS.lconst X0.here hx rfl (hb hby d39_32) ?_
      refine XS.lcmp X0.here hx rfl (hb hby d39_33) rfl ?_
      refine XS.ifYes X0.here hx rfl (pc0 := 34) (pc' := 53) rfl (hb hby d39_34) rfl ((if0 _ _).trans (flt (fun q => (own_nlJ hpos : ¬ (q0 < (0 : Int64))) ((lw_lt _ _).mp q))).2.1) (by decide) (by decide) ?_
      exact k)
    obtain ⟨T7, h7, X7, e7, E7, A7, D7, -, st7⟩ := newO X0 hx hZ hown (wD hw 228 rfl) (wD hw 229 rfl) (wD hw 214 rfl) e0 (g := (mkF m 53 #[vJ q0, sc] [])) rfl (hb hby d39_53) (by decide) (by decide)
    obtain ⟨b7, g7⟩ : ∃ z, z = h0.size := ⟨_, rfl⟩
    rw [← g7] at A7 D7 st7
    have g_b7 : n0 ≤ b7 := Nat.le_trans Z0 (Nat.le_of_eq g7.symm)
    have sz_b7 : h0.size ≤ b7 := Nat.le_trans K0.1 (Nat.le_of_eq g7.symm)
    have f8 := Old.ext Ol E7
    have F7_signum : Fld Z h7 b7 "java/math/BigInteger" "signum" "I" (.int (0 : Int32)) := D7 (Or.inr (wD hw 227 rfl)) (ty := .int) (by decide)
    have F7_mag : Fld Z h7 b7 "java/math/BigInteger" "mag" "[I" .null := D7 (Or.inr (wD hw 243 rfl)) (ty := (.array .int)) (by decide)
    have Z7 : n0 ≤ h7.size := Nat.le_trans Z0 E7.1
    have K7 := K0.ext E7
    have go9 := go6.st T7 (mkF m 58 #[vJ q0, sc] [sJ q0, sR b7, sR b7]) (fun t k => by
      refine st7 _ ?_
      show SP p e below T7 (mkF m 56 #[vJ q0, sc] [sR b7]) _
      refine XS.dup X7.here hx rfl (hb hby d39_56) rfl rfl ?_
      refine XS.lloadN X7.here hx rfl (hb hby d39_57) rfl ?_
      exact k)
    obtain ⟨_, _, ⟨T10, L10, k10, n10⟩, -, X10, ⟨Lc10, hQ10, l10, y10, z10⟩, st10⟩ := X7.specialBack hx (y := yN31) rfl hown (mvT hZ (wD hw 230 rfl)) (mvT hZ (wD hw 231 rfl)) (mvT hZ (wD hw 233 rfl)) (by decide) (backOf (W := 1) (rm_bj1 l Z a0 hw [] b7 q0 h7 n0 Z7 A7 g_b7 F7_signum F7_mag (own_nlJ hpos) hhi) hZ (wD hw 233 rfl) (wD hw 214 rfl) (by decide) (by decide)) (g := (mkF m 58 #[vJ q0, sc] [sJ q0, sR b7, sR b7])) rfl (by rw [hml]; rfl) (Steps.refl _) (a := b7) (argsL := [(.long q0)]) (rest := [(.ref b7)]) (lenOf pd_rm_vo1_0 rfl) rfl (by show 2 * 0 + _ ≤ _; exact Nat.le_of_eq rfl) (hb hby d39_58) (fun _ _ => ⟨rfl, e7, (by decide : 1 + 1 ≤ _), (by decide : 6 + 1 ≤ _)⟩)
    dsimp only [Pt.U, Pt.locs, Pt.cells, Pt.slots] at X10 l10 y10 z10 st10 hQ10
    rw [l10, y10, z10] at X10
    obtain ⟨mg_10, km_10, rfl, N10q, K10, qp10_0, qp10_1, qp10_2, qp10_3⟩ := hQ10
    have N10 := Fr.app N0 N10q
    have f11 := Old.keep f8 K10 (allS g_b7 all0)
    have f12 := A7.keep K10
    have Z10 : n0 ≤ T10.heap.size := Nat.le_trans Z7 K10.1
    have KK10 := K7.trans K10 (allS (Or.inr sz_b7) all0)
    have go15 := go9.st T10 (mkF m 61 #[vJ q0, sc] [sR b7]) (fun t k => by
      refine st10.trans ?_
      exact k)
    obtain ⟨fs, hr, hrun, hended, hW, hsame⟩ := X10.leave (v := some (.ref b7)) (fun h => by rw [Bd.returns] at h; cases h)
    refine ⟨_, _, go15 _ ?_, hrun, hended, _, _, rfl, ?_, ⟨_, rfl⟩, hW, hsame.mono (by decide) (by decide)⟩
    · exact own_retA X10 hx Bd.returns rfl rfl (hb hby d39_61) hr
    · show Q_rm_vo1 Z q0 h0 n0 _ T10.heap _
      exact ⟨b7, mg_10, km_10, (q0.toInt32), rfl, N10, KK10, qp10_0, qp10_1, qp10_2, qp10_3⟩
  · skip
    obtain ⟨pa, kq, us, S_pa, V_pa, hEl⟩ := hPC
    have go16 := go4.st s₁ (mkF m 24 #[vJ q0, sc] []) (fun t k => by
      refine XS.ifNo X0.here hx rfl (hb hby d39_21) rfl ((if0 _ _).trans (flt (fun q => hc3 ((lw_gt _ _).mp q))).2.2.1) ?_
      exact k)
    have f17 := S_pa.ext Ol.2
    obtain ⟨T18, X18, e18, st18⟩ := getS2 X0 hx hZ hown (host := "") (Or.inl (wD hw 220 rfl)) Via.refl e0 f17 (g := (mkF m 24 #[vJ q0, sc] [])) rfl (hb hby d39_24)
    have go19 := go16.st T18 (mkF m 29 #[vJ q0, sc] [(sI (q0.toInt32)), sR pa]) (fun t k => by
      refine st18 _ ?_
      show SP p e below T18 (mkF m 27 #[vJ q0, sc] [sR pa]) _
      refine XS.lloadN X18.here hx rfl (hb hby d39_27) rfl ?_
      refine XS.l2i X18.here hx rfl (hb hby d39_28) rfl ?_
      exact k)
    have f20 := V_pa.ext Ol.2
    have Vo21 := f20
    obtain ⟨cl21, Ar21, qa21, Sa21, Na21, Ha21, Ga21⟩ := Vo21
    have hix := own_ix hpos hc3
    obtain ⟨r, mg, km, w, hr, Er, Fs, Fm, Vm⟩ := hEl _ hix.1 hix.2.1
    have hin21 := inb_of (j := (q0.toInt32)) Sa21 hix.2.2
    have hat21 : cl21.slots[((q0.toInt32)).toNatClampNeg]? = some (.ref r) := Has.at Ha21 hin21 hr
    have Er1 := Er.ext Ol.2
    have Fs1 := Fs.ext Ol.2
    have Fm1 := Fm.ext Ol.2
    have Vm1 := Vm.ext Ol.2
    have go22 := go19.st T18 (mkF m 30 #[vJ q0, sc] [sR r]) (fun t k => by
      refine X18.aaload hx (j := (q0.toInt32)) (v := (.ref r)) (by rw [e18]; exact Ar21.1) (State.isArrayOf_alike hZ.alike Ar21.2.1) rfl Ar21.2.2 hin21 hat21 (g := (mkF m 29 #[vJ q0, sc] [(sI (q0.toInt32)), sR pa])) rfl rfl (hb hby d39_29) _ ?_
      exact k)
    obtain ⟨fs, hr, hrun, hended, hW, hsame⟩ := X18.leave (v := some (.ref r)) (fun h => by rw [Bd.returns] at h; cases h)
    refine ⟨_, _, go22 _ ?_, hrun, hended, _, _, rfl, ?_, ⟨_, rfl⟩, hW, hsame.mono (by decide) (by decide)⟩
    · exact own_retA X18 hx Bd.returns rfl rfl (hb hby d39_30) hr
    · show Q_rm_vo1 Z q0 h0 n0 _ T18.heap _
      rw [e18]
      exact ⟨r, mg, km, w, rfl, N0, K0, Er1, Fs1, Fm1, Vm1⟩
theorem d43_0 : decode jdk_2097_method_35_code 0 = .ok (.aload_n 0, 1) := by decide +kernel
theorem d43_1 : decode jdk_2097_method_35_code 1 = .ok (.arraylength, 1) := by decide +kernel
theorem d43_2 : decode jdk_2097_method_35_code 2 = .ok (.aload_n 1, 1) := by decide +kernel
theorem d43_3 : decode jdk_2097_method_35_code 3 = .ok (.arraylength, 1) := by decide +kernel
theorem d43_4 : decode jdk_2097_method_35_code 4 = .ok (.if_icmp .ge 9, 3) := by decide +kernel
theorem d43_13 : decode jdk_2097_method_35_code 13 = .ok (.aload_n 0, 1) := by decide +kernel
theorem d43_14 : decode jdk_2097_method_35_code 14 = .ok (.arraylength, 1) := by decide +kernel
theorem d43_15 : decode jdk_2097_method_35_code 15 = .ok (.istore_n 2, 1) := by decide +kernel
theorem d43_16 : decode jdk_2097_method_35_code 16 = .ok (.aload_n 1, 1) := by decide +kernel
theorem d43_17 : decode jdk_2097_method_35_code 17 = .ok (.arraylength, 1) := by decide +kernel
theorem d43_18 : decode jdk_2097_method_35_code 18 = .ok (.istore_n 3, 1) := by decide +kernel
theorem d43_19 : decode jdk_2097_method_35_code 19 = .ok (.iload_n 2, 1) := by decide +kernel
theorem d43_20 : decode jdk_2097_method_35_code 20 = .ok (.newarray .int, 2) := by decide +kernel
theorem d43_22 : decode jdk_2097_method_35_code 22 = .ok (.astore 4, 2) := by decide +kernel
theorem d43_24 : decode jdk_2097_method_35_code 24 = .ok (.lconst 0, 1) := by decide +kernel
theorem d43_25 : decode jdk_2097_method_35_code 25 = .ok (.lstore 5, 2) := by decide +kernel
theorem d43_27 : decode jdk_2097_method_35_code 27 = .ok (.iload_n 3, 1) := by decide +kernel
theorem d43_28 : decode jdk_2097_method_35_code 28 = .ok (.iconst 1, 1) := by decide +kernel
theorem d43_29 : decode jdk_2097_method_35_code 29 = .ok (.if_icmp .ne 35, 3) := by decide +kernel
theorem d43_64 : decode jdk_2097_method_35_code 64 = .ok (.iload_n 3, 1) := by decide +kernel
theorem d43_65 : decode jdk_2097_method_35_code 65 = .ok (.ifCond .le 44, 3) := by decide +kernel
theorem d43_68 : decode jdk_2097_method_35_code 68 = .ok (.aload_n 0, 1) := by decide +kernel
theorem d43_69 : decode jdk_2097_method_35_code 69 = .ok (.iinc 2 (-1), 3) := by decide +kernel
theorem d43_72 : decode jdk_2097_method_35_code 72 = .ok (.iload_n 2, 1) := by decide +kernel
theorem d43_73 : decode jdk_2097_method_35_code 73 = .ok (.iaload, 1) := by decide +kernel
theorem d43_74 : decode jdk_2097_method_35_code 74 = .ok (.i2l, 1) := by decide +kernel
theorem d43_75 : decode jdk_2097_method_35_code 75 = .ok (.ldc2_w 130, 3) := by decide +kernel
theorem d43_78 : decode jdk_2097_method_35_code 78 = .ok (.land, 1) := by decide +kernel
theorem d43_79 : decode jdk_2097_method_35_code 79 = .ok (.aload_n 1, 1) := by decide +kernel
theorem d43_80 : decode jdk_2097_method_35_code 80 = .ok (.iinc 3 (-1), 3) := by decide +kernel
theorem d43_83 : decode jdk_2097_method_35_code 83 = .ok (.iload_n 3, 1) := by decide +kernel
theorem d43_84 : decode jdk_2097_method_35_code 84 = .ok (.iaload, 1) := by decide +kernel
theorem d43_85 : decode jdk_2097_method_35_code 85 = .ok (.i2l, 1) := by decide +kernel
theorem d43_86 : decode jdk_2097_method_35_code 86 = .ok (.ldc2_w 130, 3) := by decide +kernel
theorem d43_89 : decode jdk_2097_method_35_code 89 = .ok (.land, 1) := by decide +kernel
theorem d43_90 : decode jdk_2097_method_35_code 90 = .ok (.ladd, 1) := by decide +kernel
theorem d43_91 : decode jdk_2097_method_35_code 91 = .ok (.lload 5, 2) := by decide +kernel
theorem d43_93 : decode jdk_2097_method_35_code 93 = .ok (.bipush 32, 2) := by decide +kernel
theorem d43_95 : decode jdk_2097_method_35_code 95 = .ok (.lushr, 1) := by decide +kernel
theorem d43_96 : decode jdk_2097_method_35_code 96 = .ok (.ladd, 1) := by decide +kernel
theorem d43_97 : decode jdk_2097_method_35_code 97 = .ok (.lstore 5, 2) := by decide +kernel
theorem d43_99 : decode jdk_2097_method_35_code 99 = .ok (.aload 4, 2) := by decide +kernel
theorem d43_101 : decode jdk_2097_method_35_code 101 = .ok (.iload_n 2, 1) := by decide +kernel
theorem d43_102 : decode jdk_2097_method_35_code 102 = .ok (.lload 5, 2) := by decide +kernel
theorem d43_104 : decode jdk_2097_method_35_code 104 = .ok (.l2i, 1) := by decide +kernel
theorem d43_105 : decode jdk_2097_method_35_code 105 = .ok (.iastore, 1) := by decide +kernel
theorem d43_106 : decode jdk_2097_method_35_code 106 = .ok (.goto (-42), 3) := by decide +kernel
theorem d43_109 : decode jdk_2097_method_35_code 109 = .ok (.lload 5, 2) := by decide +kernel
theorem d43_111 : decode jdk_2097_method_35_code 111 = .ok (.bipush 32, 2) := by decide +kernel
theorem d43_113 : decode jdk_2097_method_35_code 113 = .ok (.lushr, 1) := by decide +kernel
theorem d43_114 : decode jdk_2097_method_35_code 114 = .ok (.lconst 0, 1) := by decide +kernel
theorem d43_115 : decode jdk_2097_method_35_code 115 = .ok (.lcmp, 1) := by decide +kernel
theorem d43_116 : decode jdk_2097_method_35_code 116 = .ok (.ifCond .eq 7, 3) := by decide +kernel
theorem d43_123 : decode jdk_2097_method_35_code 123 = .ok (.iconst 0, 1) := by decide +kernel
theorem d43_124 : decode jdk_2097_method_35_code 124 = .ok (.istore 7, 2) := by decide +kernel
theorem d43_126 : decode jdk_2097_method_35_code 126 = .ok (.iload_n 2, 1) := by decide +kernel
theorem d43_127 : decode jdk_2097_method_35_code 127 = .ok (.ifCond .le 34, 3) := by decide +kernel
theorem d43_161 : decode jdk_2097_method_35_code 161 = .ok (.iload_n 2, 1) := by decide +kernel
theorem d43_162 : decode jdk_2097_method_35_code 162 = .ok (.ifCond .le 16, 3) := by decide +kernel
theorem d43_178 : decode jdk_2097_method_35_code 178 = .ok (.iload 7, 2) := by decide +kernel
theorem d43_180 : decode jdk_2097_method_35_code 180 = .ok (.ifCond .eq 32, 3) := by decide +kernel
theorem d43_212 : decode jdk_2097_method_35_code 212 = .ok (.aload 4, 2) := by decide +kernel
theorem d43_214 : decode jdk_2097_method_35_code 214 = .ok (.areturn, 1) := by decide +kernel
theorem pn_rm_mg22 : plainName "java/math/BigInteger" = true := by first | (simp [plainName, overriddenIn]; done) | decide +kernel
theorem ef_rm_mg22 (m : MethodId) (o0 : Addr) (o1 : Addr) : entryFrame m #[(.ref o0), (.ref o1)] 9 = mkF m 0 #[.val (.ref o0), .val (.ref o1), uu, uu, uu, uu, uu, uu, uu] [] := by first | (simp [entryFrame, mkF, argsToLocals, Value.category]; done) | rfl
def Q_rm_mg22 (Z : State) (o0 : Addr) (o1 : Addr) (k1 : ClassId) (k2 : ClassId) (xh : Int32) (xl : Int32) (yh : Int32) (yl : Int32) (h0 : Heap) (n0 : Nat) (v : Option Value) (h : Heap) (L : List Loc) : Prop := ∃ b : Addr, ∃ kb : ClassId, ∃ r0 : Int32, ∃ r1 : Int32, v = some (.ref b) ∧ Fr n0 L ∧ Keep h0 h [] ∧ n0 ≤ b ∧ h0.size ≤ b ∧ Arv Z h b kb .int (2 : Int32) [(.int r0), (.int r1)] (.int (0 : Int32))
set_option maxRecDepth 65536 in
set_option maxHeartbeats 40000000 in
theorem rm_mg22 (l : Launch) (Z : State) (a0 : Array Value) (hw : ∀ d ∈ tables_1, d.before a0 Z = true) (ws : List Jvm.Cond) (o0 : Addr) (o1 : Addr) (k1 : ClassId) (k2 : ClassId) (xh : Int32) (xl : Int32) (yh : Int32) (yl : Int32) (h0 : Heap) (n0 : Nat) (Z0 : n0 ≤ h0.size) (V_o0 : Arv Z h0 o0 k1 .int (2 : Int32) [(.int xh), (.int xl)] (.int (0 : Int32))) (V_o1 : Arv Z h0 o1 k2 .int (2 : Int32) [(.int yh), (.int yl)] (.int (0 : Int32))) (hxh : 0 ≤ xh.toInt) (hyh : 0 ≤ yh.toInt) :
    MetFree l yN33 (head1 (Jvm.Cond.code yN33 jdk_2097_method_35_code 9 (some (.array .int)) :: ws) ({ frames := 0, cells := 1, slots := 2, locals := 0 } : Room)) (fun a U => a = #[(.ref o0), (.ref o1)] ∧ Z.Warmed39 U.vm ∧ U.heap = h0) (fun _ _ _ _ _ => True) (fun _ U o U' => ∃ v L, o = .returned v ∧ Q_rm_mg22 Z o0 o1 k1 k2 xh xl yh yl h0 n0 v U'.heap L ∧ FrameEnd U o U' L ({ frames := 0, cells := 1, slots := 2, locals := 0 } : Room).cells ({ frames := 0, cells := 1, slots := 2, locals := 0 } : Room).slots) := by
  refine MetFree.of_bodySF (plainFor_of_name pn_rm_mg22) hisR ?_
  intro p e s m args below meth c s₁ Bd hml0 hP hK
  obtain ⟨rfl, hZ, hh⟩ := hP
  have hx := Bd.exec
  have hby := Bd.bytes
  have hml : c.maxLocals = 9 := hml0
  have hown : s.vm.findClass "java/math/BigInteger" = some m.cls := findClass_of_methodNamed Bd.named
  have hnm := (name_of_methodNamed Bd.named Bd.method).1
  have X0 : Stand p l e ({ frames := 0, cells := 1, slots := 2, locals := 0 } : Room) s m #[(.ref o0), (.ref o1)] below meth c s₁ [] 0 0 := Stand.of_body Bd
  have e0 : s₁.heap = h0 := by rw [← hh, Bd.state]; rfl
  have N0 := Fr.nil n0
  have K0 := Keep.refl h0 []
  have go0 : Go p e below (s₁.setTop (entryFrame m #[(.ref o0), (.ref o1)] 9)) (s₁.setTop (mkF m 0 #[vR o0, vR o1, uu, uu, uu, uu, uu, uu, uu] [])) := fun t k => castTop (ef_rm_mg22 m o0 o1) k
  have go1 := go0.st s₁ (mkF m 1 #[vR o0, vR o1, uu, uu, uu, uu, uu, uu, uu] [sR o0]) (fun t k => by
    refine XS.aloadN X0.here hx rfl (hb hby d43_0) rfl rfl ?_
    exact k)
  have Vo2 := V_o0
  obtain ⟨cl2, Ar2, qa2, Sa2, Na2, Ha2, Ga2⟩ := Vo2
  have go3 := go1.st s₁ (mkF m 3 #[vR o0, vR o1, uu, uu, uu, uu, uu, uu, uu] [sR o1, sI i2]) (fun t k => by
    refine X0.arraylength hx (by rw [e0]; exact Ar2.1) (State.isArrayOf_alike hZ.alike Ar2.2.1) (g := (mkF m 1 #[vR o0, vR o1, uu, uu, uu, uu, uu, uu, uu] [sR o0])) rfl rfl (hb hby d43_1) _ ?_
    rw [len_of Sa2 Na2]
    refine XS.aloadN X0.here hx rfl (hb hby d43_2) rfl rfl ?_
    exact k)
  have Vo4 := V_o1
  obtain ⟨cl4, Ar4, qa4, Sa4, Na4, Ha4, Ga4⟩ := Vo4
  have go6 := go3.st s₁ (mkF m 14 #[vR o0, vR o1, uu, uu, uu, uu, uu, uu, uu] [sR o0]) (fun t k => by
    refine X0.arraylength hx (by rw [e0]; exact Ar4.1) (State.isArrayOf_alike hZ.alike Ar4.2.1) (g := (mkF m 3 #[vR o0, vR o1, uu, uu, uu, uu, uu, uu, uu] [sR o1, sI i2])) rfl rfl (hb hby d43_3) _ ?_
    rw [len_of Sa4 Na4]
    refine XS.icmpYes X0.here hx rfl (pc0 := 4) (pc' := 13) rfl (hb hby d43_4) rfl (flt ((by decide) : ¬ ((2 : Int32) < (2 : Int32)))).2.1 (by decide) (by decide) ?_
    refine XS.aloadN X0.here hx rfl (hb hby d43_13) rfl rfl ?_
    exact k)
  have Vo7 := V_o0
  obtain ⟨cl7, Ar7, qa7, Sa7, Na7, Ha7, Ga7⟩ := Vo7
  have go8 := go6.st s₁ (mkF m 17 #[vR o0, vR o1, vI i2, uu, uu, uu, uu, uu, uu] [sR o1]) (fun t k => by
    refine X0.arraylength hx (by rw [e0]; exact Ar7.1) (State.isArrayOf_alike hZ.alike Ar7.2.1) (g := (mkF m 14 #[vR o0, vR o1, uu, uu, uu, uu, uu, uu, uu] [sR o0])) rfl rfl (hb hby d43_14) _ ?_
    rw [len_of Sa7 Na7]
    refine XS.istoreN X0.here hx rfl (hb hby d43_15) rfl (l' := #[vR o0, vR o1, vI i2, uu, uu, uu, uu, uu, uu]) rfl ?_
    refine XS.aloadN X0.here hx rfl (hb hby d43_16) rfl rfl ?_
    exact k)
  have Vo9 := V_o1
  obtain ⟨cl9, Ar9, qa9, Sa9, Na9, Ha9, Ga9⟩ := Vo9
  have go10 := go8.st s₁ (mkF m 20 #[vR o0, vR o1, vI i2, vI i2, uu, uu, uu, uu, uu] [sI i2]) (fun t k => by
    refine X0.arraylength hx (by rw [e0]; exact Ar9.1) (State.isArrayOf_alike hZ.alike Ar9.2.1) (g := (mkF m 17 #[vR o0, vR o1, vI i2, uu, uu, uu, uu, uu, uu] [sR o1])) rfl rfl (hb hby d43_17) _ ?_
    rw [len_of Sa9 Na9]
    refine XS.istoreN X0.here hx rfl (hb hby d43_18) rfl (l' := #[vR o0, vR o1, vI i2, vI i2, uu, uu, uu, uu, uu]) rfl ?_
    refine XS.iloadN X0.here hx rfl (hb hby d43_19) rfl ?_
    exact k)
  obtain ⟨T11, h11, k11, X11, e11, E11, A11, st11⟩ := newP X0 hx hZ (wD hw 241 rfl) e0 (g := (mkF m 20 #[vR o0, vR o1, vI i2, vI i2, uu, uu, uu, uu, uu] [sI i2])) rfl (hb hby d43_20) rfl (by decide) (cap := 2) (by decide) (by decide) (by decide) (by decide)
  obtain ⟨b11, g11⟩ : ∃ z, z = h0.size := ⟨_, rfl⟩
  rw [← g11] at A11 st11
  have ne_o0_b11 : o0 ≠ b11 := Nat.ne_of_lt (Nat.lt_of_lt_of_le V_o0.lt (Nat.le_of_eq g11.symm))
  have ne_o1_b11 : o1 ≠ b11 := Nat.ne_of_lt (Nat.lt_of_lt_of_le V_o1.lt (Nat.le_of_eq g11.symm))
  have g_b11 : n0 ≤ b11 := Nat.le_trans Z0 (Nat.le_of_eq g11.symm)
  have sz_b11 : h0.size ≤ b11 := Nat.le_trans K0.1 (Nat.le_of_eq g11.symm)
  have f12 := V_o0.ext E11
  have f13 := V_o1.ext E11
  have V11 : Arv Z h11 b11 k11 .int (2 : Int32) [(.int (0 : Int32)), (.int (0 : Int32))] (.int (0 : Int32)) := (Arv.new A11 (by decide)).pad (pad_rep [] (.int (0 : Int32)) 2)
  have Z11 : n0 ≤ h11.size := Nat.le_trans Z0 E11.1
  have K11 := K0.ext E11
  have go16 := go10.st T11 (mkF m 73 #[vR o0, vR o1, vI i1, vI i2, vR b11, vJ ((0 : Int64)), sc, uu, uu] [sI i1, sR o0]) (fun t k => by
    refine st11 _ ?_
    show SP p e below T11 (mkF m 22 #[vR o0, vR o1, vI i2, vI i2, uu, uu, uu, uu, uu] [sR b11]) _
    refine XS.astore X11.here hx rfl (hb hby d43_22) rfl rfl (l' := #[vR o0, vR o1, vI i2, vI i2, vR b11, uu, uu, uu, uu]) rfl ?_
    refine XS.lconst X11.here hx rfl (hb hby d43_24) ?_
    refine XS.lstore X11.here hx rfl (hb hby d43_25) rfl (l' := #[vR o0, vR o1, vI i2, vI i2, vR b11, vJ ((0 : Int64)), sc, uu, uu]) rfl ?_
    refine XS.iloadN X11.here hx rfl (hb hby d43_27) rfl ?_
    refine XS.iconst X11.here hx rfl (hb hby d43_28) ?_
    refine XS.icmpYes X11.here hx rfl (pc0 := 29) (pc' := 64) rfl (hb hby d43_29) rfl (feq ((by decide) : ¬ ((2 : Int32) = (1 : Int32)))).2 (by decide) (by decide) ?_
    refine XS.iloadN X11.here hx rfl (hb hby d43_64) rfl ?_
    refine XS.ifNo X11.here hx rfl (hb hby d43_65) rfl ((if0 _ _).trans (tlt ((by decide) : (0 : Int32) < (2 : Int32))).2.2.2) ?_
    refine XS.aloadN X11.here hx rfl (hb hby d43_68) rfl rfl ?_
    show SP p e below T11 (mkF m 69 #[vR o0, vR o1, vI i2, vI i2, vR b11, vJ ((0 : Int64)), sc, uu, uu] [sR o0]) _
    refine XS.iinc X11.here hx rfl (hb hby d43_69) rfl (l' := #[vR o0, vR o1, vI i1, vI i2, vR b11, vJ ((0 : Int64)), sc, uu, uu]) rfl ?_
    refine XS.iloadN X11.here hx rfl (hb hby d43_72) rfl ?_
    exact k)
  have Vo17 := f12
  obtain ⟨cl17, Ar17, qa17, Sa17, Na17, Ha17, Ga17⟩ := Vo17
  have hin17 := inb_of (j := (1 : Int32)) Sa17 ⟨by decide, by decide⟩
  have hat17 : cl17.slots[((1 : Int32)).toNatClampNeg]? = some (.int xl) := Has.at Ha17 hin17 rfl
  have go18 := go16.st T11 (mkF m 84 #[vR o0, vR o1, vI i1, vI i1, vR b11, vJ ((0 : Int64)), sc, uu, uu] [sI i1, sR o1, (sJ ((xl.toInt64) &&& (4294967295 : Int64)))]) (fun t k => by
    refine X11.iaload hx (j := (1 : Int32)) (v := (.int xl)) (by rw [e11]; exact Ar17.1) (State.isArrayOf_alike hZ.alike Ar17.2.1) Ar17.2.2 hin17 hat17 (g := (mkF m 73 #[vR o0, vR o1, vI i1, vI i2, vR b11, vJ ((0 : Int64)), sc, uu, uu] [sI i1, sR o0])) rfl rfl (hb hby d43_73) _ ?_
    refine XS.i2l X11.here hx rfl (hb hby d43_74) rfl ?_
    refine X11.ldc2Long hx hown (mvT hZ (wD hw 247 rfl)) (g := (mkF m 75 #[vR o0, vR o1, vI i1, vI i2, vR b11, vJ ((0 : Int64)), sc, uu, uu] [(sJ (xl.toInt64))])) rfl (hb hby d43_75) _ ?_
    refine XS.land X11.here hx rfl (hb hby d43_78) rfl ?_
    refine XS.aloadN X11.here hx rfl (hb hby d43_79) rfl rfl ?_
    refine XS.iinc X11.here hx rfl (hb hby d43_80) rfl (l' := #[vR o0, vR o1, vI i1, vI i1, vR b11, vJ ((0 : Int64)), sc, uu, uu]) rfl ?_
    refine XS.iloadN X11.here hx rfl (hb hby d43_83) rfl ?_
    exact k)
  have Vo19 := f13
  obtain ⟨cl19, Ar19, qa19, Sa19, Na19, Ha19, Ga19⟩ := Vo19
  have hin19 := inb_of (j := (1 : Int32)) Sa19 ⟨by decide, by decide⟩
  have hat19 : cl19.slots[((1 : Int32)).toNatClampNeg]? = some (.int yl) := Has.at Ha19 hin19 rfl
  have go20 := go18.st T11 (mkF m 105 #[vR o0, vR o1, vI i1, vI i1, vR b11, vJ (((((xl.toInt64) &&& (4294967295 : Int64)) + ((yl.toInt64) &&& (4294967295 : Int64))) + (0 : Int64))), sc, uu, uu] [(sI (((((xl.toInt64) &&& (4294967295 : Int64)) + ((yl.toInt64) &&& (4294967295 : Int64))) + (0 : Int64)).toInt32)), sI i1, sR b11]) (fun t k => by
    refine X11.iaload hx (j := (1 : Int32)) (v := (.int yl)) (by rw [e11]; exact Ar19.1) (State.isArrayOf_alike hZ.alike Ar19.2.1) Ar19.2.2 hin19 hat19 (g := (mkF m 84 #[vR o0, vR o1, vI i1, vI i1, vR b11, vJ ((0 : Int64)), sc, uu, uu] [sI i1, sR o1, (sJ ((xl.toInt64) &&& (4294967295 : Int64)))])) rfl rfl (hb hby d43_84) _ ?_
    refine XS.i2l X11.here hx rfl (hb hby d43_85) rfl ?_
    refine X11.ldc2Long hx hown (mvT hZ (wD hw 247 rfl)) (g := (mkF m 86 #[vR o0, vR o1, vI i1, vI i1, vR b11, vJ ((0 : Int64)), sc, uu, uu] [(sJ (yl.toInt64)), (sJ ((xl.toInt64) &&& (4294967295 : Int64)))])) rfl (hb hby d43_86) _ ?_
    refine XS.land X11.here hx rfl (hb hby d43_89) rfl ?_
    refine XS.ladd X11.here hx rfl (hb hby d43_90) rfl ?_
    refine XS.lload X11.here hx rfl (hb hby d43_91) rfl ?_
    refine XS.bipush X11.here hx rfl (hb hby d43_93) ?_
    refine XS.lushr X11.here hx rfl (hb hby d43_95) rfl ?_
    show SP p e below T11 (mkF m 96 #[vR o0, vR o1, vI i1, vI i1, vR b11, vJ ((0 : Int64)), sc, uu, uu] [(sJ (0 : Int64)), (sJ (((xl.toInt64) &&& (4294967295 : Int64)) + ((yl.toInt64) &&& (4294967295 : Int64))))]) _
    refine XS.ladd X11.here hx rfl (hb hby d43_96) rfl ?_
    refine XS.lstore X11.here hx rfl (hb hby d43_97) rfl (l' := #[vR o0, vR o1, vI i1, vI i1, vR b11, vJ (((((xl.toInt64) &&& (4294967295 : Int64)) + ((yl.toInt64) &&& (4294967295 : Int64))) + (0 : Int64))), sc, uu, uu]) rfl ?_
    refine XS.aload X11.here hx rfl (hb hby d43_99) rfl rfl ?_
    refine XS.iloadN X11.here hx rfl (hb hby d43_101) rfl ?_
    refine XS.lload X11.here hx rfl (hb hby d43_102) rfl ?_
    refine XS.l2i X11.here hx rfl (hb hby d43_104) rfl ?_
    exact k)
  have Vo21 := V11
  obtain ⟨cl21, Ar21, qa21, Sa21, Na21, Ha21, Ga21⟩ := Vo21
  have hin21 := inb_of (j := (1 : Int32)) Sa21 ⟨by decide, by decide⟩
  obtain ⟨T22, h22, X22, e22, W22, st22⟩ := stI X11 hx hZ e11 Ar21 (j := (1 : Int32)) hin21 (g := (mkF m 105 #[vR o0, vR o1, vI i1, vI i1, vR b11, vJ (((((xl.toInt64) &&& (4294967295 : Int64)) + ((yl.toInt64) &&& (4294967295 : Int64))) + (0 : Int64))), sc, uu, uu] [(sI (((((xl.toInt64) &&& (4294967295 : Int64)) + ((yl.toInt64) &&& (4294967295 : Int64))) + (0 : Int64)).toInt32)), sI i1, sR b11])) rfl rfl (hb hby d43_105)
  have V22 : Arv Z h22 b11 k11 .int (2 : Int32) [(.int (0 : Int32)), (.int (((((xl.toInt64) &&& (4294967295 : Int64)) + ((yl.toInt64) &&& (4294967295 : Int64))) + (0 : Int64)).toInt32))] (.int (0 : Int32)) := Arv.set Ar21 qa21 Sa21 Na21 Ha21 Ga21 rfl W22 1 rfl (Nat.le_of_ble_eq_true rfl)
  have f23 := Arv.other f12 W22 ne_o0_b11
  have f24 := Arv.other f13 W22 ne_o1_b11
  have Z22 : n0 ≤ h22.size := Nat.le_trans Z11 (Nat.le_of_eq W22.size.symm)
  have K22 := K11.wr W22 (Or.inr sz_b11)
  have N22 := Fr.snoc X22 N0 g_b11
  have go27 := go20.st T22 (mkF m 73 #[vR o0, vR o1, vI i0, vI i1, vR b11, vJ (((((xl.toInt64) &&& (4294967295 : Int64)) + ((yl.toInt64) &&& (4294967295 : Int64))) + (0 : Int64))), sc, uu, uu] [sI i0, sR o0]) (fun t k => by
    refine st22 _ ?_
    show SP p e below T22 (mkF m 106 #[vR o0, vR o1, vI i1, vI i1, vR b11, vJ (((((xl.toInt64) &&& (4294967295 : Int64)) + ((yl.toInt64) &&& (4294967295 : Int64))) + (0 : Int64))), sc, uu, uu] []) _
    refine XS.goto X22.here hx rfl (pc0 := 106) (pc' := 64) rfl (hb hby d43_106) (by decide) (by decide) ?_
    refine XS.iloadN X22.here hx rfl (hb hby d43_64) rfl ?_
    refine XS.ifNo X22.here hx rfl (hb hby d43_65) rfl ((if0 _ _).trans (tlt ((by decide) : (0 : Int32) < (1 : Int32))).2.2.2) ?_
    refine XS.aloadN X22.here hx rfl (hb hby d43_68) rfl rfl ?_
    refine XS.iinc X22.here hx rfl (hb hby d43_69) rfl (l' := #[vR o0, vR o1, vI i0, vI i1, vR b11, vJ (((((xl.toInt64) &&& (4294967295 : Int64)) + ((yl.toInt64) &&& (4294967295 : Int64))) + (0 : Int64))), sc, uu, uu]) rfl ?_
    refine XS.iloadN X22.here hx rfl (hb hby d43_72) rfl ?_
    exact k)
  have Vo28 := f23
  obtain ⟨cl28, Ar28, qa28, Sa28, Na28, Ha28, Ga28⟩ := Vo28
  have hin28 := inb_of (j := (0 : Int32)) Sa28 ⟨by decide, by decide⟩
  have hat28 : cl28.slots[((0 : Int32)).toNatClampNeg]? = some (.int xh) := Has.at Ha28 hin28 rfl
  have go29 := go27.st T22 (mkF m 84 #[vR o0, vR o1, vI i0, vI i0, vR b11, vJ (((((xl.toInt64) &&& (4294967295 : Int64)) + ((yl.toInt64) &&& (4294967295 : Int64))) + (0 : Int64))), sc, uu, uu] [sI i0, sR o1, (sJ ((xh.toInt64) &&& (4294967295 : Int64)))]) (fun t k => by
    refine X22.iaload hx (j := (0 : Int32)) (v := (.int xh)) (by rw [e22]; exact Ar28.1) (State.isArrayOf_alike hZ.alike Ar28.2.1) Ar28.2.2 hin28 hat28 (g := (mkF m 73 #[vR o0, vR o1, vI i0, vI i1, vR b11, vJ (((((xl.toInt64) &&& (4294967295 : Int64)) + ((yl.toInt64) &&& (4294967295 : Int64))) + (0 : Int64))), sc, uu, uu] [sI i0, sR o0])) rfl rfl (hb hby d43_73) _ ?_
    refine XS.i2l X22.here hx rfl (hb hby d43_74) rfl ?_
    refine X22.ldc2Long hx hown (mvT hZ (wD hw 247 rfl)) (g := (mkF m 75 #[vR o0, vR o1, vI i0, vI i1, vR b11, vJ (((((xl.toInt64) &&& (4294967295 : Int64)) + ((yl.toInt64) &&& (4294967295 : Int64))) + (0 : Int64))), sc, uu, uu] [(sJ (xh.toInt64))])) rfl (hb hby d43_75) _ ?_
    refine XS.land X22.here hx rfl (hb hby d43_78) rfl ?_
    refine XS.aloadN X22.here hx rfl (hb hby d43_79) rfl rfl ?_
    refine XS.iinc X22.here hx rfl (hb hby d43_80) rfl (l' := #[vR o0, vR o1, vI i0, vI i0, vR b11, vJ (((((xl.toInt64) &&& (4294967295 : Int64)) + ((yl.toInt64) &&& (4294967295 : Int64))) + (0 : Int64))), sc, uu, uu]) rfl ?_
    refine XS.iloadN X22.here hx rfl (hb hby d43_83) rfl ?_
    exact k)
  have Vo30 := f24
  obtain ⟨cl30, Ar30, qa30, Sa30, Na30, Ha30, Ga30⟩ := Vo30
  have hin30 := inb_of (j := (0 : Int32)) Sa30 ⟨by decide, by decide⟩
  have hat30 : cl30.slots[((0 : Int32)).toNatClampNeg]? = some (.int yh) := Has.at Ha30 hin30 rfl
  have go31 := go29.st T22 (mkF m 105 #[vR o0, vR o1, vI i0, vI i0, vR b11, vJ (((((xh.toInt64) &&& (4294967295 : Int64)) + ((yh.toInt64) &&& (4294967295 : Int64))) + (own_usrL ((((xl.toInt64) &&& (4294967295 : Int64)) + ((yl.toInt64) &&& (4294967295 : Int64))) + (0 : Int64)) (32 : Int32)))), sc, uu, uu] [(sI (((((xh.toInt64) &&& (4294967295 : Int64)) + ((yh.toInt64) &&& (4294967295 : Int64))) + (own_usrL ((((xl.toInt64) &&& (4294967295 : Int64)) + ((yl.toInt64) &&& (4294967295 : Int64))) + (0 : Int64)) (32 : Int32))).toInt32)), sI i0, sR b11]) (fun t k => by
    refine X22.iaload hx (j := (0 : Int32)) (v := (.int yh)) (by rw [e22]; exact Ar30.1) (State.isArrayOf_alike hZ.alike Ar30.2.1) Ar30.2.2 hin30 hat30 (g := (mkF m 84 #[vR o0, vR o1, vI i0, vI i0, vR b11, vJ (((((xl.toInt64) &&& (4294967295 : Int64)) + ((yl.toInt64) &&& (4294967295 : Int64))) + (0 : Int64))), sc, uu, uu] [sI i0, sR o1, (sJ ((xh.toInt64) &&& (4294967295 : Int64)))])) rfl rfl (hb hby d43_84) _ ?_
    refine XS.i2l X22.here hx rfl (hb hby d43_85) rfl ?_
    refine X22.ldc2Long hx hown (mvT hZ (wD hw 247 rfl)) (g := (mkF m 86 #[vR o0, vR o1, vI i0, vI i0, vR b11, vJ (((((xl.toInt64) &&& (4294967295 : Int64)) + ((yl.toInt64) &&& (4294967295 : Int64))) + (0 : Int64))), sc, uu, uu] [(sJ (yh.toInt64)), (sJ ((xh.toInt64) &&& (4294967295 : Int64)))])) rfl (hb hby d43_86) _ ?_
    refine XS.land X22.here hx rfl (hb hby d43_89) rfl ?_
    refine XS.ladd X22.here hx rfl (hb hby d43_90) rfl ?_
    refine XS.lload X22.here hx rfl (hb hby d43_91) rfl ?_
    refine XS.bipush X22.here hx rfl (hb hby d43_93) ?_
    refine XS.lushr X22.here hx rfl (hb hby d43_95) rfl ?_
    show SP p e below T22 (mkF m 96 #[vR o0, vR o1, vI i0, vI i0, vR b11, vJ (((((xl.toInt64) &&& (4294967295 : Int64)) + ((yl.toInt64) &&& (4294967295 : Int64))) + (0 : Int64))), sc, uu, uu] [(sJ (own_usrL ((((xl.toInt64) &&& (4294967295 : Int64)) + ((yl.toInt64) &&& (4294967295 : Int64))) + (0 : Int64)) (32 : Int32))), (sJ (((xh.toInt64) &&& (4294967295 : Int64)) + ((yh.toInt64) &&& (4294967295 : Int64))))]) _
    refine XS.ladd X22.here hx rfl (hb hby d43_96) rfl ?_
    refine XS.lstore X22.here hx rfl (hb hby d43_97) rfl (l' := #[vR o0, vR o1, vI i0, vI i0, vR b11, vJ (((((xh.toInt64) &&& (4294967295 : Int64)) + ((yh.toInt64) &&& (4294967295 : Int64))) + (own_usrL ((((xl.toInt64) &&& (4294967295 : Int64)) + ((yl.toInt64) &&& (4294967295 : Int64))) + (0 : Int64)) (32 : Int32)))), sc, uu, uu]) rfl ?_
    refine XS.aload X22.here hx rfl (hb hby d43_99) rfl rfl ?_
    refine XS.iloadN X22.here hx rfl (hb hby d43_101) rfl ?_
    refine XS.lload X22.here hx rfl (hb hby d43_102) rfl ?_
    refine XS.l2i X22.here hx rfl (hb hby d43_104) rfl ?_
    exact k)
  have Vo32 := V22
  obtain ⟨cl32, Ar32, qa32, Sa32, Na32, Ha32, Ga32⟩ := Vo32
  have hin32 := inb_of (j := (0 : Int32)) Sa32 ⟨by decide, by decide⟩
  obtain ⟨T33, h33, X33, e33, W33, st33⟩ := stI X22 hx hZ e22 Ar32 (j := (0 : Int32)) hin32 (g := (mkF m 105 #[vR o0, vR o1, vI i0, vI i0, vR b11, vJ (((((xh.toInt64) &&& (4294967295 : Int64)) + ((yh.toInt64) &&& (4294967295 : Int64))) + (own_usrL ((((xl.toInt64) &&& (4294967295 : Int64)) + ((yl.toInt64) &&& (4294967295 : Int64))) + (0 : Int64)) (32 : Int32)))), sc, uu, uu] [(sI (((((xh.toInt64) &&& (4294967295 : Int64)) + ((yh.toInt64) &&& (4294967295 : Int64))) + (own_usrL ((((xl.toInt64) &&& (4294967295 : Int64)) + ((yl.toInt64) &&& (4294967295 : Int64))) + (0 : Int64)) (32 : Int32))).toInt32)), sI i0, sR b11])) rfl rfl (hb hby d43_105)
  have V33 : Arv Z h33 b11 k11 .int (2 : Int32) [(.int (((((xh.toInt64) &&& (4294967295 : Int64)) + ((yh.toInt64) &&& (4294967295 : Int64))) + (own_usrL ((((xl.toInt64) &&& (4294967295 : Int64)) + ((yl.toInt64) &&& (4294967295 : Int64))) + (0 : Int64)) (32 : Int32))).toInt32)), (.int (((((xl.toInt64) &&& (4294967295 : Int64)) + ((yl.toInt64) &&& (4294967295 : Int64))) + (0 : Int64)).toInt32))] (.int (0 : Int32)) := Arv.set Ar32 qa32 Sa32 Na32 Ha32 Ga32 rfl W33 0 rfl (Nat.le_of_ble_eq_true rfl)
  have f34 := Arv.other f23 W33 ne_o0_b11
  have f35 := Arv.other f24 W33 ne_o1_b11
  have Z33 : n0 ≤ h33.size := Nat.le_trans Z22 (Nat.le_of_eq W33.size.symm)
  have K33 := K22.wr W33 (Or.inr sz_b11)
  have N33 := Fr.snoc X33 N22 g_b11
  have go42 := go31.st T33 (mkF m 214 #[vR o0, vR o1, vI i0, vI i0, vR b11, vJ (((((xh.toInt64) &&& (4294967295 : Int64)) + ((yh.toInt64) &&& (4294967295 : Int64))) + (own_usrL ((((xl.toInt64) &&& (4294967295 : Int64)) + ((yl.toInt64) &&& (4294967295 : Int64))) + (0 : Int64)) (32 : Int32)))), sc, vI i0, uu] [sR b11]) (fun t k => by
    refine st33 _ ?_
    show SP p e below T33 (mkF m 106 #[vR o0, vR o1, vI i0, vI i0, vR b11, vJ (((((xh.toInt64) &&& (4294967295 : Int64)) + ((yh.toInt64) &&& (4294967295 : Int64))) + (own_usrL ((((xl.toInt64) &&& (4294967295 : Int64)) + ((yl.toInt64) &&& (4294967295 : Int64))) + (0 : Int64)) (32 : Int32)))), sc, uu, uu] []) _
    refine XS.goto X33.here hx rfl (pc0 := 106) (pc' := 64) rfl (hb hby d43_106) (by decide) (by decide) ?_
    refine XS.iloadN X33.here hx rfl (hb hby d43_64) rfl ?_
    refine XS.ifYes X33.here hx rfl (pc0 := 65) (pc' := 109) rfl (hb hby d43_65) rfl ((if0 _ _).trans (flt ((by decide) : ¬ ((0 : Int32) < (0 : Int32)))).2.2.2) (by decide) (by decide) ?_
    refine XS.lload X33.here hx rfl (hb hby d43_109) rfl ?_
    refine XS.bipush X33.here hx rfl (hb hby d43_111) ?_
    refine XS.lushr X33.here hx rfl (hb hby d43_113) rfl ?_
    refine XS.lconst X33.here hx rfl (hb hby d43_114) ?_
    refine XS.lcmp X33.here hx rfl (hb hby d43_115) rfl ?_
    refine XS.ifYes X33.here hx rfl (pc0 := 116) (pc' := 123) rfl (hb hby d43_116) rfl ((if0 _ _).trans (teq ((lw_eq _ _).mpr (own_c22 hxh hyh : (own_usrL ((((xh.toInt64) &&& (4294967295 : Int64)) + ((yh.toInt64) &&& (4294967295 : Int64))) + (own_usrL ((((xl.toInt64) &&& (4294967295 : Int64)) + ((yl.toInt64) &&& (4294967295 : Int64))) + (0 : Int64)) (32 : Int32))) (32 : Int32)) = (0 : Int64)))).1) (by decide) (by decide) ?_
    show SP p e below T33 (mkF m 123 #[vR o0, vR o1, vI i0, vI i0, vR b11, vJ (((((xh.toInt64) &&& (4294967295 : Int64)) + ((yh.toInt64) &&& (4294967295 : Int64))) + (own_usrL ((((xl.toInt64) &&& (4294967295 : Int64)) + ((yl.toInt64) &&& (4294967295 : Int64))) + (0 : Int64)) (32 : Int32)))), sc, uu, uu] []) _
    refine XS.iconst X33.here hx rfl (hb hby d43_123) ?_
    refine XS.istore X33.here hx rfl (hb hby d43_124) rfl (l' := #[vR o0, vR o1, vI i0, vI i0, vR b11, vJ (((((xh.toInt64) &&& (4294967295 : Int64)) + ((yh.toInt64) &&& (4294967295 : Int64))) + (own_usrL ((((xl.toInt64) &&& (4294967295 : Int64)) + ((yl.toInt64) &&& (4294967295 : Int64))) + (0 : Int64)) (32 : Int32)))), sc, vI i0, uu]) rfl ?_
    refine XS.iloadN X33.here hx rfl (hb hby d43_126) rfl ?_
    refine XS.ifYes X33.here hx rfl (pc0 := 127) (pc' := 161) rfl (hb hby d43_127) rfl ((if0 _ _).trans (flt ((by decide) : ¬ ((0 : Int32) < (0 : Int32)))).2.2.2) (by decide) (by decide) ?_
    refine XS.iloadN X33.here hx rfl (hb hby d43_161) rfl ?_
    refine XS.ifYes X33.here hx rfl (pc0 := 162) (pc' := 178) rfl (hb hby d43_162) rfl ((if0 _ _).trans (flt ((by decide) : ¬ ((0 : Int32) < (0 : Int32)))).2.2.2) (by decide) (by decide) ?_
    refine XS.iload X33.here hx rfl (hb hby d43_178) rfl ?_
    refine XS.ifYes X33.here hx rfl (pc0 := 180) (pc' := 212) rfl (hb hby d43_180) rfl ((if0 _ _).trans (teq ((by decide) : (0 : Int32) = (0 : Int32))).1) (by decide) (by decide) ?_
    refine XS.aload X33.here hx rfl (hb hby d43_212) rfl rfl ?_
    exact k)
  obtain ⟨fs, hr, hrun, hended, hW, hsame⟩ := X33.leave (v := some (.ref b11)) (fun h => by rw [Bd.returns] at h; cases h)
  refine ⟨_, _, go42 _ ?_, hrun, hended, _, _, rfl, ?_, ⟨_, rfl⟩, hW, hsame.mono (by decide) (by decide)⟩
  · exact own_retA X33 hx Bd.returns rfl rfl (hb hby d43_214) hr
  · show Q_rm_mg22 Z o0 o1 k1 k2 xh xl yh yl h0 n0 _ T33.heap _
    rw [e33]
    exact ⟨b11, k11, (((((xh.toInt64) &&& (4294967295 : Int64)) + ((yh.toInt64) &&& (4294967295 : Int64))) + (own_usrL ((((xl.toInt64) &&& (4294967295 : Int64)) + ((yl.toInt64) &&& (4294967295 : Int64))) + (0 : Int64)) (32 : Int32))).toInt32), (((((xl.toInt64) &&& (4294967295 : Int64)) + ((yl.toInt64) &&& (4294967295 : Int64))) + (0 : Int64)).toInt32), rfl, N33, K33, g_b11, sz_b11, V33⟩
theorem d43_32 : decode jdk_2097_method_35_code 32 = .ok (.aload_n 0, 1) := by decide +kernel
theorem d43_33 : decode jdk_2097_method_35_code 33 = .ok (.iinc 2 (-1), 3) := by decide +kernel
theorem d43_36 : decode jdk_2097_method_35_code 36 = .ok (.iload_n 2, 1) := by decide +kernel
theorem d43_37 : decode jdk_2097_method_35_code 37 = .ok (.iaload, 1) := by decide +kernel
theorem d43_38 : decode jdk_2097_method_35_code 38 = .ok (.i2l, 1) := by decide +kernel
theorem d43_39 : decode jdk_2097_method_35_code 39 = .ok (.ldc2_w 130, 3) := by decide +kernel
theorem d43_42 : decode jdk_2097_method_35_code 42 = .ok (.land, 1) := by decide +kernel
theorem d43_43 : decode jdk_2097_method_35_code 43 = .ok (.aload_n 1, 1) := by decide +kernel
theorem d43_44 : decode jdk_2097_method_35_code 44 = .ok (.iconst 0, 1) := by decide +kernel
theorem d43_45 : decode jdk_2097_method_35_code 45 = .ok (.iaload, 1) := by decide +kernel
theorem d43_46 : decode jdk_2097_method_35_code 46 = .ok (.i2l, 1) := by decide +kernel
theorem d43_47 : decode jdk_2097_method_35_code 47 = .ok (.ldc2_w 130, 3) := by decide +kernel
theorem d43_50 : decode jdk_2097_method_35_code 50 = .ok (.land, 1) := by decide +kernel
theorem d43_51 : decode jdk_2097_method_35_code 51 = .ok (.ladd, 1) := by decide +kernel
theorem d43_52 : decode jdk_2097_method_35_code 52 = .ok (.lstore 5, 2) := by decide +kernel
theorem d43_54 : decode jdk_2097_method_35_code 54 = .ok (.aload 4, 2) := by decide +kernel
theorem d43_56 : decode jdk_2097_method_35_code 56 = .ok (.iload_n 2, 1) := by decide +kernel
theorem d43_57 : decode jdk_2097_method_35_code 57 = .ok (.lload 5, 2) := by decide +kernel
theorem d43_59 : decode jdk_2097_method_35_code 59 = .ok (.l2i, 1) := by decide +kernel
theorem d43_60 : decode jdk_2097_method_35_code 60 = .ok (.iastore, 1) := by decide +kernel
theorem d43_61 : decode jdk_2097_method_35_code 61 = .ok (.goto 48, 3) := by decide +kernel
theorem d43_119 : decode jdk_2097_method_35_code 119 = .ok (.iconst 1, 1) := by decide +kernel
theorem d43_120 : decode jdk_2097_method_35_code 120 = .ok (.goto 4, 3) := by decide +kernel
theorem d43_130 : decode jdk_2097_method_35_code 130 = .ok (.iload 7, 2) := by decide +kernel
theorem d43_132 : decode jdk_2097_method_35_code 132 = .ok (.ifCond .eq 29, 3) := by decide +kernel
theorem d43_135 : decode jdk_2097_method_35_code 135 = .ok (.aload 4, 2) := by decide +kernel
theorem d43_137 : decode jdk_2097_method_35_code 137 = .ok (.iinc 2 (-1), 3) := by decide +kernel
theorem d43_140 : decode jdk_2097_method_35_code 140 = .ok (.iload_n 2, 1) := by decide +kernel
theorem d43_141 : decode jdk_2097_method_35_code 141 = .ok (.aload_n 0, 1) := by decide +kernel
theorem d43_142 : decode jdk_2097_method_35_code 142 = .ok (.iload_n 2, 1) := by decide +kernel
theorem d43_143 : decode jdk_2097_method_35_code 143 = .ok (.iaload, 1) := by decide +kernel
theorem d43_144 : decode jdk_2097_method_35_code 144 = .ok (.iconst 1, 1) := by decide +kernel
theorem d43_145 : decode jdk_2097_method_35_code 145 = .ok (.iadd, 1) := by decide +kernel
theorem d43_146 : decode jdk_2097_method_35_code 146 = .ok (.dup_x2, 1) := by decide +kernel
theorem d43_147 : decode jdk_2097_method_35_code 147 = .ok (.iastore, 1) := by decide +kernel
theorem d43_148 : decode jdk_2097_method_35_code 148 = .ok (.ifCond .ne 7, 3) := by decide +kernel
theorem d43_155 : decode jdk_2097_method_35_code 155 = .ok (.iconst 0, 1) := by decide +kernel
theorem d43_156 : decode jdk_2097_method_35_code 156 = .ok (.istore 7, 2) := by decide +kernel
theorem d43_158 : decode jdk_2097_method_35_code 158 = .ok (.goto (-32), 3) := by decide +kernel
theorem d43_165 : decode jdk_2097_method_35_code 165 = .ok (.aload 4, 2) := by decide +kernel
theorem d43_167 : decode jdk_2097_method_35_code 167 = .ok (.iinc 2 (-1), 3) := by decide +kernel
theorem d43_170 : decode jdk_2097_method_35_code 170 = .ok (.iload_n 2, 1) := by decide +kernel
theorem d43_171 : decode jdk_2097_method_35_code 171 = .ok (.aload_n 0, 1) := by decide +kernel
theorem d43_172 : decode jdk_2097_method_35_code 172 = .ok (.iload_n 2, 1) := by decide +kernel
theorem d43_173 : decode jdk_2097_method_35_code 173 = .ok (.iaload, 1) := by decide +kernel
theorem d43_174 : decode jdk_2097_method_35_code 174 = .ok (.iastore, 1) := by decide +kernel
theorem d43_175 : decode jdk_2097_method_35_code 175 = .ok (.goto (-14), 3) := by decide +kernel
theorem pn_rm_mg21 : plainName "java/math/BigInteger" = true := by first | (simp [plainName, overriddenIn]; done) | decide +kernel
theorem ef_rm_mg21 (m : MethodId) (o0 : Addr) (o1 : Addr) : entryFrame m #[(.ref o0), (.ref o1)] 9 = mkF m 0 #[.val (.ref o0), .val (.ref o1), uu, uu, uu, uu, uu, uu, uu] [] := by first | (simp [entryFrame, mkF, argsToLocals, Value.category]; done) | rfl
def Q_rm_mg21 (Z : State) (o0 : Addr) (o1 : Addr) (k1 : ClassId) (k2 : ClassId) (xh : Int32) (xl : Int32) (yl : Int32) (h0 : Heap) (n0 : Nat) (v : Option Value) (h : Heap) (L : List Loc) : Prop := ∃ b : Addr, ∃ kb : ClassId, ∃ r0 : Int32, ∃ r1 : Int32, v = some (.ref b) ∧ Fr n0 L ∧ Keep h0 h [] ∧ n0 ≤ b ∧ h0.size ≤ b ∧ Arv Z h b kb .int (2 : Int32) [(.int r0), (.int r1)] (.int (0 : Int32))
set_option maxRecDepth 65536 in
set_option maxHeartbeats 40000000 in
theorem rm_mg21 (l : Launch) (Z : State) (a0 : Array Value) (hw : ∀ d ∈ tables_1, d.before a0 Z = true) (ws : List Jvm.Cond) (o0 : Addr) (o1 : Addr) (k1 : ClassId) (k2 : ClassId) (xh : Int32) (xl : Int32) (yl : Int32) (h0 : Heap) (n0 : Nat) (Z0 : n0 ≤ h0.size) (V_o0 : Arv Z h0 o0 k1 .int (2 : Int32) [(.int xh), (.int xl)] (.int (0 : Int32))) (V_o1 : Arv Z h0 o1 k2 .int (1 : Int32) [(.int yl)] (.int (0 : Int32))) (hxh : 0 ≤ xh.toInt) :
    MetFree l yN33 (head1 (Jvm.Cond.code yN33 jdk_2097_method_35_code 9 (some (.array .int)) :: ws) ({ frames := 0, cells := 1, slots := 2, locals := 0 } : Room)) (fun a U => a = #[(.ref o0), (.ref o1)] ∧ Z.Warmed39 U.vm ∧ U.heap = h0) (fun _ _ _ _ _ => True) (fun _ U o U' => ∃ v L, o = .returned v ∧ Q_rm_mg21 Z o0 o1 k1 k2 xh xl yl h0 n0 v U'.heap L ∧ FrameEnd U o U' L ({ frames := 0, cells := 1, slots := 2, locals := 0 } : Room).cells ({ frames := 0, cells := 1, slots := 2, locals := 0 } : Room).slots) := by
  refine MetFree.of_bodySF (plainFor_of_name pn_rm_mg21) hisR ?_
  intro p e s m args below meth c s₁ Bd hml0 hP hK
  obtain ⟨rfl, hZ, hh⟩ := hP
  have hx := Bd.exec
  have hby := Bd.bytes
  have hml : c.maxLocals = 9 := hml0
  have hown : s.vm.findClass "java/math/BigInteger" = some m.cls := findClass_of_methodNamed Bd.named
  have hnm := (name_of_methodNamed Bd.named Bd.method).1
  have X0 : Stand p l e ({ frames := 0, cells := 1, slots := 2, locals := 0 } : Room) s m #[(.ref o0), (.ref o1)] below meth c s₁ [] 0 0 := Stand.of_body Bd
  have e0 : s₁.heap = h0 := by rw [← hh, Bd.state]; rfl
  have N0 := Fr.nil n0
  have K0 := Keep.refl h0 []
  have go0 : Go p e below (s₁.setTop (entryFrame m #[(.ref o0), (.ref o1)] 9)) (s₁.setTop (mkF m 0 #[vR o0, vR o1, uu, uu, uu, uu, uu, uu, uu] [])) := fun t k => castTop (ef_rm_mg21 m o0 o1) k
  have go1 := go0.st s₁ (mkF m 1 #[vR o0, vR o1, uu, uu, uu, uu, uu, uu, uu] [sR o0]) (fun t k => by
    refine XS.aloadN X0.here hx rfl (hb hby d43_0) rfl rfl ?_
    exact k)
  have Vo2 := V_o0
  obtain ⟨cl2, Ar2, qa2, Sa2, Na2, Ha2, Ga2⟩ := Vo2
  have go3 := go1.st s₁ (mkF m 3 #[vR o0, vR o1, uu, uu, uu, uu, uu, uu, uu] [sR o1, sI i2]) (fun t k => by
    refine X0.arraylength hx (by rw [e0]; exact Ar2.1) (State.isArrayOf_alike hZ.alike Ar2.2.1) (g := (mkF m 1 #[vR o0, vR o1, uu, uu, uu, uu, uu, uu, uu] [sR o0])) rfl rfl (hb hby d43_1) _ ?_
    rw [len_of Sa2 Na2]
    refine XS.aloadN X0.here hx rfl (hb hby d43_2) rfl rfl ?_
    exact k)
  have Vo4 := V_o1
  obtain ⟨cl4, Ar4, qa4, Sa4, Na4, Ha4, Ga4⟩ := Vo4
  have go6 := go3.st s₁ (mkF m 14 #[vR o0, vR o1, uu, uu, uu, uu, uu, uu, uu] [sR o0]) (fun t k => by
    refine X0.arraylength hx (by rw [e0]; exact Ar4.1) (State.isArrayOf_alike hZ.alike Ar4.2.1) (g := (mkF m 3 #[vR o0, vR o1, uu, uu, uu, uu, uu, uu, uu] [sR o1, sI i2])) rfl rfl (hb hby d43_3) _ ?_
    rw [len_of Sa4 Na4]
    refine XS.icmpYes X0.here hx rfl (pc0 := 4) (pc' := 13) rfl (hb hby d43_4) rfl (flt ((by decide) : ¬ ((2 : Int32) < (1 : Int32)))).2.1 (by decide) (by decide) ?_
    refine XS.aloadN X0.here hx rfl (hb hby d43_13) rfl rfl ?_
    exact k)
  have Vo7 := V_o0
  obtain ⟨cl7, Ar7, qa7, Sa7, Na7, Ha7, Ga7⟩ := Vo7
  have go8 := go6.st s₁ (mkF m 17 #[vR o0, vR o1, vI i2, uu, uu, uu, uu, uu, uu] [sR o1]) (fun t k => by
    refine X0.arraylength hx (by rw [e0]; exact Ar7.1) (State.isArrayOf_alike hZ.alike Ar7.2.1) (g := (mkF m 14 #[vR o0, vR o1, uu, uu, uu, uu, uu, uu, uu] [sR o0])) rfl rfl (hb hby d43_14) _ ?_
    rw [len_of Sa7 Na7]
    refine XS.istoreN X0.here hx rfl (hb hby d43_15) rfl (l' := #[vR o0, vR o1, vI i2, uu, uu, uu, uu, uu, uu]) rfl ?_
    refine XS.aloadN X0.here hx rfl (hb hby d43_16) rfl rfl ?_
    exact k)
  have Vo9 := V_o1
  obtain ⟨cl9, Ar9, qa9, Sa9, Na9, Ha9, Ga9⟩ := Vo9
  have go10 := go8.st s₁ (mkF m 20 #[vR o0, vR o1, vI i2, vI i1, uu, uu, uu, uu, uu] [sI i2]) (fun t k => by
    refine X0.arraylength hx (by rw [e0]; exact Ar9.1) (State.isArrayOf_alike hZ.alike Ar9.2.1) (g := (mkF m 17 #[vR o0, vR o1, vI i2, uu, uu, uu, uu, uu, uu] [sR o1])) rfl rfl (hb hby d43_17) _ ?_
    rw [len_of Sa9 Na9]
    refine XS.istoreN X0.here hx rfl (hb hby d43_18) rfl (l' := #[vR o0, vR o1, vI i2, vI i1, uu, uu, uu, uu, uu]) rfl ?_
    refine XS.iloadN X0.here hx rfl (hb hby d43_19) rfl ?_
    exact k)
  obtain ⟨T11, h11, k11, X11, e11, E11, A11, st11⟩ := newP X0 hx hZ (wD hw 241 rfl) e0 (g := (mkF m 20 #[vR o0, vR o1, vI i2, vI i1, uu, uu, uu, uu, uu] [sI i2])) rfl (hb hby d43_20) rfl (by decide) (cap := 2) (by decide) (by decide) (by decide) (by decide)
  obtain ⟨b11, g11⟩ : ∃ z, z = h0.size := ⟨_, rfl⟩
  rw [← g11] at A11 st11
  have ne_o0_b11 : o0 ≠ b11 := Nat.ne_of_lt (Nat.lt_of_lt_of_le V_o0.lt (Nat.le_of_eq g11.symm))
  have ne_o1_b11 : o1 ≠ b11 := Nat.ne_of_lt (Nat.lt_of_lt_of_le V_o1.lt (Nat.le_of_eq g11.symm))
  have g_b11 : n0 ≤ b11 := Nat.le_trans Z0 (Nat.le_of_eq g11.symm)
  have sz_b11 : h0.size ≤ b11 := Nat.le_trans K0.1 (Nat.le_of_eq g11.symm)
  have f12 := V_o0.ext E11
  have f13 := V_o1.ext E11
  have V11 : Arv Z h11 b11 k11 .int (2 : Int32) [(.int (0 : Int32)), (.int (0 : Int32))] (.int (0 : Int32)) := (Arv.new A11 (by decide)).pad (pad_rep [] (.int (0 : Int32)) 2)
  have Z11 : n0 ≤ h11.size := Nat.le_trans Z0 E11.1
  have K11 := K0.ext E11
  have go15 := go10.st T11 (mkF m 37 #[vR o0, vR o1, vI i1, vI i1, vR b11, vJ ((0 : Int64)), sc, uu, uu] [sI i1, sR o0]) (fun t k => by
    refine st11 _ ?_
    show SP p e below T11 (mkF m 22 #[vR o0, vR o1, vI i2, vI i1, uu, uu, uu, uu, uu] [sR b11]) _
    refine XS.astore X11.here hx rfl (hb hby d43_22) rfl rfl (l' := #[vR o0, vR o1, vI i2, vI i1, vR b11, uu, uu, uu, uu]) rfl ?_
    refine XS.lconst X11.here hx rfl (hb hby d43_24) ?_
    refine XS.lstore X11.here hx rfl (hb hby d43_25) rfl (l' := #[vR o0, vR o1, vI i2, vI i1, vR b11, vJ ((0 : Int64)), sc, uu, uu]) rfl ?_
    refine XS.iloadN X11.here hx rfl (hb hby d43_27) rfl ?_
    refine XS.iconst X11.here hx rfl (hb hby d43_28) ?_
    refine XS.icmpNo X11.here hx rfl (hb hby d43_29) rfl (teq ((by decide) : (1 : Int32) = (1 : Int32))).2 ?_
    refine XS.aloadN X11.here hx rfl (hb hby d43_32) rfl rfl ?_
    refine XS.iinc X11.here hx rfl (hb hby d43_33) rfl (l' := #[vR o0, vR o1, vI i1, vI i1, vR b11, vJ ((0 : Int64)), sc, uu, uu]) rfl ?_
    refine XS.iloadN X11.here hx rfl (hb hby d43_36) rfl ?_
    exact k)
  have Vo16 := f12
  obtain ⟨cl16, Ar16, qa16, Sa16, Na16, Ha16, Ga16⟩ := Vo16
  have hin16 := inb_of (j := (1 : Int32)) Sa16 ⟨by decide, by decide⟩
  have hat16 : cl16.slots[((1 : Int32)).toNatClampNeg]? = some (.int xl) := Has.at Ha16 hin16 rfl
  have go17 := go15.st T11 (mkF m 45 #[vR o0, vR o1, vI i1, vI i1, vR b11, vJ ((0 : Int64)), sc, uu, uu] [sI i0, sR o1, (sJ ((xl.toInt64) &&& (4294967295 : Int64)))]) (fun t k => by
    refine X11.iaload hx (j := (1 : Int32)) (v := (.int xl)) (by rw [e11]; exact Ar16.1) (State.isArrayOf_alike hZ.alike Ar16.2.1) Ar16.2.2 hin16 hat16 (g := (mkF m 37 #[vR o0, vR o1, vI i1, vI i1, vR b11, vJ ((0 : Int64)), sc, uu, uu] [sI i1, sR o0])) rfl rfl (hb hby d43_37) _ ?_
    refine XS.i2l X11.here hx rfl (hb hby d43_38) rfl ?_
    refine X11.ldc2Long hx hown (mvT hZ (wD hw 247 rfl)) (g := (mkF m 39 #[vR o0, vR o1, vI i1, vI i1, vR b11, vJ ((0 : Int64)), sc, uu, uu] [(sJ (xl.toInt64))])) rfl (hb hby d43_39) _ ?_
    refine XS.land X11.here hx rfl (hb hby d43_42) rfl ?_
    refine XS.aloadN X11.here hx rfl (hb hby d43_43) rfl rfl ?_
    refine XS.iconst X11.here hx rfl (hb hby d43_44) ?_
    exact k)
  have Vo18 := f13
  obtain ⟨cl18, Ar18, qa18, Sa18, Na18, Ha18, Ga18⟩ := Vo18
  have hin18 := inb_of (j := (0 : Int32)) Sa18 ⟨by decide, by decide⟩
  have hat18 : cl18.slots[((0 : Int32)).toNatClampNeg]? = some (.int yl) := Has.at Ha18 hin18 rfl
  have go19 := go17.st T11 (mkF m 60 #[vR o0, vR o1, vI i1, vI i1, vR b11, vJ ((((xl.toInt64) &&& (4294967295 : Int64)) + ((yl.toInt64) &&& (4294967295 : Int64)))), sc, uu, uu] [(sI ((((xl.toInt64) &&& (4294967295 : Int64)) + ((yl.toInt64) &&& (4294967295 : Int64))).toInt32)), sI i1, sR b11]) (fun t k => by
    refine X11.iaload hx (j := (0 : Int32)) (v := (.int yl)) (by rw [e11]; exact Ar18.1) (State.isArrayOf_alike hZ.alike Ar18.2.1) Ar18.2.2 hin18 hat18 (g := (mkF m 45 #[vR o0, vR o1, vI i1, vI i1, vR b11, vJ ((0 : Int64)), sc, uu, uu] [sI i0, sR o1, (sJ ((xl.toInt64) &&& (4294967295 : Int64)))])) rfl rfl (hb hby d43_45) _ ?_
    refine XS.i2l X11.here hx rfl (hb hby d43_46) rfl ?_
    refine X11.ldc2Long hx hown (mvT hZ (wD hw 247 rfl)) (g := (mkF m 47 #[vR o0, vR o1, vI i1, vI i1, vR b11, vJ ((0 : Int64)), sc, uu, uu] [(sJ (yl.toInt64)), (sJ ((xl.toInt64) &&& (4294967295 : Int64)))])) rfl (hb hby d43_47) _ ?_
    refine XS.land X11.here hx rfl (hb hby d43_50) rfl ?_
    refine XS.ladd X11.here hx rfl (hb hby d43_51) rfl ?_
    refine XS.lstore X11.here hx rfl (hb hby d43_52) rfl (l' := #[vR o0, vR o1, vI i1, vI i1, vR b11, vJ ((((xl.toInt64) &&& (4294967295 : Int64)) + ((yl.toInt64) &&& (4294967295 : Int64)))), sc, uu, uu]) rfl ?_
    refine XS.aload X11.here hx rfl (hb hby d43_54) rfl rfl ?_
    refine XS.iloadN X11.here hx rfl (hb hby d43_56) rfl ?_
    show SP p e below T11 (mkF m 57 #[vR o0, vR o1, vI i1, vI i1, vR b11, vJ ((((xl.toInt64) &&& (4294967295 : Int64)) + ((yl.toInt64) &&& (4294967295 : Int64)))), sc, uu, uu] [sI i1, sR b11]) _
    refine XS.lload X11.here hx rfl (hb hby d43_57) rfl ?_
    refine XS.l2i X11.here hx rfl (hb hby d43_59) rfl ?_
    exact k)
  have Vo20 := V11
  obtain ⟨cl20, Ar20, qa20, Sa20, Na20, Ha20, Ga20⟩ := Vo20
  have hin20 := inb_of (j := (1 : Int32)) Sa20 ⟨by decide, by decide⟩
  obtain ⟨T21, h21, X21, e21, W21, st21⟩ := stI X11 hx hZ e11 Ar20 (j := (1 : Int32)) hin20 (g := (mkF m 60 #[vR o0, vR o1, vI i1, vI i1, vR b11, vJ ((((xl.toInt64) &&& (4294967295 : Int64)) + ((yl.toInt64) &&& (4294967295 : Int64)))), sc, uu, uu] [(sI ((((xl.toInt64) &&& (4294967295 : Int64)) + ((yl.toInt64) &&& (4294967295 : Int64))).toInt32)), sI i1, sR b11])) rfl rfl (hb hby d43_60)
  have V21 : Arv Z h21 b11 k11 .int (2 : Int32) [(.int (0 : Int32)), (.int ((((xl.toInt64) &&& (4294967295 : Int64)) + ((yl.toInt64) &&& (4294967295 : Int64))).toInt32))] (.int (0 : Int32)) := Arv.set Ar20 qa20 Sa20 Na20 Ha20 Ga20 rfl W21 1 rfl (Nat.le_of_ble_eq_true rfl)
  have f22 := Arv.other f12 W21 ne_o0_b11
  have f23 := Arv.other f13 W21 ne_o1_b11
  have Z21 : n0 ≤ h21.size := Nat.le_trans Z11 (Nat.le_of_eq W21.size.symm)
  have K21 := K11.wr W21 (Or.inr sz_b11)
  have N21 := Fr.snoc X21 N0 g_b11
  have go26 := go19.st T21 (mkF m 116 #[vR o0, vR o1, vI i1, vI i1, vR b11, vJ ((((xl.toInt64) &&& (4294967295 : Int64)) + ((yl.toInt64) &&& (4294967295 : Int64)))), sc, uu, uu] [(sI (lcmpW (own_usrL (((xl.toInt64) &&& (4294967295 : Int64)) + ((yl.toInt64) &&& (4294967295 : Int64))) (32 : Int32)) (0 : Int64)))]) (fun t k => by
    refine st21 _ ?_
    show SP p e below T21 (mkF m 61 #[vR o0, vR o1, vI i1, vI i1, vR b11, vJ ((((xl.toInt64) &&& (4294967295 : Int64)) + ((yl.toInt64) &&& (4294967295 : Int64)))), sc, uu, uu] []) _
    refine XS.goto X21.here hx rfl (pc0 := 61) (pc' := 109) rfl (hb hby d43_61) (by decide) (by decide) ?_
    refine XS.lload X21.here hx rfl (hb hby d43_109) rfl ?_
    refine XS.bipush X21.here hx rfl (hb hby d43_111) ?_
    refine XS.lushr X21.here hx rfl (hb hby d43_113) rfl ?_
    refine XS.lconst X21.here hx rfl (hb hby d43_114) ?_
    refine XS.lcmp X21.here hx rfl (hb hby d43_115) rfl ?_
    exact k)
  by_cases hc25 : (own_usrL (((xl.toInt64) &&& (4294967295 : Int64)) + ((yl.toInt64) &&& (4294967295 : Int64))) (32 : Int32)) = (0 : Int64)
  · skip
    have go30 := go26.st T21 (mkF m 173 #[vR o0, vR o1, vI i0, vI i1, vR b11, vJ ((((xl.toInt64) &&& (4294967295 : Int64)) + ((yl.toInt64) &&& (4294967295 : Int64)))), sc, vI i0, uu] [sI i0, sR o0, sI i0, sR b11]) (fun t k => by
      refine XS.ifYes X21.here hx rfl (pc0 := 116) (pc' := 123) rfl (hb hby d43_116) rfl ((if0 _ _).trans (teq ((lw_eq _ _).mpr hc25)).1) (by decide) (by decide) ?_
      refine XS.iconst X21.here hx rfl (hb hby d43_123) ?_
      refine XS.istore X21.here hx rfl (hb hby d43_124) rfl (l' := #[vR o0, vR o1, vI i1, vI i1, vR b11, vJ ((((xl.toInt64) &&& (4294967295 : Int64)) + ((yl.toInt64) &&& (4294967295 : Int64)))), sc, vI i0, uu]) rfl ?_
      refine XS.iloadN X21.here hx rfl (hb hby d43_126) rfl ?_
      refine XS.ifNo X21.here hx rfl (hb hby d43_127) rfl ((if0 _ _).trans (tlt ((by decide) : (0 : Int32) < (1 : Int32))).2.2.2) ?_
      refine XS.iload X21.here hx rfl (hb hby d43_130) rfl ?_
      refine XS.ifYes X21.here hx rfl (pc0 := 132) (pc' := 161) rfl (hb hby d43_132) rfl ((if0 _ _).trans (teq ((by decide) : (0 : Int32) = (0 : Int32))).1) (by decide) (by decide) ?_
      refine XS.iloadN X21.here hx rfl (hb hby d43_161) rfl ?_
      show SP p e below T21 (mkF m 162 #[vR o0, vR o1, vI i1, vI i1, vR b11, vJ ((((xl.toInt64) &&& (4294967295 : Int64)) + ((yl.toInt64) &&& (4294967295 : Int64)))), sc, vI i0, uu] [sI i1]) _
      refine XS.ifNo X21.here hx rfl (hb hby d43_162) rfl ((if0 _ _).trans (tlt ((by decide) : (0 : Int32) < (1 : Int32))).2.2.2) ?_
      refine XS.aload X21.here hx rfl (hb hby d43_165) rfl rfl ?_
      refine XS.iinc X21.here hx rfl (hb hby d43_167) rfl (l' := #[vR o0, vR o1, vI i0, vI i1, vR b11, vJ ((((xl.toInt64) &&& (4294967295 : Int64)) + ((yl.toInt64) &&& (4294967295 : Int64)))), sc, vI i0, uu]) rfl ?_
      refine XS.iloadN X21.here hx rfl (hb hby d43_170) rfl ?_
      refine XS.aloadN X21.here hx rfl (hb hby d43_171) rfl rfl ?_
      refine XS.iloadN X21.here hx rfl (hb hby d43_172) rfl ?_
      exact k)
    have Vo31 := f22
    obtain ⟨cl31, Ar31, qa31, Sa31, Na31, Ha31, Ga31⟩ := Vo31
    have hin31 := inb_of (j := (0 : Int32)) Sa31 ⟨by decide, by decide⟩
    have hat31 : cl31.slots[((0 : Int32)).toNatClampNeg]? = some (.int xh) := Has.at Ha31 hin31 rfl
    have go32 := go30.st T21 (mkF m 174 #[vR o0, vR o1, vI i0, vI i1, vR b11, vJ ((((xl.toInt64) &&& (4294967295 : Int64)) + ((yl.toInt64) &&& (4294967295 : Int64)))), sc, vI i0, uu] [sI xh, sI i0, sR b11]) (fun t k => by
      refine X21.iaload hx (j := (0 : Int32)) (v := (.int xh)) (by rw [e21]; exact Ar31.1) (State.isArrayOf_alike hZ.alike Ar31.2.1) Ar31.2.2 hin31 hat31 (g := (mkF m 173 #[vR o0, vR o1, vI i0, vI i1, vR b11, vJ ((((xl.toInt64) &&& (4294967295 : Int64)) + ((yl.toInt64) &&& (4294967295 : Int64)))), sc, vI i0, uu] [sI i0, sR o0, sI i0, sR b11])) rfl rfl (hb hby d43_173) _ ?_
      exact k)
    have Vo33 := V21
    obtain ⟨cl33, Ar33, qa33, Sa33, Na33, Ha33, Ga33⟩ := Vo33
    have hin33 := inb_of (j := (0 : Int32)) Sa33 ⟨by decide, by decide⟩
    obtain ⟨T34, h34, X34, e34, W34, st34⟩ := stI X21 hx hZ e21 Ar33 (j := (0 : Int32)) hin33 (g := (mkF m 174 #[vR o0, vR o1, vI i0, vI i1, vR b11, vJ ((((xl.toInt64) &&& (4294967295 : Int64)) + ((yl.toInt64) &&& (4294967295 : Int64)))), sc, vI i0, uu] [sI xh, sI i0, sR b11])) rfl rfl (hb hby d43_174)
    have V34 : Arv Z h34 b11 k11 .int (2 : Int32) [(.int xh), (.int ((((xl.toInt64) &&& (4294967295 : Int64)) + ((yl.toInt64) &&& (4294967295 : Int64))).toInt32))] (.int (0 : Int32)) := Arv.set Ar33 qa33 Sa33 Na33 Ha33 Ga33 rfl W34 0 rfl (Nat.le_of_ble_eq_true rfl)
    have f35 := Arv.other f22 W34 ne_o0_b11
    have f36 := Arv.other f23 W34 ne_o1_b11
    have Z34 : n0 ≤ h34.size := Nat.le_trans Z21 (Nat.le_of_eq W34.size.symm)
    have K34 := K21.wr W34 (Or.inr sz_b11)
    have N34 := Fr.snoc X34 N21 g_b11
    have go40 := go32.st T34 (mkF m 214 #[vR o0, vR o1, vI i0, vI i1, vR b11, vJ ((((xl.toInt64) &&& (4294967295 : Int64)) + ((yl.toInt64) &&& (4294967295 : Int64)))), sc, vI i0, uu] [sR b11]) (fun t k => by
      refine st34 _ ?_
      show SP p e below T34 (mkF m 175 #[vR o0, vR o1, vI i0, vI i1, vR b11, vJ ((((xl.toInt64) &&& (4294967295 : Int64)) + ((yl.toInt64) &&& (4294967295 : Int64)))), sc, vI i0, uu] []) _
      refine XS.goto X34.here hx rfl (pc0 := 175) (pc' := 161) rfl (hb hby d43_175) (by decide) (by decide) ?_
      refine XS.iloadN X34.here hx rfl (hb hby d43_161) rfl ?_
      refine XS.ifYes X34.here hx rfl (pc0 := 162) (pc' := 178) rfl (hb hby d43_162) rfl ((if0 _ _).trans (flt ((by decide) : ¬ ((0 : Int32) < (0 : Int32)))).2.2.2) (by decide) (by decide) ?_
      refine XS.iload X34.here hx rfl (hb hby d43_178) rfl ?_
      refine XS.ifYes X34.here hx rfl (pc0 := 180) (pc' := 212) rfl (hb hby d43_180) rfl ((if0 _ _).trans (teq ((by decide) : (0 : Int32) = (0 : Int32))).1) (by decide) (by decide) ?_
      refine XS.aload X34.here hx rfl (hb hby d43_212) rfl rfl ?_
      exact k)
    obtain ⟨fs, hr, hrun, hended, hW, hsame⟩ := X34.leave (v := some (.ref b11)) (fun h => by rw [Bd.returns] at h; cases h)
    refine ⟨_, _, go40 _ ?_, hrun, hended, _, _, rfl, ?_, ⟨_, rfl⟩, hW, hsame.mono (by decide) (by decide)⟩
    · exact own_retA X34 hx Bd.returns rfl rfl (hb hby d43_214) hr
    · show Q_rm_mg21 Z o0 o1 k1 k2 xh xl yl h0 n0 _ T34.heap _
      rw [e34]
      exact ⟨b11, k11, xh, ((((xl.toInt64) &&& (4294967295 : Int64)) + ((yl.toInt64) &&& (4294967295 : Int64))).toInt32), rfl, N34, K34, g_b11, sz_b11, V34⟩
  · skip
    have go43 := go26.st T21 (mkF m 143 #[vR o0, vR o1, vI i0, vI i1, vR b11, vJ ((((xl.toInt64) &&& (4294967295 : Int64)) + ((yl.toInt64) &&& (4294967295 : Int64)))), sc, vI i1, uu] [sI i0, sR o0, sI i0, sR b11]) (fun t k => by
      refine XS.ifNo X21.here hx rfl (hb hby d43_116) rfl ((if0 _ _).trans (feq (fun q => hc25 ((lw_eq _ _).mp q))).1) ?_
      refine XS.iconst X21.here hx rfl (hb hby d43_119) ?_
      refine XS.goto X21.here hx rfl (pc0 := 120) (pc' := 124) rfl (hb hby d43_120) (by decide) (by decide) ?_
      refine XS.istore X21.here hx rfl (hb hby d43_124) rfl (l' := #[vR o0, vR o1, vI i1, vI i1, vR b11, vJ ((((xl.toInt64) &&& (4294967295 : Int64)) + ((yl.toInt64) &&& (4294967295 : Int64)))), sc, vI i1, uu]) rfl ?_
      refine XS.iloadN X21.here hx rfl (hb hby d43_126) rfl ?_
      refine XS.ifNo X21.here hx rfl (hb hby d43_127) rfl ((if0 _ _).trans (tlt ((by decide) : (0 : Int32) < (1 : Int32))).2.2.2) ?_
      refine XS.iload X21.here hx rfl (hb hby d43_130) rfl ?_
      refine XS.ifNo X21.here hx rfl (hb hby d43_132) rfl ((if0 _ _).trans (feq ((by decide) : ¬ ((1 : Int32) = (0 : Int32)))).1) ?_
      show SP p e below T21 (mkF m 135 #[vR o0, vR o1, vI i1, vI i1, vR b11, vJ ((((xl.toInt64) &&& (4294967295 : Int64)) + ((yl.toInt64) &&& (4294967295 : Int64)))), sc, vI i1, uu] []) _
      refine XS.aload X21.here hx rfl (hb hby d43_135) rfl rfl ?_
      refine XS.iinc X21.here hx rfl (hb hby d43_137) rfl (l' := #[vR o0, vR o1, vI i0, vI i1, vR b11, vJ ((((xl.toInt64) &&& (4294967295 : Int64)) + ((yl.toInt64) &&& (4294967295 : Int64)))), sc, vI i1, uu]) rfl ?_
      refine XS.iloadN X21.here hx rfl (hb hby d43_140) rfl ?_
      refine XS.aloadN X21.here hx rfl (hb hby d43_141) rfl rfl ?_
      refine XS.iloadN X21.here hx rfl (hb hby d43_142) rfl ?_
      exact k)
    have Vo44 := f22
    obtain ⟨cl44, Ar44, qa44, Sa44, Na44, Ha44, Ga44⟩ := Vo44
    have hin44 := inb_of (j := (0 : Int32)) Sa44 ⟨by decide, by decide⟩
    have hat44 : cl44.slots[((0 : Int32)).toNatClampNeg]? = some (.int xh) := Has.at Ha44 hin44 rfl
    have go45 := go43.st T21 (mkF m 147 #[vR o0, vR o1, vI i0, vI i1, vR b11, vJ ((((xl.toInt64) &&& (4294967295 : Int64)) + ((yl.toInt64) &&& (4294967295 : Int64)))), sc, vI i1, uu] [(sI (xh + i1)), sI i0, sR b11, (sI (xh + i1))]) (fun t k => by
      refine X21.iaload hx (j := (0 : Int32)) (v := (.int xh)) (by rw [e21]; exact Ar44.1) (State.isArrayOf_alike hZ.alike Ar44.2.1) Ar44.2.2 hin44 hat44 (g := (mkF m 143 #[vR o0, vR o1, vI i0, vI i1, vR b11, vJ ((((xl.toInt64) &&& (4294967295 : Int64)) + ((yl.toInt64) &&& (4294967295 : Int64)))), sc, vI i1, uu] [sI i0, sR o0, sI i0, sR b11])) rfl rfl (hb hby d43_143) _ ?_
      refine XS.iconst X21.here hx rfl (hb hby d43_144) ?_
      refine XS.iadd X21.here hx rfl (hb hby d43_145) rfl ?_
      show SP p e below T21 (mkF m 146 #[vR o0, vR o1, vI i0, vI i1, vR b11, vJ ((((xl.toInt64) &&& (4294967295 : Int64)) + ((yl.toInt64) &&& (4294967295 : Int64)))), sc, vI i1, uu] [(sI (xh + i1)), sI i0, sR b11]) _
      jvm_step X21.here [X21.here.top, hx, (hb hby d43_146), Value.category]
      exact k)
    have Vo46 := V21
    obtain ⟨cl46, Ar46, qa46, Sa46, Na46, Ha46, Ga46⟩ := Vo46
    have hin46 := inb_of (j := (0 : Int32)) Sa46 ⟨by decide, by decide⟩
    obtain ⟨T47, h47, X47, e47, W47, st47⟩ := stI X21 hx hZ e21 Ar46 (j := (0 : Int32)) hin46 (g := (mkF m 147 #[vR o0, vR o1, vI i0, vI i1, vR b11, vJ ((((xl.toInt64) &&& (4294967295 : Int64)) + ((yl.toInt64) &&& (4294967295 : Int64)))), sc, vI i1, uu] [(sI (xh + i1)), sI i0, sR b11, (sI (xh + i1))])) rfl rfl (hb hby d43_147)
    have V47 : Arv Z h47 b11 k11 .int (2 : Int32) [(.int (xh + (1 : Int32))), (.int ((((xl.toInt64) &&& (4294967295 : Int64)) + ((yl.toInt64) &&& (4294967295 : Int64))).toInt32))] (.int (0 : Int32)) := Arv.set Ar46 qa46 Sa46 Na46 Ha46 Ga46 rfl W47 0 rfl (Nat.le_of_ble_eq_true rfl)
    have f48 := Arv.other f22 W47 ne_o0_b11
    have f49 := Arv.other f23 W47 ne_o1_b11
    have Z47 : n0 ≤ h47.size := Nat.le_trans Z21 (Nat.le_of_eq W47.size.symm)
    have K47 := K21.wr W47 (Or.inr sz_b11)
    have N47 := Fr.snoc X47 N21 g_b11
    have go55 := go45.st T47 (mkF m 214 #[vR o0, vR o1, vI i0, vI i1, vR b11, vJ ((((xl.toInt64) &&& (4294967295 : Int64)) + ((yl.toInt64) &&& (4294967295 : Int64)))), sc, vI i0, uu] [sR b11]) (fun t k => by
      refine st47 _ ?_
      show SP p e below T47 (mkF m 148 #[vR o0, vR o1, vI i0, vI i1, vR b11, vJ ((((xl.toInt64) &&& (4294967295 : Int64)) + ((yl.toInt64) &&& (4294967295 : Int64)))), sc, vI i1, uu] [(sI (xh + i1))]) _
      refine XS.ifYes X47.here hx rfl (pc0 := 148) (pc' := 155) rfl (hb hby d43_148) rfl ((if0 _ _).trans (feq (own_x1 hxh : ¬ ((xh + (1 : Int32)) = (0 : Int32)))).2) (by decide) (by decide) ?_
      refine XS.iconst X47.here hx rfl (hb hby d43_155) ?_
      refine XS.istore X47.here hx rfl (hb hby d43_156) rfl (l' := #[vR o0, vR o1, vI i0, vI i1, vR b11, vJ ((((xl.toInt64) &&& (4294967295 : Int64)) + ((yl.toInt64) &&& (4294967295 : Int64)))), sc, vI i0, uu]) rfl ?_
      refine XS.goto X47.here hx rfl (pc0 := 158) (pc' := 126) rfl (hb hby d43_158) (by decide) (by decide) ?_
      refine XS.iloadN X47.here hx rfl (hb hby d43_126) rfl ?_
      refine XS.ifYes X47.here hx rfl (pc0 := 127) (pc' := 161) rfl (hb hby d43_127) rfl ((if0 _ _).trans (flt ((by decide) : ¬ ((0 : Int32) < (0 : Int32)))).2.2.2) (by decide) (by decide) ?_
      refine XS.iloadN X47.here hx rfl (hb hby d43_161) rfl ?_
      refine XS.ifYes X47.here hx rfl (pc0 := 162) (pc' := 178) rfl (hb hby d43_162) rfl ((if0 _ _).trans (flt ((by decide) : ¬ ((0 : Int32) < (0 : Int32)))).2.2.2) (by decide) (by decide) ?_
      refine XS.iload X47.here hx rfl (hb hby d43_178) rfl ?_
      show SP p e below T47 (mkF m 180 #[vR o0, vR o1, vI i0, vI i1, vR b11, vJ ((((xl.toInt64) &&& (4294967295 : Int64)) + ((yl.toInt64) &&& (4294967295 : Int64)))), sc, vI i0, uu] [sI i0]) _
      refine XS.ifYes X47.here hx rfl (pc0 := 180) (pc' := 212) rfl (hb hby d43_180) rfl ((if0 _ _).trans (teq ((by decide) : (0 : Int32) = (0 : Int32))).1) (by decide) (by decide) ?_
      refine XS.aload X47.here hx rfl (hb hby d43_212) rfl rfl ?_
      exact k)
    obtain ⟨fs, hr, hrun, hended, hW, hsame⟩ := X47.leave (v := some (.ref b11)) (fun h => by rw [Bd.returns] at h; cases h)
    refine ⟨_, _, go55 _ ?_, hrun, hended, _, _, rfl, ?_, ⟨_, rfl⟩, hW, hsame.mono (by decide) (by decide)⟩
    · exact own_retA X47 hx Bd.returns rfl rfl (hb hby d43_214) hr
    · show Q_rm_mg21 Z o0 o1 k1 k2 xh xl yl h0 n0 _ T47.heap _
      rw [e47]
      exact ⟨b11, k11, (xh + (1 : Int32)), ((((xl.toInt64) &&& (4294967295 : Int64)) + ((yl.toInt64) &&& (4294967295 : Int64))).toInt32), rfl, N47, K47, g_b11, sz_b11, V47⟩
theorem d43_7 : decode jdk_2097_method_35_code 7 = .ok (.aload_n 0, 1) := by decide +kernel
theorem d43_8 : decode jdk_2097_method_35_code 8 = .ok (.astore_n 2, 1) := by decide +kernel
theorem d43_9 : decode jdk_2097_method_35_code 9 = .ok (.aload_n 1, 1) := by decide +kernel
theorem d43_10 : decode jdk_2097_method_35_code 10 = .ok (.astore_n 0, 1) := by decide +kernel
theorem d43_11 : decode jdk_2097_method_35_code 11 = .ok (.aload_n 2, 1) := by decide +kernel
theorem d43_12 : decode jdk_2097_method_35_code 12 = .ok (.astore_n 1, 1) := by decide +kernel
theorem pn_rm_mg12 : plainName "java/math/BigInteger" = true := by first | (simp [plainName, overriddenIn]; done) | decide +kernel
theorem ef_rm_mg12 (m : MethodId) (o0 : Addr) (o1 : Addr) : entryFrame m #[(.ref o0), (.ref o1)] 9 = mkF m 0 #[.val (.ref o0), .val (.ref o1), uu, uu, uu, uu, uu, uu, uu] [] := by first | (simp [entryFrame, mkF, argsToLocals, Value.category]; done) | rfl
def Q_rm_mg12 (Z : State) (o0 : Addr) (o1 : Addr) (k1 : ClassId) (k2 : ClassId) (xl : Int32) (yh : Int32) (yl : Int32) (h0 : Heap) (n0 : Nat) (v : Option Value) (h : Heap) (L : List Loc) : Prop := ∃ b : Addr, ∃ kb : ClassId, ∃ r0 : Int32, ∃ r1 : Int32, v = some (.ref b) ∧ Fr n0 L ∧ Keep h0 h [] ∧ n0 ≤ b ∧ h0.size ≤ b ∧ Arv Z h b kb .int (2 : Int32) [(.int r0), (.int r1)] (.int (0 : Int32))
set_option maxRecDepth 65536 in
set_option maxHeartbeats 40000000 in
theorem rm_mg12 (l : Launch) (Z : State) (a0 : Array Value) (hw : ∀ d ∈ tables_1, d.before a0 Z = true) (ws : List Jvm.Cond) (o0 : Addr) (o1 : Addr) (k1 : ClassId) (k2 : ClassId) (xl : Int32) (yh : Int32) (yl : Int32) (h0 : Heap) (n0 : Nat) (Z0 : n0 ≤ h0.size) (V_o0 : Arv Z h0 o0 k1 .int (1 : Int32) [(.int xl)] (.int (0 : Int32))) (V_o1 : Arv Z h0 o1 k2 .int (2 : Int32) [(.int yh), (.int yl)] (.int (0 : Int32))) (hyh : 0 ≤ yh.toInt) :
    MetFree l yN33 (head1 (Jvm.Cond.code yN33 jdk_2097_method_35_code 9 (some (.array .int)) :: ws) ({ frames := 0, cells := 1, slots := 2, locals := 0 } : Room)) (fun a U => a = #[(.ref o0), (.ref o1)] ∧ Z.Warmed39 U.vm ∧ U.heap = h0) (fun _ _ _ _ _ => True) (fun _ U o U' => ∃ v L, o = .returned v ∧ Q_rm_mg12 Z o0 o1 k1 k2 xl yh yl h0 n0 v U'.heap L ∧ FrameEnd U o U' L ({ frames := 0, cells := 1, slots := 2, locals := 0 } : Room).cells ({ frames := 0, cells := 1, slots := 2, locals := 0 } : Room).slots) := by
  refine MetFree.of_bodySF (plainFor_of_name pn_rm_mg12) hisR ?_
  intro p e s m args below meth c s₁ Bd hml0 hP hK
  obtain ⟨rfl, hZ, hh⟩ := hP
  have hx := Bd.exec
  have hby := Bd.bytes
  have hml : c.maxLocals = 9 := hml0
  have hown : s.vm.findClass "java/math/BigInteger" = some m.cls := findClass_of_methodNamed Bd.named
  have hnm := (name_of_methodNamed Bd.named Bd.method).1
  have X0 : Stand p l e ({ frames := 0, cells := 1, slots := 2, locals := 0 } : Room) s m #[(.ref o0), (.ref o1)] below meth c s₁ [] 0 0 := Stand.of_body Bd
  have e0 : s₁.heap = h0 := by rw [← hh, Bd.state]; rfl
  have N0 := Fr.nil n0
  have K0 := Keep.refl h0 []
  have go0 : Go p e below (s₁.setTop (entryFrame m #[(.ref o0), (.ref o1)] 9)) (s₁.setTop (mkF m 0 #[vR o0, vR o1, uu, uu, uu, uu, uu, uu, uu] [])) := fun t k => castTop (ef_rm_mg12 m o0 o1) k
  have go1 := go0.st s₁ (mkF m 1 #[vR o0, vR o1, uu, uu, uu, uu, uu, uu, uu] [sR o0]) (fun t k => by
    refine XS.aloadN X0.here hx rfl (hb hby d43_0) rfl rfl ?_
    exact k)
  have Vo2 := V_o0
  obtain ⟨cl2, Ar2, qa2, Sa2, Na2, Ha2, Ga2⟩ := Vo2
  have go3 := go1.st s₁ (mkF m 3 #[vR o0, vR o1, uu, uu, uu, uu, uu, uu, uu] [sR o1, sI i1]) (fun t k => by
    refine X0.arraylength hx (by rw [e0]; exact Ar2.1) (State.isArrayOf_alike hZ.alike Ar2.2.1) (g := (mkF m 1 #[vR o0, vR o1, uu, uu, uu, uu, uu, uu, uu] [sR o0])) rfl rfl (hb hby d43_1) _ ?_
    rw [len_of Sa2 Na2]
    refine XS.aloadN X0.here hx rfl (hb hby d43_2) rfl rfl ?_
    exact k)
  have Vo4 := V_o1
  obtain ⟨cl4, Ar4, qa4, Sa4, Na4, Ha4, Ga4⟩ := Vo4
  have go6 := go3.st s₁ (mkF m 14 #[vR o1, vR o0, vR o0, uu, uu, uu, uu, uu, uu] [sR o1]) (fun t k => by
    refine X0.arraylength hx (by rw [e0]; exact Ar4.1) (State.isArrayOf_alike hZ.alike Ar4.2.1) (g := (mkF m 3 #[vR o0, vR o1, uu, uu, uu, uu, uu, uu, uu] [sR o1, sI i1])) rfl rfl (hb hby d43_3) _ ?_
    rw [len_of Sa4 Na4]
    refine XS.icmpNo X0.here hx rfl (hb hby d43_4) rfl (tlt ((by decide) : (1 : Int32) < (2 : Int32))).2.1 ?_
    refine XS.aloadN X0.here hx rfl (hb hby d43_7) rfl rfl ?_
    refine XS.astoreN X0.here hx rfl (hb hby d43_8) rfl rfl (l' := #[vR o0, vR o1, vR o0, uu, uu, uu, uu, uu, uu]) rfl ?_
    refine XS.aloadN X0.here hx rfl (hb hby d43_9) rfl rfl ?_
    refine XS.astoreN X0.here hx rfl (hb hby d43_10) rfl rfl (l' := #[vR o1, vR o1, vR o0, uu, uu, uu, uu, uu, uu]) rfl ?_
    refine XS.aloadN X0.here hx rfl (hb hby d43_11) rfl rfl ?_
    refine XS.astoreN X0.here hx rfl (hb hby d43_12) rfl rfl (l' := #[vR o1, vR o0, vR o0, uu, uu, uu, uu, uu, uu]) rfl ?_
    show SP p e below s₁ (mkF m 13 #[vR o1, vR o0, vR o0, uu, uu, uu, uu, uu, uu] []) _
    refine XS.aloadN X0.here hx rfl (hb hby d43_13) rfl rfl ?_
    exact k)
  have Vo7 := V_o1
  obtain ⟨cl7, Ar7, qa7, Sa7, Na7, Ha7, Ga7⟩ := Vo7
  have go8 := go6.st s₁ (mkF m 17 #[vR o1, vR o0, vI i2, uu, uu, uu, uu, uu, uu] [sR o0]) (fun t k => by
    refine X0.arraylength hx (by rw [e0]; exact Ar7.1) (State.isArrayOf_alike hZ.alike Ar7.2.1) (g := (mkF m 14 #[vR o1, vR o0, vR o0, uu, uu, uu, uu, uu, uu] [sR o1])) rfl rfl (hb hby d43_14) _ ?_
    rw [len_of Sa7 Na7]
    refine XS.istoreN X0.here hx rfl (hb hby d43_15) rfl (l' := #[vR o1, vR o0, vI i2, uu, uu, uu, uu, uu, uu]) rfl ?_
    refine XS.aloadN X0.here hx rfl (hb hby d43_16) rfl rfl ?_
    exact k)
  have Vo9 := V_o0
  obtain ⟨cl9, Ar9, qa9, Sa9, Na9, Ha9, Ga9⟩ := Vo9
  have go10 := go8.st s₁ (mkF m 20 #[vR o1, vR o0, vI i2, vI i1, uu, uu, uu, uu, uu] [sI i2]) (fun t k => by
    refine X0.arraylength hx (by rw [e0]; exact Ar9.1) (State.isArrayOf_alike hZ.alike Ar9.2.1) (g := (mkF m 17 #[vR o1, vR o0, vI i2, uu, uu, uu, uu, uu, uu] [sR o0])) rfl rfl (hb hby d43_17) _ ?_
    rw [len_of Sa9 Na9]
    refine XS.istoreN X0.here hx rfl (hb hby d43_18) rfl (l' := #[vR o1, vR o0, vI i2, vI i1, uu, uu, uu, uu, uu]) rfl ?_
    refine XS.iloadN X0.here hx rfl (hb hby d43_19) rfl ?_
    exact k)
  obtain ⟨T11, h11, k11, X11, e11, E11, A11, st11⟩ := newP X0 hx hZ (wD hw 241 rfl) e0 (g := (mkF m 20 #[vR o1, vR o0, vI i2, vI i1, uu, uu, uu, uu, uu] [sI i2])) rfl (hb hby d43_20) rfl (by decide) (cap := 2) (by decide) (by decide) (by decide) (by decide)
  obtain ⟨b11, g11⟩ : ∃ z, z = h0.size := ⟨_, rfl⟩
  rw [← g11] at A11 st11
  have ne_o0_b11 : o0 ≠ b11 := Nat.ne_of_lt (Nat.lt_of_lt_of_le V_o0.lt (Nat.le_of_eq g11.symm))
  have ne_o1_b11 : o1 ≠ b11 := Nat.ne_of_lt (Nat.lt_of_lt_of_le V_o1.lt (Nat.le_of_eq g11.symm))
  have g_b11 : n0 ≤ b11 := Nat.le_trans Z0 (Nat.le_of_eq g11.symm)
  have sz_b11 : h0.size ≤ b11 := Nat.le_trans K0.1 (Nat.le_of_eq g11.symm)
  have f12 := V_o0.ext E11
  have f13 := V_o1.ext E11
  have V11 : Arv Z h11 b11 k11 .int (2 : Int32) [(.int (0 : Int32)), (.int (0 : Int32))] (.int (0 : Int32)) := (Arv.new A11 (by decide)).pad (pad_rep [] (.int (0 : Int32)) 2)
  have Z11 : n0 ≤ h11.size := Nat.le_trans Z0 E11.1
  have K11 := K0.ext E11
  have go15 := go10.st T11 (mkF m 37 #[vR o1, vR o0, vI i1, vI i1, vR b11, vJ ((0 : Int64)), sc, uu, uu] [sI i1, sR o1]) (fun t k => by
    refine st11 _ ?_
    show SP p e below T11 (mkF m 22 #[vR o1, vR o0, vI i2, vI i1, uu, uu, uu, uu, uu] [sR b11]) _
    refine XS.astore X11.here hx rfl (hb hby d43_22) rfl rfl (l' := #[vR o1, vR o0, vI i2, vI i1, vR b11, uu, uu, uu, uu]) rfl ?_
    refine XS.lconst X11.here hx rfl (hb hby d43_24) ?_
    refine XS.lstore X11.here hx rfl (hb hby d43_25) rfl (l' := #[vR o1, vR o0, vI i2, vI i1, vR b11, vJ ((0 : Int64)), sc, uu, uu]) rfl ?_
    refine XS.iloadN X11.here hx rfl (hb hby d43_27) rfl ?_
    refine XS.iconst X11.here hx rfl (hb hby d43_28) ?_
    refine XS.icmpNo X11.here hx rfl (hb hby d43_29) rfl (teq ((by decide) : (1 : Int32) = (1 : Int32))).2 ?_
    refine XS.aloadN X11.here hx rfl (hb hby d43_32) rfl rfl ?_
    refine XS.iinc X11.here hx rfl (hb hby d43_33) rfl (l' := #[vR o1, vR o0, vI i1, vI i1, vR b11, vJ ((0 : Int64)), sc, uu, uu]) rfl ?_
    refine XS.iloadN X11.here hx rfl (hb hby d43_36) rfl ?_
    exact k)
  have Vo16 := f13
  obtain ⟨cl16, Ar16, qa16, Sa16, Na16, Ha16, Ga16⟩ := Vo16
  have hin16 := inb_of (j := (1 : Int32)) Sa16 ⟨by decide, by decide⟩
  have hat16 : cl16.slots[((1 : Int32)).toNatClampNeg]? = some (.int yl) := Has.at Ha16 hin16 rfl
  have go17 := go15.st T11 (mkF m 45 #[vR o1, vR o0, vI i1, vI i1, vR b11, vJ ((0 : Int64)), sc, uu, uu] [sI i0, sR o0, (sJ ((yl.toInt64) &&& (4294967295 : Int64)))]) (fun t k => by
    refine X11.iaload hx (j := (1 : Int32)) (v := (.int yl)) (by rw [e11]; exact Ar16.1) (State.isArrayOf_alike hZ.alike Ar16.2.1) Ar16.2.2 hin16 hat16 (g := (mkF m 37 #[vR o1, vR o0, vI i1, vI i1, vR b11, vJ ((0 : Int64)), sc, uu, uu] [sI i1, sR o1])) rfl rfl (hb hby d43_37) _ ?_
    refine XS.i2l X11.here hx rfl (hb hby d43_38) rfl ?_
    refine X11.ldc2Long hx hown (mvT hZ (wD hw 247 rfl)) (g := (mkF m 39 #[vR o1, vR o0, vI i1, vI i1, vR b11, vJ ((0 : Int64)), sc, uu, uu] [(sJ (yl.toInt64))])) rfl (hb hby d43_39) _ ?_
    refine XS.land X11.here hx rfl (hb hby d43_42) rfl ?_
    refine XS.aloadN X11.here hx rfl (hb hby d43_43) rfl rfl ?_
    refine XS.iconst X11.here hx rfl (hb hby d43_44) ?_
    exact k)
  have Vo18 := f12
  obtain ⟨cl18, Ar18, qa18, Sa18, Na18, Ha18, Ga18⟩ := Vo18
  have hin18 := inb_of (j := (0 : Int32)) Sa18 ⟨by decide, by decide⟩
  have hat18 : cl18.slots[((0 : Int32)).toNatClampNeg]? = some (.int xl) := Has.at Ha18 hin18 rfl
  have go19 := go17.st T11 (mkF m 60 #[vR o1, vR o0, vI i1, vI i1, vR b11, vJ ((((yl.toInt64) &&& (4294967295 : Int64)) + ((xl.toInt64) &&& (4294967295 : Int64)))), sc, uu, uu] [(sI ((((yl.toInt64) &&& (4294967295 : Int64)) + ((xl.toInt64) &&& (4294967295 : Int64))).toInt32)), sI i1, sR b11]) (fun t k => by
    refine X11.iaload hx (j := (0 : Int32)) (v := (.int xl)) (by rw [e11]; exact Ar18.1) (State.isArrayOf_alike hZ.alike Ar18.2.1) Ar18.2.2 hin18 hat18 (g := (mkF m 45 #[vR o1, vR o0, vI i1, vI i1, vR b11, vJ ((0 : Int64)), sc, uu, uu] [sI i0, sR o0, (sJ ((yl.toInt64) &&& (4294967295 : Int64)))])) rfl rfl (hb hby d43_45) _ ?_
    refine XS.i2l X11.here hx rfl (hb hby d43_46) rfl ?_
    refine X11.ldc2Long hx hown (mvT hZ (wD hw 247 rfl)) (g := (mkF m 47 #[vR o1, vR o0, vI i1, vI i1, vR b11, vJ ((0 : Int64)), sc, uu, uu] [(sJ (xl.toInt64)), (sJ ((yl.toInt64) &&& (4294967295 : Int64)))])) rfl (hb hby d43_47) _ ?_
    refine XS.land X11.here hx rfl (hb hby d43_50) rfl ?_
    refine XS.ladd X11.here hx rfl (hb hby d43_51) rfl ?_
    refine XS.lstore X11.here hx rfl (hb hby d43_52) rfl (l' := #[vR o1, vR o0, vI i1, vI i1, vR b11, vJ ((((yl.toInt64) &&& (4294967295 : Int64)) + ((xl.toInt64) &&& (4294967295 : Int64)))), sc, uu, uu]) rfl ?_
    refine XS.aload X11.here hx rfl (hb hby d43_54) rfl rfl ?_
    refine XS.iloadN X11.here hx rfl (hb hby d43_56) rfl ?_
    show SP p e below T11 (mkF m 57 #[vR o1, vR o0, vI i1, vI i1, vR b11, vJ ((((yl.toInt64) &&& (4294967295 : Int64)) + ((xl.toInt64) &&& (4294967295 : Int64)))), sc, uu, uu] [sI i1, sR b11]) _
    refine XS.lload X11.here hx rfl (hb hby d43_57) rfl ?_
    refine XS.l2i X11.here hx rfl (hb hby d43_59) rfl ?_
    exact k)
  have Vo20 := V11
  obtain ⟨cl20, Ar20, qa20, Sa20, Na20, Ha20, Ga20⟩ := Vo20
  have hin20 := inb_of (j := (1 : Int32)) Sa20 ⟨by decide, by decide⟩
  obtain ⟨T21, h21, X21, e21, W21, st21⟩ := stI X11 hx hZ e11 Ar20 (j := (1 : Int32)) hin20 (g := (mkF m 60 #[vR o1, vR o0, vI i1, vI i1, vR b11, vJ ((((yl.toInt64) &&& (4294967295 : Int64)) + ((xl.toInt64) &&& (4294967295 : Int64)))), sc, uu, uu] [(sI ((((yl.toInt64) &&& (4294967295 : Int64)) + ((xl.toInt64) &&& (4294967295 : Int64))).toInt32)), sI i1, sR b11])) rfl rfl (hb hby d43_60)
  have V21 : Arv Z h21 b11 k11 .int (2 : Int32) [(.int (0 : Int32)), (.int ((((yl.toInt64) &&& (4294967295 : Int64)) + ((xl.toInt64) &&& (4294967295 : Int64))).toInt32))] (.int (0 : Int32)) := Arv.set Ar20 qa20 Sa20 Na20 Ha20 Ga20 rfl W21 1 rfl (Nat.le_of_ble_eq_true rfl)
  have f22 := Arv.other f12 W21 ne_o0_b11
  have f23 := Arv.other f13 W21 ne_o1_b11
  have Z21 : n0 ≤ h21.size := Nat.le_trans Z11 (Nat.le_of_eq W21.size.symm)
  have K21 := K11.wr W21 (Or.inr sz_b11)
  have N21 := Fr.snoc X21 N0 g_b11
  have go26 := go19.st T21 (mkF m 116 #[vR o1, vR o0, vI i1, vI i1, vR b11, vJ ((((yl.toInt64) &&& (4294967295 : Int64)) + ((xl.toInt64) &&& (4294967295 : Int64)))), sc, uu, uu] [(sI (lcmpW (own_usrL (((yl.toInt64) &&& (4294967295 : Int64)) + ((xl.toInt64) &&& (4294967295 : Int64))) (32 : Int32)) (0 : Int64)))]) (fun t k => by
    refine st21 _ ?_
    show SP p e below T21 (mkF m 61 #[vR o1, vR o0, vI i1, vI i1, vR b11, vJ ((((yl.toInt64) &&& (4294967295 : Int64)) + ((xl.toInt64) &&& (4294967295 : Int64)))), sc, uu, uu] []) _
    refine XS.goto X21.here hx rfl (pc0 := 61) (pc' := 109) rfl (hb hby d43_61) (by decide) (by decide) ?_
    refine XS.lload X21.here hx rfl (hb hby d43_109) rfl ?_
    refine XS.bipush X21.here hx rfl (hb hby d43_111) ?_
    refine XS.lushr X21.here hx rfl (hb hby d43_113) rfl ?_
    refine XS.lconst X21.here hx rfl (hb hby d43_114) ?_
    refine XS.lcmp X21.here hx rfl (hb hby d43_115) rfl ?_
    exact k)
  by_cases hc25 : (own_usrL (((yl.toInt64) &&& (4294967295 : Int64)) + ((xl.toInt64) &&& (4294967295 : Int64))) (32 : Int32)) = (0 : Int64)
  · skip
    have go30 := go26.st T21 (mkF m 173 #[vR o1, vR o0, vI i0, vI i1, vR b11, vJ ((((yl.toInt64) &&& (4294967295 : Int64)) + ((xl.toInt64) &&& (4294967295 : Int64)))), sc, vI i0, uu] [sI i0, sR o1, sI i0, sR b11]) (fun t k => by
      refine XS.ifYes X21.here hx rfl (pc0 := 116) (pc' := 123) rfl (hb hby d43_116) rfl ((if0 _ _).trans (teq ((lw_eq _ _).mpr hc25)).1) (by decide) (by decide) ?_
      refine XS.iconst X21.here hx rfl (hb hby d43_123) ?_
      refine XS.istore X21.here hx rfl (hb hby d43_124) rfl (l' := #[vR o1, vR o0, vI i1, vI i1, vR b11, vJ ((((yl.toInt64) &&& (4294967295 : Int64)) + ((xl.toInt64) &&& (4294967295 : Int64)))), sc, vI i0, uu]) rfl ?_
      refine XS.iloadN X21.here hx rfl (hb hby d43_126) rfl ?_
      refine XS.ifNo X21.here hx rfl (hb hby d43_127) rfl ((if0 _ _).trans (tlt ((by decide) : (0 : Int32) < (1 : Int32))).2.2.2) ?_
      refine XS.iload X21.here hx rfl (hb hby d43_130) rfl ?_
      refine XS.ifYes X21.here hx rfl (pc0 := 132) (pc' := 161) rfl (hb hby d43_132) rfl ((if0 _ _).trans (teq ((by decide) : (0 : Int32) = (0 : Int32))).1) (by decide) (by decide) ?_
      refine XS.iloadN X21.here hx rfl (hb hby d43_161) rfl ?_
      show SP p e below T21 (mkF m 162 #[vR o1, vR o0, vI i1, vI i1, vR b11, vJ ((((yl.toInt64) &&& (4294967295 : Int64)) + ((xl.toInt64) &&& (4294967295 : Int64)))), sc, vI i0, uu] [sI i1]) _
      refine XS.ifNo X21.here hx rfl (hb hby d43_162) rfl ((if0 _ _).trans (tlt ((by decide) : (0 : Int32) < (1 : Int32))).2.2.2) ?_
      refine XS.aload X21.here hx rfl (hb hby d43_165) rfl rfl ?_
      refine XS.iinc X21.here hx rfl (hb hby d43_167) rfl (l' := #[vR o1, vR o0, vI i0, vI i1, vR b11, vJ ((((yl.toInt64) &&& (4294967295 : Int64)) + ((xl.toInt64) &&& (4294967295 : Int64)))), sc, vI i0, uu]) rfl ?_
      refine XS.iloadN X21.here hx rfl (hb hby d43_170) rfl ?_
      refine XS.aloadN X21.here hx rfl (hb hby d43_171) rfl rfl ?_
      refine XS.iloadN X21.here hx rfl (hb hby d43_172) rfl ?_
      exact k)
    have Vo31 := f23
    obtain ⟨cl31, Ar31, qa31, Sa31, Na31, Ha31, Ga31⟩ := Vo31
    have hin31 := inb_of (j := (0 : Int32)) Sa31 ⟨by decide, by decide⟩
    have hat31 : cl31.slots[((0 : Int32)).toNatClampNeg]? = some (.int yh) := Has.at Ha31 hin31 rfl
    have go32 := go30.st T21 (mkF m 174 #[vR o1, vR o0, vI i0, vI i1, vR b11, vJ ((((yl.toInt64) &&& (4294967295 : Int64)) + ((xl.toInt64) &&& (4294967295 : Int64)))), sc, vI i0, uu] [sI yh, sI i0, sR b11]) (fun t k => by
      refine X21.iaload hx (j := (0 : Int32)) (v := (.int yh)) (by rw [e21]; exact Ar31.1) (State.isArrayOf_alike hZ.alike Ar31.2.1) Ar31.2.2 hin31 hat31 (g := (mkF m 173 #[vR o1, vR o0, vI i0, vI i1, vR b11, vJ ((((yl.toInt64) &&& (4294967295 : Int64)) + ((xl.toInt64) &&& (4294967295 : Int64)))), sc, vI i0, uu] [sI i0, sR o1, sI i0, sR b11])) rfl rfl (hb hby d43_173) _ ?_
      exact k)
    have Vo33 := V21
    obtain ⟨cl33, Ar33, qa33, Sa33, Na33, Ha33, Ga33⟩ := Vo33
    have hin33 := inb_of (j := (0 : Int32)) Sa33 ⟨by decide, by decide⟩
    obtain ⟨T34, h34, X34, e34, W34, st34⟩ := stI X21 hx hZ e21 Ar33 (j := (0 : Int32)) hin33 (g := (mkF m 174 #[vR o1, vR o0, vI i0, vI i1, vR b11, vJ ((((yl.toInt64) &&& (4294967295 : Int64)) + ((xl.toInt64) &&& (4294967295 : Int64)))), sc, vI i0, uu] [sI yh, sI i0, sR b11])) rfl rfl (hb hby d43_174)
    have V34 : Arv Z h34 b11 k11 .int (2 : Int32) [(.int yh), (.int ((((yl.toInt64) &&& (4294967295 : Int64)) + ((xl.toInt64) &&& (4294967295 : Int64))).toInt32))] (.int (0 : Int32)) := Arv.set Ar33 qa33 Sa33 Na33 Ha33 Ga33 rfl W34 0 rfl (Nat.le_of_ble_eq_true rfl)
    have f35 := Arv.other f22 W34 ne_o0_b11
    have f36 := Arv.other f23 W34 ne_o1_b11
    have Z34 : n0 ≤ h34.size := Nat.le_trans Z21 (Nat.le_of_eq W34.size.symm)
    have K34 := K21.wr W34 (Or.inr sz_b11)
    have N34 := Fr.snoc X34 N21 g_b11
    have go40 := go32.st T34 (mkF m 214 #[vR o1, vR o0, vI i0, vI i1, vR b11, vJ ((((yl.toInt64) &&& (4294967295 : Int64)) + ((xl.toInt64) &&& (4294967295 : Int64)))), sc, vI i0, uu] [sR b11]) (fun t k => by
      refine st34 _ ?_
      show SP p e below T34 (mkF m 175 #[vR o1, vR o0, vI i0, vI i1, vR b11, vJ ((((yl.toInt64) &&& (4294967295 : Int64)) + ((xl.toInt64) &&& (4294967295 : Int64)))), sc, vI i0, uu] []) _
      refine XS.goto X34.here hx rfl (pc0 := 175) (pc' := 161) rfl (hb hby d43_175) (by decide) (by decide) ?_
      refine XS.iloadN X34.here hx rfl (hb hby d43_161) rfl ?_
      refine XS.ifYes X34.here hx rfl (pc0 := 162) (pc' := 178) rfl (hb hby d43_162) rfl ((if0 _ _).trans (flt ((by decide) : ¬ ((0 : Int32) < (0 : Int32)))).2.2.2) (by decide) (by decide) ?_
      refine XS.iload X34.here hx rfl (hb hby d43_178) rfl ?_
      refine XS.ifYes X34.here hx rfl (pc0 := 180) (pc' := 212) rfl (hb hby d43_180) rfl ((if0 _ _).trans (teq ((by decide) : (0 : Int32) = (0 : Int32))).1) (by decide) (by decide) ?_
      refine XS.aload X34.here hx rfl (hb hby d43_212) rfl rfl ?_
      exact k)
    obtain ⟨fs, hr, hrun, hended, hW, hsame⟩ := X34.leave (v := some (.ref b11)) (fun h => by rw [Bd.returns] at h; cases h)
    refine ⟨_, _, go40 _ ?_, hrun, hended, _, _, rfl, ?_, ⟨_, rfl⟩, hW, hsame.mono (by decide) (by decide)⟩
    · exact own_retA X34 hx Bd.returns rfl rfl (hb hby d43_214) hr
    · show Q_rm_mg12 Z o0 o1 k1 k2 xl yh yl h0 n0 _ T34.heap _
      rw [e34]
      exact ⟨b11, k11, yh, ((((yl.toInt64) &&& (4294967295 : Int64)) + ((xl.toInt64) &&& (4294967295 : Int64))).toInt32), rfl, N34, K34, g_b11, sz_b11, V34⟩
  · skip
    have go43 := go26.st T21 (mkF m 143 #[vR o1, vR o0, vI i0, vI i1, vR b11, vJ ((((yl.toInt64) &&& (4294967295 : Int64)) + ((xl.toInt64) &&& (4294967295 : Int64)))), sc, vI i1, uu] [sI i0, sR o1, sI i0, sR b11]) (fun t k => by
      refine XS.ifNo X21.here hx rfl (hb hby d43_116) rfl ((if0 _ _).trans (feq (fun q => hc25 ((lw_eq _ _).mp q))).1) ?_
      refine XS.iconst X21.here hx rfl (hb hby d43_119) ?_
      refine XS.goto X21.here hx rfl (pc0 := 120) (pc' := 124) rfl (hb hby d43_120) (by decide) (by decide) ?_
      refine XS.istore X21.here hx rfl (hb hby d43_124) rfl (l' := #[vR o1, vR o0, vI i1, vI i1, vR b11, vJ ((((yl.toInt64) &&& (4294967295 : Int64)) + ((xl.toInt64) &&& (4294967295 : Int64)))), sc, vI i1, uu]) rfl ?_
      refine XS.iloadN X21.here hx rfl (hb hby d43_126) rfl ?_
      refine XS.ifNo X21.here hx rfl (hb hby d43_127) rfl ((if0 _ _).trans (tlt ((by decide) : (0 : Int32) < (1 : Int32))).2.2.2) ?_
      refine XS.iload X21.here hx rfl (hb hby d43_130) rfl ?_
      refine XS.ifNo X21.here hx rfl (hb hby d43_132) rfl ((if0 _ _).trans (feq ((by decide) : ¬ ((1 : Int32) = (0 : Int32)))).1) ?_
      show SP p e below T21 (mkF m 135 #[vR o1, vR o0, vI i1, vI i1, vR b11, vJ ((((yl.toInt64) &&& (4294967295 : Int64)) + ((xl.toInt64) &&& (4294967295 : Int64)))), sc, vI i1, uu] []) _
      refine XS.aload X21.here hx rfl (hb hby d43_135) rfl rfl ?_
      refine XS.iinc X21.here hx rfl (hb hby d43_137) rfl (l' := #[vR o1, vR o0, vI i0, vI i1, vR b11, vJ ((((yl.toInt64) &&& (4294967295 : Int64)) + ((xl.toInt64) &&& (4294967295 : Int64)))), sc, vI i1, uu]) rfl ?_
      refine XS.iloadN X21.here hx rfl (hb hby d43_140) rfl ?_
      refine XS.aloadN X21.here hx rfl (hb hby d43_141) rfl rfl ?_
      refine XS.iloadN X21.here hx rfl (hb hby d43_142) rfl ?_
      exact k)
    have Vo44 := f23
    obtain ⟨cl44, Ar44, qa44, Sa44, Na44, Ha44, Ga44⟩ := Vo44
    have hin44 := inb_of (j := (0 : Int32)) Sa44 ⟨by decide, by decide⟩
    have hat44 : cl44.slots[((0 : Int32)).toNatClampNeg]? = some (.int yh) := Has.at Ha44 hin44 rfl
    have go45 := go43.st T21 (mkF m 147 #[vR o1, vR o0, vI i0, vI i1, vR b11, vJ ((((yl.toInt64) &&& (4294967295 : Int64)) + ((xl.toInt64) &&& (4294967295 : Int64)))), sc, vI i1, uu] [(sI (yh + i1)), sI i0, sR b11, (sI (yh + i1))]) (fun t k => by
      refine X21.iaload hx (j := (0 : Int32)) (v := (.int yh)) (by rw [e21]; exact Ar44.1) (State.isArrayOf_alike hZ.alike Ar44.2.1) Ar44.2.2 hin44 hat44 (g := (mkF m 143 #[vR o1, vR o0, vI i0, vI i1, vR b11, vJ ((((yl.toInt64) &&& (4294967295 : Int64)) + ((xl.toInt64) &&& (4294967295 : Int64)))), sc, vI i1, uu] [sI i0, sR o1, sI i0, sR b11])) rfl rfl (hb hby d43_143) _ ?_
      refine XS.iconst X21.here hx rfl (hb hby d43_144) ?_
      refine XS.iadd X21.here hx rfl (hb hby d43_145) rfl ?_
      show SP p e below T21 (mkF m 146 #[vR o1, vR o0, vI i0, vI i1, vR b11, vJ ((((yl.toInt64) &&& (4294967295 : Int64)) + ((xl.toInt64) &&& (4294967295 : Int64)))), sc, vI i1, uu] [(sI (yh + i1)), sI i0, sR b11]) _
      jvm_step X21.here [X21.here.top, hx, (hb hby d43_146), Value.category]
      exact k)
    have Vo46 := V21
    obtain ⟨cl46, Ar46, qa46, Sa46, Na46, Ha46, Ga46⟩ := Vo46
    have hin46 := inb_of (j := (0 : Int32)) Sa46 ⟨by decide, by decide⟩
    obtain ⟨T47, h47, X47, e47, W47, st47⟩ := stI X21 hx hZ e21 Ar46 (j := (0 : Int32)) hin46 (g := (mkF m 147 #[vR o1, vR o0, vI i0, vI i1, vR b11, vJ ((((yl.toInt64) &&& (4294967295 : Int64)) + ((xl.toInt64) &&& (4294967295 : Int64)))), sc, vI i1, uu] [(sI (yh + i1)), sI i0, sR b11, (sI (yh + i1))])) rfl rfl (hb hby d43_147)
    have V47 : Arv Z h47 b11 k11 .int (2 : Int32) [(.int (yh + (1 : Int32))), (.int ((((yl.toInt64) &&& (4294967295 : Int64)) + ((xl.toInt64) &&& (4294967295 : Int64))).toInt32))] (.int (0 : Int32)) := Arv.set Ar46 qa46 Sa46 Na46 Ha46 Ga46 rfl W47 0 rfl (Nat.le_of_ble_eq_true rfl)
    have f48 := Arv.other f22 W47 ne_o0_b11
    have f49 := Arv.other f23 W47 ne_o1_b11
    have Z47 : n0 ≤ h47.size := Nat.le_trans Z21 (Nat.le_of_eq W47.size.symm)
    have K47 := K21.wr W47 (Or.inr sz_b11)
    have N47 := Fr.snoc X47 N21 g_b11
    have go55 := go45.st T47 (mkF m 214 #[vR o1, vR o0, vI i0, vI i1, vR b11, vJ ((((yl.toInt64) &&& (4294967295 : Int64)) + ((xl.toInt64) &&& (4294967295 : Int64)))), sc, vI i0, uu] [sR b11]) (fun t k => by
      refine st47 _ ?_
      show SP p e below T47 (mkF m 148 #[vR o1, vR o0, vI i0, vI i1, vR b11, vJ ((((yl.toInt64) &&& (4294967295 : Int64)) + ((xl.toInt64) &&& (4294967295 : Int64)))), sc, vI i1, uu] [(sI (yh + i1))]) _
      refine XS.ifYes X47.here hx rfl (pc0 := 148) (pc' := 155) rfl (hb hby d43_148) rfl ((if0 _ _).trans (feq (own_x1 hyh : ¬ ((yh + (1 : Int32)) = (0 : Int32)))).2) (by decide) (by decide) ?_
      refine XS.iconst X47.here hx rfl (hb hby d43_155) ?_
      refine XS.istore X47.here hx rfl (hb hby d43_156) rfl (l' := #[vR o1, vR o0, vI i0, vI i1, vR b11, vJ ((((yl.toInt64) &&& (4294967295 : Int64)) + ((xl.toInt64) &&& (4294967295 : Int64)))), sc, vI i0, uu]) rfl ?_
      refine XS.goto X47.here hx rfl (pc0 := 158) (pc' := 126) rfl (hb hby d43_158) (by decide) (by decide) ?_
      refine XS.iloadN X47.here hx rfl (hb hby d43_126) rfl ?_
      refine XS.ifYes X47.here hx rfl (pc0 := 127) (pc' := 161) rfl (hb hby d43_127) rfl ((if0 _ _).trans (flt ((by decide) : ¬ ((0 : Int32) < (0 : Int32)))).2.2.2) (by decide) (by decide) ?_
      refine XS.iloadN X47.here hx rfl (hb hby d43_161) rfl ?_
      refine XS.ifYes X47.here hx rfl (pc0 := 162) (pc' := 178) rfl (hb hby d43_162) rfl ((if0 _ _).trans (flt ((by decide) : ¬ ((0 : Int32) < (0 : Int32)))).2.2.2) (by decide) (by decide) ?_
      refine XS.iload X47.here hx rfl (hb hby d43_178) rfl ?_
      show SP p e below T47 (mkF m 180 #[vR o1, vR o0, vI i0, vI i1, vR b11, vJ ((((yl.toInt64) &&& (4294967295 : Int64)) + ((xl.toInt64) &&& (4294967295 : Int64)))), sc, vI i0, uu] [sI i0]) _
      refine XS.ifYes X47.here hx rfl (pc0 := 180) (pc' := 212) rfl (hb hby d43_180) rfl ((if0 _ _).trans (teq ((by decide) : (0 : Int32) = (0 : Int32))).1) (by decide) (by decide) ?_
      refine XS.aload X47.here hx rfl (hb hby d43_212) rfl rfl ?_
      exact k)
    obtain ⟨fs, hr, hrun, hended, hW, hsame⟩ := X47.leave (v := some (.ref b11)) (fun h => by rw [Bd.returns] at h; cases h)
    refine ⟨_, _, go55 _ ?_, hrun, hended, _, _, rfl, ?_, ⟨_, rfl⟩, hW, hsame.mono (by decide) (by decide)⟩
    · exact own_retA X47 hx Bd.returns rfl rfl (hb hby d43_214) hr
    · show Q_rm_mg12 Z o0 o1 k1 k2 xl yh yl h0 n0 _ T47.heap _
      rw [e47]
      exact ⟨b11, k11, (yh + (1 : Int32)), ((((yl.toInt64) &&& (4294967295 : Int64)) + ((xl.toInt64) &&& (4294967295 : Int64))).toInt32), rfl, N47, K47, g_b11, sz_b11, V47⟩
theorem d44_0 : decode jdk_2097_method_25_code 0 = .ok (.aload_n 0, 1) := by decide +kernel
theorem d44_1 : decode jdk_2097_method_25_code 1 = .ok (.invokespecial 3, 3) := by decide +kernel
theorem d44_4 : decode jdk_2097_method_25_code 4 = .ok (.aload_n 0, 1) := by decide +kernel
theorem d44_5 : decode jdk_2097_method_25_code 5 = .ok (.aload_n 1, 1) := by decide +kernel
theorem d44_6 : decode jdk_2097_method_25_code 6 = .ok (.arraylength, 1) := by decide +kernel
theorem d44_7 : decode jdk_2097_method_25_code 7 = .ok (.ifCond .ne 7, 3) := by decide +kernel
theorem d44_14 : decode jdk_2097_method_25_code 14 = .ok (.iload_n 2, 1) := by decide +kernel
theorem d44_15 : decode jdk_2097_method_25_code 15 = .ok (.putfield 32, 3) := by decide +kernel
theorem d44_18 : decode jdk_2097_method_25_code 18 = .ok (.aload_n 0, 1) := by decide +kernel
theorem d44_19 : decode jdk_2097_method_25_code 19 = .ok (.aload_n 1, 1) := by decide +kernel
theorem d44_20 : decode jdk_2097_method_25_code 20 = .ok (.putfield 28, 3) := by decide +kernel
theorem d44_23 : decode jdk_2097_method_25_code 23 = .ok (.aload_n 0, 1) := by decide +kernel
theorem d44_24 : decode jdk_2097_method_25_code 24 = .ok (.getfield 28, 3) := by decide +kernel
theorem d44_27 : decode jdk_2097_method_25_code 27 = .ok (.arraylength, 1) := by decide +kernel
theorem d44_28 : decode jdk_2097_method_25_code 28 = .ok (.ldc 43, 2) := by decide +kernel
theorem d44_30 : decode jdk_2097_method_25_code 30 = .ok (.if_icmp .lt 7, 3) := by decide +kernel
theorem d44_37 : decode jdk_2097_method_25_code 37 = .ok (.return_, 1) := by decide +kernel
theorem pn_rm_bi2 : plainName "java/math/BigInteger" = true := by first | (simp [plainName, overriddenIn]; done) | decide +kernel
theorem pd_rm_bi2_0 : parseMethodDescriptor "()V" = some ⟨[], none⟩ := by decide +kernel
theorem ef_rm_bi2 (m : MethodId) (o0 : Addr) (o1 : Addr) : entryFrame m #[(.ref o0), (.ref o1), (.int (1 : Int32))] 3 = mkF m 0 #[.val (.ref o0), .val (.ref o1), .val (.int (1 : Int32))] [] := by first | (simp [entryFrame, mkF, argsToLocals, Value.category]; done) | rfl
def Q_rm_bi2 (Z : State) (o0 : Addr) (o1 : Addr) (k1 : ClassId) (r0 : Int32) (r1 : Int32) (h0 : Heap) (n0 : Nat) (v : Option Value) (h : Heap) (L : List Loc) : Prop := v = none ∧ Fr n0 L ∧ Keep h0 h [o0] ∧ Exa Z h o0 "java/math/BigInteger"
set_option maxRecDepth 65536 in
set_option maxHeartbeats 40000000 in
theorem rm_bi2 (l : Launch) (Z : State) (a0 : Array Value) (hw : ∀ d ∈ tables_1, d.before a0 Z = true) (ws : List Jvm.Cond) (o0 : Addr) (o1 : Addr) (k1 : ClassId) (r0 : Int32) (r1 : Int32) (h0 : Heap) (n0 : Nat) (Z0 : n0 ≤ h0.size) (E_o0 : Exa Z h0 o0 "java/math/BigInteger") (g_o0 : n0 ≤ o0) (F_signum_o0 : Fld Z h0 o0 "java/math/BigInteger" "signum" "I" (.int (0 : Int32))) (F_mag_o0 : Fld Z h0 o0 "java/math/BigInteger" "mag" "[I" .null) (V_o1 : Arv Z h0 o1 k1 .int (2 : Int32) [(.int r0), (.int r1)] (.int (0 : Int32))) (ne_o0_o1 : o0 ≠ o1) :
    MetFree l yN34 (head1 (Jvm.Cond.code yN34 jdk_2097_method_25_code 3 none :: ws) ({ frames := 2, cells := 0, slots := 0, locals := 24 } : Room)) (fun a U => a = #[(.ref o0), (.ref o1), (.int (1 : Int32))] ∧ Z.Warmed39 U.vm ∧ U.heap = h0) (fun _ _ _ _ _ => True) (fun _ U o U' => ∃ v L, o = .returned v ∧ Q_rm_bi2 Z o0 o1 k1 r0 r1 h0 n0 v U'.heap L ∧ FrameEnd U o U' L ({ frames := 2, cells := 0, slots := 0, locals := 24 } : Room).cells ({ frames := 2, cells := 0, slots := 0, locals := 24 } : Room).slots) := by
  refine MetFree.of_bodySF (plainFor_of_name pn_rm_bi2) hisR ?_
  intro p e s m args below meth c s₁ Bd hml0 hP hK
  obtain ⟨rfl, hZ, hh⟩ := hP
  have hx := Bd.exec
  have hby := Bd.bytes
  have hml : c.maxLocals = 3 := hml0
  have hown : s.vm.findClass "java/math/BigInteger" = some m.cls := findClass_of_methodNamed Bd.named
  have hnm := (name_of_methodNamed Bd.named Bd.method).1
  have X0 : Stand p l e ({ frames := 2, cells := 0, slots := 0, locals := 24 } : Room) s m #[(.ref o0), (.ref o1), (.int (1 : Int32))] below meth c s₁ [] 0 0 := Stand.of_body Bd
  have e0 : s₁.heap = h0 := by rw [← hh, Bd.state]; rfl
  have N0 := Fr.nil n0
  have K0 := Keep.refl h0 [o0]
  have go0 : Go p e below (s₁.setTop (entryFrame m #[(.ref o0), (.ref o1), (.int (1 : Int32))] 3)) (s₁.setTop (mkF m 0 #[vR o0, vR o1, vI i1] [])) := fun t k => castTop (ef_rm_bi2 m o0 o1) k
  have go1 := go0.st s₁ (mkF m 1 #[vR o0, vR o1, vI i1] [sR o0]) (fun t k => by
    refine XS.aloadN X0.here hx rfl (hb hby d44_0) rfl rfl ?_
    exact k)
  obtain ⟨_, _, ⟨T2, L2, k2, n2⟩, -, X2, ⟨Lc2, hQ2, l2, y2, z2⟩, st2⟩ := X0.specialBack hx (y := yN30) rfl hown (mvT hZ (wD hw 234 rfl)) (mvT hZ (wD hw 235 rfl)) (mvT hZ (wD hw 239 rfl)) (by decide) (backOf (W := 0) (rm_num l Z a0 hw [] o0 h0 n0 Z0 ) hZ (wD hw 239 rfl) (wD hw 238 rfl) (by decide) (by decide)) (g := (mkF m 1 #[vR o0, vR o1, vI i1] [sR o0])) rfl (by rw [hml]; rfl) (Steps.refl _) (a := o0) (argsL := []) (rest := []) (lenOf pd_rm_bi2_0 rfl) rfl (by show 2 * 0 + _ ≤ _; exact Nat.le_of_eq rfl) (hb hby d44_1) (fun _ _ => ⟨rfl, e0, (by decide : 0 + 0 ≤ _), (by decide : 0 + 0 ≤ _)⟩)
  dsimp only [Pt.U, Pt.locs, Pt.cells, Pt.slots] at X2 l2 y2 z2 st2 hQ2
  rw [l2, y2, z2] at X2
  obtain ⟨rfl, N2q, e2⟩ := hQ2
  have N2 := Fr.app N0 N2q
  have go3 := go1.st T2 (mkF m 6 #[vR o0, vR o1, vI i1] [sR o1, sR o0]) (fun t k => by
    refine st2.trans ?_
    show SP p e below T2 (mkF m 4 #[vR o0, vR o1, vI i1] []) _
    refine XS.aloadN X2.here hx rfl (hb hby d44_4) rfl rfl ?_
    refine XS.aloadN X2.here hx rfl (hb hby d44_5) rfl rfl ?_
    exact k)
  have Vo4 := V_o1
  obtain ⟨cl4, Ar4, qa4, Sa4, Na4, Ha4, Ga4⟩ := Vo4
  have go6 := go3.st T2 (mkF m 15 #[vR o0, vR o1, vI i1] [sI i1, sR o0]) (fun t k => by
    refine X2.arraylength hx (by rw [e2]; exact Ar4.1) (State.isArrayOf_alike hZ.alike Ar4.2.1) (g := (mkF m 6 #[vR o0, vR o1, vI i1] [sR o1, sR o0])) rfl rfl (hb hby d44_6) _ ?_
    rw [len_of Sa4 Na4]
    refine XS.ifYes X2.here hx rfl (pc0 := 7) (pc' := 14) rfl (hb hby d44_7) rfl ((if0 _ _).trans (feq ((by decide) : ¬ ((2 : Int32) = (0 : Int32)))).2) (by decide) (by decide) ?_
    refine XS.iloadN X2.here hx rfl (hb hby d44_14) rfl ?_
    exact k)
  obtain ⟨T7, h7, X7, e7, W7, st7⟩ := putF X2 hx hZ hown (host := "") (Or.inl (wD hw 226 rfl)) Via.refl e2 F_signum_o0 E_o0 (Or.inr ⟨(wD hw 227 rfl), rfl, hnm⟩) (wD hw 229 rfl) (ty := .int) (by decide) rfl rfl (g := (mkF m 15 #[vR o0, vR o1, vI i1] [sI i1, sR o0])) rfl rfl (hb hby d44_15)
  have f8 := E_o0.wr W7
  have f9 := Fld.same W7 F_signum_o0
  have f10 := Fld.other W7 F_mag_o0 (Or.inr (slot_ne (Or.inr (wD hw 243 rfl)) (Or.inr (wD hw 227 rfl)) (by decide) (t := (.array .int)) (t' := .int) (by decide) (by decide)))
  have f11 := Arv.other V_o1 W7 (Ne.symm ne_o0_o1)
  have Z7 : n0 ≤ h7.size := Nat.le_trans Z0 (Nat.le_of_eq W7.size.symm)
  have K7 := K0.wr W7 (Or.inl (List.mem_of_getElem? (i := 0) rfl))
  have N7 := Fr.snoc X7 N2 g_o0
  have go12 := go6.st T7 (mkF m 20 #[vR o0, vR o1, vI i1] [sR o1, sR o0]) (fun t k => by
    refine st7 _ ?_
    show SP p e below T7 (mkF m 18 #[vR o0, vR o1, vI i1] []) _
    refine XS.aloadN X7.here hx rfl (hb hby d44_18) rfl rfl ?_
    refine XS.aloadN X7.here hx rfl (hb hby d44_19) rfl rfl ?_
    exact k)
  obtain ⟨T13, h13, X13, e13, W13, st13⟩ := putF X7 hx hZ hown (host := "") (Or.inl (wD hw 242 rfl)) Via.refl e7 f10 f8 (Or.inr ⟨(wD hw 243 rfl), rfl, hnm⟩) (wD hw 229 rfl) (ty := (.array .int)) (by decide) rfl rfl (g := (mkF m 20 #[vR o0, vR o1, vI i1] [sR o1, sR o0])) rfl rfl (hb hby d44_20)
  have f14 := f8.wr W13
  have f15 := Fld.other W13 f9 (Or.inr (slot_ne (Or.inr (wD hw 227 rfl)) (Or.inr (wD hw 243 rfl)) (by decide) (t := .int) (t' := (.array .int)) (by decide) (by decide)))
  have f16 := Fld.same W13 f10
  have f17 := Arv.other f11 W13 (Ne.symm ne_o0_o1)
  have Z13 : n0 ≤ h13.size := Nat.le_trans Z7 (Nat.le_of_eq W13.size.symm)
  have K13 := K7.wr W13 (Or.inl (List.mem_of_getElem? (i := 0) rfl))
  have N13 := Fr.snoc X13 N7 g_o0
  have go18 := go12.st T13 (mkF m 24 #[vR o0, vR o1, vI i1] [sR o0]) (fun t k => by
    refine st13 _ ?_
    show SP p e below T13 (mkF m 23 #[vR o0, vR o1, vI i1] []) _
    refine XS.aloadN X13.here hx rfl (hb hby d44_23) rfl rfl ?_
    exact k)
  obtain ⟨T19, X19, e19, st19⟩ := getF X13 hx hZ hown (host := "") (Or.inl (wD hw 242 rfl)) Via.refl e13 f16 (g := (mkF m 24 #[vR o0, vR o1, vI i1] [sR o0])) rfl rfl (hb hby d44_24)
  have go20 := go18.st T19 (mkF m 27 #[vR o0, vR o1, vI i1] [sR o1]) (fun t k => by
    refine st19 _ ?_
    exact k)
  have Vo21 := f17
  obtain ⟨cl21, Ar21, qa21, Sa21, Na21, Ha21, Ga21⟩ := Vo21
  have go23 := go20.st T19 (mkF m 37 #[vR o0, vR o1, vI i1] []) (fun t k => by
    refine X19.arraylength hx (by rw [e19]; exact Ar21.1) (State.isArrayOf_alike hZ.alike Ar21.2.1) (g := (mkF m 27 #[vR o0, vR o1, vI i1] [sR o1])) rfl rfl (hb hby d44_27) _ ?_
    rw [len_of Sa21 Na21]
    refine X19.ldcInt hx hown (mvT hZ (wD hw 251 rfl)) (g := (mkF m 28 #[vR o0, vR o1, vI i1] [sI i2])) rfl (hb hby d44_28) _ ?_
    refine XS.icmpYes X19.here hx rfl (pc0 := 30) (pc' := 37) rfl (hb hby d44_30) rfl (tlt ((by decide) : (2 : Int32) < (67108864 : Int32))).1 (by decide) (by decide) ?_
    exact k)
  obtain ⟨fs, hr, hrun, hended, hW, hsame⟩ := X19.leave (v := none) (fun _ => rfl)
  refine ⟨_, _, go23 _ ?_, hrun, hended, _, _, rfl, ?_, ⟨_, rfl⟩, hW, hsame.mono (by decide) (by decide)⟩
  · exact X19.returnOut hx Bd.returns (hb hby d44_37) hr
  · show Q_rm_bi2 Z o0 o1 k1 r0 r1 h0 n0 _ T19.heap _
    rw [e19]
    exact ⟨rfl, N13, K13, f14⟩
theorem d40_0 : decode jdk_2097_method_32_code 0 = .ok (.aload_n 1, 1) := by decide +kernel
theorem d40_1 : decode jdk_2097_method_32_code 1 = .ok (.getfield 32, 3) := by decide +kernel
theorem d40_4 : decode jdk_2097_method_32_code 4 = .ok (.ifCond .ne 5, 3) := by decide +kernel
theorem d40_9 : decode jdk_2097_method_32_code 9 = .ok (.aload_n 0, 1) := by decide +kernel
theorem d40_10 : decode jdk_2097_method_32_code 10 = .ok (.getfield 32, 3) := by decide +kernel
theorem d40_13 : decode jdk_2097_method_32_code 13 = .ok (.ifCond .ne 5, 3) := by decide +kernel
theorem d40_16 : decode jdk_2097_method_32_code 16 = .ok (.aload_n 1, 1) := by decide +kernel
theorem d40_17 : decode jdk_2097_method_32_code 17 = .ok (.areturn, 1) := by decide +kernel
theorem pn_rm_adz : plainName "java/math/BigInteger" = true := by first | (simp [plainName, overriddenIn]; done) | decide +kernel
theorem ef_rm_adz (m : MethodId) (o0 : Addr) (o1 : Addr) : entryFrame m #[(.ref o0), (.ref o1)] 4 = mkF m 0 #[.val (.ref o0), .val (.ref o1), uu, uu] [] := by first | (simp [entryFrame, mkF, argsToLocals, Value.category]; done) | rfl
def Q_rm_adz (Z : State) (o0 : Addr) (o1 : Addr) (h0 : Heap) (n0 : Nat) (v : Option Value) (h : Heap) (L : List Loc) : Prop := v = some (.ref o1) ∧ Fr n0 L ∧ h = h0
set_option maxRecDepth 65536 in
set_option maxHeartbeats 40000000 in
theorem rm_adz (l : Launch) (Z : State) (a0 : Array Value) (hw : ∀ d ∈ tables_1, d.before a0 Z = true) (ws : List Jvm.Cond) (o0 : Addr) (o1 : Addr) (h0 : Heap) (n0 : Nat) (Z0 : n0 ≤ h0.size) (F_signum_o1 : Fld Z h0 o1 "java/math/BigInteger" "signum" "I" (.int (1 : Int32))) (F_signum_o0 : Fld Z h0 o0 "java/math/BigInteger" "signum" "I" (.int (0 : Int32))) :
    MetFree l yN35 (head1 (Jvm.Cond.code yN35 jdk_2097_method_32_code 4 (some (.object "java/math/BigInteger")) :: ws) ({ frames := 0, cells := 0, slots := 0, locals := 0 } : Room)) (fun a U => a = #[(.ref o0), (.ref o1)] ∧ Z.Warmed39 U.vm ∧ U.heap = h0) (fun _ _ _ _ _ => True) (fun _ U o U' => ∃ v L, o = .returned v ∧ Q_rm_adz Z o0 o1 h0 n0 v U'.heap L ∧ FrameEnd U o U' L ({ frames := 0, cells := 0, slots := 0, locals := 0 } : Room).cells ({ frames := 0, cells := 0, slots := 0, locals := 0 } : Room).slots) := by
  refine MetFree.of_bodySF (plainFor_of_name pn_rm_adz) hisR ?_
  intro p e s m args below meth c s₁ Bd hml0 hP hK
  obtain ⟨rfl, hZ, hh⟩ := hP
  have hx := Bd.exec
  have hby := Bd.bytes
  have hml : c.maxLocals = 4 := hml0
  have hown : s.vm.findClass "java/math/BigInteger" = some m.cls := findClass_of_methodNamed Bd.named
  have hnm := (name_of_methodNamed Bd.named Bd.method).1
  have X0 : Stand p l e ({ frames := 0, cells := 0, slots := 0, locals := 0 } : Room) s m #[(.ref o0), (.ref o1)] below meth c s₁ [] 0 0 := Stand.of_body Bd
  have e0 : s₁.heap = h0 := by rw [← hh, Bd.state]; rfl
  have N0 := Fr.nil n0
  have K0 := Keep.refl h0 []
  have go0 : Go p e below (s₁.setTop (entryFrame m #[(.ref o0), (.ref o1)] 4)) (s₁.setTop (mkF m 0 #[vR o0, vR o1, uu, uu] [])) := fun t k => castTop (ef_rm_adz m o0 o1) k
  have go1 := go0.st s₁ (mkF m 1 #[vR o0, vR o1, uu, uu] [sR o1]) (fun t k => by
    refine XS.aloadN X0.here hx rfl (hb hby d40_0) rfl rfl ?_
    exact k)
  obtain ⟨T2, X2, e2, st2⟩ := getF X0 hx hZ hown (host := "") (Or.inl (wD hw 226 rfl)) Via.refl e0 F_signum_o1 (g := (mkF m 1 #[vR o0, vR o1, uu, uu] [sR o1])) rfl rfl (hb hby d40_1)
  have go4 := go1.st T2 (mkF m 10 #[vR o0, vR o1, uu, uu] [sR o0]) (fun t k => by
    refine st2 _ ?_
    show SP p e below T2 (mkF m 4 #[vR o0, vR o1, uu, uu] [sI i1]) _
    refine XS.ifYes X2.here hx rfl (pc0 := 4) (pc' := 9) rfl (hb hby d40_4) rfl ((if0 _ _).trans (feq ((by decide) : ¬ ((1 : Int32) = (0 : Int32)))).2) (by decide) (by decide) ?_
    refine XS.aloadN X2.here hx rfl (hb hby d40_9) rfl rfl ?_
    exact k)
  obtain ⟨T5, X5, e5, st5⟩ := getF X2 hx hZ hown (host := "") (Or.inl (wD hw 226 rfl)) Via.refl e2 F_signum_o0 (g := (mkF m 10 #[vR o0, vR o1, uu, uu] [sR o0])) rfl rfl (hb hby d40_10)
  have go7 := go4.st T5 (mkF m 17 #[vR o0, vR o1, uu, uu] [sR o1]) (fun t k => by
    refine st5 _ ?_
    show SP p e below T5 (mkF m 13 #[vR o0, vR o1, uu, uu] [sI i0]) _
    refine XS.ifNo X5.here hx rfl (hb hby d40_13) rfl ((if0 _ _).trans (teq ((by decide) : (0 : Int32) = (0 : Int32))).2) ?_
    refine XS.aloadN X5.here hx rfl (hb hby d40_16) rfl rfl ?_
    exact k)
  obtain ⟨fs, hr, hrun, hended, hW, hsame⟩ := X5.leave (v := some (.ref o1)) (fun h => by rw [Bd.returns] at h; cases h)
  refine ⟨_, _, go7 _ ?_, hrun, hended, _, _, rfl, ?_, ⟨_, rfl⟩, hW, hsame.mono (by decide) (by decide)⟩
  · exact own_retA X5 hx Bd.returns rfl rfl (hb hby d40_17) hr
  · show Q_rm_adz Z o0 o1 h0 n0 _ T5.heap _
    rw [e5]
    exact ⟨rfl, N0, rfl⟩
theorem d40_18 : decode jdk_2097_method_32_code 18 = .ok (.aload_n 1, 1) := by decide +kernel
theorem d40_19 : decode jdk_2097_method_32_code 19 = .ok (.getfield 32, 3) := by decide +kernel
theorem d40_22 : decode jdk_2097_method_32_code 22 = .ok (.aload_n 0, 1) := by decide +kernel
theorem d40_23 : decode jdk_2097_method_32_code 23 = .ok (.getfield 32, 3) := by decide +kernel
theorem d40_26 : decode jdk_2097_method_32_code 26 = .ok (.if_icmp .ne 26, 3) := by decide +kernel
theorem d40_29 : decode jdk_2097_method_32_code 29 = .ok (.new 23, 3) := by decide +kernel
theorem d40_32 : decode jdk_2097_method_32_code 32 = .ok (.dup, 1) := by decide +kernel
theorem d40_33 : decode jdk_2097_method_32_code 33 = .ok (.aload_n 0, 1) := by decide +kernel
theorem d40_34 : decode jdk_2097_method_32_code 34 = .ok (.getfield 28, 3) := by decide +kernel
theorem d40_37 : decode jdk_2097_method_32_code 37 = .ok (.aload_n 1, 1) := by decide +kernel
theorem d40_38 : decode jdk_2097_method_32_code 38 = .ok (.getfield 28, 3) := by decide +kernel
theorem d40_41 : decode jdk_2097_method_32_code 41 = .ok (.invokestatic 362, 3) := by decide +kernel
theorem d40_44 : decode jdk_2097_method_32_code 44 = .ok (.aload_n 0, 1) := by decide +kernel
theorem d40_45 : decode jdk_2097_method_32_code 45 = .ok (.getfield 32, 3) := by decide +kernel
theorem d40_48 : decode jdk_2097_method_32_code 48 = .ok (.invokespecial 175, 3) := by decide +kernel
theorem d40_51 : decode jdk_2097_method_32_code 51 = .ok (.areturn, 1) := by decide +kernel
theorem pn_rm_ba22 : plainName "java/math/BigInteger" = true := by first | (simp [plainName, overriddenIn]; done) | decide +kernel
theorem pd_rm_ba22_0 : parseMethodDescriptor "([I[I)[I" = some ⟨[(.array .int), (.array .int)], some (.array .int)⟩ := by decide +kernel
theorem pd_rm_ba22_1 : parseMethodDescriptor "([II)V" = some ⟨[(.array .int), .int], none⟩ := by decide +kernel
theorem ef_rm_ba22 (m : MethodId) (o0 : Addr) (o1 : Addr) : entryFrame m #[(.ref o0), (.ref o1)] 4 = mkF m 0 #[.val (.ref o0), .val (.ref o1), uu, uu] [] := by first | (simp [entryFrame, mkF, argsToLocals, Value.category]; done) | rfl
def Q_rm_ba22 (Z : State) (o0 : Addr) (o1 : Addr) (m1 : Addr) (m2 : Addr) (k1 : ClassId) (k2 : ClassId) (xh : Int32) (xl : Int32) (yh : Int32) (yl : Int32) (h0 : Heap) (n0 : Nat) (v : Option Value) (h : Heap) (L : List Loc) : Prop := ∃ b : Addr, v = some (.ref b) ∧ Fr n0 L ∧ Keep h0 h []
set_option maxRecDepth 65536 in
set_option maxHeartbeats 40000000 in
theorem rm_ba22 (l : Launch) (Z : State) (a0 : Array Value) (hw : ∀ d ∈ tables_1, d.before a0 Z = true) (ws : List Jvm.Cond) (o0 : Addr) (o1 : Addr) (m1 : Addr) (m2 : Addr) (k1 : ClassId) (k2 : ClassId) (xh : Int32) (xl : Int32) (yh : Int32) (yl : Int32) (h0 : Heap) (n0 : Nat) (Z0 : n0 ≤ h0.size) (F_signum_o1 : Fld Z h0 o1 "java/math/BigInteger" "signum" "I" (.int (1 : Int32))) (F_signum_o0 : Fld Z h0 o0 "java/math/BigInteger" "signum" "I" (.int (1 : Int32))) (F_mag_o0 : Fld Z h0 o0 "java/math/BigInteger" "mag" "[I" (.ref m1)) (F_mag_o1 : Fld Z h0 o1 "java/math/BigInteger" "mag" "[I" (.ref m2)) (V_m1 : Arv Z h0 m1 k1 .int (2 : Int32) [(.int xh), (.int xl)] (.int (0 : Int32))) (V_m2 : Arv Z h0 m2 k2 .int (2 : Int32) [(.int yh), (.int yl)] (.int (0 : Int32))) (hxh : 0 ≤ xh.toInt) (hyh : 0 ≤ yh.toInt) :
    MetFree l yN35 (head1 (Jvm.Cond.code yN35 jdk_2097_method_32_code 4 (some (.object "java/math/BigInteger")) :: ws) ({ frames := 3, cells := 2, slots := 8, locals := 39 } : Room)) (fun a U => a = #[(.ref o0), (.ref o1)] ∧ Z.Warmed39 U.vm ∧ U.heap = h0) (fun _ _ _ _ _ => True) (fun _ U o U' => ∃ v L, o = .returned v ∧ Q_rm_ba22 Z o0 o1 m1 m2 k1 k2 xh xl yh yl h0 n0 v U'.heap L ∧ FrameEnd U o U' L ({ frames := 3, cells := 2, slots := 8, locals := 39 } : Room).cells ({ frames := 3, cells := 2, slots := 8, locals := 39 } : Room).slots) := by
  refine MetFree.of_bodySF (plainFor_of_name pn_rm_ba22) hisR ?_
  intro p e s m args below meth c s₁ Bd hml0 hP hK
  obtain ⟨rfl, hZ, hh⟩ := hP
  have hx := Bd.exec
  have hby := Bd.bytes
  have hml : c.maxLocals = 4 := hml0
  have hown : s.vm.findClass "java/math/BigInteger" = some m.cls := findClass_of_methodNamed Bd.named
  have hnm := (name_of_methodNamed Bd.named Bd.method).1
  have X0 : Stand p l e ({ frames := 3, cells := 2, slots := 8, locals := 39 } : Room) s m #[(.ref o0), (.ref o1)] below meth c s₁ [] 0 0 := Stand.of_body Bd
  have e0 : s₁.heap = h0 := by rw [← hh, Bd.state]; rfl
  have N0 := Fr.nil n0
  have K0 := Keep.refl h0 []
  have go0 : Go p e below (s₁.setTop (entryFrame m #[(.ref o0), (.ref o1)] 4)) (s₁.setTop (mkF m 0 #[vR o0, vR o1, uu, uu] [])) := fun t k => castTop (ef_rm_ba22 m o0 o1) k
  have go1 := go0.st s₁ (mkF m 1 #[vR o0, vR o1, uu, uu] [sR o1]) (fun t k => by
    refine XS.aloadN X0.here hx rfl (hb hby d40_0) rfl rfl ?_
    exact k)
  obtain ⟨T2, X2, e2, st2⟩ := getF X0 hx hZ hown (host := "") (Or.inl (wD hw 226 rfl)) Via.refl e0 F_signum_o1 (g := (mkF m 1 #[vR o0, vR o1, uu, uu] [sR o1])) rfl rfl (hb hby d40_1)
  have go4 := go1.st T2 (mkF m 10 #[vR o0, vR o1, uu, uu] [sR o0]) (fun t k => by
    refine st2 _ ?_
    show SP p e below T2 (mkF m 4 #[vR o0, vR o1, uu, uu] [sI i1]) _
    refine XS.ifYes X2.here hx rfl (pc0 := 4) (pc' := 9) rfl (hb hby d40_4) rfl ((if0 _ _).trans (feq ((by decide) : ¬ ((1 : Int32) = (0 : Int32)))).2) (by decide) (by decide) ?_
    refine XS.aloadN X2.here hx rfl (hb hby d40_9) rfl rfl ?_
    exact k)
  obtain ⟨T5, X5, e5, st5⟩ := getF X2 hx hZ hown (host := "") (Or.inl (wD hw 226 rfl)) Via.refl e2 F_signum_o0 (g := (mkF m 10 #[vR o0, vR o1, uu, uu] [sR o0])) rfl rfl (hb hby d40_10)
  have go7 := go4.st T5 (mkF m 19 #[vR o0, vR o1, uu, uu] [sR o1]) (fun t k => by
    refine st5 _ ?_
    show SP p e below T5 (mkF m 13 #[vR o0, vR o1, uu, uu] [sI i1]) _
    refine XS.ifYes X5.here hx rfl (pc0 := 13) (pc' := 18) rfl (hb hby d40_13) rfl ((if0 _ _).trans (feq ((by decide) : ¬ ((1 : Int32) = (0 : Int32)))).2) (by decide) (by decide) ?_
    refine XS.aloadN X5.here hx rfl (hb hby d40_18) rfl rfl ?_
    exact k)
  obtain ⟨T8, X8, e8, st8⟩ := getF X5 hx hZ hown (host := "") (Or.inl (wD hw 226 rfl)) Via.refl e5 F_signum_o1 (g := (mkF m 19 #[vR o0, vR o1, uu, uu] [sR o1])) rfl rfl (hb hby d40_19)
  have go9 := go7.st T8 (mkF m 23 #[vR o0, vR o1, uu, uu] [sR o0, sI i1]) (fun t k => by
    refine st8 _ ?_
    show SP p e below T8 (mkF m 22 #[vR o0, vR o1, uu, uu] [sI i1]) _
    refine XS.aloadN X8.here hx rfl (hb hby d40_22) rfl rfl ?_
    exact k)
  obtain ⟨T10, X10, e10, st10⟩ := getF X8 hx hZ hown (host := "") (Or.inl (wD hw 226 rfl)) Via.refl e8 F_signum_o0 (g := (mkF m 23 #[vR o0, vR o1, uu, uu] [sR o0, sI i1])) rfl rfl (hb hby d40_23)
  have go12 := go9.st T10 (mkF m 29 #[vR o0, vR o1, uu, uu] []) (fun t k => by
    refine st10 _ ?_
    show SP p e below T10 (mkF m 26 #[vR o0, vR o1, uu, uu] [sI i1, sI i1]) _
    refine XS.icmpNo X10.here hx rfl (hb hby d40_26) rfl (teq ((by decide) : (1 : Int32) = (1 : Int32))).2 ?_
    exact k)
  obtain ⟨T13, h13, X13, e13, E13, A13, D13, -, st13⟩ := newO X10 hx hZ hown (wD hw 228 rfl) (wD hw 229 rfl) (wD hw 214 rfl) e10 (g := (mkF m 29 #[vR o0, vR o1, uu, uu] [])) rfl (hb hby d40_29) (by decide) (by decide)
  obtain ⟨b13, g13⟩ : ∃ z, z = h0.size := ⟨_, rfl⟩
  rw [← g13] at A13 D13 st13
  have ne_o1_b13 : o1 ≠ b13 := Nat.ne_of_lt (Nat.lt_of_lt_of_le F_signum_o1.lt (Nat.le_of_eq g13.symm))
  have ne_o0_b13 : o0 ≠ b13 := Nat.ne_of_lt (Nat.lt_of_lt_of_le F_signum_o0.lt (Nat.le_of_eq g13.symm))
  have ne_m1_b13 : m1 ≠ b13 := Nat.ne_of_lt (Nat.lt_of_lt_of_le V_m1.lt (Nat.le_of_eq g13.symm))
  have ne_m2_b13 : m2 ≠ b13 := Nat.ne_of_lt (Nat.lt_of_lt_of_le V_m2.lt (Nat.le_of_eq g13.symm))
  have g_b13 : n0 ≤ b13 := Nat.le_trans Z0 (Nat.le_of_eq g13.symm)
  have sz_b13 : h0.size ≤ b13 := Nat.le_trans K0.1 (Nat.le_of_eq g13.symm)
  have f14 := F_signum_o1.ext E13
  have f15 := F_signum_o0.ext E13
  have f16 := F_mag_o0.ext E13
  have f17 := F_mag_o1.ext E13
  have f18 := V_m1.ext E13
  have f19 := V_m2.ext E13
  have F13_signum : Fld Z h13 b13 "java/math/BigInteger" "signum" "I" (.int (0 : Int32)) := D13 (Or.inr (wD hw 227 rfl)) (ty := .int) (by decide)
  have F13_mag : Fld Z h13 b13 "java/math/BigInteger" "mag" "[I" .null := D13 (Or.inr (wD hw 243 rfl)) (ty := (.array .int)) (by decide)
  have Z13 : n0 ≤ h13.size := Nat.le_trans Z0 E13.1
  have K13 := K0.ext E13
  have go20 := go12.st T13 (mkF m 34 #[vR o0, vR o1, uu, uu] [sR o0, sR b13, sR b13]) (fun t k => by
    refine st13 _ ?_
    show SP p e below T13 (mkF m 32 #[vR o0, vR o1, uu, uu] [sR b13]) _
    refine XS.dup X13.here hx rfl (hb hby d40_32) rfl rfl ?_
    refine XS.aloadN X13.here hx rfl (hb hby d40_33) rfl rfl ?_
    exact k)
  obtain ⟨T21, X21, e21, st21⟩ := getF X13 hx hZ hown (host := "") (Or.inl (wD hw 242 rfl)) Via.refl e13 f16 (g := (mkF m 34 #[vR o0, vR o1, uu, uu] [sR o0, sR b13, sR b13])) rfl rfl (hb hby d40_34)
  have go22 := go20.st T21 (mkF m 38 #[vR o0, vR o1, uu, uu] [sR o1, sR m1, sR b13, sR b13]) (fun t k => by
    refine st21 _ ?_
    show SP p e below T21 (mkF m 37 #[vR o0, vR o1, uu, uu] [sR m1, sR b13, sR b13]) _
    refine XS.aloadN X21.here hx rfl (hb hby d40_37) rfl rfl ?_
    exact k)
  obtain ⟨T23, X23, e23, st23⟩ := getF X21 hx hZ hown (host := "") (Or.inl (wD hw 242 rfl)) Via.refl e21 f17 (g := (mkF m 38 #[vR o0, vR o1, uu, uu] [sR o1, sR m1, sR b13, sR b13])) rfl rfl (hb hby d40_38)
  have go24 := go22.st T23 (mkF m 41 #[vR o0, vR o1, uu, uu] [sR m2, sR m1, sR b13, sR b13]) (fun t k => by
    refine st23 _ ?_
    exact k)
  obtain ⟨_, _, ⟨T25, L25, k25, n25⟩, -, X25, ⟨Lc25, hQ25, l25, y25, z25⟩, st25⟩ := Jvm.LawKit.callS X23 hx (y := yN33) hown (mvT hZ (wD hw 244 rfl)) (mvT hZ (wD hw 245 rfl)) (mvT hZ (wD hw 214 rfl)) (mvT hZ (wD hw 246 rfl)) (by decide) (backOf (W := 2) (rm_mg22 l Z a0 hw [] m1 m2 k1 k2 xh xl yh yl h13 n0 Z13 f18 f19 hxh hyh) hZ (wD hw 246 rfl) (wD hw 214 rfl) (by decide) (by decide)) (g := (mkF m 41 #[vR o0, vR o1, uu, uu] [sR m2, sR m1, sR b13, sR b13])) rfl (by rw [hml]; rfl) (argsL := [(.ref m1), (.ref m2)]) (rest := [(.ref b13), (.ref b13)]) (lenOf pd_rm_ba22_0 rfl) rfl (by show 2 * 0 + _ ≤ _; exact Nat.le_of_eq rfl) (hb hby d40_41) (fun _ _ => ⟨rfl, e23, (by decide : 1 + 1 ≤ _), (by decide : 6 + 2 ≤ _)⟩)
  dsimp only [Pt.U, Pt.locs, Pt.cells, Pt.slots] at X25 l25 y25 z25 st25 hQ25
  rw [l25, y25, z25] at X25
  obtain ⟨b_25, kb_25, r0_25, r1_25, rfl, N25q, K25, qp25_0, qp25_1, qp25_2⟩ := hQ25
  have N25 := Fr.app N0 N25q
  have f26 := f14.keep K25 nin0
  have f27 := f15.keep K25 nin0
  have f28 := f16.keep K25 nin0
  have f29 := f17.keep K25 nin0
  have f30 := f18.keep K25 nin0
  have f31 := f19.keep K25 nin0
  have f32 := A13.keep K25
  have f33 := F13_signum.keep K25 nin0
  have f34 := F13_mag.keep K25 nin0
  have Z25 : n0 ≤ T25.heap.size := Nat.le_trans Z13 K25.1
  have KK25 := K13.trans K25 all0
  have g_b_25 := qp25_0
  have sz_b_25 := Nat.le_trans K13.1 qp25_1
  have ne_o1_b_25 : o1 ≠ b_25 := Nat.ne_of_lt (Nat.lt_of_lt_of_le f14.lt qp25_1)
  have ne_o0_b_25 : o0 ≠ b_25 := Nat.ne_of_lt (Nat.lt_of_lt_of_le f15.lt qp25_1)
  have ne_m1_b_25 : m1 ≠ b_25 := Nat.ne_of_lt (Nat.lt_of_lt_of_le f18.lt qp25_1)
  have ne_m2_b_25 : m2 ≠ b_25 := Nat.ne_of_lt (Nat.lt_of_lt_of_le f19.lt qp25_1)
  have ne_b13_b_25 : b13 ≠ b_25 := Nat.ne_of_lt (Nat.lt_of_lt_of_le A13.lt qp25_1)
  have go35 := go24.st T25 (mkF m 45 #[vR o0, vR o1, uu, uu] [sR o0, sR b_25, sR b13, sR b13]) (fun t k => by
    refine st25 _ ?_
    show SP p e below T25 (mkF m 44 #[vR o0, vR o1, uu, uu] [sR b_25, sR b13, sR b13]) _
    refine XS.aloadN X25.here hx rfl (hb hby d40_44) rfl rfl ?_
    exact k)
  obtain ⟨T36, X36, e36, st36⟩ := getF X25 hx hZ hown (host := "") (Or.inl (wD hw 226 rfl)) Via.refl rfl f27 (g := (mkF m 45 #[vR o0, vR o1, uu, uu] [sR o0, sR b_25, sR b13, sR b13])) rfl rfl (hb hby d40_45)
  have go37 := go35.st T36 (mkF m 48 #[vR o0, vR o1, uu, uu] [sI i1, sR b_25, sR b13, sR b13]) (fun t k => by
    refine st36 _ ?_
    exact k)
  obtain ⟨_, _, ⟨T38, L38, k38, n38⟩, -, X38, ⟨Lc38, hQ38, l38, y38, z38⟩, st38⟩ := X36.specialBack hx (y := yN34) rfl hown (mvT hZ (wD hw 248 rfl)) (mvT hZ (wD hw 249 rfl)) (mvT hZ (wD hw 250 rfl)) (by decide) (backOf (W := 1) (rm_bi2 l Z a0 hw [] b13 b_25 kb_25 r0_25 r1_25 T25.heap n0 Z25 f32 g_b13 f33 f34 qp25_2 ne_b13_b_25) hZ (wD hw 250 rfl) (wD hw 214 rfl) (by decide) (by decide)) (g := (mkF m 48 #[vR o0, vR o1, uu, uu] [sI i1, sR b_25, sR b13, sR b13])) rfl (by rw [hml]; rfl) (Steps.refl _) (a := b13) (argsL := [(.ref b_25), (.int (1 : Int32))]) (rest := [(.ref b13)]) (lenOf pd_rm_ba22_1 rfl) rfl (by show 2 * 0 + _ ≤ _; exact Nat.le_of_eq rfl) (hb hby d40_48) (fun _ _ => ⟨rfl, e36, (by decide : 2 + 0 ≤ _), (by decide : 8 + 0 ≤ _)⟩)
  dsimp only [Pt.U, Pt.locs, Pt.cells, Pt.slots] at X38 l38 y38 z38 st38 hQ38
  rw [l38, y38, z38] at X38
  obtain ⟨rfl, N38q, K38, qp38_0⟩ := hQ38
  have N38 := Fr.app N25 N38q
  have f39 := f26.keep K38 (ninS ne_o1_b13 nin0)
  have f40 := f27.keep K38 (ninS ne_o0_b13 nin0)
  have f41 := f28.keep K38 (ninS ne_o0_b13 nin0)
  have f42 := f29.keep K38 (ninS ne_o1_b13 nin0)
  have f43 := f30.keep K38 (ninS ne_m1_b13 nin0)
  have f44 := f31.keep K38 (ninS ne_m2_b13 nin0)
  have f45 := f32.keep K38
  have f48 := qp25_2.keep K38 (ninS (Ne.symm ne_b13_b_25) nin0)
  have Z38 : n0 ≤ T38.heap.size := Nat.le_trans Z25 K38.1
  have KK38 := KK25.trans K38 (allS (Or.inr sz_b13) all0)
  have go49 := go37.st T38 (mkF m 51 #[vR o0, vR o1, uu, uu] [sR b13]) (fun t k => by
    refine st38.trans ?_
    exact k)
  obtain ⟨fs, hr, hrun, hended, hW, hsame⟩ := X38.leave (v := some (.ref b13)) (fun h => by rw [Bd.returns] at h; cases h)
  refine ⟨_, _, go49 _ ?_, hrun, hended, _, _, rfl, ?_, ⟨_, rfl⟩, hW, hsame.mono (by decide) (by decide)⟩
  · exact own_retA X38 hx Bd.returns rfl rfl (hb hby d40_51) hr
  · show Q_rm_ba22 Z o0 o1 m1 m2 k1 k2 xh xl yh yl h0 n0 _ T38.heap _
    exact ⟨b13, rfl, N38, KK38⟩
theorem pn_rm_ba21 : plainName "java/math/BigInteger" = true := by first | (simp [plainName, overriddenIn]; done) | decide +kernel
theorem pd_rm_ba21_0 : parseMethodDescriptor "([I[I)[I" = some ⟨[(.array .int), (.array .int)], some (.array .int)⟩ := by decide +kernel
theorem pd_rm_ba21_1 : parseMethodDescriptor "([II)V" = some ⟨[(.array .int), .int], none⟩ := by decide +kernel
theorem ef_rm_ba21 (m : MethodId) (o0 : Addr) (o1 : Addr) : entryFrame m #[(.ref o0), (.ref o1)] 4 = mkF m 0 #[.val (.ref o0), .val (.ref o1), uu, uu] [] := by first | (simp [entryFrame, mkF, argsToLocals, Value.category]; done) | rfl
def Q_rm_ba21 (Z : State) (o0 : Addr) (o1 : Addr) (m1 : Addr) (m2 : Addr) (k1 : ClassId) (k2 : ClassId) (xh : Int32) (xl : Int32) (yl : Int32) (h0 : Heap) (n0 : Nat) (v : Option Value) (h : Heap) (L : List Loc) : Prop := ∃ b : Addr, v = some (.ref b) ∧ Fr n0 L ∧ Keep h0 h []
set_option maxRecDepth 65536 in
set_option maxHeartbeats 40000000 in
theorem rm_ba21 (l : Launch) (Z : State) (a0 : Array Value) (hw : ∀ d ∈ tables_1, d.before a0 Z = true) (ws : List Jvm.Cond) (o0 : Addr) (o1 : Addr) (m1 : Addr) (m2 : Addr) (k1 : ClassId) (k2 : ClassId) (xh : Int32) (xl : Int32) (yl : Int32) (h0 : Heap) (n0 : Nat) (Z0 : n0 ≤ h0.size) (F_signum_o1 : Fld Z h0 o1 "java/math/BigInteger" "signum" "I" (.int (1 : Int32))) (F_signum_o0 : Fld Z h0 o0 "java/math/BigInteger" "signum" "I" (.int (1 : Int32))) (F_mag_o0 : Fld Z h0 o0 "java/math/BigInteger" "mag" "[I" (.ref m1)) (F_mag_o1 : Fld Z h0 o1 "java/math/BigInteger" "mag" "[I" (.ref m2)) (V_m1 : Arv Z h0 m1 k1 .int (2 : Int32) [(.int xh), (.int xl)] (.int (0 : Int32))) (V_m2 : Arv Z h0 m2 k2 .int (1 : Int32) [(.int yl)] (.int (0 : Int32))) (hxh : 0 ≤ xh.toInt) :
    MetFree l yN35 (head1 (Jvm.Cond.code yN35 jdk_2097_method_32_code 4 (some (.object "java/math/BigInteger")) :: ws) ({ frames := 3, cells := 2, slots := 8, locals := 39 } : Room)) (fun a U => a = #[(.ref o0), (.ref o1)] ∧ Z.Warmed39 U.vm ∧ U.heap = h0) (fun _ _ _ _ _ => True) (fun _ U o U' => ∃ v L, o = .returned v ∧ Q_rm_ba21 Z o0 o1 m1 m2 k1 k2 xh xl yl h0 n0 v U'.heap L ∧ FrameEnd U o U' L ({ frames := 3, cells := 2, slots := 8, locals := 39 } : Room).cells ({ frames := 3, cells := 2, slots := 8, locals := 39 } : Room).slots) := by
  refine MetFree.of_bodySF (plainFor_of_name pn_rm_ba21) hisR ?_
  intro p e s m args below meth c s₁ Bd hml0 hP hK
  obtain ⟨rfl, hZ, hh⟩ := hP
  have hx := Bd.exec
  have hby := Bd.bytes
  have hml : c.maxLocals = 4 := hml0
  have hown : s.vm.findClass "java/math/BigInteger" = some m.cls := findClass_of_methodNamed Bd.named
  have hnm := (name_of_methodNamed Bd.named Bd.method).1
  have X0 : Stand p l e ({ frames := 3, cells := 2, slots := 8, locals := 39 } : Room) s m #[(.ref o0), (.ref o1)] below meth c s₁ [] 0 0 := Stand.of_body Bd
  have e0 : s₁.heap = h0 := by rw [← hh, Bd.state]; rfl
  have N0 := Fr.nil n0
  have K0 := Keep.refl h0 []
  have go0 : Go p e below (s₁.setTop (entryFrame m #[(.ref o0), (.ref o1)] 4)) (s₁.setTop (mkF m 0 #[vR o0, vR o1, uu, uu] [])) := fun t k => castTop (ef_rm_ba21 m o0 o1) k
  have go1 := go0.st s₁ (mkF m 1 #[vR o0, vR o1, uu, uu] [sR o1]) (fun t k => by
    refine XS.aloadN X0.here hx rfl (hb hby d40_0) rfl rfl ?_
    exact k)
  obtain ⟨T2, X2, e2, st2⟩ := getF X0 hx hZ hown (host := "") (Or.inl (wD hw 226 rfl)) Via.refl e0 F_signum_o1 (g := (mkF m 1 #[vR o0, vR o1, uu, uu] [sR o1])) rfl rfl (hb hby d40_1)
  have go4 := go1.st T2 (mkF m 10 #[vR o0, vR o1, uu, uu] [sR o0]) (fun t k => by
    refine st2 _ ?_
    show SP p e below T2 (mkF m 4 #[vR o0, vR o1, uu, uu] [sI i1]) _
    refine XS.ifYes X2.here hx rfl (pc0 := 4) (pc' := 9) rfl (hb hby d40_4) rfl ((if0 _ _).trans (feq ((by decide) : ¬ ((1 : Int32) = (0 : Int32)))).2) (by decide) (by decide) ?_
    refine XS.aloadN X2.here hx rfl (hb hby d40_9) rfl rfl ?_
    exact k)
  obtain ⟨T5, X5, e5, st5⟩ := getF X2 hx hZ hown (host := "") (Or.inl (wD hw 226 rfl)) Via.refl e2 F_signum_o0 (g := (mkF m 10 #[vR o0, vR o1, uu, uu] [sR o0])) rfl rfl (hb hby d40_10)
  have go7 := go4.st T5 (mkF m 19 #[vR o0, vR o1, uu, uu] [sR o1]) (fun t k => by
    refine st5 _ ?_
    show SP p e below T5 (mkF m 13 #[vR o0, vR o1, uu, uu] [sI i1]) _
    refine XS.ifYes X5.here hx rfl (pc0 := 13) (pc' := 18) rfl (hb hby d40_13) rfl ((if0 _ _).trans (feq ((by decide) : ¬ ((1 : Int32) = (0 : Int32)))).2) (by decide) (by decide) ?_
    refine XS.aloadN X5.here hx rfl (hb hby d40_18) rfl rfl ?_
    exact k)
  obtain ⟨T8, X8, e8, st8⟩ := getF X5 hx hZ hown (host := "") (Or.inl (wD hw 226 rfl)) Via.refl e5 F_signum_o1 (g := (mkF m 19 #[vR o0, vR o1, uu, uu] [sR o1])) rfl rfl (hb hby d40_19)
  have go9 := go7.st T8 (mkF m 23 #[vR o0, vR o1, uu, uu] [sR o0, sI i1]) (fun t k => by
    refine st8 _ ?_
    show SP p e below T8 (mkF m 22 #[vR o0, vR o1, uu, uu] [sI i1]) _
    refine XS.aloadN X8.here hx rfl (hb hby d40_22) rfl rfl ?_
    exact k)
  obtain ⟨T10, X10, e10, st10⟩ := getF X8 hx hZ hown (host := "") (Or.inl (wD hw 226 rfl)) Via.refl e8 F_signum_o0 (g := (mkF m 23 #[vR o0, vR o1, uu, uu] [sR o0, sI i1])) rfl rfl (hb hby d40_23)
  have go12 := go9.st T10 (mkF m 29 #[vR o0, vR o1, uu, uu] []) (fun t k => by
    refine st10 _ ?_
    show SP p e below T10 (mkF m 26 #[vR o0, vR o1, uu, uu] [sI i1, sI i1]) _
    refine XS.icmpNo X10.here hx rfl (hb hby d40_26) rfl (teq ((by decide) : (1 : Int32) = (1 : Int32))).2 ?_
    exact k)
  obtain ⟨T13, h13, X13, e13, E13, A13, D13, -, st13⟩ := newO X10 hx hZ hown (wD hw 228 rfl) (wD hw 229 rfl) (wD hw 214 rfl) e10 (g := (mkF m 29 #[vR o0, vR o1, uu, uu] [])) rfl (hb hby d40_29) (by decide) (by decide)
  obtain ⟨b13, g13⟩ : ∃ z, z = h0.size := ⟨_, rfl⟩
  rw [← g13] at A13 D13 st13
  have ne_o1_b13 : o1 ≠ b13 := Nat.ne_of_lt (Nat.lt_of_lt_of_le F_signum_o1.lt (Nat.le_of_eq g13.symm))
  have ne_o0_b13 : o0 ≠ b13 := Nat.ne_of_lt (Nat.lt_of_lt_of_le F_signum_o0.lt (Nat.le_of_eq g13.symm))
  have ne_m1_b13 : m1 ≠ b13 := Nat.ne_of_lt (Nat.lt_of_lt_of_le V_m1.lt (Nat.le_of_eq g13.symm))
  have ne_m2_b13 : m2 ≠ b13 := Nat.ne_of_lt (Nat.lt_of_lt_of_le V_m2.lt (Nat.le_of_eq g13.symm))
  have g_b13 : n0 ≤ b13 := Nat.le_trans Z0 (Nat.le_of_eq g13.symm)
  have sz_b13 : h0.size ≤ b13 := Nat.le_trans K0.1 (Nat.le_of_eq g13.symm)
  have f14 := F_signum_o1.ext E13
  have f15 := F_signum_o0.ext E13
  have f16 := F_mag_o0.ext E13
  have f17 := F_mag_o1.ext E13
  have f18 := V_m1.ext E13
  have f19 := V_m2.ext E13
  have F13_signum : Fld Z h13 b13 "java/math/BigInteger" "signum" "I" (.int (0 : Int32)) := D13 (Or.inr (wD hw 227 rfl)) (ty := .int) (by decide)
  have F13_mag : Fld Z h13 b13 "java/math/BigInteger" "mag" "[I" .null := D13 (Or.inr (wD hw 243 rfl)) (ty := (.array .int)) (by decide)
  have Z13 : n0 ≤ h13.size := Nat.le_trans Z0 E13.1
  have K13 := K0.ext E13
  have go20 := go12.st T13 (mkF m 34 #[vR o0, vR o1, uu, uu] [sR o0, sR b13, sR b13]) (fun t k => by
    refine st13 _ ?_
    show SP p e below T13 (mkF m 32 #[vR o0, vR o1, uu, uu] [sR b13]) _
    refine XS.dup X13.here hx rfl (hb hby d40_32) rfl rfl ?_
    refine XS.aloadN X13.here hx rfl (hb hby d40_33) rfl rfl ?_
    exact k)
  obtain ⟨T21, X21, e21, st21⟩ := getF X13 hx hZ hown (host := "") (Or.inl (wD hw 242 rfl)) Via.refl e13 f16 (g := (mkF m 34 #[vR o0, vR o1, uu, uu] [sR o0, sR b13, sR b13])) rfl rfl (hb hby d40_34)
  have go22 := go20.st T21 (mkF m 38 #[vR o0, vR o1, uu, uu] [sR o1, sR m1, sR b13, sR b13]) (fun t k => by
    refine st21 _ ?_
    show SP p e below T21 (mkF m 37 #[vR o0, vR o1, uu, uu] [sR m1, sR b13, sR b13]) _
    refine XS.aloadN X21.here hx rfl (hb hby d40_37) rfl rfl ?_
    exact k)
  obtain ⟨T23, X23, e23, st23⟩ := getF X21 hx hZ hown (host := "") (Or.inl (wD hw 242 rfl)) Via.refl e21 f17 (g := (mkF m 38 #[vR o0, vR o1, uu, uu] [sR o1, sR m1, sR b13, sR b13])) rfl rfl (hb hby d40_38)
  have go24 := go22.st T23 (mkF m 41 #[vR o0, vR o1, uu, uu] [sR m2, sR m1, sR b13, sR b13]) (fun t k => by
    refine st23 _ ?_
    exact k)
  obtain ⟨_, _, ⟨T25, L25, k25, n25⟩, -, X25, ⟨Lc25, hQ25, l25, y25, z25⟩, st25⟩ := Jvm.LawKit.callS X23 hx (y := yN33) hown (mvT hZ (wD hw 244 rfl)) (mvT hZ (wD hw 245 rfl)) (mvT hZ (wD hw 214 rfl)) (mvT hZ (wD hw 246 rfl)) (by decide) (backOf (W := 2) (rm_mg21 l Z a0 hw [] m1 m2 k1 k2 xh xl yl h13 n0 Z13 f18 f19 hxh) hZ (wD hw 246 rfl) (wD hw 214 rfl) (by decide) (by decide)) (g := (mkF m 41 #[vR o0, vR o1, uu, uu] [sR m2, sR m1, sR b13, sR b13])) rfl (by rw [hml]; rfl) (argsL := [(.ref m1), (.ref m2)]) (rest := [(.ref b13), (.ref b13)]) (lenOf pd_rm_ba21_0 rfl) rfl (by show 2 * 0 + _ ≤ _; exact Nat.le_of_eq rfl) (hb hby d40_41) (fun _ _ => ⟨rfl, e23, (by decide : 1 + 1 ≤ _), (by decide : 6 + 2 ≤ _)⟩)
  dsimp only [Pt.U, Pt.locs, Pt.cells, Pt.slots] at X25 l25 y25 z25 st25 hQ25
  rw [l25, y25, z25] at X25
  obtain ⟨b_25, kb_25, r0_25, r1_25, rfl, N25q, K25, qp25_0, qp25_1, qp25_2⟩ := hQ25
  have N25 := Fr.app N0 N25q
  have f26 := f14.keep K25 nin0
  have f27 := f15.keep K25 nin0
  have f28 := f16.keep K25 nin0
  have f29 := f17.keep K25 nin0
  have f30 := f18.keep K25 nin0
  have f31 := f19.keep K25 nin0
  have f32 := A13.keep K25
  have f33 := F13_signum.keep K25 nin0
  have f34 := F13_mag.keep K25 nin0
  have Z25 : n0 ≤ T25.heap.size := Nat.le_trans Z13 K25.1
  have KK25 := K13.trans K25 all0
  have g_b_25 := qp25_0
  have sz_b_25 := Nat.le_trans K13.1 qp25_1
  have ne_o1_b_25 : o1 ≠ b_25 := Nat.ne_of_lt (Nat.lt_of_lt_of_le f14.lt qp25_1)
  have ne_o0_b_25 : o0 ≠ b_25 := Nat.ne_of_lt (Nat.lt_of_lt_of_le f15.lt qp25_1)
  have ne_m1_b_25 : m1 ≠ b_25 := Nat.ne_of_lt (Nat.lt_of_lt_of_le f18.lt qp25_1)
  have ne_m2_b_25 : m2 ≠ b_25 := Nat.ne_of_lt (Nat.lt_of_lt_of_le f19.lt qp25_1)
  have ne_b13_b_25 : b13 ≠ b_25 := Nat.ne_of_lt (Nat.lt_of_lt_of_le A13.lt qp25_1)
  have go35 := go24.st T25 (mkF m 45 #[vR o0, vR o1, uu, uu] [sR o0, sR b_25, sR b13, sR b13]) (fun t k => by
    refine st25 _ ?_
    show SP p e below T25 (mkF m 44 #[vR o0, vR o1, uu, uu] [sR b_25, sR b13, sR b13]) _
    refine XS.aloadN X25.here hx rfl (hb hby d40_44) rfl rfl ?_
    exact k)
  obtain ⟨T36, X36, e36, st36⟩ := getF X25 hx hZ hown (host := "") (Or.inl (wD hw 226 rfl)) Via.refl rfl f27 (g := (mkF m 45 #[vR o0, vR o1, uu, uu] [sR o0, sR b_25, sR b13, sR b13])) rfl rfl (hb hby d40_45)
  have go37 := go35.st T36 (mkF m 48 #[vR o0, vR o1, uu, uu] [sI i1, sR b_25, sR b13, sR b13]) (fun t k => by
    refine st36 _ ?_
    exact k)
  obtain ⟨_, _, ⟨T38, L38, k38, n38⟩, -, X38, ⟨Lc38, hQ38, l38, y38, z38⟩, st38⟩ := X36.specialBack hx (y := yN34) rfl hown (mvT hZ (wD hw 248 rfl)) (mvT hZ (wD hw 249 rfl)) (mvT hZ (wD hw 250 rfl)) (by decide) (backOf (W := 1) (rm_bi2 l Z a0 hw [] b13 b_25 kb_25 r0_25 r1_25 T25.heap n0 Z25 f32 g_b13 f33 f34 qp25_2 ne_b13_b_25) hZ (wD hw 250 rfl) (wD hw 214 rfl) (by decide) (by decide)) (g := (mkF m 48 #[vR o0, vR o1, uu, uu] [sI i1, sR b_25, sR b13, sR b13])) rfl (by rw [hml]; rfl) (Steps.refl _) (a := b13) (argsL := [(.ref b_25), (.int (1 : Int32))]) (rest := [(.ref b13)]) (lenOf pd_rm_ba21_1 rfl) rfl (by show 2 * 0 + _ ≤ _; exact Nat.le_of_eq rfl) (hb hby d40_48) (fun _ _ => ⟨rfl, e36, (by decide : 2 + 0 ≤ _), (by decide : 8 + 0 ≤ _)⟩)
  dsimp only [Pt.U, Pt.locs, Pt.cells, Pt.slots] at X38 l38 y38 z38 st38 hQ38
  rw [l38, y38, z38] at X38
  obtain ⟨rfl, N38q, K38, qp38_0⟩ := hQ38
  have N38 := Fr.app N25 N38q
  have f39 := f26.keep K38 (ninS ne_o1_b13 nin0)
  have f40 := f27.keep K38 (ninS ne_o0_b13 nin0)
  have f41 := f28.keep K38 (ninS ne_o0_b13 nin0)
  have f42 := f29.keep K38 (ninS ne_o1_b13 nin0)
  have f43 := f30.keep K38 (ninS ne_m1_b13 nin0)
  have f44 := f31.keep K38 (ninS ne_m2_b13 nin0)
  have f45 := f32.keep K38
  have f48 := qp25_2.keep K38 (ninS (Ne.symm ne_b13_b_25) nin0)
  have Z38 : n0 ≤ T38.heap.size := Nat.le_trans Z25 K38.1
  have KK38 := KK25.trans K38 (allS (Or.inr sz_b13) all0)
  have go49 := go37.st T38 (mkF m 51 #[vR o0, vR o1, uu, uu] [sR b13]) (fun t k => by
    refine st38.trans ?_
    exact k)
  obtain ⟨fs, hr, hrun, hended, hW, hsame⟩ := X38.leave (v := some (.ref b13)) (fun h => by rw [Bd.returns] at h; cases h)
  refine ⟨_, _, go49 _ ?_, hrun, hended, _, _, rfl, ?_, ⟨_, rfl⟩, hW, hsame.mono (by decide) (by decide)⟩
  · exact own_retA X38 hx Bd.returns rfl rfl (hb hby d40_51) hr
  · show Q_rm_ba21 Z o0 o1 m1 m2 k1 k2 xh xl yl h0 n0 _ T38.heap _
    exact ⟨b13, rfl, N38, KK38⟩
theorem pn_rm_ba12 : plainName "java/math/BigInteger" = true := by first | (simp [plainName, overriddenIn]; done) | decide +kernel
theorem pd_rm_ba12_0 : parseMethodDescriptor "([I[I)[I" = some ⟨[(.array .int), (.array .int)], some (.array .int)⟩ := by decide +kernel
theorem pd_rm_ba12_1 : parseMethodDescriptor "([II)V" = some ⟨[(.array .int), .int], none⟩ := by decide +kernel
theorem ef_rm_ba12 (m : MethodId) (o0 : Addr) (o1 : Addr) : entryFrame m #[(.ref o0), (.ref o1)] 4 = mkF m 0 #[.val (.ref o0), .val (.ref o1), uu, uu] [] := by first | (simp [entryFrame, mkF, argsToLocals, Value.category]; done) | rfl
def Q_rm_ba12 (Z : State) (o0 : Addr) (o1 : Addr) (m1 : Addr) (m2 : Addr) (k1 : ClassId) (k2 : ClassId) (xl : Int32) (yh : Int32) (yl : Int32) (h0 : Heap) (n0 : Nat) (v : Option Value) (h : Heap) (L : List Loc) : Prop := ∃ b : Addr, v = some (.ref b) ∧ Fr n0 L ∧ Keep h0 h []
set_option maxRecDepth 65536 in
set_option maxHeartbeats 40000000 in
theorem rm_ba12 (l : Launch) (Z : State) (a0 : Array Value) (hw : ∀ d ∈ tables_1, d.before a0 Z = true) (ws : List Jvm.Cond) (o0 : Addr) (o1 : Addr) (m1 : Addr) (m2 : Addr) (k1 : ClassId) (k2 : ClassId) (xl : Int32) (yh : Int32) (yl : Int32) (h0 : Heap) (n0 : Nat) (Z0 : n0 ≤ h0.size) (F_signum_o1 : Fld Z h0 o1 "java/math/BigInteger" "signum" "I" (.int (1 : Int32))) (F_signum_o0 : Fld Z h0 o0 "java/math/BigInteger" "signum" "I" (.int (1 : Int32))) (F_mag_o0 : Fld Z h0 o0 "java/math/BigInteger" "mag" "[I" (.ref m1)) (F_mag_o1 : Fld Z h0 o1 "java/math/BigInteger" "mag" "[I" (.ref m2)) (V_m1 : Arv Z h0 m1 k1 .int (1 : Int32) [(.int xl)] (.int (0 : Int32))) (V_m2 : Arv Z h0 m2 k2 .int (2 : Int32) [(.int yh), (.int yl)] (.int (0 : Int32))) (hyh : 0 ≤ yh.toInt) :
    MetFree l yN35 (head1 (Jvm.Cond.code yN35 jdk_2097_method_32_code 4 (some (.object "java/math/BigInteger")) :: ws) ({ frames := 3, cells := 2, slots := 8, locals := 39 } : Room)) (fun a U => a = #[(.ref o0), (.ref o1)] ∧ Z.Warmed39 U.vm ∧ U.heap = h0) (fun _ _ _ _ _ => True) (fun _ U o U' => ∃ v L, o = .returned v ∧ Q_rm_ba12 Z o0 o1 m1 m2 k1 k2 xl yh yl h0 n0 v U'.heap L ∧ FrameEnd U o U' L ({ frames := 3, cells := 2, slots := 8, locals := 39 } : Room).cells ({ frames := 3, cells := 2, slots := 8, locals := 39 } : Room).slots) := by
  refine MetFree.of_bodySF (plainFor_of_name pn_rm_ba12) hisR ?_
  intro p e s m args below meth c s₁ Bd hml0 hP hK
  obtain ⟨rfl, hZ, hh⟩ := hP
  have hx := Bd.exec
  have hby := Bd.bytes
  have hml : c.maxLocals = 4 := hml0
  have hown : s.vm.findClass "java/math/BigInteger" = some m.cls := findClass_of_methodNamed Bd.named
  have hnm := (name_of_methodNamed Bd.named Bd.method).1
  have X0 : Stand p l e ({ frames := 3, cells := 2, slots := 8, locals := 39 } : Room) s m #[(.ref o0), (.ref o1)] below meth c s₁ [] 0 0 := Stand.of_body Bd
  have e0 : s₁.heap = h0 := by rw [← hh, Bd.state]; rfl
  have N0 := Fr.nil n0
  have K0 := Keep.refl h0 []
  have go0 : Go p e below (s₁.setTop (entryFrame m #[(.ref o0), (.ref o1)] 4)) (s₁.setTop (mkF m 0 #[vR o0, vR o1, uu, uu] [])) := fun t k => castTop (ef_rm_ba12 m o0 o1) k
  have go1 := go0.st s₁ (mkF m 1 #[vR o0, vR o1, uu, uu] [sR o1]) (fun t k => by
    refine XS.aloadN X0.here hx rfl (hb hby d40_0) rfl rfl ?_
    exact k)
  obtain ⟨T2, X2, e2, st2⟩ := getF X0 hx hZ hown (host := "") (Or.inl (wD hw 226 rfl)) Via.refl e0 F_signum_o1 (g := (mkF m 1 #[vR o0, vR o1, uu, uu] [sR o1])) rfl rfl (hb hby d40_1)
  have go4 := go1.st T2 (mkF m 10 #[vR o0, vR o1, uu, uu] [sR o0]) (fun t k => by
    refine st2 _ ?_
    show SP p e below T2 (mkF m 4 #[vR o0, vR o1, uu, uu] [sI i1]) _
    refine XS.ifYes X2.here hx rfl (pc0 := 4) (pc' := 9) rfl (hb hby d40_4) rfl ((if0 _ _).trans (feq ((by decide) : ¬ ((1 : Int32) = (0 : Int32)))).2) (by decide) (by decide) ?_
    refine XS.aloadN X2.here hx rfl (hb hby d40_9) rfl rfl ?_
    exact k)
  obtain ⟨T5, X5, e5, st5⟩ := getF X2 hx hZ hown (host := "") (Or.inl (wD hw 226 rfl)) Via.refl e2 F_signum_o0 (g := (mkF m 10 #[vR o0, vR o1, uu, uu] [sR o0])) rfl rfl (hb hby d40_10)
  have go7 := go4.st T5 (mkF m 19 #[vR o0, vR o1, uu, uu] [sR o1]) (fun t k => by
    refine st5 _ ?_
    show SP p e below T5 (mkF m 13 #[vR o0, vR o1, uu, uu] [sI i1]) _
    refine XS.ifYes X5.here hx rfl (pc0 := 13) (pc' := 18) rfl (hb hby d40_13) rfl ((if0 _ _).trans (feq ((by decide) : ¬ ((1 : Int32) = (0 : Int32)))).2) (by decide) (by decide) ?_
    refine XS.aloadN X5.here hx rfl (hb hby d40_18) rfl rfl ?_
    exact k)
  obtain ⟨T8, X8, e8, st8⟩ := getF X5 hx hZ hown (host := "") (Or.inl (wD hw 226 rfl)) Via.refl e5 F_signum_o1 (g := (mkF m 19 #[vR o0, vR o1, uu, uu] [sR o1])) rfl rfl (hb hby d40_19)
  have go9 := go7.st T8 (mkF m 23 #[vR o0, vR o1, uu, uu] [sR o0, sI i1]) (fun t k => by
    refine st8 _ ?_
    show SP p e below T8 (mkF m 22 #[vR o0, vR o1, uu, uu] [sI i1]) _
    refine XS.aloadN X8.here hx rfl (hb hby d40_22) rfl rfl ?_
    exact k)
  obtain ⟨T10, X10, e10, st10⟩ := getF X8 hx hZ hown (host := "") (Or.inl (wD hw 226 rfl)) Via.refl e8 F_signum_o0 (g := (mkF m 23 #[vR o0, vR o1, uu, uu] [sR o0, sI i1])) rfl rfl (hb hby d40_23)
  have go12 := go9.st T10 (mkF m 29 #[vR o0, vR o1, uu, uu] []) (fun t k => by
    refine st10 _ ?_
    show SP p e below T10 (mkF m 26 #[vR o0, vR o1, uu, uu] [sI i1, sI i1]) _
    refine XS.icmpNo X10.here hx rfl (hb hby d40_26) rfl (teq ((by decide) : (1 : Int32) = (1 : Int32))).2 ?_
    exact k)
  obtain ⟨T13, h13, X13, e13, E13, A13, D13, -, st13⟩ := newO X10 hx hZ hown (wD hw 228 rfl) (wD hw 229 rfl) (wD hw 214 rfl) e10 (g := (mkF m 29 #[vR o0, vR o1, uu, uu] [])) rfl (hb hby d40_29) (by decide) (by decide)
  obtain ⟨b13, g13⟩ : ∃ z, z = h0.size := ⟨_, rfl⟩
  rw [← g13] at A13 D13 st13
  have ne_o1_b13 : o1 ≠ b13 := Nat.ne_of_lt (Nat.lt_of_lt_of_le F_signum_o1.lt (Nat.le_of_eq g13.symm))
  have ne_o0_b13 : o0 ≠ b13 := Nat.ne_of_lt (Nat.lt_of_lt_of_le F_signum_o0.lt (Nat.le_of_eq g13.symm))
  have ne_m1_b13 : m1 ≠ b13 := Nat.ne_of_lt (Nat.lt_of_lt_of_le V_m1.lt (Nat.le_of_eq g13.symm))
  have ne_m2_b13 : m2 ≠ b13 := Nat.ne_of_lt (Nat.lt_of_lt_of_le V_m2.lt (Nat.le_of_eq g13.symm))
  have g_b13 : n0 ≤ b13 := Nat.le_trans Z0 (Nat.le_of_eq g13.symm)
  have sz_b13 : h0.size ≤ b13 := Nat.le_trans K0.1 (Nat.le_of_eq g13.symm)
  have f14 := F_signum_o1.ext E13
  have f15 := F_signum_o0.ext E13
  have f16 := F_mag_o0.ext E13
  have f17 := F_mag_o1.ext E13
  have f18 := V_m1.ext E13
  have f19 := V_m2.ext E13
  have F13_signum : Fld Z h13 b13 "java/math/BigInteger" "signum" "I" (.int (0 : Int32)) := D13 (Or.inr (wD hw 227 rfl)) (ty := .int) (by decide)
  have F13_mag : Fld Z h13 b13 "java/math/BigInteger" "mag" "[I" .null := D13 (Or.inr (wD hw 243 rfl)) (ty := (.array .int)) (by decide)
  have Z13 : n0 ≤ h13.size := Nat.le_trans Z0 E13.1
  have K13 := K0.ext E13
  have go20 := go12.st T13 (mkF m 34 #[vR o0, vR o1, uu, uu] [sR o0, sR b13, sR b13]) (fun t k => by
    refine st13 _ ?_
    show SP p e below T13 (mkF m 32 #[vR o0, vR o1, uu, uu] [sR b13]) _
    refine XS.dup X13.here hx rfl (hb hby d40_32) rfl rfl ?_
    refine XS.aloadN X13.here hx rfl (hb hby d40_33) rfl rfl ?_
    exact k)
  obtain ⟨T21, X21, e21, st21⟩ := getF X13 hx hZ hown (host := "") (Or.inl (wD hw 242 rfl)) Via.refl e13 f16 (g := (mkF m 34 #[vR o0, vR o1, uu, uu] [sR o0, sR b13, sR b13])) rfl rfl (hb hby d40_34)
  have go22 := go20.st T21 (mkF m 38 #[vR o0, vR o1, uu, uu] [sR o1, sR m1, sR b13, sR b13]) (fun t k => by
    refine st21 _ ?_
    show SP p e below T21 (mkF m 37 #[vR o0, vR o1, uu, uu] [sR m1, sR b13, sR b13]) _
    refine XS.aloadN X21.here hx rfl (hb hby d40_37) rfl rfl ?_
    exact k)
  obtain ⟨T23, X23, e23, st23⟩ := getF X21 hx hZ hown (host := "") (Or.inl (wD hw 242 rfl)) Via.refl e21 f17 (g := (mkF m 38 #[vR o0, vR o1, uu, uu] [sR o1, sR m1, sR b13, sR b13])) rfl rfl (hb hby d40_38)
  have go24 := go22.st T23 (mkF m 41 #[vR o0, vR o1, uu, uu] [sR m2, sR m1, sR b13, sR b13]) (fun t k => by
    refine st23 _ ?_
    exact k)
  obtain ⟨_, _, ⟨T25, L25, k25, n25⟩, -, X25, ⟨Lc25, hQ25, l25, y25, z25⟩, st25⟩ := Jvm.LawKit.callS X23 hx (y := yN33) hown (mvT hZ (wD hw 244 rfl)) (mvT hZ (wD hw 245 rfl)) (mvT hZ (wD hw 214 rfl)) (mvT hZ (wD hw 246 rfl)) (by decide) (backOf (W := 2) (rm_mg12 l Z a0 hw [] m1 m2 k1 k2 xl yh yl h13 n0 Z13 f18 f19 hyh) hZ (wD hw 246 rfl) (wD hw 214 rfl) (by decide) (by decide)) (g := (mkF m 41 #[vR o0, vR o1, uu, uu] [sR m2, sR m1, sR b13, sR b13])) rfl (by rw [hml]; rfl) (argsL := [(.ref m1), (.ref m2)]) (rest := [(.ref b13), (.ref b13)]) (lenOf pd_rm_ba12_0 rfl) rfl (by show 2 * 0 + _ ≤ _; exact Nat.le_of_eq rfl) (hb hby d40_41) (fun _ _ => ⟨rfl, e23, (by decide : 1 + 1 ≤ _), (by decide : 6 + 2 ≤ _)⟩)
  dsimp only [Pt.U, Pt.locs, Pt.cells, Pt.slots] at X25 l25 y25 z25 st25 hQ25
  rw [l25, y25, z25] at X25
  obtain ⟨b_25, kb_25, r0_25, r1_25, rfl, N25q, K25, qp25_0, qp25_1, qp25_2⟩ := hQ25
  have N25 := Fr.app N0 N25q
  have f26 := f14.keep K25 nin0
  have f27 := f15.keep K25 nin0
  have f28 := f16.keep K25 nin0
  have f29 := f17.keep K25 nin0
  have f30 := f18.keep K25 nin0
  have f31 := f19.keep K25 nin0
  have f32 := A13.keep K25
  have f33 := F13_signum.keep K25 nin0
  have f34 := F13_mag.keep K25 nin0
  have Z25 : n0 ≤ T25.heap.size := Nat.le_trans Z13 K25.1
  have KK25 := K13.trans K25 all0
  have g_b_25 := qp25_0
  have sz_b_25 := Nat.le_trans K13.1 qp25_1
  have ne_o1_b_25 : o1 ≠ b_25 := Nat.ne_of_lt (Nat.lt_of_lt_of_le f14.lt qp25_1)
  have ne_o0_b_25 : o0 ≠ b_25 := Nat.ne_of_lt (Nat.lt_of_lt_of_le f15.lt qp25_1)
  have ne_m1_b_25 : m1 ≠ b_25 := Nat.ne_of_lt (Nat.lt_of_lt_of_le f18.lt qp25_1)
  have ne_m2_b_25 : m2 ≠ b_25 := Nat.ne_of_lt (Nat.lt_of_lt_of_le f19.lt qp25_1)
  have ne_b13_b_25 : b13 ≠ b_25 := Nat.ne_of_lt (Nat.lt_of_lt_of_le A13.lt qp25_1)
  have go35 := go24.st T25 (mkF m 45 #[vR o0, vR o1, uu, uu] [sR o0, sR b_25, sR b13, sR b13]) (fun t k => by
    refine st25 _ ?_
    show SP p e below T25 (mkF m 44 #[vR o0, vR o1, uu, uu] [sR b_25, sR b13, sR b13]) _
    refine XS.aloadN X25.here hx rfl (hb hby d40_44) rfl rfl ?_
    exact k)
  obtain ⟨T36, X36, e36, st36⟩ := getF X25 hx hZ hown (host := "") (Or.inl (wD hw 226 rfl)) Via.refl rfl f27 (g := (mkF m 45 #[vR o0, vR o1, uu, uu] [sR o0, sR b_25, sR b13, sR b13])) rfl rfl (hb hby d40_45)
  have go37 := go35.st T36 (mkF m 48 #[vR o0, vR o1, uu, uu] [sI i1, sR b_25, sR b13, sR b13]) (fun t k => by
    refine st36 _ ?_
    exact k)
  obtain ⟨_, _, ⟨T38, L38, k38, n38⟩, -, X38, ⟨Lc38, hQ38, l38, y38, z38⟩, st38⟩ := X36.specialBack hx (y := yN34) rfl hown (mvT hZ (wD hw 248 rfl)) (mvT hZ (wD hw 249 rfl)) (mvT hZ (wD hw 250 rfl)) (by decide) (backOf (W := 1) (rm_bi2 l Z a0 hw [] b13 b_25 kb_25 r0_25 r1_25 T25.heap n0 Z25 f32 g_b13 f33 f34 qp25_2 ne_b13_b_25) hZ (wD hw 250 rfl) (wD hw 214 rfl) (by decide) (by decide)) (g := (mkF m 48 #[vR o0, vR o1, uu, uu] [sI i1, sR b_25, sR b13, sR b13])) rfl (by rw [hml]; rfl) (Steps.refl _) (a := b13) (argsL := [(.ref b_25), (.int (1 : Int32))]) (rest := [(.ref b13)]) (lenOf pd_rm_ba12_1 rfl) rfl (by show 2 * 0 + _ ≤ _; exact Nat.le_of_eq rfl) (hb hby d40_48) (fun _ _ => ⟨rfl, e36, (by decide : 2 + 0 ≤ _), (by decide : 8 + 0 ≤ _)⟩)
  dsimp only [Pt.U, Pt.locs, Pt.cells, Pt.slots] at X38 l38 y38 z38 st38 hQ38
  rw [l38, y38, z38] at X38
  obtain ⟨rfl, N38q, K38, qp38_0⟩ := hQ38
  have N38 := Fr.app N25 N38q
  have f39 := f26.keep K38 (ninS ne_o1_b13 nin0)
  have f40 := f27.keep K38 (ninS ne_o0_b13 nin0)
  have f41 := f28.keep K38 (ninS ne_o0_b13 nin0)
  have f42 := f29.keep K38 (ninS ne_o1_b13 nin0)
  have f43 := f30.keep K38 (ninS ne_m1_b13 nin0)
  have f44 := f31.keep K38 (ninS ne_m2_b13 nin0)
  have f45 := f32.keep K38
  have f48 := qp25_2.keep K38 (ninS (Ne.symm ne_b13_b_25) nin0)
  have Z38 : n0 ≤ T38.heap.size := Nat.le_trans Z25 K38.1
  have KK38 := KK25.trans K38 (allS (Or.inr sz_b13) all0)
  have go49 := go37.st T38 (mkF m 51 #[vR o0, vR o1, uu, uu] [sR b13]) (fun t k => by
    refine st38.trans ?_
    exact k)
  obtain ⟨fs, hr, hrun, hended, hW, hsame⟩ := X38.leave (v := some (.ref b13)) (fun h => by rw [Bd.returns] at h; cases h)
  refine ⟨_, _, go49 _ ?_, hrun, hended, _, _, rfl, ?_, ⟨_, rfl⟩, hW, hsame.mono (by decide) (by decide)⟩
  · exact own_retA X38 hx Bd.returns rfl rfl (hb hby d40_51) hr
  · show Q_rm_ba12 Z o0 o1 m1 m2 k1 k2 xl yh yl h0 n0 _ T38.heap _
    exact ⟨b13, rfl, N38, KK38⟩
theorem d38_0 : decode prog_89_method_5_code 0 = .ok (.getstatic 51, 3) := by decide +kernel
theorem d38_3 : decode prog_89_method_5_code 3 = .ok (.astore_n 1, 1) := by decide +kernel
theorem d38_4 : decode prog_89_method_5_code 4 = .ok (.lconst 0, 1) := by decide +kernel
theorem d38_5 : decode prog_89_method_5_code 5 = .ok (.lstore_n 2, 1) := by decide +kernel
theorem d38_6 : decode prog_89_method_5_code 6 = .ok (.aload_n 0, 1) := by decide +kernel
theorem d38_7 : decode prog_89_method_5_code 7 = .ok (.astore 4, 2) := by decide +kernel
theorem d38_9 : decode prog_89_method_5_code 9 = .ok (.aload 4, 2) := by decide +kernel
theorem d38_11 : decode prog_89_method_5_code 11 = .ok (.arraylength, 1) := by decide +kernel
theorem d38_12 : decode prog_89_method_5_code 12 = .ok (.istore 5, 2) := by decide +kernel
theorem d38_14 : decode prog_89_method_5_code 14 = .ok (.iconst 0, 1) := by decide +kernel
theorem d38_15 : decode prog_89_method_5_code 15 = .ok (.istore 6, 2) := by decide +kernel
theorem d38_17 : decode prog_89_method_5_code 17 = .ok (.iload 6, 2) := by decide +kernel
theorem d38_19 : decode prog_89_method_5_code 19 = .ok (.iload 5, 2) := by decide +kernel
theorem d38_21 : decode prog_89_method_5_code 21 = .ok (.if_icmp .ge 43, 3) := by decide +kernel
theorem d38_24 : decode prog_89_method_5_code 24 = .ok (.aload 4, 2) := by decide +kernel
theorem d38_26 : decode prog_89_method_5_code 26 = .ok (.iload 6, 2) := by decide +kernel
theorem d38_28 : decode prog_89_method_5_code 28 = .ok (.laload, 1) := by decide +kernel
theorem d38_29 : decode prog_89_method_5_code 29 = .ok (.lstore 7, 2) := by decide +kernel
theorem d38_31 : decode prog_89_method_5_code 31 = .ok (.lload_n 2, 1) := by decide +kernel
theorem d38_32 : decode prog_89_method_5_code 32 = .ok (.ldc2_w 58, 3) := by decide +kernel
theorem d38_35 : decode prog_89_method_5_code 35 = .ok (.lload 7, 2) := by decide +kernel
theorem d38_37 : decode prog_89_method_5_code 37 = .ok (.lsub, 1) := by decide +kernel
theorem d38_38 : decode prog_89_method_5_code 38 = .ok (.lcmp, 1) := by decide +kernel
theorem d38_39 : decode prog_89_method_5_code 39 = .ok (.ifCond .le 14, 3) := by decide +kernel
theorem d38_42 : decode prog_89_method_5_code 42 = .ok (.aload_n 1, 1) := by decide +kernel
theorem d38_43 : decode prog_89_method_5_code 43 = .ok (.lload_n 2, 1) := by decide +kernel
theorem d38_44 : decode prog_89_method_5_code 44 = .ok (.invokestatic 60, 3) := by decide +kernel
theorem d38_47 : decode prog_89_method_5_code 47 = .ok (.invokevirtual 64, 3) := by decide +kernel
theorem d38_50 : decode prog_89_method_5_code 50 = .ok (.astore_n 1, 1) := by decide +kernel
theorem d38_51 : decode prog_89_method_5_code 51 = .ok (.lconst 0, 1) := by decide +kernel
theorem d38_52 : decode prog_89_method_5_code 52 = .ok (.lstore_n 2, 1) := by decide +kernel
theorem d38_53 : decode prog_89_method_5_code 53 = .ok (.lload_n 2, 1) := by decide +kernel
theorem d38_54 : decode prog_89_method_5_code 54 = .ok (.lload 7, 2) := by decide +kernel
theorem d38_56 : decode prog_89_method_5_code 56 = .ok (.ladd, 1) := by decide +kernel
theorem d38_57 : decode prog_89_method_5_code 57 = .ok (.lstore_n 2, 1) := by decide +kernel
theorem d38_58 : decode prog_89_method_5_code 58 = .ok (.iinc 6 1, 3) := by decide +kernel
theorem d38_61 : decode prog_89_method_5_code 61 = .ok (.goto (-44), 3) := by decide +kernel
theorem d38_64 : decode prog_89_method_5_code 64 = .ok (.aload_n 1, 1) := by decide +kernel
theorem d38_65 : decode prog_89_method_5_code 65 = .ok (.lload_n 2, 1) := by decide +kernel
theorem d38_66 : decode prog_89_method_5_code 66 = .ok (.invokestatic 60, 3) := by decide +kernel
theorem d38_69 : decode prog_89_method_5_code 69 = .ok (.invokevirtual 64, 3) := by decide +kernel
theorem d38_72 : decode prog_89_method_5_code 72 = .ok (.areturn, 1) := by decide +kernel
theorem pn_rm_sum : plainName "com/example/equipoise/equipoise/WeightList" = true := by first | (simp [plainName, overriddenIn]; done) | decide +kernel
theorem pd_rm_sum_0 : parseMethodDescriptor "(J)Ljava/math/BigInteger;" = some ⟨[.long], some (.object "java/math/BigInteger")⟩ := by decide +kernel
theorem pd_rm_sum_1 : parseMethodDescriptor "(Ljava/math/BigInteger;)Ljava/math/BigInteger;" = some ⟨[(.object "java/math/BigInteger")], some (.object "java/math/BigInteger")⟩ := by decide +kernel
theorem ef_rm_sum (m : MethodId) (o0 : Addr) : entryFrame m #[(.ref o0)] 9 = mkF m 0 #[.val (.ref o0), uu, uu, uu, uu, uu, uu, uu, uu] [] := by first | (simp [entryFrame, mkF, argsToLocals, Value.category]; done) | rfl
def Q_rm_sum (Z : State) (o0 : Addr) (k0 : ClassId) (x0 : Int64) (x1 : Int64) (x2 : Int64) (zr : Addr) (h0 : Heap) (n0 : Nat) (v : Option Value) (h : Heap) (L : List Loc) : Prop := ∃ b : Addr, v = some (.ref b) ∧ Fr n0 L ∧ Keep h0 h []
set_option maxRecDepth 65536 in
set_option maxHeartbeats 40000000 in
theorem rm_sum (l : Launch) (Z : State) (a0 : Array Value) (hw : ∀ d ∈ tables_1, d.before a0 Z = true) (ws : List Jvm.Cond) (o0 : Addr) (k0 : ClassId) (x0 : Int64) (x1 : Int64) (x2 : Int64) (zr : Addr) (h0 : Heap) (n0 : Nat) (Z0 : n0 ≤ h0.size) (Ol : Old Z n0 h0) (S_zr : Sta Z Z.heap "java/math/BigInteger" "ZERO" "Ljava/math/BigInteger;" (.ref zr)) (E_zr : Exa Z Z.heap zr "java/math/BigInteger") (F_signum_zr : Fld Z Z.heap zr "java/math/BigInteger" "signum" "I" (.int (0 : Int32))) (hPC : own_PC Z) (V_o0 : Arv Z h0 o0 k0 .long (3 : Int32) [(.long x0), (.long x1), (.long x2)] (.long (0 : Int64))) (hs : own_S x0 x1 x2) :
    MetFree l yN36 (head1 (Jvm.Cond.code yN36 prog_89_method_5_code 9 (some (.object "java/math/BigInteger")) :: ws) ({ frames := 4, cells := 6, slots := 24, locals := 54 } : Room)) (fun a U => a = #[(.ref o0)] ∧ Z.Warmed39 U.vm ∧ U.heap = h0) (fun _ _ _ _ _ => True) (fun _ U o U' => ∃ v L, o = .returned v ∧ Q_rm_sum Z o0 k0 x0 x1 x2 zr h0 n0 v U'.heap L ∧ FrameEnd U o U' L ({ frames := 4, cells := 6, slots := 24, locals := 54 } : Room).cells ({ frames := 4, cells := 6, slots := 24, locals := 54 } : Room).slots) := by
  refine MetFree.of_bodySF (plainFor_of_name pn_rm_sum) hisR ?_
  intro p e s m args below meth c s₁ Bd hml0 hP hK
  obtain ⟨rfl, hZ, hh⟩ := hP
  have hx := Bd.exec
  have hby := Bd.bytes
  have hml : c.maxLocals = 9 := hml0
  have hown : s.vm.findClass "com/example/equipoise/equipoise/WeightList" = some m.cls := findClass_of_methodNamed Bd.named
  have hnm := (name_of_methodNamed Bd.named Bd.method).1
  have X0 : Stand p l e ({ frames := 4, cells := 6, slots := 24, locals := 54 } : Room) s m #[(.ref o0)] below meth c s₁ [] 0 0 := Stand.of_body Bd
  have e0 : s₁.heap = h0 := by rw [← hh, Bd.state]; rfl
  have N0 := Fr.nil n0
  have K0 := Keep.refl h0 []
  have go0 : Go p e below (s₁.setTop (entryFrame m #[(.ref o0)] 9)) (s₁.setTop (mkF m 0 #[vR o0, uu, uu, uu, uu, uu, uu, uu, uu] [])) := fun t k => castTop (ef_rm_sum m o0) k
  have f1 := S_zr.ext Ol.2
  obtain ⟨T2, X2, e2, st2⟩ := getS2 X0 hx hZ hown (host := "") (Or.inl (wD hw 213 rfl)) Via.refl e0 f1 (g := (mkF m 0 #[vR o0, uu, uu, uu, uu, uu, uu, uu, uu] [])) rfl (hb hby d38_0)
  have go3 := go0.st T2 (mkF m 11 #[vR o0, vR zr, vJ ((0 : Int64)), sc, vR o0, uu, uu, uu, uu] [sR o0]) (fun t k => by
    refine st2 _ ?_
    show SP p e below T2 (mkF m 3 #[vR o0, uu, uu, uu, uu, uu, uu, uu, uu] [sR zr]) _
    refine XS.astoreN X2.here hx rfl (hb hby d38_3) rfl rfl (l' := #[vR o0, vR zr, uu, uu, uu, uu, uu, uu, uu]) rfl ?_
    refine XS.lconst X2.here hx rfl (hb hby d38_4) ?_
    refine XS.lstoreN X2.here hx rfl (hb hby d38_5) rfl (l' := #[vR o0, vR zr, vJ ((0 : Int64)), sc, uu, uu, uu, uu, uu]) rfl ?_
    refine XS.aloadN X2.here hx rfl (hb hby d38_6) rfl rfl ?_
    refine XS.astore X2.here hx rfl (hb hby d38_7) rfl rfl (l' := #[vR o0, vR zr, vJ ((0 : Int64)), sc, vR o0, uu, uu, uu, uu]) rfl ?_
    refine XS.aload X2.here hx rfl (hb hby d38_9) rfl rfl ?_
    exact k)
  have Vo4 := V_o0
  obtain ⟨cl4, Ar4, qa4, Sa4, Na4, Ha4, Ga4⟩ := Vo4
  have go6 := go3.st T2 (mkF m 28 #[vR o0, vR zr, vJ ((0 : Int64)), sc, vR o0, vI ((3 : Int32)), vI i0, uu, uu] [sI i0, sR o0]) (fun t k => by
    refine X2.arraylength hx (by rw [e2]; exact Ar4.1) (State.isArrayOf_alike hZ.alike Ar4.2.1) (g := (mkF m 11 #[vR o0, vR zr, vJ ((0 : Int64)), sc, vR o0, uu, uu, uu, uu] [sR o0])) rfl rfl (hb hby d38_11) _ ?_
    rw [len_of Sa4 Na4]
    refine XS.istore X2.here hx rfl (hb hby d38_12) rfl (l' := #[vR o0, vR zr, vJ ((0 : Int64)), sc, vR o0, vI ((3 : Int32)), uu, uu, uu]) rfl ?_
    refine XS.iconst X2.here hx rfl (hb hby d38_14) ?_
    refine XS.istore X2.here hx rfl (hb hby d38_15) rfl (l' := #[vR o0, vR zr, vJ ((0 : Int64)), sc, vR o0, vI ((3 : Int32)), vI i0, uu, uu]) rfl ?_
    refine XS.iload X2.here hx rfl (hb hby d38_17) rfl ?_
    refine XS.iload X2.here hx rfl (hb hby d38_19) rfl ?_
    refine XS.icmpNo X2.here hx rfl (hb hby d38_21) rfl (tlt ((by decide) : (0 : Int32) < (3 : Int32))).2.1 ?_
    refine XS.aload X2.here hx rfl (hb hby d38_24) rfl rfl ?_
    show SP p e below T2 (mkF m 26 #[vR o0, vR zr, vJ ((0 : Int64)), sc, vR o0, vI ((3 : Int32)), vI i0, uu, uu] [sR o0]) _
    refine XS.iload X2.here hx rfl (hb hby d38_26) rfl ?_
    exact k)
  have Vo7 := V_o0
  obtain ⟨cl7, Ar7, qa7, Sa7, Na7, Ha7, Ga7⟩ := Vo7
  have hin7 := inb_of (j := (0 : Int32)) Sa7 ⟨by decide, by decide⟩
  have hat7 : cl7.slots[((0 : Int32)).toNatClampNeg]? = some (.long x0) := Has.at Ha7 hin7 rfl
  have go10 := go6.st T2 (mkF m 28 #[vR o0, vR zr, vJ (((0 : Int64) + x0)), sc, vR o0, vI ((3 : Int32)), vI i1, vJ x0, sc] [sI i1, sR o0]) (fun t k => by
    refine X2.laload hx (j := (0 : Int32)) (v := (.long x0)) (by rw [e2]; exact Ar7.1) (State.isArrayOf_alike hZ.alike Ar7.2.1) Ar7.2.2 hin7 hat7 (g := (mkF m 28 #[vR o0, vR zr, vJ ((0 : Int64)), sc, vR o0, vI ((3 : Int32)), vI i0, uu, uu] [sI i0, sR o0])) rfl rfl (hb hby d38_28) _ ?_
    refine XS.lstore X2.here hx rfl (hb hby d38_29) rfl (l' := #[vR o0, vR zr, vJ ((0 : Int64)), sc, vR o0, vI ((3 : Int32)), vI i0, vJ x0, sc]) rfl ?_
    refine XS.lloadN X2.here hx rfl (hb hby d38_31) rfl ?_
    refine X2.ldc2Long hx hown (mvT hZ (wD hw 215 rfl)) (g := (mkF m 32 #[vR o0, vR zr, vJ ((0 : Int64)), sc, vR o0, vI ((3 : Int32)), vI i0, vJ x0, sc] [(sJ (0 : Int64))])) rfl (hb hby d38_32) _ ?_
    refine XS.lload X2.here hx rfl (hb hby d38_35) rfl ?_
    refine XS.lsub X2.here hx rfl (hb hby d38_37) rfl ?_
    refine XS.lcmp X2.here hx rfl (hb hby d38_38) rfl ?_
    refine XS.ifYes X2.here hx rfl (pc0 := 39) (pc' := 53) rfl (hb hby d38_39) rfl ((if0 _ _).trans (flt (fun q => (own_s0 hs : ¬ (((9223372036854775807 : Int64) - x0) < (0 : Int64))) ((lw_gt _ _).mp q))).2.2.2) (by decide) (by decide) ?_
    show SP p e below T2 (mkF m 53 #[vR o0, vR zr, vJ ((0 : Int64)), sc, vR o0, vI ((3 : Int32)), vI i0, vJ x0, sc] []) _
    refine XS.lloadN X2.here hx rfl (hb hby d38_53) rfl ?_
    refine XS.lload X2.here hx rfl (hb hby d38_54) rfl ?_
    refine XS.ladd X2.here hx rfl (hb hby d38_56) rfl ?_
    refine XS.lstoreN X2.here hx rfl (hb hby d38_57) rfl (l' := #[vR o0, vR zr, vJ (((0 : Int64) + x0)), sc, vR o0, vI ((3 : Int32)), vI i0, vJ x0, sc]) rfl ?_
    refine XS.iinc X2.here hx rfl (hb hby d38_58) rfl (l' := #[vR o0, vR zr, vJ (((0 : Int64) + x0)), sc, vR o0, vI ((3 : Int32)), vI i1, vJ x0, sc]) rfl ?_
    refine XS.goto X2.here hx rfl (pc0 := 61) (pc' := 17) rfl (hb hby d38_61) (by decide) (by decide) ?_
    refine XS.iload X2.here hx rfl (hb hby d38_17) rfl ?_
    refine XS.iload X2.here hx rfl (hb hby d38_19) rfl ?_
    refine XS.icmpNo X2.here hx rfl (hb hby d38_21) rfl (tlt ((by decide) : (1 : Int32) < (3 : Int32))).2.1 ?_
    show SP p e below T2 (mkF m 24 #[vR o0, vR zr, vJ (((0 : Int64) + x0)), sc, vR o0, vI ((3 : Int32)), vI i1, vJ x0, sc] []) _
    refine XS.aload X2.here hx rfl (hb hby d38_24) rfl rfl ?_
    refine XS.iload X2.here hx rfl (hb hby d38_26) rfl ?_
    exact k)
  have Vo11 := V_o0
  obtain ⟨cl11, Ar11, qa11, Sa11, Na11, Ha11, Ga11⟩ := Vo11
  have hin11 := inb_of (j := (1 : Int32)) Sa11 ⟨by decide, by decide⟩
  have hat11 : cl11.slots[((1 : Int32)).toNatClampNeg]? = some (.long x1) := Has.at Ha11 hin11 rfl
  have go14 := go10.st T2 (mkF m 28 #[vR o0, vR zr, vJ ((((0 : Int64) + x0) + x1)), sc, vR o0, vI ((3 : Int32)), vI i2, vJ x1, sc] [sI i2, sR o0]) (fun t k => by
    refine X2.laload hx (j := (1 : Int32)) (v := (.long x1)) (by rw [e2]; exact Ar11.1) (State.isArrayOf_alike hZ.alike Ar11.2.1) Ar11.2.2 hin11 hat11 (g := (mkF m 28 #[vR o0, vR zr, vJ (((0 : Int64) + x0)), sc, vR o0, vI ((3 : Int32)), vI i1, vJ x0, sc] [sI i1, sR o0])) rfl rfl (hb hby d38_28) _ ?_
    refine XS.lstore X2.here hx rfl (hb hby d38_29) rfl (l' := #[vR o0, vR zr, vJ (((0 : Int64) + x0)), sc, vR o0, vI ((3 : Int32)), vI i1, vJ x1, sc]) rfl ?_
    refine XS.lloadN X2.here hx rfl (hb hby d38_31) rfl ?_
    refine X2.ldc2Long hx hown (mvT hZ (wD hw 215 rfl)) (g := (mkF m 32 #[vR o0, vR zr, vJ (((0 : Int64) + x0)), sc, vR o0, vI ((3 : Int32)), vI i1, vJ x1, sc] [(sJ ((0 : Int64) + x0))])) rfl (hb hby d38_32) _ ?_
    refine XS.lload X2.here hx rfl (hb hby d38_35) rfl ?_
    refine XS.lsub X2.here hx rfl (hb hby d38_37) rfl ?_
    refine XS.lcmp X2.here hx rfl (hb hby d38_38) rfl ?_
    refine XS.ifYes X2.here hx rfl (pc0 := 39) (pc' := 53) rfl (hb hby d38_39) rfl ((if0 _ _).trans (flt (fun q => (own_s1 hs : ¬ (((9223372036854775807 : Int64) - x1) < ((0 : Int64) + x0))) ((lw_gt _ _).mp q))).2.2.2) (by decide) (by decide) ?_
    show SP p e below T2 (mkF m 53 #[vR o0, vR zr, vJ (((0 : Int64) + x0)), sc, vR o0, vI ((3 : Int32)), vI i1, vJ x1, sc] []) _
    refine XS.lloadN X2.here hx rfl (hb hby d38_53) rfl ?_
    refine XS.lload X2.here hx rfl (hb hby d38_54) rfl ?_
    refine XS.ladd X2.here hx rfl (hb hby d38_56) rfl ?_
    refine XS.lstoreN X2.here hx rfl (hb hby d38_57) rfl (l' := #[vR o0, vR zr, vJ ((((0 : Int64) + x0) + x1)), sc, vR o0, vI ((3 : Int32)), vI i1, vJ x1, sc]) rfl ?_
    refine XS.iinc X2.here hx rfl (hb hby d38_58) rfl (l' := #[vR o0, vR zr, vJ ((((0 : Int64) + x0) + x1)), sc, vR o0, vI ((3 : Int32)), vI i2, vJ x1, sc]) rfl ?_
    refine XS.goto X2.here hx rfl (pc0 := 61) (pc' := 17) rfl (hb hby d38_61) (by decide) (by decide) ?_
    refine XS.iload X2.here hx rfl (hb hby d38_17) rfl ?_
    refine XS.iload X2.here hx rfl (hb hby d38_19) rfl ?_
    refine XS.icmpNo X2.here hx rfl (hb hby d38_21) rfl (tlt ((by decide) : (2 : Int32) < (3 : Int32))).2.1 ?_
    show SP p e below T2 (mkF m 24 #[vR o0, vR zr, vJ ((((0 : Int64) + x0) + x1)), sc, vR o0, vI ((3 : Int32)), vI i2, vJ x1, sc] []) _
    refine XS.aload X2.here hx rfl (hb hby d38_24) rfl rfl ?_
    refine XS.iload X2.here hx rfl (hb hby d38_26) rfl ?_
    exact k)
  have Vo15 := V_o0
  obtain ⟨cl15, Ar15, qa15, Sa15, Na15, Ha15, Ga15⟩ := Vo15
  have hin15 := inb_of (j := (2 : Int32)) Sa15 ⟨by decide, by decide⟩
  have hat15 : cl15.slots[((2 : Int32)).toNatClampNeg]? = some (.long x2) := Has.at Ha15 hin15 rfl
  have go17 := go14.st T2 (mkF m 39 #[vR o0, vR zr, vJ ((((0 : Int64) + x0) + x1)), sc, vR o0, vI ((3 : Int32)), vI i2, vJ x2, sc] [(sI (lcmpW (((0 : Int64) + x0) + x1) (jM - x2)))]) (fun t k => by
    refine X2.laload hx (j := (2 : Int32)) (v := (.long x2)) (by rw [e2]; exact Ar15.1) (State.isArrayOf_alike hZ.alike Ar15.2.1) Ar15.2.2 hin15 hat15 (g := (mkF m 28 #[vR o0, vR zr, vJ ((((0 : Int64) + x0) + x1)), sc, vR o0, vI ((3 : Int32)), vI i2, vJ x1, sc] [sI i2, sR o0])) rfl rfl (hb hby d38_28) _ ?_
    refine XS.lstore X2.here hx rfl (hb hby d38_29) rfl (l' := #[vR o0, vR zr, vJ ((((0 : Int64) + x0) + x1)), sc, vR o0, vI ((3 : Int32)), vI i2, vJ x2, sc]) rfl ?_
    refine XS.lloadN X2.here hx rfl (hb hby d38_31) rfl ?_
    refine X2.ldc2Long hx hown (mvT hZ (wD hw 215 rfl)) (g := (mkF m 32 #[vR o0, vR zr, vJ ((((0 : Int64) + x0) + x1)), sc, vR o0, vI ((3 : Int32)), vI i2, vJ x2, sc] [(sJ (((0 : Int64) + x0) + x1))])) rfl (hb hby d38_32) _ ?_
    refine XS.lload X2.here hx rfl (hb hby d38_35) rfl ?_
    refine XS.lsub X2.here hx rfl (hb hby d38_37) rfl ?_
    refine XS.lcmp X2.here hx rfl (hb hby d38_38) rfl ?_
    exact k)
  by_cases hc16 : ((9223372036854775807 : Int64) - x2) < (((0 : Int64) + x0) + x1)
  · skip
    have go18 := go17.st T2 (mkF m 44 #[vR o0, vR zr, vJ ((((0 : Int64) + x0) + x1)), sc, vR o0, vI ((3 : Int32)), vI i2, vJ x2, sc] [(sJ (((0 : Int64) + x0) + x1)), sR zr]) (fun t k => by
      refine XS.ifNo X2.here hx rfl (hb hby d38_39) rfl ((if0 _ _).trans (tlt ((lw_gt _ _).mpr hc16)).2.2.2) ?_
      refine XS.aloadN X2.here hx rfl (hb hby d38_42) rfl rfl ?_
      refine XS.lloadN X2.here hx rfl (hb hby d38_43) rfl ?_
      exact k)
    have hAB := own_sA hs hc16
    by_cases hA : ((own_usrL (((0 : Int64) + x0) + x1) (32 : Int32)).toInt32) = (0 : Int32)
    · skip
      obtain ⟨_, _, ⟨T19, L19, k19, n19⟩, -, X19, ⟨Lc19, hQ19, l19, y19, z19⟩, st19⟩ := Jvm.LawKit.callS X2 hx (y := yN32) hown (mvT hZ (wD hw 216 rfl)) (mvT hZ (wD hw 217 rfl)) (mvT hZ (wD hw 214 rfl)) (mvT hZ (wD hw 218 rfl)) (by decide) (backOf (W := 1) (rm_vo1 l Z a0 hw [] (((0 : Int64) + x0) + x1) h0 n0 Z0 Ol hPC hAB.1 hA) hZ (wD hw 218 rfl) (wD hw 214 rfl) (by decide) (by decide)) (g := (mkF m 44 #[vR o0, vR zr, vJ ((((0 : Int64) + x0) + x1)), sc, vR o0, vI ((3 : Int32)), vI i2, vJ x2, sc] [(sJ (((0 : Int64) + x0) + x1)), sR zr])) rfl (by rw [hml]; rfl) (argsL := [(.long (((0 : Int64) + x0) + x1))]) (rest := [(.ref zr)]) (lenOf pd_rm_sum_0 rfl) rfl (by show 2 * 0 + _ ≤ _; exact Nat.le_of_eq rfl) (hb hby d38_44) (fun _ _ => ⟨rfl, e2, (by decide : 0 + 2 ≤ _), (by decide : 0 + 7 ≤ _)⟩)
      dsimp only [Pt.U, Pt.locs, Pt.cells, Pt.slots] at X19 l19 y19 z19 st19 hQ19
      rw [l19, y19, z19] at X19
      obtain ⟨b_19, mg_19, km_19, w_19, rfl, N19q, K19, qp19_0, qp19_1, qp19_2, qp19_3⟩ := hQ19
      have N19 := Fr.app N0 N19q
      have f20 := Old.keep Ol K19 all0
      have f21 := V_o0.keep K19 nin0
      have Z19 : n0 ≤ T19.heap.size := Nat.le_trans Z0 K19.1
      have KK19 := K0.trans K19 all0
      have go22 := go18.st T19 (mkF m 47 #[vR o0, vR zr, vJ ((((0 : Int64) + x0) + x1)), sc, vR o0, vI ((3 : Int32)), vI i2, vJ x2, sc] [sR b_19, sR zr]) (fun t k => by
        refine st19 _ ?_
        exact k)
      have f24 := F_signum_zr.ext f20.2
      have f25 := E_zr.ext f20.2
      obtain ⟨cq23, kq23, q23a, q23b, q23c⟩ := isOf hZ rfl f25
      obtain ⟨_, _, ⟨T23, L23, k23, n23⟩, -, X23, ⟨Lc23, hQ23, l23, y23, z23⟩, st23⟩ := X19.virtualBack hx (y := yN35) (z := yN35) hown (mvT hZ (wD hw 221 rfl)) (mvT hZ (wD hw 222 rfl)) (notFace_of_selects (args := #[]) (mvT hZ (wD hw 224 rfl))) (mvT hZ (wD hw 224 rfl)) (mvT hZ (wD hw 223 rfl)) (by decide) (backOf (W := 0) (rm_adz l Z a0 hw [] zr b_19 T19.heap n0 Z19 qp19_1 f24) hZ (wD hw 225 rfl) (wD hw 214 rfl) (by decide) (by decide)) q23a q23c (g := (mkF m 47 #[vR o0, vR zr, vJ ((((0 : Int64) + x0) + x1)), sc, vR o0, vI ((3 : Int32)), vI i2, vJ x2, sc] [sR b_19, sR zr])) rfl (by rw [hml]; rfl) (Steps.refl _) (argsL := [(.ref b_19)]) (rest := []) (lenOf pd_rm_sum_1 rfl) rfl (by show 2 * 0 + _ ≤ _; exact Nat.le_of_eq rfl) (hb hby d38_47) (fun _ _ => ⟨rfl, rfl, (by decide : 2 + 0 ≤ _), (by decide : 7 + 0 ≤ _)⟩)
      dsimp only [Pt.U, Pt.locs, Pt.cells, Pt.slots] at X23 l23 y23 z23 st23 hQ23
      rw [l23, y23, z23] at X23
      obtain ⟨rfl, N23q, e23⟩ := hQ23
      have N23 := Fr.app N19 N23q
      have go27 := go22.st T23 (mkF m 66 #[vR o0, vR b_19, vJ (((0 : Int64) + x2)), sc, vR o0, vI ((3 : Int32)), vI ((3 : Int32)), vJ x2, sc] [(sJ ((0 : Int64) + x2)), sR b_19]) (fun t k => by
        refine st23.trans ?_
        show SP p e below T23 (mkF m 50 #[vR o0, vR zr, vJ ((((0 : Int64) + x0) + x1)), sc, vR o0, vI ((3 : Int32)), vI i2, vJ x2, sc] [sR b_19]) _
        refine XS.astoreN X23.here hx rfl (hb hby d38_50) rfl rfl (l' := #[vR o0, vR b_19, vJ ((((0 : Int64) + x0) + x1)), sc, vR o0, vI ((3 : Int32)), vI i2, vJ x2, sc]) rfl ?_
        refine XS.lconst X23.here hx rfl (hb hby d38_51) ?_
        refine XS.lstoreN X23.here hx rfl (hb hby d38_52) rfl (l' := #[vR o0, vR b_19, vJ ((0 : Int64)), sc, vR o0, vI ((3 : Int32)), vI i2, vJ x2, sc]) rfl ?_
        refine XS.lloadN X23.here hx rfl (hb hby d38_53) rfl ?_
        refine XS.lload X23.here hx rfl (hb hby d38_54) rfl ?_
        refine XS.ladd X23.here hx rfl (hb hby d38_56) rfl ?_
        refine XS.lstoreN X23.here hx rfl (hb hby d38_57) rfl (l' := #[vR o0, vR b_19, vJ (((0 : Int64) + x2)), sc, vR o0, vI ((3 : Int32)), vI i2, vJ x2, sc]) rfl ?_
        refine XS.iinc X23.here hx rfl (hb hby d38_58) rfl (l' := #[vR o0, vR b_19, vJ (((0 : Int64) + x2)), sc, vR o0, vI ((3 : Int32)), vI ((3 : Int32)), vJ x2, sc]) rfl ?_
        refine XS.goto X23.here hx rfl (pc0 := 61) (pc' := 17) rfl (hb hby d38_61) (by decide) (by decide) ?_
        show SP p e below T23 (mkF m 17 #[vR o0, vR b_19, vJ (((0 : Int64) + x2)), sc, vR o0, vI ((3 : Int32)), vI ((3 : Int32)), vJ x2, sc] []) _
        refine XS.iload X23.here hx rfl (hb hby d38_17) rfl ?_
        refine XS.iload X23.here hx rfl (hb hby d38_19) rfl ?_
        refine XS.icmpYes X23.here hx rfl (pc0 := 21) (pc' := 64) rfl (hb hby d38_21) rfl (flt ((by decide) : ¬ ((3 : Int32) < (3 : Int32)))).2.1 (by decide) (by decide) ?_
        refine XS.aloadN X23.here hx rfl (hb hby d38_64) rfl rfl ?_
        refine XS.lloadN X23.here hx rfl (hb hby d38_65) rfl ?_
        exact k)
      by_cases hB : ((own_usrL ((0 : Int64) + x2) (32 : Int32)).toInt32) = (0 : Int32)
      · skip
        exact (own_s11 hs hA hB).elim
      · skip
        obtain ⟨_, _, ⟨T28, L28, k28, n28⟩, -, X28, ⟨Lc28, hQ28, l28, y28, z28⟩, st28⟩ := Jvm.LawKit.callS X23 hx (y := yN32) hown (mvT hZ (wD hw 216 rfl)) (mvT hZ (wD hw 217 rfl)) (mvT hZ (wD hw 214 rfl)) (mvT hZ (wD hw 218 rfl)) (by decide) (backOf (W := 1) (rm_vo2 l Z a0 hw [] ((0 : Int64) + x2) T19.heap n0 Z19 hAB.2 hB) hZ (wD hw 218 rfl) (wD hw 214 rfl) (by decide) (by decide)) (g := (mkF m 66 #[vR o0, vR b_19, vJ (((0 : Int64) + x2)), sc, vR o0, vI ((3 : Int32)), vI ((3 : Int32)), vJ x2, sc] [(sJ ((0 : Int64) + x2)), sR b_19])) rfl (by rw [hml]; rfl) (argsL := [(.long ((0 : Int64) + x2))]) (rest := [(.ref b_19)]) (lenOf pd_rm_sum_0 rfl) rfl (by show 2 * 0 + _ ≤ _; exact Nat.le_of_eq rfl) (hb hby d38_66) (fun _ _ => ⟨rfl, e23, (by decide : 2 + 2 ≤ _), (by decide : 7 + 8 ≤ _)⟩)
        dsimp only [Pt.U, Pt.locs, Pt.cells, Pt.slots] at X28 l28 y28 z28 st28 hQ28
        rw [l28, y28, z28] at X28
        obtain ⟨b_28, mg_28, km_28, rfl, N28q, K28, qp28_0, qp28_1, qp28_2, qp28_3⟩ := hQ28
        have N28 := Fr.app N23 N28q
        have f29 := Old.keep f20 K28 all0
        have f30 := f21.keep K28 nin0
        have f31 := qp19_0.keep K28
        have f32 := qp19_1.keep K28 nin0
        have f33 := qp19_2.keep K28 nin0
        have f34 := qp19_3.keep K28 nin0
        have Z28 : n0 ≤ T28.heap.size := Nat.le_trans Z19 K28.1
        have KK28 := KK19.trans K28 all0
        have go35 := go27.st T28 (mkF m 69 #[vR o0, vR b_19, vJ (((0 : Int64) + x2)), sc, vR o0, vI ((3 : Int32)), vI ((3 : Int32)), vJ x2, sc] [sR b_28, sR b_19]) (fun t k => by
          refine st28 _ ?_
          exact k)
        obtain ⟨cq36, kq36, q36a, q36b, q36c⟩ := isOf hZ rfl f31
        obtain ⟨_, _, ⟨T36, L36, k36, n36⟩, -, X36, ⟨Lc36, hQ36, l36, y36, z36⟩, st36⟩ := X28.virtualBack hx (y := yN35) (z := yN35) hown (mvT hZ (wD hw 221 rfl)) (mvT hZ (wD hw 222 rfl)) (notFace_of_selects (args := #[]) (mvT hZ (wD hw 224 rfl))) (mvT hZ (wD hw 224 rfl)) (mvT hZ (wD hw 223 rfl)) (by decide) (backOf (W := 0) (rm_ba12 l Z a0 hw [] b_19 b_28 mg_19 mg_28 km_19 km_28 w_19 ((own_usrL ((0 : Int64) + x2) (32 : Int32)).toInt32) (((0 : Int64) + x2).toInt32) T28.heap n0 Z28 qp28_1 f32 f33 qp28_2 f34 qp28_3 (by rw [own_hi (own_pos hAB.2).1]; exact Int.ediv_nonneg (own_pos hAB.2).1 (by decide))) hZ (wD hw 225 rfl) (wD hw 214 rfl) (by decide) (by decide)) q36a q36c (g := (mkF m 69 #[vR o0, vR b_19, vJ (((0 : Int64) + x2)), sc, vR o0, vI ((3 : Int32)), vI ((3 : Int32)), vJ x2, sc] [sR b_28, sR b_19])) rfl (by rw [hml]; rfl) (Steps.refl _) (argsL := [(.ref b_28)]) (rest := []) (lenOf pd_rm_sum_1 rfl) rfl (by show 2 * 0 + _ ≤ _; exact Nat.le_of_eq rfl) (hb hby d38_69) (fun _ _ => ⟨rfl, rfl, (by decide : 4 + 2 ≤ _), (by decide : 15 + 8 ≤ _)⟩)
        dsimp only [Pt.U, Pt.locs, Pt.cells, Pt.slots] at X36 l36 y36 z36 st36 hQ36
        rw [l36, y36, z36] at X36
        obtain ⟨b_36, rfl, N36q, K36⟩ := hQ36
        have N36 := Fr.app N28 N36q
        have f37 := Old.keep f29 K36 all0
        have f38 := f30.keep K36 nin0
        have f39 := f31.keep K36
        have f40 := f32.keep K36 nin0
        have f41 := f33.keep K36 nin0
        have f42 := f34.keep K36 nin0
        have f43 := qp28_0.keep K36
        have f44 := qp28_1.keep K36 nin0
        have f45 := qp28_2.keep K36 nin0
        have f46 := qp28_3.keep K36 nin0
        have Z36 : n0 ≤ T36.heap.size := Nat.le_trans Z28 K36.1
        have KK36 := KK28.trans K36 all0
        have go47 := go35.st T36 (mkF m 72 #[vR o0, vR b_19, vJ (((0 : Int64) + x2)), sc, vR o0, vI ((3 : Int32)), vI ((3 : Int32)), vJ x2, sc] [sR b_36]) (fun t k => by
          refine st36.trans ?_
          exact k)
        obtain ⟨fs, hr, hrun, hended, hW, hsame⟩ := X36.leave (v := some (.ref b_36)) (fun h => by rw [Bd.returns] at h; cases h)
        refine ⟨_, _, go47 _ ?_, hrun, hended, _, _, rfl, ?_, ⟨_, rfl⟩, hW, hsame.mono (by decide) (by decide)⟩
        · exact own_retA X36 hx Bd.returns rfl rfl (hb hby d38_72) hr
        · show Q_rm_sum Z o0 k0 x0 x1 x2 zr h0 n0 _ T36.heap _
          exact ⟨b_36, rfl, N36, KK36⟩
    · skip
      obtain ⟨_, _, ⟨T48, L48, k48, n48⟩, -, X48, ⟨Lc48, hQ48, l48, y48, z48⟩, st48⟩ := Jvm.LawKit.callS X2 hx (y := yN32) hown (mvT hZ (wD hw 216 rfl)) (mvT hZ (wD hw 217 rfl)) (mvT hZ (wD hw 214 rfl)) (mvT hZ (wD hw 218 rfl)) (by decide) (backOf (W := 1) (rm_vo2 l Z a0 hw [] (((0 : Int64) + x0) + x1) h0 n0 Z0 hAB.1 hA) hZ (wD hw 218 rfl) (wD hw 214 rfl) (by decide) (by decide)) (g := (mkF m 44 #[vR o0, vR zr, vJ ((((0 : Int64) + x0) + x1)), sc, vR o0, vI ((3 : Int32)), vI i2, vJ x2, sc] [(sJ (((0 : Int64) + x0) + x1)), sR zr])) rfl (by rw [hml]; rfl) (argsL := [(.long (((0 : Int64) + x0) + x1))]) (rest := [(.ref zr)]) (lenOf pd_rm_sum_0 rfl) rfl (by show 2 * 0 + _ ≤ _; exact Nat.le_of_eq rfl) (hb hby d38_44) (fun _ _ => ⟨rfl, e2, (by decide : 0 + 2 ≤ _), (by decide : 0 + 8 ≤ _)⟩)
      dsimp only [Pt.U, Pt.locs, Pt.cells, Pt.slots] at X48 l48 y48 z48 st48 hQ48
      rw [l48, y48, z48] at X48
      obtain ⟨b_48, mg_48, km_48, rfl, N48q, K48, qp48_0, qp48_1, qp48_2, qp48_3⟩ := hQ48
      have N48 := Fr.app N0 N48q
      have f49 := Old.keep Ol K48 all0
      have f50 := V_o0.keep K48 nin0
      have Z48 : n0 ≤ T48.heap.size := Nat.le_trans Z0 K48.1
      have KK48 := K0.trans K48 all0
      have go51 := go18.st T48 (mkF m 47 #[vR o0, vR zr, vJ ((((0 : Int64) + x0) + x1)), sc, vR o0, vI ((3 : Int32)), vI i2, vJ x2, sc] [sR b_48, sR zr]) (fun t k => by
        refine st48 _ ?_
        exact k)
      have f53 := F_signum_zr.ext f49.2
      have f54 := E_zr.ext f49.2
      obtain ⟨cq52, kq52, q52a, q52b, q52c⟩ := isOf hZ rfl f54
      obtain ⟨_, _, ⟨T52, L52, k52, n52⟩, -, X52, ⟨Lc52, hQ52, l52, y52, z52⟩, st52⟩ := X48.virtualBack hx (y := yN35) (z := yN35) hown (mvT hZ (wD hw 221 rfl)) (mvT hZ (wD hw 222 rfl)) (notFace_of_selects (args := #[]) (mvT hZ (wD hw 224 rfl))) (mvT hZ (wD hw 224 rfl)) (mvT hZ (wD hw 223 rfl)) (by decide) (backOf (W := 0) (rm_adz l Z a0 hw [] zr b_48 T48.heap n0 Z48 qp48_1 f53) hZ (wD hw 225 rfl) (wD hw 214 rfl) (by decide) (by decide)) q52a q52c (g := (mkF m 47 #[vR o0, vR zr, vJ ((((0 : Int64) + x0) + x1)), sc, vR o0, vI ((3 : Int32)), vI i2, vJ x2, sc] [sR b_48, sR zr])) rfl (by rw [hml]; rfl) (Steps.refl _) (argsL := [(.ref b_48)]) (rest := []) (lenOf pd_rm_sum_1 rfl) rfl (by show 2 * 0 + _ ≤ _; exact Nat.le_of_eq rfl) (hb hby d38_47) (fun _ _ => ⟨rfl, rfl, (by decide : 2 + 0 ≤ _), (by decide : 8 + 0 ≤ _)⟩)
      dsimp only [Pt.U, Pt.locs, Pt.cells, Pt.slots] at X52 l52 y52 z52 st52 hQ52
      rw [l52, y52, z52] at X52
      obtain ⟨rfl, N52q, e52⟩ := hQ52
      have N52 := Fr.app N48 N52q
      have go56 := go51.st T52 (mkF m 66 #[vR o0, vR b_48, vJ (((0 : Int64) + x2)), sc, vR o0, vI ((3 : Int32)), vI ((3 : Int32)), vJ x2, sc] [(sJ ((0 : Int64) + x2)), sR b_48]) (fun t k => by
        refine st52.trans ?_
        show SP p e below T52 (mkF m 50 #[vR o0, vR zr, vJ ((((0 : Int64) + x0) + x1)), sc, vR o0, vI ((3 : Int32)), vI i2, vJ x2, sc] [sR b_48]) _
        refine XS.astoreN X52.here hx rfl (hb hby d38_50) rfl rfl (l' := #[vR o0, vR b_48, vJ ((((0 : Int64) + x0) + x1)), sc, vR o0, vI ((3 : Int32)), vI i2, vJ x2, sc]) rfl ?_
        refine XS.lconst X52.here hx rfl (hb hby d38_51) ?_
        refine XS.lstoreN X52.here hx rfl (hb hby d38_52) rfl (l' := #[vR o0, vR b_48, vJ ((0 : Int64)), sc, vR o0, vI ((3 : Int32)), vI i2, vJ x2, sc]) rfl ?_
        refine XS.lloadN X52.here hx rfl (hb hby d38_53) rfl ?_
        refine XS.lload X52.here hx rfl (hb hby d38_54) rfl ?_
        refine XS.ladd X52.here hx rfl (hb hby d38_56) rfl ?_
        refine XS.lstoreN X52.here hx rfl (hb hby d38_57) rfl (l' := #[vR o0, vR b_48, vJ (((0 : Int64) + x2)), sc, vR o0, vI ((3 : Int32)), vI i2, vJ x2, sc]) rfl ?_
        refine XS.iinc X52.here hx rfl (hb hby d38_58) rfl (l' := #[vR o0, vR b_48, vJ (((0 : Int64) + x2)), sc, vR o0, vI ((3 : Int32)), vI ((3 : Int32)), vJ x2, sc]) rfl ?_
        refine XS.goto X52.here hx rfl (pc0 := 61) (pc' := 17) rfl (hb hby d38_61) (by decide) (by decide) ?_
        show SP p e below T52 (mkF m 17 #[vR o0, vR b_48, vJ (((0 : Int64) + x2)), sc, vR o0, vI ((3 : Int32)), vI ((3 : Int32)), vJ x2, sc] []) _
        refine XS.iload X52.here hx rfl (hb hby d38_17) rfl ?_
        refine XS.iload X52.here hx rfl (hb hby d38_19) rfl ?_
        refine XS.icmpYes X52.here hx rfl (pc0 := 21) (pc' := 64) rfl (hb hby d38_21) rfl (flt ((by decide) : ¬ ((3 : Int32) < (3 : Int32)))).2.1 (by decide) (by decide) ?_
        refine XS.aloadN X52.here hx rfl (hb hby d38_64) rfl rfl ?_
        refine XS.lloadN X52.here hx rfl (hb hby d38_65) rfl ?_
        exact k)
      by_cases hB : ((own_usrL ((0 : Int64) + x2) (32 : Int32)).toInt32) = (0 : Int32)
      · skip
        obtain ⟨_, _, ⟨T57, L57, k57, n57⟩, -, X57, ⟨Lc57, hQ57, l57, y57, z57⟩, st57⟩ := Jvm.LawKit.callS X52 hx (y := yN32) hown (mvT hZ (wD hw 216 rfl)) (mvT hZ (wD hw 217 rfl)) (mvT hZ (wD hw 214 rfl)) (mvT hZ (wD hw 218 rfl)) (by decide) (backOf (W := 1) (rm_vo1 l Z a0 hw [] ((0 : Int64) + x2) T48.heap n0 Z48 f49 hPC hAB.2 hB) hZ (wD hw 218 rfl) (wD hw 214 rfl) (by decide) (by decide)) (g := (mkF m 66 #[vR o0, vR b_48, vJ (((0 : Int64) + x2)), sc, vR o0, vI ((3 : Int32)), vI ((3 : Int32)), vJ x2, sc] [(sJ ((0 : Int64) + x2)), sR b_48])) rfl (by rw [hml]; rfl) (argsL := [(.long ((0 : Int64) + x2))]) (rest := [(.ref b_48)]) (lenOf pd_rm_sum_0 rfl) rfl (by show 2 * 0 + _ ≤ _; exact Nat.le_of_eq rfl) (hb hby d38_66) (fun _ _ => ⟨rfl, e52, (by decide : 2 + 2 ≤ _), (by decide : 8 + 7 ≤ _)⟩)
        dsimp only [Pt.U, Pt.locs, Pt.cells, Pt.slots] at X57 l57 y57 z57 st57 hQ57
        rw [l57, y57, z57] at X57
        obtain ⟨b_57, mg_57, km_57, w_57, rfl, N57q, K57, qp57_0, qp57_1, qp57_2, qp57_3⟩ := hQ57
        have N57 := Fr.app N52 N57q
        have f58 := Old.keep f49 K57 all0
        have f59 := f50.keep K57 nin0
        have f60 := qp48_0.keep K57
        have f61 := qp48_1.keep K57 nin0
        have f62 := qp48_2.keep K57 nin0
        have f63 := qp48_3.keep K57 nin0
        have Z57 : n0 ≤ T57.heap.size := Nat.le_trans Z48 K57.1
        have KK57 := KK48.trans K57 all0
        have go64 := go56.st T57 (mkF m 69 #[vR o0, vR b_48, vJ (((0 : Int64) + x2)), sc, vR o0, vI ((3 : Int32)), vI ((3 : Int32)), vJ x2, sc] [sR b_57, sR b_48]) (fun t k => by
          refine st57 _ ?_
          exact k)
        obtain ⟨cq65, kq65, q65a, q65b, q65c⟩ := isOf hZ rfl f60
        obtain ⟨_, _, ⟨T65, L65, k65, n65⟩, -, X65, ⟨Lc65, hQ65, l65, y65, z65⟩, st65⟩ := X57.virtualBack hx (y := yN35) (z := yN35) hown (mvT hZ (wD hw 221 rfl)) (mvT hZ (wD hw 222 rfl)) (notFace_of_selects (args := #[]) (mvT hZ (wD hw 224 rfl))) (mvT hZ (wD hw 224 rfl)) (mvT hZ (wD hw 223 rfl)) (by decide) (backOf (W := 0) (rm_ba21 l Z a0 hw [] b_48 b_57 mg_48 mg_57 km_48 km_57 ((own_usrL (((0 : Int64) + x0) + x1) (32 : Int32)).toInt32) ((((0 : Int64) + x0) + x1).toInt32) w_57 T57.heap n0 Z57 qp57_1 f61 f62 qp57_2 f63 qp57_3 (by rw [own_hi (own_pos hAB.1).1]; exact Int.ediv_nonneg (own_pos hAB.1).1 (by decide))) hZ (wD hw 225 rfl) (wD hw 214 rfl) (by decide) (by decide)) q65a q65c (g := (mkF m 69 #[vR o0, vR b_48, vJ (((0 : Int64) + x2)), sc, vR o0, vI ((3 : Int32)), vI ((3 : Int32)), vJ x2, sc] [sR b_57, sR b_48])) rfl (by rw [hml]; rfl) (Steps.refl _) (argsL := [(.ref b_57)]) (rest := []) (lenOf pd_rm_sum_1 rfl) rfl (by show 2 * 0 + _ ≤ _; exact Nat.le_of_eq rfl) (hb hby d38_69) (fun _ _ => ⟨rfl, rfl, (by decide : 4 + 2 ≤ _), (by decide : 15 + 8 ≤ _)⟩)
        dsimp only [Pt.U, Pt.locs, Pt.cells, Pt.slots] at X65 l65 y65 z65 st65 hQ65
        rw [l65, y65, z65] at X65
        obtain ⟨b_65, rfl, N65q, K65⟩ := hQ65
        have N65 := Fr.app N57 N65q
        have f66 := Old.keep f58 K65 all0
        have f67 := f59.keep K65 nin0
        have f68 := f60.keep K65
        have f69 := f61.keep K65 nin0
        have f70 := f62.keep K65 nin0
        have f71 := f63.keep K65 nin0
        have f72 := qp57_0.keep K65
        have f73 := qp57_1.keep K65 nin0
        have f74 := qp57_2.keep K65 nin0
        have f75 := qp57_3.keep K65 nin0
        have Z65 : n0 ≤ T65.heap.size := Nat.le_trans Z57 K65.1
        have KK65 := KK57.trans K65 all0
        have go76 := go64.st T65 (mkF m 72 #[vR o0, vR b_48, vJ (((0 : Int64) + x2)), sc, vR o0, vI ((3 : Int32)), vI ((3 : Int32)), vJ x2, sc] [sR b_65]) (fun t k => by
          refine st65.trans ?_
          exact k)
        obtain ⟨fs, hr, hrun, hended, hW, hsame⟩ := X65.leave (v := some (.ref b_65)) (fun h => by rw [Bd.returns] at h; cases h)
        refine ⟨_, _, go76 _ ?_, hrun, hended, _, _, rfl, ?_, ⟨_, rfl⟩, hW, hsame.mono (by decide) (by decide)⟩
        · exact own_retA X65 hx Bd.returns rfl rfl (hb hby d38_72) hr
        · show Q_rm_sum Z o0 k0 x0 x1 x2 zr h0 n0 _ T65.heap _
          exact ⟨b_65, rfl, N65, KK65⟩
      · skip
        obtain ⟨_, _, ⟨T77, L77, k77, n77⟩, -, X77, ⟨Lc77, hQ77, l77, y77, z77⟩, st77⟩ := Jvm.LawKit.callS X52 hx (y := yN32) hown (mvT hZ (wD hw 216 rfl)) (mvT hZ (wD hw 217 rfl)) (mvT hZ (wD hw 214 rfl)) (mvT hZ (wD hw 218 rfl)) (by decide) (backOf (W := 1) (rm_vo2 l Z a0 hw [] ((0 : Int64) + x2) T48.heap n0 Z48 hAB.2 hB) hZ (wD hw 218 rfl) (wD hw 214 rfl) (by decide) (by decide)) (g := (mkF m 66 #[vR o0, vR b_48, vJ (((0 : Int64) + x2)), sc, vR o0, vI ((3 : Int32)), vI ((3 : Int32)), vJ x2, sc] [(sJ ((0 : Int64) + x2)), sR b_48])) rfl (by rw [hml]; rfl) (argsL := [(.long ((0 : Int64) + x2))]) (rest := [(.ref b_48)]) (lenOf pd_rm_sum_0 rfl) rfl (by show 2 * 0 + _ ≤ _; exact Nat.le_of_eq rfl) (hb hby d38_66) (fun _ _ => ⟨rfl, e52, (by decide : 2 + 2 ≤ _), (by decide : 8 + 8 ≤ _)⟩)
        dsimp only [Pt.U, Pt.locs, Pt.cells, Pt.slots] at X77 l77 y77 z77 st77 hQ77
        rw [l77, y77, z77] at X77
        obtain ⟨b_77, mg_77, km_77, rfl, N77q, K77, qp77_0, qp77_1, qp77_2, qp77_3⟩ := hQ77
        have N77 := Fr.app N52 N77q
        have f78 := Old.keep f49 K77 all0
        have f79 := f50.keep K77 nin0
        have f80 := qp48_0.keep K77
        have f81 := qp48_1.keep K77 nin0
        have f82 := qp48_2.keep K77 nin0
        have f83 := qp48_3.keep K77 nin0
        have Z77 : n0 ≤ T77.heap.size := Nat.le_trans Z48 K77.1
        have KK77 := KK48.trans K77 all0
        have go84 := go56.st T77 (mkF m 69 #[vR o0, vR b_48, vJ (((0 : Int64) + x2)), sc, vR o0, vI ((3 : Int32)), vI ((3 : Int32)), vJ x2, sc] [sR b_77, sR b_48]) (fun t k => by
          refine st77 _ ?_
          exact k)
        obtain ⟨cq85, kq85, q85a, q85b, q85c⟩ := isOf hZ rfl f80
        obtain ⟨_, _, ⟨T85, L85, k85, n85⟩, -, X85, ⟨Lc85, hQ85, l85, y85, z85⟩, st85⟩ := X77.virtualBack hx (y := yN35) (z := yN35) hown (mvT hZ (wD hw 221 rfl)) (mvT hZ (wD hw 222 rfl)) (notFace_of_selects (args := #[]) (mvT hZ (wD hw 224 rfl))) (mvT hZ (wD hw 224 rfl)) (mvT hZ (wD hw 223 rfl)) (by decide) (backOf (W := 0) (rm_ba22 l Z a0 hw [] b_48 b_77 mg_48 mg_77 km_48 km_77 ((own_usrL (((0 : Int64) + x0) + x1) (32 : Int32)).toInt32) ((((0 : Int64) + x0) + x1).toInt32) ((own_usrL ((0 : Int64) + x2) (32 : Int32)).toInt32) (((0 : Int64) + x2).toInt32) T77.heap n0 Z77 qp77_1 f81 f82 qp77_2 f83 qp77_3 (by rw [own_hi (own_pos hAB.1).1]; exact Int.ediv_nonneg (own_pos hAB.1).1 (by decide)) (by rw [own_hi (own_pos hAB.2).1]; exact Int.ediv_nonneg (own_pos hAB.2).1 (by decide))) hZ (wD hw 225 rfl) (wD hw 214 rfl) (by decide) (by decide)) q85a q85c (g := (mkF m 69 #[vR o0, vR b_48, vJ (((0 : Int64) + x2)), sc, vR o0, vI ((3 : Int32)), vI ((3 : Int32)), vJ x2, sc] [sR b_77, sR b_48])) rfl (by rw [hml]; rfl) (Steps.refl _) (argsL := [(.ref b_77)]) (rest := []) (lenOf pd_rm_sum_1 rfl) rfl (by show 2 * 0 + _ ≤ _; exact Nat.le_of_eq rfl) (hb hby d38_69) (fun _ _ => ⟨rfl, rfl, (by decide : 4 + 2 ≤ _), (by decide : 16 + 8 ≤ _)⟩)
        dsimp only [Pt.U, Pt.locs, Pt.cells, Pt.slots] at X85 l85 y85 z85 st85 hQ85
        rw [l85, y85, z85] at X85
        obtain ⟨b_85, rfl, N85q, K85⟩ := hQ85
        have N85 := Fr.app N77 N85q
        have f86 := Old.keep f78 K85 all0
        have f87 := f79.keep K85 nin0
        have f88 := f80.keep K85
        have f89 := f81.keep K85 nin0
        have f90 := f82.keep K85 nin0
        have f91 := f83.keep K85 nin0
        have f92 := qp77_0.keep K85
        have f93 := qp77_1.keep K85 nin0
        have f94 := qp77_2.keep K85 nin0
        have f95 := qp77_3.keep K85 nin0
        have Z85 : n0 ≤ T85.heap.size := Nat.le_trans Z77 K85.1
        have KK85 := KK77.trans K85 all0
        have go96 := go84.st T85 (mkF m 72 #[vR o0, vR b_48, vJ (((0 : Int64) + x2)), sc, vR o0, vI ((3 : Int32)), vI ((3 : Int32)), vJ x2, sc] [sR b_85]) (fun t k => by
          refine st85.trans ?_
          exact k)
        obtain ⟨fs, hr, hrun, hended, hW, hsame⟩ := X85.leave (v := some (.ref b_85)) (fun h => by rw [Bd.returns] at h; cases h)
        refine ⟨_, _, go96 _ ?_, hrun, hended, _, _, rfl, ?_, ⟨_, rfl⟩, hW, hsame.mono (by decide) (by decide)⟩
        · exact own_retA X85 hx Bd.returns rfl rfl (hb hby d38_72) hr
        · show Q_rm_sum Z o0 k0 x0 x1 x2 zr h0 n0 _ T85.heap _
          exact ⟨b_85, rfl, N85, KK85⟩
  · skip
    have go98 := go17.st T2 (mkF m 66 #[vR o0, vR zr, vJ (((((0 : Int64) + x0) + x1) + x2)), sc, vR o0, vI ((3 : Int32)), vI ((3 : Int32)), vJ x2, sc] [(sJ ((((0 : Int64) + x0) + x1) + x2)), sR zr]) (fun t k => by
      refine XS.ifYes X2.here hx rfl (pc0 := 39) (pc' := 53) rfl (hb hby d38_39) rfl ((if0 _ _).trans (flt (fun q => hc16 ((lw_gt _ _).mp q))).2.2.2) (by decide) (by decide) ?_
      refine XS.lloadN X2.here hx rfl (hb hby d38_53) rfl ?_
      refine XS.lload X2.here hx rfl (hb hby d38_54) rfl ?_
      refine XS.ladd X2.here hx rfl (hb hby d38_56) rfl ?_
      refine XS.lstoreN X2.here hx rfl (hb hby d38_57) rfl (l' := #[vR o0, vR zr, vJ (((((0 : Int64) + x0) + x1) + x2)), sc, vR o0, vI ((3 : Int32)), vI i2, vJ x2, sc]) rfl ?_
      refine XS.iinc X2.here hx rfl (hb hby d38_58) rfl (l' := #[vR o0, vR zr, vJ (((((0 : Int64) + x0) + x1) + x2)), sc, vR o0, vI ((3 : Int32)), vI ((3 : Int32)), vJ x2, sc]) rfl ?_
      refine XS.goto X2.here hx rfl (pc0 := 61) (pc' := 17) rfl (hb hby d38_61) (by decide) (by decide) ?_
      refine XS.iload X2.here hx rfl (hb hby d38_17) rfl ?_
      show SP p e below T2 (mkF m 19 #[vR o0, vR zr, vJ (((((0 : Int64) + x0) + x1) + x2)), sc, vR o0, vI ((3 : Int32)), vI ((3 : Int32)), vJ x2, sc] [(sI (3 : Int32))]) _
      refine XS.iload X2.here hx rfl (hb hby d38_19) rfl ?_
      refine XS.icmpYes X2.here hx rfl (pc0 := 21) (pc' := 64) rfl (hb hby d38_21) rfl (flt ((by decide) : ¬ ((3 : Int32) < (3 : Int32)))).2.1 (by decide) (by decide) ?_
      refine XS.aloadN X2.here hx rfl (hb hby d38_64) rfl rfl ?_
      refine XS.lloadN X2.here hx rfl (hb hby d38_65) rfl ?_
      exact k)
    have hPP := own_sP hs hc16
    obtain ⟨_, _, ⟨T99, L99, k99, n99⟩, -, X99, ⟨Lc99, hQ99, l99, y99, z99⟩, st99⟩ := Jvm.LawKit.callS X2 hx (y := yN32) hown (mvT hZ (wD hw 216 rfl)) (mvT hZ (wD hw 217 rfl)) (mvT hZ (wD hw 214 rfl)) (mvT hZ (wD hw 218 rfl)) (by decide) (backOf (W := 1) (rm_vo2 l Z a0 hw [] ((((0 : Int64) + x0) + x1) + x2) h0 n0 Z0 hPP.1 hPP.2) hZ (wD hw 218 rfl) (wD hw 214 rfl) (by decide) (by decide)) (g := (mkF m 66 #[vR o0, vR zr, vJ (((((0 : Int64) + x0) + x1) + x2)), sc, vR o0, vI ((3 : Int32)), vI ((3 : Int32)), vJ x2, sc] [(sJ ((((0 : Int64) + x0) + x1) + x2)), sR zr])) rfl (by rw [hml]; rfl) (argsL := [(.long ((((0 : Int64) + x0) + x1) + x2))]) (rest := [(.ref zr)]) (lenOf pd_rm_sum_0 rfl) rfl (by show 2 * 0 + _ ≤ _; exact Nat.le_of_eq rfl) (hb hby d38_66) (fun _ _ => ⟨rfl, e2, (by decide : 0 + 2 ≤ _), (by decide : 0 + 8 ≤ _)⟩)
    dsimp only [Pt.U, Pt.locs, Pt.cells, Pt.slots] at X99 l99 y99 z99 st99 hQ99
    rw [l99, y99, z99] at X99
    obtain ⟨b_99, mg_99, km_99, rfl, N99q, K99, qp99_0, qp99_1, qp99_2, qp99_3⟩ := hQ99
    have N99 := Fr.app N0 N99q
    have f100 := Old.keep Ol K99 all0
    have f101 := V_o0.keep K99 nin0
    have Z99 : n0 ≤ T99.heap.size := Nat.le_trans Z0 K99.1
    have KK99 := K0.trans K99 all0
    have go102 := go98.st T99 (mkF m 69 #[vR o0, vR zr, vJ (((((0 : Int64) + x0) + x1) + x2)), sc, vR o0, vI ((3 : Int32)), vI ((3 : Int32)), vJ x2, sc] [sR b_99, sR zr]) (fun t k => by
      refine st99 _ ?_
      exact k)
    have f104 := F_signum_zr.ext f100.2
    have f105 := E_zr.ext f100.2
    obtain ⟨cq103, kq103, q103a, q103b, q103c⟩ := isOf hZ rfl f105
    obtain ⟨_, _, ⟨T103, L103, k103, n103⟩, -, X103, ⟨Lc103, hQ103, l103, y103, z103⟩, st103⟩ := X99.virtualBack hx (y := yN35) (z := yN35) hown (mvT hZ (wD hw 221 rfl)) (mvT hZ (wD hw 222 rfl)) (notFace_of_selects (args := #[]) (mvT hZ (wD hw 224 rfl))) (mvT hZ (wD hw 224 rfl)) (mvT hZ (wD hw 223 rfl)) (by decide) (backOf (W := 0) (rm_adz l Z a0 hw [] zr b_99 T99.heap n0 Z99 qp99_1 f104) hZ (wD hw 225 rfl) (wD hw 214 rfl) (by decide) (by decide)) q103a q103c (g := (mkF m 69 #[vR o0, vR zr, vJ (((((0 : Int64) + x0) + x1) + x2)), sc, vR o0, vI ((3 : Int32)), vI ((3 : Int32)), vJ x2, sc] [sR b_99, sR zr])) rfl (by rw [hml]; rfl) (Steps.refl _) (argsL := [(.ref b_99)]) (rest := []) (lenOf pd_rm_sum_1 rfl) rfl (by show 2 * 0 + _ ≤ _; exact Nat.le_of_eq rfl) (hb hby d38_69) (fun _ _ => ⟨rfl, rfl, (by decide : 2 + 0 ≤ _), (by decide : 8 + 0 ≤ _)⟩)
    dsimp only [Pt.U, Pt.locs, Pt.cells, Pt.slots] at X103 l103 y103 z103 st103 hQ103
    rw [l103, y103, z103] at X103
    obtain ⟨rfl, N103q, e103⟩ := hQ103
    have N103 := Fr.app N99 N103q
    have go106 := go102.st T103 (mkF m 72 #[vR o0, vR zr, vJ (((((0 : Int64) + x0) + x1) + x2)), sc, vR o0, vI ((3 : Int32)), vI ((3 : Int32)), vJ x2, sc] [sR b_99]) (fun t k => by
      refine st103.trans ?_
      exact k)
    obtain ⟨fs, hr, hrun, hended, hW, hsame⟩ := X103.leave (v := some (.ref b_99)) (fun h => by rw [Bd.returns] at h; cases h)
    refine ⟨_, _, go106 _ ?_, hrun, hended, _, _, rfl, ?_, ⟨_, rfl⟩, hW, hsame.mono (by decide) (by decide)⟩
    · exact own_retA X103 hx Bd.returns rfl rfl (hb hby d38_72) hr
    · show Q_rm_sum Z o0 k0 x0 x1 x2 zr h0 n0 _ T103.heap _
      rw [e103]
      exact ⟨b_99, rfl, N103, KK99⟩
theorem d37_0 : decode jdk_65_method_124_code 0 = .ok (.iload_n 1, 1) := by decide +kernel
theorem d37_1 : decode jdk_65_method_124_code 1 = .ok (.aload_n 0, 1) := by decide +kernel
theorem d37_2 : decode jdk_65_method_124_code 2 = .ok (.arraylength, 1) := by decide +kernel
theorem d37_3 : decode jdk_65_method_124_code 3 = .ok (.if_icmp .ne 11, 3) := by decide +kernel
theorem d37_14 : decode jdk_65_method_124_code 14 = .ok (.iload_n 1, 1) := by decide +kernel
theorem d37_15 : decode jdk_65_method_124_code 15 = .ok (.newarray .long, 2) := by decide +kernel
theorem d37_17 : decode jdk_65_method_124_code 17 = .ok (.astore_n 2, 1) := by decide +kernel
theorem d37_18 : decode jdk_65_method_124_code 18 = .ok (.aload_n 0, 1) := by decide +kernel
theorem d37_19 : decode jdk_65_method_124_code 19 = .ok (.iconst 0, 1) := by decide +kernel
theorem d37_20 : decode jdk_65_method_124_code 20 = .ok (.aload_n 2, 1) := by decide +kernel
theorem d37_21 : decode jdk_65_method_124_code 21 = .ok (.iconst 0, 1) := by decide +kernel
theorem d37_22 : decode jdk_65_method_124_code 22 = .ok (.aload_n 0, 1) := by decide +kernel
theorem d37_23 : decode jdk_65_method_124_code 23 = .ok (.arraylength, 1) := by decide +kernel
theorem d37_24 : decode jdk_65_method_124_code 24 = .ok (.iload_n 1, 1) := by decide +kernel
theorem d37_25 : decode jdk_65_method_124_code 25 = .ok (.invokestatic 304, 3) := by decide +kernel
theorem d37_28 : decode jdk_65_method_124_code 28 = .ok (.invokestatic 150, 3) := by decide +kernel
theorem d37_31 : decode jdk_65_method_124_code 31 = .ok (.aload_n 2, 1) := by decide +kernel
theorem d37_32 : decode jdk_65_method_124_code 32 = .ok (.areturn, 1) := by decide +kernel
theorem pn_rm_cp : plainName "java/util/Arrays" = true := by first | (simp [plainName, overriddenIn]; done) | decide +kernel
theorem pd_rm_cp_0 : parseMethodDescriptor "(II)I" = some ⟨[.int, .int], some .int⟩ := by decide +kernel
theorem ef_rm_cp (m : MethodId) (o0 : Addr) : entryFrame m #[(.ref o0), (.int (3 : Int32))] 3 = mkF m 0 #[.val (.ref o0), .val (.int (3 : Int32)), uu] [] := by first | (simp [entryFrame, mkF, argsToLocals, Value.category]; done) | rfl
def Q_rm_cp (Z : State) (o0 : Addr) (k0 : ClassId) (x0 : Int64) (x1 : Int64) (x2 : Int64) (h0 : Heap) (n0 : Nat) (v : Option Value) (h : Heap) (L : List Loc) : Prop := ∃ b : Addr, ∃ kb : ClassId, v = some (.ref b) ∧ Fr n0 L ∧ Keep h0 h [] ∧ n0 ≤ b ∧ h0.size ≤ b ∧ Arv Z h b kb .long (3 : Int32) [(.long x0), (.long x1), (.long x2)] (.long (0 : Int64))
set_option maxRecDepth 65536 in
set_option maxHeartbeats 40000000 in
theorem rm_cp (l : Launch) (Z : State) (a0 : Array Value) (hw : ∀ d ∈ tables_1, d.before a0 Z = true) (ws : List Jvm.Cond) (o0 : Addr) (k0 : ClassId) (x0 : Int64) (x1 : Int64) (x2 : Int64) (h0 : Heap) (n0 : Nat) (Z0 : n0 ≤ h0.size) (V_o0 : Arv Z h0 o0 k0 .long (1024 : Int32) [(.long x0), (.long x1), (.long x2)] (.long (0 : Int64))) :
    MetFree l yN37 (head1 (Jvm.Cond.code yN37 jdk_65_method_124_code 3 (some (.array .long)) :: ws) ({ frames := 1, cells := 1, slots := 3, locals := 40 } : Room)) (fun a U => a = #[(.ref o0), (.int (3 : Int32))] ∧ Z.Warmed39 U.vm ∧ U.heap = h0) (fun _ _ _ _ _ => True) (fun _ U o U' => ∃ v L, o = .returned v ∧ Q_rm_cp Z o0 k0 x0 x1 x2 h0 n0 v U'.heap L ∧ FrameEnd U o U' L ({ frames := 1, cells := 1, slots := 3, locals := 40 } : Room).cells ({ frames := 1, cells := 1, slots := 3, locals := 40 } : Room).slots) := by
  refine MetFree.of_bodySF (plainFor_of_name pn_rm_cp) hisR ?_
  intro p e s m args below meth c s₁ Bd hml0 hP hK
  obtain ⟨rfl, hZ, hh⟩ := hP
  have hx := Bd.exec
  have hby := Bd.bytes
  have hml : c.maxLocals = 3 := hml0
  have hown : s.vm.findClass "java/util/Arrays" = some m.cls := findClass_of_methodNamed Bd.named
  have hnm := (name_of_methodNamed Bd.named Bd.method).1
  have X0 : Stand p l e ({ frames := 1, cells := 1, slots := 3, locals := 40 } : Room) s m #[(.ref o0), (.int (3 : Int32))] below meth c s₁ [] 0 0 := Stand.of_body Bd
  have e0 : s₁.heap = h0 := by rw [← hh, Bd.state]; rfl
  have N0 := Fr.nil n0
  have K0 := Keep.refl h0 []
  have go0 : Go p e below (s₁.setTop (entryFrame m #[(.ref o0), (.int (3 : Int32))] 3)) (s₁.setTop (mkF m 0 #[vR o0, vI ((3 : Int32)), uu] [])) := fun t k => castTop (ef_rm_cp m o0) k
  have go1 := go0.st s₁ (mkF m 2 #[vR o0, vI ((3 : Int32)), uu] [sR o0, (sI (3 : Int32))]) (fun t k => by
    refine XS.iloadN X0.here hx rfl (hb hby d37_0) rfl ?_
    refine XS.aloadN X0.here hx rfl (hb hby d37_1) rfl rfl ?_
    exact k)
  have Vo2 := V_o0
  obtain ⟨cl2, Ar2, qa2, Sa2, Na2, Ha2, Ga2⟩ := Vo2
  have go4 := go1.st s₁ (mkF m 15 #[vR o0, vI ((3 : Int32)), uu] [(sI (3 : Int32))]) (fun t k => by
    refine X0.arraylength hx (by rw [e0]; exact Ar2.1) (State.isArrayOf_alike hZ.alike Ar2.2.1) (g := (mkF m 2 #[vR o0, vI ((3 : Int32)), uu] [sR o0, (sI (3 : Int32))])) rfl rfl (hb hby d37_2) _ ?_
    rw [len_of Sa2 Na2]
    refine XS.icmpYes X0.here hx rfl (pc0 := 3) (pc' := 14) rfl (hb hby d37_3) rfl (feq ((by decide) : ¬ ((3 : Int32) = (1024 : Int32)))).2 (by decide) (by decide) ?_
    refine XS.iloadN X0.here hx rfl (hb hby d37_14) rfl ?_
    exact k)
  obtain ⟨T5, h5, k5, X5, e5, E5, A5, st5⟩ := newP X0 hx hZ (wD hw 71 rfl) e0 (g := (mkF m 15 #[vR o0, vI ((3 : Int32)), uu] [(sI (3 : Int32))])) rfl (hb hby d37_15) rfl (by decide) (cap := 3) (by decide) (by decide) (by decide) (by decide)
  obtain ⟨b5, g5⟩ : ∃ z, z = h0.size := ⟨_, rfl⟩
  rw [← g5] at A5 st5
  have ne_o0_b5 : o0 ≠ b5 := Nat.ne_of_lt (Nat.lt_of_lt_of_le V_o0.lt (Nat.le_of_eq g5.symm))
  have g_b5 : n0 ≤ b5 := Nat.le_trans Z0 (Nat.le_of_eq g5.symm)
  have sz_b5 : h0.size ≤ b5 := Nat.le_trans K0.1 (Nat.le_of_eq g5.symm)
  have f6 := V_o0.ext E5
  have V5 : Arv Z h5 b5 k5 .long (3 : Int32) [(.long (0 : Int64)), (.long (0 : Int64)), (.long (0 : Int64))] (.long (0 : Int64)) := (Arv.new A5 (by decide)).pad (pad_rep [] (.long (0 : Int64)) 3)
  have Z5 : n0 ≤ h5.size := Nat.le_trans Z0 E5.1
  have K5 := K0.ext E5
  have go7 := go4.st T5 (mkF m 23 #[vR o0, vI ((3 : Int32)), vR b5] [sR o0, sI i0, sR b5, sI i0, sR o0]) (fun t k => by
    refine st5 _ ?_
    show SP p e below T5 (mkF m 17 #[vR o0, vI ((3 : Int32)), uu] [sR b5]) _
    refine XS.astoreN X5.here hx rfl (hb hby d37_17) rfl rfl (l' := #[vR o0, vI ((3 : Int32)), vR b5]) rfl ?_
    refine XS.aloadN X5.here hx rfl (hb hby d37_18) rfl rfl ?_
    refine XS.iconst X5.here hx rfl (hb hby d37_19) ?_
    refine XS.aloadN X5.here hx rfl (hb hby d37_20) rfl rfl ?_
    refine XS.iconst X5.here hx rfl (hb hby d37_21) ?_
    refine XS.aloadN X5.here hx rfl (hb hby d37_22) rfl rfl ?_
    exact k)
  have Vo8 := f6
  obtain ⟨cl8, Ar8, qa8, Sa8, Na8, Ha8, Ga8⟩ := Vo8
  have go9 := go7.st T5 (mkF m 25 #[vR o0, vI ((3 : Int32)), vR b5] [(sI (3 : Int32)), (sI (1024 : Int32)), sI i0, sR b5, sI i0, sR o0]) (fun t k => by
    refine X5.arraylength hx (by rw [e5]; exact Ar8.1) (State.isArrayOf_alike hZ.alike Ar8.2.1) (g := (mkF m 23 #[vR o0, vI ((3 : Int32)), vR b5] [sR o0, sI i0, sR b5, sI i0, sR o0])) rfl rfl (hb hby d37_23) _ ?_
    rw [len_of Sa8 Na8]
    refine XS.iloadN X5.here hx rfl (hb hby d37_24) rfl ?_
    exact k)
  obtain ⟨_, _, ⟨T10, L10, k10, n10⟩, -, X10, ⟨Lc10, hQ10, l10, y10, z10⟩, st10⟩ := Jvm.LawKit.callS X5 hx (y := yN4) hown (mvT hZ (wD hw 202 rfl)) (mvT hZ (wD hw 124 rfl)) (mvT hZ (wD hw 3 rfl)) (mvT hZ (wD hw 125 rfl)) (by decide) (backOf (W := 4) (rm_min3 l Z a0 hw []  h5 n0 Z5 ) hZ (wD hw 125 rfl) (wD hw 3 rfl) (by decide) (by decide)) (g := (mkF m 25 #[vR o0, vI ((3 : Int32)), vR b5] [(sI (3 : Int32)), (sI (1024 : Int32)), sI i0, sR b5, sI i0, sR o0])) rfl (by rw [hml]; rfl) (argsL := [(.int (1024 : Int32)), (.int (3 : Int32))]) (rest := [(.int (0 : Int32)), (.ref b5), (.int (0 : Int32)), (.ref o0)]) (lenOf pd_rm_cp_0 rfl) rfl (by show 2 * 0 + _ ≤ _; exact Nat.le_of_eq rfl) (hb hby d37_25) (fun _ _ => ⟨rfl, e5, (by decide : 1 + 0 ≤ _), (by decide : 3 + 0 ≤ _)⟩)
  dsimp only [Pt.U, Pt.locs, Pt.cells, Pt.slots] at X10 l10 y10 z10 st10 hQ10
  rw [l10, y10, z10] at X10
  obtain ⟨rfl, N10q, e10⟩ := hQ10
  have N10 := Fr.app N0 N10q
  have go11 := go9.st T10 (mkF m 28 #[vR o0, vI ((3 : Int32)), vR b5] [(sI (3 : Int32)), sI i0, sR b5, sI i0, sR o0]) (fun t k => by
    refine st10 _ ?_
    exact k)
  obtain ⟨T12, h12, Lx12, X12, e12, N12, K12, Vc12, st12⟩ := cpA X10 hx hZ hown (wD hw 203 rfl) (wD hw 206 rfl) (wD hw 204 rfl) (wD hw 205 rfl) e10 (us := [(.long x0), (.long x1), (.long x2)]) f6 V5 (Or.inl ⟨rfl, rfl⟩) (by decide) (by decide) (by decide) (by decide) (by decide) rfl (by decide) N10 g_b5 (g := (mkF m 28 #[vR o0, vI ((3 : Int32)), vR b5] [(sI (3 : Int32)), sI i0, sR b5, sI i0, sR o0])) rfl (by rw [hml]; rfl) rfl (hb hby d37_28) (by decide) (W := 0) (by show 2 * 0 + _ ≤ _; exact Nat.le_of_eq rfl) (by decide)
  have V12 : Arv Z h12 b5 k5 .long (3 : Int32) [(.long x0), (.long x1), (.long x2)] (.long (0 : Int64)) := Vc12
  have f13 := f6.keep K12 (ninS ne_o0_b5 nin0)
  have Z12 : n0 ≤ h12.size := Nat.le_trans Z5 K12.1
  have KK12 := K5.trans K12 (allS (Or.inr sz_b5) all0)
  have go15 := go11.st T12 (mkF m 32 #[vR o0, vI ((3 : Int32)), vR b5] [sR b5]) (fun t k => by
    refine st12 _ ?_
    show SP p e below T12 (mkF m 31 #[vR o0, vI ((3 : Int32)), vR b5] []) _
    refine XS.aloadN X12.here hx rfl (hb hby d37_31) rfl rfl ?_
    exact k)
  obtain ⟨fs, hr, hrun, hended, hW, hsame⟩ := X12.leave (v := some (.ref b5)) (fun h => by rw [Bd.returns] at h; cases h)
  refine ⟨_, _, go15 _ ?_, hrun, hended, _, _, rfl, ?_, ⟨_, rfl⟩, hW, hsame.mono (by decide) (by decide)⟩
  · exact own_retA X12 hx Bd.returns rfl rfl (hb hby d37_32) hr
  · show Q_rm_cp Z o0 k0 x0 x1 x2 h0 n0 _ T12.heap _
    rw [e12]
    exact ⟨b5, k5, rfl, N12, KK12, g_b5, sz_b5, V12⟩
theorem d45_0 : decode prog_89_method_1_code 0 = .ok (.aload_n 0, 1) := by decide +kernel
theorem d45_1 : decode prog_89_method_1_code 1 = .ok (.invokespecial 3, 3) := by decide +kernel
theorem d45_4 : decode prog_89_method_1_code 4 = .ok (.aload_n 0, 1) := by decide +kernel
theorem d45_5 : decode prog_89_method_1_code 5 = .ok (.aload_n 1, 1) := by decide +kernel
theorem d45_6 : decode prog_89_method_1_code 6 = .ok (.putfield 9, 3) := by decide +kernel
theorem d45_9 : decode prog_89_method_1_code 9 = .ok (.aload_n 0, 1) := by decide +kernel
theorem d45_10 : decode prog_89_method_1_code 10 = .ok (.iload_n 2, 1) := by decide +kernel
theorem d45_11 : decode prog_89_method_1_code 11 = .ok (.putfield 13, 3) := by decide +kernel
theorem d45_14 : decode prog_89_method_1_code 14 = .ok (.aload_n 0, 1) := by decide +kernel
theorem d45_15 : decode prog_89_method_1_code 15 = .ok (.aload_n 3, 1) := by decide +kernel
theorem d45_16 : decode prog_89_method_1_code 16 = .ok (.putfield 17, 3) := by decide +kernel
theorem d45_19 : decode prog_89_method_1_code 19 = .ok (.aload_n 0, 1) := by decide +kernel
theorem d45_20 : decode prog_89_method_1_code 20 = .ok (.lload 4, 2) := by decide +kernel
theorem d45_22 : decode prog_89_method_1_code 22 = .ok (.putfield 21, 3) := by decide +kernel
theorem d45_25 : decode prog_89_method_1_code 25 = .ok (.return_, 1) := by decide +kernel
theorem pn_rm_wli : plainName "com/example/equipoise/equipoise/WeightList" = true := by first | (simp [plainName, overriddenIn]; done) | decide +kernel
theorem ef_rm_wli (m : MethodId) (o0 : Addr) (o1 : Addr) (p2 : Int32) (o3 : Addr) (q4 : Int64) : entryFrame m #[(.ref o0), (.ref o1), (.int p2), (.ref o3), (.long q4)] 6 = mkF m 0 #[.val (.ref o0), .val (.ref o1), .val (.int p2), .val (.ref o3), .val (.long q4), .second] [] := by first | (simp [entryFrame, mkF, argsToLocals, Value.category]; done) | rfl
def Q_rm_wli (Z : State) (o0 : Addr) (o1 : Addr) (p2 : Int32) (o3 : Addr) (q4 : Int64) (h0 : Heap) (n0 : Nat) (v : Option Value) (h : Heap) (L : List Loc) : Prop := v = none ∧ Fr n0 L ∧ Keep h0 h [o0] ∧ Exa Z h o0 "com/example/equipoise/equipoise/WeightList" ∧ Fld Z h o0 "com/example/equipoise/equipoise/WeightList" "units" "[J" (.ref o1)
set_option maxRecDepth 65536 in
set_option maxHeartbeats 40000000 in
theorem rm_wli (l : Launch) (Z : State) (a0 : Array Value) (hw : ∀ d ∈ tables_1, d.before a0 Z = true) (ws : List Jvm.Cond) (o0 : Addr) (o1 : Addr) (p2 : Int32) (o3 : Addr) (q4 : Int64) (h0 : Heap) (n0 : Nat) (Z0 : n0 ≤ h0.size) (E_o0 : Exa Z h0 o0 "com/example/equipoise/equipoise/WeightList") (g_o0 : n0 ≤ o0) (F_units : Fld Z h0 o0 "com/example/equipoise/equipoise/WeightList" "units" "[J" .null) (F_scale : Fld Z h0 o0 "com/example/equipoise/equipoise/WeightList" "scale" "I" (.int (0 : Int32))) (F_total : Fld Z h0 o0 "com/example/equipoise/equipoise/WeightList" "total" "Ljava/math/BigInteger;" .null) (F_largest : Fld Z h0 o0 "com/example/equipoise/equipoise/WeightList" "largest" "J" (.long (0 : Int64))) :
    MetFree l yN38 (head1 (Jvm.Cond.code yN38 prog_89_method_1_code 6 none :: ws) ({ frames := 1, cells := 0, slots := 0, locals := 12 } : Room)) (fun a U => a = #[(.ref o0), (.ref o1), (.int p2), (.ref o3), (.long q4)] ∧ Z.Warmed39 U.vm ∧ U.heap = h0) (fun _ _ _ _ _ => True) (fun _ U o U' => ∃ v L, o = .returned v ∧ Q_rm_wli Z o0 o1 p2 o3 q4 h0 n0 v U'.heap L ∧ FrameEnd U o U' L ({ frames := 1, cells := 0, slots := 0, locals := 12 } : Room).cells ({ frames := 1, cells := 0, slots := 0, locals := 12 } : Room).slots) := by
  refine MetFree.of_bodySF (plainFor_of_name pn_rm_wli) hisR ?_
  intro p e s m args below meth c s₁ Bd hml0 hP hK
  obtain ⟨rfl, hZ, hh⟩ := hP
  have hx := Bd.exec
  have hby := Bd.bytes
  have hml : c.maxLocals = 6 := hml0
  have hown : s.vm.findClass "com/example/equipoise/equipoise/WeightList" = some m.cls := findClass_of_methodNamed Bd.named
  have hnm := (name_of_methodNamed Bd.named Bd.method).1
  have X0 : Stand p l e ({ frames := 1, cells := 0, slots := 0, locals := 12 } : Room) s m #[(.ref o0), (.ref o1), (.int p2), (.ref o3), (.long q4)] below meth c s₁ [] 0 0 := Stand.of_body Bd
  have e0 : s₁.heap = h0 := by rw [← hh, Bd.state]; rfl
  have N0 := Fr.nil n0
  have K0 := Keep.refl h0 [o0]
  have go0 : Go p e below (s₁.setTop (entryFrame m #[(.ref o0), (.ref o1), (.int p2), (.ref o3), (.long q4)] 6)) (s₁.setTop (mkF m 0 #[vR o0, vR o1, vI p2, vR o3, vJ q4, sc] [])) := fun t k => castTop (ef_rm_wli m o0 o1 p2 o3 q4) k
  have go1 := go0.st s₁ (mkF m 1 #[vR o0, vR o1, vI p2, vR o3, vJ q4, sc] [sR o0]) (fun t k => by
    refine XS.aloadN X0.here hx rfl (hb hby d45_0) rfl rfl ?_
    exact k)
  obtain ⟨T2, X2, e2, st2⟩ := initO X0 hx hZ hown (wD hw 255 rfl) (wD hw 42 rfl) (wD hw 43 rfl) e0 (g := (mkF m 1 #[vR o0, vR o1, vI p2, vR o3, vJ q4, sc] [sR o0])) rfl (by rw [hml]; rfl) rfl (hb hby d45_1) (by decide) (W := 0) (by show 2 * 0 + _ ≤ _; exact Nat.le_of_eq rfl) (by decide)
  have go3 := go1.st T2 (mkF m 6 #[vR o0, vR o1, vI p2, vR o3, vJ q4, sc] [sR o1, sR o0]) (fun t k => by
    refine st2 _ ?_
    show SP p e below T2 (mkF m 4 #[vR o0, vR o1, vI p2, vR o3, vJ q4, sc] []) _
    refine XS.aloadN X2.here hx rfl (hb hby d45_4) rfl rfl ?_
    refine XS.aloadN X2.here hx rfl (hb hby d45_5) rfl rfl ?_
    exact k)
  obtain ⟨T4, h4, X4, e4, W4, st4⟩ := putF X2 hx hZ hown (host := "") (Or.inl (wD hw 256 rfl)) Via.refl e2 F_units E_o0 (Or.inr ⟨(wD hw 257 rfl), rfl, hnm⟩) (wD hw 209 rfl) (ty := (.array .long)) (by decide) rfl rfl (g := (mkF m 6 #[vR o0, vR o1, vI p2, vR o3, vJ q4, sc] [sR o1, sR o0])) rfl rfl (hb hby d45_6)
  have f5 := E_o0.wr W4
  have f6 := Fld.same W4 F_units
  have f7 := Fld.other W4 F_scale (Or.inr (slot_ne (Or.inr (wD hw 259 rfl)) (Or.inr (wD hw 257 rfl)) (by decide) (t := .int) (t' := (.array .long)) (by decide) (by decide)))
  have f8 := Fld.other W4 F_total (Or.inr (slot_ne (Or.inr (wD hw 261 rfl)) (Or.inr (wD hw 257 rfl)) (by decide) (t := (.object "java/math/BigInteger")) (t' := (.array .long)) (by decide) (by decide)))
  have f9 := Fld.other W4 F_largest (Or.inr (slot_ne (Or.inr (wD hw 263 rfl)) (Or.inr (wD hw 257 rfl)) (by decide) (t := .long) (t' := (.array .long)) (by decide) (by decide)))
  have Z4 : n0 ≤ h4.size := Nat.le_trans Z0 (Nat.le_of_eq W4.size.symm)
  have K4 := K0.wr W4 (Or.inl (List.mem_of_getElem? (i := 0) rfl))
  have N4 := Fr.snoc X4 N0 g_o0
  have go10 := go3.st T4 (mkF m 11 #[vR o0, vR o1, vI p2, vR o3, vJ q4, sc] [sI p2, sR o0]) (fun t k => by
    refine st4 _ ?_
    show SP p e below T4 (mkF m 9 #[vR o0, vR o1, vI p2, vR o3, vJ q4, sc] []) _
    refine XS.aloadN X4.here hx rfl (hb hby d45_9) rfl rfl ?_
    refine XS.iloadN X4.here hx rfl (hb hby d45_10) rfl ?_
    exact k)
  obtain ⟨T11, h11, X11, e11, W11, st11⟩ := putF X4 hx hZ hown (host := "") (Or.inl (wD hw 258 rfl)) Via.refl e4 f7 f5 (Or.inr ⟨(wD hw 259 rfl), rfl, hnm⟩) (wD hw 209 rfl) (ty := .int) (by decide) rfl rfl (g := (mkF m 11 #[vR o0, vR o1, vI p2, vR o3, vJ q4, sc] [sI p2, sR o0])) rfl rfl (hb hby d45_11)
  have f12 := f5.wr W11
  have f13 := Fld.other W11 f6 (Or.inr (slot_ne (Or.inr (wD hw 257 rfl)) (Or.inr (wD hw 259 rfl)) (by decide) (t := (.array .long)) (t' := .int) (by decide) (by decide)))
  have f14 := Fld.same W11 f7
  have f15 := Fld.other W11 f8 (Or.inr (slot_ne (Or.inr (wD hw 261 rfl)) (Or.inr (wD hw 259 rfl)) (by decide) (t := (.object "java/math/BigInteger")) (t' := .int) (by decide) (by decide)))
  have f16 := Fld.other W11 f9 (Or.inr (slot_ne (Or.inr (wD hw 263 rfl)) (Or.inr (wD hw 259 rfl)) (by decide) (t := .long) (t' := .int) (by decide) (by decide)))
  have Z11 : n0 ≤ h11.size := Nat.le_trans Z4 (Nat.le_of_eq W11.size.symm)
  have K11 := K4.wr W11 (Or.inl (List.mem_of_getElem? (i := 0) rfl))
  have N11 := Fr.snoc X11 N4 g_o0
  have go17 := go10.st T11 (mkF m 16 #[vR o0, vR o1, vI p2, vR o3, vJ q4, sc] [sR o3, sR o0]) (fun t k => by
    refine st11 _ ?_
    show SP p e below T11 (mkF m 14 #[vR o0, vR o1, vI p2, vR o3, vJ q4, sc] []) _
    refine XS.aloadN X11.here hx rfl (hb hby d45_14) rfl rfl ?_
    refine XS.aloadN X11.here hx rfl (hb hby d45_15) rfl rfl ?_
    exact k)
  obtain ⟨T18, h18, X18, e18, W18, st18⟩ := putF X11 hx hZ hown (host := "") (Or.inl (wD hw 260 rfl)) Via.refl e11 f15 f12 (Or.inr ⟨(wD hw 261 rfl), rfl, hnm⟩) (wD hw 209 rfl) (ty := (.object "java/math/BigInteger")) (by decide) rfl rfl (g := (mkF m 16 #[vR o0, vR o1, vI p2, vR o3, vJ q4, sc] [sR o3, sR o0])) rfl rfl (hb hby d45_16)
  have f19 := f12.wr W18
  have f20 := Fld.other W18 f13 (Or.inr (slot_ne (Or.inr (wD hw 257 rfl)) (Or.inr (wD hw 261 rfl)) (by decide) (t := (.array .long)) (t' := (.object "java/math/BigInteger")) (by decide) (by decide)))
  have f21 := Fld.other W18 f14 (Or.inr (slot_ne (Or.inr (wD hw 259 rfl)) (Or.inr (wD hw 261 rfl)) (by decide) (t := .int) (t' := (.object "java/math/BigInteger")) (by decide) (by decide)))
  have f22 := Fld.same W18 f15
  have f23 := Fld.other W18 f16 (Or.inr (slot_ne (Or.inr (wD hw 263 rfl)) (Or.inr (wD hw 261 rfl)) (by decide) (t := .long) (t' := (.object "java/math/BigInteger")) (by decide) (by decide)))
  have Z18 : n0 ≤ h18.size := Nat.le_trans Z11 (Nat.le_of_eq W18.size.symm)
  have K18 := K11.wr W18 (Or.inl (List.mem_of_getElem? (i := 0) rfl))
  have N18 := Fr.snoc X18 N11 g_o0
  have go24 := go17.st T18 (mkF m 22 #[vR o0, vR o1, vI p2, vR o3, vJ q4, sc] [sJ q4, sR o0]) (fun t k => by
    refine st18 _ ?_
    show SP p e below T18 (mkF m 19 #[vR o0, vR o1, vI p2, vR o3, vJ q4, sc] []) _
    refine XS.aloadN X18.here hx rfl (hb hby d45_19) rfl rfl ?_
    refine XS.lload X18.here hx rfl (hb hby d45_20) rfl ?_
    exact k)
  obtain ⟨T25, h25, X25, e25, W25, st25⟩ := putF X18 hx hZ hown (host := "") (Or.inl (wD hw 262 rfl)) Via.refl e18 f23 f19 (Or.inr ⟨(wD hw 263 rfl), rfl, hnm⟩) (wD hw 209 rfl) (ty := .long) (by decide) rfl rfl (g := (mkF m 22 #[vR o0, vR o1, vI p2, vR o3, vJ q4, sc] [sJ q4, sR o0])) rfl rfl (hb hby d45_22)
  have f26 := f19.wr W25
  have f27 := Fld.other W25 f20 (Or.inr (slot_ne (Or.inr (wD hw 257 rfl)) (Or.inr (wD hw 263 rfl)) (by decide) (t := (.array .long)) (t' := .long) (by decide) (by decide)))
  have f28 := Fld.other W25 f21 (Or.inr (slot_ne (Or.inr (wD hw 259 rfl)) (Or.inr (wD hw 263 rfl)) (by decide) (t := .int) (t' := .long) (by decide) (by decide)))
  have f29 := Fld.other W25 f22 (Or.inr (slot_ne (Or.inr (wD hw 261 rfl)) (Or.inr (wD hw 263 rfl)) (by decide) (t := (.object "java/math/BigInteger")) (t' := .long) (by decide) (by decide)))
  have f30 := Fld.same W25 f23
  have Z25 : n0 ≤ h25.size := Nat.le_trans Z18 (Nat.le_of_eq W25.size.symm)
  have K25 := K18.wr W25 (Or.inl (List.mem_of_getElem? (i := 0) rfl))
  have N25 := Fr.snoc X25 N18 g_o0
  have go31 := go24.st T25 (mkF m 25 #[vR o0, vR o1, vI p2, vR o3, vJ q4, sc] []) (fun t k => by
    refine st25 _ ?_
    exact k)
  obtain ⟨fs, hr, hrun, hended, hW, hsame⟩ := X25.leave (v := none) (fun _ => rfl)
  refine ⟨_, _, go31 _ ?_, hrun, hended, _, _, rfl, ?_, ⟨_, rfl⟩, hW, hsame.mono (by decide) (by decide)⟩
  · exact X25.returnOut hx Bd.returns (hb hby d45_25) hr
  · show Q_rm_wli Z o0 o1 p2 o3 q4 h0 n0 _ T25.heap _
    rw [e25]
    exact ⟨rfl, N25, K25, f26, f27⟩
theorem d36_0 : decode prog_89_method_3_code 0 = .ok (.aload_n 0, 1) := by decide +kernel
theorem d36_1 : decode prog_89_method_3_code 1 = .ok (.iload_n 1, 1) := by decide +kernel
theorem d36_2 : decode prog_89_method_3_code 2 = .ok (.invokestatic 29, 3) := by decide +kernel
theorem d36_5 : decode prog_89_method_3_code 5 = .ok (.astore_n 3, 1) := by decide +kernel
theorem d36_6 : decode prog_89_method_3_code 6 = .ok (.lconst 0, 1) := by decide +kernel
theorem d36_7 : decode prog_89_method_3_code 7 = .ok (.lstore 4, 2) := by decide +kernel
theorem d36_9 : decode prog_89_method_3_code 9 = .ok (.aload_n 3, 1) := by decide +kernel
theorem d36_10 : decode prog_89_method_3_code 10 = .ok (.astore 6, 2) := by decide +kernel
theorem d36_12 : decode prog_89_method_3_code 12 = .ok (.aload 6, 2) := by decide +kernel
theorem d36_14 : decode prog_89_method_3_code 14 = .ok (.arraylength, 1) := by decide +kernel
theorem d36_15 : decode prog_89_method_3_code 15 = .ok (.istore 7, 2) := by decide +kernel
theorem d36_17 : decode prog_89_method_3_code 17 = .ok (.iconst 0, 1) := by decide +kernel
theorem d36_18 : decode prog_89_method_3_code 18 = .ok (.istore 8, 2) := by decide +kernel
theorem d36_20 : decode prog_89_method_3_code 20 = .ok (.iload 8, 2) := by decide +kernel
theorem d36_22 : decode prog_89_method_3_code 22 = .ok (.iload 7, 2) := by decide +kernel
theorem d36_24 : decode prog_89_method_3_code 24 = .ok (.if_icmp .ge 25, 3) := by decide +kernel
theorem d36_27 : decode prog_89_method_3_code 27 = .ok (.aload 6, 2) := by decide +kernel
theorem d36_29 : decode prog_89_method_3_code 29 = .ok (.iload 8, 2) := by decide +kernel
theorem d36_31 : decode prog_89_method_3_code 31 = .ok (.laload, 1) := by decide +kernel
theorem d36_32 : decode prog_89_method_3_code 32 = .ok (.lstore 9, 2) := by decide +kernel
theorem d36_34 : decode prog_89_method_3_code 34 = .ok (.lload 4, 2) := by decide +kernel
theorem d36_36 : decode prog_89_method_3_code 36 = .ok (.lload 9, 2) := by decide +kernel
theorem d36_38 : decode prog_89_method_3_code 38 = .ok (.invokestatic 35, 3) := by decide +kernel
theorem d36_41 : decode prog_89_method_3_code 41 = .ok (.lstore 4, 2) := by decide +kernel
theorem d36_43 : decode prog_89_method_3_code 43 = .ok (.iinc 8 1, 3) := by decide +kernel
theorem d36_46 : decode prog_89_method_3_code 46 = .ok (.goto (-26), 3) := by decide +kernel
theorem d36_49 : decode prog_89_method_3_code 49 = .ok (.new 1, 3) := by decide +kernel
theorem d36_52 : decode prog_89_method_3_code 52 = .ok (.dup, 1) := by decide +kernel
theorem d36_53 : decode prog_89_method_3_code 53 = .ok (.aload_n 3, 1) := by decide +kernel
theorem d36_54 : decode prog_89_method_3_code 54 = .ok (.iload_n 2, 1) := by decide +kernel
theorem d36_55 : decode prog_89_method_3_code 55 = .ok (.aload_n 3, 1) := by decide +kernel
theorem d36_56 : decode prog_89_method_3_code 56 = .ok (.invokestatic 41, 3) := by decide +kernel
theorem d36_59 : decode prog_89_method_3_code 59 = .ok (.lload 4, 2) := by decide +kernel
theorem d36_61 : decode prog_89_method_3_code 61 = .ok (.invokespecial 45, 3) := by decide +kernel
theorem d36_64 : decode prog_89_method_3_code 64 = .ok (.areturn, 1) := by decide +kernel
theorem pn_rm_ou : plainName "com/example/equipoise/equipoise/WeightList" = true := by first | (simp [plainName, overriddenIn]; done) | decide +kernel
theorem pd_rm_ou_0 : parseMethodDescriptor "([JI)[J" = some ⟨[(.array .long), .int], some (.array .long)⟩ := by decide +kernel
theorem pd_rm_ou_1 : parseMethodDescriptor "(JJ)J" = some ⟨[.long, .long], some .long⟩ := by decide +kernel
theorem pd_rm_ou_2 : parseMethodDescriptor "([J)Ljava/math/BigInteger;" = some ⟨[(.array .long)], some (.object "java/math/BigInteger")⟩ := by decide +kernel
theorem pd_rm_ou_3 : parseMethodDescriptor "([JILjava/math/BigInteger;J)V" = some ⟨[(.array .long), .int, (.object "java/math/BigInteger"), .long], none⟩ := by decide +kernel
theorem ef_rm_ou (m : MethodId) (o0 : Addr) : entryFrame m #[(.ref o0), (.int (3 : Int32)), (.int (0 : Int32))] 11 = mkF m 0 #[.val (.ref o0), .val (.int (3 : Int32)), .val (.int (0 : Int32)), uu, uu, uu, uu, uu, uu, uu, uu] [] := by first | (simp [entryFrame, mkF, argsToLocals, Value.category]; done) | rfl
def Q_rm_ou (Z : State) (o0 : Addr) (k0 : ClassId) (x0 : Int64) (x1 : Int64) (x2 : Int64) (zr : Addr) (h0 : Heap) (n0 : Nat) (v : Option Value) (h : Heap) (L : List Loc) : Prop := ∃ b : Addr, ∃ ub : Addr, ∃ ku : ClassId, v = some (.ref b) ∧ Fr n0 L ∧ Keep h0 h [] ∧ Exa Z h b "com/example/equipoise/equipoise/WeightList" ∧ Fld Z h b "com/example/equipoise/equipoise/WeightList" "units" "[J" (.ref ub) ∧ Arv Z h ub ku .long (3 : Int32) [(.long x0), (.long x1), (.long x2)] (.long (0 : Int64))
set_option maxRecDepth 65536 in
set_option maxHeartbeats 40000000 in
theorem rm_ou (l : Launch) (Z : State) (a0 : Array Value) (hw : ∀ d ∈ tables_1, d.before a0 Z = true) (ws : List Jvm.Cond) (o0 : Addr) (k0 : ClassId) (x0 : Int64) (x1 : Int64) (x2 : Int64) (zr : Addr) (h0 : Heap) (n0 : Nat) (Z0 : n0 ≤ h0.size) (Ol : Old Z n0 h0) (S_zr : Sta Z Z.heap "java/math/BigInteger" "ZERO" "Ljava/math/BigInteger;" (.ref zr)) (E_zr : Exa Z Z.heap zr "java/math/BigInteger") (F_signum_zr : Fld Z Z.heap zr "java/math/BigInteger" "signum" "I" (.int (0 : Int32))) (hPC : own_PC Z) (V_o0 : Arv Z h0 o0 k0 .long (1024 : Int32) [(.long x0), (.long x1), (.long x2)] (.long (0 : Int64))) (hs : own_S x0 x1 x2) :
    MetFree l yN39 (head1 (Jvm.Cond.code yN39 prog_89_method_3_code 11 (some (.object "com/example/equipoise/equipoise/WeightList")) :: ws) ({ frames := 5, cells := 8, slots := 31, locals := 78 } : Room)) (fun a U => a = #[(.ref o0), (.int (3 : Int32)), (.int (0 : Int32))] ∧ Z.Warmed39 U.vm ∧ U.heap = h0) (fun _ _ _ _ _ => True) (fun _ U o U' => ∃ v L, o = .returned v ∧ Q_rm_ou Z o0 k0 x0 x1 x2 zr h0 n0 v U'.heap L ∧ FrameEnd U o U' L ({ frames := 5, cells := 8, slots := 31, locals := 78 } : Room).cells ({ frames := 5, cells := 8, slots := 31, locals := 78 } : Room).slots) := by
  refine MetFree.of_bodySF (plainFor_of_name pn_rm_ou) hisR ?_
  intro p e s m args below meth c s₁ Bd hml0 hP hK
  obtain ⟨rfl, hZ, hh⟩ := hP
  have hx := Bd.exec
  have hby := Bd.bytes
  have hml : c.maxLocals = 11 := hml0
  have hown : s.vm.findClass "com/example/equipoise/equipoise/WeightList" = some m.cls := findClass_of_methodNamed Bd.named
  have hnm := (name_of_methodNamed Bd.named Bd.method).1
  have X0 : Stand p l e ({ frames := 5, cells := 8, slots := 31, locals := 78 } : Room) s m #[(.ref o0), (.int (3 : Int32)), (.int (0 : Int32))] below meth c s₁ [] 0 0 := Stand.of_body Bd
  have e0 : s₁.heap = h0 := by rw [← hh, Bd.state]; rfl
  have N0 := Fr.nil n0
  have K0 := Keep.refl h0 []
  have go0 : Go p e below (s₁.setTop (entryFrame m #[(.ref o0), (.int (3 : Int32)), (.int (0 : Int32))] 11)) (s₁.setTop (mkF m 0 #[vR o0, vI ((3 : Int32)), vI i0, uu, uu, uu, uu, uu, uu, uu, uu] [])) := fun t k => castTop (ef_rm_ou m o0) k
  have go1 := go0.st s₁ (mkF m 2 #[vR o0, vI ((3 : Int32)), vI i0, uu, uu, uu, uu, uu, uu, uu, uu] [(sI (3 : Int32)), sR o0]) (fun t k => by
    refine XS.aloadN X0.here hx rfl (hb hby d36_0) rfl rfl ?_
    refine XS.iloadN X0.here hx rfl (hb hby d36_1) rfl ?_
    exact k)
  obtain ⟨_, _, ⟨T2, L2, k2, n2⟩, -, X2, ⟨Lc2, hQ2, l2, y2, z2⟩, st2⟩ := Jvm.LawKit.callS X0 hx (y := yN37) hown (mvT hZ (wD hw 198 rfl)) (mvT hZ (wD hw 199 rfl)) (mvT hZ (wD hw 200 rfl)) (mvT hZ (wD hw 201 rfl)) (by decide) (backOf (W := 0) (rm_cp l Z a0 hw [] o0 k0 x0 x1 x2 h0 n0 Z0 V_o0) hZ (wD hw 201 rfl) (wD hw 200 rfl) (by decide) (by decide)) (g := (mkF m 2 #[vR o0, vI ((3 : Int32)), vI i0, uu, uu, uu, uu, uu, uu, uu, uu] [(sI (3 : Int32)), sR o0])) rfl (by rw [hml]; rfl) (argsL := [(.ref o0), (.int (3 : Int32))]) (rest := []) (lenOf pd_rm_ou_0 rfl) rfl (by show 2 * 0 + _ ≤ _; exact Nat.le_of_eq rfl) (hb hby d36_2) (fun _ _ => ⟨rfl, e0, (by decide : 0 + 1 ≤ _), (by decide : 0 + 3 ≤ _)⟩)
  dsimp only [Pt.U, Pt.locs, Pt.cells, Pt.slots] at X2 l2 y2 z2 st2 hQ2
  rw [l2, y2, z2] at X2
  obtain ⟨b_2, kb_2, rfl, N2q, K2, qp2_0, qp2_1, qp2_2⟩ := hQ2
  have N2 := Fr.app N0 N2q
  have f3 := Old.keep Ol K2 all0
  have f4 := V_o0.keep K2 nin0
  have Z2 : n0 ≤ T2.heap.size := Nat.le_trans Z0 K2.1
  have KK2 := K0.trans K2 all0
  have g_b_2 := qp2_0
  have sz_b_2 := Nat.le_trans K0.1 qp2_1
  have ne_o0_b_2 : o0 ≠ b_2 := Nat.ne_of_lt (Nat.lt_of_lt_of_le V_o0.lt qp2_1)
  have go5 := go1.st T2 (mkF m 14 #[vR o0, vI ((3 : Int32)), vI i0, vR b_2, vJ ((0 : Int64)), sc, vR b_2, uu, uu, uu, uu] [sR b_2]) (fun t k => by
    refine st2 _ ?_
    show SP p e below T2 (mkF m 5 #[vR o0, vI ((3 : Int32)), vI i0, uu, uu, uu, uu, uu, uu, uu, uu] [sR b_2]) _
    refine XS.astoreN X2.here hx rfl (hb hby d36_5) rfl rfl (l' := #[vR o0, vI ((3 : Int32)), vI i0, vR b_2, uu, uu, uu, uu, uu, uu, uu]) rfl ?_
    refine XS.lconst X2.here hx rfl (hb hby d36_6) ?_
    refine XS.lstore X2.here hx rfl (hb hby d36_7) rfl (l' := #[vR o0, vI ((3 : Int32)), vI i0, vR b_2, vJ ((0 : Int64)), sc, uu, uu, uu, uu, uu]) rfl ?_
    refine XS.aloadN X2.here hx rfl (hb hby d36_9) rfl rfl ?_
    refine XS.astore X2.here hx rfl (hb hby d36_10) rfl rfl (l' := #[vR o0, vI ((3 : Int32)), vI i0, vR b_2, vJ ((0 : Int64)), sc, vR b_2, uu, uu, uu, uu]) rfl ?_
    refine XS.aload X2.here hx rfl (hb hby d36_12) rfl rfl ?_
    exact k)
  have Vo6 := qp2_2
  obtain ⟨cl6, Ar6, qa6, Sa6, Na6, Ha6, Ga6⟩ := Vo6
  have go8 := go5.st T2 (mkF m 31 #[vR o0, vI ((3 : Int32)), vI i0, vR b_2, vJ ((0 : Int64)), sc, vR b_2, vI ((3 : Int32)), vI i0, uu, uu] [sI i0, sR b_2]) (fun t k => by
    refine X2.arraylength hx Ar6.1 (State.isArrayOf_alike hZ.alike Ar6.2.1) (g := (mkF m 14 #[vR o0, vI ((3 : Int32)), vI i0, vR b_2, vJ ((0 : Int64)), sc, vR b_2, uu, uu, uu, uu] [sR b_2])) rfl rfl (hb hby d36_14) _ ?_
    rw [len_of Sa6 Na6]
    refine XS.istore X2.here hx rfl (hb hby d36_15) rfl (l' := #[vR o0, vI ((3 : Int32)), vI i0, vR b_2, vJ ((0 : Int64)), sc, vR b_2, vI ((3 : Int32)), uu, uu, uu]) rfl ?_
    refine XS.iconst X2.here hx rfl (hb hby d36_17) ?_
    refine XS.istore X2.here hx rfl (hb hby d36_18) rfl (l' := #[vR o0, vI ((3 : Int32)), vI i0, vR b_2, vJ ((0 : Int64)), sc, vR b_2, vI ((3 : Int32)), vI i0, uu, uu]) rfl ?_
    refine XS.iload X2.here hx rfl (hb hby d36_20) rfl ?_
    refine XS.iload X2.here hx rfl (hb hby d36_22) rfl ?_
    refine XS.icmpNo X2.here hx rfl (hb hby d36_24) rfl (tlt ((by decide) : (0 : Int32) < (3 : Int32))).2.1 ?_
    refine XS.aload X2.here hx rfl (hb hby d36_27) rfl rfl ?_
    show SP p e below T2 (mkF m 29 #[vR o0, vI ((3 : Int32)), vI i0, vR b_2, vJ ((0 : Int64)), sc, vR b_2, vI ((3 : Int32)), vI i0, uu, uu] [sR b_2]) _
    refine XS.iload X2.here hx rfl (hb hby d36_29) rfl ?_
    exact k)
  have Vo9 := qp2_2
  obtain ⟨cl9, Ar9, qa9, Sa9, Na9, Ha9, Ga9⟩ := Vo9
  have hin9 := inb_of (j := (0 : Int32)) Sa9 ⟨by decide, by decide⟩
  have hat9 : cl9.slots[((0 : Int32)).toNatClampNeg]? = some (.long x0) := Has.at Ha9 hin9 rfl
  have go10 := go8.st T2 (mkF m 38 #[vR o0, vI ((3 : Int32)), vI i0, vR b_2, vJ ((0 : Int64)), sc, vR b_2, vI ((3 : Int32)), vI i0, vJ x0, sc] [sJ x0, (sJ (0 : Int64))]) (fun t k => by
    refine X2.laload hx (j := (0 : Int32)) (v := (.long x0)) Ar9.1 (State.isArrayOf_alike hZ.alike Ar9.2.1) Ar9.2.2 hin9 hat9 (g := (mkF m 31 #[vR o0, vI ((3 : Int32)), vI i0, vR b_2, vJ ((0 : Int64)), sc, vR b_2, vI ((3 : Int32)), vI i0, uu, uu] [sI i0, sR b_2])) rfl rfl (hb hby d36_31) _ ?_
    refine XS.lstore X2.here hx rfl (hb hby d36_32) rfl (l' := #[vR o0, vI ((3 : Int32)), vI i0, vR b_2, vJ ((0 : Int64)), sc, vR b_2, vI ((3 : Int32)), vI i0, vJ x0, sc]) rfl ?_
    refine XS.lload X2.here hx rfl (hb hby d36_34) rfl ?_
    refine XS.lload X2.here hx rfl (hb hby d36_36) rfl ?_
    exact k)
  obtain ⟨_, _, ⟨T11, L11, k11, n11⟩, -, X11, ⟨Lc11, hQ11, l11, y11, z11⟩, st11⟩ := Jvm.LawKit.callS X2 hx (y := yN1) hown (mvT hZ (wD hw 207 rfl)) (mvT hZ (wD hw 180 rfl)) (mvT hZ (wD hw 3 rfl)) (mvT hZ (wD hw 181 rfl)) (by decide) (backOf (W := 0) (rm_maxJ l Z a0 hw [] (0 : Int64) x0 T2.heap n0 Z2 ) hZ (wD hw 181 rfl) (wD hw 3 rfl) (by decide) (by decide)) (g := (mkF m 38 #[vR o0, vI ((3 : Int32)), vI i0, vR b_2, vJ ((0 : Int64)), sc, vR b_2, vI ((3 : Int32)), vI i0, vJ x0, sc] [sJ x0, (sJ (0 : Int64))])) rfl (by rw [hml]; rfl) (argsL := [(.long (0 : Int64)), (.long x0)]) (rest := []) (lenOf pd_rm_ou_1 rfl) rfl (by show 2 * 0 + _ ≤ _; exact Nat.le_of_eq rfl) (hb hby d36_38) (fun _ _ => ⟨rfl, rfl, (by decide : 1 + 0 ≤ _), (by decide : 3 + 0 ≤ _)⟩)
  dsimp only [Pt.U, Pt.locs, Pt.cells, Pt.slots] at X11 l11 y11 z11 st11 hQ11
  rw [l11, y11, z11] at X11
  obtain ⟨rfl, N11q, e11⟩ := hQ11
  have N11 := Fr.app N2 N11q
  have go13 := go10.st T11 (mkF m 31 #[vR o0, vI ((3 : Int32)), vI i0, vR b_2, vJ ((own_maxL (0 : Int64) x0)), sc, vR b_2, vI ((3 : Int32)), vI i1, vJ x0, sc] [sI i1, sR b_2]) (fun t k => by
    refine st11 _ ?_
    show SP p e below T11 (mkF m 41 #[vR o0, vI ((3 : Int32)), vI i0, vR b_2, vJ ((0 : Int64)), sc, vR b_2, vI ((3 : Int32)), vI i0, vJ x0, sc] [(sJ (own_maxL (0 : Int64) x0))]) _
    refine XS.lstore X11.here hx rfl (hb hby d36_41) rfl (l' := #[vR o0, vI ((3 : Int32)), vI i0, vR b_2, vJ ((own_maxL (0 : Int64) x0)), sc, vR b_2, vI ((3 : Int32)), vI i0, vJ x0, sc]) rfl ?_
    refine XS.iinc X11.here hx rfl (hb hby d36_43) rfl (l' := #[vR o0, vI ((3 : Int32)), vI i0, vR b_2, vJ ((own_maxL (0 : Int64) x0)), sc, vR b_2, vI ((3 : Int32)), vI i1, vJ x0, sc]) rfl ?_
    refine XS.goto X11.here hx rfl (pc0 := 46) (pc' := 20) rfl (hb hby d36_46) (by decide) (by decide) ?_
    refine XS.iload X11.here hx rfl (hb hby d36_20) rfl ?_
    refine XS.iload X11.here hx rfl (hb hby d36_22) rfl ?_
    refine XS.icmpNo X11.here hx rfl (hb hby d36_24) rfl (tlt ((by decide) : (1 : Int32) < (3 : Int32))).2.1 ?_
    refine XS.aload X11.here hx rfl (hb hby d36_27) rfl rfl ?_
    refine XS.iload X11.here hx rfl (hb hby d36_29) rfl ?_
    exact k)
  have Vo14 := qp2_2
  obtain ⟨cl14, Ar14, qa14, Sa14, Na14, Ha14, Ga14⟩ := Vo14
  have hin14 := inb_of (j := (1 : Int32)) Sa14 ⟨by decide, by decide⟩
  have hat14 : cl14.slots[((1 : Int32)).toNatClampNeg]? = some (.long x1) := Has.at Ha14 hin14 rfl
  have go15 := go13.st T11 (mkF m 38 #[vR o0, vI ((3 : Int32)), vI i0, vR b_2, vJ ((own_maxL (0 : Int64) x0)), sc, vR b_2, vI ((3 : Int32)), vI i1, vJ x1, sc] [sJ x1, (sJ (own_maxL (0 : Int64) x0))]) (fun t k => by
    refine X11.laload hx (j := (1 : Int32)) (v := (.long x1)) (by rw [e11]; exact Ar14.1) (State.isArrayOf_alike hZ.alike Ar14.2.1) Ar14.2.2 hin14 hat14 (g := (mkF m 31 #[vR o0, vI ((3 : Int32)), vI i0, vR b_2, vJ ((own_maxL (0 : Int64) x0)), sc, vR b_2, vI ((3 : Int32)), vI i1, vJ x0, sc] [sI i1, sR b_2])) rfl rfl (hb hby d36_31) _ ?_
    refine XS.lstore X11.here hx rfl (hb hby d36_32) rfl (l' := #[vR o0, vI ((3 : Int32)), vI i0, vR b_2, vJ ((own_maxL (0 : Int64) x0)), sc, vR b_2, vI ((3 : Int32)), vI i1, vJ x1, sc]) rfl ?_
    refine XS.lload X11.here hx rfl (hb hby d36_34) rfl ?_
    refine XS.lload X11.here hx rfl (hb hby d36_36) rfl ?_
    exact k)
  obtain ⟨_, _, ⟨T16, L16, k16, n16⟩, -, X16, ⟨Lc16, hQ16, l16, y16, z16⟩, st16⟩ := Jvm.LawKit.callS X11 hx (y := yN1) hown (mvT hZ (wD hw 207 rfl)) (mvT hZ (wD hw 180 rfl)) (mvT hZ (wD hw 3 rfl)) (mvT hZ (wD hw 181 rfl)) (by decide) (backOf (W := 0) (rm_maxJ l Z a0 hw [] (own_maxL (0 : Int64) x0) x1 T2.heap n0 Z2 ) hZ (wD hw 181 rfl) (wD hw 3 rfl) (by decide) (by decide)) (g := (mkF m 38 #[vR o0, vI ((3 : Int32)), vI i0, vR b_2, vJ ((own_maxL (0 : Int64) x0)), sc, vR b_2, vI ((3 : Int32)), vI i1, vJ x1, sc] [sJ x1, (sJ (own_maxL (0 : Int64) x0))])) rfl (by rw [hml]; rfl) (argsL := [(.long (own_maxL (0 : Int64) x0)), (.long x1)]) (rest := []) (lenOf pd_rm_ou_1 rfl) rfl (by show 2 * 0 + _ ≤ _; exact Nat.le_of_eq rfl) (hb hby d36_38) (fun _ _ => ⟨rfl, e11, (by decide : 1 + 0 ≤ _), (by decide : 3 + 0 ≤ _)⟩)
  dsimp only [Pt.U, Pt.locs, Pt.cells, Pt.slots] at X16 l16 y16 z16 st16 hQ16
  rw [l16, y16, z16] at X16
  obtain ⟨rfl, N16q, e16⟩ := hQ16
  have N16 := Fr.app N11 N16q
  have go18 := go15.st T16 (mkF m 31 #[vR o0, vI ((3 : Int32)), vI i0, vR b_2, vJ ((own_maxL (own_maxL (0 : Int64) x0) x1)), sc, vR b_2, vI ((3 : Int32)), vI i2, vJ x1, sc] [sI i2, sR b_2]) (fun t k => by
    refine st16 _ ?_
    show SP p e below T16 (mkF m 41 #[vR o0, vI ((3 : Int32)), vI i0, vR b_2, vJ ((own_maxL (0 : Int64) x0)), sc, vR b_2, vI ((3 : Int32)), vI i1, vJ x1, sc] [(sJ (own_maxL (own_maxL (0 : Int64) x0) x1))]) _
    refine XS.lstore X16.here hx rfl (hb hby d36_41) rfl (l' := #[vR o0, vI ((3 : Int32)), vI i0, vR b_2, vJ ((own_maxL (own_maxL (0 : Int64) x0) x1)), sc, vR b_2, vI ((3 : Int32)), vI i1, vJ x1, sc]) rfl ?_
    refine XS.iinc X16.here hx rfl (hb hby d36_43) rfl (l' := #[vR o0, vI ((3 : Int32)), vI i0, vR b_2, vJ ((own_maxL (own_maxL (0 : Int64) x0) x1)), sc, vR b_2, vI ((3 : Int32)), vI i2, vJ x1, sc]) rfl ?_
    refine XS.goto X16.here hx rfl (pc0 := 46) (pc' := 20) rfl (hb hby d36_46) (by decide) (by decide) ?_
    refine XS.iload X16.here hx rfl (hb hby d36_20) rfl ?_
    refine XS.iload X16.here hx rfl (hb hby d36_22) rfl ?_
    refine XS.icmpNo X16.here hx rfl (hb hby d36_24) rfl (tlt ((by decide) : (2 : Int32) < (3 : Int32))).2.1 ?_
    refine XS.aload X16.here hx rfl (hb hby d36_27) rfl rfl ?_
    refine XS.iload X16.here hx rfl (hb hby d36_29) rfl ?_
    exact k)
  have Vo19 := qp2_2
  obtain ⟨cl19, Ar19, qa19, Sa19, Na19, Ha19, Ga19⟩ := Vo19
  have hin19 := inb_of (j := (2 : Int32)) Sa19 ⟨by decide, by decide⟩
  have hat19 : cl19.slots[((2 : Int32)).toNatClampNeg]? = some (.long x2) := Has.at Ha19 hin19 rfl
  have go20 := go18.st T16 (mkF m 38 #[vR o0, vI ((3 : Int32)), vI i0, vR b_2, vJ ((own_maxL (own_maxL (0 : Int64) x0) x1)), sc, vR b_2, vI ((3 : Int32)), vI i2, vJ x2, sc] [sJ x2, (sJ (own_maxL (own_maxL (0 : Int64) x0) x1))]) (fun t k => by
    refine X16.laload hx (j := (2 : Int32)) (v := (.long x2)) (by rw [e16]; exact Ar19.1) (State.isArrayOf_alike hZ.alike Ar19.2.1) Ar19.2.2 hin19 hat19 (g := (mkF m 31 #[vR o0, vI ((3 : Int32)), vI i0, vR b_2, vJ ((own_maxL (own_maxL (0 : Int64) x0) x1)), sc, vR b_2, vI ((3 : Int32)), vI i2, vJ x1, sc] [sI i2, sR b_2])) rfl rfl (hb hby d36_31) _ ?_
    refine XS.lstore X16.here hx rfl (hb hby d36_32) rfl (l' := #[vR o0, vI ((3 : Int32)), vI i0, vR b_2, vJ ((own_maxL (own_maxL (0 : Int64) x0) x1)), sc, vR b_2, vI ((3 : Int32)), vI i2, vJ x2, sc]) rfl ?_
    refine XS.lload X16.here hx rfl (hb hby d36_34) rfl ?_
    refine XS.lload X16.here hx rfl (hb hby d36_36) rfl ?_
    exact k)
  obtain ⟨_, _, ⟨T21, L21, k21, n21⟩, -, X21, ⟨Lc21, hQ21, l21, y21, z21⟩, st21⟩ := Jvm.LawKit.callS X16 hx (y := yN1) hown (mvT hZ (wD hw 207 rfl)) (mvT hZ (wD hw 180 rfl)) (mvT hZ (wD hw 3 rfl)) (mvT hZ (wD hw 181 rfl)) (by decide) (backOf (W := 0) (rm_maxJ l Z a0 hw [] (own_maxL (own_maxL (0 : Int64) x0) x1) x2 T2.heap n0 Z2 ) hZ (wD hw 181 rfl) (wD hw 3 rfl) (by decide) (by decide)) (g := (mkF m 38 #[vR o0, vI ((3 : Int32)), vI i0, vR b_2, vJ ((own_maxL (own_maxL (0 : Int64) x0) x1)), sc, vR b_2, vI ((3 : Int32)), vI i2, vJ x2, sc] [sJ x2, (sJ (own_maxL (own_maxL (0 : Int64) x0) x1))])) rfl (by rw [hml]; rfl) (argsL := [(.long (own_maxL (own_maxL (0 : Int64) x0) x1)), (.long x2)]) (rest := []) (lenOf pd_rm_ou_1 rfl) rfl (by show 2 * 0 + _ ≤ _; exact Nat.le_of_eq rfl) (hb hby d36_38) (fun _ _ => ⟨rfl, e16, (by decide : 1 + 0 ≤ _), (by decide : 3 + 0 ≤ _)⟩)
  dsimp only [Pt.U, Pt.locs, Pt.cells, Pt.slots] at X21 l21 y21 z21 st21 hQ21
  rw [l21, y21, z21] at X21
  obtain ⟨rfl, N21q, e21⟩ := hQ21
  have N21 := Fr.app N16 N21q
  have go23 := go20.st T21 (mkF m 49 #[vR o0, vI ((3 : Int32)), vI i0, vR b_2, vJ ((own_maxL (own_maxL (own_maxL (0 : Int64) x0) x1) x2)), sc, vR b_2, vI ((3 : Int32)), vI ((3 : Int32)), vJ x2, sc] []) (fun t k => by
    refine st21 _ ?_
    show SP p e below T21 (mkF m 41 #[vR o0, vI ((3 : Int32)), vI i0, vR b_2, vJ ((own_maxL (own_maxL (0 : Int64) x0) x1)), sc, vR b_2, vI ((3 : Int32)), vI i2, vJ x2, sc] [(sJ (own_maxL (own_maxL (own_maxL (0 : Int64) x0) x1) x2))]) _
    refine XS.lstore X21.here hx rfl (hb hby d36_41) rfl (l' := #[vR o0, vI ((3 : Int32)), vI i0, vR b_2, vJ ((own_maxL (own_maxL (own_maxL (0 : Int64) x0) x1) x2)), sc, vR b_2, vI ((3 : Int32)), vI i2, vJ x2, sc]) rfl ?_
    refine XS.iinc X21.here hx rfl (hb hby d36_43) rfl (l' := #[vR o0, vI ((3 : Int32)), vI i0, vR b_2, vJ ((own_maxL (own_maxL (own_maxL (0 : Int64) x0) x1) x2)), sc, vR b_2, vI ((3 : Int32)), vI ((3 : Int32)), vJ x2, sc]) rfl ?_
    refine XS.goto X21.here hx rfl (pc0 := 46) (pc' := 20) rfl (hb hby d36_46) (by decide) (by decide) ?_
    refine XS.iload X21.here hx rfl (hb hby d36_20) rfl ?_
    refine XS.iload X21.here hx rfl (hb hby d36_22) rfl ?_
    refine XS.icmpYes X21.here hx rfl (pc0 := 24) (pc' := 49) rfl (hb hby d36_24) rfl (flt ((by decide) : ¬ ((3 : Int32) < (3 : Int32)))).2.1 (by decide) (by decide) ?_
    exact k)
  obtain ⟨T24, h24, X24, e24, E24, A24, D24, -, st24⟩ := newO X21 hx hZ hown (wD hw 208 rfl) (wD hw 209 rfl) (wD hw 170 rfl) e21 (g := (mkF m 49 #[vR o0, vI ((3 : Int32)), vI i0, vR b_2, vJ ((own_maxL (own_maxL (own_maxL (0 : Int64) x0) x1) x2)), sc, vR b_2, vI ((3 : Int32)), vI ((3 : Int32)), vJ x2, sc] [])) rfl (hb hby d36_49) (by decide) (by decide)
  obtain ⟨b24, g24⟩ : ∃ z, z = T2.heap.size := ⟨_, rfl⟩
  rw [← g24] at A24 D24 st24
  have ne_o0_b24 : o0 ≠ b24 := Nat.ne_of_lt (Nat.lt_of_lt_of_le f4.lt (Nat.le_of_eq g24.symm))
  have ne_b_2_b24 : b_2 ≠ b24 := Nat.ne_of_lt (Nat.lt_of_lt_of_le qp2_2.lt (Nat.le_of_eq g24.symm))
  have g_b24 : n0 ≤ b24 := Nat.le_trans Z2 (Nat.le_of_eq g24.symm)
  have sz_b24 : h0.size ≤ b24 := Nat.le_trans KK2.1 (Nat.le_of_eq g24.symm)
  have f25 := Old.ext f3 E24
  have f26 := f4.ext E24
  have f27 := qp2_2.ext E24
  have F24_units : Fld Z h24 b24 "com/example/equipoise/equipoise/WeightList" "units" "[J" .null := D24 (Or.inr (wD hw 257 rfl)) (ty := (.array .long)) (by decide)
  have F24_scale : Fld Z h24 b24 "com/example/equipoise/equipoise/WeightList" "scale" "I" (.int (0 : Int32)) := D24 (Or.inr (wD hw 259 rfl)) (ty := .int) (by decide)
  have F24_total : Fld Z h24 b24 "com/example/equipoise/equipoise/WeightList" "total" "Ljava/math/BigInteger;" .null := D24 (Or.inr (wD hw 261 rfl)) (ty := (.object "java/math/BigInteger")) (by decide)
  have F24_largest : Fld Z h24 b24 "com/example/equipoise/equipoise/WeightList" "largest" "J" (.long (0 : Int64)) := D24 (Or.inr (wD hw 263 rfl)) (ty := .long) (by decide)
  have Z24 : n0 ≤ h24.size := Nat.le_trans Z2 E24.1
  have K24 := KK2.ext E24
  have go28 := go23.st T24 (mkF m 56 #[vR o0, vI ((3 : Int32)), vI i0, vR b_2, vJ ((own_maxL (own_maxL (own_maxL (0 : Int64) x0) x1) x2)), sc, vR b_2, vI ((3 : Int32)), vI ((3 : Int32)), vJ x2, sc] [sR b_2, sI i0, sR b_2, sR b24, sR b24]) (fun t k => by
    refine st24 _ ?_
    show SP p e below T24 (mkF m 52 #[vR o0, vI ((3 : Int32)), vI i0, vR b_2, vJ ((own_maxL (own_maxL (own_maxL (0 : Int64) x0) x1) x2)), sc, vR b_2, vI ((3 : Int32)), vI ((3 : Int32)), vJ x2, sc] [sR b24]) _
    refine XS.dup X24.here hx rfl (hb hby d36_52) rfl rfl ?_
    refine XS.aloadN X24.here hx rfl (hb hby d36_53) rfl rfl ?_
    refine XS.iloadN X24.here hx rfl (hb hby d36_54) rfl ?_
    refine XS.aloadN X24.here hx rfl (hb hby d36_55) rfl rfl ?_
    exact k)
  obtain ⟨_, _, ⟨T29, L29, k29, n29⟩, -, X29, ⟨Lc29, hQ29, l29, y29, z29⟩, st29⟩ := Jvm.LawKit.callS X24 hx (y := yN36) hown (mvT hZ (wD hw 210 rfl)) (mvT hZ (wD hw 211 rfl)) (mvT hZ (wD hw 170 rfl)) (mvT hZ (wD hw 212 rfl)) (by decide) (backOf (W := 4) (rm_sum l Z a0 hw [] b_2 kb_2 x0 x1 x2 zr h24 n0 Z24 f25 S_zr E_zr F_signum_zr hPC f27 hs) hZ (wD hw 212 rfl) (wD hw 170 rfl) (by decide) (by decide)) (g := (mkF m 56 #[vR o0, vI ((3 : Int32)), vI i0, vR b_2, vJ ((own_maxL (own_maxL (own_maxL (0 : Int64) x0) x1) x2)), sc, vR b_2, vI ((3 : Int32)), vI ((3 : Int32)), vJ x2, sc] [sR b_2, sI i0, sR b_2, sR b24, sR b24])) rfl (by rw [hml]; rfl) (argsL := [(.ref b_2)]) (rest := [(.int (0 : Int32)), (.ref b_2), (.ref b24), (.ref b24)]) (lenOf pd_rm_ou_2 rfl) rfl (by show 2 * 0 + _ ≤ _; exact Nat.le_of_eq rfl) (hb hby d36_56) (fun _ _ => ⟨rfl, e24, (by decide : 2 + 6 ≤ _), (by decide : 7 + 24 ≤ _)⟩)
  dsimp only [Pt.U, Pt.locs, Pt.cells, Pt.slots] at X29 l29 y29 z29 st29 hQ29
  rw [l29, y29, z29] at X29
  obtain ⟨b_29, rfl, N29q, K29⟩ := hQ29
  have N29 := Fr.app N21 N29q
  have f30 := Old.keep f25 K29 all0
  have f31 := f26.keep K29 nin0
  have f32 := f27.keep K29 nin0
  have f33 := A24.keep K29
  have f34 := F24_units.keep K29 nin0
  have f35 := F24_scale.keep K29 nin0
  have f36 := F24_total.keep K29 nin0
  have f37 := F24_largest.keep K29 nin0
  have Z29 : n0 ≤ T29.heap.size := Nat.le_trans Z24 K29.1
  have KK29 := K24.trans K29 all0
  have go38 := go28.st T29 (mkF m 61 #[vR o0, vI ((3 : Int32)), vI i0, vR b_2, vJ ((own_maxL (own_maxL (own_maxL (0 : Int64) x0) x1) x2)), sc, vR b_2, vI ((3 : Int32)), vI ((3 : Int32)), vJ x2, sc] [(sJ (own_maxL (own_maxL (own_maxL (0 : Int64) x0) x1) x2)), sR b_29, sI i0, sR b_2, sR b24, sR b24]) (fun t k => by
    refine st29 _ ?_
    show SP p e below T29 (mkF m 59 #[vR o0, vI ((3 : Int32)), vI i0, vR b_2, vJ ((own_maxL (own_maxL (own_maxL (0 : Int64) x0) x1) x2)), sc, vR b_2, vI ((3 : Int32)), vI ((3 : Int32)), vJ x2, sc] [sR b_29, sI i0, sR b_2, sR b24, sR b24]) _
    refine XS.lload X29.here hx rfl (hb hby d36_59) rfl ?_
    exact k)
  obtain ⟨_, _, ⟨T39, L39, k39, n39⟩, -, X39, ⟨Lc39, hQ39, l39, y39, z39⟩, st39⟩ := X29.specialBack hx (y := yN38) rfl hown (mvT hZ (wD hw 252 rfl)) (mvT hZ (wD hw 253 rfl)) (mvT hZ (wD hw 254 rfl)) (by decide) (backOf (W := 1) (rm_wli l Z a0 hw [] b24 b_2 (0 : Int32) b_29 (own_maxL (own_maxL (own_maxL (0 : Int64) x0) x1) x2) T29.heap n0 Z29 f33 g_b24 f34 f35 f36 f37) hZ (wD hw 254 rfl) (wD hw 170 rfl) (by decide) (by decide)) (g := (mkF m 61 #[vR o0, vI ((3 : Int32)), vI i0, vR b_2, vJ ((own_maxL (own_maxL (own_maxL (0 : Int64) x0) x1) x2)), sc, vR b_2, vI ((3 : Int32)), vI ((3 : Int32)), vJ x2, sc] [(sJ (own_maxL (own_maxL (own_maxL (0 : Int64) x0) x1) x2)), sR b_29, sI i0, sR b_2, sR b24, sR b24])) rfl (by rw [hml]; rfl) (Steps.refl _) (a := b24) (argsL := [(.ref b_2), (.int (0 : Int32)), (.ref b_29), (.long (own_maxL (own_maxL (own_maxL (0 : Int64) x0) x1) x2))]) (rest := [(.ref b24)]) (lenOf pd_rm_ou_3 rfl) rfl (by show 2 * 0 + _ ≤ _; exact Nat.le_of_eq rfl) (hb hby d36_61) (fun _ _ => ⟨rfl, rfl, (by decide : 8 + 0 ≤ _), (by decide : 31 + 0 ≤ _)⟩)
  dsimp only [Pt.U, Pt.locs, Pt.cells, Pt.slots] at X39 l39 y39 z39 st39 hQ39
  rw [l39, y39, z39] at X39
  obtain ⟨rfl, N39q, K39, qp39_0, qp39_1⟩ := hQ39
  have N39 := Fr.app N29 N39q
  have f40 := Old.keep f30 K39 (allS g_b24 all0)
  have f41 := f31.keep K39 (ninS ne_o0_b24 nin0)
  have f42 := f32.keep K39 (ninS ne_b_2_b24 nin0)
  have f43 := f33.keep K39
  have Z39 : n0 ≤ T39.heap.size := Nat.le_trans Z29 K39.1
  have KK39 := KK29.trans K39 (allS (Or.inr sz_b24) all0)
  have go48 := go38.st T39 (mkF m 64 #[vR o0, vI ((3 : Int32)), vI i0, vR b_2, vJ ((own_maxL (own_maxL (own_maxL (0 : Int64) x0) x1) x2)), sc, vR b_2, vI ((3 : Int32)), vI ((3 : Int32)), vJ x2, sc] [sR b24]) (fun t k => by
    refine st39.trans ?_
    exact k)
  obtain ⟨fs, hr, hrun, hended, hW, hsame⟩ := X39.leave (v := some (.ref b24)) (fun h => by rw [Bd.returns] at h; cases h)
  refine ⟨_, _, go48 _ ?_, hrun, hended, _, _, rfl, ?_, ⟨_, rfl⟩, hW, hsame.mono (by decide) (by decide)⟩
  · exact own_retA X39 hx Bd.returns rfl rfl (hb hby d36_64) hr
  · show Q_rm_ou Z o0 k0 x0 x1 x2 zr h0 n0 _ T39.heap _
    exact ⟨b24, b_2, kb_2, rfl, N39, KK39, qp39_0, qp39_1, f42⟩
theorem d35_0 : decode prog_88_method_5_code 0 = .ok (.aload_n 0, 1) := by decide +kernel
theorem d35_1 : decode prog_88_method_5_code 1 = .ok (.getfield 14, 3) := by decide +kernel
theorem d35_4 : decode prog_88_method_5_code 4 = .ok (.aload_n 0, 1) := by decide +kernel
theorem d35_5 : decode prog_88_method_5_code 5 = .ok (.getfield 113, 3) := by decide +kernel
theorem d35_8 : decode prog_88_method_5_code 8 = .ok (.aload_n 0, 1) := by decide +kernel
theorem d35_9 : decode prog_88_method_5_code 9 = .ok (.getfield 76, 3) := by decide +kernel
theorem d35_12 : decode prog_88_method_5_code 12 = .ok (.invokestatic 122, 3) := by decide +kernel
theorem d35_15 : decode prog_88_method_5_code 15 = .ok (.areturn, 1) := by decide +kernel
theorem pn_rm_build : plainName "com/example/equipoise/equipoise/WeightFile$Builder" = true := by first | (simp [plainName, overriddenIn]; done) | decide +kernel
theorem pd_rm_build_0 : parseMethodDescriptor "([JII)Lcom/example/equipoise/equipoise/WeightList;" = some ⟨[(.array .long), .int, .int], some (.object "com/example/equipoise/equipoise/WeightList")⟩ := by decide +kernel
theorem ef_rm_build (m : MethodId) (o0 : Addr) : entryFrame m #[(.ref o0)] 1 = mkF m 0 #[.val (.ref o0)] [] := by first | (simp [entryFrame, mkF, argsToLocals, Value.category]; done) | rfl
def Q_rm_build (Z : State) (o0 : Addr) (un : Addr) (k0 : ClassId) (x0 : Int64) (x1 : Int64) (x2 : Int64) (zr : Addr) (h0 : Heap) (n0 : Nat) (v : Option Value) (h : Heap) (L : List Loc) : Prop := ∃ b : Addr, ∃ ub : Addr, ∃ ku : ClassId, v = some (.ref b) ∧ Fr n0 L ∧ Keep h0 h [] ∧ Exa Z h b "com/example/equipoise/equipoise/WeightList" ∧ Fld Z h b "com/example/equipoise/equipoise/WeightList" "units" "[J" (.ref ub) ∧ Arv Z h ub ku .long (3 : Int32) [(.long x0), (.long x1), (.long x2)] (.long (0 : Int64))
set_option maxRecDepth 65536 in
set_option maxHeartbeats 40000000 in
theorem rm_build (l : Launch) (Z : State) (a0 : Array Value) (hw : ∀ d ∈ tables_1, d.before a0 Z = true) (ws : List Jvm.Cond) (o0 : Addr) (un : Addr) (k0 : ClassId) (x0 : Int64) (x1 : Int64) (x2 : Int64) (zr : Addr) (h0 : Heap) (n0 : Nat) (Z0 : n0 ≤ h0.size) (Ol : Old Z n0 h0) (S_zr : Sta Z Z.heap "java/math/BigInteger" "ZERO" "Ljava/math/BigInteger;" (.ref zr)) (E_zr : Exa Z Z.heap zr "java/math/BigInteger") (F_signum_zr : Fld Z Z.heap zr "java/math/BigInteger" "signum" "I" (.int (0 : Int32))) (hPC : own_PC Z) (F_units_o0 : Fld Z h0 o0 "com/example/equipoise/equipoise/WeightFile$Builder" "units" "[J" (.ref un)) (F_count_o0 : Fld Z h0 o0 "com/example/equipoise/equipoise/WeightFile$Builder" "count" "I" (.int (3 : Int32))) (F_scale_o0 : Fld Z h0 o0 "com/example/equipoise/equipoise/WeightFile$Builder" "scale" "I" (.int (0 : Int32))) (V_un : Arv Z h0 un k0 .long (1024 : Int32) [(.long x0), (.long x1), (.long x2)] (.long (0 : Int64))) (hs : own_S x0 x1 x2) :
    MetFree l yN40 (head1 (Jvm.Cond.code yN40 prog_88_method_5_code 1 (some (.object "com/example/equipoise/equipoise/WeightList")) :: ws) ({ frames := 6, cells := 8, slots := 31, locals := 100 } : Room)) (fun a U => a = #[(.ref o0)] ∧ Z.Warmed39 U.vm ∧ U.heap = h0) (fun _ _ _ _ _ => True) (fun _ U o U' => ∃ v L, o = .returned v ∧ Q_rm_build Z o0 un k0 x0 x1 x2 zr h0 n0 v U'.heap L ∧ FrameEnd U o U' L ({ frames := 6, cells := 8, slots := 31, locals := 100 } : Room).cells ({ frames := 6, cells := 8, slots := 31, locals := 100 } : Room).slots) := by
  refine MetFree.of_bodySF (plainFor_of_name pn_rm_build) hisR ?_
  intro p e s m args below meth c s₁ Bd hml0 hP hK
  obtain ⟨rfl, hZ, hh⟩ := hP
  have hx := Bd.exec
  have hby := Bd.bytes
  have hml : c.maxLocals = 1 := hml0
  have hown : s.vm.findClass "com/example/equipoise/equipoise/WeightFile$Builder" = some m.cls := findClass_of_methodNamed Bd.named
  have hnm := (name_of_methodNamed Bd.named Bd.method).1
  have X0 : Stand p l e ({ frames := 6, cells := 8, slots := 31, locals := 100 } : Room) s m #[(.ref o0)] below meth c s₁ [] 0 0 := Stand.of_body Bd
  have e0 : s₁.heap = h0 := by rw [← hh, Bd.state]; rfl
  have N0 := Fr.nil n0
  have K0 := Keep.refl h0 []
  have go0 : Go p e below (s₁.setTop (entryFrame m #[(.ref o0)] 1)) (s₁.setTop (mkF m 0 #[vR o0] [])) := fun t k => castTop (ef_rm_build m o0) k
  have go1 := go0.st s₁ (mkF m 1 #[vR o0] [sR o0]) (fun t k => by
    refine XS.aloadN X0.here hx rfl (hb hby d35_0) rfl rfl ?_
    exact k)
  obtain ⟨T2, X2, e2, st2⟩ := getF X0 hx hZ hown (host := "") (Or.inl (wD hw 72 rfl)) Via.refl e0 F_units_o0 (g := (mkF m 1 #[vR o0] [sR o0])) rfl rfl (hb hby d35_1)
  have go3 := go1.st T2 (mkF m 5 #[vR o0] [sR o0, sR un]) (fun t k => by
    refine st2 _ ?_
    show SP p e below T2 (mkF m 4 #[vR o0] [sR un]) _
    refine XS.aloadN X2.here hx rfl (hb hby d35_4) rfl rfl ?_
    exact k)
  obtain ⟨T4, X4, e4, st4⟩ := getF X2 hx hZ hown (host := "") (Or.inl (wD hw 182 rfl)) Via.refl e2 F_count_o0 (g := (mkF m 5 #[vR o0] [sR o0, sR un])) rfl rfl (hb hby d35_5)
  have go5 := go3.st T4 (mkF m 9 #[vR o0] [sR o0, (sI (3 : Int32)), sR un]) (fun t k => by
    refine st4 _ ?_
    show SP p e below T4 (mkF m 8 #[vR o0] [(sI (3 : Int32)), sR un]) _
    refine XS.aloadN X4.here hx rfl (hb hby d35_8) rfl rfl ?_
    exact k)
  obtain ⟨T6, X6, e6, st6⟩ := getF X4 hx hZ hown (host := "") (Or.inl (wD hw 150 rfl)) Via.refl e4 F_scale_o0 (g := (mkF m 9 #[vR o0] [sR o0, (sI (3 : Int32)), sR un])) rfl rfl (hb hby d35_9)
  have go7 := go5.st T6 (mkF m 12 #[vR o0] [sI i0, (sI (3 : Int32)), sR un]) (fun t k => by
    refine st6 _ ?_
    exact k)
  obtain ⟨_, _, ⟨T8, L8, k8, n8⟩, -, X8, ⟨Lc8, hQ8, l8, y8, z8⟩, st8⟩ := Jvm.LawKit.callS X6 hx (y := yN39) hown (mvT hZ (wD hw 195 rfl)) (mvT hZ (wD hw 196 rfl)) (mvT hZ (wD hw 170 rfl)) (mvT hZ (wD hw 197 rfl)) (by decide) (backOf (W := 0) (rm_ou l Z a0 hw [] un k0 x0 x1 x2 zr h0 n0 Z0 Ol S_zr E_zr F_signum_zr hPC V_un hs) hZ (wD hw 197 rfl) (wD hw 170 rfl) (by decide) (by decide)) (g := (mkF m 12 #[vR o0] [sI i0, (sI (3 : Int32)), sR un])) rfl (by rw [hml]; rfl) (argsL := [(.ref un), (.int (3 : Int32)), (.int (0 : Int32))]) (rest := []) (lenOf pd_rm_build_0 rfl) rfl (by show 2 * 0 + _ ≤ _; exact Nat.le_of_eq rfl) (hb hby d35_12) (fun _ _ => ⟨rfl, e6, (by decide : 0 + 8 ≤ _), (by decide : 0 + 31 ≤ _)⟩)
  dsimp only [Pt.U, Pt.locs, Pt.cells, Pt.slots] at X8 l8 y8 z8 st8 hQ8
  rw [l8, y8, z8] at X8
  obtain ⟨b_8, ub_8, ku_8, rfl, N8q, K8, qp8_0, qp8_1, qp8_2⟩ := hQ8
  have N8 := Fr.app N0 N8q
  have f9 := Old.keep Ol K8 all0
  have f10 := F_units_o0.keep K8 nin0
  have f11 := F_count_o0.keep K8 nin0
  have f12 := F_scale_o0.keep K8 nin0
  have f13 := V_un.keep K8 nin0
  have Z8 : n0 ≤ T8.heap.size := Nat.le_trans Z0 K8.1
  have KK8 := K0.trans K8 all0
  have go14 := go7.st T8 (mkF m 15 #[vR o0] [sR b_8]) (fun t k => by
    refine st8 _ ?_
    exact k)
  obtain ⟨fs, hr, hrun, hended, hW, hsame⟩ := X8.leave (v := some (.ref b_8)) (fun h => by rw [Bd.returns] at h; cases h)
  refine ⟨_, _, go14 _ ?_, hrun, hended, _, _, rfl, ?_, ⟨_, rfl⟩, hW, hsame.mono (by decide) (by decide)⟩
  · exact own_retA X8 hx Bd.returns rfl rfl (hb hby d35_15) hr
  · show Q_rm_build Z o0 un k0 x0 x1 x2 zr h0 n0 _ T8.heap _
    exact ⟨b_8, ub_8, ku_8, rfl, N8, KK8, qp8_0, qp8_1, qp8_2⟩
theorem d46_0 : decode prog_89_method_6_code 0 = .ok (.aload_n 0, 1) := by decide +kernel
theorem d46_1 : decode prog_89_method_6_code 1 = .ok (.getfield 9, 3) := by decide +kernel
theorem d46_4 : decode prog_89_method_6_code 4 = .ok (.arraylength, 1) := by decide +kernel
theorem d46_5 : decode prog_89_method_6_code 5 = .ok (.ireturn, 1) := by decide +kernel
theorem pn_rm_size : plainName "com/example/equipoise/equipoise/WeightList" = true := by first | (simp [plainName, overriddenIn]; done) | decide +kernel
theorem ef_rm_size (m : MethodId) (o0 : Addr) : entryFrame m #[(.ref o0)] 1 = mkF m 0 #[.val (.ref o0)] [] := by first | (simp [entryFrame, mkF, argsToLocals, Value.category]; done) | rfl
def Q_rm_size (Z : State) (o0 : Addr) (un : Addr) (k0 : ClassId) (x0 : Int64) (x1 : Int64) (x2 : Int64) (h0 : Heap) (n0 : Nat) (v : Option Value) (h : Heap) (L : List Loc) : Prop := v = some (.int (3 : Int32)) ∧ Fr n0 L ∧ h = h0
set_option maxRecDepth 65536 in
set_option maxHeartbeats 40000000 in
theorem rm_size (l : Launch) (Z : State) (a0 : Array Value) (hw : ∀ d ∈ tables_1, d.before a0 Z = true) (ws : List Jvm.Cond) (o0 : Addr) (un : Addr) (k0 : ClassId) (x0 : Int64) (x1 : Int64) (x2 : Int64) (h0 : Heap) (n0 : Nat) (Z0 : n0 ≤ h0.size) (F_units_o0 : Fld Z h0 o0 "com/example/equipoise/equipoise/WeightList" "units" "[J" (.ref un)) (V_un : Arv Z h0 un k0 .long (3 : Int32) [(.long x0), (.long x1), (.long x2)] (.long (0 : Int64))) :
    MetFree l yN41 (head1 (Jvm.Cond.code yN41 prog_89_method_6_code 1 (some .int) :: ws) ({ frames := 0, cells := 0, slots := 0, locals := 0 } : Room)) (fun a U => a = #[(.ref o0)] ∧ Z.Warmed39 U.vm ∧ U.heap = h0) (fun _ _ _ _ _ => True) (fun _ U o U' => ∃ v L, o = .returned v ∧ Q_rm_size Z o0 un k0 x0 x1 x2 h0 n0 v U'.heap L ∧ FrameEnd U o U' L ({ frames := 0, cells := 0, slots := 0, locals := 0 } : Room).cells ({ frames := 0, cells := 0, slots := 0, locals := 0 } : Room).slots) := by
  refine MetFree.of_bodySF (plainFor_of_name pn_rm_size) hisR ?_
  intro p e s m args below meth c s₁ Bd hml0 hP hK
  obtain ⟨rfl, hZ, hh⟩ := hP
  have hx := Bd.exec
  have hby := Bd.bytes
  have hml : c.maxLocals = 1 := hml0
  have hown : s.vm.findClass "com/example/equipoise/equipoise/WeightList" = some m.cls := findClass_of_methodNamed Bd.named
  have hnm := (name_of_methodNamed Bd.named Bd.method).1
  have X0 : Stand p l e ({ frames := 0, cells := 0, slots := 0, locals := 0 } : Room) s m #[(.ref o0)] below meth c s₁ [] 0 0 := Stand.of_body Bd
  have e0 : s₁.heap = h0 := by rw [← hh, Bd.state]; rfl
  have N0 := Fr.nil n0
  have K0 := Keep.refl h0 []
  have go0 : Go p e below (s₁.setTop (entryFrame m #[(.ref o0)] 1)) (s₁.setTop (mkF m 0 #[vR o0] [])) := fun t k => castTop (ef_rm_size m o0) k
  have go1 := go0.st s₁ (mkF m 1 #[vR o0] [sR o0]) (fun t k => by
    refine XS.aloadN X0.here hx rfl (hb hby d46_0) rfl rfl ?_
    exact k)
  obtain ⟨T2, X2, e2, st2⟩ := getF X0 hx hZ hown (host := "") (Or.inl (wD hw 256 rfl)) Via.refl e0 F_units_o0 (g := (mkF m 1 #[vR o0] [sR o0])) rfl rfl (hb hby d46_1)
  have go3 := go1.st T2 (mkF m 4 #[vR o0] [sR un]) (fun t k => by
    refine st2 _ ?_
    exact k)
  have Vo4 := V_un
  obtain ⟨cl4, Ar4, qa4, Sa4, Na4, Ha4, Ga4⟩ := Vo4
  have go5 := go3.st T2 (mkF m 5 #[vR o0] [(sI (3 : Int32))]) (fun t k => by
    refine X2.arraylength hx (by rw [e2]; exact Ar4.1) (State.isArrayOf_alike hZ.alike Ar4.2.1) (g := (mkF m 4 #[vR o0] [sR un])) rfl rfl (hb hby d46_4) _ ?_
    rw [len_of Sa4 Na4]
    exact k)
  obtain ⟨fs, hr, hrun, hended, hW, hsame⟩ := X2.leave (v := some (.int (3 : Int32))) (fun h => by rw [Bd.returns] at h; cases h)
  refine ⟨_, _, go5 _ ?_, hrun, hended, _, _, rfl, ?_, ⟨_, rfl⟩, hW, hsame.mono (by decide) (by decide)⟩
  · exact own_retI X2 hx Bd.returns (hb hby d46_5) hr
  · show Q_rm_size Z o0 un k0 x0 x1 x2 h0 n0 _ T2.heap _
    rw [e2]
    exact ⟨rfl, N0, rfl⟩
theorem d47_0 : decode prog_89_method_7_code 0 = .ok (.aload_n 0, 1) := by decide +kernel
theorem d47_1 : decode prog_89_method_7_code 1 = .ok (.getfield 9, 3) := by decide +kernel
theorem d47_4 : decode prog_89_method_7_code 4 = .ok (.iload_n 1, 1) := by decide +kernel
theorem d47_5 : decode prog_89_method_7_code 5 = .ok (.laload, 1) := by decide +kernel
theorem d47_6 : decode prog_89_method_7_code 6 = .ok (.lreturn, 1) := by decide +kernel
theorem pn_rm_un0 : plainName "com/example/equipoise/equipoise/WeightList" = true := by first | (simp [plainName, overriddenIn]; done) | decide +kernel
theorem ef_rm_un0 (m : MethodId) (o0 : Addr) : entryFrame m #[(.ref o0), (.int (0 : Int32))] 2 = mkF m 0 #[.val (.ref o0), .val (.int (0 : Int32))] [] := by first | (simp [entryFrame, mkF, argsToLocals, Value.category]; done) | rfl
def Q_rm_un0 (Z : State) (o0 : Addr) (un : Addr) (k0 : ClassId) (x0 : Int64) (x1 : Int64) (x2 : Int64) (h0 : Heap) (n0 : Nat) (v : Option Value) (h : Heap) (L : List Loc) : Prop := v = some (.long x0) ∧ Fr n0 L ∧ h = h0
set_option maxRecDepth 65536 in
set_option maxHeartbeats 40000000 in
theorem rm_un0 (l : Launch) (Z : State) (a0 : Array Value) (hw : ∀ d ∈ tables_1, d.before a0 Z = true) (ws : List Jvm.Cond) (o0 : Addr) (un : Addr) (k0 : ClassId) (x0 : Int64) (x1 : Int64) (x2 : Int64) (h0 : Heap) (n0 : Nat) (Z0 : n0 ≤ h0.size) (F_units_o0 : Fld Z h0 o0 "com/example/equipoise/equipoise/WeightList" "units" "[J" (.ref un)) (V_un : Arv Z h0 un k0 .long (3 : Int32) [(.long x0), (.long x1), (.long x2)] (.long (0 : Int64))) :
    MetFree l yN42 (head1 (Jvm.Cond.code yN42 prog_89_method_7_code 2 (some .long) :: ws) ({ frames := 0, cells := 0, slots := 0, locals := 0 } : Room)) (fun a U => a = #[(.ref o0), (.int (0 : Int32))] ∧ Z.Warmed39 U.vm ∧ U.heap = h0) (fun _ _ _ _ _ => True) (fun _ U o U' => ∃ v L, o = .returned v ∧ Q_rm_un0 Z o0 un k0 x0 x1 x2 h0 n0 v U'.heap L ∧ FrameEnd U o U' L ({ frames := 0, cells := 0, slots := 0, locals := 0 } : Room).cells ({ frames := 0, cells := 0, slots := 0, locals := 0 } : Room).slots) := by
  refine MetFree.of_bodySF (plainFor_of_name pn_rm_un0) hisR ?_
  intro p e s m args below meth c s₁ Bd hml0 hP hK
  obtain ⟨rfl, hZ, hh⟩ := hP
  have hx := Bd.exec
  have hby := Bd.bytes
  have hml : c.maxLocals = 2 := hml0
  have hown : s.vm.findClass "com/example/equipoise/equipoise/WeightList" = some m.cls := findClass_of_methodNamed Bd.named
  have hnm := (name_of_methodNamed Bd.named Bd.method).1
  have X0 : Stand p l e ({ frames := 0, cells := 0, slots := 0, locals := 0 } : Room) s m #[(.ref o0), (.int (0 : Int32))] below meth c s₁ [] 0 0 := Stand.of_body Bd
  have e0 : s₁.heap = h0 := by rw [← hh, Bd.state]; rfl
  have N0 := Fr.nil n0
  have K0 := Keep.refl h0 []
  have go0 : Go p e below (s₁.setTop (entryFrame m #[(.ref o0), (.int (0 : Int32))] 2)) (s₁.setTop (mkF m 0 #[vR o0, vI i0] [])) := fun t k => castTop (ef_rm_un0 m o0) k
  have go1 := go0.st s₁ (mkF m 1 #[vR o0, vI i0] [sR o0]) (fun t k => by
    refine XS.aloadN X0.here hx rfl (hb hby d47_0) rfl rfl ?_
    exact k)
  obtain ⟨T2, X2, e2, st2⟩ := getF X0 hx hZ hown (host := "") (Or.inl (wD hw 256 rfl)) Via.refl e0 F_units_o0 (g := (mkF m 1 #[vR o0, vI i0] [sR o0])) rfl rfl (hb hby d47_1)
  have go3 := go1.st T2 (mkF m 5 #[vR o0, vI i0] [sI i0, sR un]) (fun t k => by
    refine st2 _ ?_
    show SP p e below T2 (mkF m 4 #[vR o0, vI i0] [sR un]) _
    refine XS.iloadN X2.here hx rfl (hb hby d47_4) rfl ?_
    exact k)
  have Vo4 := V_un
  obtain ⟨cl4, Ar4, qa4, Sa4, Na4, Ha4, Ga4⟩ := Vo4
  have hin4 := inb_of (j := (0 : Int32)) Sa4 ⟨by decide, by decide⟩
  have hat4 : cl4.slots[((0 : Int32)).toNatClampNeg]? = some (.long x0) := Has.at Ha4 hin4 rfl
  have go5 := go3.st T2 (mkF m 6 #[vR o0, vI i0] [sJ x0]) (fun t k => by
    refine X2.laload hx (j := (0 : Int32)) (v := (.long x0)) (by rw [e2]; exact Ar4.1) (State.isArrayOf_alike hZ.alike Ar4.2.1) Ar4.2.2 hin4 hat4 (g := (mkF m 5 #[vR o0, vI i0] [sI i0, sR un])) rfl rfl (hb hby d47_5) _ ?_
    exact k)
  obtain ⟨fs, hr, hrun, hended, hW, hsame⟩ := X2.leave (v := some (.long x0)) (fun h => by rw [Bd.returns] at h; cases h)
  refine ⟨_, _, go5 _ ?_, hrun, hended, _, _, rfl, ?_, ⟨_, rfl⟩, hW, hsame.mono (by decide) (by decide)⟩
  · exact own_retL X2 hx Bd.returns (hb hby d47_6) hr
  · show Q_rm_un0 Z o0 un k0 x0 x1 x2 h0 n0 _ T2.heap _
    rw [e2]
    exact ⟨rfl, N0, rfl⟩
theorem pn_rm_un1 : plainName "com/example/equipoise/equipoise/WeightList" = true := by first | (simp [plainName, overriddenIn]; done) | decide +kernel
theorem ef_rm_un1 (m : MethodId) (o0 : Addr) : entryFrame m #[(.ref o0), (.int (1 : Int32))] 2 = mkF m 0 #[.val (.ref o0), .val (.int (1 : Int32))] [] := by first | (simp [entryFrame, mkF, argsToLocals, Value.category]; done) | rfl
def Q_rm_un1 (Z : State) (o0 : Addr) (un : Addr) (k0 : ClassId) (x0 : Int64) (x1 : Int64) (x2 : Int64) (h0 : Heap) (n0 : Nat) (v : Option Value) (h : Heap) (L : List Loc) : Prop := v = some (.long x1) ∧ Fr n0 L ∧ h = h0
set_option maxRecDepth 65536 in
set_option maxHeartbeats 40000000 in
theorem rm_un1 (l : Launch) (Z : State) (a0 : Array Value) (hw : ∀ d ∈ tables_1, d.before a0 Z = true) (ws : List Jvm.Cond) (o0 : Addr) (un : Addr) (k0 : ClassId) (x0 : Int64) (x1 : Int64) (x2 : Int64) (h0 : Heap) (n0 : Nat) (Z0 : n0 ≤ h0.size) (F_units_o0 : Fld Z h0 o0 "com/example/equipoise/equipoise/WeightList" "units" "[J" (.ref un)) (V_un : Arv Z h0 un k0 .long (3 : Int32) [(.long x0), (.long x1), (.long x2)] (.long (0 : Int64))) :
    MetFree l yN42 (head1 (Jvm.Cond.code yN42 prog_89_method_7_code 2 (some .long) :: ws) ({ frames := 0, cells := 0, slots := 0, locals := 0 } : Room)) (fun a U => a = #[(.ref o0), (.int (1 : Int32))] ∧ Z.Warmed39 U.vm ∧ U.heap = h0) (fun _ _ _ _ _ => True) (fun _ U o U' => ∃ v L, o = .returned v ∧ Q_rm_un1 Z o0 un k0 x0 x1 x2 h0 n0 v U'.heap L ∧ FrameEnd U o U' L ({ frames := 0, cells := 0, slots := 0, locals := 0 } : Room).cells ({ frames := 0, cells := 0, slots := 0, locals := 0 } : Room).slots) := by
  refine MetFree.of_bodySF (plainFor_of_name pn_rm_un1) hisR ?_
  intro p e s m args below meth c s₁ Bd hml0 hP hK
  obtain ⟨rfl, hZ, hh⟩ := hP
  have hx := Bd.exec
  have hby := Bd.bytes
  have hml : c.maxLocals = 2 := hml0
  have hown : s.vm.findClass "com/example/equipoise/equipoise/WeightList" = some m.cls := findClass_of_methodNamed Bd.named
  have hnm := (name_of_methodNamed Bd.named Bd.method).1
  have X0 : Stand p l e ({ frames := 0, cells := 0, slots := 0, locals := 0 } : Room) s m #[(.ref o0), (.int (1 : Int32))] below meth c s₁ [] 0 0 := Stand.of_body Bd
  have e0 : s₁.heap = h0 := by rw [← hh, Bd.state]; rfl
  have N0 := Fr.nil n0
  have K0 := Keep.refl h0 []
  have go0 : Go p e below (s₁.setTop (entryFrame m #[(.ref o0), (.int (1 : Int32))] 2)) (s₁.setTop (mkF m 0 #[vR o0, vI i1] [])) := fun t k => castTop (ef_rm_un1 m o0) k
  have go1 := go0.st s₁ (mkF m 1 #[vR o0, vI i1] [sR o0]) (fun t k => by
    refine XS.aloadN X0.here hx rfl (hb hby d47_0) rfl rfl ?_
    exact k)
  obtain ⟨T2, X2, e2, st2⟩ := getF X0 hx hZ hown (host := "") (Or.inl (wD hw 256 rfl)) Via.refl e0 F_units_o0 (g := (mkF m 1 #[vR o0, vI i1] [sR o0])) rfl rfl (hb hby d47_1)
  have go3 := go1.st T2 (mkF m 5 #[vR o0, vI i1] [sI i1, sR un]) (fun t k => by
    refine st2 _ ?_
    show SP p e below T2 (mkF m 4 #[vR o0, vI i1] [sR un]) _
    refine XS.iloadN X2.here hx rfl (hb hby d47_4) rfl ?_
    exact k)
  have Vo4 := V_un
  obtain ⟨cl4, Ar4, qa4, Sa4, Na4, Ha4, Ga4⟩ := Vo4
  have hin4 := inb_of (j := (1 : Int32)) Sa4 ⟨by decide, by decide⟩
  have hat4 : cl4.slots[((1 : Int32)).toNatClampNeg]? = some (.long x1) := Has.at Ha4 hin4 rfl
  have go5 := go3.st T2 (mkF m 6 #[vR o0, vI i1] [sJ x1]) (fun t k => by
    refine X2.laload hx (j := (1 : Int32)) (v := (.long x1)) (by rw [e2]; exact Ar4.1) (State.isArrayOf_alike hZ.alike Ar4.2.1) Ar4.2.2 hin4 hat4 (g := (mkF m 5 #[vR o0, vI i1] [sI i1, sR un])) rfl rfl (hb hby d47_5) _ ?_
    exact k)
  obtain ⟨fs, hr, hrun, hended, hW, hsame⟩ := X2.leave (v := some (.long x1)) (fun h => by rw [Bd.returns] at h; cases h)
  refine ⟨_, _, go5 _ ?_, hrun, hended, _, _, rfl, ?_, ⟨_, rfl⟩, hW, hsame.mono (by decide) (by decide)⟩
  · exact own_retL X2 hx Bd.returns (hb hby d47_6) hr
  · show Q_rm_un1 Z o0 un k0 x0 x1 x2 h0 n0 _ T2.heap _
    rw [e2]
    exact ⟨rfl, N0, rfl⟩
theorem pn_rm_un2 : plainName "com/example/equipoise/equipoise/WeightList" = true := by first | (simp [plainName, overriddenIn]; done) | decide +kernel
theorem ef_rm_un2 (m : MethodId) (o0 : Addr) : entryFrame m #[(.ref o0), (.int (2 : Int32))] 2 = mkF m 0 #[.val (.ref o0), .val (.int (2 : Int32))] [] := by first | (simp [entryFrame, mkF, argsToLocals, Value.category]; done) | rfl
def Q_rm_un2 (Z : State) (o0 : Addr) (un : Addr) (k0 : ClassId) (x0 : Int64) (x1 : Int64) (x2 : Int64) (h0 : Heap) (n0 : Nat) (v : Option Value) (h : Heap) (L : List Loc) : Prop := v = some (.long x2) ∧ Fr n0 L ∧ h = h0
set_option maxRecDepth 65536 in
set_option maxHeartbeats 40000000 in
theorem rm_un2 (l : Launch) (Z : State) (a0 : Array Value) (hw : ∀ d ∈ tables_1, d.before a0 Z = true) (ws : List Jvm.Cond) (o0 : Addr) (un : Addr) (k0 : ClassId) (x0 : Int64) (x1 : Int64) (x2 : Int64) (h0 : Heap) (n0 : Nat) (Z0 : n0 ≤ h0.size) (F_units_o0 : Fld Z h0 o0 "com/example/equipoise/equipoise/WeightList" "units" "[J" (.ref un)) (V_un : Arv Z h0 un k0 .long (3 : Int32) [(.long x0), (.long x1), (.long x2)] (.long (0 : Int64))) :
    MetFree l yN42 (head1 (Jvm.Cond.code yN42 prog_89_method_7_code 2 (some .long) :: ws) ({ frames := 0, cells := 0, slots := 0, locals := 0 } : Room)) (fun a U => a = #[(.ref o0), (.int (2 : Int32))] ∧ Z.Warmed39 U.vm ∧ U.heap = h0) (fun _ _ _ _ _ => True) (fun _ U o U' => ∃ v L, o = .returned v ∧ Q_rm_un2 Z o0 un k0 x0 x1 x2 h0 n0 v U'.heap L ∧ FrameEnd U o U' L ({ frames := 0, cells := 0, slots := 0, locals := 0 } : Room).cells ({ frames := 0, cells := 0, slots := 0, locals := 0 } : Room).slots) := by
  refine MetFree.of_bodySF (plainFor_of_name pn_rm_un2) hisR ?_
  intro p e s m args below meth c s₁ Bd hml0 hP hK
  obtain ⟨rfl, hZ, hh⟩ := hP
  have hx := Bd.exec
  have hby := Bd.bytes
  have hml : c.maxLocals = 2 := hml0
  have hown : s.vm.findClass "com/example/equipoise/equipoise/WeightList" = some m.cls := findClass_of_methodNamed Bd.named
  have hnm := (name_of_methodNamed Bd.named Bd.method).1
  have X0 : Stand p l e ({ frames := 0, cells := 0, slots := 0, locals := 0 } : Room) s m #[(.ref o0), (.int (2 : Int32))] below meth c s₁ [] 0 0 := Stand.of_body Bd
  have e0 : s₁.heap = h0 := by rw [← hh, Bd.state]; rfl
  have N0 := Fr.nil n0
  have K0 := Keep.refl h0 []
  have go0 : Go p e below (s₁.setTop (entryFrame m #[(.ref o0), (.int (2 : Int32))] 2)) (s₁.setTop (mkF m 0 #[vR o0, vI i2] [])) := fun t k => castTop (ef_rm_un2 m o0) k
  have go1 := go0.st s₁ (mkF m 1 #[vR o0, vI i2] [sR o0]) (fun t k => by
    refine XS.aloadN X0.here hx rfl (hb hby d47_0) rfl rfl ?_
    exact k)
  obtain ⟨T2, X2, e2, st2⟩ := getF X0 hx hZ hown (host := "") (Or.inl (wD hw 256 rfl)) Via.refl e0 F_units_o0 (g := (mkF m 1 #[vR o0, vI i2] [sR o0])) rfl rfl (hb hby d47_1)
  have go3 := go1.st T2 (mkF m 5 #[vR o0, vI i2] [sI i2, sR un]) (fun t k => by
    refine st2 _ ?_
    show SP p e below T2 (mkF m 4 #[vR o0, vI i2] [sR un]) _
    refine XS.iloadN X2.here hx rfl (hb hby d47_4) rfl ?_
    exact k)
  have Vo4 := V_un
  obtain ⟨cl4, Ar4, qa4, Sa4, Na4, Ha4, Ga4⟩ := Vo4
  have hin4 := inb_of (j := (2 : Int32)) Sa4 ⟨by decide, by decide⟩
  have hat4 : cl4.slots[((2 : Int32)).toNatClampNeg]? = some (.long x2) := Has.at Ha4 hin4 rfl
  have go5 := go3.st T2 (mkF m 6 #[vR o0, vI i2] [sJ x2]) (fun t k => by
    refine X2.laload hx (j := (2 : Int32)) (v := (.long x2)) (by rw [e2]; exact Ar4.1) (State.isArrayOf_alike hZ.alike Ar4.2.1) Ar4.2.2 hin4 hat4 (g := (mkF m 5 #[vR o0, vI i2] [sI i2, sR un])) rfl rfl (hb hby d47_5) _ ?_
    exact k)
  obtain ⟨fs, hr, hrun, hended, hW, hsame⟩ := X2.leave (v := some (.long x2)) (fun h => by rw [Bd.returns] at h; cases h)
  refine ⟨_, _, go5 _ ?_, hrun, hended, _, _, rfl, ?_, ⟨_, rfl⟩, hW, hsame.mono (by decide) (by decide)⟩
  · exact own_retL X2 hx Bd.returns (hb hby d47_6) hr
  · show Q_rm_un2 Z o0 un k0 x0 x1 x2 h0 n0 _ T2.heap _
    rw [e2]
    exact ⟨rfl, N0, rfl⟩
theorem d32_0 : decode prog_89_method_4_code 0 = .ok (.getstatic 48, 3) := by decide +kernel
theorem d32_3 : decode prog_89_method_4_code 3 = .ok (.iload_n 0, 1) := by decide +kernel
theorem d32_4 : decode prog_89_method_4_code 4 = .ok (.laload, 1) := by decide +kernel
theorem d32_5 : decode prog_89_method_4_code 5 = .ok (.lreturn, 1) := by decide +kernel
theorem pn_rm_pow : plainName "com/example/equipoise/equipoise/WeightList" = true := by first | (simp [plainName, overriddenIn]; done) | decide +kernel
theorem ef_rm_pow (m : MethodId) : entryFrame m #[(.int (0 : Int32))] 1 = mkF m 0 #[.val (.int (0 : Int32))] [] := by first | (simp [entryFrame, mkF, argsToLocals, Value.category]; done) | rfl
def Q_rm_pow (Z : State) (pw : Addr) (kp : ClassId) (ps : List Value) (h0 : Heap) (n0 : Nat) (v : Option Value) (h : Heap) (L : List Loc) : Prop := v = some (.long (1 : Int64)) ∧ Fr n0 L ∧ h = h0
set_option maxRecDepth 65536 in
set_option maxHeartbeats 40000000 in
theorem rm_pow (l : Launch) (Z : State) (a0 : Array Value) (hw : ∀ d ∈ tables_1, d.before a0 Z = true) (ws : List Jvm.Cond) (pw : Addr) (kp : ClassId) (ps : List Value) (h0 : Heap) (n0 : Nat) (Z0 : n0 ≤ h0.size) (Ol : Old Z n0 h0) (S_pw : Sta Z Z.heap "com/example/equipoise/equipoise/WeightList" "POWERS_OF_TEN" "[J" (.ref pw)) (V_pw : Arv Z Z.heap pw kp .long (19 : Int32) ps (.long (0 : Int64))) (hps : ps.getD 0 (.long (0 : Int64)) = .long (1 : Int64)) :
    MetFree l yN43 (head1 (Jvm.Cond.code yN43 prog_89_method_4_code 1 (some .long) :: ws) ({ frames := 0, cells := 0, slots := 0, locals := 0 } : Room)) (fun a U => a = #[(.int (0 : Int32))] ∧ Z.Warmed39 U.vm ∧ U.heap = h0) (fun _ _ _ _ _ => True) (fun _ U o U' => ∃ v L, o = .returned v ∧ Q_rm_pow Z pw kp ps h0 n0 v U'.heap L ∧ FrameEnd U o U' L ({ frames := 0, cells := 0, slots := 0, locals := 0 } : Room).cells ({ frames := 0, cells := 0, slots := 0, locals := 0 } : Room).slots) := by
  refine MetFree.of_bodySF (plainFor_of_name pn_rm_pow) hisR ?_
  intro p e s m args below meth c s₁ Bd hml0 hP hK
  obtain ⟨rfl, hZ, hh⟩ := hP
  have hx := Bd.exec
  have hby := Bd.bytes
  have hml : c.maxLocals = 1 := hml0
  have hown : s.vm.findClass "com/example/equipoise/equipoise/WeightList" = some m.cls := findClass_of_methodNamed Bd.named
  have hnm := (name_of_methodNamed Bd.named Bd.method).1
  have X0 : Stand p l e ({ frames := 0, cells := 0, slots := 0, locals := 0 } : Room) s m #[(.int (0 : Int32))] below meth c s₁ [] 0 0 := Stand.of_body Bd
  have e0 : s₁.heap = h0 := by rw [← hh, Bd.state]; rfl
  have N0 := Fr.nil n0
  have K0 := Keep.refl h0 []
  have go0 : Go p e below (s₁.setTop (entryFrame m #[(.int (0 : Int32))] 1)) (s₁.setTop (mkF m 0 #[vI i0] [])) := fun t k => castTop (ef_rm_pow m) k
  have f1 := S_pw.ext Ol.2
  obtain ⟨T2, X2, e2, st2⟩ := getS2 X0 hx hZ hown (host := "") (Or.inl (wD hw 172 rfl)) Via.refl e0 f1 (g := (mkF m 0 #[vI i0] [])) rfl (hb hby d32_0)
  have go3 := go0.st T2 (mkF m 4 #[vI i0] [sI i0, sR pw]) (fun t k => by
    refine st2 _ ?_
    show SP p e below T2 (mkF m 3 #[vI i0] [sR pw]) _
    refine XS.iloadN X2.here hx rfl (hb hby d32_3) rfl ?_
    exact k)
  have f4 := V_pw.ext Ol.2
  have Vo5 := f4
  obtain ⟨cl5, Ar5, qa5, Sa5, Na5, Ha5, Ga5⟩ := Vo5
  have hin5 := inb_of (j := (0 : Int32)) Sa5 ⟨by decide, by decide⟩
  have hat5 : cl5.slots[((0 : Int32)).toNatClampNeg]? = some (.long (1 : Int64)) := Has.at Ha5 hin5 hps
  have go6 := go3.st T2 (mkF m 5 #[vI i0] [(sJ (1 : Int64))]) (fun t k => by
    refine X2.laload hx (j := (0 : Int32)) (v := (.long (1 : Int64))) (by rw [e2]; exact Ar5.1) (State.isArrayOf_alike hZ.alike Ar5.2.1) Ar5.2.2 hin5 hat5 (g := (mkF m 4 #[vI i0] [sI i0, sR pw])) rfl rfl (hb hby d32_4) _ ?_
    exact k)
  obtain ⟨fs, hr, hrun, hended, hW, hsame⟩ := X2.leave (v := some (.long (1 : Int64))) (fun h => by rw [Bd.returns] at h; cases h)
  refine ⟨_, _, go6 _ ?_, hrun, hended, _, _, rfl, ?_, ⟨_, rfl⟩, hW, hsame.mono (by decide) (by decide)⟩
  · exact own_retL X2 hx Bd.returns (hb hby d32_5) hr
  · show Q_rm_pow Z pw kp ps h0 n0 _ T2.heap _
    rw [e2]
    exact ⟨rfl, N0, rfl⟩
theorem d10_0 : decode prog_88_method_2_code 0 = .ok (.aload_n 0, 1) := by decide +kernel
theorem d10_1 : decode prog_88_method_2_code 1 = .ok (.invokespecial 9, 3) := by decide +kernel
theorem d10_4 : decode prog_88_method_2_code 4 = .ok (.aload_n 0, 1) := by decide +kernel
theorem d10_5 : decode prog_88_method_2_code 5 = .ok (.sipush 1024, 3) := by decide +kernel
theorem d10_8 : decode prog_88_method_2_code 8 = .ok (.newarray .long, 2) := by decide +kernel
theorem d10_10 : decode prog_88_method_2_code 10 = .ok (.putfield 14, 3) := by decide +kernel
theorem d10_13 : decode prog_88_method_2_code 13 = .ok (.aload_n 0, 1) := by decide +kernel
theorem d10_14 : decode prog_88_method_2_code 14 = .ok (.aload_n 1, 1) := by decide +kernel
theorem d10_15 : decode prog_88_method_2_code 15 = .ok (.putfield 18, 3) := by decide +kernel
theorem d10_18 : decode prog_88_method_2_code 18 = .ok (.aload_n 0, 1) := by decide +kernel
theorem d10_19 : decode prog_88_method_2_code 19 = .ok (.aload_n 2, 1) := by decide +kernel
theorem d10_20 : decode prog_88_method_2_code 20 = .ok (.putfield 22, 3) := by decide +kernel
theorem d10_23 : decode prog_88_method_2_code 23 = .ok (.return_, 1) := by decide +kernel
theorem pn_rm_wbi : plainName "com/example/equipoise/equipoise/WeightFile$Builder" = true := by first | (simp [plainName, overriddenIn]; done) | decide +kernel
theorem ef_rm_wbi (m : MethodId) (o0 : Addr) (o1 : Addr) (o2 : Addr) : entryFrame m #[(.ref o0), (.ref o1), (.ref o2)] 3 = mkF m 0 #[.val (.ref o0), .val (.ref o1), .val (.ref o2)] [] := by first | (simp [entryFrame, mkF, argsToLocals, Value.category]; done) | rfl
def Q_rm_wbi (Z : State) (o0 : Addr) (o1 : Addr) (o2 : Addr) (h0 : Heap) (n0 : Nat) (v : Option Value) (h : Heap) (L : List Loc) : Prop := ∃ un : Addr, ∃ ku : ClassId, v = none ∧ Fr n0 L ∧ Keep h0 h [o0] ∧ Exa Z h o0 "com/example/equipoise/equipoise/WeightFile$Builder" ∧ Fld Z h o0 "com/example/equipoise/equipoise/WeightFile$Builder" "units" "[J" (.ref un) ∧ Fld Z h o0 "com/example/equipoise/equipoise/WeightFile$Builder" "count" "I" (.int (0 : Int32)) ∧ Fld Z h o0 "com/example/equipoise/equipoise/WeightFile$Builder" "scale" "I" (.int (0 : Int32)) ∧ Fld Z h o0 "com/example/equipoise/equipoise/WeightFile$Builder" "present" "J" (.long (0 : Int64)) ∧ Fld Z h o0 "com/example/equipoise/equipoise/WeightFile$Builder" "peak" "J" (.long (0 : Int64)) ∧ n0 ≤ un ∧ h0.size ≤ un ∧ Arv Z h un ku .long (1024 : Int32) [(.long (0 : Int64)), (.long (0 : Int64)), (.long (0 : Int64))] (.long (0 : Int64))
set_option maxRecDepth 65536 in
set_option maxHeartbeats 40000000 in
theorem rm_wbi (l : Launch) (Z : State) (a0 : Array Value) (hw : ∀ d ∈ tables_1, d.before a0 Z = true) (ws : List Jvm.Cond) (o0 : Addr) (o1 : Addr) (o2 : Addr) (h0 : Heap) (n0 : Nat) (Z0 : n0 ≤ h0.size) (E_o0 : Exa Z h0 o0 "com/example/equipoise/equipoise/WeightFile$Builder") (g_o0 : n0 ≤ o0) (F_units : Fld Z h0 o0 "com/example/equipoise/equipoise/WeightFile$Builder" "units" "[J" .null) (F_file : Fld Z h0 o0 "com/example/equipoise/equipoise/WeightFile$Builder" "file" "Ljava/lang/String;" .null) (F_noun : Fld Z h0 o0 "com/example/equipoise/equipoise/WeightFile$Builder" "noun" "Ljava/lang/String;" .null) (F_count : Fld Z h0 o0 "com/example/equipoise/equipoise/WeightFile$Builder" "count" "I" (.int (0 : Int32))) (F_scale : Fld Z h0 o0 "com/example/equipoise/equipoise/WeightFile$Builder" "scale" "I" (.int (0 : Int32))) (F_present : Fld Z h0 o0 "com/example/equipoise/equipoise/WeightFile$Builder" "present" "J" (.long (0 : Int64))) (F_peak : Fld Z h0 o0 "com/example/equipoise/equipoise/WeightFile$Builder" "peak" "J" (.long (0 : Int64))) :
    MetFree l yN44 (head1 (Jvm.Cond.code yN44 prog_88_method_2_code 3 none :: ws) ({ frames := 1, cells := 1, slots := 1024, locals := 12 } : Room)) (fun a U => a = #[(.ref o0), (.ref o1), (.ref o2)] ∧ Z.Warmed39 U.vm ∧ U.heap = h0) (fun _ _ _ _ _ => True) (fun _ U o U' => ∃ v L, o = .returned v ∧ Q_rm_wbi Z o0 o1 o2 h0 n0 v U'.heap L ∧ FrameEnd U o U' L ({ frames := 1, cells := 1, slots := 1024, locals := 12 } : Room).cells ({ frames := 1, cells := 1, slots := 1024, locals := 12 } : Room).slots) := by
  refine MetFree.of_bodySF (plainFor_of_name pn_rm_wbi) hisR ?_
  intro p e s m args below meth c s₁ Bd hml0 hP hK
  obtain ⟨rfl, hZ, hh⟩ := hP
  have hx := Bd.exec
  have hby := Bd.bytes
  have hml : c.maxLocals = 3 := hml0
  have hown : s.vm.findClass "com/example/equipoise/equipoise/WeightFile$Builder" = some m.cls := findClass_of_methodNamed Bd.named
  have hnm := (name_of_methodNamed Bd.named Bd.method).1
  have X0 : Stand p l e ({ frames := 1, cells := 1, slots := 1024, locals := 12 } : Room) s m #[(.ref o0), (.ref o1), (.ref o2)] below meth c s₁ [] 0 0 := Stand.of_body Bd
  have e0 : s₁.heap = h0 := by rw [← hh, Bd.state]; rfl
  have N0 := Fr.nil n0
  have K0 := Keep.refl h0 [o0]
  have go0 : Go p e below (s₁.setTop (entryFrame m #[(.ref o0), (.ref o1), (.ref o2)] 3)) (s₁.setTop (mkF m 0 #[vR o0, vR o1, vR o2] [])) := fun t k => castTop (ef_rm_wbi m o0 o1 o2) k
  have go1 := go0.st s₁ (mkF m 1 #[vR o0, vR o1, vR o2] [sR o0]) (fun t k => by
    refine XS.aloadN X0.here hx rfl (hb hby d10_0) rfl rfl ?_
    exact k)
  obtain ⟨T2, X2, e2, st2⟩ := initO X0 hx hZ hown (wD hw 70 rfl) (wD hw 42 rfl) (wD hw 43 rfl) e0 (g := (mkF m 1 #[vR o0, vR o1, vR o2] [sR o0])) rfl (by rw [hml]; rfl) rfl (hb hby d10_1) (by decide) (W := 0) (by show 2 * 0 + _ ≤ _; exact Nat.le_of_eq rfl) (by decide)
  have go3 := go1.st T2 (mkF m 8 #[vR o0, vR o1, vR o2] [(sI (1024 : Int32)), sR o0]) (fun t k => by
    refine st2 _ ?_
    show SP p e below T2 (mkF m 4 #[vR o0, vR o1, vR o2] []) _
    refine XS.aloadN X2.here hx rfl (hb hby d10_4) rfl rfl ?_
    refine XS.sipush X2.here hx rfl (hb hby d10_5) ?_
    exact k)
  obtain ⟨T4, h4, k4, X4, e4, E4, A4, st4⟩ := newP X2 hx hZ (wD hw 71 rfl) e2 (g := (mkF m 8 #[vR o0, vR o1, vR o2] [(sI (1024 : Int32)), sR o0])) rfl (hb hby d10_8) rfl (by decide) (cap := 1024) (by decide) (by decide) (by decide) (by decide)
  obtain ⟨b4, g4⟩ : ∃ z, z = h0.size := ⟨_, rfl⟩
  rw [← g4] at A4 st4
  have ne_o0_b4 : o0 ≠ b4 := Nat.ne_of_lt (Nat.lt_of_lt_of_le E_o0.lt (Nat.le_of_eq g4.symm))
  have g_b4 : n0 ≤ b4 := Nat.le_trans Z0 (Nat.le_of_eq g4.symm)
  have sz_b4 : h0.size ≤ b4 := Nat.le_trans K0.1 (Nat.le_of_eq g4.symm)
  have f5 := E_o0.ext E4
  have f6 := F_units.ext E4
  have f7 := F_file.ext E4
  have f8 := F_noun.ext E4
  have f9 := F_count.ext E4
  have f10 := F_scale.ext E4
  have f11 := F_present.ext E4
  have f12 := F_peak.ext E4
  have V4 : Arv Z h4 b4 k4 .long (1024 : Int32) [(.long (0 : Int64)), (.long (0 : Int64)), (.long (0 : Int64))] (.long (0 : Int64)) := (Arv.new A4 (by decide)).pad (pad_rep [] (.long (0 : Int64)) 3)
  have Z4 : n0 ≤ h4.size := Nat.le_trans Z0 E4.1
  have K4 := K0.ext E4
  have go13 := go3.st T4 (mkF m 10 #[vR o0, vR o1, vR o2] [sR b4, sR o0]) (fun t k => by
    refine st4 _ ?_
    exact k)
  obtain ⟨T14, h14, X14, e14, W14, st14⟩ := putF X4 hx hZ hown (host := "") (Or.inl (wD hw 72 rfl)) Via.refl e4 f6 f5 (Or.inl (wD hw 73 rfl)) (wD hw 61 rfl) (ty := (.array .long)) (by decide) rfl rfl (g := (mkF m 10 #[vR o0, vR o1, vR o2] [sR b4, sR o0])) rfl rfl (hb hby d10_10)
  have f15 := f5.wr W14
  have f16 := Fld.same W14 f6
  have f17 := Fld.other W14 f7 (Or.inr (slot_ne (Or.inr (wD hw 75 rfl)) (Or.inl (wD hw 73 rfl)) (by decide) (t := (.object "java/lang/String")) (t' := (.array .long)) (by decide) (by decide)))
  have f18 := Fld.other W14 f8 (Or.inr (slot_ne (Or.inr (wD hw 77 rfl)) (Or.inl (wD hw 73 rfl)) (by decide) (t := (.object "java/lang/String")) (t' := (.array .long)) (by decide) (by decide)))
  have f19 := Fld.other W14 f9 (Or.inr (slot_ne (Or.inl (wD hw 183 rfl)) (Or.inl (wD hw 73 rfl)) (by decide) (t := .int) (t' := (.array .long)) (by decide) (by decide)))
  have f20 := Fld.other W14 f10 (Or.inr (slot_ne (Or.inl (wD hw 151 rfl)) (Or.inl (wD hw 73 rfl)) (by decide) (t := .int) (t' := (.array .long)) (by decide) (by decide)))
  have f21 := Fld.other W14 f11 (Or.inr (slot_ne (Or.inl (wD hw 176 rfl)) (Or.inl (wD hw 73 rfl)) (by decide) (t := .long) (t' := (.array .long)) (by decide) (by decide)))
  have f22 := Fld.other W14 f12 (Or.inr (slot_ne (Or.inl (wD hw 178 rfl)) (Or.inl (wD hw 73 rfl)) (by decide) (t := .long) (t' := (.array .long)) (by decide) (by decide)))
  have f23 := Arv.other V4 W14 (Ne.symm ne_o0_b4)
  have Z14 : n0 ≤ h14.size := Nat.le_trans Z4 (Nat.le_of_eq W14.size.symm)
  have K14 := K4.wr W14 (Or.inl (List.mem_of_getElem? (i := 0) rfl))
  have N14 := Fr.snoc X14 N0 g_o0
  have go24 := go13.st T14 (mkF m 15 #[vR o0, vR o1, vR o2] [sR o1, sR o0]) (fun t k => by
    refine st14 _ ?_
    show SP p e below T14 (mkF m 13 #[vR o0, vR o1, vR o2] []) _
    refine XS.aloadN X14.here hx rfl (hb hby d10_13) rfl rfl ?_
    refine XS.aloadN X14.here hx rfl (hb hby d10_14) rfl rfl ?_
    exact k)
  obtain ⟨T25, h25, X25, e25, W25, st25⟩ := putF X14 hx hZ hown (host := "") (Or.inl (wD hw 74 rfl)) Via.refl e14 f17 f15 (Or.inr ⟨(wD hw 75 rfl), rfl, hnm⟩) (wD hw 61 rfl) (ty := (.object "java/lang/String")) (by decide) rfl rfl (g := (mkF m 15 #[vR o0, vR o1, vR o2] [sR o1, sR o0])) rfl rfl (hb hby d10_15)
  have f26 := f15.wr W25
  have f27 := Fld.other W25 f16 (Or.inr (slot_ne (Or.inl (wD hw 73 rfl)) (Or.inr (wD hw 75 rfl)) (by decide) (t := (.array .long)) (t' := (.object "java/lang/String")) (by decide) (by decide)))
  have f28 := Fld.same W25 f17
  have f29 := Fld.other W25 f18 (Or.inr (slot_ne (Or.inr (wD hw 77 rfl)) (Or.inr (wD hw 75 rfl)) (by decide) (t := (.object "java/lang/String")) (t' := (.object "java/lang/String")) (by decide) (by decide)))
  have f30 := Fld.other W25 f19 (Or.inr (slot_ne (Or.inl (wD hw 183 rfl)) (Or.inr (wD hw 75 rfl)) (by decide) (t := .int) (t' := (.object "java/lang/String")) (by decide) (by decide)))
  have f31 := Fld.other W25 f20 (Or.inr (slot_ne (Or.inl (wD hw 151 rfl)) (Or.inr (wD hw 75 rfl)) (by decide) (t := .int) (t' := (.object "java/lang/String")) (by decide) (by decide)))
  have f32 := Fld.other W25 f21 (Or.inr (slot_ne (Or.inl (wD hw 176 rfl)) (Or.inr (wD hw 75 rfl)) (by decide) (t := .long) (t' := (.object "java/lang/String")) (by decide) (by decide)))
  have f33 := Fld.other W25 f22 (Or.inr (slot_ne (Or.inl (wD hw 178 rfl)) (Or.inr (wD hw 75 rfl)) (by decide) (t := .long) (t' := (.object "java/lang/String")) (by decide) (by decide)))
  have f34 := Arv.other f23 W25 (Ne.symm ne_o0_b4)
  have Z25 : n0 ≤ h25.size := Nat.le_trans Z14 (Nat.le_of_eq W25.size.symm)
  have K25 := K14.wr W25 (Or.inl (List.mem_of_getElem? (i := 0) rfl))
  have N25 := Fr.snoc X25 N14 g_o0
  have go35 := go24.st T25 (mkF m 20 #[vR o0, vR o1, vR o2] [sR o2, sR o0]) (fun t k => by
    refine st25 _ ?_
    show SP p e below T25 (mkF m 18 #[vR o0, vR o1, vR o2] []) _
    refine XS.aloadN X25.here hx rfl (hb hby d10_18) rfl rfl ?_
    refine XS.aloadN X25.here hx rfl (hb hby d10_19) rfl rfl ?_
    exact k)
  obtain ⟨T36, h36, X36, e36, W36, st36⟩ := putF X25 hx hZ hown (host := "") (Or.inl (wD hw 76 rfl)) Via.refl e25 f29 f26 (Or.inr ⟨(wD hw 77 rfl), rfl, hnm⟩) (wD hw 61 rfl) (ty := (.object "java/lang/String")) (by decide) rfl rfl (g := (mkF m 20 #[vR o0, vR o1, vR o2] [sR o2, sR o0])) rfl rfl (hb hby d10_20)
  have f37 := f26.wr W36
  have f38 := Fld.other W36 f27 (Or.inr (slot_ne (Or.inl (wD hw 73 rfl)) (Or.inr (wD hw 77 rfl)) (by decide) (t := (.array .long)) (t' := (.object "java/lang/String")) (by decide) (by decide)))
  have f39 := Fld.other W36 f28 (Or.inr (slot_ne (Or.inr (wD hw 75 rfl)) (Or.inr (wD hw 77 rfl)) (by decide) (t := (.object "java/lang/String")) (t' := (.object "java/lang/String")) (by decide) (by decide)))
  have f40 := Fld.same W36 f29
  have f41 := Fld.other W36 f30 (Or.inr (slot_ne (Or.inl (wD hw 183 rfl)) (Or.inr (wD hw 77 rfl)) (by decide) (t := .int) (t' := (.object "java/lang/String")) (by decide) (by decide)))
  have f42 := Fld.other W36 f31 (Or.inr (slot_ne (Or.inl (wD hw 151 rfl)) (Or.inr (wD hw 77 rfl)) (by decide) (t := .int) (t' := (.object "java/lang/String")) (by decide) (by decide)))
  have f43 := Fld.other W36 f32 (Or.inr (slot_ne (Or.inl (wD hw 176 rfl)) (Or.inr (wD hw 77 rfl)) (by decide) (t := .long) (t' := (.object "java/lang/String")) (by decide) (by decide)))
  have f44 := Fld.other W36 f33 (Or.inr (slot_ne (Or.inl (wD hw 178 rfl)) (Or.inr (wD hw 77 rfl)) (by decide) (t := .long) (t' := (.object "java/lang/String")) (by decide) (by decide)))
  have f45 := Arv.other f34 W36 (Ne.symm ne_o0_b4)
  have Z36 : n0 ≤ h36.size := Nat.le_trans Z25 (Nat.le_of_eq W36.size.symm)
  have K36 := K25.wr W36 (Or.inl (List.mem_of_getElem? (i := 0) rfl))
  have N36 := Fr.snoc X36 N25 g_o0
  have go46 := go35.st T36 (mkF m 23 #[vR o0, vR o1, vR o2] []) (fun t k => by
    refine st36 _ ?_
    exact k)
  obtain ⟨fs, hr, hrun, hended, hW, hsame⟩ := X36.leave (v := none) (fun _ => rfl)
  refine ⟨_, _, go46 _ ?_, hrun, hended, _, _, rfl, ?_, ⟨_, rfl⟩, hW, hsame.mono (by decide) (by decide)⟩
  · exact X36.returnOut hx Bd.returns (hb hby d10_23) hr
  · show Q_rm_wbi Z o0 o1 o2 h0 n0 _ T36.heap _
    rw [e36]
    exact ⟨b4, k4, rfl, N36, K36, f37, f38, f41, f42, f43, f44, g_b4, sz_b4, f45⟩
theorem d48_0 : decode prog_88_method_3_code 0 = .ok (.aload_n 2, 1) := by decide +kernel
theorem d48_1 : decode prog_88_method_3_code 1 = .ok (.invokestatic 25, 3) := by decide +kernel
theorem d48_4 : decode prog_88_method_3_code 4 = .ok (.istore_n 3, 1) := by decide +kernel
theorem d48_5 : decode prog_88_method_3_code 5 = .ok (.iload_n 3, 1) := by decide +kernel
theorem d48_6 : decode prog_88_method_3_code 6 = .ok (.ifCond .ge 71, 3) := by decide +kernel
theorem d48_77 : decode prog_88_method_3_code 77 = .ok (.aload_n 2, 1) := by decide +kernel
theorem d48_78 : decode prog_88_method_3_code 78 = .ok (.invokevirtual 62, 3) := by decide +kernel
theorem d48_81 : decode prog_88_method_3_code 81 = .ok (.istore 4, 2) := by decide +kernel
theorem d48_83 : decode prog_88_method_3_code 83 = .ok (.iload 4, 2) := by decide +kernel
theorem d48_85 : decode prog_88_method_3_code 85 = .ok (.iload_n 3, 1) := by decide +kernel
theorem d48_86 : decode prog_88_method_3_code 86 = .ok (.iconst 1, 1) := by decide +kernel
theorem d48_87 : decode prog_88_method_3_code 87 = .ok (.iadd, 1) := by decide +kernel
theorem d48_88 : decode prog_88_method_3_code 88 = .ok (.if_icmp .le 22, 3) := by decide +kernel
theorem d48_110 : decode prog_88_method_3_code 110 = .ok (.iload 4, 2) := by decide +kernel
theorem d48_112 : decode prog_88_method_3_code 112 = .ok (.iload_n 3, 1) := by decide +kernel
theorem d48_113 : decode prog_88_method_3_code 113 = .ok (.isub, 1) := by decide +kernel
theorem d48_114 : decode prog_88_method_3_code 114 = .ok (.iconst 1, 1) := by decide +kernel
theorem d48_115 : decode prog_88_method_3_code 115 = .ok (.isub, 1) := by decide +kernel
theorem d48_116 : decode prog_88_method_3_code 116 = .ok (.iconst 0, 1) := by decide +kernel
theorem d48_117 : decode prog_88_method_3_code 117 = .ok (.invokestatic 70, 3) := by decide +kernel
theorem d48_120 : decode prog_88_method_3_code 120 = .ok (.istore 5, 2) := by decide +kernel
theorem d48_122 : decode prog_88_method_3_code 122 = .ok (.iload 5, 2) := by decide +kernel
theorem d48_124 : decode prog_88_method_3_code 124 = .ok (.aload_n 0, 1) := by decide +kernel
theorem d48_125 : decode prog_88_method_3_code 125 = .ok (.getfield 76, 3) := by decide +kernel
theorem d48_128 : decode prog_88_method_3_code 128 = .ok (.if_icmp .le 9, 3) := by decide +kernel
theorem d48_137 : decode prog_88_method_3_code 137 = .ok (.aload_n 2, 1) := by decide +kernel
theorem d48_138 : decode prog_88_method_3_code 138 = .ok (.iconst 0, 1) := by decide +kernel
theorem d48_139 : decode prog_88_method_3_code 139 = .ok (.iload_n 3, 1) := by decide +kernel
theorem d48_140 : decode prog_88_method_3_code 140 = .ok (.invokestatic 84, 3) := by decide +kernel
theorem d48_143 : decode prog_88_method_3_code 143 = .ok (.aload_n 0, 1) := by decide +kernel
theorem d48_144 : decode prog_88_method_3_code 144 = .ok (.getfield 76, 3) := by decide +kernel
theorem d48_147 : decode prog_88_method_3_code 147 = .ok (.invokestatic 88, 3) := by decide +kernel
theorem d48_150 : decode prog_88_method_3_code 150 = .ok (.invokestatic 94, 3) := by decide +kernel
theorem d48_153 : decode prog_88_method_3_code 153 = .ok (.lstore 6, 2) := by decide +kernel
theorem d48_155 : decode prog_88_method_3_code 155 = .ok (.iload 5, 2) := by decide +kernel
theorem d48_157 : decode prog_88_method_3_code 157 = .ok (.ifCond .le 34, 3) := by decide +kernel
theorem d48_191 : decode prog_88_method_3_code 191 = .ok (.aload_n 0, 1) := by decide +kernel
theorem d48_192 : decode prog_88_method_3_code 192 = .ok (.aload_n 0, 1) := by decide +kernel
theorem d48_193 : decode prog_88_method_3_code 193 = .ok (.getfield 101, 3) := by decide +kernel
theorem d48_196 : decode prog_88_method_3_code 196 = .ok (.lload 6, 2) := by decide +kernel
theorem d48_198 : decode prog_88_method_3_code 198 = .ok (.invokestatic 98, 3) := by decide +kernel
theorem d48_201 : decode prog_88_method_3_code 201 = .ok (.putfield 101, 3) := by decide +kernel
theorem d48_204 : decode prog_88_method_3_code 204 = .ok (.goto 27, 3) := by decide +kernel
theorem d48_231 : decode prog_88_method_3_code 231 = .ok (.aload_n 0, 1) := by decide +kernel
theorem d48_232 : decode prog_88_method_3_code 232 = .ok (.aload_n 0, 1) := by decide +kernel
theorem d48_233 : decode prog_88_method_3_code 233 = .ok (.getfield 108, 3) := by decide +kernel
theorem d48_236 : decode prog_88_method_3_code 236 = .ok (.aload_n 0, 1) := by decide +kernel
theorem d48_237 : decode prog_88_method_3_code 237 = .ok (.getfield 101, 3) := by decide +kernel
theorem d48_240 : decode prog_88_method_3_code 240 = .ok (.invokestatic 111, 3) := by decide +kernel
theorem d48_243 : decode prog_88_method_3_code 243 = .ok (.putfield 108, 3) := by decide +kernel
theorem d48_246 : decode prog_88_method_3_code 246 = .ok (.aload_n 0, 1) := by decide +kernel
theorem d48_247 : decode prog_88_method_3_code 247 = .ok (.getfield 113, 3) := by decide +kernel
theorem d48_250 : decode prog_88_method_3_code 250 = .ok (.aload_n 0, 1) := by decide +kernel
theorem d48_251 : decode prog_88_method_3_code 251 = .ok (.getfield 14, 3) := by decide +kernel
theorem d48_254 : decode prog_88_method_3_code 254 = .ok (.arraylength, 1) := by decide +kernel
theorem d48_255 : decode prog_88_method_3_code 255 = .ok (.if_icmp .ne 20, 3) := by decide +kernel
theorem d48_275 : decode prog_88_method_3_code 275 = .ok (.aload_n 0, 1) := by decide +kernel
theorem d48_276 : decode prog_88_method_3_code 276 = .ok (.getfield 14, 3) := by decide +kernel
theorem d48_279 : decode prog_88_method_3_code 279 = .ok (.aload_n 0, 1) := by decide +kernel
theorem d48_280 : decode prog_88_method_3_code 280 = .ok (.dup, 1) := by decide +kernel
theorem d48_281 : decode prog_88_method_3_code 281 = .ok (.getfield 113, 3) := by decide +kernel
theorem d48_284 : decode prog_88_method_3_code 284 = .ok (.dup_x1, 1) := by decide +kernel
theorem d48_285 : decode prog_88_method_3_code 285 = .ok (.iconst 1, 1) := by decide +kernel
theorem d48_286 : decode prog_88_method_3_code 286 = .ok (.iadd, 1) := by decide +kernel
theorem d48_287 : decode prog_88_method_3_code 287 = .ok (.putfield 113, 3) := by decide +kernel
theorem d48_290 : decode prog_88_method_3_code 290 = .ok (.lload 6, 2) := by decide +kernel
theorem d48_292 : decode prog_88_method_3_code 292 = .ok (.lastore, 1) := by decide +kernel
theorem d48_293 : decode prog_88_method_3_code 293 = .ok (.lload 6, 2) := by decide +kernel
theorem d48_295 : decode prog_88_method_3_code 295 = .ok (.lreturn, 1) := by decide +kernel
theorem pn_rm_add0 : plainName "com/example/equipoise/equipoise/WeightFile$Builder" = true := by first | (simp [plainName, overriddenIn]; done) | decide +kernel
theorem pd_rm_add0_0 : parseMethodDescriptor "(Ljava/lang/String;)I" = some ⟨[(.object "java/lang/String")], some .int⟩ := by decide +kernel
theorem pd_rm_add0_1 : parseMethodDescriptor "()I" = some ⟨[], some .int⟩ := by decide +kernel
theorem pd_rm_add0_2 : parseMethodDescriptor "(II)I" = some ⟨[.int, .int], some .int⟩ := by decide +kernel
theorem pd_rm_add0_3 : parseMethodDescriptor "(Ljava/lang/String;II)J" = some ⟨[(.object "java/lang/String"), .int, .int], some .long⟩ := by decide +kernel
theorem pd_rm_add0_4 : parseMethodDescriptor "(I)J" = some ⟨[.int], some .long⟩ := by decide +kernel
theorem pd_rm_add0_5 : parseMethodDescriptor "(JJ)J" = some ⟨[.long, .long], some .long⟩ := by decide +kernel
theorem ef_rm_add0 (m : MethodId) (o0 : Addr) (p1 : Int32) (o2 : Addr) : entryFrame m #[(.ref o0), (.int p1), (.ref o2)] 10 = mkF m 0 #[.val (.ref o0), .val (.int p1), .val (.ref o2), uu, uu, uu, uu, uu, uu, uu] [] := by first | (simp [entryFrame, mkF, argsToLocals, Value.category]; done) | rfl
def Q_rm_add0 (Z : State) (o0 : Addr) (p1 : Int32) (o2 : Addr) (cs : Int32) (vf : Value) (vb : Addr) (kb : ClassId) (vs : List Value) (qv : Int64) (un : Addr) (ku : ClassId) (pr : Int64) (pk : Int64) (pw : Addr) (kp : ClassId) (ps : List Value) (h0 : Heap) (n0 : Nat) (v : Option Value) (h : Heap) (L : List Loc) : Prop := v = some (.long qv) ∧ Fr n0 L ∧ Keep h0 h [o0, un] ∧ Exa Z h o0 "com/example/equipoise/equipoise/WeightFile$Builder" ∧ Fld Z h o0 "com/example/equipoise/equipoise/WeightFile$Builder" "units" "[J" (.ref un) ∧ Fld Z h o0 "com/example/equipoise/equipoise/WeightFile$Builder" "count" "I" (.int (1 : Int32)) ∧ Fld Z h o0 "com/example/equipoise/equipoise/WeightFile$Builder" "scale" "I" (.int (0 : Int32)) ∧ Fld Z h o0 "com/example/equipoise/equipoise/WeightFile$Builder" "present" "J" (.long (pr + qv)) ∧ Fld Z h o0 "com/example/equipoise/equipoise/WeightFile$Builder" "peak" "J" (.long (own_maxL pk (pr + qv))) ∧ Arv Z h un ku .long (1024 : Int32) [(.long qv), (.long (0 : Int64)), (.long (0 : Int64))] (.long (0 : Int64))
set_option maxRecDepth 65536 in
set_option maxHeartbeats 40000000 in
theorem rm_add0 (l : Launch) (Z : State) (a0 : Array Value) (hw : ∀ d ∈ tables_1, d.before a0 Z = true) (ws : List Jvm.Cond) (o0 : Addr) (p1 : Int32) (o2 : Addr) (cs : Int32) (vf : Value) (vb : Addr) (kb : ClassId) (vs : List Value) (qv : Int64) (un : Addr) (ku : ClassId) (pr : Int64) (pk : Int64) (pw : Addr) (kp : ClassId) (ps : List Value) (h0 : Heap) (n0 : Nat) (Z0 : n0 ≤ h0.size) (Ol : Old Z n0 h0) (S_cs : Sta Z Z.heap "java/lang/String" "COMPACT_STRINGS" "Z" (.int cs)) (hcs : ¬ cs = (0 : Int32)) (S_sf : Sta Z Z.heap "jdk/internal/util/Preconditions" "SIOOBE_FORMATTER" "Ljava/util/function/BiFunction;" vf) (hvf : vf.isRef = true) (E_o2 : Exa Z h0 o2 "java/lang/String") (F_coder_o2 : Fld Z h0 o2 "java/lang/String" "coder" "B" (.int (0 : Int32))) (F_value_o2 : Fld Z h0 o2 "java/lang/String" "value" "[B" (.ref vb)) (V_vb : Arv Z h0 vb kb .byte (19 : Int32) vs (.int (0 : Int32))) (hv : own_Vs vs qv) (hq : 0 ≤ qv.toInt) (E_o0 : Exa Z h0 o0 "com/example/equipoise/equipoise/WeightFile$Builder") (F_units_o0 : Fld Z h0 o0 "com/example/equipoise/equipoise/WeightFile$Builder" "units" "[J" (.ref un)) (F_count_o0 : Fld Z h0 o0 "com/example/equipoise/equipoise/WeightFile$Builder" "count" "I" (.int (0 : Int32))) (F_scale_o0 : Fld Z h0 o0 "com/example/equipoise/equipoise/WeightFile$Builder" "scale" "I" (.int (0 : Int32))) (F_present_o0 : Fld Z h0 o0 "com/example/equipoise/equipoise/WeightFile$Builder" "present" "J" (.long pr)) (F_peak_o0 : Fld Z h0 o0 "com/example/equipoise/equipoise/WeightFile$Builder" "peak" "J" (.long pk)) (V_un : Arv Z h0 un ku .long (1024 : Int32) [(.long (0 : Int64)), (.long (0 : Int64)), (.long (0 : Int64))] (.long (0 : Int64))) (g_o0 : n0 ≤ o0) (g_un : n0 ≤ un) (ne_o0_un : o0 ≠ un) (S_pw : Sta Z Z.heap "com/example/equipoise/equipoise/WeightList" "POWERS_OF_TEN" "[J" (.ref pw)) (V_pw : Arv Z Z.heap pw kp .long (19 : Int32) ps (.long (0 : Int64))) (hps : ps.getD 0 (.long (0 : Int64)) = .long (1 : Int64)) (ho : 0 ≤ pr.toInt ∧ pr.toInt + qv.toInt ≤ 9223372036854775807) :
    MetFree l yN45 (head1 (Jvm.Cond.codeWith yN45 prog_88_method_3_code 10 (some .long) [(122, 204, 207, 105)] :: ws) ({ frames := 6, cells := 0, slots := 0, locals := 83 } : Room)) (fun a U => a = #[(.ref o0), (.int p1), (.ref o2)] ∧ Z.Warmed39 U.vm ∧ U.heap = h0) (fun _ _ _ _ _ => True) (fun _ U o U' => ∃ v L, o = .returned v ∧ Q_rm_add0 Z o0 p1 o2 cs vf vb kb vs qv un ku pr pk pw kp ps h0 n0 v U'.heap L ∧ FrameEnd U o U' L ({ frames := 6, cells := 0, slots := 0, locals := 83 } : Room).cells ({ frames := 6, cells := 0, slots := 0, locals := 83 } : Room).slots) := by
  refine MetFree.of_bodySF (plainFor_of_name pn_rm_add0) hisWith ?_
  intro p e s m args below meth c s₁ Bd hml0 hP hK
  obtain ⟨rfl, hZ, hh⟩ := hP
  have hx := Bd.exec
  have hby := Bd.bytes
  have hml : c.maxLocals = 10 := hml0
  have hown : s.vm.findClass "com/example/equipoise/equipoise/WeightFile$Builder" = some m.cls := findClass_of_methodNamed Bd.named
  have hnm := (name_of_methodNamed Bd.named Bd.method).1
  have X0 : Stand p l e ({ frames := 6, cells := 0, slots := 0, locals := 83 } : Room) s m #[(.ref o0), (.int p1), (.ref o2)] below meth c s₁ [] 0 0 := Stand.of_body Bd
  have e0 : s₁.heap = h0 := by rw [← hh, Bd.state]; rfl
  have N0 := Fr.nil n0
  have K0 := Keep.refl h0 [o0, un]
  have go0 : Go p e below (s₁.setTop (entryFrame m #[(.ref o0), (.int p1), (.ref o2)] 10)) (s₁.setTop (mkF m 0 #[vR o0, vI p1, vR o2, uu, uu, uu, uu, uu, uu, uu] [])) := fun t k => castTop (ef_rm_add0 m o0 p1 o2) k
  have go1 := go0.st s₁ (mkF m 1 #[vR o0, vI p1, vR o2, uu, uu, uu, uu, uu, uu, uu] [sR o2]) (fun t k => by
    refine XS.aloadN X0.here hx rfl (hb hby d48_0) rfl rfl ?_
    exact k)
  obtain ⟨_, _, ⟨T2, L2, k2, n2⟩, -, X2, ⟨Lc2, hQ2, l2, y2, z2⟩, st2⟩ := Jvm.LawKit.callS X0 hx (y := yN28) hown (mvT hZ (wD hw 83 rfl)) (mvT hZ (wD hw 84 rfl)) (mvT hZ (wD hw 85 rfl)) (mvT hZ (wD hw 86 rfl)) (by decide) (backOf (W := 0) (rm_dp l Z a0 hw [] o2 cs vf vb kb vs qv h0 n0 Z0 Ol S_cs hcs S_sf hvf E_o2 F_coder_o2 F_value_o2 V_vb hv hq) hZ (wD hw 86 rfl) (wD hw 85 rfl) (by decide) (by decide)) (g := (mkF m 1 #[vR o0, vI p1, vR o2, uu, uu, uu, uu, uu, uu, uu] [sR o2])) rfl (by rw [hml]; rfl) (argsL := [(.ref o2)]) (rest := []) (lenOf pd_rm_add0_0 rfl) rfl (by show 2 * 0 + _ ≤ _; exact Nat.le_of_eq rfl) (hb hby d48_1) (fun _ _ => ⟨rfl, e0, (by decide : 0 + 0 ≤ _), (by decide : 0 + 0 ≤ _)⟩)
  dsimp only [Pt.U, Pt.locs, Pt.cells, Pt.slots] at X2 l2 y2 z2 st2 hQ2
  rw [l2, y2, z2] at X2
  obtain ⟨rfl, N2q, e2⟩ := hQ2
  have N2 := Fr.app N0 N2q
  have go4 := go1.st T2 (mkF m 78 #[vR o0, vI p1, vR o2, vI ((19 : Int32)), uu, uu, uu, uu, uu, uu] [sR o2]) (fun t k => by
    refine st2 _ ?_
    show SP p e below T2 (mkF m 4 #[vR o0, vI p1, vR o2, uu, uu, uu, uu, uu, uu, uu] [(sI (19 : Int32))]) _
    refine XS.istoreN X2.here hx rfl (hb hby d48_4) rfl (l' := #[vR o0, vI p1, vR o2, vI ((19 : Int32)), uu, uu, uu, uu, uu, uu]) rfl ?_
    refine XS.iloadN X2.here hx rfl (hb hby d48_5) rfl ?_
    refine XS.ifYes X2.here hx rfl (pc0 := 6) (pc' := 77) rfl (hb hby d48_6) rfl ((if0 _ _).trans (flt ((by decide) : ¬ ((19 : Int32) < (0 : Int32)))).2.1) (by decide) (by decide) ?_
    refine XS.aloadN X2.here hx rfl (hb hby d48_77) rfl rfl ?_
    exact k)
  obtain ⟨cq5, kq5, q5a, q5b, q5c⟩ := isOf hZ e2 E_o2
  obtain ⟨_, _, ⟨T5, L5, k5, n5⟩, -, X5, ⟨Lc5, hQ5, l5, y5, z5⟩, st5⟩ := X2.virtualBack hx (y := yN17) (z := yN17) hown (mvT hZ (wD hw 148 rfl)) (mvT hZ (wD hw 88 rfl)) (notFace_of_selects (args := #[]) (mvT hZ (wD hw 90 rfl))) (mvT hZ (wD hw 90 rfl)) (mvT hZ (wD hw 89 rfl)) (by decide) (backOf (W := 0) (rm_len l Z a0 hw [] o2 cs vb kb vs h0 n0 Z0 Ol S_cs hcs E_o2 F_coder_o2 F_value_o2 V_vb) hZ (wD hw 91 rfl) (wD hw 33 rfl) (by decide) (by decide)) q5a q5c (g := (mkF m 78 #[vR o0, vI p1, vR o2, vI ((19 : Int32)), uu, uu, uu, uu, uu, uu] [sR o2])) rfl (by rw [hml]; rfl) (Steps.refl _) (argsL := []) (rest := []) (lenOf pd_rm_add0_1 rfl) rfl (by show 2 * 0 + _ ≤ _; exact Nat.le_of_eq rfl) (hb hby d48_78) (fun _ _ => ⟨rfl, e2, (by decide : 0 + 0 ≤ _), (by decide : 0 + 0 ≤ _)⟩)
  dsimp only [Pt.U, Pt.locs, Pt.cells, Pt.slots] at X5 l5 y5 z5 st5 hQ5
  rw [l5, y5, z5] at X5
  obtain ⟨rfl, N5q, e5⟩ := hQ5
  have N5 := Fr.app N2 N5q
  have go7 := go4.st T5 (mkF m 117 #[vR o0, vI p1, vR o2, vI ((19 : Int32)), vI ((19 : Int32)), uu, uu, uu, uu, uu] [sI i0, (sI (-1 : Int32))]) (fun t k => by
    refine st5.trans ?_
    show SP p e below T5 (mkF m 81 #[vR o0, vI p1, vR o2, vI ((19 : Int32)), uu, uu, uu, uu, uu, uu] [(sI (19 : Int32))]) _
    refine XS.istore X5.here hx rfl (hb hby d48_81) rfl (l' := #[vR o0, vI p1, vR o2, vI ((19 : Int32)), vI ((19 : Int32)), uu, uu, uu, uu, uu]) rfl ?_
    refine XS.iload X5.here hx rfl (hb hby d48_83) rfl ?_
    refine XS.iloadN X5.here hx rfl (hb hby d48_85) rfl ?_
    refine XS.iconst X5.here hx rfl (hb hby d48_86) ?_
    refine XS.iadd X5.here hx rfl (hb hby d48_87) rfl ?_
    refine XS.icmpYes X5.here hx rfl (pc0 := 88) (pc' := 110) rfl (hb hby d48_88) rfl (flt ((by decide) : ¬ ((20 : Int32) < (19 : Int32)))).2.2.2 (by decide) (by decide) ?_
    refine XS.iload X5.here hx rfl (hb hby d48_110) rfl ?_
    refine XS.iloadN X5.here hx rfl (hb hby d48_112) rfl ?_
    refine XS.isub X5.here hx rfl (hb hby d48_113) rfl ?_
    show SP p e below T5 (mkF m 114 #[vR o0, vI p1, vR o2, vI ((19 : Int32)), vI ((19 : Int32)), uu, uu, uu, uu, uu] [sI i0]) _
    refine XS.iconst X5.here hx rfl (hb hby d48_114) ?_
    refine XS.isub X5.here hx rfl (hb hby d48_115) rfl ?_
    refine XS.iconst X5.here hx rfl (hb hby d48_116) ?_
    exact k)
  obtain ⟨_, _, ⟨T8, L8, k8, n8⟩, -, X8, ⟨Lc8, hQ8, l8, y8, z8⟩, st8⟩ := Jvm.LawKit.callS X5 hx (y := yN3) hown (mvT hZ (wD hw 149 rfl)) (mvT hZ (wD hw 121 rfl)) (mvT hZ (wD hw 3 rfl)) (mvT hZ (wD hw 122 rfl)) (by decide) (backOf (W := 0) (rm_maxm1 l Z a0 hw []  h0 n0 Z0 ) hZ (wD hw 122 rfl) (wD hw 3 rfl) (by decide) (by decide)) (g := (mkF m 117 #[vR o0, vI p1, vR o2, vI ((19 : Int32)), vI ((19 : Int32)), uu, uu, uu, uu, uu] [sI i0, (sI (-1 : Int32))])) rfl (by rw [hml]; rfl) (argsL := [(.int (-1 : Int32)), (.int (0 : Int32))]) (rest := []) (lenOf pd_rm_add0_2 rfl) rfl (by show 2 * 0 + _ ≤ _; exact Nat.le_of_eq rfl) (hb hby d48_117) (fun _ _ => ⟨rfl, e5, (by decide : 0 + 0 ≤ _), (by decide : 0 + 0 ≤ _)⟩)
  dsimp only [Pt.U, Pt.locs, Pt.cells, Pt.slots] at X8 l8 y8 z8 st8 hQ8
  rw [l8, y8, z8] at X8
  obtain ⟨rfl, N8q, e8⟩ := hQ8
  have N8 := Fr.app N5 N8q
  have go9 := go7.st T8 (mkF m 125 #[vR o0, vI p1, vR o2, vI ((19 : Int32)), vI ((19 : Int32)), vI i0, uu, uu, uu, uu] [sR o0, sI i0]) (fun t k => by
    refine st8 _ ?_
    show SP p e below T8 (mkF m 120 #[vR o0, vI p1, vR o2, vI ((19 : Int32)), vI ((19 : Int32)), uu, uu, uu, uu, uu] [sI i0]) _
    refine XS.istore X8.here hx rfl (hb hby d48_120) rfl (l' := #[vR o0, vI p1, vR o2, vI ((19 : Int32)), vI ((19 : Int32)), vI i0, uu, uu, uu, uu]) rfl ?_
    refine XS.iload X8.here hx rfl (hb hby d48_122) rfl ?_
    refine XS.aloadN X8.here hx rfl (hb hby d48_124) rfl rfl ?_
    exact k)
  obtain ⟨T10, X10, e10, st10⟩ := getF X8 hx hZ hown (host := "") (Or.inl (wD hw 150 rfl)) Via.refl e8 F_scale_o0 (g := (mkF m 125 #[vR o0, vI p1, vR o2, vI ((19 : Int32)), vI ((19 : Int32)), vI i0, uu, uu, uu, uu] [sR o0, sI i0])) rfl rfl (hb hby d48_125)
  have go12 := go9.st T10 (mkF m 140 #[vR o0, vI p1, vR o2, vI ((19 : Int32)), vI ((19 : Int32)), vI i0, uu, uu, uu, uu] [(sI (19 : Int32)), sI i0, sR o2]) (fun t k => by
    refine st10 _ ?_
    show SP p e below T10 (mkF m 128 #[vR o0, vI p1, vR o2, vI ((19 : Int32)), vI ((19 : Int32)), vI i0, uu, uu, uu, uu] [sI i0, sI i0]) _
    refine XS.icmpYes X10.here hx rfl (pc0 := 128) (pc' := 137) rfl (hb hby d48_128) rfl (flt ((by decide) : ¬ ((0 : Int32) < (0 : Int32)))).2.2.2 (by decide) (by decide) ?_
    refine XS.aloadN X10.here hx rfl (hb hby d48_137) rfl rfl ?_
    refine XS.iconst X10.here hx rfl (hb hby d48_138) ?_
    refine XS.iloadN X10.here hx rfl (hb hby d48_139) rfl ?_
    exact k)
  obtain ⟨_, _, ⟨T13, L13, k13, n13⟩, -, X13, ⟨Lc13, hQ13, l13, y13, z13⟩, st13⟩ := Jvm.LawKit.callS X10 hx (y := yN29) hown (mvT hZ (wD hw 152 rfl)) (mvT hZ (wD hw 153 rfl)) (mvT hZ (wD hw 62 rfl)) (mvT hZ (wD hw 154 rfl)) (by decide) (backOf (W := 0) (rm_dg l Z a0 hw [] o2 cs vf vb kb vs qv h0 n0 Z0 Ol S_cs hcs S_sf hvf E_o2 F_coder_o2 F_value_o2 V_vb hv hq) hZ (wD hw 154 rfl) (wD hw 62 rfl) (by decide) (by decide)) (g := (mkF m 140 #[vR o0, vI p1, vR o2, vI ((19 : Int32)), vI ((19 : Int32)), vI i0, uu, uu, uu, uu] [(sI (19 : Int32)), sI i0, sR o2])) rfl (by rw [hml]; rfl) (argsL := [(.ref o2), (.int (0 : Int32)), (.int (19 : Int32))]) (rest := []) (lenOf pd_rm_add0_3 rfl) rfl (by show 2 * 0 + _ ≤ _; exact Nat.le_of_eq rfl) (hb hby d48_140) (fun _ _ => ⟨rfl, e10, (by decide : 0 + 0 ≤ _), (by decide : 0 + 0 ≤ _)⟩)
  dsimp only [Pt.U, Pt.locs, Pt.cells, Pt.slots] at X13 l13 y13 z13 st13 hQ13
  rw [l13, y13, z13] at X13
  obtain ⟨rfl, N13q, e13⟩ := hQ13
  have N13 := Fr.app N8 N13q
  have go14 := go12.st T13 (mkF m 144 #[vR o0, vI p1, vR o2, vI ((19 : Int32)), vI ((19 : Int32)), vI i0, uu, uu, uu, uu] [sR o0, sJ qv]) (fun t k => by
    refine st13 _ ?_
    show SP p e below T13 (mkF m 143 #[vR o0, vI p1, vR o2, vI ((19 : Int32)), vI ((19 : Int32)), vI i0, uu, uu, uu, uu] [sJ qv]) _
    refine XS.aloadN X13.here hx rfl (hb hby d48_143) rfl rfl ?_
    exact k)
  obtain ⟨T15, X15, e15, st15⟩ := getF X13 hx hZ hown (host := "") (Or.inl (wD hw 150 rfl)) Via.refl e13 F_scale_o0 (g := (mkF m 144 #[vR o0, vI p1, vR o2, vI ((19 : Int32)), vI ((19 : Int32)), vI i0, uu, uu, uu, uu] [sR o0, sJ qv])) rfl rfl (hb hby d48_144)
  have go16 := go14.st T15 (mkF m 147 #[vR o0, vI p1, vR o2, vI ((19 : Int32)), vI ((19 : Int32)), vI i0, uu, uu, uu, uu] [sI i0, sJ qv]) (fun t k => by
    refine st15 _ ?_
    exact k)
  obtain ⟨_, _, ⟨T17, L17, k17, n17⟩, -, X17, ⟨Lc17, hQ17, l17, y17, z17⟩, st17⟩ := Jvm.LawKit.callS X15 hx (y := yN43) hown (mvT hZ (wD hw 168 rfl)) (mvT hZ (wD hw 169 rfl)) (mvT hZ (wD hw 170 rfl)) (mvT hZ (wD hw 171 rfl)) (by decide) (backOf (W := 2) (rm_pow l Z a0 hw [] pw kp ps h0 n0 Z0 Ol S_pw V_pw hps) hZ (wD hw 171 rfl) (wD hw 170 rfl) (by decide) (by decide)) (g := (mkF m 147 #[vR o0, vI p1, vR o2, vI ((19 : Int32)), vI ((19 : Int32)), vI i0, uu, uu, uu, uu] [sI i0, sJ qv])) rfl (by rw [hml]; rfl) (argsL := [(.int (0 : Int32))]) (rest := [(.long qv)]) (lenOf pd_rm_add0_4 rfl) rfl (by show 2 * 0 + _ ≤ _; exact Nat.le_of_eq rfl) (hb hby d48_147) (fun _ _ => ⟨rfl, e15, (by decide : 0 + 0 ≤ _), (by decide : 0 + 0 ≤ _)⟩)
  dsimp only [Pt.U, Pt.locs, Pt.cells, Pt.slots] at X17 l17 y17 z17 st17 hQ17
  rw [l17, y17, z17] at X17
  obtain ⟨rfl, N17q, e17⟩ := hQ17
  have N17 := Fr.app N13 N17q
  have go18 := go16.st T17 (mkF m 150 #[vR o0, vI p1, vR o2, vI ((19 : Int32)), vI ((19 : Int32)), vI i0, uu, uu, uu, uu] [(sJ (1 : Int64)), sJ qv]) (fun t k => by
    refine st17 _ ?_
    exact k)
  obtain ⟨_, _, ⟨T19, L19, k19, n19⟩, -, X19, ⟨Lc19, hQ19, l19, y19, z19⟩, st19⟩ := Jvm.LawKit.callS X17 hx (y := yN5) hown (mvT hZ (wD hw 174 rfl)) (mvT hZ (wD hw 159 rfl)) (mvT hZ (wD hw 3 rfl)) (mvT hZ (wD hw 160 rfl)) (by decide) (backOf (W := 0) (rm_mul1 l Z a0 hw [] qv h0 n0 Z0 (by rw [Int64.mul_one, Int64.div_one]) (own_nmin hq)) hZ (wD hw 160 rfl) (wD hw 3 rfl) (by decide) (by decide)) (g := (mkF m 150 #[vR o0, vI p1, vR o2, vI ((19 : Int32)), vI ((19 : Int32)), vI i0, uu, uu, uu, uu] [(sJ (1 : Int64)), sJ qv])) rfl (by rw [hml]; rfl) (argsL := [(.long qv), (.long (1 : Int64))]) (rest := []) (lenOf pd_rm_add0_5 rfl) rfl (by show 2 * 0 + _ ≤ _; exact Nat.le_of_eq rfl) (hb hby d48_150) (fun _ _ => ⟨rfl, e17, (by decide : 0 + 0 ≤ _), (by decide : 0 + 0 ≤ _)⟩)
  dsimp only [Pt.U, Pt.locs, Pt.cells, Pt.slots] at X19 l19 y19 z19 st19 hQ19
  rw [l19, y19, z19] at X19
  obtain ⟨rfl, N19q, e19⟩ := hQ19
  have N19 := Fr.app N17 N19q
  have go21 := go18.st T19 (mkF m 193 #[vR o0, vI p1, vR o2, vI ((19 : Int32)), vI ((19 : Int32)), vI i0, vJ qv, sc, uu, uu] [sR o0, sR o0]) (fun t k => by
    refine st19 _ ?_
    show SP p e below T19 (mkF m 153 #[vR o0, vI p1, vR o2, vI ((19 : Int32)), vI ((19 : Int32)), vI i0, uu, uu, uu, uu] [sJ qv]) _
    refine XS.lstore X19.here hx rfl (hb hby d48_153) rfl (l' := #[vR o0, vI p1, vR o2, vI ((19 : Int32)), vI ((19 : Int32)), vI i0, vJ qv, sc, uu, uu]) rfl ?_
    refine XS.iload X19.here hx rfl (hb hby d48_155) rfl ?_
    refine XS.ifYes X19.here hx rfl (pc0 := 157) (pc' := 191) rfl (hb hby d48_157) rfl ((if0 _ _).trans (flt ((by decide) : ¬ ((0 : Int32) < (0 : Int32)))).2.2.2) (by decide) (by decide) ?_
    refine XS.aloadN X19.here hx rfl (hb hby d48_191) rfl rfl ?_
    refine XS.aloadN X19.here hx rfl (hb hby d48_192) rfl rfl ?_
    exact k)
  obtain ⟨T22, X22, e22, st22⟩ := getF X19 hx hZ hown (host := "") (Or.inl (wD hw 175 rfl)) Via.refl e19 F_present_o0 (g := (mkF m 193 #[vR o0, vI p1, vR o2, vI ((19 : Int32)), vI ((19 : Int32)), vI i0, vJ qv, sc, uu, uu] [sR o0, sR o0])) rfl rfl (hb hby d48_193)
  have go23 := go21.st T22 (mkF m 198 #[vR o0, vI p1, vR o2, vI ((19 : Int32)), vI ((19 : Int32)), vI i0, vJ qv, sc, uu, uu] [sJ qv, sJ pr, sR o0]) (fun t k => by
    refine st22 _ ?_
    show SP p e below T22 (mkF m 196 #[vR o0, vI p1, vR o2, vI ((19 : Int32)), vI ((19 : Int32)), vI i0, vJ qv, sc, uu, uu] [sJ pr, sR o0]) _
    refine XS.lload X22.here hx rfl (hb hby d48_196) rfl ?_
    exact k)
  obtain ⟨_, _, ⟨T24, L24, k24, n24⟩, -, X24, ⟨Lc24, hQ24, l24, y24, z24⟩, st24⟩ := Jvm.LawKit.callS X22 hx (y := yN7) hown (mvT hZ (wD hw 165 rfl)) (mvT hZ (wD hw 166 rfl)) (mvT hZ (wD hw 3 rfl)) (mvT hZ (wD hw 167 rfl)) (by decide) (backOf (W := 1) (rm_addX l Z a0 hw [] pr qv h0 n0 Z0 (own_noov ho.1 hq ho.2).1) hZ (wD hw 167 rfl) (wD hw 3 rfl) (by decide) (by decide)) (g := (mkF m 198 #[vR o0, vI p1, vR o2, vI ((19 : Int32)), vI ((19 : Int32)), vI i0, vJ qv, sc, uu, uu] [sJ qv, sJ pr, sR o0])) rfl (by rw [hml]; rfl) (argsL := [(.long pr), (.long qv)]) (rest := [(.ref o0)]) (lenOf pd_rm_add0_5 rfl) rfl (by show 2 * 0 + _ ≤ _; exact Nat.le_of_eq rfl) (hb hby d48_198) (fun _ _ => ⟨rfl, e22, (by decide : 0 + 0 ≤ _), (by decide : 0 + 0 ≤ _)⟩)
  dsimp only [Pt.U, Pt.locs, Pt.cells, Pt.slots] at X24 l24 y24 z24 st24 hQ24
  rw [l24, y24, z24] at X24
  obtain ⟨rfl, N24q, e24⟩ := hQ24
  have N24 := Fr.app N19 N24q
  have go25 := go23.st T24 (mkF m 201 #[vR o0, vI p1, vR o2, vI ((19 : Int32)), vI ((19 : Int32)), vI i0, vJ qv, sc, uu, uu] [(sJ (pr + qv)), sR o0]) (fun t k => by
    refine st24 _ ?_
    exact k)
  obtain ⟨T26, h26, X26, e26, W26, st26⟩ := putF X24 hx hZ hown (host := "") (Or.inl (wD hw 175 rfl)) Via.refl e24 F_present_o0 E_o0 (Or.inl (wD hw 176 rfl)) (wD hw 61 rfl) (ty := .long) (by decide) rfl rfl (g := (mkF m 201 #[vR o0, vI p1, vR o2, vI ((19 : Int32)), vI ((19 : Int32)), vI i0, vJ qv, sc, uu, uu] [(sJ (pr + qv)), sR o0])) rfl rfl (hb hby d48_201)
  have f27 := Old.wr Ol W26 g_o0
  have f28 := E_o0.wr W26
  have f29 := Fld.other W26 F_units_o0 (Or.inr (slot_ne (Or.inl (wD hw 73 rfl)) (Or.inl (wD hw 176 rfl)) (by decide) (t := (.array .long)) (t' := .long) (by decide) (by decide)))
  have f30 := Fld.other W26 F_count_o0 (Or.inr (slot_ne (Or.inl (wD hw 183 rfl)) (Or.inl (wD hw 176 rfl)) (by decide) (t := .int) (t' := .long) (by decide) (by decide)))
  have f31 := Fld.other W26 F_scale_o0 (Or.inr (slot_ne (Or.inl (wD hw 151 rfl)) (Or.inl (wD hw 176 rfl)) (by decide) (t := .int) (t' := .long) (by decide) (by decide)))
  have f32 := Fld.same W26 F_present_o0
  have f33 := Fld.other W26 F_peak_o0 (Or.inr (slot_ne (Or.inl (wD hw 178 rfl)) (Or.inl (wD hw 176 rfl)) (by decide) (t := .long) (t' := .long) (by decide) (by decide)))
  have f34 := Arv.other V_un W26 (Ne.symm ne_o0_un)
  have Z26 : n0 ≤ h26.size := Nat.le_trans Z0 (Nat.le_of_eq W26.size.symm)
  have K26 := K0.wr W26 (Or.inl (List.mem_of_getElem? (i := 0) rfl))
  have N26 := Fr.snoc X26 N24 g_o0
  have go35 := go25.st T26 (mkF m 233 #[vR o0, vI p1, vR o2, vI ((19 : Int32)), vI ((19 : Int32)), vI i0, vJ qv, sc, uu, uu] [sR o0, sR o0]) (fun t k => by
    refine st26 _ ?_
    show SP p e below T26 (mkF m 204 #[vR o0, vI p1, vR o2, vI ((19 : Int32)), vI ((19 : Int32)), vI i0, vJ qv, sc, uu, uu] []) _
    refine XS.goto X26.here hx rfl (pc0 := 204) (pc' := 231) rfl (hb hby d48_204) (by decide) (by decide) ?_
    refine XS.aloadN X26.here hx rfl (hb hby d48_231) rfl rfl ?_
    refine XS.aloadN X26.here hx rfl (hb hby d48_232) rfl rfl ?_
    exact k)
  obtain ⟨T36, X36, e36, st36⟩ := getF X26 hx hZ hown (host := "") (Or.inl (wD hw 177 rfl)) Via.refl e26 f33 (g := (mkF m 233 #[vR o0, vI p1, vR o2, vI ((19 : Int32)), vI ((19 : Int32)), vI i0, vJ qv, sc, uu, uu] [sR o0, sR o0])) rfl rfl (hb hby d48_233)
  have go37 := go35.st T36 (mkF m 237 #[vR o0, vI p1, vR o2, vI ((19 : Int32)), vI ((19 : Int32)), vI i0, vJ qv, sc, uu, uu] [sR o0, sJ pk, sR o0]) (fun t k => by
    refine st36 _ ?_
    show SP p e below T36 (mkF m 236 #[vR o0, vI p1, vR o2, vI ((19 : Int32)), vI ((19 : Int32)), vI i0, vJ qv, sc, uu, uu] [sJ pk, sR o0]) _
    refine XS.aloadN X36.here hx rfl (hb hby d48_236) rfl rfl ?_
    exact k)
  obtain ⟨T38, X38, e38, st38⟩ := getF X36 hx hZ hown (host := "") (Or.inl (wD hw 175 rfl)) Via.refl e36 f32 (g := (mkF m 237 #[vR o0, vI p1, vR o2, vI ((19 : Int32)), vI ((19 : Int32)), vI i0, vJ qv, sc, uu, uu] [sR o0, sJ pk, sR o0])) rfl rfl (hb hby d48_237)
  have go39 := go37.st T38 (mkF m 240 #[vR o0, vI p1, vR o2, vI ((19 : Int32)), vI ((19 : Int32)), vI i0, vJ qv, sc, uu, uu] [(sJ (pr + qv)), sJ pk, sR o0]) (fun t k => by
    refine st38 _ ?_
    exact k)
  obtain ⟨_, _, ⟨T40, L40, k40, n40⟩, -, X40, ⟨Lc40, hQ40, l40, y40, z40⟩, st40⟩ := Jvm.LawKit.callS X38 hx (y := yN1) hown (mvT hZ (wD hw 179 rfl)) (mvT hZ (wD hw 180 rfl)) (mvT hZ (wD hw 3 rfl)) (mvT hZ (wD hw 181 rfl)) (by decide) (backOf (W := 1) (rm_maxJ l Z a0 hw [] pk (pr + qv) h26 n0 Z26 ) hZ (wD hw 181 rfl) (wD hw 3 rfl) (by decide) (by decide)) (g := (mkF m 240 #[vR o0, vI p1, vR o2, vI ((19 : Int32)), vI ((19 : Int32)), vI i0, vJ qv, sc, uu, uu] [(sJ (pr + qv)), sJ pk, sR o0])) rfl (by rw [hml]; rfl) (argsL := [(.long pk), (.long (pr + qv))]) (rest := [(.ref o0)]) (lenOf pd_rm_add0_5 rfl) rfl (by show 2 * 0 + _ ≤ _; exact Nat.le_of_eq rfl) (hb hby d48_240) (fun _ _ => ⟨rfl, e38, (by decide : 0 + 0 ≤ _), (by decide : 0 + 0 ≤ _)⟩)
  dsimp only [Pt.U, Pt.locs, Pt.cells, Pt.slots] at X40 l40 y40 z40 st40 hQ40
  rw [l40, y40, z40] at X40
  obtain ⟨rfl, N40q, e40⟩ := hQ40
  have N40 := Fr.app N26 N40q
  have go41 := go39.st T40 (mkF m 243 #[vR o0, vI p1, vR o2, vI ((19 : Int32)), vI ((19 : Int32)), vI i0, vJ qv, sc, uu, uu] [(sJ (own_maxL pk (pr + qv))), sR o0]) (fun t k => by
    refine st40 _ ?_
    exact k)
  obtain ⟨T42, h42, X42, e42, W42, st42⟩ := putF X40 hx hZ hown (host := "") (Or.inl (wD hw 177 rfl)) Via.refl e40 f33 f28 (Or.inl (wD hw 178 rfl)) (wD hw 61 rfl) (ty := .long) (by decide) rfl rfl (g := (mkF m 243 #[vR o0, vI p1, vR o2, vI ((19 : Int32)), vI ((19 : Int32)), vI i0, vJ qv, sc, uu, uu] [(sJ (own_maxL pk (pr + qv))), sR o0])) rfl rfl (hb hby d48_243)
  have f43 := Old.wr f27 W42 g_o0
  have f44 := f28.wr W42
  have f45 := Fld.other W42 f29 (Or.inr (slot_ne (Or.inl (wD hw 73 rfl)) (Or.inl (wD hw 178 rfl)) (by decide) (t := (.array .long)) (t' := .long) (by decide) (by decide)))
  have f46 := Fld.other W42 f30 (Or.inr (slot_ne (Or.inl (wD hw 183 rfl)) (Or.inl (wD hw 178 rfl)) (by decide) (t := .int) (t' := .long) (by decide) (by decide)))
  have f47 := Fld.other W42 f31 (Or.inr (slot_ne (Or.inl (wD hw 151 rfl)) (Or.inl (wD hw 178 rfl)) (by decide) (t := .int) (t' := .long) (by decide) (by decide)))
  have f48 := Fld.other W42 f32 (Or.inr (slot_ne (Or.inl (wD hw 176 rfl)) (Or.inl (wD hw 178 rfl)) (by decide) (t := .long) (t' := .long) (by decide) (by decide)))
  have f49 := Fld.same W42 f33
  have f50 := Arv.other f34 W42 (Ne.symm ne_o0_un)
  have Z42 : n0 ≤ h42.size := Nat.le_trans Z26 (Nat.le_of_eq W42.size.symm)
  have K42 := K26.wr W42 (Or.inl (List.mem_of_getElem? (i := 0) rfl))
  have N42 := Fr.snoc X42 N40 g_o0
  have go51 := go41.st T42 (mkF m 247 #[vR o0, vI p1, vR o2, vI ((19 : Int32)), vI ((19 : Int32)), vI i0, vJ qv, sc, uu, uu] [sR o0]) (fun t k => by
    refine st42 _ ?_
    show SP p e below T42 (mkF m 246 #[vR o0, vI p1, vR o2, vI ((19 : Int32)), vI ((19 : Int32)), vI i0, vJ qv, sc, uu, uu] []) _
    refine XS.aloadN X42.here hx rfl (hb hby d48_246) rfl rfl ?_
    exact k)
  obtain ⟨T52, X52, e52, st52⟩ := getF X42 hx hZ hown (host := "") (Or.inl (wD hw 182 rfl)) Via.refl e42 f46 (g := (mkF m 247 #[vR o0, vI p1, vR o2, vI ((19 : Int32)), vI ((19 : Int32)), vI i0, vJ qv, sc, uu, uu] [sR o0])) rfl rfl (hb hby d48_247)
  have go53 := go51.st T52 (mkF m 251 #[vR o0, vI p1, vR o2, vI ((19 : Int32)), vI ((19 : Int32)), vI i0, vJ qv, sc, uu, uu] [sR o0, sI i0]) (fun t k => by
    refine st52 _ ?_
    show SP p e below T52 (mkF m 250 #[vR o0, vI p1, vR o2, vI ((19 : Int32)), vI ((19 : Int32)), vI i0, vJ qv, sc, uu, uu] [sI i0]) _
    refine XS.aloadN X52.here hx rfl (hb hby d48_250) rfl rfl ?_
    exact k)
  obtain ⟨T54, X54, e54, st54⟩ := getF X52 hx hZ hown (host := "") (Or.inl (wD hw 72 rfl)) Via.refl e52 f45 (g := (mkF m 251 #[vR o0, vI p1, vR o2, vI ((19 : Int32)), vI ((19 : Int32)), vI i0, vJ qv, sc, uu, uu] [sR o0, sI i0])) rfl rfl (hb hby d48_251)
  have go55 := go53.st T54 (mkF m 254 #[vR o0, vI p1, vR o2, vI ((19 : Int32)), vI ((19 : Int32)), vI i0, vJ qv, sc, uu, uu] [sR un, sI i0]) (fun t k => by
    refine st54 _ ?_
    exact k)
  have Vo56 := f50
  obtain ⟨cl56, Ar56, qa56, Sa56, Na56, Ha56, Ga56⟩ := Vo56
  have go58 := go55.st T54 (mkF m 276 #[vR o0, vI p1, vR o2, vI ((19 : Int32)), vI ((19 : Int32)), vI i0, vJ qv, sc, uu, uu] [sR o0]) (fun t k => by
    refine X54.arraylength hx (by rw [e54]; exact Ar56.1) (State.isArrayOf_alike hZ.alike Ar56.2.1) (g := (mkF m 254 #[vR o0, vI p1, vR o2, vI ((19 : Int32)), vI ((19 : Int32)), vI i0, vJ qv, sc, uu, uu] [sR un, sI i0])) rfl rfl (hb hby d48_254) _ ?_
    rw [len_of Sa56 Na56]
    refine XS.icmpYes X54.here hx rfl (pc0 := 255) (pc' := 275) rfl (hb hby d48_255) rfl (feq ((by decide) : ¬ ((0 : Int32) = (1024 : Int32)))).2 (by decide) (by decide) ?_
    refine XS.aloadN X54.here hx rfl (hb hby d48_275) rfl rfl ?_
    exact k)
  obtain ⟨T59, X59, e59, st59⟩ := getF X54 hx hZ hown (host := "") (Or.inl (wD hw 72 rfl)) Via.refl e54 f45 (g := (mkF m 276 #[vR o0, vI p1, vR o2, vI ((19 : Int32)), vI ((19 : Int32)), vI i0, vJ qv, sc, uu, uu] [sR o0])) rfl rfl (hb hby d48_276)
  have go60 := go58.st T59 (mkF m 281 #[vR o0, vI p1, vR o2, vI ((19 : Int32)), vI ((19 : Int32)), vI i0, vJ qv, sc, uu, uu] [sR o0, sR o0, sR un]) (fun t k => by
    refine st59 _ ?_
    show SP p e below T59 (mkF m 279 #[vR o0, vI p1, vR o2, vI ((19 : Int32)), vI ((19 : Int32)), vI i0, vJ qv, sc, uu, uu] [sR un]) _
    refine XS.aloadN X59.here hx rfl (hb hby d48_279) rfl rfl ?_
    refine XS.dup X59.here hx rfl (hb hby d48_280) rfl rfl ?_
    exact k)
  obtain ⟨T61, X61, e61, st61⟩ := getF X59 hx hZ hown (host := "") (Or.inl (wD hw 182 rfl)) Via.refl e59 f46 (g := (mkF m 281 #[vR o0, vI p1, vR o2, vI ((19 : Int32)), vI ((19 : Int32)), vI i0, vJ qv, sc, uu, uu] [sR o0, sR o0, sR un])) rfl rfl (hb hby d48_281)
  have go62 := go60.st T61 (mkF m 287 #[vR o0, vI p1, vR o2, vI ((19 : Int32)), vI ((19 : Int32)), vI i0, vJ qv, sc, uu, uu] [sI i1, sR o0, sI i0, sR un]) (fun t k => by
    refine st61 _ ?_
    show SP p e below T61 (mkF m 284 #[vR o0, vI p1, vR o2, vI ((19 : Int32)), vI ((19 : Int32)), vI i0, vJ qv, sc, uu, uu] [sI i0, sR o0, sR un]) _
    refine XS.dupX1 X61.here hx rfl (hb hby d48_284) rfl rfl rfl ?_
    refine XS.iconst X61.here hx rfl (hb hby d48_285) ?_
    refine XS.iadd X61.here hx rfl (hb hby d48_286) rfl ?_
    exact k)
  obtain ⟨T63, h63, X63, e63, W63, st63⟩ := putF X61 hx hZ hown (host := "") (Or.inl (wD hw 182 rfl)) Via.refl e61 f46 f44 (Or.inl (wD hw 183 rfl)) (wD hw 61 rfl) (ty := .int) (by decide) rfl rfl (g := (mkF m 287 #[vR o0, vI p1, vR o2, vI ((19 : Int32)), vI ((19 : Int32)), vI i0, vJ qv, sc, uu, uu] [sI i1, sR o0, sI i0, sR un])) rfl rfl (hb hby d48_287)
  have f64 := Old.wr f43 W63 g_o0
  have f65 := f44.wr W63
  have f66 := Fld.other W63 f45 (Or.inr (slot_ne (Or.inl (wD hw 73 rfl)) (Or.inl (wD hw 183 rfl)) (by decide) (t := (.array .long)) (t' := .int) (by decide) (by decide)))
  have f67 := Fld.same W63 f46
  have f68 := Fld.other W63 f47 (Or.inr (slot_ne (Or.inl (wD hw 151 rfl)) (Or.inl (wD hw 183 rfl)) (by decide) (t := .int) (t' := .int) (by decide) (by decide)))
  have f69 := Fld.other W63 f48 (Or.inr (slot_ne (Or.inl (wD hw 176 rfl)) (Or.inl (wD hw 183 rfl)) (by decide) (t := .long) (t' := .int) (by decide) (by decide)))
  have f70 := Fld.other W63 f49 (Or.inr (slot_ne (Or.inl (wD hw 178 rfl)) (Or.inl (wD hw 183 rfl)) (by decide) (t := .long) (t' := .int) (by decide) (by decide)))
  have f71 := Arv.other f50 W63 (Ne.symm ne_o0_un)
  have Z63 : n0 ≤ h63.size := Nat.le_trans Z42 (Nat.le_of_eq W63.size.symm)
  have K63 := K42.wr W63 (Or.inl (List.mem_of_getElem? (i := 0) rfl))
  have N63 := Fr.snoc X63 N42 g_o0
  have go72 := go62.st T63 (mkF m 292 #[vR o0, vI p1, vR o2, vI ((19 : Int32)), vI ((19 : Int32)), vI i0, vJ qv, sc, uu, uu] [sJ qv, sI i0, sR un]) (fun t k => by
    refine st63 _ ?_
    show SP p e below T63 (mkF m 290 #[vR o0, vI p1, vR o2, vI ((19 : Int32)), vI ((19 : Int32)), vI i0, vJ qv, sc, uu, uu] [sI i0, sR un]) _
    refine XS.lload X63.here hx rfl (hb hby d48_290) rfl ?_
    exact k)
  have Vo73 := f71
  obtain ⟨cl73, Ar73, qa73, Sa73, Na73, Ha73, Ga73⟩ := Vo73
  have hin73 := inb_of (j := (0 : Int32)) Sa73 ⟨by decide, by decide⟩
  obtain ⟨T74, h74, X74, e74, W74, st74⟩ := stJ X63 hx hZ e63 Ar73 (j := (0 : Int32)) hin73 (g := (mkF m 292 #[vR o0, vI p1, vR o2, vI ((19 : Int32)), vI ((19 : Int32)), vI i0, vJ qv, sc, uu, uu] [sJ qv, sI i0, sR un])) rfl rfl (hb hby d48_292)
  have V74 : Arv Z h74 un ku .long (1024 : Int32) [(.long qv), (.long (0 : Int64)), (.long (0 : Int64))] (.long (0 : Int64)) := Arv.set Ar73 qa73 Sa73 Na73 Ha73 Ga73 rfl W74 0 rfl (Nat.le_of_ble_eq_true rfl)
  have f75 := Old.wr f64 W74 g_un
  have f76 := f65.wr W74
  have f77 := Fld.other W74 f66 (Or.inl ne_o0_un)
  have f78 := Fld.other W74 f67 (Or.inl ne_o0_un)
  have f79 := Fld.other W74 f68 (Or.inl ne_o0_un)
  have f80 := Fld.other W74 f69 (Or.inl ne_o0_un)
  have f81 := Fld.other W74 f70 (Or.inl ne_o0_un)
  have Z74 : n0 ≤ h74.size := Nat.le_trans Z63 (Nat.le_of_eq W74.size.symm)
  have K74 := K63.wr W74 (Or.inl (List.mem_of_getElem? (i := 1) rfl))
  have N74 := Fr.snoc X74 N63 g_un
  have go83 := go72.st T74 (mkF m 295 #[vR o0, vI p1, vR o2, vI ((19 : Int32)), vI ((19 : Int32)), vI i0, vJ qv, sc, uu, uu] [sJ qv]) (fun t k => by
    refine st74 _ ?_
    show SP p e below T74 (mkF m 293 #[vR o0, vI p1, vR o2, vI ((19 : Int32)), vI ((19 : Int32)), vI i0, vJ qv, sc, uu, uu] []) _
    refine XS.lload X74.here hx rfl (hb hby d48_293) rfl ?_
    exact k)
  obtain ⟨fs, hr, hrun, hended, hW, hsame⟩ := X74.leave (v := some (.long qv)) (fun h => by rw [Bd.returns] at h; cases h)
  refine ⟨_, _, go83 _ ?_, hrun, hended, _, _, rfl, ?_, ⟨_, rfl⟩, hW, hsame.mono (by decide) (by decide)⟩
  · exact own_retL X74 hx Bd.returns (hb hby d48_295) hr
  · show Q_rm_add0 Z o0 p1 o2 cs vf vb kb vs qv un ku pr pk pw kp ps h0 n0 _ T74.heap _
    rw [e74]
    exact ⟨rfl, N74, K74, f76, f77, f78, f79, f80, f81, V74⟩
theorem pn_rm_add1 : plainName "com/example/equipoise/equipoise/WeightFile$Builder" = true := by first | (simp [plainName, overriddenIn]; done) | decide +kernel
theorem pd_rm_add1_0 : parseMethodDescriptor "(Ljava/lang/String;)I" = some ⟨[(.object "java/lang/String")], some .int⟩ := by decide +kernel
theorem pd_rm_add1_1 : parseMethodDescriptor "()I" = some ⟨[], some .int⟩ := by decide +kernel
theorem pd_rm_add1_2 : parseMethodDescriptor "(II)I" = some ⟨[.int, .int], some .int⟩ := by decide +kernel
theorem pd_rm_add1_3 : parseMethodDescriptor "(Ljava/lang/String;II)J" = some ⟨[(.object "java/lang/String"), .int, .int], some .long⟩ := by decide +kernel
theorem pd_rm_add1_4 : parseMethodDescriptor "(I)J" = some ⟨[.int], some .long⟩ := by decide +kernel
theorem pd_rm_add1_5 : parseMethodDescriptor "(JJ)J" = some ⟨[.long, .long], some .long⟩ := by decide +kernel
theorem ef_rm_add1 (m : MethodId) (o0 : Addr) (p1 : Int32) (o2 : Addr) : entryFrame m #[(.ref o0), (.int p1), (.ref o2)] 10 = mkF m 0 #[.val (.ref o0), .val (.int p1), .val (.ref o2), uu, uu, uu, uu, uu, uu, uu] [] := by first | (simp [entryFrame, mkF, argsToLocals, Value.category]; done) | rfl
def Q_rm_add1 (Z : State) (o0 : Addr) (p1 : Int32) (o2 : Addr) (cs : Int32) (vf : Value) (vb : Addr) (kb : ClassId) (vs : List Value) (qv : Int64) (un : Addr) (ku : ClassId) (x0 : Int64) (pr : Int64) (pk : Int64) (pw : Addr) (kp : ClassId) (ps : List Value) (h0 : Heap) (n0 : Nat) (v : Option Value) (h : Heap) (L : List Loc) : Prop := v = some (.long qv) ∧ Fr n0 L ∧ Keep h0 h [o0, un] ∧ Exa Z h o0 "com/example/equipoise/equipoise/WeightFile$Builder" ∧ Fld Z h o0 "com/example/equipoise/equipoise/WeightFile$Builder" "units" "[J" (.ref un) ∧ Fld Z h o0 "com/example/equipoise/equipoise/WeightFile$Builder" "count" "I" (.int (2 : Int32)) ∧ Fld Z h o0 "com/example/equipoise/equipoise/WeightFile$Builder" "scale" "I" (.int (0 : Int32)) ∧ Fld Z h o0 "com/example/equipoise/equipoise/WeightFile$Builder" "present" "J" (.long (pr + qv)) ∧ Fld Z h o0 "com/example/equipoise/equipoise/WeightFile$Builder" "peak" "J" (.long (own_maxL pk (pr + qv))) ∧ Arv Z h un ku .long (1024 : Int32) [(.long x0), (.long qv), (.long (0 : Int64))] (.long (0 : Int64))
set_option maxRecDepth 65536 in
set_option maxHeartbeats 40000000 in
theorem rm_add1 (l : Launch) (Z : State) (a0 : Array Value) (hw : ∀ d ∈ tables_1, d.before a0 Z = true) (ws : List Jvm.Cond) (o0 : Addr) (p1 : Int32) (o2 : Addr) (cs : Int32) (vf : Value) (vb : Addr) (kb : ClassId) (vs : List Value) (qv : Int64) (un : Addr) (ku : ClassId) (x0 : Int64) (pr : Int64) (pk : Int64) (pw : Addr) (kp : ClassId) (ps : List Value) (h0 : Heap) (n0 : Nat) (Z0 : n0 ≤ h0.size) (Ol : Old Z n0 h0) (S_cs : Sta Z Z.heap "java/lang/String" "COMPACT_STRINGS" "Z" (.int cs)) (hcs : ¬ cs = (0 : Int32)) (S_sf : Sta Z Z.heap "jdk/internal/util/Preconditions" "SIOOBE_FORMATTER" "Ljava/util/function/BiFunction;" vf) (hvf : vf.isRef = true) (E_o2 : Exa Z h0 o2 "java/lang/String") (F_coder_o2 : Fld Z h0 o2 "java/lang/String" "coder" "B" (.int (0 : Int32))) (F_value_o2 : Fld Z h0 o2 "java/lang/String" "value" "[B" (.ref vb)) (V_vb : Arv Z h0 vb kb .byte (19 : Int32) vs (.int (0 : Int32))) (hv : own_Vs vs qv) (hq : 0 ≤ qv.toInt) (E_o0 : Exa Z h0 o0 "com/example/equipoise/equipoise/WeightFile$Builder") (F_units_o0 : Fld Z h0 o0 "com/example/equipoise/equipoise/WeightFile$Builder" "units" "[J" (.ref un)) (F_count_o0 : Fld Z h0 o0 "com/example/equipoise/equipoise/WeightFile$Builder" "count" "I" (.int (1 : Int32))) (F_scale_o0 : Fld Z h0 o0 "com/example/equipoise/equipoise/WeightFile$Builder" "scale" "I" (.int (0 : Int32))) (F_present_o0 : Fld Z h0 o0 "com/example/equipoise/equipoise/WeightFile$Builder" "present" "J" (.long pr)) (F_peak_o0 : Fld Z h0 o0 "com/example/equipoise/equipoise/WeightFile$Builder" "peak" "J" (.long pk)) (V_un : Arv Z h0 un ku .long (1024 : Int32) [(.long x0), (.long (0 : Int64)), (.long (0 : Int64))] (.long (0 : Int64))) (g_o0 : n0 ≤ o0) (g_un : n0 ≤ un) (ne_o0_un : o0 ≠ un) (S_pw : Sta Z Z.heap "com/example/equipoise/equipoise/WeightList" "POWERS_OF_TEN" "[J" (.ref pw)) (V_pw : Arv Z Z.heap pw kp .long (19 : Int32) ps (.long (0 : Int64))) (hps : ps.getD 0 (.long (0 : Int64)) = .long (1 : Int64)) (ho : 0 ≤ pr.toInt ∧ pr.toInt + qv.toInt ≤ 9223372036854775807) :
    MetFree l yN45 (head1 (Jvm.Cond.codeWith yN45 prog_88_method_3_code 10 (some .long) [(122, 204, 207, 105)] :: ws) ({ frames := 6, cells := 0, slots := 0, locals := 83 } : Room)) (fun a U => a = #[(.ref o0), (.int p1), (.ref o2)] ∧ Z.Warmed39 U.vm ∧ U.heap = h0) (fun _ _ _ _ _ => True) (fun _ U o U' => ∃ v L, o = .returned v ∧ Q_rm_add1 Z o0 p1 o2 cs vf vb kb vs qv un ku x0 pr pk pw kp ps h0 n0 v U'.heap L ∧ FrameEnd U o U' L ({ frames := 6, cells := 0, slots := 0, locals := 83 } : Room).cells ({ frames := 6, cells := 0, slots := 0, locals := 83 } : Room).slots) := by
  refine MetFree.of_bodySF (plainFor_of_name pn_rm_add1) hisWith ?_
  intro p e s m args below meth c s₁ Bd hml0 hP hK
  obtain ⟨rfl, hZ, hh⟩ := hP
  have hx := Bd.exec
  have hby := Bd.bytes
  have hml : c.maxLocals = 10 := hml0
  have hown : s.vm.findClass "com/example/equipoise/equipoise/WeightFile$Builder" = some m.cls := findClass_of_methodNamed Bd.named
  have hnm := (name_of_methodNamed Bd.named Bd.method).1
  have X0 : Stand p l e ({ frames := 6, cells := 0, slots := 0, locals := 83 } : Room) s m #[(.ref o0), (.int p1), (.ref o2)] below meth c s₁ [] 0 0 := Stand.of_body Bd
  have e0 : s₁.heap = h0 := by rw [← hh, Bd.state]; rfl
  have N0 := Fr.nil n0
  have K0 := Keep.refl h0 [o0, un]
  have go0 : Go p e below (s₁.setTop (entryFrame m #[(.ref o0), (.int p1), (.ref o2)] 10)) (s₁.setTop (mkF m 0 #[vR o0, vI p1, vR o2, uu, uu, uu, uu, uu, uu, uu] [])) := fun t k => castTop (ef_rm_add1 m o0 p1 o2) k
  have go1 := go0.st s₁ (mkF m 1 #[vR o0, vI p1, vR o2, uu, uu, uu, uu, uu, uu, uu] [sR o2]) (fun t k => by
    refine XS.aloadN X0.here hx rfl (hb hby d48_0) rfl rfl ?_
    exact k)
  obtain ⟨_, _, ⟨T2, L2, k2, n2⟩, -, X2, ⟨Lc2, hQ2, l2, y2, z2⟩, st2⟩ := Jvm.LawKit.callS X0 hx (y := yN28) hown (mvT hZ (wD hw 83 rfl)) (mvT hZ (wD hw 84 rfl)) (mvT hZ (wD hw 85 rfl)) (mvT hZ (wD hw 86 rfl)) (by decide) (backOf (W := 0) (rm_dp l Z a0 hw [] o2 cs vf vb kb vs qv h0 n0 Z0 Ol S_cs hcs S_sf hvf E_o2 F_coder_o2 F_value_o2 V_vb hv hq) hZ (wD hw 86 rfl) (wD hw 85 rfl) (by decide) (by decide)) (g := (mkF m 1 #[vR o0, vI p1, vR o2, uu, uu, uu, uu, uu, uu, uu] [sR o2])) rfl (by rw [hml]; rfl) (argsL := [(.ref o2)]) (rest := []) (lenOf pd_rm_add1_0 rfl) rfl (by show 2 * 0 + _ ≤ _; exact Nat.le_of_eq rfl) (hb hby d48_1) (fun _ _ => ⟨rfl, e0, (by decide : 0 + 0 ≤ _), (by decide : 0 + 0 ≤ _)⟩)
  dsimp only [Pt.U, Pt.locs, Pt.cells, Pt.slots] at X2 l2 y2 z2 st2 hQ2
  rw [l2, y2, z2] at X2
  obtain ⟨rfl, N2q, e2⟩ := hQ2
  have N2 := Fr.app N0 N2q
  have go4 := go1.st T2 (mkF m 78 #[vR o0, vI p1, vR o2, vI ((19 : Int32)), uu, uu, uu, uu, uu, uu] [sR o2]) (fun t k => by
    refine st2 _ ?_
    show SP p e below T2 (mkF m 4 #[vR o0, vI p1, vR o2, uu, uu, uu, uu, uu, uu, uu] [(sI (19 : Int32))]) _
    refine XS.istoreN X2.here hx rfl (hb hby d48_4) rfl (l' := #[vR o0, vI p1, vR o2, vI ((19 : Int32)), uu, uu, uu, uu, uu, uu]) rfl ?_
    refine XS.iloadN X2.here hx rfl (hb hby d48_5) rfl ?_
    refine XS.ifYes X2.here hx rfl (pc0 := 6) (pc' := 77) rfl (hb hby d48_6) rfl ((if0 _ _).trans (flt ((by decide) : ¬ ((19 : Int32) < (0 : Int32)))).2.1) (by decide) (by decide) ?_
    refine XS.aloadN X2.here hx rfl (hb hby d48_77) rfl rfl ?_
    exact k)
  obtain ⟨cq5, kq5, q5a, q5b, q5c⟩ := isOf hZ e2 E_o2
  obtain ⟨_, _, ⟨T5, L5, k5, n5⟩, -, X5, ⟨Lc5, hQ5, l5, y5, z5⟩, st5⟩ := X2.virtualBack hx (y := yN17) (z := yN17) hown (mvT hZ (wD hw 148 rfl)) (mvT hZ (wD hw 88 rfl)) (notFace_of_selects (args := #[]) (mvT hZ (wD hw 90 rfl))) (mvT hZ (wD hw 90 rfl)) (mvT hZ (wD hw 89 rfl)) (by decide) (backOf (W := 0) (rm_len l Z a0 hw [] o2 cs vb kb vs h0 n0 Z0 Ol S_cs hcs E_o2 F_coder_o2 F_value_o2 V_vb) hZ (wD hw 91 rfl) (wD hw 33 rfl) (by decide) (by decide)) q5a q5c (g := (mkF m 78 #[vR o0, vI p1, vR o2, vI ((19 : Int32)), uu, uu, uu, uu, uu, uu] [sR o2])) rfl (by rw [hml]; rfl) (Steps.refl _) (argsL := []) (rest := []) (lenOf pd_rm_add1_1 rfl) rfl (by show 2 * 0 + _ ≤ _; exact Nat.le_of_eq rfl) (hb hby d48_78) (fun _ _ => ⟨rfl, e2, (by decide : 0 + 0 ≤ _), (by decide : 0 + 0 ≤ _)⟩)
  dsimp only [Pt.U, Pt.locs, Pt.cells, Pt.slots] at X5 l5 y5 z5 st5 hQ5
  rw [l5, y5, z5] at X5
  obtain ⟨rfl, N5q, e5⟩ := hQ5
  have N5 := Fr.app N2 N5q
  have go7 := go4.st T5 (mkF m 117 #[vR o0, vI p1, vR o2, vI ((19 : Int32)), vI ((19 : Int32)), uu, uu, uu, uu, uu] [sI i0, (sI (-1 : Int32))]) (fun t k => by
    refine st5.trans ?_
    show SP p e below T5 (mkF m 81 #[vR o0, vI p1, vR o2, vI ((19 : Int32)), uu, uu, uu, uu, uu, uu] [(sI (19 : Int32))]) _
    refine XS.istore X5.here hx rfl (hb hby d48_81) rfl (l' := #[vR o0, vI p1, vR o2, vI ((19 : Int32)), vI ((19 : Int32)), uu, uu, uu, uu, uu]) rfl ?_
    refine XS.iload X5.here hx rfl (hb hby d48_83) rfl ?_
    refine XS.iloadN X5.here hx rfl (hb hby d48_85) rfl ?_
    refine XS.iconst X5.here hx rfl (hb hby d48_86) ?_
    refine XS.iadd X5.here hx rfl (hb hby d48_87) rfl ?_
    refine XS.icmpYes X5.here hx rfl (pc0 := 88) (pc' := 110) rfl (hb hby d48_88) rfl (flt ((by decide) : ¬ ((20 : Int32) < (19 : Int32)))).2.2.2 (by decide) (by decide) ?_
    refine XS.iload X5.here hx rfl (hb hby d48_110) rfl ?_
    refine XS.iloadN X5.here hx rfl (hb hby d48_112) rfl ?_
    refine XS.isub X5.here hx rfl (hb hby d48_113) rfl ?_
    show SP p e below T5 (mkF m 114 #[vR o0, vI p1, vR o2, vI ((19 : Int32)), vI ((19 : Int32)), uu, uu, uu, uu, uu] [sI i0]) _
    refine XS.iconst X5.here hx rfl (hb hby d48_114) ?_
    refine XS.isub X5.here hx rfl (hb hby d48_115) rfl ?_
    refine XS.iconst X5.here hx rfl (hb hby d48_116) ?_
    exact k)
  obtain ⟨_, _, ⟨T8, L8, k8, n8⟩, -, X8, ⟨Lc8, hQ8, l8, y8, z8⟩, st8⟩ := Jvm.LawKit.callS X5 hx (y := yN3) hown (mvT hZ (wD hw 149 rfl)) (mvT hZ (wD hw 121 rfl)) (mvT hZ (wD hw 3 rfl)) (mvT hZ (wD hw 122 rfl)) (by decide) (backOf (W := 0) (rm_maxm1 l Z a0 hw []  h0 n0 Z0 ) hZ (wD hw 122 rfl) (wD hw 3 rfl) (by decide) (by decide)) (g := (mkF m 117 #[vR o0, vI p1, vR o2, vI ((19 : Int32)), vI ((19 : Int32)), uu, uu, uu, uu, uu] [sI i0, (sI (-1 : Int32))])) rfl (by rw [hml]; rfl) (argsL := [(.int (-1 : Int32)), (.int (0 : Int32))]) (rest := []) (lenOf pd_rm_add1_2 rfl) rfl (by show 2 * 0 + _ ≤ _; exact Nat.le_of_eq rfl) (hb hby d48_117) (fun _ _ => ⟨rfl, e5, (by decide : 0 + 0 ≤ _), (by decide : 0 + 0 ≤ _)⟩)
  dsimp only [Pt.U, Pt.locs, Pt.cells, Pt.slots] at X8 l8 y8 z8 st8 hQ8
  rw [l8, y8, z8] at X8
  obtain ⟨rfl, N8q, e8⟩ := hQ8
  have N8 := Fr.app N5 N8q
  have go9 := go7.st T8 (mkF m 125 #[vR o0, vI p1, vR o2, vI ((19 : Int32)), vI ((19 : Int32)), vI i0, uu, uu, uu, uu] [sR o0, sI i0]) (fun t k => by
    refine st8 _ ?_
    show SP p e below T8 (mkF m 120 #[vR o0, vI p1, vR o2, vI ((19 : Int32)), vI ((19 : Int32)), uu, uu, uu, uu, uu] [sI i0]) _
    refine XS.istore X8.here hx rfl (hb hby d48_120) rfl (l' := #[vR o0, vI p1, vR o2, vI ((19 : Int32)), vI ((19 : Int32)), vI i0, uu, uu, uu, uu]) rfl ?_
    refine XS.iload X8.here hx rfl (hb hby d48_122) rfl ?_
    refine XS.aloadN X8.here hx rfl (hb hby d48_124) rfl rfl ?_
    exact k)
  obtain ⟨T10, X10, e10, st10⟩ := getF X8 hx hZ hown (host := "") (Or.inl (wD hw 150 rfl)) Via.refl e8 F_scale_o0 (g := (mkF m 125 #[vR o0, vI p1, vR o2, vI ((19 : Int32)), vI ((19 : Int32)), vI i0, uu, uu, uu, uu] [sR o0, sI i0])) rfl rfl (hb hby d48_125)
  have go12 := go9.st T10 (mkF m 140 #[vR o0, vI p1, vR o2, vI ((19 : Int32)), vI ((19 : Int32)), vI i0, uu, uu, uu, uu] [(sI (19 : Int32)), sI i0, sR o2]) (fun t k => by
    refine st10 _ ?_
    show SP p e below T10 (mkF m 128 #[vR o0, vI p1, vR o2, vI ((19 : Int32)), vI ((19 : Int32)), vI i0, uu, uu, uu, uu] [sI i0, sI i0]) _
    refine XS.icmpYes X10.here hx rfl (pc0 := 128) (pc' := 137) rfl (hb hby d48_128) rfl (flt ((by decide) : ¬ ((0 : Int32) < (0 : Int32)))).2.2.2 (by decide) (by decide) ?_
    refine XS.aloadN X10.here hx rfl (hb hby d48_137) rfl rfl ?_
    refine XS.iconst X10.here hx rfl (hb hby d48_138) ?_
    refine XS.iloadN X10.here hx rfl (hb hby d48_139) rfl ?_
    exact k)
  obtain ⟨_, _, ⟨T13, L13, k13, n13⟩, -, X13, ⟨Lc13, hQ13, l13, y13, z13⟩, st13⟩ := Jvm.LawKit.callS X10 hx (y := yN29) hown (mvT hZ (wD hw 152 rfl)) (mvT hZ (wD hw 153 rfl)) (mvT hZ (wD hw 62 rfl)) (mvT hZ (wD hw 154 rfl)) (by decide) (backOf (W := 0) (rm_dg l Z a0 hw [] o2 cs vf vb kb vs qv h0 n0 Z0 Ol S_cs hcs S_sf hvf E_o2 F_coder_o2 F_value_o2 V_vb hv hq) hZ (wD hw 154 rfl) (wD hw 62 rfl) (by decide) (by decide)) (g := (mkF m 140 #[vR o0, vI p1, vR o2, vI ((19 : Int32)), vI ((19 : Int32)), vI i0, uu, uu, uu, uu] [(sI (19 : Int32)), sI i0, sR o2])) rfl (by rw [hml]; rfl) (argsL := [(.ref o2), (.int (0 : Int32)), (.int (19 : Int32))]) (rest := []) (lenOf pd_rm_add1_3 rfl) rfl (by show 2 * 0 + _ ≤ _; exact Nat.le_of_eq rfl) (hb hby d48_140) (fun _ _ => ⟨rfl, e10, (by decide : 0 + 0 ≤ _), (by decide : 0 + 0 ≤ _)⟩)
  dsimp only [Pt.U, Pt.locs, Pt.cells, Pt.slots] at X13 l13 y13 z13 st13 hQ13
  rw [l13, y13, z13] at X13
  obtain ⟨rfl, N13q, e13⟩ := hQ13
  have N13 := Fr.app N8 N13q
  have go14 := go12.st T13 (mkF m 144 #[vR o0, vI p1, vR o2, vI ((19 : Int32)), vI ((19 : Int32)), vI i0, uu, uu, uu, uu] [sR o0, sJ qv]) (fun t k => by
    refine st13 _ ?_
    show SP p e below T13 (mkF m 143 #[vR o0, vI p1, vR o2, vI ((19 : Int32)), vI ((19 : Int32)), vI i0, uu, uu, uu, uu] [sJ qv]) _
    refine XS.aloadN X13.here hx rfl (hb hby d48_143) rfl rfl ?_
    exact k)
  obtain ⟨T15, X15, e15, st15⟩ := getF X13 hx hZ hown (host := "") (Or.inl (wD hw 150 rfl)) Via.refl e13 F_scale_o0 (g := (mkF m 144 #[vR o0, vI p1, vR o2, vI ((19 : Int32)), vI ((19 : Int32)), vI i0, uu, uu, uu, uu] [sR o0, sJ qv])) rfl rfl (hb hby d48_144)
  have go16 := go14.st T15 (mkF m 147 #[vR o0, vI p1, vR o2, vI ((19 : Int32)), vI ((19 : Int32)), vI i0, uu, uu, uu, uu] [sI i0, sJ qv]) (fun t k => by
    refine st15 _ ?_
    exact k)
  obtain ⟨_, _, ⟨T17, L17, k17, n17⟩, -, X17, ⟨Lc17, hQ17, l17, y17, z17⟩, st17⟩ := Jvm.LawKit.callS X15 hx (y := yN43) hown (mvT hZ (wD hw 168 rfl)) (mvT hZ (wD hw 169 rfl)) (mvT hZ (wD hw 170 rfl)) (mvT hZ (wD hw 171 rfl)) (by decide) (backOf (W := 2) (rm_pow l Z a0 hw [] pw kp ps h0 n0 Z0 Ol S_pw V_pw hps) hZ (wD hw 171 rfl) (wD hw 170 rfl) (by decide) (by decide)) (g := (mkF m 147 #[vR o0, vI p1, vR o2, vI ((19 : Int32)), vI ((19 : Int32)), vI i0, uu, uu, uu, uu] [sI i0, sJ qv])) rfl (by rw [hml]; rfl) (argsL := [(.int (0 : Int32))]) (rest := [(.long qv)]) (lenOf pd_rm_add1_4 rfl) rfl (by show 2 * 0 + _ ≤ _; exact Nat.le_of_eq rfl) (hb hby d48_147) (fun _ _ => ⟨rfl, e15, (by decide : 0 + 0 ≤ _), (by decide : 0 + 0 ≤ _)⟩)
  dsimp only [Pt.U, Pt.locs, Pt.cells, Pt.slots] at X17 l17 y17 z17 st17 hQ17
  rw [l17, y17, z17] at X17
  obtain ⟨rfl, N17q, e17⟩ := hQ17
  have N17 := Fr.app N13 N17q
  have go18 := go16.st T17 (mkF m 150 #[vR o0, vI p1, vR o2, vI ((19 : Int32)), vI ((19 : Int32)), vI i0, uu, uu, uu, uu] [(sJ (1 : Int64)), sJ qv]) (fun t k => by
    refine st17 _ ?_
    exact k)
  obtain ⟨_, _, ⟨T19, L19, k19, n19⟩, -, X19, ⟨Lc19, hQ19, l19, y19, z19⟩, st19⟩ := Jvm.LawKit.callS X17 hx (y := yN5) hown (mvT hZ (wD hw 174 rfl)) (mvT hZ (wD hw 159 rfl)) (mvT hZ (wD hw 3 rfl)) (mvT hZ (wD hw 160 rfl)) (by decide) (backOf (W := 0) (rm_mul1 l Z a0 hw [] qv h0 n0 Z0 (by rw [Int64.mul_one, Int64.div_one]) (own_nmin hq)) hZ (wD hw 160 rfl) (wD hw 3 rfl) (by decide) (by decide)) (g := (mkF m 150 #[vR o0, vI p1, vR o2, vI ((19 : Int32)), vI ((19 : Int32)), vI i0, uu, uu, uu, uu] [(sJ (1 : Int64)), sJ qv])) rfl (by rw [hml]; rfl) (argsL := [(.long qv), (.long (1 : Int64))]) (rest := []) (lenOf pd_rm_add1_5 rfl) rfl (by show 2 * 0 + _ ≤ _; exact Nat.le_of_eq rfl) (hb hby d48_150) (fun _ _ => ⟨rfl, e17, (by decide : 0 + 0 ≤ _), (by decide : 0 + 0 ≤ _)⟩)
  dsimp only [Pt.U, Pt.locs, Pt.cells, Pt.slots] at X19 l19 y19 z19 st19 hQ19
  rw [l19, y19, z19] at X19
  obtain ⟨rfl, N19q, e19⟩ := hQ19
  have N19 := Fr.app N17 N19q
  have go21 := go18.st T19 (mkF m 193 #[vR o0, vI p1, vR o2, vI ((19 : Int32)), vI ((19 : Int32)), vI i0, vJ qv, sc, uu, uu] [sR o0, sR o0]) (fun t k => by
    refine st19 _ ?_
    show SP p e below T19 (mkF m 153 #[vR o0, vI p1, vR o2, vI ((19 : Int32)), vI ((19 : Int32)), vI i0, uu, uu, uu, uu] [sJ qv]) _
    refine XS.lstore X19.here hx rfl (hb hby d48_153) rfl (l' := #[vR o0, vI p1, vR o2, vI ((19 : Int32)), vI ((19 : Int32)), vI i0, vJ qv, sc, uu, uu]) rfl ?_
    refine XS.iload X19.here hx rfl (hb hby d48_155) rfl ?_
    refine XS.ifYes X19.here hx rfl (pc0 := 157) (pc' := 191) rfl (hb hby d48_157) rfl ((if0 _ _).trans (flt ((by decide) : ¬ ((0 : Int32) < (0 : Int32)))).2.2.2) (by decide) (by decide) ?_
    refine XS.aloadN X19.here hx rfl (hb hby d48_191) rfl rfl ?_
    refine XS.aloadN X19.here hx rfl (hb hby d48_192) rfl rfl ?_
    exact k)
  obtain ⟨T22, X22, e22, st22⟩ := getF X19 hx hZ hown (host := "") (Or.inl (wD hw 175 rfl)) Via.refl e19 F_present_o0 (g := (mkF m 193 #[vR o0, vI p1, vR o2, vI ((19 : Int32)), vI ((19 : Int32)), vI i0, vJ qv, sc, uu, uu] [sR o0, sR o0])) rfl rfl (hb hby d48_193)
  have go23 := go21.st T22 (mkF m 198 #[vR o0, vI p1, vR o2, vI ((19 : Int32)), vI ((19 : Int32)), vI i0, vJ qv, sc, uu, uu] [sJ qv, sJ pr, sR o0]) (fun t k => by
    refine st22 _ ?_
    show SP p e below T22 (mkF m 196 #[vR o0, vI p1, vR o2, vI ((19 : Int32)), vI ((19 : Int32)), vI i0, vJ qv, sc, uu, uu] [sJ pr, sR o0]) _
    refine XS.lload X22.here hx rfl (hb hby d48_196) rfl ?_
    exact k)
  obtain ⟨_, _, ⟨T24, L24, k24, n24⟩, -, X24, ⟨Lc24, hQ24, l24, y24, z24⟩, st24⟩ := Jvm.LawKit.callS X22 hx (y := yN7) hown (mvT hZ (wD hw 165 rfl)) (mvT hZ (wD hw 166 rfl)) (mvT hZ (wD hw 3 rfl)) (mvT hZ (wD hw 167 rfl)) (by decide) (backOf (W := 1) (rm_addX l Z a0 hw [] pr qv h0 n0 Z0 (own_noov ho.1 hq ho.2).1) hZ (wD hw 167 rfl) (wD hw 3 rfl) (by decide) (by decide)) (g := (mkF m 198 #[vR o0, vI p1, vR o2, vI ((19 : Int32)), vI ((19 : Int32)), vI i0, vJ qv, sc, uu, uu] [sJ qv, sJ pr, sR o0])) rfl (by rw [hml]; rfl) (argsL := [(.long pr), (.long qv)]) (rest := [(.ref o0)]) (lenOf pd_rm_add1_5 rfl) rfl (by show 2 * 0 + _ ≤ _; exact Nat.le_of_eq rfl) (hb hby d48_198) (fun _ _ => ⟨rfl, e22, (by decide : 0 + 0 ≤ _), (by decide : 0 + 0 ≤ _)⟩)
  dsimp only [Pt.U, Pt.locs, Pt.cells, Pt.slots] at X24 l24 y24 z24 st24 hQ24
  rw [l24, y24, z24] at X24
  obtain ⟨rfl, N24q, e24⟩ := hQ24
  have N24 := Fr.app N19 N24q
  have go25 := go23.st T24 (mkF m 201 #[vR o0, vI p1, vR o2, vI ((19 : Int32)), vI ((19 : Int32)), vI i0, vJ qv, sc, uu, uu] [(sJ (pr + qv)), sR o0]) (fun t k => by
    refine st24 _ ?_
    exact k)
  obtain ⟨T26, h26, X26, e26, W26, st26⟩ := putF X24 hx hZ hown (host := "") (Or.inl (wD hw 175 rfl)) Via.refl e24 F_present_o0 E_o0 (Or.inl (wD hw 176 rfl)) (wD hw 61 rfl) (ty := .long) (by decide) rfl rfl (g := (mkF m 201 #[vR o0, vI p1, vR o2, vI ((19 : Int32)), vI ((19 : Int32)), vI i0, vJ qv, sc, uu, uu] [(sJ (pr + qv)), sR o0])) rfl rfl (hb hby d48_201)
  have f27 := Old.wr Ol W26 g_o0
  have f28 := E_o0.wr W26
  have f29 := Fld.other W26 F_units_o0 (Or.inr (slot_ne (Or.inl (wD hw 73 rfl)) (Or.inl (wD hw 176 rfl)) (by decide) (t := (.array .long)) (t' := .long) (by decide) (by decide)))
  have f30 := Fld.other W26 F_count_o0 (Or.inr (slot_ne (Or.inl (wD hw 183 rfl)) (Or.inl (wD hw 176 rfl)) (by decide) (t := .int) (t' := .long) (by decide) (by decide)))
  have f31 := Fld.other W26 F_scale_o0 (Or.inr (slot_ne (Or.inl (wD hw 151 rfl)) (Or.inl (wD hw 176 rfl)) (by decide) (t := .int) (t' := .long) (by decide) (by decide)))
  have f32 := Fld.same W26 F_present_o0
  have f33 := Fld.other W26 F_peak_o0 (Or.inr (slot_ne (Or.inl (wD hw 178 rfl)) (Or.inl (wD hw 176 rfl)) (by decide) (t := .long) (t' := .long) (by decide) (by decide)))
  have f34 := Arv.other V_un W26 (Ne.symm ne_o0_un)
  have Z26 : n0 ≤ h26.size := Nat.le_trans Z0 (Nat.le_of_eq W26.size.symm)
  have K26 := K0.wr W26 (Or.inl (List.mem_of_getElem? (i := 0) rfl))
  have N26 := Fr.snoc X26 N24 g_o0
  have go35 := go25.st T26 (mkF m 233 #[vR o0, vI p1, vR o2, vI ((19 : Int32)), vI ((19 : Int32)), vI i0, vJ qv, sc, uu, uu] [sR o0, sR o0]) (fun t k => by
    refine st26 _ ?_
    show SP p e below T26 (mkF m 204 #[vR o0, vI p1, vR o2, vI ((19 : Int32)), vI ((19 : Int32)), vI i0, vJ qv, sc, uu, uu] []) _
    refine XS.goto X26.here hx rfl (pc0 := 204) (pc' := 231) rfl (hb hby d48_204) (by decide) (by decide) ?_
    refine XS.aloadN X26.here hx rfl (hb hby d48_231) rfl rfl ?_
    refine XS.aloadN X26.here hx rfl (hb hby d48_232) rfl rfl ?_
    exact k)
  obtain ⟨T36, X36, e36, st36⟩ := getF X26 hx hZ hown (host := "") (Or.inl (wD hw 177 rfl)) Via.refl e26 f33 (g := (mkF m 233 #[vR o0, vI p1, vR o2, vI ((19 : Int32)), vI ((19 : Int32)), vI i0, vJ qv, sc, uu, uu] [sR o0, sR o0])) rfl rfl (hb hby d48_233)
  have go37 := go35.st T36 (mkF m 237 #[vR o0, vI p1, vR o2, vI ((19 : Int32)), vI ((19 : Int32)), vI i0, vJ qv, sc, uu, uu] [sR o0, sJ pk, sR o0]) (fun t k => by
    refine st36 _ ?_
    show SP p e below T36 (mkF m 236 #[vR o0, vI p1, vR o2, vI ((19 : Int32)), vI ((19 : Int32)), vI i0, vJ qv, sc, uu, uu] [sJ pk, sR o0]) _
    refine XS.aloadN X36.here hx rfl (hb hby d48_236) rfl rfl ?_
    exact k)
  obtain ⟨T38, X38, e38, st38⟩ := getF X36 hx hZ hown (host := "") (Or.inl (wD hw 175 rfl)) Via.refl e36 f32 (g := (mkF m 237 #[vR o0, vI p1, vR o2, vI ((19 : Int32)), vI ((19 : Int32)), vI i0, vJ qv, sc, uu, uu] [sR o0, sJ pk, sR o0])) rfl rfl (hb hby d48_237)
  have go39 := go37.st T38 (mkF m 240 #[vR o0, vI p1, vR o2, vI ((19 : Int32)), vI ((19 : Int32)), vI i0, vJ qv, sc, uu, uu] [(sJ (pr + qv)), sJ pk, sR o0]) (fun t k => by
    refine st38 _ ?_
    exact k)
  obtain ⟨_, _, ⟨T40, L40, k40, n40⟩, -, X40, ⟨Lc40, hQ40, l40, y40, z40⟩, st40⟩ := Jvm.LawKit.callS X38 hx (y := yN1) hown (mvT hZ (wD hw 179 rfl)) (mvT hZ (wD hw 180 rfl)) (mvT hZ (wD hw 3 rfl)) (mvT hZ (wD hw 181 rfl)) (by decide) (backOf (W := 1) (rm_maxJ l Z a0 hw [] pk (pr + qv) h26 n0 Z26 ) hZ (wD hw 181 rfl) (wD hw 3 rfl) (by decide) (by decide)) (g := (mkF m 240 #[vR o0, vI p1, vR o2, vI ((19 : Int32)), vI ((19 : Int32)), vI i0, vJ qv, sc, uu, uu] [(sJ (pr + qv)), sJ pk, sR o0])) rfl (by rw [hml]; rfl) (argsL := [(.long pk), (.long (pr + qv))]) (rest := [(.ref o0)]) (lenOf pd_rm_add1_5 rfl) rfl (by show 2 * 0 + _ ≤ _; exact Nat.le_of_eq rfl) (hb hby d48_240) (fun _ _ => ⟨rfl, e38, (by decide : 0 + 0 ≤ _), (by decide : 0 + 0 ≤ _)⟩)
  dsimp only [Pt.U, Pt.locs, Pt.cells, Pt.slots] at X40 l40 y40 z40 st40 hQ40
  rw [l40, y40, z40] at X40
  obtain ⟨rfl, N40q, e40⟩ := hQ40
  have N40 := Fr.app N26 N40q
  have go41 := go39.st T40 (mkF m 243 #[vR o0, vI p1, vR o2, vI ((19 : Int32)), vI ((19 : Int32)), vI i0, vJ qv, sc, uu, uu] [(sJ (own_maxL pk (pr + qv))), sR o0]) (fun t k => by
    refine st40 _ ?_
    exact k)
  obtain ⟨T42, h42, X42, e42, W42, st42⟩ := putF X40 hx hZ hown (host := "") (Or.inl (wD hw 177 rfl)) Via.refl e40 f33 f28 (Or.inl (wD hw 178 rfl)) (wD hw 61 rfl) (ty := .long) (by decide) rfl rfl (g := (mkF m 243 #[vR o0, vI p1, vR o2, vI ((19 : Int32)), vI ((19 : Int32)), vI i0, vJ qv, sc, uu, uu] [(sJ (own_maxL pk (pr + qv))), sR o0])) rfl rfl (hb hby d48_243)
  have f43 := Old.wr f27 W42 g_o0
  have f44 := f28.wr W42
  have f45 := Fld.other W42 f29 (Or.inr (slot_ne (Or.inl (wD hw 73 rfl)) (Or.inl (wD hw 178 rfl)) (by decide) (t := (.array .long)) (t' := .long) (by decide) (by decide)))
  have f46 := Fld.other W42 f30 (Or.inr (slot_ne (Or.inl (wD hw 183 rfl)) (Or.inl (wD hw 178 rfl)) (by decide) (t := .int) (t' := .long) (by decide) (by decide)))
  have f47 := Fld.other W42 f31 (Or.inr (slot_ne (Or.inl (wD hw 151 rfl)) (Or.inl (wD hw 178 rfl)) (by decide) (t := .int) (t' := .long) (by decide) (by decide)))
  have f48 := Fld.other W42 f32 (Or.inr (slot_ne (Or.inl (wD hw 176 rfl)) (Or.inl (wD hw 178 rfl)) (by decide) (t := .long) (t' := .long) (by decide) (by decide)))
  have f49 := Fld.same W42 f33
  have f50 := Arv.other f34 W42 (Ne.symm ne_o0_un)
  have Z42 : n0 ≤ h42.size := Nat.le_trans Z26 (Nat.le_of_eq W42.size.symm)
  have K42 := K26.wr W42 (Or.inl (List.mem_of_getElem? (i := 0) rfl))
  have N42 := Fr.snoc X42 N40 g_o0
  have go51 := go41.st T42 (mkF m 247 #[vR o0, vI p1, vR o2, vI ((19 : Int32)), vI ((19 : Int32)), vI i0, vJ qv, sc, uu, uu] [sR o0]) (fun t k => by
    refine st42 _ ?_
    show SP p e below T42 (mkF m 246 #[vR o0, vI p1, vR o2, vI ((19 : Int32)), vI ((19 : Int32)), vI i0, vJ qv, sc, uu, uu] []) _
    refine XS.aloadN X42.here hx rfl (hb hby d48_246) rfl rfl ?_
    exact k)
  obtain ⟨T52, X52, e52, st52⟩ := getF X42 hx hZ hown (host := "") (Or.inl (wD hw 182 rfl)) Via.refl e42 f46 (g := (mkF m 247 #[vR o0, vI p1, vR o2, vI ((19 : Int32)), vI ((19 : Int32)), vI i0, vJ qv, sc, uu, uu] [sR o0])) rfl rfl (hb hby d48_247)
  have go53 := go51.st T52 (mkF m 251 #[vR o0, vI p1, vR o2, vI ((19 : Int32)), vI ((19 : Int32)), vI i0, vJ qv, sc, uu, uu] [sR o0, sI i1]) (fun t k => by
    refine st52 _ ?_
    show SP p e below T52 (mkF m 250 #[vR o0, vI p1, vR o2, vI ((19 : Int32)), vI ((19 : Int32)), vI i0, vJ qv, sc, uu, uu] [sI i1]) _
    refine XS.aloadN X52.here hx rfl (hb hby d48_250) rfl rfl ?_
    exact k)
  obtain ⟨T54, X54, e54, st54⟩ := getF X52 hx hZ hown (host := "") (Or.inl (wD hw 72 rfl)) Via.refl e52 f45 (g := (mkF m 251 #[vR o0, vI p1, vR o2, vI ((19 : Int32)), vI ((19 : Int32)), vI i0, vJ qv, sc, uu, uu] [sR o0, sI i1])) rfl rfl (hb hby d48_251)
  have go55 := go53.st T54 (mkF m 254 #[vR o0, vI p1, vR o2, vI ((19 : Int32)), vI ((19 : Int32)), vI i0, vJ qv, sc, uu, uu] [sR un, sI i1]) (fun t k => by
    refine st54 _ ?_
    exact k)
  have Vo56 := f50
  obtain ⟨cl56, Ar56, qa56, Sa56, Na56, Ha56, Ga56⟩ := Vo56
  have go58 := go55.st T54 (mkF m 276 #[vR o0, vI p1, vR o2, vI ((19 : Int32)), vI ((19 : Int32)), vI i0, vJ qv, sc, uu, uu] [sR o0]) (fun t k => by
    refine X54.arraylength hx (by rw [e54]; exact Ar56.1) (State.isArrayOf_alike hZ.alike Ar56.2.1) (g := (mkF m 254 #[vR o0, vI p1, vR o2, vI ((19 : Int32)), vI ((19 : Int32)), vI i0, vJ qv, sc, uu, uu] [sR un, sI i1])) rfl rfl (hb hby d48_254) _ ?_
    rw [len_of Sa56 Na56]
    refine XS.icmpYes X54.here hx rfl (pc0 := 255) (pc' := 275) rfl (hb hby d48_255) rfl (feq ((by decide) : ¬ ((1 : Int32) = (1024 : Int32)))).2 (by decide) (by decide) ?_
    refine XS.aloadN X54.here hx rfl (hb hby d48_275) rfl rfl ?_
    exact k)
  obtain ⟨T59, X59, e59, st59⟩ := getF X54 hx hZ hown (host := "") (Or.inl (wD hw 72 rfl)) Via.refl e54 f45 (g := (mkF m 276 #[vR o0, vI p1, vR o2, vI ((19 : Int32)), vI ((19 : Int32)), vI i0, vJ qv, sc, uu, uu] [sR o0])) rfl rfl (hb hby d48_276)
  have go60 := go58.st T59 (mkF m 281 #[vR o0, vI p1, vR o2, vI ((19 : Int32)), vI ((19 : Int32)), vI i0, vJ qv, sc, uu, uu] [sR o0, sR o0, sR un]) (fun t k => by
    refine st59 _ ?_
    show SP p e below T59 (mkF m 279 #[vR o0, vI p1, vR o2, vI ((19 : Int32)), vI ((19 : Int32)), vI i0, vJ qv, sc, uu, uu] [sR un]) _
    refine XS.aloadN X59.here hx rfl (hb hby d48_279) rfl rfl ?_
    refine XS.dup X59.here hx rfl (hb hby d48_280) rfl rfl ?_
    exact k)
  obtain ⟨T61, X61, e61, st61⟩ := getF X59 hx hZ hown (host := "") (Or.inl (wD hw 182 rfl)) Via.refl e59 f46 (g := (mkF m 281 #[vR o0, vI p1, vR o2, vI ((19 : Int32)), vI ((19 : Int32)), vI i0, vJ qv, sc, uu, uu] [sR o0, sR o0, sR un])) rfl rfl (hb hby d48_281)
  have go62 := go60.st T61 (mkF m 287 #[vR o0, vI p1, vR o2, vI ((19 : Int32)), vI ((19 : Int32)), vI i0, vJ qv, sc, uu, uu] [sI i2, sR o0, sI i1, sR un]) (fun t k => by
    refine st61 _ ?_
    show SP p e below T61 (mkF m 284 #[vR o0, vI p1, vR o2, vI ((19 : Int32)), vI ((19 : Int32)), vI i0, vJ qv, sc, uu, uu] [sI i1, sR o0, sR un]) _
    refine XS.dupX1 X61.here hx rfl (hb hby d48_284) rfl rfl rfl ?_
    refine XS.iconst X61.here hx rfl (hb hby d48_285) ?_
    refine XS.iadd X61.here hx rfl (hb hby d48_286) rfl ?_
    exact k)
  obtain ⟨T63, h63, X63, e63, W63, st63⟩ := putF X61 hx hZ hown (host := "") (Or.inl (wD hw 182 rfl)) Via.refl e61 f46 f44 (Or.inl (wD hw 183 rfl)) (wD hw 61 rfl) (ty := .int) (by decide) rfl rfl (g := (mkF m 287 #[vR o0, vI p1, vR o2, vI ((19 : Int32)), vI ((19 : Int32)), vI i0, vJ qv, sc, uu, uu] [sI i2, sR o0, sI i1, sR un])) rfl rfl (hb hby d48_287)
  have f64 := Old.wr f43 W63 g_o0
  have f65 := f44.wr W63
  have f66 := Fld.other W63 f45 (Or.inr (slot_ne (Or.inl (wD hw 73 rfl)) (Or.inl (wD hw 183 rfl)) (by decide) (t := (.array .long)) (t' := .int) (by decide) (by decide)))
  have f67 := Fld.same W63 f46
  have f68 := Fld.other W63 f47 (Or.inr (slot_ne (Or.inl (wD hw 151 rfl)) (Or.inl (wD hw 183 rfl)) (by decide) (t := .int) (t' := .int) (by decide) (by decide)))
  have f69 := Fld.other W63 f48 (Or.inr (slot_ne (Or.inl (wD hw 176 rfl)) (Or.inl (wD hw 183 rfl)) (by decide) (t := .long) (t' := .int) (by decide) (by decide)))
  have f70 := Fld.other W63 f49 (Or.inr (slot_ne (Or.inl (wD hw 178 rfl)) (Or.inl (wD hw 183 rfl)) (by decide) (t := .long) (t' := .int) (by decide) (by decide)))
  have f71 := Arv.other f50 W63 (Ne.symm ne_o0_un)
  have Z63 : n0 ≤ h63.size := Nat.le_trans Z42 (Nat.le_of_eq W63.size.symm)
  have K63 := K42.wr W63 (Or.inl (List.mem_of_getElem? (i := 0) rfl))
  have N63 := Fr.snoc X63 N42 g_o0
  have go72 := go62.st T63 (mkF m 292 #[vR o0, vI p1, vR o2, vI ((19 : Int32)), vI ((19 : Int32)), vI i0, vJ qv, sc, uu, uu] [sJ qv, sI i1, sR un]) (fun t k => by
    refine st63 _ ?_
    show SP p e below T63 (mkF m 290 #[vR o0, vI p1, vR o2, vI ((19 : Int32)), vI ((19 : Int32)), vI i0, vJ qv, sc, uu, uu] [sI i1, sR un]) _
    refine XS.lload X63.here hx rfl (hb hby d48_290) rfl ?_
    exact k)
  have Vo73 := f71
  obtain ⟨cl73, Ar73, qa73, Sa73, Na73, Ha73, Ga73⟩ := Vo73
  have hin73 := inb_of (j := (1 : Int32)) Sa73 ⟨by decide, by decide⟩
  obtain ⟨T74, h74, X74, e74, W74, st74⟩ := stJ X63 hx hZ e63 Ar73 (j := (1 : Int32)) hin73 (g := (mkF m 292 #[vR o0, vI p1, vR o2, vI ((19 : Int32)), vI ((19 : Int32)), vI i0, vJ qv, sc, uu, uu] [sJ qv, sI i1, sR un])) rfl rfl (hb hby d48_292)
  have V74 : Arv Z h74 un ku .long (1024 : Int32) [(.long x0), (.long qv), (.long (0 : Int64))] (.long (0 : Int64)) := Arv.set Ar73 qa73 Sa73 Na73 Ha73 Ga73 rfl W74 1 rfl (Nat.le_of_ble_eq_true rfl)
  have f75 := Old.wr f64 W74 g_un
  have f76 := f65.wr W74
  have f77 := Fld.other W74 f66 (Or.inl ne_o0_un)
  have f78 := Fld.other W74 f67 (Or.inl ne_o0_un)
  have f79 := Fld.other W74 f68 (Or.inl ne_o0_un)
  have f80 := Fld.other W74 f69 (Or.inl ne_o0_un)
  have f81 := Fld.other W74 f70 (Or.inl ne_o0_un)
  have Z74 : n0 ≤ h74.size := Nat.le_trans Z63 (Nat.le_of_eq W74.size.symm)
  have K74 := K63.wr W74 (Or.inl (List.mem_of_getElem? (i := 1) rfl))
  have N74 := Fr.snoc X74 N63 g_un
  have go83 := go72.st T74 (mkF m 295 #[vR o0, vI p1, vR o2, vI ((19 : Int32)), vI ((19 : Int32)), vI i0, vJ qv, sc, uu, uu] [sJ qv]) (fun t k => by
    refine st74 _ ?_
    show SP p e below T74 (mkF m 293 #[vR o0, vI p1, vR o2, vI ((19 : Int32)), vI ((19 : Int32)), vI i0, vJ qv, sc, uu, uu] []) _
    refine XS.lload X74.here hx rfl (hb hby d48_293) rfl ?_
    exact k)
  obtain ⟨fs, hr, hrun, hended, hW, hsame⟩ := X74.leave (v := some (.long qv)) (fun h => by rw [Bd.returns] at h; cases h)
  refine ⟨_, _, go83 _ ?_, hrun, hended, _, _, rfl, ?_, ⟨_, rfl⟩, hW, hsame.mono (by decide) (by decide)⟩
  · exact own_retL X74 hx Bd.returns (hb hby d48_295) hr
  · show Q_rm_add1 Z o0 p1 o2 cs vf vb kb vs qv un ku x0 pr pk pw kp ps h0 n0 _ T74.heap _
    rw [e74]
    exact ⟨rfl, N74, K74, f76, f77, f78, f79, f80, f81, V74⟩
theorem pn_rm_add2 : plainName "com/example/equipoise/equipoise/WeightFile$Builder" = true := by first | (simp [plainName, overriddenIn]; done) | decide +kernel
theorem pd_rm_add2_0 : parseMethodDescriptor "(Ljava/lang/String;)I" = some ⟨[(.object "java/lang/String")], some .int⟩ := by decide +kernel
theorem pd_rm_add2_1 : parseMethodDescriptor "()I" = some ⟨[], some .int⟩ := by decide +kernel
theorem pd_rm_add2_2 : parseMethodDescriptor "(II)I" = some ⟨[.int, .int], some .int⟩ := by decide +kernel
theorem pd_rm_add2_3 : parseMethodDescriptor "(Ljava/lang/String;II)J" = some ⟨[(.object "java/lang/String"), .int, .int], some .long⟩ := by decide +kernel
theorem pd_rm_add2_4 : parseMethodDescriptor "(I)J" = some ⟨[.int], some .long⟩ := by decide +kernel
theorem pd_rm_add2_5 : parseMethodDescriptor "(JJ)J" = some ⟨[.long, .long], some .long⟩ := by decide +kernel
theorem ef_rm_add2 (m : MethodId) (o0 : Addr) (p1 : Int32) (o2 : Addr) : entryFrame m #[(.ref o0), (.int p1), (.ref o2)] 10 = mkF m 0 #[.val (.ref o0), .val (.int p1), .val (.ref o2), uu, uu, uu, uu, uu, uu, uu] [] := by first | (simp [entryFrame, mkF, argsToLocals, Value.category]; done) | rfl
def Q_rm_add2 (Z : State) (o0 : Addr) (p1 : Int32) (o2 : Addr) (cs : Int32) (vf : Value) (vb : Addr) (kb : ClassId) (vs : List Value) (qv : Int64) (un : Addr) (ku : ClassId) (x0 : Int64) (x1 : Int64) (pr : Int64) (pk : Int64) (pw : Addr) (kp : ClassId) (ps : List Value) (h0 : Heap) (n0 : Nat) (v : Option Value) (h : Heap) (L : List Loc) : Prop := v = some (.long qv) ∧ Fr n0 L ∧ Keep h0 h [o0, un] ∧ Exa Z h o0 "com/example/equipoise/equipoise/WeightFile$Builder" ∧ Fld Z h o0 "com/example/equipoise/equipoise/WeightFile$Builder" "units" "[J" (.ref un) ∧ Fld Z h o0 "com/example/equipoise/equipoise/WeightFile$Builder" "count" "I" (.int (3 : Int32)) ∧ Fld Z h o0 "com/example/equipoise/equipoise/WeightFile$Builder" "scale" "I" (.int (0 : Int32)) ∧ Fld Z h o0 "com/example/equipoise/equipoise/WeightFile$Builder" "present" "J" (.long (pr + qv)) ∧ Fld Z h o0 "com/example/equipoise/equipoise/WeightFile$Builder" "peak" "J" (.long (own_maxL pk (pr + qv))) ∧ Arv Z h un ku .long (1024 : Int32) [(.long x0), (.long x1), (.long qv)] (.long (0 : Int64))
set_option maxRecDepth 65536 in
set_option maxHeartbeats 40000000 in
theorem rm_add2 (l : Launch) (Z : State) (a0 : Array Value) (hw : ∀ d ∈ tables_1, d.before a0 Z = true) (ws : List Jvm.Cond) (o0 : Addr) (p1 : Int32) (o2 : Addr) (cs : Int32) (vf : Value) (vb : Addr) (kb : ClassId) (vs : List Value) (qv : Int64) (un : Addr) (ku : ClassId) (x0 : Int64) (x1 : Int64) (pr : Int64) (pk : Int64) (pw : Addr) (kp : ClassId) (ps : List Value) (h0 : Heap) (n0 : Nat) (Z0 : n0 ≤ h0.size) (Ol : Old Z n0 h0) (S_cs : Sta Z Z.heap "java/lang/String" "COMPACT_STRINGS" "Z" (.int cs)) (hcs : ¬ cs = (0 : Int32)) (S_sf : Sta Z Z.heap "jdk/internal/util/Preconditions" "SIOOBE_FORMATTER" "Ljava/util/function/BiFunction;" vf) (hvf : vf.isRef = true) (E_o2 : Exa Z h0 o2 "java/lang/String") (F_coder_o2 : Fld Z h0 o2 "java/lang/String" "coder" "B" (.int (0 : Int32))) (F_value_o2 : Fld Z h0 o2 "java/lang/String" "value" "[B" (.ref vb)) (V_vb : Arv Z h0 vb kb .byte (19 : Int32) vs (.int (0 : Int32))) (hv : own_Vs vs qv) (hq : 0 ≤ qv.toInt) (E_o0 : Exa Z h0 o0 "com/example/equipoise/equipoise/WeightFile$Builder") (F_units_o0 : Fld Z h0 o0 "com/example/equipoise/equipoise/WeightFile$Builder" "units" "[J" (.ref un)) (F_count_o0 : Fld Z h0 o0 "com/example/equipoise/equipoise/WeightFile$Builder" "count" "I" (.int (2 : Int32))) (F_scale_o0 : Fld Z h0 o0 "com/example/equipoise/equipoise/WeightFile$Builder" "scale" "I" (.int (0 : Int32))) (F_present_o0 : Fld Z h0 o0 "com/example/equipoise/equipoise/WeightFile$Builder" "present" "J" (.long pr)) (F_peak_o0 : Fld Z h0 o0 "com/example/equipoise/equipoise/WeightFile$Builder" "peak" "J" (.long pk)) (V_un : Arv Z h0 un ku .long (1024 : Int32) [(.long x0), (.long x1), (.long (0 : Int64))] (.long (0 : Int64))) (g_o0 : n0 ≤ o0) (g_un : n0 ≤ un) (ne_o0_un : o0 ≠ un) (S_pw : Sta Z Z.heap "com/example/equipoise/equipoise/WeightList" "POWERS_OF_TEN" "[J" (.ref pw)) (V_pw : Arv Z Z.heap pw kp .long (19 : Int32) ps (.long (0 : Int64))) (hps : ps.getD 0 (.long (0 : Int64)) = .long (1 : Int64)) (ho : 0 ≤ pr.toInt ∧ pr.toInt + qv.toInt ≤ 9223372036854775807) :
    MetFree l yN45 (head1 (Jvm.Cond.codeWith yN45 prog_88_method_3_code 10 (some .long) [(122, 204, 207, 105)] :: ws) ({ frames := 6, cells := 0, slots := 0, locals := 83 } : Room)) (fun a U => a = #[(.ref o0), (.int p1), (.ref o2)] ∧ Z.Warmed39 U.vm ∧ U.heap = h0) (fun _ _ _ _ _ => True) (fun _ U o U' => ∃ v L, o = .returned v ∧ Q_rm_add2 Z o0 p1 o2 cs vf vb kb vs qv un ku x0 x1 pr pk pw kp ps h0 n0 v U'.heap L ∧ FrameEnd U o U' L ({ frames := 6, cells := 0, slots := 0, locals := 83 } : Room).cells ({ frames := 6, cells := 0, slots := 0, locals := 83 } : Room).slots) := by
  refine MetFree.of_bodySF (plainFor_of_name pn_rm_add2) hisWith ?_
  intro p e s m args below meth c s₁ Bd hml0 hP hK
  obtain ⟨rfl, hZ, hh⟩ := hP
  have hx := Bd.exec
  have hby := Bd.bytes
  have hml : c.maxLocals = 10 := hml0
  have hown : s.vm.findClass "com/example/equipoise/equipoise/WeightFile$Builder" = some m.cls := findClass_of_methodNamed Bd.named
  have hnm := (name_of_methodNamed Bd.named Bd.method).1
  have X0 : Stand p l e ({ frames := 6, cells := 0, slots := 0, locals := 83 } : Room) s m #[(.ref o0), (.int p1), (.ref o2)] below meth c s₁ [] 0 0 := Stand.of_body Bd
  have e0 : s₁.heap = h0 := by rw [← hh, Bd.state]; rfl
  have N0 := Fr.nil n0
  have K0 := Keep.refl h0 [o0, un]
  have go0 : Go p e below (s₁.setTop (entryFrame m #[(.ref o0), (.int p1), (.ref o2)] 10)) (s₁.setTop (mkF m 0 #[vR o0, vI p1, vR o2, uu, uu, uu, uu, uu, uu, uu] [])) := fun t k => castTop (ef_rm_add2 m o0 p1 o2) k
  have go1 := go0.st s₁ (mkF m 1 #[vR o0, vI p1, vR o2, uu, uu, uu, uu, uu, uu, uu] [sR o2]) (fun t k => by
    refine XS.aloadN X0.here hx rfl (hb hby d48_0) rfl rfl ?_
    exact k)
  obtain ⟨_, _, ⟨T2, L2, k2, n2⟩, -, X2, ⟨Lc2, hQ2, l2, y2, z2⟩, st2⟩ := Jvm.LawKit.callS X0 hx (y := yN28) hown (mvT hZ (wD hw 83 rfl)) (mvT hZ (wD hw 84 rfl)) (mvT hZ (wD hw 85 rfl)) (mvT hZ (wD hw 86 rfl)) (by decide) (backOf (W := 0) (rm_dp l Z a0 hw [] o2 cs vf vb kb vs qv h0 n0 Z0 Ol S_cs hcs S_sf hvf E_o2 F_coder_o2 F_value_o2 V_vb hv hq) hZ (wD hw 86 rfl) (wD hw 85 rfl) (by decide) (by decide)) (g := (mkF m 1 #[vR o0, vI p1, vR o2, uu, uu, uu, uu, uu, uu, uu] [sR o2])) rfl (by rw [hml]; rfl) (argsL := [(.ref o2)]) (rest := []) (lenOf pd_rm_add2_0 rfl) rfl (by show 2 * 0 + _ ≤ _; exact Nat.le_of_eq rfl) (hb hby d48_1) (fun _ _ => ⟨rfl, e0, (by decide : 0 + 0 ≤ _), (by decide : 0 + 0 ≤ _)⟩)
  dsimp only [Pt.U, Pt.locs, Pt.cells, Pt.slots] at X2 l2 y2 z2 st2 hQ2
  rw [l2, y2, z2] at X2
  obtain ⟨rfl, N2q, e2⟩ := hQ2
  have N2 := Fr.app N0 N2q
  have go4 := go1.st T2 (mkF m 78 #[vR o0, vI p1, vR o2, vI ((19 : Int32)), uu, uu, uu, uu, uu, uu] [sR o2]) (fun t k => by
    refine st2 _ ?_
    show SP p e below T2 (mkF m 4 #[vR o0, vI p1, vR o2, uu, uu, uu, uu, uu, uu, uu] [(sI (19 : Int32))]) _
    refine XS.istoreN X2.here hx rfl (hb hby d48_4) rfl (l' := #[vR o0, vI p1, vR o2, vI ((19 : Int32)), uu, uu, uu, uu, uu, uu]) rfl ?_
    refine XS.iloadN X2.here hx rfl (hb hby d48_5) rfl ?_
    refine XS.ifYes X2.here hx rfl (pc0 := 6) (pc' := 77) rfl (hb hby d48_6) rfl ((if0 _ _).trans (flt ((by decide) : ¬ ((19 : Int32) < (0 : Int32)))).2.1) (by decide) (by decide) ?_
    refine XS.aloadN X2.here hx rfl (hb hby d48_77) rfl rfl ?_
    exact k)
  obtain ⟨cq5, kq5, q5a, q5b, q5c⟩ := isOf hZ e2 E_o2
  obtain ⟨_, _, ⟨T5, L5, k5, n5⟩, -, X5, ⟨Lc5, hQ5, l5, y5, z5⟩, st5⟩ := X2.virtualBack hx (y := yN17) (z := yN17) hown (mvT hZ (wD hw 148 rfl)) (mvT hZ (wD hw 88 rfl)) (notFace_of_selects (args := #[]) (mvT hZ (wD hw 90 rfl))) (mvT hZ (wD hw 90 rfl)) (mvT hZ (wD hw 89 rfl)) (by decide) (backOf (W := 0) (rm_len l Z a0 hw [] o2 cs vb kb vs h0 n0 Z0 Ol S_cs hcs E_o2 F_coder_o2 F_value_o2 V_vb) hZ (wD hw 91 rfl) (wD hw 33 rfl) (by decide) (by decide)) q5a q5c (g := (mkF m 78 #[vR o0, vI p1, vR o2, vI ((19 : Int32)), uu, uu, uu, uu, uu, uu] [sR o2])) rfl (by rw [hml]; rfl) (Steps.refl _) (argsL := []) (rest := []) (lenOf pd_rm_add2_1 rfl) rfl (by show 2 * 0 + _ ≤ _; exact Nat.le_of_eq rfl) (hb hby d48_78) (fun _ _ => ⟨rfl, e2, (by decide : 0 + 0 ≤ _), (by decide : 0 + 0 ≤ _)⟩)
  dsimp only [Pt.U, Pt.locs, Pt.cells, Pt.slots] at X5 l5 y5 z5 st5 hQ5
  rw [l5, y5, z5] at X5
  obtain ⟨rfl, N5q, e5⟩ := hQ5
  have N5 := Fr.app N2 N5q
  have go7 := go4.st T5 (mkF m 117 #[vR o0, vI p1, vR o2, vI ((19 : Int32)), vI ((19 : Int32)), uu, uu, uu, uu, uu] [sI i0, (sI (-1 : Int32))]) (fun t k => by
    refine st5.trans ?_
    show SP p e below T5 (mkF m 81 #[vR o0, vI p1, vR o2, vI ((19 : Int32)), uu, uu, uu, uu, uu, uu] [(sI (19 : Int32))]) _
    refine XS.istore X5.here hx rfl (hb hby d48_81) rfl (l' := #[vR o0, vI p1, vR o2, vI ((19 : Int32)), vI ((19 : Int32)), uu, uu, uu, uu, uu]) rfl ?_
    refine XS.iload X5.here hx rfl (hb hby d48_83) rfl ?_
    refine XS.iloadN X5.here hx rfl (hb hby d48_85) rfl ?_
    refine XS.iconst X5.here hx rfl (hb hby d48_86) ?_
    refine XS.iadd X5.here hx rfl (hb hby d48_87) rfl ?_
    refine XS.icmpYes X5.here hx rfl (pc0 := 88) (pc' := 110) rfl (hb hby d48_88) rfl (flt ((by decide) : ¬ ((20 : Int32) < (19 : Int32)))).2.2.2 (by decide) (by decide) ?_
    refine XS.iload X5.here hx rfl (hb hby d48_110) rfl ?_
    refine XS.iloadN X5.here hx rfl (hb hby d48_112) rfl ?_
    refine XS.isub X5.here hx rfl (hb hby d48_113) rfl ?_
    show SP p e below T5 (mkF m 114 #[vR o0, vI p1, vR o2, vI ((19 : Int32)), vI ((19 : Int32)), uu, uu, uu, uu, uu] [sI i0]) _
    refine XS.iconst X5.here hx rfl (hb hby d48_114) ?_
    refine XS.isub X5.here hx rfl (hb hby d48_115) rfl ?_
    refine XS.iconst X5.here hx rfl (hb hby d48_116) ?_
    exact k)
  obtain ⟨_, _, ⟨T8, L8, k8, n8⟩, -, X8, ⟨Lc8, hQ8, l8, y8, z8⟩, st8⟩ := Jvm.LawKit.callS X5 hx (y := yN3) hown (mvT hZ (wD hw 149 rfl)) (mvT hZ (wD hw 121 rfl)) (mvT hZ (wD hw 3 rfl)) (mvT hZ (wD hw 122 rfl)) (by decide) (backOf (W := 0) (rm_maxm1 l Z a0 hw []  h0 n0 Z0 ) hZ (wD hw 122 rfl) (wD hw 3 rfl) (by decide) (by decide)) (g := (mkF m 117 #[vR o0, vI p1, vR o2, vI ((19 : Int32)), vI ((19 : Int32)), uu, uu, uu, uu, uu] [sI i0, (sI (-1 : Int32))])) rfl (by rw [hml]; rfl) (argsL := [(.int (-1 : Int32)), (.int (0 : Int32))]) (rest := []) (lenOf pd_rm_add2_2 rfl) rfl (by show 2 * 0 + _ ≤ _; exact Nat.le_of_eq rfl) (hb hby d48_117) (fun _ _ => ⟨rfl, e5, (by decide : 0 + 0 ≤ _), (by decide : 0 + 0 ≤ _)⟩)
  dsimp only [Pt.U, Pt.locs, Pt.cells, Pt.slots] at X8 l8 y8 z8 st8 hQ8
  rw [l8, y8, z8] at X8
  obtain ⟨rfl, N8q, e8⟩ := hQ8
  have N8 := Fr.app N5 N8q
  have go9 := go7.st T8 (mkF m 125 #[vR o0, vI p1, vR o2, vI ((19 : Int32)), vI ((19 : Int32)), vI i0, uu, uu, uu, uu] [sR o0, sI i0]) (fun t k => by
    refine st8 _ ?_
    show SP p e below T8 (mkF m 120 #[vR o0, vI p1, vR o2, vI ((19 : Int32)), vI ((19 : Int32)), uu, uu, uu, uu, uu] [sI i0]) _
    refine XS.istore X8.here hx rfl (hb hby d48_120) rfl (l' := #[vR o0, vI p1, vR o2, vI ((19 : Int32)), vI ((19 : Int32)), vI i0, uu, uu, uu, uu]) rfl ?_
    refine XS.iload X8.here hx rfl (hb hby d48_122) rfl ?_
    refine XS.aloadN X8.here hx rfl (hb hby d48_124) rfl rfl ?_
    exact k)
  obtain ⟨T10, X10, e10, st10⟩ := getF X8 hx hZ hown (host := "") (Or.inl (wD hw 150 rfl)) Via.refl e8 F_scale_o0 (g := (mkF m 125 #[vR o0, vI p1, vR o2, vI ((19 : Int32)), vI ((19 : Int32)), vI i0, uu, uu, uu, uu] [sR o0, sI i0])) rfl rfl (hb hby d48_125)
  have go12 := go9.st T10 (mkF m 140 #[vR o0, vI p1, vR o2, vI ((19 : Int32)), vI ((19 : Int32)), vI i0, uu, uu, uu, uu] [(sI (19 : Int32)), sI i0, sR o2]) (fun t k => by
    refine st10 _ ?_
    show SP p e below T10 (mkF m 128 #[vR o0, vI p1, vR o2, vI ((19 : Int32)), vI ((19 : Int32)), vI i0, uu, uu, uu, uu] [sI i0, sI i0]) _
    refine XS.icmpYes X10.here hx rfl (pc0 := 128) (pc' := 137) rfl (hb hby d48_128) rfl (flt ((by decide) : ¬ ((0 : Int32) < (0 : Int32)))).2.2.2 (by decide) (by decide) ?_
    refine XS.aloadN X10.here hx rfl (hb hby d48_137) rfl rfl ?_
    refine XS.iconst X10.here hx rfl (hb hby d48_138) ?_
    refine XS.iloadN X10.here hx rfl (hb hby d48_139) rfl ?_
    exact k)
  obtain ⟨_, _, ⟨T13, L13, k13, n13⟩, -, X13, ⟨Lc13, hQ13, l13, y13, z13⟩, st13⟩ := Jvm.LawKit.callS X10 hx (y := yN29) hown (mvT hZ (wD hw 152 rfl)) (mvT hZ (wD hw 153 rfl)) (mvT hZ (wD hw 62 rfl)) (mvT hZ (wD hw 154 rfl)) (by decide) (backOf (W := 0) (rm_dg l Z a0 hw [] o2 cs vf vb kb vs qv h0 n0 Z0 Ol S_cs hcs S_sf hvf E_o2 F_coder_o2 F_value_o2 V_vb hv hq) hZ (wD hw 154 rfl) (wD hw 62 rfl) (by decide) (by decide)) (g := (mkF m 140 #[vR o0, vI p1, vR o2, vI ((19 : Int32)), vI ((19 : Int32)), vI i0, uu, uu, uu, uu] [(sI (19 : Int32)), sI i0, sR o2])) rfl (by rw [hml]; rfl) (argsL := [(.ref o2), (.int (0 : Int32)), (.int (19 : Int32))]) (rest := []) (lenOf pd_rm_add2_3 rfl) rfl (by show 2 * 0 + _ ≤ _; exact Nat.le_of_eq rfl) (hb hby d48_140) (fun _ _ => ⟨rfl, e10, (by decide : 0 + 0 ≤ _), (by decide : 0 + 0 ≤ _)⟩)
  dsimp only [Pt.U, Pt.locs, Pt.cells, Pt.slots] at X13 l13 y13 z13 st13 hQ13
  rw [l13, y13, z13] at X13
  obtain ⟨rfl, N13q, e13⟩ := hQ13
  have N13 := Fr.app N8 N13q
  have go14 := go12.st T13 (mkF m 144 #[vR o0, vI p1, vR o2, vI ((19 : Int32)), vI ((19 : Int32)), vI i0, uu, uu, uu, uu] [sR o0, sJ qv]) (fun t k => by
    refine st13 _ ?_
    show SP p e below T13 (mkF m 143 #[vR o0, vI p1, vR o2, vI ((19 : Int32)), vI ((19 : Int32)), vI i0, uu, uu, uu, uu] [sJ qv]) _
    refine XS.aloadN X13.here hx rfl (hb hby d48_143) rfl rfl ?_
    exact k)
  obtain ⟨T15, X15, e15, st15⟩ := getF X13 hx hZ hown (host := "") (Or.inl (wD hw 150 rfl)) Via.refl e13 F_scale_o0 (g := (mkF m 144 #[vR o0, vI p1, vR o2, vI ((19 : Int32)), vI ((19 : Int32)), vI i0, uu, uu, uu, uu] [sR o0, sJ qv])) rfl rfl (hb hby d48_144)
  have go16 := go14.st T15 (mkF m 147 #[vR o0, vI p1, vR o2, vI ((19 : Int32)), vI ((19 : Int32)), vI i0, uu, uu, uu, uu] [sI i0, sJ qv]) (fun t k => by
    refine st15 _ ?_
    exact k)
  obtain ⟨_, _, ⟨T17, L17, k17, n17⟩, -, X17, ⟨Lc17, hQ17, l17, y17, z17⟩, st17⟩ := Jvm.LawKit.callS X15 hx (y := yN43) hown (mvT hZ (wD hw 168 rfl)) (mvT hZ (wD hw 169 rfl)) (mvT hZ (wD hw 170 rfl)) (mvT hZ (wD hw 171 rfl)) (by decide) (backOf (W := 2) (rm_pow l Z a0 hw [] pw kp ps h0 n0 Z0 Ol S_pw V_pw hps) hZ (wD hw 171 rfl) (wD hw 170 rfl) (by decide) (by decide)) (g := (mkF m 147 #[vR o0, vI p1, vR o2, vI ((19 : Int32)), vI ((19 : Int32)), vI i0, uu, uu, uu, uu] [sI i0, sJ qv])) rfl (by rw [hml]; rfl) (argsL := [(.int (0 : Int32))]) (rest := [(.long qv)]) (lenOf pd_rm_add2_4 rfl) rfl (by show 2 * 0 + _ ≤ _; exact Nat.le_of_eq rfl) (hb hby d48_147) (fun _ _ => ⟨rfl, e15, (by decide : 0 + 0 ≤ _), (by decide : 0 + 0 ≤ _)⟩)
  dsimp only [Pt.U, Pt.locs, Pt.cells, Pt.slots] at X17 l17 y17 z17 st17 hQ17
  rw [l17, y17, z17] at X17
  obtain ⟨rfl, N17q, e17⟩ := hQ17
  have N17 := Fr.app N13 N17q
  have go18 := go16.st T17 (mkF m 150 #[vR o0, vI p1, vR o2, vI ((19 : Int32)), vI ((19 : Int32)), vI i0, uu, uu, uu, uu] [(sJ (1 : Int64)), sJ qv]) (fun t k => by
    refine st17 _ ?_
    exact k)
  obtain ⟨_, _, ⟨T19, L19, k19, n19⟩, -, X19, ⟨Lc19, hQ19, l19, y19, z19⟩, st19⟩ := Jvm.LawKit.callS X17 hx (y := yN5) hown (mvT hZ (wD hw 174 rfl)) (mvT hZ (wD hw 159 rfl)) (mvT hZ (wD hw 3 rfl)) (mvT hZ (wD hw 160 rfl)) (by decide) (backOf (W := 0) (rm_mul1 l Z a0 hw [] qv h0 n0 Z0 (by rw [Int64.mul_one, Int64.div_one]) (own_nmin hq)) hZ (wD hw 160 rfl) (wD hw 3 rfl) (by decide) (by decide)) (g := (mkF m 150 #[vR o0, vI p1, vR o2, vI ((19 : Int32)), vI ((19 : Int32)), vI i0, uu, uu, uu, uu] [(sJ (1 : Int64)), sJ qv])) rfl (by rw [hml]; rfl) (argsL := [(.long qv), (.long (1 : Int64))]) (rest := []) (lenOf pd_rm_add2_5 rfl) rfl (by show 2 * 0 + _ ≤ _; exact Nat.le_of_eq rfl) (hb hby d48_150) (fun _ _ => ⟨rfl, e17, (by decide : 0 + 0 ≤ _), (by decide : 0 + 0 ≤ _)⟩)
  dsimp only [Pt.U, Pt.locs, Pt.cells, Pt.slots] at X19 l19 y19 z19 st19 hQ19
  rw [l19, y19, z19] at X19
  obtain ⟨rfl, N19q, e19⟩ := hQ19
  have N19 := Fr.app N17 N19q
  have go21 := go18.st T19 (mkF m 193 #[vR o0, vI p1, vR o2, vI ((19 : Int32)), vI ((19 : Int32)), vI i0, vJ qv, sc, uu, uu] [sR o0, sR o0]) (fun t k => by
    refine st19 _ ?_
    show SP p e below T19 (mkF m 153 #[vR o0, vI p1, vR o2, vI ((19 : Int32)), vI ((19 : Int32)), vI i0, uu, uu, uu, uu] [sJ qv]) _
    refine XS.lstore X19.here hx rfl (hb hby d48_153) rfl (l' := #[vR o0, vI p1, vR o2, vI ((19 : Int32)), vI ((19 : Int32)), vI i0, vJ qv, sc, uu, uu]) rfl ?_
    refine XS.iload X19.here hx rfl (hb hby d48_155) rfl ?_
    refine XS.ifYes X19.here hx rfl (pc0 := 157) (pc' := 191) rfl (hb hby d48_157) rfl ((if0 _ _).trans (flt ((by decide) : ¬ ((0 : Int32) < (0 : Int32)))).2.2.2) (by decide) (by decide) ?_
    refine XS.aloadN X19.here hx rfl (hb hby d48_191) rfl rfl ?_
    refine XS.aloadN X19.here hx rfl (hb hby d48_192) rfl rfl ?_
    exact k)
  obtain ⟨T22, X22, e22, st22⟩ := getF X19 hx hZ hown (host := "") (Or.inl (wD hw 175 rfl)) Via.refl e19 F_present_o0 (g := (mkF m 193 #[vR o0, vI p1, vR o2, vI ((19 : Int32)), vI ((19 : Int32)), vI i0, vJ qv, sc, uu, uu] [sR o0, sR o0])) rfl rfl (hb hby d48_193)
  have go23 := go21.st T22 (mkF m 198 #[vR o0, vI p1, vR o2, vI ((19 : Int32)), vI ((19 : Int32)), vI i0, vJ qv, sc, uu, uu] [sJ qv, sJ pr, sR o0]) (fun t k => by
    refine st22 _ ?_
    show SP p e below T22 (mkF m 196 #[vR o0, vI p1, vR o2, vI ((19 : Int32)), vI ((19 : Int32)), vI i0, vJ qv, sc, uu, uu] [sJ pr, sR o0]) _
    refine XS.lload X22.here hx rfl (hb hby d48_196) rfl ?_
    exact k)
  obtain ⟨_, _, ⟨T24, L24, k24, n24⟩, -, X24, ⟨Lc24, hQ24, l24, y24, z24⟩, st24⟩ := Jvm.LawKit.callS X22 hx (y := yN7) hown (mvT hZ (wD hw 165 rfl)) (mvT hZ (wD hw 166 rfl)) (mvT hZ (wD hw 3 rfl)) (mvT hZ (wD hw 167 rfl)) (by decide) (backOf (W := 1) (rm_addX l Z a0 hw [] pr qv h0 n0 Z0 (own_noov ho.1 hq ho.2).1) hZ (wD hw 167 rfl) (wD hw 3 rfl) (by decide) (by decide)) (g := (mkF m 198 #[vR o0, vI p1, vR o2, vI ((19 : Int32)), vI ((19 : Int32)), vI i0, vJ qv, sc, uu, uu] [sJ qv, sJ pr, sR o0])) rfl (by rw [hml]; rfl) (argsL := [(.long pr), (.long qv)]) (rest := [(.ref o0)]) (lenOf pd_rm_add2_5 rfl) rfl (by show 2 * 0 + _ ≤ _; exact Nat.le_of_eq rfl) (hb hby d48_198) (fun _ _ => ⟨rfl, e22, (by decide : 0 + 0 ≤ _), (by decide : 0 + 0 ≤ _)⟩)
  dsimp only [Pt.U, Pt.locs, Pt.cells, Pt.slots] at X24 l24 y24 z24 st24 hQ24
  rw [l24, y24, z24] at X24
  obtain ⟨rfl, N24q, e24⟩ := hQ24
  have N24 := Fr.app N19 N24q
  have go25 := go23.st T24 (mkF m 201 #[vR o0, vI p1, vR o2, vI ((19 : Int32)), vI ((19 : Int32)), vI i0, vJ qv, sc, uu, uu] [(sJ (pr + qv)), sR o0]) (fun t k => by
    refine st24 _ ?_
    exact k)
  obtain ⟨T26, h26, X26, e26, W26, st26⟩ := putF X24 hx hZ hown (host := "") (Or.inl (wD hw 175 rfl)) Via.refl e24 F_present_o0 E_o0 (Or.inl (wD hw 176 rfl)) (wD hw 61 rfl) (ty := .long) (by decide) rfl rfl (g := (mkF m 201 #[vR o0, vI p1, vR o2, vI ((19 : Int32)), vI ((19 : Int32)), vI i0, vJ qv, sc, uu, uu] [(sJ (pr + qv)), sR o0])) rfl rfl (hb hby d48_201)
  have f27 := Old.wr Ol W26 g_o0
  have f28 := E_o0.wr W26
  have f29 := Fld.other W26 F_units_o0 (Or.inr (slot_ne (Or.inl (wD hw 73 rfl)) (Or.inl (wD hw 176 rfl)) (by decide) (t := (.array .long)) (t' := .long) (by decide) (by decide)))
  have f30 := Fld.other W26 F_count_o0 (Or.inr (slot_ne (Or.inl (wD hw 183 rfl)) (Or.inl (wD hw 176 rfl)) (by decide) (t := .int) (t' := .long) (by decide) (by decide)))
  have f31 := Fld.other W26 F_scale_o0 (Or.inr (slot_ne (Or.inl (wD hw 151 rfl)) (Or.inl (wD hw 176 rfl)) (by decide) (t := .int) (t' := .long) (by decide) (by decide)))
  have f32 := Fld.same W26 F_present_o0
  have f33 := Fld.other W26 F_peak_o0 (Or.inr (slot_ne (Or.inl (wD hw 178 rfl)) (Or.inl (wD hw 176 rfl)) (by decide) (t := .long) (t' := .long) (by decide) (by decide)))
  have f34 := Arv.other V_un W26 (Ne.symm ne_o0_un)
  have Z26 : n0 ≤ h26.size := Nat.le_trans Z0 (Nat.le_of_eq W26.size.symm)
  have K26 := K0.wr W26 (Or.inl (List.mem_of_getElem? (i := 0) rfl))
  have N26 := Fr.snoc X26 N24 g_o0
  have go35 := go25.st T26 (mkF m 233 #[vR o0, vI p1, vR o2, vI ((19 : Int32)), vI ((19 : Int32)), vI i0, vJ qv, sc, uu, uu] [sR o0, sR o0]) (fun t k => by
    refine st26 _ ?_
    show SP p e below T26 (mkF m 204 #[vR o0, vI p1, vR o2, vI ((19 : Int32)), vI ((19 : Int32)), vI i0, vJ qv, sc, uu, uu] []) _
    refine XS.goto X26.here hx rfl (pc0 := 204) (pc' := 231) rfl (hb hby d48_204) (by decide) (by decide) ?_
    refine XS.aloadN X26.here hx rfl (hb hby d48_231) rfl rfl ?_
    refine XS.aloadN X26.here hx rfl (hb hby d48_232) rfl rfl ?_
    exact k)
  obtain ⟨T36, X36, e36, st36⟩ := getF X26 hx hZ hown (host := "") (Or.inl (wD hw 177 rfl)) Via.refl e26 f33 (g := (mkF m 233 #[vR o0, vI p1, vR o2, vI ((19 : Int32)), vI ((19 : Int32)), vI i0, vJ qv, sc, uu, uu] [sR o0, sR o0])) rfl rfl (hb hby d48_233)
  have go37 := go35.st T36 (mkF m 237 #[vR o0, vI p1, vR o2, vI ((19 : Int32)), vI ((19 : Int32)), vI i0, vJ qv, sc, uu, uu] [sR o0, sJ pk, sR o0]) (fun t k => by
    refine st36 _ ?_
    show SP p e below T36 (mkF m 236 #[vR o0, vI p1, vR o2, vI ((19 : Int32)), vI ((19 : Int32)), vI i0, vJ qv, sc, uu, uu] [sJ pk, sR o0]) _
    refine XS.aloadN X36.here hx rfl (hb hby d48_236) rfl rfl ?_
    exact k)
  obtain ⟨T38, X38, e38, st38⟩ := getF X36 hx hZ hown (host := "") (Or.inl (wD hw 175 rfl)) Via.refl e36 f32 (g := (mkF m 237 #[vR o0, vI p1, vR o2, vI ((19 : Int32)), vI ((19 : Int32)), vI i0, vJ qv, sc, uu, uu] [sR o0, sJ pk, sR o0])) rfl rfl (hb hby d48_237)
  have go39 := go37.st T38 (mkF m 240 #[vR o0, vI p1, vR o2, vI ((19 : Int32)), vI ((19 : Int32)), vI i0, vJ qv, sc, uu, uu] [(sJ (pr + qv)), sJ pk, sR o0]) (fun t k => by
    refine st38 _ ?_
    exact k)
  obtain ⟨_, _, ⟨T40, L40, k40, n40⟩, -, X40, ⟨Lc40, hQ40, l40, y40, z40⟩, st40⟩ := Jvm.LawKit.callS X38 hx (y := yN1) hown (mvT hZ (wD hw 179 rfl)) (mvT hZ (wD hw 180 rfl)) (mvT hZ (wD hw 3 rfl)) (mvT hZ (wD hw 181 rfl)) (by decide) (backOf (W := 1) (rm_maxJ l Z a0 hw [] pk (pr + qv) h26 n0 Z26 ) hZ (wD hw 181 rfl) (wD hw 3 rfl) (by decide) (by decide)) (g := (mkF m 240 #[vR o0, vI p1, vR o2, vI ((19 : Int32)), vI ((19 : Int32)), vI i0, vJ qv, sc, uu, uu] [(sJ (pr + qv)), sJ pk, sR o0])) rfl (by rw [hml]; rfl) (argsL := [(.long pk), (.long (pr + qv))]) (rest := [(.ref o0)]) (lenOf pd_rm_add2_5 rfl) rfl (by show 2 * 0 + _ ≤ _; exact Nat.le_of_eq rfl) (hb hby d48_240) (fun _ _ => ⟨rfl, e38, (by decide : 0 + 0 ≤ _), (by decide : 0 + 0 ≤ _)⟩)
  dsimp only [Pt.U, Pt.locs, Pt.cells, Pt.slots] at X40 l40 y40 z40 st40 hQ40
  rw [l40, y40, z40] at X40
  obtain ⟨rfl, N40q, e40⟩ := hQ40
  have N40 := Fr.app N26 N40q
  have go41 := go39.st T40 (mkF m 243 #[vR o0, vI p1, vR o2, vI ((19 : Int32)), vI ((19 : Int32)), vI i0, vJ qv, sc, uu, uu] [(sJ (own_maxL pk (pr + qv))), sR o0]) (fun t k => by
    refine st40 _ ?_
    exact k)
  obtain ⟨T42, h42, X42, e42, W42, st42⟩ := putF X40 hx hZ hown (host := "") (Or.inl (wD hw 177 rfl)) Via.refl e40 f33 f28 (Or.inl (wD hw 178 rfl)) (wD hw 61 rfl) (ty := .long) (by decide) rfl rfl (g := (mkF m 243 #[vR o0, vI p1, vR o2, vI ((19 : Int32)), vI ((19 : Int32)), vI i0, vJ qv, sc, uu, uu] [(sJ (own_maxL pk (pr + qv))), sR o0])) rfl rfl (hb hby d48_243)
  have f43 := Old.wr f27 W42 g_o0
  have f44 := f28.wr W42
  have f45 := Fld.other W42 f29 (Or.inr (slot_ne (Or.inl (wD hw 73 rfl)) (Or.inl (wD hw 178 rfl)) (by decide) (t := (.array .long)) (t' := .long) (by decide) (by decide)))
  have f46 := Fld.other W42 f30 (Or.inr (slot_ne (Or.inl (wD hw 183 rfl)) (Or.inl (wD hw 178 rfl)) (by decide) (t := .int) (t' := .long) (by decide) (by decide)))
  have f47 := Fld.other W42 f31 (Or.inr (slot_ne (Or.inl (wD hw 151 rfl)) (Or.inl (wD hw 178 rfl)) (by decide) (t := .int) (t' := .long) (by decide) (by decide)))
  have f48 := Fld.other W42 f32 (Or.inr (slot_ne (Or.inl (wD hw 176 rfl)) (Or.inl (wD hw 178 rfl)) (by decide) (t := .long) (t' := .long) (by decide) (by decide)))
  have f49 := Fld.same W42 f33
  have f50 := Arv.other f34 W42 (Ne.symm ne_o0_un)
  have Z42 : n0 ≤ h42.size := Nat.le_trans Z26 (Nat.le_of_eq W42.size.symm)
  have K42 := K26.wr W42 (Or.inl (List.mem_of_getElem? (i := 0) rfl))
  have N42 := Fr.snoc X42 N40 g_o0
  have go51 := go41.st T42 (mkF m 247 #[vR o0, vI p1, vR o2, vI ((19 : Int32)), vI ((19 : Int32)), vI i0, vJ qv, sc, uu, uu] [sR o0]) (fun t k => by
    refine st42 _ ?_
    show SP p e below T42 (mkF m 246 #[vR o0, vI p1, vR o2, vI ((19 : Int32)), vI ((19 : Int32)), vI i0, vJ qv, sc, uu, uu] []) _
    refine XS.aloadN X42.here hx rfl (hb hby d48_246) rfl rfl ?_
    exact k)
  obtain ⟨T52, X52, e52, st52⟩ := getF X42 hx hZ hown (host := "") (Or.inl (wD hw 182 rfl)) Via.refl e42 f46 (g := (mkF m 247 #[vR o0, vI p1, vR o2, vI ((19 : Int32)), vI ((19 : Int32)), vI i0, vJ qv, sc, uu, uu] [sR o0])) rfl rfl (hb hby d48_247)
  have go53 := go51.st T52 (mkF m 251 #[vR o0, vI p1, vR o2, vI ((19 : Int32)), vI ((19 : Int32)), vI i0, vJ qv, sc, uu, uu] [sR o0, sI i2]) (fun t k => by
    refine st52 _ ?_
    show SP p e below T52 (mkF m 250 #[vR o0, vI p1, vR o2, vI ((19 : Int32)), vI ((19 : Int32)), vI i0, vJ qv, sc, uu, uu] [sI i2]) _
    refine XS.aloadN X52.here hx rfl (hb hby d48_250) rfl rfl ?_
    exact k)
  obtain ⟨T54, X54, e54, st54⟩ := getF X52 hx hZ hown (host := "") (Or.inl (wD hw 72 rfl)) Via.refl e52 f45 (g := (mkF m 251 #[vR o0, vI p1, vR o2, vI ((19 : Int32)), vI ((19 : Int32)), vI i0, vJ qv, sc, uu, uu] [sR o0, sI i2])) rfl rfl (hb hby d48_251)
  have go55 := go53.st T54 (mkF m 254 #[vR o0, vI p1, vR o2, vI ((19 : Int32)), vI ((19 : Int32)), vI i0, vJ qv, sc, uu, uu] [sR un, sI i2]) (fun t k => by
    refine st54 _ ?_
    exact k)
  have Vo56 := f50
  obtain ⟨cl56, Ar56, qa56, Sa56, Na56, Ha56, Ga56⟩ := Vo56
  have go58 := go55.st T54 (mkF m 276 #[vR o0, vI p1, vR o2, vI ((19 : Int32)), vI ((19 : Int32)), vI i0, vJ qv, sc, uu, uu] [sR o0]) (fun t k => by
    refine X54.arraylength hx (by rw [e54]; exact Ar56.1) (State.isArrayOf_alike hZ.alike Ar56.2.1) (g := (mkF m 254 #[vR o0, vI p1, vR o2, vI ((19 : Int32)), vI ((19 : Int32)), vI i0, vJ qv, sc, uu, uu] [sR un, sI i2])) rfl rfl (hb hby d48_254) _ ?_
    rw [len_of Sa56 Na56]
    refine XS.icmpYes X54.here hx rfl (pc0 := 255) (pc' := 275) rfl (hb hby d48_255) rfl (feq ((by decide) : ¬ ((2 : Int32) = (1024 : Int32)))).2 (by decide) (by decide) ?_
    refine XS.aloadN X54.here hx rfl (hb hby d48_275) rfl rfl ?_
    exact k)
  obtain ⟨T59, X59, e59, st59⟩ := getF X54 hx hZ hown (host := "") (Or.inl (wD hw 72 rfl)) Via.refl e54 f45 (g := (mkF m 276 #[vR o0, vI p1, vR o2, vI ((19 : Int32)), vI ((19 : Int32)), vI i0, vJ qv, sc, uu, uu] [sR o0])) rfl rfl (hb hby d48_276)
  have go60 := go58.st T59 (mkF m 281 #[vR o0, vI p1, vR o2, vI ((19 : Int32)), vI ((19 : Int32)), vI i0, vJ qv, sc, uu, uu] [sR o0, sR o0, sR un]) (fun t k => by
    refine st59 _ ?_
    show SP p e below T59 (mkF m 279 #[vR o0, vI p1, vR o2, vI ((19 : Int32)), vI ((19 : Int32)), vI i0, vJ qv, sc, uu, uu] [sR un]) _
    refine XS.aloadN X59.here hx rfl (hb hby d48_279) rfl rfl ?_
    refine XS.dup X59.here hx rfl (hb hby d48_280) rfl rfl ?_
    exact k)
  obtain ⟨T61, X61, e61, st61⟩ := getF X59 hx hZ hown (host := "") (Or.inl (wD hw 182 rfl)) Via.refl e59 f46 (g := (mkF m 281 #[vR o0, vI p1, vR o2, vI ((19 : Int32)), vI ((19 : Int32)), vI i0, vJ qv, sc, uu, uu] [sR o0, sR o0, sR un])) rfl rfl (hb hby d48_281)
  have go62 := go60.st T61 (mkF m 287 #[vR o0, vI p1, vR o2, vI ((19 : Int32)), vI ((19 : Int32)), vI i0, vJ qv, sc, uu, uu] [(sI (3 : Int32)), sR o0, sI i2, sR un]) (fun t k => by
    refine st61 _ ?_
    show SP p e below T61 (mkF m 284 #[vR o0, vI p1, vR o2, vI ((19 : Int32)), vI ((19 : Int32)), vI i0, vJ qv, sc, uu, uu] [sI i2, sR o0, sR un]) _
    refine XS.dupX1 X61.here hx rfl (hb hby d48_284) rfl rfl rfl ?_
    refine XS.iconst X61.here hx rfl (hb hby d48_285) ?_
    refine XS.iadd X61.here hx rfl (hb hby d48_286) rfl ?_
    exact k)
  obtain ⟨T63, h63, X63, e63, W63, st63⟩ := putF X61 hx hZ hown (host := "") (Or.inl (wD hw 182 rfl)) Via.refl e61 f46 f44 (Or.inl (wD hw 183 rfl)) (wD hw 61 rfl) (ty := .int) (by decide) rfl rfl (g := (mkF m 287 #[vR o0, vI p1, vR o2, vI ((19 : Int32)), vI ((19 : Int32)), vI i0, vJ qv, sc, uu, uu] [(sI (3 : Int32)), sR o0, sI i2, sR un])) rfl rfl (hb hby d48_287)
  have f64 := Old.wr f43 W63 g_o0
  have f65 := f44.wr W63
  have f66 := Fld.other W63 f45 (Or.inr (slot_ne (Or.inl (wD hw 73 rfl)) (Or.inl (wD hw 183 rfl)) (by decide) (t := (.array .long)) (t' := .int) (by decide) (by decide)))
  have f67 := Fld.same W63 f46
  have f68 := Fld.other W63 f47 (Or.inr (slot_ne (Or.inl (wD hw 151 rfl)) (Or.inl (wD hw 183 rfl)) (by decide) (t := .int) (t' := .int) (by decide) (by decide)))
  have f69 := Fld.other W63 f48 (Or.inr (slot_ne (Or.inl (wD hw 176 rfl)) (Or.inl (wD hw 183 rfl)) (by decide) (t := .long) (t' := .int) (by decide) (by decide)))
  have f70 := Fld.other W63 f49 (Or.inr (slot_ne (Or.inl (wD hw 178 rfl)) (Or.inl (wD hw 183 rfl)) (by decide) (t := .long) (t' := .int) (by decide) (by decide)))
  have f71 := Arv.other f50 W63 (Ne.symm ne_o0_un)
  have Z63 : n0 ≤ h63.size := Nat.le_trans Z42 (Nat.le_of_eq W63.size.symm)
  have K63 := K42.wr W63 (Or.inl (List.mem_of_getElem? (i := 0) rfl))
  have N63 := Fr.snoc X63 N42 g_o0
  have go72 := go62.st T63 (mkF m 292 #[vR o0, vI p1, vR o2, vI ((19 : Int32)), vI ((19 : Int32)), vI i0, vJ qv, sc, uu, uu] [sJ qv, sI i2, sR un]) (fun t k => by
    refine st63 _ ?_
    show SP p e below T63 (mkF m 290 #[vR o0, vI p1, vR o2, vI ((19 : Int32)), vI ((19 : Int32)), vI i0, vJ qv, sc, uu, uu] [sI i2, sR un]) _
    refine XS.lload X63.here hx rfl (hb hby d48_290) rfl ?_
    exact k)
  have Vo73 := f71
  obtain ⟨cl73, Ar73, qa73, Sa73, Na73, Ha73, Ga73⟩ := Vo73
  have hin73 := inb_of (j := (2 : Int32)) Sa73 ⟨by decide, by decide⟩
  obtain ⟨T74, h74, X74, e74, W74, st74⟩ := stJ X63 hx hZ e63 Ar73 (j := (2 : Int32)) hin73 (g := (mkF m 292 #[vR o0, vI p1, vR o2, vI ((19 : Int32)), vI ((19 : Int32)), vI i0, vJ qv, sc, uu, uu] [sJ qv, sI i2, sR un])) rfl rfl (hb hby d48_292)
  have V74 : Arv Z h74 un ku .long (1024 : Int32) [(.long x0), (.long x1), (.long qv)] (.long (0 : Int64)) := Arv.set Ar73 qa73 Sa73 Na73 Ha73 Ga73 rfl W74 2 rfl (Nat.le_of_ble_eq_true rfl)
  have f75 := Old.wr f64 W74 g_un
  have f76 := f65.wr W74
  have f77 := Fld.other W74 f66 (Or.inl ne_o0_un)
  have f78 := Fld.other W74 f67 (Or.inl ne_o0_un)
  have f79 := Fld.other W74 f68 (Or.inl ne_o0_un)
  have f80 := Fld.other W74 f69 (Or.inl ne_o0_un)
  have f81 := Fld.other W74 f70 (Or.inl ne_o0_un)
  have Z74 : n0 ≤ h74.size := Nat.le_trans Z63 (Nat.le_of_eq W74.size.symm)
  have K74 := K63.wr W74 (Or.inl (List.mem_of_getElem? (i := 1) rfl))
  have N74 := Fr.snoc X74 N63 g_un
  have go83 := go72.st T74 (mkF m 295 #[vR o0, vI p1, vR o2, vI ((19 : Int32)), vI ((19 : Int32)), vI i0, vJ qv, sc, uu, uu] [sJ qv]) (fun t k => by
    refine st74 _ ?_
    show SP p e below T74 (mkF m 293 #[vR o0, vI p1, vR o2, vI ((19 : Int32)), vI ((19 : Int32)), vI i0, vJ qv, sc, uu, uu] []) _
    refine XS.lload X74.here hx rfl (hb hby d48_293) rfl ?_
    exact k)
  obtain ⟨fs, hr, hrun, hended, hW, hsame⟩ := X74.leave (v := some (.long qv)) (fun h => by rw [Bd.returns] at h; cases h)
  refine ⟨_, _, go83 _ ?_, hrun, hended, _, _, rfl, ?_, ⟨_, rfl⟩, hW, hsame.mono (by decide) (by decide)⟩
  · exact own_retL X74 hx Bd.returns (hb hby d48_295) hr
  · show Q_rm_add2 Z o0 p1 o2 cs vf vb kb vs qv un ku x0 x1 pr pk pw kp ps h0 n0 _ T74.heap _
    rw [e74]
    exact ⟨rfl, N74, K74, f76, f77, f78, f79, f80, f81, V74⟩
theorem d34_0 : decode prog_88_method_4_code 0 = .ok (.aload_n 0, 1) := by decide +kernel
theorem d34_1 : decode prog_88_method_4_code 1 = .ok (.dup, 1) := by decide +kernel
theorem d34_2 : decode prog_88_method_4_code 2 = .ok (.getfield 101, 3) := by decide +kernel
theorem d34_5 : decode prog_88_method_4_code 5 = .ok (.aload_n 0, 1) := by decide +kernel
theorem d34_6 : decode prog_88_method_4_code 6 = .ok (.getfield 14, 3) := by decide +kernel
theorem d34_9 : decode prog_88_method_4_code 9 = .ok (.iload_n 1, 1) := by decide +kernel
theorem d34_10 : decode prog_88_method_4_code 10 = .ok (.laload, 1) := by decide +kernel
theorem d34_11 : decode prog_88_method_4_code 11 = .ok (.lsub, 1) := by decide +kernel
theorem d34_12 : decode prog_88_method_4_code 12 = .ok (.putfield 101, 3) := by decide +kernel
theorem d34_15 : decode prog_88_method_4_code 15 = .ok (.return_, 1) := by decide +kernel
theorem pn_rm_dep : plainName "com/example/equipoise/equipoise/WeightFile$Builder" = true := by first | (simp [plainName, overriddenIn]; done) | decide +kernel
theorem ef_rm_dep (m : MethodId) (o0 : Addr) (p1 : Int32) : entryFrame m #[(.ref o0), (.int p1)] 2 = mkF m 0 #[.val (.ref o0), .val (.int p1)] [] := by first | (simp [entryFrame, mkF, argsToLocals, Value.category]; done) | rfl
def Q_rm_dep (Z : State) (o0 : Addr) (p1 : Int32) (un : Addr) (ku : ClassId) (x0 : Int64) (x1 : Int64) (pr : Int64) (pk : Int64) (wd : Int64) (h0 : Heap) (n0 : Nat) (v : Option Value) (h : Heap) (L : List Loc) : Prop := v = none ∧ Fr n0 L ∧ Keep h0 h [o0] ∧ Exa Z h o0 "com/example/equipoise/equipoise/WeightFile$Builder" ∧ Fld Z h o0 "com/example/equipoise/equipoise/WeightFile$Builder" "units" "[J" (.ref un) ∧ Fld Z h o0 "com/example/equipoise/equipoise/WeightFile$Builder" "count" "I" (.int (2 : Int32)) ∧ Fld Z h o0 "com/example/equipoise/equipoise/WeightFile$Builder" "scale" "I" (.int (0 : Int32)) ∧ Fld Z h o0 "com/example/equipoise/equipoise/WeightFile$Builder" "present" "J" (.long (pr - wd)) ∧ Fld Z h o0 "com/example/equipoise/equipoise/WeightFile$Builder" "peak" "J" (.long pk) ∧ Arv Z h un ku .long (1024 : Int32) [(.long x0), (.long x1), (.long (0 : Int64))] (.long (0 : Int64))
set_option maxRecDepth 65536 in
set_option maxHeartbeats 40000000 in
theorem rm_dep (l : Launch) (Z : State) (a0 : Array Value) (hw : ∀ d ∈ tables_1, d.before a0 Z = true) (ws : List Jvm.Cond) (o0 : Addr) (p1 : Int32) (un : Addr) (ku : ClassId) (x0 : Int64) (x1 : Int64) (pr : Int64) (pk : Int64) (wd : Int64) (h0 : Heap) (n0 : Nat) (Z0 : n0 ≤ h0.size) (E_o0 : Exa Z h0 o0 "com/example/equipoise/equipoise/WeightFile$Builder") (F_units_o0 : Fld Z h0 o0 "com/example/equipoise/equipoise/WeightFile$Builder" "units" "[J" (.ref un)) (F_present_o0 : Fld Z h0 o0 "com/example/equipoise/equipoise/WeightFile$Builder" "present" "J" (.long pr)) (F_count_o0 : Fld Z h0 o0 "com/example/equipoise/equipoise/WeightFile$Builder" "count" "I" (.int (2 : Int32))) (F_scale_o0 : Fld Z h0 o0 "com/example/equipoise/equipoise/WeightFile$Builder" "scale" "I" (.int (0 : Int32))) (F_peak_o0 : Fld Z h0 o0 "com/example/equipoise/equipoise/WeightFile$Builder" "peak" "J" (.long pk)) (V_un : Arv Z h0 un ku .long (1024 : Int32) [(.long x0), (.long x1), (.long (0 : Int64))] (.long (0 : Int64))) (g_o0 : n0 ≤ o0) (ne_o0_un : o0 ≠ un) (hin : ¬ p1 < (0 : Int32) ∧ p1 < (1024 : Int32)) (hget : List.getD [(Value.long x0), (Value.long x1), (Value.long (0 : Int64))] (p1).toNatClampNeg (Value.long (0 : Int64)) = .long wd) :
    MetFree l yN46 (head1 (Jvm.Cond.code yN46 prog_88_method_4_code 2 none :: ws) ({ frames := 0, cells := 0, slots := 0, locals := 0 } : Room)) (fun a U => a = #[(.ref o0), (.int p1)] ∧ Z.Warmed39 U.vm ∧ U.heap = h0) (fun _ _ _ _ _ => True) (fun _ U o U' => ∃ v L, o = .returned v ∧ Q_rm_dep Z o0 p1 un ku x0 x1 pr pk wd h0 n0 v U'.heap L ∧ FrameEnd U o U' L ({ frames := 0, cells := 0, slots := 0, locals := 0 } : Room).cells ({ frames := 0, cells := 0, slots := 0, locals := 0 } : Room).slots) := by
  refine MetFree.of_bodySF (plainFor_of_name pn_rm_dep) hisR ?_
  intro p e s m args below meth c s₁ Bd hml0 hP hK
  obtain ⟨rfl, hZ, hh⟩ := hP
  have hx := Bd.exec
  have hby := Bd.bytes
  have hml : c.maxLocals = 2 := hml0
  have hown : s.vm.findClass "com/example/equipoise/equipoise/WeightFile$Builder" = some m.cls := findClass_of_methodNamed Bd.named
  have hnm := (name_of_methodNamed Bd.named Bd.method).1
  have X0 : Stand p l e ({ frames := 0, cells := 0, slots := 0, locals := 0 } : Room) s m #[(.ref o0), (.int p1)] below meth c s₁ [] 0 0 := Stand.of_body Bd
  have e0 : s₁.heap = h0 := by rw [← hh, Bd.state]; rfl
  have N0 := Fr.nil n0
  have K0 := Keep.refl h0 [o0]
  have go0 : Go p e below (s₁.setTop (entryFrame m #[(.ref o0), (.int p1)] 2)) (s₁.setTop (mkF m 0 #[vR o0, vI p1] [])) := fun t k => castTop (ef_rm_dep m o0 p1) k
  have go1 := go0.st s₁ (mkF m 2 #[vR o0, vI p1] [sR o0, sR o0]) (fun t k => by
    refine XS.aloadN X0.here hx rfl (hb hby d34_0) rfl rfl ?_
    refine XS.dup X0.here hx rfl (hb hby d34_1) rfl rfl ?_
    exact k)
  obtain ⟨T2, X2, e2, st2⟩ := getF X0 hx hZ hown (host := "") (Or.inl (wD hw 175 rfl)) Via.refl e0 F_present_o0 (g := (mkF m 2 #[vR o0, vI p1] [sR o0, sR o0])) rfl rfl (hb hby d34_2)
  have go3 := go1.st T2 (mkF m 6 #[vR o0, vI p1] [sR o0, sJ pr, sR o0]) (fun t k => by
    refine st2 _ ?_
    show SP p e below T2 (mkF m 5 #[vR o0, vI p1] [sJ pr, sR o0]) _
    refine XS.aloadN X2.here hx rfl (hb hby d34_5) rfl rfl ?_
    exact k)
  obtain ⟨T4, X4, e4, st4⟩ := getF X2 hx hZ hown (host := "") (Or.inl (wD hw 72 rfl)) Via.refl e2 F_units_o0 (g := (mkF m 6 #[vR o0, vI p1] [sR o0, sJ pr, sR o0])) rfl rfl (hb hby d34_6)
  have go5 := go3.st T4 (mkF m 10 #[vR o0, vI p1] [sI p1, sR un, sJ pr, sR o0]) (fun t k => by
    refine st4 _ ?_
    show SP p e below T4 (mkF m 9 #[vR o0, vI p1] [sR un, sJ pr, sR o0]) _
    refine XS.iloadN X4.here hx rfl (hb hby d34_9) rfl ?_
    exact k)
  have Vo6 := V_un
  obtain ⟨cl6, Ar6, qa6, Sa6, Na6, Ha6, Ga6⟩ := Vo6
  have hin6 := inb_of (j := p1) Sa6 hin
  have hat6 : cl6.slots[(p1).toNatClampNeg]? = some (.long wd) := Has.at Ha6 hin6 hget
  have go7 := go5.st T4 (mkF m 12 #[vR o0, vI p1] [(sJ (pr - wd)), sR o0]) (fun t k => by
    refine X4.laload hx (j := p1) (v := (.long wd)) (by rw [e4]; exact Ar6.1) (State.isArrayOf_alike hZ.alike Ar6.2.1) Ar6.2.2 hin6 hat6 (g := (mkF m 10 #[vR o0, vI p1] [sI p1, sR un, sJ pr, sR o0])) rfl rfl (hb hby d34_10) _ ?_
    refine XS.lsub X4.here hx rfl (hb hby d34_11) rfl ?_
    exact k)
  obtain ⟨T8, h8, X8, e8, W8, st8⟩ := putF X4 hx hZ hown (host := "") (Or.inl (wD hw 175 rfl)) Via.refl e4 F_present_o0 E_o0 (Or.inl (wD hw 176 rfl)) (wD hw 61 rfl) (ty := .long) (by decide) rfl rfl (g := (mkF m 12 #[vR o0, vI p1] [(sJ (pr - wd)), sR o0])) rfl rfl (hb hby d34_12)
  have f9 := E_o0.wr W8
  have f10 := Fld.other W8 F_units_o0 (Or.inr (slot_ne (Or.inl (wD hw 73 rfl)) (Or.inl (wD hw 176 rfl)) (by decide) (t := (.array .long)) (t' := .long) (by decide) (by decide)))
  have f11 := Fld.same W8 F_present_o0
  have f12 := Fld.other W8 F_count_o0 (Or.inr (slot_ne (Or.inl (wD hw 183 rfl)) (Or.inl (wD hw 176 rfl)) (by decide) (t := .int) (t' := .long) (by decide) (by decide)))
  have f13 := Fld.other W8 F_scale_o0 (Or.inr (slot_ne (Or.inl (wD hw 151 rfl)) (Or.inl (wD hw 176 rfl)) (by decide) (t := .int) (t' := .long) (by decide) (by decide)))
  have f14 := Fld.other W8 F_peak_o0 (Or.inr (slot_ne (Or.inl (wD hw 178 rfl)) (Or.inl (wD hw 176 rfl)) (by decide) (t := .long) (t' := .long) (by decide) (by decide)))
  have f15 := Arv.other V_un W8 (Ne.symm ne_o0_un)
  have Z8 : n0 ≤ h8.size := Nat.le_trans Z0 (Nat.le_of_eq W8.size.symm)
  have K8 := K0.wr W8 (Or.inl (List.mem_of_getElem? (i := 0) rfl))
  have N8 := Fr.snoc X8 N0 g_o0
  have go16 := go7.st T8 (mkF m 15 #[vR o0, vI p1] []) (fun t k => by
    refine st8 _ ?_
    exact k)
  obtain ⟨fs, hr, hrun, hended, hW, hsame⟩ := X8.leave (v := none) (fun _ => rfl)
  refine ⟨_, _, go16 _ ?_, hrun, hended, _, _, rfl, ?_, ⟨_, rfl⟩, hW, hsame.mono (by decide) (by decide)⟩
  · exact X8.returnOut hx Bd.returns (hb hby d34_15) hr
  · show Q_rm_dep Z o0 p1 un ku x0 x1 pr pk wd h0 n0 _ T8.heap _
    rw [e8]
    exact ⟨rfl, N8, K8, f9, f10, f12, f13, f11, f14, f15⟩
def own_w (zi : Int32) (zf zg : Int64) : Int64 := if zi = (0 : Int32) then zf else zg
def own_H (zf zg zr zl : Int64) (zi : Int32) : Prop := 0 ≤ zf.toInt ∧ 0 ≤ zg.toInt ∧ zf.toInt + zg.toInt ≤ 9223372036854775807 ∧ ((zi = (0 : Int32) ∧ zr = zg) ∨ (zi = (1 : Int32) ∧ zr = zf)) ∧ zl.toInt = 9223372036854775807 - zr.toInt
theorem own_min {a b : Int64} (ha : 0 ≤ a.toInt) (hb : 0 ≤ b.toInt) : 0 ≤ (own_minL a b).toInt ∧ (own_minL a b).toInt ≤ b.toInt := by
  unfold own_minL
  by_cases h : b < a
  · rw [if_pos h]; omega
  · rw [if_neg h]; rw [Int64.lt_iff_toInt_lt] at h; omega
theorem own_pl {x y zb zs zf zg zr zl : Int64} {fl bf db zi : Int32} (hzb : zb = (x &&& (9223372036854775807 : Int64))) (hzs : zs = (own_minL (y &&& (9223372036854775807 : Int64)) ((9223372036854775807 : Int64) - zb)))
    (hbf : bf = (if (fl &&& (1 : Int32)) = (0 : Int32) then (0 : Int32) else (1 : Int32))) (hdb : db = (if (fl &&& (2 : Int32)) = (0 : Int32) then (0 : Int32) else (1 : Int32)))
    (hzf : zf = (if bf = (0 : Int32) then zs else zb)) (hzg : zg = (if bf = (0 : Int32) then zb else zs)) (hzi : zi = (if bf = db then (0 : Int32) else (1 : Int32))) (hzr : zr = (if db = (0 : Int32) then zb else zs)) (hzl : zl = ((9223372036854775807 : Int64) - zr)) : own_H zf zg zr zl zi := by
  have e63 : ((2 ^ 63 : Nat) : Int) = 9223372036854775808 := by decide
  have m1 := c_maskL x 9223372036854775807 63 (by decide) (by decide)
  have m2 := c_maskL y 9223372036854775807 63 (by decide) (by decide)
  rw [← hzb, e63] at m1
  rw [e63] at m2
  generalize (y &&& (9223372036854775807 : Int64)) = yy at *
  have b1 : 0 ≤ zb.toInt ∧ zb.toInt ≤ 9223372036854775807 := by omega
  have s1 := own_mx b1.1
  have s2 := own_min (a := yy) (b := (9223372036854775807 : Int64) - zb) (by omega) (by omega)
  rw [← hzs, s1] at s2
  clear m1 m2 hzs hzb
  have b2 : 0 ≤ zr.toInt := by rw [hzr]; split <;> omega
  have s3 := own_mx b2
  rw [← hzl] at s3
  clear hzl
  unfold own_H
  by_cases h1 : (fl &&& (1 : Int32)) = (0 : Int32)
  · rw [if_pos h1] at hbf; subst hbf
    rw [if_pos rfl] at hzf hzg
    by_cases h2 : (fl &&& (2 : Int32)) = (0 : Int32)
    · rw [if_pos h2] at hdb; subst hdb
      rw [if_pos rfl] at hzi hzr
      subst hzf hzg hzi hzr
      exact ⟨by omega, by omega, by omega, Or.inl ⟨rfl, rfl⟩, s3⟩
    · rw [if_neg h2] at hdb; subst hdb
      rw [if_neg (by decide)] at hzi hzr
      subst hzf hzg hzi hzr
      exact ⟨by omega, by omega, by omega, Or.inr ⟨rfl, rfl⟩, s3⟩
  · rw [if_neg h1] at hbf; subst hbf
    rw [if_neg (by decide)] at hzf hzg
    by_cases h2 : (fl &&& (2 : Int32)) = (0 : Int32)
    · rw [if_pos h2] at hdb; subst hdb
      rw [if_pos rfl] at hzr
      rw [if_neg (by decide)] at hzi
      subst hzf hzg hzi hzr
      exact ⟨by omega, by omega, by omega, Or.inr ⟨rfl, rfl⟩, s3⟩
    · rw [if_neg h2] at hdb; subst hdb
      rw [if_neg (by decide)] at hzr
      rw [if_pos rfl] at hzi
      subst hzf hzg hzi hzr
      exact ⟨by omega, by omega, by omega, Or.inl ⟨rfl, rfl⟩, s3⟩
theorem own_Hl {zf zg zr zl : Int64} {zi : Int32} (h : own_H zf zg zr zl zi) : 0 ≤ zl.toInt ∧ 0 ≤ zr.toInt ∧ zr.toInt ≤ zf.toInt + zg.toInt := by
  obtain ⟨h1, h2, h3, h4, h5⟩ := h
  rcases h4 with ⟨-, rfl⟩ | ⟨-, rfl⟩ <;> omega
theorem own_HS {zf zg zr zl : Int64} {zi : Int32} (h : own_H zf zg zr zl zi) : own_S zf zg zl := by
  have q := own_Hl h
  obtain ⟨h1, h2, h3, h4, h5⟩ := h
  exact ⟨h1, h2, q.1, h3, by omega⟩
theorem own_Hin {zf zg zr zl : Int64} {zi : Int32} (h : own_H zf zg zr zl zi) : ¬ zi < (0 : Int32) ∧ zi < (1024 : Int32) := by
  obtain ⟨h1, h2, h3, h4, h5⟩ := h
  rcases h4 with ⟨rfl, -⟩ | ⟨rfl, -⟩ <;> decide
theorem own_Hget {zf zg zr zl : Int64} {zi : Int32} (h : own_H zf zg zr zl zi) : List.getD [(Value.long zf), (Value.long zg), (Value.long (0 : Int64))] (zi).toNatClampNeg (Value.long (0 : Int64)) = .long (own_w zi zf zg) := by
  obtain ⟨h1, h2, h3, h4, h5⟩ := h
  rcases h4 with ⟨rfl, -⟩ | ⟨rfl, -⟩ <;> rfl
theorem own_Hp0 {zf zg zr zl : Int64} {zi : Int32} (h : own_H zf zg zr zl zi) : 0 ≤ (0 : Int64).toInt ∧ (0 : Int64).toInt + zf.toInt ≤ 9223372036854775807 := by
  have r := rng64 zf
  rw [show (0 : Int64).toInt = 0 from rfl]; omega
theorem own_Hp1 {zf zg zr zl : Int64} {zi : Int32} (h : own_H zf zg zr zl zi) : 0 ≤ ((0 : Int64) + zf).toInt ∧ ((0 : Int64) + zf).toInt + zg.toInt ≤ 9223372036854775807 := by
  rw [own_z0]; exact ⟨h.1, h.2.2.1⟩
theorem own_Hp2 {zf zg zr zl : Int64} {zi : Int32} (h : own_H zf zg zr zl zi) : 0 ≤ ((((0 : Int64) + zf) + zg) - (own_w zi zf zg)).toInt ∧ ((((0 : Int64) + zf) + zg) - (own_w zi zf zg)).toInt + zl.toInt ≤ 9223372036854775807 := by
  have s := own_sa (own_HS h)
  have q := c_lsub (((0 : Int64) + zf) + zg) (own_w zi zf zg)
  have r := rng64 ((((0 : Int64) + zf) + zg) - (own_w zi zf zg))
  have g := own_Hl h
  obtain ⟨h1, h2, h3, h4, h5⟩ := h
  rw [s] at q
  rcases h4 with ⟨hz, hr⟩ | ⟨hz, hr⟩
  · have e : own_w zi zf zg = zf := by rw [hz]; rfl
    have e2 := congrArg Int64.toInt hr
    rw [e] at q r ⊢; omega
  · have e : own_w zi zf zg = zg := by rw [hz]; rfl
    have e2 := congrArg Int64.toInt hr
    rw [e] at q r ⊢; omega
theorem own_atoms : ∀ a ∈ Bundle.stringAtoms, a ∈ tables_1 := by decide +kernel
theorem pn_rm0 : plainName "com/example/equipoise/equipoise/BuilderDepartPinLaw" = true := by first | (simp [plainName, overriddenIn]; done) | decide +kernel
theorem pd_rm0_0 : parseMethodDescriptor "(JJ)J" = some ⟨[.long, .long], some .long⟩ := by decide +kernel
theorem pd_rm0_1 : parseMethodDescriptor "(J)Ljava/lang/String;" = some ⟨[.long], some (.object "java/lang/String")⟩ := by decide +kernel
theorem pd_rm0_2 : parseMethodDescriptor "(Ljava/lang/String;Ljava/lang/String;)V" = some ⟨[(.object "java/lang/String"), (.object "java/lang/String")], none⟩ := by decide +kernel
theorem pd_rm0_3 : parseMethodDescriptor "(ILjava/lang/String;)J" = some ⟨[.int, (.object "java/lang/String")], some .long⟩ := by decide +kernel
theorem pd_rm0_4 : parseMethodDescriptor "(I)V" = some ⟨[.int], none⟩ := by decide +kernel
theorem pd_rm0_5 : parseMethodDescriptor "()Lcom/example/equipoise/equipoise/WeightList;" = some ⟨[], some (.object "com/example/equipoise/equipoise/WeightList")⟩ := by decide +kernel
theorem pd_rm0_6 : parseMethodDescriptor "()I" = some ⟨[], some .int⟩ := by decide +kernel
theorem pd_rm0_7 : parseMethodDescriptor "(I)J" = some ⟨[.int], some .long⟩ := by decide +kernel
theorem ef_rm0 (m : MethodId) (q0 : Int64) (q1 : Int64) (p2 : Int32) : entryFrame m #[(.long q0), (.long q1), (.int p2)] maxLocals = mkF m 0 #[.val (.long q0), .second, .val (.long q1), .second, .val (.int p2), uu, uu, uu, uu, uu, uu, uu, uu, uu, uu, uu, uu, uu, uu, uu, uu, uu, uu, uu, uu, uu, uu, uu, uu, uu, uu, uu, uu] [] := by first | (simp [entryFrame, mkF, argsToLocals, Value.category, maxLocals]; done) | rfl
def Q_rm0 (Z : State) (q0 : Int64) (q1 : Int64) (p2 : Int32) (cs : Int32) (vf : Value) (pw : Addr) (kp : ClassId) (ps : List Value) (zr : Addr) (h0 : Heap) (n0 : Nat) (v : Option Value) (h : Heap) (L : List Loc) : Prop := v = some (.int (1 : Int32)) ∧ Fr n0 L
set_option maxRecDepth 65536 in
set_option maxHeartbeats 40000000 in
theorem rm0 (l : Launch) (Z : State) (a0 : Array Value) (hw : ∀ d ∈ tables_1, d.before a0 Z = true) (ws : List Jvm.Cond) (q0 : Int64) (q1 : Int64) (p2 : Int32) (cs : Int32) (vf : Value) (pw : Addr) (kp : ClassId) (ps : List Value) (zr : Addr) (h0 : Heap) (n0 : Nat) (Z0 : n0 ≤ h0.size) (Ol : Old Z n0 h0) (S_cs : Sta Z Z.heap "java/lang/String" "COMPACT_STRINGS" "Z" (.int cs)) (hcs : ¬ cs = (0 : Int32)) (S_sf : Sta Z Z.heap "jdk/internal/util/Preconditions" "SIOOBE_FORMATTER" "Ljava/util/function/BiFunction;" vf) (hvf : vf.isRef = true) (S_pw : Sta Z Z.heap "com/example/equipoise/equipoise/WeightList" "POWERS_OF_TEN" "[J" (.ref pw)) (V_pw : Arv Z Z.heap pw kp .long (19 : Int32) ps (.long (0 : Int64))) (hps : ps.getD 0 (.long (0 : Int64)) = .long (1 : Int64)) (S_zr : Sta Z Z.heap "java/math/BigInteger" "ZERO" "Ljava/math/BigInteger;" (.ref zr)) (E_zr : Exa Z Z.heap zr "java/math/BigInteger") (F_signum_zr : Fld Z Z.heap zr "java/math/BigInteger" "signum" "I" (.int (0 : Int32))) (hPC : own_PC Z) :
    MetFree l x (head1 (Jvm.Cond.code x code maxLocals ret :: ws) room_1) (fun a U => a = #[(.long q0), (.long q1), (.int p2)] ∧ Z.Warmed39 U.vm ∧ U.heap = h0 ∧ U.vm = Z.vm) (fun _ _ _ _ _ => True) (fun _ U o U' => ∃ v L, o = .returned v ∧ Q_rm0 Z q0 q1 p2 cs vf pw kp ps zr h0 n0 v U'.heap L ∧ ReturnedEndW U o U' L room_1.cells room_1.slots) := by
  refine MetFree.of_bodySF (plainFor_of_name pn_rm0) hisR ?_
  intro p e s m args below meth c s₁ Bd hml0 hP hK
  obtain ⟨rfl, hZ, hh, hvm⟩ := hP
  have hx := Bd.exec
  have hby := Bd.bytes
  have hml : c.maxLocals = 33 := hml0
  have hown : s.vm.findClass "com/example/equipoise/equipoise/BuilderDepartPinLaw" = some m.cls := findClass_of_methodNamed Bd.named
  have hnm := (name_of_methodNamed Bd.named Bd.method).1
  have X0 : Stand p l e room_1 s m #[(.long q0), (.long q1), (.int p2)] below meth c s₁ [] 0 0 := Stand.of_body Bd
  have e0 : s₁.heap = h0 := by rw [← hh, Bd.state]; rfl
  have N0 := Fr.nil n0
  have K0 := Keep.refl h0 []
  have go0 : Go p e below (s₁.setTop (entryFrame m #[(.long q0), (.long q1), (.int p2)] maxLocals)) (s₁.setTop (mkF m 0 #[vJ q0, sc, vJ q1, sc, vI p2, uu, uu, uu, uu, uu, uu, uu, uu, uu, uu, uu, uu, uu, uu, uu, uu, uu, uu, uu, uu, uu, uu, uu, uu, uu, uu, uu, uu] [])) := fun t k => castTop (ef_rm0 m q0 q1 p2) k
  have go1 := go0.st s₁ (mkF m 9 #[vJ q0, sc, vJ q1, sc, vI p2, vJ jM, sc, uu, uu, uu, uu, uu, uu, uu, uu, uu, uu, uu, uu, uu, uu, uu, uu, uu, uu, uu, uu, uu, uu, uu, uu, uu, uu] [(sJ (q0 &&& jM))]) (fun t k => by
    refine X0.ldc2Long hx hown (mvT hZ (wD hw 0 rfl)) (g := (mkF m 0 #[vJ q0, sc, vJ q1, sc, vI p2, uu, uu, uu, uu, uu, uu, uu, uu, uu, uu, uu, uu, uu, uu, uu, uu, uu, uu, uu, uu, uu, uu, uu, uu, uu, uu, uu, uu] [])) rfl (hb hby at_0) _ ?_
    refine XS.lstore X0.here hx rfl (hb hby at_3) rfl (l' := #[vJ q0, sc, vJ q1, sc, vI p2, vJ jM, sc, uu, uu, uu, uu, uu, uu, uu, uu, uu, uu, uu, uu, uu, uu, uu, uu, uu, uu, uu, uu, uu, uu, uu, uu, uu, uu]) rfl ?_
    refine XS.lloadN X0.here hx rfl (hb hby at_5) rfl ?_
    refine XS.lload X0.here hx rfl (hb hby at_6) rfl ?_
    refine XS.land X0.here hx rfl (hb hby at_8) rfl ?_
    exact k)
  obtain ⟨zb, hzb⟩ : ∃ z : Int64, z = (q0 &&& (9223372036854775807 : Int64)) := ⟨_, rfl⟩
  rw [← hzb] at go1
  have go2 := go1.st s₁ (mkF m 20 #[vJ q0, sc, vJ q1, sc, vI p2, vJ jM, sc, vJ zb, sc, uu, uu, uu, uu, uu, uu, uu, uu, uu, uu, uu, uu, uu, uu, uu, uu, uu, uu, uu, uu, uu, uu, uu, uu] [(sJ (jM - zb)), (sJ (q1 &&& jM))]) (fun t k => by
    refine XS.lstore X0.here hx rfl (hb hby at_9) rfl (l' := #[vJ q0, sc, vJ q1, sc, vI p2, vJ jM, sc, vJ zb, sc, uu, uu, uu, uu, uu, uu, uu, uu, uu, uu, uu, uu, uu, uu, uu, uu, uu, uu, uu, uu, uu, uu, uu, uu]) rfl ?_
    refine XS.lloadN X0.here hx rfl (hb hby at_11) rfl ?_
    refine XS.lload X0.here hx rfl (hb hby at_12) rfl ?_
    refine XS.land X0.here hx rfl (hb hby at_14) rfl ?_
    refine XS.lload X0.here hx rfl (hb hby at_15) rfl ?_
    refine XS.lload X0.here hx rfl (hb hby at_17) rfl ?_
    refine XS.lsub X0.here hx rfl (hb hby at_19) rfl ?_
    exact k)
  obtain ⟨_, _, ⟨T3, L3, k3, n3⟩, -, X3, ⟨Lc3, hQ3, l3, y3, z3⟩, st3⟩ := Jvm.LawKit.callS X0 hx (y := yN0) hown (mvT hZ (wD hw 1 rfl)) (mvT hZ (wD hw 2 rfl)) (mvT hZ (wD hw 3 rfl)) (mvT hZ (wD hw 4 rfl)) (by decide) (backOf (W := 0) (rm_minJ l Z a0 hw [] (q1 &&& (9223372036854775807 : Int64)) ((9223372036854775807 : Int64) - zb) h0 n0 Z0 ) hZ (wD hw 4 rfl) (wD hw 3 rfl) (by decide) (by decide)) (g := (mkF m 20 #[vJ q0, sc, vJ q1, sc, vI p2, vJ jM, sc, vJ zb, sc, uu, uu, uu, uu, uu, uu, uu, uu, uu, uu, uu, uu, uu, uu, uu, uu, uu, uu, uu, uu, uu, uu, uu, uu] [(sJ (jM - zb)), (sJ (q1 &&& jM))])) rfl (by rw [hml]; rfl) (argsL := [(.long (q1 &&& (9223372036854775807 : Int64))), (.long ((9223372036854775807 : Int64) - zb))]) (rest := []) (lenOf pd_rm0_0 rfl) rfl (by show 2 * 0 + _ ≤ _; exact Nat.le_of_eq rfl) (hb hby at_20) (fun _ _ => ⟨rfl, e0, (by decide : 0 + 0 ≤ _), (by decide : 0 + 0 ≤ _)⟩)
  dsimp only [Pt.U, Pt.locs, Pt.cells, Pt.slots] at X3 l3 y3 z3 st3 hQ3
  rw [l3, y3, z3] at X3
  obtain ⟨rfl, N3q, e3⟩ := hQ3
  have N3 := Fr.app N0 N3q
  have go4 := go2.st T3 (mkF m 23 #[vJ q0, sc, vJ q1, sc, vI p2, vJ jM, sc, vJ zb, sc, uu, uu, uu, uu, uu, uu, uu, uu, uu, uu, uu, uu, uu, uu, uu, uu, uu, uu, uu, uu, uu, uu, uu, uu] [(sJ (own_minL (q1 &&& jM) (jM - zb)))]) (fun t k => by
    refine st3 _ ?_
    exact k)
  obtain ⟨zs, hzs⟩ : ∃ z : Int64, z = (own_minL (q1 &&& (9223372036854775807 : Int64)) ((9223372036854775807 : Int64) - zb)) := ⟨_, rfl⟩
  rw [← hzs] at go4
  have go5 := go4.st T3 (mkF m 29 #[vJ q0, sc, vJ q1, sc, vI p2, vJ jM, sc, vJ zb, sc, vJ zs, sc, uu, uu, uu, uu, uu, uu, uu, uu, uu, uu, uu, uu, uu, uu, uu, uu, uu, uu, uu, uu, uu, uu] [(sI (p2 &&& i1))]) (fun t k => by
    refine XS.lstore X3.here hx rfl (hb hby at_23) rfl (l' := #[vJ q0, sc, vJ q1, sc, vI p2, vJ jM, sc, vJ zb, sc, vJ zs, sc, uu, uu, uu, uu, uu, uu, uu, uu, uu, uu, uu, uu, uu, uu, uu, uu, uu, uu, uu, uu, uu, uu]) rfl ?_
    refine XS.iload X3.here hx rfl (hb hby at_25) rfl ?_
    refine XS.iconst X3.here hx rfl (hb hby at_27) ?_
    refine XS.iand X3.here hx rfl (hb hby at_28) rfl ?_
    exact k)
  have go7 := go5.st T3 (mkF m 37 #[vJ q0, sc, vJ q1, sc, vI p2, vJ jM, sc, vJ zb, sc, vJ zs, sc, uu, uu, uu, uu, uu, uu, uu, uu, uu, uu, uu, uu, uu, uu, uu, uu, uu, uu, uu, uu, uu, uu] [(sI (if (p2 &&& i1) = i0 then i0 else i1))]) (fun t k => by
    by_cases hc6 : (p2 &&& (1 : Int32)) = (0 : Int32)
    · skip
      try simp only [if_pos hc6] at k
      refine XS.ifYes X3.here hx rfl (pc0 := 29) (pc' := 36) rfl (hb hby at_29) rfl ((if0 _ _).trans (teq hc6).1) (by decide) (by decide) ?_
      refine XS.iconst X3.here hx rfl (hb hby at_36) ?_
      exact k
    · skip
      try simp only [if_neg hc6] at k
      refine XS.ifNo X3.here hx rfl (hb hby at_29) rfl ((if0 _ _).trans (feq hc6).1) ?_
      refine XS.iconst X3.here hx rfl (hb hby at_32) ?_
      refine XS.goto X3.here hx rfl (pc0 := 33) (pc' := 37) rfl (hb hby at_33) (by decide) (by decide) ?_
      exact k
    )
  obtain ⟨bf, hbf⟩ : ∃ z : Int32, z = (if (p2 &&& (1 : Int32)) = (0 : Int32) then (0 : Int32) else (1 : Int32)) := ⟨_, rfl⟩
  rw [← hbf] at go7
  have go8 := go7.st T3 (mkF m 43 #[vJ q0, sc, vJ q1, sc, vI p2, vJ jM, sc, vJ zb, sc, vJ zs, sc, vI bf, uu, uu, uu, uu, uu, uu, uu, uu, uu, uu, uu, uu, uu, uu, uu, uu, uu, uu, uu, uu, uu] [(sI (p2 &&& i2))]) (fun t k => by
    refine XS.istore X3.here hx rfl (hb hby at_37) rfl (l' := #[vJ q0, sc, vJ q1, sc, vI p2, vJ jM, sc, vJ zb, sc, vJ zs, sc, vI bf, uu, uu, uu, uu, uu, uu, uu, uu, uu, uu, uu, uu, uu, uu, uu, uu, uu, uu, uu, uu, uu]) rfl ?_
    refine XS.iload X3.here hx rfl (hb hby at_39) rfl ?_
    refine XS.iconst X3.here hx rfl (hb hby at_41) ?_
    refine XS.iand X3.here hx rfl (hb hby at_42) rfl ?_
    exact k)
  have go10 := go8.st T3 (mkF m 51 #[vJ q0, sc, vJ q1, sc, vI p2, vJ jM, sc, vJ zb, sc, vJ zs, sc, vI bf, uu, uu, uu, uu, uu, uu, uu, uu, uu, uu, uu, uu, uu, uu, uu, uu, uu, uu, uu, uu, uu] [(sI (if (p2 &&& i2) = i0 then i0 else i1))]) (fun t k => by
    by_cases hc9 : (p2 &&& (2 : Int32)) = (0 : Int32)
    · skip
      try simp only [if_pos hc9] at k
      refine XS.ifYes X3.here hx rfl (pc0 := 43) (pc' := 50) rfl (hb hby at_43) rfl ((if0 _ _).trans (teq hc9).1) (by decide) (by decide) ?_
      refine XS.iconst X3.here hx rfl (hb hby at_50) ?_
      exact k
    · skip
      try simp only [if_neg hc9] at k
      refine XS.ifNo X3.here hx rfl (hb hby at_43) rfl ((if0 _ _).trans (feq hc9).1) ?_
      refine XS.iconst X3.here hx rfl (hb hby at_46) ?_
      refine XS.goto X3.here hx rfl (pc0 := 47) (pc' := 51) rfl (hb hby at_47) (by decide) (by decide) ?_
      exact k
    )
  obtain ⟨db, hdb⟩ : ∃ z : Int32, z = (if (p2 &&& (2 : Int32)) = (0 : Int32) then (0 : Int32) else (1 : Int32)) := ⟨_, rfl⟩
  rw [← hdb] at go10
  have go11 := go10.st T3 (mkF m 55 #[vJ q0, sc, vJ q1, sc, vI p2, vJ jM, sc, vJ zb, sc, vJ zs, sc, vI bf, vI db, uu, uu, uu, uu, uu, uu, uu, uu, uu, uu, uu, uu, uu, uu, uu, uu, uu, uu, uu, uu] [sI bf]) (fun t k => by
    refine XS.istore X3.here hx rfl (hb hby at_51) rfl (l' := #[vJ q0, sc, vJ q1, sc, vI p2, vJ jM, sc, vJ zb, sc, vJ zs, sc, vI bf, vI db, uu, uu, uu, uu, uu, uu, uu, uu, uu, uu, uu, uu, uu, uu, uu, uu, uu, uu, uu, uu]) rfl ?_
    refine XS.iload X3.here hx rfl (hb hby at_53) rfl ?_
    exact k)
  have go13 := go11.st T3 (mkF m 65 #[vJ q0, sc, vJ q1, sc, vI p2, vJ jM, sc, vJ zb, sc, vJ zs, sc, vI bf, vI db, uu, uu, uu, uu, uu, uu, uu, uu, uu, uu, uu, uu, uu, uu, uu, uu, uu, uu, uu, uu] [(sJ (if bf = i0 then zs else zb))]) (fun t k => by
    by_cases hc12 : bf = (0 : Int32)
    · skip
      try simp only [if_pos hc12] at k
      refine XS.ifYes X3.here hx rfl (pc0 := 55) (pc' := 63) rfl (hb hby at_55) rfl ((if0 _ _).trans (teq hc12).1) (by decide) (by decide) ?_
      refine XS.lload X3.here hx rfl (hb hby at_63) rfl ?_
      exact k
    · skip
      try simp only [if_neg hc12] at k
      refine XS.ifNo X3.here hx rfl (hb hby at_55) rfl ((if0 _ _).trans (feq hc12).1) ?_
      refine XS.lload X3.here hx rfl (hb hby at_58) rfl ?_
      refine XS.goto X3.here hx rfl (pc0 := 60) (pc' := 65) rfl (hb hby at_60) (by decide) (by decide) ?_
      exact k
    )
  obtain ⟨zf, hzf⟩ : ∃ z : Int64, z = (if bf = (0 : Int32) then zs else zb) := ⟨_, rfl⟩
  rw [← hzf] at go13
  have go14 := go13.st T3 (mkF m 69 #[vJ q0, sc, vJ q1, sc, vI p2, vJ jM, sc, vJ zb, sc, vJ zs, sc, vI bf, vI db, vJ zf, sc, uu, uu, uu, uu, uu, uu, uu, uu, uu, uu, uu, uu, uu, uu, uu, uu, uu, uu] [sI bf]) (fun t k => by
    refine XS.lstore X3.here hx rfl (hb hby at_65) rfl (l' := #[vJ q0, sc, vJ q1, sc, vI p2, vJ jM, sc, vJ zb, sc, vJ zs, sc, vI bf, vI db, vJ zf, sc, uu, uu, uu, uu, uu, uu, uu, uu, uu, uu, uu, uu, uu, uu, uu, uu, uu, uu]) rfl ?_
    refine XS.iload X3.here hx rfl (hb hby at_67) rfl ?_
    exact k)
  have go16 := go14.st T3 (mkF m 79 #[vJ q0, sc, vJ q1, sc, vI p2, vJ jM, sc, vJ zb, sc, vJ zs, sc, vI bf, vI db, vJ zf, sc, uu, uu, uu, uu, uu, uu, uu, uu, uu, uu, uu, uu, uu, uu, uu, uu, uu, uu] [(sJ (if bf = i0 then zb else zs))]) (fun t k => by
    by_cases hc15 : bf = (0 : Int32)
    · skip
      try simp only [if_pos hc15] at k
      refine XS.ifYes X3.here hx rfl (pc0 := 69) (pc' := 77) rfl (hb hby at_69) rfl ((if0 _ _).trans (teq hc15).1) (by decide) (by decide) ?_
      refine XS.lload X3.here hx rfl (hb hby at_77) rfl ?_
      exact k
    · skip
      try simp only [if_neg hc15] at k
      refine XS.ifNo X3.here hx rfl (hb hby at_69) rfl ((if0 _ _).trans (feq hc15).1) ?_
      refine XS.lload X3.here hx rfl (hb hby at_72) rfl ?_
      refine XS.goto X3.here hx rfl (pc0 := 74) (pc' := 79) rfl (hb hby at_74) (by decide) (by decide) ?_
      exact k
    )
  obtain ⟨zg, hzg⟩ : ∃ z : Int64, z = (if bf = (0 : Int32) then zb else zs) := ⟨_, rfl⟩
  rw [← hzg] at go16
  have go17 := go16.st T3 (mkF m 85 #[vJ q0, sc, vJ q1, sc, vI p2, vJ jM, sc, vJ zb, sc, vJ zs, sc, vI bf, vI db, vJ zf, sc, vJ zg, sc, uu, uu, uu, uu, uu, uu, uu, uu, uu, uu, uu, uu, uu, uu, uu, uu] [sI db, sI bf]) (fun t k => by
    refine XS.lstore X3.here hx rfl (hb hby at_79) rfl (l' := #[vJ q0, sc, vJ q1, sc, vI p2, vJ jM, sc, vJ zb, sc, vJ zs, sc, vI bf, vI db, vJ zf, sc, vJ zg, sc, uu, uu, uu, uu, uu, uu, uu, uu, uu, uu, uu, uu, uu, uu, uu, uu]) rfl ?_
    refine XS.iload X3.here hx rfl (hb hby at_81) rfl ?_
    refine XS.iload X3.here hx rfl (hb hby at_83) rfl ?_
    exact k)
  have go19 := go17.st T3 (mkF m 93 #[vJ q0, sc, vJ q1, sc, vI p2, vJ jM, sc, vJ zb, sc, vJ zs, sc, vI bf, vI db, vJ zf, sc, vJ zg, sc, uu, uu, uu, uu, uu, uu, uu, uu, uu, uu, uu, uu, uu, uu, uu, uu] [(sI (if bf = db then i0 else i1))]) (fun t k => by
    by_cases hc18 : bf = db
    · skip
      try simp only [if_pos hc18] at k
      refine XS.icmpNo X3.here hx rfl (hb hby at_85) rfl (teq hc18).2 ?_
      refine XS.iconst X3.here hx rfl (hb hby at_88) ?_
      refine XS.goto X3.here hx rfl (pc0 := 89) (pc' := 93) rfl (hb hby at_89) (by decide) (by decide) ?_
      exact k
    · skip
      try simp only [if_neg hc18] at k
      refine XS.icmpYes X3.here hx rfl (pc0 := 85) (pc' := 92) rfl (hb hby at_85) rfl (feq hc18).2 (by decide) (by decide) ?_
      refine XS.iconst X3.here hx rfl (hb hby at_92) ?_
      exact k
    )
  obtain ⟨zi, hzi⟩ : ∃ z : Int32, z = (if bf = db then (0 : Int32) else (1 : Int32)) := ⟨_, rfl⟩
  rw [← hzi] at go19
  have go20 := go19.st T3 (mkF m 97 #[vJ q0, sc, vJ q1, sc, vI p2, vJ jM, sc, vJ zb, sc, vJ zs, sc, vI bf, vI db, vJ zf, sc, vJ zg, sc, vI zi, uu, uu, uu, uu, uu, uu, uu, uu, uu, uu, uu, uu, uu, uu, uu] [sI db]) (fun t k => by
    refine XS.istore X3.here hx rfl (hb hby at_93) rfl (l' := #[vJ q0, sc, vJ q1, sc, vI p2, vJ jM, sc, vJ zb, sc, vJ zs, sc, vI bf, vI db, vJ zf, sc, vJ zg, sc, vI zi, uu, uu, uu, uu, uu, uu, uu, uu, uu, uu, uu, uu, uu, uu, uu]) rfl ?_
    refine XS.iload X3.here hx rfl (hb hby at_95) rfl ?_
    exact k)
  have go22 := go20.st T3 (mkF m 107 #[vJ q0, sc, vJ q1, sc, vI p2, vJ jM, sc, vJ zb, sc, vJ zs, sc, vI bf, vI db, vJ zf, sc, vJ zg, sc, vI zi, uu, uu, uu, uu, uu, uu, uu, uu, uu, uu, uu, uu, uu, uu, uu] [(sJ (if db = i0 then zb else zs))]) (fun t k => by
    by_cases hc21 : db = (0 : Int32)
    · skip
      try simp only [if_pos hc21] at k
      refine XS.ifYes X3.here hx rfl (pc0 := 97) (pc' := 105) rfl (hb hby at_97) rfl ((if0 _ _).trans (teq hc21).1) (by decide) (by decide) ?_
      refine XS.lload X3.here hx rfl (hb hby at_105) rfl ?_
      exact k
    · skip
      try simp only [if_neg hc21] at k
      refine XS.ifNo X3.here hx rfl (hb hby at_97) rfl ((if0 _ _).trans (feq hc21).1) ?_
      refine XS.lload X3.here hx rfl (hb hby at_100) rfl ?_
      refine XS.goto X3.here hx rfl (pc0 := 102) (pc' := 107) rfl (hb hby at_102) (by decide) (by decide) ?_
      exact k
    )
  obtain ⟨zm, hzm⟩ : ∃ z : Int64, z = (if db = (0 : Int32) then zb else zs) := ⟨_, rfl⟩
  rw [← hzm] at go22
  have go23 := go22.st T3 (mkF m 114 #[vJ q0, sc, vJ q1, sc, vI p2, vJ jM, sc, vJ zb, sc, vJ zs, sc, vI bf, vI db, vJ zf, sc, vJ zg, sc, vI zi, vJ zm, sc, uu, uu, uu, uu, uu, uu, uu, uu, uu, uu, uu, uu, uu] [(sJ (jM - zm))]) (fun t k => by
    refine XS.lstore X3.here hx rfl (hb hby at_107) rfl (l' := #[vJ q0, sc, vJ q1, sc, vI p2, vJ jM, sc, vJ zb, sc, vJ zs, sc, vI bf, vI db, vJ zf, sc, vJ zg, sc, vI zi, vJ zm, sc, uu, uu, uu, uu, uu, uu, uu, uu, uu, uu, uu, uu, uu]) rfl ?_
    refine XS.lload X3.here hx rfl (hb hby at_109) rfl ?_
    refine XS.lload X3.here hx rfl (hb hby at_111) rfl ?_
    refine XS.lsub X3.here hx rfl (hb hby at_113) rfl ?_
    exact k)
  obtain ⟨zl, hzl⟩ : ∃ z : Int64, z = ((9223372036854775807 : Int64) - zm) := ⟨_, rfl⟩
  rw [← hzl] at go23
  have hH := own_pl hzb hzs hbf hdb hzf hzg hzi hzm hzl
  have hHl := own_Hl hH
  have go24 := go23.st T3 (mkF m 118 #[vJ q0, sc, vJ q1, sc, vI p2, vJ jM, sc, vJ zb, sc, vJ zs, sc, vI bf, vI db, vJ zf, sc, vJ zg, sc, vI zi, vJ zm, sc, vJ zl, sc, uu, uu, uu, uu, uu, uu, uu, uu, uu, uu, uu] [sJ zf]) (fun t k => by
    refine XS.lstore X3.here hx rfl (hb hby at_114) rfl (l' := #[vJ q0, sc, vJ q1, sc, vI p2, vJ jM, sc, vJ zb, sc, vJ zs, sc, vI bf, vI db, vJ zf, sc, vJ zg, sc, vI zi, vJ zm, sc, vJ zl, sc, uu, uu, uu, uu, uu, uu, uu, uu, uu, uu, uu]) rfl ?_
    refine XS.lload X3.here hx rfl (hb hby at_116) rfl ?_
    exact k)
  obtain ⟨_, _, ⟨T25, L25, k25, n25⟩, -, X25, ⟨Lc25, hQ25, l25, y25, z25⟩, st25⟩ := Jvm.LawKit.callS X3 hx (y := yN14) hown (mvT hZ (wD hw 5 rfl)) (mvT hZ (wD hw 6 rfl)) (mvT hZ (wD hw 7 rfl)) (mvT hZ (wD hw 8 rfl)) (by decide) (backOf (W := 0) (rm_text l Z a0 hw [] zf cs h0 n0 Z0 Ol S_cs hcs hH.1) hZ (wD hw 8 rfl) (wD hw 7 rfl) (by decide) (by decide)) (g := (mkF m 118 #[vJ q0, sc, vJ q1, sc, vI p2, vJ jM, sc, vJ zb, sc, vJ zs, sc, vI bf, vI db, vJ zf, sc, vJ zg, sc, vI zi, vJ zm, sc, vJ zl, sc, uu, uu, uu, uu, uu, uu, uu, uu, uu, uu, uu] [sJ zf])) rfl (by rw [hml]; rfl) (argsL := [(.long zf)]) (rest := []) (lenOf pd_rm0_1 rfl) rfl (by show 2 * 0 + _ ≤ _; exact Nat.le_of_eq rfl) (hb hby at_118) (fun _ _ => ⟨rfl, e3, (by decide : 0 + 3 ≤ _), (by decide : 0 + 42 ≤ _)⟩)
  dsimp only [Pt.U, Pt.locs, Pt.cells, Pt.slots] at X25 l25 y25 z25 st25 hQ25
  rw [l25, y25, z25] at X25
  obtain ⟨b_25, vb_25, kb_25, vs_25, rfl, N25q, K25, qp25_0, qp25_1, qp25_2, qp25_3, qp25_4, qp25_5, qp25_6, qp25_7, qp25_8⟩ := hQ25
  have N25 := Fr.app N3 N25q
  have f26 := Old.keep Ol K25 all0
  have Z25 : n0 ≤ T25.heap.size := Nat.le_trans Z0 K25.1
  have KK25 := K0.trans K25 all0
  have g_b_25 := qp25_0
  have sz_b_25 := Nat.le_trans K0.1 qp25_1
  have g_vb_25 := qp25_2
  have sz_vb_25 := Nat.le_trans K0.1 qp25_3
  have go27 := go24.st T25 (mkF m 125 #[vJ q0, sc, vJ q1, sc, vI p2, vJ jM, sc, vJ zb, sc, vJ zs, sc, vI bf, vI db, vJ zf, sc, vJ zg, sc, vI zi, vJ zm, sc, vJ zl, sc, vR b_25, uu, uu, uu, uu, uu, uu, uu, uu, uu, uu] [sJ zg]) (fun t k => by
    refine st25 _ ?_
    show SP p e below T25 (mkF m 121 #[vJ q0, sc, vJ q1, sc, vI p2, vJ jM, sc, vJ zb, sc, vJ zs, sc, vI bf, vI db, vJ zf, sc, vJ zg, sc, vI zi, vJ zm, sc, vJ zl, sc, uu, uu, uu, uu, uu, uu, uu, uu, uu, uu, uu] [sR b_25]) _
    refine XS.astore X25.here hx rfl (hb hby at_121) rfl rfl (l' := #[vJ q0, sc, vJ q1, sc, vI p2, vJ jM, sc, vJ zb, sc, vJ zs, sc, vI bf, vI db, vJ zf, sc, vJ zg, sc, vI zi, vJ zm, sc, vJ zl, sc, vR b_25, uu, uu, uu, uu, uu, uu, uu, uu, uu, uu]) rfl ?_
    refine XS.lload X25.here hx rfl (hb hby at_123) rfl ?_
    exact k)
  obtain ⟨_, _, ⟨T28, L28, k28, n28⟩, -, X28, ⟨Lc28, hQ28, l28, y28, z28⟩, st28⟩ := Jvm.LawKit.callS X25 hx (y := yN14) hown (mvT hZ (wD hw 5 rfl)) (mvT hZ (wD hw 6 rfl)) (mvT hZ (wD hw 7 rfl)) (mvT hZ (wD hw 8 rfl)) (by decide) (backOf (W := 0) (rm_text l Z a0 hw [] zg cs T25.heap n0 Z25 f26 S_cs hcs hH.2.1) hZ (wD hw 8 rfl) (wD hw 7 rfl) (by decide) (by decide)) (g := (mkF m 125 #[vJ q0, sc, vJ q1, sc, vI p2, vJ jM, sc, vJ zb, sc, vJ zs, sc, vI bf, vI db, vJ zf, sc, vJ zg, sc, vI zi, vJ zm, sc, vJ zl, sc, vR b_25, uu, uu, uu, uu, uu, uu, uu, uu, uu, uu] [sJ zg])) rfl (by rw [hml]; rfl) (argsL := [(.long zg)]) (rest := []) (lenOf pd_rm0_1 rfl) rfl (by show 2 * 0 + _ ≤ _; exact Nat.le_of_eq rfl) (hb hby at_125) (fun _ _ => ⟨rfl, rfl, (by decide : 3 + 3 ≤ _), (by decide : 42 + 42 ≤ _)⟩)
  dsimp only [Pt.U, Pt.locs, Pt.cells, Pt.slots] at X28 l28 y28 z28 st28 hQ28
  rw [l28, y28, z28] at X28
  obtain ⟨b_28, vb_28, kb_28, vs_28, rfl, N28q, K28, qp28_0, qp28_1, qp28_2, qp28_3, qp28_4, qp28_5, qp28_6, qp28_7, qp28_8⟩ := hQ28
  have N28 := Fr.app N25 N28q
  have f29 := Old.keep f26 K28 all0
  have f30 := qp25_4.keep K28
  have f31 := qp25_5.keep K28 nin0
  have f32 := qp25_6.keep K28 nin0
  have f33 := qp25_7.keep K28 nin0
  have Z28 : n0 ≤ T28.heap.size := Nat.le_trans Z25 K28.1
  have KK28 := KK25.trans K28 all0
  have g_b_28 := qp28_0
  have sz_b_28 := Nat.le_trans KK25.1 qp28_1
  have ne_b_25_b_28 : b_25 ≠ b_28 := Nat.ne_of_lt (Nat.lt_of_lt_of_le qp25_4.lt qp28_1)
  have ne_vb_25_b_28 : vb_25 ≠ b_28 := Nat.ne_of_lt (Nat.lt_of_lt_of_le qp25_7.lt qp28_1)
  have g_vb_28 := qp28_2
  have sz_vb_28 := Nat.le_trans KK25.1 qp28_3
  have ne_b_25_vb_28 : b_25 ≠ vb_28 := Nat.ne_of_lt (Nat.lt_of_lt_of_le qp25_4.lt qp28_3)
  have ne_vb_25_vb_28 : vb_25 ≠ vb_28 := Nat.ne_of_lt (Nat.lt_of_lt_of_le qp25_7.lt qp28_3)
  have go34 := go27.st T28 (mkF m 132 #[vJ q0, sc, vJ q1, sc, vI p2, vJ jM, sc, vJ zb, sc, vJ zs, sc, vI bf, vI db, vJ zf, sc, vJ zg, sc, vI zi, vJ zm, sc, vJ zl, sc, vR b_25, vR b_28, uu, uu, uu, uu, uu, uu, uu, uu, uu] [sJ zl]) (fun t k => by
    refine st28 _ ?_
    show SP p e below T28 (mkF m 128 #[vJ q0, sc, vJ q1, sc, vI p2, vJ jM, sc, vJ zb, sc, vJ zs, sc, vI bf, vI db, vJ zf, sc, vJ zg, sc, vI zi, vJ zm, sc, vJ zl, sc, vR b_25, uu, uu, uu, uu, uu, uu, uu, uu, uu, uu] [sR b_28]) _
    refine XS.astore X28.here hx rfl (hb hby at_128) rfl rfl (l' := #[vJ q0, sc, vJ q1, sc, vI p2, vJ jM, sc, vJ zb, sc, vJ zs, sc, vI bf, vI db, vJ zf, sc, vJ zg, sc, vI zi, vJ zm, sc, vJ zl, sc, vR b_25, vR b_28, uu, uu, uu, uu, uu, uu, uu, uu, uu]) rfl ?_
    refine XS.lload X28.here hx rfl (hb hby at_130) rfl ?_
    exact k)
  obtain ⟨_, _, ⟨T35, L35, k35, n35⟩, -, X35, ⟨Lc35, hQ35, l35, y35, z35⟩, st35⟩ := Jvm.LawKit.callS X28 hx (y := yN14) hown (mvT hZ (wD hw 5 rfl)) (mvT hZ (wD hw 6 rfl)) (mvT hZ (wD hw 7 rfl)) (mvT hZ (wD hw 8 rfl)) (by decide) (backOf (W := 0) (rm_text l Z a0 hw [] zl cs T28.heap n0 Z28 f29 S_cs hcs hHl.1) hZ (wD hw 8 rfl) (wD hw 7 rfl) (by decide) (by decide)) (g := (mkF m 132 #[vJ q0, sc, vJ q1, sc, vI p2, vJ jM, sc, vJ zb, sc, vJ zs, sc, vI bf, vI db, vJ zf, sc, vJ zg, sc, vI zi, vJ zm, sc, vJ zl, sc, vR b_25, vR b_28, uu, uu, uu, uu, uu, uu, uu, uu, uu] [sJ zl])) rfl (by rw [hml]; rfl) (argsL := [(.long zl)]) (rest := []) (lenOf pd_rm0_1 rfl) rfl (by show 2 * 0 + _ ≤ _; exact Nat.le_of_eq rfl) (hb hby at_132) (fun _ _ => ⟨rfl, rfl, (by decide : 6 + 3 ≤ _), (by decide : 84 + 42 ≤ _)⟩)
  dsimp only [Pt.U, Pt.locs, Pt.cells, Pt.slots] at X35 l35 y35 z35 st35 hQ35
  rw [l35, y35, z35] at X35
  obtain ⟨b_35, vb_35, kb_35, vs_35, rfl, N35q, K35, qp35_0, qp35_1, qp35_2, qp35_3, qp35_4, qp35_5, qp35_6, qp35_7, qp35_8⟩ := hQ35
  have N35 := Fr.app N28 N35q
  have f36 := Old.keep f29 K35 all0
  have f37 := f30.keep K35
  have f38 := f31.keep K35 nin0
  have f39 := f32.keep K35 nin0
  have f40 := f33.keep K35 nin0
  have f41 := qp28_4.keep K35
  have f42 := qp28_5.keep K35 nin0
  have f43 := qp28_6.keep K35 nin0
  have f44 := qp28_7.keep K35 nin0
  have Z35 : n0 ≤ T35.heap.size := Nat.le_trans Z28 K35.1
  have KK35 := KK28.trans K35 all0
  have g_b_35 := qp35_0
  have sz_b_35 := Nat.le_trans KK28.1 qp35_1
  have ne_b_25_b_35 : b_25 ≠ b_35 := Nat.ne_of_lt (Nat.lt_of_lt_of_le f30.lt qp35_1)
  have ne_vb_25_b_35 : vb_25 ≠ b_35 := Nat.ne_of_lt (Nat.lt_of_lt_of_le f33.lt qp35_1)
  have ne_b_28_b_35 : b_28 ≠ b_35 := Nat.ne_of_lt (Nat.lt_of_lt_of_le qp28_4.lt qp35_1)
  have ne_vb_28_b_35 : vb_28 ≠ b_35 := Nat.ne_of_lt (Nat.lt_of_lt_of_le qp28_7.lt qp35_1)
  have g_vb_35 := qp35_2
  have sz_vb_35 := Nat.le_trans KK28.1 qp35_3
  have ne_b_25_vb_35 : b_25 ≠ vb_35 := Nat.ne_of_lt (Nat.lt_of_lt_of_le f30.lt qp35_3)
  have ne_vb_25_vb_35 : vb_25 ≠ vb_35 := Nat.ne_of_lt (Nat.lt_of_lt_of_le f33.lt qp35_3)
  have ne_b_28_vb_35 : b_28 ≠ vb_35 := Nat.ne_of_lt (Nat.lt_of_lt_of_le qp28_4.lt qp35_3)
  have ne_vb_28_vb_35 : vb_28 ≠ vb_35 := Nat.ne_of_lt (Nat.lt_of_lt_of_le qp28_7.lt qp35_3)
  have go45 := go34.st T35 (mkF m 137 #[vJ q0, sc, vJ q1, sc, vI p2, vJ jM, sc, vJ zb, sc, vJ zs, sc, vI bf, vI db, vJ zf, sc, vJ zg, sc, vI zi, vJ zm, sc, vJ zl, sc, vR b_25, vR b_28, vR b_35, uu, uu, uu, uu, uu, uu, uu, uu] []) (fun t k => by
    refine st35 _ ?_
    show SP p e below T35 (mkF m 135 #[vJ q0, sc, vJ q1, sc, vI p2, vJ jM, sc, vJ zb, sc, vJ zs, sc, vI bf, vI db, vJ zf, sc, vJ zg, sc, vI zi, vJ zm, sc, vJ zl, sc, vR b_25, vR b_28, uu, uu, uu, uu, uu, uu, uu, uu, uu] [sR b_35]) _
    refine XS.astore X35.here hx rfl (hb hby at_135) rfl rfl (l' := #[vJ q0, sc, vJ q1, sc, vI p2, vJ jM, sc, vJ zb, sc, vJ zs, sc, vI bf, vI db, vJ zf, sc, vJ zg, sc, vI zi, vJ zm, sc, vJ zl, sc, vR b_25, vR b_28, vR b_35, uu, uu, uu, uu, uu, uu, uu, uu]) rfl ?_
    exact k)
  obtain ⟨T46, h46, X46, e46, E46, A46, D46, -, st46⟩ := newO X35 hx hZ hown (wD hw 60 rfl) (wD hw 61 rfl) (wD hw 62 rfl) rfl (g := (mkF m 137 #[vJ q0, sc, vJ q1, sc, vI p2, vJ jM, sc, vJ zb, sc, vJ zs, sc, vI bf, vI db, vJ zf, sc, vJ zg, sc, vI zi, vJ zm, sc, vJ zl, sc, vR b_25, vR b_28, vR b_35, uu, uu, uu, uu, uu, uu, uu, uu] [])) rfl (hb hby at_137) (by decide) (by decide)
  obtain ⟨b46, g46⟩ : ∃ z, z = T35.heap.size := ⟨_, rfl⟩
  rw [← g46] at A46 D46 st46
  have ne_b_25_b46 : b_25 ≠ b46 := Nat.ne_of_lt (Nat.lt_of_lt_of_le f37.lt (Nat.le_of_eq g46.symm))
  have ne_vb_25_b46 : vb_25 ≠ b46 := Nat.ne_of_lt (Nat.lt_of_lt_of_le f40.lt (Nat.le_of_eq g46.symm))
  have ne_b_28_b46 : b_28 ≠ b46 := Nat.ne_of_lt (Nat.lt_of_lt_of_le f41.lt (Nat.le_of_eq g46.symm))
  have ne_vb_28_b46 : vb_28 ≠ b46 := Nat.ne_of_lt (Nat.lt_of_lt_of_le f44.lt (Nat.le_of_eq g46.symm))
  have ne_b_35_b46 : b_35 ≠ b46 := Nat.ne_of_lt (Nat.lt_of_lt_of_le qp35_4.lt (Nat.le_of_eq g46.symm))
  have ne_vb_35_b46 : vb_35 ≠ b46 := Nat.ne_of_lt (Nat.lt_of_lt_of_le qp35_7.lt (Nat.le_of_eq g46.symm))
  have g_b46 : n0 ≤ b46 := Nat.le_trans Z35 (Nat.le_of_eq g46.symm)
  have sz_b46 : h0.size ≤ b46 := Nat.le_trans KK35.1 (Nat.le_of_eq g46.symm)
  have f47 := Old.ext f36 E46
  have f48 := f37.ext E46
  have f49 := f38.ext E46
  have f50 := f39.ext E46
  have f51 := f40.ext E46
  have f52 := f41.ext E46
  have f53 := f42.ext E46
  have f54 := f43.ext E46
  have f55 := f44.ext E46
  have f56 := qp35_4.ext E46
  have f57 := qp35_5.ext E46
  have f58 := qp35_6.ext E46
  have f59 := qp35_7.ext E46
  have F46_units : Fld Z h46 b46 "com/example/equipoise/equipoise/WeightFile$Builder" "units" "[J" .null := D46 (Or.inl (wD hw 73 rfl)) (ty := (.array .long)) (by decide)
  have F46_file : Fld Z h46 b46 "com/example/equipoise/equipoise/WeightFile$Builder" "file" "Ljava/lang/String;" .null := D46 (Or.inr (wD hw 75 rfl)) (ty := (.object "java/lang/String")) (by decide)
  have F46_noun : Fld Z h46 b46 "com/example/equipoise/equipoise/WeightFile$Builder" "noun" "Ljava/lang/String;" .null := D46 (Or.inr (wD hw 77 rfl)) (ty := (.object "java/lang/String")) (by decide)
  have F46_scale : Fld Z h46 b46 "com/example/equipoise/equipoise/WeightFile$Builder" "scale" "I" (.int (0 : Int32)) := D46 (Or.inl (wD hw 151 rfl)) (ty := .int) (by decide)
  have F46_present : Fld Z h46 b46 "com/example/equipoise/equipoise/WeightFile$Builder" "present" "J" (.long (0 : Int64)) := D46 (Or.inl (wD hw 176 rfl)) (ty := .long) (by decide)
  have F46_peak : Fld Z h46 b46 "com/example/equipoise/equipoise/WeightFile$Builder" "peak" "J" (.long (0 : Int64)) := D46 (Or.inl (wD hw 178 rfl)) (ty := .long) (by decide)
  have F46_count : Fld Z h46 b46 "com/example/equipoise/equipoise/WeightFile$Builder" "count" "I" (.int (0 : Int32)) := D46 (Or.inl (wD hw 183 rfl)) (ty := .int) (by decide)
  have Z46 : n0 ≤ h46.size := Nat.le_trans Z35 E46.1
  have K46 := KK35.ext E46
  have go60 := go45.st T46 (mkF m 141 #[vJ q0, sc, vJ q1, sc, vI p2, vJ jM, sc, vJ zb, sc, vJ zs, sc, vI bf, vI db, vJ zf, sc, vJ zg, sc, vI zi, vJ zm, sc, vJ zl, sc, vR b_25, vR b_28, vR b_35, uu, uu, uu, uu, uu, uu, uu, uu] [sR b46, sR b46]) (fun t k => by
    refine st46 _ ?_
    show SP p e below T46 (mkF m 140 #[vJ q0, sc, vJ q1, sc, vI p2, vJ jM, sc, vJ zb, sc, vJ zs, sc, vI bf, vI db, vJ zf, sc, vJ zg, sc, vI zi, vJ zm, sc, vJ zl, sc, vR b_25, vR b_28, vR b_35, uu, uu, uu, uu, uu, uu, uu, uu] [sR b46]) _
    refine XS.dup X46.here hx rfl (hb hby at_140) rfl rfl ?_
    exact k)
  obtain ⟨sa61, T61, h61, kz61, X61, e61, E61, hS61, hk61, hZ, hown, st61⟩ := ldcS (s := s) (vm0 := s.vm) (own := "com/example/equipoise/equipoise/BuilderDepartPinLaw") (text := "f") (index := 70) X46 hx hZ hown (wD hw 63 rfl) (fun a ha => hw a (own_atoms a ha)) e46 (k0 := 0) ((State.WarmedH.refl s).since 0) (Nat.zero_le _) (g := (mkF m 141 #[vJ q0, sc, vJ q1, sc, vI p2, vJ jM, sc, vJ zb, sc, vJ zs, sc, vI bf, vI db, vJ zf, sc, vJ zg, sc, vI zi, vJ zm, sc, vJ zl, sc, vR b_25, vR b_28, vR b_35, uu, uu, uu, uu, uu, uu, uu, uu] [sR b46, sR b46])) rfl (hb hby at_141) (n := 4) (by decide) (by decide) (by decide) (by decide)
  have f62 := Old.ext f47 E61
  have f63 := f48.ext E61
  have f64 := f49.ext E61
  have f65 := f50.ext E61
  have f66 := f51.ext E61
  have f67 := f52.ext E61
  have f68 := f53.ext E61
  have f69 := f54.ext E61
  have f70 := f55.ext E61
  have f71 := f56.ext E61
  have f72 := f57.ext E61
  have f73 := f58.ext E61
  have f74 := f59.ext E61
  have f75 := A46.ext E61
  have f76 := F46_units.ext E61
  have f77 := F46_file.ext E61
  have f78 := F46_noun.ext E61
  have f79 := F46_scale.ext E61
  have f80 := F46_present.ext E61
  have f81 := F46_peak.ext E61
  have f82 := F46_count.ext E61
  have Z61 : n0 ≤ h61.size := Nat.le_trans Z46 E61.1
  have K61 := K46.ext E61
  have go83 := go60.st T61 (mkF m 143 #[vJ q0, sc, vJ q1, sc, vI p2, vJ jM, sc, vJ zb, sc, vJ zs, sc, vI bf, vI db, vJ zf, sc, vJ zg, sc, vI zi, vJ zm, sc, vJ zl, sc, vR b_25, vR b_28, vR b_35, uu, uu, uu, uu, uu, uu, uu, uu] [sR sa61, sR b46, sR b46]) (fun t k => by
    refine st61 _ ?_
    exact k)
  obtain ⟨sa84, T84, h84, kz84, X84, e84, E84, hS84, hk84, hZ, hown, st84⟩ := ldcS (s := s) (vm0 := T61.vm) (own := "com/example/equipoise/equipoise/BuilderDepartPinLaw") (text := "w") (index := 72) X61 hx hZ hown (wD hw 66 rfl) (fun a ha => hw a (own_atoms a ha)) e61 hS61 hk61 (g := (mkF m 143 #[vJ q0, sc, vJ q1, sc, vI p2, vJ jM, sc, vJ zb, sc, vJ zs, sc, vI bf, vI db, vJ zf, sc, vJ zg, sc, vI zi, vJ zm, sc, vJ zl, sc, vR b_25, vR b_28, vR b_35, uu, uu, uu, uu, uu, uu, uu, uu] [sR sa61, sR b46, sR b46])) rfl (hb hby at_143) (n := 4) (by decide) (by decide) (by decide) (by decide)
  have f85 := Old.ext f62 E84
  have f86 := f63.ext E84
  have f87 := f64.ext E84
  have f88 := f65.ext E84
  have f89 := f66.ext E84
  have f90 := f67.ext E84
  have f91 := f68.ext E84
  have f92 := f69.ext E84
  have f93 := f70.ext E84
  have f94 := f71.ext E84
  have f95 := f72.ext E84
  have f96 := f73.ext E84
  have f97 := f74.ext E84
  have f98 := f75.ext E84
  have f99 := f76.ext E84
  have f100 := f77.ext E84
  have f101 := f78.ext E84
  have f102 := f79.ext E84
  have f103 := f80.ext E84
  have f104 := f81.ext E84
  have f105 := f82.ext E84
  have Z84 : n0 ≤ h84.size := Nat.le_trans Z61 E84.1
  have K84 := K61.ext E84
  have go106 := go83.st T84 (mkF m 145 #[vJ q0, sc, vJ q1, sc, vI p2, vJ jM, sc, vJ zb, sc, vJ zs, sc, vI bf, vI db, vJ zf, sc, vJ zg, sc, vI zi, vJ zm, sc, vJ zl, sc, vR b_25, vR b_28, vR b_35, uu, uu, uu, uu, uu, uu, uu, uu] [sR sa84, sR sa61, sR b46, sR b46]) (fun t k => by
    refine st84 _ ?_
    exact k)
  obtain ⟨_, _, ⟨T107, L107, k107, n107⟩, -, X107, ⟨Lc107, hQ107, l107, y107, z107⟩, st107⟩ := X84.specialBack hx (y := yN44) rfl hown (mvT hZ (wD hw 67 rfl)) (mvT hZ (wD hw 68 rfl)) (mvT hZ (wD hw 69 rfl)) (by decide) (backOf (W := 1) (rm_wbi l Z a0 hw [] b46 sa61 sa84 h84 n0 Z84 f98 g_b46 f99 f100 f101 f105 f102 f103 f104) hZ (wD hw 69 rfl) (wD hw 62 rfl) (by decide) (by decide)) (g := (mkF m 145 #[vJ q0, sc, vJ q1, sc, vI p2, vJ jM, sc, vJ zb, sc, vJ zs, sc, vI bf, vI db, vJ zf, sc, vJ zg, sc, vI zi, vJ zm, sc, vJ zl, sc, vR b_25, vR b_28, vR b_35, uu, uu, uu, uu, uu, uu, uu, uu] [sR sa84, sR sa61, sR b46, sR b46])) rfl (by rw [hml]; rfl) (Steps.refl _) (a := b46) (argsL := [(.ref sa61), (.ref sa84)]) (rest := [(.ref b46)]) (lenOf pd_rm0_2 rfl) rfl (by show 2 * 0 + _ ≤ _; exact Nat.le_of_eq rfl) (hb hby at_145) (fun _ _ => ⟨rfl, e84, (by decide : 14 + 1 ≤ _), (by decide : 149 + 1024 ≤ _)⟩)
  dsimp only [Pt.U, Pt.locs, Pt.cells, Pt.slots] at X107 l107 y107 z107 st107 hQ107
  rw [l107, y107, z107] at X107
  obtain ⟨un_107, ku_107, rfl, N107q, K107, qp107_0, qp107_1, qp107_2, qp107_3, qp107_4, qp107_5, qp107_6, qp107_7, qp107_8⟩ := hQ107
  have N107 := Fr.app N35 N107q
  have f108 := Old.keep f85 K107 (allS g_b46 all0)
  have f109 := f86.keep K107
  have f110 := f87.keep K107 (ninS ne_b_25_b46 nin0)
  have f111 := f88.keep K107 (ninS ne_b_25_b46 nin0)
  have f112 := f89.keep K107 (ninS ne_vb_25_b46 nin0)
  have f113 := f90.keep K107
  have f114 := f91.keep K107 (ninS ne_b_28_b46 nin0)
  have f115 := f92.keep K107 (ninS ne_b_28_b46 nin0)
  have f116 := f93.keep K107 (ninS ne_vb_28_b46 nin0)
  have f117 := f94.keep K107
  have f118 := f95.keep K107 (ninS ne_b_35_b46 nin0)
  have f119 := f96.keep K107 (ninS ne_b_35_b46 nin0)
  have f120 := f97.keep K107 (ninS ne_vb_35_b46 nin0)
  have f121 := f98.keep K107
  have Z107 : n0 ≤ T107.heap.size := Nat.le_trans Z84 K107.1
  have KK107 := K84.trans K107 (allS (Or.inr sz_b46) all0)
  have g_un_107 := qp107_6
  have sz_un_107 := Nat.le_trans K84.1 qp107_7
  have ne_b_25_un_107 : b_25 ≠ un_107 := Nat.ne_of_lt (Nat.lt_of_lt_of_le f86.lt qp107_7)
  have ne_vb_25_un_107 : vb_25 ≠ un_107 := Nat.ne_of_lt (Nat.lt_of_lt_of_le f89.lt qp107_7)
  have ne_b_28_un_107 : b_28 ≠ un_107 := Nat.ne_of_lt (Nat.lt_of_lt_of_le f90.lt qp107_7)
  have ne_vb_28_un_107 : vb_28 ≠ un_107 := Nat.ne_of_lt (Nat.lt_of_lt_of_le f93.lt qp107_7)
  have ne_b_35_un_107 : b_35 ≠ un_107 := Nat.ne_of_lt (Nat.lt_of_lt_of_le f94.lt qp107_7)
  have ne_vb_35_un_107 : vb_35 ≠ un_107 := Nat.ne_of_lt (Nat.lt_of_lt_of_le f97.lt qp107_7)
  have ne_b46_un_107 : b46 ≠ un_107 := Nat.ne_of_lt (Nat.lt_of_lt_of_le f98.lt qp107_7)
  have go129 := go106.st T107 (mkF m 155 #[vJ q0, sc, vJ q1, sc, vI p2, vJ jM, sc, vJ zb, sc, vJ zs, sc, vI bf, vI db, vJ zf, sc, vJ zg, sc, vI zi, vJ zm, sc, vJ zl, sc, vR b_25, vR b_28, vR b_35, vR b46, uu, uu, uu, uu, uu, uu, uu] [sR b_25, sI i1, sR b46]) (fun t k => by
    refine st107.trans ?_
    show SP p e below T107 (mkF m 148 #[vJ q0, sc, vJ q1, sc, vI p2, vJ jM, sc, vJ zb, sc, vJ zs, sc, vI bf, vI db, vJ zf, sc, vJ zg, sc, vI zi, vJ zm, sc, vJ zl, sc, vR b_25, vR b_28, vR b_35, uu, uu, uu, uu, uu, uu, uu, uu] [sR b46]) _
    refine XS.astore X107.here hx rfl (hb hby at_148) rfl rfl (l' := #[vJ q0, sc, vJ q1, sc, vI p2, vJ jM, sc, vJ zb, sc, vJ zs, sc, vI bf, vI db, vJ zf, sc, vJ zg, sc, vI zi, vJ zm, sc, vJ zl, sc, vR b_25, vR b_28, vR b_35, vR b46, uu, uu, uu, uu, uu, uu, uu]) rfl ?_
    refine XS.aload X107.here hx rfl (hb hby at_150) rfl rfl ?_
    refine XS.iconst X107.here hx rfl (hb hby at_152) ?_
    refine XS.aload X107.here hx rfl (hb hby at_153) rfl rfl ?_
    exact k)
  obtain ⟨cq130, kq130, q130a, q130b, q130c⟩ := isOf hZ rfl qp107_0
  obtain ⟨_, _, ⟨T130, L130, k130, n130⟩, -, X130, ⟨Lc130, hQ130, l130, y130, z130⟩, st130⟩ := X107.virtualBack hx (y := yN45) (z := yN45) hown (mvT hZ (wD hw 78 rfl)) (mvT hZ (wD hw 79 rfl)) (notFace_of_selects (args := #[]) (mvT hZ (wD hw 81 rfl))) (mvT hZ (wD hw 81 rfl)) (mvT hZ (wD hw 80 rfl)) (by decide) (backOfWith (W := 0) (rm_add0 l Z a0 hw [] b46 (1 : Int32) b_25 cs vf vb_25 kb_25 vs_25 zf un_107 ku_107 (0 : Int64) (0 : Int64) pw kp ps T107.heap n0 Z107 f108 S_cs hcs S_sf hvf f109 f110 f111 f112 qp25_8 hH.1 qp107_0 qp107_1 qp107_2 qp107_3 qp107_4 qp107_5 qp107_8 g_b46 g_un_107 ne_b46_un_107 S_pw V_pw hps (own_Hp0 hH)) hZ (wD hw 82 rfl) (wD hw 62 rfl) (by decide) (by decide)) q130a q130c (g := (mkF m 155 #[vJ q0, sc, vJ q1, sc, vI p2, vJ jM, sc, vJ zb, sc, vJ zs, sc, vI bf, vI db, vJ zf, sc, vJ zg, sc, vI zi, vJ zm, sc, vJ zl, sc, vR b_25, vR b_28, vR b_35, vR b46, uu, uu, uu, uu, uu, uu, uu] [sR b_25, sI i1, sR b46])) rfl (by rw [hml]; rfl) (Steps.refl _) (argsL := [(.int (1 : Int32)), (.ref b_25)]) (rest := []) (lenOf pd_rm0_3 rfl) rfl (by show 2 * 0 + _ ≤ _; exact Nat.le_of_eq rfl) (hb hby at_155) (fun _ _ => ⟨rfl, rfl, (by decide : 15 + 0 ≤ _), (by decide : 1173 + 0 ≤ _)⟩)
  dsimp only [Pt.U, Pt.locs, Pt.cells, Pt.slots] at X130 l130 y130 z130 st130 hQ130
  rw [l130, y130, z130] at X130
  obtain ⟨rfl, N130q, K130, qp130_0, qp130_1, qp130_2, qp130_3, qp130_4, qp130_5, qp130_6⟩ := hQ130
  have N130 := Fr.app N107 N130q
  have f131 := Old.keep f108 K130 (allS g_b46 (allS g_un_107 all0))
  have f132 := f109.keep K130
  have f133 := f110.keep K130 (ninS ne_b_25_b46 (ninS ne_b_25_un_107 nin0))
  have f134 := f111.keep K130 (ninS ne_b_25_b46 (ninS ne_b_25_un_107 nin0))
  have f135 := f112.keep K130 (ninS ne_vb_25_b46 (ninS ne_vb_25_un_107 nin0))
  have f136 := f113.keep K130
  have f137 := f114.keep K130 (ninS ne_b_28_b46 (ninS ne_b_28_un_107 nin0))
  have f138 := f115.keep K130 (ninS ne_b_28_b46 (ninS ne_b_28_un_107 nin0))
  have f139 := f116.keep K130 (ninS ne_vb_28_b46 (ninS ne_vb_28_un_107 nin0))
  have f140 := f117.keep K130
  have f141 := f118.keep K130 (ninS ne_b_35_b46 (ninS ne_b_35_un_107 nin0))
  have f142 := f119.keep K130 (ninS ne_b_35_b46 (ninS ne_b_35_un_107 nin0))
  have f143 := f120.keep K130 (ninS ne_vb_35_b46 (ninS ne_vb_35_un_107 nin0))
  have f144 := qp107_0.keep K130
  have Z130 : n0 ≤ T130.heap.size := Nat.le_trans Z107 K130.1
  have KK130 := KK107.trans K130 (allS (Or.inr sz_b46) (allS (Or.inr sz_un_107) all0))
  have go151 := go129.st T130 (mkF m 165 #[vJ q0, sc, vJ q1, sc, vI p2, vJ jM, sc, vJ zb, sc, vJ zs, sc, vI bf, vI db, vJ zf, sc, vJ zg, sc, vI zi, vJ zm, sc, vJ zl, sc, vR b_25, vR b_28, vR b_35, vR b46, vJ zf, sc, uu, uu, uu, uu, uu] [sR b_28, sI i2, sR b46]) (fun t k => by
    refine st130.trans ?_
    show SP p e below T130 (mkF m 158 #[vJ q0, sc, vJ q1, sc, vI p2, vJ jM, sc, vJ zb, sc, vJ zs, sc, vI bf, vI db, vJ zf, sc, vJ zg, sc, vI zi, vJ zm, sc, vJ zl, sc, vR b_25, vR b_28, vR b_35, vR b46, uu, uu, uu, uu, uu, uu, uu] [sJ zf]) _
    refine XS.lstore X130.here hx rfl (hb hby at_158) rfl (l' := #[vJ q0, sc, vJ q1, sc, vI p2, vJ jM, sc, vJ zb, sc, vJ zs, sc, vI bf, vI db, vJ zf, sc, vJ zg, sc, vI zi, vJ zm, sc, vJ zl, sc, vR b_25, vR b_28, vR b_35, vR b46, vJ zf, sc, uu, uu, uu, uu, uu]) rfl ?_
    refine XS.aload X130.here hx rfl (hb hby at_160) rfl rfl ?_
    refine XS.iconst X130.here hx rfl (hb hby at_162) ?_
    refine XS.aload X130.here hx rfl (hb hby at_163) rfl rfl ?_
    exact k)
  obtain ⟨cq152, kq152, q152a, q152b, q152c⟩ := isOf hZ rfl qp130_0
  obtain ⟨_, _, ⟨T152, L152, k152, n152⟩, -, X152, ⟨Lc152, hQ152, l152, y152, z152⟩, st152⟩ := X130.virtualBack hx (y := yN45) (z := yN45) hown (mvT hZ (wD hw 78 rfl)) (mvT hZ (wD hw 79 rfl)) (notFace_of_selects (args := #[]) (mvT hZ (wD hw 81 rfl))) (mvT hZ (wD hw 81 rfl)) (mvT hZ (wD hw 80 rfl)) (by decide) (backOfWith (W := 0) (rm_add1 l Z a0 hw [] b46 (2 : Int32) b_28 cs vf vb_28 kb_28 vs_28 zg un_107 ku_107 zf ((0 : Int64) + zf) (own_maxL (0 : Int64) ((0 : Int64) + zf)) pw kp ps T130.heap n0 Z130 f131 S_cs hcs S_sf hvf f136 f137 f138 f139 qp28_8 hH.2.1 qp130_0 qp130_1 qp130_2 qp130_3 qp130_4 qp130_5 qp130_6 g_b46 g_un_107 ne_b46_un_107 S_pw V_pw hps (own_Hp1 hH)) hZ (wD hw 82 rfl) (wD hw 62 rfl) (by decide) (by decide)) q152a q152c (g := (mkF m 165 #[vJ q0, sc, vJ q1, sc, vI p2, vJ jM, sc, vJ zb, sc, vJ zs, sc, vI bf, vI db, vJ zf, sc, vJ zg, sc, vI zi, vJ zm, sc, vJ zl, sc, vR b_25, vR b_28, vR b_35, vR b46, vJ zf, sc, uu, uu, uu, uu, uu] [sR b_28, sI i2, sR b46])) rfl (by rw [hml]; rfl) (Steps.refl _) (argsL := [(.int (2 : Int32)), (.ref b_28)]) (rest := []) (lenOf pd_rm0_3 rfl) rfl (by show 2 * 0 + _ ≤ _; exact Nat.le_of_eq rfl) (hb hby at_165) (fun _ _ => ⟨rfl, rfl, (by decide : 15 + 0 ≤ _), (by decide : 1173 + 0 ≤ _)⟩)
  dsimp only [Pt.U, Pt.locs, Pt.cells, Pt.slots] at X152 l152 y152 z152 st152 hQ152
  rw [l152, y152, z152] at X152
  obtain ⟨rfl, N152q, K152, qp152_0, qp152_1, qp152_2, qp152_3, qp152_4, qp152_5, qp152_6⟩ := hQ152
  have N152 := Fr.app N130 N152q
  have f153 := Old.keep f131 K152 (allS g_b46 (allS g_un_107 all0))
  have f154 := f136.keep K152
  have f155 := f137.keep K152 (ninS ne_b_28_b46 (ninS ne_b_28_un_107 nin0))
  have f156 := f138.keep K152 (ninS ne_b_28_b46 (ninS ne_b_28_un_107 nin0))
  have f157 := f139.keep K152 (ninS ne_vb_28_b46 (ninS ne_vb_28_un_107 nin0))
  have f158 := f140.keep K152
  have f159 := f141.keep K152 (ninS ne_b_35_b46 (ninS ne_b_35_un_107 nin0))
  have f160 := f142.keep K152 (ninS ne_b_35_b46 (ninS ne_b_35_un_107 nin0))
  have f161 := f143.keep K152 (ninS ne_vb_35_b46 (ninS ne_vb_35_un_107 nin0))
  have f162 := qp130_0.keep K152
  have Z152 : n0 ≤ T152.heap.size := Nat.le_trans Z130 K152.1
  have KK152 := KK130.trans K152 (allS (Or.inr sz_b46) (allS (Or.inr sz_un_107) all0))
  have go169 := go151.st T152 (mkF m 174 #[vJ q0, sc, vJ q1, sc, vI p2, vJ jM, sc, vJ zb, sc, vJ zs, sc, vI bf, vI db, vJ zf, sc, vJ zg, sc, vI zi, vJ zm, sc, vJ zl, sc, vR b_25, vR b_28, vR b_35, vR b46, vJ zf, sc, vJ zg, sc, uu, uu, uu] [sI zi, sR b46]) (fun t k => by
    refine st152.trans ?_
    show SP p e below T152 (mkF m 168 #[vJ q0, sc, vJ q1, sc, vI p2, vJ jM, sc, vJ zb, sc, vJ zs, sc, vI bf, vI db, vJ zf, sc, vJ zg, sc, vI zi, vJ zm, sc, vJ zl, sc, vR b_25, vR b_28, vR b_35, vR b46, vJ zf, sc, uu, uu, uu, uu, uu] [sJ zg]) _
    refine XS.lstore X152.here hx rfl (hb hby at_168) rfl (l' := #[vJ q0, sc, vJ q1, sc, vI p2, vJ jM, sc, vJ zb, sc, vJ zs, sc, vI bf, vI db, vJ zf, sc, vJ zg, sc, vI zi, vJ zm, sc, vJ zl, sc, vR b_25, vR b_28, vR b_35, vR b46, vJ zf, sc, vJ zg, sc, uu, uu, uu]) rfl ?_
    refine XS.aload X152.here hx rfl (hb hby at_170) rfl rfl ?_
    refine XS.iload X152.here hx rfl (hb hby at_172) rfl ?_
    exact k)
  obtain ⟨cq170, kq170, q170a, q170b, q170c⟩ := isOf hZ rfl qp152_0
  obtain ⟨_, _, ⟨T170, L170, k170, n170⟩, -, X170, ⟨Lc170, hQ170, l170, y170, z170⟩, st170⟩ := X152.virtualBack hx (y := yN46) (z := yN46) hown (mvT hZ (wD hw 184 rfl)) (mvT hZ (wD hw 185 rfl)) (notFace_of_selects (args := #[]) (mvT hZ (wD hw 187 rfl))) (mvT hZ (wD hw 187 rfl)) (mvT hZ (wD hw 186 rfl)) (by decide) (backOf (W := 0) (rm_dep l Z a0 hw [] b46 zi un_107 ku_107 zf zg (((0 : Int64) + zf) + zg) (own_maxL (own_maxL (0 : Int64) ((0 : Int64) + zf)) (((0 : Int64) + zf) + zg)) (own_w zi zf zg) T152.heap n0 Z152 qp152_0 qp152_1 qp152_4 qp152_2 qp152_3 qp152_5 qp152_6 g_b46 ne_b46_un_107 (own_Hin hH) (own_Hget hH)) hZ (wD hw 188 rfl) (wD hw 62 rfl) (by decide) (by decide)) q170a q170c (g := (mkF m 174 #[vJ q0, sc, vJ q1, sc, vI p2, vJ jM, sc, vJ zb, sc, vJ zs, sc, vI bf, vI db, vJ zf, sc, vJ zg, sc, vI zi, vJ zm, sc, vJ zl, sc, vR b_25, vR b_28, vR b_35, vR b46, vJ zf, sc, vJ zg, sc, uu, uu, uu] [sI zi, sR b46])) rfl (by rw [hml]; rfl) (Steps.refl _) (argsL := [(.int zi)]) (rest := []) (lenOf pd_rm0_4 rfl) rfl (by show 2 * 0 + _ ≤ _; exact Nat.le_of_eq rfl) (hb hby at_174) (fun _ _ => ⟨rfl, rfl, (by decide : 15 + 0 ≤ _), (by decide : 1173 + 0 ≤ _)⟩)
  dsimp only [Pt.U, Pt.locs, Pt.cells, Pt.slots] at X170 l170 y170 z170 st170 hQ170
  rw [l170, y170, z170] at X170
  obtain ⟨rfl, N170q, K170, qp170_0, qp170_1, qp170_2, qp170_3, qp170_4, qp170_5, qp170_6⟩ := hQ170
  have N170 := Fr.app N152 N170q
  have f171 := Old.keep f153 K170 (allS g_b46 all0)
  have f172 := f158.keep K170
  have f173 := f159.keep K170 (ninS ne_b_35_b46 nin0)
  have f174 := f160.keep K170 (ninS ne_b_35_b46 nin0)
  have f175 := f161.keep K170 (ninS ne_vb_35_b46 nin0)
  have f176 := qp152_0.keep K170
  have f182 := qp152_6.keep K170 (ninS (Ne.symm ne_b46_un_107) nin0)
  have Z170 : n0 ≤ T170.heap.size := Nat.le_trans Z152 K170.1
  have KK170 := KK152.trans K170 (allS (Or.inr sz_b46) all0)
  have go183 := go169.st T170 (mkF m 182 #[vJ q0, sc, vJ q1, sc, vI p2, vJ jM, sc, vJ zb, sc, vJ zs, sc, vI bf, vI db, vJ zf, sc, vJ zg, sc, vI zi, vJ zm, sc, vJ zl, sc, vR b_25, vR b_28, vR b_35, vR b46, vJ zf, sc, vJ zg, sc, uu, uu, uu] [sR b_35, (sI (3 : Int32)), sR b46]) (fun t k => by
    refine st170.trans ?_
    show SP p e below T170 (mkF m 177 #[vJ q0, sc, vJ q1, sc, vI p2, vJ jM, sc, vJ zb, sc, vJ zs, sc, vI bf, vI db, vJ zf, sc, vJ zg, sc, vI zi, vJ zm, sc, vJ zl, sc, vR b_25, vR b_28, vR b_35, vR b46, vJ zf, sc, vJ zg, sc, uu, uu, uu] []) _
    refine XS.aload X170.here hx rfl (hb hby at_177) rfl rfl ?_
    refine XS.iconst X170.here hx rfl (hb hby at_179) ?_
    refine XS.aload X170.here hx rfl (hb hby at_180) rfl rfl ?_
    exact k)
  obtain ⟨cq184, kq184, q184a, q184b, q184c⟩ := isOf hZ rfl qp170_0
  obtain ⟨_, _, ⟨T184, L184, k184, n184⟩, -, X184, ⟨Lc184, hQ184, l184, y184, z184⟩, st184⟩ := X170.virtualBack hx (y := yN45) (z := yN45) hown (mvT hZ (wD hw 78 rfl)) (mvT hZ (wD hw 79 rfl)) (notFace_of_selects (args := #[]) (mvT hZ (wD hw 81 rfl))) (mvT hZ (wD hw 81 rfl)) (mvT hZ (wD hw 80 rfl)) (by decide) (backOfWith (W := 0) (rm_add2 l Z a0 hw [] b46 (3 : Int32) b_35 cs vf vb_35 kb_35 vs_35 zl un_107 ku_107 zf zg ((((0 : Int64) + zf) + zg) - (own_w zi zf zg)) (own_maxL (own_maxL (0 : Int64) ((0 : Int64) + zf)) (((0 : Int64) + zf) + zg)) pw kp ps T170.heap n0 Z170 f171 S_cs hcs S_sf hvf f172 f173 f174 f175 qp35_8 hHl.1 qp170_0 qp170_1 qp170_2 qp170_3 qp170_4 qp170_5 qp170_6 g_b46 g_un_107 ne_b46_un_107 S_pw V_pw hps (own_Hp2 hH)) hZ (wD hw 82 rfl) (wD hw 62 rfl) (by decide) (by decide)) q184a q184c (g := (mkF m 182 #[vJ q0, sc, vJ q1, sc, vI p2, vJ jM, sc, vJ zb, sc, vJ zs, sc, vI bf, vI db, vJ zf, sc, vJ zg, sc, vI zi, vJ zm, sc, vJ zl, sc, vR b_25, vR b_28, vR b_35, vR b46, vJ zf, sc, vJ zg, sc, uu, uu, uu] [sR b_35, (sI (3 : Int32)), sR b46])) rfl (by rw [hml]; rfl) (Steps.refl _) (argsL := [(.int (3 : Int32)), (.ref b_35)]) (rest := []) (lenOf pd_rm0_3 rfl) rfl (by show 2 * 0 + _ ≤ _; exact Nat.le_of_eq rfl) (hb hby at_182) (fun _ _ => ⟨rfl, rfl, (by decide : 15 + 0 ≤ _), (by decide : 1173 + 0 ≤ _)⟩)
  dsimp only [Pt.U, Pt.locs, Pt.cells, Pt.slots] at X184 l184 y184 z184 st184 hQ184
  rw [l184, y184, z184] at X184
  obtain ⟨rfl, N184q, K184, qp184_0, qp184_1, qp184_2, qp184_3, qp184_4, qp184_5, qp184_6⟩ := hQ184
  have N184 := Fr.app N170 N184q
  have f185 := Old.keep f171 K184 (allS g_b46 (allS g_un_107 all0))
  have f186 := f172.keep K184
  have f187 := f173.keep K184 (ninS ne_b_35_b46 (ninS ne_b_35_un_107 nin0))
  have f188 := f174.keep K184 (ninS ne_b_35_b46 (ninS ne_b_35_un_107 nin0))
  have f189 := f175.keep K184 (ninS ne_vb_35_b46 (ninS ne_vb_35_un_107 nin0))
  have f190 := qp170_0.keep K184
  have Z184 : n0 ≤ T184.heap.size := Nat.le_trans Z170 K184.1
  have KK184 := KK170.trans K184 (allS (Or.inr sz_b46) (allS (Or.inr sz_un_107) all0))
  have go197 := go183.st T184 (mkF m 189 #[vJ q0, sc, vJ q1, sc, vI p2, vJ jM, sc, vJ zb, sc, vJ zs, sc, vI bf, vI db, vJ zf, sc, vJ zg, sc, vI zi, vJ zm, sc, vJ zl, sc, vR b_25, vR b_28, vR b_35, vR b46, vJ zf, sc, vJ zg, sc, vJ zl, sc, uu] [sR b46]) (fun t k => by
    refine st184.trans ?_
    show SP p e below T184 (mkF m 185 #[vJ q0, sc, vJ q1, sc, vI p2, vJ jM, sc, vJ zb, sc, vJ zs, sc, vI bf, vI db, vJ zf, sc, vJ zg, sc, vI zi, vJ zm, sc, vJ zl, sc, vR b_25, vR b_28, vR b_35, vR b46, vJ zf, sc, vJ zg, sc, uu, uu, uu] [sJ zl]) _
    refine XS.lstore X184.here hx rfl (hb hby at_185) rfl (l' := #[vJ q0, sc, vJ q1, sc, vI p2, vJ jM, sc, vJ zb, sc, vJ zs, sc, vI bf, vI db, vJ zf, sc, vJ zg, sc, vI zi, vJ zm, sc, vJ zl, sc, vR b_25, vR b_28, vR b_35, vR b46, vJ zf, sc, vJ zg, sc, vJ zl, sc, uu]) rfl ?_
    refine XS.aload X184.here hx rfl (hb hby at_187) rfl rfl ?_
    exact k)
  obtain ⟨cq198, kq198, q198a, q198b, q198c⟩ := isOf hZ rfl qp184_0
  obtain ⟨_, _, ⟨T198, L198, k198, n198⟩, -, X198, ⟨Lc198, hQ198, l198, y198, z198⟩, st198⟩ := X184.virtualBack hx (y := yN40) (z := yN40) hown (mvT hZ (wD hw 190 rfl)) (mvT hZ (wD hw 191 rfl)) (notFace_of_selects (args := #[]) (mvT hZ (wD hw 193 rfl))) (mvT hZ (wD hw 193 rfl)) (mvT hZ (wD hw 192 rfl)) (by decide) (backOf (W := 0) (rm_build l Z a0 hw [] b46 un_107 ku_107 zf zg zl zr T184.heap n0 Z184 f185 S_zr E_zr F_signum_zr hPC qp184_1 qp184_2 qp184_3 qp184_6 (own_HS hH)) hZ (wD hw 194 rfl) (wD hw 62 rfl) (by decide) (by decide)) q198a q198c (g := (mkF m 189 #[vJ q0, sc, vJ q1, sc, vI p2, vJ jM, sc, vJ zb, sc, vJ zs, sc, vI bf, vI db, vJ zf, sc, vJ zg, sc, vI zi, vJ zm, sc, vJ zl, sc, vR b_25, vR b_28, vR b_35, vR b46, vJ zf, sc, vJ zg, sc, vJ zl, sc, uu] [sR b46])) rfl (by rw [hml]; rfl) (Steps.refl _) (argsL := []) (rest := []) (lenOf pd_rm0_5 rfl) rfl (by show 2 * 0 + _ ≤ _; exact Nat.le_of_eq rfl) (hb hby at_189) (fun _ _ => ⟨rfl, rfl, (by decide : 15 + 8 ≤ _), (by decide : 1173 + 31 ≤ _)⟩)
  dsimp only [Pt.U, Pt.locs, Pt.cells, Pt.slots] at X198 l198 y198 z198 st198 hQ198
  rw [l198, y198, z198] at X198
  obtain ⟨b_198, ub_198, ku_198, rfl, N198q, K198, qp198_0, qp198_1, qp198_2⟩ := hQ198
  have N198 := Fr.app N184 N198q
  have f199 := Old.keep f185 K198 all0
  have f200 := qp184_0.keep K198
  have f201 := qp184_1.keep K198 nin0
  have f202 := qp184_2.keep K198 nin0
  have f203 := qp184_3.keep K198 nin0
  have f204 := qp184_4.keep K198 nin0
  have f205 := qp184_5.keep K198 nin0
  have f206 := qp184_6.keep K198 nin0
  have Z198 : n0 ≤ T198.heap.size := Nat.le_trans Z184 K198.1
  have KK198 := KK184.trans K198 all0
  have go210 := go197.st T198 (mkF m 220 #[vJ q0, sc, vJ q1, sc, vI p2, vJ jM, sc, vJ zb, sc, vJ zs, sc, vI bf, vI db, vJ zf, sc, vJ zg, sc, vI zi, vJ zm, sc, vJ zl, sc, vR b_25, vR b_28, vR b_35, vR b46, vJ zf, sc, vJ zg, sc, vJ zl, sc, vR b_198] [sR b_198]) (fun t k => by
    refine st198.trans ?_
    show SP p e below T198 (mkF m 192 #[vJ q0, sc, vJ q1, sc, vI p2, vJ jM, sc, vJ zb, sc, vJ zs, sc, vI bf, vI db, vJ zf, sc, vJ zg, sc, vI zi, vJ zm, sc, vJ zl, sc, vR b_25, vR b_28, vR b_35, vR b46, vJ zf, sc, vJ zg, sc, vJ zl, sc, uu] [sR b_198]) _
    refine XS.astore X198.here hx rfl (hb hby at_192) rfl rfl (l' := #[vJ q0, sc, vJ q1, sc, vI p2, vJ jM, sc, vJ zb, sc, vJ zs, sc, vI bf, vI db, vJ zf, sc, vJ zg, sc, vI zi, vJ zm, sc, vJ zl, sc, vR b_25, vR b_28, vR b_35, vR b46, vJ zf, sc, vJ zg, sc, vJ zl, sc, vR b_198]) rfl ?_
    refine XS.lload X198.here hx rfl (hb hby at_194) rfl ?_
    refine XS.lload X198.here hx rfl (hb hby at_196) rfl ?_
    refine XS.lcmp X198.here hx rfl (hb hby at_198) rfl ?_
    refine XS.ifNo X198.here hx rfl (hb hby at_199) rfl ((if0 _ _).trans (teq ((lw_eq _ _).mpr (rfl : zf = zf))).2) ?_
    refine XS.lload X198.here hx rfl (hb hby at_202) rfl ?_
    refine XS.lload X198.here hx rfl (hb hby at_204) rfl ?_
    refine XS.lcmp X198.here hx rfl (hb hby at_206) rfl ?_
    refine XS.ifNo X198.here hx rfl (hb hby at_207) rfl ((if0 _ _).trans (teq ((lw_eq _ _).mpr (rfl : zg = zg))).2) ?_
    show SP p e below T198 (mkF m 210 #[vJ q0, sc, vJ q1, sc, vI p2, vJ jM, sc, vJ zb, sc, vJ zs, sc, vI bf, vI db, vJ zf, sc, vJ zg, sc, vI zi, vJ zm, sc, vJ zl, sc, vR b_25, vR b_28, vR b_35, vR b46, vJ zf, sc, vJ zg, sc, vJ zl, sc, vR b_198] []) _
    refine XS.lload X198.here hx rfl (hb hby at_210) rfl ?_
    refine XS.lload X198.here hx rfl (hb hby at_212) rfl ?_
    refine XS.lcmp X198.here hx rfl (hb hby at_214) rfl ?_
    refine XS.ifNo X198.here hx rfl (hb hby at_215) rfl ((if0 _ _).trans (teq ((lw_eq _ _).mpr (rfl : zl = zl))).2) ?_
    refine XS.aload X198.here hx rfl (hb hby at_218) rfl rfl ?_
    exact k)
  obtain ⟨cq211, kq211, q211a, q211b, q211c⟩ := isOf hZ rfl qp198_0
  obtain ⟨_, _, ⟨T211, L211, k211, n211⟩, -, X211, ⟨Lc211, hQ211, l211, y211, z211⟩, st211⟩ := X198.virtualBack hx (y := yN41) (z := yN41) hown (mvT hZ (wD hw 264 rfl)) (mvT hZ (wD hw 265 rfl)) (notFace_of_selects (args := #[]) (mvT hZ (wD hw 267 rfl))) (mvT hZ (wD hw 267 rfl)) (mvT hZ (wD hw 266 rfl)) (by decide) (backOf (W := 0) (rm_size l Z a0 hw [] b_198 ub_198 ku_198 zf zg zl T198.heap n0 Z198 qp198_1 qp198_2) hZ (wD hw 268 rfl) (wD hw 170 rfl) (by decide) (by decide)) q211a q211c (g := (mkF m 220 #[vJ q0, sc, vJ q1, sc, vI p2, vJ jM, sc, vJ zb, sc, vJ zs, sc, vI bf, vI db, vJ zf, sc, vJ zg, sc, vI zi, vJ zm, sc, vJ zl, sc, vR b_25, vR b_28, vR b_35, vR b46, vJ zf, sc, vJ zg, sc, vJ zl, sc, vR b_198] [sR b_198])) rfl (by rw [hml]; rfl) (Steps.refl _) (argsL := []) (rest := []) (lenOf pd_rm0_6 rfl) rfl (by show 2 * 0 + _ ≤ _; exact Nat.le_of_eq rfl) (hb hby at_220) (fun _ _ => ⟨rfl, rfl, (by decide : 23 + 0 ≤ _), (by decide : 1204 + 0 ≤ _)⟩)
  dsimp only [Pt.U, Pt.locs, Pt.cells, Pt.slots] at X211 l211 y211 z211 st211 hQ211
  rw [l211, y211, z211] at X211
  obtain ⟨rfl, N211q, e211⟩ := hQ211
  have N211 := Fr.app N198 N211q
  have go213 := go210.st T211 (mkF m 230 #[vJ q0, sc, vJ q1, sc, vI p2, vJ jM, sc, vJ zb, sc, vJ zs, sc, vI bf, vI db, vJ zf, sc, vJ zg, sc, vI zi, vJ zm, sc, vJ zl, sc, vR b_25, vR b_28, vR b_35, vR b46, vJ zf, sc, vJ zg, sc, vJ zl, sc, vR b_198] [sI i0, sR b_198]) (fun t k => by
    refine st211.trans ?_
    show SP p e below T211 (mkF m 223 #[vJ q0, sc, vJ q1, sc, vI p2, vJ jM, sc, vJ zb, sc, vJ zs, sc, vI bf, vI db, vJ zf, sc, vJ zg, sc, vI zi, vJ zm, sc, vJ zl, sc, vR b_25, vR b_28, vR b_35, vR b46, vJ zf, sc, vJ zg, sc, vJ zl, sc, vR b_198] [(sI (3 : Int32))]) _
    refine XS.iconst X211.here hx rfl (hb hby at_223) ?_
    refine XS.icmpNo X211.here hx rfl (hb hby at_224) rfl (teq ((by decide) : (3 : Int32) = (3 : Int32))).2 ?_
    refine XS.aload X211.here hx rfl (hb hby at_227) rfl rfl ?_
    refine XS.iconst X211.here hx rfl (hb hby at_229) ?_
    exact k)
  obtain ⟨cq214, kq214, q214a, q214b, q214c⟩ := isOf hZ e211 qp198_0
  obtain ⟨_, _, ⟨T214, L214, k214, n214⟩, -, X214, ⟨Lc214, hQ214, l214, y214, z214⟩, st214⟩ := X211.virtualBack hx (y := yN42) (z := yN42) hown (mvT hZ (wD hw 269 rfl)) (mvT hZ (wD hw 270 rfl)) (notFace_of_selects (args := #[]) (mvT hZ (wD hw 272 rfl))) (mvT hZ (wD hw 272 rfl)) (mvT hZ (wD hw 271 rfl)) (by decide) (backOf (W := 0) (rm_un0 l Z a0 hw [] b_198 ub_198 ku_198 zf zg zl T198.heap n0 Z198 qp198_1 qp198_2) hZ (wD hw 273 rfl) (wD hw 170 rfl) (by decide) (by decide)) q214a q214c (g := (mkF m 230 #[vJ q0, sc, vJ q1, sc, vI p2, vJ jM, sc, vJ zb, sc, vJ zs, sc, vI bf, vI db, vJ zf, sc, vJ zg, sc, vI zi, vJ zm, sc, vJ zl, sc, vR b_25, vR b_28, vR b_35, vR b46, vJ zf, sc, vJ zg, sc, vJ zl, sc, vR b_198] [sI i0, sR b_198])) rfl (by rw [hml]; rfl) (Steps.refl _) (argsL := [(.int (0 : Int32))]) (rest := []) (lenOf pd_rm0_7 rfl) rfl (by show 2 * 0 + _ ≤ _; exact Nat.le_of_eq rfl) (hb hby at_230) (fun _ _ => ⟨rfl, e211, (by decide : 23 + 0 ≤ _), (by decide : 1204 + 0 ≤ _)⟩)
  dsimp only [Pt.U, Pt.locs, Pt.cells, Pt.slots] at X214 l214 y214 z214 st214 hQ214
  rw [l214, y214, z214] at X214
  obtain ⟨rfl, N214q, e214⟩ := hQ214
  have N214 := Fr.app N211 N214q
  have go216 := go213.st T214 (mkF m 242 #[vJ q0, sc, vJ q1, sc, vI p2, vJ jM, sc, vJ zb, sc, vJ zs, sc, vI bf, vI db, vJ zf, sc, vJ zg, sc, vI zi, vJ zm, sc, vJ zl, sc, vR b_25, vR b_28, vR b_35, vR b46, vJ zf, sc, vJ zg, sc, vJ zl, sc, vR b_198] [sI i1, sR b_198]) (fun t k => by
    refine st214.trans ?_
    show SP p e below T214 (mkF m 233 #[vJ q0, sc, vJ q1, sc, vI p2, vJ jM, sc, vJ zb, sc, vJ zs, sc, vI bf, vI db, vJ zf, sc, vJ zg, sc, vI zi, vJ zm, sc, vJ zl, sc, vR b_25, vR b_28, vR b_35, vR b46, vJ zf, sc, vJ zg, sc, vJ zl, sc, vR b_198] [sJ zf]) _
    refine XS.lload X214.here hx rfl (hb hby at_233) rfl ?_
    refine XS.lcmp X214.here hx rfl (hb hby at_235) rfl ?_
    refine XS.ifNo X214.here hx rfl (hb hby at_236) rfl ((if0 _ _).trans (teq ((lw_eq _ _).mpr (rfl : zf = zf))).2) ?_
    refine XS.aload X214.here hx rfl (hb hby at_239) rfl rfl ?_
    refine XS.iconst X214.here hx rfl (hb hby at_241) ?_
    exact k)
  obtain ⟨cq217, kq217, q217a, q217b, q217c⟩ := isOf hZ e214 qp198_0
  obtain ⟨_, _, ⟨T217, L217, k217, n217⟩, -, X217, ⟨Lc217, hQ217, l217, y217, z217⟩, st217⟩ := X214.virtualBack hx (y := yN42) (z := yN42) hown (mvT hZ (wD hw 269 rfl)) (mvT hZ (wD hw 270 rfl)) (notFace_of_selects (args := #[]) (mvT hZ (wD hw 272 rfl))) (mvT hZ (wD hw 272 rfl)) (mvT hZ (wD hw 271 rfl)) (by decide) (backOf (W := 0) (rm_un1 l Z a0 hw [] b_198 ub_198 ku_198 zf zg zl T198.heap n0 Z198 qp198_1 qp198_2) hZ (wD hw 273 rfl) (wD hw 170 rfl) (by decide) (by decide)) q217a q217c (g := (mkF m 242 #[vJ q0, sc, vJ q1, sc, vI p2, vJ jM, sc, vJ zb, sc, vJ zs, sc, vI bf, vI db, vJ zf, sc, vJ zg, sc, vI zi, vJ zm, sc, vJ zl, sc, vR b_25, vR b_28, vR b_35, vR b46, vJ zf, sc, vJ zg, sc, vJ zl, sc, vR b_198] [sI i1, sR b_198])) rfl (by rw [hml]; rfl) (Steps.refl _) (argsL := [(.int (1 : Int32))]) (rest := []) (lenOf pd_rm0_7 rfl) rfl (by show 2 * 0 + _ ≤ _; exact Nat.le_of_eq rfl) (hb hby at_242) (fun _ _ => ⟨rfl, e214, (by decide : 23 + 0 ≤ _), (by decide : 1204 + 0 ≤ _)⟩)
  dsimp only [Pt.U, Pt.locs, Pt.cells, Pt.slots] at X217 l217 y217 z217 st217 hQ217
  rw [l217, y217, z217] at X217
  obtain ⟨rfl, N217q, e217⟩ := hQ217
  have N217 := Fr.app N214 N217q
  have go219 := go216.st T217 (mkF m 254 #[vJ q0, sc, vJ q1, sc, vI p2, vJ jM, sc, vJ zb, sc, vJ zs, sc, vI bf, vI db, vJ zf, sc, vJ zg, sc, vI zi, vJ zm, sc, vJ zl, sc, vR b_25, vR b_28, vR b_35, vR b46, vJ zf, sc, vJ zg, sc, vJ zl, sc, vR b_198] [sI i2, sR b_198]) (fun t k => by
    refine st217.trans ?_
    show SP p e below T217 (mkF m 245 #[vJ q0, sc, vJ q1, sc, vI p2, vJ jM, sc, vJ zb, sc, vJ zs, sc, vI bf, vI db, vJ zf, sc, vJ zg, sc, vI zi, vJ zm, sc, vJ zl, sc, vR b_25, vR b_28, vR b_35, vR b46, vJ zf, sc, vJ zg, sc, vJ zl, sc, vR b_198] [sJ zg]) _
    refine XS.lload X217.here hx rfl (hb hby at_245) rfl ?_
    refine XS.lcmp X217.here hx rfl (hb hby at_247) rfl ?_
    refine XS.ifNo X217.here hx rfl (hb hby at_248) rfl ((if0 _ _).trans (teq ((lw_eq _ _).mpr (rfl : zg = zg))).2) ?_
    refine XS.aload X217.here hx rfl (hb hby at_251) rfl rfl ?_
    refine XS.iconst X217.here hx rfl (hb hby at_253) ?_
    exact k)
  obtain ⟨cq220, kq220, q220a, q220b, q220c⟩ := isOf hZ e217 qp198_0
  obtain ⟨_, _, ⟨T220, L220, k220, n220⟩, -, X220, ⟨Lc220, hQ220, l220, y220, z220⟩, st220⟩ := X217.virtualBack hx (y := yN42) (z := yN42) hown (mvT hZ (wD hw 269 rfl)) (mvT hZ (wD hw 270 rfl)) (notFace_of_selects (args := #[]) (mvT hZ (wD hw 272 rfl))) (mvT hZ (wD hw 272 rfl)) (mvT hZ (wD hw 271 rfl)) (by decide) (backOf (W := 0) (rm_un2 l Z a0 hw [] b_198 ub_198 ku_198 zf zg zl T198.heap n0 Z198 qp198_1 qp198_2) hZ (wD hw 273 rfl) (wD hw 170 rfl) (by decide) (by decide)) q220a q220c (g := (mkF m 254 #[vJ q0, sc, vJ q1, sc, vI p2, vJ jM, sc, vJ zb, sc, vJ zs, sc, vI bf, vI db, vJ zf, sc, vJ zg, sc, vI zi, vJ zm, sc, vJ zl, sc, vR b_25, vR b_28, vR b_35, vR b46, vJ zf, sc, vJ zg, sc, vJ zl, sc, vR b_198] [sI i2, sR b_198])) rfl (by rw [hml]; rfl) (Steps.refl _) (argsL := [(.int (2 : Int32))]) (rest := []) (lenOf pd_rm0_7 rfl) rfl (by show 2 * 0 + _ ≤ _; exact Nat.le_of_eq rfl) (hb hby at_254) (fun _ _ => ⟨rfl, e217, (by decide : 23 + 0 ≤ _), (by decide : 1204 + 0 ≤ _)⟩)
  dsimp only [Pt.U, Pt.locs, Pt.cells, Pt.slots] at X220 l220 y220 z220 st220 hQ220
  rw [l220, y220, z220] at X220
  obtain ⟨rfl, N220q, e220⟩ := hQ220
  have N220 := Fr.app N217 N220q
  have go222 := go219.st T220 (mkF m 268 #[vJ q0, sc, vJ q1, sc, vI p2, vJ jM, sc, vJ zb, sc, vJ zs, sc, vI bf, vI db, vJ zf, sc, vJ zg, sc, vI zi, vJ zm, sc, vJ zl, sc, vR b_25, vR b_28, vR b_35, vR b46, vJ zf, sc, vJ zg, sc, vJ zl, sc, vR b_198] [sI i1]) (fun t k => by
    refine st220.trans ?_
    show SP p e below T220 (mkF m 257 #[vJ q0, sc, vJ q1, sc, vI p2, vJ jM, sc, vJ zb, sc, vJ zs, sc, vI bf, vI db, vJ zf, sc, vJ zg, sc, vI zi, vJ zm, sc, vJ zl, sc, vR b_25, vR b_28, vR b_35, vR b46, vJ zf, sc, vJ zg, sc, vJ zl, sc, vR b_198] [sJ zl]) _
    refine XS.lload X220.here hx rfl (hb hby at_257) rfl ?_
    refine XS.lcmp X220.here hx rfl (hb hby at_259) rfl ?_
    refine XS.ifNo X220.here hx rfl (hb hby at_260) rfl ((if0 _ _).trans (teq ((lw_eq _ _).mpr (rfl : zl = zl))).2) ?_
    refine XS.iconst X220.here hx rfl (hb hby at_263) ?_
    refine XS.goto X220.here hx rfl (pc0 := 264) (pc' := 268) rfl (hb hby at_264) (by decide) (by decide) ?_
    exact k)
  obtain ⟨fs, hr, hrun, hended, hW⟩ := Stand.leaveW (s := s) X220 hS84 (by rw [e220]; exact Nat.le_trans hk84 (Nat.le_trans qp107_7 (Nat.le_of_lt f206.lt))) (v := some (.int (1 : Int32))) (fun h => by rw [Bd.returns] at h; cases h)
  refine ⟨_, _, go222 _ ?_, hrun, hended, _, _, rfl, ?_, hW.1, hW.2.1, hW.2.2.1, hW.2.2.2.mono (by decide) (by decide)⟩
  · exact retN X220 hx (t := .boolean) Bd.returns (by simp) (hb hby at_268) hr
  · show Q_rm0 Z q0 q1 p2 cs vf pw kp ps zr h0 n0 _ T220.heap _
    exact ⟨rfl, N220⟩
theorem own_fld {args : Array Value} {s : State} {t : Term} {a : Addr} {C n : String} {z : Int32} (ev : t.eval args s none [] s = some (.ref a)) (h : (Jvm.Cond.eq (Term.field t C n "I") (Term.int z)).value args s none s [] = some true) : s.fieldOf? a C n "I" = some (.int z) := by
  obtain ⟨x, y, h1, h2, h3, h4⟩ := cmp_v (Or.inl h)
  rw [fld_at ev] at h1
  rw [Term.int_eval] at h2
  cases h2
  obtain ⟨w, rfl⟩ := h4
  have q : (Term.field t C n "I").eval args s none [] s = some (.int w) := by rw [fld_at ev]; exact h1
  simp [Cond.value, q, Term.int_eval] at h
  subst h
  exact h1
theorem own_arr {args : Array Value} {s : State} {t : Term} {ty : FieldType} {z : Int32} (dv : Value) (hf : Fit s) (h1 : (Jvm.Cond.arrayOf t ty).value args s none s [] = some true) (h2 : (Jvm.Cond.eq (Term.length t) (Term.int z)).value args s none s [] = some true) (hz : ¬ z < 0) :
    ∃ (a : Addr) (cl : Cell), t.eval args s none [] s = some (.ref a) ∧ s.heap[a]? = some cl ∧ cl.slots.size = z.toNatClampNeg ∧ Arv s s.heap a cl.cls ty z cl.slots.toList dv := by
  obtain ⟨a, ev⟩ := arr_v h1
  obtain ⟨cl, A⟩ := Arr.start ev h1
  obtain ⟨x, y, e1, e2, -, e4⟩ := cmp_v (Or.inl h2)
  rw [Term.int_eval] at e2
  cases e2
  obtain ⟨w, rfl⟩ := e4
  have hw : w = z := by simp [Cond.value, e1, Term.int_eval] at h2; exact h2
  subst hw
  have ha : s.arrayAt? a = some cl := Arr.fin (State.Warmed39.refl s).alike A
  have hq : cl.slots.size < 2 ^ 31 := by
    by_cases q : cl.slots.size < 2 ^ 31
    · exact q
    · exact absurd e1 (by simp [Term.eval, ev, ha]; omega)
  have e : cl.slots.size.toInt32 = w := by
    obtain ⟨cell, c1, c2⟩ := length_at e1 ev
    cases A.1.symm.trans c1
    exact c2
  have S : cl.slots.size = w.toNatClampNeg := by rw [← e]; simp only [Int32.toNatClampNeg, len_toInt hq]; rfl
  have H : Jvm.RoadKit.Has cl cl.slots.toList dv := fun k hk => by simp [List.getD, hk]
  refine ⟨a, cl, ev, A.1, S, cl, A, rfl, S, hz, H, fun j hj => ?_⟩
  have e1 : (Nat.toInt32 j).toNatClampNeg = j := by simp only [Int32.toNatClampNeg, len_toInt (Nat.lt_trans hj hq)]; rfl
  exact elem_fits (j := Nat.toInt32 j) hf A (idx_in hj hq) (by rw [e1]; exact H j hj)
theorem own_el {args : Array Value} {s : State} {t : Term} {a : Addr} {cl : Cell} {k : Int32} {v : Value} (dv : Value) (ev : t.eval args s none [] s = some (.ref a)) (hc : s.heap[a]? = some cl) (h : (Term.elem t (Term.int k)).eval args s none [] s = some v) : cl.slots.toList.getD k.toNatClampNeg dv = v := by
  have q := (elem_in h ev (Term.int_eval k) hc).2
  rw [List.getD_eq_getElem?_getD, Array.getElem?_toList, q]; rfl
theorem own_elJ {args : Array Value} {s : State} {t : Term} {z : Int64} (h : (Jvm.Cond.eq t (Term.long z)).value args s none s [] = some true) : t.eval args s none [] s = some (.long z) := by
  obtain ⟨x, y, h1, h2, h3, h4⟩ := cmp_v (Or.inl h)
  have h2' : (Term.long z).eval args s none [] s = some (.long z) := rfl
  rw [h2'] at h2
  cases h2
  obtain ⟨w, rfl⟩ := h4
  have q := h1
  simp [Cond.value, q, h2'] at h
  subst h
  exact h1
theorem own_arr1 {args : Array Value} {s : State} {t : Term} (hf : Fit s) (h1 : (Jvm.Cond.arrayOf t .int).value args s none s [] = some true) (h2 : (Jvm.Cond.eq (Term.length t) (Term.int (1 : Int32))).value args s none s [] = some true) :
    ∃ (a : Addr) (k : ClassId) (w : Int32), t.eval args s none [] s = some (.ref a) ∧ Arv s s.heap a k .int (1 : Int32) [.int w] (.int (0 : Int32)) := by
  obtain ⟨a, cl, ev, hc, S, V⟩ := own_arr (.int (0 : Int32)) hf h1 h2 (by decide)
  have hl : cl.slots.toList.length = 1 := by rw [Array.length_toList, S]; rfl
  obtain ⟨v, hv⟩ := List.length_eq_one_iff.mp hl
  rw [hv] at V
  obtain ⟨c', A, q1, q2, q3, H, G⟩ := V
  have g := G 0 (by rw [q2]; decide)
  have g' : fits .int v = true := g
  cases v with
  | int w => exact ⟨a, _, w, ev, c', A, q1, q2, q3, H, G⟩
  | _ => simp [fits] at g'
theorem own_pc1 {args : Array Value} {s : State} {t : Term} (hf : Fit s) (hE : (Jvm.Cond.exactly t "java/math/BigInteger").value args s none s [] = some true) (hS : (Jvm.Cond.eq (Term.field t "java/math/BigInteger" "signum" "I") (Term.int (1 : Int32))).value args s none s [] = some true)
    (hA : (Jvm.Cond.arrayOf (Term.field t "java/math/BigInteger" "mag" "[I") .int).value args s none s [] = some true) (hL : (Jvm.Cond.eq (Term.length (Term.field t "java/math/BigInteger" "mag" "[I")) (Term.int (1 : Int32))).value args s none s [] = some true) :
    ∃ (r mg : Addr) (km : ClassId) (w : Int32), t.eval args s none [] s = some (.ref r) ∧ Exa s s.heap r "java/math/BigInteger" ∧ Fld s s.heap r "java/math/BigInteger" "signum" "I" (.int (1 : Int32)) ∧ Fld s s.heap r "java/math/BigInteger" "mag" "[I" (.ref mg) ∧ Arv s s.heap mg km .int (1 : Int32) [.int w] (.int (0 : Int32)) := by
  obtain ⟨r, er⟩ := exa_v hE
  obtain ⟨mg, km, w, em, Vm⟩ := own_arr1 hf hA hL
  rw [fld_at er] at em
  exact ⟨r, mg, km, w, er, Exa.start er hE, Fld.start (own_fld er hS), Fld.start em, Vm⟩
set_option maxRecDepth 65536 in
set_option maxHeartbeats 40000000 in
theorem comes_1 {Post : Tables → Env → Array Value → State → Outcome → State → Prop} (hpost : ∀ tb e args s v u, (limb_1_1.after args s (.returned v) u = true ∧ limb_1_2.after args s (.returned v) u = true ∧ True) → ReturnedEndW s (.returned v) u (Jvm.fieldLocs frame_1_writes args s ++ Jvm.arrayLocs frame_1_arrays args s ++ Jvm.staticLocs frame_1_statics s) 56 4544 → Post tb e args s (.returned v) u) :
    ArmFor flags0 classFile x code maxLocals ret World_1 tables_1 room_1 Calls_1 rest_1 Pre_1 Post := by
  intro l hfl _ _ p e ha hc hk s m args below hf hA hF happ hP
  obtain ⟨hcalls, hrest, hpre⟩ := hP
  obtain ⟨-, -, -, hnamed, -, -, -, hat⟩ := (Spec.applies_iff hf).mp happ
  obtain ⟨hg, hn⟩ := and_e (Cond.before_iff.mp (show (Jvm.Cond.and given_1 narrow_1).before args s = true from hpre))
  obtain ⟨gg0, gr0⟩ := and_e hg
  obtain ⟨gg1, gr1⟩ := and_e gr0
  obtain ⟨gg2, gr2⟩ := and_e gr1
  obtain ⟨w0, w1, w2, rfl⟩ : ∃ w0 w1 w2 : Value, args = #[w0, w1, w2] := by
    have hs : args.size = 3 := by simpa [Cond.value, given_1] using gg0
    obtain ⟨L⟩ := args
    match L, hs with
    | [w0, w1, w2], _ => exact ⟨w0, w1, w2, rfl⟩
  have hw := fun d (hd : d ∈ tables_1) => atoms_spec (ws := Jvm.Cond.code x code maxLocals ret :: tables_1) hat d (List.mem_cons_of_mem _ hd)
  have hfit : Fit s := fun {y c} hc i hi => by
    obtain ⟨ha, rfl⟩ := Array.getElem?_eq_some_iff.mp hc
    have q := List.all_eq_true.mp ((Array.all_eq_true_iff_forall_mem.mp hF) _ (Array.getElem_mem ha)) i (List.mem_range.mpr hi)
    simpa [Array.getElem?_eq_getElem hi] using q
  obtain ⟨hsets, hown0⟩ := atoms_of _ (rest_1_c_eq ▸ (show rest_1_c.before _ s = true from hrest))
  have hr0 := Cond.before_iff.mp hown0
  obtain ⟨i0, ei0⟩ := isL_v gg1
  obtain rfl : w0 = (.long i0) := Option.some.inj ei0
  obtain ⟨i1, ei1⟩ := isL_v gg2
  obtain rfl : w1 = (.long i1) := Option.some.inj ei1
  obtain ⟨i2, ei2⟩ := is_v gr2
  obtain rfl : w2 = (.int i2) := Option.some.inj ei2
  have k1 := (Cond.before_iff.mp (hsets _ (List.mem_of_getElem? (i := 1) rfl)))
  obtain ⟨cs, ecs⟩ := is_v k1
  have S_cs : Sta s s.heap "java/lang/String" "COMPACT_STRINGS" "Z" (.int cs) := Sta.start ecs (Or.inl (hsets _ (List.mem_of_getElem? (i := 0) rfl)))
  have k2 := not_v (Cond.before_iff.mp (hsets _ (List.mem_of_getElem? (i := 2) rfl)))
  have hcs : ¬ cs = (0 : Int32) := fun q => by
    subst q
    simp [Cond.value, ecs, Term.int_eval] at k2
  obtain ⟨vf, evf, hvf⟩ := isR_v (Cond.before_iff.mp (hsets _ (List.mem_of_getElem? (i := 8) rfl)))
  have S_sf : Sta s s.heap "jdk/internal/util/Preconditions" "SIOOBE_FORMATTER" "Ljava/util/function/BiFunction;" vf := Sta.start evf (Or.inl (hsets _ (List.mem_of_getElem? (i := 7) rfl)))
  obtain ⟨w1, hn1⟩ := and_e hn
  obtain ⟨w2, hn2⟩ := and_e hn1
  obtain ⟨w3, -⟩ := and_e hn2
  obtain ⟨pw, clp, epw, hcp, -, V_pw⟩ := own_arr (.long (0 : Int64)) hfit w1 w2 (by decide)
  have S_pw : Sta s s.heap "com/example/equipoise/equipoise/WeightList" "POWERS_OF_TEN" "[J" (.ref pw) := Sta.start epw (Or.inr ⟨(wD hw 170 rfl), (wD hw 173 rfl)⟩)
  have hps := own_el (.long (0 : Int64)) epw hcp (own_elJ w3)
  have z1 := (Cond.before_iff.mp (hsets _ (List.mem_of_getElem? (i := 11) rfl)))
  obtain ⟨zr, ezr⟩ := exa_v z1
  have S_zr : Sta s s.heap "java/math/BigInteger" "ZERO" "Ljava/math/BigInteger;" (.ref zr) := Sta.start ezr (Or.inl (hsets _ (List.mem_of_getElem? (i := 10) rfl)))
  have E_zr := Exa.start ezr z1
  have F_zr := Fld.start (own_fld ezr (Cond.before_iff.mp (hsets _ (List.mem_of_getElem? (i := 12) rfl))))
  have hPC : own_PC s := by
    obtain ⟨pa, cla, epa, hca, -, V_pa⟩ := own_arr .null hfit (Cond.before_iff.mp (hsets _ (List.mem_of_getElem? (i := 24) rfl))) (Cond.before_iff.mp (hsets _ (List.mem_of_getElem? (i := 26) rfl))) (by decide)
    refine ⟨pa, _, _, Sta.start epa (Or.inl (hsets _ (List.mem_of_getElem? (i := 17) rfl))), V_pa, fun i h1 h2 => ?_⟩
    match i, h1, h2 with
    | 0, h, _ => exact absurd h (by decide)
    | 1, _, _ =>
      obtain ⟨r, mg, km, w, er, q1, q2, q3, q4⟩ := own_pc1 hfit (Cond.before_iff.mp (hsets _ (List.mem_of_getElem? (i := 28) rfl))) (Cond.before_iff.mp (hsets _ (List.mem_of_getElem? (i := 29) rfl))) (Cond.before_iff.mp (hsets _ (List.mem_of_getElem? (i := 30) rfl))) (Cond.before_iff.mp (hsets _ (List.mem_of_getElem? (i := 32) rfl)))
      exact ⟨r, mg, km, w, own_el .null epa hca er, q1, q2, q3, q4⟩
    | 2, _, _ =>
      obtain ⟨r, mg, km, w, er, q1, q2, q3, q4⟩ := own_pc1 hfit (Cond.before_iff.mp (hsets _ (List.mem_of_getElem? (i := 35) rfl))) (Cond.before_iff.mp (hsets _ (List.mem_of_getElem? (i := 36) rfl))) (Cond.before_iff.mp (hsets _ (List.mem_of_getElem? (i := 37) rfl))) (Cond.before_iff.mp (hsets _ (List.mem_of_getElem? (i := 39) rfl)))
      exact ⟨r, mg, km, w, own_el .null epa hca er, q1, q2, q3, q4⟩
    | 3, _, _ =>
      obtain ⟨r, mg, km, w, er, q1, q2, q3, q4⟩ := own_pc1 hfit (Cond.before_iff.mp (hsets _ (List.mem_of_getElem? (i := 41) rfl))) (Cond.before_iff.mp (hsets _ (List.mem_of_getElem? (i := 42) rfl))) (Cond.before_iff.mp (hsets _ (List.mem_of_getElem? (i := 43) rfl))) (Cond.before_iff.mp (hsets _ (List.mem_of_getElem? (i := 45) rfl)))
      exact ⟨r, mg, km, w, own_el .null epa hca er, q1, q2, q3, q4⟩
    | 4, _, _ =>
      obtain ⟨r, mg, km, w, er, q1, q2, q3, q4⟩ := own_pc1 hfit (Cond.before_iff.mp (hsets _ (List.mem_of_getElem? (i := 47) rfl))) (Cond.before_iff.mp (hsets _ (List.mem_of_getElem? (i := 48) rfl))) (Cond.before_iff.mp (hsets _ (List.mem_of_getElem? (i := 49) rfl))) (Cond.before_iff.mp (hsets _ (List.mem_of_getElem? (i := 51) rfl)))
      exact ⟨r, mg, km, w, own_el .null epa hca er, q1, q2, q3, q4⟩
    | 5, _, _ =>
      obtain ⟨r, mg, km, w, er, q1, q2, q3, q4⟩ := own_pc1 hfit (Cond.before_iff.mp (hsets _ (List.mem_of_getElem? (i := 53) rfl))) (Cond.before_iff.mp (hsets _ (List.mem_of_getElem? (i := 54) rfl))) (Cond.before_iff.mp (hsets _ (List.mem_of_getElem? (i := 55) rfl))) (Cond.before_iff.mp (hsets _ (List.mem_of_getElem? (i := 57) rfl)))
      exact ⟨r, mg, km, w, own_el .null epa hca er, q1, q2, q3, q4⟩
    | 6, _, _ =>
      obtain ⟨r, mg, km, w, er, q1, q2, q3, q4⟩ := own_pc1 hfit (Cond.before_iff.mp (hsets _ (List.mem_of_getElem? (i := 59) rfl))) (Cond.before_iff.mp (hsets _ (List.mem_of_getElem? (i := 60) rfl))) (Cond.before_iff.mp (hsets _ (List.mem_of_getElem? (i := 61) rfl))) (Cond.before_iff.mp (hsets _ (List.mem_of_getElem? (i := 63) rfl)))
      exact ⟨r, mg, km, w, own_el .null epa hca er, q1, q2, q3, q4⟩
    | 7, _, _ =>
      obtain ⟨r, mg, km, w, er, q1, q2, q3, q4⟩ := own_pc1 hfit (Cond.before_iff.mp (hsets _ (List.mem_of_getElem? (i := 65) rfl))) (Cond.before_iff.mp (hsets _ (List.mem_of_getElem? (i := 66) rfl))) (Cond.before_iff.mp (hsets _ (List.mem_of_getElem? (i := 67) rfl))) (Cond.before_iff.mp (hsets _ (List.mem_of_getElem? (i := 69) rfl)))
      exact ⟨r, mg, km, w, own_el .null epa hca er, q1, q2, q3, q4⟩
    | 8, _, _ =>
      obtain ⟨r, mg, km, w, er, q1, q2, q3, q4⟩ := own_pc1 hfit (Cond.before_iff.mp (hsets _ (List.mem_of_getElem? (i := 71) rfl))) (Cond.before_iff.mp (hsets _ (List.mem_of_getElem? (i := 72) rfl))) (Cond.before_iff.mp (hsets _ (List.mem_of_getElem? (i := 73) rfl))) (Cond.before_iff.mp (hsets _ (List.mem_of_getElem? (i := 75) rfl)))
      exact ⟨r, mg, km, w, own_el .null epa hca er, q1, q2, q3, q4⟩
    | 9, _, _ =>
      obtain ⟨r, mg, km, w, er, q1, q2, q3, q4⟩ := own_pc1 hfit (Cond.before_iff.mp (hsets _ (List.mem_of_getElem? (i := 77) rfl))) (Cond.before_iff.mp (hsets _ (List.mem_of_getElem? (i := 78) rfl))) (Cond.before_iff.mp (hsets _ (List.mem_of_getElem? (i := 79) rfl))) (Cond.before_iff.mp (hsets _ (List.mem_of_getElem? (i := 81) rfl)))
      exact ⟨r, mg, km, w, own_el .null epa hca er, q1, q2, q3, q4⟩
    | 10, _, _ =>
      obtain ⟨r, mg, km, w, er, q1, q2, q3, q4⟩ := own_pc1 hfit (Cond.before_iff.mp (hsets _ (List.mem_of_getElem? (i := 84) rfl))) (Cond.before_iff.mp (hsets _ (List.mem_of_getElem? (i := 85) rfl))) (Cond.before_iff.mp (hsets _ (List.mem_of_getElem? (i := 86) rfl))) (Cond.before_iff.mp (hsets _ (List.mem_of_getElem? (i := 88) rfl)))
      exact ⟨r, mg, km, w, own_el .null epa hca er, q1, q2, q3, q4⟩
    | 11, _, _ =>
      obtain ⟨r, mg, km, w, er, q1, q2, q3, q4⟩ := own_pc1 hfit (Cond.before_iff.mp (hsets _ (List.mem_of_getElem? (i := 90) rfl))) (Cond.before_iff.mp (hsets _ (List.mem_of_getElem? (i := 91) rfl))) (Cond.before_iff.mp (hsets _ (List.mem_of_getElem? (i := 92) rfl))) (Cond.before_iff.mp (hsets _ (List.mem_of_getElem? (i := 94) rfl)))
      exact ⟨r, mg, km, w, own_el .null epa hca er, q1, q2, q3, q4⟩
    | 12, _, _ =>
      obtain ⟨r, mg, km, w, er, q1, q2, q3, q4⟩ := own_pc1 hfit (Cond.before_iff.mp (hsets _ (List.mem_of_getElem? (i := 96) rfl))) (Cond.before_iff.mp (hsets _ (List.mem_of_getElem? (i := 97) rfl))) (Cond.before_iff.mp (hsets _ (List.mem_of_getElem? (i := 98) rfl))) (Cond.before_iff.mp (hsets _ (List.mem_of_getElem? (i := 100) rfl)))
      exact ⟨r, mg, km, w, own_el .null epa hca er, q1, q2, q3, q4⟩
    | 13, _, _ =>
      obtain ⟨r, mg, km, w, er, q1, q2, q3, q4⟩ := own_pc1 hfit (Cond.before_iff.mp (hsets _ (List.mem_of_getElem? (i := 102) rfl))) (Cond.before_iff.mp (hsets _ (List.mem_of_getElem? (i := 103) rfl))) (Cond.before_iff.mp (hsets _ (List.mem_of_getElem? (i := 104) rfl))) (Cond.before_iff.mp (hsets _ (List.mem_of_getElem? (i := 106) rfl)))
      exact ⟨r, mg, km, w, own_el .null epa hca er, q1, q2, q3, q4⟩
    | 14, _, _ =>
      obtain ⟨r, mg, km, w, er, q1, q2, q3, q4⟩ := own_pc1 hfit (Cond.before_iff.mp (hsets _ (List.mem_of_getElem? (i := 108) rfl))) (Cond.before_iff.mp (hsets _ (List.mem_of_getElem? (i := 109) rfl))) (Cond.before_iff.mp (hsets _ (List.mem_of_getElem? (i := 110) rfl))) (Cond.before_iff.mp (hsets _ (List.mem_of_getElem? (i := 112) rfl)))
      exact ⟨r, mg, km, w, own_el .null epa hca er, q1, q2, q3, q4⟩
    | 15, _, _ =>
      obtain ⟨r, mg, km, w, er, q1, q2, q3, q4⟩ := own_pc1 hfit (Cond.before_iff.mp (hsets _ (List.mem_of_getElem? (i := 114) rfl))) (Cond.before_iff.mp (hsets _ (List.mem_of_getElem? (i := 115) rfl))) (Cond.before_iff.mp (hsets _ (List.mem_of_getElem? (i := 116) rfl))) (Cond.before_iff.mp (hsets _ (List.mem_of_getElem? (i := 118) rfl)))
      exact ⟨r, mg, km, w, own_el .null epa hca er, q1, q2, q3, q4⟩
    | 16, _, _ =>
      obtain ⟨r, mg, km, w, er, q1, q2, q3, q4⟩ := own_pc1 hfit (Cond.before_iff.mp (hsets _ (List.mem_of_getElem? (i := 120) rfl))) (Cond.before_iff.mp (hsets _ (List.mem_of_getElem? (i := 121) rfl))) (Cond.before_iff.mp (hsets _ (List.mem_of_getElem? (i := 122) rfl))) (Cond.before_iff.mp (hsets _ (List.mem_of_getElem? (i := 124) rfl)))
      exact ⟨r, mg, km, w, own_el .null epa hca er, q1, q2, q3, q4⟩
    | n + 17, _, h => exact absurd h (by omega)
  obtain ⟨n, o, h1, h2, h3, _, L, rfl, ⟨rfl, N⟩, hq⟩ := rm0 l s _ hw tables_1 i0 i1 i2 cs vf pw _ _ zr s.heap s.heap.size (Nat.le_refl _) (Old.start s) S_cs hcs S_sf hvf S_pw V_pw hps S_zr E_zr F_zr hPC p e ha hc hk s m _ below hf ((Spec.applies_iff_loose hf).mp happ).1 ⟨rfl, State.Warmed39.refl s, rfl, rfl⟩ trivial
  refine ⟨n, _, h1, h2, h3, hpost _ _ _ _ _ _ ⟨Cond.after_iff.mpr rfl, Cond.after_iff.mpr (eq_i res_at (Term.int_eval (1)) rfl), trivial⟩ ⟨hq.1, hq.2.1, hq.2.2.1, (hq.2.2.2.sift fun y hy => Or.inr (N y hy)).mono (by decide) (by decide)⟩⟩
theorem main_1_1 : Claimed_1_1 := comes_1 fun _ _ _ _ _ _ h hF => ⟨h.1, hF⟩
theorem main_1_2 : Claimed_1_2 := comes_1 fun _ _ _ _ _ _ h hF => ⟨h.2.1, hF⟩
end Jvm.Pilot.@@N@@
namespace Jvm.Pilot.@@N@@
open Jvm Jvm.ClassFile Sem Op Lib Jvm.Free Jvm.Stand Jvm.Pilot.@@N@@.Jvm.D
/-! MADE BY PROGRAM (witnessworld.py) out of the Statement's table words and the real class files: 29 classes; the members and pool entries that the words name. The judged class is class 1, her method 3. -/
namespace start1
open Jvm.ClassFile
def u (s : String) : CpInfo := .utf8 (stringToUtf16 s)
/-- a pool by its gaps: so many unusable entries, then the entry; so many at the end -/
def gap : Nat → List CpInfo → List CpInfo
  | 0, r => r
  | n + 1, r => .unusable :: gap n r
def poolList (es : List (Nat × CpInfo)) (last : Nat) : List CpInfo := es.foldr (fun e r => gap e.1 (e.2 :: r)) (gap last [])
def pool (es : List (Nat × CpInfo)) (last : Nat) : Array CpInfo := ⟨poolList es last⟩
def fileOf (pool : Array CpInfo) (this : Nat) (attrs : Array Attribute := #[]) (ms : Array MethodInfo := #[]) (fl : Nat := 33) (sup : Nat := 0) (ifs : Array Nat := #[]) (fds : Array FieldInfo := #[]) : ClassFile where
  minorVersion := 0
  majorVersion := 65
  constantPool := pool
  accessFlags := fl
  thisClass := this
  superClass := sup
  interfaces := ifs
  fields := fds
  methods := ms
  attributes := attrs
def plain (name : String) (sup : Option ClassId) : Class where
  name := name
  kind := .ordinary
  loader := none
  accessFlags := 33
  super := sup
  interfaces := #[]
  cf := none
  fields := #[]
  methods := #[]
  instanceTypes := #[]
  staticTypes := #[]
  resolved := #[]
  callSites := []
  init := .initialized
  statics := none
  mirror := none

def pool0 : Array CpInfo := pool [(5, u "<init>"), (0, u "()V"), (1, .class_ 10), (1, u "java/lang/Object")] 113

def k0c0 : Code := { maxStack := 0, maxLocals := 1, code := object_method_1_code, exceptionTable := #[], attributes := #[] }
def k0m0 : Method := { name := "<init>", desc := "()V", sig := { parameters := [], returnType := none }, accessFlags := 1, code := some k0c0 }
/-- java/lang/Object -/
def k0 : Class := { plain "java/lang/Object" none with
  accessFlags := 33
  interfaces := #[]
  cf := some (fileOf pool0 8 #[] #[{ accessFlags := 1, nameIndex := 5, descriptorIndex := 6, attributes := #[] }] 33 0 #[] #[])
  fields := #[]
  methods := #[k0m0]
  instanceTypes := #[]
  staticTypes := #[]
  resolved := Array.replicate 124 none
  statics := none }

def pool1 : Array CpInfo := pool [(2, .class_ 4), (1, u "java/lang/Object"), (0, u "<init>"), (0, u "()V"), (0, .long 10), (1, .long 1000000000000000000), (1, .methodref 12 13), (0, .class_ 14), (0, .nameAndType 15 16), (0, u "com/example/equipoise/equipoise/BuilderDepartPinLaw"), (0, u "d"), (0, u "(JJ)C"), (0, .long 100000000000000000), (1, .long 10000000000000000), (1, .long 1000000000000000), (1, .long 100000000000000), (1, .long 10000000000000), (1, .long 1000000000000), (1, .long 100000000000), (1, .long 10000000000), (1, .long 1000000000), (1, .long 100000000), (1, .long 10000000), (1, .long 1000000), (1, .long 100000), (1, .long 10000), (1, .long 1000), (1, .long 100), (1, .class_ 50), (0, u "java/lang/String"), (0, .methodref 49 52), (0, .nameAndType 5 53), (0, u "([C)V"), (2, .long 9223372036854775807), (1, .methodref 59 60), (0, .class_ 61), (0, .nameAndType 62 63), (0, u "java/lang/Math"), (0, u "min"), (0, u "(JJ)J"), (0, .methodref 12 65), (0, .nameAndType 66 67), (0, u "text"), (0, u "(J)Ljava/lang/String;"), (0, .class_ 69), (0, u "com/example/equipoise/equipoise/WeightFile$Builder"), (0, .string 71), (0, u "f"), (0, .string 73), (0, u "w"), (0, .methodref 68 75), (0, .nameAndType 5 76), (0, u "(Ljava/lang/String;Ljava/lang/String;)V"), (0, .methodref 68 78), (0, .nameAndType 79 80), (0, u "add"), (0, u "(ILjava/lang/String;)J"), (0, .methodref 68 82), (0, .nameAndType 83 84), (0, u "depart"), (0, u "(I)V"), (0, .methodref 68 86), (0, .nameAndType 87 88), (0, u "build"), (0, u "()Lcom/example/equipoise/equipoise/WeightList;"), (0, .methodref 90 91), (0, .class_ 92), (0, .nameAndType 93 94), (0, u "com/example/equipoise/equipoise/WeightList"), (0, u "size"), (0, u "()I"), (0, .methodref 90 96), (0, .nameAndType 97 98), (0, u "units"), (0, u "(I)J"), (2, u "law"), (0, u "(JJI)Z")] 10

def k1m0 : Method := { name := "<init>", desc := "()V", sig := { parameters := [], returnType := none }, accessFlags := 2, code := none }
def k1c1 : Code := { maxStack := 5, maxLocals := 4, code := method_2_code, exceptionTable := #[], attributes := #[] }
def k1m1 : Method := { name := "d", desc := "(JJ)C", sig := { parameters := [.long, .long], returnType := some .char }, accessFlags := 10, code := some k1c1 }
def k1c2 : Code := { maxStack := 6, maxLocals := 3, code := method_3_code, exceptionTable := #[], attributes := #[] }
def k1m2 : Method := { name := "text", desc := "(J)Ljava/lang/String;", sig := { parameters := [.long], returnType := some (.object "java/lang/String") }, accessFlags := 10, code := some k1c2 }
def k1c3 : Code := { maxStack := 6, maxLocals := 33, code := code, exceptionTable := #[], attributes := #[] }
def k1m3 : Method := { name := "law", desc := "(JJI)Z", sig := { parameters := [.long, .long, .int], returnType := some .boolean }, accessFlags := 9, code := some k1c3 }
/-- com/example/equipoise/equipoise/BuilderDepartPinLaw -/
def k1 : Class := { plain "com/example/equipoise/equipoise/BuilderDepartPinLaw" (some 0) with
  accessFlags := 49
  interfaces := #[]
  cf := some (fileOf pool1 12 #[] #[{ accessFlags := 2, nameIndex := 5, descriptorIndex := 6, attributes := #[] }, { accessFlags := 10, nameIndex := 15, descriptorIndex := 16, attributes := #[] }, { accessFlags := 10, nameIndex := 66, descriptorIndex := 67, attributes := #[] }, { accessFlags := 9, nameIndex := 101, descriptorIndex := 102, attributes := #[] }] 49 2 #[] #[])
  fields := #[]
  methods := #[k1m0, k1m1, k1m2, k1m3]
  instanceTypes := #[]
  staticTypes := #[]
  resolved := Array.replicate 113 none
  statics := none }

def pool2 : Array CpInfo := pool [(1, .class_ 2), (0, u "java/lang/Math"), (1, .class_ 6), (1, u "java/lang/Object"), (0, u "<init>"), (0, u "()V"), (89, .class_ 100), (1, u "java/lang/Math$RandomNumberGeneratorHolder"), (17, .methodref 1 119), (0, .nameAndType 120 121), (0, u "multiplyExact"), (0, u "(JJ)J"), (0, .methodref 1 123), (0, .nameAndType 124 125), (0, u "abs"), (0, u "(J)J"), (2, .long 9223372036854775808), (43, u "negativeZeroFloatBits"), (0, u "J"), (2, u "negativeZeroDoubleBits"), (21, u "max"), (2, u "min"), (43, u "$assertionsDisabled"), (0, u "Z"), (88, u "(II)I"), (2, u "twoToTheDoubleScaleDown"), (0, u "D"), (4, u "twoToTheDoubleScaleUp"), (9, u "E"), (3, u "PI"), (2, u "TAU"), (2, u "DEGREES_TO_RADIANS"), (0, u "RADIANS_TO_DEGREES"), (27, u "addExact"), (1, u "(JI)J")] 64

def k2m0 : Method := { name := "<init>", desc := "()V", sig := { parameters := [], returnType := none }, accessFlags := 2, code := none }
def k2c1 : Code := { maxStack := 6, maxLocals := 6, code := jdk_29_method_25_code, exceptionTable := #[], attributes := #[] }
def k2m1 : Method := { name := "addExact", desc := "(JJ)J", sig := { parameters := [.long, .long], returnType := some .long }, accessFlags := 9, code := some k2c1 }
def k2c2 : Code := { maxStack := 4, maxLocals := 3, code := jdk_29_method_29_code, exceptionTable := #[], attributes := #[] }
def k2m2 : Method := { name := "multiplyExact", desc := "(JI)J", sig := { parameters := [.long, .int], returnType := some .long }, accessFlags := 9, code := some k2c2 }
def k2c3 : Code := { maxStack := 4, maxLocals := 10, code := jdk_29_method_30_code, exceptionTable := #[], attributes := #[] }
def k2m3 : Method := { name := "multiplyExact", desc := "(JJ)J", sig := { parameters := [.long, .long], returnType := some .long }, accessFlags := 9, code := some k2c3 }
def k2c4 : Code := { maxStack := 4, maxLocals := 2, code := jdk_29_method_61_code, exceptionTable := #[], attributes := #[] }
def k2m4 : Method := { name := "abs", desc := "(J)J", sig := { parameters := [.long], returnType := some .long }, accessFlags := 9, code := some k2c4 }
def k2c5 : Code := { maxStack := 2, maxLocals := 2, code := jdk_29_method_65_code, exceptionTable := #[], attributes := #[] }
def k2m5 : Method := { name := "max", desc := "(II)I", sig := { parameters := [.int, .int], returnType := some .int }, accessFlags := 9, code := some k2c5 }
def k2c6 : Code := { maxStack := 4, maxLocals := 4, code := jdk_29_method_66_code, exceptionTable := #[], attributes := #[] }
def k2m6 : Method := { name := "max", desc := "(JJ)J", sig := { parameters := [.long, .long], returnType := some .long }, accessFlags := 9, code := some k2c6 }
def k2c7 : Code := { maxStack := 2, maxLocals := 2, code := jdk_29_method_69_code, exceptionTable := #[], attributes := #[] }
def k2m7 : Method := { name := "min", desc := "(II)I", sig := { parameters := [.int, .int], returnType := some .int }, accessFlags := 9, code := some k2c7 }
def k2c8 : Code := { maxStack := 4, maxLocals := 4, code := jdk_29_method_70_code, exceptionTable := #[], attributes := #[] }
def k2m8 : Method := { name := "min", desc := "(JJ)J", sig := { parameters := [.long, .long], returnType := some .long }, accessFlags := 9, code := some k2c8 }
/-- java/lang/Math -/
def k2 : Class := { plain "java/lang/Math" (some 0) with
  accessFlags := 49
  interfaces := #[]
  cf := some (fileOf pool2 1 #[.nestMembers #[98]] #[{ accessFlags := 2, nameIndex := 7, descriptorIndex := 8, attributes := #[] }, { accessFlags := 9, nameIndex := 393, descriptorIndex := 121, attributes := #[] }, { accessFlags := 9, nameIndex := 120, descriptorIndex := 395, attributes := #[] }, { accessFlags := 9, nameIndex := 120, descriptorIndex := 121, attributes := #[] }, { accessFlags := 9, nameIndex := 124, descriptorIndex := 125, attributes := #[] }, { accessFlags := 9, nameIndex := 198, descriptorIndex := 335, attributes := #[] }, { accessFlags := 9, nameIndex := 198, descriptorIndex := 121, attributes := #[] }, { accessFlags := 9, nameIndex := 201, descriptorIndex := 335, attributes := #[] }, { accessFlags := 9, nameIndex := 201, descriptorIndex := 121, attributes := #[] }] 49 4 #[] #[{ accessFlags := 25, nameIndex := 354, descriptorIndex := 339, attributes := #[] }, { accessFlags := 25, nameIndex := 358, descriptorIndex := 339, attributes := #[] }, { accessFlags := 25, nameIndex := 361, descriptorIndex := 339, attributes := #[] }, { accessFlags := 26, nameIndex := 364, descriptorIndex := 339, attributes := #[] }, { accessFlags := 26, nameIndex := 365, descriptorIndex := 339, attributes := #[] }, { accessFlags := 26, nameIndex := 172, descriptorIndex := 173, attributes := #[] }, { accessFlags := 26, nameIndex := 176, descriptorIndex := 173, attributes := #[] }, { accessFlags := 8, nameIndex := 344, descriptorIndex := 339, attributes := #[] }, { accessFlags := 8, nameIndex := 338, descriptorIndex := 339, attributes := #[] }, { accessFlags := 4120, nameIndex := 245, descriptorIndex := 246, attributes := #[] }])
  fields := #[{ name := "E", type := .double, accessFlags := 25, slot := 0, constantValue := 0 }, { name := "PI", type := .double, accessFlags := 25, slot := 1, constantValue := 0 }, { name := "TAU", type := .double, accessFlags := 25, slot := 2, constantValue := 0 }, { name := "DEGREES_TO_RADIANS", type := .double, accessFlags := 26, slot := 3, constantValue := 0 }, { name := "RADIANS_TO_DEGREES", type := .double, accessFlags := 26, slot := 4, constantValue := 0 }, { name := "negativeZeroFloatBits", type := .long, accessFlags := 26, slot := 5, constantValue := 0 }, { name := "negativeZeroDoubleBits", type := .long, accessFlags := 26, slot := 6, constantValue := 0 }, { name := "twoToTheDoubleScaleUp", type := .double, accessFlags := 8, slot := 7, constantValue := 0 }, { name := "twoToTheDoubleScaleDown", type := .double, accessFlags := 8, slot := 8, constantValue := 0 }, { name := "$assertionsDisabled", type := .boolean, accessFlags := 4120, slot := 9, constantValue := 0 }]
  methods := #[k2m0, k2m1, k2m2, k2m3, k2m4, k2m5, k2m6, k2m7, k2m8]
  instanceTypes := #[]
  staticTypes := #[.double, .double, .double, .double, .double, .long, .long, .double, .double, .boolean]
  resolved := Array.replicate 460 none
  statics := none }

def pool3 : Array CpInfo := pool [(1, .class_ 2), (0, u "java/io/Serializable"), (0, .class_ 4), (0, u "java/lang/Object")] 2

/-- java/io/Serializable -/
def k3 : Class := { plain "java/io/Serializable" (some 0) with
  accessFlags := 1537
  interfaces := #[]
  cf := some (fileOf pool3 1 #[] #[] 1537 3 #[] #[])
  fields := #[]
  methods := #[]
  instanceTypes := #[]
  staticTypes := #[]
  resolved := Array.replicate 7 none
  statics := none }

def pool4 : Array CpInfo := pool [(1, .class_ 2), (0, u "java/lang/Comparable"), (0, .class_ 4), (0, u "java/lang/Object")] 7

/-- java/lang/Comparable -/
def k4 : Class := { plain "java/lang/Comparable" (some 0) with
  accessFlags := 1537
  interfaces := #[]
  cf := some (fileOf pool4 1 #[] #[] 1537 3 #[] #[])
  fields := #[]
  methods := #[]
  instanceTypes := #[]
  staticTypes := #[]
  resolved := Array.replicate 12 none
  statics := none }

def pool5 : Array CpInfo := pool [(2, .class_ 4), (1, u "java/lang/CharSequence"), (42, .class_ 48), (0, u "java/lang/CharSequence$1CodePointIterator"), (10, .class_ 60), (0, u "java/lang/CharSequence$1CharIterator"), (5, .class_ 67), (0, u "java/lang/Object")] 63

/-- java/lang/CharSequence -/
def k5 : Class := { plain "java/lang/CharSequence" (some 0) with
  accessFlags := 1537
  interfaces := #[]
  cf := some (fileOf pool5 2 #[.nestMembers #[47, 59]] #[] 1537 66 #[] #[])
  fields := #[]
  methods := #[]
  instanceTypes := #[]
  staticTypes := #[]
  resolved := Array.replicate 131 none
  statics := none }

def pool6 : Array CpInfo := pool [(1, .class_ 2), (0, u "java/lang/constant/Constable"), (0, .class_ 4), (0, u "java/lang/Object")] 6

/-- java/lang/constant/Constable -/
def k6 : Class := { plain "java/lang/constant/Constable" (some 0) with
  accessFlags := 1537
  interfaces := #[]
  cf := some (fileOf pool6 1 #[] #[] 1537 3 #[] #[])
  fields := #[]
  methods := #[]
  instanceTypes := #[]
  staticTypes := #[]
  resolved := Array.replicate 11 none
  statics := none }

def pool7 : Array CpInfo := pool [(1, .class_ 2), (0, u "java/lang/constant/ConstantDesc"), (0, .class_ 4), (0, u "java/lang/Object")] 32

/-- java/lang/constant/ConstantDesc -/
def k7 : Class := { plain "java/lang/constant/ConstantDesc" (some 0) with
  accessFlags := 1537
  interfaces := #[]
  cf := some (fileOf pool7 1 #[] #[] 1537 3 #[] #[])
  fields := #[]
  methods := #[]
  instanceTypes := #[]
  staticTypes := #[]
  resolved := Array.replicate 37 none
  statics := none }

def pool8 : Array CpInfo := pool [(1, .methodref 2 3), (0, .class_ 4), (0, .nameAndType 5 6), (0, u "java/lang/Object"), (0, u "<init>"), (0, u "()V"), (2, .fieldref 10 11), (0, .class_ 12), (0, .nameAndType 13 14), (0, u "java/lang/String"), (0, u "value"), (0, u "[B"), (0, .fieldref 10 16), (0, .nameAndType 17 18), (0, u "coder"), (0, u "B"), (2, u "hash"), (0, u "I"), (2, u "hashIsZero"), (0, u "Z"), (0, .methodref 10 28), (0, .nameAndType 5 29), (0, u "([CIILjava/lang/Void;)V"), (8, .fieldref 10 39), (0, .nameAndType 40 26), (0, u "COMPACT_STRINGS"), (1, .class_ 44), (1, u "java/lang/StringUTF16"), (0, u "compress"), (1, .methodref 42 48), (0, .nameAndType 49 50), (0, u "coderFromArrayLen"), (0, u "([BI)B"), (56, .class_ 109), (1, u "java/lang/StringLatin1"), (32, u "()Z"), (34, .methodref 42 178), (0, .nameAndType 45 179), (0, u "([CII)[B"), (154, u "()I"), (0, .methodref 10 336), (0, .nameAndType 17 337), (0, u "()B"), (25, u "([BI)C"), (27, u "(II)V"), (35, u "(I)C"), (64, .methodref 10 493), (0, .nameAndType 494 142), (0, u "isLatin1"), (0, .methodref 107 496), (0, .nameAndType 497 363), (0, u "charAt"), (3, u "checkIndex"), (3, .methodref 10 506), (0, .nameAndType 507 334), (0, u "length"), (67, .class_ 576), (0, u "java/lang/CharSequence"), (22, u "CASE_INSENSITIVE_ORDER"), (0, u "Ljava/util/Comparator;"), (32, .methodref 10 634), (0, .nameAndType 635 636), (0, u "indexOf"), (0, u "(II)I"), (0, .methodref 107 638), (0, .nameAndType 635 639), (0, u "([BIII)I"), (125, u "(I)I"), (244, u "([C)V"), (42, .fieldref 1054 1055), (0, .class_ 1056), (0, .nameAndType 1057 1058), (0, u "jdk/internal/util/Preconditions"), (0, u "SIOOBE_FORMATTER"), (0, u "Ljava/util/function/BiFunction;"), (0, .methodref 1054 1060), (0, .nameAndType 501 1061), (0, u "(IILjava/util/function/BiFunction;)I"), (39, u "serialPersistentFields"), (0, u "[Ljava/io/ObjectStreamField;"), (0, .class_ 1104), (0, u "java/lang/String$CaseInsensitiveComparator"), (1, .class_ 1107), (0, u "java/io/Serializable"), (0, .class_ 1109), (0, u "java/lang/Comparable"), (0, .class_ 1111), (0, u "java/lang/constant/Constable"), (0, .class_ 1113), (0, u "java/lang/constant/ConstantDesc"), (2, u "serialVersionUID"), (0, u "J"), (3, u "REPL"), (0, u "C"), (2, u "LATIN1"), (1, u "UTF16")] 323

def k8m0 : Method := { name := "<init>", desc := "()V", sig := { parameters := [], returnType := none }, accessFlags := 1, code := none }
def k8c1 : Code := { maxStack := 5, maxLocals := 2, code := jdk_42_method_3_code, exceptionTable := #[], attributes := #[] }
def k8m1 : Method := { name := "<init>", desc := "([C)V", sig := { parameters := [(.array .char)], returnType := none }, accessFlags := 1, code := some k8c1 }
def k8c2 : Code := { maxStack := 2, maxLocals := 1, code := jdk_42_method_54_code, exceptionTable := #[], attributes := #[] }
def k8m2 : Method := { name := "length", desc := "()I", sig := { parameters := [], returnType := some .int }, accessFlags := 1, code := some k8c2 }
def k8c3 : Code := { maxStack := 2, maxLocals := 2, code := jdk_42_method_56_code, exceptionTable := #[], attributes := #[] }
def k8m3 : Method := { name := "charAt", desc := "(I)C", sig := { parameters := [.int], returnType := some .char }, accessFlags := 1, code := some k8c3 }
def k8c4 : Code := { maxStack := 3, maxLocals := 2, code := jdk_42_method_79_code, exceptionTable := #[], attributes := #[] }
def k8m4 : Method := { name := "indexOf", desc := "(I)I", sig := { parameters := [.int], returnType := some .int }, accessFlags := 1, code := some k8c4 }
def k8c5 : Code := { maxStack := 4, maxLocals := 3, code := jdk_42_method_80_code, exceptionTable := #[], attributes := #[] }
def k8m5 : Method := { name := "indexOf", desc := "(II)I", sig := { parameters := [.int, .int], returnType := some .int }, accessFlags := 1, code := some k8c5 }
def k8c6 : Code := { maxStack := 4, maxLocals := 6, code := jdk_42_method_149_code, exceptionTable := #[], attributes := #[] }
def k8m6 : Method := { name := "<init>", desc := "([CIILjava/lang/Void;)V", sig := { parameters := [(.array .char), .int, .int, (.object "java/lang/Void")], returnType := none }, accessFlags := 2, code := some k8c6 }
def k8c7 : Code := { maxStack := 1, maxLocals := 1, code := jdk_42_method_152_code, exceptionTable := #[], attributes := #[] }
def k8m7 : Method := { name := "coder", desc := "()B", sig := { parameters := [], returnType := some .byte }, accessFlags := 0, code := some k8c7 }
def k8c8 : Code := { maxStack := 1, maxLocals := 1, code := jdk_42_method_154_code, exceptionTable := #[], attributes := #[] }
def k8m8 : Method := { name := "isLatin1", desc := "()Z", sig := { parameters := [], returnType := some .boolean }, accessFlags := 0, code := some k8c8 }
def k8c9 : Code := { maxStack := 3, maxLocals := 2, code := jdk_42_method_155_code, exceptionTable := #[], attributes := #[] }
def k8m9 : Method := { name := "checkIndex", desc := "(II)V", sig := { parameters := [.int, .int], returnType := none }, accessFlags := 8, code := some k8c9 }
/-- java/lang/String -/
def k8 : Class := { plain "java/lang/String" (some 0) with
  accessFlags := 49
  interfaces := #[3, 4, 5, 6, 7]
  cf := some (fileOf pool8 10 #[.nestMembers #[1103]] #[{ accessFlags := 1, nameIndex := 5, descriptorIndex := 6, attributes := #[] }, { accessFlags := 1, nameIndex := 5, descriptorIndex := 1010, attributes := #[] }, { accessFlags := 1, nameIndex := 507, descriptorIndex := 334, attributes := #[] }, { accessFlags := 1, nameIndex := 497, descriptorIndex := 427, attributes := #[] }, { accessFlags := 1, nameIndex := 635, descriptorIndex := 765, attributes := #[] }, { accessFlags := 1, nameIndex := 635, descriptorIndex := 636, attributes := #[] }, { accessFlags := 2, nameIndex := 5, descriptorIndex := 29, attributes := #[] }, { accessFlags := 0, nameIndex := 17, descriptorIndex := 337, attributes := #[] }, { accessFlags := 0, nameIndex := 494, descriptorIndex := 142, attributes := #[] }, { accessFlags := 8, nameIndex := 501, descriptorIndex := 391, attributes := #[] }] 49 2 #[1106, 1108, 575, 1110, 1112] #[{ accessFlags := 18, nameIndex := 13, descriptorIndex := 14, attributes := #[] }, { accessFlags := 18, nameIndex := 17, descriptorIndex := 18, attributes := #[] }, { accessFlags := 2, nameIndex := 21, descriptorIndex := 22, attributes := #[] }, { accessFlags := 2, nameIndex := 25, descriptorIndex := 26, attributes := #[] }, { accessFlags := 26, nameIndex := 1116, descriptorIndex := 1117, attributes := #[] }, { accessFlags := 24, nameIndex := 40, descriptorIndex := 26, attributes := #[] }, { accessFlags := 26, nameIndex := 1101, descriptorIndex := 1102, attributes := #[] }, { accessFlags := 26, nameIndex := 1121, descriptorIndex := 1122, attributes := #[] }, { accessFlags := 25, nameIndex := 599, descriptorIndex := 600, attributes := #[] }, { accessFlags := 24, nameIndex := 1125, descriptorIndex := 18, attributes := #[] }, { accessFlags := 24, nameIndex := 1127, descriptorIndex := 18, attributes := #[] }])
  fields := #[{ name := "value", type := (.array .byte), accessFlags := 18, slot := 0, constantValue := 0 }, { name := "coder", type := .byte, accessFlags := 18, slot := 1, constantValue := 0 }, { name := "hash", type := .int, accessFlags := 2, slot := 2, constantValue := 0 }, { name := "hashIsZero", type := .boolean, accessFlags := 2, slot := 3, constantValue := 0 }, { name := "serialVersionUID", type := .long, accessFlags := 26, slot := 0, constantValue := 0 }, { name := "COMPACT_STRINGS", type := .boolean, accessFlags := 24, slot := 1, constantValue := 0 }, { name := "serialPersistentFields", type := (.array (.object "java/io/ObjectStreamField")), accessFlags := 26, slot := 2, constantValue := 0 }, { name := "REPL", type := .char, accessFlags := 26, slot := 3, constantValue := 0 }, { name := "CASE_INSENSITIVE_ORDER", type := (.object "java/util/Comparator"), accessFlags := 25, slot := 4, constantValue := 0 }, { name := "LATIN1", type := .byte, accessFlags := 24, slot := 5, constantValue := 0 }, { name := "UTF16", type := .byte, accessFlags := 24, slot := 6, constantValue := 0 }]
  methods := #[k8m0, k8m1, k8m2, k8m3, k8m4, k8m5, k8m6, k8m7, k8m8, k8m9]
  instanceTypes := #[(.array .byte), .byte, .int, .boolean]
  staticTypes := #[.long, .boolean, (.array (.object "java/io/ObjectStreamField")), .char, (.object "java/util/Comparator"), .byte, .byte]
  resolved := Array.replicate 1451 none
  statics := some 0 }

def pool9 : Array CpInfo := pool [(6, .class_ 8), (1, u "java/lang/Object"), (0, u "<init>"), (0, u "()V"), (1, .class_ 14), (1, u "java/lang/StringUTF16"), (31, u "$assertionsDisabled"), (0, u "Z"), (13, u "HI_BYTE_SHIFT"), (0, u "I"), (2, u "LO_BYTE_SHIFT"), (49, .methodref 12 116), (0, .nameAndType 117 118), (0, u "compress"), (0, u "([CI[BII)I"), (3, u "([CII)[B"), (138, u "coderFromArrayLen"), (0, u "([BI)B"), (106, .class_ 371), (1, u "java/lang/StringUTF16$LinesSpliterator"), (58, u "MAX_LENGTH"), (196, .class_ 628), (0, u "java/lang/StringUTF16$CodePointsSpliterator"), (0, .class_ 630), (0, u "java/lang/StringUTF16$CharsSpliterator")] 4

def k9m0 : Method := { name := "<init>", desc := "()V", sig := { parameters := [], returnType := none }, accessFlags := 0, code := none }
def k9c1 : Code := { maxStack := 2, maxLocals := 2, code := jdk_52_method_15_code, exceptionTable := #[], attributes := #[] }
def k9m1 : Method := { name := "coderFromArrayLen", desc := "([BI)B", sig := { parameters := [(.array .byte), .int], returnType := some .byte }, accessFlags := 8, code := some k9c1 }
def k9c2 : Code := { maxStack := 5, maxLocals := 6, code := jdk_52_method_16_code, exceptionTable := #[], attributes := #[] }
def k9m2 : Method := { name := "compress", desc := "([CII)[B", sig := { parameters := [(.array .char), .int, .int], returnType := some (.array .byte) }, accessFlags := 9, code := some k9c2 }
def k9c3 : Code := { maxStack := 3, maxLocals := 7, code := jdk_52_method_21_code, exceptionTable := #[], attributes := #[] }
def k9m3 : Method := { name := "compress", desc := "([CI[BII)I", sig := { parameters := [(.array .char), .int, (.array .byte), .int, .int], returnType := some .int }, accessFlags := 9, code := some k9c3 }
/-- java/lang/StringUTF16 -/
def k9 : Class := { plain "java/lang/StringUTF16" (some 0) with
  accessFlags := 48
  interfaces := #[]
  cf := some (fileOf pool9 12 #[.nestMembers #[627, 629, 369]] #[{ accessFlags := 0, nameIndex := 9, descriptorIndex := 10, attributes := #[] }, { accessFlags := 8, nameIndex := 261, descriptorIndex := 262, attributes := #[] }, { accessFlags := 9, nameIndex := 117, descriptorIndex := 122, attributes := #[] }, { accessFlags := 9, nameIndex := 117, descriptorIndex := 118, attributes := #[] }] 48 6 #[] #[{ accessFlags := 26, nameIndex := 61, descriptorIndex := 62, attributes := #[] }, { accessFlags := 26, nameIndex := 65, descriptorIndex := 62, attributes := #[] }, { accessFlags := 24, nameIndex := 430, descriptorIndex := 62, attributes := #[] }, { accessFlags := 4120, nameIndex := 46, descriptorIndex := 47, attributes := #[] }])
  fields := #[{ name := "HI_BYTE_SHIFT", type := .int, accessFlags := 26, slot := 0, constantValue := 0 }, { name := "LO_BYTE_SHIFT", type := .int, accessFlags := 26, slot := 1, constantValue := 0 }, { name := "MAX_LENGTH", type := .int, accessFlags := 24, slot := 2, constantValue := 0 }, { name := "$assertionsDisabled", type := .boolean, accessFlags := 4120, slot := 3, constantValue := 0 }]
  methods := #[k9m0, k9m1, k9m2, k9m3]
  instanceTypes := #[]
  staticTypes := #[.int, .int, .int, .boolean]
  resolved := Array.replicate 635 none
  statics := none }

def pool10 : Array CpInfo := pool [(4, .class_ 6), (1, u "com/example/equipoise/equipoise/WeightFile$Builder"), (0, u "<init>"), (0, u "(Ljava/lang/String;Ljava/lang/String;)V"), (0, .methodref 10 11), (0, .class_ 12), (0, .nameAndType 7 13), (0, u "java/lang/Object"), (0, u "()V"), (0, .fieldref 4 15), (0, .nameAndType 16 17), (0, u "units"), (0, u "[J"), (0, .fieldref 4 19), (0, .nameAndType 20 21), (0, u "file"), (0, u "Ljava/lang/String;"), (0, .fieldref 4 23), (0, .nameAndType 24 21), (0, u "noun"), (0, .methodref 26 27), (0, .class_ 28), (0, .nameAndType 29 30), (0, u "com/example/equipoise/equipoise/InputLines"), (0, u "decimalPoint"), (0, u "(Ljava/lang/String;)I"), (3, .class_ 36), (1, u "java/lang/String"), (25, .methodref 34 63), (0, .nameAndType 64 65), (0, u "length"), (0, u "()I"), (0, .methodref 34 67), (0, .nameAndType 68 69), (0, u "charAt"), (0, u "(I)C"), (0, .methodref 71 72), (0, .class_ 73), (0, .nameAndType 74 75), (0, u "java/lang/Math"), (0, u "max"), (0, u "(II)I"), (0, .fieldref 4 77), (0, .nameAndType 78 79), (0, u "scale"), (0, u "I"), (3, u "(I)V"), (0, .methodref 4 85), (0, .nameAndType 86 87), (0, u "digits"), (0, u "(Ljava/lang/String;II)J"), (0, .methodref 89 90), (0, .class_ 91), (0, .nameAndType 92 93), (0, u "com/example/equipoise/equipoise/WeightList"), (0, u "powerOfTen"), (0, u "(I)J"), (0, .methodref 71 95), (0, .nameAndType 96 97), (0, u "multiplyExact"), (0, u "(JJ)J"), (0, .methodref 71 99), (0, .nameAndType 100 97), (0, u "addExact"), (0, .fieldref 4 102), (0, .nameAndType 103 104), (0, u "present"), (0, u "J"), (3, .fieldref 4 109), (0, .nameAndType 110 104), (0, u "peak"), (0, .methodref 71 112), (0, .nameAndType 74 97), (0, .fieldref 4 114), (0, .nameAndType 115 79), (0, u "count"), (0, .methodref 117 118), (0, .class_ 119), (0, .nameAndType 120 121), (0, u "java/util/Arrays"), (0, u "copyOf"), (0, u "([JI)[J"), (0, .methodref 89 123), (0, .nameAndType 124 125), (0, u "ofUnits"), (0, u "([JII)Lcom/example/equipoise/equipoise/WeightList;"), (5, .methodref 71 132), (0, .nameAndType 96 133), (0, u "(JI)J"), (2, u "add"), (0, u "(ILjava/lang/String;)J"), (4, u "depart"), (0, u "build"), (0, u "()Lcom/example/equipoise/equipoise/WeightList;"), (3, .class_ 149), (0, u "com/example/equipoise/equipoise/WeightFile")] 20

def k10c0 : Code := { maxStack := 2, maxLocals := 3, code := prog_88_method_2_code, exceptionTable := #[], attributes := #[] }
def k10m0 : Method := { name := "<init>", desc := "(Ljava/lang/String;Ljava/lang/String;)V", sig := { parameters := [(.object "java/lang/String"), (.object "java/lang/String")], returnType := none }, accessFlags := 0, code := some k10c0 }
def k10c1 : Code := { maxStack := 6, maxLocals := 10, code := prog_88_method_3_code, exceptionTable := #[{ startPc := 122, endPc := 204, handlerPc := 207, catchType := 105 }], attributes := #[] }
def k10m1 : Method := { name := "add", desc := "(ILjava/lang/String;)J", sig := { parameters := [.int, (.object "java/lang/String")], returnType := some .long }, accessFlags := 0, code := some k10c1 }
def k10c2 : Code := { maxStack := 5, maxLocals := 2, code := prog_88_method_4_code, exceptionTable := #[], attributes := #[] }
def k10m2 : Method := { name := "depart", desc := "(I)V", sig := { parameters := [.int], returnType := none }, accessFlags := 0, code := some k10c2 }
def k10c3 : Code := { maxStack := 3, maxLocals := 1, code := prog_88_method_5_code, exceptionTable := #[], attributes := #[] }
def k10m3 : Method := { name := "build", desc := "()Lcom/example/equipoise/equipoise/WeightList;", sig := { parameters := [], returnType := some (.object "com/example/equipoise/equipoise/WeightList") }, accessFlags := 0, code := some k10c3 }
def k10c4 : Code := { maxStack := 4, maxLocals := 6, code := prog_88_method_7_code, exceptionTable := #[], attributes := #[] }
def k10m4 : Method := { name := "digits", desc := "(Ljava/lang/String;II)J", sig := { parameters := [(.object "java/lang/String"), .int, .int], returnType := some .long }, accessFlags := 10, code := some k10c4 }
/-- com/example/equipoise/equipoise/WeightFile$Builder -/
def k10 : Class := { plain "com/example/equipoise/equipoise/WeightFile$Builder" (some 0) with
  accessFlags := 48
  interfaces := #[]
  cf := some (fileOf pool10 4 #[.nestHost 148] #[{ accessFlags := 0, nameIndex := 7, descriptorIndex := 8, attributes := #[] }, { accessFlags := 0, nameIndex := 136, descriptorIndex := 137, attributes := #[] }, { accessFlags := 0, nameIndex := 142, descriptorIndex := 83, attributes := #[] }, { accessFlags := 0, nameIndex := 143, descriptorIndex := 144, attributes := #[] }, { accessFlags := 10, nameIndex := 86, descriptorIndex := 87, attributes := #[] }] 48 10 #[] #[{ accessFlags := 18, nameIndex := 20, descriptorIndex := 21, attributes := #[] }, { accessFlags := 18, nameIndex := 24, descriptorIndex := 21, attributes := #[] }, { accessFlags := 2, nameIndex := 16, descriptorIndex := 17, attributes := #[] }, { accessFlags := 2, nameIndex := 115, descriptorIndex := 79, attributes := #[] }, { accessFlags := 2, nameIndex := 78, descriptorIndex := 79, attributes := #[] }, { accessFlags := 2, nameIndex := 103, descriptorIndex := 104, attributes := #[] }, { accessFlags := 2, nameIndex := 110, descriptorIndex := 104, attributes := #[] }])
  fields := #[{ name := "file", type := (.object "java/lang/String"), accessFlags := 18, slot := 0, constantValue := 0 }, { name := "noun", type := (.object "java/lang/String"), accessFlags := 18, slot := 1, constantValue := 0 }, { name := "units", type := (.array .long), accessFlags := 2, slot := 2, constantValue := 0 }, { name := "count", type := .int, accessFlags := 2, slot := 3, constantValue := 0 }, { name := "scale", type := .int, accessFlags := 2, slot := 4, constantValue := 0 }, { name := "present", type := .long, accessFlags := 2, slot := 5, constantValue := 0 }, { name := "peak", type := .long, accessFlags := 2, slot := 6, constantValue := 0 }]
  methods := #[k10m0, k10m1, k10m2, k10m3, k10m4]
  instanceTypes := #[(.object "java/lang/String"), (.object "java/lang/String"), (.array .long), .int, .int, .long, .long]
  staticTypes := #[]
  resolved := Array.replicate 170 none
  statics := none }

def pool11 : Array CpInfo := pool [(2, .class_ 4), (1, u "java/lang/Object"), (0, u "<init>"), (0, u "()V"), (0, .class_ 8), (0, u "java/lang/String"), (14, .class_ 24), (0, u "com/example/equipoise/equipoise/InputLines$Lines"), (23, .class_ 50), (1, u "com/example/equipoise/equipoise/InputLines"), (32, .methodref 7 84), (0, .nameAndType 85 86), (0, u "length"), (0, u "()I"), (0, .methodref 48 88), (0, .nameAndType 89 90), (0, u "isDigits"), (0, u "(Ljava/lang/String;II)Z"), (0, .methodref 7 92), (0, .nameAndType 93 94), (0, u "charAt"), (0, u "(I)C"), (2, u "decimalPoint"), (0, u "(Ljava/lang/String;)I"), (0, .methodref 7 100), (0, .nameAndType 101 102), (0, u "indexOf"), (0, u "(I)I"), (17, u "QUOTED_CHARS"), (0, u "I"), (7, .class_ 130), (0, u "com/example/equipoise/equipoise/InputLines$Handler")] 33

def k11m0 : Method := { name := "<init>", desc := "()V", sig := { parameters := [], returnType := none }, accessFlags := 2, code := none }
def k11c1 : Code := { maxStack := 2, maxLocals := 4, code := prog_30_method_6_code, exceptionTable := #[], attributes := #[] }
def k11m1 : Method := { name := "isDigits", desc := "(Ljava/lang/String;II)Z", sig := { parameters := [(.object "java/lang/String"), .int, .int], returnType := some .boolean }, accessFlags := 10, code := some k11c1 }
def k11c2 : Code := { maxStack := 3, maxLocals := 4, code := prog_30_method_8_code, exceptionTable := #[], attributes := #[] }
def k11m2 : Method := { name := "decimalPoint", desc := "(Ljava/lang/String;)I", sig := { parameters := [(.object "java/lang/String")], returnType := some .int }, accessFlags := 8, code := some k11c2 }
/-- com/example/equipoise/equipoise/InputLines -/
def k11 : Class := { plain "com/example/equipoise/equipoise/InputLines" (some 0) with
  accessFlags := 48
  interfaces := #[]
  cf := some (fileOf pool11 48 #[.nestMembers #[23, 129]] #[{ accessFlags := 2, nameIndex := 5, descriptorIndex := 6, attributes := #[] }, { accessFlags := 10, nameIndex := 89, descriptorIndex := 90, attributes := #[] }, { accessFlags := 8, nameIndex := 97, descriptorIndex := 98, attributes := #[] }] 48 2 #[] #[{ accessFlags := 26, nameIndex := 120, descriptorIndex := 121, attributes := #[] }])
  fields := #[{ name := "QUOTED_CHARS", type := .int, accessFlags := 26, slot := 0, constantValue := 0 }]
  methods := #[k11m0, k11m1, k11m2]
  instanceTypes := #[]
  staticTypes := #[.int]
  resolved := Array.replicate 164 none
  statics := none }

def pool12 : Array CpInfo := pool [(1, .class_ 2), (0, u "java/lang/String"), (1, .class_ 6), (1, u "java/lang/Object"), (0, u "<init>"), (0, u "()V"), (0, .methodref 1 10), (0, .nameAndType 11 12), (0, u "checkIndex"), (0, u "(II)V"), (1, .class_ 16), (1, u "java/lang/StringLatin1"), (21, .methodref 39 40), (0, .class_ 41), (0, .nameAndType 42 43), (0, u "java/lang/Math"), (0, u "min"), (0, u "(II)I"), (9, u "([BI)C"), (34, .methodref 14 89), (0, .nameAndType 90 91), (0, u "canEncode"), (0, u "(I)Z"), (0, .methodref 39 93), (0, .nameAndType 94 43), (0, u "max"), (0, .methodref 14 96), (0, .nameAndType 97 98), (0, u "indexOfChar"), (0, u "([BIII)I"), (2, u "indexOf"), (19, u "$assertionsDisabled"), (0, u "Z"), (98, .class_ 223), (1, u "java/lang/StringLatin1$LinesSpliterator"), (28, u "charAt"), (137, .class_ 391), (0, u "java/lang/StringLatin1$CharsSpliterator")] 3

def k12m0 : Method := { name := "<init>", desc := "()V", sig := { parameters := [], returnType := none }, accessFlags := 0, code := none }
def k12c1 : Code := { maxStack := 2, maxLocals := 2, code := jdk_43_method_2_code, exceptionTable := #[], attributes := #[] }
def k12m1 : Method := { name := "charAt", desc := "([BI)C", sig := { parameters := [(.array .byte), .int], returnType := some .char }, accessFlags := 9, code := some k12c1 }
def k12c2 : Code := { maxStack := 2, maxLocals := 1, code := jdk_43_method_4_code, exceptionTable := #[], attributes := #[] }
def k12m2 : Method := { name := "canEncode", desc := "(I)Z", sig := { parameters := [.int], returnType := some .boolean }, accessFlags := 9, code := some k12c2 }
def k12c3 : Code := { maxStack := 4, maxLocals := 4, code := jdk_43_method_22_code, exceptionTable := #[], attributes := #[] }
def k12m3 : Method := { name := "indexOf", desc := "([BIII)I", sig := { parameters := [(.array .byte), .int, .int, .int], returnType := some .int }, accessFlags := 9, code := some k12c3 }
def k12c4 : Code := { maxStack := 2, maxLocals := 6, code := jdk_43_method_23_code, exceptionTable := #[], attributes := #[] }
def k12m4 : Method := { name := "indexOfChar", desc := "([BIII)I", sig := { parameters := [(.array .byte), .int, .int, .int], returnType := some .int }, accessFlags := 10, code := some k12c4 }
/-- java/lang/StringLatin1 -/
def k12 : Class := { plain "java/lang/StringLatin1" (some 0) with
  accessFlags := 48
  interfaces := #[]
  cf := some (fileOf pool12 14 #[.nestMembers #[390, 221]] #[{ accessFlags := 0, nameIndex := 7, descriptorIndex := 8, attributes := #[] }, { accessFlags := 9, nameIndex := 252, descriptorIndex := 53, attributes := #[] }, { accessFlags := 9, nameIndex := 90, descriptorIndex := 91, attributes := #[] }, { accessFlags := 9, nameIndex := 101, descriptorIndex := 98, attributes := #[] }, { accessFlags := 10, nameIndex := 97, descriptorIndex := 98, attributes := #[] }] 48 4 #[] #[{ accessFlags := 4120, nameIndex := 121, descriptorIndex := 122, attributes := #[] }])
  fields := #[{ name := "$assertionsDisabled", type := .boolean, accessFlags := 4120, slot := 0, constantValue := 0 }]
  methods := #[k12m0, k12m1, k12m2, k12m3, k12m4]
  instanceTypes := #[]
  staticTypes := #[.boolean]
  resolved := Array.replicate 395 none
  statics := none }

def pool13 : Array CpInfo := pool [(2, .class_ 4), (1, u "java/lang/Object"), (0, u "<init>"), (0, u "()V"), (17, .class_ 26), (1, u "jdk/internal/util/Preconditions"), (6, u "checkIndex"), (21, .class_ 56), (0, u "jdk/internal/util/Preconditions$4"), (57, .class_ 115), (0, u "jdk/internal/util/Preconditions$1"), (7, u "SIOOBE_FORMATTER"), (0, u "Ljava/util/function/BiFunction;"), (0, .class_ 126), (0, u "jdk/internal/util/Preconditions$2"), (3, u "AIOOBE_FORMATTER"), (0, .class_ 132), (0, u "jdk/internal/util/Preconditions$3"), (3, u "IOOBE_FORMATTER"), (41, u "(IILjava/util/function/BiFunction;)I")] 15

def k13m0 : Method := { name := "<init>", desc := "()V", sig := { parameters := [], returnType := none }, accessFlags := 1, code := none }
def k13c1 : Code := { maxStack := 3, maxLocals := 3, code := jdk_41_method_11_code, exceptionTable := #[], attributes := #[] }
def k13m1 : Method := { name := "checkIndex", desc := "(IILjava/util/function/BiFunction;)I", sig := { parameters := [.int, .int, (.object "java/util/function/BiFunction")], returnType := some .int }, accessFlags := 9, code := some k13c1 }
/-- jdk/internal/util/Preconditions -/
def k13 : Class := { plain "jdk/internal/util/Preconditions" (some 0) with
  accessFlags := 33
  interfaces := #[]
  cf := some (fileOf pool13 24 #[.nestMembers #[55, 131, 125, 114]] #[{ accessFlags := 1, nameIndex := 5, descriptorIndex := 6, attributes := #[] }, { accessFlags := 9, nameIndex := 33, descriptorIndex := 178, attributes := #[] }] 33 2 #[] #[{ accessFlags := 25, nameIndex := 123, descriptorIndex := 124, attributes := #[] }, { accessFlags := 25, nameIndex := 130, descriptorIndex := 124, attributes := #[] }, { accessFlags := 25, nameIndex := 136, descriptorIndex := 124, attributes := #[] }])
  fields := #[{ name := "SIOOBE_FORMATTER", type := (.object "java/util/function/BiFunction"), accessFlags := 25, slot := 0, constantValue := 0 }, { name := "AIOOBE_FORMATTER", type := (.object "java/util/function/BiFunction"), accessFlags := 25, slot := 1, constantValue := 0 }, { name := "IOOBE_FORMATTER", type := (.object "java/util/function/BiFunction"), accessFlags := 25, slot := 2, constantValue := 0 }]
  methods := #[k13m0, k13m1]
  instanceTypes := #[]
  staticTypes := #[(.object "java/util/function/BiFunction"), (.object "java/util/function/BiFunction"), (.object "java/util/function/BiFunction")]
  resolved := Array.replicate 194 none
  statics := some 1 }

def pool14 : Array CpInfo := pool [(1, .class_ 2), (0, u "com/example/equipoise/equipoise/WeightList"), (0, .methodref 4 5), (0, .class_ 6), (0, .nameAndType 7 8), (0, u "java/lang/Object"), (0, u "<init>"), (0, u "()V"), (0, .fieldref 1 10), (0, .nameAndType 11 12), (0, u "units"), (0, u "[J"), (0, .fieldref 1 14), (0, .nameAndType 15 16), (0, u "scale"), (0, u "I"), (0, .fieldref 1 18), (0, .nameAndType 19 20), (0, u "total"), (0, u "Ljava/math/BigInteger;"), (0, .fieldref 1 22), (0, .nameAndType 23 24), (0, u "largest"), (0, u "J"), (2, u "ofUnits"), (0, u "([JII)Lcom/example/equipoise/equipoise/WeightList;"), (0, .methodref 30 31), (0, .class_ 32), (0, .nameAndType 33 34), (0, u "java/util/Arrays"), (0, u "copyOf"), (0, u "([JI)[J"), (0, .methodref 36 37), (0, .class_ 38), (0, .nameAndType 39 40), (0, u "java/lang/Math"), (0, u "max"), (0, u "(JJ)J"), (0, .methodref 1 42), (0, .nameAndType 43 44), (0, u "sum"), (0, u "([J)Ljava/math/BigInteger;"), (0, .methodref 1 46), (0, .nameAndType 7 47), (0, u "([JILjava/math/BigInteger;J)V"), (0, .fieldref 1 49), (0, .nameAndType 50 12), (0, u "POWERS_OF_TEN"), (0, .fieldref 52 53), (0, .class_ 54), (0, .nameAndType 55 20), (0, u "java/math/BigInteger"), (0, u "ZERO"), (2, .long 9223372036854775807), (1, .methodref 52 61), (0, .nameAndType 62 63), (0, u "valueOf"), (0, u "(J)Ljava/math/BigInteger;"), (0, .methodref 52 65), (0, .nameAndType 66 67), (0, u "add"), (0, u "(Ljava/math/BigInteger;)Ljava/math/BigInteger;"), (56, u "MOST_DECIMALS"), (2, u "RADIX_BITS"), (1, u "RADIX"), (6, u "powerOfTen"), (0, u "(I)J"), (0, u "size"), (0, u "()I")] 9

def k14c0 : Code := { maxStack := 3, maxLocals := 6, code := prog_89_method_1_code, exceptionTable := #[], attributes := #[] }
def k14m0 : Method := { name := "<init>", desc := "([JILjava/math/BigInteger;J)V", sig := { parameters := [(.array .long), .int, (.object "java/math/BigInteger"), .long], returnType := none }, accessFlags := 2, code := some k14c0 }
def k14c1 : Code := { maxStack := 7, maxLocals := 11, code := prog_89_method_3_code, exceptionTable := #[], attributes := #[] }
def k14m1 : Method := { name := "ofUnits", desc := "([JII)Lcom/example/equipoise/equipoise/WeightList;", sig := { parameters := [(.array .long), .int, .int], returnType := some (.object "com/example/equipoise/equipoise/WeightList") }, accessFlags := 8, code := some k14c1 }
def k14c2 : Code := { maxStack := 2, maxLocals := 1, code := prog_89_method_4_code, exceptionTable := #[], attributes := #[] }
def k14m2 : Method := { name := "powerOfTen", desc := "(I)J", sig := { parameters := [.int], returnType := some .long }, accessFlags := 8, code := some k14c2 }
def k14c3 : Code := { maxStack := 6, maxLocals := 9, code := prog_89_method_5_code, exceptionTable := #[], attributes := #[] }
def k14m3 : Method := { name := "sum", desc := "([J)Ljava/math/BigInteger;", sig := { parameters := [(.array .long)], returnType := some (.object "java/math/BigInteger") }, accessFlags := 10, code := some k14c3 }
def k14c4 : Code := { maxStack := 1, maxLocals := 1, code := prog_89_method_6_code, exceptionTable := #[], attributes := #[] }
def k14m4 : Method := { name := "size", desc := "()I", sig := { parameters := [], returnType := some .int }, accessFlags := 0, code := some k14c4 }
def k14c5 : Code := { maxStack := 2, maxLocals := 2, code := prog_89_method_7_code, exceptionTable := #[], attributes := #[] }
def k14m5 : Method := { name := "units", desc := "(I)J", sig := { parameters := [.int], returnType := some .long }, accessFlags := 0, code := some k14c5 }
/-- com/example/equipoise/equipoise/WeightList -/
def k14 : Class := { plain "com/example/equipoise/equipoise/WeightList" (some 0) with
  accessFlags := 48
  interfaces := #[]
  cf := some (fileOf pool14 1 #[] #[{ accessFlags := 2, nameIndex := 7, descriptorIndex := 47, attributes := #[] }, { accessFlags := 8, nameIndex := 27, descriptorIndex := 28, attributes := #[] }, { accessFlags := 8, nameIndex := 136, descriptorIndex := 137, attributes := #[] }, { accessFlags := 10, nameIndex := 43, descriptorIndex := 44, attributes := #[] }, { accessFlags := 0, nameIndex := 138, descriptorIndex := 139, attributes := #[] }, { accessFlags := 0, nameIndex := 11, descriptorIndex := 137, attributes := #[] }] 48 4 #[] #[{ accessFlags := 24, nameIndex := 124, descriptorIndex := 16, attributes := #[] }, { accessFlags := 26, nameIndex := 50, descriptorIndex := 12, attributes := #[] }, { accessFlags := 26, nameIndex := 127, descriptorIndex := 16, attributes := #[] }, { accessFlags := 26, nameIndex := 129, descriptorIndex := 16, attributes := #[] }, { accessFlags := 18, nameIndex := 11, descriptorIndex := 12, attributes := #[] }, { accessFlags := 18, nameIndex := 15, descriptorIndex := 16, attributes := #[] }, { accessFlags := 18, nameIndex := 19, descriptorIndex := 20, attributes := #[] }, { accessFlags := 18, nameIndex := 23, descriptorIndex := 24, attributes := #[] }])
  fields := #[{ name := "MOST_DECIMALS", type := .int, accessFlags := 24, slot := 0, constantValue := 0 }, { name := "POWERS_OF_TEN", type := (.array .long), accessFlags := 26, slot := 1, constantValue := 0 }, { name := "RADIX_BITS", type := .int, accessFlags := 26, slot := 2, constantValue := 0 }, { name := "RADIX", type := .int, accessFlags := 26, slot := 3, constantValue := 0 }, { name := "units", type := (.array .long), accessFlags := 18, slot := 0, constantValue := 0 }, { name := "scale", type := .int, accessFlags := 18, slot := 1, constantValue := 0 }, { name := "total", type := (.object "java/math/BigInteger"), accessFlags := 18, slot := 2, constantValue := 0 }, { name := "largest", type := .long, accessFlags := 18, slot := 3, constantValue := 0 }]
  methods := #[k14m0, k14m1, k14m2, k14m3, k14m4, k14m5]
  instanceTypes := #[(.array .long), .int, (.object "java/math/BigInteger"), .long]
  staticTypes := #[.int, (.array .long), .int, .int]
  resolved := Array.replicate 149 none
  statics := some 2 }

def pool15 : Array CpInfo := pool [(2, .class_ 4), (1, u "java/lang/Object"), (0, u "<init>"), (0, u "()V"), (7, .class_ 16), (1, u "java/util/Arrays"), (57, .class_ 76), (1, u "java/util/Arrays$NaturalOrder"), (36, .class_ 115), (1, u "java/util/Arrays$LegacyMergeSort"), (1, u "Z"), (32, .methodref 151 152), (0, .class_ 153), (0, .nameAndType 154 155), (0, u "java/lang/System"), (0, u "arraycopy"), (0, u "(Ljava/lang/Object;ILjava/lang/Object;II)V"), (146, u "copyOf"), (1, .methodref 305 306), (0, .class_ 307), (0, .nameAndType 308 309), (0, u "java/lang/Math"), (0, u "min"), (0, u "(II)I"), (65, .class_ 376), (0, u "java/util/Arrays$ArrayList"), (68, u "$assertionsDisabled"), (269, u "MIN_ARRAY_SORT_GRAN"), (0, u "I"), (2, u "INSERTIONSORT_THRESHOLD"), (152, u "([JI)[J"), (102, .class_ 976), (0, u "java/util/Arrays$ArrayItr")] 52

def k15m0 : Method := { name := "<init>", desc := "()V", sig := { parameters := [], returnType := none }, accessFlags := 2, code := none }
def k15c1 : Code := { maxStack := 6, maxLocals := 3, code := jdk_65_method_124_code, exceptionTable := #[], attributes := #[] }
def k15m1 : Method := { name := "copyOf", desc := "([JI)[J", sig := { parameters := [(.array .long), .int], returnType := some (.array .long) }, accessFlags := 9, code := some k15c1 }
/-- java/util/Arrays -/
def k15 : Class := { plain "java/util/Arrays" (some 0) with
  accessFlags := 49
  interfaces := #[]
  cf := some (fileOf pool15 14 #[.nestMembers #[975, 375, 113, 74]] #[{ accessFlags := 2, nameIndex := 5, descriptorIndex := 6, attributes := #[] }, { accessFlags := 9, nameIndex := 302, descriptorIndex := 872, attributes := #[] }] 49 2 #[] #[{ accessFlags := 26, nameIndex := 715, descriptorIndex := 716, attributes := #[] }, { accessFlags := 26, nameIndex := 719, descriptorIndex := 716, attributes := #[] }, { accessFlags := 4120, nameIndex := 445, descriptorIndex := 117, attributes := #[] }])
  fields := #[{ name := "MIN_ARRAY_SORT_GRAN", type := .int, accessFlags := 26, slot := 0, constantValue := 0 }, { name := "INSERTIONSORT_THRESHOLD", type := .int, accessFlags := 26, slot := 1, constantValue := 0 }, { name := "$assertionsDisabled", type := .boolean, accessFlags := 4120, slot := 2, constantValue := 0 }]
  methods := #[k15m0, k15m1]
  instanceTypes := #[]
  staticTypes := #[.int, .int, .boolean]
  resolved := Array.replicate 1029 none
  statics := none }

def pool16 : Array CpInfo := pool [(2, .class_ 4), (1, u "java/lang/Object"), (0, u "<init>"), (0, u "()V"), (1, .class_ 10), (1, u "java/lang/System"), (0, u "allowSecurityManager"), (0, u "I"), (16, u "cons"), (0, u "Ljava/io/Console;"), (77, .class_ 110), (1, u "java/lang/System$CallersHolder"), (43, u "initialErrStream"), (0, u "Ljava/io/PrintStream;"), (19, u "security"), (0, u "Ljava/lang/SecurityManager;"), (31, .class_ 209), (0, u "java/lang/System$1"), (7, u "props"), (0, u "Ljava/util/Properties;"), (2, u "lineSeparator"), (0, u "Ljava/lang/String;"), (96, .class_ 321), (1, u "java/lang/System$LoggerFinder"), (5, .class_ 328), (0, u "java/lang/System$Logger"), (67, u "err"), (2, u "out"), (91, u "notSupportedJnuEncoding"), (15, u "in"), (17, u "initialIn"), (0, u "Ljava/io/InputStream;"), (35, u "bootLayer"), (0, u "Ljava/lang/ModuleLayer;"), (99, .class_ 664), (0, u "java/lang/System$2"), (9, u "NEVER"), (2, u "MAYBE"), (49, u "arraycopy"), (0, u "(Ljava/lang/Object;ILjava/lang/Object;II)V"), (72, .class_ 802), (0, u "java/lang/System$Logger$Level")] 31

def k16m0 : Method := { name := "<init>", desc := "()V", sig := { parameters := [], returnType := none }, accessFlags := 2, code := none }
def k16m1 : Method := { name := "arraycopy", desc := "(Ljava/lang/Object;ILjava/lang/Object;II)V", sig := { parameters := [(.object "java/lang/Object"), .int, (.object "java/lang/Object"), .int, .int], returnType := none }, accessFlags := 265, code := none }
/-- java/lang/System -/
def k16 : Class := { plain "java/lang/System" (some 0) with
  accessFlags := 49
  interfaces := #[]
  cf := some (fileOf pool16 8 #[.nestMembers #[319, 327, 801, 108, 663, 208]] #[{ accessFlags := 2, nameIndex := 5, descriptorIndex := 6, attributes := #[] }, { accessFlags := 265, nameIndex := 727, descriptorIndex := 728, attributes := #[] }] 49 2 #[] #[{ accessFlags := 25, nameIndex := 507, descriptorIndex := 526, attributes := #[] }, { accessFlags := 25, nameIndex := 399, descriptorIndex := 155, attributes := #[] }, { accessFlags := 25, nameIndex := 396, descriptorIndex := 155, attributes := #[] }, { accessFlags := 10, nameIndex := 525, descriptorIndex := 526, attributes := #[] }, { accessFlags := 26, nameIndex := 674, descriptorIndex := 12, attributes := #[] }, { accessFlags := 26, nameIndex := 677, descriptorIndex := 12, attributes := #[] }, { accessFlags := 10, nameIndex := 11, descriptorIndex := 12, attributes := #[] }, { accessFlags := 74, nameIndex := 175, descriptorIndex := 176, attributes := #[] }, { accessFlags := 10, nameIndex := 491, descriptorIndex := 222, attributes := #[] }, { accessFlags := 74, nameIndex := 29, descriptorIndex := 30, attributes := #[] }, { accessFlags := 74, nameIndex := 154, descriptorIndex := 155, attributes := #[] }, { accessFlags := 10, nameIndex := 217, descriptorIndex := 218, attributes := #[] }, { accessFlags := 10, nameIndex := 221, descriptorIndex := 222, attributes := #[] }, { accessFlags := 8, nameIndex := 562, descriptorIndex := 563, attributes := #[] }])
  fields := #[{ name := "in", type := (.object "java/io/InputStream"), accessFlags := 25, slot := 0, constantValue := 0 }, { name := "out", type := (.object "java/io/PrintStream"), accessFlags := 25, slot := 1, constantValue := 0 }, { name := "err", type := (.object "java/io/PrintStream"), accessFlags := 25, slot := 2, constantValue := 0 }, { name := "initialIn", type := (.object "java/io/InputStream"), accessFlags := 10, slot := 3, constantValue := 0 }, { name := "NEVER", type := .int, accessFlags := 26, slot := 4, constantValue := 0 }, { name := "MAYBE", type := .int, accessFlags := 26, slot := 5, constantValue := 0 }, { name := "allowSecurityManager", type := .int, accessFlags := 10, slot := 6, constantValue := 0 }, { name := "security", type := (.object "java/lang/SecurityManager"), accessFlags := 74, slot := 7, constantValue := 0 }, { name := "notSupportedJnuEncoding", type := (.object "java/lang/String"), accessFlags := 10, slot := 8, constantValue := 0 }, { name := "cons", type := (.object "java/io/Console"), accessFlags := 74, slot := 9, constantValue := 0 }, { name := "initialErrStream", type := (.object "java/io/PrintStream"), accessFlags := 74, slot := 10, constantValue := 0 }, { name := "props", type := (.object "java/util/Properties"), accessFlags := 10, slot := 11, constantValue := 0 }, { name := "lineSeparator", type := (.object "java/lang/String"), accessFlags := 10, slot := 12, constantValue := 0 }, { name := "bootLayer", type := (.object "java/lang/ModuleLayer"), accessFlags := 8, slot := 13, constantValue := 0 }]
  methods := #[k16m0, k16m1]
  instanceTypes := #[]
  staticTypes := #[(.object "java/io/InputStream"), (.object "java/io/PrintStream"), (.object "java/io/PrintStream"), (.object "java/io/InputStream"), .int, .int, .int, (.object "java/lang/SecurityManager"), (.object "java/lang/String"), (.object "java/io/Console"), (.object "java/io/PrintStream"), (.object "java/util/Properties"), (.object "java/lang/String"), (.object "java/lang/ModuleLayer")]
  resolved := Array.replicate 834 none
  statics := none }

def pool17 : Array CpInfo := pool [(1, .methodref 2 3), (0, .class_ 4), (0, .nameAndType 5 6), (0, u "java/lang/Object"), (0, u "<init>"), (0, u "()V"), (1, .class_ 10), (1, u "java/lang/Number"), (2, .class_ 14), (0, u "java/io/Serializable"), (0, u "serialVersionUID"), (0, u "J")] 20

def k17c0 : Code := { maxStack := 1, maxLocals := 1, code := jdk_18_method_1_code, exceptionTable := #[], attributes := #[] }
def k17m0 : Method := { name := "<init>", desc := "()V", sig := { parameters := [], returnType := none }, accessFlags := 1, code := some k17c0 }
/-- java/lang/Number -/
def k17 : Class := { plain "java/lang/Number" (some 0) with
  accessFlags := 1057
  interfaces := #[3]
  cf := some (fileOf pool17 8 #[] #[{ accessFlags := 1, nameIndex := 5, descriptorIndex := 6, attributes := #[] }] 1057 2 #[13] #[{ accessFlags := 26, nameIndex := 15, descriptorIndex := 16, attributes := #[] }])
  fields := #[{ name := "serialVersionUID", type := .long, accessFlags := 26, slot := 0, constantValue := 0 }]
  methods := #[k17m0]
  instanceTypes := #[]
  staticTypes := #[.long]
  resolved := Array.replicate 37 none
  statics := none }

def pool18 : Array CpInfo := pool [(3, .methodref 4 5), (0, .class_ 6), (0, .nameAndType 7 8), (0, u "java/lang/Number"), (0, u "<init>"), (0, u "()V"), (14, .class_ 25), (1, u "java/math/BigInteger"), (0, u "ZERO"), (0, u "Ljava/math/BigInteger;"), (0, .fieldref 23 29), (0, .nameAndType 30 31), (0, u "mag"), (0, u "[I"), (0, .fieldref 23 33), (0, .nameAndType 34 35), (0, u "signum"), (0, u "I"), (7, .integer 67108864), (51, u "bitsPerDigit"), (0, u "[J"), (9, u "digitsPerInt"), (12, u "intRadix"), (10, .long 4294967295), (44, .methodref 23 176), (0, .nameAndType 7 177), (0, u "([II)V"), (2, u "SMALL_PRIME_PRODUCT"), (3, u "(Ljava/math/BigInteger;)Ljava/math/BigInteger;"), (52, u "valueOf"), (0, u "(J)Ljava/math/BigInteger;"), (2, u "add"), (18, u "ONE"), (6, u "TWO"), (43, u "$assertionsDisabled"), (0, u "Z"), (32, .long 16), (1, .fieldref 23 348), (0, .nameAndType 349 350), (0, u "posConst"), (0, u "[Ljava/math/BigInteger;"), (4, u "negConst"), (0, .methodref 23 357), (0, .nameAndType 7 358), (0, u "(J)V"), (3, .methodref 23 363), (0, .nameAndType 241 364), (0, u "([I[I)[I"), (107, .class_ 474), (1, u "java/math/BigInteger$RecursiveOp"), (106, u "NEGATIVE_ONE"), (91, u "bnExpModThreshTable"), (72, u "lowestSetBitPlusTwo"), (2, u "bitLengthPlusOne"), (2, u "bitCountPlusOne"), (6, u "LOG_TWO"), (0, u "D"), (2, u "logCache"), (0, u "[D"), (13, u "NUM_ZEROS"), (2, u "ZEROS"), (0, u "Ljava/lang/String;"), (9, u "longRadix"), (5, u "digitsPerLong"), (22, u "powerCache"), (0, u "[[Ljava/math/BigInteger;"), (45, u "firstNonzeroIntNumPlusTwo"), (38, .class_ 909), (1, u "java/math/BigInteger$UnsafeHolder"), (141, u "TEN"), (106, u "serialPersistentFields"), (0, u "[Ljava/io/ObjectStreamField;"), (0, .class_ 1161), (0, u "java/lang/Comparable"), (0, u "LONG_MASK"), (0, u "J"), (1, u "MAX_MAG_LENGTH"), (0, u "PRIME_SEARCH_BIT_LENGTH_LIMIT"), (1, u "KARATSUBA_THRESHOLD"), (1, u "TOOM_COOK_THRESHOLD"), (1, u "KARATSUBA_SQUARE_THRESHOLD"), (1, u "TOOM_COOK_SQUARE_THRESHOLD"), (1, u "BURNIKEL_ZIEGLER_THRESHOLD"), (0, u "BURNIKEL_ZIEGLER_OFFSET"), (1, u "SCHOENHAGE_BASE_CONVERSION_THRESHOLD"), (1, u "MULTIPLY_SQUARE_THRESHOLD"), (0, u "MONTGOMERY_INTRINSIC_THRESHOLD"), (1, u "SMALL_PRIME_THRESHOLD"), (1, u "DEFAULT_PRIME_CERTAINTY"), (1, u "MAX_CONSTANT"), (3, u "serialVersionUID"), (338, .class_ 1532), (0, u "java/math/BigInteger$RecursiveOp$RecursiveSquare"), (0, .class_ 1534), (0, u "java/math/BigInteger$RecursiveOp$RecursiveMultiply")] 7

def k18c0 : Code := { maxStack := 2, maxLocals := 3, code := jdk_2097_method_25_code, exceptionTable := #[], attributes := #[] }
def k18m0 : Method := { name := "<init>", desc := "([II)V", sig := { parameters := [(.array .int), .int], returnType := none }, accessFlags := 0, code := some k18c0 }
def k18c1 : Code := { maxStack := 4, maxLocals := 2, code := jdk_2097_method_29_code, exceptionTable := #[], attributes := #[] }
def k18m1 : Method := { name := "valueOf", desc := "(J)Ljava/math/BigInteger;", sig := { parameters := [.long], returnType := some (.object "java/math/BigInteger") }, accessFlags := 9, code := some k18c1 }
def k18c2 : Code := { maxStack := 4, maxLocals := 4, code := jdk_2097_method_30_code, exceptionTable := #[], attributes := #[] }
def k18m2 : Method := { name := "<init>", desc := "(J)V", sig := { parameters := [.long], returnType := none }, accessFlags := 2, code := some k18c2 }
def k18c3 : Code := { maxStack := 5, maxLocals := 4, code := jdk_2097_method_32_code, exceptionTable := #[], attributes := #[] }
def k18m3 : Method := { name := "add", desc := "(Ljava/math/BigInteger;)Ljava/math/BigInteger;", sig := { parameters := [(.object "java/math/BigInteger")], returnType := some (.object "java/math/BigInteger") }, accessFlags := 1, code := some k18c3 }
def k18c4 : Code := { maxStack := 6, maxLocals := 9, code := jdk_2097_method_35_code, exceptionTable := #[], attributes := #[] }
def k18m4 : Method := { name := "add", desc := "([I[I)[I", sig := { parameters := [(.array .int), (.array .int)], returnType := some (.array .int) }, accessFlags := 10, code := some k18c4 }
/-- java/math/BigInteger -/
def k18 : Class := { plain "java/math/BigInteger" (some 17) with
  accessFlags := 33
  interfaces := #[4]
  cf := some (fileOf pool18 23 #[.nestMembers #[907, 472, 1531, 1533]] #[{ accessFlags := 0, nameIndex := 7, descriptorIndex := 177, attributes := #[] }, { accessFlags := 9, nameIndex := 237, descriptorIndex := 238, attributes := #[] }, { accessFlags := 2, nameIndex := 7, descriptorIndex := 358, attributes := #[] }, { accessFlags := 1, nameIndex := 241, descriptorIndex := 184, attributes := #[] }, { accessFlags := 10, nameIndex := 241, descriptorIndex := 364, attributes := #[] }] 33 4 #[1160] #[{ accessFlags := 16, nameIndex := 34, descriptorIndex := 35, attributes := #[] }, { accessFlags := 16, nameIndex := 30, descriptorIndex := 31, attributes := #[] }, { accessFlags := 2, nameIndex := 752, descriptorIndex := 35, attributes := #[] }, { accessFlags := 2, nameIndex := 749, descriptorIndex := 35, attributes := #[] }, { accessFlags := 2, nameIndex := 746, descriptorIndex := 35, attributes := #[] }, { accessFlags := 2, nameIndex := 868, descriptorIndex := 35, attributes := #[] }, { accessFlags := 24, nameIndex := 1162, descriptorIndex := 1163, attributes := #[] }, { accessFlags := 26, nameIndex := 1165, descriptorIndex := 35, attributes := #[] }, { accessFlags := 26, nameIndex := 1166, descriptorIndex := 35, attributes := #[] }, { accessFlags := 26, nameIndex := 1168, descriptorIndex := 35, attributes := #[] }, { accessFlags := 26, nameIndex := 1170, descriptorIndex := 35, attributes := #[] }, { accessFlags := 26, nameIndex := 1172, descriptorIndex := 35, attributes := #[] }, { accessFlags := 26, nameIndex := 1174, descriptorIndex := 35, attributes := #[] }, { accessFlags := 24, nameIndex := 1176, descriptorIndex := 35, attributes := #[] }, { accessFlags := 24, nameIndex := 1177, descriptorIndex := 35, attributes := #[] }, { accessFlags := 26, nameIndex := 1179, descriptorIndex := 35, attributes := #[] }, { accessFlags := 26, nameIndex := 1181, descriptorIndex := 35, attributes := #[] }, { accessFlags := 26, nameIndex := 1182, descriptorIndex := 35, attributes := #[] }, { accessFlags := 10, nameIndex := 95, descriptorIndex := 96, attributes := #[] }, { accessFlags := 26, nameIndex := 1184, descriptorIndex := 35, attributes := #[] }, { accessFlags := 26, nameIndex := 1186, descriptorIndex := 35, attributes := #[] }, { accessFlags := 26, nameIndex := 180, descriptorIndex := 27, attributes := #[] }, { accessFlags := 26, nameIndex := 1188, descriptorIndex := 35, attributes := #[] }, { accessFlags := 26, nameIndex := 349, descriptorIndex := 350, attributes := #[] }, { accessFlags := 26, nameIndex := 355, descriptorIndex := 350, attributes := #[] }, { accessFlags := 74, nameIndex := 821, descriptorIndex := 822, attributes := #[] }, { accessFlags := 26, nameIndex := 763, descriptorIndex := 764, attributes := #[] }, { accessFlags := 26, nameIndex := 759, descriptorIndex := 760, attributes := #[] }, { accessFlags := 25, nameIndex := 26, descriptorIndex := 27, attributes := #[] }, { accessFlags := 25, nameIndex := 260, descriptorIndex := 27, attributes := #[] }, { accessFlags := 25, nameIndex := 267, descriptorIndex := 27, attributes := #[] }, { accessFlags := 26, nameIndex := 581, descriptorIndex := 27, attributes := #[] }, { accessFlags := 25, nameIndex := 1051, descriptorIndex := 27, attributes := #[] }, { accessFlags := 8, nameIndex := 673, descriptorIndex := 31, attributes := #[] }, { accessFlags := 10, nameIndex := 778, descriptorIndex := 35, attributes := #[] }, { accessFlags := 26, nameIndex := 781, descriptorIndex := 782, attributes := #[] }, { accessFlags := 10, nameIndex := 798, descriptorIndex := 31, attributes := #[] }, { accessFlags := 10, nameIndex := 792, descriptorIndex := 350, attributes := #[] }, { accessFlags := 10, nameIndex := 106, descriptorIndex := 31, attributes := #[] }, { accessFlags := 10, nameIndex := 119, descriptorIndex := 31, attributes := #[] }, { accessFlags := 26, nameIndex := 1192, descriptorIndex := 1163, attributes := #[] }, { accessFlags := 26, nameIndex := 1158, descriptorIndex := 1159, attributes := #[] }, { accessFlags := 4120, nameIndex := 311, descriptorIndex := 312, attributes := #[] }])
  fields := #[{ name := "signum", type := .int, accessFlags := 16, slot := 0, constantValue := 0 }, { name := "mag", type := (.array .int), accessFlags := 16, slot := 1, constantValue := 0 }, { name := "bitCountPlusOne", type := .int, accessFlags := 2, slot := 2, constantValue := 0 }, { name := "bitLengthPlusOne", type := .int, accessFlags := 2, slot := 3, constantValue := 0 }, { name := "lowestSetBitPlusTwo", type := .int, accessFlags := 2, slot := 4, constantValue := 0 }, { name := "firstNonzeroIntNumPlusTwo", type := .int, accessFlags := 2, slot := 5, constantValue := 0 }, { name := "LONG_MASK", type := .long, accessFlags := 24, slot := 0, constantValue := 0 }, { name := "MAX_MAG_LENGTH", type := .int, accessFlags := 26, slot := 1, constantValue := 0 }, { name := "PRIME_SEARCH_BIT_LENGTH_LIMIT", type := .int, accessFlags := 26, slot := 2, constantValue := 0 }, { name := "KARATSUBA_THRESHOLD", type := .int, accessFlags := 26, slot := 3, constantValue := 0 }, { name := "TOOM_COOK_THRESHOLD", type := .int, accessFlags := 26, slot := 4, constantValue := 0 }, { name := "KARATSUBA_SQUARE_THRESHOLD", type := .int, accessFlags := 26, slot := 5, constantValue := 0 }, { name := "TOOM_COOK_SQUARE_THRESHOLD", type := .int, accessFlags := 26, slot := 6, constantValue := 0 }, { name := "BURNIKEL_ZIEGLER_THRESHOLD", type := .int, accessFlags := 24, slot := 7, constantValue := 0 }, { name := "BURNIKEL_ZIEGLER_OFFSET", type := .int, accessFlags := 24, slot := 8, constantValue := 0 }, { name := "SCHOENHAGE_BASE_CONVERSION_THRESHOLD", type := .int, accessFlags := 26, slot := 9, constantValue := 0 }, { name := "MULTIPLY_SQUARE_THRESHOLD", type := .int, accessFlags := 26, slot := 10, constantValue := 0 }, { name := "MONTGOMERY_INTRINSIC_THRESHOLD", type := .int, accessFlags := 26, slot := 11, constantValue := 0 }, { name := "bitsPerDigit", type := (.array .long), accessFlags := 10, slot := 12, constantValue := 0 }, { name := "SMALL_PRIME_THRESHOLD", type := .int, accessFlags := 26, slot := 13, constantValue := 0 }, { name := "DEFAULT_PRIME_CERTAINTY", type := .int, accessFlags := 26, slot := 14, constantValue := 0 }, { name := "SMALL_PRIME_PRODUCT", type := (.object "java/math/BigInteger"), accessFlags := 26, slot := 15, constantValue := 0 }, { name := "MAX_CONSTANT", type := .int, accessFlags := 26, slot := 16, constantValue := 0 }, { name := "posConst", type := (.array (.object "java/math/BigInteger")), accessFlags := 26, slot := 17, constantValue := 0 }, { name := "negConst", type := (.array (.object "java/math/BigInteger")), accessFlags := 26, slot := 18, constantValue := 0 }, { name := "powerCache", type := (.array (.array (.object "java/math/BigInteger"))), accessFlags := 74, slot := 19, constantValue := 0 }, { name := "logCache", type := (.array .double), accessFlags := 26, slot := 20, constantValue := 0 }, { name := "LOG_TWO", type := .double, accessFlags := 26, slot := 21, constantValue := 0 }, { name := "ZERO", type := (.object "java/math/BigInteger"), accessFlags := 25, slot := 22, constantValue := 0 }, { name := "ONE", type := (.object "java/math/BigInteger"), accessFlags := 25, slot := 23, constantValue := 0 }, { name := "TWO", type := (.object "java/math/BigInteger"), accessFlags := 25, slot := 24, constantValue := 0 }, { name := "NEGATIVE_ONE", type := (.object "java/math/BigInteger"), accessFlags := 26, slot := 25, constantValue := 0 }, { name := "TEN", type := (.object "java/math/BigInteger"), accessFlags := 25, slot := 26, constantValue := 0 }, { name := "bnExpModThreshTable", type := (.array .int), accessFlags := 8, slot := 27, constantValue := 0 }, { name := "NUM_ZEROS", type := .int, accessFlags := 10, slot := 28, constantValue := 0 }, { name := "ZEROS", type := (.object "java/lang/String"), accessFlags := 26, slot := 29, constantValue := 0 }, { name := "digitsPerLong", type := (.array .int), accessFlags := 10, slot := 30, constantValue := 0 }, { name := "longRadix", type := (.array (.object "java/math/BigInteger")), accessFlags := 10, slot := 31, constantValue := 0 }, { name := "digitsPerInt", type := (.array .int), accessFlags := 10, slot := 32, constantValue := 0 }, { name := "intRadix", type := (.array .int), accessFlags := 10, slot := 33, constantValue := 0 }, { name := "serialVersionUID", type := .long, accessFlags := 26, slot := 34, constantValue := 0 }, { name := "serialPersistentFields", type := (.array (.object "java/io/ObjectStreamField")), accessFlags := 26, slot := 35, constantValue := 0 }, { name := "$assertionsDisabled", type := .boolean, accessFlags := 4120, slot := 36, constantValue := 0 }]
  methods := #[k18m0, k18m1, k18m2, k18m3, k18m4]
  instanceTypes := #[.int, (.array .int), .int, .int, .int, .int]
  staticTypes := #[.long, .int, .int, .int, .int, .int, .int, .int, .int, .int, .int, .int, (.array .long), .int, .int, (.object "java/math/BigInteger"), .int, (.array (.object "java/math/BigInteger")), (.array (.object "java/math/BigInteger")), (.array (.array (.object "java/math/BigInteger"))), (.array .double), .double, (.object "java/math/BigInteger"), (.object "java/math/BigInteger"), (.object "java/math/BigInteger"), (.object "java/math/BigInteger"), (.object "java/math/BigInteger"), (.array .int), .int, (.object "java/lang/String"), (.array .int), (.array (.object "java/math/BigInteger")), (.array .int), (.array .int), .long, (.array (.object "java/io/ObjectStreamField")), .boolean]
  resolved := Array.replicate 1542 none
  statics := some 3 }

def pool19 : Array CpInfo := pool [(1, u "java/lang/Cloneable"), (0, .class_ 1), (0, u "java/lang/Object"), (0, .class_ 3)] 3

/-- java/lang/Cloneable -/
def k19 : Class := { plain "java/lang/Cloneable" (some 0) with
  accessFlags := 1537
  interfaces := #[]
  cf := some (fileOf pool19 2 #[] #[] 1537 4 #[] #[])
  fields := #[]
  methods := #[]
  instanceTypes := #[]
  staticTypes := #[]
  resolved := Array.replicate 8 none
  statics := none }

/-- the primitive byte -/
def k20 : Class := { plain "byte" none with kind := .primitive 'B', accessFlags := 0x411 }
/-- [B -/
def k21 : Class := { plain "[B" (some 0) with kind := .array 20 .byte, interfaces := #[19, 3], accessFlags := 1041 }

/-- the primitive char -/
def k22 : Class := { plain "char" none with kind := .primitive 'C', accessFlags := 0x411 }
/-- [C -/
def k23 : Class := { plain "[C" (some 0) with kind := .array 22 .char, interfaces := #[19, 3], accessFlags := 1041 }

/-- the primitive int -/
def k24 : Class := { plain "int" none with kind := .primitive 'I', accessFlags := 0x411 }
/-- [I -/
def k25 : Class := { plain "[I" (some 0) with kind := .array 24 .int, interfaces := #[19, 3], accessFlags := 1041 }

/-- the primitive long -/
def k26 : Class := { plain "long" none with kind := .primitive 'J', accessFlags := 0x411 }
/-- [J -/
def k27 : Class := { plain "[J" (some 0) with kind := .array 26 .long, interfaces := #[19, 3], accessFlags := 1041 }

/-- [Ljava/math/BigInteger; -/
def k28 : Class := { plain "[Ljava/math/BigInteger;" (some 0) with kind := .array 18 (.object "java/math/BigInteger"), interfaces := #[19, 3], accessFlags := 1041 }

/-- jdk/internal/util/ArraysSupport -/
def k29 : Class := plain "jdk/internal/util/ArraysSupport" (some 0)
def heap : Heap := #[{ cls := 8, slots := #[.long 0, .int 1, .null, .int 0, .null, .int 0, .int 0], vm := .statics 8 },
  { cls := 13, slots := #[.null, .null, .null], vm := .statics 13 },
  { cls := 14, slots := #[.int 0, .ref 5, .int 0, .int 0], vm := .statics 14 },
  { cls := 18, slots := #[.long 0, .int 0, .int 0, .int 0, .int 0, .int 0, .int 0, .int 0, .int 0, .int 0, .int 0, .int 0, .null, .int 0, .int 0, .null, .int 0, .ref 4, .null, .null, .null, .double 0, .ref 7, .ref 9, .ref 11, .null, .ref 27, .null, .int 0, .null, .null, .null, .null, .null, .long 0, .null, .int 0], vm := .statics 18 },
  { cls := 28, slots := #[.null, .ref 9, .ref 11, .ref 13, .ref 15, .ref 17, .ref 19, .ref 21, .ref 23, .ref 25, .ref 27, .ref 29, .ref 31, .ref 33, .ref 35, .ref 37, .ref 39], vm := .none },
  { cls := 27, slots := #[.long 1, .long 10, .long 100, .long 1000, .long 10000, .long 100000, .long 1000000, .long 10000000, .long 100000000, .long 1000000000, .long 10000000000, .long 100000000000, .long 1000000000000, .long 10000000000000, .long 100000000000000, .long 1000000000000000, .long 10000000000000000, .long 100000000000000000, .long 1000000000000000000], vm := .none },
  { cls := 25, slots := #[], vm := .none },
  { cls := 18, slots := #[.int 0, .ref 6, .int 0, .int 0, .int 0, .int 0], vm := .none },
  { cls := 25, slots := #[.int 1], vm := .none },
  { cls := 18, slots := #[.int 1, .ref 8, .int 0, .int 0, .int 0, .int 0], vm := .none },
  { cls := 25, slots := #[.int 2], vm := .none },
  { cls := 18, slots := #[.int 1, .ref 10, .int 0, .int 0, .int 0, .int 0], vm := .none },
  { cls := 25, slots := #[.int 3], vm := .none },
  { cls := 18, slots := #[.int 1, .ref 12, .int 0, .int 0, .int 0, .int 0], vm := .none },
  { cls := 25, slots := #[.int 4], vm := .none },
  { cls := 18, slots := #[.int 1, .ref 14, .int 0, .int 0, .int 0, .int 0], vm := .none },
  { cls := 25, slots := #[.int 5], vm := .none },
  { cls := 18, slots := #[.int 1, .ref 16, .int 0, .int 0, .int 0, .int 0], vm := .none },
  { cls := 25, slots := #[.int 6], vm := .none },
  { cls := 18, slots := #[.int 1, .ref 18, .int 0, .int 0, .int 0, .int 0], vm := .none },
  { cls := 25, slots := #[.int 7], vm := .none },
  { cls := 18, slots := #[.int 1, .ref 20, .int 0, .int 0, .int 0, .int 0], vm := .none },
  { cls := 25, slots := #[.int 8], vm := .none },
  { cls := 18, slots := #[.int 1, .ref 22, .int 0, .int 0, .int 0, .int 0], vm := .none },
  { cls := 25, slots := #[.int 9], vm := .none },
  { cls := 18, slots := #[.int 1, .ref 24, .int 0, .int 0, .int 0, .int 0], vm := .none },
  { cls := 25, slots := #[.int 10], vm := .none },
  { cls := 18, slots := #[.int 1, .ref 26, .int 0, .int 0, .int 0, .int 0], vm := .none },
  { cls := 25, slots := #[.int 11], vm := .none },
  { cls := 18, slots := #[.int 1, .ref 28, .int 0, .int 0, .int 0, .int 0], vm := .none },
  { cls := 25, slots := #[.int 12], vm := .none },
  { cls := 18, slots := #[.int 1, .ref 30, .int 0, .int 0, .int 0, .int 0], vm := .none },
  { cls := 25, slots := #[.int 13], vm := .none },
  { cls := 18, slots := #[.int 1, .ref 32, .int 0, .int 0, .int 0, .int 0], vm := .none },
  { cls := 25, slots := #[.int 14], vm := .none },
  { cls := 18, slots := #[.int 1, .ref 34, .int 0, .int 0, .int 0, .int 0], vm := .none },
  { cls := 25, slots := #[.int 15], vm := .none },
  { cls := 18, slots := #[.int 1, .ref 36, .int 0, .int 0, .int 0, .int 0], vm := .none },
  { cls := 25, slots := #[.int 16], vm := .none },
  { cls := 18, slots := #[.int 1, .ref 38, .int 0, .int 0, .int 0, .int 0], vm := .none }]
def classes : Array Class := #[k0, k1, k2, k3, k4, k5, k6, k7, k8, k9, k10, k11, k12, k13, k14, k15, k16, k17, k18, k19, k20, k21, k22, k23, k24, k25, k26, k27, k28, k29]
def interned : List (Array UInt16 × Addr) := []
def slotsUsed : Nat := 205
def theMethod : MethodId := ⟨1, 3⟩
def args0 : Array Value := #[.long 5, .long 7, .int 3]
def aboutOver (below : List Frame) : State where
  vm := { classes := classes, interned := interned.toArray }
  heap := heap
  slotsUsed := slotsUsed
  threads := #[{ frames := .invoking theMethod args0 :: below }]
def below0 : List Frame := [.native { method := ⟨0, 0⟩, args := #[] }]
def about1 : State := aboutOver below0
def p0 : Program := .bare "" "" ""
def e0 : Env := launch0.env 0 0 0
theorem w_frames : about1.frames = Frame.invoking theMethod args0 :: below0 := rfl
set_option maxRecDepth 65536 in
theorem w_args : argsFit about1.vm theMethod args0 = true := by decide +kernel
set_option maxRecDepth 65536 in
theorem w_heap : heapFits about1 = true := by decide +kernel
set_option maxRecDepth 65536 in
theorem w_runnable : about1.curStatus? = some .runnable := by decide +kernel
set_option maxRecDepth 65536 in
theorem w_alone : about1.alone = true := by decide +kernel
set_option maxRecDepth 65536 in
theorem w_named : about1.methodNamed? x = some theMethod := by decide +kernel
set_option maxRecDepth 65536 in
theorem w_hears : about1.hears theMethod below0 = true := by decide +kernel
set_option maxRecDepth 65536 in
theorem w_ripe : about1.ripe theMethod args0 below0 = true := by decide +kernel
theorem w_running : about1.status = .running := rfl
set_option maxRecDepth 65536 in
theorem w_room : about1.hasRoom e0.platform room_1 = true :=
  launch0.hasRoom_least _ room_1 (by decide +kernel) (by decide +kernel) (by decide +kernel) (by decide +kernel) (by decide +kernel) (by decide +kernel)
theorem allAtoms_all (ts : List Jvm.Cond) (a : Array Jvm.Value) (st : Jvm.State) : (allAtoms ts).before a st = ts.all (fun c => c.before a st) := by
  induction ts with
  | nil => rfl
  | cons c t ih =>
    show (Jvm.Cond.and c (allAtoms t)).before a st = _
    rw [Jvm.Cond.before_and, ih, List.all_cons]
def words1 : List Jvm.Cond := Jvm.Cond.code x code maxLocals ret :: tables_1
/-- a 'code' word, met by the world's own term for the bytes: nothing is compared byte by byte -/
theorem code_word {y : MethodName} {bytes : ByteArray} {mx : Nat} {rt : Option FieldType} {a : Array Value} {s : State} {m : MethodId} {meth : Method} {c : Code} (h1 : s.methodNamed? y = some m) (h2 : s.vm.method? m = some meth) (h3 : meth.code = some c) (h4 : c.code = bytes)
    (h5 : (c.maxLocals == mx && c.exceptionTable.isEmpty && decide (c.maxStack ≤ mostOperands) && decide (meth.sig.returnType = rt) && !meth.locks && decide (parseMethodDescriptor y.desc = some meth.sig)) = true) : (Jvm.Cond.code y bytes mx rt).before a s = true := by
  simp only [Bool.and_eq_true, beq_iff_eq, Bool.not_eq_true', decide_eq_true_eq] at h5
  obtain ⟨⟨⟨⟨⟨g1, g2⟩, g3⟩, g4⟩, g5⟩, g6⟩ := h5
  simp [Cond.before, Cond.holds, Cond.value, h1, h2, h3, h4, g1, g2, g3, g4, g5, g6]
def isCode : Jvm.Cond → Bool
  | .code _ _ _ _ => true
  | _ => false
theorem all_split {L : List Jvm.Cond} {P : Jvm.Cond → Bool} (h1 : L.all (fun c => isCode c || P c) = true) (h2 : ∀ c ∈ L.filter isCode, P c = true) : L.all P = true := by
  refine List.all_eq_true.mpr fun c hc => ?_
  have h := List.all_eq_true.mp h1 c hc
  rcases Bool.eq_false_or_eq_true (isCode c) with hi | hi
  · exact h2 c (List.mem_filter.mpr ⟨hc, hi⟩)
  · simpa [hi] using h
set_option maxRecDepth 65536 in
theorem w_c0 : (Jvm.Cond.code x code maxLocals ret).before args0 about1 = true := code_word (m := ⟨1, 3⟩) (meth := k1m3) (c := k1c3) (by decide +kernel) rfl rfl rfl (by decide +kernel)
set_option maxRecDepth 65536 in
theorem w_c1 : (Jvm.Cond.code ({ cls := "java/lang/Math", name := "min", desc := "(JJ)J" } : Jvm.MethodName) jdk_29_method_70_code (4 : Nat) (Option.some Jvm.ClassFile.FieldType.long)).before args0 about1 = true := code_word (m := ⟨2, 8⟩) (meth := k2m8) (c := k2c8) (by decide +kernel) rfl rfl rfl (by decide +kernel)
set_option maxRecDepth 65536 in
theorem w_c2 : (Jvm.Cond.code ({ cls := "com/example/equipoise/equipoise/BuilderDepartPinLaw", name := "text", desc := "(J)Ljava/lang/String;" } : Jvm.MethodName) method_3_code (3 : Nat) (Option.some (Jvm.ClassFile.FieldType.object "java/lang/String"))).before args0 about1 = true := code_word (m := ⟨1, 2⟩) (meth := k1m2) (c := k1c2) (by decide +kernel) rfl rfl rfl (by decide +kernel)
set_option maxRecDepth 65536 in
theorem w_c3 : (Jvm.Cond.code ({ cls := "com/example/equipoise/equipoise/BuilderDepartPinLaw", name := "d", desc := "(JJ)C" } : Jvm.MethodName) method_2_code (4 : Nat) (Option.some Jvm.ClassFile.FieldType.char)).before args0 about1 = true := code_word (m := ⟨1, 1⟩) (meth := k1m1) (c := k1c1) (by decide +kernel) rfl rfl rfl (by decide +kernel)
set_option maxRecDepth 65536 in
theorem w_c4 : (Jvm.Cond.code ({ cls := "java/lang/String", name := "<init>", desc := "([C)V" } : Jvm.MethodName) jdk_42_method_3_code (2 : Nat) (Option.none : Option Jvm.ClassFile.FieldType)).before args0 about1 = true := code_word (m := ⟨8, 1⟩) (meth := k8m1) (c := k8c1) (by decide +kernel) rfl rfl rfl (by decide +kernel)
set_option maxRecDepth 65536 in
theorem w_c5 : (Jvm.Cond.code ({ cls := "java/lang/String", name := "<init>", desc := "([CIILjava/lang/Void;)V" } : Jvm.MethodName) jdk_42_method_149_code (6 : Nat) (Option.none : Option Jvm.ClassFile.FieldType)).before args0 about1 = true := code_word (m := ⟨8, 6⟩) (meth := k8m6) (c := k8c6) (by decide +kernel) rfl rfl rfl (by decide +kernel)
set_option maxRecDepth 65536 in
theorem w_c6 : (Jvm.Cond.code ({ cls := "java/lang/Object", name := "<init>", desc := "()V" } : Jvm.MethodName) object_method_1_code (1 : Nat) (Option.none : Option Jvm.ClassFile.FieldType)).before args0 about1 = true := code_word (m := ⟨0, 0⟩) (meth := k0m0) (c := k0c0) (by decide +kernel) rfl rfl rfl (by decide +kernel)
set_option maxRecDepth 65536 in
theorem w_c7 : (Jvm.Cond.code ({ cls := "java/lang/StringUTF16", name := "compress", desc := "([CII)[B" } : Jvm.MethodName) jdk_52_method_16_code (6 : Nat) (Option.some (Jvm.ClassFile.FieldType.array Jvm.ClassFile.FieldType.byte))).before args0 about1 = true := code_word (m := ⟨9, 2⟩) (meth := k9m2) (c := k9c2) (by decide +kernel) rfl rfl rfl (by decide +kernel)
set_option maxRecDepth 65536 in
theorem w_c8 : (Jvm.Cond.code ({ cls := "java/lang/StringUTF16", name := "compress", desc := "([CI[BII)I" } : Jvm.MethodName) jdk_52_method_21_code (7 : Nat) (Option.some Jvm.ClassFile.FieldType.int)).before args0 about1 = true := code_word (m := ⟨9, 3⟩) (meth := k9m3) (c := k9c3) (by decide +kernel) rfl rfl rfl (by decide +kernel)
set_option maxRecDepth 65536 in
theorem w_c9 : (Jvm.Cond.code ({ cls := "java/lang/StringUTF16", name := "coderFromArrayLen", desc := "([BI)B" } : Jvm.MethodName) jdk_52_method_15_code (2 : Nat) (Option.some Jvm.ClassFile.FieldType.byte)).before args0 about1 = true := code_word (m := ⟨9, 1⟩) (meth := k9m1) (c := k9c1) (by decide +kernel) rfl rfl rfl (by decide +kernel)
set_option maxRecDepth 65536 in
theorem w_c10 : (Jvm.Cond.code ({ cls := "com/example/equipoise/equipoise/WeightFile$Builder", name := "<init>", desc := "(Ljava/lang/String;Ljava/lang/String;)V" } : Jvm.MethodName) prog_88_method_2_code (3 : Nat) (Option.none : Option Jvm.ClassFile.FieldType)).before args0 about1 = true := code_word (m := ⟨10, 0⟩) (meth := k10m0) (c := k10c0) (by decide +kernel) rfl rfl rfl (by decide +kernel)
set_option maxRecDepth 65536 in
theorem w_c11 : (Jvm.Cond.code ({ cls := "com/example/equipoise/equipoise/InputLines", name := "decimalPoint", desc := "(Ljava/lang/String;)I" } : Jvm.MethodName) prog_30_method_8_code (4 : Nat) (Option.some Jvm.ClassFile.FieldType.int)).before args0 about1 = true := code_word (m := ⟨11, 2⟩) (meth := k11m2) (c := k11c2) (by decide +kernel) rfl rfl rfl (by decide +kernel)
set_option maxRecDepth 65536 in
theorem w_c12 : (Jvm.Cond.code ({ cls := "java/lang/String", name := "length", desc := "()I" } : Jvm.MethodName) jdk_42_method_54_code (1 : Nat) (Option.some Jvm.ClassFile.FieldType.int)).before args0 about1 = true := code_word (m := ⟨8, 2⟩) (meth := k8m2) (c := k8c2) (by decide +kernel) rfl rfl rfl (by decide +kernel)
set_option maxRecDepth 65536 in
theorem w_c13 : (Jvm.Cond.code ({ cls := "java/lang/String", name := "coder", desc := "()B" } : Jvm.MethodName) jdk_42_method_152_code (1 : Nat) (Option.some Jvm.ClassFile.FieldType.byte)).before args0 about1 = true := code_word (m := ⟨8, 7⟩) (meth := k8m7) (c := k8c7) (by decide +kernel) rfl rfl rfl (by decide +kernel)
set_option maxRecDepth 65536 in
theorem w_c14 : (Jvm.Cond.code ({ cls := "java/lang/String", name := "indexOf", desc := "(I)I" } : Jvm.MethodName) jdk_42_method_79_code (2 : Nat) (Option.some Jvm.ClassFile.FieldType.int)).before args0 about1 = true := code_word (m := ⟨8, 4⟩) (meth := k8m4) (c := k8c4) (by decide +kernel) rfl rfl rfl (by decide +kernel)
set_option maxRecDepth 65536 in
theorem w_c15 : (Jvm.Cond.code ({ cls := "java/lang/String", name := "indexOf", desc := "(II)I" } : Jvm.MethodName) jdk_42_method_80_code (3 : Nat) (Option.some Jvm.ClassFile.FieldType.int)).before args0 about1 = true := code_word (m := ⟨8, 5⟩) (meth := k8m5) (c := k8c5) (by decide +kernel) rfl rfl rfl (by decide +kernel)
set_option maxRecDepth 65536 in
theorem w_c16 : (Jvm.Cond.code ({ cls := "java/lang/String", name := "isLatin1", desc := "()Z" } : Jvm.MethodName) jdk_42_method_154_code (1 : Nat) (Option.some Jvm.ClassFile.FieldType.boolean)).before args0 about1 = true := code_word (m := ⟨8, 8⟩) (meth := k8m8) (c := k8c8) (by decide +kernel) rfl rfl rfl (by decide +kernel)
set_option maxRecDepth 65536 in
theorem w_c17 : (Jvm.Cond.code ({ cls := "java/lang/StringLatin1", name := "indexOf", desc := "([BIII)I" } : Jvm.MethodName) jdk_43_method_22_code (4 : Nat) (Option.some Jvm.ClassFile.FieldType.int)).before args0 about1 = true := code_word (m := ⟨12, 3⟩) (meth := k12m3) (c := k12c3) (by decide +kernel) rfl rfl rfl (by decide +kernel)
set_option maxRecDepth 65536 in
theorem w_c18 : (Jvm.Cond.code ({ cls := "java/lang/StringLatin1", name := "canEncode", desc := "(I)Z" } : Jvm.MethodName) jdk_43_method_4_code (1 : Nat) (Option.some Jvm.ClassFile.FieldType.boolean)).before args0 about1 = true := code_word (m := ⟨12, 2⟩) (meth := k12m2) (c := k12c2) (by decide +kernel) rfl rfl rfl (by decide +kernel)
set_option maxRecDepth 65536 in
theorem w_c19 : (Jvm.Cond.code ({ cls := "java/lang/Math", name := "max", desc := "(II)I" } : Jvm.MethodName) jdk_29_method_65_code (2 : Nat) (Option.some Jvm.ClassFile.FieldType.int)).before args0 about1 = true := code_word (m := ⟨2, 5⟩) (meth := k2m5) (c := k2c5) (by decide +kernel) rfl rfl rfl (by decide +kernel)
set_option maxRecDepth 65536 in
theorem w_c20 : (Jvm.Cond.code ({ cls := "java/lang/Math", name := "min", desc := "(II)I" } : Jvm.MethodName) jdk_29_method_69_code (2 : Nat) (Option.some Jvm.ClassFile.FieldType.int)).before args0 about1 = true := code_word (m := ⟨2, 7⟩) (meth := k2m7) (c := k2c7) (by decide +kernel) rfl rfl rfl (by decide +kernel)
set_option maxRecDepth 65536 in
theorem w_c21 : (Jvm.Cond.code ({ cls := "java/lang/StringLatin1", name := "indexOfChar", desc := "([BIII)I" } : Jvm.MethodName) jdk_43_method_23_code (6 : Nat) (Option.some Jvm.ClassFile.FieldType.int)).before args0 about1 = true := code_word (m := ⟨12, 4⟩) (meth := k12m4) (c := k12c4) (by decide +kernel) rfl rfl rfl (by decide +kernel)
set_option maxRecDepth 65536 in
theorem w_c22 : (Jvm.Cond.code ({ cls := "com/example/equipoise/equipoise/InputLines", name := "isDigits", desc := "(Ljava/lang/String;II)Z" } : Jvm.MethodName) prog_30_method_6_code (4 : Nat) (Option.some Jvm.ClassFile.FieldType.boolean)).before args0 about1 = true := code_word (m := ⟨11, 1⟩) (meth := k11m1) (c := k11c1) (by decide +kernel) rfl rfl rfl (by decide +kernel)
set_option maxRecDepth 65536 in
theorem w_c23 : (Jvm.Cond.code ({ cls := "java/lang/String", name := "charAt", desc := "(I)C" } : Jvm.MethodName) jdk_42_method_56_code (2 : Nat) (Option.some Jvm.ClassFile.FieldType.char)).before args0 about1 = true := code_word (m := ⟨8, 3⟩) (meth := k8m3) (c := k8c3) (by decide +kernel) rfl rfl rfl (by decide +kernel)
set_option maxRecDepth 65536 in
theorem w_c24 : (Jvm.Cond.code ({ cls := "java/lang/StringLatin1", name := "charAt", desc := "([BI)C" } : Jvm.MethodName) jdk_43_method_2_code (2 : Nat) (Option.some Jvm.ClassFile.FieldType.char)).before args0 about1 = true := code_word (m := ⟨12, 1⟩) (meth := k12m1) (c := k12c1) (by decide +kernel) rfl rfl rfl (by decide +kernel)
set_option maxRecDepth 65536 in
theorem w_c25 : (Jvm.Cond.code ({ cls := "java/lang/String", name := "checkIndex", desc := "(II)V" } : Jvm.MethodName) jdk_42_method_155_code (2 : Nat) (Option.none : Option Jvm.ClassFile.FieldType)).before args0 about1 = true := code_word (m := ⟨8, 9⟩) (meth := k8m9) (c := k8c9) (by decide +kernel) rfl rfl rfl (by decide +kernel)
set_option maxRecDepth 65536 in
theorem w_c26 : (Jvm.Cond.code ({ cls := "jdk/internal/util/Preconditions", name := "checkIndex", desc := "(IILjava/util/function/BiFunction;)I" } : Jvm.MethodName) jdk_41_method_11_code (3 : Nat) (Option.some Jvm.ClassFile.FieldType.int)).before args0 about1 = true := code_word (m := ⟨13, 1⟩) (meth := k13m1) (c := k13c1) (by decide +kernel) rfl rfl rfl (by decide +kernel)
set_option maxRecDepth 65536 in
theorem w_c27 : (Jvm.Cond.code ({ cls := "com/example/equipoise/equipoise/WeightFile$Builder", name := "digits", desc := "(Ljava/lang/String;II)J" } : Jvm.MethodName) prog_88_method_7_code (6 : Nat) (Option.some Jvm.ClassFile.FieldType.long)).before args0 about1 = true := code_word (m := ⟨10, 4⟩) (meth := k10m4) (c := k10c4) (by decide +kernel) rfl rfl rfl (by decide +kernel)
set_option maxRecDepth 65536 in
theorem w_c28 : (Jvm.Cond.code ({ cls := "java/lang/Math", name := "multiplyExact", desc := "(JI)J" } : Jvm.MethodName) jdk_29_method_29_code (3 : Nat) (Option.some Jvm.ClassFile.FieldType.long)).before args0 about1 = true := code_word (m := ⟨2, 2⟩) (meth := k2m2) (c := k2c2) (by decide +kernel) rfl rfl rfl (by decide +kernel)
set_option maxRecDepth 65536 in
theorem w_c29 : (Jvm.Cond.code ({ cls := "java/lang/Math", name := "multiplyExact", desc := "(JJ)J" } : Jvm.MethodName) jdk_29_method_30_code (10 : Nat) (Option.some Jvm.ClassFile.FieldType.long)).before args0 about1 = true := code_word (m := ⟨2, 3⟩) (meth := k2m3) (c := k2c3) (by decide +kernel) rfl rfl rfl (by decide +kernel)
set_option maxRecDepth 65536 in
theorem w_c30 : (Jvm.Cond.code ({ cls := "java/lang/Math", name := "abs", desc := "(J)J" } : Jvm.MethodName) jdk_29_method_61_code (2 : Nat) (Option.some Jvm.ClassFile.FieldType.long)).before args0 about1 = true := code_word (m := ⟨2, 4⟩) (meth := k2m4) (c := k2c4) (by decide +kernel) rfl rfl rfl (by decide +kernel)
set_option maxRecDepth 65536 in
theorem w_c31 : (Jvm.Cond.code ({ cls := "java/lang/Math", name := "addExact", desc := "(JJ)J" } : Jvm.MethodName) jdk_29_method_25_code (6 : Nat) (Option.some Jvm.ClassFile.FieldType.long)).before args0 about1 = true := code_word (m := ⟨2, 1⟩) (meth := k2m1) (c := k2c1) (by decide +kernel) rfl rfl rfl (by decide +kernel)
set_option maxRecDepth 65536 in
theorem w_c32 : (Jvm.Cond.code ({ cls := "com/example/equipoise/equipoise/WeightList", name := "powerOfTen", desc := "(I)J" } : Jvm.MethodName) prog_89_method_4_code (1 : Nat) (Option.some Jvm.ClassFile.FieldType.long)).before args0 about1 = true := code_word (m := ⟨14, 2⟩) (meth := k14m2) (c := k14c2) (by decide +kernel) rfl rfl rfl (by decide +kernel)
set_option maxRecDepth 65536 in
theorem w_c33 : (Jvm.Cond.code ({ cls := "java/lang/Math", name := "max", desc := "(JJ)J" } : Jvm.MethodName) jdk_29_method_66_code (4 : Nat) (Option.some Jvm.ClassFile.FieldType.long)).before args0 about1 = true := code_word (m := ⟨2, 6⟩) (meth := k2m6) (c := k2c6) (by decide +kernel) rfl rfl rfl (by decide +kernel)
set_option maxRecDepth 65536 in
theorem w_c34 : (Jvm.Cond.code ({ cls := "com/example/equipoise/equipoise/WeightFile$Builder", name := "depart", desc := "(I)V" } : Jvm.MethodName) prog_88_method_4_code (2 : Nat) (Option.none : Option Jvm.ClassFile.FieldType)).before args0 about1 = true := code_word (m := ⟨10, 2⟩) (meth := k10m2) (c := k10c2) (by decide +kernel) rfl rfl rfl (by decide +kernel)
set_option maxRecDepth 65536 in
theorem w_c35 : (Jvm.Cond.code ({ cls := "com/example/equipoise/equipoise/WeightFile$Builder", name := "build", desc := "()Lcom/example/equipoise/equipoise/WeightList;" } : Jvm.MethodName) prog_88_method_5_code (1 : Nat) (Option.some (Jvm.ClassFile.FieldType.object "com/example/equipoise/equipoise/WeightList"))).before args0 about1 = true := code_word (m := ⟨10, 3⟩) (meth := k10m3) (c := k10c3) (by decide +kernel) rfl rfl rfl (by decide +kernel)
set_option maxRecDepth 65536 in
theorem w_c36 : (Jvm.Cond.code ({ cls := "com/example/equipoise/equipoise/WeightList", name := "ofUnits", desc := "([JII)Lcom/example/equipoise/equipoise/WeightList;" } : Jvm.MethodName) prog_89_method_3_code (11 : Nat) (Option.some (Jvm.ClassFile.FieldType.object "com/example/equipoise/equipoise/WeightList"))).before args0 about1 = true := code_word (m := ⟨14, 1⟩) (meth := k14m1) (c := k14c1) (by decide +kernel) rfl rfl rfl (by decide +kernel)
set_option maxRecDepth 65536 in
theorem w_c37 : (Jvm.Cond.code ({ cls := "java/util/Arrays", name := "copyOf", desc := "([JI)[J" } : Jvm.MethodName) jdk_65_method_124_code (3 : Nat) (Option.some (Jvm.ClassFile.FieldType.array Jvm.ClassFile.FieldType.long))).before args0 about1 = true := code_word (m := ⟨15, 1⟩) (meth := k15m1) (c := k15c1) (by decide +kernel) rfl rfl rfl (by decide +kernel)
set_option maxRecDepth 65536 in
theorem w_c38 : (Jvm.Cond.code ({ cls := "com/example/equipoise/equipoise/WeightList", name := "sum", desc := "([J)Ljava/math/BigInteger;" } : Jvm.MethodName) prog_89_method_5_code (9 : Nat) (Option.some (Jvm.ClassFile.FieldType.object "java/math/BigInteger"))).before args0 about1 = true := code_word (m := ⟨14, 3⟩) (meth := k14m3) (c := k14c3) (by decide +kernel) rfl rfl rfl (by decide +kernel)
set_option maxRecDepth 65536 in
theorem w_c39 : (Jvm.Cond.code ({ cls := "java/math/BigInteger", name := "valueOf", desc := "(J)Ljava/math/BigInteger;" } : Jvm.MethodName) jdk_2097_method_29_code (2 : Nat) (Option.some (Jvm.ClassFile.FieldType.object "java/math/BigInteger"))).before args0 about1 = true := code_word (m := ⟨18, 1⟩) (meth := k18m1) (c := k18c1) (by decide +kernel) rfl rfl rfl (by decide +kernel)
set_option maxRecDepth 65536 in
theorem w_c40 : (Jvm.Cond.code ({ cls := "java/math/BigInteger", name := "add", desc := "(Ljava/math/BigInteger;)Ljava/math/BigInteger;" } : Jvm.MethodName) jdk_2097_method_32_code (4 : Nat) (Option.some (Jvm.ClassFile.FieldType.object "java/math/BigInteger"))).before args0 about1 = true := code_word (m := ⟨18, 3⟩) (meth := k18m3) (c := k18c3) (by decide +kernel) rfl rfl rfl (by decide +kernel)
set_option maxRecDepth 65536 in
theorem w_c41 : (Jvm.Cond.code ({ cls := "java/math/BigInteger", name := "<init>", desc := "(J)V" } : Jvm.MethodName) jdk_2097_method_30_code (4 : Nat) (Option.none : Option Jvm.ClassFile.FieldType)).before args0 about1 = true := code_word (m := ⟨18, 2⟩) (meth := k18m2) (c := k18c2) (by decide +kernel) rfl rfl rfl (by decide +kernel)
set_option maxRecDepth 65536 in
theorem w_c42 : (Jvm.Cond.code ({ cls := "java/lang/Number", name := "<init>", desc := "()V" } : Jvm.MethodName) jdk_18_method_1_code (1 : Nat) (Option.none : Option Jvm.ClassFile.FieldType)).before args0 about1 = true := code_word (m := ⟨17, 0⟩) (meth := k17m0) (c := k17c0) (by decide +kernel) rfl rfl rfl (by decide +kernel)
set_option maxRecDepth 65536 in
theorem w_c43 : (Jvm.Cond.code ({ cls := "java/math/BigInteger", name := "add", desc := "([I[I)[I" } : Jvm.MethodName) jdk_2097_method_35_code (9 : Nat) (Option.some (Jvm.ClassFile.FieldType.array Jvm.ClassFile.FieldType.int))).before args0 about1 = true := code_word (m := ⟨18, 4⟩) (meth := k18m4) (c := k18c4) (by decide +kernel) rfl rfl rfl (by decide +kernel)
set_option maxRecDepth 65536 in
theorem w_c44 : (Jvm.Cond.code ({ cls := "java/math/BigInteger", name := "<init>", desc := "([II)V" } : Jvm.MethodName) jdk_2097_method_25_code (3 : Nat) (Option.none : Option Jvm.ClassFile.FieldType)).before args0 about1 = true := code_word (m := ⟨18, 0⟩) (meth := k18m0) (c := k18c0) (by decide +kernel) rfl rfl rfl (by decide +kernel)
set_option maxRecDepth 65536 in
theorem w_c45 : (Jvm.Cond.code ({ cls := "com/example/equipoise/equipoise/WeightList", name := "<init>", desc := "([JILjava/math/BigInteger;J)V" } : Jvm.MethodName) prog_89_method_1_code (6 : Nat) (Option.none : Option Jvm.ClassFile.FieldType)).before args0 about1 = true := code_word (m := ⟨14, 0⟩) (meth := k14m0) (c := k14c0) (by decide +kernel) rfl rfl rfl (by decide +kernel)
set_option maxRecDepth 65536 in
theorem w_c46 : (Jvm.Cond.code ({ cls := "com/example/equipoise/equipoise/WeightList", name := "size", desc := "()I" } : Jvm.MethodName) prog_89_method_6_code (1 : Nat) (Option.some Jvm.ClassFile.FieldType.int)).before args0 about1 = true := code_word (m := ⟨14, 4⟩) (meth := k14m4) (c := k14c4) (by decide +kernel) rfl rfl rfl (by decide +kernel)
set_option maxRecDepth 65536 in
theorem w_c47 : (Jvm.Cond.code ({ cls := "com/example/equipoise/equipoise/WeightList", name := "units", desc := "(I)J" } : Jvm.MethodName) prog_89_method_7_code (2 : Nat) (Option.some Jvm.ClassFile.FieldType.long)).before args0 about1 = true := code_word (m := ⟨14, 5⟩) (meth := k14m5) (c := k14c5) (by decide +kernel) rfl rfl rfl (by decide +kernel)
def codes1 : List Jvm.Cond := [Jvm.Cond.code x code maxLocals ret, Jvm.Cond.code ({ cls := "java/lang/Math", name := "min", desc := "(JJ)J" } : Jvm.MethodName) jdk_29_method_70_code (4 : Nat) (Option.some Jvm.ClassFile.FieldType.long), Jvm.Cond.code ({ cls := "com/example/equipoise/equipoise/BuilderDepartPinLaw", name := "text", desc := "(J)Ljava/lang/String;" } : Jvm.MethodName) method_3_code (3 : Nat) (Option.some (Jvm.ClassFile.FieldType.object "java/lang/String")), Jvm.Cond.code ({ cls := "com/example/equipoise/equipoise/BuilderDepartPinLaw", name := "d", desc := "(JJ)C" } : Jvm.MethodName) method_2_code (4 : Nat) (Option.some Jvm.ClassFile.FieldType.char), Jvm.Cond.code ({ cls := "java/lang/String", name := "<init>", desc := "([C)V" } : Jvm.MethodName) jdk_42_method_3_code (2 : Nat) (Option.none : Option Jvm.ClassFile.FieldType), Jvm.Cond.code ({ cls := "java/lang/String", name := "<init>", desc := "([CIILjava/lang/Void;)V" } : Jvm.MethodName) jdk_42_method_149_code (6 : Nat) (Option.none : Option Jvm.ClassFile.FieldType), Jvm.Cond.code ({ cls := "java/lang/Object", name := "<init>", desc := "()V" } : Jvm.MethodName) object_method_1_code (1 : Nat) (Option.none : Option Jvm.ClassFile.FieldType), Jvm.Cond.code ({ cls := "java/lang/StringUTF16", name := "compress", desc := "([CII)[B" } : Jvm.MethodName) jdk_52_method_16_code (6 : Nat) (Option.some (Jvm.ClassFile.FieldType.array Jvm.ClassFile.FieldType.byte)), Jvm.Cond.code ({ cls := "java/lang/StringUTF16", name := "compress", desc := "([CI[BII)I" } : Jvm.MethodName) jdk_52_method_21_code (7 : Nat) (Option.some Jvm.ClassFile.FieldType.int), Jvm.Cond.code ({ cls := "java/lang/StringUTF16", name := "coderFromArrayLen", desc := "([BI)B" } : Jvm.MethodName) jdk_52_method_15_code (2 : Nat) (Option.some Jvm.ClassFile.FieldType.byte), Jvm.Cond.code ({ cls := "com/example/equipoise/equipoise/WeightFile$Builder", name := "<init>", desc := "(Ljava/lang/String;Ljava/lang/String;)V" } : Jvm.MethodName) prog_88_method_2_code (3 : Nat) (Option.none : Option Jvm.ClassFile.FieldType), Jvm.Cond.code ({ cls := "com/example/equipoise/equipoise/InputLines", name := "decimalPoint", desc := "(Ljava/lang/String;)I" } : Jvm.MethodName) prog_30_method_8_code (4 : Nat) (Option.some Jvm.ClassFile.FieldType.int), Jvm.Cond.code ({ cls := "java/lang/String", name := "length", desc := "()I" } : Jvm.MethodName) jdk_42_method_54_code (1 : Nat) (Option.some Jvm.ClassFile.FieldType.int), Jvm.Cond.code ({ cls := "java/lang/String", name := "coder", desc := "()B" } : Jvm.MethodName) jdk_42_method_152_code (1 : Nat) (Option.some Jvm.ClassFile.FieldType.byte), Jvm.Cond.code ({ cls := "java/lang/String", name := "indexOf", desc := "(I)I" } : Jvm.MethodName) jdk_42_method_79_code (2 : Nat) (Option.some Jvm.ClassFile.FieldType.int), Jvm.Cond.code ({ cls := "java/lang/String", name := "indexOf", desc := "(II)I" } : Jvm.MethodName) jdk_42_method_80_code (3 : Nat) (Option.some Jvm.ClassFile.FieldType.int), Jvm.Cond.code ({ cls := "java/lang/String", name := "isLatin1", desc := "()Z" } : Jvm.MethodName) jdk_42_method_154_code (1 : Nat) (Option.some Jvm.ClassFile.FieldType.boolean), Jvm.Cond.code ({ cls := "java/lang/StringLatin1", name := "indexOf", desc := "([BIII)I" } : Jvm.MethodName) jdk_43_method_22_code (4 : Nat) (Option.some Jvm.ClassFile.FieldType.int), Jvm.Cond.code ({ cls := "java/lang/StringLatin1", name := "canEncode", desc := "(I)Z" } : Jvm.MethodName) jdk_43_method_4_code (1 : Nat) (Option.some Jvm.ClassFile.FieldType.boolean), Jvm.Cond.code ({ cls := "java/lang/Math", name := "max", desc := "(II)I" } : Jvm.MethodName) jdk_29_method_65_code (2 : Nat) (Option.some Jvm.ClassFile.FieldType.int), Jvm.Cond.code ({ cls := "java/lang/Math", name := "min", desc := "(II)I" } : Jvm.MethodName) jdk_29_method_69_code (2 : Nat) (Option.some Jvm.ClassFile.FieldType.int), Jvm.Cond.code ({ cls := "java/lang/StringLatin1", name := "indexOfChar", desc := "([BIII)I" } : Jvm.MethodName) jdk_43_method_23_code (6 : Nat) (Option.some Jvm.ClassFile.FieldType.int), Jvm.Cond.code ({ cls := "com/example/equipoise/equipoise/InputLines", name := "isDigits", desc := "(Ljava/lang/String;II)Z" } : Jvm.MethodName) prog_30_method_6_code (4 : Nat) (Option.some Jvm.ClassFile.FieldType.boolean), Jvm.Cond.code ({ cls := "java/lang/String", name := "charAt", desc := "(I)C" } : Jvm.MethodName) jdk_42_method_56_code (2 : Nat) (Option.some Jvm.ClassFile.FieldType.char), Jvm.Cond.code ({ cls := "java/lang/StringLatin1", name := "charAt", desc := "([BI)C" } : Jvm.MethodName) jdk_43_method_2_code (2 : Nat) (Option.some Jvm.ClassFile.FieldType.char), Jvm.Cond.code ({ cls := "java/lang/String", name := "checkIndex", desc := "(II)V" } : Jvm.MethodName) jdk_42_method_155_code (2 : Nat) (Option.none : Option Jvm.ClassFile.FieldType), Jvm.Cond.code ({ cls := "jdk/internal/util/Preconditions", name := "checkIndex", desc := "(IILjava/util/function/BiFunction;)I" } : Jvm.MethodName) jdk_41_method_11_code (3 : Nat) (Option.some Jvm.ClassFile.FieldType.int), Jvm.Cond.code ({ cls := "com/example/equipoise/equipoise/WeightFile$Builder", name := "digits", desc := "(Ljava/lang/String;II)J" } : Jvm.MethodName) prog_88_method_7_code (6 : Nat) (Option.some Jvm.ClassFile.FieldType.long), Jvm.Cond.code ({ cls := "java/lang/Math", name := "multiplyExact", desc := "(JI)J" } : Jvm.MethodName) jdk_29_method_29_code (3 : Nat) (Option.some Jvm.ClassFile.FieldType.long), Jvm.Cond.code ({ cls := "java/lang/Math", name := "multiplyExact", desc := "(JJ)J" } : Jvm.MethodName) jdk_29_method_30_code (10 : Nat) (Option.some Jvm.ClassFile.FieldType.long), Jvm.Cond.code ({ cls := "java/lang/Math", name := "abs", desc := "(J)J" } : Jvm.MethodName) jdk_29_method_61_code (2 : Nat) (Option.some Jvm.ClassFile.FieldType.long), Jvm.Cond.code ({ cls := "java/lang/Math", name := "addExact", desc := "(JJ)J" } : Jvm.MethodName) jdk_29_method_25_code (6 : Nat) (Option.some Jvm.ClassFile.FieldType.long), Jvm.Cond.code ({ cls := "com/example/equipoise/equipoise/WeightList", name := "powerOfTen", desc := "(I)J" } : Jvm.MethodName) prog_89_method_4_code (1 : Nat) (Option.some Jvm.ClassFile.FieldType.long), Jvm.Cond.code ({ cls := "java/lang/Math", name := "max", desc := "(JJ)J" } : Jvm.MethodName) jdk_29_method_66_code (4 : Nat) (Option.some Jvm.ClassFile.FieldType.long), Jvm.Cond.code ({ cls := "com/example/equipoise/equipoise/WeightFile$Builder", name := "depart", desc := "(I)V" } : Jvm.MethodName) prog_88_method_4_code (2 : Nat) (Option.none : Option Jvm.ClassFile.FieldType), Jvm.Cond.code ({ cls := "com/example/equipoise/equipoise/WeightFile$Builder", name := "build", desc := "()Lcom/example/equipoise/equipoise/WeightList;" } : Jvm.MethodName) prog_88_method_5_code (1 : Nat) (Option.some (Jvm.ClassFile.FieldType.object "com/example/equipoise/equipoise/WeightList")), Jvm.Cond.code ({ cls := "com/example/equipoise/equipoise/WeightList", name := "ofUnits", desc := "([JII)Lcom/example/equipoise/equipoise/WeightList;" } : Jvm.MethodName) prog_89_method_3_code (11 : Nat) (Option.some (Jvm.ClassFile.FieldType.object "com/example/equipoise/equipoise/WeightList")), Jvm.Cond.code ({ cls := "java/util/Arrays", name := "copyOf", desc := "([JI)[J" } : Jvm.MethodName) jdk_65_method_124_code (3 : Nat) (Option.some (Jvm.ClassFile.FieldType.array Jvm.ClassFile.FieldType.long)), Jvm.Cond.code ({ cls := "com/example/equipoise/equipoise/WeightList", name := "sum", desc := "([J)Ljava/math/BigInteger;" } : Jvm.MethodName) prog_89_method_5_code (9 : Nat) (Option.some (Jvm.ClassFile.FieldType.object "java/math/BigInteger")), Jvm.Cond.code ({ cls := "java/math/BigInteger", name := "valueOf", desc := "(J)Ljava/math/BigInteger;" } : Jvm.MethodName) jdk_2097_method_29_code (2 : Nat) (Option.some (Jvm.ClassFile.FieldType.object "java/math/BigInteger")), Jvm.Cond.code ({ cls := "java/math/BigInteger", name := "add", desc := "(Ljava/math/BigInteger;)Ljava/math/BigInteger;" } : Jvm.MethodName) jdk_2097_method_32_code (4 : Nat) (Option.some (Jvm.ClassFile.FieldType.object "java/math/BigInteger")), Jvm.Cond.code ({ cls := "java/math/BigInteger", name := "<init>", desc := "(J)V" } : Jvm.MethodName) jdk_2097_method_30_code (4 : Nat) (Option.none : Option Jvm.ClassFile.FieldType), Jvm.Cond.code ({ cls := "java/lang/Number", name := "<init>", desc := "()V" } : Jvm.MethodName) jdk_18_method_1_code (1 : Nat) (Option.none : Option Jvm.ClassFile.FieldType), Jvm.Cond.code ({ cls := "java/math/BigInteger", name := "add", desc := "([I[I)[I" } : Jvm.MethodName) jdk_2097_method_35_code (9 : Nat) (Option.some (Jvm.ClassFile.FieldType.array Jvm.ClassFile.FieldType.int)), Jvm.Cond.code ({ cls := "java/math/BigInteger", name := "<init>", desc := "([II)V" } : Jvm.MethodName) jdk_2097_method_25_code (3 : Nat) (Option.none : Option Jvm.ClassFile.FieldType), Jvm.Cond.code ({ cls := "com/example/equipoise/equipoise/WeightList", name := "<init>", desc := "([JILjava/math/BigInteger;J)V" } : Jvm.MethodName) prog_89_method_1_code (6 : Nat) (Option.none : Option Jvm.ClassFile.FieldType), Jvm.Cond.code ({ cls := "com/example/equipoise/equipoise/WeightList", name := "size", desc := "()I" } : Jvm.MethodName) prog_89_method_6_code (1 : Nat) (Option.some Jvm.ClassFile.FieldType.int), Jvm.Cond.code ({ cls := "com/example/equipoise/equipoise/WeightList", name := "units", desc := "(I)J" } : Jvm.MethodName) prog_89_method_7_code (2 : Nat) (Option.some Jvm.ClassFile.FieldType.long)]
set_option maxRecDepth 65536 in
theorem codes_eq : words1.filter isCode = codes1 := rfl
theorem w_codes : ∀ c ∈ words1.filter isCode, c.before args0 about1 = true := by
  rw [codes_eq]
  intro c hc
  simp only [codes1, List.mem_cons, List.not_mem_nil, or_false] at hc
  rcases hc with rfl | rfl | rfl | rfl | rfl | rfl | rfl | rfl | rfl | rfl | rfl | rfl | rfl | rfl | rfl | rfl | rfl | rfl | rfl | rfl | rfl | rfl | rfl | rfl | rfl | rfl | rfl | rfl | rfl | rfl | rfl | rfl | rfl | rfl | rfl | rfl | rfl | rfl | rfl | rfl | rfl | rfl | rfl | rfl | rfl | rfl | rfl | rfl
  · exact w_c0
  · exact w_c1
  · exact w_c2
  · exact w_c3
  · exact w_c4
  · exact w_c5
  · exact w_c6
  · exact w_c7
  · exact w_c8
  · exact w_c9
  · exact w_c10
  · exact w_c11
  · exact w_c12
  · exact w_c13
  · exact w_c14
  · exact w_c15
  · exact w_c16
  · exact w_c17
  · exact w_c18
  · exact w_c19
  · exact w_c20
  · exact w_c21
  · exact w_c22
  · exact w_c23
  · exact w_c24
  · exact w_c25
  · exact w_c26
  · exact w_c27
  · exact w_c28
  · exact w_c29
  · exact w_c30
  · exact w_c31
  · exact w_c32
  · exact w_c33
  · exact w_c34
  · exact w_c35
  · exact w_c36
  · exact w_c37
  · exact w_c38
  · exact w_c39
  · exact w_c40
  · exact w_c41
  · exact w_c42
  · exact w_c43
  · exact w_c44
  · exact w_c45
  · exact w_c46
  · exact w_c47
set_option maxRecDepth 65536 in
theorem w_t1 : (words1.take 24).all (fun c => isCode c || c.before args0 about1) = true := by decide +kernel
set_option maxRecDepth 65536 in
theorem w_t2 : ((words1.drop 24).take 24).all (fun c => isCode c || c.before args0 about1) = true := by decide +kernel
set_option maxRecDepth 65536 in
theorem w_t3 : (((words1.drop 24).drop 24).take 24).all (fun c => isCode c || c.before args0 about1) = true := by decide +kernel
set_option maxRecDepth 65536 in
theorem w_t4 : ((((words1.drop 24).drop 24).drop 24).take 24).all (fun c => isCode c || c.before args0 about1) = true := by decide +kernel
set_option maxRecDepth 65536 in
theorem w_t5 : (((((words1.drop 24).drop 24).drop 24).drop 24).take 24).all (fun c => isCode c || c.before args0 about1) = true := by decide +kernel
set_option maxRecDepth 65536 in
theorem w_t6 : ((((((words1.drop 24).drop 24).drop 24).drop 24).drop 24).take 24).all (fun c => isCode c || c.before args0 about1) = true := by decide +kernel
set_option maxRecDepth 65536 in
theorem w_t7 : (((((((words1.drop 24).drop 24).drop 24).drop 24).drop 24).drop 24).take 24).all (fun c => isCode c || c.before args0 about1) = true := by decide +kernel
set_option maxRecDepth 65536 in
theorem w_t8 : ((((((((words1.drop 24).drop 24).drop 24).drop 24).drop 24).drop 24).drop 24).take 24).all (fun c => isCode c || c.before args0 about1) = true := by decide +kernel
set_option maxRecDepth 65536 in
theorem w_t9 : (((((((((words1.drop 24).drop 24).drop 24).drop 24).drop 24).drop 24).drop 24).drop 24).take 24).all (fun c => isCode c || c.before args0 about1) = true := by decide +kernel
set_option maxRecDepth 65536 in
theorem w_t10 : ((((((((((words1.drop 24).drop 24).drop 24).drop 24).drop 24).drop 24).drop 24).drop 24).drop 24).take 24).all (fun c => isCode c || c.before args0 about1) = true := by decide +kernel
set_option maxRecDepth 65536 in
theorem w_t11 : (((((((((((words1.drop 24).drop 24).drop 24).drop 24).drop 24).drop 24).drop 24).drop 24).drop 24).drop 24).take 24).all (fun c => isCode c || c.before args0 about1) = true := by decide +kernel
set_option maxRecDepth 65536 in
theorem w_t12 : (((((((((((words1.drop 24).drop 24).drop 24).drop 24).drop 24).drop 24).drop 24).drop 24).drop 24).drop 24).drop 24).all (fun c => isCode c || c.before args0 about1) = true := by decide +kernel
theorem w_tables : (allAtoms (Jvm.Cond.code x code maxLocals ret :: tables_1)).before args0 about1 = true := by
  rw [allAtoms_all]
  show words1.all (fun c => c.before args0 about1) = true
  refine all_split ?_ w_codes
  rw [← List.take_append_drop 24 words1, List.all_append, w_t1, ← List.take_append_drop 24 (words1.drop 24), List.all_append, w_t2, ← List.take_append_drop 24 ((words1.drop 24).drop 24), List.all_append, w_t3, ← List.take_append_drop 24 (((words1.drop 24).drop 24).drop 24), List.all_append, w_t4, ← List.take_append_drop 24 ((((words1.drop 24).drop 24).drop 24).drop 24), List.all_append, w_t5, ← List.take_append_drop 24 (((((words1.drop 24).drop 24).drop 24).drop 24).drop 24), List.all_append, w_t6, ← List.take_append_drop 24 ((((((words1.drop 24).drop 24).drop 24).drop 24).drop 24).drop 24), List.all_append, w_t7, ← List.take_append_drop 24 (((((((words1.drop 24).drop 24).drop 24).drop 24).drop 24).drop 24).drop 24), List.all_append, w_t8, ← List.take_append_drop 24 ((((((((words1.drop 24).drop 24).drop 24).drop 24).drop 24).drop 24).drop 24).drop 24), List.all_append, w_t9, ← List.take_append_drop 24 (((((((((words1.drop 24).drop 24).drop 24).drop 24).drop 24).drop 24).drop 24).drop 24).drop 24), List.all_append, w_t10, ← List.take_append_drop 24 ((((((((((words1.drop 24).drop 24).drop 24).drop 24).drop 24).drop 24).drop 24).drop 24).drop 24).drop 24), List.all_append, w_t11, w_t12]
  rfl
set_option maxRecDepth 65536 in
theorem w_rest : rest_1_c.before args0 about1 = true := by decide +kernel
set_option maxRecDepth 65536 in
theorem w_case : (Jvm.Cond.and given_1 narrow_1).before args0 about1 = true := by decide +kernel
theorem w_applies : (headSpec (Jvm.Cond.code x code maxLocals ret :: tables_1) room_1).applies x e0.platform about1 = true :=
  (Spec.applies_iff w_frames).mpr ⟨w_running, w_runnable, w_alone, w_named, w_hears, w_ripe, w_room, w_tables⟩
theorem atStart : AtStart classFile x code maxLocals ret World_1 tables_1 room_1 Calls_1 rest_1 Pre_1 launch0 p0 e0 about1 theMethod args0 below0 :=
  ⟨lists_1, trivial, launch0.admits_env _ _ _, launch0.least_env, fairChoices_fair.cas, fairChoices_fair.clock, w_frames, w_args, w_heap, w_applies, trivial, w_rest, w_case⟩
end start1
theorem witness_1 : WitnessClaimed_1 := ⟨start1.p0, start1.e0, start1.about1, start1.theMethod, start1.args0, start1.below0, start1.atStart⟩
end Jvm.Pilot.@@N@@
