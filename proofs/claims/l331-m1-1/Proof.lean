import JvmDerived
import JvmDerived.Pilot.@@N@@Statement
import JvmDerived.Pilot.@@N@@Code
set_option linter.unusedVariables false
set_option linter.unusedSimpArgs false
namespace Jvm.Pilot.@@N@@
open Jvm Jvm.ClassFile Sem Op Lib Jvm.Free Jvm.Stand Jvm.LawKit Jvm.RoadKit Bundle Jvm.Pilot.@@N@@.Jvm.D
def own_usr (x y : Int32) : Int32 := (x.toUInt32 >>> (y &&& 31).toUInt32).toInt32
def own_usrL (x : Int64) (y : Int32) : Int64 := (x.toUInt64 >>> (y &&& 0x3f).toInt64.toUInt64).toInt64
/-- where the run came from, where it stands -/
def Go (p : Program) (e : Env) (below : List Frame) (A B : State) : Prop := ∀ t, Steps p.tables e below B t → Steps p.tables e below A t
theorem Go.step {p : Program} {e : Env} {below : List Frame} {A B C : State} (g : Go p e below A B) (h : ∀ t, Steps p.tables e below C t → Steps p.tables e below B t) : Go p e below A C := fun t k => g t (h t k)
theorem Go.tr {p : Program} {e : Env} {below : List Frame} {A B C : State} (g : Go p e below A B) (h : Steps p.tables e below B C) : Go p e below A C := fun t k => g t (h.trans k)
section Rets
variable {p : Program} {l : Launch} {e : Env} {R : Room} {s : State} {m : MethodId} {args : Array Value} {below : List Frame} {meth : Method} {c : Code} {T : State} {locs : List Loc} {cells slots : Nat}
theorem own_retI (X : Stand p l e R s m args below meth c T locs cells slots) (hx : p.tables.exec = Jvm.exec) {pc : Nat} {Ls : Array Slot} {z : Int32} {rest : List Value} (hret : meth.sig.returnType = some .int) (hd : decode c.code pc = .ok (.ireturn, 1)) {fs : List Frame}
    (hl : ∀ (f : JFrame) (acts : List Action), f.method = m → f.locked = none → f.entered = [] → (doReturn e (T.setTop f) acts (some (.int z))).1 = T.setFrames fs) : Steps p.tables e below (T.setTop (mkF m pc Ls (.int z :: rest))) (T.setFrames fs) :=
  retOut X hx (t := .int) hret rfl (Or.inl ⟨rfl, Or.inl rfl, z, rfl⟩) hd hl
theorem own_retL (X : Stand p l e R s m args below meth c T locs cells slots) (hx : p.tables.exec = Jvm.exec) {pc : Nat} {Ls : Array Slot} {z : Int64} {rest : List Value} (hret : meth.sig.returnType = some .long) (hd : decode c.code pc = .ok (.lreturn, 1)) {fs : List Frame}
    (hl : ∀ (f : JFrame) (acts : List Action), f.method = m → f.locked = none → f.entered = [] → (doReturn e (T.setTop f) acts (some (.long z))).1 = T.setFrames fs) : Steps p.tables e below (T.setTop (mkF m pc Ls (.long z :: rest))) (T.setFrames fs) :=
  retOut X hx (t := .long) hret rfl (Or.inr (Or.inl ⟨rfl, rfl, z, rfl⟩)) hd hl
theorem own_retA (X : Stand p l e R s m args below meth c T locs cells slots) (hx : p.tables.exec = Jvm.exec) {t : FieldType} {pc : Nat} {Ls : Array Slot} {z : Addr} {rest : List Value} (hret : meth.sig.returnType = some t) (ht : t.isReference = true) (hn : narrow t (.ref z) = .ref z) (hd : decode c.code pc = .ok (.areturn, 1)) {fs : List Frame}
    (hl : ∀ (f : JFrame) (acts : List Action), f.method = m → f.locked = none → f.entered = [] → (doReturn e (T.setTop f) acts (some (.ref z))).1 = T.setFrames fs) : Steps p.tables e below (T.setTop (mkF m pc Ls (.ref z :: rest))) (T.setFrames fs) :=
  retOut X hx hret hn (Or.inr (Or.inr (Or.inr (Or.inr ⟨rfl, ht, rfl⟩)))) hd hl
end Rets
def own_num (f : Nat → Int32) : Nat → Nat → Int32 → Int32
  | _, 0, acc => acc
  | j, k + 1, acc => if f j - (48 : Int32) < (0 : Int32) then (-1 : Int32) else if (9 : Int32) < f j - (48 : Int32) then (-1 : Int32) else own_num f (j + 1) k (acc * (10 : Int32) + (f j - (48 : Int32)))
def own_Vs (vs : List Value) (f : Nat → Int32) : Prop := ∀ j, j < 7 → vs.getD j (.int (0 : Int32)) = .int (f j)
theorem own_in {i : Int32} {j : Nat} (h : i.toInt = (j : Int)) (hj : j < 7) : ¬ i < 0 ∧ i < (7 : Int32) := by
  have e0 : (0 : Int32).toInt = 0 := rfl
  have e7 : (7 : Int32).toInt = 7 := rfl
  rw [Int32.lt_iff_toInt_lt, Int32.lt_iff_toInt_lt, e0, e7]; omega
theorem own_rd {vs : List Value} {f : Nat → Int32} (hv : own_Vs vs f) {i : Int32} {j : Nat} (h : i.toInt = (j : Int)) (hj : j < 7) : vs.getD (i).toNatClampNeg (.int (0 : Int32)) = .int (f j) := by
  have e : i.toNatClampNeg = j := by show i.toInt.toNat = j; omega
  rw [e]; exact hv j hj
theorem own_succ {i : Int32} {j : Nat} (h : i.toInt = (j : Int)) (hj : j < 7) : (i + (1 : Int32)).toInt = ((j + 1 : Nat) : Int) := by
  have := c_iadd i 1
  have r := rng32 (i + 1)
  have e : (1 : Int32).toInt = 1 := rfl
  rw [e] at this
  omega
theorem own_lt {i e : Int32} {j k : Nat} (h : i.toInt = (j : Int)) (he : e.toInt = ((j + (k + 1) : Nat) : Int)) : i < e := by
  rw [Int32.lt_iff_toInt_lt]; omega
theorem own_nlt {i e : Int32} {j : Nat} (h : i.toInt = (j : Int)) (he : e.toInt = ((j + 0 : Nat) : Int)) : ¬ i < e := by
  rw [Int32.lt_iff_toInt_lt]; omega
theorem d3_5 : decode prog_34_method_2_code 5 = .ok (.iload 4, 2) := by decide +kernel
theorem d3_7 : decode prog_34_method_2_code 7 = .ok (.iload_n 1, 1) := by decide +kernel
theorem d3_8 : decode prog_34_method_2_code 8 = .ok (.iload_n 2, 1) := by decide +kernel
theorem d3_9 : decode prog_34_method_2_code 9 = .ok (.iadd, 1) := by decide +kernel
theorem d3_10 : decode prog_34_method_2_code 10 = .ok (.if_icmp .ge 40, 3) := by decide +kernel
theorem d3_13 : decode prog_34_method_2_code 13 = .ok (.aload_n 0, 1) := by decide +kernel
theorem d3_14 : decode prog_34_method_2_code 14 = .ok (.iload 4, 2) := by decide +kernel
theorem d3_16 : decode prog_34_method_2_code 16 = .ok (.baload, 1) := by decide +kernel
theorem d3_17 : decode prog_34_method_2_code 17 = .ok (.bipush 48, 2) := by decide +kernel
theorem d3_19 : decode prog_34_method_2_code 19 = .ok (.isub, 1) := by decide +kernel
theorem d3_20 : decode prog_34_method_2_code 20 = .ok (.istore 5, 2) := by decide +kernel
theorem d3_22 : decode prog_34_method_2_code 22 = .ok (.iload 5, 2) := by decide +kernel
theorem d3_24 : decode prog_34_method_2_code 24 = .ok (.ifCond .lt 10, 3) := by decide +kernel
theorem d3_27 : decode prog_34_method_2_code 27 = .ok (.iload 5, 2) := by decide +kernel
theorem d3_29 : decode prog_34_method_2_code 29 = .ok (.bipush 9, 2) := by decide +kernel
theorem d3_31 : decode prog_34_method_2_code 31 = .ok (.if_icmp .le 5, 3) := by decide +kernel
theorem d3_36 : decode prog_34_method_2_code 36 = .ok (.iload_n 3, 1) := by decide +kernel
theorem d3_37 : decode prog_34_method_2_code 37 = .ok (.bipush 10, 2) := by decide +kernel
theorem d3_39 : decode prog_34_method_2_code 39 = .ok (.imul, 1) := by decide +kernel
theorem d3_40 : decode prog_34_method_2_code 40 = .ok (.iload 5, 2) := by decide +kernel
theorem d3_42 : decode prog_34_method_2_code 42 = .ok (.iadd, 1) := by decide +kernel
theorem d3_43 : decode prog_34_method_2_code 43 = .ok (.istore_n 3, 1) := by decide +kernel
theorem d3_44 : decode prog_34_method_2_code 44 = .ok (.iinc 4 1, 3) := by decide +kernel
theorem d3_47 : decode prog_34_method_2_code 47 = .ok (.goto (-42), 3) := by decide +kernel
set_option maxRecDepth 65536 in
set_option maxHeartbeats 40000000 in
theorem lp_num {p : Program} {l : Launch} {e : Env} {R : Room} {s : State} {m : MethodId} {args : Array Value} {below : List Frame} {meth : Method} {c : Code} {cells slots : Nat} {Z : State} {a0 : Array Value} {A : State} {G : Prop} (o0 : Addr) (p1 : Int32) (p2 : Int32) (ka : ClassId) (vs : List Value) (f : Nat → Int32) (res : Int32) (h0 : Heap) (n0 : Nat)
    (hx : p.tables.exec = Jvm.exec) (hZ : Z.Warmed39 s.vm) (hw : ∀ d ∈ tables_1, d.before a0 Z = true) (hby : c.code = prog_34_method_2_code) (hml : c.maxLocals = 6) (hown : s.vm.findClass "com/example/zemlja/zemlja/iso2709/Iso2709" = some m.cls) (V0 : Arv Z h0 o0 ka .byte (7 : Int32) vs (.int (0 : Int32))) (hv : own_Vs vs f)
    (kx0 : ∀ (T : State) (locs : List Loc) (i : Int32) (s5 : Slot) (val : Int32), Stand p l e R s m args below meth c T locs cells slots → T.heap = h0 → Fr n0 locs → val = res → Go p e below A (T.setTop (mkF m 50 #[.val (.ref o0), .val (.int p1), .val (.int p2), .val (.int val), .val (.int i), s5] [])) → G)
    (kx1 : ∀ (T : State) (locs : List Loc) (i : Int32) (s5 : Slot) (val : Int32), Stand p l e R s m args below meth c T locs cells slots → T.heap = h0 → Fr n0 locs → res = (-1 : Int32) → Go p e below A (T.setTop (mkF m 34 #[.val (.ref o0), .val (.int p1), .val (.int p2), .val (.int val), .val (.int i), s5] [])) → G)
    : ∀ (k : Nat) (T : State) (locs : List Loc) (val : Int32) (i : Int32) (j : Nat) (s5 : Slot), Stand p l e R s m args below meth c T locs cells slots → T.heap = h0 → Fr n0 locs → i.toInt = (j : Int) → (p1 + p2).toInt = ((j + k : Nat) : Int) → j + k ≤ 7 → own_num f j k val = res → One s5 → Go p e below A (T.setTop (mkF m 5 #[.val (.ref o0), .val (.int p1), .val (.int p2), .val (.int val), .val (.int i), s5] [])) → G := by
  intro k
  induction k with
  | zero =>
    intro T locs val i j s5 X0 e0 N0 hi hk hle hres hs5 go0
    have Z0 : n0 ≤ n0 := Nat.le_refl _
    have K0 := Keep.refl h0 []
    have go2 := go0.step (C := T.setTop (mkF m 50 #[.val (.ref o0), .val (.int p1), .val (.int p2), .val (.int val), .val (.int i), s5] [])) (fun t k => by
      show Steps p.tables e below (T.setTop (mkF m 5 #[.val (.ref o0), .val (.int p1), .val (.int p2), .val (.int val), .val (.int i), s5] [])) _
      refine XS.iload X0.here hx rfl (hb hby d3_5) rfl ?_
      show Steps p.tables e below (T.setTop (mkF m 7 #[.val (.ref o0), .val (.int p1), .val (.int p2), .val (.int val), .val (.int i), s5] [(.int i)])) _
      refine XS.iloadN X0.here hx rfl (hb hby d3_7) rfl ?_
      show Steps p.tables e below (T.setTop (mkF m 8 #[.val (.ref o0), .val (.int p1), .val (.int p2), .val (.int val), .val (.int i), s5] [(.int p1), (.int i)])) _
      refine XS.iloadN X0.here hx rfl (hb hby d3_8) rfl ?_
      show Steps p.tables e below (T.setTop (mkF m 9 #[.val (.ref o0), .val (.int p1), .val (.int p2), .val (.int val), .val (.int i), s5] [(.int p2), (.int p1), (.int i)])) _
      refine XS.iadd X0.here hx rfl (hb hby d3_9) rfl ?_
      show Steps p.tables e below (T.setTop (mkF m 10 #[.val (.ref o0), .val (.int p1), .val (.int p2), .val (.int val), .val (.int i), s5] [(.int (p1 + p2)), (.int i)])) _
      refine XS.icmpYes X0.here hx rfl (pc0 := 10) (pc' := 50) rfl (hb hby d3_10) rfl (flt (own_nlt hi hk : ¬ (i < (p1 + p2)))).2.1 (by decide) (by decide) ?_
      exact k)
    exact kx0 T _ i s5 val X0 e0 N0 (by rw [← hres]; rfl) go2
  | succ k ih =>
    intro T locs val i j s5 X0 e0 N0 hi hk hle hres hs5 go0
    have Z0 : n0 ≤ n0 := Nat.le_refl _
    have K0 := Keep.refl h0 []
    have go4 := go0.step (C := T.setTop (mkF m 16 #[.val (.ref o0), .val (.int p1), .val (.int p2), .val (.int val), .val (.int i), s5] [(.int i), (.ref o0)])) (fun t k => by
      show Steps p.tables e below (T.setTop (mkF m 5 #[.val (.ref o0), .val (.int p1), .val (.int p2), .val (.int val), .val (.int i), s5] [])) _
      refine XS.iload X0.here hx rfl (hb hby d3_5) rfl ?_
      show Steps p.tables e below (T.setTop (mkF m 7 #[.val (.ref o0), .val (.int p1), .val (.int p2), .val (.int val), .val (.int i), s5] [(.int i)])) _
      refine XS.iloadN X0.here hx rfl (hb hby d3_7) rfl ?_
      show Steps p.tables e below (T.setTop (mkF m 8 #[.val (.ref o0), .val (.int p1), .val (.int p2), .val (.int val), .val (.int i), s5] [(.int p1), (.int i)])) _
      refine XS.iloadN X0.here hx rfl (hb hby d3_8) rfl ?_
      show Steps p.tables e below (T.setTop (mkF m 9 #[.val (.ref o0), .val (.int p1), .val (.int p2), .val (.int val), .val (.int i), s5] [(.int p2), (.int p1), (.int i)])) _
      refine XS.iadd X0.here hx rfl (hb hby d3_9) rfl ?_
      show Steps p.tables e below (T.setTop (mkF m 10 #[.val (.ref o0), .val (.int p1), .val (.int p2), .val (.int val), .val (.int i), s5] [(.int (p1 + p2)), (.int i)])) _
      refine XS.icmpNo X0.here hx rfl (hb hby d3_10) rfl (tlt (own_lt hi hk : i < (p1 + p2))).2.1 ?_
      show Steps p.tables e below (T.setTop (mkF m 13 #[.val (.ref o0), .val (.int p1), .val (.int p2), .val (.int val), .val (.int i), s5] [])) _
      refine XS.aloadN X0.here hx rfl (hb hby d3_13) rfl rfl ?_
      show Steps p.tables e below (T.setTop (mkF m 14 #[.val (.ref o0), .val (.int p1), .val (.int p2), .val (.int val), .val (.int i), s5] [(.ref o0)])) _
      refine XS.iload X0.here hx rfl (hb hby d3_14) rfl ?_
      exact k)
    obtain ⟨cl5, Ar5, qa5, Sa5, Na5, Ha5, Ga5⟩ := V0
    have hin5 : ¬ (i < 0 ∨ cl5.slots.size ≤ (i).toNatClampNeg) := inb_of Sa5 (own_in hi (by omega))
    have hat5 : cl5.slots[(i).toNatClampNeg]? = some (.int (f j)) := Has.at Ha5 hin5 (own_rd hv hi (by omega))
    have go7 := go4.step (C := T.setTop (mkF m 24 #[.val (.ref o0), .val (.int p1), .val (.int p2), .val (.int val), .val (.int i), .val (.int ((f j) - (48 : Int32)))] [(.int ((f j) - (48 : Int32)))])) (fun t k => by
      show Steps p.tables e below (T.setTop (mkF m 16 #[.val (.ref o0), .val (.int p1), .val (.int p2), .val (.int val), .val (.int i), s5] [(.int i), (.ref o0)])) _
      refine X0.baloadBytes hx (j := i) (v := (.int (f j))) (by rw [e0]; exact Ar5.1) (State.isArrayOf_alike hZ.alike Ar5.2.1) Ar5.2.2 hin5 hat5 (g := (mkF m 16 #[.val (.ref o0), .val (.int p1), .val (.int p2), .val (.int val), .val (.int i), s5] [(.int i), (.ref o0)])) rfl rfl (hb hby d3_16) _ ?_
      show Steps p.tables e below (T.setTop (mkF m 17 #[.val (.ref o0), .val (.int p1), .val (.int p2), .val (.int val), .val (.int i), s5] [(.int (f j))])) _
      refine XS.bipush X0.here hx rfl (hb hby d3_17) ?_
      show Steps p.tables e below (T.setTop (mkF m 19 #[.val (.ref o0), .val (.int p1), .val (.int p2), .val (.int val), .val (.int i), s5] [(.int (48 : Int32)), (.int (f j))])) _
      refine XS.isub X0.here hx rfl (hb hby d3_19) rfl ?_
      show Steps p.tables e below (T.setTop (mkF m 20 #[.val (.ref o0), .val (.int p1), .val (.int p2), .val (.int val), .val (.int i), s5] [(.int ((f j) - (48 : Int32)))])) _
      refine XS.istoreS X0.here hx rfl (hb hby d3_20) rfl rfl hs5 ?_
      show Steps p.tables e below (T.setTop (mkF m 22 #[.val (.ref o0), .val (.int p1), .val (.int p2), .val (.int val), .val (.int i), .val (.int ((f j) - (48 : Int32)))] [])) _
      refine XS.iload X0.here hx rfl (hb hby d3_22) rfl ?_
      exact k)
    by_cases hc6 : ((f j) - (48 : Int32)) < (0 : Int32)
    · skip
      have go8 := go7.step (C := T.setTop (mkF m 34 #[.val (.ref o0), .val (.int p1), .val (.int p2), .val (.int val), .val (.int i), .val (.int ((f j) - (48 : Int32)))] [])) (fun t k => by
        show Steps p.tables e below (T.setTop (mkF m 24 #[.val (.ref o0), .val (.int p1), .val (.int p2), .val (.int val), .val (.int i), .val (.int ((f j) - (48 : Int32)))] [(.int ((f j) - (48 : Int32)))])) _
        refine XS.ifYes X0.here hx rfl (pc0 := 24) (pc' := 34) rfl (hb hby d3_24) rfl ((if0 _ _).trans (tlt hc6).1) (by decide) (by decide) ?_
        exact k)
      exact kx1 T _ i (.val (.int ((f j) - (48 : Int32)))) val X0 e0 N0 (by rw [← hres]; simp only [own_num]; rw [if_pos hc6]) go8
    · skip
      have go10 := go7.step (C := T.setTop (mkF m 31 #[.val (.ref o0), .val (.int p1), .val (.int p2), .val (.int val), .val (.int i), .val (.int ((f j) - (48 : Int32)))] [(.int (9 : Int32)), (.int ((f j) - (48 : Int32)))])) (fun t k => by
        show Steps p.tables e below (T.setTop (mkF m 24 #[.val (.ref o0), .val (.int p1), .val (.int p2), .val (.int val), .val (.int i), .val (.int ((f j) - (48 : Int32)))] [(.int ((f j) - (48 : Int32)))])) _
        refine XS.ifNo X0.here hx rfl (hb hby d3_24) rfl ((if0 _ _).trans (flt hc6).1) ?_
        show Steps p.tables e below (T.setTop (mkF m 27 #[.val (.ref o0), .val (.int p1), .val (.int p2), .val (.int val), .val (.int i), .val (.int ((f j) - (48 : Int32)))] [])) _
        refine XS.iload X0.here hx rfl (hb hby d3_27) rfl ?_
        show Steps p.tables e below (T.setTop (mkF m 29 #[.val (.ref o0), .val (.int p1), .val (.int p2), .val (.int val), .val (.int i), .val (.int ((f j) - (48 : Int32)))] [(.int ((f j) - (48 : Int32)))])) _
        refine XS.bipush X0.here hx rfl (hb hby d3_29) ?_
        exact k)
      by_cases hc9 : (9 : Int32) < ((f j) - (48 : Int32))
      · skip
        have go11 := go10.step (C := T.setTop (mkF m 34 #[.val (.ref o0), .val (.int p1), .val (.int p2), .val (.int val), .val (.int i), .val (.int ((f j) - (48 : Int32)))] [])) (fun t k => by
          show Steps p.tables e below (T.setTop (mkF m 31 #[.val (.ref o0), .val (.int p1), .val (.int p2), .val (.int val), .val (.int i), .val (.int ((f j) - (48 : Int32)))] [(.int (9 : Int32)), (.int ((f j) - (48 : Int32)))])) _
          refine XS.icmpNo X0.here hx rfl (hb hby d3_31) rfl (tlt hc9).2.2.2 ?_
          exact k)
        exact kx1 T _ i (.val (.int ((f j) - (48 : Int32)))) val X0 e0 N0 (by rw [← hres]; simp only [own_num]; rw [if_neg hc6, if_pos hc9]) go11
      · skip
        have go12 := go10.step (C := T.setTop (mkF m 5 #[.val (.ref o0), .val (.int p1), .val (.int p2), .val (.int ((val * (10 : Int32)) + ((f j) - (48 : Int32)))), .val (.int (i + (1 : Int32))), .val (.int ((f j) - (48 : Int32)))] [])) (fun t k => by
          show Steps p.tables e below (T.setTop (mkF m 31 #[.val (.ref o0), .val (.int p1), .val (.int p2), .val (.int val), .val (.int i), .val (.int ((f j) - (48 : Int32)))] [(.int (9 : Int32)), (.int ((f j) - (48 : Int32)))])) _
          refine XS.icmpYes X0.here hx rfl (pc0 := 31) (pc' := 36) rfl (hb hby d3_31) rfl (flt hc9).2.2.2 (by decide) (by decide) ?_
          show Steps p.tables e below (T.setTop (mkF m 36 #[.val (.ref o0), .val (.int p1), .val (.int p2), .val (.int val), .val (.int i), .val (.int ((f j) - (48 : Int32)))] [])) _
          refine XS.iloadN X0.here hx rfl (hb hby d3_36) rfl ?_
          show Steps p.tables e below (T.setTop (mkF m 37 #[.val (.ref o0), .val (.int p1), .val (.int p2), .val (.int val), .val (.int i), .val (.int ((f j) - (48 : Int32)))] [(.int val)])) _
          refine XS.bipush X0.here hx rfl (hb hby d3_37) ?_
          show Steps p.tables e below (T.setTop (mkF m 39 #[.val (.ref o0), .val (.int p1), .val (.int p2), .val (.int val), .val (.int i), .val (.int ((f j) - (48 : Int32)))] [(.int (10 : Int32)), (.int val)])) _
          refine XS.imul X0.here hx rfl (hb hby d3_39) rfl ?_
          show Steps p.tables e below (T.setTop (mkF m 40 #[.val (.ref o0), .val (.int p1), .val (.int p2), .val (.int val), .val (.int i), .val (.int ((f j) - (48 : Int32)))] [(.int (val * (10 : Int32)))])) _
          refine XS.iload X0.here hx rfl (hb hby d3_40) rfl ?_
          show Steps p.tables e below (T.setTop (mkF m 42 #[.val (.ref o0), .val (.int p1), .val (.int p2), .val (.int val), .val (.int i), .val (.int ((f j) - (48 : Int32)))] [(.int ((f j) - (48 : Int32))), (.int (val * (10 : Int32)))])) _
          refine XS.iadd X0.here hx rfl (hb hby d3_42) rfl ?_
          show Steps p.tables e below (T.setTop (mkF m 43 #[.val (.ref o0), .val (.int p1), .val (.int p2), .val (.int val), .val (.int i), .val (.int ((f j) - (48 : Int32)))] [(.int ((val * (10 : Int32)) + ((f j) - (48 : Int32))))])) _
          refine XS.istoreN X0.here hx rfl (hb hby d3_43) rfl (l' := #[.val (.ref o0), .val (.int p1), .val (.int p2), .val (.int ((val * (10 : Int32)) + ((f j) - (48 : Int32)))), .val (.int i), .val (.int ((f j) - (48 : Int32)))]) rfl ?_
          show Steps p.tables e below (T.setTop (mkF m 44 #[.val (.ref o0), .val (.int p1), .val (.int p2), .val (.int ((val * (10 : Int32)) + ((f j) - (48 : Int32)))), .val (.int i), .val (.int ((f j) - (48 : Int32)))] [])) _
          refine XS.iinc X0.here hx rfl (hb hby d3_44) rfl (l' := #[.val (.ref o0), .val (.int p1), .val (.int p2), .val (.int ((val * (10 : Int32)) + ((f j) - (48 : Int32)))), .val (.int (i + (1 : Int32))), .val (.int ((f j) - (48 : Int32)))]) rfl ?_
          show Steps p.tables e below (T.setTop (mkF m 47 #[.val (.ref o0), .val (.int p1), .val (.int p2), .val (.int ((val * (10 : Int32)) + ((f j) - (48 : Int32)))), .val (.int (i + (1 : Int32))), .val (.int ((f j) - (48 : Int32)))] [])) _
          refine XS.goto X0.here hx rfl (pc0 := 47) (pc' := 5) rfl (hb hby d3_47) (by decide) (by decide) ?_
          exact k)
        exact ih T _ ((val * (10 : Int32)) + ((f j) - (48 : Int32))) (i + (1 : Int32)) (j + 1) (.val (.int ((f j) - (48 : Int32)))) X0 e0 N0 (own_succ hi (by omega)) (by rw [hk]; omega) (by omega) (by rw [← hres]; simp only [own_num]; rw [if_neg hc6, if_neg hc9]) (One.val rfl) go12
theorem d3_0 : decode prog_34_method_2_code 0 = .ok (.iconst 0, 1) := by decide +kernel
theorem d3_1 : decode prog_34_method_2_code 1 = .ok (.istore_n 3, 1) := by decide +kernel
theorem d3_2 : decode prog_34_method_2_code 2 = .ok (.iload_n 1, 1) := by decide +kernel
theorem d3_3 : decode prog_34_method_2_code 3 = .ok (.istore 4, 2) := by decide +kernel
theorem d3_34 : decode prog_34_method_2_code 34 = .ok (.iconst (-1), 1) := by decide +kernel
theorem d3_35 : decode prog_34_method_2_code 35 = .ok (.ireturn, 1) := by decide +kernel
theorem d3_50 : decode prog_34_method_2_code 50 = .ok (.iload_n 3, 1) := by decide +kernel
theorem d3_51 : decode prog_34_method_2_code 51 = .ok (.ireturn, 1) := by decide +kernel
theorem pn_rm3 : plainName "com/example/zemlja/zemlja/iso2709/Iso2709" = true := by first | (simp [plainName, overriddenIn]; done) | decide +kernel
theorem ef_rm3 (m : MethodId) (o0 : Addr) (p1 : Int32) (p2 : Int32) : entryFrame m #[(.ref o0), (.int p1), (.int p2)] 6 = mkF m 0 #[.val (.ref o0), .val (.int p1), .val (.int p2), .unset, .unset, .unset] [] := by first | (simp [entryFrame, mkF, argsToLocals, Value.category]; done) | rfl
def Q_rm3 (Z : State) (o0 : Addr) (p1 : Int32) (p2 : Int32) (ka : ClassId) (vs : List Value) (f : Nat → Int32) (fn : Nat) (cn : Nat) (h0 : Heap) (n0 : Nat) (v : Option Value) (h : Heap) (L : List Loc) : Prop := v = some (.int (own_num f fn cn (0 : Int32))) ∧ Fr n0 L ∧ h = h0
set_option maxRecDepth 65536 in
set_option maxHeartbeats 40000000 in
theorem rm3 (l : Launch) (Z : State) (a0 : Array Value) (hw : ∀ d ∈ tables_1, d.before a0 Z = true) (ws : List Jvm.Cond) (o0 : Addr) (p1 : Int32) (p2 : Int32) (ka : ClassId) (vs : List Value) (f : Nat → Int32) (fn : Nat) (cn : Nat) (h0 : Heap) (n0 : Nat) (Z0 : n0 ≤ h0.size) (V0 : Arv Z h0 o0 ka .byte (7 : Int32) vs (.int (0 : Int32))) (hv : own_Vs vs f) (hfn : p1.toInt = (fn : Int)) (hcn : p2.toInt = (cn : Int)) (hle : fn + cn ≤ 7) :
    MetFree l (⟨"com/example/zemlja/zemlja/iso2709/Iso2709", "number", "([BII)I"⟩ : MethodName) (head1 (Jvm.Cond.code (⟨"com/example/zemlja/zemlja/iso2709/Iso2709", "number", "([BII)I"⟩ : MethodName) prog_34_method_2_code 6 (some .int) :: ws) ({ frames := 0, cells := 0, slots := 0, locals := 0 } : Room)) (fun a U => a = #[(.ref o0), (.int p1), (.int p2)] ∧ Z.Warmed39 U.vm ∧ U.heap = h0) (fun _ _ _ _ _ => True) (fun _ U o U' => ∃ v L, o = .returned v ∧ Q_rm3 Z o0 p1 p2 ka vs f fn cn h0 n0 v U'.heap L ∧ FrameEnd U o U' L ({ frames := 0, cells := 0, slots := 0, locals := 0 } : Room).cells ({ frames := 0, cells := 0, slots := 0, locals := 0 } : Room).slots) := by
  refine MetFree.of_bodySF (plainFor_of_name pn_rm3) hisR ?_
  intro p e s m args below meth c s₁ Bd hml0 hP hK
  obtain ⟨rfl, hZ, hh⟩ := hP
  have hx := Bd.exec
  have hby := Bd.bytes
  have hml : c.maxLocals = 6 := hml0
  have hown : s.vm.findClass "com/example/zemlja/zemlja/iso2709/Iso2709" = some m.cls := findClass_of_methodNamed Bd.named
  have hnm := (name_of_methodNamed Bd.named Bd.method).1
  have X0 : Stand p l e ({ frames := 0, cells := 0, slots := 0, locals := 0 } : Room) s m #[(.ref o0), (.int p1), (.int p2)] below meth c s₁ [] 0 0 := Stand.of_body Bd
  have e0 : s₁.heap = h0 := by rw [← hh, Bd.state]; rfl
  have N0 := Fr.nil n0
  have K0 := Keep.refl h0 []
  have go0 : Go p e below (s₁.setTop (entryFrame m #[(.ref o0), (.int p1), (.int p2)] 6)) (s₁.setTop (mkF m 0 #[.val (.ref o0), .val (.int p1), .val (.int p2), .unset, .unset, .unset] [])) := fun t k => castTop (ef_rm3 m o0 p1 p2) k
  have hsum : (p1 + p2).toInt = ((fn + cn : Nat) : Int) := by
    have q := c_iadd p1 p2
    have r := rng32 (p1 + p2)
    omega
  have go1 := go0.step (C := s₁.setTop (mkF m 5 #[.val (.ref o0), .val (.int p1), .val (.int p2), .val (.int (0 : Int32)), .val (.int p1), .unset] [])) (fun t k => by
    show Steps p.tables e below (s₁.setTop (mkF m 0 #[.val (.ref o0), .val (.int p1), .val (.int p2), .unset, .unset, .unset] [])) _
    refine XS.iconst X0.here hx rfl (hb hby d3_0) ?_
    show Steps p.tables e below (s₁.setTop (mkF m 1 #[.val (.ref o0), .val (.int p1), .val (.int p2), .unset, .unset, .unset] [(.int (0 : Int32))])) _
    refine XS.istoreN X0.here hx rfl (hb hby d3_1) rfl (l' := #[.val (.ref o0), .val (.int p1), .val (.int p2), .val (.int (0 : Int32)), .unset, .unset]) rfl ?_
    show Steps p.tables e below (s₁.setTop (mkF m 2 #[.val (.ref o0), .val (.int p1), .val (.int p2), .val (.int (0 : Int32)), .unset, .unset] [])) _
    refine XS.iloadN X0.here hx rfl (hb hby d3_2) rfl ?_
    show Steps p.tables e below (s₁.setTop (mkF m 3 #[.val (.ref o0), .val (.int p1), .val (.int p2), .val (.int (0 : Int32)), .unset, .unset] [(.int p1)])) _
    refine XS.istore X0.here hx rfl (hb hby d3_3) rfl (l' := #[.val (.ref o0), .val (.int p1), .val (.int p2), .val (.int (0 : Int32)), .val (.int p1), .unset]) rfl ?_
    exact k)
  refine lp_num o0 p1 p2 ka vs f _ h0 n0 hx hZ hw hby hml hown V0 hv ?_ ?_ cn s₁ _ (0 : Int32) p1 fn .unset X0 e0 N0 hfn (by rw [hsum]) hle rfl One.u go1
  · intro T9 locs9 i9 s9 val9 X9 e9 N9 hr9 go9
    have go2 := go9.step (C := T9.setTop (mkF m 51 #[.val (.ref o0), .val (.int p1), .val (.int p2), .val (.int val9), .val (.int i9), s9] [(.int val9)])) (fun t k => by
      show Steps p.tables e below (T9.setTop (mkF m 50 #[.val (.ref o0), .val (.int p1), .val (.int p2), .val (.int val9), .val (.int i9), s9] [])) _
      refine XS.iloadN X9.here hx rfl (hb hby d3_50) rfl ?_
      exact k)
    obtain ⟨fs, hr, hrun, hended, hW, hsame⟩ := X9.leave (v := some (.int val9)) (fun h => by rw [Bd.returns] at h; cases h)
    refine ⟨_, _, go2 _ ?_, hrun, hended, _, _, rfl, ?_, ⟨_, rfl⟩, hW, hsame.mono (by decide) (by decide)⟩
    · exact own_retI X9 hx Bd.returns (hb hby d3_51) hr
    · show Q_rm3 Z o0 p1 p2 ka vs f fn cn h0 n0 _ T9.heap _
      rw [e9]
      exact ⟨by rw [hr9], N9, rfl⟩
  · intro T9 locs9 i9 s9 val9 X9 e9 N9 hr9 go9
    have go3 := go9.step (C := T9.setTop (mkF m 35 #[.val (.ref o0), .val (.int p1), .val (.int p2), .val (.int val9), .val (.int i9), s9] [(.int (-1 : Int32))])) (fun t k => by
      show Steps p.tables e below (T9.setTop (mkF m 34 #[.val (.ref o0), .val (.int p1), .val (.int p2), .val (.int val9), .val (.int i9), s9] [])) _
      refine XS.iconst X9.here hx rfl (hb hby d3_34) ?_
      exact k)
    obtain ⟨fs, hr, hrun, hended, hW, hsame⟩ := X9.leave (v := some (.int (-1 : Int32))) (fun h => by rw [Bd.returns] at h; cases h)
    refine ⟨_, _, go3 _ ?_, hrun, hended, _, _, rfl, ?_, ⟨_, rfl⟩, hW, hsame.mono (by decide) (by decide)⟩
    · exact own_retI X9 hx Bd.returns (hb hby d3_35) hr
    · show Q_rm3 Z o0 p1 p2 ka vs f fn cn h0 n0 _ T9.heap _
      rw [e9]
      exact ⟨by rw [hr9], N9, rfl⟩
def own_ba (q0 : Int64) (p1 : Int32) (p2 : Int32) : Int32 := (if ((own_usr p1 p2) &&& (1 : Int32)) = (0 : Int32) then (nar .byte (((own_usrL q0 ((8 : Int32) * p2)).toInt32).toInt8.toInt32)) else (nar .byte (((48 : Int32) + (((((own_usrL q0 ((8 : Int32) * p2)).toInt32).toInt8.toInt32) &&& (255 : Int32)) % (10 : Int32))).toInt8.toInt32)))
theorem d1_0 : decode method_2_code 0 = .ok (.lload_n 0, 1) := by decide +kernel
theorem d1_1 : decode method_2_code 1 = .ok (.bipush 8, 2) := by decide +kernel
theorem d1_3 : decode method_2_code 3 = .ok (.iload_n 3, 1) := by decide +kernel
theorem d1_4 : decode method_2_code 4 = .ok (.imul, 1) := by decide +kernel
theorem d1_5 : decode method_2_code 5 = .ok (.lushr, 1) := by decide +kernel
theorem d1_6 : decode method_2_code 6 = .ok (.l2i, 1) := by decide +kernel
theorem d1_7 : decode method_2_code 7 = .ok (.i2b, 1) := by decide +kernel
theorem d1_8 : decode method_2_code 8 = .ok (.istore 4, 2) := by decide +kernel
theorem d1_10 : decode method_2_code 10 = .ok (.iload_n 2, 1) := by decide +kernel
theorem d1_11 : decode method_2_code 11 = .ok (.iload_n 3, 1) := by decide +kernel
theorem d1_12 : decode method_2_code 12 = .ok (.iushr, 1) := by decide +kernel
theorem d1_13 : decode method_2_code 13 = .ok (.iconst 1, 1) := by decide +kernel
theorem d1_14 : decode method_2_code 14 = .ok (.iand, 1) := by decide +kernel
theorem d1_15 : decode method_2_code 15 = .ok (.ifCond .eq 17, 3) := by decide +kernel
theorem d1_18 : decode method_2_code 18 = .ok (.bipush 48, 2) := by decide +kernel
theorem d1_20 : decode method_2_code 20 = .ok (.iload 4, 2) := by decide +kernel
theorem d1_22 : decode method_2_code 22 = .ok (.sipush 255, 3) := by decide +kernel
theorem d1_25 : decode method_2_code 25 = .ok (.iand, 1) := by decide +kernel
theorem d1_26 : decode method_2_code 26 = .ok (.bipush 10, 2) := by decide +kernel
theorem d1_28 : decode method_2_code 28 = .ok (.irem, 1) := by decide +kernel
theorem d1_29 : decode method_2_code 29 = .ok (.iadd, 1) := by decide +kernel
theorem d1_30 : decode method_2_code 30 = .ok (.i2b, 1) := by decide +kernel
theorem d1_31 : decode method_2_code 31 = .ok (.ireturn, 1) := by decide +kernel
theorem d1_32 : decode method_2_code 32 = .ok (.iload 4, 2) := by decide +kernel
theorem d1_34 : decode method_2_code 34 = .ok (.ireturn, 1) := by decide +kernel
theorem pn_rm1 : plainName "com/example/zemlja/zemlja/iso2709/Iso2709NumberPinLaw" = true := by first | (simp [plainName, overriddenIn]; done) | decide +kernel
theorem ef_rm1 (m : MethodId) (q0 : Int64) (p1 : Int32) (p2 : Int32) : entryFrame m #[(.long q0), (.int p1), (.int p2)] 5 = mkF m 0 #[.val (.long q0), .second, .val (.int p1), .val (.int p2), .unset] [] := by first | (simp [entryFrame, mkF, argsToLocals, Value.category]; done) | rfl
def Q_rm1 (Z : State) (q0 : Int64) (p1 : Int32) (p2 : Int32) (h0 : Heap) (n0 : Nat) (v : Option Value) (h : Heap) (L : List Loc) : Prop := v = some (.int (own_ba q0 p1 p2)) ∧ Fr n0 L ∧ h = h0
set_option maxRecDepth 65536 in
set_option maxHeartbeats 40000000 in
theorem rm1 (l : Launch) (Z : State) (a0 : Array Value) (hw : ∀ d ∈ tables_1, d.before a0 Z = true) (ws : List Jvm.Cond) (q0 : Int64) (p1 : Int32) (p2 : Int32) (h0 : Heap) (n0 : Nat) (Z0 : n0 ≤ h0.size) :
    MetFree l (⟨"com/example/zemlja/zemlja/iso2709/Iso2709NumberPinLaw", "byteAt", "(JII)B"⟩ : MethodName) (head1 (Jvm.Cond.code (⟨"com/example/zemlja/zemlja/iso2709/Iso2709NumberPinLaw", "byteAt", "(JII)B"⟩ : MethodName) method_2_code 5 (some .byte) :: ws) ({ frames := 0, cells := 0, slots := 0, locals := 0 } : Room)) (fun a U => a = #[(.long q0), (.int p1), (.int p2)] ∧ Z.Warmed39 U.vm ∧ U.heap = h0) (fun _ _ _ _ _ => True) (fun _ U o U' => ∃ v L, o = .returned v ∧ Q_rm1 Z q0 p1 p2 h0 n0 v U'.heap L ∧ FrameEnd U o U' L ({ frames := 0, cells := 0, slots := 0, locals := 0 } : Room).cells ({ frames := 0, cells := 0, slots := 0, locals := 0 } : Room).slots) := by
  refine MetFree.of_bodySF (plainFor_of_name pn_rm1) hisR ?_
  intro p e s m args below meth c s₁ Bd hml0 hP hK
  obtain ⟨rfl, hZ, hh⟩ := hP
  have hx := Bd.exec
  have hby := Bd.bytes
  have hml : c.maxLocals = 5 := hml0
  have hown : s.vm.findClass "com/example/zemlja/zemlja/iso2709/Iso2709NumberPinLaw" = some m.cls := findClass_of_methodNamed Bd.named
  have hnm := (name_of_methodNamed Bd.named Bd.method).1
  have X0 : Stand p l e ({ frames := 0, cells := 0, slots := 0, locals := 0 } : Room) s m #[(.long q0), (.int p1), (.int p2)] below meth c s₁ [] 0 0 := Stand.of_body Bd
  have e0 : s₁.heap = h0 := by rw [← hh, Bd.state]; rfl
  have N0 := Fr.nil n0
  have K0 := Keep.refl h0 []
  have go0 : Go p e below (s₁.setTop (entryFrame m #[(.long q0), (.int p1), (.int p2)] 5)) (s₁.setTop (mkF m 0 #[.val (.long q0), .second, .val (.int p1), .val (.int p2), .unset] [])) := fun t k => castTop (ef_rm1 m q0 p1 p2) k
  have go2 := go0.step (C := s₁.setTop (mkF m 15 #[.val (.long q0), .second, .val (.int p1), .val (.int p2), .val (.int (((own_usrL q0 ((8 : Int32) * p2)).toInt32).toInt8.toInt32))] [(.int ((own_usr p1 p2) &&& (1 : Int32)))])) (fun t k => by
    show Steps p.tables e below (s₁.setTop (mkF m 0 #[.val (.long q0), .second, .val (.int p1), .val (.int p2), .unset] [])) _
    refine XS.lloadN X0.here hx rfl (hb hby d1_0) rfl ?_
    show Steps p.tables e below (s₁.setTop (mkF m 1 #[.val (.long q0), .second, .val (.int p1), .val (.int p2), .unset] [(.long q0)])) _
    refine XS.bipush X0.here hx rfl (hb hby d1_1) ?_
    show Steps p.tables e below (s₁.setTop (mkF m 3 #[.val (.long q0), .second, .val (.int p1), .val (.int p2), .unset] [(.int (8 : Int32)), (.long q0)])) _
    refine XS.iloadN X0.here hx rfl (hb hby d1_3) rfl ?_
    show Steps p.tables e below (s₁.setTop (mkF m 4 #[.val (.long q0), .second, .val (.int p1), .val (.int p2), .unset] [(.int p2), (.int (8 : Int32)), (.long q0)])) _
    refine XS.imul X0.here hx rfl (hb hby d1_4) rfl ?_
    show Steps p.tables e below (s₁.setTop (mkF m 5 #[.val (.long q0), .second, .val (.int p1), .val (.int p2), .unset] [(.int ((8 : Int32) * p2)), (.long q0)])) _
    refine XS.lushr X0.here hx rfl (hb hby d1_5) rfl ?_
    show Steps p.tables e below (s₁.setTop (mkF m 6 #[.val (.long q0), .second, .val (.int p1), .val (.int p2), .unset] [(.long (own_usrL q0 ((8 : Int32) * p2)))])) _
    refine XS.l2i X0.here hx rfl (hb hby d1_6) rfl ?_
    show Steps p.tables e below (s₁.setTop (mkF m 7 #[.val (.long q0), .second, .val (.int p1), .val (.int p2), .unset] [(.int ((own_usrL q0 ((8 : Int32) * p2)).toInt32))])) _
    refine XS.i2b X0.here hx rfl (hb hby d1_7) rfl ?_
    show Steps p.tables e below (s₁.setTop (mkF m 8 #[.val (.long q0), .second, .val (.int p1), .val (.int p2), .unset] [(.int (((own_usrL q0 ((8 : Int32) * p2)).toInt32).toInt8.toInt32))])) _
    refine XS.istore X0.here hx rfl (hb hby d1_8) rfl (l' := #[.val (.long q0), .second, .val (.int p1), .val (.int p2), .val (.int (((own_usrL q0 ((8 : Int32) * p2)).toInt32).toInt8.toInt32))]) rfl ?_
    show Steps p.tables e below (s₁.setTop (mkF m 10 #[.val (.long q0), .second, .val (.int p1), .val (.int p2), .val (.int (((own_usrL q0 ((8 : Int32) * p2)).toInt32).toInt8.toInt32))] [])) _
    refine XS.iloadN X0.here hx rfl (hb hby d1_10) rfl ?_
    show Steps p.tables e below (s₁.setTop (mkF m 11 #[.val (.long q0), .second, .val (.int p1), .val (.int p2), .val (.int (((own_usrL q0 ((8 : Int32) * p2)).toInt32).toInt8.toInt32))] [(.int p1)])) _
    refine XS.iloadN X0.here hx rfl (hb hby d1_11) rfl ?_
    show Steps p.tables e below (s₁.setTop (mkF m 12 #[.val (.long q0), .second, .val (.int p1), .val (.int p2), .val (.int (((own_usrL q0 ((8 : Int32) * p2)).toInt32).toInt8.toInt32))] [(.int p2), (.int p1)])) _
    refine XS.iushr X0.here hx rfl (hb hby d1_12) rfl ?_
    show Steps p.tables e below (s₁.setTop (mkF m 13 #[.val (.long q0), .second, .val (.int p1), .val (.int p2), .val (.int (((own_usrL q0 ((8 : Int32) * p2)).toInt32).toInt8.toInt32))] [(.int (own_usr p1 p2))])) _
    refine XS.iconst X0.here hx rfl (hb hby d1_13) ?_
    show Steps p.tables e below (s₁.setTop (mkF m 14 #[.val (.long q0), .second, .val (.int p1), .val (.int p2), .val (.int (((own_usrL q0 ((8 : Int32) * p2)).toInt32).toInt8.toInt32))] [(.int (1 : Int32)), (.int (own_usr p1 p2))])) _
    refine XS.iand X0.here hx rfl (hb hby d1_14) rfl ?_
    exact k)
  by_cases hc1 : ((own_usr p1 p2) &&& (1 : Int32)) = (0 : Int32)
  · skip
    have go3 := go2.step (C := s₁.setTop (mkF m 34 #[.val (.long q0), .second, .val (.int p1), .val (.int p2), .val (.int (((own_usrL q0 ((8 : Int32) * p2)).toInt32).toInt8.toInt32))] [(.int (((own_usrL q0 ((8 : Int32) * p2)).toInt32).toInt8.toInt32))])) (fun t k => by
      show Steps p.tables e below (s₁.setTop (mkF m 15 #[.val (.long q0), .second, .val (.int p1), .val (.int p2), .val (.int (((own_usrL q0 ((8 : Int32) * p2)).toInt32).toInt8.toInt32))] [(.int ((own_usr p1 p2) &&& (1 : Int32)))])) _
      refine XS.ifYes X0.here hx rfl (pc0 := 15) (pc' := 32) rfl (hb hby d1_15) rfl ((if0 _ _).trans (teq hc1).1) (by decide) (by decide) ?_
      show Steps p.tables e below (s₁.setTop (mkF m 32 #[.val (.long q0), .second, .val (.int p1), .val (.int p2), .val (.int (((own_usrL q0 ((8 : Int32) * p2)).toInt32).toInt8.toInt32))] [])) _
      refine XS.iload X0.here hx rfl (hb hby d1_32) rfl ?_
      exact k)
    obtain ⟨fs, hr, hrun, hended, hW, hsame⟩ := X0.leave (v := some (.int (nar .byte (((own_usrL q0 ((8 : Int32) * p2)).toInt32).toInt8.toInt32)))) (fun h => by rw [Bd.returns] at h; cases h)
    refine ⟨_, _, go3 _ ?_, hrun, hended, _, _, rfl, ?_, ⟨_, rfl⟩, hW, hsame.mono (by decide) (by decide)⟩
    · exact retN X0 hx (t := .byte) Bd.returns (by simp) (hb hby d1_34) hr
    · show Q_rm1 Z q0 p1 p2 h0 n0 _ s₁.heap _
      rw [e0]
      exact ⟨by unfold own_ba; simp only [if_pos hc1], N0, rfl⟩
  · skip
    have go4 := go2.step (C := s₁.setTop (mkF m 31 #[.val (.long q0), .second, .val (.int p1), .val (.int p2), .val (.int (((own_usrL q0 ((8 : Int32) * p2)).toInt32).toInt8.toInt32))] [(.int (((48 : Int32) + (((((own_usrL q0 ((8 : Int32) * p2)).toInt32).toInt8.toInt32) &&& (255 : Int32)) % (10 : Int32))).toInt8.toInt32))])) (fun t k => by
      show Steps p.tables e below (s₁.setTop (mkF m 15 #[.val (.long q0), .second, .val (.int p1), .val (.int p2), .val (.int (((own_usrL q0 ((8 : Int32) * p2)).toInt32).toInt8.toInt32))] [(.int ((own_usr p1 p2) &&& (1 : Int32)))])) _
      refine XS.ifNo X0.here hx rfl (hb hby d1_15) rfl ((if0 _ _).trans (feq hc1).1) ?_
      show Steps p.tables e below (s₁.setTop (mkF m 18 #[.val (.long q0), .second, .val (.int p1), .val (.int p2), .val (.int (((own_usrL q0 ((8 : Int32) * p2)).toInt32).toInt8.toInt32))] [])) _
      refine XS.bipush X0.here hx rfl (hb hby d1_18) ?_
      show Steps p.tables e below (s₁.setTop (mkF m 20 #[.val (.long q0), .second, .val (.int p1), .val (.int p2), .val (.int (((own_usrL q0 ((8 : Int32) * p2)).toInt32).toInt8.toInt32))] [(.int (48 : Int32))])) _
      refine XS.iload X0.here hx rfl (hb hby d1_20) rfl ?_
      show Steps p.tables e below (s₁.setTop (mkF m 22 #[.val (.long q0), .second, .val (.int p1), .val (.int p2), .val (.int (((own_usrL q0 ((8 : Int32) * p2)).toInt32).toInt8.toInt32))] [(.int (((own_usrL q0 ((8 : Int32) * p2)).toInt32).toInt8.toInt32)), (.int (48 : Int32))])) _
      refine XS.sipush X0.here hx rfl (hb hby d1_22) ?_
      show Steps p.tables e below (s₁.setTop (mkF m 25 #[.val (.long q0), .second, .val (.int p1), .val (.int p2), .val (.int (((own_usrL q0 ((8 : Int32) * p2)).toInt32).toInt8.toInt32))] [(.int (255 : Int32)), (.int (((own_usrL q0 ((8 : Int32) * p2)).toInt32).toInt8.toInt32)), (.int (48 : Int32))])) _
      refine XS.iand X0.here hx rfl (hb hby d1_25) rfl ?_
      show Steps p.tables e below (s₁.setTop (mkF m 26 #[.val (.long q0), .second, .val (.int p1), .val (.int p2), .val (.int (((own_usrL q0 ((8 : Int32) * p2)).toInt32).toInt8.toInt32))] [(.int ((((own_usrL q0 ((8 : Int32) * p2)).toInt32).toInt8.toInt32) &&& (255 : Int32))), (.int (48 : Int32))])) _
      refine XS.bipush X0.here hx rfl (hb hby d1_26) ?_
      show Steps p.tables e below (s₁.setTop (mkF m 28 #[.val (.long q0), .second, .val (.int p1), .val (.int p2), .val (.int (((own_usrL q0 ((8 : Int32) * p2)).toInt32).toInt8.toInt32))] [(.int (10 : Int32)), (.int ((((own_usrL q0 ((8 : Int32) * p2)).toInt32).toInt8.toInt32) &&& (255 : Int32))), (.int (48 : Int32))])) _
      refine iremM X0 hx rfl (hb hby d1_28) rfl (by decide) ?_
      show Steps p.tables e below (s₁.setTop (mkF m 29 #[.val (.long q0), .second, .val (.int p1), .val (.int p2), .val (.int (((own_usrL q0 ((8 : Int32) * p2)).toInt32).toInt8.toInt32))] [(.int (((((own_usrL q0 ((8 : Int32) * p2)).toInt32).toInt8.toInt32) &&& (255 : Int32)) % (10 : Int32))), (.int (48 : Int32))])) _
      refine XS.iadd X0.here hx rfl (hb hby d1_29) rfl ?_
      show Steps p.tables e below (s₁.setTop (mkF m 30 #[.val (.long q0), .second, .val (.int p1), .val (.int p2), .val (.int (((own_usrL q0 ((8 : Int32) * p2)).toInt32).toInt8.toInt32))] [(.int ((48 : Int32) + (((((own_usrL q0 ((8 : Int32) * p2)).toInt32).toInt8.toInt32) &&& (255 : Int32)) % (10 : Int32))))])) _
      refine XS.i2b X0.here hx rfl (hb hby d1_30) rfl ?_
      exact k)
    obtain ⟨fs, hr, hrun, hended, hW, hsame⟩ := X0.leave (v := some (.int (nar .byte (((48 : Int32) + (((((own_usrL q0 ((8 : Int32) * p2)).toInt32).toInt8.toInt32) &&& (255 : Int32)) % (10 : Int32))).toInt8.toInt32)))) (fun h => by rw [Bd.returns] at h; cases h)
    refine ⟨_, _, go4 _ ?_, hrun, hended, _, _, rfl, ?_, ⟨_, rfl⟩, hW, hsame.mono (by decide) (by decide)⟩
    · exact retN X0 hx (t := .byte) Bd.returns (by simp) (hb hby d1_31) hr
    · show Q_rm1 Z q0 p1 p2 h0 n0 _ s₁.heap _
      rw [e0]
      exact ⟨by unfold own_ba; simp only [if_neg hc1], N0, rfl⟩
def own_p10 (p0 : Int32) : Int32 := (if p0 = (0 : Int32) then (1 : Int32) else (if p0 = (1 : Int32) then (10 : Int32) else (if p0 = (2 : Int32) then (100 : Int32) else (if p0 = (3 : Int32) then (1000 : Int32) else (10000 : Int32)))))
theorem d5_0 : decode method_3_code 0 = .ok (.iload_n 0, 1) := by decide +kernel
theorem d5_1 : decode method_3_code 1 = .ok (.ifCond .ne 5, 3) := by decide +kernel
theorem d5_4 : decode method_3_code 4 = .ok (.iconst 1, 1) := by decide +kernel
theorem d5_5 : decode method_3_code 5 = .ok (.ireturn, 1) := by decide +kernel
theorem d5_6 : decode method_3_code 6 = .ok (.iload_n 0, 1) := by decide +kernel
theorem d5_7 : decode method_3_code 7 = .ok (.iconst 1, 1) := by decide +kernel
theorem d5_8 : decode method_3_code 8 = .ok (.if_icmp .ne 6, 3) := by decide +kernel
theorem d5_11 : decode method_3_code 11 = .ok (.bipush 10, 2) := by decide +kernel
theorem d5_13 : decode method_3_code 13 = .ok (.ireturn, 1) := by decide +kernel
theorem d5_14 : decode method_3_code 14 = .ok (.iload_n 0, 1) := by decide +kernel
theorem d5_15 : decode method_3_code 15 = .ok (.iconst 2, 1) := by decide +kernel
theorem d5_16 : decode method_3_code 16 = .ok (.if_icmp .ne 6, 3) := by decide +kernel
theorem d5_19 : decode method_3_code 19 = .ok (.bipush 100, 2) := by decide +kernel
theorem d5_21 : decode method_3_code 21 = .ok (.ireturn, 1) := by decide +kernel
theorem d5_22 : decode method_3_code 22 = .ok (.iload_n 0, 1) := by decide +kernel
theorem d5_23 : decode method_3_code 23 = .ok (.iconst 3, 1) := by decide +kernel
theorem d5_24 : decode method_3_code 24 = .ok (.if_icmp .ne 7, 3) := by decide +kernel
theorem d5_27 : decode method_3_code 27 = .ok (.sipush 1000, 3) := by decide +kernel
theorem d5_30 : decode method_3_code 30 = .ok (.ireturn, 1) := by decide +kernel
theorem d5_31 : decode method_3_code 31 = .ok (.sipush 10000, 3) := by decide +kernel
theorem d5_34 : decode method_3_code 34 = .ok (.ireturn, 1) := by decide +kernel
theorem pn_rm5 : plainName "com/example/zemlja/zemlja/iso2709/Iso2709NumberPinLaw" = true := by first | (simp [plainName, overriddenIn]; done) | decide +kernel
theorem ef_rm5 (m : MethodId) (p0 : Int32) : entryFrame m #[(.int p0)] 1 = mkF m 0 #[.val (.int p0)] [] := by first | (simp [entryFrame, mkF, argsToLocals, Value.category]; done) | rfl
def Q_rm5 (Z : State) (p0 : Int32) (h0 : Heap) (n0 : Nat) (v : Option Value) (h : Heap) (L : List Loc) : Prop := v = some (.int (own_p10 p0)) ∧ Fr n0 L ∧ h = h0
set_option maxRecDepth 65536 in
set_option maxHeartbeats 40000000 in
theorem rm5 (l : Launch) (Z : State) (a0 : Array Value) (hw : ∀ d ∈ tables_1, d.before a0 Z = true) (ws : List Jvm.Cond) (p0 : Int32) (h0 : Heap) (n0 : Nat) (Z0 : n0 ≤ h0.size) :
    MetFree l (⟨"com/example/zemlja/zemlja/iso2709/Iso2709NumberPinLaw", "pow10", "(I)I"⟩ : MethodName) (head1 (Jvm.Cond.code (⟨"com/example/zemlja/zemlja/iso2709/Iso2709NumberPinLaw", "pow10", "(I)I"⟩ : MethodName) method_3_code 1 (some .int) :: ws) ({ frames := 0, cells := 0, slots := 0, locals := 0 } : Room)) (fun a U => a = #[(.int p0)] ∧ Z.Warmed39 U.vm ∧ U.heap = h0) (fun _ _ _ _ _ => True) (fun _ U o U' => ∃ v L, o = .returned v ∧ Q_rm5 Z p0 h0 n0 v U'.heap L ∧ FrameEnd U o U' L ({ frames := 0, cells := 0, slots := 0, locals := 0 } : Room).cells ({ frames := 0, cells := 0, slots := 0, locals := 0 } : Room).slots) := by
  refine MetFree.of_bodySF (plainFor_of_name pn_rm5) hisR ?_
  intro p e s m args below meth c s₁ Bd hml0 hP hK
  obtain ⟨rfl, hZ, hh⟩ := hP
  have hx := Bd.exec
  have hby := Bd.bytes
  have hml : c.maxLocals = 1 := hml0
  have hown : s.vm.findClass "com/example/zemlja/zemlja/iso2709/Iso2709NumberPinLaw" = some m.cls := findClass_of_methodNamed Bd.named
  have hnm := (name_of_methodNamed Bd.named Bd.method).1
  have X0 : Stand p l e ({ frames := 0, cells := 0, slots := 0, locals := 0 } : Room) s m #[(.int p0)] below meth c s₁ [] 0 0 := Stand.of_body Bd
  have e0 : s₁.heap = h0 := by rw [← hh, Bd.state]; rfl
  have N0 := Fr.nil n0
  have K0 := Keep.refl h0 []
  have go0 : Go p e below (s₁.setTop (entryFrame m #[(.int p0)] 1)) (s₁.setTop (mkF m 0 #[.val (.int p0)] [])) := fun t k => castTop (ef_rm5 m p0) k
  have go2 := go0.step (C := s₁.setTop (mkF m 1 #[.val (.int p0)] [(.int p0)])) (fun t k => by
    show Steps p.tables e below (s₁.setTop (mkF m 0 #[.val (.int p0)] [])) _
    refine XS.iloadN X0.here hx rfl (hb hby d5_0) rfl ?_
    exact k)
  by_cases hc1 : p0 = (0 : Int32)
  · skip
    have go3 := go2.step (C := s₁.setTop (mkF m 5 #[.val (.int p0)] [(.int (1 : Int32))])) (fun t k => by
      show Steps p.tables e below (s₁.setTop (mkF m 1 #[.val (.int p0)] [(.int p0)])) _
      refine XS.ifNo X0.here hx rfl (hb hby d5_1) rfl ((if0 _ _).trans (teq hc1).2) ?_
      show Steps p.tables e below (s₁.setTop (mkF m 4 #[.val (.int p0)] [])) _
      refine XS.iconst X0.here hx rfl (hb hby d5_4) ?_
      exact k)
    obtain ⟨fs, hr, hrun, hended, hW, hsame⟩ := X0.leave (v := some (.int (1 : Int32))) (fun h => by rw [Bd.returns] at h; cases h)
    refine ⟨_, _, go3 _ ?_, hrun, hended, _, _, rfl, ?_, ⟨_, rfl⟩, hW, hsame.mono (by decide) (by decide)⟩
    · exact own_retI X0 hx Bd.returns (hb hby d5_5) hr
    · show Q_rm5 Z p0 h0 n0 _ s₁.heap _
      rw [e0]
      exact ⟨by unfold own_p10; simp only [if_pos hc1], N0, rfl⟩
  · skip
    have go5 := go2.step (C := s₁.setTop (mkF m 8 #[.val (.int p0)] [(.int (1 : Int32)), (.int p0)])) (fun t k => by
      show Steps p.tables e below (s₁.setTop (mkF m 1 #[.val (.int p0)] [(.int p0)])) _
      refine XS.ifYes X0.here hx rfl (pc0 := 1) (pc' := 6) rfl (hb hby d5_1) rfl ((if0 _ _).trans (feq hc1).2) (by decide) (by decide) ?_
      show Steps p.tables e below (s₁.setTop (mkF m 6 #[.val (.int p0)] [])) _
      refine XS.iloadN X0.here hx rfl (hb hby d5_6) rfl ?_
      show Steps p.tables e below (s₁.setTop (mkF m 7 #[.val (.int p0)] [(.int p0)])) _
      refine XS.iconst X0.here hx rfl (hb hby d5_7) ?_
      exact k)
    by_cases hc4 : p0 = (1 : Int32)
    · skip
      have go6 := go5.step (C := s₁.setTop (mkF m 13 #[.val (.int p0)] [(.int (10 : Int32))])) (fun t k => by
        show Steps p.tables e below (s₁.setTop (mkF m 8 #[.val (.int p0)] [(.int (1 : Int32)), (.int p0)])) _
        refine XS.icmpNo X0.here hx rfl (hb hby d5_8) rfl (teq hc4).2 ?_
        show Steps p.tables e below (s₁.setTop (mkF m 11 #[.val (.int p0)] [])) _
        refine XS.bipush X0.here hx rfl (hb hby d5_11) ?_
        exact k)
      obtain ⟨fs, hr, hrun, hended, hW, hsame⟩ := X0.leave (v := some (.int (10 : Int32))) (fun h => by rw [Bd.returns] at h; cases h)
      refine ⟨_, _, go6 _ ?_, hrun, hended, _, _, rfl, ?_, ⟨_, rfl⟩, hW, hsame.mono (by decide) (by decide)⟩
      · exact own_retI X0 hx Bd.returns (hb hby d5_13) hr
      · show Q_rm5 Z p0 h0 n0 _ s₁.heap _
        rw [e0]
        exact ⟨by unfold own_p10; simp only [if_neg hc1, if_pos hc4], N0, rfl⟩
    · skip
      have go8 := go5.step (C := s₁.setTop (mkF m 16 #[.val (.int p0)] [(.int (2 : Int32)), (.int p0)])) (fun t k => by
        show Steps p.tables e below (s₁.setTop (mkF m 8 #[.val (.int p0)] [(.int (1 : Int32)), (.int p0)])) _
        refine XS.icmpYes X0.here hx rfl (pc0 := 8) (pc' := 14) rfl (hb hby d5_8) rfl (feq hc4).2 (by decide) (by decide) ?_
        show Steps p.tables e below (s₁.setTop (mkF m 14 #[.val (.int p0)] [])) _
        refine XS.iloadN X0.here hx rfl (hb hby d5_14) rfl ?_
        show Steps p.tables e below (s₁.setTop (mkF m 15 #[.val (.int p0)] [(.int p0)])) _
        refine XS.iconst X0.here hx rfl (hb hby d5_15) ?_
        exact k)
      by_cases hc7 : p0 = (2 : Int32)
      · skip
        have go9 := go8.step (C := s₁.setTop (mkF m 21 #[.val (.int p0)] [(.int (100 : Int32))])) (fun t k => by
          show Steps p.tables e below (s₁.setTop (mkF m 16 #[.val (.int p0)] [(.int (2 : Int32)), (.int p0)])) _
          refine XS.icmpNo X0.here hx rfl (hb hby d5_16) rfl (teq hc7).2 ?_
          show Steps p.tables e below (s₁.setTop (mkF m 19 #[.val (.int p0)] [])) _
          refine XS.bipush X0.here hx rfl (hb hby d5_19) ?_
          exact k)
        obtain ⟨fs, hr, hrun, hended, hW, hsame⟩ := X0.leave (v := some (.int (100 : Int32))) (fun h => by rw [Bd.returns] at h; cases h)
        refine ⟨_, _, go9 _ ?_, hrun, hended, _, _, rfl, ?_, ⟨_, rfl⟩, hW, hsame.mono (by decide) (by decide)⟩
        · exact own_retI X0 hx Bd.returns (hb hby d5_21) hr
        · show Q_rm5 Z p0 h0 n0 _ s₁.heap _
          rw [e0]
          exact ⟨by unfold own_p10; simp only [if_neg hc1, if_neg hc4, if_pos hc7], N0, rfl⟩
      · skip
        have go11 := go8.step (C := s₁.setTop (mkF m 24 #[.val (.int p0)] [(.int (3 : Int32)), (.int p0)])) (fun t k => by
          show Steps p.tables e below (s₁.setTop (mkF m 16 #[.val (.int p0)] [(.int (2 : Int32)), (.int p0)])) _
          refine XS.icmpYes X0.here hx rfl (pc0 := 16) (pc' := 22) rfl (hb hby d5_16) rfl (feq hc7).2 (by decide) (by decide) ?_
          show Steps p.tables e below (s₁.setTop (mkF m 22 #[.val (.int p0)] [])) _
          refine XS.iloadN X0.here hx rfl (hb hby d5_22) rfl ?_
          show Steps p.tables e below (s₁.setTop (mkF m 23 #[.val (.int p0)] [(.int p0)])) _
          refine XS.iconst X0.here hx rfl (hb hby d5_23) ?_
          exact k)
        by_cases hc10 : p0 = (3 : Int32)
        · skip
          have go12 := go11.step (C := s₁.setTop (mkF m 30 #[.val (.int p0)] [(.int (1000 : Int32))])) (fun t k => by
            show Steps p.tables e below (s₁.setTop (mkF m 24 #[.val (.int p0)] [(.int (3 : Int32)), (.int p0)])) _
            refine XS.icmpNo X0.here hx rfl (hb hby d5_24) rfl (teq hc10).2 ?_
            show Steps p.tables e below (s₁.setTop (mkF m 27 #[.val (.int p0)] [])) _
            refine XS.sipush X0.here hx rfl (hb hby d5_27) ?_
            exact k)
          obtain ⟨fs, hr, hrun, hended, hW, hsame⟩ := X0.leave (v := some (.int (1000 : Int32))) (fun h => by rw [Bd.returns] at h; cases h)
          refine ⟨_, _, go12 _ ?_, hrun, hended, _, _, rfl, ?_, ⟨_, rfl⟩, hW, hsame.mono (by decide) (by decide)⟩
          · exact own_retI X0 hx Bd.returns (hb hby d5_30) hr
          · show Q_rm5 Z p0 h0 n0 _ s₁.heap _
            rw [e0]
            exact ⟨by unfold own_p10; simp only [if_neg hc1, if_neg hc4, if_neg hc7, if_pos hc10], N0, rfl⟩
        · skip
          have go13 := go11.step (C := s₁.setTop (mkF m 34 #[.val (.int p0)] [(.int (10000 : Int32))])) (fun t k => by
            show Steps p.tables e below (s₁.setTop (mkF m 24 #[.val (.int p0)] [(.int (3 : Int32)), (.int p0)])) _
            refine XS.icmpYes X0.here hx rfl (pc0 := 24) (pc' := 31) rfl (hb hby d5_24) rfl (feq hc10).2 (by decide) (by decide) ?_
            show Steps p.tables e below (s₁.setTop (mkF m 31 #[.val (.int p0)] [])) _
            refine XS.sipush X0.here hx rfl (hb hby d5_31) ?_
            exact k)
          obtain ⟨fs, hr, hrun, hended, hW, hsame⟩ := X0.leave (v := some (.int (10000 : Int32))) (fun h => by rw [Bd.returns] at h; cases h)
          refine ⟨_, _, go13 _ ?_, hrun, hended, _, _, rfl, ?_, ⟨_, rfl⟩, hW, hsame.mono (by decide) (by decide)⟩
          · exact own_retI X0 hx Bd.returns (hb hby d5_34) hr
          · show Q_rm5 Z p0 h0 n0 _ s₁.heap _
            rw [e0]
            exact ⟨by unfold own_p10; simp only [if_neg hc1, if_neg hc4, if_neg hc7, if_neg hc10], N0, rfl⟩
def own_ok (p2 : Int32) (p3 : Int32) (f : Nat → Int32) (jn : Nat) : Int32 := (if p3 < p2 then (if ((f jn) - (48 : Int32)) < (0 : Int32) then (0 : Int32) else (if (9 : Int32) < ((f jn) - (48 : Int32)) then (0 : Int32) else (1 : Int32))) else (1 : Int32))
theorem d2_0 : decode method_4_code 0 = .ok (.iload_n 3, 1) := by decide +kernel
theorem d2_1 : decode method_4_code 1 = .ok (.iload_n 2, 1) := by decide +kernel
theorem d2_2 : decode method_4_code 2 = .ok (.if_icmp .lt 5, 3) := by decide +kernel
theorem d2_5 : decode method_4_code 5 = .ok (.iconst 1, 1) := by decide +kernel
theorem d2_6 : decode method_4_code 6 = .ok (.ireturn, 1) := by decide +kernel
theorem d2_7 : decode method_4_code 7 = .ok (.aload_n 0, 1) := by decide +kernel
theorem d2_8 : decode method_4_code 8 = .ok (.iload_n 1, 1) := by decide +kernel
theorem d2_9 : decode method_4_code 9 = .ok (.iload_n 3, 1) := by decide +kernel
theorem d2_10 : decode method_4_code 10 = .ok (.iadd, 1) := by decide +kernel
theorem d2_11 : decode method_4_code 11 = .ok (.baload, 1) := by decide +kernel
theorem d2_12 : decode method_4_code 12 = .ok (.bipush 48, 2) := by decide +kernel
theorem d2_14 : decode method_4_code 14 = .ok (.isub, 1) := by decide +kernel
theorem d2_15 : decode method_4_code 15 = .ok (.istore 4, 2) := by decide +kernel
theorem d2_17 : decode method_4_code 17 = .ok (.iload 4, 2) := by decide +kernel
theorem d2_19 : decode method_4_code 19 = .ok (.ifCond .lt 14, 3) := by decide +kernel
theorem d2_22 : decode method_4_code 22 = .ok (.iload 4, 2) := by decide +kernel
theorem d2_24 : decode method_4_code 24 = .ok (.bipush 9, 2) := by decide +kernel
theorem d2_26 : decode method_4_code 26 = .ok (.if_icmp .gt 7, 3) := by decide +kernel
theorem d2_29 : decode method_4_code 29 = .ok (.iconst 1, 1) := by decide +kernel
theorem d2_30 : decode method_4_code 30 = .ok (.goto 4, 3) := by decide +kernel
theorem d2_33 : decode method_4_code 33 = .ok (.iconst 0, 1) := by decide +kernel
theorem d2_34 : decode method_4_code 34 = .ok (.ireturn, 1) := by decide +kernel
theorem pn_rm2 : plainName "com/example/zemlja/zemlja/iso2709/Iso2709NumberPinLaw" = true := by first | (simp [plainName, overriddenIn]; done) | decide +kernel
theorem ef_rm2 (m : MethodId) (o0 : Addr) (p1 : Int32) (p2 : Int32) (p3 : Int32) : entryFrame m #[(.ref o0), (.int p1), (.int p2), (.int p3)] 5 = mkF m 0 #[.val (.ref o0), .val (.int p1), .val (.int p2), .val (.int p3), .unset] [] := by first | (simp [entryFrame, mkF, argsToLocals, Value.category]; done) | rfl
def Q_rm2 (Z : State) (o0 : Addr) (p1 : Int32) (p2 : Int32) (p3 : Int32) (ka : ClassId) (vs : List Value) (f : Nat → Int32) (jn : Nat) (h0 : Heap) (n0 : Nat) (v : Option Value) (h : Heap) (L : List Loc) : Prop := v = some (.int (own_ok p2 p3 f jn)) ∧ Fr n0 L ∧ h = h0
set_option maxRecDepth 65536 in
set_option maxHeartbeats 40000000 in
theorem rm2 (l : Launch) (Z : State) (a0 : Array Value) (hw : ∀ d ∈ tables_1, d.before a0 Z = true) (ws : List Jvm.Cond) (o0 : Addr) (p1 : Int32) (p2 : Int32) (p3 : Int32) (ka : ClassId) (vs : List Value) (f : Nat → Int32) (jn : Nat) (h0 : Heap) (n0 : Nat) (Z0 : n0 ≤ h0.size) (V0 : Arv Z h0 o0 ka .byte (7 : Int32) vs (.int (0 : Int32))) (hv : own_Vs vs f) (hi : (p1 + p3).toInt = (jn : Int)) (hlt : p3 < p2 → jn < 7) :
    MetFree l (⟨"com/example/zemlja/zemlja/iso2709/Iso2709NumberPinLaw", "ok", "([BIII)Z"⟩ : MethodName) (head1 (Jvm.Cond.code (⟨"com/example/zemlja/zemlja/iso2709/Iso2709NumberPinLaw", "ok", "([BIII)Z"⟩ : MethodName) method_4_code 5 (some .boolean) :: ws) ({ frames := 0, cells := 0, slots := 0, locals := 0 } : Room)) (fun a U => a = #[(.ref o0), (.int p1), (.int p2), (.int p3)] ∧ Z.Warmed39 U.vm ∧ U.heap = h0) (fun _ _ _ _ _ => True) (fun _ U o U' => ∃ v L, o = .returned v ∧ Q_rm2 Z o0 p1 p2 p3 ka vs f jn h0 n0 v U'.heap L ∧ FrameEnd U o U' L ({ frames := 0, cells := 0, slots := 0, locals := 0 } : Room).cells ({ frames := 0, cells := 0, slots := 0, locals := 0 } : Room).slots) := by
  refine MetFree.of_bodySF (plainFor_of_name pn_rm2) hisR ?_
  intro p e s m args below meth c s₁ Bd hml0 hP hK
  obtain ⟨rfl, hZ, hh⟩ := hP
  have hx := Bd.exec
  have hby := Bd.bytes
  have hml : c.maxLocals = 5 := hml0
  have hown : s.vm.findClass "com/example/zemlja/zemlja/iso2709/Iso2709NumberPinLaw" = some m.cls := findClass_of_methodNamed Bd.named
  have hnm := (name_of_methodNamed Bd.named Bd.method).1
  have X0 : Stand p l e ({ frames := 0, cells := 0, slots := 0, locals := 0 } : Room) s m #[(.ref o0), (.int p1), (.int p2), (.int p3)] below meth c s₁ [] 0 0 := Stand.of_body Bd
  have e0 : s₁.heap = h0 := by rw [← hh, Bd.state]; rfl
  have N0 := Fr.nil n0
  have K0 := Keep.refl h0 []
  have go0 : Go p e below (s₁.setTop (entryFrame m #[(.ref o0), (.int p1), (.int p2), (.int p3)] 5)) (s₁.setTop (mkF m 0 #[.val (.ref o0), .val (.int p1), .val (.int p2), .val (.int p3), .unset] [])) := fun t k => castTop (ef_rm2 m o0 p1 p2 p3) k
  have go2 := go0.step (C := s₁.setTop (mkF m 2 #[.val (.ref o0), .val (.int p1), .val (.int p2), .val (.int p3), .unset] [(.int p2), (.int p3)])) (fun t k => by
    show Steps p.tables e below (s₁.setTop (mkF m 0 #[.val (.ref o0), .val (.int p1), .val (.int p2), .val (.int p3), .unset] [])) _
    refine XS.iloadN X0.here hx rfl (hb hby d2_0) rfl ?_
    show Steps p.tables e below (s₁.setTop (mkF m 1 #[.val (.ref o0), .val (.int p1), .val (.int p2), .val (.int p3), .unset] [(.int p3)])) _
    refine XS.iloadN X0.here hx rfl (hb hby d2_1) rfl ?_
    exact k)
  by_cases hc1 : p3 < p2
  · skip
    have go3 := go2.step (C := s₁.setTop (mkF m 11 #[.val (.ref o0), .val (.int p1), .val (.int p2), .val (.int p3), .unset] [(.int (p1 + p3)), (.ref o0)])) (fun t k => by
      show Steps p.tables e below (s₁.setTop (mkF m 2 #[.val (.ref o0), .val (.int p1), .val (.int p2), .val (.int p3), .unset] [(.int p2), (.int p3)])) _
      refine XS.icmpYes X0.here hx rfl (pc0 := 2) (pc' := 7) rfl (hb hby d2_2) rfl (tlt hc1).1 (by decide) (by decide) ?_
      show Steps p.tables e below (s₁.setTop (mkF m 7 #[.val (.ref o0), .val (.int p1), .val (.int p2), .val (.int p3), .unset] [])) _
      refine XS.aloadN X0.here hx rfl (hb hby d2_7) rfl rfl ?_
      show Steps p.tables e below (s₁.setTop (mkF m 8 #[.val (.ref o0), .val (.int p1), .val (.int p2), .val (.int p3), .unset] [(.ref o0)])) _
      refine XS.iloadN X0.here hx rfl (hb hby d2_8) rfl ?_
      show Steps p.tables e below (s₁.setTop (mkF m 9 #[.val (.ref o0), .val (.int p1), .val (.int p2), .val (.int p3), .unset] [(.int p1), (.ref o0)])) _
      refine XS.iloadN X0.here hx rfl (hb hby d2_9) rfl ?_
      show Steps p.tables e below (s₁.setTop (mkF m 10 #[.val (.ref o0), .val (.int p1), .val (.int p2), .val (.int p3), .unset] [(.int p3), (.int p1), (.ref o0)])) _
      refine XS.iadd X0.here hx rfl (hb hby d2_10) rfl ?_
      exact k)
    obtain ⟨cl4, Ar4, qa4, Sa4, Na4, Ha4, Ga4⟩ := V0
    have hin4 : ¬ ((p1 + p3) < 0 ∨ cl4.slots.size ≤ ((p1 + p3)).toNatClampNeg) := inb_of Sa4 (own_in hi (hlt hc1))
    have hat4 : cl4.slots[((p1 + p3)).toNatClampNeg]? = some (.int (f jn)) := Has.at Ha4 hin4 (own_rd hv hi (hlt hc1))
    have go6 := go3.step (C := s₁.setTop (mkF m 19 #[.val (.ref o0), .val (.int p1), .val (.int p2), .val (.int p3), .val (.int ((f jn) - (48 : Int32)))] [(.int ((f jn) - (48 : Int32)))])) (fun t k => by
      show Steps p.tables e below (s₁.setTop (mkF m 11 #[.val (.ref o0), .val (.int p1), .val (.int p2), .val (.int p3), .unset] [(.int (p1 + p3)), (.ref o0)])) _
      refine X0.baloadBytes hx (j := (p1 + p3)) (v := (.int (f jn))) (by rw [e0]; exact Ar4.1) (State.isArrayOf_alike hZ.alike Ar4.2.1) Ar4.2.2 hin4 hat4 (g := (mkF m 11 #[.val (.ref o0), .val (.int p1), .val (.int p2), .val (.int p3), .unset] [(.int (p1 + p3)), (.ref o0)])) rfl rfl (hb hby d2_11) _ ?_
      show Steps p.tables e below (s₁.setTop (mkF m 12 #[.val (.ref o0), .val (.int p1), .val (.int p2), .val (.int p3), .unset] [(.int (f jn))])) _
      refine XS.bipush X0.here hx rfl (hb hby d2_12) ?_
      show Steps p.tables e below (s₁.setTop (mkF m 14 #[.val (.ref o0), .val (.int p1), .val (.int p2), .val (.int p3), .unset] [(.int (48 : Int32)), (.int (f jn))])) _
      refine XS.isub X0.here hx rfl (hb hby d2_14) rfl ?_
      show Steps p.tables e below (s₁.setTop (mkF m 15 #[.val (.ref o0), .val (.int p1), .val (.int p2), .val (.int p3), .unset] [(.int ((f jn) - (48 : Int32)))])) _
      refine XS.istore X0.here hx rfl (hb hby d2_15) rfl (l' := #[.val (.ref o0), .val (.int p1), .val (.int p2), .val (.int p3), .val (.int ((f jn) - (48 : Int32)))]) rfl ?_
      show Steps p.tables e below (s₁.setTop (mkF m 17 #[.val (.ref o0), .val (.int p1), .val (.int p2), .val (.int p3), .val (.int ((f jn) - (48 : Int32)))] [])) _
      refine XS.iload X0.here hx rfl (hb hby d2_17) rfl ?_
      exact k)
    by_cases hc5 : ((f jn) - (48 : Int32)) < (0 : Int32)
    · skip
      have go7 := go6.step (C := s₁.setTop (mkF m 34 #[.val (.ref o0), .val (.int p1), .val (.int p2), .val (.int p3), .val (.int ((f jn) - (48 : Int32)))] [(.int (0 : Int32))])) (fun t k => by
        show Steps p.tables e below (s₁.setTop (mkF m 19 #[.val (.ref o0), .val (.int p1), .val (.int p2), .val (.int p3), .val (.int ((f jn) - (48 : Int32)))] [(.int ((f jn) - (48 : Int32)))])) _
        refine XS.ifYes X0.here hx rfl (pc0 := 19) (pc' := 33) rfl (hb hby d2_19) rfl ((if0 _ _).trans (tlt hc5).1) (by decide) (by decide) ?_
        show Steps p.tables e below (s₁.setTop (mkF m 33 #[.val (.ref o0), .val (.int p1), .val (.int p2), .val (.int p3), .val (.int ((f jn) - (48 : Int32)))] [])) _
        refine XS.iconst X0.here hx rfl (hb hby d2_33) ?_
        exact k)
      obtain ⟨fs, hr, hrun, hended, hW, hsame⟩ := X0.leave (v := some (.int (0 : Int32))) (fun h => by rw [Bd.returns] at h; cases h)
      refine ⟨_, _, go7 _ ?_, hrun, hended, _, _, rfl, ?_, ⟨_, rfl⟩, hW, hsame.mono (by decide) (by decide)⟩
      · exact retN X0 hx (t := .boolean) Bd.returns (by simp) (hb hby d2_34) hr
      · show Q_rm2 Z o0 p1 p2 p3 ka vs f jn h0 n0 _ s₁.heap _
        rw [e0]
        exact ⟨by unfold own_ok; simp only [if_pos hc1, if_pos hc5], N0, rfl⟩
    · skip
      have go9 := go6.step (C := s₁.setTop (mkF m 26 #[.val (.ref o0), .val (.int p1), .val (.int p2), .val (.int p3), .val (.int ((f jn) - (48 : Int32)))] [(.int (9 : Int32)), (.int ((f jn) - (48 : Int32)))])) (fun t k => by
        show Steps p.tables e below (s₁.setTop (mkF m 19 #[.val (.ref o0), .val (.int p1), .val (.int p2), .val (.int p3), .val (.int ((f jn) - (48 : Int32)))] [(.int ((f jn) - (48 : Int32)))])) _
        refine XS.ifNo X0.here hx rfl (hb hby d2_19) rfl ((if0 _ _).trans (flt hc5).1) ?_
        show Steps p.tables e below (s₁.setTop (mkF m 22 #[.val (.ref o0), .val (.int p1), .val (.int p2), .val (.int p3), .val (.int ((f jn) - (48 : Int32)))] [])) _
        refine XS.iload X0.here hx rfl (hb hby d2_22) rfl ?_
        show Steps p.tables e below (s₁.setTop (mkF m 24 #[.val (.ref o0), .val (.int p1), .val (.int p2), .val (.int p3), .val (.int ((f jn) - (48 : Int32)))] [(.int ((f jn) - (48 : Int32)))])) _
        refine XS.bipush X0.here hx rfl (hb hby d2_24) ?_
        exact k)
      by_cases hc8 : (9 : Int32) < ((f jn) - (48 : Int32))
      · skip
        have go10 := go9.step (C := s₁.setTop (mkF m 34 #[.val (.ref o0), .val (.int p1), .val (.int p2), .val (.int p3), .val (.int ((f jn) - (48 : Int32)))] [(.int (0 : Int32))])) (fun t k => by
          show Steps p.tables e below (s₁.setTop (mkF m 26 #[.val (.ref o0), .val (.int p1), .val (.int p2), .val (.int p3), .val (.int ((f jn) - (48 : Int32)))] [(.int (9 : Int32)), (.int ((f jn) - (48 : Int32)))])) _
          refine XS.icmpYes X0.here hx rfl (pc0 := 26) (pc' := 33) rfl (hb hby d2_26) rfl (tlt hc8).2.2.1 (by decide) (by decide) ?_
          show Steps p.tables e below (s₁.setTop (mkF m 33 #[.val (.ref o0), .val (.int p1), .val (.int p2), .val (.int p3), .val (.int ((f jn) - (48 : Int32)))] [])) _
          refine XS.iconst X0.here hx rfl (hb hby d2_33) ?_
          exact k)
        obtain ⟨fs, hr, hrun, hended, hW, hsame⟩ := X0.leave (v := some (.int (0 : Int32))) (fun h => by rw [Bd.returns] at h; cases h)
        refine ⟨_, _, go10 _ ?_, hrun, hended, _, _, rfl, ?_, ⟨_, rfl⟩, hW, hsame.mono (by decide) (by decide)⟩
        · exact retN X0 hx (t := .boolean) Bd.returns (by simp) (hb hby d2_34) hr
        · show Q_rm2 Z o0 p1 p2 p3 ka vs f jn h0 n0 _ s₁.heap _
          rw [e0]
          exact ⟨by unfold own_ok; simp only [if_pos hc1, if_neg hc5, if_pos hc8], N0, rfl⟩
      · skip
        have go11 := go9.step (C := s₁.setTop (mkF m 34 #[.val (.ref o0), .val (.int p1), .val (.int p2), .val (.int p3), .val (.int ((f jn) - (48 : Int32)))] [(.int (1 : Int32))])) (fun t k => by
          show Steps p.tables e below (s₁.setTop (mkF m 26 #[.val (.ref o0), .val (.int p1), .val (.int p2), .val (.int p3), .val (.int ((f jn) - (48 : Int32)))] [(.int (9 : Int32)), (.int ((f jn) - (48 : Int32)))])) _
          refine XS.icmpNo X0.here hx rfl (hb hby d2_26) rfl (flt hc8).2.2.1 ?_
          show Steps p.tables e below (s₁.setTop (mkF m 29 #[.val (.ref o0), .val (.int p1), .val (.int p2), .val (.int p3), .val (.int ((f jn) - (48 : Int32)))] [])) _
          refine XS.iconst X0.here hx rfl (hb hby d2_29) ?_
          show Steps p.tables e below (s₁.setTop (mkF m 30 #[.val (.ref o0), .val (.int p1), .val (.int p2), .val (.int p3), .val (.int ((f jn) - (48 : Int32)))] [(.int (1 : Int32))])) _
          refine XS.goto X0.here hx rfl (pc0 := 30) (pc' := 34) rfl (hb hby d2_30) (by decide) (by decide) ?_
          exact k)
        obtain ⟨fs, hr, hrun, hended, hW, hsame⟩ := X0.leave (v := some (.int (1 : Int32))) (fun h => by rw [Bd.returns] at h; cases h)
        refine ⟨_, _, go11 _ ?_, hrun, hended, _, _, rfl, ?_, ⟨_, rfl⟩, hW, hsame.mono (by decide) (by decide)⟩
        · exact retN X0 hx (t := .boolean) Bd.returns (by simp) (hb hby d2_34) hr
        · show Q_rm2 Z o0 p1 p2 p3 ka vs f jn h0 n0 _ s₁.heap _
          rw [e0]
          exact ⟨by unfold own_ok; simp only [if_pos hc1, if_neg hc5, if_neg hc8], N0, rfl⟩
  · skip
    have go12 := go2.step (C := s₁.setTop (mkF m 6 #[.val (.ref o0), .val (.int p1), .val (.int p2), .val (.int p3), .unset] [(.int (1 : Int32))])) (fun t k => by
      show Steps p.tables e below (s₁.setTop (mkF m 2 #[.val (.ref o0), .val (.int p1), .val (.int p2), .val (.int p3), .unset] [(.int p2), (.int p3)])) _
      refine XS.icmpNo X0.here hx rfl (hb hby d2_2) rfl (flt hc1).1 ?_
      show Steps p.tables e below (s₁.setTop (mkF m 5 #[.val (.ref o0), .val (.int p1), .val (.int p2), .val (.int p3), .unset] [])) _
      refine XS.iconst X0.here hx rfl (hb hby d2_5) ?_
      exact k)
    obtain ⟨fs, hr, hrun, hended, hW, hsame⟩ := X0.leave (v := some (.int (1 : Int32))) (fun h => by rw [Bd.returns] at h; cases h)
    refine ⟨_, _, go12 _ ?_, hrun, hended, _, _, rfl, ?_, ⟨_, rfl⟩, hW, hsame.mono (by decide) (by decide)⟩
    · exact retN X0 hx (t := .boolean) Bd.returns (by simp) (hb hby d2_6) hr
    · show Q_rm2 Z o0 p1 p2 p3 ka vs f jn h0 n0 _ s₁.heap _
      rw [e0]
      exact ⟨by unfold own_ok; simp only [if_neg hc1], N0, rfl⟩
def own_term (p2 : Int32) (p3 : Int32) (f : Nat → Int32) (jn : Nat) : Int32 := (if p3 < p2 then (((f jn) - (48 : Int32)) * (own_p10 ((p2 - (1 : Int32)) - p3))) else (0 : Int32))
theorem d4_0 : decode method_5_code 0 = .ok (.iload_n 3, 1) := by decide +kernel
theorem d4_1 : decode method_5_code 1 = .ok (.iload_n 2, 1) := by decide +kernel
theorem d4_2 : decode method_5_code 2 = .ok (.if_icmp .lt 5, 3) := by decide +kernel
theorem d4_5 : decode method_5_code 5 = .ok (.iconst 0, 1) := by decide +kernel
theorem d4_6 : decode method_5_code 6 = .ok (.ireturn, 1) := by decide +kernel
theorem d4_7 : decode method_5_code 7 = .ok (.aload_n 0, 1) := by decide +kernel
theorem d4_8 : decode method_5_code 8 = .ok (.iload_n 1, 1) := by decide +kernel
theorem d4_9 : decode method_5_code 9 = .ok (.iload_n 3, 1) := by decide +kernel
theorem d4_10 : decode method_5_code 10 = .ok (.iadd, 1) := by decide +kernel
theorem d4_11 : decode method_5_code 11 = .ok (.baload, 1) := by decide +kernel
theorem d4_12 : decode method_5_code 12 = .ok (.bipush 48, 2) := by decide +kernel
theorem d4_14 : decode method_5_code 14 = .ok (.isub, 1) := by decide +kernel
theorem d4_15 : decode method_5_code 15 = .ok (.iload_n 2, 1) := by decide +kernel
theorem d4_16 : decode method_5_code 16 = .ok (.iconst 1, 1) := by decide +kernel
theorem d4_17 : decode method_5_code 17 = .ok (.isub, 1) := by decide +kernel
theorem d4_18 : decode method_5_code 18 = .ok (.iload_n 3, 1) := by decide +kernel
theorem d4_19 : decode method_5_code 19 = .ok (.isub, 1) := by decide +kernel
theorem d4_20 : decode method_5_code 20 = .ok (.invokestatic 7, 3) := by decide +kernel
theorem d4_23 : decode method_5_code 23 = .ok (.imul, 1) := by decide +kernel
theorem d4_24 : decode method_5_code 24 = .ok (.ireturn, 1) := by decide +kernel
theorem pn_rm4 : plainName "com/example/zemlja/zemlja/iso2709/Iso2709NumberPinLaw" = true := by first | (simp [plainName, overriddenIn]; done) | decide +kernel
theorem pd4_0 : parseMethodDescriptor "(I)I" = some ⟨[.int], some .int⟩ := by decide +kernel
theorem ef_rm4 (m : MethodId) (o0 : Addr) (p1 : Int32) (p2 : Int32) (p3 : Int32) : entryFrame m #[(.ref o0), (.int p1), (.int p2), (.int p3)] 4 = mkF m 0 #[.val (.ref o0), .val (.int p1), .val (.int p2), .val (.int p3)] [] := by first | (simp [entryFrame, mkF, argsToLocals, Value.category]; done) | rfl
def Q_rm4 (Z : State) (o0 : Addr) (p1 : Int32) (p2 : Int32) (p3 : Int32) (ka : ClassId) (vs : List Value) (f : Nat → Int32) (jn : Nat) (h0 : Heap) (n0 : Nat) (v : Option Value) (h : Heap) (L : List Loc) : Prop := v = some (.int (own_term p2 p3 f jn)) ∧ Fr n0 L ∧ h = h0
set_option maxRecDepth 65536 in
set_option maxHeartbeats 40000000 in
theorem rm4 (l : Launch) (Z : State) (a0 : Array Value) (hw : ∀ d ∈ tables_1, d.before a0 Z = true) (ws : List Jvm.Cond) (o0 : Addr) (p1 : Int32) (p2 : Int32) (p3 : Int32) (ka : ClassId) (vs : List Value) (f : Nat → Int32) (jn : Nat) (h0 : Heap) (n0 : Nat) (Z0 : n0 ≤ h0.size) (V0 : Arv Z h0 o0 ka .byte (7 : Int32) vs (.int (0 : Int32))) (hv : own_Vs vs f) (hi : (p1 + p3).toInt = (jn : Int)) (hlt : p3 < p2 → jn < 7) :
    MetFree l (⟨"com/example/zemlja/zemlja/iso2709/Iso2709NumberPinLaw", "term", "([BIII)I"⟩ : MethodName) (head1 (Jvm.Cond.code (⟨"com/example/zemlja/zemlja/iso2709/Iso2709NumberPinLaw", "term", "([BIII)I"⟩ : MethodName) method_5_code 4 (some .int) :: ws) ({ frames := 1, cells := 0, slots := 0, locals := 13 } : Room)) (fun a U => a = #[(.ref o0), (.int p1), (.int p2), (.int p3)] ∧ Z.Warmed39 U.vm ∧ U.heap = h0) (fun _ _ _ _ _ => True) (fun _ U o U' => ∃ v L, o = .returned v ∧ Q_rm4 Z o0 p1 p2 p3 ka vs f jn h0 n0 v U'.heap L ∧ FrameEnd U o U' L ({ frames := 1, cells := 0, slots := 0, locals := 13 } : Room).cells ({ frames := 1, cells := 0, slots := 0, locals := 13 } : Room).slots) := by
  refine MetFree.of_bodySF (plainFor_of_name pn_rm4) hisR ?_
  intro p e s m args below meth c s₁ Bd hml0 hP hK
  obtain ⟨rfl, hZ, hh⟩ := hP
  have hx := Bd.exec
  have hby := Bd.bytes
  have hml : c.maxLocals = 4 := hml0
  have hown : s.vm.findClass "com/example/zemlja/zemlja/iso2709/Iso2709NumberPinLaw" = some m.cls := findClass_of_methodNamed Bd.named
  have hnm := (name_of_methodNamed Bd.named Bd.method).1
  have X0 : Stand p l e ({ frames := 1, cells := 0, slots := 0, locals := 13 } : Room) s m #[(.ref o0), (.int p1), (.int p2), (.int p3)] below meth c s₁ [] 0 0 := Stand.of_body Bd
  have e0 : s₁.heap = h0 := by rw [← hh, Bd.state]; rfl
  have N0 := Fr.nil n0
  have K0 := Keep.refl h0 []
  have go0 : Go p e below (s₁.setTop (entryFrame m #[(.ref o0), (.int p1), (.int p2), (.int p3)] 4)) (s₁.setTop (mkF m 0 #[.val (.ref o0), .val (.int p1), .val (.int p2), .val (.int p3)] [])) := fun t k => castTop (ef_rm4 m o0 p1 p2 p3) k
  have go2 := go0.step (C := s₁.setTop (mkF m 2 #[.val (.ref o0), .val (.int p1), .val (.int p2), .val (.int p3)] [(.int p2), (.int p3)])) (fun t k => by
    show Steps p.tables e below (s₁.setTop (mkF m 0 #[.val (.ref o0), .val (.int p1), .val (.int p2), .val (.int p3)] [])) _
    refine XS.iloadN X0.here hx rfl (hb hby d4_0) rfl ?_
    show Steps p.tables e below (s₁.setTop (mkF m 1 #[.val (.ref o0), .val (.int p1), .val (.int p2), .val (.int p3)] [(.int p3)])) _
    refine XS.iloadN X0.here hx rfl (hb hby d4_1) rfl ?_
    exact k)
  by_cases hc1 : p3 < p2
  · skip
    have go3 := go2.step (C := s₁.setTop (mkF m 11 #[.val (.ref o0), .val (.int p1), .val (.int p2), .val (.int p3)] [(.int (p1 + p3)), (.ref o0)])) (fun t k => by
      show Steps p.tables e below (s₁.setTop (mkF m 2 #[.val (.ref o0), .val (.int p1), .val (.int p2), .val (.int p3)] [(.int p2), (.int p3)])) _
      refine XS.icmpYes X0.here hx rfl (pc0 := 2) (pc' := 7) rfl (hb hby d4_2) rfl (tlt hc1).1 (by decide) (by decide) ?_
      show Steps p.tables e below (s₁.setTop (mkF m 7 #[.val (.ref o0), .val (.int p1), .val (.int p2), .val (.int p3)] [])) _
      refine XS.aloadN X0.here hx rfl (hb hby d4_7) rfl rfl ?_
      show Steps p.tables e below (s₁.setTop (mkF m 8 #[.val (.ref o0), .val (.int p1), .val (.int p2), .val (.int p3)] [(.ref o0)])) _
      refine XS.iloadN X0.here hx rfl (hb hby d4_8) rfl ?_
      show Steps p.tables e below (s₁.setTop (mkF m 9 #[.val (.ref o0), .val (.int p1), .val (.int p2), .val (.int p3)] [(.int p1), (.ref o0)])) _
      refine XS.iloadN X0.here hx rfl (hb hby d4_9) rfl ?_
      show Steps p.tables e below (s₁.setTop (mkF m 10 #[.val (.ref o0), .val (.int p1), .val (.int p2), .val (.int p3)] [(.int p3), (.int p1), (.ref o0)])) _
      refine XS.iadd X0.here hx rfl (hb hby d4_10) rfl ?_
      exact k)
    obtain ⟨cl4, Ar4, qa4, Sa4, Na4, Ha4, Ga4⟩ := V0
    have hin4 : ¬ ((p1 + p3) < 0 ∨ cl4.slots.size ≤ ((p1 + p3)).toNatClampNeg) := inb_of Sa4 (own_in hi (hlt hc1))
    have hat4 : cl4.slots[((p1 + p3)).toNatClampNeg]? = some (.int (f jn)) := Has.at Ha4 hin4 (own_rd hv hi (hlt hc1))
    have go5 := go3.step (C := s₁.setTop (mkF m 20 #[.val (.ref o0), .val (.int p1), .val (.int p2), .val (.int p3)] [(.int ((p2 - (1 : Int32)) - p3)), (.int ((f jn) - (48 : Int32)))])) (fun t k => by
      show Steps p.tables e below (s₁.setTop (mkF m 11 #[.val (.ref o0), .val (.int p1), .val (.int p2), .val (.int p3)] [(.int (p1 + p3)), (.ref o0)])) _
      refine X0.baloadBytes hx (j := (p1 + p3)) (v := (.int (f jn))) (by rw [e0]; exact Ar4.1) (State.isArrayOf_alike hZ.alike Ar4.2.1) Ar4.2.2 hin4 hat4 (g := (mkF m 11 #[.val (.ref o0), .val (.int p1), .val (.int p2), .val (.int p3)] [(.int (p1 + p3)), (.ref o0)])) rfl rfl (hb hby d4_11) _ ?_
      show Steps p.tables e below (s₁.setTop (mkF m 12 #[.val (.ref o0), .val (.int p1), .val (.int p2), .val (.int p3)] [(.int (f jn))])) _
      refine XS.bipush X0.here hx rfl (hb hby d4_12) ?_
      show Steps p.tables e below (s₁.setTop (mkF m 14 #[.val (.ref o0), .val (.int p1), .val (.int p2), .val (.int p3)] [(.int (48 : Int32)), (.int (f jn))])) _
      refine XS.isub X0.here hx rfl (hb hby d4_14) rfl ?_
      show Steps p.tables e below (s₁.setTop (mkF m 15 #[.val (.ref o0), .val (.int p1), .val (.int p2), .val (.int p3)] [(.int ((f jn) - (48 : Int32)))])) _
      refine XS.iloadN X0.here hx rfl (hb hby d4_15) rfl ?_
      show Steps p.tables e below (s₁.setTop (mkF m 16 #[.val (.ref o0), .val (.int p1), .val (.int p2), .val (.int p3)] [(.int p2), (.int ((f jn) - (48 : Int32)))])) _
      refine XS.iconst X0.here hx rfl (hb hby d4_16) ?_
      show Steps p.tables e below (s₁.setTop (mkF m 17 #[.val (.ref o0), .val (.int p1), .val (.int p2), .val (.int p3)] [(.int (1 : Int32)), (.int p2), (.int ((f jn) - (48 : Int32)))])) _
      refine XS.isub X0.here hx rfl (hb hby d4_17) rfl ?_
      show Steps p.tables e below (s₁.setTop (mkF m 18 #[.val (.ref o0), .val (.int p1), .val (.int p2), .val (.int p3)] [(.int (p2 - (1 : Int32))), (.int ((f jn) - (48 : Int32)))])) _
      refine XS.iloadN X0.here hx rfl (hb hby d4_18) rfl ?_
      show Steps p.tables e below (s₁.setTop (mkF m 19 #[.val (.ref o0), .val (.int p1), .val (.int p2), .val (.int p3)] [(.int p3), (.int (p2 - (1 : Int32))), (.int ((f jn) - (48 : Int32)))])) _
      refine XS.isub X0.here hx rfl (hb hby d4_19) rfl ?_
      exact k)
    obtain ⟨_, _, ⟨T6, L6, k6, n6⟩, -, X6, ⟨Lc6, hQ6, l6, y6, z6⟩, st6⟩ := Jvm.LawKit.callS X0 hx (y := (⟨"com/example/zemlja/zemlja/iso2709/Iso2709NumberPinLaw", "pow10", "(I)I"⟩ : MethodName)) hown (mvT hZ (hw _ (List.mem_of_getElem? (i := 16) rfl))) (mvT hZ (hw _ (List.mem_of_getElem? (i := 17) rfl))) (mvT hZ (hw _ (List.mem_of_getElem? (i := 3) rfl))) (mvT hZ (hw _ (List.mem_of_getElem? (i := 18) rfl))) (by decide) (backOf (W := 1) (rm5 l Z a0 hw [] ((p2 - (1 : Int32)) - p3) h0 n0 Z0 ) hZ (hw _ (List.mem_of_getElem? (i := 18) rfl)) (hw _ (List.mem_of_getElem? (i := 3) rfl)) (by decide) (by decide)) (g := (mkF m 20 #[.val (.ref o0), .val (.int p1), .val (.int p2), .val (.int p3)] [(.int ((p2 - (1 : Int32)) - p3)), (.int ((f jn) - (48 : Int32)))])) rfl (by rw [hml]; rfl) (argsL := [(.int ((p2 - (1 : Int32)) - p3))]) (rest := [(.int ((f jn) - (48 : Int32)))]) (lenOf pd4_0 rfl) rfl (by show 2 * 0 + _ ≤ _; exact Nat.le_of_eq rfl) (hb hby d4_20) (fun _ _ => ⟨rfl, e0, (by decide : 0 + 0 ≤ _), (by decide : 0 + 0 ≤ _)⟩)
    dsimp only [Pt.U, Pt.locs, Pt.cells, Pt.slots] at X6 l6 y6 z6 st6 hQ6
    rw [l6, y6, z6] at X6
    obtain ⟨rfl, N6q, e6⟩ := hQ6
    have N6 := Fr.app N0 N6q
    have go6 := go5.step (C := T6.setTop (mkF m 23 #[.val (.ref o0), .val (.int p1), .val (.int p2), .val (.int p3)] [(.int (own_p10 ((p2 - (1 : Int32)) - p3))), (.int ((f jn) - (48 : Int32)))])) (fun t k => st6 t k)
    have go7 := go6.step (C := T6.setTop (mkF m 24 #[.val (.ref o0), .val (.int p1), .val (.int p2), .val (.int p3)] [(.int (((f jn) - (48 : Int32)) * (own_p10 ((p2 - (1 : Int32)) - p3))))])) (fun t k => by
      show Steps p.tables e below (T6.setTop (mkF m 23 #[.val (.ref o0), .val (.int p1), .val (.int p2), .val (.int p3)] [(.int (own_p10 ((p2 - (1 : Int32)) - p3))), (.int ((f jn) - (48 : Int32)))])) _
      refine XS.imul X6.here hx rfl (hb hby d4_23) rfl ?_
      exact k)
    obtain ⟨fs, hr, hrun, hended, hW, hsame⟩ := X6.leave (v := some (.int (((f jn) - (48 : Int32)) * (own_p10 ((p2 - (1 : Int32)) - p3))))) (fun h => by rw [Bd.returns] at h; cases h)
    refine ⟨_, _, go7 _ ?_, hrun, hended, _, _, rfl, ?_, ⟨_, rfl⟩, hW, hsame.mono (by decide) (by decide)⟩
    · exact own_retI X6 hx Bd.returns (hb hby d4_24) hr
    · show Q_rm4 Z o0 p1 p2 p3 ka vs f jn h0 n0 _ T6.heap _
      rw [e6]
      exact ⟨by unfold own_term; simp only [if_pos hc1], N6, rfl⟩
  · skip
    have go8 := go2.step (C := s₁.setTop (mkF m 6 #[.val (.ref o0), .val (.int p1), .val (.int p2), .val (.int p3)] [(.int (0 : Int32))])) (fun t k => by
      show Steps p.tables e below (s₁.setTop (mkF m 2 #[.val (.ref o0), .val (.int p1), .val (.int p2), .val (.int p3)] [(.int p2), (.int p3)])) _
      refine XS.icmpNo X0.here hx rfl (hb hby d4_2) rfl (flt hc1).1 ?_
      show Steps p.tables e below (s₁.setTop (mkF m 5 #[.val (.ref o0), .val (.int p1), .val (.int p2), .val (.int p3)] [])) _
      refine XS.iconst X0.here hx rfl (hb hby d4_5) ?_
      exact k)
    obtain ⟨fs, hr, hrun, hended, hW, hsame⟩ := X0.leave (v := some (.int (0 : Int32))) (fun h => by rw [Bd.returns] at h; cases h)
    refine ⟨_, _, go8 _ ?_, hrun, hended, _, _, rfl, ?_, ⟨_, rfl⟩, hW, hsame.mono (by decide) (by decide)⟩
    · exact own_retI X0 hx Bd.returns (hb hby d4_6) hr
    · show Q_rm4 Z o0 p1 p2 p3 ka vs f jn h0 n0 _ s₁.heap _
      rw [e0]
      exact ⟨by unfold own_term; simp only [if_neg hc1], N0, rfl⟩
theorem own_mask (x : Int32) : 0 ≤ (x &&& (2147483647 : Int32)).toInt := by
  have h2 : (x &&& (2147483647 : Int32)).toBitVec.toNat ≤ 2147483647 := by
    show (x.toBitVec &&& (2147483647 : Int32).toBitVec).toNat ≤ _
    rw [BitVec.toNat_and]; exact Nat.and_le_right
  show 0 ≤ (x &&& (2147483647 : Int32)).toBitVec.toInt
  rw [BitVec.toInt_eq_toNat_cond, if_pos (by omega)]; omega
theorem own_zc {x z : Int32} (hz : z = (x &&& (2147483647 : Int32)) % (6 : Int32)) : 0 ≤ z.toInt ∧ z.toInt ≤ 5 := by
  have hm := own_mask x
  generalize x &&& (2147483647 : Int32) = y at *
  have h2 : z.toInt = y.toInt.tmod 6 := by rw [hz]; exact Int32.toInt_mod _ _
  rw [Int.tmod_eq_emod_of_nonneg hm] at h2
  omega
theorem own_8 {z : Int32} (h : 0 ≤ z.toInt ∧ z.toInt ≤ 5) : ((8 : Int32) - z).toInt = 8 - z.toInt := by
  have q := c_isub 8 z
  have r := rng32 (8 - z)
  have e : (8 : Int32).toInt = 8 := rfl
  rw [e] at q; omega
theorem own_nz {z : Int32} (h : 0 ≤ z.toInt ∧ z.toInt ≤ 5) : (8 : Int32) - z ≠ 0 := fun q => by
  have := own_8 h
  rw [q] at this
  have e : (0 : Int32).toInt = 0 := rfl
  omega
theorem own_zf {x z c : Int32} (h : 0 ≤ c.toInt ∧ c.toInt ≤ 5) (hz : z = (x &&& (2147483647 : Int32)) % ((8 : Int32) - c)) : 0 ≤ z.toInt ∧ z.toInt + c.toInt ≤ 7 := by
  have hm := own_mask x
  generalize x &&& (2147483647 : Int32) = y at *
  have h2 : z.toInt = y.toInt.tmod ((8 : Int32) - c).toInt := by rw [hz]; exact Int32.toInt_mod _ _
  rw [Int.tmod_eq_emod_of_nonneg hm, own_8 h] at h2
  have h3 := Int.emod_nonneg y.toInt (show (8 - c.toInt) ≠ 0 by omega)
  have h4 := Int.emod_lt_of_pos y.toInt (show 0 < 8 - c.toInt by omega)
  omega
def own_D (f : Nat → Int32) (j : Nat) : Prop := f j - (48 : Int32) < (0 : Int32) ∨ (9 : Int32) < f j - (48 : Int32)
theorem own_ok0 {p2 p3 : Int32} {f : Nat → Int32} {jn : Nat} : own_ok p2 p3 f jn = (0 : Int32) ↔ p3 < p2 ∧ own_D f jn := by
  unfold own_ok own_D
  by_cases h1 : p3 < p2
  · rw [if_pos h1]
    by_cases h2 : f jn - (48 : Int32) < (0 : Int32)
    · rw [if_pos h2]; simp [h1, h2]
    · rw [if_neg h2]
      by_cases h3 : (9 : Int32) < f jn - (48 : Int32)
      · rw [if_pos h3]; simp [h1, h3]
      · rw [if_neg h3]; simp [h1, h2, h3]
  · rw [if_neg h1]; simp [h1]
theorem own_num_bad {f : Nat → Int32} : ∀ (k j i : Nat) (acc : Int32), i < k → own_D f (j + i) → (∀ m, m < i → ¬ own_D f (j + m)) → own_num f j k acc = (-1 : Int32)
  | 0, _, _, _, h, _, _ => absurd h (Nat.not_lt_zero _)
  | k + 1, j, i, acc, h, hd, hg => by
    simp only [own_num]
    by_cases h1 : f j - (48 : Int32) < (0 : Int32)
    · rw [if_pos h1]
    · rw [if_neg h1]
      by_cases h2 : (9 : Int32) < f j - (48 : Int32)
      · rw [if_pos h2]
      · rw [if_neg h2]
        match i with
        | 0 => exact absurd hd (by simp only [own_D, Nat.add_zero]; intro q; exact q.elim h1 h2)
        | i + 1 => exact own_num_bad k (j + 1) i _ (by omega) (by rw [show j + 1 + i = j + (i + 1) by omega]; exact hd) (fun m hm => by rw [show j + 1 + m = j + (m + 1) by omega]; exact hg (m + 1) (by omega))
theorem own_num_good {f : Nat → Int32} (k j : Nat) (acc : Int32) (h : ¬ own_D f j) : own_num f j (k + 1) acc = own_num f (j + 1) k (acc * (10 : Int32) + (f j - (48 : Int32))) := by
  simp only [own_num]
  rw [if_neg (fun q => h (Or.inl q)), if_neg (fun q => h (Or.inr q))]
theorem own_t1 {p2 p3 : Int32} {f : Nat → Int32} {jn : Nat} (h : p3 < p2) : own_term p2 p3 f jn = (f jn - (48 : Int32)) * own_p10 (p2 - (1 : Int32) - p3) := by
  unfold own_term; rw [if_pos h]
theorem own_t0 {p2 p3 : Int32} {f : Nat → Int32} {jn : Nat} (h : ¬ p3 < p2) : own_term p2 p3 f jn = (0 : Int32) := by
  unfold own_term; rw [if_neg h]
theorem own_sum {c : Int32} {f : Nat → Int32} {fn cn : Nat} (hc : c.toInt = (cn : Int)) (h5 : cn ≤ 5) (h0 : ¬ own_ok c (0 : Int32) f fn = 0) (h1 : ¬ own_ok c (1 : Int32) f (fn + 1) = 0) (h2 : ¬ own_ok c (2 : Int32) f (fn + 2) = 0) (h3 : ¬ own_ok c (3 : Int32) f (fn + 3) = 0) (h4 : ¬ own_ok c (4 : Int32) f (fn + 4) = 0) :
    own_num f fn cn (0 : Int32) = own_term c (0 : Int32) f fn + own_term c (1 : Int32) f (fn + 1) + own_term c (2 : Int32) f (fn + 2) + own_term c (3 : Int32) f (fn + 3) + own_term c (4 : Int32) f (fn + 4) := by
  rw [own_ok0] at h0 h1 h2 h3 h4
  have hcc : c = Int32.ofNat cn := by
    apply Int32.toInt_inj.mp
    rw [hc, Int32.toInt_ofNat_small (by omega)]
  subst hcc
  match cn, h5 with
  | 0, _ =>
    rw [own_t0 (by decide), own_t0 (by decide), own_t0 (by decide), own_t0 (by decide), own_t0 (by decide)]; rfl
  | 1, _ =>
    have g0 : ¬ own_D f (fn) := fun q => h0 ⟨by decide, q⟩
    rw [own_num_good _ _ _ g0]
    rw [own_t1 (by decide), own_t0 (by decide), own_t0 (by decide), own_t0 (by decide), own_t0 (by decide)]
    simp only [own_num]
    rw [show own_p10 (Int32.ofNat 1 - (1 : Int32) - (0 : Int32)) = (1 : Int32) from by decide +kernel]
    generalize f (fn) = a0
    clear h0 h1 h2 h3 h4 hc
    clear g0
    grind
  | 2, _ =>
    have g0 : ¬ own_D f (fn) := fun q => h0 ⟨by decide, q⟩
    have g1 : ¬ own_D f (fn + 1) := fun q => h1 ⟨by decide, q⟩
    rw [own_num_good _ _ _ g0]
    rw [own_num_good _ _ _ g1]
    rw [own_t1 (by decide), own_t1 (by decide), own_t0 (by decide), own_t0 (by decide), own_t0 (by decide)]
    simp only [own_num]
    rw [show own_p10 (Int32.ofNat 2 - (1 : Int32) - (0 : Int32)) = (10 : Int32) from by decide +kernel]
    rw [show own_p10 (Int32.ofNat 2 - (1 : Int32) - (1 : Int32)) = (1 : Int32) from by decide +kernel]
    generalize f (fn) = a0
    generalize f (fn + 1) = a1
    clear h0 h1 h2 h3 h4 hc
    clear g0 g1
    grind
  | 3, _ =>
    have g0 : ¬ own_D f (fn) := fun q => h0 ⟨by decide, q⟩
    have g1 : ¬ own_D f (fn + 1) := fun q => h1 ⟨by decide, q⟩
    have g2 : ¬ own_D f (fn + 2) := fun q => h2 ⟨by decide, q⟩
    rw [own_num_good _ _ _ g0]
    rw [own_num_good _ _ _ g1]
    rw [own_num_good _ _ _ g2]
    rw [own_t1 (by decide), own_t1 (by decide), own_t1 (by decide), own_t0 (by decide), own_t0 (by decide)]
    simp only [own_num]
    rw [show own_p10 (Int32.ofNat 3 - (1 : Int32) - (0 : Int32)) = (100 : Int32) from by decide +kernel]
    rw [show own_p10 (Int32.ofNat 3 - (1 : Int32) - (1 : Int32)) = (10 : Int32) from by decide +kernel]
    rw [show own_p10 (Int32.ofNat 3 - (1 : Int32) - (2 : Int32)) = (1 : Int32) from by decide +kernel]
    generalize f (fn) = a0
    generalize f (fn + 1) = a1
    generalize f (fn + 2) = a2
    clear h0 h1 h2 h3 h4 hc
    clear g0 g1 g2
    grind
  | 4, _ =>
    have g0 : ¬ own_D f (fn) := fun q => h0 ⟨by decide, q⟩
    have g1 : ¬ own_D f (fn + 1) := fun q => h1 ⟨by decide, q⟩
    have g2 : ¬ own_D f (fn + 2) := fun q => h2 ⟨by decide, q⟩
    have g3 : ¬ own_D f (fn + 3) := fun q => h3 ⟨by decide, q⟩
    rw [own_num_good _ _ _ g0]
    rw [own_num_good _ _ _ g1]
    rw [own_num_good _ _ _ g2]
    rw [own_num_good _ _ _ g3]
    rw [own_t1 (by decide), own_t1 (by decide), own_t1 (by decide), own_t1 (by decide), own_t0 (by decide)]
    simp only [own_num]
    rw [show own_p10 (Int32.ofNat 4 - (1 : Int32) - (0 : Int32)) = (1000 : Int32) from by decide +kernel]
    rw [show own_p10 (Int32.ofNat 4 - (1 : Int32) - (1 : Int32)) = (100 : Int32) from by decide +kernel]
    rw [show own_p10 (Int32.ofNat 4 - (1 : Int32) - (2 : Int32)) = (10 : Int32) from by decide +kernel]
    rw [show own_p10 (Int32.ofNat 4 - (1 : Int32) - (3 : Int32)) = (1 : Int32) from by decide +kernel]
    generalize f (fn) = a0
    generalize f (fn + 1) = a1
    generalize f (fn + 2) = a2
    generalize f (fn + 3) = a3
    clear h0 h1 h2 h3 h4 hc
    clear g0 g1 g2 g3
    grind
  | 5, _ =>
    have g0 : ¬ own_D f (fn) := fun q => h0 ⟨by decide, q⟩
    have g1 : ¬ own_D f (fn + 1) := fun q => h1 ⟨by decide, q⟩
    have g2 : ¬ own_D f (fn + 2) := fun q => h2 ⟨by decide, q⟩
    have g3 : ¬ own_D f (fn + 3) := fun q => h3 ⟨by decide, q⟩
    have g4 : ¬ own_D f (fn + 4) := fun q => h4 ⟨by decide, q⟩
    rw [own_num_good _ _ _ g0]
    rw [own_num_good _ _ _ g1]
    rw [own_num_good _ _ _ g2]
    rw [own_num_good _ _ _ g3]
    rw [own_num_good _ _ _ g4]
    rw [own_t1 (by decide), own_t1 (by decide), own_t1 (by decide), own_t1 (by decide), own_t1 (by decide)]
    simp only [own_num]
    rw [show own_p10 (Int32.ofNat 5 - (1 : Int32) - (0 : Int32)) = (10000 : Int32) from by decide +kernel]
    rw [show own_p10 (Int32.ofNat 5 - (1 : Int32) - (1 : Int32)) = (1000 : Int32) from by decide +kernel]
    rw [show own_p10 (Int32.ofNat 5 - (1 : Int32) - (2 : Int32)) = (100 : Int32) from by decide +kernel]
    rw [show own_p10 (Int32.ofNat 5 - (1 : Int32) - (3 : Int32)) = (10 : Int32) from by decide +kernel]
    rw [show own_p10 (Int32.ofNat 5 - (1 : Int32) - (4 : Int32)) = (1 : Int32) from by decide +kernel]
    generalize f (fn) = a0
    generalize f (fn + 1) = a1
    generalize f (fn + 2) = a2
    generalize f (fn + 3) = a3
    generalize f (fn + 4) = a4
    clear h0 h1 h2 h3 h4 hc
    clear g0 g1 g2 g3 g4
    grind
  | n + 6, h => exact absurd h (by omega)
theorem own_bad {c : Int32} {f : Nat → Int32} {fn cn : Nat} (hc : c.toInt = (cn : Int)) (i : Nat) {li : Int32} (hli : li.toInt = (i : Int)) (h : own_ok c li f (fn + i) = (0 : Int32)) (hp : ∀ m, m < i → ∀ lm : Int32, lm.toInt = (m : Int) → ¬ own_ok c lm f (fn + m) = (0 : Int32)) (hi : i < 5) : own_num f fn cn (0 : Int32) = (-1 : Int32) := by
  rw [own_ok0, Int32.lt_iff_toInt_lt] at h
  refine own_num_bad cn fn i 0 (by omega) h.2 fun m hm hd => ?_
  have e : (Int32.ofNat m).toInt = (m : Int) := Int32.toInt_ofNat_small (by omega)
  exact hp m hm (Int32.ofNat m) e (own_ok0.mpr ⟨by rw [Int32.lt_iff_toInt_lt, e]; omega, hd⟩)
theorem own_lm {lm : Int32} {m : Nat} {z : Int32} (h : lm.toInt = (m : Int)) (hz : z.toInt = (m : Int)) : lm = z := Int32.toInt_inj.mp (h.trans hz.symm)
theorem own_bad0 {c : Int32} {f : Nat → Int32} {fn cn : Nat} (hc : c.toInt = (cn : Int))  (h : own_ok c (0 : Int32) f (fn) = (0 : Int32)) : own_num f fn cn (0 : Int32) = (-1 : Int32) := by
  refine own_bad hc 0 (li := (0 : Int32)) rfl h (fun m hm lm hl => ?_) (by decide)
  match m, hm with
  | n + 0, hm => exact absurd hm (by omega)
theorem own_bad1 {c : Int32} {f : Nat → Int32} {fn cn : Nat} (hc : c.toInt = (cn : Int)) (h0 : ¬ own_ok c (0 : Int32) f (fn) = (0 : Int32)) (h : own_ok c (1 : Int32) f (fn + 1) = (0 : Int32)) : own_num f fn cn (0 : Int32) = (-1 : Int32) := by
  refine own_bad hc 1 (li := (1 : Int32)) rfl h (fun m hm lm hl => ?_) (by decide)
  match m, hm with
  | 0, _ => rw [own_lm (z := (0 : Int32)) hl rfl]; exact h0
  | n + 1, hm => exact absurd hm (by omega)
theorem own_bad2 {c : Int32} {f : Nat → Int32} {fn cn : Nat} (hc : c.toInt = (cn : Int)) (h0 : ¬ own_ok c (0 : Int32) f (fn) = (0 : Int32)) (h1 : ¬ own_ok c (1 : Int32) f (fn + 1) = (0 : Int32)) (h : own_ok c (2 : Int32) f (fn + 2) = (0 : Int32)) : own_num f fn cn (0 : Int32) = (-1 : Int32) := by
  refine own_bad hc 2 (li := (2 : Int32)) rfl h (fun m hm lm hl => ?_) (by decide)
  match m, hm with
  | 0, _ => rw [own_lm (z := (0 : Int32)) hl rfl]; exact h0
  | 1, _ => rw [own_lm (z := (1 : Int32)) hl rfl]; exact h1
  | n + 2, hm => exact absurd hm (by omega)
theorem own_bad3 {c : Int32} {f : Nat → Int32} {fn cn : Nat} (hc : c.toInt = (cn : Int)) (h0 : ¬ own_ok c (0 : Int32) f (fn) = (0 : Int32)) (h1 : ¬ own_ok c (1 : Int32) f (fn + 1) = (0 : Int32)) (h2 : ¬ own_ok c (2 : Int32) f (fn + 2) = (0 : Int32)) (h : own_ok c (3 : Int32) f (fn + 3) = (0 : Int32)) : own_num f fn cn (0 : Int32) = (-1 : Int32) := by
  refine own_bad hc 3 (li := (3 : Int32)) rfl h (fun m hm lm hl => ?_) (by decide)
  match m, hm with
  | 0, _ => rw [own_lm (z := (0 : Int32)) hl rfl]; exact h0
  | 1, _ => rw [own_lm (z := (1 : Int32)) hl rfl]; exact h1
  | 2, _ => rw [own_lm (z := (2 : Int32)) hl rfl]; exact h2
  | n + 3, hm => exact absurd hm (by omega)
theorem own_bad4 {c : Int32} {f : Nat → Int32} {fn cn : Nat} (hc : c.toInt = (cn : Int)) (h0 : ¬ own_ok c (0 : Int32) f (fn) = (0 : Int32)) (h1 : ¬ own_ok c (1 : Int32) f (fn + 1) = (0 : Int32)) (h2 : ¬ own_ok c (2 : Int32) f (fn + 2) = (0 : Int32)) (h3 : ¬ own_ok c (3 : Int32) f (fn + 3) = (0 : Int32)) (h : own_ok c (4 : Int32) f (fn + 4) = (0 : Int32)) : own_num f fn cn (0 : Int32) = (-1 : Int32) := by
  refine own_bad hc 4 (li := (4 : Int32)) rfl h (fun m hm lm hl => ?_) (by decide)
  match m, hm with
  | 0, _ => rw [own_lm (z := (0 : Int32)) hl rfl]; exact h0
  | 1, _ => rw [own_lm (z := (1 : Int32)) hl rfl]; exact h1
  | 2, _ => rw [own_lm (z := (2 : Int32)) hl rfl]; exact h2
  | 3, _ => rw [own_lm (z := (3 : Int32)) hl rfl]; exact h3
  | n + 4, hm => exact absurd hm (by omega)
def own_f (a : Int64) (m : Int32) (j : Nat) : Int32 := nar .byte (own_ba a m (Int32.ofNat j))
theorem own_hv (a : Int64) (m : Int32) : own_Vs [(.int (nar .byte (own_ba a m (0 : Int32)))), (.int (nar .byte (own_ba a m (1 : Int32)))), (.int (nar .byte (own_ba a m (2 : Int32)))), (.int (nar .byte (own_ba a m (3 : Int32)))), (.int (nar .byte (own_ba a m (4 : Int32)))), (.int (nar .byte (own_ba a m (5 : Int32)))), (.int (nar .byte (own_ba a m (6 : Int32))))] (own_f a m) := fun j hj => by
  match j, hj with
  | 0, _ => rfl
  | 1, _ => rfl
  | 2, _ => rfl
  | 3, _ => rfl
  | 4, _ => rfl
  | 5, _ => rfl
  | 6, _ => rfl
  | n + 7, h => exact absurd h (by omega)
theorem own_hi {z c li : Int32} {fn cn i : Nat} (hf : z.toInt = (fn : Int)) (hc : c.toInt = (cn : Int)) (hle : fn + cn ≤ 7) (hl : li.toInt = (i : Int)) (h5 : i < 5) : (z + li).toInt = ((fn + i : Nat) : Int) ∧ (li < c → fn + i < 7) := by
  have q := c_iadd z li
  have r := rng32 (z + li)
  refine ⟨by omega, fun h => ?_⟩
  rw [Int32.lt_iff_toInt_lt] at h; omega
theorem pn_rm0 : plainName "com/example/zemlja/zemlja/iso2709/Iso2709NumberPinLaw" = true := by first | (simp [plainName, overriddenIn]; done) | decide +kernel
theorem pd0_0 : parseMethodDescriptor "(JII)B" = some ⟨[.long, .int, .int], some .byte⟩ := by decide +kernel
theorem pd0_1 : parseMethodDescriptor "([BIII)Z" = some ⟨[(.array .byte), .int, .int, .int], some .boolean⟩ := by decide +kernel
theorem pd0_2 : parseMethodDescriptor "([BII)I" = some ⟨[(.array .byte), .int, .int], some .int⟩ := by decide +kernel
theorem pd0_3 : parseMethodDescriptor "([BIII)I" = some ⟨[(.array .byte), .int, .int, .int], some .int⟩ := by decide +kernel
theorem ef_rm0 (m : MethodId) (q0 : Int64) (p1 : Int32) (p2 : Int32) (p3 : Int32) : entryFrame m #[(.long q0), (.int p1), (.int p2), (.int p3)] maxLocals = mkF m 0 #[.val (.long q0), .second, .val (.int p1), .val (.int p2), .val (.int p3), .unset, .unset, .unset, .unset, .unset, .unset] [] := by first | (simp [entryFrame, mkF, argsToLocals, Value.category, maxLocals]; done) | rfl
def Q_rm0 (Z : State) (q0 : Int64) (p1 : Int32) (p2 : Int32) (p3 : Int32) (h0 : Heap) (n0 : Nat) (v : Option Value) (h : Heap) (L : List Loc) : Prop := v = some (.int (1 : Int32)) ∧ Fr n0 L
set_option maxRecDepth 65536 in
set_option maxHeartbeats 40000000 in
theorem rm0 (l : Launch) (Z : State) (a0 : Array Value) (hw : ∀ d ∈ tables_1, d.before a0 Z = true) (ws : List Jvm.Cond) (q0 : Int64) (p1 : Int32) (p2 : Int32) (p3 : Int32) (h0 : Heap) (n0 : Nat) (Z0 : n0 ≤ h0.size) :
    MetFree l x (head1 (Jvm.Cond.code x code maxLocals ret :: ws) room_1) (fun a U => a = #[(.long q0), (.int p1), (.int p2), (.int p3)] ∧ Z.Warmed39 U.vm ∧ U.heap = h0) (fun _ _ _ _ _ => True) (fun _ U o U' => ∃ v L, o = .returned v ∧ Q_rm0 Z q0 p1 p2 p3 h0 n0 v U'.heap L ∧ FrameEnd U o U' L room_1.cells room_1.slots) := by
  refine MetFree.of_bodySF (plainFor_of_name pn_rm0) hisR ?_
  intro p e s m args below meth c s₁ Bd hml0 hP hK
  obtain ⟨rfl, hZ, hh⟩ := hP
  have hx := Bd.exec
  have hby := Bd.bytes
  have hml : c.maxLocals = 11 := hml0
  have hown : s.vm.findClass "com/example/zemlja/zemlja/iso2709/Iso2709NumberPinLaw" = some m.cls := findClass_of_methodNamed Bd.named
  have hnm := (name_of_methodNamed Bd.named Bd.method).1
  have X0 : Stand p l e room_1 s m #[(.long q0), (.int p1), (.int p2), (.int p3)] below meth c s₁ [] 0 0 := Stand.of_body Bd
  have e0 : s₁.heap = h0 := by rw [← hh, Bd.state]; rfl
  have N0 := Fr.nil n0
  have K0 := Keep.refl h0 []
  have go0 : Go p e below (s₁.setTop (entryFrame m #[(.long q0), (.int p1), (.int p2), (.int p3)] maxLocals)) (s₁.setTop (mkF m 0 #[.val (.long q0), .second, .val (.int p1), .val (.int p2), .val (.int p3), .unset, .unset, .unset, .unset, .unset, .unset] [])) := fun t k => castTop (ef_rm0 m q0 p1 p2 p3) k
  have go1 := go0.step (C := s₁.setTop (mkF m 2 #[.val (.long q0), .second, .val (.int p1), .val (.int p2), .val (.int p3), .unset, .unset, .unset, .unset, .unset, .unset] [(.int (7 : Int32))])) (fun t k => by
    show Steps p.tables e below (s₁.setTop (mkF m 0 #[.val (.long q0), .second, .val (.int p1), .val (.int p2), .val (.int p3), .unset, .unset, .unset, .unset, .unset, .unset] [])) _
    refine XS.bipush X0.here hx rfl (hb hby at_0) ?_
    exact k)
  obtain ⟨T2, h2, k2, X2, e2, E2, A2, st2⟩ := newP X0 hx hZ (hw _ (List.mem_of_getElem? (i := 0) rfl)) e0 (g := (mkF m 2 #[.val (.long q0), .second, .val (.int p1), .val (.int p2), .val (.int p3), .unset, .unset, .unset, .unset, .unset, .unset] [(.int (7 : Int32))])) rfl (hb hby at_2) rfl (by decide) (cap := 7) (by decide) (by decide) (by decide) (by decide)
  obtain ⟨b2, g2⟩ : ∃ z, z = h0.size := ⟨_, rfl⟩
  rw [← g2] at A2 st2
  have g_b2 : n0 ≤ b2 := Nat.le_trans Z0 (Nat.le_of_eq g2.symm)
  have sz_b2 : h0.size ≤ b2 := Nat.le_trans K0.1 (Nat.le_of_eq g2.symm)
  have V2 : Arv Z h2 b2 k2 .byte (7 : Int32) [(.int (0 : Int32)), (.int (0 : Int32)), (.int (0 : Int32)), (.int (0 : Int32)), (.int (0 : Int32)), (.int (0 : Int32)), (.int (0 : Int32))] (.int (0 : Int32)) := (Arv.new A2 (by decide)).pad (pad_rep [] (.int (0 : Int32)) 7)
  have Z2 : n0 ≤ h2.size := Nat.le_trans Z0 E2.1
  have K2 := K0.ext E2
  have go2 := go1.step (C := T2.setTop (mkF m 4 #[.val (.long q0), .second, .val (.int p1), .val (.int p2), .val (.int p3), .unset, .unset, .unset, .unset, .unset, .unset] [(.ref b2)])) (fun t k => st2 t k)
  have go3 := go2.step (C := T2.setTop (mkF m 12 #[.val (.long q0), .second, .val (.int p1), .val (.int p2), .val (.int p3), .val (.ref b2), .unset, .unset, .unset, .unset, .unset] [(.int (0 : Int32)), (.int p1), (.long q0), (.int (0 : Int32)), (.ref b2)])) (fun t k => by
    show Steps p.tables e below (T2.setTop (mkF m 4 #[.val (.long q0), .second, .val (.int p1), .val (.int p2), .val (.int p3), .unset, .unset, .unset, .unset, .unset, .unset] [(.ref b2)])) _
    refine XS.astore X2.here hx rfl (hb hby at_4) rfl rfl (l' := #[.val (.long q0), .second, .val (.int p1), .val (.int p2), .val (.int p3), .val (.ref b2), .unset, .unset, .unset, .unset, .unset]) rfl ?_
    show Steps p.tables e below (T2.setTop (mkF m 6 #[.val (.long q0), .second, .val (.int p1), .val (.int p2), .val (.int p3), .val (.ref b2), .unset, .unset, .unset, .unset, .unset] [])) _
    refine XS.aload X2.here hx rfl (hb hby at_6) rfl rfl ?_
    show Steps p.tables e below (T2.setTop (mkF m 8 #[.val (.long q0), .second, .val (.int p1), .val (.int p2), .val (.int p3), .val (.ref b2), .unset, .unset, .unset, .unset, .unset] [(.ref b2)])) _
    refine XS.iconst X2.here hx rfl (hb hby at_8) ?_
    show Steps p.tables e below (T2.setTop (mkF m 9 #[.val (.long q0), .second, .val (.int p1), .val (.int p2), .val (.int p3), .val (.ref b2), .unset, .unset, .unset, .unset, .unset] [(.int (0 : Int32)), (.ref b2)])) _
    refine XS.lloadN X2.here hx rfl (hb hby at_9) rfl ?_
    show Steps p.tables e below (T2.setTop (mkF m 10 #[.val (.long q0), .second, .val (.int p1), .val (.int p2), .val (.int p3), .val (.ref b2), .unset, .unset, .unset, .unset, .unset] [(.long q0), (.int (0 : Int32)), (.ref b2)])) _
    refine XS.iloadN X2.here hx rfl (hb hby at_10) rfl ?_
    show Steps p.tables e below (T2.setTop (mkF m 11 #[.val (.long q0), .second, .val (.int p1), .val (.int p2), .val (.int p3), .val (.ref b2), .unset, .unset, .unset, .unset, .unset] [(.int p1), (.long q0), (.int (0 : Int32)), (.ref b2)])) _
    refine XS.iconst X2.here hx rfl (hb hby at_11) ?_
    exact k)
  obtain ⟨_, _, ⟨T4, L4, k4, n4⟩, -, X4, ⟨Lc4, hQ4, l4, y4, z4⟩, st4⟩ := Jvm.LawKit.callS X2 hx (y := (⟨"com/example/zemlja/zemlja/iso2709/Iso2709NumberPinLaw", "byteAt", "(JII)B"⟩ : MethodName)) hown (mvT hZ (hw _ (List.mem_of_getElem? (i := 1) rfl))) (mvT hZ (hw _ (List.mem_of_getElem? (i := 2) rfl))) (mvT hZ (hw _ (List.mem_of_getElem? (i := 3) rfl))) (mvT hZ (hw _ (List.mem_of_getElem? (i := 4) rfl))) (by decide) (backOf (W := 2) (rm1 l Z a0 hw [] q0 p1 (0 : Int32) h2 n0 Z2 ) hZ (hw _ (List.mem_of_getElem? (i := 4) rfl)) (hw _ (List.mem_of_getElem? (i := 3) rfl)) (by decide) (by decide)) (g := (mkF m 12 #[.val (.long q0), .second, .val (.int p1), .val (.int p2), .val (.int p3), .val (.ref b2), .unset, .unset, .unset, .unset, .unset] [(.int (0 : Int32)), (.int p1), (.long q0), (.int (0 : Int32)), (.ref b2)])) rfl (by rw [hml]; rfl) (argsL := [(.long q0), (.int p1), (.int (0 : Int32))]) (rest := [(.int (0 : Int32)), (.ref b2)]) (lenOf pd0_0 rfl) rfl (by show 2 * 0 + _ ≤ _; exact Nat.le_of_eq rfl) (hb hby at_12) (fun _ _ => ⟨rfl, e2, (by decide : 1 + 0 ≤ _), (by decide : 7 + 0 ≤ _)⟩)
  dsimp only [Pt.U, Pt.locs, Pt.cells, Pt.slots] at X4 l4 y4 z4 st4 hQ4
  rw [l4, y4, z4] at X4
  obtain ⟨rfl, N4q, e4⟩ := hQ4
  have N4 := Fr.app N0 N4q
  have go4 := go3.step (C := T4.setTop (mkF m 15 #[.val (.long q0), .second, .val (.int p1), .val (.int p2), .val (.int p3), .val (.ref b2), .unset, .unset, .unset, .unset, .unset] [(.int (own_ba q0 p1 (0 : Int32))), (.int (0 : Int32)), (.ref b2)])) (fun t k => st4 t k)
  obtain ⟨cl5, Ar5, qa5, Sa5, Na5, Ha5, Ga5⟩ := V2
  have hin5 : ¬ ((0 : Int32) < 0 ∨ cl5.slots.size ≤ ((0 : Int32)).toNatClampNeg) := inb_of Sa5 ⟨by decide, by decide⟩
  obtain ⟨T6, h6, X6, e6, W6, st6⟩ := stB X4 hx hZ e4 Ar5 (j := (0 : Int32)) hin5 (g := (mkF m 15 #[.val (.long q0), .second, .val (.int p1), .val (.int p2), .val (.int p3), .val (.ref b2), .unset, .unset, .unset, .unset, .unset] [(.int (own_ba q0 p1 (0 : Int32))), (.int (0 : Int32)), (.ref b2)])) rfl rfl (hb hby at_15)
  have V6 : Arv Z h6 b2 k2 .byte (7 : Int32) [(.int (nar .byte (own_ba q0 p1 (0 : Int32)))), (.int (0 : Int32)), (.int (0 : Int32)), (.int (0 : Int32)), (.int (0 : Int32)), (.int (0 : Int32)), (.int (0 : Int32))] (.int (0 : Int32)) := Arv.set Ar5 qa5 Sa5 Na5 Ha5 Ga5 (fits_nar_byte _) W6 0 rfl (Nat.le_of_ble_eq_true rfl)
  have Z6 : n0 ≤ h6.size := Nat.le_trans Z2 (Nat.le_of_eq W6.size.symm)
  have K6 := K2.wr W6 (Or.inr sz_b2)
  have N6 := Fr.snoc X6 N4 g_b2
  have go6 := go4.step (C := T6.setTop (mkF m 16 #[.val (.long q0), .second, .val (.int p1), .val (.int p2), .val (.int p3), .val (.ref b2), .unset, .unset, .unset, .unset, .unset] [])) (fun t k => st6 t k)
  have go8 := go6.step (C := T6.setTop (mkF m 22 #[.val (.long q0), .second, .val (.int p1), .val (.int p2), .val (.int p3), .val (.ref b2), .unset, .unset, .unset, .unset, .unset] [(.int (1 : Int32)), (.int p1), (.long q0), (.int (1 : Int32)), (.ref b2)])) (fun t k => by
    show Steps p.tables e below (T6.setTop (mkF m 16 #[.val (.long q0), .second, .val (.int p1), .val (.int p2), .val (.int p3), .val (.ref b2), .unset, .unset, .unset, .unset, .unset] [])) _
    refine XS.aload X6.here hx rfl (hb hby at_16) rfl rfl ?_
    show Steps p.tables e below (T6.setTop (mkF m 18 #[.val (.long q0), .second, .val (.int p1), .val (.int p2), .val (.int p3), .val (.ref b2), .unset, .unset, .unset, .unset, .unset] [(.ref b2)])) _
    refine XS.iconst X6.here hx rfl (hb hby at_18) ?_
    show Steps p.tables e below (T6.setTop (mkF m 19 #[.val (.long q0), .second, .val (.int p1), .val (.int p2), .val (.int p3), .val (.ref b2), .unset, .unset, .unset, .unset, .unset] [(.int (1 : Int32)), (.ref b2)])) _
    refine XS.lloadN X6.here hx rfl (hb hby at_19) rfl ?_
    show Steps p.tables e below (T6.setTop (mkF m 20 #[.val (.long q0), .second, .val (.int p1), .val (.int p2), .val (.int p3), .val (.ref b2), .unset, .unset, .unset, .unset, .unset] [(.long q0), (.int (1 : Int32)), (.ref b2)])) _
    refine XS.iloadN X6.here hx rfl (hb hby at_20) rfl ?_
    show Steps p.tables e below (T6.setTop (mkF m 21 #[.val (.long q0), .second, .val (.int p1), .val (.int p2), .val (.int p3), .val (.ref b2), .unset, .unset, .unset, .unset, .unset] [(.int p1), (.long q0), (.int (1 : Int32)), (.ref b2)])) _
    refine XS.iconst X6.here hx rfl (hb hby at_21) ?_
    exact k)
  obtain ⟨_, _, ⟨T9, L9, k9, n9⟩, -, X9, ⟨Lc9, hQ9, l9, y9, z9⟩, st9⟩ := Jvm.LawKit.callS X6 hx (y := (⟨"com/example/zemlja/zemlja/iso2709/Iso2709NumberPinLaw", "byteAt", "(JII)B"⟩ : MethodName)) hown (mvT hZ (hw _ (List.mem_of_getElem? (i := 1) rfl))) (mvT hZ (hw _ (List.mem_of_getElem? (i := 2) rfl))) (mvT hZ (hw _ (List.mem_of_getElem? (i := 3) rfl))) (mvT hZ (hw _ (List.mem_of_getElem? (i := 4) rfl))) (by decide) (backOf (W := 2) (rm1 l Z a0 hw [] q0 p1 (1 : Int32) h6 n0 Z6 ) hZ (hw _ (List.mem_of_getElem? (i := 4) rfl)) (hw _ (List.mem_of_getElem? (i := 3) rfl)) (by decide) (by decide)) (g := (mkF m 22 #[.val (.long q0), .second, .val (.int p1), .val (.int p2), .val (.int p3), .val (.ref b2), .unset, .unset, .unset, .unset, .unset] [(.int (1 : Int32)), (.int p1), (.long q0), (.int (1 : Int32)), (.ref b2)])) rfl (by rw [hml]; rfl) (argsL := [(.long q0), (.int p1), (.int (1 : Int32))]) (rest := [(.int (1 : Int32)), (.ref b2)]) (lenOf pd0_0 rfl) rfl (by show 2 * 0 + _ ≤ _; exact Nat.le_of_eq rfl) (hb hby at_22) (fun _ _ => ⟨rfl, e6, (by decide : 1 + 0 ≤ _), (by decide : 7 + 0 ≤ _)⟩)
  dsimp only [Pt.U, Pt.locs, Pt.cells, Pt.slots] at X9 l9 y9 z9 st9 hQ9
  rw [l9, y9, z9] at X9
  obtain ⟨rfl, N9q, e9⟩ := hQ9
  have N9 := Fr.app N6 N9q
  have go9 := go8.step (C := T9.setTop (mkF m 25 #[.val (.long q0), .second, .val (.int p1), .val (.int p2), .val (.int p3), .val (.ref b2), .unset, .unset, .unset, .unset, .unset] [(.int (own_ba q0 p1 (1 : Int32))), (.int (1 : Int32)), (.ref b2)])) (fun t k => st9 t k)
  obtain ⟨cl10, Ar10, qa10, Sa10, Na10, Ha10, Ga10⟩ := V6
  have hin10 : ¬ ((1 : Int32) < 0 ∨ cl10.slots.size ≤ ((1 : Int32)).toNatClampNeg) := inb_of Sa10 ⟨by decide, by decide⟩
  obtain ⟨T11, h11, X11, e11, W11, st11⟩ := stB X9 hx hZ e9 Ar10 (j := (1 : Int32)) hin10 (g := (mkF m 25 #[.val (.long q0), .second, .val (.int p1), .val (.int p2), .val (.int p3), .val (.ref b2), .unset, .unset, .unset, .unset, .unset] [(.int (own_ba q0 p1 (1 : Int32))), (.int (1 : Int32)), (.ref b2)])) rfl rfl (hb hby at_25)
  have V11 : Arv Z h11 b2 k2 .byte (7 : Int32) [(.int (nar .byte (own_ba q0 p1 (0 : Int32)))), (.int (nar .byte (own_ba q0 p1 (1 : Int32)))), (.int (0 : Int32)), (.int (0 : Int32)), (.int (0 : Int32)), (.int (0 : Int32)), (.int (0 : Int32))] (.int (0 : Int32)) := Arv.set Ar10 qa10 Sa10 Na10 Ha10 Ga10 (fits_nar_byte _) W11 1 rfl (Nat.le_of_ble_eq_true rfl)
  have Z11 : n0 ≤ h11.size := Nat.le_trans Z6 (Nat.le_of_eq W11.size.symm)
  have K11 := K6.wr W11 (Or.inr sz_b2)
  have N11 := Fr.snoc X11 N9 g_b2
  have go11 := go9.step (C := T11.setTop (mkF m 26 #[.val (.long q0), .second, .val (.int p1), .val (.int p2), .val (.int p3), .val (.ref b2), .unset, .unset, .unset, .unset, .unset] [])) (fun t k => st11 t k)
  have go13 := go11.step (C := T11.setTop (mkF m 32 #[.val (.long q0), .second, .val (.int p1), .val (.int p2), .val (.int p3), .val (.ref b2), .unset, .unset, .unset, .unset, .unset] [(.int (2 : Int32)), (.int p1), (.long q0), (.int (2 : Int32)), (.ref b2)])) (fun t k => by
    show Steps p.tables e below (T11.setTop (mkF m 26 #[.val (.long q0), .second, .val (.int p1), .val (.int p2), .val (.int p3), .val (.ref b2), .unset, .unset, .unset, .unset, .unset] [])) _
    refine XS.aload X11.here hx rfl (hb hby at_26) rfl rfl ?_
    show Steps p.tables e below (T11.setTop (mkF m 28 #[.val (.long q0), .second, .val (.int p1), .val (.int p2), .val (.int p3), .val (.ref b2), .unset, .unset, .unset, .unset, .unset] [(.ref b2)])) _
    refine XS.iconst X11.here hx rfl (hb hby at_28) ?_
    show Steps p.tables e below (T11.setTop (mkF m 29 #[.val (.long q0), .second, .val (.int p1), .val (.int p2), .val (.int p3), .val (.ref b2), .unset, .unset, .unset, .unset, .unset] [(.int (2 : Int32)), (.ref b2)])) _
    refine XS.lloadN X11.here hx rfl (hb hby at_29) rfl ?_
    show Steps p.tables e below (T11.setTop (mkF m 30 #[.val (.long q0), .second, .val (.int p1), .val (.int p2), .val (.int p3), .val (.ref b2), .unset, .unset, .unset, .unset, .unset] [(.long q0), (.int (2 : Int32)), (.ref b2)])) _
    refine XS.iloadN X11.here hx rfl (hb hby at_30) rfl ?_
    show Steps p.tables e below (T11.setTop (mkF m 31 #[.val (.long q0), .second, .val (.int p1), .val (.int p2), .val (.int p3), .val (.ref b2), .unset, .unset, .unset, .unset, .unset] [(.int p1), (.long q0), (.int (2 : Int32)), (.ref b2)])) _
    refine XS.iconst X11.here hx rfl (hb hby at_31) ?_
    exact k)
  obtain ⟨_, _, ⟨T14, L14, k14, n14⟩, -, X14, ⟨Lc14, hQ14, l14, y14, z14⟩, st14⟩ := Jvm.LawKit.callS X11 hx (y := (⟨"com/example/zemlja/zemlja/iso2709/Iso2709NumberPinLaw", "byteAt", "(JII)B"⟩ : MethodName)) hown (mvT hZ (hw _ (List.mem_of_getElem? (i := 1) rfl))) (mvT hZ (hw _ (List.mem_of_getElem? (i := 2) rfl))) (mvT hZ (hw _ (List.mem_of_getElem? (i := 3) rfl))) (mvT hZ (hw _ (List.mem_of_getElem? (i := 4) rfl))) (by decide) (backOf (W := 2) (rm1 l Z a0 hw [] q0 p1 (2 : Int32) h11 n0 Z11 ) hZ (hw _ (List.mem_of_getElem? (i := 4) rfl)) (hw _ (List.mem_of_getElem? (i := 3) rfl)) (by decide) (by decide)) (g := (mkF m 32 #[.val (.long q0), .second, .val (.int p1), .val (.int p2), .val (.int p3), .val (.ref b2), .unset, .unset, .unset, .unset, .unset] [(.int (2 : Int32)), (.int p1), (.long q0), (.int (2 : Int32)), (.ref b2)])) rfl (by rw [hml]; rfl) (argsL := [(.long q0), (.int p1), (.int (2 : Int32))]) (rest := [(.int (2 : Int32)), (.ref b2)]) (lenOf pd0_0 rfl) rfl (by show 2 * 0 + _ ≤ _; exact Nat.le_of_eq rfl) (hb hby at_32) (fun _ _ => ⟨rfl, e11, (by decide : 1 + 0 ≤ _), (by decide : 7 + 0 ≤ _)⟩)
  dsimp only [Pt.U, Pt.locs, Pt.cells, Pt.slots] at X14 l14 y14 z14 st14 hQ14
  rw [l14, y14, z14] at X14
  obtain ⟨rfl, N14q, e14⟩ := hQ14
  have N14 := Fr.app N11 N14q
  have go14 := go13.step (C := T14.setTop (mkF m 35 #[.val (.long q0), .second, .val (.int p1), .val (.int p2), .val (.int p3), .val (.ref b2), .unset, .unset, .unset, .unset, .unset] [(.int (own_ba q0 p1 (2 : Int32))), (.int (2 : Int32)), (.ref b2)])) (fun t k => st14 t k)
  obtain ⟨cl15, Ar15, qa15, Sa15, Na15, Ha15, Ga15⟩ := V11
  have hin15 : ¬ ((2 : Int32) < 0 ∨ cl15.slots.size ≤ ((2 : Int32)).toNatClampNeg) := inb_of Sa15 ⟨by decide, by decide⟩
  obtain ⟨T16, h16, X16, e16, W16, st16⟩ := stB X14 hx hZ e14 Ar15 (j := (2 : Int32)) hin15 (g := (mkF m 35 #[.val (.long q0), .second, .val (.int p1), .val (.int p2), .val (.int p3), .val (.ref b2), .unset, .unset, .unset, .unset, .unset] [(.int (own_ba q0 p1 (2 : Int32))), (.int (2 : Int32)), (.ref b2)])) rfl rfl (hb hby at_35)
  have V16 : Arv Z h16 b2 k2 .byte (7 : Int32) [(.int (nar .byte (own_ba q0 p1 (0 : Int32)))), (.int (nar .byte (own_ba q0 p1 (1 : Int32)))), (.int (nar .byte (own_ba q0 p1 (2 : Int32)))), (.int (0 : Int32)), (.int (0 : Int32)), (.int (0 : Int32)), (.int (0 : Int32))] (.int (0 : Int32)) := Arv.set Ar15 qa15 Sa15 Na15 Ha15 Ga15 (fits_nar_byte _) W16 2 rfl (Nat.le_of_ble_eq_true rfl)
  have Z16 : n0 ≤ h16.size := Nat.le_trans Z11 (Nat.le_of_eq W16.size.symm)
  have K16 := K11.wr W16 (Or.inr sz_b2)
  have N16 := Fr.snoc X16 N14 g_b2
  have go16 := go14.step (C := T16.setTop (mkF m 36 #[.val (.long q0), .second, .val (.int p1), .val (.int p2), .val (.int p3), .val (.ref b2), .unset, .unset, .unset, .unset, .unset] [])) (fun t k => st16 t k)
  have go18 := go16.step (C := T16.setTop (mkF m 42 #[.val (.long q0), .second, .val (.int p1), .val (.int p2), .val (.int p3), .val (.ref b2), .unset, .unset, .unset, .unset, .unset] [(.int (3 : Int32)), (.int p1), (.long q0), (.int (3 : Int32)), (.ref b2)])) (fun t k => by
    show Steps p.tables e below (T16.setTop (mkF m 36 #[.val (.long q0), .second, .val (.int p1), .val (.int p2), .val (.int p3), .val (.ref b2), .unset, .unset, .unset, .unset, .unset] [])) _
    refine XS.aload X16.here hx rfl (hb hby at_36) rfl rfl ?_
    show Steps p.tables e below (T16.setTop (mkF m 38 #[.val (.long q0), .second, .val (.int p1), .val (.int p2), .val (.int p3), .val (.ref b2), .unset, .unset, .unset, .unset, .unset] [(.ref b2)])) _
    refine XS.iconst X16.here hx rfl (hb hby at_38) ?_
    show Steps p.tables e below (T16.setTop (mkF m 39 #[.val (.long q0), .second, .val (.int p1), .val (.int p2), .val (.int p3), .val (.ref b2), .unset, .unset, .unset, .unset, .unset] [(.int (3 : Int32)), (.ref b2)])) _
    refine XS.lloadN X16.here hx rfl (hb hby at_39) rfl ?_
    show Steps p.tables e below (T16.setTop (mkF m 40 #[.val (.long q0), .second, .val (.int p1), .val (.int p2), .val (.int p3), .val (.ref b2), .unset, .unset, .unset, .unset, .unset] [(.long q0), (.int (3 : Int32)), (.ref b2)])) _
    refine XS.iloadN X16.here hx rfl (hb hby at_40) rfl ?_
    show Steps p.tables e below (T16.setTop (mkF m 41 #[.val (.long q0), .second, .val (.int p1), .val (.int p2), .val (.int p3), .val (.ref b2), .unset, .unset, .unset, .unset, .unset] [(.int p1), (.long q0), (.int (3 : Int32)), (.ref b2)])) _
    refine XS.iconst X16.here hx rfl (hb hby at_41) ?_
    exact k)
  obtain ⟨_, _, ⟨T19, L19, k19, n19⟩, -, X19, ⟨Lc19, hQ19, l19, y19, z19⟩, st19⟩ := Jvm.LawKit.callS X16 hx (y := (⟨"com/example/zemlja/zemlja/iso2709/Iso2709NumberPinLaw", "byteAt", "(JII)B"⟩ : MethodName)) hown (mvT hZ (hw _ (List.mem_of_getElem? (i := 1) rfl))) (mvT hZ (hw _ (List.mem_of_getElem? (i := 2) rfl))) (mvT hZ (hw _ (List.mem_of_getElem? (i := 3) rfl))) (mvT hZ (hw _ (List.mem_of_getElem? (i := 4) rfl))) (by decide) (backOf (W := 2) (rm1 l Z a0 hw [] q0 p1 (3 : Int32) h16 n0 Z16 ) hZ (hw _ (List.mem_of_getElem? (i := 4) rfl)) (hw _ (List.mem_of_getElem? (i := 3) rfl)) (by decide) (by decide)) (g := (mkF m 42 #[.val (.long q0), .second, .val (.int p1), .val (.int p2), .val (.int p3), .val (.ref b2), .unset, .unset, .unset, .unset, .unset] [(.int (3 : Int32)), (.int p1), (.long q0), (.int (3 : Int32)), (.ref b2)])) rfl (by rw [hml]; rfl) (argsL := [(.long q0), (.int p1), (.int (3 : Int32))]) (rest := [(.int (3 : Int32)), (.ref b2)]) (lenOf pd0_0 rfl) rfl (by show 2 * 0 + _ ≤ _; exact Nat.le_of_eq rfl) (hb hby at_42) (fun _ _ => ⟨rfl, e16, (by decide : 1 + 0 ≤ _), (by decide : 7 + 0 ≤ _)⟩)
  dsimp only [Pt.U, Pt.locs, Pt.cells, Pt.slots] at X19 l19 y19 z19 st19 hQ19
  rw [l19, y19, z19] at X19
  obtain ⟨rfl, N19q, e19⟩ := hQ19
  have N19 := Fr.app N16 N19q
  have go19 := go18.step (C := T19.setTop (mkF m 45 #[.val (.long q0), .second, .val (.int p1), .val (.int p2), .val (.int p3), .val (.ref b2), .unset, .unset, .unset, .unset, .unset] [(.int (own_ba q0 p1 (3 : Int32))), (.int (3 : Int32)), (.ref b2)])) (fun t k => st19 t k)
  obtain ⟨cl20, Ar20, qa20, Sa20, Na20, Ha20, Ga20⟩ := V16
  have hin20 : ¬ ((3 : Int32) < 0 ∨ cl20.slots.size ≤ ((3 : Int32)).toNatClampNeg) := inb_of Sa20 ⟨by decide, by decide⟩
  obtain ⟨T21, h21, X21, e21, W21, st21⟩ := stB X19 hx hZ e19 Ar20 (j := (3 : Int32)) hin20 (g := (mkF m 45 #[.val (.long q0), .second, .val (.int p1), .val (.int p2), .val (.int p3), .val (.ref b2), .unset, .unset, .unset, .unset, .unset] [(.int (own_ba q0 p1 (3 : Int32))), (.int (3 : Int32)), (.ref b2)])) rfl rfl (hb hby at_45)
  have V21 : Arv Z h21 b2 k2 .byte (7 : Int32) [(.int (nar .byte (own_ba q0 p1 (0 : Int32)))), (.int (nar .byte (own_ba q0 p1 (1 : Int32)))), (.int (nar .byte (own_ba q0 p1 (2 : Int32)))), (.int (nar .byte (own_ba q0 p1 (3 : Int32)))), (.int (0 : Int32)), (.int (0 : Int32)), (.int (0 : Int32))] (.int (0 : Int32)) := Arv.set Ar20 qa20 Sa20 Na20 Ha20 Ga20 (fits_nar_byte _) W21 3 rfl (Nat.le_of_ble_eq_true rfl)
  have Z21 : n0 ≤ h21.size := Nat.le_trans Z16 (Nat.le_of_eq W21.size.symm)
  have K21 := K16.wr W21 (Or.inr sz_b2)
  have N21 := Fr.snoc X21 N19 g_b2
  have go21 := go19.step (C := T21.setTop (mkF m 46 #[.val (.long q0), .second, .val (.int p1), .val (.int p2), .val (.int p3), .val (.ref b2), .unset, .unset, .unset, .unset, .unset] [])) (fun t k => st21 t k)
  have go23 := go21.step (C := T21.setTop (mkF m 52 #[.val (.long q0), .second, .val (.int p1), .val (.int p2), .val (.int p3), .val (.ref b2), .unset, .unset, .unset, .unset, .unset] [(.int (4 : Int32)), (.int p1), (.long q0), (.int (4 : Int32)), (.ref b2)])) (fun t k => by
    show Steps p.tables e below (T21.setTop (mkF m 46 #[.val (.long q0), .second, .val (.int p1), .val (.int p2), .val (.int p3), .val (.ref b2), .unset, .unset, .unset, .unset, .unset] [])) _
    refine XS.aload X21.here hx rfl (hb hby at_46) rfl rfl ?_
    show Steps p.tables e below (T21.setTop (mkF m 48 #[.val (.long q0), .second, .val (.int p1), .val (.int p2), .val (.int p3), .val (.ref b2), .unset, .unset, .unset, .unset, .unset] [(.ref b2)])) _
    refine XS.iconst X21.here hx rfl (hb hby at_48) ?_
    show Steps p.tables e below (T21.setTop (mkF m 49 #[.val (.long q0), .second, .val (.int p1), .val (.int p2), .val (.int p3), .val (.ref b2), .unset, .unset, .unset, .unset, .unset] [(.int (4 : Int32)), (.ref b2)])) _
    refine XS.lloadN X21.here hx rfl (hb hby at_49) rfl ?_
    show Steps p.tables e below (T21.setTop (mkF m 50 #[.val (.long q0), .second, .val (.int p1), .val (.int p2), .val (.int p3), .val (.ref b2), .unset, .unset, .unset, .unset, .unset] [(.long q0), (.int (4 : Int32)), (.ref b2)])) _
    refine XS.iloadN X21.here hx rfl (hb hby at_50) rfl ?_
    show Steps p.tables e below (T21.setTop (mkF m 51 #[.val (.long q0), .second, .val (.int p1), .val (.int p2), .val (.int p3), .val (.ref b2), .unset, .unset, .unset, .unset, .unset] [(.int p1), (.long q0), (.int (4 : Int32)), (.ref b2)])) _
    refine XS.iconst X21.here hx rfl (hb hby at_51) ?_
    exact k)
  obtain ⟨_, _, ⟨T24, L24, k24, n24⟩, -, X24, ⟨Lc24, hQ24, l24, y24, z24⟩, st24⟩ := Jvm.LawKit.callS X21 hx (y := (⟨"com/example/zemlja/zemlja/iso2709/Iso2709NumberPinLaw", "byteAt", "(JII)B"⟩ : MethodName)) hown (mvT hZ (hw _ (List.mem_of_getElem? (i := 1) rfl))) (mvT hZ (hw _ (List.mem_of_getElem? (i := 2) rfl))) (mvT hZ (hw _ (List.mem_of_getElem? (i := 3) rfl))) (mvT hZ (hw _ (List.mem_of_getElem? (i := 4) rfl))) (by decide) (backOf (W := 2) (rm1 l Z a0 hw [] q0 p1 (4 : Int32) h21 n0 Z21 ) hZ (hw _ (List.mem_of_getElem? (i := 4) rfl)) (hw _ (List.mem_of_getElem? (i := 3) rfl)) (by decide) (by decide)) (g := (mkF m 52 #[.val (.long q0), .second, .val (.int p1), .val (.int p2), .val (.int p3), .val (.ref b2), .unset, .unset, .unset, .unset, .unset] [(.int (4 : Int32)), (.int p1), (.long q0), (.int (4 : Int32)), (.ref b2)])) rfl (by rw [hml]; rfl) (argsL := [(.long q0), (.int p1), (.int (4 : Int32))]) (rest := [(.int (4 : Int32)), (.ref b2)]) (lenOf pd0_0 rfl) rfl (by show 2 * 0 + _ ≤ _; exact Nat.le_of_eq rfl) (hb hby at_52) (fun _ _ => ⟨rfl, e21, (by decide : 1 + 0 ≤ _), (by decide : 7 + 0 ≤ _)⟩)
  dsimp only [Pt.U, Pt.locs, Pt.cells, Pt.slots] at X24 l24 y24 z24 st24 hQ24
  rw [l24, y24, z24] at X24
  obtain ⟨rfl, N24q, e24⟩ := hQ24
  have N24 := Fr.app N21 N24q
  have go24 := go23.step (C := T24.setTop (mkF m 55 #[.val (.long q0), .second, .val (.int p1), .val (.int p2), .val (.int p3), .val (.ref b2), .unset, .unset, .unset, .unset, .unset] [(.int (own_ba q0 p1 (4 : Int32))), (.int (4 : Int32)), (.ref b2)])) (fun t k => st24 t k)
  obtain ⟨cl25, Ar25, qa25, Sa25, Na25, Ha25, Ga25⟩ := V21
  have hin25 : ¬ ((4 : Int32) < 0 ∨ cl25.slots.size ≤ ((4 : Int32)).toNatClampNeg) := inb_of Sa25 ⟨by decide, by decide⟩
  obtain ⟨T26, h26, X26, e26, W26, st26⟩ := stB X24 hx hZ e24 Ar25 (j := (4 : Int32)) hin25 (g := (mkF m 55 #[.val (.long q0), .second, .val (.int p1), .val (.int p2), .val (.int p3), .val (.ref b2), .unset, .unset, .unset, .unset, .unset] [(.int (own_ba q0 p1 (4 : Int32))), (.int (4 : Int32)), (.ref b2)])) rfl rfl (hb hby at_55)
  have V26 : Arv Z h26 b2 k2 .byte (7 : Int32) [(.int (nar .byte (own_ba q0 p1 (0 : Int32)))), (.int (nar .byte (own_ba q0 p1 (1 : Int32)))), (.int (nar .byte (own_ba q0 p1 (2 : Int32)))), (.int (nar .byte (own_ba q0 p1 (3 : Int32)))), (.int (nar .byte (own_ba q0 p1 (4 : Int32)))), (.int (0 : Int32)), (.int (0 : Int32))] (.int (0 : Int32)) := Arv.set Ar25 qa25 Sa25 Na25 Ha25 Ga25 (fits_nar_byte _) W26 4 rfl (Nat.le_of_ble_eq_true rfl)
  have Z26 : n0 ≤ h26.size := Nat.le_trans Z21 (Nat.le_of_eq W26.size.symm)
  have K26 := K21.wr W26 (Or.inr sz_b2)
  have N26 := Fr.snoc X26 N24 g_b2
  have go26 := go24.step (C := T26.setTop (mkF m 56 #[.val (.long q0), .second, .val (.int p1), .val (.int p2), .val (.int p3), .val (.ref b2), .unset, .unset, .unset, .unset, .unset] [])) (fun t k => st26 t k)
  have go28 := go26.step (C := T26.setTop (mkF m 62 #[.val (.long q0), .second, .val (.int p1), .val (.int p2), .val (.int p3), .val (.ref b2), .unset, .unset, .unset, .unset, .unset] [(.int (5 : Int32)), (.int p1), (.long q0), (.int (5 : Int32)), (.ref b2)])) (fun t k => by
    show Steps p.tables e below (T26.setTop (mkF m 56 #[.val (.long q0), .second, .val (.int p1), .val (.int p2), .val (.int p3), .val (.ref b2), .unset, .unset, .unset, .unset, .unset] [])) _
    refine XS.aload X26.here hx rfl (hb hby at_56) rfl rfl ?_
    show Steps p.tables e below (T26.setTop (mkF m 58 #[.val (.long q0), .second, .val (.int p1), .val (.int p2), .val (.int p3), .val (.ref b2), .unset, .unset, .unset, .unset, .unset] [(.ref b2)])) _
    refine XS.iconst X26.here hx rfl (hb hby at_58) ?_
    show Steps p.tables e below (T26.setTop (mkF m 59 #[.val (.long q0), .second, .val (.int p1), .val (.int p2), .val (.int p3), .val (.ref b2), .unset, .unset, .unset, .unset, .unset] [(.int (5 : Int32)), (.ref b2)])) _
    refine XS.lloadN X26.here hx rfl (hb hby at_59) rfl ?_
    show Steps p.tables e below (T26.setTop (mkF m 60 #[.val (.long q0), .second, .val (.int p1), .val (.int p2), .val (.int p3), .val (.ref b2), .unset, .unset, .unset, .unset, .unset] [(.long q0), (.int (5 : Int32)), (.ref b2)])) _
    refine XS.iloadN X26.here hx rfl (hb hby at_60) rfl ?_
    show Steps p.tables e below (T26.setTop (mkF m 61 #[.val (.long q0), .second, .val (.int p1), .val (.int p2), .val (.int p3), .val (.ref b2), .unset, .unset, .unset, .unset, .unset] [(.int p1), (.long q0), (.int (5 : Int32)), (.ref b2)])) _
    refine XS.iconst X26.here hx rfl (hb hby at_61) ?_
    exact k)
  obtain ⟨_, _, ⟨T29, L29, k29, n29⟩, -, X29, ⟨Lc29, hQ29, l29, y29, z29⟩, st29⟩ := Jvm.LawKit.callS X26 hx (y := (⟨"com/example/zemlja/zemlja/iso2709/Iso2709NumberPinLaw", "byteAt", "(JII)B"⟩ : MethodName)) hown (mvT hZ (hw _ (List.mem_of_getElem? (i := 1) rfl))) (mvT hZ (hw _ (List.mem_of_getElem? (i := 2) rfl))) (mvT hZ (hw _ (List.mem_of_getElem? (i := 3) rfl))) (mvT hZ (hw _ (List.mem_of_getElem? (i := 4) rfl))) (by decide) (backOf (W := 2) (rm1 l Z a0 hw [] q0 p1 (5 : Int32) h26 n0 Z26 ) hZ (hw _ (List.mem_of_getElem? (i := 4) rfl)) (hw _ (List.mem_of_getElem? (i := 3) rfl)) (by decide) (by decide)) (g := (mkF m 62 #[.val (.long q0), .second, .val (.int p1), .val (.int p2), .val (.int p3), .val (.ref b2), .unset, .unset, .unset, .unset, .unset] [(.int (5 : Int32)), (.int p1), (.long q0), (.int (5 : Int32)), (.ref b2)])) rfl (by rw [hml]; rfl) (argsL := [(.long q0), (.int p1), (.int (5 : Int32))]) (rest := [(.int (5 : Int32)), (.ref b2)]) (lenOf pd0_0 rfl) rfl (by show 2 * 0 + _ ≤ _; exact Nat.le_of_eq rfl) (hb hby at_62) (fun _ _ => ⟨rfl, e26, (by decide : 1 + 0 ≤ _), (by decide : 7 + 0 ≤ _)⟩)
  dsimp only [Pt.U, Pt.locs, Pt.cells, Pt.slots] at X29 l29 y29 z29 st29 hQ29
  rw [l29, y29, z29] at X29
  obtain ⟨rfl, N29q, e29⟩ := hQ29
  have N29 := Fr.app N26 N29q
  have go29 := go28.step (C := T29.setTop (mkF m 65 #[.val (.long q0), .second, .val (.int p1), .val (.int p2), .val (.int p3), .val (.ref b2), .unset, .unset, .unset, .unset, .unset] [(.int (own_ba q0 p1 (5 : Int32))), (.int (5 : Int32)), (.ref b2)])) (fun t k => st29 t k)
  obtain ⟨cl30, Ar30, qa30, Sa30, Na30, Ha30, Ga30⟩ := V26
  have hin30 : ¬ ((5 : Int32) < 0 ∨ cl30.slots.size ≤ ((5 : Int32)).toNatClampNeg) := inb_of Sa30 ⟨by decide, by decide⟩
  obtain ⟨T31, h31, X31, e31, W31, st31⟩ := stB X29 hx hZ e29 Ar30 (j := (5 : Int32)) hin30 (g := (mkF m 65 #[.val (.long q0), .second, .val (.int p1), .val (.int p2), .val (.int p3), .val (.ref b2), .unset, .unset, .unset, .unset, .unset] [(.int (own_ba q0 p1 (5 : Int32))), (.int (5 : Int32)), (.ref b2)])) rfl rfl (hb hby at_65)
  have V31 : Arv Z h31 b2 k2 .byte (7 : Int32) [(.int (nar .byte (own_ba q0 p1 (0 : Int32)))), (.int (nar .byte (own_ba q0 p1 (1 : Int32)))), (.int (nar .byte (own_ba q0 p1 (2 : Int32)))), (.int (nar .byte (own_ba q0 p1 (3 : Int32)))), (.int (nar .byte (own_ba q0 p1 (4 : Int32)))), (.int (nar .byte (own_ba q0 p1 (5 : Int32)))), (.int (0 : Int32))] (.int (0 : Int32)) := Arv.set Ar30 qa30 Sa30 Na30 Ha30 Ga30 (fits_nar_byte _) W31 5 rfl (Nat.le_of_ble_eq_true rfl)
  have Z31 : n0 ≤ h31.size := Nat.le_trans Z26 (Nat.le_of_eq W31.size.symm)
  have K31 := K26.wr W31 (Or.inr sz_b2)
  have N31 := Fr.snoc X31 N29 g_b2
  have go31 := go29.step (C := T31.setTop (mkF m 66 #[.val (.long q0), .second, .val (.int p1), .val (.int p2), .val (.int p3), .val (.ref b2), .unset, .unset, .unset, .unset, .unset] [])) (fun t k => st31 t k)
  have go33 := go31.step (C := T31.setTop (mkF m 74 #[.val (.long q0), .second, .val (.int p1), .val (.int p2), .val (.int p3), .val (.ref b2), .unset, .unset, .unset, .unset, .unset] [(.int (6 : Int32)), (.int p1), (.long q0), (.int (6 : Int32)), (.ref b2)])) (fun t k => by
    show Steps p.tables e below (T31.setTop (mkF m 66 #[.val (.long q0), .second, .val (.int p1), .val (.int p2), .val (.int p3), .val (.ref b2), .unset, .unset, .unset, .unset, .unset] [])) _
    refine XS.aload X31.here hx rfl (hb hby at_66) rfl rfl ?_
    show Steps p.tables e below (T31.setTop (mkF m 68 #[.val (.long q0), .second, .val (.int p1), .val (.int p2), .val (.int p3), .val (.ref b2), .unset, .unset, .unset, .unset, .unset] [(.ref b2)])) _
    refine XS.bipush X31.here hx rfl (hb hby at_68) ?_
    show Steps p.tables e below (T31.setTop (mkF m 70 #[.val (.long q0), .second, .val (.int p1), .val (.int p2), .val (.int p3), .val (.ref b2), .unset, .unset, .unset, .unset, .unset] [(.int (6 : Int32)), (.ref b2)])) _
    refine XS.lloadN X31.here hx rfl (hb hby at_70) rfl ?_
    show Steps p.tables e below (T31.setTop (mkF m 71 #[.val (.long q0), .second, .val (.int p1), .val (.int p2), .val (.int p3), .val (.ref b2), .unset, .unset, .unset, .unset, .unset] [(.long q0), (.int (6 : Int32)), (.ref b2)])) _
    refine XS.iloadN X31.here hx rfl (hb hby at_71) rfl ?_
    show Steps p.tables e below (T31.setTop (mkF m 72 #[.val (.long q0), .second, .val (.int p1), .val (.int p2), .val (.int p3), .val (.ref b2), .unset, .unset, .unset, .unset, .unset] [(.int p1), (.long q0), (.int (6 : Int32)), (.ref b2)])) _
    refine XS.bipush X31.here hx rfl (hb hby at_72) ?_
    exact k)
  obtain ⟨_, _, ⟨T34, L34, k34, n34⟩, -, X34, ⟨Lc34, hQ34, l34, y34, z34⟩, st34⟩ := Jvm.LawKit.callS X31 hx (y := (⟨"com/example/zemlja/zemlja/iso2709/Iso2709NumberPinLaw", "byteAt", "(JII)B"⟩ : MethodName)) hown (mvT hZ (hw _ (List.mem_of_getElem? (i := 1) rfl))) (mvT hZ (hw _ (List.mem_of_getElem? (i := 2) rfl))) (mvT hZ (hw _ (List.mem_of_getElem? (i := 3) rfl))) (mvT hZ (hw _ (List.mem_of_getElem? (i := 4) rfl))) (by decide) (backOf (W := 2) (rm1 l Z a0 hw [] q0 p1 (6 : Int32) h31 n0 Z31 ) hZ (hw _ (List.mem_of_getElem? (i := 4) rfl)) (hw _ (List.mem_of_getElem? (i := 3) rfl)) (by decide) (by decide)) (g := (mkF m 74 #[.val (.long q0), .second, .val (.int p1), .val (.int p2), .val (.int p3), .val (.ref b2), .unset, .unset, .unset, .unset, .unset] [(.int (6 : Int32)), (.int p1), (.long q0), (.int (6 : Int32)), (.ref b2)])) rfl (by rw [hml]; rfl) (argsL := [(.long q0), (.int p1), (.int (6 : Int32))]) (rest := [(.int (6 : Int32)), (.ref b2)]) (lenOf pd0_0 rfl) rfl (by show 2 * 0 + _ ≤ _; exact Nat.le_of_eq rfl) (hb hby at_74) (fun _ _ => ⟨rfl, e31, (by decide : 1 + 0 ≤ _), (by decide : 7 + 0 ≤ _)⟩)
  dsimp only [Pt.U, Pt.locs, Pt.cells, Pt.slots] at X34 l34 y34 z34 st34 hQ34
  rw [l34, y34, z34] at X34
  obtain ⟨rfl, N34q, e34⟩ := hQ34
  have N34 := Fr.app N31 N34q
  have go34 := go33.step (C := T34.setTop (mkF m 77 #[.val (.long q0), .second, .val (.int p1), .val (.int p2), .val (.int p3), .val (.ref b2), .unset, .unset, .unset, .unset, .unset] [(.int (own_ba q0 p1 (6 : Int32))), (.int (6 : Int32)), (.ref b2)])) (fun t k => st34 t k)
  obtain ⟨cl35, Ar35, qa35, Sa35, Na35, Ha35, Ga35⟩ := V31
  have hin35 : ¬ ((6 : Int32) < 0 ∨ cl35.slots.size ≤ ((6 : Int32)).toNatClampNeg) := inb_of Sa35 ⟨by decide, by decide⟩
  obtain ⟨T36, h36, X36, e36, W36, st36⟩ := stB X34 hx hZ e34 Ar35 (j := (6 : Int32)) hin35 (g := (mkF m 77 #[.val (.long q0), .second, .val (.int p1), .val (.int p2), .val (.int p3), .val (.ref b2), .unset, .unset, .unset, .unset, .unset] [(.int (own_ba q0 p1 (6 : Int32))), (.int (6 : Int32)), (.ref b2)])) rfl rfl (hb hby at_77)
  have V36 : Arv Z h36 b2 k2 .byte (7 : Int32) [(.int (nar .byte (own_ba q0 p1 (0 : Int32)))), (.int (nar .byte (own_ba q0 p1 (1 : Int32)))), (.int (nar .byte (own_ba q0 p1 (2 : Int32)))), (.int (nar .byte (own_ba q0 p1 (3 : Int32)))), (.int (nar .byte (own_ba q0 p1 (4 : Int32)))), (.int (nar .byte (own_ba q0 p1 (5 : Int32)))), (.int (nar .byte (own_ba q0 p1 (6 : Int32))))] (.int (0 : Int32)) := Arv.set Ar35 qa35 Sa35 Na35 Ha35 Ga35 (fits_nar_byte _) W36 6 rfl (Nat.le_of_ble_eq_true rfl)
  have Z36 : n0 ≤ h36.size := Nat.le_trans Z31 (Nat.le_of_eq W36.size.symm)
  have K36 := K31.wr W36 (Or.inr sz_b2)
  have N36 := Fr.snoc X36 N34 g_b2
  have go36 := go34.step (C := T36.setTop (mkF m 78 #[.val (.long q0), .second, .val (.int p1), .val (.int p2), .val (.int p3), .val (.ref b2), .unset, .unset, .unset, .unset, .unset] [])) (fun t k => st36 t k)
  have go38 := go36.step (C := T36.setTop (mkF m 85 #[.val (.long q0), .second, .val (.int p1), .val (.int p2), .val (.int p3), .val (.ref b2), .unset, .unset, .unset, .unset, .unset] [(.int ((p2 &&& (2147483647 : Int32)) % (6 : Int32)))])) (fun t k => by
    show Steps p.tables e below (T36.setTop (mkF m 78 #[.val (.long q0), .second, .val (.int p1), .val (.int p2), .val (.int p3), .val (.ref b2), .unset, .unset, .unset, .unset, .unset] [])) _
    refine XS.iloadN X36.here hx rfl (hb hby at_78) rfl ?_
    show Steps p.tables e below (T36.setTop (mkF m 79 #[.val (.long q0), .second, .val (.int p1), .val (.int p2), .val (.int p3), .val (.ref b2), .unset, .unset, .unset, .unset, .unset] [(.int p2)])) _
    refine X36.ldcInt hx hown (mvT hZ (hw _ (List.mem_of_getElem? (i := 5) rfl))) (g := (mkF m 79 #[.val (.long q0), .second, .val (.int p1), .val (.int p2), .val (.int p3), .val (.ref b2), .unset, .unset, .unset, .unset, .unset] [(.int p2)])) rfl (hb hby at_79) _ ?_
    show Steps p.tables e below (T36.setTop (mkF m 81 #[.val (.long q0), .second, .val (.int p1), .val (.int p2), .val (.int p3), .val (.ref b2), .unset, .unset, .unset, .unset, .unset] [(.int (2147483647 : Int32)), (.int p2)])) _
    refine XS.iand X36.here hx rfl (hb hby at_81) rfl ?_
    show Steps p.tables e below (T36.setTop (mkF m 82 #[.val (.long q0), .second, .val (.int p1), .val (.int p2), .val (.int p3), .val (.ref b2), .unset, .unset, .unset, .unset, .unset] [(.int (p2 &&& (2147483647 : Int32)))])) _
    refine XS.bipush X36.here hx rfl (hb hby at_82) ?_
    show Steps p.tables e below (T36.setTop (mkF m 84 #[.val (.long q0), .second, .val (.int p1), .val (.int p2), .val (.int p3), .val (.ref b2), .unset, .unset, .unset, .unset, .unset] [(.int (6 : Int32)), (.int (p2 &&& (2147483647 : Int32)))])) _
    refine iremM X36 hx rfl (hb hby at_84) rfl (by decide) ?_
    exact k)
  obtain ⟨zc, hzc⟩ : ∃ z : Int32, z = ((p2 &&& (2147483647 : Int32)) % (6 : Int32)) := ⟨_, rfl⟩
  rw [← hzc] at go38
  have go39 := go38.step (C := T36.setTop (mkF m 98 #[.val (.long q0), .second, .val (.int p1), .val (.int p2), .val (.int p3), .val (.ref b2), .val (.int zc), .unset, .unset, .unset, .unset] [(.int ((p3 &&& (2147483647 : Int32)) % ((8 : Int32) - zc)))])) (fun t k => by
    show Steps p.tables e below (T36.setTop (mkF m 85 #[.val (.long q0), .second, .val (.int p1), .val (.int p2), .val (.int p3), .val (.ref b2), .unset, .unset, .unset, .unset, .unset] [(.int zc)])) _
    refine XS.istore X36.here hx rfl (hb hby at_85) rfl (l' := #[.val (.long q0), .second, .val (.int p1), .val (.int p2), .val (.int p3), .val (.ref b2), .val (.int zc), .unset, .unset, .unset, .unset]) rfl ?_
    show Steps p.tables e below (T36.setTop (mkF m 87 #[.val (.long q0), .second, .val (.int p1), .val (.int p2), .val (.int p3), .val (.ref b2), .val (.int zc), .unset, .unset, .unset, .unset] [])) _
    refine XS.iload X36.here hx rfl (hb hby at_87) rfl ?_
    show Steps p.tables e below (T36.setTop (mkF m 89 #[.val (.long q0), .second, .val (.int p1), .val (.int p2), .val (.int p3), .val (.ref b2), .val (.int zc), .unset, .unset, .unset, .unset] [(.int p3)])) _
    refine X36.ldcInt hx hown (mvT hZ (hw _ (List.mem_of_getElem? (i := 5) rfl))) (g := (mkF m 89 #[.val (.long q0), .second, .val (.int p1), .val (.int p2), .val (.int p3), .val (.ref b2), .val (.int zc), .unset, .unset, .unset, .unset] [(.int p3)])) rfl (hb hby at_89) _ ?_
    show Steps p.tables e below (T36.setTop (mkF m 91 #[.val (.long q0), .second, .val (.int p1), .val (.int p2), .val (.int p3), .val (.ref b2), .val (.int zc), .unset, .unset, .unset, .unset] [(.int (2147483647 : Int32)), (.int p3)])) _
    refine XS.iand X36.here hx rfl (hb hby at_91) rfl ?_
    show Steps p.tables e below (T36.setTop (mkF m 92 #[.val (.long q0), .second, .val (.int p1), .val (.int p2), .val (.int p3), .val (.ref b2), .val (.int zc), .unset, .unset, .unset, .unset] [(.int (p3 &&& (2147483647 : Int32)))])) _
    refine XS.bipush X36.here hx rfl (hb hby at_92) ?_
    show Steps p.tables e below (T36.setTop (mkF m 94 #[.val (.long q0), .second, .val (.int p1), .val (.int p2), .val (.int p3), .val (.ref b2), .val (.int zc), .unset, .unset, .unset, .unset] [(.int (8 : Int32)), (.int (p3 &&& (2147483647 : Int32)))])) _
    refine XS.iload X36.here hx rfl (hb hby at_94) rfl ?_
    show Steps p.tables e below (T36.setTop (mkF m 96 #[.val (.long q0), .second, .val (.int p1), .val (.int p2), .val (.int p3), .val (.ref b2), .val (.int zc), .unset, .unset, .unset, .unset] [(.int zc), (.int (8 : Int32)), (.int (p3 &&& (2147483647 : Int32)))])) _
    refine XS.isub X36.here hx rfl (hb hby at_96) rfl ?_
    show Steps p.tables e below (T36.setTop (mkF m 97 #[.val (.long q0), .second, .val (.int p1), .val (.int p2), .val (.int p3), .val (.ref b2), .val (.int zc), .unset, .unset, .unset, .unset] [(.int ((8 : Int32) - zc)), (.int (p3 &&& (2147483647 : Int32)))])) _
    refine iremM X36 hx rfl (hb hby at_97) rfl (own_nz (own_zc hzc)) ?_
    exact k)
  obtain ⟨zf, hzf⟩ : ∃ z : Int32, z = ((p3 &&& (2147483647 : Int32)) % ((8 : Int32) - zc)) := ⟨_, rfl⟩
  rw [← hzf] at go39
  obtain ⟨cn, hcn⟩ : ∃ n : Nat, zc.toInt = (n : Int) := ⟨zc.toInt.toNat, by have := own_zc hzc; omega⟩
  obtain ⟨fn, hfn⟩ : ∃ n : Nat, zf.toInt = (n : Int) := ⟨zf.toInt.toNat, by have := own_zf (own_zc hzc) hzf; omega⟩
  have hle : fn + cn ≤ 7 := by have := own_zf (own_zc hzc) hzf; omega
  have h5 : cn ≤ 5 := by have := own_zc hzc; omega
  have go40 := go39.step (C := T36.setTop (mkF m 107 #[.val (.long q0), .second, .val (.int p1), .val (.int p2), .val (.int p3), .val (.ref b2), .val (.int zc), .val (.int zf), .unset, .unset, .unset] [(.int (0 : Int32)), (.int zc), (.int zf), (.ref b2)])) (fun t k => by
    show Steps p.tables e below (T36.setTop (mkF m 98 #[.val (.long q0), .second, .val (.int p1), .val (.int p2), .val (.int p3), .val (.ref b2), .val (.int zc), .unset, .unset, .unset, .unset] [(.int zf)])) _
    refine XS.istore X36.here hx rfl (hb hby at_98) rfl (l' := #[.val (.long q0), .second, .val (.int p1), .val (.int p2), .val (.int p3), .val (.ref b2), .val (.int zc), .val (.int zf), .unset, .unset, .unset]) rfl ?_
    show Steps p.tables e below (T36.setTop (mkF m 100 #[.val (.long q0), .second, .val (.int p1), .val (.int p2), .val (.int p3), .val (.ref b2), .val (.int zc), .val (.int zf), .unset, .unset, .unset] [])) _
    refine XS.aload X36.here hx rfl (hb hby at_100) rfl rfl ?_
    show Steps p.tables e below (T36.setTop (mkF m 102 #[.val (.long q0), .second, .val (.int p1), .val (.int p2), .val (.int p3), .val (.ref b2), .val (.int zc), .val (.int zf), .unset, .unset, .unset] [(.ref b2)])) _
    refine XS.iload X36.here hx rfl (hb hby at_102) rfl ?_
    show Steps p.tables e below (T36.setTop (mkF m 104 #[.val (.long q0), .second, .val (.int p1), .val (.int p2), .val (.int p3), .val (.ref b2), .val (.int zc), .val (.int zf), .unset, .unset, .unset] [(.int zf), (.ref b2)])) _
    refine XS.iload X36.here hx rfl (hb hby at_104) rfl ?_
    show Steps p.tables e below (T36.setTop (mkF m 106 #[.val (.long q0), .second, .val (.int p1), .val (.int p2), .val (.int p3), .val (.ref b2), .val (.int zc), .val (.int zf), .unset, .unset, .unset] [(.int zc), (.int zf), (.ref b2)])) _
    refine XS.iconst X36.here hx rfl (hb hby at_106) ?_
    exact k)
  obtain ⟨_, _, ⟨T41, L41, k41, n41⟩, -, X41, ⟨Lc41, hQ41, l41, y41, z41⟩, st41⟩ := Jvm.LawKit.callS X36 hx (y := (⟨"com/example/zemlja/zemlja/iso2709/Iso2709NumberPinLaw", "ok", "([BIII)Z"⟩ : MethodName)) hown (mvT hZ (hw _ (List.mem_of_getElem? (i := 6) rfl))) (mvT hZ (hw _ (List.mem_of_getElem? (i := 7) rfl))) (mvT hZ (hw _ (List.mem_of_getElem? (i := 3) rfl))) (mvT hZ (hw _ (List.mem_of_getElem? (i := 8) rfl))) (by decide) (backOf (W := 0) (rm2 l Z a0 hw [] b2 zf zc (0 : Int32) k2 [(.int (nar .byte (own_ba q0 p1 (0 : Int32)))), (.int (nar .byte (own_ba q0 p1 (1 : Int32)))), (.int (nar .byte (own_ba q0 p1 (2 : Int32)))), (.int (nar .byte (own_ba q0 p1 (3 : Int32)))), (.int (nar .byte (own_ba q0 p1 (4 : Int32)))), (.int (nar .byte (own_ba q0 p1 (5 : Int32)))), (.int (nar .byte (own_ba q0 p1 (6 : Int32))))] (own_f q0 p1) fn h36 n0 Z36 V36 (own_hv q0 p1) (own_hi (i := 0) hfn hcn hle rfl (by decide)).1 (own_hi (i := 0) hfn hcn hle rfl (by decide)).2) hZ (hw _ (List.mem_of_getElem? (i := 8) rfl)) (hw _ (List.mem_of_getElem? (i := 3) rfl)) (by decide) (by decide)) (g := (mkF m 107 #[.val (.long q0), .second, .val (.int p1), .val (.int p2), .val (.int p3), .val (.ref b2), .val (.int zc), .val (.int zf), .unset, .unset, .unset] [(.int (0 : Int32)), (.int zc), (.int zf), (.ref b2)])) rfl (by rw [hml]; rfl) (argsL := [(.ref b2), (.int zf), (.int zc), (.int (0 : Int32))]) (rest := []) (lenOf pd0_1 rfl) rfl (by show 2 * 0 + _ ≤ _; exact Nat.le_of_eq rfl) (hb hby at_107) (fun _ _ => ⟨rfl, e36, (by decide : 1 + 0 ≤ _), (by decide : 7 + 0 ≤ _)⟩)
  dsimp only [Pt.U, Pt.locs, Pt.cells, Pt.slots] at X41 l41 y41 z41 st41 hQ41
  rw [l41, y41, z41] at X41
  obtain ⟨rfl, N41q, e41⟩ := hQ41
  have N41 := Fr.app N36 N41q
  have go41 := go40.step (C := T41.setTop (mkF m 110 #[.val (.long q0), .second, .val (.int p1), .val (.int p2), .val (.int p3), .val (.ref b2), .val (.int zc), .val (.int zf), .unset, .unset, .unset] [(.int (own_ok zc (0 : Int32) (own_f q0 p1) fn))])) (fun t k => st41 t k)
  by_cases hc42 : (own_ok zc (0 : Int32) (own_f q0 p1) fn) = (0 : Int32)
  · skip
    have go44 := go41.step (C := T41.setTop (mkF m 245 #[.val (.long q0), .second, .val (.int p1), .val (.int p2), .val (.int p3), .val (.ref b2), .val (.int zc), .val (.int zf), .val (.int (0 : Int32)), .val (.int (-1 : Int32)), .unset] [(.int zc), (.int zf), (.ref b2)])) (fun t k => by
      show Steps p.tables e below (T41.setTop (mkF m 110 #[.val (.long q0), .second, .val (.int p1), .val (.int p2), .val (.int p3), .val (.ref b2), .val (.int zc), .val (.int zf), .unset, .unset, .unset] [(.int (own_ok zc (0 : Int32) (own_f q0 p1) fn))])) _
      refine XS.ifYes X41.here hx rfl (pc0 := 110) (pc' := 169) rfl (hb hby at_110) rfl ((if0 _ _).trans (teq hc42).1) (by decide) (by decide) ?_
      show Steps p.tables e below (T41.setTop (mkF m 169 #[.val (.long q0), .second, .val (.int p1), .val (.int p2), .val (.int p3), .val (.ref b2), .val (.int zc), .val (.int zf), .unset, .unset, .unset] [])) _
      refine XS.iconst X41.here hx rfl (hb hby at_169) ?_
      show Steps p.tables e below (T41.setTop (mkF m 170 #[.val (.long q0), .second, .val (.int p1), .val (.int p2), .val (.int p3), .val (.ref b2), .val (.int zc), .val (.int zf), .unset, .unset, .unset] [(.int (0 : Int32))])) _
      refine XS.istore X41.here hx rfl (hb hby at_170) rfl (l' := #[.val (.long q0), .second, .val (.int p1), .val (.int p2), .val (.int p3), .val (.ref b2), .val (.int zc), .val (.int zf), .val (.int (0 : Int32)), .unset, .unset]) rfl ?_
      show Steps p.tables e below (T41.setTop (mkF m 172 #[.val (.long q0), .second, .val (.int p1), .val (.int p2), .val (.int p3), .val (.ref b2), .val (.int zc), .val (.int zf), .val (.int (0 : Int32)), .unset, .unset] [])) _
      refine XS.iload X41.here hx rfl (hb hby at_172) rfl ?_
      show Steps p.tables e below (T41.setTop (mkF m 174 #[.val (.long q0), .second, .val (.int p1), .val (.int p2), .val (.int p3), .val (.ref b2), .val (.int zc), .val (.int zf), .val (.int (0 : Int32)), .unset, .unset] [(.int (0 : Int32))])) _
      refine XS.ifYes X41.here hx rfl (pc0 := 174) (pc' := 236) rfl (hb hby at_174) rfl ((if0 _ _).trans (teq ((by decide) : (0 : Int32) = (0 : Int32))).1) (by decide) (by decide) ?_
      show Steps p.tables e below (T41.setTop (mkF m 236 #[.val (.long q0), .second, .val (.int p1), .val (.int p2), .val (.int p3), .val (.ref b2), .val (.int zc), .val (.int zf), .val (.int (0 : Int32)), .unset, .unset] [])) _
      refine XS.iconst X41.here hx rfl (hb hby at_236) ?_
      show Steps p.tables e below (T41.setTop (mkF m 237 #[.val (.long q0), .second, .val (.int p1), .val (.int p2), .val (.int p3), .val (.ref b2), .val (.int zc), .val (.int zf), .val (.int (0 : Int32)), .unset, .unset] [(.int (-1 : Int32))])) _
      refine XS.istore X41.here hx rfl (hb hby at_237) rfl (l' := #[.val (.long q0), .second, .val (.int p1), .val (.int p2), .val (.int p3), .val (.ref b2), .val (.int zc), .val (.int zf), .val (.int (0 : Int32)), .val (.int (-1 : Int32)), .unset]) rfl ?_
      show Steps p.tables e below (T41.setTop (mkF m 239 #[.val (.long q0), .second, .val (.int p1), .val (.int p2), .val (.int p3), .val (.ref b2), .val (.int zc), .val (.int zf), .val (.int (0 : Int32)), .val (.int (-1 : Int32)), .unset] [])) _
      refine XS.aload X41.here hx rfl (hb hby at_239) rfl rfl ?_
      show Steps p.tables e below (T41.setTop (mkF m 241 #[.val (.long q0), .second, .val (.int p1), .val (.int p2), .val (.int p3), .val (.ref b2), .val (.int zc), .val (.int zf), .val (.int (0 : Int32)), .val (.int (-1 : Int32)), .unset] [(.ref b2)])) _
      refine XS.iload X41.here hx rfl (hb hby at_241) rfl ?_
      show Steps p.tables e below (T41.setTop (mkF m 243 #[.val (.long q0), .second, .val (.int p1), .val (.int p2), .val (.int p3), .val (.ref b2), .val (.int zc), .val (.int zf), .val (.int (0 : Int32)), .val (.int (-1 : Int32)), .unset] [(.int zf), (.ref b2)])) _
      refine XS.iload X41.here hx rfl (hb hby at_243) rfl ?_
      exact k)
    obtain ⟨_, _, ⟨T45, L45, k45, n45⟩, -, X45, ⟨Lc45, hQ45, l45, y45, z45⟩, st45⟩ := Jvm.LawKit.callS X41 hx (y := (⟨"com/example/zemlja/zemlja/iso2709/Iso2709", "number", "([BII)I"⟩ : MethodName)) hown (mvT hZ (hw _ (List.mem_of_getElem? (i := 9) rfl))) (mvT hZ (hw _ (List.mem_of_getElem? (i := 10) rfl))) (mvT hZ (hw _ (List.mem_of_getElem? (i := 11) rfl))) (mvT hZ (hw _ (List.mem_of_getElem? (i := 12) rfl))) (by decide) (backOf (W := 0) (rm3 l Z a0 hw [] b2 zf zc k2 [(.int (nar .byte (own_ba q0 p1 (0 : Int32)))), (.int (nar .byte (own_ba q0 p1 (1 : Int32)))), (.int (nar .byte (own_ba q0 p1 (2 : Int32)))), (.int (nar .byte (own_ba q0 p1 (3 : Int32)))), (.int (nar .byte (own_ba q0 p1 (4 : Int32)))), (.int (nar .byte (own_ba q0 p1 (5 : Int32)))), (.int (nar .byte (own_ba q0 p1 (6 : Int32))))] (own_f q0 p1) fn cn h36 n0 Z36 V36 (own_hv q0 p1) hfn hcn hle) hZ (hw _ (List.mem_of_getElem? (i := 12) rfl)) (hw _ (List.mem_of_getElem? (i := 11) rfl)) (by decide) (by decide)) (g := (mkF m 245 #[.val (.long q0), .second, .val (.int p1), .val (.int p2), .val (.int p3), .val (.ref b2), .val (.int zc), .val (.int zf), .val (.int (0 : Int32)), .val (.int (-1 : Int32)), .unset] [(.int zc), (.int zf), (.ref b2)])) rfl (by rw [hml]; rfl) (argsL := [(.ref b2), (.int zf), (.int zc)]) (rest := []) (lenOf pd0_2 rfl) rfl (by show 2 * 0 + _ ≤ _; exact Nat.le_of_eq rfl) (hb hby at_245) (fun _ _ => ⟨rfl, e41, (by decide : 1 + 0 ≤ _), (by decide : 7 + 0 ≤ _)⟩)
    dsimp only [Pt.U, Pt.locs, Pt.cells, Pt.slots] at X45 l45 y45 z45 st45 hQ45
    rw [l45, y45, z45] at X45
    obtain ⟨rfl, N45q, e45⟩ := hQ45
    have N45 := Fr.app N41 N45q
    have go45 := go44.step (C := T45.setTop (mkF m 248 #[.val (.long q0), .second, .val (.int p1), .val (.int p2), .val (.int p3), .val (.ref b2), .val (.int zc), .val (.int zf), .val (.int (0 : Int32)), .val (.int (-1 : Int32)), .unset] [(.int (own_num (own_f q0 p1) fn cn (0 : Int32)))])) (fun t k => st45 t k)
    have go47 := go45.step (C := T45.setTop (mkF m 262 #[.val (.long q0), .second, .val (.int p1), .val (.int p2), .val (.int p3), .val (.ref b2), .val (.int zc), .val (.int zf), .val (.int (0 : Int32)), .val (.int (-1 : Int32)), .val (.int (own_num (own_f q0 p1) fn cn (0 : Int32)))] [(.int (1 : Int32))])) (fun t k => by
      show Steps p.tables e below (T45.setTop (mkF m 248 #[.val (.long q0), .second, .val (.int p1), .val (.int p2), .val (.int p3), .val (.ref b2), .val (.int zc), .val (.int zf), .val (.int (0 : Int32)), .val (.int (-1 : Int32)), .unset] [(.int (own_num (own_f q0 p1) fn cn (0 : Int32)))])) _
      refine XS.istore X45.here hx rfl (hb hby at_248) rfl (l' := #[.val (.long q0), .second, .val (.int p1), .val (.int p2), .val (.int p3), .val (.ref b2), .val (.int zc), .val (.int zf), .val (.int (0 : Int32)), .val (.int (-1 : Int32)), .val (.int (own_num (own_f q0 p1) fn cn (0 : Int32)))]) rfl ?_
      show Steps p.tables e below (T45.setTop (mkF m 250 #[.val (.long q0), .second, .val (.int p1), .val (.int p2), .val (.int p3), .val (.ref b2), .val (.int zc), .val (.int zf), .val (.int (0 : Int32)), .val (.int (-1 : Int32)), .val (.int (own_num (own_f q0 p1) fn cn (0 : Int32)))] [])) _
      refine XS.iload X45.here hx rfl (hb hby at_250) rfl ?_
      show Steps p.tables e below (T45.setTop (mkF m 252 #[.val (.long q0), .second, .val (.int p1), .val (.int p2), .val (.int p3), .val (.ref b2), .val (.int zc), .val (.int zf), .val (.int (0 : Int32)), .val (.int (-1 : Int32)), .val (.int (own_num (own_f q0 p1) fn cn (0 : Int32)))] [(.int (own_num (own_f q0 p1) fn cn (0 : Int32)))])) _
      refine XS.iload X45.here hx rfl (hb hby at_252) rfl ?_
      show Steps p.tables e below (T45.setTop (mkF m 254 #[.val (.long q0), .second, .val (.int p1), .val (.int p2), .val (.int p3), .val (.ref b2), .val (.int zc), .val (.int zf), .val (.int (0 : Int32)), .val (.int (-1 : Int32)), .val (.int (own_num (own_f q0 p1) fn cn (0 : Int32)))] [(.int (-1 : Int32)), (.int (own_num (own_f q0 p1) fn cn (0 : Int32)))])) _
      refine XS.icmpNo X45.here hx rfl (hb hby at_254) rfl (teq (own_bad0 hcn hc42 : (own_num (own_f q0 p1) fn cn (0 : Int32)) = (-1 : Int32))).2 ?_
      show Steps p.tables e below (T45.setTop (mkF m 257 #[.val (.long q0), .second, .val (.int p1), .val (.int p2), .val (.int p3), .val (.ref b2), .val (.int zc), .val (.int zf), .val (.int (0 : Int32)), .val (.int (-1 : Int32)), .val (.int (own_num (own_f q0 p1) fn cn (0 : Int32)))] [])) _
      refine XS.iconst X45.here hx rfl (hb hby at_257) ?_
      show Steps p.tables e below (T45.setTop (mkF m 258 #[.val (.long q0), .second, .val (.int p1), .val (.int p2), .val (.int p3), .val (.ref b2), .val (.int zc), .val (.int zf), .val (.int (0 : Int32)), .val (.int (-1 : Int32)), .val (.int (own_num (own_f q0 p1) fn cn (0 : Int32)))] [(.int (1 : Int32))])) _
      refine XS.goto X45.here hx rfl (pc0 := 258) (pc' := 262) rfl (hb hby at_258) (by decide) (by decide) ?_
      exact k)
    obtain ⟨fs, hr, hrun, hended, hW, hsame⟩ := X45.leave (v := some (.int (1 : Int32))) (fun h => by rw [Bd.returns] at h; cases h)
    refine ⟨_, _, go47 _ ?_, hrun, hended, _, _, rfl, ?_, ⟨_, rfl⟩, hW, hsame.mono (by decide) (by decide)⟩
    · exact retN X45 hx (t := .boolean) Bd.returns (by simp) (hb hby at_262) hr
    · show Q_rm0 Z q0 p1 p2 p3 h0 n0 _ T45.heap _
      rw [e45]
      exact ⟨rfl, N45⟩
  · skip
    have go48 := go41.step (C := T41.setTop (mkF m 120 #[.val (.long q0), .second, .val (.int p1), .val (.int p2), .val (.int p3), .val (.ref b2), .val (.int zc), .val (.int zf), .unset, .unset, .unset] [(.int (1 : Int32)), (.int zc), (.int zf), (.ref b2)])) (fun t k => by
      show Steps p.tables e below (T41.setTop (mkF m 110 #[.val (.long q0), .second, .val (.int p1), .val (.int p2), .val (.int p3), .val (.ref b2), .val (.int zc), .val (.int zf), .unset, .unset, .unset] [(.int (own_ok zc (0 : Int32) (own_f q0 p1) fn))])) _
      refine XS.ifNo X41.here hx rfl (hb hby at_110) rfl ((if0 _ _).trans (feq hc42).1) ?_
      show Steps p.tables e below (T41.setTop (mkF m 113 #[.val (.long q0), .second, .val (.int p1), .val (.int p2), .val (.int p3), .val (.ref b2), .val (.int zc), .val (.int zf), .unset, .unset, .unset] [])) _
      refine XS.aload X41.here hx rfl (hb hby at_113) rfl rfl ?_
      show Steps p.tables e below (T41.setTop (mkF m 115 #[.val (.long q0), .second, .val (.int p1), .val (.int p2), .val (.int p3), .val (.ref b2), .val (.int zc), .val (.int zf), .unset, .unset, .unset] [(.ref b2)])) _
      refine XS.iload X41.here hx rfl (hb hby at_115) rfl ?_
      show Steps p.tables e below (T41.setTop (mkF m 117 #[.val (.long q0), .second, .val (.int p1), .val (.int p2), .val (.int p3), .val (.ref b2), .val (.int zc), .val (.int zf), .unset, .unset, .unset] [(.int zf), (.ref b2)])) _
      refine XS.iload X41.here hx rfl (hb hby at_117) rfl ?_
      show Steps p.tables e below (T41.setTop (mkF m 119 #[.val (.long q0), .second, .val (.int p1), .val (.int p2), .val (.int p3), .val (.ref b2), .val (.int zc), .val (.int zf), .unset, .unset, .unset] [(.int zc), (.int zf), (.ref b2)])) _
      refine XS.iconst X41.here hx rfl (hb hby at_119) ?_
      exact k)
    obtain ⟨_, _, ⟨T49, L49, k49, n49⟩, -, X49, ⟨Lc49, hQ49, l49, y49, z49⟩, st49⟩ := Jvm.LawKit.callS X41 hx (y := (⟨"com/example/zemlja/zemlja/iso2709/Iso2709NumberPinLaw", "ok", "([BIII)Z"⟩ : MethodName)) hown (mvT hZ (hw _ (List.mem_of_getElem? (i := 6) rfl))) (mvT hZ (hw _ (List.mem_of_getElem? (i := 7) rfl))) (mvT hZ (hw _ (List.mem_of_getElem? (i := 3) rfl))) (mvT hZ (hw _ (List.mem_of_getElem? (i := 8) rfl))) (by decide) (backOf (W := 0) (rm2 l Z a0 hw [] b2 zf zc (1 : Int32) k2 [(.int (nar .byte (own_ba q0 p1 (0 : Int32)))), (.int (nar .byte (own_ba q0 p1 (1 : Int32)))), (.int (nar .byte (own_ba q0 p1 (2 : Int32)))), (.int (nar .byte (own_ba q0 p1 (3 : Int32)))), (.int (nar .byte (own_ba q0 p1 (4 : Int32)))), (.int (nar .byte (own_ba q0 p1 (5 : Int32)))), (.int (nar .byte (own_ba q0 p1 (6 : Int32))))] (own_f q0 p1) (fn + 1) h36 n0 Z36 V36 (own_hv q0 p1) (own_hi (i := 1) hfn hcn hle rfl (by decide)).1 (own_hi (i := 1) hfn hcn hle rfl (by decide)).2) hZ (hw _ (List.mem_of_getElem? (i := 8) rfl)) (hw _ (List.mem_of_getElem? (i := 3) rfl)) (by decide) (by decide)) (g := (mkF m 120 #[.val (.long q0), .second, .val (.int p1), .val (.int p2), .val (.int p3), .val (.ref b2), .val (.int zc), .val (.int zf), .unset, .unset, .unset] [(.int (1 : Int32)), (.int zc), (.int zf), (.ref b2)])) rfl (by rw [hml]; rfl) (argsL := [(.ref b2), (.int zf), (.int zc), (.int (1 : Int32))]) (rest := []) (lenOf pd0_1 rfl) rfl (by show 2 * 0 + _ ≤ _; exact Nat.le_of_eq rfl) (hb hby at_120) (fun _ _ => ⟨rfl, e41, (by decide : 1 + 0 ≤ _), (by decide : 7 + 0 ≤ _)⟩)
    dsimp only [Pt.U, Pt.locs, Pt.cells, Pt.slots] at X49 l49 y49 z49 st49 hQ49
    rw [l49, y49, z49] at X49
    obtain ⟨rfl, N49q, e49⟩ := hQ49
    have N49 := Fr.app N41 N49q
    have go49 := go48.step (C := T49.setTop (mkF m 123 #[.val (.long q0), .second, .val (.int p1), .val (.int p2), .val (.int p3), .val (.ref b2), .val (.int zc), .val (.int zf), .unset, .unset, .unset] [(.int (own_ok zc (1 : Int32) (own_f q0 p1) (fn + 1)))])) (fun t k => st49 t k)
    by_cases hc50 : (own_ok zc (1 : Int32) (own_f q0 p1) (fn + 1)) = (0 : Int32)
    · skip
      have go52 := go49.step (C := T49.setTop (mkF m 245 #[.val (.long q0), .second, .val (.int p1), .val (.int p2), .val (.int p3), .val (.ref b2), .val (.int zc), .val (.int zf), .val (.int (0 : Int32)), .val (.int (-1 : Int32)), .unset] [(.int zc), (.int zf), (.ref b2)])) (fun t k => by
        show Steps p.tables e below (T49.setTop (mkF m 123 #[.val (.long q0), .second, .val (.int p1), .val (.int p2), .val (.int p3), .val (.ref b2), .val (.int zc), .val (.int zf), .unset, .unset, .unset] [(.int (own_ok zc (1 : Int32) (own_f q0 p1) (fn + 1)))])) _
        refine XS.ifYes X49.here hx rfl (pc0 := 123) (pc' := 169) rfl (hb hby at_123) rfl ((if0 _ _).trans (teq hc50).1) (by decide) (by decide) ?_
        show Steps p.tables e below (T49.setTop (mkF m 169 #[.val (.long q0), .second, .val (.int p1), .val (.int p2), .val (.int p3), .val (.ref b2), .val (.int zc), .val (.int zf), .unset, .unset, .unset] [])) _
        refine XS.iconst X49.here hx rfl (hb hby at_169) ?_
        show Steps p.tables e below (T49.setTop (mkF m 170 #[.val (.long q0), .second, .val (.int p1), .val (.int p2), .val (.int p3), .val (.ref b2), .val (.int zc), .val (.int zf), .unset, .unset, .unset] [(.int (0 : Int32))])) _
        refine XS.istore X49.here hx rfl (hb hby at_170) rfl (l' := #[.val (.long q0), .second, .val (.int p1), .val (.int p2), .val (.int p3), .val (.ref b2), .val (.int zc), .val (.int zf), .val (.int (0 : Int32)), .unset, .unset]) rfl ?_
        show Steps p.tables e below (T49.setTop (mkF m 172 #[.val (.long q0), .second, .val (.int p1), .val (.int p2), .val (.int p3), .val (.ref b2), .val (.int zc), .val (.int zf), .val (.int (0 : Int32)), .unset, .unset] [])) _
        refine XS.iload X49.here hx rfl (hb hby at_172) rfl ?_
        show Steps p.tables e below (T49.setTop (mkF m 174 #[.val (.long q0), .second, .val (.int p1), .val (.int p2), .val (.int p3), .val (.ref b2), .val (.int zc), .val (.int zf), .val (.int (0 : Int32)), .unset, .unset] [(.int (0 : Int32))])) _
        refine XS.ifYes X49.here hx rfl (pc0 := 174) (pc' := 236) rfl (hb hby at_174) rfl ((if0 _ _).trans (teq ((by decide) : (0 : Int32) = (0 : Int32))).1) (by decide) (by decide) ?_
        show Steps p.tables e below (T49.setTop (mkF m 236 #[.val (.long q0), .second, .val (.int p1), .val (.int p2), .val (.int p3), .val (.ref b2), .val (.int zc), .val (.int zf), .val (.int (0 : Int32)), .unset, .unset] [])) _
        refine XS.iconst X49.here hx rfl (hb hby at_236) ?_
        show Steps p.tables e below (T49.setTop (mkF m 237 #[.val (.long q0), .second, .val (.int p1), .val (.int p2), .val (.int p3), .val (.ref b2), .val (.int zc), .val (.int zf), .val (.int (0 : Int32)), .unset, .unset] [(.int (-1 : Int32))])) _
        refine XS.istore X49.here hx rfl (hb hby at_237) rfl (l' := #[.val (.long q0), .second, .val (.int p1), .val (.int p2), .val (.int p3), .val (.ref b2), .val (.int zc), .val (.int zf), .val (.int (0 : Int32)), .val (.int (-1 : Int32)), .unset]) rfl ?_
        show Steps p.tables e below (T49.setTop (mkF m 239 #[.val (.long q0), .second, .val (.int p1), .val (.int p2), .val (.int p3), .val (.ref b2), .val (.int zc), .val (.int zf), .val (.int (0 : Int32)), .val (.int (-1 : Int32)), .unset] [])) _
        refine XS.aload X49.here hx rfl (hb hby at_239) rfl rfl ?_
        show Steps p.tables e below (T49.setTop (mkF m 241 #[.val (.long q0), .second, .val (.int p1), .val (.int p2), .val (.int p3), .val (.ref b2), .val (.int zc), .val (.int zf), .val (.int (0 : Int32)), .val (.int (-1 : Int32)), .unset] [(.ref b2)])) _
        refine XS.iload X49.here hx rfl (hb hby at_241) rfl ?_
        show Steps p.tables e below (T49.setTop (mkF m 243 #[.val (.long q0), .second, .val (.int p1), .val (.int p2), .val (.int p3), .val (.ref b2), .val (.int zc), .val (.int zf), .val (.int (0 : Int32)), .val (.int (-1 : Int32)), .unset] [(.int zf), (.ref b2)])) _
        refine XS.iload X49.here hx rfl (hb hby at_243) rfl ?_
        exact k)
      obtain ⟨_, _, ⟨T53, L53, k53, n53⟩, -, X53, ⟨Lc53, hQ53, l53, y53, z53⟩, st53⟩ := Jvm.LawKit.callS X49 hx (y := (⟨"com/example/zemlja/zemlja/iso2709/Iso2709", "number", "([BII)I"⟩ : MethodName)) hown (mvT hZ (hw _ (List.mem_of_getElem? (i := 9) rfl))) (mvT hZ (hw _ (List.mem_of_getElem? (i := 10) rfl))) (mvT hZ (hw _ (List.mem_of_getElem? (i := 11) rfl))) (mvT hZ (hw _ (List.mem_of_getElem? (i := 12) rfl))) (by decide) (backOf (W := 0) (rm3 l Z a0 hw [] b2 zf zc k2 [(.int (nar .byte (own_ba q0 p1 (0 : Int32)))), (.int (nar .byte (own_ba q0 p1 (1 : Int32)))), (.int (nar .byte (own_ba q0 p1 (2 : Int32)))), (.int (nar .byte (own_ba q0 p1 (3 : Int32)))), (.int (nar .byte (own_ba q0 p1 (4 : Int32)))), (.int (nar .byte (own_ba q0 p1 (5 : Int32)))), (.int (nar .byte (own_ba q0 p1 (6 : Int32))))] (own_f q0 p1) fn cn h36 n0 Z36 V36 (own_hv q0 p1) hfn hcn hle) hZ (hw _ (List.mem_of_getElem? (i := 12) rfl)) (hw _ (List.mem_of_getElem? (i := 11) rfl)) (by decide) (by decide)) (g := (mkF m 245 #[.val (.long q0), .second, .val (.int p1), .val (.int p2), .val (.int p3), .val (.ref b2), .val (.int zc), .val (.int zf), .val (.int (0 : Int32)), .val (.int (-1 : Int32)), .unset] [(.int zc), (.int zf), (.ref b2)])) rfl (by rw [hml]; rfl) (argsL := [(.ref b2), (.int zf), (.int zc)]) (rest := []) (lenOf pd0_2 rfl) rfl (by show 2 * 0 + _ ≤ _; exact Nat.le_of_eq rfl) (hb hby at_245) (fun _ _ => ⟨rfl, e49, (by decide : 1 + 0 ≤ _), (by decide : 7 + 0 ≤ _)⟩)
      dsimp only [Pt.U, Pt.locs, Pt.cells, Pt.slots] at X53 l53 y53 z53 st53 hQ53
      rw [l53, y53, z53] at X53
      obtain ⟨rfl, N53q, e53⟩ := hQ53
      have N53 := Fr.app N49 N53q
      have go53 := go52.step (C := T53.setTop (mkF m 248 #[.val (.long q0), .second, .val (.int p1), .val (.int p2), .val (.int p3), .val (.ref b2), .val (.int zc), .val (.int zf), .val (.int (0 : Int32)), .val (.int (-1 : Int32)), .unset] [(.int (own_num (own_f q0 p1) fn cn (0 : Int32)))])) (fun t k => st53 t k)
      have go55 := go53.step (C := T53.setTop (mkF m 262 #[.val (.long q0), .second, .val (.int p1), .val (.int p2), .val (.int p3), .val (.ref b2), .val (.int zc), .val (.int zf), .val (.int (0 : Int32)), .val (.int (-1 : Int32)), .val (.int (own_num (own_f q0 p1) fn cn (0 : Int32)))] [(.int (1 : Int32))])) (fun t k => by
        show Steps p.tables e below (T53.setTop (mkF m 248 #[.val (.long q0), .second, .val (.int p1), .val (.int p2), .val (.int p3), .val (.ref b2), .val (.int zc), .val (.int zf), .val (.int (0 : Int32)), .val (.int (-1 : Int32)), .unset] [(.int (own_num (own_f q0 p1) fn cn (0 : Int32)))])) _
        refine XS.istore X53.here hx rfl (hb hby at_248) rfl (l' := #[.val (.long q0), .second, .val (.int p1), .val (.int p2), .val (.int p3), .val (.ref b2), .val (.int zc), .val (.int zf), .val (.int (0 : Int32)), .val (.int (-1 : Int32)), .val (.int (own_num (own_f q0 p1) fn cn (0 : Int32)))]) rfl ?_
        show Steps p.tables e below (T53.setTop (mkF m 250 #[.val (.long q0), .second, .val (.int p1), .val (.int p2), .val (.int p3), .val (.ref b2), .val (.int zc), .val (.int zf), .val (.int (0 : Int32)), .val (.int (-1 : Int32)), .val (.int (own_num (own_f q0 p1) fn cn (0 : Int32)))] [])) _
        refine XS.iload X53.here hx rfl (hb hby at_250) rfl ?_
        show Steps p.tables e below (T53.setTop (mkF m 252 #[.val (.long q0), .second, .val (.int p1), .val (.int p2), .val (.int p3), .val (.ref b2), .val (.int zc), .val (.int zf), .val (.int (0 : Int32)), .val (.int (-1 : Int32)), .val (.int (own_num (own_f q0 p1) fn cn (0 : Int32)))] [(.int (own_num (own_f q0 p1) fn cn (0 : Int32)))])) _
        refine XS.iload X53.here hx rfl (hb hby at_252) rfl ?_
        show Steps p.tables e below (T53.setTop (mkF m 254 #[.val (.long q0), .second, .val (.int p1), .val (.int p2), .val (.int p3), .val (.ref b2), .val (.int zc), .val (.int zf), .val (.int (0 : Int32)), .val (.int (-1 : Int32)), .val (.int (own_num (own_f q0 p1) fn cn (0 : Int32)))] [(.int (-1 : Int32)), (.int (own_num (own_f q0 p1) fn cn (0 : Int32)))])) _
        refine XS.icmpNo X53.here hx rfl (hb hby at_254) rfl (teq (own_bad1 hcn hc42 hc50 : (own_num (own_f q0 p1) fn cn (0 : Int32)) = (-1 : Int32))).2 ?_
        show Steps p.tables e below (T53.setTop (mkF m 257 #[.val (.long q0), .second, .val (.int p1), .val (.int p2), .val (.int p3), .val (.ref b2), .val (.int zc), .val (.int zf), .val (.int (0 : Int32)), .val (.int (-1 : Int32)), .val (.int (own_num (own_f q0 p1) fn cn (0 : Int32)))] [])) _
        refine XS.iconst X53.here hx rfl (hb hby at_257) ?_
        show Steps p.tables e below (T53.setTop (mkF m 258 #[.val (.long q0), .second, .val (.int p1), .val (.int p2), .val (.int p3), .val (.ref b2), .val (.int zc), .val (.int zf), .val (.int (0 : Int32)), .val (.int (-1 : Int32)), .val (.int (own_num (own_f q0 p1) fn cn (0 : Int32)))] [(.int (1 : Int32))])) _
        refine XS.goto X53.here hx rfl (pc0 := 258) (pc' := 262) rfl (hb hby at_258) (by decide) (by decide) ?_
        exact k)
      obtain ⟨fs, hr, hrun, hended, hW, hsame⟩ := X53.leave (v := some (.int (1 : Int32))) (fun h => by rw [Bd.returns] at h; cases h)
      refine ⟨_, _, go55 _ ?_, hrun, hended, _, _, rfl, ?_, ⟨_, rfl⟩, hW, hsame.mono (by decide) (by decide)⟩
      · exact retN X53 hx (t := .boolean) Bd.returns (by simp) (hb hby at_262) hr
      · show Q_rm0 Z q0 p1 p2 p3 h0 n0 _ T53.heap _
        rw [e53]
        exact ⟨rfl, N53⟩
    · skip
      have go56 := go49.step (C := T49.setTop (mkF m 133 #[.val (.long q0), .second, .val (.int p1), .val (.int p2), .val (.int p3), .val (.ref b2), .val (.int zc), .val (.int zf), .unset, .unset, .unset] [(.int (2 : Int32)), (.int zc), (.int zf), (.ref b2)])) (fun t k => by
        show Steps p.tables e below (T49.setTop (mkF m 123 #[.val (.long q0), .second, .val (.int p1), .val (.int p2), .val (.int p3), .val (.ref b2), .val (.int zc), .val (.int zf), .unset, .unset, .unset] [(.int (own_ok zc (1 : Int32) (own_f q0 p1) (fn + 1)))])) _
        refine XS.ifNo X49.here hx rfl (hb hby at_123) rfl ((if0 _ _).trans (feq hc50).1) ?_
        show Steps p.tables e below (T49.setTop (mkF m 126 #[.val (.long q0), .second, .val (.int p1), .val (.int p2), .val (.int p3), .val (.ref b2), .val (.int zc), .val (.int zf), .unset, .unset, .unset] [])) _
        refine XS.aload X49.here hx rfl (hb hby at_126) rfl rfl ?_
        show Steps p.tables e below (T49.setTop (mkF m 128 #[.val (.long q0), .second, .val (.int p1), .val (.int p2), .val (.int p3), .val (.ref b2), .val (.int zc), .val (.int zf), .unset, .unset, .unset] [(.ref b2)])) _
        refine XS.iload X49.here hx rfl (hb hby at_128) rfl ?_
        show Steps p.tables e below (T49.setTop (mkF m 130 #[.val (.long q0), .second, .val (.int p1), .val (.int p2), .val (.int p3), .val (.ref b2), .val (.int zc), .val (.int zf), .unset, .unset, .unset] [(.int zf), (.ref b2)])) _
        refine XS.iload X49.here hx rfl (hb hby at_130) rfl ?_
        show Steps p.tables e below (T49.setTop (mkF m 132 #[.val (.long q0), .second, .val (.int p1), .val (.int p2), .val (.int p3), .val (.ref b2), .val (.int zc), .val (.int zf), .unset, .unset, .unset] [(.int zc), (.int zf), (.ref b2)])) _
        refine XS.iconst X49.here hx rfl (hb hby at_132) ?_
        exact k)
      obtain ⟨_, _, ⟨T57, L57, k57, n57⟩, -, X57, ⟨Lc57, hQ57, l57, y57, z57⟩, st57⟩ := Jvm.LawKit.callS X49 hx (y := (⟨"com/example/zemlja/zemlja/iso2709/Iso2709NumberPinLaw", "ok", "([BIII)Z"⟩ : MethodName)) hown (mvT hZ (hw _ (List.mem_of_getElem? (i := 6) rfl))) (mvT hZ (hw _ (List.mem_of_getElem? (i := 7) rfl))) (mvT hZ (hw _ (List.mem_of_getElem? (i := 3) rfl))) (mvT hZ (hw _ (List.mem_of_getElem? (i := 8) rfl))) (by decide) (backOf (W := 0) (rm2 l Z a0 hw [] b2 zf zc (2 : Int32) k2 [(.int (nar .byte (own_ba q0 p1 (0 : Int32)))), (.int (nar .byte (own_ba q0 p1 (1 : Int32)))), (.int (nar .byte (own_ba q0 p1 (2 : Int32)))), (.int (nar .byte (own_ba q0 p1 (3 : Int32)))), (.int (nar .byte (own_ba q0 p1 (4 : Int32)))), (.int (nar .byte (own_ba q0 p1 (5 : Int32)))), (.int (nar .byte (own_ba q0 p1 (6 : Int32))))] (own_f q0 p1) (fn + 2) h36 n0 Z36 V36 (own_hv q0 p1) (own_hi (i := 2) hfn hcn hle rfl (by decide)).1 (own_hi (i := 2) hfn hcn hle rfl (by decide)).2) hZ (hw _ (List.mem_of_getElem? (i := 8) rfl)) (hw _ (List.mem_of_getElem? (i := 3) rfl)) (by decide) (by decide)) (g := (mkF m 133 #[.val (.long q0), .second, .val (.int p1), .val (.int p2), .val (.int p3), .val (.ref b2), .val (.int zc), .val (.int zf), .unset, .unset, .unset] [(.int (2 : Int32)), (.int zc), (.int zf), (.ref b2)])) rfl (by rw [hml]; rfl) (argsL := [(.ref b2), (.int zf), (.int zc), (.int (2 : Int32))]) (rest := []) (lenOf pd0_1 rfl) rfl (by show 2 * 0 + _ ≤ _; exact Nat.le_of_eq rfl) (hb hby at_133) (fun _ _ => ⟨rfl, e49, (by decide : 1 + 0 ≤ _), (by decide : 7 + 0 ≤ _)⟩)
      dsimp only [Pt.U, Pt.locs, Pt.cells, Pt.slots] at X57 l57 y57 z57 st57 hQ57
      rw [l57, y57, z57] at X57
      obtain ⟨rfl, N57q, e57⟩ := hQ57
      have N57 := Fr.app N49 N57q
      have go57 := go56.step (C := T57.setTop (mkF m 136 #[.val (.long q0), .second, .val (.int p1), .val (.int p2), .val (.int p3), .val (.ref b2), .val (.int zc), .val (.int zf), .unset, .unset, .unset] [(.int (own_ok zc (2 : Int32) (own_f q0 p1) (fn + 2)))])) (fun t k => st57 t k)
      by_cases hc58 : (own_ok zc (2 : Int32) (own_f q0 p1) (fn + 2)) = (0 : Int32)
      · skip
        have go60 := go57.step (C := T57.setTop (mkF m 245 #[.val (.long q0), .second, .val (.int p1), .val (.int p2), .val (.int p3), .val (.ref b2), .val (.int zc), .val (.int zf), .val (.int (0 : Int32)), .val (.int (-1 : Int32)), .unset] [(.int zc), (.int zf), (.ref b2)])) (fun t k => by
          show Steps p.tables e below (T57.setTop (mkF m 136 #[.val (.long q0), .second, .val (.int p1), .val (.int p2), .val (.int p3), .val (.ref b2), .val (.int zc), .val (.int zf), .unset, .unset, .unset] [(.int (own_ok zc (2 : Int32) (own_f q0 p1) (fn + 2)))])) _
          refine XS.ifYes X57.here hx rfl (pc0 := 136) (pc' := 169) rfl (hb hby at_136) rfl ((if0 _ _).trans (teq hc58).1) (by decide) (by decide) ?_
          show Steps p.tables e below (T57.setTop (mkF m 169 #[.val (.long q0), .second, .val (.int p1), .val (.int p2), .val (.int p3), .val (.ref b2), .val (.int zc), .val (.int zf), .unset, .unset, .unset] [])) _
          refine XS.iconst X57.here hx rfl (hb hby at_169) ?_
          show Steps p.tables e below (T57.setTop (mkF m 170 #[.val (.long q0), .second, .val (.int p1), .val (.int p2), .val (.int p3), .val (.ref b2), .val (.int zc), .val (.int zf), .unset, .unset, .unset] [(.int (0 : Int32))])) _
          refine XS.istore X57.here hx rfl (hb hby at_170) rfl (l' := #[.val (.long q0), .second, .val (.int p1), .val (.int p2), .val (.int p3), .val (.ref b2), .val (.int zc), .val (.int zf), .val (.int (0 : Int32)), .unset, .unset]) rfl ?_
          show Steps p.tables e below (T57.setTop (mkF m 172 #[.val (.long q0), .second, .val (.int p1), .val (.int p2), .val (.int p3), .val (.ref b2), .val (.int zc), .val (.int zf), .val (.int (0 : Int32)), .unset, .unset] [])) _
          refine XS.iload X57.here hx rfl (hb hby at_172) rfl ?_
          show Steps p.tables e below (T57.setTop (mkF m 174 #[.val (.long q0), .second, .val (.int p1), .val (.int p2), .val (.int p3), .val (.ref b2), .val (.int zc), .val (.int zf), .val (.int (0 : Int32)), .unset, .unset] [(.int (0 : Int32))])) _
          refine XS.ifYes X57.here hx rfl (pc0 := 174) (pc' := 236) rfl (hb hby at_174) rfl ((if0 _ _).trans (teq ((by decide) : (0 : Int32) = (0 : Int32))).1) (by decide) (by decide) ?_
          show Steps p.tables e below (T57.setTop (mkF m 236 #[.val (.long q0), .second, .val (.int p1), .val (.int p2), .val (.int p3), .val (.ref b2), .val (.int zc), .val (.int zf), .val (.int (0 : Int32)), .unset, .unset] [])) _
          refine XS.iconst X57.here hx rfl (hb hby at_236) ?_
          show Steps p.tables e below (T57.setTop (mkF m 237 #[.val (.long q0), .second, .val (.int p1), .val (.int p2), .val (.int p3), .val (.ref b2), .val (.int zc), .val (.int zf), .val (.int (0 : Int32)), .unset, .unset] [(.int (-1 : Int32))])) _
          refine XS.istore X57.here hx rfl (hb hby at_237) rfl (l' := #[.val (.long q0), .second, .val (.int p1), .val (.int p2), .val (.int p3), .val (.ref b2), .val (.int zc), .val (.int zf), .val (.int (0 : Int32)), .val (.int (-1 : Int32)), .unset]) rfl ?_
          show Steps p.tables e below (T57.setTop (mkF m 239 #[.val (.long q0), .second, .val (.int p1), .val (.int p2), .val (.int p3), .val (.ref b2), .val (.int zc), .val (.int zf), .val (.int (0 : Int32)), .val (.int (-1 : Int32)), .unset] [])) _
          refine XS.aload X57.here hx rfl (hb hby at_239) rfl rfl ?_
          show Steps p.tables e below (T57.setTop (mkF m 241 #[.val (.long q0), .second, .val (.int p1), .val (.int p2), .val (.int p3), .val (.ref b2), .val (.int zc), .val (.int zf), .val (.int (0 : Int32)), .val (.int (-1 : Int32)), .unset] [(.ref b2)])) _
          refine XS.iload X57.here hx rfl (hb hby at_241) rfl ?_
          show Steps p.tables e below (T57.setTop (mkF m 243 #[.val (.long q0), .second, .val (.int p1), .val (.int p2), .val (.int p3), .val (.ref b2), .val (.int zc), .val (.int zf), .val (.int (0 : Int32)), .val (.int (-1 : Int32)), .unset] [(.int zf), (.ref b2)])) _
          refine XS.iload X57.here hx rfl (hb hby at_243) rfl ?_
          exact k)
        obtain ⟨_, _, ⟨T61, L61, k61, n61⟩, -, X61, ⟨Lc61, hQ61, l61, y61, z61⟩, st61⟩ := Jvm.LawKit.callS X57 hx (y := (⟨"com/example/zemlja/zemlja/iso2709/Iso2709", "number", "([BII)I"⟩ : MethodName)) hown (mvT hZ (hw _ (List.mem_of_getElem? (i := 9) rfl))) (mvT hZ (hw _ (List.mem_of_getElem? (i := 10) rfl))) (mvT hZ (hw _ (List.mem_of_getElem? (i := 11) rfl))) (mvT hZ (hw _ (List.mem_of_getElem? (i := 12) rfl))) (by decide) (backOf (W := 0) (rm3 l Z a0 hw [] b2 zf zc k2 [(.int (nar .byte (own_ba q0 p1 (0 : Int32)))), (.int (nar .byte (own_ba q0 p1 (1 : Int32)))), (.int (nar .byte (own_ba q0 p1 (2 : Int32)))), (.int (nar .byte (own_ba q0 p1 (3 : Int32)))), (.int (nar .byte (own_ba q0 p1 (4 : Int32)))), (.int (nar .byte (own_ba q0 p1 (5 : Int32)))), (.int (nar .byte (own_ba q0 p1 (6 : Int32))))] (own_f q0 p1) fn cn h36 n0 Z36 V36 (own_hv q0 p1) hfn hcn hle) hZ (hw _ (List.mem_of_getElem? (i := 12) rfl)) (hw _ (List.mem_of_getElem? (i := 11) rfl)) (by decide) (by decide)) (g := (mkF m 245 #[.val (.long q0), .second, .val (.int p1), .val (.int p2), .val (.int p3), .val (.ref b2), .val (.int zc), .val (.int zf), .val (.int (0 : Int32)), .val (.int (-1 : Int32)), .unset] [(.int zc), (.int zf), (.ref b2)])) rfl (by rw [hml]; rfl) (argsL := [(.ref b2), (.int zf), (.int zc)]) (rest := []) (lenOf pd0_2 rfl) rfl (by show 2 * 0 + _ ≤ _; exact Nat.le_of_eq rfl) (hb hby at_245) (fun _ _ => ⟨rfl, e57, (by decide : 1 + 0 ≤ _), (by decide : 7 + 0 ≤ _)⟩)
        dsimp only [Pt.U, Pt.locs, Pt.cells, Pt.slots] at X61 l61 y61 z61 st61 hQ61
        rw [l61, y61, z61] at X61
        obtain ⟨rfl, N61q, e61⟩ := hQ61
        have N61 := Fr.app N57 N61q
        have go61 := go60.step (C := T61.setTop (mkF m 248 #[.val (.long q0), .second, .val (.int p1), .val (.int p2), .val (.int p3), .val (.ref b2), .val (.int zc), .val (.int zf), .val (.int (0 : Int32)), .val (.int (-1 : Int32)), .unset] [(.int (own_num (own_f q0 p1) fn cn (0 : Int32)))])) (fun t k => st61 t k)
        have go63 := go61.step (C := T61.setTop (mkF m 262 #[.val (.long q0), .second, .val (.int p1), .val (.int p2), .val (.int p3), .val (.ref b2), .val (.int zc), .val (.int zf), .val (.int (0 : Int32)), .val (.int (-1 : Int32)), .val (.int (own_num (own_f q0 p1) fn cn (0 : Int32)))] [(.int (1 : Int32))])) (fun t k => by
          show Steps p.tables e below (T61.setTop (mkF m 248 #[.val (.long q0), .second, .val (.int p1), .val (.int p2), .val (.int p3), .val (.ref b2), .val (.int zc), .val (.int zf), .val (.int (0 : Int32)), .val (.int (-1 : Int32)), .unset] [(.int (own_num (own_f q0 p1) fn cn (0 : Int32)))])) _
          refine XS.istore X61.here hx rfl (hb hby at_248) rfl (l' := #[.val (.long q0), .second, .val (.int p1), .val (.int p2), .val (.int p3), .val (.ref b2), .val (.int zc), .val (.int zf), .val (.int (0 : Int32)), .val (.int (-1 : Int32)), .val (.int (own_num (own_f q0 p1) fn cn (0 : Int32)))]) rfl ?_
          show Steps p.tables e below (T61.setTop (mkF m 250 #[.val (.long q0), .second, .val (.int p1), .val (.int p2), .val (.int p3), .val (.ref b2), .val (.int zc), .val (.int zf), .val (.int (0 : Int32)), .val (.int (-1 : Int32)), .val (.int (own_num (own_f q0 p1) fn cn (0 : Int32)))] [])) _
          refine XS.iload X61.here hx rfl (hb hby at_250) rfl ?_
          show Steps p.tables e below (T61.setTop (mkF m 252 #[.val (.long q0), .second, .val (.int p1), .val (.int p2), .val (.int p3), .val (.ref b2), .val (.int zc), .val (.int zf), .val (.int (0 : Int32)), .val (.int (-1 : Int32)), .val (.int (own_num (own_f q0 p1) fn cn (0 : Int32)))] [(.int (own_num (own_f q0 p1) fn cn (0 : Int32)))])) _
          refine XS.iload X61.here hx rfl (hb hby at_252) rfl ?_
          show Steps p.tables e below (T61.setTop (mkF m 254 #[.val (.long q0), .second, .val (.int p1), .val (.int p2), .val (.int p3), .val (.ref b2), .val (.int zc), .val (.int zf), .val (.int (0 : Int32)), .val (.int (-1 : Int32)), .val (.int (own_num (own_f q0 p1) fn cn (0 : Int32)))] [(.int (-1 : Int32)), (.int (own_num (own_f q0 p1) fn cn (0 : Int32)))])) _
          refine XS.icmpNo X61.here hx rfl (hb hby at_254) rfl (teq (own_bad2 hcn hc42 hc50 hc58 : (own_num (own_f q0 p1) fn cn (0 : Int32)) = (-1 : Int32))).2 ?_
          show Steps p.tables e below (T61.setTop (mkF m 257 #[.val (.long q0), .second, .val (.int p1), .val (.int p2), .val (.int p3), .val (.ref b2), .val (.int zc), .val (.int zf), .val (.int (0 : Int32)), .val (.int (-1 : Int32)), .val (.int (own_num (own_f q0 p1) fn cn (0 : Int32)))] [])) _
          refine XS.iconst X61.here hx rfl (hb hby at_257) ?_
          show Steps p.tables e below (T61.setTop (mkF m 258 #[.val (.long q0), .second, .val (.int p1), .val (.int p2), .val (.int p3), .val (.ref b2), .val (.int zc), .val (.int zf), .val (.int (0 : Int32)), .val (.int (-1 : Int32)), .val (.int (own_num (own_f q0 p1) fn cn (0 : Int32)))] [(.int (1 : Int32))])) _
          refine XS.goto X61.here hx rfl (pc0 := 258) (pc' := 262) rfl (hb hby at_258) (by decide) (by decide) ?_
          exact k)
        obtain ⟨fs, hr, hrun, hended, hW, hsame⟩ := X61.leave (v := some (.int (1 : Int32))) (fun h => by rw [Bd.returns] at h; cases h)
        refine ⟨_, _, go63 _ ?_, hrun, hended, _, _, rfl, ?_, ⟨_, rfl⟩, hW, hsame.mono (by decide) (by decide)⟩
        · exact retN X61 hx (t := .boolean) Bd.returns (by simp) (hb hby at_262) hr
        · show Q_rm0 Z q0 p1 p2 p3 h0 n0 _ T61.heap _
          rw [e61]
          exact ⟨rfl, N61⟩
      · skip
        have go64 := go57.step (C := T57.setTop (mkF m 146 #[.val (.long q0), .second, .val (.int p1), .val (.int p2), .val (.int p3), .val (.ref b2), .val (.int zc), .val (.int zf), .unset, .unset, .unset] [(.int (3 : Int32)), (.int zc), (.int zf), (.ref b2)])) (fun t k => by
          show Steps p.tables e below (T57.setTop (mkF m 136 #[.val (.long q0), .second, .val (.int p1), .val (.int p2), .val (.int p3), .val (.ref b2), .val (.int zc), .val (.int zf), .unset, .unset, .unset] [(.int (own_ok zc (2 : Int32) (own_f q0 p1) (fn + 2)))])) _
          refine XS.ifNo X57.here hx rfl (hb hby at_136) rfl ((if0 _ _).trans (feq hc58).1) ?_
          show Steps p.tables e below (T57.setTop (mkF m 139 #[.val (.long q0), .second, .val (.int p1), .val (.int p2), .val (.int p3), .val (.ref b2), .val (.int zc), .val (.int zf), .unset, .unset, .unset] [])) _
          refine XS.aload X57.here hx rfl (hb hby at_139) rfl rfl ?_
          show Steps p.tables e below (T57.setTop (mkF m 141 #[.val (.long q0), .second, .val (.int p1), .val (.int p2), .val (.int p3), .val (.ref b2), .val (.int zc), .val (.int zf), .unset, .unset, .unset] [(.ref b2)])) _
          refine XS.iload X57.here hx rfl (hb hby at_141) rfl ?_
          show Steps p.tables e below (T57.setTop (mkF m 143 #[.val (.long q0), .second, .val (.int p1), .val (.int p2), .val (.int p3), .val (.ref b2), .val (.int zc), .val (.int zf), .unset, .unset, .unset] [(.int zf), (.ref b2)])) _
          refine XS.iload X57.here hx rfl (hb hby at_143) rfl ?_
          show Steps p.tables e below (T57.setTop (mkF m 145 #[.val (.long q0), .second, .val (.int p1), .val (.int p2), .val (.int p3), .val (.ref b2), .val (.int zc), .val (.int zf), .unset, .unset, .unset] [(.int zc), (.int zf), (.ref b2)])) _
          refine XS.iconst X57.here hx rfl (hb hby at_145) ?_
          exact k)
        obtain ⟨_, _, ⟨T65, L65, k65, n65⟩, -, X65, ⟨Lc65, hQ65, l65, y65, z65⟩, st65⟩ := Jvm.LawKit.callS X57 hx (y := (⟨"com/example/zemlja/zemlja/iso2709/Iso2709NumberPinLaw", "ok", "([BIII)Z"⟩ : MethodName)) hown (mvT hZ (hw _ (List.mem_of_getElem? (i := 6) rfl))) (mvT hZ (hw _ (List.mem_of_getElem? (i := 7) rfl))) (mvT hZ (hw _ (List.mem_of_getElem? (i := 3) rfl))) (mvT hZ (hw _ (List.mem_of_getElem? (i := 8) rfl))) (by decide) (backOf (W := 0) (rm2 l Z a0 hw [] b2 zf zc (3 : Int32) k2 [(.int (nar .byte (own_ba q0 p1 (0 : Int32)))), (.int (nar .byte (own_ba q0 p1 (1 : Int32)))), (.int (nar .byte (own_ba q0 p1 (2 : Int32)))), (.int (nar .byte (own_ba q0 p1 (3 : Int32)))), (.int (nar .byte (own_ba q0 p1 (4 : Int32)))), (.int (nar .byte (own_ba q0 p1 (5 : Int32)))), (.int (nar .byte (own_ba q0 p1 (6 : Int32))))] (own_f q0 p1) (fn + 3) h36 n0 Z36 V36 (own_hv q0 p1) (own_hi (i := 3) hfn hcn hle rfl (by decide)).1 (own_hi (i := 3) hfn hcn hle rfl (by decide)).2) hZ (hw _ (List.mem_of_getElem? (i := 8) rfl)) (hw _ (List.mem_of_getElem? (i := 3) rfl)) (by decide) (by decide)) (g := (mkF m 146 #[.val (.long q0), .second, .val (.int p1), .val (.int p2), .val (.int p3), .val (.ref b2), .val (.int zc), .val (.int zf), .unset, .unset, .unset] [(.int (3 : Int32)), (.int zc), (.int zf), (.ref b2)])) rfl (by rw [hml]; rfl) (argsL := [(.ref b2), (.int zf), (.int zc), (.int (3 : Int32))]) (rest := []) (lenOf pd0_1 rfl) rfl (by show 2 * 0 + _ ≤ _; exact Nat.le_of_eq rfl) (hb hby at_146) (fun _ _ => ⟨rfl, e57, (by decide : 1 + 0 ≤ _), (by decide : 7 + 0 ≤ _)⟩)
        dsimp only [Pt.U, Pt.locs, Pt.cells, Pt.slots] at X65 l65 y65 z65 st65 hQ65
        rw [l65, y65, z65] at X65
        obtain ⟨rfl, N65q, e65⟩ := hQ65
        have N65 := Fr.app N57 N65q
        have go65 := go64.step (C := T65.setTop (mkF m 149 #[.val (.long q0), .second, .val (.int p1), .val (.int p2), .val (.int p3), .val (.ref b2), .val (.int zc), .val (.int zf), .unset, .unset, .unset] [(.int (own_ok zc (3 : Int32) (own_f q0 p1) (fn + 3)))])) (fun t k => st65 t k)
        by_cases hc66 : (own_ok zc (3 : Int32) (own_f q0 p1) (fn + 3)) = (0 : Int32)
        · skip
          have go68 := go65.step (C := T65.setTop (mkF m 245 #[.val (.long q0), .second, .val (.int p1), .val (.int p2), .val (.int p3), .val (.ref b2), .val (.int zc), .val (.int zf), .val (.int (0 : Int32)), .val (.int (-1 : Int32)), .unset] [(.int zc), (.int zf), (.ref b2)])) (fun t k => by
            show Steps p.tables e below (T65.setTop (mkF m 149 #[.val (.long q0), .second, .val (.int p1), .val (.int p2), .val (.int p3), .val (.ref b2), .val (.int zc), .val (.int zf), .unset, .unset, .unset] [(.int (own_ok zc (3 : Int32) (own_f q0 p1) (fn + 3)))])) _
            refine XS.ifYes X65.here hx rfl (pc0 := 149) (pc' := 169) rfl (hb hby at_149) rfl ((if0 _ _).trans (teq hc66).1) (by decide) (by decide) ?_
            show Steps p.tables e below (T65.setTop (mkF m 169 #[.val (.long q0), .second, .val (.int p1), .val (.int p2), .val (.int p3), .val (.ref b2), .val (.int zc), .val (.int zf), .unset, .unset, .unset] [])) _
            refine XS.iconst X65.here hx rfl (hb hby at_169) ?_
            show Steps p.tables e below (T65.setTop (mkF m 170 #[.val (.long q0), .second, .val (.int p1), .val (.int p2), .val (.int p3), .val (.ref b2), .val (.int zc), .val (.int zf), .unset, .unset, .unset] [(.int (0 : Int32))])) _
            refine XS.istore X65.here hx rfl (hb hby at_170) rfl (l' := #[.val (.long q0), .second, .val (.int p1), .val (.int p2), .val (.int p3), .val (.ref b2), .val (.int zc), .val (.int zf), .val (.int (0 : Int32)), .unset, .unset]) rfl ?_
            show Steps p.tables e below (T65.setTop (mkF m 172 #[.val (.long q0), .second, .val (.int p1), .val (.int p2), .val (.int p3), .val (.ref b2), .val (.int zc), .val (.int zf), .val (.int (0 : Int32)), .unset, .unset] [])) _
            refine XS.iload X65.here hx rfl (hb hby at_172) rfl ?_
            show Steps p.tables e below (T65.setTop (mkF m 174 #[.val (.long q0), .second, .val (.int p1), .val (.int p2), .val (.int p3), .val (.ref b2), .val (.int zc), .val (.int zf), .val (.int (0 : Int32)), .unset, .unset] [(.int (0 : Int32))])) _
            refine XS.ifYes X65.here hx rfl (pc0 := 174) (pc' := 236) rfl (hb hby at_174) rfl ((if0 _ _).trans (teq ((by decide) : (0 : Int32) = (0 : Int32))).1) (by decide) (by decide) ?_
            show Steps p.tables e below (T65.setTop (mkF m 236 #[.val (.long q0), .second, .val (.int p1), .val (.int p2), .val (.int p3), .val (.ref b2), .val (.int zc), .val (.int zf), .val (.int (0 : Int32)), .unset, .unset] [])) _
            refine XS.iconst X65.here hx rfl (hb hby at_236) ?_
            show Steps p.tables e below (T65.setTop (mkF m 237 #[.val (.long q0), .second, .val (.int p1), .val (.int p2), .val (.int p3), .val (.ref b2), .val (.int zc), .val (.int zf), .val (.int (0 : Int32)), .unset, .unset] [(.int (-1 : Int32))])) _
            refine XS.istore X65.here hx rfl (hb hby at_237) rfl (l' := #[.val (.long q0), .second, .val (.int p1), .val (.int p2), .val (.int p3), .val (.ref b2), .val (.int zc), .val (.int zf), .val (.int (0 : Int32)), .val (.int (-1 : Int32)), .unset]) rfl ?_
            show Steps p.tables e below (T65.setTop (mkF m 239 #[.val (.long q0), .second, .val (.int p1), .val (.int p2), .val (.int p3), .val (.ref b2), .val (.int zc), .val (.int zf), .val (.int (0 : Int32)), .val (.int (-1 : Int32)), .unset] [])) _
            refine XS.aload X65.here hx rfl (hb hby at_239) rfl rfl ?_
            show Steps p.tables e below (T65.setTop (mkF m 241 #[.val (.long q0), .second, .val (.int p1), .val (.int p2), .val (.int p3), .val (.ref b2), .val (.int zc), .val (.int zf), .val (.int (0 : Int32)), .val (.int (-1 : Int32)), .unset] [(.ref b2)])) _
            refine XS.iload X65.here hx rfl (hb hby at_241) rfl ?_
            show Steps p.tables e below (T65.setTop (mkF m 243 #[.val (.long q0), .second, .val (.int p1), .val (.int p2), .val (.int p3), .val (.ref b2), .val (.int zc), .val (.int zf), .val (.int (0 : Int32)), .val (.int (-1 : Int32)), .unset] [(.int zf), (.ref b2)])) _
            refine XS.iload X65.here hx rfl (hb hby at_243) rfl ?_
            exact k)
          obtain ⟨_, _, ⟨T69, L69, k69, n69⟩, -, X69, ⟨Lc69, hQ69, l69, y69, z69⟩, st69⟩ := Jvm.LawKit.callS X65 hx (y := (⟨"com/example/zemlja/zemlja/iso2709/Iso2709", "number", "([BII)I"⟩ : MethodName)) hown (mvT hZ (hw _ (List.mem_of_getElem? (i := 9) rfl))) (mvT hZ (hw _ (List.mem_of_getElem? (i := 10) rfl))) (mvT hZ (hw _ (List.mem_of_getElem? (i := 11) rfl))) (mvT hZ (hw _ (List.mem_of_getElem? (i := 12) rfl))) (by decide) (backOf (W := 0) (rm3 l Z a0 hw [] b2 zf zc k2 [(.int (nar .byte (own_ba q0 p1 (0 : Int32)))), (.int (nar .byte (own_ba q0 p1 (1 : Int32)))), (.int (nar .byte (own_ba q0 p1 (2 : Int32)))), (.int (nar .byte (own_ba q0 p1 (3 : Int32)))), (.int (nar .byte (own_ba q0 p1 (4 : Int32)))), (.int (nar .byte (own_ba q0 p1 (5 : Int32)))), (.int (nar .byte (own_ba q0 p1 (6 : Int32))))] (own_f q0 p1) fn cn h36 n0 Z36 V36 (own_hv q0 p1) hfn hcn hle) hZ (hw _ (List.mem_of_getElem? (i := 12) rfl)) (hw _ (List.mem_of_getElem? (i := 11) rfl)) (by decide) (by decide)) (g := (mkF m 245 #[.val (.long q0), .second, .val (.int p1), .val (.int p2), .val (.int p3), .val (.ref b2), .val (.int zc), .val (.int zf), .val (.int (0 : Int32)), .val (.int (-1 : Int32)), .unset] [(.int zc), (.int zf), (.ref b2)])) rfl (by rw [hml]; rfl) (argsL := [(.ref b2), (.int zf), (.int zc)]) (rest := []) (lenOf pd0_2 rfl) rfl (by show 2 * 0 + _ ≤ _; exact Nat.le_of_eq rfl) (hb hby at_245) (fun _ _ => ⟨rfl, e65, (by decide : 1 + 0 ≤ _), (by decide : 7 + 0 ≤ _)⟩)
          dsimp only [Pt.U, Pt.locs, Pt.cells, Pt.slots] at X69 l69 y69 z69 st69 hQ69
          rw [l69, y69, z69] at X69
          obtain ⟨rfl, N69q, e69⟩ := hQ69
          have N69 := Fr.app N65 N69q
          have go69 := go68.step (C := T69.setTop (mkF m 248 #[.val (.long q0), .second, .val (.int p1), .val (.int p2), .val (.int p3), .val (.ref b2), .val (.int zc), .val (.int zf), .val (.int (0 : Int32)), .val (.int (-1 : Int32)), .unset] [(.int (own_num (own_f q0 p1) fn cn (0 : Int32)))])) (fun t k => st69 t k)
          have go71 := go69.step (C := T69.setTop (mkF m 262 #[.val (.long q0), .second, .val (.int p1), .val (.int p2), .val (.int p3), .val (.ref b2), .val (.int zc), .val (.int zf), .val (.int (0 : Int32)), .val (.int (-1 : Int32)), .val (.int (own_num (own_f q0 p1) fn cn (0 : Int32)))] [(.int (1 : Int32))])) (fun t k => by
            show Steps p.tables e below (T69.setTop (mkF m 248 #[.val (.long q0), .second, .val (.int p1), .val (.int p2), .val (.int p3), .val (.ref b2), .val (.int zc), .val (.int zf), .val (.int (0 : Int32)), .val (.int (-1 : Int32)), .unset] [(.int (own_num (own_f q0 p1) fn cn (0 : Int32)))])) _
            refine XS.istore X69.here hx rfl (hb hby at_248) rfl (l' := #[.val (.long q0), .second, .val (.int p1), .val (.int p2), .val (.int p3), .val (.ref b2), .val (.int zc), .val (.int zf), .val (.int (0 : Int32)), .val (.int (-1 : Int32)), .val (.int (own_num (own_f q0 p1) fn cn (0 : Int32)))]) rfl ?_
            show Steps p.tables e below (T69.setTop (mkF m 250 #[.val (.long q0), .second, .val (.int p1), .val (.int p2), .val (.int p3), .val (.ref b2), .val (.int zc), .val (.int zf), .val (.int (0 : Int32)), .val (.int (-1 : Int32)), .val (.int (own_num (own_f q0 p1) fn cn (0 : Int32)))] [])) _
            refine XS.iload X69.here hx rfl (hb hby at_250) rfl ?_
            show Steps p.tables e below (T69.setTop (mkF m 252 #[.val (.long q0), .second, .val (.int p1), .val (.int p2), .val (.int p3), .val (.ref b2), .val (.int zc), .val (.int zf), .val (.int (0 : Int32)), .val (.int (-1 : Int32)), .val (.int (own_num (own_f q0 p1) fn cn (0 : Int32)))] [(.int (own_num (own_f q0 p1) fn cn (0 : Int32)))])) _
            refine XS.iload X69.here hx rfl (hb hby at_252) rfl ?_
            show Steps p.tables e below (T69.setTop (mkF m 254 #[.val (.long q0), .second, .val (.int p1), .val (.int p2), .val (.int p3), .val (.ref b2), .val (.int zc), .val (.int zf), .val (.int (0 : Int32)), .val (.int (-1 : Int32)), .val (.int (own_num (own_f q0 p1) fn cn (0 : Int32)))] [(.int (-1 : Int32)), (.int (own_num (own_f q0 p1) fn cn (0 : Int32)))])) _
            refine XS.icmpNo X69.here hx rfl (hb hby at_254) rfl (teq (own_bad3 hcn hc42 hc50 hc58 hc66 : (own_num (own_f q0 p1) fn cn (0 : Int32)) = (-1 : Int32))).2 ?_
            show Steps p.tables e below (T69.setTop (mkF m 257 #[.val (.long q0), .second, .val (.int p1), .val (.int p2), .val (.int p3), .val (.ref b2), .val (.int zc), .val (.int zf), .val (.int (0 : Int32)), .val (.int (-1 : Int32)), .val (.int (own_num (own_f q0 p1) fn cn (0 : Int32)))] [])) _
            refine XS.iconst X69.here hx rfl (hb hby at_257) ?_
            show Steps p.tables e below (T69.setTop (mkF m 258 #[.val (.long q0), .second, .val (.int p1), .val (.int p2), .val (.int p3), .val (.ref b2), .val (.int zc), .val (.int zf), .val (.int (0 : Int32)), .val (.int (-1 : Int32)), .val (.int (own_num (own_f q0 p1) fn cn (0 : Int32)))] [(.int (1 : Int32))])) _
            refine XS.goto X69.here hx rfl (pc0 := 258) (pc' := 262) rfl (hb hby at_258) (by decide) (by decide) ?_
            exact k)
          obtain ⟨fs, hr, hrun, hended, hW, hsame⟩ := X69.leave (v := some (.int (1 : Int32))) (fun h => by rw [Bd.returns] at h; cases h)
          refine ⟨_, _, go71 _ ?_, hrun, hended, _, _, rfl, ?_, ⟨_, rfl⟩, hW, hsame.mono (by decide) (by decide)⟩
          · exact retN X69 hx (t := .boolean) Bd.returns (by simp) (hb hby at_262) hr
          · show Q_rm0 Z q0 p1 p2 p3 h0 n0 _ T69.heap _
            rw [e69]
            exact ⟨rfl, N69⟩
        · skip
          have go72 := go65.step (C := T65.setTop (mkF m 159 #[.val (.long q0), .second, .val (.int p1), .val (.int p2), .val (.int p3), .val (.ref b2), .val (.int zc), .val (.int zf), .unset, .unset, .unset] [(.int (4 : Int32)), (.int zc), (.int zf), (.ref b2)])) (fun t k => by
            show Steps p.tables e below (T65.setTop (mkF m 149 #[.val (.long q0), .second, .val (.int p1), .val (.int p2), .val (.int p3), .val (.ref b2), .val (.int zc), .val (.int zf), .unset, .unset, .unset] [(.int (own_ok zc (3 : Int32) (own_f q0 p1) (fn + 3)))])) _
            refine XS.ifNo X65.here hx rfl (hb hby at_149) rfl ((if0 _ _).trans (feq hc66).1) ?_
            show Steps p.tables e below (T65.setTop (mkF m 152 #[.val (.long q0), .second, .val (.int p1), .val (.int p2), .val (.int p3), .val (.ref b2), .val (.int zc), .val (.int zf), .unset, .unset, .unset] [])) _
            refine XS.aload X65.here hx rfl (hb hby at_152) rfl rfl ?_
            show Steps p.tables e below (T65.setTop (mkF m 154 #[.val (.long q0), .second, .val (.int p1), .val (.int p2), .val (.int p3), .val (.ref b2), .val (.int zc), .val (.int zf), .unset, .unset, .unset] [(.ref b2)])) _
            refine XS.iload X65.here hx rfl (hb hby at_154) rfl ?_
            show Steps p.tables e below (T65.setTop (mkF m 156 #[.val (.long q0), .second, .val (.int p1), .val (.int p2), .val (.int p3), .val (.ref b2), .val (.int zc), .val (.int zf), .unset, .unset, .unset] [(.int zf), (.ref b2)])) _
            refine XS.iload X65.here hx rfl (hb hby at_156) rfl ?_
            show Steps p.tables e below (T65.setTop (mkF m 158 #[.val (.long q0), .second, .val (.int p1), .val (.int p2), .val (.int p3), .val (.ref b2), .val (.int zc), .val (.int zf), .unset, .unset, .unset] [(.int zc), (.int zf), (.ref b2)])) _
            refine XS.iconst X65.here hx rfl (hb hby at_158) ?_
            exact k)
          obtain ⟨_, _, ⟨T73, L73, k73, n73⟩, -, X73, ⟨Lc73, hQ73, l73, y73, z73⟩, st73⟩ := Jvm.LawKit.callS X65 hx (y := (⟨"com/example/zemlja/zemlja/iso2709/Iso2709NumberPinLaw", "ok", "([BIII)Z"⟩ : MethodName)) hown (mvT hZ (hw _ (List.mem_of_getElem? (i := 6) rfl))) (mvT hZ (hw _ (List.mem_of_getElem? (i := 7) rfl))) (mvT hZ (hw _ (List.mem_of_getElem? (i := 3) rfl))) (mvT hZ (hw _ (List.mem_of_getElem? (i := 8) rfl))) (by decide) (backOf (W := 0) (rm2 l Z a0 hw [] b2 zf zc (4 : Int32) k2 [(.int (nar .byte (own_ba q0 p1 (0 : Int32)))), (.int (nar .byte (own_ba q0 p1 (1 : Int32)))), (.int (nar .byte (own_ba q0 p1 (2 : Int32)))), (.int (nar .byte (own_ba q0 p1 (3 : Int32)))), (.int (nar .byte (own_ba q0 p1 (4 : Int32)))), (.int (nar .byte (own_ba q0 p1 (5 : Int32)))), (.int (nar .byte (own_ba q0 p1 (6 : Int32))))] (own_f q0 p1) (fn + 4) h36 n0 Z36 V36 (own_hv q0 p1) (own_hi (i := 4) hfn hcn hle rfl (by decide)).1 (own_hi (i := 4) hfn hcn hle rfl (by decide)).2) hZ (hw _ (List.mem_of_getElem? (i := 8) rfl)) (hw _ (List.mem_of_getElem? (i := 3) rfl)) (by decide) (by decide)) (g := (mkF m 159 #[.val (.long q0), .second, .val (.int p1), .val (.int p2), .val (.int p3), .val (.ref b2), .val (.int zc), .val (.int zf), .unset, .unset, .unset] [(.int (4 : Int32)), (.int zc), (.int zf), (.ref b2)])) rfl (by rw [hml]; rfl) (argsL := [(.ref b2), (.int zf), (.int zc), (.int (4 : Int32))]) (rest := []) (lenOf pd0_1 rfl) rfl (by show 2 * 0 + _ ≤ _; exact Nat.le_of_eq rfl) (hb hby at_159) (fun _ _ => ⟨rfl, e65, (by decide : 1 + 0 ≤ _), (by decide : 7 + 0 ≤ _)⟩)
          dsimp only [Pt.U, Pt.locs, Pt.cells, Pt.slots] at X73 l73 y73 z73 st73 hQ73
          rw [l73, y73, z73] at X73
          obtain ⟨rfl, N73q, e73⟩ := hQ73
          have N73 := Fr.app N65 N73q
          have go73 := go72.step (C := T73.setTop (mkF m 162 #[.val (.long q0), .second, .val (.int p1), .val (.int p2), .val (.int p3), .val (.ref b2), .val (.int zc), .val (.int zf), .unset, .unset, .unset] [(.int (own_ok zc (4 : Int32) (own_f q0 p1) (fn + 4)))])) (fun t k => st73 t k)
          by_cases hc74 : (own_ok zc (4 : Int32) (own_f q0 p1) (fn + 4)) = (0 : Int32)
          · skip
            have go76 := go73.step (C := T73.setTop (mkF m 245 #[.val (.long q0), .second, .val (.int p1), .val (.int p2), .val (.int p3), .val (.ref b2), .val (.int zc), .val (.int zf), .val (.int (0 : Int32)), .val (.int (-1 : Int32)), .unset] [(.int zc), (.int zf), (.ref b2)])) (fun t k => by
              show Steps p.tables e below (T73.setTop (mkF m 162 #[.val (.long q0), .second, .val (.int p1), .val (.int p2), .val (.int p3), .val (.ref b2), .val (.int zc), .val (.int zf), .unset, .unset, .unset] [(.int (own_ok zc (4 : Int32) (own_f q0 p1) (fn + 4)))])) _
              refine XS.ifYes X73.here hx rfl (pc0 := 162) (pc' := 169) rfl (hb hby at_162) rfl ((if0 _ _).trans (teq hc74).1) (by decide) (by decide) ?_
              show Steps p.tables e below (T73.setTop (mkF m 169 #[.val (.long q0), .second, .val (.int p1), .val (.int p2), .val (.int p3), .val (.ref b2), .val (.int zc), .val (.int zf), .unset, .unset, .unset] [])) _
              refine XS.iconst X73.here hx rfl (hb hby at_169) ?_
              show Steps p.tables e below (T73.setTop (mkF m 170 #[.val (.long q0), .second, .val (.int p1), .val (.int p2), .val (.int p3), .val (.ref b2), .val (.int zc), .val (.int zf), .unset, .unset, .unset] [(.int (0 : Int32))])) _
              refine XS.istore X73.here hx rfl (hb hby at_170) rfl (l' := #[.val (.long q0), .second, .val (.int p1), .val (.int p2), .val (.int p3), .val (.ref b2), .val (.int zc), .val (.int zf), .val (.int (0 : Int32)), .unset, .unset]) rfl ?_
              show Steps p.tables e below (T73.setTop (mkF m 172 #[.val (.long q0), .second, .val (.int p1), .val (.int p2), .val (.int p3), .val (.ref b2), .val (.int zc), .val (.int zf), .val (.int (0 : Int32)), .unset, .unset] [])) _
              refine XS.iload X73.here hx rfl (hb hby at_172) rfl ?_
              show Steps p.tables e below (T73.setTop (mkF m 174 #[.val (.long q0), .second, .val (.int p1), .val (.int p2), .val (.int p3), .val (.ref b2), .val (.int zc), .val (.int zf), .val (.int (0 : Int32)), .unset, .unset] [(.int (0 : Int32))])) _
              refine XS.ifYes X73.here hx rfl (pc0 := 174) (pc' := 236) rfl (hb hby at_174) rfl ((if0 _ _).trans (teq ((by decide) : (0 : Int32) = (0 : Int32))).1) (by decide) (by decide) ?_
              show Steps p.tables e below (T73.setTop (mkF m 236 #[.val (.long q0), .second, .val (.int p1), .val (.int p2), .val (.int p3), .val (.ref b2), .val (.int zc), .val (.int zf), .val (.int (0 : Int32)), .unset, .unset] [])) _
              refine XS.iconst X73.here hx rfl (hb hby at_236) ?_
              show Steps p.tables e below (T73.setTop (mkF m 237 #[.val (.long q0), .second, .val (.int p1), .val (.int p2), .val (.int p3), .val (.ref b2), .val (.int zc), .val (.int zf), .val (.int (0 : Int32)), .unset, .unset] [(.int (-1 : Int32))])) _
              refine XS.istore X73.here hx rfl (hb hby at_237) rfl (l' := #[.val (.long q0), .second, .val (.int p1), .val (.int p2), .val (.int p3), .val (.ref b2), .val (.int zc), .val (.int zf), .val (.int (0 : Int32)), .val (.int (-1 : Int32)), .unset]) rfl ?_
              show Steps p.tables e below (T73.setTop (mkF m 239 #[.val (.long q0), .second, .val (.int p1), .val (.int p2), .val (.int p3), .val (.ref b2), .val (.int zc), .val (.int zf), .val (.int (0 : Int32)), .val (.int (-1 : Int32)), .unset] [])) _
              refine XS.aload X73.here hx rfl (hb hby at_239) rfl rfl ?_
              show Steps p.tables e below (T73.setTop (mkF m 241 #[.val (.long q0), .second, .val (.int p1), .val (.int p2), .val (.int p3), .val (.ref b2), .val (.int zc), .val (.int zf), .val (.int (0 : Int32)), .val (.int (-1 : Int32)), .unset] [(.ref b2)])) _
              refine XS.iload X73.here hx rfl (hb hby at_241) rfl ?_
              show Steps p.tables e below (T73.setTop (mkF m 243 #[.val (.long q0), .second, .val (.int p1), .val (.int p2), .val (.int p3), .val (.ref b2), .val (.int zc), .val (.int zf), .val (.int (0 : Int32)), .val (.int (-1 : Int32)), .unset] [(.int zf), (.ref b2)])) _
              refine XS.iload X73.here hx rfl (hb hby at_243) rfl ?_
              exact k)
            obtain ⟨_, _, ⟨T77, L77, k77, n77⟩, -, X77, ⟨Lc77, hQ77, l77, y77, z77⟩, st77⟩ := Jvm.LawKit.callS X73 hx (y := (⟨"com/example/zemlja/zemlja/iso2709/Iso2709", "number", "([BII)I"⟩ : MethodName)) hown (mvT hZ (hw _ (List.mem_of_getElem? (i := 9) rfl))) (mvT hZ (hw _ (List.mem_of_getElem? (i := 10) rfl))) (mvT hZ (hw _ (List.mem_of_getElem? (i := 11) rfl))) (mvT hZ (hw _ (List.mem_of_getElem? (i := 12) rfl))) (by decide) (backOf (W := 0) (rm3 l Z a0 hw [] b2 zf zc k2 [(.int (nar .byte (own_ba q0 p1 (0 : Int32)))), (.int (nar .byte (own_ba q0 p1 (1 : Int32)))), (.int (nar .byte (own_ba q0 p1 (2 : Int32)))), (.int (nar .byte (own_ba q0 p1 (3 : Int32)))), (.int (nar .byte (own_ba q0 p1 (4 : Int32)))), (.int (nar .byte (own_ba q0 p1 (5 : Int32)))), (.int (nar .byte (own_ba q0 p1 (6 : Int32))))] (own_f q0 p1) fn cn h36 n0 Z36 V36 (own_hv q0 p1) hfn hcn hle) hZ (hw _ (List.mem_of_getElem? (i := 12) rfl)) (hw _ (List.mem_of_getElem? (i := 11) rfl)) (by decide) (by decide)) (g := (mkF m 245 #[.val (.long q0), .second, .val (.int p1), .val (.int p2), .val (.int p3), .val (.ref b2), .val (.int zc), .val (.int zf), .val (.int (0 : Int32)), .val (.int (-1 : Int32)), .unset] [(.int zc), (.int zf), (.ref b2)])) rfl (by rw [hml]; rfl) (argsL := [(.ref b2), (.int zf), (.int zc)]) (rest := []) (lenOf pd0_2 rfl) rfl (by show 2 * 0 + _ ≤ _; exact Nat.le_of_eq rfl) (hb hby at_245) (fun _ _ => ⟨rfl, e73, (by decide : 1 + 0 ≤ _), (by decide : 7 + 0 ≤ _)⟩)
            dsimp only [Pt.U, Pt.locs, Pt.cells, Pt.slots] at X77 l77 y77 z77 st77 hQ77
            rw [l77, y77, z77] at X77
            obtain ⟨rfl, N77q, e77⟩ := hQ77
            have N77 := Fr.app N73 N77q
            have go77 := go76.step (C := T77.setTop (mkF m 248 #[.val (.long q0), .second, .val (.int p1), .val (.int p2), .val (.int p3), .val (.ref b2), .val (.int zc), .val (.int zf), .val (.int (0 : Int32)), .val (.int (-1 : Int32)), .unset] [(.int (own_num (own_f q0 p1) fn cn (0 : Int32)))])) (fun t k => st77 t k)
            have go79 := go77.step (C := T77.setTop (mkF m 262 #[.val (.long q0), .second, .val (.int p1), .val (.int p2), .val (.int p3), .val (.ref b2), .val (.int zc), .val (.int zf), .val (.int (0 : Int32)), .val (.int (-1 : Int32)), .val (.int (own_num (own_f q0 p1) fn cn (0 : Int32)))] [(.int (1 : Int32))])) (fun t k => by
              show Steps p.tables e below (T77.setTop (mkF m 248 #[.val (.long q0), .second, .val (.int p1), .val (.int p2), .val (.int p3), .val (.ref b2), .val (.int zc), .val (.int zf), .val (.int (0 : Int32)), .val (.int (-1 : Int32)), .unset] [(.int (own_num (own_f q0 p1) fn cn (0 : Int32)))])) _
              refine XS.istore X77.here hx rfl (hb hby at_248) rfl (l' := #[.val (.long q0), .second, .val (.int p1), .val (.int p2), .val (.int p3), .val (.ref b2), .val (.int zc), .val (.int zf), .val (.int (0 : Int32)), .val (.int (-1 : Int32)), .val (.int (own_num (own_f q0 p1) fn cn (0 : Int32)))]) rfl ?_
              show Steps p.tables e below (T77.setTop (mkF m 250 #[.val (.long q0), .second, .val (.int p1), .val (.int p2), .val (.int p3), .val (.ref b2), .val (.int zc), .val (.int zf), .val (.int (0 : Int32)), .val (.int (-1 : Int32)), .val (.int (own_num (own_f q0 p1) fn cn (0 : Int32)))] [])) _
              refine XS.iload X77.here hx rfl (hb hby at_250) rfl ?_
              show Steps p.tables e below (T77.setTop (mkF m 252 #[.val (.long q0), .second, .val (.int p1), .val (.int p2), .val (.int p3), .val (.ref b2), .val (.int zc), .val (.int zf), .val (.int (0 : Int32)), .val (.int (-1 : Int32)), .val (.int (own_num (own_f q0 p1) fn cn (0 : Int32)))] [(.int (own_num (own_f q0 p1) fn cn (0 : Int32)))])) _
              refine XS.iload X77.here hx rfl (hb hby at_252) rfl ?_
              show Steps p.tables e below (T77.setTop (mkF m 254 #[.val (.long q0), .second, .val (.int p1), .val (.int p2), .val (.int p3), .val (.ref b2), .val (.int zc), .val (.int zf), .val (.int (0 : Int32)), .val (.int (-1 : Int32)), .val (.int (own_num (own_f q0 p1) fn cn (0 : Int32)))] [(.int (-1 : Int32)), (.int (own_num (own_f q0 p1) fn cn (0 : Int32)))])) _
              refine XS.icmpNo X77.here hx rfl (hb hby at_254) rfl (teq (own_bad4 hcn hc42 hc50 hc58 hc66 hc74 : (own_num (own_f q0 p1) fn cn (0 : Int32)) = (-1 : Int32))).2 ?_
              show Steps p.tables e below (T77.setTop (mkF m 257 #[.val (.long q0), .second, .val (.int p1), .val (.int p2), .val (.int p3), .val (.ref b2), .val (.int zc), .val (.int zf), .val (.int (0 : Int32)), .val (.int (-1 : Int32)), .val (.int (own_num (own_f q0 p1) fn cn (0 : Int32)))] [])) _
              refine XS.iconst X77.here hx rfl (hb hby at_257) ?_
              show Steps p.tables e below (T77.setTop (mkF m 258 #[.val (.long q0), .second, .val (.int p1), .val (.int p2), .val (.int p3), .val (.ref b2), .val (.int zc), .val (.int zf), .val (.int (0 : Int32)), .val (.int (-1 : Int32)), .val (.int (own_num (own_f q0 p1) fn cn (0 : Int32)))] [(.int (1 : Int32))])) _
              refine XS.goto X77.here hx rfl (pc0 := 258) (pc' := 262) rfl (hb hby at_258) (by decide) (by decide) ?_
              exact k)
            obtain ⟨fs, hr, hrun, hended, hW, hsame⟩ := X77.leave (v := some (.int (1 : Int32))) (fun h => by rw [Bd.returns] at h; cases h)
            refine ⟨_, _, go79 _ ?_, hrun, hended, _, _, rfl, ?_, ⟨_, rfl⟩, hW, hsame.mono (by decide) (by decide)⟩
            · exact retN X77 hx (t := .boolean) Bd.returns (by simp) (hb hby at_262) hr
            · show Q_rm0 Z q0 p1 p2 p3 h0 n0 _ T77.heap _
              rw [e77]
              exact ⟨rfl, N77⟩
          · skip
            have go81 := go73.step (C := T73.setTop (mkF m 184 #[.val (.long q0), .second, .val (.int p1), .val (.int p2), .val (.int p3), .val (.ref b2), .val (.int zc), .val (.int zf), .val (.int (1 : Int32)), .unset, .unset] [(.int (0 : Int32)), (.int zc), (.int zf), (.ref b2)])) (fun t k => by
              show Steps p.tables e below (T73.setTop (mkF m 162 #[.val (.long q0), .second, .val (.int p1), .val (.int p2), .val (.int p3), .val (.ref b2), .val (.int zc), .val (.int zf), .unset, .unset, .unset] [(.int (own_ok zc (4 : Int32) (own_f q0 p1) (fn + 4)))])) _
              refine XS.ifNo X73.here hx rfl (hb hby at_162) rfl ((if0 _ _).trans (feq hc74).1) ?_
              show Steps p.tables e below (T73.setTop (mkF m 165 #[.val (.long q0), .second, .val (.int p1), .val (.int p2), .val (.int p3), .val (.ref b2), .val (.int zc), .val (.int zf), .unset, .unset, .unset] [])) _
              refine XS.iconst X73.here hx rfl (hb hby at_165) ?_
              show Steps p.tables e below (T73.setTop (mkF m 166 #[.val (.long q0), .second, .val (.int p1), .val (.int p2), .val (.int p3), .val (.ref b2), .val (.int zc), .val (.int zf), .unset, .unset, .unset] [(.int (1 : Int32))])) _
              refine XS.goto X73.here hx rfl (pc0 := 166) (pc' := 170) rfl (hb hby at_166) (by decide) (by decide) ?_
              show Steps p.tables e below (T73.setTop (mkF m 170 #[.val (.long q0), .second, .val (.int p1), .val (.int p2), .val (.int p3), .val (.ref b2), .val (.int zc), .val (.int zf), .unset, .unset, .unset] [(.int (1 : Int32))])) _
              refine XS.istore X73.here hx rfl (hb hby at_170) rfl (l' := #[.val (.long q0), .second, .val (.int p1), .val (.int p2), .val (.int p3), .val (.ref b2), .val (.int zc), .val (.int zf), .val (.int (1 : Int32)), .unset, .unset]) rfl ?_
              show Steps p.tables e below (T73.setTop (mkF m 172 #[.val (.long q0), .second, .val (.int p1), .val (.int p2), .val (.int p3), .val (.ref b2), .val (.int zc), .val (.int zf), .val (.int (1 : Int32)), .unset, .unset] [])) _
              refine XS.iload X73.here hx rfl (hb hby at_172) rfl ?_
              show Steps p.tables e below (T73.setTop (mkF m 174 #[.val (.long q0), .second, .val (.int p1), .val (.int p2), .val (.int p3), .val (.ref b2), .val (.int zc), .val (.int zf), .val (.int (1 : Int32)), .unset, .unset] [(.int (1 : Int32))])) _
              refine XS.ifNo X73.here hx rfl (hb hby at_174) rfl ((if0 _ _).trans (feq ((by decide) : ¬ ((1 : Int32) = (0 : Int32)))).1) ?_
              show Steps p.tables e below (T73.setTop (mkF m 177 #[.val (.long q0), .second, .val (.int p1), .val (.int p2), .val (.int p3), .val (.ref b2), .val (.int zc), .val (.int zf), .val (.int (1 : Int32)), .unset, .unset] [])) _
              refine XS.aload X73.here hx rfl (hb hby at_177) rfl rfl ?_
              show Steps p.tables e below (T73.setTop (mkF m 179 #[.val (.long q0), .second, .val (.int p1), .val (.int p2), .val (.int p3), .val (.ref b2), .val (.int zc), .val (.int zf), .val (.int (1 : Int32)), .unset, .unset] [(.ref b2)])) _
              refine XS.iload X73.here hx rfl (hb hby at_179) rfl ?_
              show Steps p.tables e below (T73.setTop (mkF m 181 #[.val (.long q0), .second, .val (.int p1), .val (.int p2), .val (.int p3), .val (.ref b2), .val (.int zc), .val (.int zf), .val (.int (1 : Int32)), .unset, .unset] [(.int zf), (.ref b2)])) _
              refine XS.iload X73.here hx rfl (hb hby at_181) rfl ?_
              show Steps p.tables e below (T73.setTop (mkF m 183 #[.val (.long q0), .second, .val (.int p1), .val (.int p2), .val (.int p3), .val (.ref b2), .val (.int zc), .val (.int zf), .val (.int (1 : Int32)), .unset, .unset] [(.int zc), (.int zf), (.ref b2)])) _
              refine XS.iconst X73.here hx rfl (hb hby at_183) ?_
              exact k)
            obtain ⟨_, _, ⟨T82, L82, k82, n82⟩, -, X82, ⟨Lc82, hQ82, l82, y82, z82⟩, st82⟩ := Jvm.LawKit.callS X73 hx (y := (⟨"com/example/zemlja/zemlja/iso2709/Iso2709NumberPinLaw", "term", "([BIII)I"⟩ : MethodName)) hown (mvT hZ (hw _ (List.mem_of_getElem? (i := 13) rfl))) (mvT hZ (hw _ (List.mem_of_getElem? (i := 14) rfl))) (mvT hZ (hw _ (List.mem_of_getElem? (i := 3) rfl))) (mvT hZ (hw _ (List.mem_of_getElem? (i := 15) rfl))) (by decide) (backOf (W := 0) (rm4 l Z a0 hw [] b2 zf zc (0 : Int32) k2 [(.int (nar .byte (own_ba q0 p1 (0 : Int32)))), (.int (nar .byte (own_ba q0 p1 (1 : Int32)))), (.int (nar .byte (own_ba q0 p1 (2 : Int32)))), (.int (nar .byte (own_ba q0 p1 (3 : Int32)))), (.int (nar .byte (own_ba q0 p1 (4 : Int32)))), (.int (nar .byte (own_ba q0 p1 (5 : Int32)))), (.int (nar .byte (own_ba q0 p1 (6 : Int32))))] (own_f q0 p1) fn h36 n0 Z36 V36 (own_hv q0 p1) (own_hi (i := 0) hfn hcn hle rfl (by decide)).1 (own_hi (i := 0) hfn hcn hle rfl (by decide)).2) hZ (hw _ (List.mem_of_getElem? (i := 15) rfl)) (hw _ (List.mem_of_getElem? (i := 3) rfl)) (by decide) (by decide)) (g := (mkF m 184 #[.val (.long q0), .second, .val (.int p1), .val (.int p2), .val (.int p3), .val (.ref b2), .val (.int zc), .val (.int zf), .val (.int (1 : Int32)), .unset, .unset] [(.int (0 : Int32)), (.int zc), (.int zf), (.ref b2)])) rfl (by rw [hml]; rfl) (argsL := [(.ref b2), (.int zf), (.int zc), (.int (0 : Int32))]) (rest := []) (lenOf pd0_3 rfl) rfl (by show 2 * 0 + _ ≤ _; exact Nat.le_of_eq rfl) (hb hby at_184) (fun _ _ => ⟨rfl, e73, (by decide : 1 + 0 ≤ _), (by decide : 7 + 0 ≤ _)⟩)
            dsimp only [Pt.U, Pt.locs, Pt.cells, Pt.slots] at X82 l82 y82 z82 st82 hQ82
            rw [l82, y82, z82] at X82
            obtain ⟨rfl, N82q, e82⟩ := hQ82
            have N82 := Fr.app N73 N82q
            have go82 := go81.step (C := T82.setTop (mkF m 187 #[.val (.long q0), .second, .val (.int p1), .val (.int p2), .val (.int p3), .val (.ref b2), .val (.int zc), .val (.int zf), .val (.int (1 : Int32)), .unset, .unset] [(.int (own_term zc (0 : Int32) (own_f q0 p1) fn))])) (fun t k => st82 t k)
            have go83 := go82.step (C := T82.setTop (mkF m 194 #[.val (.long q0), .second, .val (.int p1), .val (.int p2), .val (.int p3), .val (.ref b2), .val (.int zc), .val (.int zf), .val (.int (1 : Int32)), .unset, .unset] [(.int (1 : Int32)), (.int zc), (.int zf), (.ref b2), (.int (own_term zc (0 : Int32) (own_f q0 p1) fn))])) (fun t k => by
              show Steps p.tables e below (T82.setTop (mkF m 187 #[.val (.long q0), .second, .val (.int p1), .val (.int p2), .val (.int p3), .val (.ref b2), .val (.int zc), .val (.int zf), .val (.int (1 : Int32)), .unset, .unset] [(.int (own_term zc (0 : Int32) (own_f q0 p1) fn))])) _
              refine XS.aload X82.here hx rfl (hb hby at_187) rfl rfl ?_
              show Steps p.tables e below (T82.setTop (mkF m 189 #[.val (.long q0), .second, .val (.int p1), .val (.int p2), .val (.int p3), .val (.ref b2), .val (.int zc), .val (.int zf), .val (.int (1 : Int32)), .unset, .unset] [(.ref b2), (.int (own_term zc (0 : Int32) (own_f q0 p1) fn))])) _
              refine XS.iload X82.here hx rfl (hb hby at_189) rfl ?_
              show Steps p.tables e below (T82.setTop (mkF m 191 #[.val (.long q0), .second, .val (.int p1), .val (.int p2), .val (.int p3), .val (.ref b2), .val (.int zc), .val (.int zf), .val (.int (1 : Int32)), .unset, .unset] [(.int zf), (.ref b2), (.int (own_term zc (0 : Int32) (own_f q0 p1) fn))])) _
              refine XS.iload X82.here hx rfl (hb hby at_191) rfl ?_
              show Steps p.tables e below (T82.setTop (mkF m 193 #[.val (.long q0), .second, .val (.int p1), .val (.int p2), .val (.int p3), .val (.ref b2), .val (.int zc), .val (.int zf), .val (.int (1 : Int32)), .unset, .unset] [(.int zc), (.int zf), (.ref b2), (.int (own_term zc (0 : Int32) (own_f q0 p1) fn))])) _
              refine XS.iconst X82.here hx rfl (hb hby at_193) ?_
              exact k)
            obtain ⟨_, _, ⟨T84, L84, k84, n84⟩, -, X84, ⟨Lc84, hQ84, l84, y84, z84⟩, st84⟩ := Jvm.LawKit.callS X82 hx (y := (⟨"com/example/zemlja/zemlja/iso2709/Iso2709NumberPinLaw", "term", "([BIII)I"⟩ : MethodName)) hown (mvT hZ (hw _ (List.mem_of_getElem? (i := 13) rfl))) (mvT hZ (hw _ (List.mem_of_getElem? (i := 14) rfl))) (mvT hZ (hw _ (List.mem_of_getElem? (i := 3) rfl))) (mvT hZ (hw _ (List.mem_of_getElem? (i := 15) rfl))) (by decide) (backOf (W := 1) (rm4 l Z a0 hw [] b2 zf zc (1 : Int32) k2 [(.int (nar .byte (own_ba q0 p1 (0 : Int32)))), (.int (nar .byte (own_ba q0 p1 (1 : Int32)))), (.int (nar .byte (own_ba q0 p1 (2 : Int32)))), (.int (nar .byte (own_ba q0 p1 (3 : Int32)))), (.int (nar .byte (own_ba q0 p1 (4 : Int32)))), (.int (nar .byte (own_ba q0 p1 (5 : Int32)))), (.int (nar .byte (own_ba q0 p1 (6 : Int32))))] (own_f q0 p1) (fn + 1) h36 n0 Z36 V36 (own_hv q0 p1) (own_hi (i := 1) hfn hcn hle rfl (by decide)).1 (own_hi (i := 1) hfn hcn hle rfl (by decide)).2) hZ (hw _ (List.mem_of_getElem? (i := 15) rfl)) (hw _ (List.mem_of_getElem? (i := 3) rfl)) (by decide) (by decide)) (g := (mkF m 194 #[.val (.long q0), .second, .val (.int p1), .val (.int p2), .val (.int p3), .val (.ref b2), .val (.int zc), .val (.int zf), .val (.int (1 : Int32)), .unset, .unset] [(.int (1 : Int32)), (.int zc), (.int zf), (.ref b2), (.int (own_term zc (0 : Int32) (own_f q0 p1) fn))])) rfl (by rw [hml]; rfl) (argsL := [(.ref b2), (.int zf), (.int zc), (.int (1 : Int32))]) (rest := [(.int (own_term zc (0 : Int32) (own_f q0 p1) fn))]) (lenOf pd0_3 rfl) rfl (by show 2 * 0 + _ ≤ _; exact Nat.le_of_eq rfl) (hb hby at_194) (fun _ _ => ⟨rfl, e82, (by decide : 1 + 0 ≤ _), (by decide : 7 + 0 ≤ _)⟩)
            dsimp only [Pt.U, Pt.locs, Pt.cells, Pt.slots] at X84 l84 y84 z84 st84 hQ84
            rw [l84, y84, z84] at X84
            obtain ⟨rfl, N84q, e84⟩ := hQ84
            have N84 := Fr.app N82 N84q
            have go84 := go83.step (C := T84.setTop (mkF m 197 #[.val (.long q0), .second, .val (.int p1), .val (.int p2), .val (.int p3), .val (.ref b2), .val (.int zc), .val (.int zf), .val (.int (1 : Int32)), .unset, .unset] [(.int (own_term zc (1 : Int32) (own_f q0 p1) (fn + 1))), (.int (own_term zc (0 : Int32) (own_f q0 p1) fn))])) (fun t k => st84 t k)
            have go85 := go84.step (C := T84.setTop (mkF m 205 #[.val (.long q0), .second, .val (.int p1), .val (.int p2), .val (.int p3), .val (.ref b2), .val (.int zc), .val (.int zf), .val (.int (1 : Int32)), .unset, .unset] [(.int (2 : Int32)), (.int zc), (.int zf), (.ref b2), (.int ((own_term zc (0 : Int32) (own_f q0 p1) fn) + (own_term zc (1 : Int32) (own_f q0 p1) (fn + 1))))])) (fun t k => by
              show Steps p.tables e below (T84.setTop (mkF m 197 #[.val (.long q0), .second, .val (.int p1), .val (.int p2), .val (.int p3), .val (.ref b2), .val (.int zc), .val (.int zf), .val (.int (1 : Int32)), .unset, .unset] [(.int (own_term zc (1 : Int32) (own_f q0 p1) (fn + 1))), (.int (own_term zc (0 : Int32) (own_f q0 p1) fn))])) _
              refine XS.iadd X84.here hx rfl (hb hby at_197) rfl ?_
              show Steps p.tables e below (T84.setTop (mkF m 198 #[.val (.long q0), .second, .val (.int p1), .val (.int p2), .val (.int p3), .val (.ref b2), .val (.int zc), .val (.int zf), .val (.int (1 : Int32)), .unset, .unset] [(.int ((own_term zc (0 : Int32) (own_f q0 p1) fn) + (own_term zc (1 : Int32) (own_f q0 p1) (fn + 1))))])) _
              refine XS.aload X84.here hx rfl (hb hby at_198) rfl rfl ?_
              show Steps p.tables e below (T84.setTop (mkF m 200 #[.val (.long q0), .second, .val (.int p1), .val (.int p2), .val (.int p3), .val (.ref b2), .val (.int zc), .val (.int zf), .val (.int (1 : Int32)), .unset, .unset] [(.ref b2), (.int ((own_term zc (0 : Int32) (own_f q0 p1) fn) + (own_term zc (1 : Int32) (own_f q0 p1) (fn + 1))))])) _
              refine XS.iload X84.here hx rfl (hb hby at_200) rfl ?_
              show Steps p.tables e below (T84.setTop (mkF m 202 #[.val (.long q0), .second, .val (.int p1), .val (.int p2), .val (.int p3), .val (.ref b2), .val (.int zc), .val (.int zf), .val (.int (1 : Int32)), .unset, .unset] [(.int zf), (.ref b2), (.int ((own_term zc (0 : Int32) (own_f q0 p1) fn) + (own_term zc (1 : Int32) (own_f q0 p1) (fn + 1))))])) _
              refine XS.iload X84.here hx rfl (hb hby at_202) rfl ?_
              show Steps p.tables e below (T84.setTop (mkF m 204 #[.val (.long q0), .second, .val (.int p1), .val (.int p2), .val (.int p3), .val (.ref b2), .val (.int zc), .val (.int zf), .val (.int (1 : Int32)), .unset, .unset] [(.int zc), (.int zf), (.ref b2), (.int ((own_term zc (0 : Int32) (own_f q0 p1) fn) + (own_term zc (1 : Int32) (own_f q0 p1) (fn + 1))))])) _
              refine XS.iconst X84.here hx rfl (hb hby at_204) ?_
              exact k)
            obtain ⟨_, _, ⟨T86, L86, k86, n86⟩, -, X86, ⟨Lc86, hQ86, l86, y86, z86⟩, st86⟩ := Jvm.LawKit.callS X84 hx (y := (⟨"com/example/zemlja/zemlja/iso2709/Iso2709NumberPinLaw", "term", "([BIII)I"⟩ : MethodName)) hown (mvT hZ (hw _ (List.mem_of_getElem? (i := 13) rfl))) (mvT hZ (hw _ (List.mem_of_getElem? (i := 14) rfl))) (mvT hZ (hw _ (List.mem_of_getElem? (i := 3) rfl))) (mvT hZ (hw _ (List.mem_of_getElem? (i := 15) rfl))) (by decide) (backOf (W := 1) (rm4 l Z a0 hw [] b2 zf zc (2 : Int32) k2 [(.int (nar .byte (own_ba q0 p1 (0 : Int32)))), (.int (nar .byte (own_ba q0 p1 (1 : Int32)))), (.int (nar .byte (own_ba q0 p1 (2 : Int32)))), (.int (nar .byte (own_ba q0 p1 (3 : Int32)))), (.int (nar .byte (own_ba q0 p1 (4 : Int32)))), (.int (nar .byte (own_ba q0 p1 (5 : Int32)))), (.int (nar .byte (own_ba q0 p1 (6 : Int32))))] (own_f q0 p1) (fn + 2) h36 n0 Z36 V36 (own_hv q0 p1) (own_hi (i := 2) hfn hcn hle rfl (by decide)).1 (own_hi (i := 2) hfn hcn hle rfl (by decide)).2) hZ (hw _ (List.mem_of_getElem? (i := 15) rfl)) (hw _ (List.mem_of_getElem? (i := 3) rfl)) (by decide) (by decide)) (g := (mkF m 205 #[.val (.long q0), .second, .val (.int p1), .val (.int p2), .val (.int p3), .val (.ref b2), .val (.int zc), .val (.int zf), .val (.int (1 : Int32)), .unset, .unset] [(.int (2 : Int32)), (.int zc), (.int zf), (.ref b2), (.int ((own_term zc (0 : Int32) (own_f q0 p1) fn) + (own_term zc (1 : Int32) (own_f q0 p1) (fn + 1))))])) rfl (by rw [hml]; rfl) (argsL := [(.ref b2), (.int zf), (.int zc), (.int (2 : Int32))]) (rest := [(.int ((own_term zc (0 : Int32) (own_f q0 p1) fn) + (own_term zc (1 : Int32) (own_f q0 p1) (fn + 1))))]) (lenOf pd0_3 rfl) rfl (by show 2 * 0 + _ ≤ _; exact Nat.le_of_eq rfl) (hb hby at_205) (fun _ _ => ⟨rfl, e84, (by decide : 1 + 0 ≤ _), (by decide : 7 + 0 ≤ _)⟩)
            dsimp only [Pt.U, Pt.locs, Pt.cells, Pt.slots] at X86 l86 y86 z86 st86 hQ86
            rw [l86, y86, z86] at X86
            obtain ⟨rfl, N86q, e86⟩ := hQ86
            have N86 := Fr.app N84 N86q
            have go86 := go85.step (C := T86.setTop (mkF m 208 #[.val (.long q0), .second, .val (.int p1), .val (.int p2), .val (.int p3), .val (.ref b2), .val (.int zc), .val (.int zf), .val (.int (1 : Int32)), .unset, .unset] [(.int (own_term zc (2 : Int32) (own_f q0 p1) (fn + 2))), (.int ((own_term zc (0 : Int32) (own_f q0 p1) fn) + (own_term zc (1 : Int32) (own_f q0 p1) (fn + 1))))])) (fun t k => st86 t k)
            have go87 := go86.step (C := T86.setTop (mkF m 216 #[.val (.long q0), .second, .val (.int p1), .val (.int p2), .val (.int p3), .val (.ref b2), .val (.int zc), .val (.int zf), .val (.int (1 : Int32)), .unset, .unset] [(.int (3 : Int32)), (.int zc), (.int zf), (.ref b2), (.int (((own_term zc (0 : Int32) (own_f q0 p1) fn) + (own_term zc (1 : Int32) (own_f q0 p1) (fn + 1))) + (own_term zc (2 : Int32) (own_f q0 p1) (fn + 2))))])) (fun t k => by
              show Steps p.tables e below (T86.setTop (mkF m 208 #[.val (.long q0), .second, .val (.int p1), .val (.int p2), .val (.int p3), .val (.ref b2), .val (.int zc), .val (.int zf), .val (.int (1 : Int32)), .unset, .unset] [(.int (own_term zc (2 : Int32) (own_f q0 p1) (fn + 2))), (.int ((own_term zc (0 : Int32) (own_f q0 p1) fn) + (own_term zc (1 : Int32) (own_f q0 p1) (fn + 1))))])) _
              refine XS.iadd X86.here hx rfl (hb hby at_208) rfl ?_
              show Steps p.tables e below (T86.setTop (mkF m 209 #[.val (.long q0), .second, .val (.int p1), .val (.int p2), .val (.int p3), .val (.ref b2), .val (.int zc), .val (.int zf), .val (.int (1 : Int32)), .unset, .unset] [(.int (((own_term zc (0 : Int32) (own_f q0 p1) fn) + (own_term zc (1 : Int32) (own_f q0 p1) (fn + 1))) + (own_term zc (2 : Int32) (own_f q0 p1) (fn + 2))))])) _
              refine XS.aload X86.here hx rfl (hb hby at_209) rfl rfl ?_
              show Steps p.tables e below (T86.setTop (mkF m 211 #[.val (.long q0), .second, .val (.int p1), .val (.int p2), .val (.int p3), .val (.ref b2), .val (.int zc), .val (.int zf), .val (.int (1 : Int32)), .unset, .unset] [(.ref b2), (.int (((own_term zc (0 : Int32) (own_f q0 p1) fn) + (own_term zc (1 : Int32) (own_f q0 p1) (fn + 1))) + (own_term zc (2 : Int32) (own_f q0 p1) (fn + 2))))])) _
              refine XS.iload X86.here hx rfl (hb hby at_211) rfl ?_
              show Steps p.tables e below (T86.setTop (mkF m 213 #[.val (.long q0), .second, .val (.int p1), .val (.int p2), .val (.int p3), .val (.ref b2), .val (.int zc), .val (.int zf), .val (.int (1 : Int32)), .unset, .unset] [(.int zf), (.ref b2), (.int (((own_term zc (0 : Int32) (own_f q0 p1) fn) + (own_term zc (1 : Int32) (own_f q0 p1) (fn + 1))) + (own_term zc (2 : Int32) (own_f q0 p1) (fn + 2))))])) _
              refine XS.iload X86.here hx rfl (hb hby at_213) rfl ?_
              show Steps p.tables e below (T86.setTop (mkF m 215 #[.val (.long q0), .second, .val (.int p1), .val (.int p2), .val (.int p3), .val (.ref b2), .val (.int zc), .val (.int zf), .val (.int (1 : Int32)), .unset, .unset] [(.int zc), (.int zf), (.ref b2), (.int (((own_term zc (0 : Int32) (own_f q0 p1) fn) + (own_term zc (1 : Int32) (own_f q0 p1) (fn + 1))) + (own_term zc (2 : Int32) (own_f q0 p1) (fn + 2))))])) _
              refine XS.iconst X86.here hx rfl (hb hby at_215) ?_
              exact k)
            obtain ⟨_, _, ⟨T88, L88, k88, n88⟩, -, X88, ⟨Lc88, hQ88, l88, y88, z88⟩, st88⟩ := Jvm.LawKit.callS X86 hx (y := (⟨"com/example/zemlja/zemlja/iso2709/Iso2709NumberPinLaw", "term", "([BIII)I"⟩ : MethodName)) hown (mvT hZ (hw _ (List.mem_of_getElem? (i := 13) rfl))) (mvT hZ (hw _ (List.mem_of_getElem? (i := 14) rfl))) (mvT hZ (hw _ (List.mem_of_getElem? (i := 3) rfl))) (mvT hZ (hw _ (List.mem_of_getElem? (i := 15) rfl))) (by decide) (backOf (W := 1) (rm4 l Z a0 hw [] b2 zf zc (3 : Int32) k2 [(.int (nar .byte (own_ba q0 p1 (0 : Int32)))), (.int (nar .byte (own_ba q0 p1 (1 : Int32)))), (.int (nar .byte (own_ba q0 p1 (2 : Int32)))), (.int (nar .byte (own_ba q0 p1 (3 : Int32)))), (.int (nar .byte (own_ba q0 p1 (4 : Int32)))), (.int (nar .byte (own_ba q0 p1 (5 : Int32)))), (.int (nar .byte (own_ba q0 p1 (6 : Int32))))] (own_f q0 p1) (fn + 3) h36 n0 Z36 V36 (own_hv q0 p1) (own_hi (i := 3) hfn hcn hle rfl (by decide)).1 (own_hi (i := 3) hfn hcn hle rfl (by decide)).2) hZ (hw _ (List.mem_of_getElem? (i := 15) rfl)) (hw _ (List.mem_of_getElem? (i := 3) rfl)) (by decide) (by decide)) (g := (mkF m 216 #[.val (.long q0), .second, .val (.int p1), .val (.int p2), .val (.int p3), .val (.ref b2), .val (.int zc), .val (.int zf), .val (.int (1 : Int32)), .unset, .unset] [(.int (3 : Int32)), (.int zc), (.int zf), (.ref b2), (.int (((own_term zc (0 : Int32) (own_f q0 p1) fn) + (own_term zc (1 : Int32) (own_f q0 p1) (fn + 1))) + (own_term zc (2 : Int32) (own_f q0 p1) (fn + 2))))])) rfl (by rw [hml]; rfl) (argsL := [(.ref b2), (.int zf), (.int zc), (.int (3 : Int32))]) (rest := [(.int (((own_term zc (0 : Int32) (own_f q0 p1) fn) + (own_term zc (1 : Int32) (own_f q0 p1) (fn + 1))) + (own_term zc (2 : Int32) (own_f q0 p1) (fn + 2))))]) (lenOf pd0_3 rfl) rfl (by show 2 * 0 + _ ≤ _; exact Nat.le_of_eq rfl) (hb hby at_216) (fun _ _ => ⟨rfl, e86, (by decide : 1 + 0 ≤ _), (by decide : 7 + 0 ≤ _)⟩)
            dsimp only [Pt.U, Pt.locs, Pt.cells, Pt.slots] at X88 l88 y88 z88 st88 hQ88
            rw [l88, y88, z88] at X88
            obtain ⟨rfl, N88q, e88⟩ := hQ88
            have N88 := Fr.app N86 N88q
            have go88 := go87.step (C := T88.setTop (mkF m 219 #[.val (.long q0), .second, .val (.int p1), .val (.int p2), .val (.int p3), .val (.ref b2), .val (.int zc), .val (.int zf), .val (.int (1 : Int32)), .unset, .unset] [(.int (own_term zc (3 : Int32) (own_f q0 p1) (fn + 3))), (.int (((own_term zc (0 : Int32) (own_f q0 p1) fn) + (own_term zc (1 : Int32) (own_f q0 p1) (fn + 1))) + (own_term zc (2 : Int32) (own_f q0 p1) (fn + 2))))])) (fun t k => st88 t k)
            have go89 := go88.step (C := T88.setTop (mkF m 227 #[.val (.long q0), .second, .val (.int p1), .val (.int p2), .val (.int p3), .val (.ref b2), .val (.int zc), .val (.int zf), .val (.int (1 : Int32)), .unset, .unset] [(.int (4 : Int32)), (.int zc), (.int zf), (.ref b2), (.int ((((own_term zc (0 : Int32) (own_f q0 p1) fn) + (own_term zc (1 : Int32) (own_f q0 p1) (fn + 1))) + (own_term zc (2 : Int32) (own_f q0 p1) (fn + 2))) + (own_term zc (3 : Int32) (own_f q0 p1) (fn + 3))))])) (fun t k => by
              show Steps p.tables e below (T88.setTop (mkF m 219 #[.val (.long q0), .second, .val (.int p1), .val (.int p2), .val (.int p3), .val (.ref b2), .val (.int zc), .val (.int zf), .val (.int (1 : Int32)), .unset, .unset] [(.int (own_term zc (3 : Int32) (own_f q0 p1) (fn + 3))), (.int (((own_term zc (0 : Int32) (own_f q0 p1) fn) + (own_term zc (1 : Int32) (own_f q0 p1) (fn + 1))) + (own_term zc (2 : Int32) (own_f q0 p1) (fn + 2))))])) _
              refine XS.iadd X88.here hx rfl (hb hby at_219) rfl ?_
              show Steps p.tables e below (T88.setTop (mkF m 220 #[.val (.long q0), .second, .val (.int p1), .val (.int p2), .val (.int p3), .val (.ref b2), .val (.int zc), .val (.int zf), .val (.int (1 : Int32)), .unset, .unset] [(.int ((((own_term zc (0 : Int32) (own_f q0 p1) fn) + (own_term zc (1 : Int32) (own_f q0 p1) (fn + 1))) + (own_term zc (2 : Int32) (own_f q0 p1) (fn + 2))) + (own_term zc (3 : Int32) (own_f q0 p1) (fn + 3))))])) _
              refine XS.aload X88.here hx rfl (hb hby at_220) rfl rfl ?_
              show Steps p.tables e below (T88.setTop (mkF m 222 #[.val (.long q0), .second, .val (.int p1), .val (.int p2), .val (.int p3), .val (.ref b2), .val (.int zc), .val (.int zf), .val (.int (1 : Int32)), .unset, .unset] [(.ref b2), (.int ((((own_term zc (0 : Int32) (own_f q0 p1) fn) + (own_term zc (1 : Int32) (own_f q0 p1) (fn + 1))) + (own_term zc (2 : Int32) (own_f q0 p1) (fn + 2))) + (own_term zc (3 : Int32) (own_f q0 p1) (fn + 3))))])) _
              refine XS.iload X88.here hx rfl (hb hby at_222) rfl ?_
              show Steps p.tables e below (T88.setTop (mkF m 224 #[.val (.long q0), .second, .val (.int p1), .val (.int p2), .val (.int p3), .val (.ref b2), .val (.int zc), .val (.int zf), .val (.int (1 : Int32)), .unset, .unset] [(.int zf), (.ref b2), (.int ((((own_term zc (0 : Int32) (own_f q0 p1) fn) + (own_term zc (1 : Int32) (own_f q0 p1) (fn + 1))) + (own_term zc (2 : Int32) (own_f q0 p1) (fn + 2))) + (own_term zc (3 : Int32) (own_f q0 p1) (fn + 3))))])) _
              refine XS.iload X88.here hx rfl (hb hby at_224) rfl ?_
              show Steps p.tables e below (T88.setTop (mkF m 226 #[.val (.long q0), .second, .val (.int p1), .val (.int p2), .val (.int p3), .val (.ref b2), .val (.int zc), .val (.int zf), .val (.int (1 : Int32)), .unset, .unset] [(.int zc), (.int zf), (.ref b2), (.int ((((own_term zc (0 : Int32) (own_f q0 p1) fn) + (own_term zc (1 : Int32) (own_f q0 p1) (fn + 1))) + (own_term zc (2 : Int32) (own_f q0 p1) (fn + 2))) + (own_term zc (3 : Int32) (own_f q0 p1) (fn + 3))))])) _
              refine XS.iconst X88.here hx rfl (hb hby at_226) ?_
              exact k)
            obtain ⟨_, _, ⟨T90, L90, k90, n90⟩, -, X90, ⟨Lc90, hQ90, l90, y90, z90⟩, st90⟩ := Jvm.LawKit.callS X88 hx (y := (⟨"com/example/zemlja/zemlja/iso2709/Iso2709NumberPinLaw", "term", "([BIII)I"⟩ : MethodName)) hown (mvT hZ (hw _ (List.mem_of_getElem? (i := 13) rfl))) (mvT hZ (hw _ (List.mem_of_getElem? (i := 14) rfl))) (mvT hZ (hw _ (List.mem_of_getElem? (i := 3) rfl))) (mvT hZ (hw _ (List.mem_of_getElem? (i := 15) rfl))) (by decide) (backOf (W := 1) (rm4 l Z a0 hw [] b2 zf zc (4 : Int32) k2 [(.int (nar .byte (own_ba q0 p1 (0 : Int32)))), (.int (nar .byte (own_ba q0 p1 (1 : Int32)))), (.int (nar .byte (own_ba q0 p1 (2 : Int32)))), (.int (nar .byte (own_ba q0 p1 (3 : Int32)))), (.int (nar .byte (own_ba q0 p1 (4 : Int32)))), (.int (nar .byte (own_ba q0 p1 (5 : Int32)))), (.int (nar .byte (own_ba q0 p1 (6 : Int32))))] (own_f q0 p1) (fn + 4) h36 n0 Z36 V36 (own_hv q0 p1) (own_hi (i := 4) hfn hcn hle rfl (by decide)).1 (own_hi (i := 4) hfn hcn hle rfl (by decide)).2) hZ (hw _ (List.mem_of_getElem? (i := 15) rfl)) (hw _ (List.mem_of_getElem? (i := 3) rfl)) (by decide) (by decide)) (g := (mkF m 227 #[.val (.long q0), .second, .val (.int p1), .val (.int p2), .val (.int p3), .val (.ref b2), .val (.int zc), .val (.int zf), .val (.int (1 : Int32)), .unset, .unset] [(.int (4 : Int32)), (.int zc), (.int zf), (.ref b2), (.int ((((own_term zc (0 : Int32) (own_f q0 p1) fn) + (own_term zc (1 : Int32) (own_f q0 p1) (fn + 1))) + (own_term zc (2 : Int32) (own_f q0 p1) (fn + 2))) + (own_term zc (3 : Int32) (own_f q0 p1) (fn + 3))))])) rfl (by rw [hml]; rfl) (argsL := [(.ref b2), (.int zf), (.int zc), (.int (4 : Int32))]) (rest := [(.int ((((own_term zc (0 : Int32) (own_f q0 p1) fn) + (own_term zc (1 : Int32) (own_f q0 p1) (fn + 1))) + (own_term zc (2 : Int32) (own_f q0 p1) (fn + 2))) + (own_term zc (3 : Int32) (own_f q0 p1) (fn + 3))))]) (lenOf pd0_3 rfl) rfl (by show 2 * 0 + _ ≤ _; exact Nat.le_of_eq rfl) (hb hby at_227) (fun _ _ => ⟨rfl, e88, (by decide : 1 + 0 ≤ _), (by decide : 7 + 0 ≤ _)⟩)
            dsimp only [Pt.U, Pt.locs, Pt.cells, Pt.slots] at X90 l90 y90 z90 st90 hQ90
            rw [l90, y90, z90] at X90
            obtain ⟨rfl, N90q, e90⟩ := hQ90
            have N90 := Fr.app N88 N90q
            have go90 := go89.step (C := T90.setTop (mkF m 230 #[.val (.long q0), .second, .val (.int p1), .val (.int p2), .val (.int p3), .val (.ref b2), .val (.int zc), .val (.int zf), .val (.int (1 : Int32)), .unset, .unset] [(.int (own_term zc (4 : Int32) (own_f q0 p1) (fn + 4))), (.int ((((own_term zc (0 : Int32) (own_f q0 p1) fn) + (own_term zc (1 : Int32) (own_f q0 p1) (fn + 1))) + (own_term zc (2 : Int32) (own_f q0 p1) (fn + 2))) + (own_term zc (3 : Int32) (own_f q0 p1) (fn + 3))))])) (fun t k => st90 t k)
            have go91 := go90.step (C := T90.setTop (mkF m 245 #[.val (.long q0), .second, .val (.int p1), .val (.int p2), .val (.int p3), .val (.ref b2), .val (.int zc), .val (.int zf), .val (.int (1 : Int32)), .val (.int (((((own_term zc (0 : Int32) (own_f q0 p1) fn) + (own_term zc (1 : Int32) (own_f q0 p1) (fn + 1))) + (own_term zc (2 : Int32) (own_f q0 p1) (fn + 2))) + (own_term zc (3 : Int32) (own_f q0 p1) (fn + 3))) + (own_term zc (4 : Int32) (own_f q0 p1) (fn + 4)))), .unset] [(.int zc), (.int zf), (.ref b2)])) (fun t k => by
              show Steps p.tables e below (T90.setTop (mkF m 230 #[.val (.long q0), .second, .val (.int p1), .val (.int p2), .val (.int p3), .val (.ref b2), .val (.int zc), .val (.int zf), .val (.int (1 : Int32)), .unset, .unset] [(.int (own_term zc (4 : Int32) (own_f q0 p1) (fn + 4))), (.int ((((own_term zc (0 : Int32) (own_f q0 p1) fn) + (own_term zc (1 : Int32) (own_f q0 p1) (fn + 1))) + (own_term zc (2 : Int32) (own_f q0 p1) (fn + 2))) + (own_term zc (3 : Int32) (own_f q0 p1) (fn + 3))))])) _
              refine XS.iadd X90.here hx rfl (hb hby at_230) rfl ?_
              show Steps p.tables e below (T90.setTop (mkF m 231 #[.val (.long q0), .second, .val (.int p1), .val (.int p2), .val (.int p3), .val (.ref b2), .val (.int zc), .val (.int zf), .val (.int (1 : Int32)), .unset, .unset] [(.int (((((own_term zc (0 : Int32) (own_f q0 p1) fn) + (own_term zc (1 : Int32) (own_f q0 p1) (fn + 1))) + (own_term zc (2 : Int32) (own_f q0 p1) (fn + 2))) + (own_term zc (3 : Int32) (own_f q0 p1) (fn + 3))) + (own_term zc (4 : Int32) (own_f q0 p1) (fn + 4))))])) _
              refine XS.istore X90.here hx rfl (hb hby at_231) rfl (l' := #[.val (.long q0), .second, .val (.int p1), .val (.int p2), .val (.int p3), .val (.ref b2), .val (.int zc), .val (.int zf), .val (.int (1 : Int32)), .val (.int (((((own_term zc (0 : Int32) (own_f q0 p1) fn) + (own_term zc (1 : Int32) (own_f q0 p1) (fn + 1))) + (own_term zc (2 : Int32) (own_f q0 p1) (fn + 2))) + (own_term zc (3 : Int32) (own_f q0 p1) (fn + 3))) + (own_term zc (4 : Int32) (own_f q0 p1) (fn + 4)))), .unset]) rfl ?_
              show Steps p.tables e below (T90.setTop (mkF m 233 #[.val (.long q0), .second, .val (.int p1), .val (.int p2), .val (.int p3), .val (.ref b2), .val (.int zc), .val (.int zf), .val (.int (1 : Int32)), .val (.int (((((own_term zc (0 : Int32) (own_f q0 p1) fn) + (own_term zc (1 : Int32) (own_f q0 p1) (fn + 1))) + (own_term zc (2 : Int32) (own_f q0 p1) (fn + 2))) + (own_term zc (3 : Int32) (own_f q0 p1) (fn + 3))) + (own_term zc (4 : Int32) (own_f q0 p1) (fn + 4)))), .unset] [])) _
              refine XS.goto X90.here hx rfl (pc0 := 233) (pc' := 239) rfl (hb hby at_233) (by decide) (by decide) ?_
              show Steps p.tables e below (T90.setTop (mkF m 239 #[.val (.long q0), .second, .val (.int p1), .val (.int p2), .val (.int p3), .val (.ref b2), .val (.int zc), .val (.int zf), .val (.int (1 : Int32)), .val (.int (((((own_term zc (0 : Int32) (own_f q0 p1) fn) + (own_term zc (1 : Int32) (own_f q0 p1) (fn + 1))) + (own_term zc (2 : Int32) (own_f q0 p1) (fn + 2))) + (own_term zc (3 : Int32) (own_f q0 p1) (fn + 3))) + (own_term zc (4 : Int32) (own_f q0 p1) (fn + 4)))), .unset] [])) _
              refine XS.aload X90.here hx rfl (hb hby at_239) rfl rfl ?_
              show Steps p.tables e below (T90.setTop (mkF m 241 #[.val (.long q0), .second, .val (.int p1), .val (.int p2), .val (.int p3), .val (.ref b2), .val (.int zc), .val (.int zf), .val (.int (1 : Int32)), .val (.int (((((own_term zc (0 : Int32) (own_f q0 p1) fn) + (own_term zc (1 : Int32) (own_f q0 p1) (fn + 1))) + (own_term zc (2 : Int32) (own_f q0 p1) (fn + 2))) + (own_term zc (3 : Int32) (own_f q0 p1) (fn + 3))) + (own_term zc (4 : Int32) (own_f q0 p1) (fn + 4)))), .unset] [(.ref b2)])) _
              refine XS.iload X90.here hx rfl (hb hby at_241) rfl ?_
              show Steps p.tables e below (T90.setTop (mkF m 243 #[.val (.long q0), .second, .val (.int p1), .val (.int p2), .val (.int p3), .val (.ref b2), .val (.int zc), .val (.int zf), .val (.int (1 : Int32)), .val (.int (((((own_term zc (0 : Int32) (own_f q0 p1) fn) + (own_term zc (1 : Int32) (own_f q0 p1) (fn + 1))) + (own_term zc (2 : Int32) (own_f q0 p1) (fn + 2))) + (own_term zc (3 : Int32) (own_f q0 p1) (fn + 3))) + (own_term zc (4 : Int32) (own_f q0 p1) (fn + 4)))), .unset] [(.int zf), (.ref b2)])) _
              refine XS.iload X90.here hx rfl (hb hby at_243) rfl ?_
              exact k)
            obtain ⟨_, _, ⟨T92, L92, k92, n92⟩, -, X92, ⟨Lc92, hQ92, l92, y92, z92⟩, st92⟩ := Jvm.LawKit.callS X90 hx (y := (⟨"com/example/zemlja/zemlja/iso2709/Iso2709", "number", "([BII)I"⟩ : MethodName)) hown (mvT hZ (hw _ (List.mem_of_getElem? (i := 9) rfl))) (mvT hZ (hw _ (List.mem_of_getElem? (i := 10) rfl))) (mvT hZ (hw _ (List.mem_of_getElem? (i := 11) rfl))) (mvT hZ (hw _ (List.mem_of_getElem? (i := 12) rfl))) (by decide) (backOf (W := 0) (rm3 l Z a0 hw [] b2 zf zc k2 [(.int (nar .byte (own_ba q0 p1 (0 : Int32)))), (.int (nar .byte (own_ba q0 p1 (1 : Int32)))), (.int (nar .byte (own_ba q0 p1 (2 : Int32)))), (.int (nar .byte (own_ba q0 p1 (3 : Int32)))), (.int (nar .byte (own_ba q0 p1 (4 : Int32)))), (.int (nar .byte (own_ba q0 p1 (5 : Int32)))), (.int (nar .byte (own_ba q0 p1 (6 : Int32))))] (own_f q0 p1) fn cn h36 n0 Z36 V36 (own_hv q0 p1) hfn hcn hle) hZ (hw _ (List.mem_of_getElem? (i := 12) rfl)) (hw _ (List.mem_of_getElem? (i := 11) rfl)) (by decide) (by decide)) (g := (mkF m 245 #[.val (.long q0), .second, .val (.int p1), .val (.int p2), .val (.int p3), .val (.ref b2), .val (.int zc), .val (.int zf), .val (.int (1 : Int32)), .val (.int (((((own_term zc (0 : Int32) (own_f q0 p1) fn) + (own_term zc (1 : Int32) (own_f q0 p1) (fn + 1))) + (own_term zc (2 : Int32) (own_f q0 p1) (fn + 2))) + (own_term zc (3 : Int32) (own_f q0 p1) (fn + 3))) + (own_term zc (4 : Int32) (own_f q0 p1) (fn + 4)))), .unset] [(.int zc), (.int zf), (.ref b2)])) rfl (by rw [hml]; rfl) (argsL := [(.ref b2), (.int zf), (.int zc)]) (rest := []) (lenOf pd0_2 rfl) rfl (by show 2 * 0 + _ ≤ _; exact Nat.le_of_eq rfl) (hb hby at_245) (fun _ _ => ⟨rfl, e90, (by decide : 1 + 0 ≤ _), (by decide : 7 + 0 ≤ _)⟩)
            dsimp only [Pt.U, Pt.locs, Pt.cells, Pt.slots] at X92 l92 y92 z92 st92 hQ92
            rw [l92, y92, z92] at X92
            obtain ⟨rfl, N92q, e92⟩ := hQ92
            have N92 := Fr.app N90 N92q
            have go92 := go91.step (C := T92.setTop (mkF m 248 #[.val (.long q0), .second, .val (.int p1), .val (.int p2), .val (.int p3), .val (.ref b2), .val (.int zc), .val (.int zf), .val (.int (1 : Int32)), .val (.int (((((own_term zc (0 : Int32) (own_f q0 p1) fn) + (own_term zc (1 : Int32) (own_f q0 p1) (fn + 1))) + (own_term zc (2 : Int32) (own_f q0 p1) (fn + 2))) + (own_term zc (3 : Int32) (own_f q0 p1) (fn + 3))) + (own_term zc (4 : Int32) (own_f q0 p1) (fn + 4)))), .unset] [(.int (own_num (own_f q0 p1) fn cn (0 : Int32)))])) (fun t k => st92 t k)
            have go94 := go92.step (C := T92.setTop (mkF m 262 #[.val (.long q0), .second, .val (.int p1), .val (.int p2), .val (.int p3), .val (.ref b2), .val (.int zc), .val (.int zf), .val (.int (1 : Int32)), .val (.int (((((own_term zc (0 : Int32) (own_f q0 p1) fn) + (own_term zc (1 : Int32) (own_f q0 p1) (fn + 1))) + (own_term zc (2 : Int32) (own_f q0 p1) (fn + 2))) + (own_term zc (3 : Int32) (own_f q0 p1) (fn + 3))) + (own_term zc (4 : Int32) (own_f q0 p1) (fn + 4)))), .val (.int (own_num (own_f q0 p1) fn cn (0 : Int32)))] [(.int (1 : Int32))])) (fun t k => by
              show Steps p.tables e below (T92.setTop (mkF m 248 #[.val (.long q0), .second, .val (.int p1), .val (.int p2), .val (.int p3), .val (.ref b2), .val (.int zc), .val (.int zf), .val (.int (1 : Int32)), .val (.int (((((own_term zc (0 : Int32) (own_f q0 p1) fn) + (own_term zc (1 : Int32) (own_f q0 p1) (fn + 1))) + (own_term zc (2 : Int32) (own_f q0 p1) (fn + 2))) + (own_term zc (3 : Int32) (own_f q0 p1) (fn + 3))) + (own_term zc (4 : Int32) (own_f q0 p1) (fn + 4)))), .unset] [(.int (own_num (own_f q0 p1) fn cn (0 : Int32)))])) _
              refine XS.istore X92.here hx rfl (hb hby at_248) rfl (l' := #[.val (.long q0), .second, .val (.int p1), .val (.int p2), .val (.int p3), .val (.ref b2), .val (.int zc), .val (.int zf), .val (.int (1 : Int32)), .val (.int (((((own_term zc (0 : Int32) (own_f q0 p1) fn) + (own_term zc (1 : Int32) (own_f q0 p1) (fn + 1))) + (own_term zc (2 : Int32) (own_f q0 p1) (fn + 2))) + (own_term zc (3 : Int32) (own_f q0 p1) (fn + 3))) + (own_term zc (4 : Int32) (own_f q0 p1) (fn + 4)))), .val (.int (own_num (own_f q0 p1) fn cn (0 : Int32)))]) rfl ?_
              show Steps p.tables e below (T92.setTop (mkF m 250 #[.val (.long q0), .second, .val (.int p1), .val (.int p2), .val (.int p3), .val (.ref b2), .val (.int zc), .val (.int zf), .val (.int (1 : Int32)), .val (.int (((((own_term zc (0 : Int32) (own_f q0 p1) fn) + (own_term zc (1 : Int32) (own_f q0 p1) (fn + 1))) + (own_term zc (2 : Int32) (own_f q0 p1) (fn + 2))) + (own_term zc (3 : Int32) (own_f q0 p1) (fn + 3))) + (own_term zc (4 : Int32) (own_f q0 p1) (fn + 4)))), .val (.int (own_num (own_f q0 p1) fn cn (0 : Int32)))] [])) _
              refine XS.iload X92.here hx rfl (hb hby at_250) rfl ?_
              show Steps p.tables e below (T92.setTop (mkF m 252 #[.val (.long q0), .second, .val (.int p1), .val (.int p2), .val (.int p3), .val (.ref b2), .val (.int zc), .val (.int zf), .val (.int (1 : Int32)), .val (.int (((((own_term zc (0 : Int32) (own_f q0 p1) fn) + (own_term zc (1 : Int32) (own_f q0 p1) (fn + 1))) + (own_term zc (2 : Int32) (own_f q0 p1) (fn + 2))) + (own_term zc (3 : Int32) (own_f q0 p1) (fn + 3))) + (own_term zc (4 : Int32) (own_f q0 p1) (fn + 4)))), .val (.int (own_num (own_f q0 p1) fn cn (0 : Int32)))] [(.int (own_num (own_f q0 p1) fn cn (0 : Int32)))])) _
              refine XS.iload X92.here hx rfl (hb hby at_252) rfl ?_
              show Steps p.tables e below (T92.setTop (mkF m 254 #[.val (.long q0), .second, .val (.int p1), .val (.int p2), .val (.int p3), .val (.ref b2), .val (.int zc), .val (.int zf), .val (.int (1 : Int32)), .val (.int (((((own_term zc (0 : Int32) (own_f q0 p1) fn) + (own_term zc (1 : Int32) (own_f q0 p1) (fn + 1))) + (own_term zc (2 : Int32) (own_f q0 p1) (fn + 2))) + (own_term zc (3 : Int32) (own_f q0 p1) (fn + 3))) + (own_term zc (4 : Int32) (own_f q0 p1) (fn + 4)))), .val (.int (own_num (own_f q0 p1) fn cn (0 : Int32)))] [(.int (((((own_term zc (0 : Int32) (own_f q0 p1) fn) + (own_term zc (1 : Int32) (own_f q0 p1) (fn + 1))) + (own_term zc (2 : Int32) (own_f q0 p1) (fn + 2))) + (own_term zc (3 : Int32) (own_f q0 p1) (fn + 3))) + (own_term zc (4 : Int32) (own_f q0 p1) (fn + 4)))), (.int (own_num (own_f q0 p1) fn cn (0 : Int32)))])) _
              refine XS.icmpNo X92.here hx rfl (hb hby at_254) rfl (teq (own_sum hcn h5 hc42 hc50 hc58 hc66 hc74 : (own_num (own_f q0 p1) fn cn (0 : Int32)) = (((((own_term zc (0 : Int32) (own_f q0 p1) fn) + (own_term zc (1 : Int32) (own_f q0 p1) (fn + 1))) + (own_term zc (2 : Int32) (own_f q0 p1) (fn + 2))) + (own_term zc (3 : Int32) (own_f q0 p1) (fn + 3))) + (own_term zc (4 : Int32) (own_f q0 p1) (fn + 4))))).2 ?_
              show Steps p.tables e below (T92.setTop (mkF m 257 #[.val (.long q0), .second, .val (.int p1), .val (.int p2), .val (.int p3), .val (.ref b2), .val (.int zc), .val (.int zf), .val (.int (1 : Int32)), .val (.int (((((own_term zc (0 : Int32) (own_f q0 p1) fn) + (own_term zc (1 : Int32) (own_f q0 p1) (fn + 1))) + (own_term zc (2 : Int32) (own_f q0 p1) (fn + 2))) + (own_term zc (3 : Int32) (own_f q0 p1) (fn + 3))) + (own_term zc (4 : Int32) (own_f q0 p1) (fn + 4)))), .val (.int (own_num (own_f q0 p1) fn cn (0 : Int32)))] [])) _
              refine XS.iconst X92.here hx rfl (hb hby at_257) ?_
              show Steps p.tables e below (T92.setTop (mkF m 258 #[.val (.long q0), .second, .val (.int p1), .val (.int p2), .val (.int p3), .val (.ref b2), .val (.int zc), .val (.int zf), .val (.int (1 : Int32)), .val (.int (((((own_term zc (0 : Int32) (own_f q0 p1) fn) + (own_term zc (1 : Int32) (own_f q0 p1) (fn + 1))) + (own_term zc (2 : Int32) (own_f q0 p1) (fn + 2))) + (own_term zc (3 : Int32) (own_f q0 p1) (fn + 3))) + (own_term zc (4 : Int32) (own_f q0 p1) (fn + 4)))), .val (.int (own_num (own_f q0 p1) fn cn (0 : Int32)))] [(.int (1 : Int32))])) _
              refine XS.goto X92.here hx rfl (pc0 := 258) (pc' := 262) rfl (hb hby at_258) (by decide) (by decide) ?_
              exact k)
            obtain ⟨fs, hr, hrun, hended, hW, hsame⟩ := X92.leave (v := some (.int (1 : Int32))) (fun h => by rw [Bd.returns] at h; cases h)
            refine ⟨_, _, go94 _ ?_, hrun, hended, _, _, rfl, ?_, ⟨_, rfl⟩, hW, hsame.mono (by decide) (by decide)⟩
            · exact retN X92 hx (t := .boolean) Bd.returns (by simp) (hb hby at_262) hr
            · show Q_rm0 Z q0 p1 p2 p3 h0 n0 _ T92.heap _
              rw [e92]
              exact ⟨rfl, N92⟩
set_option maxRecDepth 65536 in
set_option maxHeartbeats 40000000 in
theorem comes_1 {Post : Tables → Env → Array Value → State → Outcome → State → Prop} (hpost : ∀ tb e args s v u, (limb_1_1.after args s (.returned v) u = true ∧ limb_1_2.after args s (.returned v) u = true ∧ True) → FrameEnd s (.returned v) u (Jvm.fieldLocs frame_1_writes args s ++ Jvm.arrayLocs frame_1_arrays args s ++ Jvm.staticLocs frame_1_statics s) 16 128 → Post tb e args s (.returned v) u) :
    ArmFor flags0 classFile x code maxLocals ret World_1 tables_1 room_1 Calls_1 rest_1 Pre_1 Post := by
  intro l hfl _ _ p e ha hc hk s m args below hf hA hF happ hP
  obtain ⟨hcalls, hrest, hpre⟩ := hP
  obtain ⟨-, -, -, hnamed, -, -, -, hat⟩ := (Spec.applies_iff hf).mp happ
  obtain ⟨hg, hn⟩ := and_e (Cond.before_iff.mp (show (Jvm.Cond.and given_1 narrow_1).before args s = true from hpre))
  obtain ⟨gg0, gr0⟩ := and_e hg
  obtain ⟨gg1, gr1⟩ := and_e gr0
  obtain ⟨gg2, gr2⟩ := and_e gr1
  obtain ⟨gg3, gr3⟩ := and_e gr2
  obtain ⟨w0, w1, w2, w3, rfl⟩ : ∃ w0 w1 w2 w3 : Value, args = #[w0, w1, w2, w3] := by
    have hs : args.size = 4 := by simpa [Cond.value, given_1] using gg0
    obtain ⟨L⟩ := args
    match L, hs with
    | [w0, w1, w2, w3], _ => exact ⟨w0, w1, w2, w3, rfl⟩
  have hw := fun d (hd : d ∈ tables_1) => atoms_spec (ws := Jvm.Cond.code x code maxLocals ret :: tables_1) hat d (List.mem_cons_of_mem _ hd)
  have hfit : Fit s := fun {y c} hc i hi => by
    obtain ⟨ha, rfl⟩ := Array.getElem?_eq_some_iff.mp hc
    have q := List.all_eq_true.mp ((Array.all_eq_true_iff_forall_mem.mp hF) _ (Array.getElem_mem ha)) i (List.mem_range.mpr hi)
    simpa [Array.getElem?_eq_getElem hi] using q
  obtain ⟨i0, ei0⟩ := isL_v gg1
  obtain rfl : w0 = (.long i0) := Option.some.inj ei0
  obtain ⟨i1, ei1⟩ := is_v gg2
  obtain rfl : w1 = (.int i1) := Option.some.inj ei1
  obtain ⟨i2, ei2⟩ := is_v gg3
  obtain rfl : w2 = (.int i2) := Option.some.inj ei2
  obtain ⟨i3, ei3⟩ := is_v gr3
  obtain rfl : w3 = (.int i3) := Option.some.inj ei3
  obtain ⟨n, o, h1, h2, h3, _, L, rfl, ⟨rfl, N⟩, hq⟩ := rm0 l s _ hw tables_1 i0 i1 i2 i3  s.heap s.heap.size (Nat.le_refl _)  p e ha hc hk s m _ below hf ((Spec.applies_iff_loose hf).mp happ).1 ⟨rfl, State.Warmed39.refl s, rfl⟩ trivial
  refine ⟨n, _, h1, h2, h3, hpost _ _ _ _ _ _ ⟨Cond.after_iff.mpr rfl, Cond.after_iff.mpr (eq_i res_at (Term.int_eval (1)) rfl), trivial⟩ ⟨hq.1, hq.2.1, (hq.2.2.sift fun y hy => Or.inr (N y hy)).mono (by decide) (by decide)⟩⟩
theorem main_1_1 : Claimed_1_1 := comes_1 fun _ _ _ _ _ _ h hF => ⟨h.1, hF⟩
theorem main_1_2 : Claimed_1_2 := comes_1 fun _ _ _ _ _ _ h hF => ⟨h.2.1, hF⟩
end Jvm.Pilot.@@N@@
namespace Jvm.Pilot.@@N@@
open Jvm Jvm.ClassFile Sem Op Lib Jvm.Free Jvm.Stand Jvm.Pilot.@@N@@.Jvm.D
/-! MADE BY PROGRAM (witnessworld.py) out of the Statement's table words and the real class files: 9 classes; the members and pool entries that the words name. The judged class is class 1, her method 5. -/
namespace start1
open Jvm.ClassFile
def u (s : String) : CpInfo := .utf8 (stringToUtf16 s)
/-- a pool by its gaps: so many unusable entries, then the entry; so many at the end -/
def gap : Nat → List CpInfo → List CpInfo
  | 0, r => r
  | n + 1, r => .unusable :: gap n r
def poolList (es : List (Nat × CpInfo)) (last : Nat) : List CpInfo := es.foldr (fun e r => gap e.1 (e.2 :: r)) (gap last [])
def pool (es : List (Nat × CpInfo)) (last : Nat) : Array CpInfo := ⟨poolList es last⟩
def fileOf (pool : Array CpInfo) (this : Nat) (attrs : Array Attribute := #[]) (ms : Array MethodInfo := #[]) (fl : Nat := 33) (sup : Nat := 0) (ifs : Array Nat := #[]) (fds : Array FieldInfo := #[]) : ClassFile where
  minorVersion := 0
  majorVersion := 65
  constantPool := pool
  accessFlags := fl
  thisClass := this
  superClass := sup
  interfaces := ifs
  fields := fds
  methods := ms
  attributes := attrs
def plain (name : String) (sup : Option ClassId) : Class where
  name := name
  kind := .ordinary
  loader := none
  accessFlags := 33
  super := sup
  interfaces := #[]
  cf := none
  fields := #[]
  methods := #[]
  instanceTypes := #[]
  staticTypes := #[]
  resolved := #[]
  callSites := []
  init := .initialized
  statics := none
  mirror := none

def pool0 : Array CpInfo := pool [(5, u "<init>"), (0, u "()V"), (1, .class_ 10), (1, u "java/lang/Object")] 113

def k0m0 : Method := { name := "<init>", desc := "()V", sig := { parameters := [], returnType := none }, accessFlags := 1, code := none }
/-- java/lang/Object -/
def k0 : Class := { plain "java/lang/Object" none with
  accessFlags := 33
  interfaces := #[]
  cf := some (fileOf pool0 8 #[] #[{ accessFlags := 1, nameIndex := 5, descriptorIndex := 6, attributes := #[] }] 33 0 #[] #[])
  fields := #[]
  methods := #[k0m0]
  instanceTypes := #[]
  staticTypes := #[]
  resolved := Array.replicate 124 none
  statics := none }

def pool1 : Array CpInfo := pool [(2, .class_ 4), (1, u "java/lang/Object"), (0, u "<init>"), (0, u "()V"), (0, .methodref 8 9), (0, .class_ 10), (0, .nameAndType 11 12), (0, u "com/example/zemlja/zemlja/iso2709/Iso2709NumberPinLaw"), (0, u "pow10"), (0, u "(I)I"), (0, .methodref 8 14), (0, .nameAndType 15 16), (0, u "byteAt"), (0, u "(JII)B"), (0, .integer 2147483647), (0, .methodref 8 19), (0, .nameAndType 20 21), (0, u "ok"), (0, u "([BIII)Z"), (0, .methodref 8 23), (0, .nameAndType 24 25), (0, u "term"), (0, u "([BIII)I"), (0, .methodref 27 28), (0, .class_ 29), (0, .nameAndType 30 31), (0, u "com/example/zemlja/zemlja/iso2709/Iso2709"), (0, u "number"), (0, u "([BII)I"), (3, u "law"), (0, u "(JIII)Z")] 4

def k1m0 : Method := { name := "<init>", desc := "()V", sig := { parameters := [], returnType := none }, accessFlags := 1, code := none }
def k1c1 : Code := { maxStack := 4, maxLocals := 5, code := method_2_code, exceptionTable := #[], attributes := #[] }
def k1m1 : Method := { name := "byteAt", desc := "(JII)B", sig := { parameters := [.long, .int, .int], returnType := some .byte }, accessFlags := 10, code := some k1c1 }
def k1c2 : Code := { maxStack := 2, maxLocals := 1, code := method_3_code, exceptionTable := #[], attributes := #[] }
def k1m2 : Method := { name := "pow10", desc := "(I)I", sig := { parameters := [.int], returnType := some .int }, accessFlags := 10, code := some k1c2 }
def k1c3 : Code := { maxStack := 3, maxLocals := 5, code := method_4_code, exceptionTable := #[], attributes := #[] }
def k1m3 : Method := { name := "ok", desc := "([BIII)Z", sig := { parameters := [(.array .byte), .int, .int, .int], returnType := some .boolean }, accessFlags := 10, code := some k1c3 }
def k1c4 : Code := { maxStack := 3, maxLocals := 4, code := method_5_code, exceptionTable := #[], attributes := #[] }
def k1m4 : Method := { name := "term", desc := "([BIII)I", sig := { parameters := [(.array .byte), .int, .int, .int], returnType := some .int }, accessFlags := 10, code := some k1c4 }
def k1c5 : Code := { maxStack := 6, maxLocals := 11, code := code, exceptionTable := #[], attributes := #[] }
def k1m5 : Method := { name := "law", desc := "(JIII)Z", sig := { parameters := [.long, .int, .int, .int], returnType := some .boolean }, accessFlags := 9, code := some k1c5 }
/-- com/example/zemlja/zemlja/iso2709/Iso2709NumberPinLaw -/
def k1 : Class := { plain "com/example/zemlja/zemlja/iso2709/Iso2709NumberPinLaw" (some 0) with
  accessFlags := 49
  interfaces := #[]
  cf := some (fileOf pool1 8 #[] #[{ accessFlags := 1, nameIndex := 5, descriptorIndex := 6, attributes := #[] }, { accessFlags := 10, nameIndex := 15, descriptorIndex := 16, attributes := #[] }, { accessFlags := 10, nameIndex := 11, descriptorIndex := 12, attributes := #[] }, { accessFlags := 10, nameIndex := 20, descriptorIndex := 21, attributes := #[] }, { accessFlags := 10, nameIndex := 24, descriptorIndex := 25, attributes := #[] }, { accessFlags := 9, nameIndex := 35, descriptorIndex := 36, attributes := #[] }] 49 2 #[] #[])
  fields := #[]
  methods := #[k1m0, k1m1, k1m2, k1m3, k1m4, k1m5]
  instanceTypes := #[]
  staticTypes := #[]
  resolved := Array.replicate 41 none
  statics := none }

def pool2 : Array CpInfo := pool [(2, .class_ 4), (1, u "java/lang/Object"), (0, u "<init>"), (0, u "()V"), (0, .class_ 8), (0, u "com/example/zemlja/zemlja/iso2709/Iso2709"), (0, u "LEADER_LENGTH"), (0, u "I"), (2, u "NUMBER_LENGTH"), (1, u "RECORD_LENGTH_POSITION"), (1, u "BASE_ADDRESS_POSITION"), (1, u "TAG_LENGTH"), (1, u "FIELD_TERMINATOR"), (0, u "B"), (1, u "RECORD_TERMINATOR"), (3, u "number"), (0, u "([BII)I")] 3

def k2m0 : Method := { name := "<init>", desc := "()V", sig := { parameters := [], returnType := none }, accessFlags := 2, code := none }
def k2c1 : Code := { maxStack := 3, maxLocals := 6, code := prog_34_method_2_code, exceptionTable := #[], attributes := #[] }
def k2m1 : Method := { name := "number", desc := "([BII)I", sig := { parameters := [(.array .byte), .int, .int], returnType := some .int }, accessFlags := 8, code := some k2c1 }
/-- com/example/zemlja/zemlja/iso2709/Iso2709 -/
def k2 : Class := { plain "com/example/zemlja/zemlja/iso2709/Iso2709" (some 0) with
  accessFlags := 48
  interfaces := #[]
  cf := some (fileOf pool2 7 #[] #[{ accessFlags := 2, nameIndex := 5, descriptorIndex := 6, attributes := #[] }, { accessFlags := 8, nameIndex := 28, descriptorIndex := 29, attributes := #[] }] 48 2 #[] #[{ accessFlags := 24, nameIndex := 9, descriptorIndex := 10, attributes := #[] }, { accessFlags := 24, nameIndex := 13, descriptorIndex := 10, attributes := #[] }, { accessFlags := 24, nameIndex := 15, descriptorIndex := 10, attributes := #[] }, { accessFlags := 24, nameIndex := 17, descriptorIndex := 10, attributes := #[] }, { accessFlags := 24, nameIndex := 19, descriptorIndex := 10, attributes := #[] }, { accessFlags := 24, nameIndex := 21, descriptorIndex := 22, attributes := #[] }, { accessFlags := 24, nameIndex := 24, descriptorIndex := 22, attributes := #[] }])
  fields := #[{ name := "LEADER_LENGTH", type := .int, accessFlags := 24, slot := 0, constantValue := 0 }, { name := "NUMBER_LENGTH", type := .int, accessFlags := 24, slot := 1, constantValue := 0 }, { name := "RECORD_LENGTH_POSITION", type := .int, accessFlags := 24, slot := 2, constantValue := 0 }, { name := "BASE_ADDRESS_POSITION", type := .int, accessFlags := 24, slot := 3, constantValue := 0 }, { name := "TAG_LENGTH", type := .int, accessFlags := 24, slot := 4, constantValue := 0 }, { name := "FIELD_TERMINATOR", type := .byte, accessFlags := 24, slot := 5, constantValue := 0 }, { name := "RECORD_TERMINATOR", type := .byte, accessFlags := 24, slot := 6, constantValue := 0 }]
  methods := #[k2m0, k2m1]
  instanceTypes := #[]
  staticTypes := #[.int, .int, .int, .int, .int, .byte, .byte]
  resolved := Array.replicate 33 none
  statics := none }

def pool3 : Array CpInfo := pool [(1, u "java/lang/Cloneable"), (0, .class_ 1), (0, u "java/lang/Object"), (0, .class_ 3)] 3

/-- java/lang/Cloneable -/
def k3 : Class := { plain "java/lang/Cloneable" (some 0) with
  accessFlags := 1537
  interfaces := #[]
  cf := some (fileOf pool3 2 #[] #[] 1537 4 #[] #[])
  fields := #[]
  methods := #[]
  instanceTypes := #[]
  staticTypes := #[]
  resolved := Array.replicate 8 none
  statics := none }

def pool4 : Array CpInfo := pool [(1, u "java/io/Serializable"), (0, .class_ 1), (0, u "java/lang/Object"), (0, .class_ 3)] 3

/-- java/io/Serializable -/
def k4 : Class := { plain "java/io/Serializable" (some 0) with
  accessFlags := 1537
  interfaces := #[]
  cf := some (fileOf pool4 2 #[] #[] 1537 4 #[] #[])
  fields := #[]
  methods := #[]
  instanceTypes := #[]
  staticTypes := #[]
  resolved := Array.replicate 8 none
  statics := none }

/-- the primitive byte -/
def k5 : Class := { plain "byte" none with kind := .primitive 'B', accessFlags := 0x411 }
/-- [B -/
def k6 : Class := { plain "[B" (some 0) with kind := .array 5 .byte, interfaces := #[3, 4], accessFlags := 1041 }

/-- the primitive int -/
def k7 : Class := { plain "int" none with kind := .primitive 'I', accessFlags := 0x411 }
/-- [I -/
def k8 : Class := { plain "[I" (some 0) with kind := .array 7 .int, interfaces := #[3, 4], accessFlags := 1041 }

def heap : Heap := #[]
def classes : Array Class := #[k0, k1, k2, k3, k4, k5, k6, k7, k8]
def interned : List (Array UInt16 × Addr) := []
def slotsUsed : Nat := 0
def theMethod : MethodId := ⟨1, 5⟩
def args0 : Array Value := #[.long 5, .int 7, .int 3, .int 2]
def aboutOver (below : List Frame) : State where
  vm := { classes := classes, interned := interned.toArray }
  heap := heap
  slotsUsed := slotsUsed
  threads := #[{ frames := .invoking theMethod args0 :: below }]
def below0 : List Frame := [.native { method := ⟨0, 0⟩, args := #[] }]
def about1 : State := aboutOver below0
def p0 : Program := .bare "" "" ""
def e0 : Env := launch0.env 0 0 0
theorem w_frames : about1.frames = Frame.invoking theMethod args0 :: below0 := rfl
set_option maxRecDepth 65536 in
theorem w_args : argsFit about1.vm theMethod args0 = true := by decide +kernel
set_option maxRecDepth 65536 in
theorem w_heap : heapFits about1 = true := by decide +kernel
set_option maxRecDepth 65536 in
theorem w_runnable : about1.curStatus? = some .runnable := by decide +kernel
set_option maxRecDepth 65536 in
theorem w_alone : about1.alone = true := by decide +kernel
set_option maxRecDepth 65536 in
theorem w_named : about1.methodNamed? x = some theMethod := by decide +kernel
set_option maxRecDepth 65536 in
theorem w_hears : about1.hears theMethod below0 = true := by decide +kernel
set_option maxRecDepth 65536 in
theorem w_ripe : about1.ripe theMethod args0 below0 = true := by decide +kernel
theorem w_running : about1.status = .running := rfl
set_option maxRecDepth 65536 in
theorem w_room : about1.hasRoom e0.platform room_1 = true :=
  launch0.hasRoom_least _ room_1 (by decide +kernel) (by decide +kernel) (by decide +kernel) (by decide +kernel) (by decide +kernel) (by decide +kernel)
theorem allAtoms_all (ts : List Jvm.Cond) (a : Array Jvm.Value) (st : Jvm.State) : (allAtoms ts).before a st = ts.all (fun c => c.before a st) := by
  induction ts with
  | nil => rfl
  | cons c t ih =>
    show (Jvm.Cond.and c (allAtoms t)).before a st = _
    rw [Jvm.Cond.before_and, ih, List.all_cons]
def words1 : List Jvm.Cond := Jvm.Cond.code x code maxLocals ret :: tables_1
/-- a 'code' word, met by the world's own term for the bytes: nothing is compared byte by byte -/
theorem code_word {y : MethodName} {bytes : ByteArray} {mx : Nat} {rt : Option FieldType} {a : Array Value} {s : State} {m : MethodId} {meth : Method} {c : Code} (h1 : s.methodNamed? y = some m) (h2 : s.vm.method? m = some meth) (h3 : meth.code = some c) (h4 : c.code = bytes)
    (h5 : (c.maxLocals == mx && c.exceptionTable.isEmpty && decide (c.maxStack ≤ mostOperands) && decide (meth.sig.returnType = rt) && !meth.locks && decide (parseMethodDescriptor y.desc = some meth.sig)) = true) : (Jvm.Cond.code y bytes mx rt).before a s = true := by
  simp only [Bool.and_eq_true, beq_iff_eq, Bool.not_eq_true', decide_eq_true_eq] at h5
  obtain ⟨⟨⟨⟨⟨g1, g2⟩, g3⟩, g4⟩, g5⟩, g6⟩ := h5
  simp [Cond.before, Cond.holds, Cond.value, h1, h2, h3, h4, g1, g2, g3, g4, g5, g6]
def isCode : Jvm.Cond → Bool
  | .code _ _ _ _ => true
  | _ => false
theorem all_split {L : List Jvm.Cond} {P : Jvm.Cond → Bool} (h1 : L.all (fun c => isCode c || P c) = true) (h2 : ∀ c ∈ L.filter isCode, P c = true) : L.all P = true := by
  refine List.all_eq_true.mpr fun c hc => ?_
  have h := List.all_eq_true.mp h1 c hc
  rcases Bool.eq_false_or_eq_true (isCode c) with hi | hi
  · exact h2 c (List.mem_filter.mpr ⟨hc, hi⟩)
  · simpa [hi] using h
set_option maxRecDepth 65536 in
theorem w_c0 : (Jvm.Cond.code x code maxLocals ret).before args0 about1 = true := code_word (m := ⟨1, 5⟩) (meth := k1m5) (c := k1c5) (by decide +kernel) rfl rfl rfl (by decide +kernel)
set_option maxRecDepth 65536 in
theorem w_c1 : (Jvm.Cond.code ({ cls := "com/example/zemlja/zemlja/iso2709/Iso2709NumberPinLaw", name := "byteAt", desc := "(JII)B" } : Jvm.MethodName) method_2_code (5 : Nat) (Option.some Jvm.ClassFile.FieldType.byte)).before args0 about1 = true := code_word (m := ⟨1, 1⟩) (meth := k1m1) (c := k1c1) (by decide +kernel) rfl rfl rfl (by decide +kernel)
set_option maxRecDepth 65536 in
theorem w_c2 : (Jvm.Cond.code ({ cls := "com/example/zemlja/zemlja/iso2709/Iso2709NumberPinLaw", name := "ok", desc := "([BIII)Z" } : Jvm.MethodName) method_4_code (5 : Nat) (Option.some Jvm.ClassFile.FieldType.boolean)).before args0 about1 = true := code_word (m := ⟨1, 3⟩) (meth := k1m3) (c := k1c3) (by decide +kernel) rfl rfl rfl (by decide +kernel)
set_option maxRecDepth 65536 in
theorem w_c3 : (Jvm.Cond.code ({ cls := "com/example/zemlja/zemlja/iso2709/Iso2709", name := "number", desc := "([BII)I" } : Jvm.MethodName) prog_34_method_2_code (6 : Nat) (Option.some Jvm.ClassFile.FieldType.int)).before args0 about1 = true := code_word (m := ⟨2, 1⟩) (meth := k2m1) (c := k2c1) (by decide +kernel) rfl rfl rfl (by decide +kernel)
set_option maxRecDepth 65536 in
theorem w_c4 : (Jvm.Cond.code ({ cls := "com/example/zemlja/zemlja/iso2709/Iso2709NumberPinLaw", name := "term", desc := "([BIII)I" } : Jvm.MethodName) method_5_code (4 : Nat) (Option.some Jvm.ClassFile.FieldType.int)).before args0 about1 = true := code_word (m := ⟨1, 4⟩) (meth := k1m4) (c := k1c4) (by decide +kernel) rfl rfl rfl (by decide +kernel)
set_option maxRecDepth 65536 in
theorem w_c5 : (Jvm.Cond.code ({ cls := "com/example/zemlja/zemlja/iso2709/Iso2709NumberPinLaw", name := "pow10", desc := "(I)I" } : Jvm.MethodName) method_3_code (1 : Nat) (Option.some Jvm.ClassFile.FieldType.int)).before args0 about1 = true := code_word (m := ⟨1, 2⟩) (meth := k1m2) (c := k1c2) (by decide +kernel) rfl rfl rfl (by decide +kernel)
def codes1 : List Jvm.Cond := [Jvm.Cond.code x code maxLocals ret, Jvm.Cond.code ({ cls := "com/example/zemlja/zemlja/iso2709/Iso2709NumberPinLaw", name := "byteAt", desc := "(JII)B" } : Jvm.MethodName) method_2_code (5 : Nat) (Option.some Jvm.ClassFile.FieldType.byte), Jvm.Cond.code ({ cls := "com/example/zemlja/zemlja/iso2709/Iso2709NumberPinLaw", name := "ok", desc := "([BIII)Z" } : Jvm.MethodName) method_4_code (5 : Nat) (Option.some Jvm.ClassFile.FieldType.boolean), Jvm.Cond.code ({ cls := "com/example/zemlja/zemlja/iso2709/Iso2709", name := "number", desc := "([BII)I" } : Jvm.MethodName) prog_34_method_2_code (6 : Nat) (Option.some Jvm.ClassFile.FieldType.int), Jvm.Cond.code ({ cls := "com/example/zemlja/zemlja/iso2709/Iso2709NumberPinLaw", name := "term", desc := "([BIII)I" } : Jvm.MethodName) method_5_code (4 : Nat) (Option.some Jvm.ClassFile.FieldType.int), Jvm.Cond.code ({ cls := "com/example/zemlja/zemlja/iso2709/Iso2709NumberPinLaw", name := "pow10", desc := "(I)I" } : Jvm.MethodName) method_3_code (1 : Nat) (Option.some Jvm.ClassFile.FieldType.int)]
set_option maxRecDepth 65536 in
theorem codes_eq : words1.filter isCode = codes1 := rfl
theorem w_codes : ∀ c ∈ words1.filter isCode, c.before args0 about1 = true := by
  rw [codes_eq]
  intro c hc
  simp only [codes1, List.mem_cons, List.not_mem_nil, or_false] at hc
  rcases hc with rfl | rfl | rfl | rfl | rfl | rfl
  · exact w_c0
  · exact w_c1
  · exact w_c2
  · exact w_c3
  · exact w_c4
  · exact w_c5
set_option maxRecDepth 65536 in
theorem w_t1 : words1.all (fun c => isCode c || c.before args0 about1) = true := by decide +kernel
theorem w_tables : (allAtoms (Jvm.Cond.code x code maxLocals ret :: tables_1)).before args0 about1 = true := by
  rw [allAtoms_all]
  show words1.all (fun c => c.before args0 about1) = true
  refine all_split ?_ w_codes
  rw [w_t1]
set_option maxRecDepth 65536 in
theorem w_case : (Jvm.Cond.and given_1 narrow_1).before args0 about1 = true := by decide +kernel
theorem w_applies : (headSpec (Jvm.Cond.code x code maxLocals ret :: tables_1) room_1).applies x e0.platform about1 = true :=
  (Spec.applies_iff w_frames).mpr ⟨w_running, w_runnable, w_alone, w_named, w_hears, w_ripe, w_room, w_tables⟩
theorem atStart : AtStart classFile x code maxLocals ret World_1 tables_1 room_1 Calls_1 rest_1 Pre_1 launch0 p0 e0 about1 theMethod args0 below0 :=
  ⟨lists_1, trivial, launch0.admits_env _ _ _, launch0.least_env, fairChoices_fair.cas, fairChoices_fair.clock, w_frames, w_args, w_heap, w_applies, trivial, trivial, w_case⟩
end start1
theorem witness_1 : WitnessClaimed_1 := ⟨start1.p0, start1.e0, start1.about1, start1.theMethod, start1.args0, start1.below0, start1.atStart⟩
end Jvm.Pilot.@@N@@
