import JvmDerived
import JvmDerived.Pilot.@@N@@Statement
import JvmDerived.Pilot.@@N@@Code
set_option linter.unusedVariables false
set_option linter.unusedSimpArgs false
namespace Jvm.Pilot.@@N@@
open Jvm Jvm.ClassFile Sem Op Lib Jvm.Free Jvm.Stand Jvm.LawKit Jvm.RoadKit Bundle Jvm.Pilot.@@N@@.Jvm.D
def own_usr (x y : Int32) : Int32 := (x.toUInt32 >>> (y &&& 31).toUInt32).toInt32
def own_usrL (x : Int64) (y : Int32) : Int64 := (x.toUInt64 >>> (y &&& 0x3f).toInt64.toUInt64).toInt64
/-- where the run came from, where it stands -/
def Go (p : Program) (e : Env) (below : List Frame) (A B : State) : Prop := ∀ t, Steps p.tables e below B t → Steps p.tables e below A t
theorem Go.step {p : Program} {e : Env} {below : List Frame} {A B C : State} (g : Go p e below A B) (h : ∀ t, Steps p.tables e below C t → Steps p.tables e below B t) : Go p e below A C := fun t k => g t (h t k)
theorem Go.tr {p : Program} {e : Env} {below : List Frame} {A B C : State} (g : Go p e below A B) (h : Steps p.tables e below B C) : Go p e below A C := fun t k => g t (h.trans k)
section Rets
variable {p : Program} {l : Launch} {e : Env} {R : Room} {s : State} {m : MethodId} {args : Array Value} {below : List Frame} {meth : Method} {c : Code} {T : State} {locs : List Loc} {cells slots : Nat}
theorem own_retI (X : Stand p l e R s m args below meth c T locs cells slots) (hx : p.tables.exec = Jvm.exec) {pc : Nat} {Ls : Array Slot} {z : Int32} {rest : List Value} (hret : meth.sig.returnType = some .int) (hd : decode c.code pc = .ok (.ireturn, 1)) {fs : List Frame}
    (hl : ∀ (f : JFrame) (acts : List Action), f.method = m → f.locked = none → f.entered = [] → (doReturn e (T.setTop f) acts (some (.int z))).1 = T.setFrames fs) : Steps p.tables e below (T.setTop (mkF m pc Ls (.int z :: rest))) (T.setFrames fs) :=
  retOut X hx (t := .int) hret rfl (Or.inl ⟨rfl, Or.inl rfl, z, rfl⟩) hd hl
theorem own_retL (X : Stand p l e R s m args below meth c T locs cells slots) (hx : p.tables.exec = Jvm.exec) {pc : Nat} {Ls : Array Slot} {z : Int64} {rest : List Value} (hret : meth.sig.returnType = some .long) (hd : decode c.code pc = .ok (.lreturn, 1)) {fs : List Frame}
    (hl : ∀ (f : JFrame) (acts : List Action), f.method = m → f.locked = none → f.entered = [] → (doReturn e (T.setTop f) acts (some (.long z))).1 = T.setFrames fs) : Steps p.tables e below (T.setTop (mkF m pc Ls (.long z :: rest))) (T.setFrames fs) :=
  retOut X hx (t := .long) hret rfl (Or.inr (Or.inl ⟨rfl, rfl, z, rfl⟩)) hd hl
theorem own_retA (X : Stand p l e R s m args below meth c T locs cells slots) (hx : p.tables.exec = Jvm.exec) {t : FieldType} {pc : Nat} {Ls : Array Slot} {z : Addr} {rest : List Value} (hret : meth.sig.returnType = some t) (ht : t.isReference = true) (hn : narrow t (.ref z) = .ref z) (hd : decode c.code pc = .ok (.areturn, 1)) {fs : List Frame}
    (hl : ∀ (f : JFrame) (acts : List Action), f.method = m → f.locked = none → f.entered = [] → (doReturn e (T.setTop f) acts (some (.ref z))).1 = T.setFrames fs) : Steps p.tables e below (T.setTop (mkF m pc Ls (.ref z :: rest))) (T.setFrames fs) :=
  retOut X hx hret hn (Or.inr (Or.inr (Or.inr (Or.inr ⟨rfl, ht, rfl⟩)))) hd hl
end Rets
def own_xs (z : Int64) (k : Int32) : Int64 := z ^^^ own_usrL z k
def own_hm (x : Int64) : Int64 := own_xs (own_xs (own_xs (x + (-7046029254386353131 : Int64)) (30 : Int32) * (-4658895280553007687 : Int64)) (27 : Int32) * (-7723592293110705685 : Int64)) (31 : Int32)
def own_at4 (p : Int32) : Prop := p = 0 ∨ p = 1 ∨ p = 2 ∨ p = 3
def own_Cells (p : Int32) (vs : List Value) (x1 x2 x4 x5 : Int64) : Prop := own_at4 p ∧ vs.getD (p.toNatClampNeg + 1) (.long (0 : Int64)) = .long x1 ∧ vs.getD (p.toNatClampNeg + 2) (.long (0 : Int64)) = .long x2 ∧ vs.getD (p.toNatClampNeg + 4) (.long (0 : Int64)) = .long x4 ∧ vs.getD (p.toNatClampNeg + 5) (.long (0 : Int64)) = .long x5
theorem own_i1 {p : Int32} (h : own_at4 p) : (¬ (p + (1 : Int32)) < 0 ∧ (p + (1 : Int32)) < (9 : Int32)) ∧ (p + (1 : Int32)).toNatClampNeg = p.toNatClampNeg + 1 := by
  rcases h with rfl | rfl | rfl | rfl <;> exact ⟨⟨by decide, by decide⟩, rfl⟩
theorem own_i2 {p : Int32} (h : own_at4 p) : (¬ (p + (2 : Int32)) < 0 ∧ (p + (2 : Int32)) < (9 : Int32)) ∧ (p + (2 : Int32)).toNatClampNeg = p.toNatClampNeg + 2 := by
  rcases h with rfl | rfl | rfl | rfl <;> exact ⟨⟨by decide, by decide⟩, rfl⟩
theorem own_i4 {p : Int32} (h : own_at4 p) : (¬ ((p + (3 : Int32)) + (1 : Int32)) < 0 ∧ ((p + (3 : Int32)) + (1 : Int32)) < (9 : Int32)) ∧ ((p + (3 : Int32)) + (1 : Int32)).toNatClampNeg = p.toNatClampNeg + 4 := by
  rcases h with rfl | rfl | rfl | rfl <;> exact ⟨⟨by decide, by decide⟩, rfl⟩
theorem own_i5 {p : Int32} (h : own_at4 p) : (¬ ((p + (3 : Int32)) + (2 : Int32)) < 0 ∧ ((p + (3 : Int32)) + (2 : Int32)) < (9 : Int32)) ∧ ((p + (3 : Int32)) + (2 : Int32)).toNatClampNeg = p.toNatClampNeg + 5 := by
  rcases h with rfl | rfl | rfl | rfl <;> exact ⟨⟨by decide, by decide⟩, rfl⟩
theorem own_s1 {p : Int32} (h : own_at4 p) : (¬ (p + (1 : Int32)) < 0 ∧ (p + (1 : Int32)) < (9 : Int32)) ∧ (p + (1 : Int32)).toNatClampNeg = p.toNatClampNeg + 1 ∧ p.toNatClampNeg + 1 < 9 := by
  rcases h with rfl | rfl | rfl | rfl <;> exact ⟨⟨by decide, by decide⟩, rfl, by decide⟩
theorem own_s2 {p : Int32} (h : own_at4 p) : (¬ (p + (2 : Int32)) < 0 ∧ (p + (2 : Int32)) < (9 : Int32)) ∧ (p + (2 : Int32)).toNatClampNeg = p.toNatClampNeg + 2 ∧ p.toNatClampNeg + 2 < 9 := by
  rcases h with rfl | rfl | rfl | rfl <;> exact ⟨⟨by decide, by decide⟩, rfl, by decide⟩
theorem own_s4 {p : Int32} (h : own_at4 p) : (¬ (p + (4 : Int32)) < 0 ∧ (p + (4 : Int32)) < (9 : Int32)) ∧ (p + (4 : Int32)).toNatClampNeg = p.toNatClampNeg + 4 ∧ p.toNatClampNeg + 4 < 9 := by
  rcases h with rfl | rfl | rfl | rfl <;> exact ⟨⟨by decide, by decide⟩, rfl, by decide⟩
theorem own_s5 {p : Int32} (h : own_at4 p) : (¬ (p + (5 : Int32)) < 0 ∧ (p + (5 : Int32)) < (9 : Int32)) ∧ (p + (5 : Int32)).toNatClampNeg = p.toNatClampNeg + 5 ∧ p.toNatClampNeg + 5 < 9 := by
  rcases h with rfl | rfl | rfl | rfl <;> exact ⟨⟨by decide, by decide⟩, rfl, by decide⟩
theorem own_b0 {p : Int32} (h : own_at4 p) : p < (p + (6 : Int32)) := by rcases h with rfl | rfl | rfl | rfl <;> decide
theorem own_b1 {p : Int32} (h : own_at4 p) : (p + (3 : Int32)) < (p + (6 : Int32)) := by rcases h with rfl | rfl | rfl | rfl <;> decide
theorem own_b2 {p : Int32} (h : own_at4 p) : ¬ ((p + (3 : Int32)) + (3 : Int32)) < (p + (6 : Int32)) := by rcases h with rfl | rfl | rfl | rfl <;> decide
theorem own_k3 {z k : Int32} (h : z = k &&& (3 : Int32)) : own_at4 z := by
  have q := c_mask k 3 2 (by decide) (by decide)
  rw [← h] at q
  have e : z = Int32.ofNat z.toInt.toNat := Int32.toInt_inj.mp (by rw [Int32.toInt_ofNat_small (by omega)]; omega)
  have hl : z.toInt.toNat < 4 := by omega
  unfold own_at4
  rw [e]
  match z.toInt.toNat, hl with
  | 0, _ => exact Or.inl rfl
  | 1, _ => exact Or.inr (Or.inl rfl)
  | 2, _ => exact Or.inr (Or.inr (Or.inl rfl))
  | 3, _ => exact Or.inr (Or.inr (Or.inr rfl))
  | n + 4, h => exact absurd h (by omega)
theorem d7_0 : decode prog_61_method_3_code 0 = .ok (.lload_n 0, 1) := by decide +kernel
theorem d7_1 : decode prog_61_method_3_code 1 = .ok (.ldc2_w 19, 3) := by decide +kernel
theorem d7_4 : decode prog_61_method_3_code 4 = .ok (.ladd, 1) := by decide +kernel
theorem d7_5 : decode prog_61_method_3_code 5 = .ok (.lstore_n 2, 1) := by decide +kernel
theorem d7_6 : decode prog_61_method_3_code 6 = .ok (.lload_n 2, 1) := by decide +kernel
theorem d7_7 : decode prog_61_method_3_code 7 = .ok (.lload_n 2, 1) := by decide +kernel
theorem d7_8 : decode prog_61_method_3_code 8 = .ok (.bipush 30, 2) := by decide +kernel
theorem d7_10 : decode prog_61_method_3_code 10 = .ok (.lushr, 1) := by decide +kernel
theorem d7_11 : decode prog_61_method_3_code 11 = .ok (.lxor, 1) := by decide +kernel
theorem d7_12 : decode prog_61_method_3_code 12 = .ok (.ldc2_w 21, 3) := by decide +kernel
theorem d7_15 : decode prog_61_method_3_code 15 = .ok (.lmul, 1) := by decide +kernel
theorem d7_16 : decode prog_61_method_3_code 16 = .ok (.lstore_n 2, 1) := by decide +kernel
theorem d7_17 : decode prog_61_method_3_code 17 = .ok (.lload_n 2, 1) := by decide +kernel
theorem d7_18 : decode prog_61_method_3_code 18 = .ok (.lload_n 2, 1) := by decide +kernel
theorem d7_19 : decode prog_61_method_3_code 19 = .ok (.bipush 27, 2) := by decide +kernel
theorem d7_21 : decode prog_61_method_3_code 21 = .ok (.lushr, 1) := by decide +kernel
theorem d7_22 : decode prog_61_method_3_code 22 = .ok (.lxor, 1) := by decide +kernel
theorem d7_23 : decode prog_61_method_3_code 23 = .ok (.ldc2_w 23, 3) := by decide +kernel
theorem d7_26 : decode prog_61_method_3_code 26 = .ok (.lmul, 1) := by decide +kernel
theorem d7_27 : decode prog_61_method_3_code 27 = .ok (.lstore_n 2, 1) := by decide +kernel
theorem d7_28 : decode prog_61_method_3_code 28 = .ok (.lload_n 2, 1) := by decide +kernel
theorem d7_29 : decode prog_61_method_3_code 29 = .ok (.lload_n 2, 1) := by decide +kernel
theorem d7_30 : decode prog_61_method_3_code 30 = .ok (.bipush 31, 2) := by decide +kernel
theorem d7_32 : decode prog_61_method_3_code 32 = .ok (.lushr, 1) := by decide +kernel
theorem d7_33 : decode prog_61_method_3_code 33 = .ok (.lxor, 1) := by decide +kernel
theorem d7_34 : decode prog_61_method_3_code 34 = .ok (.lreturn, 1) := by decide +kernel
theorem pn_rm7 : plainName "sketchspan/sketch/Hashing" = true := by first | (simp [plainName, overriddenIn]; done) | decide +kernel
theorem ef_rm7 (m : MethodId) (q0 : Int64) : entryFrame m #[(.long q0)] 4 = mkF m 0 #[.val (.long q0), .second, .unset, .unset] [] := by first | (simp [entryFrame, mkF, argsToLocals, Value.category]; done) | rfl
def Q_rm7 (Z : State) (q0 : Int64) (h0 : Heap) (n0 : Nat) (v : Option Value) (h : Heap) (L : List Loc) : Prop := v = some (.long (own_hm q0)) ∧ Fr n0 L ∧ h = h0
set_option maxRecDepth 65536 in
set_option maxHeartbeats 40000000 in
theorem rm7 (l : Launch) (Z : State) (a0 : Array Value) (hw : ∀ d ∈ tables_1, d.before a0 Z = true) (ws : List Jvm.Cond) (q0 : Int64) (h0 : Heap) (n0 : Nat) (Z0 : n0 ≤ h0.size) :
    MetFree l (⟨"sketchspan/sketch/Hashing", "mix", "(J)J"⟩ : MethodName) (head1 (Jvm.Cond.code (⟨"sketchspan/sketch/Hashing", "mix", "(J)J"⟩ : MethodName) prog_61_method_3_code 4 (some .long) :: ws) ({ frames := 0, cells := 0, slots := 0, locals := 0 } : Room)) (fun a U => a = #[(.long q0)] ∧ Z.Warmed39 U.vm ∧ U.heap = h0) (fun _ _ _ _ _ => True) (fun _ U o U' => ∃ v L, o = .returned v ∧ Q_rm7 Z q0 h0 n0 v U'.heap L ∧ FrameEnd U o U' L ({ frames := 0, cells := 0, slots := 0, locals := 0 } : Room).cells ({ frames := 0, cells := 0, slots := 0, locals := 0 } : Room).slots) := by
  refine MetFree.of_bodySF (plainFor_of_name pn_rm7) hisR ?_
  intro p e s m args below meth c s₁ Bd hml0 hP hK
  obtain ⟨rfl, hZ, hh⟩ := hP
  have hx := Bd.exec
  have hby := Bd.bytes
  have hml : c.maxLocals = 4 := hml0
  have hown : s.vm.findClass "sketchspan/sketch/Hashing" = some m.cls := findClass_of_methodNamed Bd.named
  have hnm := (name_of_methodNamed Bd.named Bd.method).1
  have X0 : Stand p l e ({ frames := 0, cells := 0, slots := 0, locals := 0 } : Room) s m #[(.long q0)] below meth c s₁ [] 0 0 := Stand.of_body Bd
  have e0 : s₁.heap = h0 := by rw [← hh, Bd.state]; rfl
  have N0 := Fr.nil n0
  have K0 := Keep.refl h0 []
  have go0 : Go p e below (s₁.setTop (entryFrame m #[(.long q0)] 4)) (s₁.setTop (mkF m 0 #[.val (.long q0), .second, .unset, .unset] [])) := fun t k => castTop (ef_rm7 m q0) k
  have go1 := go0.step (C := s₁.setTop (mkF m 5 #[.val (.long q0), .second, .unset, .unset] [(.long (q0 + (-7046029254386353131 : Int64)))])) (fun t k => by
    show Steps p.tables e below (s₁.setTop (mkF m 0 #[.val (.long q0), .second, .unset, .unset] [])) _
    refine XS.lloadN X0.here hx rfl (hb hby d7_0) rfl ?_
    show Steps p.tables e below (s₁.setTop (mkF m 1 #[.val (.long q0), .second, .unset, .unset] [(.long q0)])) _
    refine X0.ldc2Long hx hown (mvT hZ (hw _ (List.mem_of_getElem? (i := 39) rfl))) (g := (mkF m 1 #[.val (.long q0), .second, .unset, .unset] [(.long q0)])) rfl (hb hby d7_1) _ ?_
    show Steps p.tables e below (s₁.setTop (mkF m 4 #[.val (.long q0), .second, .unset, .unset] [(.long (-7046029254386353131 : Int64)), (.long q0)])) _
    refine XS.ladd X0.here hx rfl (hb hby d7_4) rfl ?_
    exact k)
  obtain ⟨z1, hz1⟩ : ∃ z : Int64, z = (q0 + (-7046029254386353131 : Int64)) := ⟨_, rfl⟩
  rw [← hz1] at go1
  have go2 := go1.step (C := s₁.setTop (mkF m 16 #[.val (.long q0), .second, .val (.long z1), .second] [(.long ((z1 ^^^ (own_usrL z1 (30 : Int32))) * (-4658895280553007687 : Int64)))])) (fun t k => by
    show Steps p.tables e below (s₁.setTop (mkF m 5 #[.val (.long q0), .second, .unset, .unset] [(.long z1)])) _
    refine XS.lstoreN X0.here hx rfl (hb hby d7_5) rfl (l' := #[.val (.long q0), .second, .val (.long z1), .second]) rfl ?_
    show Steps p.tables e below (s₁.setTop (mkF m 6 #[.val (.long q0), .second, .val (.long z1), .second] [])) _
    refine XS.lloadN X0.here hx rfl (hb hby d7_6) rfl ?_
    show Steps p.tables e below (s₁.setTop (mkF m 7 #[.val (.long q0), .second, .val (.long z1), .second] [(.long z1)])) _
    refine XS.lloadN X0.here hx rfl (hb hby d7_7) rfl ?_
    show Steps p.tables e below (s₁.setTop (mkF m 8 #[.val (.long q0), .second, .val (.long z1), .second] [(.long z1), (.long z1)])) _
    refine XS.bipush X0.here hx rfl (hb hby d7_8) ?_
    show Steps p.tables e below (s₁.setTop (mkF m 10 #[.val (.long q0), .second, .val (.long z1), .second] [(.int (30 : Int32)), (.long z1), (.long z1)])) _
    refine XS.lushr X0.here hx rfl (hb hby d7_10) rfl ?_
    show Steps p.tables e below (s₁.setTop (mkF m 11 #[.val (.long q0), .second, .val (.long z1), .second] [(.long (own_usrL z1 (30 : Int32))), (.long z1)])) _
    refine XS.lxor X0.here hx rfl (hb hby d7_11) rfl ?_
    show Steps p.tables e below (s₁.setTop (mkF m 12 #[.val (.long q0), .second, .val (.long z1), .second] [(.long (z1 ^^^ (own_usrL z1 (30 : Int32))))])) _
    refine X0.ldc2Long hx hown (mvT hZ (hw _ (List.mem_of_getElem? (i := 40) rfl))) (g := (mkF m 12 #[.val (.long q0), .second, .val (.long z1), .second] [(.long (z1 ^^^ (own_usrL z1 (30 : Int32))))])) rfl (hb hby d7_12) _ ?_
    show Steps p.tables e below (s₁.setTop (mkF m 15 #[.val (.long q0), .second, .val (.long z1), .second] [(.long (-4658895280553007687 : Int64)), (.long (z1 ^^^ (own_usrL z1 (30 : Int32))))])) _
    refine XS.lmul X0.here hx rfl (hb hby d7_15) rfl ?_
    exact k)
  obtain ⟨z2, hz2⟩ : ∃ z : Int64, z = ((z1 ^^^ (own_usrL z1 (30 : Int32))) * (-4658895280553007687 : Int64)) := ⟨_, rfl⟩
  rw [← hz2] at go2
  have go3 := go2.step (C := s₁.setTop (mkF m 27 #[.val (.long q0), .second, .val (.long z2), .second] [(.long ((z2 ^^^ (own_usrL z2 (27 : Int32))) * (-7723592293110705685 : Int64)))])) (fun t k => by
    show Steps p.tables e below (s₁.setTop (mkF m 16 #[.val (.long q0), .second, .val (.long z1), .second] [(.long z2)])) _
    refine XS.lstoreN X0.here hx rfl (hb hby d7_16) rfl (l' := #[.val (.long q0), .second, .val (.long z2), .second]) rfl ?_
    show Steps p.tables e below (s₁.setTop (mkF m 17 #[.val (.long q0), .second, .val (.long z2), .second] [])) _
    refine XS.lloadN X0.here hx rfl (hb hby d7_17) rfl ?_
    show Steps p.tables e below (s₁.setTop (mkF m 18 #[.val (.long q0), .second, .val (.long z2), .second] [(.long z2)])) _
    refine XS.lloadN X0.here hx rfl (hb hby d7_18) rfl ?_
    show Steps p.tables e below (s₁.setTop (mkF m 19 #[.val (.long q0), .second, .val (.long z2), .second] [(.long z2), (.long z2)])) _
    refine XS.bipush X0.here hx rfl (hb hby d7_19) ?_
    show Steps p.tables e below (s₁.setTop (mkF m 21 #[.val (.long q0), .second, .val (.long z2), .second] [(.int (27 : Int32)), (.long z2), (.long z2)])) _
    refine XS.lushr X0.here hx rfl (hb hby d7_21) rfl ?_
    show Steps p.tables e below (s₁.setTop (mkF m 22 #[.val (.long q0), .second, .val (.long z2), .second] [(.long (own_usrL z2 (27 : Int32))), (.long z2)])) _
    refine XS.lxor X0.here hx rfl (hb hby d7_22) rfl ?_
    show Steps p.tables e below (s₁.setTop (mkF m 23 #[.val (.long q0), .second, .val (.long z2), .second] [(.long (z2 ^^^ (own_usrL z2 (27 : Int32))))])) _
    refine X0.ldc2Long hx hown (mvT hZ (hw _ (List.mem_of_getElem? (i := 41) rfl))) (g := (mkF m 23 #[.val (.long q0), .second, .val (.long z2), .second] [(.long (z2 ^^^ (own_usrL z2 (27 : Int32))))])) rfl (hb hby d7_23) _ ?_
    show Steps p.tables e below (s₁.setTop (mkF m 26 #[.val (.long q0), .second, .val (.long z2), .second] [(.long (-7723592293110705685 : Int64)), (.long (z2 ^^^ (own_usrL z2 (27 : Int32))))])) _
    refine XS.lmul X0.here hx rfl (hb hby d7_26) rfl ?_
    exact k)
  obtain ⟨z3, hz3⟩ : ∃ z : Int64, z = ((z2 ^^^ (own_usrL z2 (27 : Int32))) * (-7723592293110705685 : Int64)) := ⟨_, rfl⟩
  rw [← hz3] at go3
  have go4 := go3.step (C := s₁.setTop (mkF m 34 #[.val (.long q0), .second, .val (.long z3), .second] [(.long (z3 ^^^ (own_usrL z3 (31 : Int32))))])) (fun t k => by
    show Steps p.tables e below (s₁.setTop (mkF m 27 #[.val (.long q0), .second, .val (.long z2), .second] [(.long z3)])) _
    refine XS.lstoreN X0.here hx rfl (hb hby d7_27) rfl (l' := #[.val (.long q0), .second, .val (.long z3), .second]) rfl ?_
    show Steps p.tables e below (s₁.setTop (mkF m 28 #[.val (.long q0), .second, .val (.long z3), .second] [])) _
    refine XS.lloadN X0.here hx rfl (hb hby d7_28) rfl ?_
    show Steps p.tables e below (s₁.setTop (mkF m 29 #[.val (.long q0), .second, .val (.long z3), .second] [(.long z3)])) _
    refine XS.lloadN X0.here hx rfl (hb hby d7_29) rfl ?_
    show Steps p.tables e below (s₁.setTop (mkF m 30 #[.val (.long q0), .second, .val (.long z3), .second] [(.long z3), (.long z3)])) _
    refine XS.bipush X0.here hx rfl (hb hby d7_30) ?_
    show Steps p.tables e below (s₁.setTop (mkF m 32 #[.val (.long q0), .second, .val (.long z3), .second] [(.int (31 : Int32)), (.long z3), (.long z3)])) _
    refine XS.lushr X0.here hx rfl (hb hby d7_32) rfl ?_
    show Steps p.tables e below (s₁.setTop (mkF m 33 #[.val (.long q0), .second, .val (.long z3), .second] [(.long (own_usrL z3 (31 : Int32))), (.long z3)])) _
    refine XS.lxor X0.here hx rfl (hb hby d7_33) rfl ?_
    exact k)
  obtain ⟨fs, hr, hrun, hended, hW, hsame⟩ := X0.leave (v := some (.long (z3 ^^^ (own_usrL z3 (31 : Int32))))) (fun h => by rw [Bd.returns] at h; cases h)
  refine ⟨_, _, go4 _ ?_, hrun, hended, _, _, rfl, ?_, ⟨_, rfl⟩, hW, hsame.mono (by decide) (by decide)⟩
  · exact own_retL X0 hx Bd.returns (hb hby d7_34) hr
  · show Q_rm7 Z q0 h0 n0 _ s₁.heap _
    rw [e0]
    exact ⟨by subst hz3 hz2 hz1; rfl, N0, rfl⟩
theorem d6_0 : decode prog_61_method_4_code 0 = .ok (.lload_n 0, 1) := by decide +kernel
theorem d6_1 : decode prog_61_method_4_code 1 = .ok (.lload_n 2, 1) := by decide +kernel
theorem d6_2 : decode prog_61_method_4_code 2 = .ok (.invokestatic 7, 3) := by decide +kernel
theorem d6_5 : decode prog_61_method_4_code 5 = .ok (.lxor, 1) := by decide +kernel
theorem d6_6 : decode prog_61_method_4_code 6 = .ok (.invokestatic 7, 3) := by decide +kernel
theorem d6_9 : decode prog_61_method_4_code 9 = .ok (.lreturn, 1) := by decide +kernel
theorem pn_rm6 : plainName "sketchspan/sketch/Hashing" = true := by first | (simp [plainName, overriddenIn]; done) | decide +kernel
theorem pd_rm6_0 : parseMethodDescriptor "(J)J" = some ⟨[.long], some .long⟩ := by decide +kernel
theorem ef_rm6 (m : MethodId) (q0 : Int64) (q1 : Int64) : entryFrame m #[(.long q0), (.long q1)] 4 = mkF m 0 #[.val (.long q0), .second, .val (.long q1), .second] [] := by first | (simp [entryFrame, mkF, argsToLocals, Value.category]; done) | rfl
def Q_rm6 (Z : State) (q0 : Int64) (q1 : Int64) (h0 : Heap) (n0 : Nat) (v : Option Value) (h : Heap) (L : List Loc) : Prop := v = some (.long (own_hm (q0 ^^^ (own_hm q1)))) ∧ Fr n0 L ∧ h = h0
set_option maxRecDepth 65536 in
set_option maxHeartbeats 40000000 in
theorem rm6 (l : Launch) (Z : State) (a0 : Array Value) (hw : ∀ d ∈ tables_1, d.before a0 Z = true) (ws : List Jvm.Cond) (q0 : Int64) (q1 : Int64) (h0 : Heap) (n0 : Nat) (Z0 : n0 ≤ h0.size) :
    MetFree l (⟨"sketchspan/sketch/Hashing", "hash", "(JJ)J"⟩ : MethodName) (head1 (Jvm.Cond.code (⟨"sketchspan/sketch/Hashing", "hash", "(JJ)J"⟩ : MethodName) prog_61_method_4_code 4 (some .long) :: ws) ({ frames := 1, cells := 0, slots := 0, locals := 17 } : Room)) (fun a U => a = #[(.long q0), (.long q1)] ∧ Z.Warmed39 U.vm ∧ U.heap = h0) (fun _ _ _ _ _ => True) (fun _ U o U' => ∃ v L, o = .returned v ∧ Q_rm6 Z q0 q1 h0 n0 v U'.heap L ∧ FrameEnd U o U' L ({ frames := 1, cells := 0, slots := 0, locals := 17 } : Room).cells ({ frames := 1, cells := 0, slots := 0, locals := 17 } : Room).slots) := by
  refine MetFree.of_bodySF (plainFor_of_name pn_rm6) hisR ?_
  intro p e s m args below meth c s₁ Bd hml0 hP hK
  obtain ⟨rfl, hZ, hh⟩ := hP
  have hx := Bd.exec
  have hby := Bd.bytes
  have hml : c.maxLocals = 4 := hml0
  have hown : s.vm.findClass "sketchspan/sketch/Hashing" = some m.cls := findClass_of_methodNamed Bd.named
  have hnm := (name_of_methodNamed Bd.named Bd.method).1
  have X0 : Stand p l e ({ frames := 1, cells := 0, slots := 0, locals := 17 } : Room) s m #[(.long q0), (.long q1)] below meth c s₁ [] 0 0 := Stand.of_body Bd
  have e0 : s₁.heap = h0 := by rw [← hh, Bd.state]; rfl
  have N0 := Fr.nil n0
  have K0 := Keep.refl h0 []
  have go0 : Go p e below (s₁.setTop (entryFrame m #[(.long q0), (.long q1)] 4)) (s₁.setTop (mkF m 0 #[.val (.long q0), .second, .val (.long q1), .second] [])) := fun t k => castTop (ef_rm6 m q0 q1) k
  have go1 := go0.step (C := s₁.setTop (mkF m 2 #[.val (.long q0), .second, .val (.long q1), .second] [(.long q1), (.long q0)])) (fun t k => by
    show Steps p.tables e below (s₁.setTop (mkF m 0 #[.val (.long q0), .second, .val (.long q1), .second] [])) _
    refine XS.lloadN X0.here hx rfl (hb hby d6_0) rfl ?_
    show Steps p.tables e below (s₁.setTop (mkF m 1 #[.val (.long q0), .second, .val (.long q1), .second] [(.long q0)])) _
    refine XS.lloadN X0.here hx rfl (hb hby d6_1) rfl ?_
    exact k)
  obtain ⟨_, _, ⟨T2, L2, k2, n2⟩, -, X2, ⟨Lc2, hQ2, l2, y2, z2⟩, st2⟩ := Jvm.LawKit.callS X0 hx (y := (⟨"sketchspan/sketch/Hashing", "mix", "(J)J"⟩ : MethodName)) hown (mvT hZ (hw _ (List.mem_of_getElem? (i := 36) rfl))) (mvT hZ (hw _ (List.mem_of_getElem? (i := 37) rfl))) (mvT hZ (hw _ (List.mem_of_getElem? (i := 34) rfl))) (mvT hZ (hw _ (List.mem_of_getElem? (i := 38) rfl))) (by decide) (backOf (W := 2) (rm7 l Z a0 hw [] q1 h0 n0 Z0 ) hZ (hw _ (List.mem_of_getElem? (i := 38) rfl)) (hw _ (List.mem_of_getElem? (i := 34) rfl)) (by decide) (by decide)) (g := (mkF m 2 #[.val (.long q0), .second, .val (.long q1), .second] [(.long q1), (.long q0)])) rfl (by rw [hml]; rfl) (argsL := [(.long q1)]) (rest := [(.long q0)]) (lenOf pd_rm6_0 rfl) rfl (by show 2 * 0 + _ ≤ _; exact Nat.le_of_eq rfl) (hb hby d6_2) (fun _ _ => ⟨rfl, e0, (by decide : 0 + 0 ≤ _), (by decide : 0 + 0 ≤ _)⟩)
  dsimp only [Pt.U, Pt.locs, Pt.cells, Pt.slots] at X2 l2 y2 z2 st2 hQ2
  rw [l2, y2, z2] at X2
  obtain ⟨rfl, N2q, e2⟩ := hQ2
  have N2 := Fr.app N0 N2q
  have go2 := go1.step (C := T2.setTop (mkF m 5 #[.val (.long q0), .second, .val (.long q1), .second] [(.long (own_hm q1)), (.long q0)])) (fun t k => st2 t k)
  have go3 := go2.step (C := T2.setTop (mkF m 6 #[.val (.long q0), .second, .val (.long q1), .second] [(.long (q0 ^^^ (own_hm q1)))])) (fun t k => by
    show Steps p.tables e below (T2.setTop (mkF m 5 #[.val (.long q0), .second, .val (.long q1), .second] [(.long (own_hm q1)), (.long q0)])) _
    refine XS.lxor X2.here hx rfl (hb hby d6_5) rfl ?_
    exact k)
  obtain ⟨_, _, ⟨T4, L4, k4, n4⟩, -, X4, ⟨Lc4, hQ4, l4, y4, z4⟩, st4⟩ := Jvm.LawKit.callS X2 hx (y := (⟨"sketchspan/sketch/Hashing", "mix", "(J)J"⟩ : MethodName)) hown (mvT hZ (hw _ (List.mem_of_getElem? (i := 36) rfl))) (mvT hZ (hw _ (List.mem_of_getElem? (i := 37) rfl))) (mvT hZ (hw _ (List.mem_of_getElem? (i := 34) rfl))) (mvT hZ (hw _ (List.mem_of_getElem? (i := 38) rfl))) (by decide) (backOf (W := 0) (rm7 l Z a0 hw [] (q0 ^^^ (own_hm q1)) h0 n0 Z0 ) hZ (hw _ (List.mem_of_getElem? (i := 38) rfl)) (hw _ (List.mem_of_getElem? (i := 34) rfl)) (by decide) (by decide)) (g := (mkF m 6 #[.val (.long q0), .second, .val (.long q1), .second] [(.long (q0 ^^^ (own_hm q1)))])) rfl (by rw [hml]; rfl) (argsL := [(.long (q0 ^^^ (own_hm q1)))]) (rest := []) (lenOf pd_rm6_0 rfl) rfl (by show 2 * 0 + _ ≤ _; exact Nat.le_of_eq rfl) (hb hby d6_6) (fun _ _ => ⟨rfl, e2, (by decide : 0 + 0 ≤ _), (by decide : 0 + 0 ≤ _)⟩)
  dsimp only [Pt.U, Pt.locs, Pt.cells, Pt.slots] at X4 l4 y4 z4 st4 hQ4
  rw [l4, y4, z4] at X4
  obtain ⟨rfl, N4q, e4⟩ := hQ4
  have N4 := Fr.app N2 N4q
  have go4 := go3.step (C := T4.setTop (mkF m 9 #[.val (.long q0), .second, .val (.long q1), .second] [(.long (own_hm (q0 ^^^ (own_hm q1))))])) (fun t k => st4 t k)
  obtain ⟨fs, hr, hrun, hended, hW, hsame⟩ := X4.leave (v := some (.long (own_hm (q0 ^^^ (own_hm q1))))) (fun h => by rw [Bd.returns] at h; cases h)
  refine ⟨_, _, go4 _ ?_, hrun, hended, _, _, rfl, ?_, ⟨_, rfl⟩, hW, hsame.mono (by decide) (by decide)⟩
  · exact own_retL X4 hx Bd.returns (hb hby d6_9) hr
  · show Q_rm6 Z q0 q1 h0 n0 _ T4.heap _
    rw [e4]
    exact ⟨rfl, N4, rfl⟩
theorem d4_0 : decode jdk_33_method_47_code 0 = .ok (.iload_n 0, 1) := by decide +kernel
theorem d4_1 : decode jdk_33_method_47_code 1 = .ok (.ifCond .gt 14, 3) := by decide +kernel
theorem d4_15 : decode jdk_33_method_47_code 15 = .ok (.bipush 31, 2) := by decide +kernel
theorem d4_17 : decode jdk_33_method_47_code 17 = .ok (.istore_n 1, 1) := by decide +kernel
theorem d4_18 : decode jdk_33_method_47_code 18 = .ok (.iload_n 0, 1) := by decide +kernel
theorem d4_19 : decode jdk_33_method_47_code 19 = .ok (.ldc_w 264, 3) := by decide +kernel
theorem d4_22 : decode jdk_33_method_47_code 22 = .ok (.if_icmp .lt 11, 3) := by decide +kernel
theorem d4_33 : decode jdk_33_method_47_code 33 = .ok (.iload_n 0, 1) := by decide +kernel
theorem d4_34 : decode jdk_33_method_47_code 34 = .ok (.sipush 256, 3) := by decide +kernel
theorem d4_37 : decode jdk_33_method_47_code 37 = .ok (.if_icmp .lt 11, 3) := by decide +kernel
theorem d4_48 : decode jdk_33_method_47_code 48 = .ok (.iload_n 0, 1) := by decide +kernel
theorem d4_49 : decode jdk_33_method_47_code 49 = .ok (.bipush 16, 2) := by decide +kernel
theorem d4_51 : decode jdk_33_method_47_code 51 = .ok (.if_icmp .lt 10, 3) := by decide +kernel
theorem d4_61 : decode jdk_33_method_47_code 61 = .ok (.iload_n 0, 1) := by decide +kernel
theorem d4_62 : decode jdk_33_method_47_code 62 = .ok (.iconst 4, 1) := by decide +kernel
theorem d4_63 : decode jdk_33_method_47_code 63 = .ok (.if_icmp .lt 10, 3) := by decide +kernel
theorem d4_73 : decode jdk_33_method_47_code 73 = .ok (.iload_n 1, 1) := by decide +kernel
theorem d4_74 : decode jdk_33_method_47_code 74 = .ok (.iload_n 0, 1) := by decide +kernel
theorem d4_75 : decode jdk_33_method_47_code 75 = .ok (.iconst 1, 1) := by decide +kernel
theorem d4_76 : decode jdk_33_method_47_code 76 = .ok (.iushr, 1) := by decide +kernel
theorem d4_77 : decode jdk_33_method_47_code 77 = .ok (.isub, 1) := by decide +kernel
theorem d4_78 : decode jdk_33_method_47_code 78 = .ok (.ireturn, 1) := by decide +kernel
theorem pn_rm4 : plainName "java/lang/Integer" = true := by first | (simp [plainName, overriddenIn]; done) | decide +kernel
theorem ef_rm4 (m : MethodId) : entryFrame m #[(.int (1 : Int32))] 2 = mkF m 0 #[.val (.int (1 : Int32)), .unset] [] := by first | (simp [entryFrame, mkF, argsToLocals, Value.category]; done) | rfl
def Q_rm4 (Z : State) (h0 : Heap) (n0 : Nat) (v : Option Value) (h : Heap) (L : List Loc) : Prop := v = some (.int (31 : Int32)) ∧ Fr n0 L ∧ h = h0
set_option maxRecDepth 65536 in
set_option maxHeartbeats 40000000 in
theorem rm4 (l : Launch) (Z : State) (a0 : Array Value) (hw : ∀ d ∈ tables_1, d.before a0 Z = true) (ws : List Jvm.Cond) (h0 : Heap) (n0 : Nat) (Z0 : n0 ≤ h0.size) :
    MetFree l (⟨"java/lang/Integer", "numberOfLeadingZeros", "(I)I"⟩ : MethodName) (head1 (Jvm.Cond.code (⟨"java/lang/Integer", "numberOfLeadingZeros", "(I)I"⟩ : MethodName) jdk_33_method_47_code 2 (some .int) :: ws) ({ frames := 0, cells := 0, slots := 0, locals := 0 } : Room)) (fun a U => a = #[(.int (1 : Int32))] ∧ Z.Warmed39 U.vm ∧ U.heap = h0) (fun _ _ _ _ _ => True) (fun _ U o U' => ∃ v L, o = .returned v ∧ Q_rm4 Z h0 n0 v U'.heap L ∧ FrameEnd U o U' L ({ frames := 0, cells := 0, slots := 0, locals := 0 } : Room).cells ({ frames := 0, cells := 0, slots := 0, locals := 0 } : Room).slots) := by
  refine MetFree.of_bodySF (plainFor_of_name pn_rm4) hisR ?_
  intro p e s m args below meth c s₁ Bd hml0 hP hK
  obtain ⟨rfl, hZ, hh⟩ := hP
  have hx := Bd.exec
  have hby := Bd.bytes
  have hml : c.maxLocals = 2 := hml0
  have hown : s.vm.findClass "java/lang/Integer" = some m.cls := findClass_of_methodNamed Bd.named
  have hnm := (name_of_methodNamed Bd.named Bd.method).1
  have X0 : Stand p l e ({ frames := 0, cells := 0, slots := 0, locals := 0 } : Room) s m #[(.int (1 : Int32))] below meth c s₁ [] 0 0 := Stand.of_body Bd
  have e0 : s₁.heap = h0 := by rw [← hh, Bd.state]; rfl
  have N0 := Fr.nil n0
  have K0 := Keep.refl h0 []
  have go0 : Go p e below (s₁.setTop (entryFrame m #[(.int (1 : Int32))] 2)) (s₁.setTop (mkF m 0 #[.val (.int (1 : Int32)), .unset] [])) := fun t k => castTop (ef_rm4 m) k
  have go6 := go0.step (C := s₁.setTop (mkF m 78 #[.val (.int (1 : Int32)), .val (.int (31 : Int32))] [(.int (31 : Int32))])) (fun t k => by
    show Steps p.tables e below (s₁.setTop (mkF m 0 #[.val (.int (1 : Int32)), .unset] [])) _
    refine XS.iloadN X0.here hx rfl (hb hby d4_0) rfl ?_
    show Steps p.tables e below (s₁.setTop (mkF m 1 #[.val (.int (1 : Int32)), .unset] [(.int (1 : Int32))])) _
    refine XS.ifYes X0.here hx rfl (pc0 := 1) (pc' := 15) rfl (hb hby d4_1) rfl ((if0 _ _).trans (tlt ((by decide) : (0 : Int32) < (1 : Int32))).2.2.1) (by decide) (by decide) ?_
    show Steps p.tables e below (s₁.setTop (mkF m 15 #[.val (.int (1 : Int32)), .unset] [])) _
    refine XS.bipush X0.here hx rfl (hb hby d4_15) ?_
    show Steps p.tables e below (s₁.setTop (mkF m 17 #[.val (.int (1 : Int32)), .unset] [(.int (31 : Int32))])) _
    refine XS.istoreN X0.here hx rfl (hb hby d4_17) rfl (l' := #[.val (.int (1 : Int32)), .val (.int (31 : Int32))]) rfl ?_
    show Steps p.tables e below (s₁.setTop (mkF m 18 #[.val (.int (1 : Int32)), .val (.int (31 : Int32))] [])) _
    refine XS.iloadN X0.here hx rfl (hb hby d4_18) rfl ?_
    show Steps p.tables e below (s₁.setTop (mkF m 19 #[.val (.int (1 : Int32)), .val (.int (31 : Int32))] [(.int (1 : Int32))])) _
    refine X0.ldcwInt hx hown (mvT hZ (hw _ (List.mem_of_getElem? (i := 18) rfl))) (g := (mkF m 19 #[.val (.int (1 : Int32)), .val (.int (31 : Int32))] [(.int (1 : Int32))])) rfl (hb hby d4_19) _ ?_
    show Steps p.tables e below (s₁.setTop (mkF m 22 #[.val (.int (1 : Int32)), .val (.int (31 : Int32))] [(.int (65536 : Int32)), (.int (1 : Int32))])) _
    refine XS.icmpYes X0.here hx rfl (pc0 := 22) (pc' := 33) rfl (hb hby d4_22) rfl (tlt ((by decide) : (1 : Int32) < (65536 : Int32))).1 (by decide) (by decide) ?_
    show Steps p.tables e below (s₁.setTop (mkF m 33 #[.val (.int (1 : Int32)), .val (.int (31 : Int32))] [])) _
    refine XS.iloadN X0.here hx rfl (hb hby d4_33) rfl ?_
    show Steps p.tables e below (s₁.setTop (mkF m 34 #[.val (.int (1 : Int32)), .val (.int (31 : Int32))] [(.int (1 : Int32))])) _
    refine XS.sipush X0.here hx rfl (hb hby d4_34) ?_
    show Steps p.tables e below (s₁.setTop (mkF m 37 #[.val (.int (1 : Int32)), .val (.int (31 : Int32))] [(.int (256 : Int32)), (.int (1 : Int32))])) _
    refine XS.icmpYes X0.here hx rfl (pc0 := 37) (pc' := 48) rfl (hb hby d4_37) rfl (tlt ((by decide) : (1 : Int32) < (256 : Int32))).1 (by decide) (by decide) ?_
    show Steps p.tables e below (s₁.setTop (mkF m 48 #[.val (.int (1 : Int32)), .val (.int (31 : Int32))] [])) _
    refine XS.iloadN X0.here hx rfl (hb hby d4_48) rfl ?_
    show Steps p.tables e below (s₁.setTop (mkF m 49 #[.val (.int (1 : Int32)), .val (.int (31 : Int32))] [(.int (1 : Int32))])) _
    refine XS.bipush X0.here hx rfl (hb hby d4_49) ?_
    show Steps p.tables e below (s₁.setTop (mkF m 51 #[.val (.int (1 : Int32)), .val (.int (31 : Int32))] [(.int (16 : Int32)), (.int (1 : Int32))])) _
    refine XS.icmpYes X0.here hx rfl (pc0 := 51) (pc' := 61) rfl (hb hby d4_51) rfl (tlt ((by decide) : (1 : Int32) < (16 : Int32))).1 (by decide) (by decide) ?_
    show Steps p.tables e below (s₁.setTop (mkF m 61 #[.val (.int (1 : Int32)), .val (.int (31 : Int32))] [])) _
    refine XS.iloadN X0.here hx rfl (hb hby d4_61) rfl ?_
    show Steps p.tables e below (s₁.setTop (mkF m 62 #[.val (.int (1 : Int32)), .val (.int (31 : Int32))] [(.int (1 : Int32))])) _
    refine XS.iconst X0.here hx rfl (hb hby d4_62) ?_
    show Steps p.tables e below (s₁.setTop (mkF m 63 #[.val (.int (1 : Int32)), .val (.int (31 : Int32))] [(.int (4 : Int32)), (.int (1 : Int32))])) _
    refine XS.icmpYes X0.here hx rfl (pc0 := 63) (pc' := 73) rfl (hb hby d4_63) rfl (tlt ((by decide) : (1 : Int32) < (4 : Int32))).1 (by decide) (by decide) ?_
    show Steps p.tables e below (s₁.setTop (mkF m 73 #[.val (.int (1 : Int32)), .val (.int (31 : Int32))] [])) _
    refine XS.iloadN X0.here hx rfl (hb hby d4_73) rfl ?_
    show Steps p.tables e below (s₁.setTop (mkF m 74 #[.val (.int (1 : Int32)), .val (.int (31 : Int32))] [(.int (31 : Int32))])) _
    refine XS.iloadN X0.here hx rfl (hb hby d4_74) rfl ?_
    show Steps p.tables e below (s₁.setTop (mkF m 75 #[.val (.int (1 : Int32)), .val (.int (31 : Int32))] [(.int (1 : Int32)), (.int (31 : Int32))])) _
    refine XS.iconst X0.here hx rfl (hb hby d4_75) ?_
    show Steps p.tables e below (s₁.setTop (mkF m 76 #[.val (.int (1 : Int32)), .val (.int (31 : Int32))] [(.int (1 : Int32)), (.int (1 : Int32)), (.int (31 : Int32))])) _
    refine XS.iushr X0.here hx rfl (hb hby d4_76) rfl ?_
    show Steps p.tables e below (s₁.setTop (mkF m 77 #[.val (.int (1 : Int32)), .val (.int (31 : Int32))] [(.int (0 : Int32)), (.int (31 : Int32))])) _
    refine XS.isub X0.here hx rfl (hb hby d4_77) rfl ?_
    exact k)
  obtain ⟨fs, hr, hrun, hended, hW, hsame⟩ := X0.leave (v := some (.int (31 : Int32))) (fun h => by rw [Bd.returns] at h; cases h)
  refine ⟨_, _, go6 _ ?_, hrun, hended, _, _, rfl, ?_, ⟨_, rfl⟩, hW, hsame.mono (by decide) (by decide)⟩
  · exact own_retI X0 hx Bd.returns (hb hby d4_78) hr
  · show Q_rm4 Z h0 n0 _ s₁.heap _
    rw [e0]
    exact ⟨rfl, N0, rfl⟩
theorem d3_0 : decode jdk_35_method_48_code 0 = .ok (.lload_n 0, 1) := by decide +kernel
theorem d3_1 : decode jdk_35_method_48_code 1 = .ok (.bipush 32, 2) := by decide +kernel
theorem d3_3 : decode jdk_35_method_48_code 3 = .ok (.lushr, 1) := by decide +kernel
theorem d3_4 : decode jdk_35_method_48_code 4 = .ok (.l2i, 1) := by decide +kernel
theorem d3_5 : decode jdk_35_method_48_code 5 = .ok (.istore_n 2, 1) := by decide +kernel
theorem d3_6 : decode jdk_35_method_48_code 6 = .ok (.iload_n 2, 1) := by decide +kernel
theorem d3_7 : decode jdk_35_method_48_code 7 = .ok (.ifCond .ne 14, 3) := by decide +kernel
theorem d3_10 : decode jdk_35_method_48_code 10 = .ok (.bipush 32, 2) := by decide +kernel
theorem d3_12 : decode jdk_35_method_48_code 12 = .ok (.lload_n 0, 1) := by decide +kernel
theorem d3_13 : decode jdk_35_method_48_code 13 = .ok (.l2i, 1) := by decide +kernel
theorem d3_14 : decode jdk_35_method_48_code 14 = .ok (.invokestatic 308, 3) := by decide +kernel
theorem d3_17 : decode jdk_35_method_48_code 17 = .ok (.iadd, 1) := by decide +kernel
theorem d3_18 : decode jdk_35_method_48_code 18 = .ok (.goto 7, 3) := by decide +kernel
theorem d3_25 : decode jdk_35_method_48_code 25 = .ok (.ireturn, 1) := by decide +kernel
theorem pn_rm3 : plainName "java/lang/Long" = true := by first | (simp [plainName, overriddenIn]; done) | decide +kernel
theorem pd_rm3_0 : parseMethodDescriptor "(I)I" = some ⟨[.int], some .int⟩ := by decide +kernel
theorem ef_rm3 (m : MethodId) : entryFrame m #[(.long (1 : Int64))] 3 = mkF m 0 #[.val (.long (1 : Int64)), .second, .unset] [] := by first | (simp [entryFrame, mkF, argsToLocals, Value.category]; done) | rfl
def Q_rm3 (Z : State) (h0 : Heap) (n0 : Nat) (v : Option Value) (h : Heap) (L : List Loc) : Prop := v = some (.int (63 : Int32)) ∧ Fr n0 L ∧ h = h0
set_option maxRecDepth 65536 in
set_option maxHeartbeats 40000000 in
theorem rm3 (l : Launch) (Z : State) (a0 : Array Value) (hw : ∀ d ∈ tables_1, d.before a0 Z = true) (ws : List Jvm.Cond) (h0 : Heap) (n0 : Nat) (Z0 : n0 ≤ h0.size) :
    MetFree l (⟨"java/lang/Long", "numberOfLeadingZeros", "(J)I"⟩ : MethodName) (head1 (Jvm.Cond.code (⟨"java/lang/Long", "numberOfLeadingZeros", "(J)I"⟩ : MethodName) jdk_35_method_48_code 3 (some .int) :: ws) ({ frames := 1, cells := 0, slots := 0, locals := 14 } : Room)) (fun a U => a = #[(.long (1 : Int64))] ∧ Z.Warmed39 U.vm ∧ U.heap = h0) (fun _ _ _ _ _ => True) (fun _ U o U' => ∃ v L, o = .returned v ∧ Q_rm3 Z h0 n0 v U'.heap L ∧ FrameEnd U o U' L ({ frames := 1, cells := 0, slots := 0, locals := 14 } : Room).cells ({ frames := 1, cells := 0, slots := 0, locals := 14 } : Room).slots) := by
  refine MetFree.of_bodySF (plainFor_of_name pn_rm3) hisR ?_
  intro p e s m args below meth c s₁ Bd hml0 hP hK
  obtain ⟨rfl, hZ, hh⟩ := hP
  have hx := Bd.exec
  have hby := Bd.bytes
  have hml : c.maxLocals = 3 := hml0
  have hown : s.vm.findClass "java/lang/Long" = some m.cls := findClass_of_methodNamed Bd.named
  have hnm := (name_of_methodNamed Bd.named Bd.method).1
  have X0 : Stand p l e ({ frames := 1, cells := 0, slots := 0, locals := 14 } : Room) s m #[(.long (1 : Int64))] below meth c s₁ [] 0 0 := Stand.of_body Bd
  have e0 : s₁.heap = h0 := by rw [← hh, Bd.state]; rfl
  have N0 := Fr.nil n0
  have K0 := Keep.refl h0 []
  have go0 : Go p e below (s₁.setTop (entryFrame m #[(.long (1 : Int64))] 3)) (s₁.setTop (mkF m 0 #[.val (.long (1 : Int64)), .second, .unset] [])) := fun t k => castTop (ef_rm3 m) k
  have go2 := go0.step (C := s₁.setTop (mkF m 14 #[.val (.long (1 : Int64)), .second, .val (.int (0 : Int32))] [(.int (1 : Int32)), (.int (32 : Int32))])) (fun t k => by
    show Steps p.tables e below (s₁.setTop (mkF m 0 #[.val (.long (1 : Int64)), .second, .unset] [])) _
    refine XS.lloadN X0.here hx rfl (hb hby d3_0) rfl ?_
    show Steps p.tables e below (s₁.setTop (mkF m 1 #[.val (.long (1 : Int64)), .second, .unset] [(.long (1 : Int64))])) _
    refine XS.bipush X0.here hx rfl (hb hby d3_1) ?_
    show Steps p.tables e below (s₁.setTop (mkF m 3 #[.val (.long (1 : Int64)), .second, .unset] [(.int (32 : Int32)), (.long (1 : Int64))])) _
    refine XS.lushr X0.here hx rfl (hb hby d3_3) rfl ?_
    show Steps p.tables e below (s₁.setTop (mkF m 4 #[.val (.long (1 : Int64)), .second, .unset] [(.long (0 : Int64))])) _
    refine XS.l2i X0.here hx rfl (hb hby d3_4) rfl ?_
    show Steps p.tables e below (s₁.setTop (mkF m 5 #[.val (.long (1 : Int64)), .second, .unset] [(.int (0 : Int32))])) _
    refine XS.istoreN X0.here hx rfl (hb hby d3_5) rfl (l' := #[.val (.long (1 : Int64)), .second, .val (.int (0 : Int32))]) rfl ?_
    show Steps p.tables e below (s₁.setTop (mkF m 6 #[.val (.long (1 : Int64)), .second, .val (.int (0 : Int32))] [])) _
    refine XS.iloadN X0.here hx rfl (hb hby d3_6) rfl ?_
    show Steps p.tables e below (s₁.setTop (mkF m 7 #[.val (.long (1 : Int64)), .second, .val (.int (0 : Int32))] [(.int (0 : Int32))])) _
    refine XS.ifNo X0.here hx rfl (hb hby d3_7) rfl ((if0 _ _).trans (teq ((by decide) : (0 : Int32) = (0 : Int32))).2) ?_
    show Steps p.tables e below (s₁.setTop (mkF m 10 #[.val (.long (1 : Int64)), .second, .val (.int (0 : Int32))] [])) _
    refine XS.bipush X0.here hx rfl (hb hby d3_10) ?_
    show Steps p.tables e below (s₁.setTop (mkF m 12 #[.val (.long (1 : Int64)), .second, .val (.int (0 : Int32))] [(.int (32 : Int32))])) _
    refine XS.lloadN X0.here hx rfl (hb hby d3_12) rfl ?_
    show Steps p.tables e below (s₁.setTop (mkF m 13 #[.val (.long (1 : Int64)), .second, .val (.int (0 : Int32))] [(.long (1 : Int64)), (.int (32 : Int32))])) _
    refine XS.l2i X0.here hx rfl (hb hby d3_13) rfl ?_
    exact k)
  obtain ⟨_, _, ⟨T3, L3, k3, n3⟩, -, X3, ⟨Lc3, hQ3, l3, y3, z3⟩, st3⟩ := Jvm.LawKit.callS X0 hx (y := (⟨"java/lang/Integer", "numberOfLeadingZeros", "(I)I"⟩ : MethodName)) hown (mvT hZ (hw _ (List.mem_of_getElem? (i := 14) rfl))) (mvT hZ (hw _ (List.mem_of_getElem? (i := 15) rfl))) (mvT hZ (hw _ (List.mem_of_getElem? (i := 16) rfl))) (mvT hZ (hw _ (List.mem_of_getElem? (i := 17) rfl))) (by decide) (backOf (W := 1) (rm4 l Z a0 hw []  h0 n0 Z0 ) hZ (hw _ (List.mem_of_getElem? (i := 17) rfl)) (hw _ (List.mem_of_getElem? (i := 16) rfl)) (by decide) (by decide)) (g := (mkF m 14 #[.val (.long (1 : Int64)), .second, .val (.int (0 : Int32))] [(.int (1 : Int32)), (.int (32 : Int32))])) rfl (by rw [hml]; rfl) (argsL := [(.int (1 : Int32))]) (rest := [(.int (32 : Int32))]) (lenOf pd_rm3_0 rfl) rfl (by show 2 * 0 + _ ≤ _; exact Nat.le_of_eq rfl) (hb hby d3_14) (fun _ _ => ⟨rfl, e0, (by decide : 0 + 0 ≤ _), (by decide : 0 + 0 ≤ _)⟩)
  dsimp only [Pt.U, Pt.locs, Pt.cells, Pt.slots] at X3 l3 y3 z3 st3 hQ3
  rw [l3, y3, z3] at X3
  obtain ⟨rfl, N3q, e3⟩ := hQ3
  have N3 := Fr.app N0 N3q
  have go3 := go2.step (C := T3.setTop (mkF m 17 #[.val (.long (1 : Int64)), .second, .val (.int (0 : Int32))] [(.int (31 : Int32)), (.int (32 : Int32))])) (fun t k => st3 t k)
  have go4 := go3.step (C := T3.setTop (mkF m 25 #[.val (.long (1 : Int64)), .second, .val (.int (0 : Int32))] [(.int (63 : Int32))])) (fun t k => by
    show Steps p.tables e below (T3.setTop (mkF m 17 #[.val (.long (1 : Int64)), .second, .val (.int (0 : Int32))] [(.int (31 : Int32)), (.int (32 : Int32))])) _
    refine XS.iadd X3.here hx rfl (hb hby d3_17) rfl ?_
    show Steps p.tables e below (T3.setTop (mkF m 18 #[.val (.long (1 : Int64)), .second, .val (.int (0 : Int32))] [(.int (63 : Int32))])) _
    refine XS.goto X3.here hx rfl (pc0 := 18) (pc' := 25) rfl (hb hby d3_18) (by decide) (by decide) ?_
    exact k)
  obtain ⟨fs, hr, hrun, hended, hW, hsame⟩ := X3.leave (v := some (.int (63 : Int32))) (fun h => by rw [Bd.returns] at h; cases h)
  refine ⟨_, _, go4 _ ?_, hrun, hended, _, _, rfl, ?_, ⟨_, rfl⟩, hW, hsame.mono (by decide) (by decide)⟩
  · exact own_retI X3 hx Bd.returns (hb hby d3_25) hr
  · show Q_rm3 Z h0 n0 _ T3.heap _
    rw [e3]
    exact ⟨rfl, N3, rfl⟩
theorem d5_0 : decode jdk_29_method_28_code 0 = .ok (.iload_n 0, 1) := by decide +kernel
theorem d5_1 : decode jdk_29_method_28_code 1 = .ok (.i2l, 1) := by decide +kernel
theorem d5_2 : decode jdk_29_method_28_code 2 = .ok (.iload_n 1, 1) := by decide +kernel
theorem d5_3 : decode jdk_29_method_28_code 3 = .ok (.i2l, 1) := by decide +kernel
theorem d5_4 : decode jdk_29_method_28_code 4 = .ok (.lmul, 1) := by decide +kernel
theorem d5_5 : decode jdk_29_method_28_code 5 = .ok (.lstore_n 2, 1) := by decide +kernel
theorem d5_6 : decode jdk_29_method_28_code 6 = .ok (.lload_n 2, 1) := by decide +kernel
theorem d5_7 : decode jdk_29_method_28_code 7 = .ok (.l2i, 1) := by decide +kernel
theorem d5_8 : decode jdk_29_method_28_code 8 = .ok (.i2l, 1) := by decide +kernel
theorem d5_9 : decode jdk_29_method_28_code 9 = .ok (.lload_n 2, 1) := by decide +kernel
theorem d5_10 : decode jdk_29_method_28_code 10 = .ok (.lcmp, 1) := by decide +kernel
theorem d5_11 : decode jdk_29_method_28_code 11 = .ok (.ifCond .eq 13, 3) := by decide +kernel
theorem d5_24 : decode jdk_29_method_28_code 24 = .ok (.lload_n 2, 1) := by decide +kernel
theorem d5_25 : decode jdk_29_method_28_code 25 = .ok (.l2i, 1) := by decide +kernel
theorem d5_26 : decode jdk_29_method_28_code 26 = .ok (.ireturn, 1) := by decide +kernel
theorem ef_rm5 (m : MethodId) : entryFrame m #[(.int (2 : Int32)), (.int (3 : Int32))] 4 = mkF m 0 #[.val (.int (2 : Int32)), .val (.int (3 : Int32)), .unset, .unset] [] := by first | (simp [entryFrame, mkF, argsToLocals, Value.category]; done) | rfl
def Q_rm5 (Z : State) (h0 : Heap) (n0 : Nat) (v : Option Value) (h : Heap) (L : List Loc) : Prop := v = some (.int (6 : Int32)) ∧ Fr n0 L ∧ h = h0
set_option maxRecDepth 65536 in
set_option maxHeartbeats 40000000 in
theorem rm5 (l : Launch) (Z : State) (a0 : Array Value) (hw : ∀ d ∈ tables_1, d.before a0 Z = true) (ws : List Jvm.Cond) (h0 : Heap) (n0 : Nat) (Z0 : n0 ≤ h0.size) :
    MetFree l (⟨"java/lang/Math", "multiplyExact", "(II)I"⟩ : MethodName) (head1 (Jvm.Cond.code (⟨"java/lang/Math", "multiplyExact", "(II)I"⟩ : MethodName) jdk_29_method_28_code 4 (some .int) :: ws) ({ frames := 0, cells := 0, slots := 0, locals := 0 } : Room)) (fun a U => a = #[(.int (2 : Int32)), (.int (3 : Int32))] ∧ Z.Warmed39 U.vm ∧ U.heap = h0) (fun _ _ _ _ _ => True) (fun _ U o U' => ∃ v L, o = .returned v ∧ Q_rm5 Z h0 n0 v U'.heap L ∧ FrameEnd U o U' L ({ frames := 0, cells := 0, slots := 0, locals := 0 } : Room).cells ({ frames := 0, cells := 0, slots := 0, locals := 0 } : Room).slots) := by
  refine MetFree.of_bodySF (Jvm.Free.JP.mathPlain rfl (by decide +kernel)) hisR ?_
  intro p e s m args below meth c s₁ Bd hml0 hP hK
  obtain ⟨rfl, hZ, hh⟩ := hP
  have hx := Bd.exec
  have hby := Bd.bytes
  have hml : c.maxLocals = 4 := hml0
  have hown : s.vm.findClass "java/lang/Math" = some m.cls := findClass_of_methodNamed Bd.named
  have hnm := (name_of_methodNamed Bd.named Bd.method).1
  have X0 : Stand p l e ({ frames := 0, cells := 0, slots := 0, locals := 0 } : Room) s m #[(.int (2 : Int32)), (.int (3 : Int32))] below meth c s₁ [] 0 0 := Stand.of_body Bd
  have e0 : s₁.heap = h0 := by rw [← hh, Bd.state]; rfl
  have N0 := Fr.nil n0
  have K0 := Keep.refl h0 []
  have go0 : Go p e below (s₁.setTop (entryFrame m #[(.int (2 : Int32)), (.int (3 : Int32))] 4)) (s₁.setTop (mkF m 0 #[.val (.int (2 : Int32)), .val (.int (3 : Int32)), .unset, .unset] [])) := fun t k => castTop (ef_rm5 m) k
  have go2 := go0.step (C := s₁.setTop (mkF m 26 #[.val (.int (2 : Int32)), .val (.int (3 : Int32)), .val (.long (6 : Int64)), .second] [(.int (6 : Int32))])) (fun t k => by
    show Steps p.tables e below (s₁.setTop (mkF m 0 #[.val (.int (2 : Int32)), .val (.int (3 : Int32)), .unset, .unset] [])) _
    refine XS.iloadN X0.here hx rfl (hb hby d5_0) rfl ?_
    show Steps p.tables e below (s₁.setTop (mkF m 1 #[.val (.int (2 : Int32)), .val (.int (3 : Int32)), .unset, .unset] [(.int (2 : Int32))])) _
    refine XS.i2l X0.here hx rfl (hb hby d5_1) rfl ?_
    show Steps p.tables e below (s₁.setTop (mkF m 2 #[.val (.int (2 : Int32)), .val (.int (3 : Int32)), .unset, .unset] [(.long (2 : Int64))])) _
    refine XS.iloadN X0.here hx rfl (hb hby d5_2) rfl ?_
    show Steps p.tables e below (s₁.setTop (mkF m 3 #[.val (.int (2 : Int32)), .val (.int (3 : Int32)), .unset, .unset] [(.int (3 : Int32)), (.long (2 : Int64))])) _
    refine XS.i2l X0.here hx rfl (hb hby d5_3) rfl ?_
    show Steps p.tables e below (s₁.setTop (mkF m 4 #[.val (.int (2 : Int32)), .val (.int (3 : Int32)), .unset, .unset] [(.long (3 : Int64)), (.long (2 : Int64))])) _
    refine XS.lmul X0.here hx rfl (hb hby d5_4) rfl ?_
    show Steps p.tables e below (s₁.setTop (mkF m 5 #[.val (.int (2 : Int32)), .val (.int (3 : Int32)), .unset, .unset] [(.long (6 : Int64))])) _
    refine XS.lstoreN X0.here hx rfl (hb hby d5_5) rfl (l' := #[.val (.int (2 : Int32)), .val (.int (3 : Int32)), .val (.long (6 : Int64)), .second]) rfl ?_
    show Steps p.tables e below (s₁.setTop (mkF m 6 #[.val (.int (2 : Int32)), .val (.int (3 : Int32)), .val (.long (6 : Int64)), .second] [])) _
    refine XS.lloadN X0.here hx rfl (hb hby d5_6) rfl ?_
    show Steps p.tables e below (s₁.setTop (mkF m 7 #[.val (.int (2 : Int32)), .val (.int (3 : Int32)), .val (.long (6 : Int64)), .second] [(.long (6 : Int64))])) _
    refine XS.l2i X0.here hx rfl (hb hby d5_7) rfl ?_
    show Steps p.tables e below (s₁.setTop (mkF m 8 #[.val (.int (2 : Int32)), .val (.int (3 : Int32)), .val (.long (6 : Int64)), .second] [(.int (6 : Int32))])) _
    refine XS.i2l X0.here hx rfl (hb hby d5_8) rfl ?_
    show Steps p.tables e below (s₁.setTop (mkF m 9 #[.val (.int (2 : Int32)), .val (.int (3 : Int32)), .val (.long (6 : Int64)), .second] [(.long (6 : Int64))])) _
    refine XS.lloadN X0.here hx rfl (hb hby d5_9) rfl ?_
    show Steps p.tables e below (s₁.setTop (mkF m 10 #[.val (.int (2 : Int32)), .val (.int (3 : Int32)), .val (.long (6 : Int64)), .second] [(.long (6 : Int64)), (.long (6 : Int64))])) _
    refine XS.lcmp X0.here hx rfl (hb hby d5_10) rfl ?_
    show Steps p.tables e below (s₁.setTop (mkF m 11 #[.val (.int (2 : Int32)), .val (.int (3 : Int32)), .val (.long (6 : Int64)), .second] [(.int (0 : Int32))])) _
    refine XS.ifYes X0.here hx rfl (pc0 := 11) (pc' := 24) rfl (hb hby d5_11) rfl ((if0 _ _).trans (teq ((by decide) : (0 : Int32) = (0 : Int32))).1) (by decide) (by decide) ?_
    show Steps p.tables e below (s₁.setTop (mkF m 24 #[.val (.int (2 : Int32)), .val (.int (3 : Int32)), .val (.long (6 : Int64)), .second] [])) _
    refine XS.lloadN X0.here hx rfl (hb hby d5_24) rfl ?_
    show Steps p.tables e below (s₁.setTop (mkF m 25 #[.val (.int (2 : Int32)), .val (.int (3 : Int32)), .val (.long (6 : Int64)), .second] [(.long (6 : Int64))])) _
    refine XS.l2i X0.here hx rfl (hb hby d5_25) rfl ?_
    exact k)
  obtain ⟨fs, hr, hrun, hended, hW, hsame⟩ := X0.leave (v := some (.int (6 : Int32))) (fun h => by rw [Bd.returns] at h; cases h)
  refine ⟨_, _, go2 _ ?_, hrun, hended, _, _, rfl, ?_, ⟨_, rfl⟩, hW, hsame.mono (by decide) (by decide)⟩
  · exact own_retI X0 hx Bd.returns (hb hby d5_26) hr
  · show Q_rm5 Z h0 n0 _ s₁.heap _
    rw [e0]
    exact ⟨rfl, N0, rfl⟩
theorem d1_0 : decode prog_69_method_1_code 0 = .ok (.aload_n 0, 1) := by decide +kernel
theorem d1_1 : decode prog_69_method_1_code 1 = .ok (.invokespecial 1, 3) := by decide +kernel
theorem d1_4 : decode prog_69_method_1_code 4 = .ok (.iload 4, 2) := by decide +kernel
theorem d1_6 : decode prog_69_method_1_code 6 = .ok (.iconst 1, 1) := by decide +kernel
theorem d1_7 : decode prog_69_method_1_code 7 = .ok (.if_icmp .ge 18, 3) := by decide +kernel
theorem d1_25 : decode prog_69_method_1_code 25 = .ok (.iload_n 1, 1) := by decide +kernel
theorem d1_26 : decode prog_69_method_1_code 26 = .ok (.i2l, 1) := by decide +kernel
theorem d1_27 : decode prog_69_method_1_code 27 = .ok (.iload_n 1, 1) := by decide +kernel
theorem d1_28 : decode prog_69_method_1_code 28 = .ok (.iconst 1, 1) := by decide +kernel
theorem d1_29 : decode prog_69_method_1_code 29 = .ok (.isub, 1) := by decide +kernel
theorem d1_30 : decode prog_69_method_1_code 30 = .ok (.i2l, 1) := by decide +kernel
theorem d1_31 : decode prog_69_method_1_code 31 = .ok (.lmul, 1) := by decide +kernel
theorem d1_32 : decode prog_69_method_1_code 32 = .ok (.ldc2_w 16, 3) := by decide +kernel
theorem d1_35 : decode prog_69_method_1_code 35 = .ok (.ldiv, 1) := by decide +kernel
theorem d1_36 : decode prog_69_method_1_code 36 = .ok (.lstore 5, 2) := by decide +kernel
theorem d1_38 : decode prog_69_method_1_code 38 = .ok (.aload_n 0, 1) := by decide +kernel
theorem d1_39 : decode prog_69_method_1_code 39 = .ok (.bipush 64, 2) := by decide +kernel
theorem d1_41 : decode prog_69_method_1_code 41 = .ok (.lload 5, 2) := by decide +kernel
theorem d1_43 : decode prog_69_method_1_code 43 = .ok (.invokestatic 20, 3) := by decide +kernel
theorem d1_46 : decode prog_69_method_1_code 46 = .ok (.isub, 1) := by decide +kernel
theorem d1_47 : decode prog_69_method_1_code 47 = .ok (.iconst 1, 1) := by decide +kernel
theorem d1_48 : decode prog_69_method_1_code 48 = .ok (.iadd, 1) := by decide +kernel
theorem d1_49 : decode prog_69_method_1_code 49 = .ok (.putfield 24, 3) := by decide +kernel
theorem d1_52 : decode prog_69_method_1_code 52 = .ok (.aload_n 0, 1) := by decide +kernel
theorem d1_53 : decode prog_69_method_1_code 53 = .ok (.iload 4, 2) := by decide +kernel
theorem d1_55 : decode prog_69_method_1_code 55 = .ok (.aload_n 0, 1) := by decide +kernel
theorem d1_56 : decode prog_69_method_1_code 56 = .ok (.getfield 24, 3) := by decide +kernel
theorem d1_59 : decode prog_69_method_1_code 59 = .ok (.imul, 1) := by decide +kernel
theorem d1_60 : decode prog_69_method_1_code 60 = .ok (.iconst 3, 1) := by decide +kernel
theorem d1_61 : decode prog_69_method_1_code 61 = .ok (.invokestatic 30, 3) := by decide +kernel
theorem d1_64 : decode prog_69_method_1_code 64 = .ok (.putfield 36, 3) := by decide +kernel
theorem d1_67 : decode prog_69_method_1_code 67 = .ok (.aload_n 0, 1) := by decide +kernel
theorem d1_68 : decode prog_69_method_1_code 68 = .ok (.iload 4, 2) := by decide +kernel
theorem d1_70 : decode prog_69_method_1_code 70 = .ok (.newarray .long, 2) := by decide +kernel
theorem d1_72 : decode prog_69_method_1_code 72 = .ok (.putfield 39, 3) := by decide +kernel
theorem d1_75 : decode prog_69_method_1_code 75 = .ok (.aload_n 0, 1) := by decide +kernel
theorem d1_76 : decode prog_69_method_1_code 76 = .ok (.iload 4, 2) := by decide +kernel
theorem d1_78 : decode prog_69_method_1_code 78 = .ok (.newarray .long, 2) := by decide +kernel
theorem d1_80 : decode prog_69_method_1_code 80 = .ok (.putfield 43, 3) := by decide +kernel
theorem d1_83 : decode prog_69_method_1_code 83 = .ok (.iconst 0, 1) := by decide +kernel
theorem d1_84 : decode prog_69_method_1_code 84 = .ok (.istore 7, 2) := by decide +kernel
theorem d1_86 : decode prog_69_method_1_code 86 = .ok (.iload 7, 2) := by decide +kernel
theorem d1_88 : decode prog_69_method_1_code 88 = .ok (.iload 4, 2) := by decide +kernel
theorem d1_90 : decode prog_69_method_1_code 90 = .ok (.if_icmp .ge 43, 3) := by decide +kernel
theorem d1_93 : decode prog_69_method_1_code 93 = .ok (.aload_n 0, 1) := by decide +kernel
theorem d1_94 : decode prog_69_method_1_code 94 = .ok (.getfield 39, 3) := by decide +kernel
theorem d1_97 : decode prog_69_method_1_code 97 = .ok (.iload 7, 2) := by decide +kernel
theorem d1_99 : decode prog_69_method_1_code 99 = .ok (.lload_n 2, 1) := by decide +kernel
theorem d1_100 : decode prog_69_method_1_code 100 = .ok (.iconst 2, 1) := by decide +kernel
theorem d1_101 : decode prog_69_method_1_code 101 = .ok (.iload 7, 2) := by decide +kernel
theorem d1_103 : decode prog_69_method_1_code 103 = .ok (.imul, 1) := by decide +kernel
theorem d1_104 : decode prog_69_method_1_code 104 = .ok (.i2l, 1) := by decide +kernel
theorem d1_105 : decode prog_69_method_1_code 105 = .ok (.invokestatic 46, 3) := by decide +kernel
theorem d1_108 : decode prog_69_method_1_code 108 = .ok (.lastore, 1) := by decide +kernel
theorem d1_109 : decode prog_69_method_1_code 109 = .ok (.aload_n 0, 1) := by decide +kernel
theorem d1_110 : decode prog_69_method_1_code 110 = .ok (.getfield 43, 3) := by decide +kernel
theorem d1_113 : decode prog_69_method_1_code 113 = .ok (.iload 7, 2) := by decide +kernel
theorem d1_115 : decode prog_69_method_1_code 115 = .ok (.lload_n 2, 1) := by decide +kernel
theorem d1_116 : decode prog_69_method_1_code 116 = .ok (.iconst 2, 1) := by decide +kernel
theorem d1_117 : decode prog_69_method_1_code 117 = .ok (.iload 7, 2) := by decide +kernel
theorem d1_119 : decode prog_69_method_1_code 119 = .ok (.imul, 1) := by decide +kernel
theorem d1_120 : decode prog_69_method_1_code 120 = .ok (.iconst 1, 1) := by decide +kernel
theorem d1_121 : decode prog_69_method_1_code 121 = .ok (.iadd, 1) := by decide +kernel
theorem d1_122 : decode prog_69_method_1_code 122 = .ok (.i2l, 1) := by decide +kernel
theorem d1_123 : decode prog_69_method_1_code 123 = .ok (.invokestatic 46, 3) := by decide +kernel
theorem d1_126 : decode prog_69_method_1_code 126 = .ok (.lastore, 1) := by decide +kernel
theorem d1_127 : decode prog_69_method_1_code 127 = .ok (.iinc 7 1, 3) := by decide +kernel
theorem d1_130 : decode prog_69_method_1_code 130 = .ok (.goto (-44), 3) := by decide +kernel
theorem d1_133 : decode prog_69_method_1_code 133 = .ok (.return_, 1) := by decide +kernel
theorem pn_rm1 : plainName "sketchspan/sketch/PairSampler" = true := by first | (simp [plainName, overriddenIn]; done) | decide +kernel
theorem pd_rm1_0 : parseMethodDescriptor "(J)I" = some ⟨[.long], some .int⟩ := by decide +kernel
theorem pd_rm1_1 : parseMethodDescriptor "(II)I" = some ⟨[.int, .int], some .int⟩ := by decide +kernel
theorem pd_rm1_2 : parseMethodDescriptor "(JJ)J" = some ⟨[.long, .long], some .long⟩ := by decide +kernel
theorem ef_rm1 (m : MethodId) (o0 : Addr) (q2 : Int64) : entryFrame m #[(.ref o0), (.int (2 : Int32)), (.long q2), (.int (1 : Int32))] 8 = mkF m 0 #[.val (.ref o0), .val (.int (2 : Int32)), .val (.long q2), .second, .val (.int (1 : Int32)), .unset, .unset, .unset] [] := by first | (simp [entryFrame, mkF, argsToLocals, Value.category]; done) | rfl
def Q_rm1 (Z : State) (o0 : Addr) (q2 : Int64) (h0 : Heap) (n0 : Nat) (v : Option Value) (h : Heap) (L : List Loc) : Prop := v = none ∧ Fr n0 L ∧ Keep h0 h [o0] ∧ Exa Z h o0 "sketchspan/sketch/PairSampler" ∧ Fld Z h o0 "sketchspan/sketch/PairSampler" "buckets" "I" (.int (2 : Int32)) ∧ Fld Z h o0 "sketchspan/sketch/PairSampler" "length" "I" (.int (6 : Int32))
set_option maxRecDepth 65536 in
set_option maxHeartbeats 40000000 in
theorem rm1 (l : Launch) (Z : State) (a0 : Array Value) (hw : ∀ d ∈ tables_1, d.before a0 Z = true) (ws : List Jvm.Cond) (o0 : Addr) (q2 : Int64) (h0 : Heap) (n0 : Nat) (Z0 : n0 ≤ h0.size) (E_o0 : Exa Z h0 o0 "sketchspan/sketch/PairSampler") (g_o0 : n0 ≤ o0) (F_buckets : Fld Z h0 o0 "sketchspan/sketch/PairSampler" "buckets" "I" (.int (0 : Int32))) (F_length : Fld Z h0 o0 "sketchspan/sketch/PairSampler" "length" "I" (.int (0 : Int32))) (F_bucketSalts : Fld Z h0 o0 "sketchspan/sketch/PairSampler" "bucketSalts" "[J" .null) (F_fingerprintSalts : Fld Z h0 o0 "sketchspan/sketch/PairSampler" "fingerprintSalts" "[J" .null) :
    MetFree l (⟨"sketchspan/sketch/PairSampler", "<init>", "(IJI)V"⟩ : MethodName) (head1 (Jvm.Cond.code (⟨"sketchspan/sketch/PairSampler", "<init>", "(IJI)V"⟩ : MethodName) prog_69_method_1_code 8 none :: ws) ({ frames := 2, cells := 2, slots := 2, locals := 34 } : Room)) (fun a U => a = #[(.ref o0), (.int (2 : Int32)), (.long q2), (.int (1 : Int32))] ∧ Z.Warmed39 U.vm ∧ U.heap = h0) (fun _ _ _ _ _ => True) (fun _ U o U' => ∃ v L, o = .returned v ∧ Q_rm1 Z o0 q2 h0 n0 v U'.heap L ∧ FrameEnd U o U' L ({ frames := 2, cells := 2, slots := 2, locals := 34 } : Room).cells ({ frames := 2, cells := 2, slots := 2, locals := 34 } : Room).slots) := by
  refine MetFree.of_bodySF (plainFor_of_name pn_rm1) hisR ?_
  intro p e s m args below meth c s₁ Bd hml0 hP hK
  obtain ⟨rfl, hZ, hh⟩ := hP
  have hx := Bd.exec
  have hby := Bd.bytes
  have hml : c.maxLocals = 8 := hml0
  have hown : s.vm.findClass "sketchspan/sketch/PairSampler" = some m.cls := findClass_of_methodNamed Bd.named
  have hnm := (name_of_methodNamed Bd.named Bd.method).1
  have X0 : Stand p l e ({ frames := 2, cells := 2, slots := 2, locals := 34 } : Room) s m #[(.ref o0), (.int (2 : Int32)), (.long q2), (.int (1 : Int32))] below meth c s₁ [] 0 0 := Stand.of_body Bd
  have e0 : s₁.heap = h0 := by rw [← hh, Bd.state]; rfl
  have N0 := Fr.nil n0
  have K0 := Keep.refl h0 [o0]
  have go0 : Go p e below (s₁.setTop (entryFrame m #[(.ref o0), (.int (2 : Int32)), (.long q2), (.int (1 : Int32))] 8)) (s₁.setTop (mkF m 0 #[.val (.ref o0), .val (.int (2 : Int32)), .val (.long q2), .second, .val (.int (1 : Int32)), .unset, .unset, .unset] [])) := fun t k => castTop (ef_rm1 m o0 q2) k
  have go1 := go0.step (C := s₁.setTop (mkF m 1 #[.val (.ref o0), .val (.int (2 : Int32)), .val (.long q2), .second, .val (.int (1 : Int32)), .unset, .unset, .unset] [(.ref o0)])) (fun t k => by
    show Steps p.tables e below (s₁.setTop (mkF m 0 #[.val (.ref o0), .val (.int (2 : Int32)), .val (.long q2), .second, .val (.int (1 : Int32)), .unset, .unset, .unset] [])) _
    refine XS.aloadN X0.here hx rfl (hb hby d1_0) rfl rfl ?_
    exact k)
  obtain ⟨T2, X2, e2, st2⟩ := initO X0 hx hZ hown (hw _ (List.mem_of_getElem? (i := 6) rfl)) (hw _ (List.mem_of_getElem? (i := 7) rfl)) (hw _ (List.mem_of_getElem? (i := 8) rfl)) e0 (g := (mkF m 1 #[.val (.ref o0), .val (.int (2 : Int32)), .val (.long q2), .second, .val (.int (1 : Int32)), .unset, .unset, .unset] [(.ref o0)])) rfl (by rw [hml]; rfl) rfl (hb hby d1_1) (by decide) (W := 0) (by show 2 * 0 + _ ≤ _; exact Nat.le_of_eq rfl) (by decide)
  have go2 := go1.step (C := T2.setTop (mkF m 4 #[.val (.ref o0), .val (.int (2 : Int32)), .val (.long q2), .second, .val (.int (1 : Int32)), .unset, .unset, .unset] [])) (fun t k => st2 t k)
  have go4 := go2.step (C := T2.setTop (mkF m 43 #[.val (.ref o0), .val (.int (2 : Int32)), .val (.long q2), .second, .val (.int (1 : Int32)), .val (.long (1 : Int64)), .second, .unset] [(.long (1 : Int64)), (.int (64 : Int32)), (.ref o0)])) (fun t k => by
    show Steps p.tables e below (T2.setTop (mkF m 4 #[.val (.ref o0), .val (.int (2 : Int32)), .val (.long q2), .second, .val (.int (1 : Int32)), .unset, .unset, .unset] [])) _
    refine XS.iload X2.here hx rfl (hb hby d1_4) rfl ?_
    show Steps p.tables e below (T2.setTop (mkF m 6 #[.val (.ref o0), .val (.int (2 : Int32)), .val (.long q2), .second, .val (.int (1 : Int32)), .unset, .unset, .unset] [(.int (1 : Int32))])) _
    refine XS.iconst X2.here hx rfl (hb hby d1_6) ?_
    show Steps p.tables e below (T2.setTop (mkF m 7 #[.val (.ref o0), .val (.int (2 : Int32)), .val (.long q2), .second, .val (.int (1 : Int32)), .unset, .unset, .unset] [(.int (1 : Int32)), (.int (1 : Int32))])) _
    refine XS.icmpYes X2.here hx rfl (pc0 := 7) (pc' := 25) rfl (hb hby d1_7) rfl (flt ((by decide) : ¬ ((1 : Int32) < (1 : Int32)))).2.1 (by decide) (by decide) ?_
    show Steps p.tables e below (T2.setTop (mkF m 25 #[.val (.ref o0), .val (.int (2 : Int32)), .val (.long q2), .second, .val (.int (1 : Int32)), .unset, .unset, .unset] [])) _
    refine XS.iloadN X2.here hx rfl (hb hby d1_25) rfl ?_
    show Steps p.tables e below (T2.setTop (mkF m 26 #[.val (.ref o0), .val (.int (2 : Int32)), .val (.long q2), .second, .val (.int (1 : Int32)), .unset, .unset, .unset] [(.int (2 : Int32))])) _
    refine XS.i2l X2.here hx rfl (hb hby d1_26) rfl ?_
    show Steps p.tables e below (T2.setTop (mkF m 27 #[.val (.ref o0), .val (.int (2 : Int32)), .val (.long q2), .second, .val (.int (1 : Int32)), .unset, .unset, .unset] [(.long (2 : Int64))])) _
    refine XS.iloadN X2.here hx rfl (hb hby d1_27) rfl ?_
    show Steps p.tables e below (T2.setTop (mkF m 28 #[.val (.ref o0), .val (.int (2 : Int32)), .val (.long q2), .second, .val (.int (1 : Int32)), .unset, .unset, .unset] [(.int (2 : Int32)), (.long (2 : Int64))])) _
    refine XS.iconst X2.here hx rfl (hb hby d1_28) ?_
    show Steps p.tables e below (T2.setTop (mkF m 29 #[.val (.ref o0), .val (.int (2 : Int32)), .val (.long q2), .second, .val (.int (1 : Int32)), .unset, .unset, .unset] [(.int (1 : Int32)), (.int (2 : Int32)), (.long (2 : Int64))])) _
    refine XS.isub X2.here hx rfl (hb hby d1_29) rfl ?_
    show Steps p.tables e below (T2.setTop (mkF m 30 #[.val (.ref o0), .val (.int (2 : Int32)), .val (.long q2), .second, .val (.int (1 : Int32)), .unset, .unset, .unset] [(.int (1 : Int32)), (.long (2 : Int64))])) _
    refine XS.i2l X2.here hx rfl (hb hby d1_30) rfl ?_
    show Steps p.tables e below (T2.setTop (mkF m 31 #[.val (.ref o0), .val (.int (2 : Int32)), .val (.long q2), .second, .val (.int (1 : Int32)), .unset, .unset, .unset] [(.long (1 : Int64)), (.long (2 : Int64))])) _
    refine XS.lmul X2.here hx rfl (hb hby d1_31) rfl ?_
    show Steps p.tables e below (T2.setTop (mkF m 32 #[.val (.ref o0), .val (.int (2 : Int32)), .val (.long q2), .second, .val (.int (1 : Int32)), .unset, .unset, .unset] [(.long (2 : Int64))])) _
    refine X2.ldc2Long hx hown (mvT hZ (hw _ (List.mem_of_getElem? (i := 9) rfl))) (g := (mkF m 32 #[.val (.ref o0), .val (.int (2 : Int32)), .val (.long q2), .second, .val (.int (1 : Int32)), .unset, .unset, .unset] [(.long (2 : Int64))])) rfl (hb hby d1_32) _ ?_
    show Steps p.tables e below (T2.setTop (mkF m 35 #[.val (.ref o0), .val (.int (2 : Int32)), .val (.long q2), .second, .val (.int (1 : Int32)), .unset, .unset, .unset] [(.long (2 : Int64)), (.long (2 : Int64))])) _
    refine XS.ldiv X2.here hx rfl (hb hby d1_35) rfl (by decide) ?_
    show Steps p.tables e below (T2.setTop (mkF m 36 #[.val (.ref o0), .val (.int (2 : Int32)), .val (.long q2), .second, .val (.int (1 : Int32)), .unset, .unset, .unset] [(.long (1 : Int64))])) _
    refine XS.lstore X2.here hx rfl (hb hby d1_36) rfl (l' := #[.val (.ref o0), .val (.int (2 : Int32)), .val (.long q2), .second, .val (.int (1 : Int32)), .val (.long (1 : Int64)), .second, .unset]) rfl ?_
    show Steps p.tables e below (T2.setTop (mkF m 38 #[.val (.ref o0), .val (.int (2 : Int32)), .val (.long q2), .second, .val (.int (1 : Int32)), .val (.long (1 : Int64)), .second, .unset] [])) _
    refine XS.aloadN X2.here hx rfl (hb hby d1_38) rfl rfl ?_
    show Steps p.tables e below (T2.setTop (mkF m 39 #[.val (.ref o0), .val (.int (2 : Int32)), .val (.long q2), .second, .val (.int (1 : Int32)), .val (.long (1 : Int64)), .second, .unset] [(.ref o0)])) _
    refine XS.bipush X2.here hx rfl (hb hby d1_39) ?_
    show Steps p.tables e below (T2.setTop (mkF m 41 #[.val (.ref o0), .val (.int (2 : Int32)), .val (.long q2), .second, .val (.int (1 : Int32)), .val (.long (1 : Int64)), .second, .unset] [(.int (64 : Int32)), (.ref o0)])) _
    refine XS.lload X2.here hx rfl (hb hby d1_41) rfl ?_
    exact k)
  obtain ⟨_, _, ⟨T5, L5, k5, n5⟩, -, X5, ⟨Lc5, hQ5, l5, y5, z5⟩, st5⟩ := Jvm.LawKit.callS X2 hx (y := (⟨"java/lang/Long", "numberOfLeadingZeros", "(J)I"⟩ : MethodName)) hown (mvT hZ (hw _ (List.mem_of_getElem? (i := 10) rfl))) (mvT hZ (hw _ (List.mem_of_getElem? (i := 11) rfl))) (mvT hZ (hw _ (List.mem_of_getElem? (i := 12) rfl))) (mvT hZ (hw _ (List.mem_of_getElem? (i := 13) rfl))) (by decide) (backOf (W := 2) (rm3 l Z a0 hw []  h0 n0 Z0 ) hZ (hw _ (List.mem_of_getElem? (i := 13) rfl)) (hw _ (List.mem_of_getElem? (i := 12) rfl)) (by decide) (by decide)) (g := (mkF m 43 #[.val (.ref o0), .val (.int (2 : Int32)), .val (.long q2), .second, .val (.int (1 : Int32)), .val (.long (1 : Int64)), .second, .unset] [(.long (1 : Int64)), (.int (64 : Int32)), (.ref o0)])) rfl (by rw [hml]; rfl) (argsL := [(.long (1 : Int64))]) (rest := [(.int (64 : Int32)), (.ref o0)]) (lenOf pd_rm1_0 rfl) rfl (by show 2 * 0 + _ ≤ _; exact Nat.le_of_eq rfl) (hb hby d1_43) (fun _ _ => ⟨rfl, e2, (by decide : 0 + 0 ≤ _), (by decide : 0 + 0 ≤ _)⟩)
  dsimp only [Pt.U, Pt.locs, Pt.cells, Pt.slots] at X5 l5 y5 z5 st5 hQ5
  rw [l5, y5, z5] at X5
  obtain ⟨rfl, N5q, e5⟩ := hQ5
  have N5 := Fr.app N0 N5q
  have go5 := go4.step (C := T5.setTop (mkF m 46 #[.val (.ref o0), .val (.int (2 : Int32)), .val (.long q2), .second, .val (.int (1 : Int32)), .val (.long (1 : Int64)), .second, .unset] [(.int (63 : Int32)), (.int (64 : Int32)), (.ref o0)])) (fun t k => st5 t k)
  have go6 := go5.step (C := T5.setTop (mkF m 49 #[.val (.ref o0), .val (.int (2 : Int32)), .val (.long q2), .second, .val (.int (1 : Int32)), .val (.long (1 : Int64)), .second, .unset] [(.int (2 : Int32)), (.ref o0)])) (fun t k => by
    show Steps p.tables e below (T5.setTop (mkF m 46 #[.val (.ref o0), .val (.int (2 : Int32)), .val (.long q2), .second, .val (.int (1 : Int32)), .val (.long (1 : Int64)), .second, .unset] [(.int (63 : Int32)), (.int (64 : Int32)), (.ref o0)])) _
    refine XS.isub X5.here hx rfl (hb hby d1_46) rfl ?_
    show Steps p.tables e below (T5.setTop (mkF m 47 #[.val (.ref o0), .val (.int (2 : Int32)), .val (.long q2), .second, .val (.int (1 : Int32)), .val (.long (1 : Int64)), .second, .unset] [(.int (1 : Int32)), (.ref o0)])) _
    refine XS.iconst X5.here hx rfl (hb hby d1_47) ?_
    show Steps p.tables e below (T5.setTop (mkF m 48 #[.val (.ref o0), .val (.int (2 : Int32)), .val (.long q2), .second, .val (.int (1 : Int32)), .val (.long (1 : Int64)), .second, .unset] [(.int (1 : Int32)), (.int (1 : Int32)), (.ref o0)])) _
    refine XS.iadd X5.here hx rfl (hb hby d1_48) rfl ?_
    exact k)
  obtain ⟨T7, h7, X7, e7, W7, st7⟩ := putF X5 hx hZ hown (host := "") (Or.inl (hw _ (List.mem_of_getElem? (i := 19) rfl))) Via.refl e5 F_buckets E_o0 (Or.inr ⟨(hw _ (List.mem_of_getElem? (i := 20) rfl)), rfl, hnm⟩) (hw _ (List.mem_of_getElem? (i := 1) rfl)) (ty := .int) (by decide) rfl rfl (g := (mkF m 49 #[.val (.ref o0), .val (.int (2 : Int32)), .val (.long q2), .second, .val (.int (1 : Int32)), .val (.long (1 : Int64)), .second, .unset] [(.int (2 : Int32)), (.ref o0)])) rfl rfl (hb hby d1_49)
  have f8 := E_o0.wr W7
  have f9 := Fld.same W7 F_buckets
  have f10 := Fld.other W7 F_length (Or.inr (slot_ne (Or.inr (hw _ (List.mem_of_getElem? (i := 26) rfl))) (Or.inr (hw _ (List.mem_of_getElem? (i := 20) rfl))) (by decide) (t := .int) (t' := .int) (by decide) (by decide)))
  have f11 := Fld.other W7 F_bucketSalts (Or.inr (slot_ne (Or.inr (hw _ (List.mem_of_getElem? (i := 29) rfl))) (Or.inr (hw _ (List.mem_of_getElem? (i := 20) rfl))) (by decide) (t := (.array .long)) (t' := .int) (by decide) (by decide)))
  have f12 := Fld.other W7 F_fingerprintSalts (Or.inr (slot_ne (Or.inr (hw _ (List.mem_of_getElem? (i := 31) rfl))) (Or.inr (hw _ (List.mem_of_getElem? (i := 20) rfl))) (by decide) (t := (.array .long)) (t' := .int) (by decide) (by decide)))
  have Z7 : n0 ≤ h7.size := Nat.le_trans Z0 (Nat.le_of_eq W7.size.symm)
  have K7 := K0.wr W7 (Or.inl (List.mem_of_getElem? (i := 0) rfl))
  have N7 := Fr.snoc X7 N5 g_o0
  have go7 := go6.step (C := T7.setTop (mkF m 52 #[.val (.ref o0), .val (.int (2 : Int32)), .val (.long q2), .second, .val (.int (1 : Int32)), .val (.long (1 : Int64)), .second, .unset] [])) (fun t k => st7 t k)
  have go13 := go7.step (C := T7.setTop (mkF m 56 #[.val (.ref o0), .val (.int (2 : Int32)), .val (.long q2), .second, .val (.int (1 : Int32)), .val (.long (1 : Int64)), .second, .unset] [(.ref o0), (.int (1 : Int32)), (.ref o0)])) (fun t k => by
    show Steps p.tables e below (T7.setTop (mkF m 52 #[.val (.ref o0), .val (.int (2 : Int32)), .val (.long q2), .second, .val (.int (1 : Int32)), .val (.long (1 : Int64)), .second, .unset] [])) _
    refine XS.aloadN X7.here hx rfl (hb hby d1_52) rfl rfl ?_
    show Steps p.tables e below (T7.setTop (mkF m 53 #[.val (.ref o0), .val (.int (2 : Int32)), .val (.long q2), .second, .val (.int (1 : Int32)), .val (.long (1 : Int64)), .second, .unset] [(.ref o0)])) _
    refine XS.iload X7.here hx rfl (hb hby d1_53) rfl ?_
    show Steps p.tables e below (T7.setTop (mkF m 55 #[.val (.ref o0), .val (.int (2 : Int32)), .val (.long q2), .second, .val (.int (1 : Int32)), .val (.long (1 : Int64)), .second, .unset] [(.int (1 : Int32)), (.ref o0)])) _
    refine XS.aloadN X7.here hx rfl (hb hby d1_55) rfl rfl ?_
    exact k)
  obtain ⟨T14, X14, e14, st14⟩ := getF X7 hx hZ hown (host := "") (Or.inl (hw _ (List.mem_of_getElem? (i := 19) rfl))) Via.refl e7 f9 (g := (mkF m 56 #[.val (.ref o0), .val (.int (2 : Int32)), .val (.long q2), .second, .val (.int (1 : Int32)), .val (.long (1 : Int64)), .second, .unset] [(.ref o0), (.int (1 : Int32)), (.ref o0)])) rfl rfl (hb hby d1_56)
  have go14 := go13.step (C := T14.setTop (mkF m 59 #[.val (.ref o0), .val (.int (2 : Int32)), .val (.long q2), .second, .val (.int (1 : Int32)), .val (.long (1 : Int64)), .second, .unset] [(.int (2 : Int32)), (.int (1 : Int32)), (.ref o0)])) (fun t k => st14 t k)
  have go15 := go14.step (C := T14.setTop (mkF m 61 #[.val (.ref o0), .val (.int (2 : Int32)), .val (.long q2), .second, .val (.int (1 : Int32)), .val (.long (1 : Int64)), .second, .unset] [(.int (3 : Int32)), (.int (2 : Int32)), (.ref o0)])) (fun t k => by
    show Steps p.tables e below (T14.setTop (mkF m 59 #[.val (.ref o0), .val (.int (2 : Int32)), .val (.long q2), .second, .val (.int (1 : Int32)), .val (.long (1 : Int64)), .second, .unset] [(.int (2 : Int32)), (.int (1 : Int32)), (.ref o0)])) _
    refine XS.imul X14.here hx rfl (hb hby d1_59) rfl ?_
    show Steps p.tables e below (T14.setTop (mkF m 60 #[.val (.ref o0), .val (.int (2 : Int32)), .val (.long q2), .second, .val (.int (1 : Int32)), .val (.long (1 : Int64)), .second, .unset] [(.int (2 : Int32)), (.ref o0)])) _
    refine XS.iconst X14.here hx rfl (hb hby d1_60) ?_
    exact k)
  obtain ⟨_, _, ⟨T16, L16, k16, n16⟩, -, X16, ⟨Lc16, hQ16, l16, y16, z16⟩, st16⟩ := Jvm.LawKit.callS X14 hx (y := (⟨"java/lang/Math", "multiplyExact", "(II)I"⟩ : MethodName)) hown (mvT hZ (hw _ (List.mem_of_getElem? (i := 21) rfl))) (mvT hZ (hw _ (List.mem_of_getElem? (i := 22) rfl))) (mvT hZ (hw _ (List.mem_of_getElem? (i := 23) rfl))) (mvT hZ (hw _ (List.mem_of_getElem? (i := 24) rfl))) (by decide) (backOf (W := 1) (rm5 l Z a0 hw []  h7 n0 Z7 ) hZ (hw _ (List.mem_of_getElem? (i := 24) rfl)) (hw _ (List.mem_of_getElem? (i := 23) rfl)) (by decide) (by decide)) (g := (mkF m 61 #[.val (.ref o0), .val (.int (2 : Int32)), .val (.long q2), .second, .val (.int (1 : Int32)), .val (.long (1 : Int64)), .second, .unset] [(.int (3 : Int32)), (.int (2 : Int32)), (.ref o0)])) rfl (by rw [hml]; rfl) (argsL := [(.int (2 : Int32)), (.int (3 : Int32))]) (rest := [(.ref o0)]) (lenOf pd_rm1_1 rfl) rfl (by show 2 * 0 + _ ≤ _; exact Nat.le_of_eq rfl) (hb hby d1_61) (fun _ _ => ⟨rfl, e14, (by decide : 0 + 0 ≤ _), (by decide : 0 + 0 ≤ _)⟩)
  dsimp only [Pt.U, Pt.locs, Pt.cells, Pt.slots] at X16 l16 y16 z16 st16 hQ16
  rw [l16, y16, z16] at X16
  obtain ⟨rfl, N16q, e16⟩ := hQ16
  have N16 := Fr.app N7 N16q
  have go16 := go15.step (C := T16.setTop (mkF m 64 #[.val (.ref o0), .val (.int (2 : Int32)), .val (.long q2), .second, .val (.int (1 : Int32)), .val (.long (1 : Int64)), .second, .unset] [(.int (6 : Int32)), (.ref o0)])) (fun t k => st16 t k)
  obtain ⟨T17, h17, X17, e17, W17, st17⟩ := putF X16 hx hZ hown (host := "") (Or.inl (hw _ (List.mem_of_getElem? (i := 25) rfl))) Via.refl e16 f10 f8 (Or.inr ⟨(hw _ (List.mem_of_getElem? (i := 26) rfl)), rfl, hnm⟩) (hw _ (List.mem_of_getElem? (i := 1) rfl)) (ty := .int) (by decide) rfl rfl (g := (mkF m 64 #[.val (.ref o0), .val (.int (2 : Int32)), .val (.long q2), .second, .val (.int (1 : Int32)), .val (.long (1 : Int64)), .second, .unset] [(.int (6 : Int32)), (.ref o0)])) rfl rfl (hb hby d1_64)
  have f18 := f8.wr W17
  have f19 := Fld.other W17 f9 (Or.inr (slot_ne (Or.inr (hw _ (List.mem_of_getElem? (i := 20) rfl))) (Or.inr (hw _ (List.mem_of_getElem? (i := 26) rfl))) (by decide) (t := .int) (t' := .int) (by decide) (by decide)))
  have f20 := Fld.same W17 f10
  have f21 := Fld.other W17 f11 (Or.inr (slot_ne (Or.inr (hw _ (List.mem_of_getElem? (i := 29) rfl))) (Or.inr (hw _ (List.mem_of_getElem? (i := 26) rfl))) (by decide) (t := (.array .long)) (t' := .int) (by decide) (by decide)))
  have f22 := Fld.other W17 f12 (Or.inr (slot_ne (Or.inr (hw _ (List.mem_of_getElem? (i := 31) rfl))) (Or.inr (hw _ (List.mem_of_getElem? (i := 26) rfl))) (by decide) (t := (.array .long)) (t' := .int) (by decide) (by decide)))
  have Z17 : n0 ≤ h17.size := Nat.le_trans Z7 (Nat.le_of_eq W17.size.symm)
  have K17 := K7.wr W17 (Or.inl (List.mem_of_getElem? (i := 0) rfl))
  have N17 := Fr.snoc X17 N16 g_o0
  have go17 := go16.step (C := T17.setTop (mkF m 67 #[.val (.ref o0), .val (.int (2 : Int32)), .val (.long q2), .second, .val (.int (1 : Int32)), .val (.long (1 : Int64)), .second, .unset] [])) (fun t k => st17 t k)
  have go23 := go17.step (C := T17.setTop (mkF m 70 #[.val (.ref o0), .val (.int (2 : Int32)), .val (.long q2), .second, .val (.int (1 : Int32)), .val (.long (1 : Int64)), .second, .unset] [(.int (1 : Int32)), (.ref o0)])) (fun t k => by
    show Steps p.tables e below (T17.setTop (mkF m 67 #[.val (.ref o0), .val (.int (2 : Int32)), .val (.long q2), .second, .val (.int (1 : Int32)), .val (.long (1 : Int64)), .second, .unset] [])) _
    refine XS.aloadN X17.here hx rfl (hb hby d1_67) rfl rfl ?_
    show Steps p.tables e below (T17.setTop (mkF m 68 #[.val (.ref o0), .val (.int (2 : Int32)), .val (.long q2), .second, .val (.int (1 : Int32)), .val (.long (1 : Int64)), .second, .unset] [(.ref o0)])) _
    refine XS.iload X17.here hx rfl (hb hby d1_68) rfl ?_
    exact k)
  obtain ⟨T24, h24, k24, X24, e24, E24, A24, st24⟩ := newP X17 hx hZ (hw _ (List.mem_of_getElem? (i := 27) rfl)) e17 (g := (mkF m 70 #[.val (.ref o0), .val (.int (2 : Int32)), .val (.long q2), .second, .val (.int (1 : Int32)), .val (.long (1 : Int64)), .second, .unset] [(.int (1 : Int32)), (.ref o0)])) rfl (hb hby d1_70) rfl (by decide) (cap := 1) (by decide) (by decide) (by decide) (by decide)
  obtain ⟨b24, g24⟩ : ∃ z, z = h17.size := ⟨_, rfl⟩
  rw [← g24] at A24 st24
  have ne_o0_b24 : o0 ≠ b24 := Nat.ne_of_lt (Nat.lt_of_lt_of_le f18.lt (Nat.le_of_eq g24.symm))
  have g_b24 : n0 ≤ b24 := Nat.le_trans Z17 (Nat.le_of_eq g24.symm)
  have sz_b24 : h0.size ≤ b24 := Nat.le_trans K17.1 (Nat.le_of_eq g24.symm)
  have f25 := f18.ext E24
  have f26 := f19.ext E24
  have f27 := f20.ext E24
  have f28 := f21.ext E24
  have f29 := f22.ext E24
  have V24 : Arv Z h24 b24 k24 .long (1 : Int32) [(.long (0 : Int64))] (.long (0 : Int64)) := (Arv.new A24 (by decide)).pad (pad_rep [] (.long (0 : Int64)) 1)
  have Z24 : n0 ≤ h24.size := Nat.le_trans Z17 E24.1
  have K24 := K17.ext E24
  have go24 := go23.step (C := T24.setTop (mkF m 72 #[.val (.ref o0), .val (.int (2 : Int32)), .val (.long q2), .second, .val (.int (1 : Int32)), .val (.long (1 : Int64)), .second, .unset] [(.ref b24), (.ref o0)])) (fun t k => st24 t k)
  obtain ⟨T30, h30, X30, e30, W30, st30⟩ := putF X24 hx hZ hown (host := "") (Or.inl (hw _ (List.mem_of_getElem? (i := 28) rfl))) Via.refl e24 f28 f25 (Or.inr ⟨(hw _ (List.mem_of_getElem? (i := 29) rfl)), rfl, hnm⟩) (hw _ (List.mem_of_getElem? (i := 1) rfl)) (ty := (.array .long)) (by decide) rfl rfl (g := (mkF m 72 #[.val (.ref o0), .val (.int (2 : Int32)), .val (.long q2), .second, .val (.int (1 : Int32)), .val (.long (1 : Int64)), .second, .unset] [(.ref b24), (.ref o0)])) rfl rfl (hb hby d1_72)
  have f31 := f25.wr W30
  have f32 := Fld.other W30 f26 (Or.inr (slot_ne (Or.inr (hw _ (List.mem_of_getElem? (i := 20) rfl))) (Or.inr (hw _ (List.mem_of_getElem? (i := 29) rfl))) (by decide) (t := .int) (t' := (.array .long)) (by decide) (by decide)))
  have f33 := Fld.other W30 f27 (Or.inr (slot_ne (Or.inr (hw _ (List.mem_of_getElem? (i := 26) rfl))) (Or.inr (hw _ (List.mem_of_getElem? (i := 29) rfl))) (by decide) (t := .int) (t' := (.array .long)) (by decide) (by decide)))
  have f34 := Fld.same W30 f28
  have f35 := Fld.other W30 f29 (Or.inr (slot_ne (Or.inr (hw _ (List.mem_of_getElem? (i := 31) rfl))) (Or.inr (hw _ (List.mem_of_getElem? (i := 29) rfl))) (by decide) (t := (.array .long)) (t' := (.array .long)) (by decide) (by decide)))
  have f36 := Arv.other V24 W30 (Ne.symm ne_o0_b24)
  have Z30 : n0 ≤ h30.size := Nat.le_trans Z24 (Nat.le_of_eq W30.size.symm)
  have K30 := K24.wr W30 (Or.inl (List.mem_of_getElem? (i := 0) rfl))
  have N30 := Fr.snoc X30 N17 g_o0
  have go30 := go24.step (C := T30.setTop (mkF m 75 #[.val (.ref o0), .val (.int (2 : Int32)), .val (.long q2), .second, .val (.int (1 : Int32)), .val (.long (1 : Int64)), .second, .unset] [])) (fun t k => st30 t k)
  have go37 := go30.step (C := T30.setTop (mkF m 78 #[.val (.ref o0), .val (.int (2 : Int32)), .val (.long q2), .second, .val (.int (1 : Int32)), .val (.long (1 : Int64)), .second, .unset] [(.int (1 : Int32)), (.ref o0)])) (fun t k => by
    show Steps p.tables e below (T30.setTop (mkF m 75 #[.val (.ref o0), .val (.int (2 : Int32)), .val (.long q2), .second, .val (.int (1 : Int32)), .val (.long (1 : Int64)), .second, .unset] [])) _
    refine XS.aloadN X30.here hx rfl (hb hby d1_75) rfl rfl ?_
    show Steps p.tables e below (T30.setTop (mkF m 76 #[.val (.ref o0), .val (.int (2 : Int32)), .val (.long q2), .second, .val (.int (1 : Int32)), .val (.long (1 : Int64)), .second, .unset] [(.ref o0)])) _
    refine XS.iload X30.here hx rfl (hb hby d1_76) rfl ?_
    exact k)
  obtain ⟨T38, h38, k38, X38, e38, E38, A38, st38⟩ := newP X30 hx hZ (hw _ (List.mem_of_getElem? (i := 27) rfl)) e30 (g := (mkF m 78 #[.val (.ref o0), .val (.int (2 : Int32)), .val (.long q2), .second, .val (.int (1 : Int32)), .val (.long (1 : Int64)), .second, .unset] [(.int (1 : Int32)), (.ref o0)])) rfl (hb hby d1_78) rfl (by decide) (cap := 1) (by decide) (by decide) (by decide) (by decide)
  obtain ⟨b38, g38⟩ : ∃ z, z = h30.size := ⟨_, rfl⟩
  rw [← g38] at A38 st38
  have ne_o0_b38 : o0 ≠ b38 := Nat.ne_of_lt (Nat.lt_of_lt_of_le f31.lt (Nat.le_of_eq g38.symm))
  have ne_b24_b38 : b24 ≠ b38 := Nat.ne_of_lt (Nat.lt_of_lt_of_le f36.lt (Nat.le_of_eq g38.symm))
  have g_b38 : n0 ≤ b38 := Nat.le_trans Z30 (Nat.le_of_eq g38.symm)
  have sz_b38 : h0.size ≤ b38 := Nat.le_trans K30.1 (Nat.le_of_eq g38.symm)
  have f39 := f31.ext E38
  have f40 := f32.ext E38
  have f41 := f33.ext E38
  have f42 := f34.ext E38
  have f43 := f35.ext E38
  have f44 := f36.ext E38
  have V38 : Arv Z h38 b38 k38 .long (1 : Int32) [(.long (0 : Int64))] (.long (0 : Int64)) := (Arv.new A38 (by decide)).pad (pad_rep [] (.long (0 : Int64)) 1)
  have Z38 : n0 ≤ h38.size := Nat.le_trans Z30 E38.1
  have K38 := K30.ext E38
  have go38 := go37.step (C := T38.setTop (mkF m 80 #[.val (.ref o0), .val (.int (2 : Int32)), .val (.long q2), .second, .val (.int (1 : Int32)), .val (.long (1 : Int64)), .second, .unset] [(.ref b38), (.ref o0)])) (fun t k => st38 t k)
  obtain ⟨T45, h45, X45, e45, W45, st45⟩ := putF X38 hx hZ hown (host := "") (Or.inl (hw _ (List.mem_of_getElem? (i := 30) rfl))) Via.refl e38 f43 f39 (Or.inr ⟨(hw _ (List.mem_of_getElem? (i := 31) rfl)), rfl, hnm⟩) (hw _ (List.mem_of_getElem? (i := 1) rfl)) (ty := (.array .long)) (by decide) rfl rfl (g := (mkF m 80 #[.val (.ref o0), .val (.int (2 : Int32)), .val (.long q2), .second, .val (.int (1 : Int32)), .val (.long (1 : Int64)), .second, .unset] [(.ref b38), (.ref o0)])) rfl rfl (hb hby d1_80)
  have f46 := f39.wr W45
  have f47 := Fld.other W45 f40 (Or.inr (slot_ne (Or.inr (hw _ (List.mem_of_getElem? (i := 20) rfl))) (Or.inr (hw _ (List.mem_of_getElem? (i := 31) rfl))) (by decide) (t := .int) (t' := (.array .long)) (by decide) (by decide)))
  have f48 := Fld.other W45 f41 (Or.inr (slot_ne (Or.inr (hw _ (List.mem_of_getElem? (i := 26) rfl))) (Or.inr (hw _ (List.mem_of_getElem? (i := 31) rfl))) (by decide) (t := .int) (t' := (.array .long)) (by decide) (by decide)))
  have f49 := Fld.other W45 f42 (Or.inr (slot_ne (Or.inr (hw _ (List.mem_of_getElem? (i := 29) rfl))) (Or.inr (hw _ (List.mem_of_getElem? (i := 31) rfl))) (by decide) (t := (.array .long)) (t' := (.array .long)) (by decide) (by decide)))
  have f50 := Fld.same W45 f43
  have f51 := Arv.other f44 W45 (Ne.symm ne_o0_b24)
  have f52 := Arv.other V38 W45 (Ne.symm ne_o0_b38)
  have Z45 : n0 ≤ h45.size := Nat.le_trans Z38 (Nat.le_of_eq W45.size.symm)
  have K45 := K38.wr W45 (Or.inl (List.mem_of_getElem? (i := 0) rfl))
  have N45 := Fr.snoc X45 N30 g_o0
  have go45 := go38.step (C := T45.setTop (mkF m 83 #[.val (.ref o0), .val (.int (2 : Int32)), .val (.long q2), .second, .val (.int (1 : Int32)), .val (.long (1 : Int64)), .second, .unset] [])) (fun t k => st45 t k)
  have go54 := go45.step (C := T45.setTop (mkF m 94 #[.val (.ref o0), .val (.int (2 : Int32)), .val (.long q2), .second, .val (.int (1 : Int32)), .val (.long (1 : Int64)), .second, .val (.int (0 : Int32))] [(.ref o0)])) (fun t k => by
    show Steps p.tables e below (T45.setTop (mkF m 83 #[.val (.ref o0), .val (.int (2 : Int32)), .val (.long q2), .second, .val (.int (1 : Int32)), .val (.long (1 : Int64)), .second, .unset] [])) _
    refine XS.iconst X45.here hx rfl (hb hby d1_83) ?_
    show Steps p.tables e below (T45.setTop (mkF m 84 #[.val (.ref o0), .val (.int (2 : Int32)), .val (.long q2), .second, .val (.int (1 : Int32)), .val (.long (1 : Int64)), .second, .unset] [(.int (0 : Int32))])) _
    refine XS.istore X45.here hx rfl (hb hby d1_84) rfl (l' := #[.val (.ref o0), .val (.int (2 : Int32)), .val (.long q2), .second, .val (.int (1 : Int32)), .val (.long (1 : Int64)), .second, .val (.int (0 : Int32))]) rfl ?_
    show Steps p.tables e below (T45.setTop (mkF m 86 #[.val (.ref o0), .val (.int (2 : Int32)), .val (.long q2), .second, .val (.int (1 : Int32)), .val (.long (1 : Int64)), .second, .val (.int (0 : Int32))] [])) _
    refine XS.iload X45.here hx rfl (hb hby d1_86) rfl ?_
    show Steps p.tables e below (T45.setTop (mkF m 88 #[.val (.ref o0), .val (.int (2 : Int32)), .val (.long q2), .second, .val (.int (1 : Int32)), .val (.long (1 : Int64)), .second, .val (.int (0 : Int32))] [(.int (0 : Int32))])) _
    refine XS.iload X45.here hx rfl (hb hby d1_88) rfl ?_
    show Steps p.tables e below (T45.setTop (mkF m 90 #[.val (.ref o0), .val (.int (2 : Int32)), .val (.long q2), .second, .val (.int (1 : Int32)), .val (.long (1 : Int64)), .second, .val (.int (0 : Int32))] [(.int (1 : Int32)), (.int (0 : Int32))])) _
    refine XS.icmpNo X45.here hx rfl (hb hby d1_90) rfl (tlt ((by decide) : (0 : Int32) < (1 : Int32))).2.1 ?_
    show Steps p.tables e below (T45.setTop (mkF m 93 #[.val (.ref o0), .val (.int (2 : Int32)), .val (.long q2), .second, .val (.int (1 : Int32)), .val (.long (1 : Int64)), .second, .val (.int (0 : Int32))] [])) _
    refine XS.aloadN X45.here hx rfl (hb hby d1_93) rfl rfl ?_
    exact k)
  obtain ⟨T55, X55, e55, st55⟩ := getF X45 hx hZ hown (host := "") (Or.inl (hw _ (List.mem_of_getElem? (i := 28) rfl))) Via.refl e45 f49 (g := (mkF m 94 #[.val (.ref o0), .val (.int (2 : Int32)), .val (.long q2), .second, .val (.int (1 : Int32)), .val (.long (1 : Int64)), .second, .val (.int (0 : Int32))] [(.ref o0)])) rfl rfl (hb hby d1_94)
  have go55 := go54.step (C := T55.setTop (mkF m 97 #[.val (.ref o0), .val (.int (2 : Int32)), .val (.long q2), .second, .val (.int (1 : Int32)), .val (.long (1 : Int64)), .second, .val (.int (0 : Int32))] [(.ref b24)])) (fun t k => st55 t k)
  have go56 := go55.step (C := T55.setTop (mkF m 105 #[.val (.ref o0), .val (.int (2 : Int32)), .val (.long q2), .second, .val (.int (1 : Int32)), .val (.long (1 : Int64)), .second, .val (.int (0 : Int32))] [(.long (0 : Int64)), (.long q2), (.int (0 : Int32)), (.ref b24)])) (fun t k => by
    show Steps p.tables e below (T55.setTop (mkF m 97 #[.val (.ref o0), .val (.int (2 : Int32)), .val (.long q2), .second, .val (.int (1 : Int32)), .val (.long (1 : Int64)), .second, .val (.int (0 : Int32))] [(.ref b24)])) _
    refine XS.iload X55.here hx rfl (hb hby d1_97) rfl ?_
    show Steps p.tables e below (T55.setTop (mkF m 99 #[.val (.ref o0), .val (.int (2 : Int32)), .val (.long q2), .second, .val (.int (1 : Int32)), .val (.long (1 : Int64)), .second, .val (.int (0 : Int32))] [(.int (0 : Int32)), (.ref b24)])) _
    refine XS.lloadN X55.here hx rfl (hb hby d1_99) rfl ?_
    show Steps p.tables e below (T55.setTop (mkF m 100 #[.val (.ref o0), .val (.int (2 : Int32)), .val (.long q2), .second, .val (.int (1 : Int32)), .val (.long (1 : Int64)), .second, .val (.int (0 : Int32))] [(.long q2), (.int (0 : Int32)), (.ref b24)])) _
    refine XS.iconst X55.here hx rfl (hb hby d1_100) ?_
    show Steps p.tables e below (T55.setTop (mkF m 101 #[.val (.ref o0), .val (.int (2 : Int32)), .val (.long q2), .second, .val (.int (1 : Int32)), .val (.long (1 : Int64)), .second, .val (.int (0 : Int32))] [(.int (2 : Int32)), (.long q2), (.int (0 : Int32)), (.ref b24)])) _
    refine XS.iload X55.here hx rfl (hb hby d1_101) rfl ?_
    show Steps p.tables e below (T55.setTop (mkF m 103 #[.val (.ref o0), .val (.int (2 : Int32)), .val (.long q2), .second, .val (.int (1 : Int32)), .val (.long (1 : Int64)), .second, .val (.int (0 : Int32))] [(.int (0 : Int32)), (.int (2 : Int32)), (.long q2), (.int (0 : Int32)), (.ref b24)])) _
    refine XS.imul X55.here hx rfl (hb hby d1_103) rfl ?_
    show Steps p.tables e below (T55.setTop (mkF m 104 #[.val (.ref o0), .val (.int (2 : Int32)), .val (.long q2), .second, .val (.int (1 : Int32)), .val (.long (1 : Int64)), .second, .val (.int (0 : Int32))] [(.int (0 : Int32)), (.long q2), (.int (0 : Int32)), (.ref b24)])) _
    refine XS.i2l X55.here hx rfl (hb hby d1_104) rfl ?_
    exact k)
  obtain ⟨_, _, ⟨T57, L57, k57, n57⟩, -, X57, ⟨Lc57, hQ57, l57, y57, z57⟩, st57⟩ := Jvm.LawKit.callS X55 hx (y := (⟨"sketchspan/sketch/Hashing", "hash", "(JJ)J"⟩ : MethodName)) hown (mvT hZ (hw _ (List.mem_of_getElem? (i := 32) rfl))) (mvT hZ (hw _ (List.mem_of_getElem? (i := 33) rfl))) (mvT hZ (hw _ (List.mem_of_getElem? (i := 34) rfl))) (mvT hZ (hw _ (List.mem_of_getElem? (i := 35) rfl))) (by decide) (backOf (W := 2) (rm6 l Z a0 hw [] q2 (0 : Int64) h45 n0 Z45 ) hZ (hw _ (List.mem_of_getElem? (i := 35) rfl)) (hw _ (List.mem_of_getElem? (i := 34) rfl)) (by decide) (by decide)) (g := (mkF m 105 #[.val (.ref o0), .val (.int (2 : Int32)), .val (.long q2), .second, .val (.int (1 : Int32)), .val (.long (1 : Int64)), .second, .val (.int (0 : Int32))] [(.long (0 : Int64)), (.long q2), (.int (0 : Int32)), (.ref b24)])) rfl (by rw [hml]; rfl) (argsL := [(.long q2), (.long (0 : Int64))]) (rest := [(.int (0 : Int32)), (.ref b24)]) (lenOf pd_rm1_2 rfl) rfl (by show 2 * 0 + _ ≤ _; exact Nat.le_of_eq rfl) (hb hby d1_105) (fun _ _ => ⟨rfl, e55, (by decide : 2 + 0 ≤ _), (by decide : 2 + 0 ≤ _)⟩)
  dsimp only [Pt.U, Pt.locs, Pt.cells, Pt.slots] at X57 l57 y57 z57 st57 hQ57
  rw [l57, y57, z57] at X57
  obtain ⟨rfl, N57q, e57⟩ := hQ57
  have N57 := Fr.app N45 N57q
  have go57 := go56.step (C := T57.setTop (mkF m 108 #[.val (.ref o0), .val (.int (2 : Int32)), .val (.long q2), .second, .val (.int (1 : Int32)), .val (.long (1 : Int64)), .second, .val (.int (0 : Int32))] [(.long (own_hm (q2 ^^^ (own_hm (0 : Int64))))), (.int (0 : Int32)), (.ref b24)])) (fun t k => st57 t k)
  have Vo58 := f51
  obtain ⟨cl58, Ar58, qa58, Sa58, Na58, Ha58, Ga58⟩ := Vo58
  have hin58 : ¬ ((0 : Int32) < 0 ∨ cl58.slots.size ≤ ((0 : Int32)).toNatClampNeg) := inb_of Sa58 ⟨by decide, by decide⟩
  obtain ⟨T59, h59, X59, e59, W59, st59⟩ := stJ X57 hx hZ e57 Ar58 (j := (0 : Int32)) hin58 (g := (mkF m 108 #[.val (.ref o0), .val (.int (2 : Int32)), .val (.long q2), .second, .val (.int (1 : Int32)), .val (.long (1 : Int64)), .second, .val (.int (0 : Int32))] [(.long (own_hm (q2 ^^^ (own_hm (0 : Int64))))), (.int (0 : Int32)), (.ref b24)])) rfl rfl (hb hby d1_108)
  have V59 : Arv Z h59 b24 k24 .long (1 : Int32) [(.long (own_hm (q2 ^^^ (own_hm (0 : Int64)))))] (.long (0 : Int64)) := Arv.set Ar58 qa58 Sa58 Na58 Ha58 Ga58 rfl W59 0 rfl (Nat.le_of_ble_eq_true rfl)
  have f60 := f46.wr W59
  have f61 := Fld.other W59 f47 (Or.inl ne_o0_b24)
  have f62 := Fld.other W59 f48 (Or.inl ne_o0_b24)
  have f63 := Fld.other W59 f49 (Or.inl ne_o0_b24)
  have f64 := Fld.other W59 f50 (Or.inl ne_o0_b24)
  have f66 := Arv.other f52 W59 (Ne.symm ne_b24_b38)
  have Z59 : n0 ≤ h59.size := Nat.le_trans Z45 (Nat.le_of_eq W59.size.symm)
  have K59 := K45.wr W59 (Or.inr sz_b24)
  have N59 := Fr.snoc X59 N57 g_b24
  have go59 := go57.step (C := T59.setTop (mkF m 109 #[.val (.ref o0), .val (.int (2 : Int32)), .val (.long q2), .second, .val (.int (1 : Int32)), .val (.long (1 : Int64)), .second, .val (.int (0 : Int32))] [])) (fun t k => st59 t k)
  have go67 := go59.step (C := T59.setTop (mkF m 110 #[.val (.ref o0), .val (.int (2 : Int32)), .val (.long q2), .second, .val (.int (1 : Int32)), .val (.long (1 : Int64)), .second, .val (.int (0 : Int32))] [(.ref o0)])) (fun t k => by
    show Steps p.tables e below (T59.setTop (mkF m 109 #[.val (.ref o0), .val (.int (2 : Int32)), .val (.long q2), .second, .val (.int (1 : Int32)), .val (.long (1 : Int64)), .second, .val (.int (0 : Int32))] [])) _
    refine XS.aloadN X59.here hx rfl (hb hby d1_109) rfl rfl ?_
    exact k)
  obtain ⟨T68, X68, e68, st68⟩ := getF X59 hx hZ hown (host := "") (Or.inl (hw _ (List.mem_of_getElem? (i := 30) rfl))) Via.refl e59 f64 (g := (mkF m 110 #[.val (.ref o0), .val (.int (2 : Int32)), .val (.long q2), .second, .val (.int (1 : Int32)), .val (.long (1 : Int64)), .second, .val (.int (0 : Int32))] [(.ref o0)])) rfl rfl (hb hby d1_110)
  have go68 := go67.step (C := T68.setTop (mkF m 113 #[.val (.ref o0), .val (.int (2 : Int32)), .val (.long q2), .second, .val (.int (1 : Int32)), .val (.long (1 : Int64)), .second, .val (.int (0 : Int32))] [(.ref b38)])) (fun t k => st68 t k)
  have go69 := go68.step (C := T68.setTop (mkF m 123 #[.val (.ref o0), .val (.int (2 : Int32)), .val (.long q2), .second, .val (.int (1 : Int32)), .val (.long (1 : Int64)), .second, .val (.int (0 : Int32))] [(.long (1 : Int64)), (.long q2), (.int (0 : Int32)), (.ref b38)])) (fun t k => by
    show Steps p.tables e below (T68.setTop (mkF m 113 #[.val (.ref o0), .val (.int (2 : Int32)), .val (.long q2), .second, .val (.int (1 : Int32)), .val (.long (1 : Int64)), .second, .val (.int (0 : Int32))] [(.ref b38)])) _
    refine XS.iload X68.here hx rfl (hb hby d1_113) rfl ?_
    show Steps p.tables e below (T68.setTop (mkF m 115 #[.val (.ref o0), .val (.int (2 : Int32)), .val (.long q2), .second, .val (.int (1 : Int32)), .val (.long (1 : Int64)), .second, .val (.int (0 : Int32))] [(.int (0 : Int32)), (.ref b38)])) _
    refine XS.lloadN X68.here hx rfl (hb hby d1_115) rfl ?_
    show Steps p.tables e below (T68.setTop (mkF m 116 #[.val (.ref o0), .val (.int (2 : Int32)), .val (.long q2), .second, .val (.int (1 : Int32)), .val (.long (1 : Int64)), .second, .val (.int (0 : Int32))] [(.long q2), (.int (0 : Int32)), (.ref b38)])) _
    refine XS.iconst X68.here hx rfl (hb hby d1_116) ?_
    show Steps p.tables e below (T68.setTop (mkF m 117 #[.val (.ref o0), .val (.int (2 : Int32)), .val (.long q2), .second, .val (.int (1 : Int32)), .val (.long (1 : Int64)), .second, .val (.int (0 : Int32))] [(.int (2 : Int32)), (.long q2), (.int (0 : Int32)), (.ref b38)])) _
    refine XS.iload X68.here hx rfl (hb hby d1_117) rfl ?_
    show Steps p.tables e below (T68.setTop (mkF m 119 #[.val (.ref o0), .val (.int (2 : Int32)), .val (.long q2), .second, .val (.int (1 : Int32)), .val (.long (1 : Int64)), .second, .val (.int (0 : Int32))] [(.int (0 : Int32)), (.int (2 : Int32)), (.long q2), (.int (0 : Int32)), (.ref b38)])) _
    refine XS.imul X68.here hx rfl (hb hby d1_119) rfl ?_
    show Steps p.tables e below (T68.setTop (mkF m 120 #[.val (.ref o0), .val (.int (2 : Int32)), .val (.long q2), .second, .val (.int (1 : Int32)), .val (.long (1 : Int64)), .second, .val (.int (0 : Int32))] [(.int (0 : Int32)), (.long q2), (.int (0 : Int32)), (.ref b38)])) _
    refine XS.iconst X68.here hx rfl (hb hby d1_120) ?_
    show Steps p.tables e below (T68.setTop (mkF m 121 #[.val (.ref o0), .val (.int (2 : Int32)), .val (.long q2), .second, .val (.int (1 : Int32)), .val (.long (1 : Int64)), .second, .val (.int (0 : Int32))] [(.int (1 : Int32)), (.int (0 : Int32)), (.long q2), (.int (0 : Int32)), (.ref b38)])) _
    refine XS.iadd X68.here hx rfl (hb hby d1_121) rfl ?_
    show Steps p.tables e below (T68.setTop (mkF m 122 #[.val (.ref o0), .val (.int (2 : Int32)), .val (.long q2), .second, .val (.int (1 : Int32)), .val (.long (1 : Int64)), .second, .val (.int (0 : Int32))] [(.int (1 : Int32)), (.long q2), (.int (0 : Int32)), (.ref b38)])) _
    refine XS.i2l X68.here hx rfl (hb hby d1_122) rfl ?_
    exact k)
  obtain ⟨_, _, ⟨T70, L70, k70, n70⟩, -, X70, ⟨Lc70, hQ70, l70, y70, z70⟩, st70⟩ := Jvm.LawKit.callS X68 hx (y := (⟨"sketchspan/sketch/Hashing", "hash", "(JJ)J"⟩ : MethodName)) hown (mvT hZ (hw _ (List.mem_of_getElem? (i := 32) rfl))) (mvT hZ (hw _ (List.mem_of_getElem? (i := 33) rfl))) (mvT hZ (hw _ (List.mem_of_getElem? (i := 34) rfl))) (mvT hZ (hw _ (List.mem_of_getElem? (i := 35) rfl))) (by decide) (backOf (W := 2) (rm6 l Z a0 hw [] q2 (1 : Int64) h59 n0 Z59 ) hZ (hw _ (List.mem_of_getElem? (i := 35) rfl)) (hw _ (List.mem_of_getElem? (i := 34) rfl)) (by decide) (by decide)) (g := (mkF m 123 #[.val (.ref o0), .val (.int (2 : Int32)), .val (.long q2), .second, .val (.int (1 : Int32)), .val (.long (1 : Int64)), .second, .val (.int (0 : Int32))] [(.long (1 : Int64)), (.long q2), (.int (0 : Int32)), (.ref b38)])) rfl (by rw [hml]; rfl) (argsL := [(.long q2), (.long (1 : Int64))]) (rest := [(.int (0 : Int32)), (.ref b38)]) (lenOf pd_rm1_2 rfl) rfl (by show 2 * 0 + _ ≤ _; exact Nat.le_of_eq rfl) (hb hby d1_123) (fun _ _ => ⟨rfl, e68, (by decide : 2 + 0 ≤ _), (by decide : 2 + 0 ≤ _)⟩)
  dsimp only [Pt.U, Pt.locs, Pt.cells, Pt.slots] at X70 l70 y70 z70 st70 hQ70
  rw [l70, y70, z70] at X70
  obtain ⟨rfl, N70q, e70⟩ := hQ70
  have N70 := Fr.app N59 N70q
  have go70 := go69.step (C := T70.setTop (mkF m 126 #[.val (.ref o0), .val (.int (2 : Int32)), .val (.long q2), .second, .val (.int (1 : Int32)), .val (.long (1 : Int64)), .second, .val (.int (0 : Int32))] [(.long (own_hm (q2 ^^^ (own_hm (1 : Int64))))), (.int (0 : Int32)), (.ref b38)])) (fun t k => st70 t k)
  have Vo71 := f66
  obtain ⟨cl71, Ar71, qa71, Sa71, Na71, Ha71, Ga71⟩ := Vo71
  have hin71 : ¬ ((0 : Int32) < 0 ∨ cl71.slots.size ≤ ((0 : Int32)).toNatClampNeg) := inb_of Sa71 ⟨by decide, by decide⟩
  obtain ⟨T72, h72, X72, e72, W72, st72⟩ := stJ X70 hx hZ e70 Ar71 (j := (0 : Int32)) hin71 (g := (mkF m 126 #[.val (.ref o0), .val (.int (2 : Int32)), .val (.long q2), .second, .val (.int (1 : Int32)), .val (.long (1 : Int64)), .second, .val (.int (0 : Int32))] [(.long (own_hm (q2 ^^^ (own_hm (1 : Int64))))), (.int (0 : Int32)), (.ref b38)])) rfl rfl (hb hby d1_126)
  have V72 : Arv Z h72 b38 k38 .long (1 : Int32) [(.long (own_hm (q2 ^^^ (own_hm (1 : Int64)))))] (.long (0 : Int64)) := Arv.set Ar71 qa71 Sa71 Na71 Ha71 Ga71 rfl W72 0 rfl (Nat.le_of_ble_eq_true rfl)
  have f73 := f60.wr W72
  have f74 := Fld.other W72 f61 (Or.inl ne_o0_b38)
  have f75 := Fld.other W72 f62 (Or.inl ne_o0_b38)
  have f76 := Fld.other W72 f63 (Or.inl ne_o0_b38)
  have f77 := Fld.other W72 f64 (Or.inl ne_o0_b38)
  have f79 := Arv.other V59 W72 ne_b24_b38
  have Z72 : n0 ≤ h72.size := Nat.le_trans Z59 (Nat.le_of_eq W72.size.symm)
  have K72 := K59.wr W72 (Or.inr sz_b38)
  have N72 := Fr.snoc X72 N70 g_b38
  have go72 := go70.step (C := T72.setTop (mkF m 127 #[.val (.ref o0), .val (.int (2 : Int32)), .val (.long q2), .second, .val (.int (1 : Int32)), .val (.long (1 : Int64)), .second, .val (.int (0 : Int32))] [])) (fun t k => st72 t k)
  have go81 := go72.step (C := T72.setTop (mkF m 133 #[.val (.ref o0), .val (.int (2 : Int32)), .val (.long q2), .second, .val (.int (1 : Int32)), .val (.long (1 : Int64)), .second, .val (.int (1 : Int32))] [])) (fun t k => by
    show Steps p.tables e below (T72.setTop (mkF m 127 #[.val (.ref o0), .val (.int (2 : Int32)), .val (.long q2), .second, .val (.int (1 : Int32)), .val (.long (1 : Int64)), .second, .val (.int (0 : Int32))] [])) _
    refine XS.iinc X72.here hx rfl (hb hby d1_127) rfl (l' := #[.val (.ref o0), .val (.int (2 : Int32)), .val (.long q2), .second, .val (.int (1 : Int32)), .val (.long (1 : Int64)), .second, .val (.int (1 : Int32))]) rfl ?_
    show Steps p.tables e below (T72.setTop (mkF m 130 #[.val (.ref o0), .val (.int (2 : Int32)), .val (.long q2), .second, .val (.int (1 : Int32)), .val (.long (1 : Int64)), .second, .val (.int (1 : Int32))] [])) _
    refine XS.goto X72.here hx rfl (pc0 := 130) (pc' := 86) rfl (hb hby d1_130) (by decide) (by decide) ?_
    show Steps p.tables e below (T72.setTop (mkF m 86 #[.val (.ref o0), .val (.int (2 : Int32)), .val (.long q2), .second, .val (.int (1 : Int32)), .val (.long (1 : Int64)), .second, .val (.int (1 : Int32))] [])) _
    refine XS.iload X72.here hx rfl (hb hby d1_86) rfl ?_
    show Steps p.tables e below (T72.setTop (mkF m 88 #[.val (.ref o0), .val (.int (2 : Int32)), .val (.long q2), .second, .val (.int (1 : Int32)), .val (.long (1 : Int64)), .second, .val (.int (1 : Int32))] [(.int (1 : Int32))])) _
    refine XS.iload X72.here hx rfl (hb hby d1_88) rfl ?_
    show Steps p.tables e below (T72.setTop (mkF m 90 #[.val (.ref o0), .val (.int (2 : Int32)), .val (.long q2), .second, .val (.int (1 : Int32)), .val (.long (1 : Int64)), .second, .val (.int (1 : Int32))] [(.int (1 : Int32)), (.int (1 : Int32))])) _
    refine XS.icmpYes X72.here hx rfl (pc0 := 90) (pc' := 133) rfl (hb hby d1_90) rfl (flt ((by decide) : ¬ ((1 : Int32) < (1 : Int32)))).2.1 (by decide) (by decide) ?_
    exact k)
  obtain ⟨fs, hr, hrun, hended, hW, hsame⟩ := X72.leave (v := none) (fun _ => rfl)
  refine ⟨_, _, go81 _ ?_, hrun, hended, _, _, rfl, ?_, ⟨_, rfl⟩, hW, hsame.mono (by decide) (by decide)⟩
  · exact X72.returnOut hx Bd.returns (hb hby d1_133) hr
  · show Q_rm1 Z o0 q2 h0 n0 _ T72.heap _
    rw [e72]
    exact ⟨rfl, N72, K72, f73, f74, f75⟩
def own_res (q0 : Int64) : Int32 := (if q0 < (0 : Int64) then (0 : Int32) else (if q0 < (2305843009213693951 : Int64) then (1 : Int32) else (0 : Int32)))
theorem d8_0 : decode method_2_code 0 = .ok (.lload_n 0, 1) := by decide +kernel
theorem d8_1 : decode method_2_code 1 = .ok (.lconst 0, 1) := by decide +kernel
theorem d8_2 : decode method_2_code 2 = .ok (.lcmp, 1) := by decide +kernel
theorem d8_3 : decode method_2_code 3 = .ok (.ifCond .lt 15, 3) := by decide +kernel
theorem d8_6 : decode method_2_code 6 = .ok (.lload_n 0, 1) := by decide +kernel
theorem d8_7 : decode method_2_code 7 = .ok (.ldc2_w 7, 3) := by decide +kernel
theorem d8_10 : decode method_2_code 10 = .ok (.lcmp, 1) := by decide +kernel
theorem d8_11 : decode method_2_code 11 = .ok (.ifCond .ge 7, 3) := by decide +kernel
theorem d8_14 : decode method_2_code 14 = .ok (.iconst 1, 1) := by decide +kernel
theorem d8_15 : decode method_2_code 15 = .ok (.goto 4, 3) := by decide +kernel
theorem d8_18 : decode method_2_code 18 = .ok (.iconst 0, 1) := by decide +kernel
theorem d8_19 : decode method_2_code 19 = .ok (.ireturn, 1) := by decide +kernel
theorem pn_rm8 : plainName "sketchspan/sketch/PairSamplerIsStatePinLaw" = true := by first | (simp [plainName, overriddenIn]; done) | decide +kernel
theorem ef_rm8 (m : MethodId) (q0 : Int64) : entryFrame m #[(.long q0)] 2 = mkF m 0 #[.val (.long q0), .second] [] := by first | (simp [entryFrame, mkF, argsToLocals, Value.category]; done) | rfl
def Q_rm8 (Z : State) (q0 : Int64) (h0 : Heap) (n0 : Nat) (v : Option Value) (h : Heap) (L : List Loc) : Prop := v = some (.int (own_res q0)) ∧ Fr n0 L ∧ h = h0
set_option maxRecDepth 65536 in
set_option maxHeartbeats 40000000 in
theorem rm8 (l : Launch) (Z : State) (a0 : Array Value) (hw : ∀ d ∈ tables_1, d.before a0 Z = true) (ws : List Jvm.Cond) (q0 : Int64) (h0 : Heap) (n0 : Nat) (Z0 : n0 ≤ h0.size) :
    MetFree l (⟨"sketchspan/sketch/PairSamplerIsStatePinLaw", "residue", "(J)Z"⟩ : MethodName) (head1 (Jvm.Cond.code (⟨"sketchspan/sketch/PairSamplerIsStatePinLaw", "residue", "(J)Z"⟩ : MethodName) method_2_code 2 (some .boolean) :: ws) ({ frames := 0, cells := 0, slots := 0, locals := 0 } : Room)) (fun a U => a = #[(.long q0)] ∧ Z.Warmed39 U.vm ∧ U.heap = h0) (fun _ _ _ _ _ => True) (fun _ U o U' => ∃ v L, o = .returned v ∧ Q_rm8 Z q0 h0 n0 v U'.heap L ∧ FrameEnd U o U' L ({ frames := 0, cells := 0, slots := 0, locals := 0 } : Room).cells ({ frames := 0, cells := 0, slots := 0, locals := 0 } : Room).slots) := by
  refine MetFree.of_bodySF (plainFor_of_name pn_rm8) hisR ?_
  intro p e s m args below meth c s₁ Bd hml0 hP hK
  obtain ⟨rfl, hZ, hh⟩ := hP
  have hx := Bd.exec
  have hby := Bd.bytes
  have hml : c.maxLocals = 2 := hml0
  have hown : s.vm.findClass "sketchspan/sketch/PairSamplerIsStatePinLaw" = some m.cls := findClass_of_methodNamed Bd.named
  have hnm := (name_of_methodNamed Bd.named Bd.method).1
  have X0 : Stand p l e ({ frames := 0, cells := 0, slots := 0, locals := 0 } : Room) s m #[(.long q0)] below meth c s₁ [] 0 0 := Stand.of_body Bd
  have e0 : s₁.heap = h0 := by rw [← hh, Bd.state]; rfl
  have N0 := Fr.nil n0
  have K0 := Keep.refl h0 []
  have go0 : Go p e below (s₁.setTop (entryFrame m #[(.long q0)] 2)) (s₁.setTop (mkF m 0 #[.val (.long q0), .second] [])) := fun t k => castTop (ef_rm8 m q0) k
  have go2 := go0.step (C := s₁.setTop (mkF m 3 #[.val (.long q0), .second] [(.int (lcmpW q0 (0 : Int64)))])) (fun t k => by
    show Steps p.tables e below (s₁.setTop (mkF m 0 #[.val (.long q0), .second] [])) _
    refine XS.lloadN X0.here hx rfl (hb hby d8_0) rfl ?_
    show Steps p.tables e below (s₁.setTop (mkF m 1 #[.val (.long q0), .second] [(.long q0)])) _
    refine XS.lconst X0.here hx rfl (hb hby d8_1) ?_
    show Steps p.tables e below (s₁.setTop (mkF m 2 #[.val (.long q0), .second] [(.long (0 : Int64)), (.long q0)])) _
    refine XS.lcmp X0.here hx rfl (hb hby d8_2) rfl ?_
    exact k)
  by_cases hc1 : q0 < (0 : Int64)
  · skip
    have go3 := go2.step (C := s₁.setTop (mkF m 19 #[.val (.long q0), .second] [(.int (0 : Int32))])) (fun t k => by
      show Steps p.tables e below (s₁.setTop (mkF m 3 #[.val (.long q0), .second] [(.int (lcmpW q0 (0 : Int64)))])) _
      refine XS.ifYes X0.here hx rfl (pc0 := 3) (pc' := 18) rfl (hb hby d8_3) rfl ((if0 _ _).trans (tlt ((lw_lt _ _).mpr hc1)).1) (by decide) (by decide) ?_
      show Steps p.tables e below (s₁.setTop (mkF m 18 #[.val (.long q0), .second] [])) _
      refine XS.iconst X0.here hx rfl (hb hby d8_18) ?_
      exact k)
    obtain ⟨fs, hr, hrun, hended, hW, hsame⟩ := X0.leave (v := some (.int (0 : Int32))) (fun h => by rw [Bd.returns] at h; cases h)
    refine ⟨_, _, go3 _ ?_, hrun, hended, _, _, rfl, ?_, ⟨_, rfl⟩, hW, hsame.mono (by decide) (by decide)⟩
    · exact retN X0 hx (t := .boolean) Bd.returns (by simp) (hb hby d8_19) hr
    · show Q_rm8 Z q0 h0 n0 _ s₁.heap _
      rw [e0]
      exact ⟨by unfold own_res; simp only [if_pos hc1], N0, rfl⟩
  · skip
    have go5 := go2.step (C := s₁.setTop (mkF m 11 #[.val (.long q0), .second] [(.int (lcmpW q0 (2305843009213693951 : Int64)))])) (fun t k => by
      show Steps p.tables e below (s₁.setTop (mkF m 3 #[.val (.long q0), .second] [(.int (lcmpW q0 (0 : Int64)))])) _
      refine XS.ifNo X0.here hx rfl (hb hby d8_3) rfl ((if0 _ _).trans (flt (fun q => hc1 ((lw_lt _ _).mp q))).1) ?_
      show Steps p.tables e below (s₁.setTop (mkF m 6 #[.val (.long q0), .second] [])) _
      refine XS.lloadN X0.here hx rfl (hb hby d8_6) rfl ?_
      show Steps p.tables e below (s₁.setTop (mkF m 7 #[.val (.long q0), .second] [(.long q0)])) _
      refine X0.ldc2Long hx hown (mvT hZ (hw _ (List.mem_of_getElem? (i := 46) rfl))) (g := (mkF m 7 #[.val (.long q0), .second] [(.long q0)])) rfl (hb hby d8_7) _ ?_
      show Steps p.tables e below (s₁.setTop (mkF m 10 #[.val (.long q0), .second] [(.long (2305843009213693951 : Int64)), (.long q0)])) _
      refine XS.lcmp X0.here hx rfl (hb hby d8_10) rfl ?_
      exact k)
    by_cases hc4 : q0 < (2305843009213693951 : Int64)
    · skip
      have go6 := go5.step (C := s₁.setTop (mkF m 19 #[.val (.long q0), .second] [(.int (1 : Int32))])) (fun t k => by
        show Steps p.tables e below (s₁.setTop (mkF m 11 #[.val (.long q0), .second] [(.int (lcmpW q0 (2305843009213693951 : Int64)))])) _
        refine XS.ifNo X0.here hx rfl (hb hby d8_11) rfl ((if0 _ _).trans (tlt ((lw_lt _ _).mpr hc4)).2.1) ?_
        show Steps p.tables e below (s₁.setTop (mkF m 14 #[.val (.long q0), .second] [])) _
        refine XS.iconst X0.here hx rfl (hb hby d8_14) ?_
        show Steps p.tables e below (s₁.setTop (mkF m 15 #[.val (.long q0), .second] [(.int (1 : Int32))])) _
        refine XS.goto X0.here hx rfl (pc0 := 15) (pc' := 19) rfl (hb hby d8_15) (by decide) (by decide) ?_
        exact k)
      obtain ⟨fs, hr, hrun, hended, hW, hsame⟩ := X0.leave (v := some (.int (1 : Int32))) (fun h => by rw [Bd.returns] at h; cases h)
      refine ⟨_, _, go6 _ ?_, hrun, hended, _, _, rfl, ?_, ⟨_, rfl⟩, hW, hsame.mono (by decide) (by decide)⟩
      · exact retN X0 hx (t := .boolean) Bd.returns (by simp) (hb hby d8_19) hr
      · show Q_rm8 Z q0 h0 n0 _ s₁.heap _
        rw [e0]
        exact ⟨by unfold own_res; simp only [if_neg hc1, if_pos hc4], N0, rfl⟩
    · skip
      have go7 := go5.step (C := s₁.setTop (mkF m 19 #[.val (.long q0), .second] [(.int (0 : Int32))])) (fun t k => by
        show Steps p.tables e below (s₁.setTop (mkF m 11 #[.val (.long q0), .second] [(.int (lcmpW q0 (2305843009213693951 : Int64)))])) _
        refine XS.ifYes X0.here hx rfl (pc0 := 11) (pc' := 18) rfl (hb hby d8_11) rfl ((if0 _ _).trans (flt (fun q => hc4 ((lw_lt _ _).mp q))).2.1) (by decide) (by decide) ?_
        show Steps p.tables e below (s₁.setTop (mkF m 18 #[.val (.long q0), .second] [])) _
        refine XS.iconst X0.here hx rfl (hb hby d8_18) ?_
        exact k)
      obtain ⟨fs, hr, hrun, hended, hW, hsame⟩ := X0.leave (v := some (.int (0 : Int32))) (fun h => by rw [Bd.returns] at h; cases h)
      refine ⟨_, _, go7 _ ?_, hrun, hended, _, _, rfl, ?_, ⟨_, rfl⟩, hW, hsame.mono (by decide) (by decide)⟩
      · exact retN X0 hx (t := .boolean) Bd.returns (by simp) (hb hby d8_19) hr
      · show Q_rm8 Z q0 h0 n0 _ s₁.heap _
        rw [e0]
        exact ⟨by unfold own_res; simp only [if_neg hc1, if_neg hc4], N0, rfl⟩
def own_isS (x1 : Int64) (x2 : Int64) (x4 : Int64) (x5 : Int64) : Int32 := (if x1 < (0 : Int64) then (0 : Int32) else (if x1 < (2305843009213693951 : Int64) then (if x2 < (0 : Int64) then (0 : Int32) else (if x2 < (2305843009213693951 : Int64) then (if x4 < (0 : Int64) then (0 : Int32) else (if x4 < (2305843009213693951 : Int64) then (if x5 < (0 : Int64) then (0 : Int32) else (if x5 < (2305843009213693951 : Int64) then (1 : Int32) else (0 : Int32))) else (0 : Int32))) else (0 : Int32))) else (0 : Int32)))
theorem d9_0 : decode prog_69_method_5_code 0 = .ok (.iload_n 2, 1) := by decide +kernel
theorem d9_1 : decode prog_69_method_5_code 1 = .ok (.istore_n 3, 1) := by decide +kernel
theorem d9_2 : decode prog_69_method_5_code 2 = .ok (.iload_n 3, 1) := by decide +kernel
theorem d9_3 : decode prog_69_method_5_code 3 = .ok (.iload_n 2, 1) := by decide +kernel
theorem d9_4 : decode prog_69_method_5_code 4 = .ok (.aload_n 0, 1) := by decide +kernel
theorem d9_5 : decode prog_69_method_5_code 5 = .ok (.getfield 36, 3) := by decide +kernel
theorem d9_8 : decode prog_69_method_5_code 8 = .ok (.iadd, 1) := by decide +kernel
theorem d9_9 : decode prog_69_method_5_code 9 = .ok (.if_icmp .ge 55, 3) := by decide +kernel
theorem d9_12 : decode prog_69_method_5_code 12 = .ok (.aload_n 1, 1) := by decide +kernel
theorem d9_13 : decode prog_69_method_5_code 13 = .ok (.iload_n 3, 1) := by decide +kernel
theorem d9_14 : decode prog_69_method_5_code 14 = .ok (.iconst 1, 1) := by decide +kernel
theorem d9_15 : decode prog_69_method_5_code 15 = .ok (.iadd, 1) := by decide +kernel
theorem d9_16 : decode prog_69_method_5_code 16 = .ok (.laload, 1) := by decide +kernel
theorem d9_17 : decode prog_69_method_5_code 17 = .ok (.lconst 0, 1) := by decide +kernel
theorem d9_18 : decode prog_69_method_5_code 18 = .ok (.lcmp, 1) := by decide +kernel
theorem d9_19 : decode prog_69_method_5_code 19 = .ok (.ifCond .lt 37, 3) := by decide +kernel
theorem d9_22 : decode prog_69_method_5_code 22 = .ok (.aload_n 1, 1) := by decide +kernel
theorem d9_23 : decode prog_69_method_5_code 23 = .ok (.iload_n 3, 1) := by decide +kernel
theorem d9_24 : decode prog_69_method_5_code 24 = .ok (.iconst 1, 1) := by decide +kernel
theorem d9_25 : decode prog_69_method_5_code 25 = .ok (.iadd, 1) := by decide +kernel
theorem d9_26 : decode prog_69_method_5_code 26 = .ok (.laload, 1) := by decide +kernel
theorem d9_27 : decode prog_69_method_5_code 27 = .ok (.ldc2_w 68, 3) := by decide +kernel
theorem d9_30 : decode prog_69_method_5_code 30 = .ok (.lcmp, 1) := by decide +kernel
theorem d9_31 : decode prog_69_method_5_code 31 = .ok (.ifCond .ge 25, 3) := by decide +kernel
theorem d9_34 : decode prog_69_method_5_code 34 = .ok (.aload_n 1, 1) := by decide +kernel
theorem d9_35 : decode prog_69_method_5_code 35 = .ok (.iload_n 3, 1) := by decide +kernel
theorem d9_36 : decode prog_69_method_5_code 36 = .ok (.iconst 2, 1) := by decide +kernel
theorem d9_37 : decode prog_69_method_5_code 37 = .ok (.iadd, 1) := by decide +kernel
theorem d9_38 : decode prog_69_method_5_code 38 = .ok (.laload, 1) := by decide +kernel
theorem d9_39 : decode prog_69_method_5_code 39 = .ok (.lconst 0, 1) := by decide +kernel
theorem d9_40 : decode prog_69_method_5_code 40 = .ok (.lcmp, 1) := by decide +kernel
theorem d9_41 : decode prog_69_method_5_code 41 = .ok (.ifCond .lt 15, 3) := by decide +kernel
theorem d9_44 : decode prog_69_method_5_code 44 = .ok (.aload_n 1, 1) := by decide +kernel
theorem d9_45 : decode prog_69_method_5_code 45 = .ok (.iload_n 3, 1) := by decide +kernel
theorem d9_46 : decode prog_69_method_5_code 46 = .ok (.iconst 2, 1) := by decide +kernel
theorem d9_47 : decode prog_69_method_5_code 47 = .ok (.iadd, 1) := by decide +kernel
theorem d9_48 : decode prog_69_method_5_code 48 = .ok (.laload, 1) := by decide +kernel
theorem d9_49 : decode prog_69_method_5_code 49 = .ok (.ldc2_w 68, 3) := by decide +kernel
theorem d9_52 : decode prog_69_method_5_code 52 = .ok (.lcmp, 1) := by decide +kernel
theorem d9_53 : decode prog_69_method_5_code 53 = .ok (.ifCond .lt 5, 3) := by decide +kernel
theorem d9_56 : decode prog_69_method_5_code 56 = .ok (.iconst 0, 1) := by decide +kernel
theorem d9_57 : decode prog_69_method_5_code 57 = .ok (.ireturn, 1) := by decide +kernel
theorem d9_58 : decode prog_69_method_5_code 58 = .ok (.iinc 3 3, 3) := by decide +kernel
theorem d9_61 : decode prog_69_method_5_code 61 = .ok (.goto (-59), 3) := by decide +kernel
theorem d9_64 : decode prog_69_method_5_code 64 = .ok (.iconst 1, 1) := by decide +kernel
theorem d9_65 : decode prog_69_method_5_code 65 = .ok (.ireturn, 1) := by decide +kernel
theorem pn_rm9 : plainName "sketchspan/sketch/PairSampler" = true := by first | (simp [plainName, overriddenIn]; done) | decide +kernel
theorem ef_rm9 (m : MethodId) (o0 : Addr) (o1 : Addr) (p2 : Int32) : entryFrame m #[(.ref o0), (.ref o1), (.int p2)] 4 = mkF m 0 #[.val (.ref o0), .val (.ref o1), .val (.int p2), .unset] [] := by first | (simp [entryFrame, mkF, argsToLocals, Value.category]; done) | rfl
def Q_rm9 (Z : State) (o0 : Addr) (o1 : Addr) (p2 : Int32) (ka : ClassId) (vs : List Value) (x1 : Int64) (x2 : Int64) (x4 : Int64) (x5 : Int64) (h0 : Heap) (n0 : Nat) (v : Option Value) (h : Heap) (L : List Loc) : Prop := v = some (.int (own_isS x1 x2 x4 x5)) ∧ Fr n0 L ∧ h = h0
set_option maxRecDepth 65536 in
set_option maxHeartbeats 40000000 in
theorem rm9 (l : Launch) (Z : State) (a0 : Array Value) (hw : ∀ d ∈ tables_1, d.before a0 Z = true) (ws : List Jvm.Cond) (o0 : Addr) (o1 : Addr) (p2 : Int32) (ka : ClassId) (vs : List Value) (x1 : Int64) (x2 : Int64) (x4 : Int64) (x5 : Int64) (h0 : Heap) (n0 : Nat) (Z0 : n0 ≤ h0.size) (V0 : Arv Z h0 o1 ka .long (9 : Int32) vs (.long (0 : Int64))) (F_len : Fld Z h0 o0 "sketchspan/sketch/PairSampler" "length" "I" (.int (6 : Int32))) (hvs : own_Cells p2 vs x1 x2 x4 x5) :
    MetFree l (⟨"sketchspan/sketch/PairSampler", "isState", "([JI)Z"⟩ : MethodName) (head1 (Jvm.Cond.code (⟨"sketchspan/sketch/PairSampler", "isState", "([JI)Z"⟩ : MethodName) prog_69_method_5_code 4 (some .boolean) :: ws) ({ frames := 0, cells := 0, slots := 0, locals := 0 } : Room)) (fun a U => a = #[(.ref o0), (.ref o1), (.int p2)] ∧ Z.Warmed39 U.vm ∧ U.heap = h0) (fun _ _ _ _ _ => True) (fun _ U o U' => ∃ v L, o = .returned v ∧ Q_rm9 Z o0 o1 p2 ka vs x1 x2 x4 x5 h0 n0 v U'.heap L ∧ FrameEnd U o U' L ({ frames := 0, cells := 0, slots := 0, locals := 0 } : Room).cells ({ frames := 0, cells := 0, slots := 0, locals := 0 } : Room).slots) := by
  refine MetFree.of_bodySF (plainFor_of_name pn_rm9) hisR ?_
  intro p e s m args below meth c s₁ Bd hml0 hP hK
  obtain ⟨rfl, hZ, hh⟩ := hP
  have hx := Bd.exec
  have hby := Bd.bytes
  have hml : c.maxLocals = 4 := hml0
  have hown : s.vm.findClass "sketchspan/sketch/PairSampler" = some m.cls := findClass_of_methodNamed Bd.named
  have hnm := (name_of_methodNamed Bd.named Bd.method).1
  have X0 : Stand p l e ({ frames := 0, cells := 0, slots := 0, locals := 0 } : Room) s m #[(.ref o0), (.ref o1), (.int p2)] below meth c s₁ [] 0 0 := Stand.of_body Bd
  have e0 : s₁.heap = h0 := by rw [← hh, Bd.state]; rfl
  have N0 := Fr.nil n0
  have K0 := Keep.refl h0 []
  have go0 : Go p e below (s₁.setTop (entryFrame m #[(.ref o0), (.ref o1), (.int p2)] 4)) (s₁.setTop (mkF m 0 #[.val (.ref o0), .val (.ref o1), .val (.int p2), .unset] [])) := fun t k => castTop (ef_rm9 m o0 o1 p2) k
  have go1 := go0.step (C := s₁.setTop (mkF m 5 #[.val (.ref o0), .val (.ref o1), .val (.int p2), .val (.int p2)] [(.ref o0), (.int p2), (.int p2)])) (fun t k => by
    show Steps p.tables e below (s₁.setTop (mkF m 0 #[.val (.ref o0), .val (.ref o1), .val (.int p2), .unset] [])) _
    refine XS.iloadN X0.here hx rfl (hb hby d9_0) rfl ?_
    show Steps p.tables e below (s₁.setTop (mkF m 1 #[.val (.ref o0), .val (.ref o1), .val (.int p2), .unset] [(.int p2)])) _
    refine XS.istoreN X0.here hx rfl (hb hby d9_1) rfl (l' := #[.val (.ref o0), .val (.ref o1), .val (.int p2), .val (.int p2)]) rfl ?_
    show Steps p.tables e below (s₁.setTop (mkF m 2 #[.val (.ref o0), .val (.ref o1), .val (.int p2), .val (.int p2)] [])) _
    refine XS.iloadN X0.here hx rfl (hb hby d9_2) rfl ?_
    show Steps p.tables e below (s₁.setTop (mkF m 3 #[.val (.ref o0), .val (.ref o1), .val (.int p2), .val (.int p2)] [(.int p2)])) _
    refine XS.iloadN X0.here hx rfl (hb hby d9_3) rfl ?_
    show Steps p.tables e below (s₁.setTop (mkF m 4 #[.val (.ref o0), .val (.ref o1), .val (.int p2), .val (.int p2)] [(.int p2), (.int p2)])) _
    refine XS.aloadN X0.here hx rfl (hb hby d9_4) rfl rfl ?_
    exact k)
  obtain ⟨T2, X2, e2, st2⟩ := getF X0 hx hZ hown (host := "") (Or.inl (hw _ (List.mem_of_getElem? (i := 25) rfl))) Via.refl e0 F_len (g := (mkF m 5 #[.val (.ref o0), .val (.ref o1), .val (.int p2), .val (.int p2)] [(.ref o0), (.int p2), (.int p2)])) rfl rfl (hb hby d9_5)
  have go2 := go1.step (C := T2.setTop (mkF m 8 #[.val (.ref o0), .val (.ref o1), .val (.int p2), .val (.int p2)] [(.int (6 : Int32)), (.int p2), (.int p2)])) (fun t k => st2 t k)
  have go4 := go2.step (C := T2.setTop (mkF m 16 #[.val (.ref o0), .val (.ref o1), .val (.int p2), .val (.int p2)] [(.int (p2 + (1 : Int32))), (.ref o1)])) (fun t k => by
    show Steps p.tables e below (T2.setTop (mkF m 8 #[.val (.ref o0), .val (.ref o1), .val (.int p2), .val (.int p2)] [(.int (6 : Int32)), (.int p2), (.int p2)])) _
    refine XS.iadd X2.here hx rfl (hb hby d9_8) rfl ?_
    show Steps p.tables e below (T2.setTop (mkF m 9 #[.val (.ref o0), .val (.ref o1), .val (.int p2), .val (.int p2)] [(.int (p2 + (6 : Int32))), (.int p2)])) _
    refine XS.icmpNo X2.here hx rfl (hb hby d9_9) rfl (tlt (own_b0 hvs.1 : p2 < (p2 + (6 : Int32)))).2.1 ?_
    show Steps p.tables e below (T2.setTop (mkF m 12 #[.val (.ref o0), .val (.ref o1), .val (.int p2), .val (.int p2)] [])) _
    refine XS.aloadN X2.here hx rfl (hb hby d9_12) rfl rfl ?_
    show Steps p.tables e below (T2.setTop (mkF m 13 #[.val (.ref o0), .val (.ref o1), .val (.int p2), .val (.int p2)] [(.ref o1)])) _
    refine XS.iloadN X2.here hx rfl (hb hby d9_13) rfl ?_
    show Steps p.tables e below (T2.setTop (mkF m 14 #[.val (.ref o0), .val (.ref o1), .val (.int p2), .val (.int p2)] [(.int p2), (.ref o1)])) _
    refine XS.iconst X2.here hx rfl (hb hby d9_14) ?_
    show Steps p.tables e below (T2.setTop (mkF m 15 #[.val (.ref o0), .val (.ref o1), .val (.int p2), .val (.int p2)] [(.int (1 : Int32)), (.int p2), (.ref o1)])) _
    refine XS.iadd X2.here hx rfl (hb hby d9_15) rfl ?_
    exact k)
  have Vo5 := V0
  obtain ⟨cl5, Ar5, qa5, Sa5, Na5, Ha5, Ga5⟩ := Vo5
  have hin5 : ¬ ((p2 + (1 : Int32)) < 0 ∨ cl5.slots.size ≤ ((p2 + (1 : Int32))).toNatClampNeg) := inb_of Sa5 (own_i1 hvs.1).1
  have hat5 : cl5.slots[((p2 + (1 : Int32))).toNatClampNeg]? = some (.long x1) := Has.at Ha5 hin5 (by rw [(own_i1 hvs.1).2]; exact hvs.2.1)
  have go7 := go4.step (C := T2.setTop (mkF m 19 #[.val (.ref o0), .val (.ref o1), .val (.int p2), .val (.int p2)] [(.int (lcmpW x1 (0 : Int64)))])) (fun t k => by
    show Steps p.tables e below (T2.setTop (mkF m 16 #[.val (.ref o0), .val (.ref o1), .val (.int p2), .val (.int p2)] [(.int (p2 + (1 : Int32))), (.ref o1)])) _
    refine X2.laload hx (j := (p2 + (1 : Int32))) (v := (.long x1)) (by rw [e2]; exact Ar5.1) (State.isArrayOf_alike hZ.alike Ar5.2.1) Ar5.2.2 hin5 hat5 (g := (mkF m 16 #[.val (.ref o0), .val (.ref o1), .val (.int p2), .val (.int p2)] [(.int (p2 + (1 : Int32))), (.ref o1)])) rfl rfl (hb hby d9_16) _ ?_
    show Steps p.tables e below (T2.setTop (mkF m 17 #[.val (.ref o0), .val (.ref o1), .val (.int p2), .val (.int p2)] [(.long x1)])) _
    refine XS.lconst X2.here hx rfl (hb hby d9_17) ?_
    show Steps p.tables e below (T2.setTop (mkF m 18 #[.val (.ref o0), .val (.ref o1), .val (.int p2), .val (.int p2)] [(.long (0 : Int64)), (.long x1)])) _
    refine XS.lcmp X2.here hx rfl (hb hby d9_18) rfl ?_
    exact k)
  by_cases hc6 : x1 < (0 : Int64)
  · skip
    have go8 := go7.step (C := T2.setTop (mkF m 57 #[.val (.ref o0), .val (.ref o1), .val (.int p2), .val (.int p2)] [(.int (0 : Int32))])) (fun t k => by
      show Steps p.tables e below (T2.setTop (mkF m 19 #[.val (.ref o0), .val (.ref o1), .val (.int p2), .val (.int p2)] [(.int (lcmpW x1 (0 : Int64)))])) _
      refine XS.ifYes X2.here hx rfl (pc0 := 19) (pc' := 56) rfl (hb hby d9_19) rfl ((if0 _ _).trans (tlt ((lw_lt _ _).mpr hc6)).1) (by decide) (by decide) ?_
      show Steps p.tables e below (T2.setTop (mkF m 56 #[.val (.ref o0), .val (.ref o1), .val (.int p2), .val (.int p2)] [])) _
      refine XS.iconst X2.here hx rfl (hb hby d9_56) ?_
      exact k)
    obtain ⟨fs, hr, hrun, hended, hW, hsame⟩ := X2.leave (v := some (.int (0 : Int32))) (fun h => by rw [Bd.returns] at h; cases h)
    refine ⟨_, _, go8 _ ?_, hrun, hended, _, _, rfl, ?_, ⟨_, rfl⟩, hW, hsame.mono (by decide) (by decide)⟩
    · exact retN X2 hx (t := .boolean) Bd.returns (by simp) (hb hby d9_57) hr
    · show Q_rm9 Z o0 o1 p2 ka vs x1 x2 x4 x5 h0 n0 _ T2.heap _
      rw [e2]
      exact ⟨by unfold own_isS; simp only [if_pos hc6], N0, rfl⟩
  · skip
    have go9 := go7.step (C := T2.setTop (mkF m 26 #[.val (.ref o0), .val (.ref o1), .val (.int p2), .val (.int p2)] [(.int (p2 + (1 : Int32))), (.ref o1)])) (fun t k => by
      show Steps p.tables e below (T2.setTop (mkF m 19 #[.val (.ref o0), .val (.ref o1), .val (.int p2), .val (.int p2)] [(.int (lcmpW x1 (0 : Int64)))])) _
      refine XS.ifNo X2.here hx rfl (hb hby d9_19) rfl ((if0 _ _).trans (flt (fun q => hc6 ((lw_lt _ _).mp q))).1) ?_
      show Steps p.tables e below (T2.setTop (mkF m 22 #[.val (.ref o0), .val (.ref o1), .val (.int p2), .val (.int p2)] [])) _
      refine XS.aloadN X2.here hx rfl (hb hby d9_22) rfl rfl ?_
      show Steps p.tables e below (T2.setTop (mkF m 23 #[.val (.ref o0), .val (.ref o1), .val (.int p2), .val (.int p2)] [(.ref o1)])) _
      refine XS.iloadN X2.here hx rfl (hb hby d9_23) rfl ?_
      show Steps p.tables e below (T2.setTop (mkF m 24 #[.val (.ref o0), .val (.ref o1), .val (.int p2), .val (.int p2)] [(.int p2), (.ref o1)])) _
      refine XS.iconst X2.here hx rfl (hb hby d9_24) ?_
      show Steps p.tables e below (T2.setTop (mkF m 25 #[.val (.ref o0), .val (.ref o1), .val (.int p2), .val (.int p2)] [(.int (1 : Int32)), (.int p2), (.ref o1)])) _
      refine XS.iadd X2.here hx rfl (hb hby d9_25) rfl ?_
      exact k)
    have Vo10 := V0
    obtain ⟨cl10, Ar10, qa10, Sa10, Na10, Ha10, Ga10⟩ := Vo10
    have hin10 : ¬ ((p2 + (1 : Int32)) < 0 ∨ cl10.slots.size ≤ ((p2 + (1 : Int32))).toNatClampNeg) := inb_of Sa10 (own_i1 hvs.1).1
    have hat10 : cl10.slots[((p2 + (1 : Int32))).toNatClampNeg]? = some (.long x1) := Has.at Ha10 hin10 (by rw [(own_i1 hvs.1).2]; exact hvs.2.1)
    have go12 := go9.step (C := T2.setTop (mkF m 31 #[.val (.ref o0), .val (.ref o1), .val (.int p2), .val (.int p2)] [(.int (lcmpW x1 (2305843009213693951 : Int64)))])) (fun t k => by
      show Steps p.tables e below (T2.setTop (mkF m 26 #[.val (.ref o0), .val (.ref o1), .val (.int p2), .val (.int p2)] [(.int (p2 + (1 : Int32))), (.ref o1)])) _
      refine X2.laload hx (j := (p2 + (1 : Int32))) (v := (.long x1)) (by rw [e2]; exact Ar10.1) (State.isArrayOf_alike hZ.alike Ar10.2.1) Ar10.2.2 hin10 hat10 (g := (mkF m 26 #[.val (.ref o0), .val (.ref o1), .val (.int p2), .val (.int p2)] [(.int (p2 + (1 : Int32))), (.ref o1)])) rfl rfl (hb hby d9_26) _ ?_
      show Steps p.tables e below (T2.setTop (mkF m 27 #[.val (.ref o0), .val (.ref o1), .val (.int p2), .val (.int p2)] [(.long x1)])) _
      refine X2.ldc2Long hx hown (mvT hZ (hw _ (List.mem_of_getElem? (i := 52) rfl))) (g := (mkF m 27 #[.val (.ref o0), .val (.ref o1), .val (.int p2), .val (.int p2)] [(.long x1)])) rfl (hb hby d9_27) _ ?_
      show Steps p.tables e below (T2.setTop (mkF m 30 #[.val (.ref o0), .val (.ref o1), .val (.int p2), .val (.int p2)] [(.long (2305843009213693951 : Int64)), (.long x1)])) _
      refine XS.lcmp X2.here hx rfl (hb hby d9_30) rfl ?_
      exact k)
    by_cases hc11 : x1 < (2305843009213693951 : Int64)
    · skip
      have go13 := go12.step (C := T2.setTop (mkF m 38 #[.val (.ref o0), .val (.ref o1), .val (.int p2), .val (.int p2)] [(.int (p2 + (2 : Int32))), (.ref o1)])) (fun t k => by
        show Steps p.tables e below (T2.setTop (mkF m 31 #[.val (.ref o0), .val (.ref o1), .val (.int p2), .val (.int p2)] [(.int (lcmpW x1 (2305843009213693951 : Int64)))])) _
        refine XS.ifNo X2.here hx rfl (hb hby d9_31) rfl ((if0 _ _).trans (tlt ((lw_lt _ _).mpr hc11)).2.1) ?_
        show Steps p.tables e below (T2.setTop (mkF m 34 #[.val (.ref o0), .val (.ref o1), .val (.int p2), .val (.int p2)] [])) _
        refine XS.aloadN X2.here hx rfl (hb hby d9_34) rfl rfl ?_
        show Steps p.tables e below (T2.setTop (mkF m 35 #[.val (.ref o0), .val (.ref o1), .val (.int p2), .val (.int p2)] [(.ref o1)])) _
        refine XS.iloadN X2.here hx rfl (hb hby d9_35) rfl ?_
        show Steps p.tables e below (T2.setTop (mkF m 36 #[.val (.ref o0), .val (.ref o1), .val (.int p2), .val (.int p2)] [(.int p2), (.ref o1)])) _
        refine XS.iconst X2.here hx rfl (hb hby d9_36) ?_
        show Steps p.tables e below (T2.setTop (mkF m 37 #[.val (.ref o0), .val (.ref o1), .val (.int p2), .val (.int p2)] [(.int (2 : Int32)), (.int p2), (.ref o1)])) _
        refine XS.iadd X2.here hx rfl (hb hby d9_37) rfl ?_
        exact k)
      have Vo14 := V0
      obtain ⟨cl14, Ar14, qa14, Sa14, Na14, Ha14, Ga14⟩ := Vo14
      have hin14 : ¬ ((p2 + (2 : Int32)) < 0 ∨ cl14.slots.size ≤ ((p2 + (2 : Int32))).toNatClampNeg) := inb_of Sa14 (own_i2 hvs.1).1
      have hat14 : cl14.slots[((p2 + (2 : Int32))).toNatClampNeg]? = some (.long x2) := Has.at Ha14 hin14 (by rw [(own_i2 hvs.1).2]; exact hvs.2.2.1)
      have go16 := go13.step (C := T2.setTop (mkF m 41 #[.val (.ref o0), .val (.ref o1), .val (.int p2), .val (.int p2)] [(.int (lcmpW x2 (0 : Int64)))])) (fun t k => by
        show Steps p.tables e below (T2.setTop (mkF m 38 #[.val (.ref o0), .val (.ref o1), .val (.int p2), .val (.int p2)] [(.int (p2 + (2 : Int32))), (.ref o1)])) _
        refine X2.laload hx (j := (p2 + (2 : Int32))) (v := (.long x2)) (by rw [e2]; exact Ar14.1) (State.isArrayOf_alike hZ.alike Ar14.2.1) Ar14.2.2 hin14 hat14 (g := (mkF m 38 #[.val (.ref o0), .val (.ref o1), .val (.int p2), .val (.int p2)] [(.int (p2 + (2 : Int32))), (.ref o1)])) rfl rfl (hb hby d9_38) _ ?_
        show Steps p.tables e below (T2.setTop (mkF m 39 #[.val (.ref o0), .val (.ref o1), .val (.int p2), .val (.int p2)] [(.long x2)])) _
        refine XS.lconst X2.here hx rfl (hb hby d9_39) ?_
        show Steps p.tables e below (T2.setTop (mkF m 40 #[.val (.ref o0), .val (.ref o1), .val (.int p2), .val (.int p2)] [(.long (0 : Int64)), (.long x2)])) _
        refine XS.lcmp X2.here hx rfl (hb hby d9_40) rfl ?_
        exact k)
      by_cases hc15 : x2 < (0 : Int64)
      · skip
        have go17 := go16.step (C := T2.setTop (mkF m 57 #[.val (.ref o0), .val (.ref o1), .val (.int p2), .val (.int p2)] [(.int (0 : Int32))])) (fun t k => by
          show Steps p.tables e below (T2.setTop (mkF m 41 #[.val (.ref o0), .val (.ref o1), .val (.int p2), .val (.int p2)] [(.int (lcmpW x2 (0 : Int64)))])) _
          refine XS.ifYes X2.here hx rfl (pc0 := 41) (pc' := 56) rfl (hb hby d9_41) rfl ((if0 _ _).trans (tlt ((lw_lt _ _).mpr hc15)).1) (by decide) (by decide) ?_
          show Steps p.tables e below (T2.setTop (mkF m 56 #[.val (.ref o0), .val (.ref o1), .val (.int p2), .val (.int p2)] [])) _
          refine XS.iconst X2.here hx rfl (hb hby d9_56) ?_
          exact k)
        obtain ⟨fs, hr, hrun, hended, hW, hsame⟩ := X2.leave (v := some (.int (0 : Int32))) (fun h => by rw [Bd.returns] at h; cases h)
        refine ⟨_, _, go17 _ ?_, hrun, hended, _, _, rfl, ?_, ⟨_, rfl⟩, hW, hsame.mono (by decide) (by decide)⟩
        · exact retN X2 hx (t := .boolean) Bd.returns (by simp) (hb hby d9_57) hr
        · show Q_rm9 Z o0 o1 p2 ka vs x1 x2 x4 x5 h0 n0 _ T2.heap _
          rw [e2]
          exact ⟨by unfold own_isS; simp only [if_neg hc6, if_pos hc11, if_pos hc15], N0, rfl⟩
      · skip
        have go18 := go16.step (C := T2.setTop (mkF m 48 #[.val (.ref o0), .val (.ref o1), .val (.int p2), .val (.int p2)] [(.int (p2 + (2 : Int32))), (.ref o1)])) (fun t k => by
          show Steps p.tables e below (T2.setTop (mkF m 41 #[.val (.ref o0), .val (.ref o1), .val (.int p2), .val (.int p2)] [(.int (lcmpW x2 (0 : Int64)))])) _
          refine XS.ifNo X2.here hx rfl (hb hby d9_41) rfl ((if0 _ _).trans (flt (fun q => hc15 ((lw_lt _ _).mp q))).1) ?_
          show Steps p.tables e below (T2.setTop (mkF m 44 #[.val (.ref o0), .val (.ref o1), .val (.int p2), .val (.int p2)] [])) _
          refine XS.aloadN X2.here hx rfl (hb hby d9_44) rfl rfl ?_
          show Steps p.tables e below (T2.setTop (mkF m 45 #[.val (.ref o0), .val (.ref o1), .val (.int p2), .val (.int p2)] [(.ref o1)])) _
          refine XS.iloadN X2.here hx rfl (hb hby d9_45) rfl ?_
          show Steps p.tables e below (T2.setTop (mkF m 46 #[.val (.ref o0), .val (.ref o1), .val (.int p2), .val (.int p2)] [(.int p2), (.ref o1)])) _
          refine XS.iconst X2.here hx rfl (hb hby d9_46) ?_
          show Steps p.tables e below (T2.setTop (mkF m 47 #[.val (.ref o0), .val (.ref o1), .val (.int p2), .val (.int p2)] [(.int (2 : Int32)), (.int p2), (.ref o1)])) _
          refine XS.iadd X2.here hx rfl (hb hby d9_47) rfl ?_
          exact k)
        have Vo19 := V0
        obtain ⟨cl19, Ar19, qa19, Sa19, Na19, Ha19, Ga19⟩ := Vo19
        have hin19 : ¬ ((p2 + (2 : Int32)) < 0 ∨ cl19.slots.size ≤ ((p2 + (2 : Int32))).toNatClampNeg) := inb_of Sa19 (own_i2 hvs.1).1
        have hat19 : cl19.slots[((p2 + (2 : Int32))).toNatClampNeg]? = some (.long x2) := Has.at Ha19 hin19 (by rw [(own_i2 hvs.1).2]; exact hvs.2.2.1)
        have go21 := go18.step (C := T2.setTop (mkF m 53 #[.val (.ref o0), .val (.ref o1), .val (.int p2), .val (.int p2)] [(.int (lcmpW x2 (2305843009213693951 : Int64)))])) (fun t k => by
          show Steps p.tables e below (T2.setTop (mkF m 48 #[.val (.ref o0), .val (.ref o1), .val (.int p2), .val (.int p2)] [(.int (p2 + (2 : Int32))), (.ref o1)])) _
          refine X2.laload hx (j := (p2 + (2 : Int32))) (v := (.long x2)) (by rw [e2]; exact Ar19.1) (State.isArrayOf_alike hZ.alike Ar19.2.1) Ar19.2.2 hin19 hat19 (g := (mkF m 48 #[.val (.ref o0), .val (.ref o1), .val (.int p2), .val (.int p2)] [(.int (p2 + (2 : Int32))), (.ref o1)])) rfl rfl (hb hby d9_48) _ ?_
          show Steps p.tables e below (T2.setTop (mkF m 49 #[.val (.ref o0), .val (.ref o1), .val (.int p2), .val (.int p2)] [(.long x2)])) _
          refine X2.ldc2Long hx hown (mvT hZ (hw _ (List.mem_of_getElem? (i := 52) rfl))) (g := (mkF m 49 #[.val (.ref o0), .val (.ref o1), .val (.int p2), .val (.int p2)] [(.long x2)])) rfl (hb hby d9_49) _ ?_
          show Steps p.tables e below (T2.setTop (mkF m 52 #[.val (.ref o0), .val (.ref o1), .val (.int p2), .val (.int p2)] [(.long (2305843009213693951 : Int64)), (.long x2)])) _
          refine XS.lcmp X2.here hx rfl (hb hby d9_52) rfl ?_
          exact k)
        by_cases hc20 : x2 < (2305843009213693951 : Int64)
        · skip
          have go22 := go21.step (C := T2.setTop (mkF m 5 #[.val (.ref o0), .val (.ref o1), .val (.int p2), .val (.int (p2 + (3 : Int32)))] [(.ref o0), (.int p2), (.int (p2 + (3 : Int32)))])) (fun t k => by
            show Steps p.tables e below (T2.setTop (mkF m 53 #[.val (.ref o0), .val (.ref o1), .val (.int p2), .val (.int p2)] [(.int (lcmpW x2 (2305843009213693951 : Int64)))])) _
            refine XS.ifYes X2.here hx rfl (pc0 := 53) (pc' := 58) rfl (hb hby d9_53) rfl ((if0 _ _).trans (tlt ((lw_lt _ _).mpr hc20)).1) (by decide) (by decide) ?_
            show Steps p.tables e below (T2.setTop (mkF m 58 #[.val (.ref o0), .val (.ref o1), .val (.int p2), .val (.int p2)] [])) _
            refine XS.iinc X2.here hx rfl (hb hby d9_58) rfl (l' := #[.val (.ref o0), .val (.ref o1), .val (.int p2), .val (.int (p2 + (3 : Int32)))]) rfl ?_
            show Steps p.tables e below (T2.setTop (mkF m 61 #[.val (.ref o0), .val (.ref o1), .val (.int p2), .val (.int (p2 + (3 : Int32)))] [])) _
            refine XS.goto X2.here hx rfl (pc0 := 61) (pc' := 2) rfl (hb hby d9_61) (by decide) (by decide) ?_
            show Steps p.tables e below (T2.setTop (mkF m 2 #[.val (.ref o0), .val (.ref o1), .val (.int p2), .val (.int (p2 + (3 : Int32)))] [])) _
            refine XS.iloadN X2.here hx rfl (hb hby d9_2) rfl ?_
            show Steps p.tables e below (T2.setTop (mkF m 3 #[.val (.ref o0), .val (.ref o1), .val (.int p2), .val (.int (p2 + (3 : Int32)))] [(.int (p2 + (3 : Int32)))])) _
            refine XS.iloadN X2.here hx rfl (hb hby d9_3) rfl ?_
            show Steps p.tables e below (T2.setTop (mkF m 4 #[.val (.ref o0), .val (.ref o1), .val (.int p2), .val (.int (p2 + (3 : Int32)))] [(.int p2), (.int (p2 + (3 : Int32)))])) _
            refine XS.aloadN X2.here hx rfl (hb hby d9_4) rfl rfl ?_
            exact k)
          obtain ⟨T23, X23, e23, st23⟩ := getF X2 hx hZ hown (host := "") (Or.inl (hw _ (List.mem_of_getElem? (i := 25) rfl))) Via.refl e2 F_len (g := (mkF m 5 #[.val (.ref o0), .val (.ref o1), .val (.int p2), .val (.int (p2 + (3 : Int32)))] [(.ref o0), (.int p2), (.int (p2 + (3 : Int32)))])) rfl rfl (hb hby d9_5)
          have go23 := go22.step (C := T23.setTop (mkF m 8 #[.val (.ref o0), .val (.ref o1), .val (.int p2), .val (.int (p2 + (3 : Int32)))] [(.int (6 : Int32)), (.int p2), (.int (p2 + (3 : Int32)))])) (fun t k => st23 t k)
          have go25 := go23.step (C := T23.setTop (mkF m 16 #[.val (.ref o0), .val (.ref o1), .val (.int p2), .val (.int (p2 + (3 : Int32)))] [(.int ((p2 + (3 : Int32)) + (1 : Int32))), (.ref o1)])) (fun t k => by
            show Steps p.tables e below (T23.setTop (mkF m 8 #[.val (.ref o0), .val (.ref o1), .val (.int p2), .val (.int (p2 + (3 : Int32)))] [(.int (6 : Int32)), (.int p2), (.int (p2 + (3 : Int32)))])) _
            refine XS.iadd X23.here hx rfl (hb hby d9_8) rfl ?_
            show Steps p.tables e below (T23.setTop (mkF m 9 #[.val (.ref o0), .val (.ref o1), .val (.int p2), .val (.int (p2 + (3 : Int32)))] [(.int (p2 + (6 : Int32))), (.int (p2 + (3 : Int32)))])) _
            refine XS.icmpNo X23.here hx rfl (hb hby d9_9) rfl (tlt (own_b1 hvs.1 : (p2 + (3 : Int32)) < (p2 + (6 : Int32)))).2.1 ?_
            show Steps p.tables e below (T23.setTop (mkF m 12 #[.val (.ref o0), .val (.ref o1), .val (.int p2), .val (.int (p2 + (3 : Int32)))] [])) _
            refine XS.aloadN X23.here hx rfl (hb hby d9_12) rfl rfl ?_
            show Steps p.tables e below (T23.setTop (mkF m 13 #[.val (.ref o0), .val (.ref o1), .val (.int p2), .val (.int (p2 + (3 : Int32)))] [(.ref o1)])) _
            refine XS.iloadN X23.here hx rfl (hb hby d9_13) rfl ?_
            show Steps p.tables e below (T23.setTop (mkF m 14 #[.val (.ref o0), .val (.ref o1), .val (.int p2), .val (.int (p2 + (3 : Int32)))] [(.int (p2 + (3 : Int32))), (.ref o1)])) _
            refine XS.iconst X23.here hx rfl (hb hby d9_14) ?_
            show Steps p.tables e below (T23.setTop (mkF m 15 #[.val (.ref o0), .val (.ref o1), .val (.int p2), .val (.int (p2 + (3 : Int32)))] [(.int (1 : Int32)), (.int (p2 + (3 : Int32))), (.ref o1)])) _
            refine XS.iadd X23.here hx rfl (hb hby d9_15) rfl ?_
            exact k)
          have Vo26 := V0
          obtain ⟨cl26, Ar26, qa26, Sa26, Na26, Ha26, Ga26⟩ := Vo26
          have hin26 : ¬ (((p2 + (3 : Int32)) + (1 : Int32)) < 0 ∨ cl26.slots.size ≤ (((p2 + (3 : Int32)) + (1 : Int32))).toNatClampNeg) := inb_of Sa26 (own_i4 hvs.1).1
          have hat26 : cl26.slots[(((p2 + (3 : Int32)) + (1 : Int32))).toNatClampNeg]? = some (.long x4) := Has.at Ha26 hin26 (by rw [(own_i4 hvs.1).2]; exact hvs.2.2.2.1)
          have go28 := go25.step (C := T23.setTop (mkF m 19 #[.val (.ref o0), .val (.ref o1), .val (.int p2), .val (.int (p2 + (3 : Int32)))] [(.int (lcmpW x4 (0 : Int64)))])) (fun t k => by
            show Steps p.tables e below (T23.setTop (mkF m 16 #[.val (.ref o0), .val (.ref o1), .val (.int p2), .val (.int (p2 + (3 : Int32)))] [(.int ((p2 + (3 : Int32)) + (1 : Int32))), (.ref o1)])) _
            refine X23.laload hx (j := ((p2 + (3 : Int32)) + (1 : Int32))) (v := (.long x4)) (by rw [e23]; exact Ar26.1) (State.isArrayOf_alike hZ.alike Ar26.2.1) Ar26.2.2 hin26 hat26 (g := (mkF m 16 #[.val (.ref o0), .val (.ref o1), .val (.int p2), .val (.int (p2 + (3 : Int32)))] [(.int ((p2 + (3 : Int32)) + (1 : Int32))), (.ref o1)])) rfl rfl (hb hby d9_16) _ ?_
            show Steps p.tables e below (T23.setTop (mkF m 17 #[.val (.ref o0), .val (.ref o1), .val (.int p2), .val (.int (p2 + (3 : Int32)))] [(.long x4)])) _
            refine XS.lconst X23.here hx rfl (hb hby d9_17) ?_
            show Steps p.tables e below (T23.setTop (mkF m 18 #[.val (.ref o0), .val (.ref o1), .val (.int p2), .val (.int (p2 + (3 : Int32)))] [(.long (0 : Int64)), (.long x4)])) _
            refine XS.lcmp X23.here hx rfl (hb hby d9_18) rfl ?_
            exact k)
          by_cases hc27 : x4 < (0 : Int64)
          · skip
            have go29 := go28.step (C := T23.setTop (mkF m 57 #[.val (.ref o0), .val (.ref o1), .val (.int p2), .val (.int (p2 + (3 : Int32)))] [(.int (0 : Int32))])) (fun t k => by
              show Steps p.tables e below (T23.setTop (mkF m 19 #[.val (.ref o0), .val (.ref o1), .val (.int p2), .val (.int (p2 + (3 : Int32)))] [(.int (lcmpW x4 (0 : Int64)))])) _
              refine XS.ifYes X23.here hx rfl (pc0 := 19) (pc' := 56) rfl (hb hby d9_19) rfl ((if0 _ _).trans (tlt ((lw_lt _ _).mpr hc27)).1) (by decide) (by decide) ?_
              show Steps p.tables e below (T23.setTop (mkF m 56 #[.val (.ref o0), .val (.ref o1), .val (.int p2), .val (.int (p2 + (3 : Int32)))] [])) _
              refine XS.iconst X23.here hx rfl (hb hby d9_56) ?_
              exact k)
            obtain ⟨fs, hr, hrun, hended, hW, hsame⟩ := X23.leave (v := some (.int (0 : Int32))) (fun h => by rw [Bd.returns] at h; cases h)
            refine ⟨_, _, go29 _ ?_, hrun, hended, _, _, rfl, ?_, ⟨_, rfl⟩, hW, hsame.mono (by decide) (by decide)⟩
            · exact retN X23 hx (t := .boolean) Bd.returns (by simp) (hb hby d9_57) hr
            · show Q_rm9 Z o0 o1 p2 ka vs x1 x2 x4 x5 h0 n0 _ T23.heap _
              rw [e23]
              exact ⟨by unfold own_isS; simp only [if_neg hc6, if_pos hc11, if_neg hc15, if_pos hc20, if_pos hc27], N0, rfl⟩
          · skip
            have go30 := go28.step (C := T23.setTop (mkF m 26 #[.val (.ref o0), .val (.ref o1), .val (.int p2), .val (.int (p2 + (3 : Int32)))] [(.int ((p2 + (3 : Int32)) + (1 : Int32))), (.ref o1)])) (fun t k => by
              show Steps p.tables e below (T23.setTop (mkF m 19 #[.val (.ref o0), .val (.ref o1), .val (.int p2), .val (.int (p2 + (3 : Int32)))] [(.int (lcmpW x4 (0 : Int64)))])) _
              refine XS.ifNo X23.here hx rfl (hb hby d9_19) rfl ((if0 _ _).trans (flt (fun q => hc27 ((lw_lt _ _).mp q))).1) ?_
              show Steps p.tables e below (T23.setTop (mkF m 22 #[.val (.ref o0), .val (.ref o1), .val (.int p2), .val (.int (p2 + (3 : Int32)))] [])) _
              refine XS.aloadN X23.here hx rfl (hb hby d9_22) rfl rfl ?_
              show Steps p.tables e below (T23.setTop (mkF m 23 #[.val (.ref o0), .val (.ref o1), .val (.int p2), .val (.int (p2 + (3 : Int32)))] [(.ref o1)])) _
              refine XS.iloadN X23.here hx rfl (hb hby d9_23) rfl ?_
              show Steps p.tables e below (T23.setTop (mkF m 24 #[.val (.ref o0), .val (.ref o1), .val (.int p2), .val (.int (p2 + (3 : Int32)))] [(.int (p2 + (3 : Int32))), (.ref o1)])) _
              refine XS.iconst X23.here hx rfl (hb hby d9_24) ?_
              show Steps p.tables e below (T23.setTop (mkF m 25 #[.val (.ref o0), .val (.ref o1), .val (.int p2), .val (.int (p2 + (3 : Int32)))] [(.int (1 : Int32)), (.int (p2 + (3 : Int32))), (.ref o1)])) _
              refine XS.iadd X23.here hx rfl (hb hby d9_25) rfl ?_
              exact k)
            have Vo31 := V0
            obtain ⟨cl31, Ar31, qa31, Sa31, Na31, Ha31, Ga31⟩ := Vo31
            have hin31 : ¬ (((p2 + (3 : Int32)) + (1 : Int32)) < 0 ∨ cl31.slots.size ≤ (((p2 + (3 : Int32)) + (1 : Int32))).toNatClampNeg) := inb_of Sa31 (own_i4 hvs.1).1
            have hat31 : cl31.slots[(((p2 + (3 : Int32)) + (1 : Int32))).toNatClampNeg]? = some (.long x4) := Has.at Ha31 hin31 (by rw [(own_i4 hvs.1).2]; exact hvs.2.2.2.1)
            have go33 := go30.step (C := T23.setTop (mkF m 31 #[.val (.ref o0), .val (.ref o1), .val (.int p2), .val (.int (p2 + (3 : Int32)))] [(.int (lcmpW x4 (2305843009213693951 : Int64)))])) (fun t k => by
              show Steps p.tables e below (T23.setTop (mkF m 26 #[.val (.ref o0), .val (.ref o1), .val (.int p2), .val (.int (p2 + (3 : Int32)))] [(.int ((p2 + (3 : Int32)) + (1 : Int32))), (.ref o1)])) _
              refine X23.laload hx (j := ((p2 + (3 : Int32)) + (1 : Int32))) (v := (.long x4)) (by rw [e23]; exact Ar31.1) (State.isArrayOf_alike hZ.alike Ar31.2.1) Ar31.2.2 hin31 hat31 (g := (mkF m 26 #[.val (.ref o0), .val (.ref o1), .val (.int p2), .val (.int (p2 + (3 : Int32)))] [(.int ((p2 + (3 : Int32)) + (1 : Int32))), (.ref o1)])) rfl rfl (hb hby d9_26) _ ?_
              show Steps p.tables e below (T23.setTop (mkF m 27 #[.val (.ref o0), .val (.ref o1), .val (.int p2), .val (.int (p2 + (3 : Int32)))] [(.long x4)])) _
              refine X23.ldc2Long hx hown (mvT hZ (hw _ (List.mem_of_getElem? (i := 52) rfl))) (g := (mkF m 27 #[.val (.ref o0), .val (.ref o1), .val (.int p2), .val (.int (p2 + (3 : Int32)))] [(.long x4)])) rfl (hb hby d9_27) _ ?_
              show Steps p.tables e below (T23.setTop (mkF m 30 #[.val (.ref o0), .val (.ref o1), .val (.int p2), .val (.int (p2 + (3 : Int32)))] [(.long (2305843009213693951 : Int64)), (.long x4)])) _
              refine XS.lcmp X23.here hx rfl (hb hby d9_30) rfl ?_
              exact k)
            by_cases hc32 : x4 < (2305843009213693951 : Int64)
            · skip
              have go34 := go33.step (C := T23.setTop (mkF m 38 #[.val (.ref o0), .val (.ref o1), .val (.int p2), .val (.int (p2 + (3 : Int32)))] [(.int ((p2 + (3 : Int32)) + (2 : Int32))), (.ref o1)])) (fun t k => by
                show Steps p.tables e below (T23.setTop (mkF m 31 #[.val (.ref o0), .val (.ref o1), .val (.int p2), .val (.int (p2 + (3 : Int32)))] [(.int (lcmpW x4 (2305843009213693951 : Int64)))])) _
                refine XS.ifNo X23.here hx rfl (hb hby d9_31) rfl ((if0 _ _).trans (tlt ((lw_lt _ _).mpr hc32)).2.1) ?_
                show Steps p.tables e below (T23.setTop (mkF m 34 #[.val (.ref o0), .val (.ref o1), .val (.int p2), .val (.int (p2 + (3 : Int32)))] [])) _
                refine XS.aloadN X23.here hx rfl (hb hby d9_34) rfl rfl ?_
                show Steps p.tables e below (T23.setTop (mkF m 35 #[.val (.ref o0), .val (.ref o1), .val (.int p2), .val (.int (p2 + (3 : Int32)))] [(.ref o1)])) _
                refine XS.iloadN X23.here hx rfl (hb hby d9_35) rfl ?_
                show Steps p.tables e below (T23.setTop (mkF m 36 #[.val (.ref o0), .val (.ref o1), .val (.int p2), .val (.int (p2 + (3 : Int32)))] [(.int (p2 + (3 : Int32))), (.ref o1)])) _
                refine XS.iconst X23.here hx rfl (hb hby d9_36) ?_
                show Steps p.tables e below (T23.setTop (mkF m 37 #[.val (.ref o0), .val (.ref o1), .val (.int p2), .val (.int (p2 + (3 : Int32)))] [(.int (2 : Int32)), (.int (p2 + (3 : Int32))), (.ref o1)])) _
                refine XS.iadd X23.here hx rfl (hb hby d9_37) rfl ?_
                exact k)
              have Vo35 := V0
              obtain ⟨cl35, Ar35, qa35, Sa35, Na35, Ha35, Ga35⟩ := Vo35
              have hin35 : ¬ (((p2 + (3 : Int32)) + (2 : Int32)) < 0 ∨ cl35.slots.size ≤ (((p2 + (3 : Int32)) + (2 : Int32))).toNatClampNeg) := inb_of Sa35 (own_i5 hvs.1).1
              have hat35 : cl35.slots[(((p2 + (3 : Int32)) + (2 : Int32))).toNatClampNeg]? = some (.long x5) := Has.at Ha35 hin35 (by rw [(own_i5 hvs.1).2]; exact hvs.2.2.2.2)
              have go37 := go34.step (C := T23.setTop (mkF m 41 #[.val (.ref o0), .val (.ref o1), .val (.int p2), .val (.int (p2 + (3 : Int32)))] [(.int (lcmpW x5 (0 : Int64)))])) (fun t k => by
                show Steps p.tables e below (T23.setTop (mkF m 38 #[.val (.ref o0), .val (.ref o1), .val (.int p2), .val (.int (p2 + (3 : Int32)))] [(.int ((p2 + (3 : Int32)) + (2 : Int32))), (.ref o1)])) _
                refine X23.laload hx (j := ((p2 + (3 : Int32)) + (2 : Int32))) (v := (.long x5)) (by rw [e23]; exact Ar35.1) (State.isArrayOf_alike hZ.alike Ar35.2.1) Ar35.2.2 hin35 hat35 (g := (mkF m 38 #[.val (.ref o0), .val (.ref o1), .val (.int p2), .val (.int (p2 + (3 : Int32)))] [(.int ((p2 + (3 : Int32)) + (2 : Int32))), (.ref o1)])) rfl rfl (hb hby d9_38) _ ?_
                show Steps p.tables e below (T23.setTop (mkF m 39 #[.val (.ref o0), .val (.ref o1), .val (.int p2), .val (.int (p2 + (3 : Int32)))] [(.long x5)])) _
                refine XS.lconst X23.here hx rfl (hb hby d9_39) ?_
                show Steps p.tables e below (T23.setTop (mkF m 40 #[.val (.ref o0), .val (.ref o1), .val (.int p2), .val (.int (p2 + (3 : Int32)))] [(.long (0 : Int64)), (.long x5)])) _
                refine XS.lcmp X23.here hx rfl (hb hby d9_40) rfl ?_
                exact k)
              by_cases hc36 : x5 < (0 : Int64)
              · skip
                have go38 := go37.step (C := T23.setTop (mkF m 57 #[.val (.ref o0), .val (.ref o1), .val (.int p2), .val (.int (p2 + (3 : Int32)))] [(.int (0 : Int32))])) (fun t k => by
                  show Steps p.tables e below (T23.setTop (mkF m 41 #[.val (.ref o0), .val (.ref o1), .val (.int p2), .val (.int (p2 + (3 : Int32)))] [(.int (lcmpW x5 (0 : Int64)))])) _
                  refine XS.ifYes X23.here hx rfl (pc0 := 41) (pc' := 56) rfl (hb hby d9_41) rfl ((if0 _ _).trans (tlt ((lw_lt _ _).mpr hc36)).1) (by decide) (by decide) ?_
                  show Steps p.tables e below (T23.setTop (mkF m 56 #[.val (.ref o0), .val (.ref o1), .val (.int p2), .val (.int (p2 + (3 : Int32)))] [])) _
                  refine XS.iconst X23.here hx rfl (hb hby d9_56) ?_
                  exact k)
                obtain ⟨fs, hr, hrun, hended, hW, hsame⟩ := X23.leave (v := some (.int (0 : Int32))) (fun h => by rw [Bd.returns] at h; cases h)
                refine ⟨_, _, go38 _ ?_, hrun, hended, _, _, rfl, ?_, ⟨_, rfl⟩, hW, hsame.mono (by decide) (by decide)⟩
                · exact retN X23 hx (t := .boolean) Bd.returns (by simp) (hb hby d9_57) hr
                · show Q_rm9 Z o0 o1 p2 ka vs x1 x2 x4 x5 h0 n0 _ T23.heap _
                  rw [e23]
                  exact ⟨by unfold own_isS; simp only [if_neg hc6, if_pos hc11, if_neg hc15, if_pos hc20, if_neg hc27, if_pos hc32, if_pos hc36], N0, rfl⟩
              · skip
                have go39 := go37.step (C := T23.setTop (mkF m 48 #[.val (.ref o0), .val (.ref o1), .val (.int p2), .val (.int (p2 + (3 : Int32)))] [(.int ((p2 + (3 : Int32)) + (2 : Int32))), (.ref o1)])) (fun t k => by
                  show Steps p.tables e below (T23.setTop (mkF m 41 #[.val (.ref o0), .val (.ref o1), .val (.int p2), .val (.int (p2 + (3 : Int32)))] [(.int (lcmpW x5 (0 : Int64)))])) _
                  refine XS.ifNo X23.here hx rfl (hb hby d9_41) rfl ((if0 _ _).trans (flt (fun q => hc36 ((lw_lt _ _).mp q))).1) ?_
                  show Steps p.tables e below (T23.setTop (mkF m 44 #[.val (.ref o0), .val (.ref o1), .val (.int p2), .val (.int (p2 + (3 : Int32)))] [])) _
                  refine XS.aloadN X23.here hx rfl (hb hby d9_44) rfl rfl ?_
                  show Steps p.tables e below (T23.setTop (mkF m 45 #[.val (.ref o0), .val (.ref o1), .val (.int p2), .val (.int (p2 + (3 : Int32)))] [(.ref o1)])) _
                  refine XS.iloadN X23.here hx rfl (hb hby d9_45) rfl ?_
                  show Steps p.tables e below (T23.setTop (mkF m 46 #[.val (.ref o0), .val (.ref o1), .val (.int p2), .val (.int (p2 + (3 : Int32)))] [(.int (p2 + (3 : Int32))), (.ref o1)])) _
                  refine XS.iconst X23.here hx rfl (hb hby d9_46) ?_
                  show Steps p.tables e below (T23.setTop (mkF m 47 #[.val (.ref o0), .val (.ref o1), .val (.int p2), .val (.int (p2 + (3 : Int32)))] [(.int (2 : Int32)), (.int (p2 + (3 : Int32))), (.ref o1)])) _
                  refine XS.iadd X23.here hx rfl (hb hby d9_47) rfl ?_
                  exact k)
                have Vo40 := V0
                obtain ⟨cl40, Ar40, qa40, Sa40, Na40, Ha40, Ga40⟩ := Vo40
                have hin40 : ¬ (((p2 + (3 : Int32)) + (2 : Int32)) < 0 ∨ cl40.slots.size ≤ (((p2 + (3 : Int32)) + (2 : Int32))).toNatClampNeg) := inb_of Sa40 (own_i5 hvs.1).1
                have hat40 : cl40.slots[(((p2 + (3 : Int32)) + (2 : Int32))).toNatClampNeg]? = some (.long x5) := Has.at Ha40 hin40 (by rw [(own_i5 hvs.1).2]; exact hvs.2.2.2.2)
                have go42 := go39.step (C := T23.setTop (mkF m 53 #[.val (.ref o0), .val (.ref o1), .val (.int p2), .val (.int (p2 + (3 : Int32)))] [(.int (lcmpW x5 (2305843009213693951 : Int64)))])) (fun t k => by
                  show Steps p.tables e below (T23.setTop (mkF m 48 #[.val (.ref o0), .val (.ref o1), .val (.int p2), .val (.int (p2 + (3 : Int32)))] [(.int ((p2 + (3 : Int32)) + (2 : Int32))), (.ref o1)])) _
                  refine X23.laload hx (j := ((p2 + (3 : Int32)) + (2 : Int32))) (v := (.long x5)) (by rw [e23]; exact Ar40.1) (State.isArrayOf_alike hZ.alike Ar40.2.1) Ar40.2.2 hin40 hat40 (g := (mkF m 48 #[.val (.ref o0), .val (.ref o1), .val (.int p2), .val (.int (p2 + (3 : Int32)))] [(.int ((p2 + (3 : Int32)) + (2 : Int32))), (.ref o1)])) rfl rfl (hb hby d9_48) _ ?_
                  show Steps p.tables e below (T23.setTop (mkF m 49 #[.val (.ref o0), .val (.ref o1), .val (.int p2), .val (.int (p2 + (3 : Int32)))] [(.long x5)])) _
                  refine X23.ldc2Long hx hown (mvT hZ (hw _ (List.mem_of_getElem? (i := 52) rfl))) (g := (mkF m 49 #[.val (.ref o0), .val (.ref o1), .val (.int p2), .val (.int (p2 + (3 : Int32)))] [(.long x5)])) rfl (hb hby d9_49) _ ?_
                  show Steps p.tables e below (T23.setTop (mkF m 52 #[.val (.ref o0), .val (.ref o1), .val (.int p2), .val (.int (p2 + (3 : Int32)))] [(.long (2305843009213693951 : Int64)), (.long x5)])) _
                  refine XS.lcmp X23.here hx rfl (hb hby d9_52) rfl ?_
                  exact k)
                by_cases hc41 : x5 < (2305843009213693951 : Int64)
                · skip
                  have go43 := go42.step (C := T23.setTop (mkF m 5 #[.val (.ref o0), .val (.ref o1), .val (.int p2), .val (.int ((p2 + (3 : Int32)) + (3 : Int32)))] [(.ref o0), (.int p2), (.int ((p2 + (3 : Int32)) + (3 : Int32)))])) (fun t k => by
                    show Steps p.tables e below (T23.setTop (mkF m 53 #[.val (.ref o0), .val (.ref o1), .val (.int p2), .val (.int (p2 + (3 : Int32)))] [(.int (lcmpW x5 (2305843009213693951 : Int64)))])) _
                    refine XS.ifYes X23.here hx rfl (pc0 := 53) (pc' := 58) rfl (hb hby d9_53) rfl ((if0 _ _).trans (tlt ((lw_lt _ _).mpr hc41)).1) (by decide) (by decide) ?_
                    show Steps p.tables e below (T23.setTop (mkF m 58 #[.val (.ref o0), .val (.ref o1), .val (.int p2), .val (.int (p2 + (3 : Int32)))] [])) _
                    refine XS.iinc X23.here hx rfl (hb hby d9_58) rfl (l' := #[.val (.ref o0), .val (.ref o1), .val (.int p2), .val (.int ((p2 + (3 : Int32)) + (3 : Int32)))]) rfl ?_
                    show Steps p.tables e below (T23.setTop (mkF m 61 #[.val (.ref o0), .val (.ref o1), .val (.int p2), .val (.int ((p2 + (3 : Int32)) + (3 : Int32)))] [])) _
                    refine XS.goto X23.here hx rfl (pc0 := 61) (pc' := 2) rfl (hb hby d9_61) (by decide) (by decide) ?_
                    show Steps p.tables e below (T23.setTop (mkF m 2 #[.val (.ref o0), .val (.ref o1), .val (.int p2), .val (.int ((p2 + (3 : Int32)) + (3 : Int32)))] [])) _
                    refine XS.iloadN X23.here hx rfl (hb hby d9_2) rfl ?_
                    show Steps p.tables e below (T23.setTop (mkF m 3 #[.val (.ref o0), .val (.ref o1), .val (.int p2), .val (.int ((p2 + (3 : Int32)) + (3 : Int32)))] [(.int ((p2 + (3 : Int32)) + (3 : Int32)))])) _
                    refine XS.iloadN X23.here hx rfl (hb hby d9_3) rfl ?_
                    show Steps p.tables e below (T23.setTop (mkF m 4 #[.val (.ref o0), .val (.ref o1), .val (.int p2), .val (.int ((p2 + (3 : Int32)) + (3 : Int32)))] [(.int p2), (.int ((p2 + (3 : Int32)) + (3 : Int32)))])) _
                    refine XS.aloadN X23.here hx rfl (hb hby d9_4) rfl rfl ?_
                    exact k)
                  obtain ⟨T44, X44, e44, st44⟩ := getF X23 hx hZ hown (host := "") (Or.inl (hw _ (List.mem_of_getElem? (i := 25) rfl))) Via.refl e23 F_len (g := (mkF m 5 #[.val (.ref o0), .val (.ref o1), .val (.int p2), .val (.int ((p2 + (3 : Int32)) + (3 : Int32)))] [(.ref o0), (.int p2), (.int ((p2 + (3 : Int32)) + (3 : Int32)))])) rfl rfl (hb hby d9_5)
                  have go44 := go43.step (C := T44.setTop (mkF m 8 #[.val (.ref o0), .val (.ref o1), .val (.int p2), .val (.int ((p2 + (3 : Int32)) + (3 : Int32)))] [(.int (6 : Int32)), (.int p2), (.int ((p2 + (3 : Int32)) + (3 : Int32)))])) (fun t k => st44 t k)
                  have go46 := go44.step (C := T44.setTop (mkF m 65 #[.val (.ref o0), .val (.ref o1), .val (.int p2), .val (.int ((p2 + (3 : Int32)) + (3 : Int32)))] [(.int (1 : Int32))])) (fun t k => by
                    show Steps p.tables e below (T44.setTop (mkF m 8 #[.val (.ref o0), .val (.ref o1), .val (.int p2), .val (.int ((p2 + (3 : Int32)) + (3 : Int32)))] [(.int (6 : Int32)), (.int p2), (.int ((p2 + (3 : Int32)) + (3 : Int32)))])) _
                    refine XS.iadd X44.here hx rfl (hb hby d9_8) rfl ?_
                    show Steps p.tables e below (T44.setTop (mkF m 9 #[.val (.ref o0), .val (.ref o1), .val (.int p2), .val (.int ((p2 + (3 : Int32)) + (3 : Int32)))] [(.int (p2 + (6 : Int32))), (.int ((p2 + (3 : Int32)) + (3 : Int32)))])) _
                    refine XS.icmpYes X44.here hx rfl (pc0 := 9) (pc' := 64) rfl (hb hby d9_9) rfl (flt (own_b2 hvs.1 : ¬ (((p2 + (3 : Int32)) + (3 : Int32)) < (p2 + (6 : Int32))))).2.1 (by decide) (by decide) ?_
                    show Steps p.tables e below (T44.setTop (mkF m 64 #[.val (.ref o0), .val (.ref o1), .val (.int p2), .val (.int ((p2 + (3 : Int32)) + (3 : Int32)))] [])) _
                    refine XS.iconst X44.here hx rfl (hb hby d9_64) ?_
                    exact k)
                  obtain ⟨fs, hr, hrun, hended, hW, hsame⟩ := X44.leave (v := some (.int (1 : Int32))) (fun h => by rw [Bd.returns] at h; cases h)
                  refine ⟨_, _, go46 _ ?_, hrun, hended, _, _, rfl, ?_, ⟨_, rfl⟩, hW, hsame.mono (by decide) (by decide)⟩
                  · exact retN X44 hx (t := .boolean) Bd.returns (by simp) (hb hby d9_65) hr
                  · show Q_rm9 Z o0 o1 p2 ka vs x1 x2 x4 x5 h0 n0 _ T44.heap _
                    rw [e44]
                    exact ⟨by unfold own_isS; simp only [if_neg hc6, if_pos hc11, if_neg hc15, if_pos hc20, if_neg hc27, if_pos hc32, if_neg hc36, if_pos hc41], N0, rfl⟩
                · skip
                  have go47 := go42.step (C := T23.setTop (mkF m 57 #[.val (.ref o0), .val (.ref o1), .val (.int p2), .val (.int (p2 + (3 : Int32)))] [(.int (0 : Int32))])) (fun t k => by
                    show Steps p.tables e below (T23.setTop (mkF m 53 #[.val (.ref o0), .val (.ref o1), .val (.int p2), .val (.int (p2 + (3 : Int32)))] [(.int (lcmpW x5 (2305843009213693951 : Int64)))])) _
                    refine XS.ifNo X23.here hx rfl (hb hby d9_53) rfl ((if0 _ _).trans (flt (fun q => hc41 ((lw_lt _ _).mp q))).1) ?_
                    show Steps p.tables e below (T23.setTop (mkF m 56 #[.val (.ref o0), .val (.ref o1), .val (.int p2), .val (.int (p2 + (3 : Int32)))] [])) _
                    refine XS.iconst X23.here hx rfl (hb hby d9_56) ?_
                    exact k)
                  obtain ⟨fs, hr, hrun, hended, hW, hsame⟩ := X23.leave (v := some (.int (0 : Int32))) (fun h => by rw [Bd.returns] at h; cases h)
                  refine ⟨_, _, go47 _ ?_, hrun, hended, _, _, rfl, ?_, ⟨_, rfl⟩, hW, hsame.mono (by decide) (by decide)⟩
                  · exact retN X23 hx (t := .boolean) Bd.returns (by simp) (hb hby d9_57) hr
                  · show Q_rm9 Z o0 o1 p2 ka vs x1 x2 x4 x5 h0 n0 _ T23.heap _
                    rw [e23]
                    exact ⟨by unfold own_isS; simp only [if_neg hc6, if_pos hc11, if_neg hc15, if_pos hc20, if_neg hc27, if_pos hc32, if_neg hc36, if_neg hc41], N0, rfl⟩
            · skip
              have go48 := go33.step (C := T23.setTop (mkF m 57 #[.val (.ref o0), .val (.ref o1), .val (.int p2), .val (.int (p2 + (3 : Int32)))] [(.int (0 : Int32))])) (fun t k => by
                show Steps p.tables e below (T23.setTop (mkF m 31 #[.val (.ref o0), .val (.ref o1), .val (.int p2), .val (.int (p2 + (3 : Int32)))] [(.int (lcmpW x4 (2305843009213693951 : Int64)))])) _
                refine XS.ifYes X23.here hx rfl (pc0 := 31) (pc' := 56) rfl (hb hby d9_31) rfl ((if0 _ _).trans (flt (fun q => hc32 ((lw_lt _ _).mp q))).2.1) (by decide) (by decide) ?_
                show Steps p.tables e below (T23.setTop (mkF m 56 #[.val (.ref o0), .val (.ref o1), .val (.int p2), .val (.int (p2 + (3 : Int32)))] [])) _
                refine XS.iconst X23.here hx rfl (hb hby d9_56) ?_
                exact k)
              obtain ⟨fs, hr, hrun, hended, hW, hsame⟩ := X23.leave (v := some (.int (0 : Int32))) (fun h => by rw [Bd.returns] at h; cases h)
              refine ⟨_, _, go48 _ ?_, hrun, hended, _, _, rfl, ?_, ⟨_, rfl⟩, hW, hsame.mono (by decide) (by decide)⟩
              · exact retN X23 hx (t := .boolean) Bd.returns (by simp) (hb hby d9_57) hr
              · show Q_rm9 Z o0 o1 p2 ka vs x1 x2 x4 x5 h0 n0 _ T23.heap _
                rw [e23]
                exact ⟨by unfold own_isS; simp only [if_neg hc6, if_pos hc11, if_neg hc15, if_pos hc20, if_neg hc27, if_neg hc32], N0, rfl⟩
        · skip
          have go49 := go21.step (C := T2.setTop (mkF m 57 #[.val (.ref o0), .val (.ref o1), .val (.int p2), .val (.int p2)] [(.int (0 : Int32))])) (fun t k => by
            show Steps p.tables e below (T2.setTop (mkF m 53 #[.val (.ref o0), .val (.ref o1), .val (.int p2), .val (.int p2)] [(.int (lcmpW x2 (2305843009213693951 : Int64)))])) _
            refine XS.ifNo X2.here hx rfl (hb hby d9_53) rfl ((if0 _ _).trans (flt (fun q => hc20 ((lw_lt _ _).mp q))).1) ?_
            show Steps p.tables e below (T2.setTop (mkF m 56 #[.val (.ref o0), .val (.ref o1), .val (.int p2), .val (.int p2)] [])) _
            refine XS.iconst X2.here hx rfl (hb hby d9_56) ?_
            exact k)
          obtain ⟨fs, hr, hrun, hended, hW, hsame⟩ := X2.leave (v := some (.int (0 : Int32))) (fun h => by rw [Bd.returns] at h; cases h)
          refine ⟨_, _, go49 _ ?_, hrun, hended, _, _, rfl, ?_, ⟨_, rfl⟩, hW, hsame.mono (by decide) (by decide)⟩
          · exact retN X2 hx (t := .boolean) Bd.returns (by simp) (hb hby d9_57) hr
          · show Q_rm9 Z o0 o1 p2 ka vs x1 x2 x4 x5 h0 n0 _ T2.heap _
            rw [e2]
            exact ⟨by unfold own_isS; simp only [if_neg hc6, if_pos hc11, if_neg hc15, if_neg hc20], N0, rfl⟩
    · skip
      have go50 := go12.step (C := T2.setTop (mkF m 57 #[.val (.ref o0), .val (.ref o1), .val (.int p2), .val (.int p2)] [(.int (0 : Int32))])) (fun t k => by
        show Steps p.tables e below (T2.setTop (mkF m 31 #[.val (.ref o0), .val (.ref o1), .val (.int p2), .val (.int p2)] [(.int (lcmpW x1 (2305843009213693951 : Int64)))])) _
        refine XS.ifYes X2.here hx rfl (pc0 := 31) (pc' := 56) rfl (hb hby d9_31) rfl ((if0 _ _).trans (flt (fun q => hc11 ((lw_lt _ _).mp q))).2.1) (by decide) (by decide) ?_
        show Steps p.tables e below (T2.setTop (mkF m 56 #[.val (.ref o0), .val (.ref o1), .val (.int p2), .val (.int p2)] [])) _
        refine XS.iconst X2.here hx rfl (hb hby d9_56) ?_
        exact k)
      obtain ⟨fs, hr, hrun, hended, hW, hsame⟩ := X2.leave (v := some (.int (0 : Int32))) (fun h => by rw [Bd.returns] at h; cases h)
      refine ⟨_, _, go50 _ ?_, hrun, hended, _, _, rfl, ?_, ⟨_, rfl⟩, hW, hsame.mono (by decide) (by decide)⟩
      · exact retN X2 hx (t := .boolean) Bd.returns (by simp) (hb hby d9_57) hr
      · show Q_rm9 Z o0 o1 p2 ka vs x1 x2 x4 x5 h0 n0 _ T2.heap _
        rw [e2]
        exact ⟨by unfold own_isS; simp only [if_neg hc6, if_neg hc11], N0, rfl⟩
theorem own_r1 (x : Int64) : own_res x = (0 : Int32) ↔ (x < (0 : Int64) ∨ ¬ x < (2305843009213693951 : Int64)) := by
  unfold own_res
  by_cases h1 : x < (0 : Int64)
  · rw [if_pos h1]; simp [h1]
  · rw [if_neg h1]
    by_cases h2 : x < (2305843009213693951 : Int64)
    · rw [if_pos h2]; simp [h1, h2]
    · rw [if_neg h2]; simp [h1, h2]
theorem own_eqv (x1 x2 x4 x5 : Int64) : own_isS x1 x2 x4 x5 = if own_res x1 = (0 : Int32) then (0 : Int32) else if own_res x2 = (0 : Int32) then (0 : Int32) else if own_res x4 = (0 : Int32) then (0 : Int32) else if own_res x5 = (0 : Int32) then (0 : Int32) else (1 : Int32) := by
  unfold own_isS
  simp only [own_r1]
  by_cases a1 : x1 < (0 : Int64) <;> by_cases a2 : x1 < (2305843009213693951 : Int64) <;> by_cases b1 : x2 < (0 : Int64) <;> by_cases b2 : x2 < (2305843009213693951 : Int64) <;> by_cases c1 : x4 < (0 : Int64) <;> by_cases c2 : x4 < (2305843009213693951 : Int64) <;> by_cases d1 : x5 < (0 : Int64) <;> by_cases d2 : x5 < (2305843009213693951 : Int64) <;> simp [a1, a2, b1, b2, c1, c2, d1, d2]
theorem own_cells {p : Int32} (h : own_at4 p) (x a b c d : Int64) : own_Cells p (List.set (List.set (List.set (List.set [(.long x), (.long x), (.long x), (.long x), (.long x), (.long x), (.long x), (.long x), (.long x)] (p.toNatClampNeg + 1) (.long a)) (p.toNatClampNeg + 2) (.long b)) (p.toNatClampNeg + 4) (.long c)) (p.toNatClampNeg + 5) (.long d)) a b c d := by
  refine ⟨h, ?_⟩
  rcases h with rfl | rfl | rfl | rfl <;> exact ⟨rfl, rfl, rfl, rfl⟩
theorem pn_rm0 : plainName "sketchspan/sketch/PairSamplerIsStatePinLaw" = true := by first | (simp [plainName, overriddenIn]; done) | decide +kernel
theorem pd_rm0_0 : parseMethodDescriptor "(IJI)V" = some ⟨[.int, .long, .int], none⟩ := by decide +kernel
theorem pd_rm0_1 : parseMethodDescriptor "(J)Z" = some ⟨[.long], some .boolean⟩ := by decide +kernel
theorem pd_rm0_2 : parseMethodDescriptor "([JI)Z" = some ⟨[(.array .long), .int], some .boolean⟩ := by decide +kernel
theorem ef_rm0 (m : MethodId) (q0 : Int64) (q1 : Int64) (q2 : Int64) (q3 : Int64) (q4 : Int64) (p5 : Int32) : entryFrame m #[(.long q0), (.long q1), (.long q2), (.long q3), (.long q4), (.int p5)] maxLocals = mkF m 0 #[.val (.long q0), .second, .val (.long q1), .second, .val (.long q2), .second, .val (.long q3), .second, .val (.long q4), .second, .val (.int p5), .unset, .unset, .unset, .unset] [] := by first | (simp [entryFrame, mkF, argsToLocals, Value.category, maxLocals]; done) | rfl
def Q_rm0 (Z : State) (q0 : Int64) (q1 : Int64) (q2 : Int64) (q3 : Int64) (q4 : Int64) (p5 : Int32) (h0 : Heap) (n0 : Nat) (v : Option Value) (h : Heap) (L : List Loc) : Prop := v = some (.int (1 : Int32)) ∧ Fr n0 L
set_option maxRecDepth 65536 in
set_option maxHeartbeats 40000000 in
theorem rm0 (l : Launch) (Z : State) (a0 : Array Value) (hw : ∀ d ∈ tables_1, d.before a0 Z = true) (ws : List Jvm.Cond) (q0 : Int64) (q1 : Int64) (q2 : Int64) (q3 : Int64) (q4 : Int64) (p5 : Int32) (h0 : Heap) (n0 : Nat) (Z0 : n0 ≤ h0.size) :
    MetFree l x (head1 (Jvm.Cond.code x code maxLocals ret :: ws) room_1) (fun a U => a = #[(.long q0), (.long q1), (.long q2), (.long q3), (.long q4), (.int p5)] ∧ Z.Warmed39 U.vm ∧ U.heap = h0) (fun _ _ _ _ _ => True) (fun _ U o U' => ∃ v L, o = .returned v ∧ Q_rm0 Z q0 q1 q2 q3 q4 p5 h0 n0 v U'.heap L ∧ FrameEnd U o U' L room_1.cells room_1.slots) := by
  refine MetFree.of_bodySF (plainFor_of_name pn_rm0) hisR ?_
  intro p e s m args below meth c s₁ Bd hml0 hP hK
  obtain ⟨rfl, hZ, hh⟩ := hP
  have hx := Bd.exec
  have hby := Bd.bytes
  have hml : c.maxLocals = 15 := hml0
  have hown : s.vm.findClass "sketchspan/sketch/PairSamplerIsStatePinLaw" = some m.cls := findClass_of_methodNamed Bd.named
  have hnm := (name_of_methodNamed Bd.named Bd.method).1
  have X0 : Stand p l e room_1 s m #[(.long q0), (.long q1), (.long q2), (.long q3), (.long q4), (.int p5)] below meth c s₁ [] 0 0 := Stand.of_body Bd
  have e0 : s₁.heap = h0 := by rw [← hh, Bd.state]; rfl
  have N0 := Fr.nil n0
  have K0 := Keep.refl h0 []
  have go0 : Go p e below (s₁.setTop (entryFrame m #[(.long q0), (.long q1), (.long q2), (.long q3), (.long q4), (.int p5)] maxLocals)) (s₁.setTop (mkF m 0 #[.val (.long q0), .second, .val (.long q1), .second, .val (.long q2), .second, .val (.long q3), .second, .val (.long q4), .second, .val (.int p5), .unset, .unset, .unset, .unset] [])) := fun t k => castTop (ef_rm0 m q0 q1 q2 q3 q4 p5) k
  obtain ⟨T1, h1, X1, e1, E1, A1, D1, -, st1⟩ := newO X0 hx hZ hown (hw _ (List.mem_of_getElem? (i := 0) rfl)) (hw _ (List.mem_of_getElem? (i := 1) rfl)) (hw _ (List.mem_of_getElem? (i := 2) rfl)) e0 (g := (mkF m 0 #[.val (.long q0), .second, .val (.long q1), .second, .val (.long q2), .second, .val (.long q3), .second, .val (.long q4), .second, .val (.int p5), .unset, .unset, .unset, .unset] [])) rfl (hb hby at_0) (by decide) (by decide)
  obtain ⟨b1, g1⟩ : ∃ z, z = h0.size := ⟨_, rfl⟩
  rw [← g1] at A1 D1 st1
  have g_b1 : n0 ≤ b1 := Nat.le_trans Z0 (Nat.le_of_eq g1.symm)
  have sz_b1 : h0.size ≤ b1 := Nat.le_trans K0.1 (Nat.le_of_eq g1.symm)
  have F1_buckets : Fld Z h1 b1 "sketchspan/sketch/PairSampler" "buckets" "I" (.int (0 : Int32)) := D1 (Or.inr (hw _ (List.mem_of_getElem? (i := 20) rfl))) (ty := .int) (by decide)
  have F1_length : Fld Z h1 b1 "sketchspan/sketch/PairSampler" "length" "I" (.int (0 : Int32)) := D1 (Or.inr (hw _ (List.mem_of_getElem? (i := 26) rfl))) (ty := .int) (by decide)
  have F1_bucketSalts : Fld Z h1 b1 "sketchspan/sketch/PairSampler" "bucketSalts" "[J" .null := D1 (Or.inr (hw _ (List.mem_of_getElem? (i := 29) rfl))) (ty := (.array .long)) (by decide)
  have F1_fingerprintSalts : Fld Z h1 b1 "sketchspan/sketch/PairSampler" "fingerprintSalts" "[J" .null := D1 (Or.inr (hw _ (List.mem_of_getElem? (i := 31) rfl))) (ty := (.array .long)) (by decide)
  have Z1 : n0 ≤ h1.size := Nat.le_trans Z0 E1.1
  have K1 := K0.ext E1
  have go1 := go0.step (C := T1.setTop (mkF m 3 #[.val (.long q0), .second, .val (.long q1), .second, .val (.long q2), .second, .val (.long q3), .second, .val (.long q4), .second, .val (.int p5), .unset, .unset, .unset, .unset] [(.ref b1)])) (fun t k => st1 t k)
  have go2 := go1.step (C := T1.setTop (mkF m 8 #[.val (.long q0), .second, .val (.long q1), .second, .val (.long q2), .second, .val (.long q3), .second, .val (.long q4), .second, .val (.int p5), .unset, .unset, .unset, .unset] [(.int (1 : Int32)), (.long q4), (.int (2 : Int32)), (.ref b1), (.ref b1)])) (fun t k => by
    show Steps p.tables e below (T1.setTop (mkF m 3 #[.val (.long q0), .second, .val (.long q1), .second, .val (.long q2), .second, .val (.long q3), .second, .val (.long q4), .second, .val (.int p5), .unset, .unset, .unset, .unset] [(.ref b1)])) _
    refine XS.dup X1.here hx rfl (hb hby at_3) rfl rfl ?_
    show Steps p.tables e below (T1.setTop (mkF m 4 #[.val (.long q0), .second, .val (.long q1), .second, .val (.long q2), .second, .val (.long q3), .second, .val (.long q4), .second, .val (.int p5), .unset, .unset, .unset, .unset] [(.ref b1), (.ref b1)])) _
    refine XS.iconst X1.here hx rfl (hb hby at_4) ?_
    show Steps p.tables e below (T1.setTop (mkF m 5 #[.val (.long q0), .second, .val (.long q1), .second, .val (.long q2), .second, .val (.long q3), .second, .val (.long q4), .second, .val (.int p5), .unset, .unset, .unset, .unset] [(.int (2 : Int32)), (.ref b1), (.ref b1)])) _
    refine XS.lload X1.here hx rfl (hb hby at_5) rfl ?_
    show Steps p.tables e below (T1.setTop (mkF m 7 #[.val (.long q0), .second, .val (.long q1), .second, .val (.long q2), .second, .val (.long q3), .second, .val (.long q4), .second, .val (.int p5), .unset, .unset, .unset, .unset] [(.long q4), (.int (2 : Int32)), (.ref b1), (.ref b1)])) _
    refine XS.iconst X1.here hx rfl (hb hby at_7) ?_
    exact k)
  obtain ⟨_, _, ⟨T3, L3, k3, n3⟩, -, X3, ⟨Lc3, hQ3, l3, y3, z3⟩, st3⟩ := X1.specialBack hx (y := (⟨"sketchspan/sketch/PairSampler", "<init>", "(IJI)V"⟩ : MethodName)) rfl hown (mvT hZ (hw _ (List.mem_of_getElem? (i := 3) rfl))) (mvT hZ (hw _ (List.mem_of_getElem? (i := 4) rfl))) (mvT hZ (hw _ (List.mem_of_getElem? (i := 5) rfl))) (by decide) (backOf (W := 1) (rm1 l Z a0 hw [] b1 q4 h1 n0 Z1 A1 g_b1 F1_buckets F1_length F1_bucketSalts F1_fingerprintSalts) hZ (hw _ (List.mem_of_getElem? (i := 5) rfl)) (hw _ (List.mem_of_getElem? (i := 2) rfl)) (by decide) (by decide)) (g := (mkF m 8 #[.val (.long q0), .second, .val (.long q1), .second, .val (.long q2), .second, .val (.long q3), .second, .val (.long q4), .second, .val (.int p5), .unset, .unset, .unset, .unset] [(.int (1 : Int32)), (.long q4), (.int (2 : Int32)), (.ref b1), (.ref b1)])) rfl (by rw [hml]; rfl) (Steps.refl _) (a := b1) (argsL := [(.int (2 : Int32)), (.long q4), (.int (1 : Int32))]) (rest := [(.ref b1)]) (lenOf pd_rm0_0 rfl) rfl (by show 2 * 0 + _ ≤ _; exact Nat.le_of_eq rfl) (hb hby at_8) (fun _ _ => ⟨rfl, e1, (by decide : 1 + 2 ≤ _), (by decide : 4 + 2 ≤ _)⟩)
  dsimp only [Pt.U, Pt.locs, Pt.cells, Pt.slots] at X3 l3 y3 z3 st3 hQ3
  rw [l3, y3, z3] at X3
  obtain ⟨rfl, N3q, K3, qp3_0, qp3_1, qp3_2⟩ := hQ3
  have N3 := Fr.app N0 N3q
  have f4 := A1.keep K3
  have Z3 : n0 ≤ T3.heap.size := Nat.le_trans Z1 K3.1
  have KK3 := K1.trans K3 (allS (Or.inr sz_b1) all0)
  have go3 := go2.tr (C := T3.setTop (mkF m 11 #[.val (.long q0), .second, .val (.long q1), .second, .val (.long q2), .second, .val (.long q3), .second, .val (.long q4), .second, .val (.int p5), .unset, .unset, .unset, .unset] [(.ref b1)])) st3
  have go9 := go3.step (C := T3.setTop (mkF m 17 #[.val (.long q0), .second, .val (.long q1), .second, .val (.long q2), .second, .val (.long q3), .second, .val (.long q4), .second, .val (.int p5), .val (.ref b1), .unset, .unset, .unset] [(.int (p5 &&& (3 : Int32)))])) (fun t k => by
    show Steps p.tables e below (T3.setTop (mkF m 11 #[.val (.long q0), .second, .val (.long q1), .second, .val (.long q2), .second, .val (.long q3), .second, .val (.long q4), .second, .val (.int p5), .unset, .unset, .unset, .unset] [(.ref b1)])) _
    refine XS.astore X3.here hx rfl (hb hby at_11) rfl rfl (l' := #[.val (.long q0), .second, .val (.long q1), .second, .val (.long q2), .second, .val (.long q3), .second, .val (.long q4), .second, .val (.int p5), .val (.ref b1), .unset, .unset, .unset]) rfl ?_
    show Steps p.tables e below (T3.setTop (mkF m 13 #[.val (.long q0), .second, .val (.long q1), .second, .val (.long q2), .second, .val (.long q3), .second, .val (.long q4), .second, .val (.int p5), .val (.ref b1), .unset, .unset, .unset] [])) _
    refine XS.iload X3.here hx rfl (hb hby at_13) rfl ?_
    show Steps p.tables e below (T3.setTop (mkF m 15 #[.val (.long q0), .second, .val (.long q1), .second, .val (.long q2), .second, .val (.long q3), .second, .val (.long q4), .second, .val (.int p5), .val (.ref b1), .unset, .unset, .unset] [(.int p5)])) _
    refine XS.iconst X3.here hx rfl (hb hby at_15) ?_
    show Steps p.tables e below (T3.setTop (mkF m 16 #[.val (.long q0), .second, .val (.long q1), .second, .val (.long q2), .second, .val (.long q3), .second, .val (.long q4), .second, .val (.int p5), .val (.ref b1), .unset, .unset, .unset] [(.int (3 : Int32)), (.int p5)])) _
    refine XS.iand X3.here hx rfl (hb hby at_16) rfl ?_
    exact k)
  obtain ⟨zat, hzat⟩ : ∃ z : Int32, z = (p5 &&& (3 : Int32)) := ⟨_, rfl⟩
  rw [← hzat] at go9
  have go10 := go9.step (C := T3.setTop (mkF m 21 #[.val (.long q0), .second, .val (.long q1), .second, .val (.long q2), .second, .val (.long q3), .second, .val (.long q4), .second, .val (.int p5), .val (.ref b1), .val (.int zat), .unset, .unset] [(.int (9 : Int32))])) (fun t k => by
    show Steps p.tables e below (T3.setTop (mkF m 17 #[.val (.long q0), .second, .val (.long q1), .second, .val (.long q2), .second, .val (.long q3), .second, .val (.long q4), .second, .val (.int p5), .val (.ref b1), .unset, .unset, .unset] [(.int zat)])) _
    refine XS.istore X3.here hx rfl (hb hby at_17) rfl (l' := #[.val (.long q0), .second, .val (.long q1), .second, .val (.long q2), .second, .val (.long q3), .second, .val (.long q4), .second, .val (.int p5), .val (.ref b1), .val (.int zat), .unset, .unset]) rfl ?_
    show Steps p.tables e below (T3.setTop (mkF m 19 #[.val (.long q0), .second, .val (.long q1), .second, .val (.long q2), .second, .val (.long q3), .second, .val (.long q4), .second, .val (.int p5), .val (.ref b1), .val (.int zat), .unset, .unset] [])) _
    refine XS.bipush X3.here hx rfl (hb hby at_19) ?_
    exact k)
  obtain ⟨T11, h11, k11, X11, e11, E11, A11, st11⟩ := newP X3 hx hZ (hw _ (List.mem_of_getElem? (i := 27) rfl)) rfl (g := (mkF m 21 #[.val (.long q0), .second, .val (.long q1), .second, .val (.long q2), .second, .val (.long q3), .second, .val (.long q4), .second, .val (.int p5), .val (.ref b1), .val (.int zat), .unset, .unset] [(.int (9 : Int32))])) rfl (hb hby at_21) rfl (by decide) (cap := 9) (by decide) (by decide) (by decide) (by decide)
  obtain ⟨b11, g11⟩ : ∃ z, z = T3.heap.size := ⟨_, rfl⟩
  rw [← g11] at A11 st11
  have ne_b1_b11 : b1 ≠ b11 := Nat.ne_of_lt (Nat.lt_of_lt_of_le qp3_0.lt (Nat.le_of_eq g11.symm))
  have g_b11 : n0 ≤ b11 := Nat.le_trans Z3 (Nat.le_of_eq g11.symm)
  have sz_b11 : h0.size ≤ b11 := Nat.le_trans KK3.1 (Nat.le_of_eq g11.symm)
  have f12 := qp3_0.ext E11
  have f13 := qp3_1.ext E11
  have f14 := qp3_2.ext E11
  have V11 : Arv Z h11 b11 k11 .long (9 : Int32) [(.long (0 : Int64)), (.long (0 : Int64)), (.long (0 : Int64)), (.long (0 : Int64)), (.long (0 : Int64)), (.long (0 : Int64)), (.long (0 : Int64)), (.long (0 : Int64)), (.long (0 : Int64))] (.long (0 : Int64)) := (Arv.new A11 (by decide)).pad (pad_rep [] (.long (0 : Int64)) 9)
  have Z11 : n0 ≤ h11.size := Nat.le_trans Z3 E11.1
  have K11 := KK3.ext E11
  have go11 := go10.step (C := T11.setTop (mkF m 23 #[.val (.long q0), .second, .val (.long q1), .second, .val (.long q2), .second, .val (.long q3), .second, .val (.long q4), .second, .val (.int p5), .val (.ref b1), .val (.int zat), .unset, .unset] [(.ref b11)])) (fun t k => st11 t k)
  have go15 := go11.step (C := T11.setTop (mkF m 27 #[.val (.long q0), .second, .val (.long q1), .second, .val (.long q2), .second, .val (.long q3), .second, .val (.long q4), .second, .val (.int p5), .val (.ref b1), .val (.int zat), .unset, .unset] [(.long q4), (.int (0 : Int32)), (.ref b11), (.ref b11)])) (fun t k => by
    show Steps p.tables e below (T11.setTop (mkF m 23 #[.val (.long q0), .second, .val (.long q1), .second, .val (.long q2), .second, .val (.long q3), .second, .val (.long q4), .second, .val (.int p5), .val (.ref b1), .val (.int zat), .unset, .unset] [(.ref b11)])) _
    refine XS.dup X11.here hx rfl (hb hby at_23) rfl rfl ?_
    show Steps p.tables e below (T11.setTop (mkF m 24 #[.val (.long q0), .second, .val (.long q1), .second, .val (.long q2), .second, .val (.long q3), .second, .val (.long q4), .second, .val (.int p5), .val (.ref b1), .val (.int zat), .unset, .unset] [(.ref b11), (.ref b11)])) _
    refine XS.iconst X11.here hx rfl (hb hby at_24) ?_
    show Steps p.tables e below (T11.setTop (mkF m 25 #[.val (.long q0), .second, .val (.long q1), .second, .val (.long q2), .second, .val (.long q3), .second, .val (.long q4), .second, .val (.int p5), .val (.ref b1), .val (.int zat), .unset, .unset] [(.int (0 : Int32)), (.ref b11), (.ref b11)])) _
    refine XS.lload X11.here hx rfl (hb hby at_25) rfl ?_
    exact k)
  have Vo16 := V11
  obtain ⟨cl16, Ar16, qa16, Sa16, Na16, Ha16, Ga16⟩ := Vo16
  have hin16 : ¬ ((0 : Int32) < 0 ∨ cl16.slots.size ≤ ((0 : Int32)).toNatClampNeg) := inb_of Sa16 ⟨by decide, by decide⟩
  obtain ⟨T17, h17, X17, e17, W17, st17⟩ := stJ X11 hx hZ e11 Ar16 (j := (0 : Int32)) hin16 (g := (mkF m 27 #[.val (.long q0), .second, .val (.long q1), .second, .val (.long q2), .second, .val (.long q3), .second, .val (.long q4), .second, .val (.int p5), .val (.ref b1), .val (.int zat), .unset, .unset] [(.long q4), (.int (0 : Int32)), (.ref b11), (.ref b11)])) rfl rfl (hb hby at_27)
  have V17 : Arv Z h17 b11 k11 .long (9 : Int32) [(.long q4), (.long (0 : Int64)), (.long (0 : Int64)), (.long (0 : Int64)), (.long (0 : Int64)), (.long (0 : Int64)), (.long (0 : Int64)), (.long (0 : Int64)), (.long (0 : Int64))] (.long (0 : Int64)) := Arv.set Ar16 qa16 Sa16 Na16 Ha16 Ga16 rfl W17 0 rfl (Nat.le_of_ble_eq_true rfl)
  have f18 := f12.wr W17
  have f19 := Fld.other W17 f13 (Or.inl ne_b1_b11)
  have f20 := Fld.other W17 f14 (Or.inl ne_b1_b11)
  have Z17 : n0 ≤ h17.size := Nat.le_trans Z11 (Nat.le_of_eq W17.size.symm)
  have K17 := K11.wr W17 (Or.inr sz_b11)
  have N17 := Fr.snoc X17 N3 g_b11
  have go17 := go15.step (C := T17.setTop (mkF m 28 #[.val (.long q0), .second, .val (.long q1), .second, .val (.long q2), .second, .val (.long q3), .second, .val (.long q4), .second, .val (.int p5), .val (.ref b1), .val (.int zat), .unset, .unset] [(.ref b11)])) (fun t k => st17 t k)
  have go22 := go17.step (C := T17.setTop (mkF m 32 #[.val (.long q0), .second, .val (.long q1), .second, .val (.long q2), .second, .val (.long q3), .second, .val (.long q4), .second, .val (.int p5), .val (.ref b1), .val (.int zat), .unset, .unset] [(.long q4), (.int (1 : Int32)), (.ref b11), (.ref b11)])) (fun t k => by
    show Steps p.tables e below (T17.setTop (mkF m 28 #[.val (.long q0), .second, .val (.long q1), .second, .val (.long q2), .second, .val (.long q3), .second, .val (.long q4), .second, .val (.int p5), .val (.ref b1), .val (.int zat), .unset, .unset] [(.ref b11)])) _
    refine XS.dup X17.here hx rfl (hb hby at_28) rfl rfl ?_
    show Steps p.tables e below (T17.setTop (mkF m 29 #[.val (.long q0), .second, .val (.long q1), .second, .val (.long q2), .second, .val (.long q3), .second, .val (.long q4), .second, .val (.int p5), .val (.ref b1), .val (.int zat), .unset, .unset] [(.ref b11), (.ref b11)])) _
    refine XS.iconst X17.here hx rfl (hb hby at_29) ?_
    show Steps p.tables e below (T17.setTop (mkF m 30 #[.val (.long q0), .second, .val (.long q1), .second, .val (.long q2), .second, .val (.long q3), .second, .val (.long q4), .second, .val (.int p5), .val (.ref b1), .val (.int zat), .unset, .unset] [(.int (1 : Int32)), (.ref b11), (.ref b11)])) _
    refine XS.lload X17.here hx rfl (hb hby at_30) rfl ?_
    exact k)
  have Vo23 := V17
  obtain ⟨cl23, Ar23, qa23, Sa23, Na23, Ha23, Ga23⟩ := Vo23
  have hin23 : ¬ ((1 : Int32) < 0 ∨ cl23.slots.size ≤ ((1 : Int32)).toNatClampNeg) := inb_of Sa23 ⟨by decide, by decide⟩
  obtain ⟨T24, h24, X24, e24, W24, st24⟩ := stJ X17 hx hZ e17 Ar23 (j := (1 : Int32)) hin23 (g := (mkF m 32 #[.val (.long q0), .second, .val (.long q1), .second, .val (.long q2), .second, .val (.long q3), .second, .val (.long q4), .second, .val (.int p5), .val (.ref b1), .val (.int zat), .unset, .unset] [(.long q4), (.int (1 : Int32)), (.ref b11), (.ref b11)])) rfl rfl (hb hby at_32)
  have V24 : Arv Z h24 b11 k11 .long (9 : Int32) [(.long q4), (.long q4), (.long (0 : Int64)), (.long (0 : Int64)), (.long (0 : Int64)), (.long (0 : Int64)), (.long (0 : Int64)), (.long (0 : Int64)), (.long (0 : Int64))] (.long (0 : Int64)) := Arv.set Ar23 qa23 Sa23 Na23 Ha23 Ga23 rfl W24 1 rfl (Nat.le_of_ble_eq_true rfl)
  have f25 := f18.wr W24
  have f26 := Fld.other W24 f19 (Or.inl ne_b1_b11)
  have f27 := Fld.other W24 f20 (Or.inl ne_b1_b11)
  have Z24 : n0 ≤ h24.size := Nat.le_trans Z17 (Nat.le_of_eq W24.size.symm)
  have K24 := K17.wr W24 (Or.inr sz_b11)
  have N24 := Fr.snoc X24 N17 g_b11
  have go24 := go22.step (C := T24.setTop (mkF m 33 #[.val (.long q0), .second, .val (.long q1), .second, .val (.long q2), .second, .val (.long q3), .second, .val (.long q4), .second, .val (.int p5), .val (.ref b1), .val (.int zat), .unset, .unset] [(.ref b11)])) (fun t k => st24 t k)
  have go29 := go24.step (C := T24.setTop (mkF m 37 #[.val (.long q0), .second, .val (.long q1), .second, .val (.long q2), .second, .val (.long q3), .second, .val (.long q4), .second, .val (.int p5), .val (.ref b1), .val (.int zat), .unset, .unset] [(.long q4), (.int (2 : Int32)), (.ref b11), (.ref b11)])) (fun t k => by
    show Steps p.tables e below (T24.setTop (mkF m 33 #[.val (.long q0), .second, .val (.long q1), .second, .val (.long q2), .second, .val (.long q3), .second, .val (.long q4), .second, .val (.int p5), .val (.ref b1), .val (.int zat), .unset, .unset] [(.ref b11)])) _
    refine XS.dup X24.here hx rfl (hb hby at_33) rfl rfl ?_
    show Steps p.tables e below (T24.setTop (mkF m 34 #[.val (.long q0), .second, .val (.long q1), .second, .val (.long q2), .second, .val (.long q3), .second, .val (.long q4), .second, .val (.int p5), .val (.ref b1), .val (.int zat), .unset, .unset] [(.ref b11), (.ref b11)])) _
    refine XS.iconst X24.here hx rfl (hb hby at_34) ?_
    show Steps p.tables e below (T24.setTop (mkF m 35 #[.val (.long q0), .second, .val (.long q1), .second, .val (.long q2), .second, .val (.long q3), .second, .val (.long q4), .second, .val (.int p5), .val (.ref b1), .val (.int zat), .unset, .unset] [(.int (2 : Int32)), (.ref b11), (.ref b11)])) _
    refine XS.lload X24.here hx rfl (hb hby at_35) rfl ?_
    exact k)
  have Vo30 := V24
  obtain ⟨cl30, Ar30, qa30, Sa30, Na30, Ha30, Ga30⟩ := Vo30
  have hin30 : ¬ ((2 : Int32) < 0 ∨ cl30.slots.size ≤ ((2 : Int32)).toNatClampNeg) := inb_of Sa30 ⟨by decide, by decide⟩
  obtain ⟨T31, h31, X31, e31, W31, st31⟩ := stJ X24 hx hZ e24 Ar30 (j := (2 : Int32)) hin30 (g := (mkF m 37 #[.val (.long q0), .second, .val (.long q1), .second, .val (.long q2), .second, .val (.long q3), .second, .val (.long q4), .second, .val (.int p5), .val (.ref b1), .val (.int zat), .unset, .unset] [(.long q4), (.int (2 : Int32)), (.ref b11), (.ref b11)])) rfl rfl (hb hby at_37)
  have V31 : Arv Z h31 b11 k11 .long (9 : Int32) [(.long q4), (.long q4), (.long q4), (.long (0 : Int64)), (.long (0 : Int64)), (.long (0 : Int64)), (.long (0 : Int64)), (.long (0 : Int64)), (.long (0 : Int64))] (.long (0 : Int64)) := Arv.set Ar30 qa30 Sa30 Na30 Ha30 Ga30 rfl W31 2 rfl (Nat.le_of_ble_eq_true rfl)
  have f32 := f25.wr W31
  have f33 := Fld.other W31 f26 (Or.inl ne_b1_b11)
  have f34 := Fld.other W31 f27 (Or.inl ne_b1_b11)
  have Z31 : n0 ≤ h31.size := Nat.le_trans Z24 (Nat.le_of_eq W31.size.symm)
  have K31 := K24.wr W31 (Or.inr sz_b11)
  have N31 := Fr.snoc X31 N24 g_b11
  have go31 := go29.step (C := T31.setTop (mkF m 38 #[.val (.long q0), .second, .val (.long q1), .second, .val (.long q2), .second, .val (.long q3), .second, .val (.long q4), .second, .val (.int p5), .val (.ref b1), .val (.int zat), .unset, .unset] [(.ref b11)])) (fun t k => st31 t k)
  have go36 := go31.step (C := T31.setTop (mkF m 42 #[.val (.long q0), .second, .val (.long q1), .second, .val (.long q2), .second, .val (.long q3), .second, .val (.long q4), .second, .val (.int p5), .val (.ref b1), .val (.int zat), .unset, .unset] [(.long q4), (.int (3 : Int32)), (.ref b11), (.ref b11)])) (fun t k => by
    show Steps p.tables e below (T31.setTop (mkF m 38 #[.val (.long q0), .second, .val (.long q1), .second, .val (.long q2), .second, .val (.long q3), .second, .val (.long q4), .second, .val (.int p5), .val (.ref b1), .val (.int zat), .unset, .unset] [(.ref b11)])) _
    refine XS.dup X31.here hx rfl (hb hby at_38) rfl rfl ?_
    show Steps p.tables e below (T31.setTop (mkF m 39 #[.val (.long q0), .second, .val (.long q1), .second, .val (.long q2), .second, .val (.long q3), .second, .val (.long q4), .second, .val (.int p5), .val (.ref b1), .val (.int zat), .unset, .unset] [(.ref b11), (.ref b11)])) _
    refine XS.iconst X31.here hx rfl (hb hby at_39) ?_
    show Steps p.tables e below (T31.setTop (mkF m 40 #[.val (.long q0), .second, .val (.long q1), .second, .val (.long q2), .second, .val (.long q3), .second, .val (.long q4), .second, .val (.int p5), .val (.ref b1), .val (.int zat), .unset, .unset] [(.int (3 : Int32)), (.ref b11), (.ref b11)])) _
    refine XS.lload X31.here hx rfl (hb hby at_40) rfl ?_
    exact k)
  have Vo37 := V31
  obtain ⟨cl37, Ar37, qa37, Sa37, Na37, Ha37, Ga37⟩ := Vo37
  have hin37 : ¬ ((3 : Int32) < 0 ∨ cl37.slots.size ≤ ((3 : Int32)).toNatClampNeg) := inb_of Sa37 ⟨by decide, by decide⟩
  obtain ⟨T38, h38, X38, e38, W38, st38⟩ := stJ X31 hx hZ e31 Ar37 (j := (3 : Int32)) hin37 (g := (mkF m 42 #[.val (.long q0), .second, .val (.long q1), .second, .val (.long q2), .second, .val (.long q3), .second, .val (.long q4), .second, .val (.int p5), .val (.ref b1), .val (.int zat), .unset, .unset] [(.long q4), (.int (3 : Int32)), (.ref b11), (.ref b11)])) rfl rfl (hb hby at_42)
  have V38 : Arv Z h38 b11 k11 .long (9 : Int32) [(.long q4), (.long q4), (.long q4), (.long q4), (.long (0 : Int64)), (.long (0 : Int64)), (.long (0 : Int64)), (.long (0 : Int64)), (.long (0 : Int64))] (.long (0 : Int64)) := Arv.set Ar37 qa37 Sa37 Na37 Ha37 Ga37 rfl W38 3 rfl (Nat.le_of_ble_eq_true rfl)
  have f39 := f32.wr W38
  have f40 := Fld.other W38 f33 (Or.inl ne_b1_b11)
  have f41 := Fld.other W38 f34 (Or.inl ne_b1_b11)
  have Z38 : n0 ≤ h38.size := Nat.le_trans Z31 (Nat.le_of_eq W38.size.symm)
  have K38 := K31.wr W38 (Or.inr sz_b11)
  have N38 := Fr.snoc X38 N31 g_b11
  have go38 := go36.step (C := T38.setTop (mkF m 43 #[.val (.long q0), .second, .val (.long q1), .second, .val (.long q2), .second, .val (.long q3), .second, .val (.long q4), .second, .val (.int p5), .val (.ref b1), .val (.int zat), .unset, .unset] [(.ref b11)])) (fun t k => st38 t k)
  have go43 := go38.step (C := T38.setTop (mkF m 47 #[.val (.long q0), .second, .val (.long q1), .second, .val (.long q2), .second, .val (.long q3), .second, .val (.long q4), .second, .val (.int p5), .val (.ref b1), .val (.int zat), .unset, .unset] [(.long q4), (.int (4 : Int32)), (.ref b11), (.ref b11)])) (fun t k => by
    show Steps p.tables e below (T38.setTop (mkF m 43 #[.val (.long q0), .second, .val (.long q1), .second, .val (.long q2), .second, .val (.long q3), .second, .val (.long q4), .second, .val (.int p5), .val (.ref b1), .val (.int zat), .unset, .unset] [(.ref b11)])) _
    refine XS.dup X38.here hx rfl (hb hby at_43) rfl rfl ?_
    show Steps p.tables e below (T38.setTop (mkF m 44 #[.val (.long q0), .second, .val (.long q1), .second, .val (.long q2), .second, .val (.long q3), .second, .val (.long q4), .second, .val (.int p5), .val (.ref b1), .val (.int zat), .unset, .unset] [(.ref b11), (.ref b11)])) _
    refine XS.iconst X38.here hx rfl (hb hby at_44) ?_
    show Steps p.tables e below (T38.setTop (mkF m 45 #[.val (.long q0), .second, .val (.long q1), .second, .val (.long q2), .second, .val (.long q3), .second, .val (.long q4), .second, .val (.int p5), .val (.ref b1), .val (.int zat), .unset, .unset] [(.int (4 : Int32)), (.ref b11), (.ref b11)])) _
    refine XS.lload X38.here hx rfl (hb hby at_45) rfl ?_
    exact k)
  have Vo44 := V38
  obtain ⟨cl44, Ar44, qa44, Sa44, Na44, Ha44, Ga44⟩ := Vo44
  have hin44 : ¬ ((4 : Int32) < 0 ∨ cl44.slots.size ≤ ((4 : Int32)).toNatClampNeg) := inb_of Sa44 ⟨by decide, by decide⟩
  obtain ⟨T45, h45, X45, e45, W45, st45⟩ := stJ X38 hx hZ e38 Ar44 (j := (4 : Int32)) hin44 (g := (mkF m 47 #[.val (.long q0), .second, .val (.long q1), .second, .val (.long q2), .second, .val (.long q3), .second, .val (.long q4), .second, .val (.int p5), .val (.ref b1), .val (.int zat), .unset, .unset] [(.long q4), (.int (4 : Int32)), (.ref b11), (.ref b11)])) rfl rfl (hb hby at_47)
  have V45 : Arv Z h45 b11 k11 .long (9 : Int32) [(.long q4), (.long q4), (.long q4), (.long q4), (.long q4), (.long (0 : Int64)), (.long (0 : Int64)), (.long (0 : Int64)), (.long (0 : Int64))] (.long (0 : Int64)) := Arv.set Ar44 qa44 Sa44 Na44 Ha44 Ga44 rfl W45 4 rfl (Nat.le_of_ble_eq_true rfl)
  have f46 := f39.wr W45
  have f47 := Fld.other W45 f40 (Or.inl ne_b1_b11)
  have f48 := Fld.other W45 f41 (Or.inl ne_b1_b11)
  have Z45 : n0 ≤ h45.size := Nat.le_trans Z38 (Nat.le_of_eq W45.size.symm)
  have K45 := K38.wr W45 (Or.inr sz_b11)
  have N45 := Fr.snoc X45 N38 g_b11
  have go45 := go43.step (C := T45.setTop (mkF m 48 #[.val (.long q0), .second, .val (.long q1), .second, .val (.long q2), .second, .val (.long q3), .second, .val (.long q4), .second, .val (.int p5), .val (.ref b1), .val (.int zat), .unset, .unset] [(.ref b11)])) (fun t k => st45 t k)
  have go50 := go45.step (C := T45.setTop (mkF m 52 #[.val (.long q0), .second, .val (.long q1), .second, .val (.long q2), .second, .val (.long q3), .second, .val (.long q4), .second, .val (.int p5), .val (.ref b1), .val (.int zat), .unset, .unset] [(.long q4), (.int (5 : Int32)), (.ref b11), (.ref b11)])) (fun t k => by
    show Steps p.tables e below (T45.setTop (mkF m 48 #[.val (.long q0), .second, .val (.long q1), .second, .val (.long q2), .second, .val (.long q3), .second, .val (.long q4), .second, .val (.int p5), .val (.ref b1), .val (.int zat), .unset, .unset] [(.ref b11)])) _
    refine XS.dup X45.here hx rfl (hb hby at_48) rfl rfl ?_
    show Steps p.tables e below (T45.setTop (mkF m 49 #[.val (.long q0), .second, .val (.long q1), .second, .val (.long q2), .second, .val (.long q3), .second, .val (.long q4), .second, .val (.int p5), .val (.ref b1), .val (.int zat), .unset, .unset] [(.ref b11), (.ref b11)])) _
    refine XS.iconst X45.here hx rfl (hb hby at_49) ?_
    show Steps p.tables e below (T45.setTop (mkF m 50 #[.val (.long q0), .second, .val (.long q1), .second, .val (.long q2), .second, .val (.long q3), .second, .val (.long q4), .second, .val (.int p5), .val (.ref b1), .val (.int zat), .unset, .unset] [(.int (5 : Int32)), (.ref b11), (.ref b11)])) _
    refine XS.lload X45.here hx rfl (hb hby at_50) rfl ?_
    exact k)
  have Vo51 := V45
  obtain ⟨cl51, Ar51, qa51, Sa51, Na51, Ha51, Ga51⟩ := Vo51
  have hin51 : ¬ ((5 : Int32) < 0 ∨ cl51.slots.size ≤ ((5 : Int32)).toNatClampNeg) := inb_of Sa51 ⟨by decide, by decide⟩
  obtain ⟨T52, h52, X52, e52, W52, st52⟩ := stJ X45 hx hZ e45 Ar51 (j := (5 : Int32)) hin51 (g := (mkF m 52 #[.val (.long q0), .second, .val (.long q1), .second, .val (.long q2), .second, .val (.long q3), .second, .val (.long q4), .second, .val (.int p5), .val (.ref b1), .val (.int zat), .unset, .unset] [(.long q4), (.int (5 : Int32)), (.ref b11), (.ref b11)])) rfl rfl (hb hby at_52)
  have V52 : Arv Z h52 b11 k11 .long (9 : Int32) [(.long q4), (.long q4), (.long q4), (.long q4), (.long q4), (.long q4), (.long (0 : Int64)), (.long (0 : Int64)), (.long (0 : Int64))] (.long (0 : Int64)) := Arv.set Ar51 qa51 Sa51 Na51 Ha51 Ga51 rfl W52 5 rfl (Nat.le_of_ble_eq_true rfl)
  have f53 := f46.wr W52
  have f54 := Fld.other W52 f47 (Or.inl ne_b1_b11)
  have f55 := Fld.other W52 f48 (Or.inl ne_b1_b11)
  have Z52 : n0 ≤ h52.size := Nat.le_trans Z45 (Nat.le_of_eq W52.size.symm)
  have K52 := K45.wr W52 (Or.inr sz_b11)
  have N52 := Fr.snoc X52 N45 g_b11
  have go52 := go50.step (C := T52.setTop (mkF m 53 #[.val (.long q0), .second, .val (.long q1), .second, .val (.long q2), .second, .val (.long q3), .second, .val (.long q4), .second, .val (.int p5), .val (.ref b1), .val (.int zat), .unset, .unset] [(.ref b11)])) (fun t k => st52 t k)
  have go57 := go52.step (C := T52.setTop (mkF m 58 #[.val (.long q0), .second, .val (.long q1), .second, .val (.long q2), .second, .val (.long q3), .second, .val (.long q4), .second, .val (.int p5), .val (.ref b1), .val (.int zat), .unset, .unset] [(.long q4), (.int (6 : Int32)), (.ref b11), (.ref b11)])) (fun t k => by
    show Steps p.tables e below (T52.setTop (mkF m 53 #[.val (.long q0), .second, .val (.long q1), .second, .val (.long q2), .second, .val (.long q3), .second, .val (.long q4), .second, .val (.int p5), .val (.ref b1), .val (.int zat), .unset, .unset] [(.ref b11)])) _
    refine XS.dup X52.here hx rfl (hb hby at_53) rfl rfl ?_
    show Steps p.tables e below (T52.setTop (mkF m 54 #[.val (.long q0), .second, .val (.long q1), .second, .val (.long q2), .second, .val (.long q3), .second, .val (.long q4), .second, .val (.int p5), .val (.ref b1), .val (.int zat), .unset, .unset] [(.ref b11), (.ref b11)])) _
    refine XS.bipush X52.here hx rfl (hb hby at_54) ?_
    show Steps p.tables e below (T52.setTop (mkF m 56 #[.val (.long q0), .second, .val (.long q1), .second, .val (.long q2), .second, .val (.long q3), .second, .val (.long q4), .second, .val (.int p5), .val (.ref b1), .val (.int zat), .unset, .unset] [(.int (6 : Int32)), (.ref b11), (.ref b11)])) _
    refine XS.lload X52.here hx rfl (hb hby at_56) rfl ?_
    exact k)
  have Vo58 := V52
  obtain ⟨cl58, Ar58, qa58, Sa58, Na58, Ha58, Ga58⟩ := Vo58
  have hin58 : ¬ ((6 : Int32) < 0 ∨ cl58.slots.size ≤ ((6 : Int32)).toNatClampNeg) := inb_of Sa58 ⟨by decide, by decide⟩
  obtain ⟨T59, h59, X59, e59, W59, st59⟩ := stJ X52 hx hZ e52 Ar58 (j := (6 : Int32)) hin58 (g := (mkF m 58 #[.val (.long q0), .second, .val (.long q1), .second, .val (.long q2), .second, .val (.long q3), .second, .val (.long q4), .second, .val (.int p5), .val (.ref b1), .val (.int zat), .unset, .unset] [(.long q4), (.int (6 : Int32)), (.ref b11), (.ref b11)])) rfl rfl (hb hby at_58)
  have V59 : Arv Z h59 b11 k11 .long (9 : Int32) [(.long q4), (.long q4), (.long q4), (.long q4), (.long q4), (.long q4), (.long q4), (.long (0 : Int64)), (.long (0 : Int64))] (.long (0 : Int64)) := Arv.set Ar58 qa58 Sa58 Na58 Ha58 Ga58 rfl W59 6 rfl (Nat.le_of_ble_eq_true rfl)
  have f60 := f53.wr W59
  have f61 := Fld.other W59 f54 (Or.inl ne_b1_b11)
  have f62 := Fld.other W59 f55 (Or.inl ne_b1_b11)
  have Z59 : n0 ≤ h59.size := Nat.le_trans Z52 (Nat.le_of_eq W59.size.symm)
  have K59 := K52.wr W59 (Or.inr sz_b11)
  have N59 := Fr.snoc X59 N52 g_b11
  have go59 := go57.step (C := T59.setTop (mkF m 59 #[.val (.long q0), .second, .val (.long q1), .second, .val (.long q2), .second, .val (.long q3), .second, .val (.long q4), .second, .val (.int p5), .val (.ref b1), .val (.int zat), .unset, .unset] [(.ref b11)])) (fun t k => st59 t k)
  have go64 := go59.step (C := T59.setTop (mkF m 64 #[.val (.long q0), .second, .val (.long q1), .second, .val (.long q2), .second, .val (.long q3), .second, .val (.long q4), .second, .val (.int p5), .val (.ref b1), .val (.int zat), .unset, .unset] [(.long q4), (.int (7 : Int32)), (.ref b11), (.ref b11)])) (fun t k => by
    show Steps p.tables e below (T59.setTop (mkF m 59 #[.val (.long q0), .second, .val (.long q1), .second, .val (.long q2), .second, .val (.long q3), .second, .val (.long q4), .second, .val (.int p5), .val (.ref b1), .val (.int zat), .unset, .unset] [(.ref b11)])) _
    refine XS.dup X59.here hx rfl (hb hby at_59) rfl rfl ?_
    show Steps p.tables e below (T59.setTop (mkF m 60 #[.val (.long q0), .second, .val (.long q1), .second, .val (.long q2), .second, .val (.long q3), .second, .val (.long q4), .second, .val (.int p5), .val (.ref b1), .val (.int zat), .unset, .unset] [(.ref b11), (.ref b11)])) _
    refine XS.bipush X59.here hx rfl (hb hby at_60) ?_
    show Steps p.tables e below (T59.setTop (mkF m 62 #[.val (.long q0), .second, .val (.long q1), .second, .val (.long q2), .second, .val (.long q3), .second, .val (.long q4), .second, .val (.int p5), .val (.ref b1), .val (.int zat), .unset, .unset] [(.int (7 : Int32)), (.ref b11), (.ref b11)])) _
    refine XS.lload X59.here hx rfl (hb hby at_62) rfl ?_
    exact k)
  have Vo65 := V59
  obtain ⟨cl65, Ar65, qa65, Sa65, Na65, Ha65, Ga65⟩ := Vo65
  have hin65 : ¬ ((7 : Int32) < 0 ∨ cl65.slots.size ≤ ((7 : Int32)).toNatClampNeg) := inb_of Sa65 ⟨by decide, by decide⟩
  obtain ⟨T66, h66, X66, e66, W66, st66⟩ := stJ X59 hx hZ e59 Ar65 (j := (7 : Int32)) hin65 (g := (mkF m 64 #[.val (.long q0), .second, .val (.long q1), .second, .val (.long q2), .second, .val (.long q3), .second, .val (.long q4), .second, .val (.int p5), .val (.ref b1), .val (.int zat), .unset, .unset] [(.long q4), (.int (7 : Int32)), (.ref b11), (.ref b11)])) rfl rfl (hb hby at_64)
  have V66 : Arv Z h66 b11 k11 .long (9 : Int32) [(.long q4), (.long q4), (.long q4), (.long q4), (.long q4), (.long q4), (.long q4), (.long q4), (.long (0 : Int64))] (.long (0 : Int64)) := Arv.set Ar65 qa65 Sa65 Na65 Ha65 Ga65 rfl W66 7 rfl (Nat.le_of_ble_eq_true rfl)
  have f67 := f60.wr W66
  have f68 := Fld.other W66 f61 (Or.inl ne_b1_b11)
  have f69 := Fld.other W66 f62 (Or.inl ne_b1_b11)
  have Z66 : n0 ≤ h66.size := Nat.le_trans Z59 (Nat.le_of_eq W66.size.symm)
  have K66 := K59.wr W66 (Or.inr sz_b11)
  have N66 := Fr.snoc X66 N59 g_b11
  have go66 := go64.step (C := T66.setTop (mkF m 65 #[.val (.long q0), .second, .val (.long q1), .second, .val (.long q2), .second, .val (.long q3), .second, .val (.long q4), .second, .val (.int p5), .val (.ref b1), .val (.int zat), .unset, .unset] [(.ref b11)])) (fun t k => st66 t k)
  have go71 := go66.step (C := T66.setTop (mkF m 70 #[.val (.long q0), .second, .val (.long q1), .second, .val (.long q2), .second, .val (.long q3), .second, .val (.long q4), .second, .val (.int p5), .val (.ref b1), .val (.int zat), .unset, .unset] [(.long q4), (.int (8 : Int32)), (.ref b11), (.ref b11)])) (fun t k => by
    show Steps p.tables e below (T66.setTop (mkF m 65 #[.val (.long q0), .second, .val (.long q1), .second, .val (.long q2), .second, .val (.long q3), .second, .val (.long q4), .second, .val (.int p5), .val (.ref b1), .val (.int zat), .unset, .unset] [(.ref b11)])) _
    refine XS.dup X66.here hx rfl (hb hby at_65) rfl rfl ?_
    show Steps p.tables e below (T66.setTop (mkF m 66 #[.val (.long q0), .second, .val (.long q1), .second, .val (.long q2), .second, .val (.long q3), .second, .val (.long q4), .second, .val (.int p5), .val (.ref b1), .val (.int zat), .unset, .unset] [(.ref b11), (.ref b11)])) _
    refine XS.bipush X66.here hx rfl (hb hby at_66) ?_
    show Steps p.tables e below (T66.setTop (mkF m 68 #[.val (.long q0), .second, .val (.long q1), .second, .val (.long q2), .second, .val (.long q3), .second, .val (.long q4), .second, .val (.int p5), .val (.ref b1), .val (.int zat), .unset, .unset] [(.int (8 : Int32)), (.ref b11), (.ref b11)])) _
    refine XS.lload X66.here hx rfl (hb hby at_68) rfl ?_
    exact k)
  have Vo72 := V66
  obtain ⟨cl72, Ar72, qa72, Sa72, Na72, Ha72, Ga72⟩ := Vo72
  have hin72 : ¬ ((8 : Int32) < 0 ∨ cl72.slots.size ≤ ((8 : Int32)).toNatClampNeg) := inb_of Sa72 ⟨by decide, by decide⟩
  obtain ⟨T73, h73, X73, e73, W73, st73⟩ := stJ X66 hx hZ e66 Ar72 (j := (8 : Int32)) hin72 (g := (mkF m 70 #[.val (.long q0), .second, .val (.long q1), .second, .val (.long q2), .second, .val (.long q3), .second, .val (.long q4), .second, .val (.int p5), .val (.ref b1), .val (.int zat), .unset, .unset] [(.long q4), (.int (8 : Int32)), (.ref b11), (.ref b11)])) rfl rfl (hb hby at_70)
  have V73 : Arv Z h73 b11 k11 .long (9 : Int32) [(.long q4), (.long q4), (.long q4), (.long q4), (.long q4), (.long q4), (.long q4), (.long q4), (.long q4)] (.long (0 : Int64)) := Arv.set Ar72 qa72 Sa72 Na72 Ha72 Ga72 rfl W73 8 rfl (Nat.le_of_ble_eq_true rfl)
  have f74 := f67.wr W73
  have f75 := Fld.other W73 f68 (Or.inl ne_b1_b11)
  have f76 := Fld.other W73 f69 (Or.inl ne_b1_b11)
  have Z73 : n0 ≤ h73.size := Nat.le_trans Z66 (Nat.le_of_eq W73.size.symm)
  have K73 := K66.wr W73 (Or.inr sz_b11)
  have N73 := Fr.snoc X73 N66 g_b11
  have go73 := go71.step (C := T73.setTop (mkF m 71 #[.val (.long q0), .second, .val (.long q1), .second, .val (.long q2), .second, .val (.long q3), .second, .val (.long q4), .second, .val (.int p5), .val (.ref b1), .val (.int zat), .unset, .unset] [(.ref b11)])) (fun t k => st73 t k)
  have go78 := go73.step (C := T73.setTop (mkF m 80 #[.val (.long q0), .second, .val (.long q1), .second, .val (.long q2), .second, .val (.long q3), .second, .val (.long q4), .second, .val (.int p5), .val (.ref b1), .val (.int zat), .val (.ref b11), .unset] [(.long q0), (.int (zat + (1 : Int32))), (.ref b11)])) (fun t k => by
    show Steps p.tables e below (T73.setTop (mkF m 71 #[.val (.long q0), .second, .val (.long q1), .second, .val (.long q2), .second, .val (.long q3), .second, .val (.long q4), .second, .val (.int p5), .val (.ref b1), .val (.int zat), .unset, .unset] [(.ref b11)])) _
    refine XS.astore X73.here hx rfl (hb hby at_71) rfl rfl (l' := #[.val (.long q0), .second, .val (.long q1), .second, .val (.long q2), .second, .val (.long q3), .second, .val (.long q4), .second, .val (.int p5), .val (.ref b1), .val (.int zat), .val (.ref b11), .unset]) rfl ?_
    show Steps p.tables e below (T73.setTop (mkF m 73 #[.val (.long q0), .second, .val (.long q1), .second, .val (.long q2), .second, .val (.long q3), .second, .val (.long q4), .second, .val (.int p5), .val (.ref b1), .val (.int zat), .val (.ref b11), .unset] [])) _
    refine XS.aload X73.here hx rfl (hb hby at_73) rfl rfl ?_
    show Steps p.tables e below (T73.setTop (mkF m 75 #[.val (.long q0), .second, .val (.long q1), .second, .val (.long q2), .second, .val (.long q3), .second, .val (.long q4), .second, .val (.int p5), .val (.ref b1), .val (.int zat), .val (.ref b11), .unset] [(.ref b11)])) _
    refine XS.iload X73.here hx rfl (hb hby at_75) rfl ?_
    show Steps p.tables e below (T73.setTop (mkF m 77 #[.val (.long q0), .second, .val (.long q1), .second, .val (.long q2), .second, .val (.long q3), .second, .val (.long q4), .second, .val (.int p5), .val (.ref b1), .val (.int zat), .val (.ref b11), .unset] [(.int zat), (.ref b11)])) _
    refine XS.iconst X73.here hx rfl (hb hby at_77) ?_
    show Steps p.tables e below (T73.setTop (mkF m 78 #[.val (.long q0), .second, .val (.long q1), .second, .val (.long q2), .second, .val (.long q3), .second, .val (.long q4), .second, .val (.int p5), .val (.ref b1), .val (.int zat), .val (.ref b11), .unset] [(.int (1 : Int32)), (.int zat), (.ref b11)])) _
    refine XS.iadd X73.here hx rfl (hb hby at_78) rfl ?_
    show Steps p.tables e below (T73.setTop (mkF m 79 #[.val (.long q0), .second, .val (.long q1), .second, .val (.long q2), .second, .val (.long q3), .second, .val (.long q4), .second, .val (.int p5), .val (.ref b1), .val (.int zat), .val (.ref b11), .unset] [(.int (zat + (1 : Int32))), (.ref b11)])) _
    refine XS.lloadN X73.here hx rfl (hb hby at_79) rfl ?_
    exact k)
  have Vo79 := V73
  obtain ⟨cl79, Ar79, qa79, Sa79, Na79, Ha79, Ga79⟩ := Vo79
  have hin79 : ¬ ((zat + (1 : Int32)) < 0 ∨ cl79.slots.size ≤ ((zat + (1 : Int32))).toNatClampNeg) := inb_of Sa79 (own_s1 (own_k3 hzat)).1
  obtain ⟨T80, h80, X80, e80, W80, st80⟩ := stJ X73 hx hZ e73 Ar79 (j := (zat + (1 : Int32))) hin79 (g := (mkF m 80 #[.val (.long q0), .second, .val (.long q1), .second, .val (.long q2), .second, .val (.long q3), .second, .val (.long q4), .second, .val (.int p5), .val (.ref b1), .val (.int zat), .val (.ref b11), .unset] [(.long q0), (.int (zat + (1 : Int32))), (.ref b11)])) rfl rfl (hb hby at_80)
  have V80 : Arv Z h80 b11 k11 .long (9 : Int32) (List.set [(.long q4), (.long q4), (.long q4), (.long q4), (.long q4), (.long q4), (.long q4), (.long q4), (.long q4)] (zat.toNatClampNeg + 1) (.long q0)) (.long (0 : Int64)) := (Arv.set Ar79 qa79 Sa79 Na79 Ha79 Ga79 rfl W80 (zat.toNatClampNeg + 1) (own_s1 (own_k3 hzat)).2.1 (by first | exact (own_s1 (own_k3 hzat)).2.2 | (simp only [List.length_set]; exact (own_s1 (own_k3 hzat)).2.2)))
  have f81 := f74.wr W80
  have f82 := Fld.other W80 f75 (Or.inl ne_b1_b11)
  have f83 := Fld.other W80 f76 (Or.inl ne_b1_b11)
  have Z80 : n0 ≤ h80.size := Nat.le_trans Z73 (Nat.le_of_eq W80.size.symm)
  have K80 := K73.wr W80 (Or.inr sz_b11)
  have N80 := Fr.snoc X80 N73 g_b11
  have go80 := go78.step (C := T80.setTop (mkF m 81 #[.val (.long q0), .second, .val (.long q1), .second, .val (.long q2), .second, .val (.long q3), .second, .val (.long q4), .second, .val (.int p5), .val (.ref b1), .val (.int zat), .val (.ref b11), .unset] [])) (fun t k => st80 t k)
  have go85 := go80.step (C := T80.setTop (mkF m 88 #[.val (.long q0), .second, .val (.long q1), .second, .val (.long q2), .second, .val (.long q3), .second, .val (.long q4), .second, .val (.int p5), .val (.ref b1), .val (.int zat), .val (.ref b11), .unset] [(.long q1), (.int (zat + (2 : Int32))), (.ref b11)])) (fun t k => by
    show Steps p.tables e below (T80.setTop (mkF m 81 #[.val (.long q0), .second, .val (.long q1), .second, .val (.long q2), .second, .val (.long q3), .second, .val (.long q4), .second, .val (.int p5), .val (.ref b1), .val (.int zat), .val (.ref b11), .unset] [])) _
    refine XS.aload X80.here hx rfl (hb hby at_81) rfl rfl ?_
    show Steps p.tables e below (T80.setTop (mkF m 83 #[.val (.long q0), .second, .val (.long q1), .second, .val (.long q2), .second, .val (.long q3), .second, .val (.long q4), .second, .val (.int p5), .val (.ref b1), .val (.int zat), .val (.ref b11), .unset] [(.ref b11)])) _
    refine XS.iload X80.here hx rfl (hb hby at_83) rfl ?_
    show Steps p.tables e below (T80.setTop (mkF m 85 #[.val (.long q0), .second, .val (.long q1), .second, .val (.long q2), .second, .val (.long q3), .second, .val (.long q4), .second, .val (.int p5), .val (.ref b1), .val (.int zat), .val (.ref b11), .unset] [(.int zat), (.ref b11)])) _
    refine XS.iconst X80.here hx rfl (hb hby at_85) ?_
    show Steps p.tables e below (T80.setTop (mkF m 86 #[.val (.long q0), .second, .val (.long q1), .second, .val (.long q2), .second, .val (.long q3), .second, .val (.long q4), .second, .val (.int p5), .val (.ref b1), .val (.int zat), .val (.ref b11), .unset] [(.int (2 : Int32)), (.int zat), (.ref b11)])) _
    refine XS.iadd X80.here hx rfl (hb hby at_86) rfl ?_
    show Steps p.tables e below (T80.setTop (mkF m 87 #[.val (.long q0), .second, .val (.long q1), .second, .val (.long q2), .second, .val (.long q3), .second, .val (.long q4), .second, .val (.int p5), .val (.ref b1), .val (.int zat), .val (.ref b11), .unset] [(.int (zat + (2 : Int32))), (.ref b11)])) _
    refine XS.lloadN X80.here hx rfl (hb hby at_87) rfl ?_
    exact k)
  have Vo86 := V80
  obtain ⟨cl86, Ar86, qa86, Sa86, Na86, Ha86, Ga86⟩ := Vo86
  have hin86 : ¬ ((zat + (2 : Int32)) < 0 ∨ cl86.slots.size ≤ ((zat + (2 : Int32))).toNatClampNeg) := inb_of Sa86 (own_s2 (own_k3 hzat)).1
  obtain ⟨T87, h87, X87, e87, W87, st87⟩ := stJ X80 hx hZ e80 Ar86 (j := (zat + (2 : Int32))) hin86 (g := (mkF m 88 #[.val (.long q0), .second, .val (.long q1), .second, .val (.long q2), .second, .val (.long q3), .second, .val (.long q4), .second, .val (.int p5), .val (.ref b1), .val (.int zat), .val (.ref b11), .unset] [(.long q1), (.int (zat + (2 : Int32))), (.ref b11)])) rfl rfl (hb hby at_88)
  have V87 : Arv Z h87 b11 k11 .long (9 : Int32) (List.set (List.set [(.long q4), (.long q4), (.long q4), (.long q4), (.long q4), (.long q4), (.long q4), (.long q4), (.long q4)] (zat.toNatClampNeg + 1) (.long q0)) (zat.toNatClampNeg + 2) (.long q1)) (.long (0 : Int64)) := (Arv.set Ar86 qa86 Sa86 Na86 Ha86 Ga86 rfl W87 (zat.toNatClampNeg + 2) (own_s2 (own_k3 hzat)).2.1 (by first | exact (own_s2 (own_k3 hzat)).2.2 | (simp only [List.length_set]; exact (own_s2 (own_k3 hzat)).2.2)))
  have f88 := f81.wr W87
  have f89 := Fld.other W87 f82 (Or.inl ne_b1_b11)
  have f90 := Fld.other W87 f83 (Or.inl ne_b1_b11)
  have Z87 : n0 ≤ h87.size := Nat.le_trans Z80 (Nat.le_of_eq W87.size.symm)
  have K87 := K80.wr W87 (Or.inr sz_b11)
  have N87 := Fr.snoc X87 N80 g_b11
  have go87 := go85.step (C := T87.setTop (mkF m 89 #[.val (.long q0), .second, .val (.long q1), .second, .val (.long q2), .second, .val (.long q3), .second, .val (.long q4), .second, .val (.int p5), .val (.ref b1), .val (.int zat), .val (.ref b11), .unset] [])) (fun t k => st87 t k)
  have go92 := go87.step (C := T87.setTop (mkF m 97 #[.val (.long q0), .second, .val (.long q1), .second, .val (.long q2), .second, .val (.long q3), .second, .val (.long q4), .second, .val (.int p5), .val (.ref b1), .val (.int zat), .val (.ref b11), .unset] [(.long q2), (.int (zat + (4 : Int32))), (.ref b11)])) (fun t k => by
    show Steps p.tables e below (T87.setTop (mkF m 89 #[.val (.long q0), .second, .val (.long q1), .second, .val (.long q2), .second, .val (.long q3), .second, .val (.long q4), .second, .val (.int p5), .val (.ref b1), .val (.int zat), .val (.ref b11), .unset] [])) _
    refine XS.aload X87.here hx rfl (hb hby at_89) rfl rfl ?_
    show Steps p.tables e below (T87.setTop (mkF m 91 #[.val (.long q0), .second, .val (.long q1), .second, .val (.long q2), .second, .val (.long q3), .second, .val (.long q4), .second, .val (.int p5), .val (.ref b1), .val (.int zat), .val (.ref b11), .unset] [(.ref b11)])) _
    refine XS.iload X87.here hx rfl (hb hby at_91) rfl ?_
    show Steps p.tables e below (T87.setTop (mkF m 93 #[.val (.long q0), .second, .val (.long q1), .second, .val (.long q2), .second, .val (.long q3), .second, .val (.long q4), .second, .val (.int p5), .val (.ref b1), .val (.int zat), .val (.ref b11), .unset] [(.int zat), (.ref b11)])) _
    refine XS.iconst X87.here hx rfl (hb hby at_93) ?_
    show Steps p.tables e below (T87.setTop (mkF m 94 #[.val (.long q0), .second, .val (.long q1), .second, .val (.long q2), .second, .val (.long q3), .second, .val (.long q4), .second, .val (.int p5), .val (.ref b1), .val (.int zat), .val (.ref b11), .unset] [(.int (4 : Int32)), (.int zat), (.ref b11)])) _
    refine XS.iadd X87.here hx rfl (hb hby at_94) rfl ?_
    show Steps p.tables e below (T87.setTop (mkF m 95 #[.val (.long q0), .second, .val (.long q1), .second, .val (.long q2), .second, .val (.long q3), .second, .val (.long q4), .second, .val (.int p5), .val (.ref b1), .val (.int zat), .val (.ref b11), .unset] [(.int (zat + (4 : Int32))), (.ref b11)])) _
    refine XS.lload X87.here hx rfl (hb hby at_95) rfl ?_
    exact k)
  have Vo93 := V87
  obtain ⟨cl93, Ar93, qa93, Sa93, Na93, Ha93, Ga93⟩ := Vo93
  have hin93 : ¬ ((zat + (4 : Int32)) < 0 ∨ cl93.slots.size ≤ ((zat + (4 : Int32))).toNatClampNeg) := inb_of Sa93 (own_s4 (own_k3 hzat)).1
  obtain ⟨T94, h94, X94, e94, W94, st94⟩ := stJ X87 hx hZ e87 Ar93 (j := (zat + (4 : Int32))) hin93 (g := (mkF m 97 #[.val (.long q0), .second, .val (.long q1), .second, .val (.long q2), .second, .val (.long q3), .second, .val (.long q4), .second, .val (.int p5), .val (.ref b1), .val (.int zat), .val (.ref b11), .unset] [(.long q2), (.int (zat + (4 : Int32))), (.ref b11)])) rfl rfl (hb hby at_97)
  have V94 : Arv Z h94 b11 k11 .long (9 : Int32) (List.set (List.set (List.set [(.long q4), (.long q4), (.long q4), (.long q4), (.long q4), (.long q4), (.long q4), (.long q4), (.long q4)] (zat.toNatClampNeg + 1) (.long q0)) (zat.toNatClampNeg + 2) (.long q1)) (zat.toNatClampNeg + 4) (.long q2)) (.long (0 : Int64)) := (Arv.set Ar93 qa93 Sa93 Na93 Ha93 Ga93 rfl W94 (zat.toNatClampNeg + 4) (own_s4 (own_k3 hzat)).2.1 (by first | exact (own_s4 (own_k3 hzat)).2.2 | (simp only [List.length_set]; exact (own_s4 (own_k3 hzat)).2.2)))
  have f95 := f88.wr W94
  have f96 := Fld.other W94 f89 (Or.inl ne_b1_b11)
  have f97 := Fld.other W94 f90 (Or.inl ne_b1_b11)
  have Z94 : n0 ≤ h94.size := Nat.le_trans Z87 (Nat.le_of_eq W94.size.symm)
  have K94 := K87.wr W94 (Or.inr sz_b11)
  have N94 := Fr.snoc X94 N87 g_b11
  have go94 := go92.step (C := T94.setTop (mkF m 98 #[.val (.long q0), .second, .val (.long q1), .second, .val (.long q2), .second, .val (.long q3), .second, .val (.long q4), .second, .val (.int p5), .val (.ref b1), .val (.int zat), .val (.ref b11), .unset] [])) (fun t k => st94 t k)
  have go99 := go94.step (C := T94.setTop (mkF m 106 #[.val (.long q0), .second, .val (.long q1), .second, .val (.long q2), .second, .val (.long q3), .second, .val (.long q4), .second, .val (.int p5), .val (.ref b1), .val (.int zat), .val (.ref b11), .unset] [(.long q3), (.int (zat + (5 : Int32))), (.ref b11)])) (fun t k => by
    show Steps p.tables e below (T94.setTop (mkF m 98 #[.val (.long q0), .second, .val (.long q1), .second, .val (.long q2), .second, .val (.long q3), .second, .val (.long q4), .second, .val (.int p5), .val (.ref b1), .val (.int zat), .val (.ref b11), .unset] [])) _
    refine XS.aload X94.here hx rfl (hb hby at_98) rfl rfl ?_
    show Steps p.tables e below (T94.setTop (mkF m 100 #[.val (.long q0), .second, .val (.long q1), .second, .val (.long q2), .second, .val (.long q3), .second, .val (.long q4), .second, .val (.int p5), .val (.ref b1), .val (.int zat), .val (.ref b11), .unset] [(.ref b11)])) _
    refine XS.iload X94.here hx rfl (hb hby at_100) rfl ?_
    show Steps p.tables e below (T94.setTop (mkF m 102 #[.val (.long q0), .second, .val (.long q1), .second, .val (.long q2), .second, .val (.long q3), .second, .val (.long q4), .second, .val (.int p5), .val (.ref b1), .val (.int zat), .val (.ref b11), .unset] [(.int zat), (.ref b11)])) _
    refine XS.iconst X94.here hx rfl (hb hby at_102) ?_
    show Steps p.tables e below (T94.setTop (mkF m 103 #[.val (.long q0), .second, .val (.long q1), .second, .val (.long q2), .second, .val (.long q3), .second, .val (.long q4), .second, .val (.int p5), .val (.ref b1), .val (.int zat), .val (.ref b11), .unset] [(.int (5 : Int32)), (.int zat), (.ref b11)])) _
    refine XS.iadd X94.here hx rfl (hb hby at_103) rfl ?_
    show Steps p.tables e below (T94.setTop (mkF m 104 #[.val (.long q0), .second, .val (.long q1), .second, .val (.long q2), .second, .val (.long q3), .second, .val (.long q4), .second, .val (.int p5), .val (.ref b1), .val (.int zat), .val (.ref b11), .unset] [(.int (zat + (5 : Int32))), (.ref b11)])) _
    refine XS.lload X94.here hx rfl (hb hby at_104) rfl ?_
    exact k)
  have Vo100 := V94
  obtain ⟨cl100, Ar100, qa100, Sa100, Na100, Ha100, Ga100⟩ := Vo100
  have hin100 : ¬ ((zat + (5 : Int32)) < 0 ∨ cl100.slots.size ≤ ((zat + (5 : Int32))).toNatClampNeg) := inb_of Sa100 (own_s5 (own_k3 hzat)).1
  obtain ⟨T101, h101, X101, e101, W101, st101⟩ := stJ X94 hx hZ e94 Ar100 (j := (zat + (5 : Int32))) hin100 (g := (mkF m 106 #[.val (.long q0), .second, .val (.long q1), .second, .val (.long q2), .second, .val (.long q3), .second, .val (.long q4), .second, .val (.int p5), .val (.ref b1), .val (.int zat), .val (.ref b11), .unset] [(.long q3), (.int (zat + (5 : Int32))), (.ref b11)])) rfl rfl (hb hby at_106)
  have V101 : Arv Z h101 b11 k11 .long (9 : Int32) (List.set (List.set (List.set (List.set [(.long q4), (.long q4), (.long q4), (.long q4), (.long q4), (.long q4), (.long q4), (.long q4), (.long q4)] (zat.toNatClampNeg + 1) (.long q0)) (zat.toNatClampNeg + 2) (.long q1)) (zat.toNatClampNeg + 4) (.long q2)) (zat.toNatClampNeg + 5) (.long q3)) (.long (0 : Int64)) := (Arv.set Ar100 qa100 Sa100 Na100 Ha100 Ga100 rfl W101 (zat.toNatClampNeg + 5) (own_s5 (own_k3 hzat)).2.1 (by first | exact (own_s5 (own_k3 hzat)).2.2 | (simp only [List.length_set]; exact (own_s5 (own_k3 hzat)).2.2)))
  have f102 := f95.wr W101
  have f103 := Fld.other W101 f96 (Or.inl ne_b1_b11)
  have f104 := Fld.other W101 f97 (Or.inl ne_b1_b11)
  have Z101 : n0 ≤ h101.size := Nat.le_trans Z94 (Nat.le_of_eq W101.size.symm)
  have K101 := K94.wr W101 (Or.inr sz_b11)
  have N101 := Fr.snoc X101 N94 g_b11
  have go101 := go99.step (C := T101.setTop (mkF m 107 #[.val (.long q0), .second, .val (.long q1), .second, .val (.long q2), .second, .val (.long q3), .second, .val (.long q4), .second, .val (.int p5), .val (.ref b1), .val (.int zat), .val (.ref b11), .unset] [])) (fun t k => st101 t k)
  have go106 := go101.step (C := T101.setTop (mkF m 108 #[.val (.long q0), .second, .val (.long q1), .second, .val (.long q2), .second, .val (.long q3), .second, .val (.long q4), .second, .val (.int p5), .val (.ref b1), .val (.int zat), .val (.ref b11), .unset] [(.long q0)])) (fun t k => by
    show Steps p.tables e below (T101.setTop (mkF m 107 #[.val (.long q0), .second, .val (.long q1), .second, .val (.long q2), .second, .val (.long q3), .second, .val (.long q4), .second, .val (.int p5), .val (.ref b1), .val (.int zat), .val (.ref b11), .unset] [])) _
    refine XS.lloadN X101.here hx rfl (hb hby at_107) rfl ?_
    exact k)
  obtain ⟨_, _, ⟨T107, L107, k107, n107⟩, -, X107, ⟨Lc107, hQ107, l107, y107, z107⟩, st107⟩ := Jvm.LawKit.callS X101 hx (y := (⟨"sketchspan/sketch/PairSamplerIsStatePinLaw", "residue", "(J)Z"⟩ : MethodName)) hown (mvT hZ (hw _ (List.mem_of_getElem? (i := 42) rfl))) (mvT hZ (hw _ (List.mem_of_getElem? (i := 43) rfl))) (mvT hZ (hw _ (List.mem_of_getElem? (i := 44) rfl))) (mvT hZ (hw _ (List.mem_of_getElem? (i := 45) rfl))) (by decide) (backOf (W := 0) (rm8 l Z a0 hw [] q0 h101 n0 Z101 ) hZ (hw _ (List.mem_of_getElem? (i := 45) rfl)) (hw _ (List.mem_of_getElem? (i := 44) rfl)) (by decide) (by decide)) (g := (mkF m 108 #[.val (.long q0), .second, .val (.long q1), .second, .val (.long q2), .second, .val (.long q3), .second, .val (.long q4), .second, .val (.int p5), .val (.ref b1), .val (.int zat), .val (.ref b11), .unset] [(.long q0)])) rfl (by rw [hml]; rfl) (argsL := [(.long q0)]) (rest := []) (lenOf pd_rm0_1 rfl) rfl (by show 2 * 0 + _ ≤ _; exact Nat.le_of_eq rfl) (hb hby at_108) (fun _ _ => ⟨rfl, e101, (by decide : 4 + 0 ≤ _), (by decide : 15 + 0 ≤ _)⟩)
  dsimp only [Pt.U, Pt.locs, Pt.cells, Pt.slots] at X107 l107 y107 z107 st107 hQ107
  rw [l107, y107, z107] at X107
  obtain ⟨rfl, N107q, e107⟩ := hQ107
  have N107 := Fr.app N101 N107q
  have go107 := go106.step (C := T107.setTop (mkF m 111 #[.val (.long q0), .second, .val (.long q1), .second, .val (.long q2), .second, .val (.long q3), .second, .val (.long q4), .second, .val (.int p5), .val (.ref b1), .val (.int zat), .val (.ref b11), .unset] [(.int (own_res q0))])) (fun t k => st107 t k)
  by_cases hc108 : (own_res q0) = (0 : Int32)
  · skip
    have go109 := go107.step (C := T107.setTop (mkF m 150 #[.val (.long q0), .second, .val (.long q1), .second, .val (.long q2), .second, .val (.long q3), .second, .val (.long q4), .second, .val (.int p5), .val (.ref b1), .val (.int zat), .val (.ref b11), .val (.int (0 : Int32))] [(.int zat), (.ref b11), (.ref b1)])) (fun t k => by
      show Steps p.tables e below (T107.setTop (mkF m 111 #[.val (.long q0), .second, .val (.long q1), .second, .val (.long q2), .second, .val (.long q3), .second, .val (.long q4), .second, .val (.int p5), .val (.ref b1), .val (.int zat), .val (.ref b11), .unset] [(.int (own_res q0))])) _
      refine XS.ifYes X107.here hx rfl (pc0 := 111) (pc' := 141) rfl (hb hby at_111) rfl ((if0 _ _).trans (teq hc108).1) (by decide) (by decide) ?_
      show Steps p.tables e below (T107.setTop (mkF m 141 #[.val (.long q0), .second, .val (.long q1), .second, .val (.long q2), .second, .val (.long q3), .second, .val (.long q4), .second, .val (.int p5), .val (.ref b1), .val (.int zat), .val (.ref b11), .unset] [])) _
      refine XS.iconst X107.here hx rfl (hb hby at_141) ?_
      show Steps p.tables e below (T107.setTop (mkF m 142 #[.val (.long q0), .second, .val (.long q1), .second, .val (.long q2), .second, .val (.long q3), .second, .val (.long q4), .second, .val (.int p5), .val (.ref b1), .val (.int zat), .val (.ref b11), .unset] [(.int (0 : Int32))])) _
      refine XS.istore X107.here hx rfl (hb hby at_142) rfl (l' := #[.val (.long q0), .second, .val (.long q1), .second, .val (.long q2), .second, .val (.long q3), .second, .val (.long q4), .second, .val (.int p5), .val (.ref b1), .val (.int zat), .val (.ref b11), .val (.int (0 : Int32))]) rfl ?_
      show Steps p.tables e below (T107.setTop (mkF m 144 #[.val (.long q0), .second, .val (.long q1), .second, .val (.long q2), .second, .val (.long q3), .second, .val (.long q4), .second, .val (.int p5), .val (.ref b1), .val (.int zat), .val (.ref b11), .val (.int (0 : Int32))] [])) _
      refine XS.aload X107.here hx rfl (hb hby at_144) rfl rfl ?_
      show Steps p.tables e below (T107.setTop (mkF m 146 #[.val (.long q0), .second, .val (.long q1), .second, .val (.long q2), .second, .val (.long q3), .second, .val (.long q4), .second, .val (.int p5), .val (.ref b1), .val (.int zat), .val (.ref b11), .val (.int (0 : Int32))] [(.ref b1)])) _
      refine XS.aload X107.here hx rfl (hb hby at_146) rfl rfl ?_
      show Steps p.tables e below (T107.setTop (mkF m 148 #[.val (.long q0), .second, .val (.long q1), .second, .val (.long q2), .second, .val (.long q3), .second, .val (.long q4), .second, .val (.int p5), .val (.ref b1), .val (.int zat), .val (.ref b11), .val (.int (0 : Int32))] [(.ref b11), (.ref b1)])) _
      refine XS.iload X107.here hx rfl (hb hby at_148) rfl ?_
      exact k)
    obtain ⟨cq110, kq110, q110a, q110b, q110c⟩ := isOf hZ e107 f102
    obtain ⟨_, _, ⟨T110, L110, k110, n110⟩, -, X110, ⟨Lc110, hQ110, l110, y110, z110⟩, st110⟩ := X107.virtualBack hx (y := (⟨"sketchspan/sketch/PairSampler", "isState", "([JI)Z"⟩ : MethodName)) (z := (⟨"sketchspan/sketch/PairSampler", "isState", "([JI)Z"⟩ : MethodName)) hown (mvT hZ (hw _ (List.mem_of_getElem? (i := 47) rfl))) (mvT hZ (hw _ (List.mem_of_getElem? (i := 48) rfl))) (notFace_of_selects (args := #[]) (mvT hZ (hw _ (List.mem_of_getElem? (i := 50) rfl)))) (mvT hZ (hw _ (List.mem_of_getElem? (i := 50) rfl))) (mvT hZ (hw _ (List.mem_of_getElem? (i := 49) rfl))) (by decide) (backOf (W := 0) (rm9 l Z a0 hw [] b1 b11 zat k11 (List.set (List.set (List.set (List.set [(.long q4), (.long q4), (.long q4), (.long q4), (.long q4), (.long q4), (.long q4), (.long q4), (.long q4)] (zat.toNatClampNeg + 1) (.long q0)) (zat.toNatClampNeg + 2) (.long q1)) (zat.toNatClampNeg + 4) (.long q2)) (zat.toNatClampNeg + 5) (.long q3)) q0 q1 q2 q3 h101 n0 Z101 V101 f104 (own_cells (own_k3 hzat) q4 q0 q1 q2 q3)) hZ (hw _ (List.mem_of_getElem? (i := 51) rfl)) (hw _ (List.mem_of_getElem? (i := 2) rfl)) (by decide) (by decide)) q110a q110c (g := (mkF m 150 #[.val (.long q0), .second, .val (.long q1), .second, .val (.long q2), .second, .val (.long q3), .second, .val (.long q4), .second, .val (.int p5), .val (.ref b1), .val (.int zat), .val (.ref b11), .val (.int (0 : Int32))] [(.int zat), (.ref b11), (.ref b1)])) rfl (by rw [hml]; rfl) (Steps.refl _) (argsL := [(.ref b11), (.int zat)]) (rest := []) (lenOf pd_rm0_2 rfl) rfl (by show 2 * 0 + _ ≤ _; exact Nat.le_of_eq rfl) (hb hby at_150) (fun _ _ => ⟨rfl, e107, (by decide : 4 + 0 ≤ _), (by decide : 15 + 0 ≤ _)⟩)
    dsimp only [Pt.U, Pt.locs, Pt.cells, Pt.slots] at X110 l110 y110 z110 st110 hQ110
    rw [l110, y110, z110] at X110
    obtain ⟨rfl, N110q, e110⟩ := hQ110
    have N110 := Fr.app N107 N110q
    have go110 := go109.tr (C := T110.setTop (mkF m 153 #[.val (.long q0), .second, .val (.long q1), .second, .val (.long q2), .second, .val (.long q3), .second, .val (.long q4), .second, .val (.int p5), .val (.ref b1), .val (.int zat), .val (.ref b11), .val (.int (0 : Int32))] [(.int (own_isS q0 q1 q2 q3))])) st110
    have go112 := go110.step (C := T110.setTop (mkF m 163 #[.val (.long q0), .second, .val (.long q1), .second, .val (.long q2), .second, .val (.long q3), .second, .val (.long q4), .second, .val (.int p5), .val (.ref b1), .val (.int zat), .val (.ref b11), .val (.int (0 : Int32))] [(.int (1 : Int32))])) (fun t k => by
      show Steps p.tables e below (T110.setTop (mkF m 153 #[.val (.long q0), .second, .val (.long q1), .second, .val (.long q2), .second, .val (.long q3), .second, .val (.long q4), .second, .val (.int p5), .val (.ref b1), .val (.int zat), .val (.ref b11), .val (.int (0 : Int32))] [(.int (own_isS q0 q1 q2 q3))])) _
      refine XS.iload X110.here hx rfl (hb hby at_153) rfl ?_
      show Steps p.tables e below (T110.setTop (mkF m 155 #[.val (.long q0), .second, .val (.long q1), .second, .val (.long q2), .second, .val (.long q3), .second, .val (.long q4), .second, .val (.int p5), .val (.ref b1), .val (.int zat), .val (.ref b11), .val (.int (0 : Int32))] [(.int (0 : Int32)), (.int (own_isS q0 q1 q2 q3))])) _
      refine XS.icmpNo X110.here hx rfl (hb hby at_155) rfl (teq ((own_eqv _ _ _ _).trans (by simp only [if_pos hc108]) : (own_isS q0 q1 q2 q3) = (0 : Int32))).2 ?_
      show Steps p.tables e below (T110.setTop (mkF m 158 #[.val (.long q0), .second, .val (.long q1), .second, .val (.long q2), .second, .val (.long q3), .second, .val (.long q4), .second, .val (.int p5), .val (.ref b1), .val (.int zat), .val (.ref b11), .val (.int (0 : Int32))] [])) _
      refine XS.iconst X110.here hx rfl (hb hby at_158) ?_
      show Steps p.tables e below (T110.setTop (mkF m 159 #[.val (.long q0), .second, .val (.long q1), .second, .val (.long q2), .second, .val (.long q3), .second, .val (.long q4), .second, .val (.int p5), .val (.ref b1), .val (.int zat), .val (.ref b11), .val (.int (0 : Int32))] [(.int (1 : Int32))])) _
      refine XS.goto X110.here hx rfl (pc0 := 159) (pc' := 163) rfl (hb hby at_159) (by decide) (by decide) ?_
      exact k)
    obtain ⟨fs, hr, hrun, hended, hW, hsame⟩ := X110.leave (v := some (.int (1 : Int32))) (fun h => by rw [Bd.returns] at h; cases h)
    refine ⟨_, _, go112 _ ?_, hrun, hended, _, _, rfl, ?_, ⟨_, rfl⟩, hW, hsame.mono (by decide) (by decide)⟩
    · exact retN X110 hx (t := .boolean) Bd.returns (by simp) (hb hby at_163) hr
    · show Q_rm0 Z q0 q1 q2 q3 q4 p5 h0 n0 _ T110.heap _
      rw [e110]
      exact ⟨rfl, N110⟩
  · skip
    have go113 := go107.step (C := T107.setTop (mkF m 115 #[.val (.long q0), .second, .val (.long q1), .second, .val (.long q2), .second, .val (.long q3), .second, .val (.long q4), .second, .val (.int p5), .val (.ref b1), .val (.int zat), .val (.ref b11), .unset] [(.long q1)])) (fun t k => by
      show Steps p.tables e below (T107.setTop (mkF m 111 #[.val (.long q0), .second, .val (.long q1), .second, .val (.long q2), .second, .val (.long q3), .second, .val (.long q4), .second, .val (.int p5), .val (.ref b1), .val (.int zat), .val (.ref b11), .unset] [(.int (own_res q0))])) _
      refine XS.ifNo X107.here hx rfl (hb hby at_111) rfl ((if0 _ _).trans (feq hc108).1) ?_
      show Steps p.tables e below (T107.setTop (mkF m 114 #[.val (.long q0), .second, .val (.long q1), .second, .val (.long q2), .second, .val (.long q3), .second, .val (.long q4), .second, .val (.int p5), .val (.ref b1), .val (.int zat), .val (.ref b11), .unset] [])) _
      refine XS.lloadN X107.here hx rfl (hb hby at_114) rfl ?_
      exact k)
    obtain ⟨_, _, ⟨T114, L114, k114, n114⟩, -, X114, ⟨Lc114, hQ114, l114, y114, z114⟩, st114⟩ := Jvm.LawKit.callS X107 hx (y := (⟨"sketchspan/sketch/PairSamplerIsStatePinLaw", "residue", "(J)Z"⟩ : MethodName)) hown (mvT hZ (hw _ (List.mem_of_getElem? (i := 42) rfl))) (mvT hZ (hw _ (List.mem_of_getElem? (i := 43) rfl))) (mvT hZ (hw _ (List.mem_of_getElem? (i := 44) rfl))) (mvT hZ (hw _ (List.mem_of_getElem? (i := 45) rfl))) (by decide) (backOf (W := 0) (rm8 l Z a0 hw [] q1 h101 n0 Z101 ) hZ (hw _ (List.mem_of_getElem? (i := 45) rfl)) (hw _ (List.mem_of_getElem? (i := 44) rfl)) (by decide) (by decide)) (g := (mkF m 115 #[.val (.long q0), .second, .val (.long q1), .second, .val (.long q2), .second, .val (.long q3), .second, .val (.long q4), .second, .val (.int p5), .val (.ref b1), .val (.int zat), .val (.ref b11), .unset] [(.long q1)])) rfl (by rw [hml]; rfl) (argsL := [(.long q1)]) (rest := []) (lenOf pd_rm0_1 rfl) rfl (by show 2 * 0 + _ ≤ _; exact Nat.le_of_eq rfl) (hb hby at_115) (fun _ _ => ⟨rfl, e107, (by decide : 4 + 0 ≤ _), (by decide : 15 + 0 ≤ _)⟩)
    dsimp only [Pt.U, Pt.locs, Pt.cells, Pt.slots] at X114 l114 y114 z114 st114 hQ114
    rw [l114, y114, z114] at X114
    obtain ⟨rfl, N114q, e114⟩ := hQ114
    have N114 := Fr.app N107 N114q
    have go114 := go113.step (C := T114.setTop (mkF m 118 #[.val (.long q0), .second, .val (.long q1), .second, .val (.long q2), .second, .val (.long q3), .second, .val (.long q4), .second, .val (.int p5), .val (.ref b1), .val (.int zat), .val (.ref b11), .unset] [(.int (own_res q1))])) (fun t k => st114 t k)
    by_cases hc115 : (own_res q1) = (0 : Int32)
    · skip
      have go116 := go114.step (C := T114.setTop (mkF m 150 #[.val (.long q0), .second, .val (.long q1), .second, .val (.long q2), .second, .val (.long q3), .second, .val (.long q4), .second, .val (.int p5), .val (.ref b1), .val (.int zat), .val (.ref b11), .val (.int (0 : Int32))] [(.int zat), (.ref b11), (.ref b1)])) (fun t k => by
        show Steps p.tables e below (T114.setTop (mkF m 118 #[.val (.long q0), .second, .val (.long q1), .second, .val (.long q2), .second, .val (.long q3), .second, .val (.long q4), .second, .val (.int p5), .val (.ref b1), .val (.int zat), .val (.ref b11), .unset] [(.int (own_res q1))])) _
        refine XS.ifYes X114.here hx rfl (pc0 := 118) (pc' := 141) rfl (hb hby at_118) rfl ((if0 _ _).trans (teq hc115).1) (by decide) (by decide) ?_
        show Steps p.tables e below (T114.setTop (mkF m 141 #[.val (.long q0), .second, .val (.long q1), .second, .val (.long q2), .second, .val (.long q3), .second, .val (.long q4), .second, .val (.int p5), .val (.ref b1), .val (.int zat), .val (.ref b11), .unset] [])) _
        refine XS.iconst X114.here hx rfl (hb hby at_141) ?_
        show Steps p.tables e below (T114.setTop (mkF m 142 #[.val (.long q0), .second, .val (.long q1), .second, .val (.long q2), .second, .val (.long q3), .second, .val (.long q4), .second, .val (.int p5), .val (.ref b1), .val (.int zat), .val (.ref b11), .unset] [(.int (0 : Int32))])) _
        refine XS.istore X114.here hx rfl (hb hby at_142) rfl (l' := #[.val (.long q0), .second, .val (.long q1), .second, .val (.long q2), .second, .val (.long q3), .second, .val (.long q4), .second, .val (.int p5), .val (.ref b1), .val (.int zat), .val (.ref b11), .val (.int (0 : Int32))]) rfl ?_
        show Steps p.tables e below (T114.setTop (mkF m 144 #[.val (.long q0), .second, .val (.long q1), .second, .val (.long q2), .second, .val (.long q3), .second, .val (.long q4), .second, .val (.int p5), .val (.ref b1), .val (.int zat), .val (.ref b11), .val (.int (0 : Int32))] [])) _
        refine XS.aload X114.here hx rfl (hb hby at_144) rfl rfl ?_
        show Steps p.tables e below (T114.setTop (mkF m 146 #[.val (.long q0), .second, .val (.long q1), .second, .val (.long q2), .second, .val (.long q3), .second, .val (.long q4), .second, .val (.int p5), .val (.ref b1), .val (.int zat), .val (.ref b11), .val (.int (0 : Int32))] [(.ref b1)])) _
        refine XS.aload X114.here hx rfl (hb hby at_146) rfl rfl ?_
        show Steps p.tables e below (T114.setTop (mkF m 148 #[.val (.long q0), .second, .val (.long q1), .second, .val (.long q2), .second, .val (.long q3), .second, .val (.long q4), .second, .val (.int p5), .val (.ref b1), .val (.int zat), .val (.ref b11), .val (.int (0 : Int32))] [(.ref b11), (.ref b1)])) _
        refine XS.iload X114.here hx rfl (hb hby at_148) rfl ?_
        exact k)
      obtain ⟨cq117, kq117, q117a, q117b, q117c⟩ := isOf hZ e114 f102
      obtain ⟨_, _, ⟨T117, L117, k117, n117⟩, -, X117, ⟨Lc117, hQ117, l117, y117, z117⟩, st117⟩ := X114.virtualBack hx (y := (⟨"sketchspan/sketch/PairSampler", "isState", "([JI)Z"⟩ : MethodName)) (z := (⟨"sketchspan/sketch/PairSampler", "isState", "([JI)Z"⟩ : MethodName)) hown (mvT hZ (hw _ (List.mem_of_getElem? (i := 47) rfl))) (mvT hZ (hw _ (List.mem_of_getElem? (i := 48) rfl))) (notFace_of_selects (args := #[]) (mvT hZ (hw _ (List.mem_of_getElem? (i := 50) rfl)))) (mvT hZ (hw _ (List.mem_of_getElem? (i := 50) rfl))) (mvT hZ (hw _ (List.mem_of_getElem? (i := 49) rfl))) (by decide) (backOf (W := 0) (rm9 l Z a0 hw [] b1 b11 zat k11 (List.set (List.set (List.set (List.set [(.long q4), (.long q4), (.long q4), (.long q4), (.long q4), (.long q4), (.long q4), (.long q4), (.long q4)] (zat.toNatClampNeg + 1) (.long q0)) (zat.toNatClampNeg + 2) (.long q1)) (zat.toNatClampNeg + 4) (.long q2)) (zat.toNatClampNeg + 5) (.long q3)) q0 q1 q2 q3 h101 n0 Z101 V101 f104 (own_cells (own_k3 hzat) q4 q0 q1 q2 q3)) hZ (hw _ (List.mem_of_getElem? (i := 51) rfl)) (hw _ (List.mem_of_getElem? (i := 2) rfl)) (by decide) (by decide)) q117a q117c (g := (mkF m 150 #[.val (.long q0), .second, .val (.long q1), .second, .val (.long q2), .second, .val (.long q3), .second, .val (.long q4), .second, .val (.int p5), .val (.ref b1), .val (.int zat), .val (.ref b11), .val (.int (0 : Int32))] [(.int zat), (.ref b11), (.ref b1)])) rfl (by rw [hml]; rfl) (Steps.refl _) (argsL := [(.ref b11), (.int zat)]) (rest := []) (lenOf pd_rm0_2 rfl) rfl (by show 2 * 0 + _ ≤ _; exact Nat.le_of_eq rfl) (hb hby at_150) (fun _ _ => ⟨rfl, e114, (by decide : 4 + 0 ≤ _), (by decide : 15 + 0 ≤ _)⟩)
      dsimp only [Pt.U, Pt.locs, Pt.cells, Pt.slots] at X117 l117 y117 z117 st117 hQ117
      rw [l117, y117, z117] at X117
      obtain ⟨rfl, N117q, e117⟩ := hQ117
      have N117 := Fr.app N114 N117q
      have go117 := go116.tr (C := T117.setTop (mkF m 153 #[.val (.long q0), .second, .val (.long q1), .second, .val (.long q2), .second, .val (.long q3), .second, .val (.long q4), .second, .val (.int p5), .val (.ref b1), .val (.int zat), .val (.ref b11), .val (.int (0 : Int32))] [(.int (own_isS q0 q1 q2 q3))])) st117
      have go119 := go117.step (C := T117.setTop (mkF m 163 #[.val (.long q0), .second, .val (.long q1), .second, .val (.long q2), .second, .val (.long q3), .second, .val (.long q4), .second, .val (.int p5), .val (.ref b1), .val (.int zat), .val (.ref b11), .val (.int (0 : Int32))] [(.int (1 : Int32))])) (fun t k => by
        show Steps p.tables e below (T117.setTop (mkF m 153 #[.val (.long q0), .second, .val (.long q1), .second, .val (.long q2), .second, .val (.long q3), .second, .val (.long q4), .second, .val (.int p5), .val (.ref b1), .val (.int zat), .val (.ref b11), .val (.int (0 : Int32))] [(.int (own_isS q0 q1 q2 q3))])) _
        refine XS.iload X117.here hx rfl (hb hby at_153) rfl ?_
        show Steps p.tables e below (T117.setTop (mkF m 155 #[.val (.long q0), .second, .val (.long q1), .second, .val (.long q2), .second, .val (.long q3), .second, .val (.long q4), .second, .val (.int p5), .val (.ref b1), .val (.int zat), .val (.ref b11), .val (.int (0 : Int32))] [(.int (0 : Int32)), (.int (own_isS q0 q1 q2 q3))])) _
        refine XS.icmpNo X117.here hx rfl (hb hby at_155) rfl (teq ((own_eqv _ _ _ _).trans (by simp only [if_neg hc108, if_pos hc115]) : (own_isS q0 q1 q2 q3) = (0 : Int32))).2 ?_
        show Steps p.tables e below (T117.setTop (mkF m 158 #[.val (.long q0), .second, .val (.long q1), .second, .val (.long q2), .second, .val (.long q3), .second, .val (.long q4), .second, .val (.int p5), .val (.ref b1), .val (.int zat), .val (.ref b11), .val (.int (0 : Int32))] [])) _
        refine XS.iconst X117.here hx rfl (hb hby at_158) ?_
        show Steps p.tables e below (T117.setTop (mkF m 159 #[.val (.long q0), .second, .val (.long q1), .second, .val (.long q2), .second, .val (.long q3), .second, .val (.long q4), .second, .val (.int p5), .val (.ref b1), .val (.int zat), .val (.ref b11), .val (.int (0 : Int32))] [(.int (1 : Int32))])) _
        refine XS.goto X117.here hx rfl (pc0 := 159) (pc' := 163) rfl (hb hby at_159) (by decide) (by decide) ?_
        exact k)
      obtain ⟨fs, hr, hrun, hended, hW, hsame⟩ := X117.leave (v := some (.int (1 : Int32))) (fun h => by rw [Bd.returns] at h; cases h)
      refine ⟨_, _, go119 _ ?_, hrun, hended, _, _, rfl, ?_, ⟨_, rfl⟩, hW, hsame.mono (by decide) (by decide)⟩
      · exact retN X117 hx (t := .boolean) Bd.returns (by simp) (hb hby at_163) hr
      · show Q_rm0 Z q0 q1 q2 q3 q4 p5 h0 n0 _ T117.heap _
        rw [e117]
        exact ⟨rfl, N117⟩
    · skip
      have go120 := go114.step (C := T114.setTop (mkF m 123 #[.val (.long q0), .second, .val (.long q1), .second, .val (.long q2), .second, .val (.long q3), .second, .val (.long q4), .second, .val (.int p5), .val (.ref b1), .val (.int zat), .val (.ref b11), .unset] [(.long q2)])) (fun t k => by
        show Steps p.tables e below (T114.setTop (mkF m 118 #[.val (.long q0), .second, .val (.long q1), .second, .val (.long q2), .second, .val (.long q3), .second, .val (.long q4), .second, .val (.int p5), .val (.ref b1), .val (.int zat), .val (.ref b11), .unset] [(.int (own_res q1))])) _
        refine XS.ifNo X114.here hx rfl (hb hby at_118) rfl ((if0 _ _).trans (feq hc115).1) ?_
        show Steps p.tables e below (T114.setTop (mkF m 121 #[.val (.long q0), .second, .val (.long q1), .second, .val (.long q2), .second, .val (.long q3), .second, .val (.long q4), .second, .val (.int p5), .val (.ref b1), .val (.int zat), .val (.ref b11), .unset] [])) _
        refine XS.lload X114.here hx rfl (hb hby at_121) rfl ?_
        exact k)
      obtain ⟨_, _, ⟨T121, L121, k121, n121⟩, -, X121, ⟨Lc121, hQ121, l121, y121, z121⟩, st121⟩ := Jvm.LawKit.callS X114 hx (y := (⟨"sketchspan/sketch/PairSamplerIsStatePinLaw", "residue", "(J)Z"⟩ : MethodName)) hown (mvT hZ (hw _ (List.mem_of_getElem? (i := 42) rfl))) (mvT hZ (hw _ (List.mem_of_getElem? (i := 43) rfl))) (mvT hZ (hw _ (List.mem_of_getElem? (i := 44) rfl))) (mvT hZ (hw _ (List.mem_of_getElem? (i := 45) rfl))) (by decide) (backOf (W := 0) (rm8 l Z a0 hw [] q2 h101 n0 Z101 ) hZ (hw _ (List.mem_of_getElem? (i := 45) rfl)) (hw _ (List.mem_of_getElem? (i := 44) rfl)) (by decide) (by decide)) (g := (mkF m 123 #[.val (.long q0), .second, .val (.long q1), .second, .val (.long q2), .second, .val (.long q3), .second, .val (.long q4), .second, .val (.int p5), .val (.ref b1), .val (.int zat), .val (.ref b11), .unset] [(.long q2)])) rfl (by rw [hml]; rfl) (argsL := [(.long q2)]) (rest := []) (lenOf pd_rm0_1 rfl) rfl (by show 2 * 0 + _ ≤ _; exact Nat.le_of_eq rfl) (hb hby at_123) (fun _ _ => ⟨rfl, e114, (by decide : 4 + 0 ≤ _), (by decide : 15 + 0 ≤ _)⟩)
      dsimp only [Pt.U, Pt.locs, Pt.cells, Pt.slots] at X121 l121 y121 z121 st121 hQ121
      rw [l121, y121, z121] at X121
      obtain ⟨rfl, N121q, e121⟩ := hQ121
      have N121 := Fr.app N114 N121q
      have go121 := go120.step (C := T121.setTop (mkF m 126 #[.val (.long q0), .second, .val (.long q1), .second, .val (.long q2), .second, .val (.long q3), .second, .val (.long q4), .second, .val (.int p5), .val (.ref b1), .val (.int zat), .val (.ref b11), .unset] [(.int (own_res q2))])) (fun t k => st121 t k)
      by_cases hc122 : (own_res q2) = (0 : Int32)
      · skip
        have go123 := go121.step (C := T121.setTop (mkF m 150 #[.val (.long q0), .second, .val (.long q1), .second, .val (.long q2), .second, .val (.long q3), .second, .val (.long q4), .second, .val (.int p5), .val (.ref b1), .val (.int zat), .val (.ref b11), .val (.int (0 : Int32))] [(.int zat), (.ref b11), (.ref b1)])) (fun t k => by
          show Steps p.tables e below (T121.setTop (mkF m 126 #[.val (.long q0), .second, .val (.long q1), .second, .val (.long q2), .second, .val (.long q3), .second, .val (.long q4), .second, .val (.int p5), .val (.ref b1), .val (.int zat), .val (.ref b11), .unset] [(.int (own_res q2))])) _
          refine XS.ifYes X121.here hx rfl (pc0 := 126) (pc' := 141) rfl (hb hby at_126) rfl ((if0 _ _).trans (teq hc122).1) (by decide) (by decide) ?_
          show Steps p.tables e below (T121.setTop (mkF m 141 #[.val (.long q0), .second, .val (.long q1), .second, .val (.long q2), .second, .val (.long q3), .second, .val (.long q4), .second, .val (.int p5), .val (.ref b1), .val (.int zat), .val (.ref b11), .unset] [])) _
          refine XS.iconst X121.here hx rfl (hb hby at_141) ?_
          show Steps p.tables e below (T121.setTop (mkF m 142 #[.val (.long q0), .second, .val (.long q1), .second, .val (.long q2), .second, .val (.long q3), .second, .val (.long q4), .second, .val (.int p5), .val (.ref b1), .val (.int zat), .val (.ref b11), .unset] [(.int (0 : Int32))])) _
          refine XS.istore X121.here hx rfl (hb hby at_142) rfl (l' := #[.val (.long q0), .second, .val (.long q1), .second, .val (.long q2), .second, .val (.long q3), .second, .val (.long q4), .second, .val (.int p5), .val (.ref b1), .val (.int zat), .val (.ref b11), .val (.int (0 : Int32))]) rfl ?_
          show Steps p.tables e below (T121.setTop (mkF m 144 #[.val (.long q0), .second, .val (.long q1), .second, .val (.long q2), .second, .val (.long q3), .second, .val (.long q4), .second, .val (.int p5), .val (.ref b1), .val (.int zat), .val (.ref b11), .val (.int (0 : Int32))] [])) _
          refine XS.aload X121.here hx rfl (hb hby at_144) rfl rfl ?_
          show Steps p.tables e below (T121.setTop (mkF m 146 #[.val (.long q0), .second, .val (.long q1), .second, .val (.long q2), .second, .val (.long q3), .second, .val (.long q4), .second, .val (.int p5), .val (.ref b1), .val (.int zat), .val (.ref b11), .val (.int (0 : Int32))] [(.ref b1)])) _
          refine XS.aload X121.here hx rfl (hb hby at_146) rfl rfl ?_
          show Steps p.tables e below (T121.setTop (mkF m 148 #[.val (.long q0), .second, .val (.long q1), .second, .val (.long q2), .second, .val (.long q3), .second, .val (.long q4), .second, .val (.int p5), .val (.ref b1), .val (.int zat), .val (.ref b11), .val (.int (0 : Int32))] [(.ref b11), (.ref b1)])) _
          refine XS.iload X121.here hx rfl (hb hby at_148) rfl ?_
          exact k)
        obtain ⟨cq124, kq124, q124a, q124b, q124c⟩ := isOf hZ e121 f102
        obtain ⟨_, _, ⟨T124, L124, k124, n124⟩, -, X124, ⟨Lc124, hQ124, l124, y124, z124⟩, st124⟩ := X121.virtualBack hx (y := (⟨"sketchspan/sketch/PairSampler", "isState", "([JI)Z"⟩ : MethodName)) (z := (⟨"sketchspan/sketch/PairSampler", "isState", "([JI)Z"⟩ : MethodName)) hown (mvT hZ (hw _ (List.mem_of_getElem? (i := 47) rfl))) (mvT hZ (hw _ (List.mem_of_getElem? (i := 48) rfl))) (notFace_of_selects (args := #[]) (mvT hZ (hw _ (List.mem_of_getElem? (i := 50) rfl)))) (mvT hZ (hw _ (List.mem_of_getElem? (i := 50) rfl))) (mvT hZ (hw _ (List.mem_of_getElem? (i := 49) rfl))) (by decide) (backOf (W := 0) (rm9 l Z a0 hw [] b1 b11 zat k11 (List.set (List.set (List.set (List.set [(.long q4), (.long q4), (.long q4), (.long q4), (.long q4), (.long q4), (.long q4), (.long q4), (.long q4)] (zat.toNatClampNeg + 1) (.long q0)) (zat.toNatClampNeg + 2) (.long q1)) (zat.toNatClampNeg + 4) (.long q2)) (zat.toNatClampNeg + 5) (.long q3)) q0 q1 q2 q3 h101 n0 Z101 V101 f104 (own_cells (own_k3 hzat) q4 q0 q1 q2 q3)) hZ (hw _ (List.mem_of_getElem? (i := 51) rfl)) (hw _ (List.mem_of_getElem? (i := 2) rfl)) (by decide) (by decide)) q124a q124c (g := (mkF m 150 #[.val (.long q0), .second, .val (.long q1), .second, .val (.long q2), .second, .val (.long q3), .second, .val (.long q4), .second, .val (.int p5), .val (.ref b1), .val (.int zat), .val (.ref b11), .val (.int (0 : Int32))] [(.int zat), (.ref b11), (.ref b1)])) rfl (by rw [hml]; rfl) (Steps.refl _) (argsL := [(.ref b11), (.int zat)]) (rest := []) (lenOf pd_rm0_2 rfl) rfl (by show 2 * 0 + _ ≤ _; exact Nat.le_of_eq rfl) (hb hby at_150) (fun _ _ => ⟨rfl, e121, (by decide : 4 + 0 ≤ _), (by decide : 15 + 0 ≤ _)⟩)
        dsimp only [Pt.U, Pt.locs, Pt.cells, Pt.slots] at X124 l124 y124 z124 st124 hQ124
        rw [l124, y124, z124] at X124
        obtain ⟨rfl, N124q, e124⟩ := hQ124
        have N124 := Fr.app N121 N124q
        have go124 := go123.tr (C := T124.setTop (mkF m 153 #[.val (.long q0), .second, .val (.long q1), .second, .val (.long q2), .second, .val (.long q3), .second, .val (.long q4), .second, .val (.int p5), .val (.ref b1), .val (.int zat), .val (.ref b11), .val (.int (0 : Int32))] [(.int (own_isS q0 q1 q2 q3))])) st124
        have go126 := go124.step (C := T124.setTop (mkF m 163 #[.val (.long q0), .second, .val (.long q1), .second, .val (.long q2), .second, .val (.long q3), .second, .val (.long q4), .second, .val (.int p5), .val (.ref b1), .val (.int zat), .val (.ref b11), .val (.int (0 : Int32))] [(.int (1 : Int32))])) (fun t k => by
          show Steps p.tables e below (T124.setTop (mkF m 153 #[.val (.long q0), .second, .val (.long q1), .second, .val (.long q2), .second, .val (.long q3), .second, .val (.long q4), .second, .val (.int p5), .val (.ref b1), .val (.int zat), .val (.ref b11), .val (.int (0 : Int32))] [(.int (own_isS q0 q1 q2 q3))])) _
          refine XS.iload X124.here hx rfl (hb hby at_153) rfl ?_
          show Steps p.tables e below (T124.setTop (mkF m 155 #[.val (.long q0), .second, .val (.long q1), .second, .val (.long q2), .second, .val (.long q3), .second, .val (.long q4), .second, .val (.int p5), .val (.ref b1), .val (.int zat), .val (.ref b11), .val (.int (0 : Int32))] [(.int (0 : Int32)), (.int (own_isS q0 q1 q2 q3))])) _
          refine XS.icmpNo X124.here hx rfl (hb hby at_155) rfl (teq ((own_eqv _ _ _ _).trans (by simp only [if_neg hc108, if_neg hc115, if_pos hc122]) : (own_isS q0 q1 q2 q3) = (0 : Int32))).2 ?_
          show Steps p.tables e below (T124.setTop (mkF m 158 #[.val (.long q0), .second, .val (.long q1), .second, .val (.long q2), .second, .val (.long q3), .second, .val (.long q4), .second, .val (.int p5), .val (.ref b1), .val (.int zat), .val (.ref b11), .val (.int (0 : Int32))] [])) _
          refine XS.iconst X124.here hx rfl (hb hby at_158) ?_
          show Steps p.tables e below (T124.setTop (mkF m 159 #[.val (.long q0), .second, .val (.long q1), .second, .val (.long q2), .second, .val (.long q3), .second, .val (.long q4), .second, .val (.int p5), .val (.ref b1), .val (.int zat), .val (.ref b11), .val (.int (0 : Int32))] [(.int (1 : Int32))])) _
          refine XS.goto X124.here hx rfl (pc0 := 159) (pc' := 163) rfl (hb hby at_159) (by decide) (by decide) ?_
          exact k)
        obtain ⟨fs, hr, hrun, hended, hW, hsame⟩ := X124.leave (v := some (.int (1 : Int32))) (fun h => by rw [Bd.returns] at h; cases h)
        refine ⟨_, _, go126 _ ?_, hrun, hended, _, _, rfl, ?_, ⟨_, rfl⟩, hW, hsame.mono (by decide) (by decide)⟩
        · exact retN X124 hx (t := .boolean) Bd.returns (by simp) (hb hby at_163) hr
        · show Q_rm0 Z q0 q1 q2 q3 q4 p5 h0 n0 _ T124.heap _
          rw [e124]
          exact ⟨rfl, N124⟩
      · skip
        have go127 := go121.step (C := T121.setTop (mkF m 131 #[.val (.long q0), .second, .val (.long q1), .second, .val (.long q2), .second, .val (.long q3), .second, .val (.long q4), .second, .val (.int p5), .val (.ref b1), .val (.int zat), .val (.ref b11), .unset] [(.long q3)])) (fun t k => by
          show Steps p.tables e below (T121.setTop (mkF m 126 #[.val (.long q0), .second, .val (.long q1), .second, .val (.long q2), .second, .val (.long q3), .second, .val (.long q4), .second, .val (.int p5), .val (.ref b1), .val (.int zat), .val (.ref b11), .unset] [(.int (own_res q2))])) _
          refine XS.ifNo X121.here hx rfl (hb hby at_126) rfl ((if0 _ _).trans (feq hc122).1) ?_
          show Steps p.tables e below (T121.setTop (mkF m 129 #[.val (.long q0), .second, .val (.long q1), .second, .val (.long q2), .second, .val (.long q3), .second, .val (.long q4), .second, .val (.int p5), .val (.ref b1), .val (.int zat), .val (.ref b11), .unset] [])) _
          refine XS.lload X121.here hx rfl (hb hby at_129) rfl ?_
          exact k)
        obtain ⟨_, _, ⟨T128, L128, k128, n128⟩, -, X128, ⟨Lc128, hQ128, l128, y128, z128⟩, st128⟩ := Jvm.LawKit.callS X121 hx (y := (⟨"sketchspan/sketch/PairSamplerIsStatePinLaw", "residue", "(J)Z"⟩ : MethodName)) hown (mvT hZ (hw _ (List.mem_of_getElem? (i := 42) rfl))) (mvT hZ (hw _ (List.mem_of_getElem? (i := 43) rfl))) (mvT hZ (hw _ (List.mem_of_getElem? (i := 44) rfl))) (mvT hZ (hw _ (List.mem_of_getElem? (i := 45) rfl))) (by decide) (backOf (W := 0) (rm8 l Z a0 hw [] q3 h101 n0 Z101 ) hZ (hw _ (List.mem_of_getElem? (i := 45) rfl)) (hw _ (List.mem_of_getElem? (i := 44) rfl)) (by decide) (by decide)) (g := (mkF m 131 #[.val (.long q0), .second, .val (.long q1), .second, .val (.long q2), .second, .val (.long q3), .second, .val (.long q4), .second, .val (.int p5), .val (.ref b1), .val (.int zat), .val (.ref b11), .unset] [(.long q3)])) rfl (by rw [hml]; rfl) (argsL := [(.long q3)]) (rest := []) (lenOf pd_rm0_1 rfl) rfl (by show 2 * 0 + _ ≤ _; exact Nat.le_of_eq rfl) (hb hby at_131) (fun _ _ => ⟨rfl, e121, (by decide : 4 + 0 ≤ _), (by decide : 15 + 0 ≤ _)⟩)
        dsimp only [Pt.U, Pt.locs, Pt.cells, Pt.slots] at X128 l128 y128 z128 st128 hQ128
        rw [l128, y128, z128] at X128
        obtain ⟨rfl, N128q, e128⟩ := hQ128
        have N128 := Fr.app N121 N128q
        have go128 := go127.step (C := T128.setTop (mkF m 134 #[.val (.long q0), .second, .val (.long q1), .second, .val (.long q2), .second, .val (.long q3), .second, .val (.long q4), .second, .val (.int p5), .val (.ref b1), .val (.int zat), .val (.ref b11), .unset] [(.int (own_res q3))])) (fun t k => st128 t k)
        by_cases hc129 : (own_res q3) = (0 : Int32)
        · skip
          have go130 := go128.step (C := T128.setTop (mkF m 150 #[.val (.long q0), .second, .val (.long q1), .second, .val (.long q2), .second, .val (.long q3), .second, .val (.long q4), .second, .val (.int p5), .val (.ref b1), .val (.int zat), .val (.ref b11), .val (.int (0 : Int32))] [(.int zat), (.ref b11), (.ref b1)])) (fun t k => by
            show Steps p.tables e below (T128.setTop (mkF m 134 #[.val (.long q0), .second, .val (.long q1), .second, .val (.long q2), .second, .val (.long q3), .second, .val (.long q4), .second, .val (.int p5), .val (.ref b1), .val (.int zat), .val (.ref b11), .unset] [(.int (own_res q3))])) _
            refine XS.ifYes X128.here hx rfl (pc0 := 134) (pc' := 141) rfl (hb hby at_134) rfl ((if0 _ _).trans (teq hc129).1) (by decide) (by decide) ?_
            show Steps p.tables e below (T128.setTop (mkF m 141 #[.val (.long q0), .second, .val (.long q1), .second, .val (.long q2), .second, .val (.long q3), .second, .val (.long q4), .second, .val (.int p5), .val (.ref b1), .val (.int zat), .val (.ref b11), .unset] [])) _
            refine XS.iconst X128.here hx rfl (hb hby at_141) ?_
            show Steps p.tables e below (T128.setTop (mkF m 142 #[.val (.long q0), .second, .val (.long q1), .second, .val (.long q2), .second, .val (.long q3), .second, .val (.long q4), .second, .val (.int p5), .val (.ref b1), .val (.int zat), .val (.ref b11), .unset] [(.int (0 : Int32))])) _
            refine XS.istore X128.here hx rfl (hb hby at_142) rfl (l' := #[.val (.long q0), .second, .val (.long q1), .second, .val (.long q2), .second, .val (.long q3), .second, .val (.long q4), .second, .val (.int p5), .val (.ref b1), .val (.int zat), .val (.ref b11), .val (.int (0 : Int32))]) rfl ?_
            show Steps p.tables e below (T128.setTop (mkF m 144 #[.val (.long q0), .second, .val (.long q1), .second, .val (.long q2), .second, .val (.long q3), .second, .val (.long q4), .second, .val (.int p5), .val (.ref b1), .val (.int zat), .val (.ref b11), .val (.int (0 : Int32))] [])) _
            refine XS.aload X128.here hx rfl (hb hby at_144) rfl rfl ?_
            show Steps p.tables e below (T128.setTop (mkF m 146 #[.val (.long q0), .second, .val (.long q1), .second, .val (.long q2), .second, .val (.long q3), .second, .val (.long q4), .second, .val (.int p5), .val (.ref b1), .val (.int zat), .val (.ref b11), .val (.int (0 : Int32))] [(.ref b1)])) _
            refine XS.aload X128.here hx rfl (hb hby at_146) rfl rfl ?_
            show Steps p.tables e below (T128.setTop (mkF m 148 #[.val (.long q0), .second, .val (.long q1), .second, .val (.long q2), .second, .val (.long q3), .second, .val (.long q4), .second, .val (.int p5), .val (.ref b1), .val (.int zat), .val (.ref b11), .val (.int (0 : Int32))] [(.ref b11), (.ref b1)])) _
            refine XS.iload X128.here hx rfl (hb hby at_148) rfl ?_
            exact k)
          obtain ⟨cq131, kq131, q131a, q131b, q131c⟩ := isOf hZ e128 f102
          obtain ⟨_, _, ⟨T131, L131, k131, n131⟩, -, X131, ⟨Lc131, hQ131, l131, y131, z131⟩, st131⟩ := X128.virtualBack hx (y := (⟨"sketchspan/sketch/PairSampler", "isState", "([JI)Z"⟩ : MethodName)) (z := (⟨"sketchspan/sketch/PairSampler", "isState", "([JI)Z"⟩ : MethodName)) hown (mvT hZ (hw _ (List.mem_of_getElem? (i := 47) rfl))) (mvT hZ (hw _ (List.mem_of_getElem? (i := 48) rfl))) (notFace_of_selects (args := #[]) (mvT hZ (hw _ (List.mem_of_getElem? (i := 50) rfl)))) (mvT hZ (hw _ (List.mem_of_getElem? (i := 50) rfl))) (mvT hZ (hw _ (List.mem_of_getElem? (i := 49) rfl))) (by decide) (backOf (W := 0) (rm9 l Z a0 hw [] b1 b11 zat k11 (List.set (List.set (List.set (List.set [(.long q4), (.long q4), (.long q4), (.long q4), (.long q4), (.long q4), (.long q4), (.long q4), (.long q4)] (zat.toNatClampNeg + 1) (.long q0)) (zat.toNatClampNeg + 2) (.long q1)) (zat.toNatClampNeg + 4) (.long q2)) (zat.toNatClampNeg + 5) (.long q3)) q0 q1 q2 q3 h101 n0 Z101 V101 f104 (own_cells (own_k3 hzat) q4 q0 q1 q2 q3)) hZ (hw _ (List.mem_of_getElem? (i := 51) rfl)) (hw _ (List.mem_of_getElem? (i := 2) rfl)) (by decide) (by decide)) q131a q131c (g := (mkF m 150 #[.val (.long q0), .second, .val (.long q1), .second, .val (.long q2), .second, .val (.long q3), .second, .val (.long q4), .second, .val (.int p5), .val (.ref b1), .val (.int zat), .val (.ref b11), .val (.int (0 : Int32))] [(.int zat), (.ref b11), (.ref b1)])) rfl (by rw [hml]; rfl) (Steps.refl _) (argsL := [(.ref b11), (.int zat)]) (rest := []) (lenOf pd_rm0_2 rfl) rfl (by show 2 * 0 + _ ≤ _; exact Nat.le_of_eq rfl) (hb hby at_150) (fun _ _ => ⟨rfl, e128, (by decide : 4 + 0 ≤ _), (by decide : 15 + 0 ≤ _)⟩)
          dsimp only [Pt.U, Pt.locs, Pt.cells, Pt.slots] at X131 l131 y131 z131 st131 hQ131
          rw [l131, y131, z131] at X131
          obtain ⟨rfl, N131q, e131⟩ := hQ131
          have N131 := Fr.app N128 N131q
          have go131 := go130.tr (C := T131.setTop (mkF m 153 #[.val (.long q0), .second, .val (.long q1), .second, .val (.long q2), .second, .val (.long q3), .second, .val (.long q4), .second, .val (.int p5), .val (.ref b1), .val (.int zat), .val (.ref b11), .val (.int (0 : Int32))] [(.int (own_isS q0 q1 q2 q3))])) st131
          have go133 := go131.step (C := T131.setTop (mkF m 163 #[.val (.long q0), .second, .val (.long q1), .second, .val (.long q2), .second, .val (.long q3), .second, .val (.long q4), .second, .val (.int p5), .val (.ref b1), .val (.int zat), .val (.ref b11), .val (.int (0 : Int32))] [(.int (1 : Int32))])) (fun t k => by
            show Steps p.tables e below (T131.setTop (mkF m 153 #[.val (.long q0), .second, .val (.long q1), .second, .val (.long q2), .second, .val (.long q3), .second, .val (.long q4), .second, .val (.int p5), .val (.ref b1), .val (.int zat), .val (.ref b11), .val (.int (0 : Int32))] [(.int (own_isS q0 q1 q2 q3))])) _
            refine XS.iload X131.here hx rfl (hb hby at_153) rfl ?_
            show Steps p.tables e below (T131.setTop (mkF m 155 #[.val (.long q0), .second, .val (.long q1), .second, .val (.long q2), .second, .val (.long q3), .second, .val (.long q4), .second, .val (.int p5), .val (.ref b1), .val (.int zat), .val (.ref b11), .val (.int (0 : Int32))] [(.int (0 : Int32)), (.int (own_isS q0 q1 q2 q3))])) _
            refine XS.icmpNo X131.here hx rfl (hb hby at_155) rfl (teq ((own_eqv _ _ _ _).trans (by simp only [if_neg hc108, if_neg hc115, if_neg hc122, if_pos hc129]) : (own_isS q0 q1 q2 q3) = (0 : Int32))).2 ?_
            show Steps p.tables e below (T131.setTop (mkF m 158 #[.val (.long q0), .second, .val (.long q1), .second, .val (.long q2), .second, .val (.long q3), .second, .val (.long q4), .second, .val (.int p5), .val (.ref b1), .val (.int zat), .val (.ref b11), .val (.int (0 : Int32))] [])) _
            refine XS.iconst X131.here hx rfl (hb hby at_158) ?_
            show Steps p.tables e below (T131.setTop (mkF m 159 #[.val (.long q0), .second, .val (.long q1), .second, .val (.long q2), .second, .val (.long q3), .second, .val (.long q4), .second, .val (.int p5), .val (.ref b1), .val (.int zat), .val (.ref b11), .val (.int (0 : Int32))] [(.int (1 : Int32))])) _
            refine XS.goto X131.here hx rfl (pc0 := 159) (pc' := 163) rfl (hb hby at_159) (by decide) (by decide) ?_
            exact k)
          obtain ⟨fs, hr, hrun, hended, hW, hsame⟩ := X131.leave (v := some (.int (1 : Int32))) (fun h => by rw [Bd.returns] at h; cases h)
          refine ⟨_, _, go133 _ ?_, hrun, hended, _, _, rfl, ?_, ⟨_, rfl⟩, hW, hsame.mono (by decide) (by decide)⟩
          · exact retN X131 hx (t := .boolean) Bd.returns (by simp) (hb hby at_163) hr
          · show Q_rm0 Z q0 q1 q2 q3 q4 p5 h0 n0 _ T131.heap _
            rw [e131]
            exact ⟨rfl, N131⟩
        · skip
          have go134 := go128.step (C := T128.setTop (mkF m 150 #[.val (.long q0), .second, .val (.long q1), .second, .val (.long q2), .second, .val (.long q3), .second, .val (.long q4), .second, .val (.int p5), .val (.ref b1), .val (.int zat), .val (.ref b11), .val (.int (1 : Int32))] [(.int zat), (.ref b11), (.ref b1)])) (fun t k => by
            show Steps p.tables e below (T128.setTop (mkF m 134 #[.val (.long q0), .second, .val (.long q1), .second, .val (.long q2), .second, .val (.long q3), .second, .val (.long q4), .second, .val (.int p5), .val (.ref b1), .val (.int zat), .val (.ref b11), .unset] [(.int (own_res q3))])) _
            refine XS.ifNo X128.here hx rfl (hb hby at_134) rfl ((if0 _ _).trans (feq hc129).1) ?_
            show Steps p.tables e below (T128.setTop (mkF m 137 #[.val (.long q0), .second, .val (.long q1), .second, .val (.long q2), .second, .val (.long q3), .second, .val (.long q4), .second, .val (.int p5), .val (.ref b1), .val (.int zat), .val (.ref b11), .unset] [])) _
            refine XS.iconst X128.here hx rfl (hb hby at_137) ?_
            show Steps p.tables e below (T128.setTop (mkF m 138 #[.val (.long q0), .second, .val (.long q1), .second, .val (.long q2), .second, .val (.long q3), .second, .val (.long q4), .second, .val (.int p5), .val (.ref b1), .val (.int zat), .val (.ref b11), .unset] [(.int (1 : Int32))])) _
            refine XS.goto X128.here hx rfl (pc0 := 138) (pc' := 142) rfl (hb hby at_138) (by decide) (by decide) ?_
            show Steps p.tables e below (T128.setTop (mkF m 142 #[.val (.long q0), .second, .val (.long q1), .second, .val (.long q2), .second, .val (.long q3), .second, .val (.long q4), .second, .val (.int p5), .val (.ref b1), .val (.int zat), .val (.ref b11), .unset] [(.int (1 : Int32))])) _
            refine XS.istore X128.here hx rfl (hb hby at_142) rfl (l' := #[.val (.long q0), .second, .val (.long q1), .second, .val (.long q2), .second, .val (.long q3), .second, .val (.long q4), .second, .val (.int p5), .val (.ref b1), .val (.int zat), .val (.ref b11), .val (.int (1 : Int32))]) rfl ?_
            show Steps p.tables e below (T128.setTop (mkF m 144 #[.val (.long q0), .second, .val (.long q1), .second, .val (.long q2), .second, .val (.long q3), .second, .val (.long q4), .second, .val (.int p5), .val (.ref b1), .val (.int zat), .val (.ref b11), .val (.int (1 : Int32))] [])) _
            refine XS.aload X128.here hx rfl (hb hby at_144) rfl rfl ?_
            show Steps p.tables e below (T128.setTop (mkF m 146 #[.val (.long q0), .second, .val (.long q1), .second, .val (.long q2), .second, .val (.long q3), .second, .val (.long q4), .second, .val (.int p5), .val (.ref b1), .val (.int zat), .val (.ref b11), .val (.int (1 : Int32))] [(.ref b1)])) _
            refine XS.aload X128.here hx rfl (hb hby at_146) rfl rfl ?_
            show Steps p.tables e below (T128.setTop (mkF m 148 #[.val (.long q0), .second, .val (.long q1), .second, .val (.long q2), .second, .val (.long q3), .second, .val (.long q4), .second, .val (.int p5), .val (.ref b1), .val (.int zat), .val (.ref b11), .val (.int (1 : Int32))] [(.ref b11), (.ref b1)])) _
            refine XS.iload X128.here hx rfl (hb hby at_148) rfl ?_
            exact k)
          obtain ⟨cq135, kq135, q135a, q135b, q135c⟩ := isOf hZ e128 f102
          obtain ⟨_, _, ⟨T135, L135, k135, n135⟩, -, X135, ⟨Lc135, hQ135, l135, y135, z135⟩, st135⟩ := X128.virtualBack hx (y := (⟨"sketchspan/sketch/PairSampler", "isState", "([JI)Z"⟩ : MethodName)) (z := (⟨"sketchspan/sketch/PairSampler", "isState", "([JI)Z"⟩ : MethodName)) hown (mvT hZ (hw _ (List.mem_of_getElem? (i := 47) rfl))) (mvT hZ (hw _ (List.mem_of_getElem? (i := 48) rfl))) (notFace_of_selects (args := #[]) (mvT hZ (hw _ (List.mem_of_getElem? (i := 50) rfl)))) (mvT hZ (hw _ (List.mem_of_getElem? (i := 50) rfl))) (mvT hZ (hw _ (List.mem_of_getElem? (i := 49) rfl))) (by decide) (backOf (W := 0) (rm9 l Z a0 hw [] b1 b11 zat k11 (List.set (List.set (List.set (List.set [(.long q4), (.long q4), (.long q4), (.long q4), (.long q4), (.long q4), (.long q4), (.long q4), (.long q4)] (zat.toNatClampNeg + 1) (.long q0)) (zat.toNatClampNeg + 2) (.long q1)) (zat.toNatClampNeg + 4) (.long q2)) (zat.toNatClampNeg + 5) (.long q3)) q0 q1 q2 q3 h101 n0 Z101 V101 f104 (own_cells (own_k3 hzat) q4 q0 q1 q2 q3)) hZ (hw _ (List.mem_of_getElem? (i := 51) rfl)) (hw _ (List.mem_of_getElem? (i := 2) rfl)) (by decide) (by decide)) q135a q135c (g := (mkF m 150 #[.val (.long q0), .second, .val (.long q1), .second, .val (.long q2), .second, .val (.long q3), .second, .val (.long q4), .second, .val (.int p5), .val (.ref b1), .val (.int zat), .val (.ref b11), .val (.int (1 : Int32))] [(.int zat), (.ref b11), (.ref b1)])) rfl (by rw [hml]; rfl) (Steps.refl _) (argsL := [(.ref b11), (.int zat)]) (rest := []) (lenOf pd_rm0_2 rfl) rfl (by show 2 * 0 + _ ≤ _; exact Nat.le_of_eq rfl) (hb hby at_150) (fun _ _ => ⟨rfl, e128, (by decide : 4 + 0 ≤ _), (by decide : 15 + 0 ≤ _)⟩)
          dsimp only [Pt.U, Pt.locs, Pt.cells, Pt.slots] at X135 l135 y135 z135 st135 hQ135
          rw [l135, y135, z135] at X135
          obtain ⟨rfl, N135q, e135⟩ := hQ135
          have N135 := Fr.app N128 N135q
          have go135 := go134.tr (C := T135.setTop (mkF m 153 #[.val (.long q0), .second, .val (.long q1), .second, .val (.long q2), .second, .val (.long q3), .second, .val (.long q4), .second, .val (.int p5), .val (.ref b1), .val (.int zat), .val (.ref b11), .val (.int (1 : Int32))] [(.int (own_isS q0 q1 q2 q3))])) st135
          have go137 := go135.step (C := T135.setTop (mkF m 163 #[.val (.long q0), .second, .val (.long q1), .second, .val (.long q2), .second, .val (.long q3), .second, .val (.long q4), .second, .val (.int p5), .val (.ref b1), .val (.int zat), .val (.ref b11), .val (.int (1 : Int32))] [(.int (1 : Int32))])) (fun t k => by
            show Steps p.tables e below (T135.setTop (mkF m 153 #[.val (.long q0), .second, .val (.long q1), .second, .val (.long q2), .second, .val (.long q3), .second, .val (.long q4), .second, .val (.int p5), .val (.ref b1), .val (.int zat), .val (.ref b11), .val (.int (1 : Int32))] [(.int (own_isS q0 q1 q2 q3))])) _
            refine XS.iload X135.here hx rfl (hb hby at_153) rfl ?_
            show Steps p.tables e below (T135.setTop (mkF m 155 #[.val (.long q0), .second, .val (.long q1), .second, .val (.long q2), .second, .val (.long q3), .second, .val (.long q4), .second, .val (.int p5), .val (.ref b1), .val (.int zat), .val (.ref b11), .val (.int (1 : Int32))] [(.int (1 : Int32)), (.int (own_isS q0 q1 q2 q3))])) _
            refine XS.icmpNo X135.here hx rfl (hb hby at_155) rfl (teq ((own_eqv _ _ _ _).trans (by simp only [if_neg hc108, if_neg hc115, if_neg hc122, if_neg hc129]) : (own_isS q0 q1 q2 q3) = (1 : Int32))).2 ?_
            show Steps p.tables e below (T135.setTop (mkF m 158 #[.val (.long q0), .second, .val (.long q1), .second, .val (.long q2), .second, .val (.long q3), .second, .val (.long q4), .second, .val (.int p5), .val (.ref b1), .val (.int zat), .val (.ref b11), .val (.int (1 : Int32))] [])) _
            refine XS.iconst X135.here hx rfl (hb hby at_158) ?_
            show Steps p.tables e below (T135.setTop (mkF m 159 #[.val (.long q0), .second, .val (.long q1), .second, .val (.long q2), .second, .val (.long q3), .second, .val (.long q4), .second, .val (.int p5), .val (.ref b1), .val (.int zat), .val (.ref b11), .val (.int (1 : Int32))] [(.int (1 : Int32))])) _
            refine XS.goto X135.here hx rfl (pc0 := 159) (pc' := 163) rfl (hb hby at_159) (by decide) (by decide) ?_
            exact k)
          obtain ⟨fs, hr, hrun, hended, hW, hsame⟩ := X135.leave (v := some (.int (1 : Int32))) (fun h => by rw [Bd.returns] at h; cases h)
          refine ⟨_, _, go137 _ ?_, hrun, hended, _, _, rfl, ?_, ⟨_, rfl⟩, hW, hsame.mono (by decide) (by decide)⟩
          · exact retN X135 hx (t := .boolean) Bd.returns (by simp) (hb hby at_163) hr
          · show Q_rm0 Z q0 q1 q2 q3 q4 p5 h0 n0 _ T135.heap _
            rw [e135]
            exact ⟨rfl, N135⟩
set_option maxRecDepth 65536 in
set_option maxHeartbeats 40000000 in
theorem comes_1 {Post : Tables → Env → Array Value → State → Outcome → State → Prop} (hpost : ∀ tb e args s v u, (limb_1_1.after args s (.returned v) u = true ∧ limb_1_2.after args s (.returned v) u = true ∧ True) → FrameEnd s (.returned v) u (Jvm.fieldLocs frame_1_writes args s ++ Jvm.arrayLocs frame_1_arrays args s ++ Jvm.staticLocs frame_1_statics s) 16 128 → Post tb e args s (.returned v) u) :
    ArmFor flags0 classFile x code maxLocals ret World_1 tables_1 room_1 Calls_1 rest_1 Pre_1 Post := by
  intro l hfl _ _ p e ha hc hk s m args below hf hA hF happ hP
  obtain ⟨hcalls, hrest, hpre⟩ := hP
  obtain ⟨-, -, -, hnamed, -, -, -, hat⟩ := (Spec.applies_iff hf).mp happ
  obtain ⟨hg, hn⟩ := and_e (Cond.before_iff.mp (show (Jvm.Cond.and given_1 narrow_1).before args s = true from hpre))
  obtain ⟨gg0, gr0⟩ := and_e hg
  obtain ⟨gg1, gr1⟩ := and_e gr0
  obtain ⟨gg2, gr2⟩ := and_e gr1
  obtain ⟨gg3, gr3⟩ := and_e gr2
  obtain ⟨gg4, gr4⟩ := and_e gr3
  obtain ⟨gg5, gr5⟩ := and_e gr4
  obtain ⟨w0, w1, w2, w3, w4, w5, rfl⟩ : ∃ w0 w1 w2 w3 w4 w5 : Value, args = #[w0, w1, w2, w3, w4, w5] := by
    have hs : args.size = 6 := by simpa [Cond.value, given_1] using gg0
    obtain ⟨L⟩ := args
    match L, hs with
    | [w0, w1, w2, w3, w4, w5], _ => exact ⟨w0, w1, w2, w3, w4, w5, rfl⟩
  have hw := fun d (hd : d ∈ tables_1) => atoms_spec (ws := Jvm.Cond.code x code maxLocals ret :: tables_1) hat d (List.mem_cons_of_mem _ hd)
  have hfit : Fit s := fun {y c} hc i hi => by
    obtain ⟨ha, rfl⟩ := Array.getElem?_eq_some_iff.mp hc
    have q := List.all_eq_true.mp ((Array.all_eq_true_iff_forall_mem.mp hF) _ (Array.getElem_mem ha)) i (List.mem_range.mpr hi)
    simpa [Array.getElem?_eq_getElem hi] using q
  obtain ⟨i0, ei0⟩ := isL_v gg1
  obtain rfl : w0 = (.long i0) := Option.some.inj ei0
  obtain ⟨i1, ei1⟩ := isL_v gg2
  obtain rfl : w1 = (.long i1) := Option.some.inj ei1
  obtain ⟨i2, ei2⟩ := isL_v gg3
  obtain rfl : w2 = (.long i2) := Option.some.inj ei2
  obtain ⟨i3, ei3⟩ := isL_v gg4
  obtain rfl : w3 = (.long i3) := Option.some.inj ei3
  obtain ⟨i4, ei4⟩ := isL_v gg5
  obtain rfl : w4 = (.long i4) := Option.some.inj ei4
  obtain ⟨i5, ei5⟩ := is_v gr5
  obtain rfl : w5 = (.int i5) := Option.some.inj ei5
  obtain ⟨n, o, h1, h2, h3, _, L, rfl, ⟨rfl, N⟩, hq⟩ := rm0 l s _ hw tables_1 i0 i1 i2 i3 i4 i5  s.heap s.heap.size (Nat.le_refl _)  p e ha hc hk s m _ below hf ((Spec.applies_iff_loose hf).mp happ).1 ⟨rfl, State.Warmed39.refl s, rfl⟩ trivial
  refine ⟨n, _, h1, h2, h3, hpost _ _ _ _ _ _ ⟨Cond.after_iff.mpr rfl, Cond.after_iff.mpr (eq_i res_at (Term.int_eval (1)) rfl), trivial⟩ ⟨hq.1, hq.2.1, (hq.2.2.sift fun y hy => Or.inr (N y hy)).mono (by decide) (by decide)⟩⟩
theorem main_1_1 : Claimed_1_1 := comes_1 fun _ _ _ _ _ _ h hF => ⟨h.1, hF⟩
theorem main_1_2 : Claimed_1_2 := comes_1 fun _ _ _ _ _ _ h hF => ⟨h.2.1, hF⟩
end Jvm.Pilot.@@N@@
namespace Jvm.Pilot.@@N@@
open Jvm Jvm.ClassFile Sem Op Lib Jvm.Free Jvm.Stand Jvm.Pilot.@@N@@.Jvm.D
/-! MADE BY PROGRAM (witnessworld.py) out of the Statement's table words and the real class files: 19 classes; the members and pool entries that the words name. The judged class is class 1, her method 2. -/
namespace start1
open Jvm.ClassFile
def u (s : String) : CpInfo := .utf8 (stringToUtf16 s)
/-- a pool by its gaps: so many unusable entries, then the entry; so many at the end -/
def gap : Nat → List CpInfo → List CpInfo
  | 0, r => r
  | n + 1, r => .unusable :: gap n r
def poolList (es : List (Nat × CpInfo)) (last : Nat) : List CpInfo := es.foldr (fun e r => gap e.1 (e.2 :: r)) (gap last [])
def pool (es : List (Nat × CpInfo)) (last : Nat) : Array CpInfo := ⟨poolList es last⟩
def fileOf (pool : Array CpInfo) (this : Nat) (attrs : Array Attribute := #[]) (ms : Array MethodInfo := #[]) (fl : Nat := 33) (sup : Nat := 0) (ifs : Array Nat := #[]) (fds : Array FieldInfo := #[]) : ClassFile where
  minorVersion := 0
  majorVersion := 65
  constantPool := pool
  accessFlags := fl
  thisClass := this
  superClass := sup
  interfaces := ifs
  fields := fds
  methods := ms
  attributes := attrs
def plain (name : String) (sup : Option ClassId) : Class where
  name := name
  kind := .ordinary
  loader := none
  accessFlags := 33
  super := sup
  interfaces := #[]
  cf := none
  fields := #[]
  methods := #[]
  instanceTypes := #[]
  staticTypes := #[]
  resolved := #[]
  callSites := []
  init := .initialized
  statics := none
  mirror := none

def pool0 : Array CpInfo := pool [(5, u "<init>"), (0, u "()V"), (1, .class_ 10), (1, u "java/lang/Object")] 113

def k0c0 : Code := { maxStack := 0, maxLocals := 1, code := object_method_1_code, exceptionTable := #[], attributes := #[] }
def k0m0 : Method := { name := "<init>", desc := "()V", sig := { parameters := [], returnType := none }, accessFlags := 1, code := some k0c0 }
/-- java/lang/Object -/
def k0 : Class := { plain "java/lang/Object" none with
  accessFlags := 33
  interfaces := #[]
  cf := some (fileOf pool0 8 #[] #[{ accessFlags := 1, nameIndex := 5, descriptorIndex := 6, attributes := #[] }] 33 0 #[] #[])
  fields := #[]
  methods := #[k0m0]
  instanceTypes := #[]
  staticTypes := #[]
  resolved := Array.replicate 124 none
  statics := none }

def pool1 : Array CpInfo := pool [(2, .class_ 4), (1, u "java/lang/Object"), (0, u "<init>"), (0, u "()V"), (0, .long 2305843009213693951), (1, .class_ 10), (0, u "sketchspan/sketch/PairSampler"), (0, .methodref 9 12), (0, .nameAndType 5 13), (0, u "(IJI)V"), (0, .methodref 15 16), (0, .class_ 17), (0, .nameAndType 18 19), (0, u "sketchspan/sketch/PairSamplerIsStatePinLaw"), (0, u "residue"), (0, u "(J)Z"), (0, .methodref 9 21), (0, .nameAndType 22 23), (0, u "isState"), (0, u "([JI)Z"), (3, u "law"), (0, u "(JJJJJI)Z")] 4

def k1m0 : Method := { name := "<init>", desc := "()V", sig := { parameters := [], returnType := none }, accessFlags := 1, code := none }
def k1c1 : Code := { maxStack := 4, maxLocals := 2, code := method_2_code, exceptionTable := #[], attributes := #[] }
def k1m1 : Method := { name := "residue", desc := "(J)Z", sig := { parameters := [.long], returnType := some .boolean }, accessFlags := 10, code := some k1c1 }
def k1c2 : Code := { maxStack := 6, maxLocals := 15, code := code, exceptionTable := #[], attributes := #[] }
def k1m2 : Method := { name := "law", desc := "(JJJJJI)Z", sig := { parameters := [.long, .long, .long, .long, .long, .int], returnType := some .boolean }, accessFlags := 9, code := some k1c2 }
/-- sketchspan/sketch/PairSamplerIsStatePinLaw -/
def k1 : Class := { plain "sketchspan/sketch/PairSamplerIsStatePinLaw" (some 0) with
  accessFlags := 49
  interfaces := #[]
  cf := some (fileOf pool1 15 #[] #[{ accessFlags := 1, nameIndex := 5, descriptorIndex := 6, attributes := #[] }, { accessFlags := 10, nameIndex := 18, descriptorIndex := 19, attributes := #[] }, { accessFlags := 9, nameIndex := 27, descriptorIndex := 28, attributes := #[] }] 49 2 #[] #[])
  fields := #[]
  methods := #[k1m0, k1m1, k1m2]
  instanceTypes := #[]
  staticTypes := #[]
  resolved := Array.replicate 33 none
  statics := none }

def pool2 : Array CpInfo := pool [(1, .methodref 2 3), (0, .class_ 4), (0, .nameAndType 5 6), (0, u "java/lang/Object"), (0, u "<init>"), (0, u "()V"), (9, .long 2), (1, .class_ 19), (0, u "java/lang/Long"), (0, .methodref 18 21), (0, .nameAndType 22 23), (0, u "numberOfLeadingZeros"), (0, u "(J)I"), (0, .fieldref 25 26), (0, .class_ 27), (0, .nameAndType 28 29), (0, u "sketchspan/sketch/PairSampler"), (0, u "buckets"), (0, u "I"), (0, .methodref 31 32), (0, .class_ 33), (0, .nameAndType 34 35), (0, u "java/lang/Math"), (0, u "multiplyExact"), (0, u "(II)I"), (0, .fieldref 25 37), (0, .nameAndType 38 29), (0, u "length"), (0, .fieldref 25 40), (0, .nameAndType 41 42), (0, u "bucketSalts"), (0, u "[J"), (0, .fieldref 25 44), (0, .nameAndType 45 42), (0, u "fingerprintSalts"), (0, .methodref 47 48), (0, .class_ 49), (0, .nameAndType 50 51), (0, u "sketchspan/sketch/Hashing"), (0, u "hash"), (0, u "(JJ)J"), (16, .long 2305843009213693951), (37, u "CELL"), (2, u "(IJI)V"), (7, u "isState"), (0, u "([JI)Z")] 22

def k2c0 : Code := { maxStack := 6, maxLocals := 8, code := prog_69_method_1_code, exceptionTable := #[], attributes := #[] }
def k2m0 : Method := { name := "<init>", desc := "(IJI)V", sig := { parameters := [.int, .long, .int], returnType := none }, accessFlags := 0, code := some k2c0 }
def k2c1 : Code := { maxStack := 4, maxLocals := 4, code := prog_69_method_5_code, exceptionTable := #[], attributes := #[] }
def k2m1 : Method := { name := "isState", desc := "([JI)Z", sig := { parameters := [(.array .long), .int], returnType := some .boolean }, accessFlags := 0, code := some k2c1 }
/-- sketchspan/sketch/PairSampler -/
def k2 : Class := { plain "sketchspan/sketch/PairSampler" (some 0) with
  accessFlags := 48
  interfaces := #[]
  cf := some (fileOf pool2 25 #[] #[{ accessFlags := 0, nameIndex := 5, descriptorIndex := 109, attributes := #[] }, { accessFlags := 0, nameIndex := 117, descriptorIndex := 118, attributes := #[] }] 48 2 #[] #[{ accessFlags := 26, nameIndex := 106, descriptorIndex := 29, attributes := #[] }, { accessFlags := 18, nameIndex := 28, descriptorIndex := 29, attributes := #[] }, { accessFlags := 18, nameIndex := 38, descriptorIndex := 29, attributes := #[] }, { accessFlags := 18, nameIndex := 41, descriptorIndex := 42, attributes := #[] }, { accessFlags := 18, nameIndex := 45, descriptorIndex := 42, attributes := #[] }])
  fields := #[{ name := "CELL", type := .int, accessFlags := 26, slot := 0, constantValue := 0 }, { name := "buckets", type := .int, accessFlags := 18, slot := 0, constantValue := 0 }, { name := "length", type := .int, accessFlags := 18, slot := 1, constantValue := 0 }, { name := "bucketSalts", type := (.array .long), accessFlags := 18, slot := 2, constantValue := 0 }, { name := "fingerprintSalts", type := (.array .long), accessFlags := 18, slot := 3, constantValue := 0 }]
  methods := #[k2m0, k2m1]
  instanceTypes := #[.int, .int, (.array .long), (.array .long)]
  staticTypes := #[.int]
  resolved := Array.replicate 141 none
  statics := none }

def pool3 : Array CpInfo := pool [(1, .class_ 2), (0, u "java/io/Serializable"), (0, .class_ 4), (0, u "java/lang/Object")] 2

/-- java/io/Serializable -/
def k3 : Class := { plain "java/io/Serializable" (some 0) with
  accessFlags := 1537
  interfaces := #[]
  cf := some (fileOf pool3 1 #[] #[] 1537 3 #[] #[])
  fields := #[]
  methods := #[]
  instanceTypes := #[]
  staticTypes := #[]
  resolved := Array.replicate 7 none
  statics := none }

def pool4 : Array CpInfo := pool [(2, .class_ 4), (1, u "java/lang/Object"), (0, u "<init>"), (0, u "()V"), (1, .class_ 10), (1, u "java/lang/Number"), (2, .class_ 14), (0, u "java/io/Serializable"), (0, u "serialVersionUID"), (0, u "J")] 20

def k4m0 : Method := { name := "<init>", desc := "()V", sig := { parameters := [], returnType := none }, accessFlags := 1, code := none }
/-- java/lang/Number -/
def k4 : Class := { plain "java/lang/Number" (some 0) with
  accessFlags := 1057
  interfaces := #[3]
  cf := some (fileOf pool4 8 #[] #[{ accessFlags := 1, nameIndex := 5, descriptorIndex := 6, attributes := #[] }] 1057 2 #[13] #[{ accessFlags := 26, nameIndex := 15, descriptorIndex := 16, attributes := #[] }])
  fields := #[{ name := "serialVersionUID", type := .long, accessFlags := 26, slot := 0, constantValue := 0 }]
  methods := #[k4m0]
  instanceTypes := #[]
  staticTypes := #[.long]
  resolved := Array.replicate 37 none
  statics := none }

def pool5 : Array CpInfo := pool [(1, .class_ 2), (0, u "java/lang/Comparable"), (0, .class_ 4), (0, u "java/lang/Object")] 7

/-- java/lang/Comparable -/
def k5 : Class := { plain "java/lang/Comparable" (some 0) with
  accessFlags := 1537
  interfaces := #[]
  cf := some (fileOf pool5 1 #[] #[] 1537 3 #[] #[])
  fields := #[]
  methods := #[]
  instanceTypes := #[]
  staticTypes := #[]
  resolved := Array.replicate 12 none
  statics := none }

def pool6 : Array CpInfo := pool [(1, .class_ 2), (0, u "java/lang/constant/Constable"), (0, .class_ 4), (0, u "java/lang/Object")] 6

/-- java/lang/constant/Constable -/
def k6 : Class := { plain "java/lang/constant/Constable" (some 0) with
  accessFlags := 1537
  interfaces := #[]
  cf := some (fileOf pool6 1 #[] #[] 1537 3 #[] #[])
  fields := #[]
  methods := #[]
  instanceTypes := #[]
  staticTypes := #[]
  resolved := Array.replicate 11 none
  statics := none }

def pool7 : Array CpInfo := pool [(1, .class_ 2), (0, u "java/lang/constant/ConstantDesc"), (0, .class_ 4), (0, u "java/lang/Object")] 32

/-- java/lang/constant/ConstantDesc -/
def k7 : Class := { plain "java/lang/constant/ConstantDesc" (some 0) with
  accessFlags := 1537
  interfaces := #[]
  cf := some (fileOf pool7 1 #[] #[] 1537 3 #[] #[])
  fields := #[]
  methods := #[]
  instanceTypes := #[]
  staticTypes := #[]
  resolved := Array.replicate 37 none
  statics := none }

def pool8 : Array CpInfo := pool [(1, .class_ 2), (0, u "java/lang/Long"), (15, .class_ 20), (1, u "java/lang/Integer"), (79, u "numberOfLeadingZeros"), (0, u "(J)I"), (133, .class_ 237), (1, u "java/lang/Long$LongCache"), (33, .class_ 272), (0, u "java/lang/Number"), (2, u "value"), (0, u "J"), (31, .methodref 18 309), (0, .nameAndType 100 310), (0, u "(I)I"), (50, u "TYPE"), (0, u "Ljava/lang/Class;"), (0, .class_ 364), (0, u "java/lang/Comparable"), (0, .class_ 366), (0, u "java/lang/constant/Constable"), (0, .class_ 368), (0, u "java/lang/constant/ConstantDesc"), (0, u "MIN_VALUE"), (1, u "MAX_VALUE"), (4, u "SIZE"), (0, u "I"), (1, u "BYTES"), (1, u "serialVersionUID")] 142

def k8c0 : Code := { maxStack := 3, maxLocals := 3, code := jdk_35_method_48_code, exceptionTable := #[], attributes := #[] }
def k8m0 : Method := { name := "numberOfLeadingZeros", desc := "(J)I", sig := { parameters := [.long], returnType := some .int }, accessFlags := 9, code := some k8c0 }
/-- java/lang/Long -/
def k8 : Class := { plain "java/lang/Long" (some 4) with
  accessFlags := 49
  interfaces := #[5, 6, 7]
  cf := some (fileOf pool8 1 #[.nestMembers #[235]] #[{ accessFlags := 9, nameIndex := 100, descriptorIndex := 101, attributes := #[] }] 49 271 #[363, 365, 367] #[{ accessFlags := 25, nameIndex := 369, descriptorIndex := 276, attributes := #[] }, { accessFlags := 25, nameIndex := 371, descriptorIndex := 276, attributes := #[] }, { accessFlags := 25, nameIndex := 361, descriptorIndex := 362, attributes := #[] }, { accessFlags := 18, nameIndex := 275, descriptorIndex := 276, attributes := #[] }, { accessFlags := 25, nameIndex := 376, descriptorIndex := 377, attributes := #[] }, { accessFlags := 25, nameIndex := 379, descriptorIndex := 377, attributes := #[] }, { accessFlags := 26, nameIndex := 381, descriptorIndex := 276, attributes := #[] }])
  fields := #[{ name := "MIN_VALUE", type := .long, accessFlags := 25, slot := 0, constantValue := 0 }, { name := "MAX_VALUE", type := .long, accessFlags := 25, slot := 1, constantValue := 0 }, { name := "TYPE", type := (.object "java/lang/Class"), accessFlags := 25, slot := 2, constantValue := 0 }, { name := "value", type := .long, accessFlags := 18, slot := 0, constantValue := 0 }, { name := "SIZE", type := .int, accessFlags := 25, slot := 3, constantValue := 0 }, { name := "BYTES", type := .int, accessFlags := 25, slot := 4, constantValue := 0 }, { name := "serialVersionUID", type := .long, accessFlags := 26, slot := 5, constantValue := 0 }]
  methods := #[k8m0]
  instanceTypes := #[.long]
  staticTypes := #[.long, .long, (.object "java/lang/Class"), .int, .int, .long]
  resolved := Array.replicate 524 none
  statics := none }

def pool9 : Array CpInfo := pool [(1, .class_ 2), (0, u "java/lang/Integer"), (16, u "digits"), (0, u "[C"), (32, u "numberOfLeadingZeros"), (0, u "(I)I"), (30, u "DigitOnes"), (0, u "[B"), (2, u "DigitTens"), (99, .class_ 190), (0, u "java/lang/Integer$IntegerCache"), (3, u "I"), (8, .class_ 204), (0, u "java/lang/Number"), (2, u "value"), (56, .integer 65536), (37, u "TYPE"), (0, u "Ljava/lang/Class;"), (0, .class_ 305), (0, u "java/lang/Comparable"), (0, .class_ 307), (0, u "java/lang/constant/Constable"), (0, .class_ 309), (0, u "java/lang/constant/ConstantDesc"), (0, u "MIN_VALUE"), (1, u "MAX_VALUE"), (3, u "SIZE"), (1, u "BYTES"), (1, u "serialVersionUID"), (0, u "J")] 131

def k9c0 : Code := { maxStack := 3, maxLocals := 2, code := jdk_33_method_47_code, exceptionTable := #[], attributes := #[] }
def k9m0 : Method := { name := "numberOfLeadingZeros", desc := "(I)I", sig := { parameters := [.int], returnType := some .int }, accessFlags := 9, code := some k9c0 }
/-- java/lang/Integer -/
def k9 : Class := { plain "java/lang/Integer" (some 4) with
  accessFlags := 49
  interfaces := #[5, 6, 7]
  cf := some (fileOf pool9 1 #[.nestMembers #[189]] #[{ accessFlags := 9, nameIndex := 53, descriptorIndex := 54, attributes := #[] }] 49 203 #[304, 306, 308] #[{ accessFlags := 25, nameIndex := 310, descriptorIndex := 194, attributes := #[] }, { accessFlags := 25, nameIndex := 312, descriptorIndex := 194, attributes := #[] }, { accessFlags := 25, nameIndex := 302, descriptorIndex := 303, attributes := #[] }, { accessFlags := 24, nameIndex := 19, descriptorIndex := 20, attributes := #[] }, { accessFlags := 24, nameIndex := 89, descriptorIndex := 86, attributes := #[] }, { accessFlags := 24, nameIndex := 85, descriptorIndex := 86, attributes := #[] }, { accessFlags := 18, nameIndex := 207, descriptorIndex := 194, attributes := #[] }, { accessFlags := 25, nameIndex := 316, descriptorIndex := 194, attributes := #[] }, { accessFlags := 25, nameIndex := 318, descriptorIndex := 194, attributes := #[] }, { accessFlags := 26, nameIndex := 320, descriptorIndex := 321, attributes := #[] }])
  fields := #[{ name := "MIN_VALUE", type := .int, accessFlags := 25, slot := 0, constantValue := 0 }, { name := "MAX_VALUE", type := .int, accessFlags := 25, slot := 1, constantValue := 0 }, { name := "TYPE", type := (.object "java/lang/Class"), accessFlags := 25, slot := 2, constantValue := 0 }, { name := "digits", type := (.array .char), accessFlags := 24, slot := 3, constantValue := 0 }, { name := "DigitTens", type := (.array .byte), accessFlags := 24, slot := 4, constantValue := 0 }, { name := "DigitOnes", type := (.array .byte), accessFlags := 24, slot := 5, constantValue := 0 }, { name := "value", type := .int, accessFlags := 18, slot := 0, constantValue := 0 }, { name := "SIZE", type := .int, accessFlags := 25, slot := 6, constantValue := 0 }, { name := "BYTES", type := .int, accessFlags := 25, slot := 7, constantValue := 0 }, { name := "serialVersionUID", type := .long, accessFlags := 26, slot := 8, constantValue := 0 }]
  methods := #[k9m0]
  instanceTypes := #[.int]
  staticTypes := #[.int, .int, (.object "java/lang/Class"), (.array .char), (.array .byte), (.array .byte), .int, .int, .long]
  resolved := Array.replicate 453 none
  statics := none }

def pool10 : Array CpInfo := pool [(1, .class_ 2), (0, u "java/lang/Math"), (1, .class_ 6), (1, u "java/lang/Object"), (0, u "<init>"), (0, u "()V"), (89, .class_ 100), (1, u "java/lang/Math$RandomNumberGeneratorHolder"), (19, u "multiplyExact"), (51, u "negativeZeroFloatBits"), (0, u "J"), (2, u "negativeZeroDoubleBits"), (68, u "$assertionsDisabled"), (0, u "Z"), (88, u "(II)I"), (2, u "twoToTheDoubleScaleDown"), (0, u "D"), (4, u "twoToTheDoubleScaleUp"), (9, u "E"), (3, u "PI"), (2, u "TAU"), (2, u "DEGREES_TO_RADIANS"), (0, u "RADIANS_TO_DEGREES")] 94

def k10m0 : Method := { name := "<init>", desc := "()V", sig := { parameters := [], returnType := none }, accessFlags := 2, code := none }
def k10c1 : Code := { maxStack := 4, maxLocals := 4, code := jdk_29_method_28_code, exceptionTable := #[], attributes := #[] }
def k10m1 : Method := { name := "multiplyExact", desc := "(II)I", sig := { parameters := [.int, .int], returnType := some .int }, accessFlags := 9, code := some k10c1 }
/-- java/lang/Math -/
def k10 : Class := { plain "java/lang/Math" (some 0) with
  accessFlags := 49
  interfaces := #[]
  cf := some (fileOf pool10 1 #[.nestMembers #[98]] #[{ accessFlags := 2, nameIndex := 7, descriptorIndex := 8, attributes := #[] }, { accessFlags := 9, nameIndex := 120, descriptorIndex := 335, attributes := #[] }] 49 4 #[] #[{ accessFlags := 25, nameIndex := 354, descriptorIndex := 339, attributes := #[] }, { accessFlags := 25, nameIndex := 358, descriptorIndex := 339, attributes := #[] }, { accessFlags := 25, nameIndex := 361, descriptorIndex := 339, attributes := #[] }, { accessFlags := 26, nameIndex := 364, descriptorIndex := 339, attributes := #[] }, { accessFlags := 26, nameIndex := 365, descriptorIndex := 339, attributes := #[] }, { accessFlags := 26, nameIndex := 172, descriptorIndex := 173, attributes := #[] }, { accessFlags := 26, nameIndex := 176, descriptorIndex := 173, attributes := #[] }, { accessFlags := 8, nameIndex := 344, descriptorIndex := 339, attributes := #[] }, { accessFlags := 8, nameIndex := 338, descriptorIndex := 339, attributes := #[] }, { accessFlags := 4120, nameIndex := 245, descriptorIndex := 246, attributes := #[] }])
  fields := #[{ name := "E", type := .double, accessFlags := 25, slot := 0, constantValue := 0 }, { name := "PI", type := .double, accessFlags := 25, slot := 1, constantValue := 0 }, { name := "TAU", type := .double, accessFlags := 25, slot := 2, constantValue := 0 }, { name := "DEGREES_TO_RADIANS", type := .double, accessFlags := 26, slot := 3, constantValue := 0 }, { name := "RADIANS_TO_DEGREES", type := .double, accessFlags := 26, slot := 4, constantValue := 0 }, { name := "negativeZeroFloatBits", type := .long, accessFlags := 26, slot := 5, constantValue := 0 }, { name := "negativeZeroDoubleBits", type := .long, accessFlags := 26, slot := 6, constantValue := 0 }, { name := "twoToTheDoubleScaleUp", type := .double, accessFlags := 8, slot := 7, constantValue := 0 }, { name := "twoToTheDoubleScaleDown", type := .double, accessFlags := 8, slot := 8, constantValue := 0 }, { name := "$assertionsDisabled", type := .boolean, accessFlags := 4120, slot := 9, constantValue := 0 }]
  methods := #[k10m0, k10m1]
  instanceTypes := #[]
  staticTypes := #[.double, .double, .double, .double, .double, .long, .long, .double, .double, .boolean]
  resolved := Array.replicate 460 none
  statics := none }

def pool11 : Array CpInfo := pool [(2, .class_ 4), (1, u "java/lang/Object"), (0, u "<init>"), (0, u "()V"), (0, .methodref 8 9), (0, .class_ 10), (0, .nameAndType 11 12), (0, u "sketchspan/sketch/Hashing"), (0, u "mix"), (0, u "(J)J"), (4, u "hash"), (0, u "(JJ)J"), (0, .long 11400714819323198485), (1, .long 13787848793156543929), (1, .long 10723151780598845931), (1, u "TAG"), (0, u "J")] 6

def k11m0 : Method := { name := "<init>", desc := "()V", sig := { parameters := [], returnType := none }, accessFlags := 2, code := none }
def k11c1 : Code := { maxStack := 5, maxLocals := 4, code := prog_61_method_3_code, exceptionTable := #[], attributes := #[] }
def k11m1 : Method := { name := "mix", desc := "(J)J", sig := { parameters := [.long], returnType := some .long }, accessFlags := 8, code := some k11c1 }
def k11c2 : Code := { maxStack := 4, maxLocals := 4, code := prog_61_method_4_code, exceptionTable := #[], attributes := #[] }
def k11m2 : Method := { name := "hash", desc := "(JJ)J", sig := { parameters := [.long, .long], returnType := some .long }, accessFlags := 9, code := some k11c2 }
/-- sketchspan/sketch/Hashing -/
def k11 : Class := { plain "sketchspan/sketch/Hashing" (some 0) with
  accessFlags := 49
  interfaces := #[]
  cf := some (fileOf pool11 8 #[] #[{ accessFlags := 2, nameIndex := 5, descriptorIndex := 6, attributes := #[] }, { accessFlags := 8, nameIndex := 11, descriptorIndex := 12, attributes := #[] }, { accessFlags := 9, nameIndex := 17, descriptorIndex := 18, attributes := #[] }] 49 2 #[] #[{ accessFlags := 26, nameIndex := 25, descriptorIndex := 26, attributes := #[] }])
  fields := #[{ name := "TAG", type := .long, accessFlags := 26, slot := 0, constantValue := 0 }]
  methods := #[k11m0, k11m1, k11m2]
  instanceTypes := #[]
  staticTypes := #[.long]
  resolved := Array.replicate 33 none
  statics := none }

def pool12 : Array CpInfo := pool [(1, u "java/lang/Cloneable"), (0, .class_ 1), (0, u "java/lang/Object"), (0, .class_ 3)] 3

/-- java/lang/Cloneable -/
def k12 : Class := { plain "java/lang/Cloneable" (some 0) with
  accessFlags := 1537
  interfaces := #[]
  cf := some (fileOf pool12 2 #[] #[] 1537 4 #[] #[])
  fields := #[]
  methods := #[]
  instanceTypes := #[]
  staticTypes := #[]
  resolved := Array.replicate 8 none
  statics := none }

/-- the primitive byte -/
def k13 : Class := { plain "byte" none with kind := .primitive 'B', accessFlags := 0x411 }
/-- [B -/
def k14 : Class := { plain "[B" (some 0) with kind := .array 13 .byte, interfaces := #[12, 3], accessFlags := 1041 }

/-- the primitive int -/
def k15 : Class := { plain "int" none with kind := .primitive 'I', accessFlags := 0x411 }
/-- [I -/
def k16 : Class := { plain "[I" (some 0) with kind := .array 15 .int, interfaces := #[12, 3], accessFlags := 1041 }

/-- the primitive long -/
def k17 : Class := { plain "long" none with kind := .primitive 'J', accessFlags := 0x411 }
/-- [J -/
def k18 : Class := { plain "[J" (some 0) with kind := .array 17 .long, interfaces := #[12, 3], accessFlags := 1041 }

def heap : Heap := #[]
def classes : Array Class := #[k0, k1, k2, k3, k4, k5, k6, k7, k8, k9, k10, k11, k12, k13, k14, k15, k16, k17, k18]
def interned : List (Array UInt16 × Addr) := []
def slotsUsed : Nat := 0
def theMethod : MethodId := ⟨1, 2⟩
def args0 : Array Value := #[.long 1, .long 2, .long 3, .long 4, .long 5, .int 3]
def aboutOver (below : List Frame) : State where
  vm := { classes := classes, interned := interned.toArray }
  heap := heap
  slotsUsed := slotsUsed
  threads := #[{ frames := .invoking theMethod args0 :: below }]
def below0 : List Frame := [.native { method := ⟨0, 0⟩, args := #[] }]
def about1 : State := aboutOver below0
def p0 : Program := .bare "" "" ""
def e0 : Env := launch0.env 0 0 0
theorem w_frames : about1.frames = Frame.invoking theMethod args0 :: below0 := rfl
set_option maxRecDepth 65536 in
theorem w_args : argsFit about1.vm theMethod args0 = true := by decide +kernel
set_option maxRecDepth 65536 in
theorem w_heap : heapFits about1 = true := by decide +kernel
set_option maxRecDepth 65536 in
theorem w_runnable : about1.curStatus? = some .runnable := by decide +kernel
set_option maxRecDepth 65536 in
theorem w_alone : about1.alone = true := by decide +kernel
set_option maxRecDepth 65536 in
theorem w_named : about1.methodNamed? x = some theMethod := by decide +kernel
set_option maxRecDepth 65536 in
theorem w_hears : about1.hears theMethod below0 = true := by decide +kernel
set_option maxRecDepth 65536 in
theorem w_ripe : about1.ripe theMethod args0 below0 = true := by decide +kernel
theorem w_running : about1.status = .running := rfl
set_option maxRecDepth 65536 in
theorem w_room : about1.hasRoom e0.platform room_1 = true :=
  launch0.hasRoom_least _ room_1 (by decide +kernel) (by decide +kernel) (by decide +kernel) (by decide +kernel) (by decide +kernel) (by decide +kernel)
theorem allAtoms_all (ts : List Jvm.Cond) (a : Array Jvm.Value) (st : Jvm.State) : (allAtoms ts).before a st = ts.all (fun c => c.before a st) := by
  induction ts with
  | nil => rfl
  | cons c t ih =>
    show (Jvm.Cond.and c (allAtoms t)).before a st = _
    rw [Jvm.Cond.before_and, ih, List.all_cons]
def words1 : List Jvm.Cond := Jvm.Cond.code x code maxLocals ret :: tables_1
/-- a 'code' word, met by the world's own term for the bytes: nothing is compared byte by byte -/
theorem code_word {y : MethodName} {bytes : ByteArray} {mx : Nat} {rt : Option FieldType} {a : Array Value} {s : State} {m : MethodId} {meth : Method} {c : Code} (h1 : s.methodNamed? y = some m) (h2 : s.vm.method? m = some meth) (h3 : meth.code = some c) (h4 : c.code = bytes)
    (h5 : (c.maxLocals == mx && c.exceptionTable.isEmpty && decide (c.maxStack ≤ mostOperands) && decide (meth.sig.returnType = rt) && !meth.locks && decide (parseMethodDescriptor y.desc = some meth.sig)) = true) : (Jvm.Cond.code y bytes mx rt).before a s = true := by
  simp only [Bool.and_eq_true, beq_iff_eq, Bool.not_eq_true', decide_eq_true_eq] at h5
  obtain ⟨⟨⟨⟨⟨g1, g2⟩, g3⟩, g4⟩, g5⟩, g6⟩ := h5
  simp [Cond.before, Cond.holds, Cond.value, h1, h2, h3, h4, g1, g2, g3, g4, g5, g6]
def isCode : Jvm.Cond → Bool
  | .code _ _ _ _ => true
  | _ => false
theorem all_split {L : List Jvm.Cond} {P : Jvm.Cond → Bool} (h1 : L.all (fun c => isCode c || P c) = true) (h2 : ∀ c ∈ L.filter isCode, P c = true) : L.all P = true := by
  refine List.all_eq_true.mpr fun c hc => ?_
  have h := List.all_eq_true.mp h1 c hc
  rcases Bool.eq_false_or_eq_true (isCode c) with hi | hi
  · exact h2 c (List.mem_filter.mpr ⟨hc, hi⟩)
  · simpa [hi] using h
set_option maxRecDepth 65536 in
theorem w_c0 : (Jvm.Cond.code x code maxLocals ret).before args0 about1 = true := code_word (m := ⟨1, 2⟩) (meth := k1m2) (c := k1c2) (by decide +kernel) rfl rfl rfl (by decide +kernel)
set_option maxRecDepth 65536 in
theorem w_c1 : (Jvm.Cond.code ({ cls := "sketchspan/sketch/PairSampler", name := "<init>", desc := "(IJI)V" } : Jvm.MethodName) prog_69_method_1_code (8 : Nat) (Option.none : Option Jvm.ClassFile.FieldType)).before args0 about1 = true := code_word (m := ⟨2, 0⟩) (meth := k2m0) (c := k2c0) (by decide +kernel) rfl rfl rfl (by decide +kernel)
set_option maxRecDepth 65536 in
theorem w_c2 : (Jvm.Cond.code ({ cls := "java/lang/Object", name := "<init>", desc := "()V" } : Jvm.MethodName) object_method_1_code (1 : Nat) (Option.none : Option Jvm.ClassFile.FieldType)).before args0 about1 = true := code_word (m := ⟨0, 0⟩) (meth := k0m0) (c := k0c0) (by decide +kernel) rfl rfl rfl (by decide +kernel)
set_option maxRecDepth 65536 in
theorem w_c3 : (Jvm.Cond.code ({ cls := "java/lang/Long", name := "numberOfLeadingZeros", desc := "(J)I" } : Jvm.MethodName) jdk_35_method_48_code (3 : Nat) (Option.some Jvm.ClassFile.FieldType.int)).before args0 about1 = true := code_word (m := ⟨8, 0⟩) (meth := k8m0) (c := k8c0) (by decide +kernel) rfl rfl rfl (by decide +kernel)
set_option maxRecDepth 65536 in
theorem w_c4 : (Jvm.Cond.code ({ cls := "java/lang/Integer", name := "numberOfLeadingZeros", desc := "(I)I" } : Jvm.MethodName) jdk_33_method_47_code (2 : Nat) (Option.some Jvm.ClassFile.FieldType.int)).before args0 about1 = true := code_word (m := ⟨9, 0⟩) (meth := k9m0) (c := k9c0) (by decide +kernel) rfl rfl rfl (by decide +kernel)
set_option maxRecDepth 65536 in
theorem w_c5 : (Jvm.Cond.code ({ cls := "java/lang/Math", name := "multiplyExact", desc := "(II)I" } : Jvm.MethodName) jdk_29_method_28_code (4 : Nat) (Option.some Jvm.ClassFile.FieldType.int)).before args0 about1 = true := code_word (m := ⟨10, 1⟩) (meth := k10m1) (c := k10c1) (by decide +kernel) rfl rfl rfl (by decide +kernel)
set_option maxRecDepth 65536 in
theorem w_c6 : (Jvm.Cond.code ({ cls := "sketchspan/sketch/Hashing", name := "hash", desc := "(JJ)J" } : Jvm.MethodName) prog_61_method_4_code (4 : Nat) (Option.some Jvm.ClassFile.FieldType.long)).before args0 about1 = true := code_word (m := ⟨11, 2⟩) (meth := k11m2) (c := k11c2) (by decide +kernel) rfl rfl rfl (by decide +kernel)
set_option maxRecDepth 65536 in
theorem w_c7 : (Jvm.Cond.code ({ cls := "sketchspan/sketch/Hashing", name := "mix", desc := "(J)J" } : Jvm.MethodName) prog_61_method_3_code (4 : Nat) (Option.some Jvm.ClassFile.FieldType.long)).before args0 about1 = true := code_word (m := ⟨11, 1⟩) (meth := k11m1) (c := k11c1) (by decide +kernel) rfl rfl rfl (by decide +kernel)
set_option maxRecDepth 65536 in
theorem w_c8 : (Jvm.Cond.code ({ cls := "sketchspan/sketch/PairSamplerIsStatePinLaw", name := "residue", desc := "(J)Z" } : Jvm.MethodName) method_2_code (2 : Nat) (Option.some Jvm.ClassFile.FieldType.boolean)).before args0 about1 = true := code_word (m := ⟨1, 1⟩) (meth := k1m1) (c := k1c1) (by decide +kernel) rfl rfl rfl (by decide +kernel)
set_option maxRecDepth 65536 in
theorem w_c9 : (Jvm.Cond.code ({ cls := "sketchspan/sketch/PairSampler", name := "isState", desc := "([JI)Z" } : Jvm.MethodName) prog_69_method_5_code (4 : Nat) (Option.some Jvm.ClassFile.FieldType.boolean)).before args0 about1 = true := code_word (m := ⟨2, 1⟩) (meth := k2m1) (c := k2c1) (by decide +kernel) rfl rfl rfl (by decide +kernel)
def codes1 : List Jvm.Cond := [Jvm.Cond.code x code maxLocals ret, Jvm.Cond.code ({ cls := "sketchspan/sketch/PairSampler", name := "<init>", desc := "(IJI)V" } : Jvm.MethodName) prog_69_method_1_code (8 : Nat) (Option.none : Option Jvm.ClassFile.FieldType), Jvm.Cond.code ({ cls := "java/lang/Object", name := "<init>", desc := "()V" } : Jvm.MethodName) object_method_1_code (1 : Nat) (Option.none : Option Jvm.ClassFile.FieldType), Jvm.Cond.code ({ cls := "java/lang/Long", name := "numberOfLeadingZeros", desc := "(J)I" } : Jvm.MethodName) jdk_35_method_48_code (3 : Nat) (Option.some Jvm.ClassFile.FieldType.int), Jvm.Cond.code ({ cls := "java/lang/Integer", name := "numberOfLeadingZeros", desc := "(I)I" } : Jvm.MethodName) jdk_33_method_47_code (2 : Nat) (Option.some Jvm.ClassFile.FieldType.int), Jvm.Cond.code ({ cls := "java/lang/Math", name := "multiplyExact", desc := "(II)I" } : Jvm.MethodName) jdk_29_method_28_code (4 : Nat) (Option.some Jvm.ClassFile.FieldType.int), Jvm.Cond.code ({ cls := "sketchspan/sketch/Hashing", name := "hash", desc := "(JJ)J" } : Jvm.MethodName) prog_61_method_4_code (4 : Nat) (Option.some Jvm.ClassFile.FieldType.long), Jvm.Cond.code ({ cls := "sketchspan/sketch/Hashing", name := "mix", desc := "(J)J" } : Jvm.MethodName) prog_61_method_3_code (4 : Nat) (Option.some Jvm.ClassFile.FieldType.long), Jvm.Cond.code ({ cls := "sketchspan/sketch/PairSamplerIsStatePinLaw", name := "residue", desc := "(J)Z" } : Jvm.MethodName) method_2_code (2 : Nat) (Option.some Jvm.ClassFile.FieldType.boolean), Jvm.Cond.code ({ cls := "sketchspan/sketch/PairSampler", name := "isState", desc := "([JI)Z" } : Jvm.MethodName) prog_69_method_5_code (4 : Nat) (Option.some Jvm.ClassFile.FieldType.boolean)]
set_option maxRecDepth 65536 in
theorem codes_eq : words1.filter isCode = codes1 := rfl
theorem w_codes : ∀ c ∈ words1.filter isCode, c.before args0 about1 = true := by
  rw [codes_eq]
  intro c hc
  simp only [codes1, List.mem_cons, List.not_mem_nil, or_false] at hc
  rcases hc with rfl | rfl | rfl | rfl | rfl | rfl | rfl | rfl | rfl | rfl
  · exact w_c0
  · exact w_c1
  · exact w_c2
  · exact w_c3
  · exact w_c4
  · exact w_c5
  · exact w_c6
  · exact w_c7
  · exact w_c8
  · exact w_c9
set_option maxRecDepth 65536 in
theorem w_t1 : (words1.take 24).all (fun c => isCode c || c.before args0 about1) = true := by decide +kernel
set_option maxRecDepth 65536 in
theorem w_t2 : ((words1.drop 24).take 24).all (fun c => isCode c || c.before args0 about1) = true := by decide +kernel
set_option maxRecDepth 65536 in
theorem w_t3 : ((words1.drop 24).drop 24).all (fun c => isCode c || c.before args0 about1) = true := by decide +kernel
theorem w_tables : (allAtoms (Jvm.Cond.code x code maxLocals ret :: tables_1)).before args0 about1 = true := by
  rw [allAtoms_all]
  show words1.all (fun c => c.before args0 about1) = true
  refine all_split ?_ w_codes
  rw [← List.take_append_drop 24 words1, List.all_append, w_t1, ← List.take_append_drop 24 (words1.drop 24), List.all_append, w_t2, w_t3]
  rfl
set_option maxRecDepth 65536 in
theorem w_case : (Jvm.Cond.and given_1 narrow_1).before args0 about1 = true := by decide +kernel
theorem w_applies : (headSpec (Jvm.Cond.code x code maxLocals ret :: tables_1) room_1).applies x e0.platform about1 = true :=
  (Spec.applies_iff w_frames).mpr ⟨w_running, w_runnable, w_alone, w_named, w_hears, w_ripe, w_room, w_tables⟩
theorem atStart : AtStart classFile x code maxLocals ret World_1 tables_1 room_1 Calls_1 rest_1 Pre_1 launch0 p0 e0 about1 theMethod args0 below0 :=
  ⟨lists_1, trivial, launch0.admits_env _ _ _, launch0.least_env, fairChoices_fair.cas, fairChoices_fair.clock, w_frames, w_args, w_heap, w_applies, trivial, trivial, w_case⟩
end start1
theorem witness_1 : WitnessClaimed_1 := ⟨start1.p0, start1.e0, start1.about1, start1.theMethod, start1.args0, start1.below0, start1.atStart⟩
end Jvm.Pilot.@@N@@
