import JvmDerived
import JvmDerived.Pilot.@@N@@Statement
import JvmDerived.Pilot.@@N@@Code
set_option linter.unusedVariables false
set_option linter.unusedSimpArgs false
namespace Jvm.Pilot.@@N@@
open Jvm Jvm.ClassFile Sem Op Lib Jvm.Free Jvm.Stand Jvm.LawKit Jvm.RoadKit Bundle Jvm.Pilot.@@N@@.Jvm.D
def own_usr (x y : Int32) : Int32 := (x.toUInt32 >>> (y &&& 31).toUInt32).toInt32
def own_usrL (x : Int64) (y : Int32) : Int64 := (x.toUInt64 >>> (y &&& 0x3f).toInt64.toUInt64).toInt64
/-- where the run came from, where it stands -/
def Go (p : Program) (e : Env) (below : List Frame) (A B : State) : Prop := ∀ t, Steps p.tables e below B t → Steps p.tables e below A t
theorem Go.step {p : Program} {e : Env} {below : List Frame} {A B C : State} (g : Go p e below A B) (h : ∀ t, Steps p.tables e below C t → Steps p.tables e below B t) : Go p e below A C := fun t k => g t (h t k)
theorem Go.tr {p : Program} {e : Env} {below : List Frame} {A B C : State} (g : Go p e below A B) (h : Steps p.tables e below B C) : Go p e below A C := fun t k => g t (h.trans k)
section Rets
variable {p : Program} {l : Launch} {e : Env} {R : Room} {s : State} {m : MethodId} {args : Array Value} {below : List Frame} {meth : Method} {c : Code} {T : State} {locs : List Loc} {cells slots : Nat}
theorem own_retI (X : Stand p l e R s m args below meth c T locs cells slots) (hx : p.tables.exec = Jvm.exec) {pc : Nat} {Ls : Array Slot} {z : Int32} {rest : List Value} (hret : meth.sig.returnType = some .int) (hd : decode c.code pc = .ok (.ireturn, 1)) {fs : List Frame}
    (hl : ∀ (f : JFrame) (acts : List Action), f.method = m → f.locked = none → f.entered = [] → (doReturn e (T.setTop f) acts (some (.int z))).1 = T.setFrames fs) : Steps p.tables e below (T.setTop (mkF m pc Ls (.int z :: rest))) (T.setFrames fs) :=
  retOut X hx (t := .int) hret rfl (Or.inl ⟨rfl, Or.inl rfl, z, rfl⟩) hd hl
theorem own_retL (X : Stand p l e R s m args below meth c T locs cells slots) (hx : p.tables.exec = Jvm.exec) {pc : Nat} {Ls : Array Slot} {z : Int64} {rest : List Value} (hret : meth.sig.returnType = some .long) (hd : decode c.code pc = .ok (.lreturn, 1)) {fs : List Frame}
    (hl : ∀ (f : JFrame) (acts : List Action), f.method = m → f.locked = none → f.entered = [] → (doReturn e (T.setTop f) acts (some (.long z))).1 = T.setFrames fs) : Steps p.tables e below (T.setTop (mkF m pc Ls (.long z :: rest))) (T.setFrames fs) :=
  retOut X hx (t := .long) hret rfl (Or.inr (Or.inl ⟨rfl, rfl, z, rfl⟩)) hd hl
theorem own_retA (X : Stand p l e R s m args below meth c T locs cells slots) (hx : p.tables.exec = Jvm.exec) {t : FieldType} {pc : Nat} {Ls : Array Slot} {z : Addr} {rest : List Value} (hret : meth.sig.returnType = some t) (ht : t.isReference = true) (hn : narrow t (.ref z) = .ref z) (hd : decode c.code pc = .ok (.areturn, 1)) {fs : List Frame}
    (hl : ∀ (f : JFrame) (acts : List Action), f.method = m → f.locked = none → f.entered = [] → (doReturn e (T.setTop f) acts (some (.ref z))).1 = T.setFrames fs) : Steps p.tables e below (T.setTop (mkF m pc Ls (.ref z :: rest))) (T.setFrames fs) :=
  retOut X hx hret hn (Or.inr (Or.inr (Or.inr (Or.inr ⟨rfl, ht, rfl⟩)))) hd hl
end Rets
def own_xs (z : Int64) (k : Int32) : Int64 := z ^^^ own_usrL z k
def own_mix (x : Int64) : Int64 := own_xs (own_xs (own_xs x (30 : Int32) * (-4658895280553007687 : Int64)) (27 : Int32) * (-7723592293110705685 : Int64)) (31 : Int32)
def own_key (x : Int64) : Int64 := own_mix (x * (-7046029254386353131 : Int64))
def own_start (x y : Int64) : Int64 := own_mix (x + (y + (1 : Int64)) * (-3335678366873096957 : Int64))
def own_val (x y : Int64) : Int64 := own_mix (x + y * (-7046029254386353131 : Int64))
theorem own_l1 (x : Int64) : own_mix (x + (-7046029254386353131 : Int64)) = own_val x (1 : Int64) := by
  unfold own_val; rw [Int64.one_mul]
theorem own_l2 (x : Int64) : own_mix (x + (-7046029254386353131 : Int64) + (-7046029254386353131 : Int64)) = own_val x (2 : Int64) := by
  unfold own_val; rw [Int64.add_assoc]; rfl
theorem own_l3 (x : Int64) : own_mix (x + (-7046029254386353131 : Int64) + (-7046029254386353131 : Int64) + (-7046029254386353131 : Int64)) = own_val x (3 : Int64) := by
  unfold own_val; rw [Int64.add_assoc, Int64.add_assoc]; rfl
theorem d4_0 : decode prog_72_method_7_code 0 = .ok (.lload_n 0, 1) := by decide +kernel
theorem d4_1 : decode prog_72_method_7_code 1 = .ok (.lload_n 0, 1) := by decide +kernel
theorem d4_2 : decode prog_72_method_7_code 2 = .ok (.bipush 30, 2) := by decide +kernel
theorem d4_4 : decode prog_72_method_7_code 4 = .ok (.lushr, 1) := by decide +kernel
theorem d4_5 : decode prog_72_method_7_code 5 = .ok (.lxor, 1) := by decide +kernel
theorem d4_6 : decode prog_72_method_7_code 6 = .ok (.ldc2_w 36, 3) := by decide +kernel
theorem d4_9 : decode prog_72_method_7_code 9 = .ok (.lmul, 1) := by decide +kernel
theorem d4_10 : decode prog_72_method_7_code 10 = .ok (.lstore_n 0, 1) := by decide +kernel
theorem d4_11 : decode prog_72_method_7_code 11 = .ok (.lload_n 0, 1) := by decide +kernel
theorem d4_12 : decode prog_72_method_7_code 12 = .ok (.lload_n 0, 1) := by decide +kernel
theorem d4_13 : decode prog_72_method_7_code 13 = .ok (.bipush 27, 2) := by decide +kernel
theorem d4_15 : decode prog_72_method_7_code 15 = .ok (.lushr, 1) := by decide +kernel
theorem d4_16 : decode prog_72_method_7_code 16 = .ok (.lxor, 1) := by decide +kernel
theorem d4_17 : decode prog_72_method_7_code 17 = .ok (.ldc2_w 38, 3) := by decide +kernel
theorem d4_20 : decode prog_72_method_7_code 20 = .ok (.lmul, 1) := by decide +kernel
theorem d4_21 : decode prog_72_method_7_code 21 = .ok (.lstore_n 0, 1) := by decide +kernel
theorem d4_22 : decode prog_72_method_7_code 22 = .ok (.lload_n 0, 1) := by decide +kernel
theorem d4_23 : decode prog_72_method_7_code 23 = .ok (.lload_n 0, 1) := by decide +kernel
theorem d4_24 : decode prog_72_method_7_code 24 = .ok (.bipush 31, 2) := by decide +kernel
theorem d4_26 : decode prog_72_method_7_code 26 = .ok (.lushr, 1) := by decide +kernel
theorem d4_27 : decode prog_72_method_7_code 27 = .ok (.lxor, 1) := by decide +kernel
theorem d4_28 : decode prog_72_method_7_code 28 = .ok (.lreturn, 1) := by decide +kernel
theorem pn_rm4 : plainName "com/example/equipoise/equipoise/SplitMix" = true := by first | (simp [plainName, overriddenIn]; done) | decide +kernel
theorem ef_rm4 (m : MethodId) (q0 : Int64) : entryFrame m #[(.long q0)] 2 = mkF m 0 #[.val (.long q0), .second] [] := by first | (simp [entryFrame, mkF, argsToLocals, Value.category]; done) | rfl
def Q_rm4 (Z : State) (q0 : Int64) (h0 : Heap) (n0 : Nat) (v : Option Value) (h : Heap) (L : List Loc) : Prop := v = some (.long (own_mix q0)) ∧ Fr n0 L ∧ h = h0
set_option maxRecDepth 65536 in
set_option maxHeartbeats 40000000 in
theorem rm4 (l : Launch) (Z : State) (a0 : Array Value) (hw : ∀ d ∈ tables_1, d.before a0 Z = true) (ws : List Jvm.Cond) (q0 : Int64) (h0 : Heap) (n0 : Nat) (Z0 : n0 ≤ h0.size) :
    MetFree l (⟨"com/example/equipoise/equipoise/SplitMix", "mix", "(J)J"⟩ : MethodName) (head1 (Jvm.Cond.code (⟨"com/example/equipoise/equipoise/SplitMix", "mix", "(J)J"⟩ : MethodName) prog_72_method_7_code 2 (some .long) :: ws) ({ frames := 0, cells := 0, slots := 0, locals := 0 } : Room)) (fun a U => a = #[(.long q0)] ∧ Z.Warmed39 U.vm ∧ U.heap = h0) (fun _ _ _ _ _ => True) (fun _ U o U' => ∃ v L, o = .returned v ∧ Q_rm4 Z q0 h0 n0 v U'.heap L ∧ FrameEnd U o U' L ({ frames := 0, cells := 0, slots := 0, locals := 0 } : Room).cells ({ frames := 0, cells := 0, slots := 0, locals := 0 } : Room).slots) := by
  refine MetFree.of_bodySF (plainFor_of_name pn_rm4) hisR ?_
  intro p e s m args below meth c s₁ Bd hml0 hP hK
  obtain ⟨rfl, hZ, hh⟩ := hP
  have hx := Bd.exec
  have hby := Bd.bytes
  have hml : c.maxLocals = 2 := hml0
  have hown : s.vm.findClass "com/example/equipoise/equipoise/SplitMix" = some m.cls := findClass_of_methodNamed Bd.named
  have hnm := (name_of_methodNamed Bd.named Bd.method).1
  have X0 : Stand p l e ({ frames := 0, cells := 0, slots := 0, locals := 0 } : Room) s m #[(.long q0)] below meth c s₁ [] 0 0 := Stand.of_body Bd
  have e0 : s₁.heap = h0 := by rw [← hh, Bd.state]; rfl
  have N0 := Fr.nil n0
  have K0 := Keep.refl h0 []
  have go0 : Go p e below (s₁.setTop (entryFrame m #[(.long q0)] 2)) (s₁.setTop (mkF m 0 #[.val (.long q0), .second] [])) := fun t k => castTop (ef_rm4 m q0) k
  have go1 := go0.step (C := s₁.setTop (mkF m 10 #[.val (.long q0), .second] [(.long ((q0 ^^^ (own_usrL q0 (30 : Int32))) * (-4658895280553007687 : Int64)))])) (fun t k => by
    show Steps p.tables e below (s₁.setTop (mkF m 0 #[.val (.long q0), .second] [])) _
    refine XS.lloadN X0.here hx rfl (hb hby d4_0) rfl ?_
    show Steps p.tables e below (s₁.setTop (mkF m 1 #[.val (.long q0), .second] [(.long q0)])) _
    refine XS.lloadN X0.here hx rfl (hb hby d4_1) rfl ?_
    show Steps p.tables e below (s₁.setTop (mkF m 2 #[.val (.long q0), .second] [(.long q0), (.long q0)])) _
    refine XS.bipush X0.here hx rfl (hb hby d4_2) ?_
    show Steps p.tables e below (s₁.setTop (mkF m 4 #[.val (.long q0), .second] [(.int (30 : Int32)), (.long q0), (.long q0)])) _
    refine XS.lushr X0.here hx rfl (hb hby d4_4) rfl ?_
    show Steps p.tables e below (s₁.setTop (mkF m 5 #[.val (.long q0), .second] [(.long (own_usrL q0 (30 : Int32))), (.long q0)])) _
    refine XS.lxor X0.here hx rfl (hb hby d4_5) rfl ?_
    show Steps p.tables e below (s₁.setTop (mkF m 6 #[.val (.long q0), .second] [(.long (q0 ^^^ (own_usrL q0 (30 : Int32))))])) _
    refine X0.ldc2Long hx hown (mvT hZ (hw _ (List.mem_of_getElem? (i := 16) rfl))) (g := (mkF m 6 #[.val (.long q0), .second] [(.long (q0 ^^^ (own_usrL q0 (30 : Int32))))])) rfl (hb hby d4_6) _ ?_
    show Steps p.tables e below (s₁.setTop (mkF m 9 #[.val (.long q0), .second] [(.long (-4658895280553007687 : Int64)), (.long (q0 ^^^ (own_usrL q0 (30 : Int32))))])) _
    refine XS.lmul X0.here hx rfl (hb hby d4_9) rfl ?_
    exact k)
  obtain ⟨z1, hz1⟩ : ∃ z : Int64, z = ((q0 ^^^ (own_usrL q0 (30 : Int32))) * (-4658895280553007687 : Int64)) := ⟨_, rfl⟩
  rw [← hz1] at go1
  have go2 := go1.step (C := s₁.setTop (mkF m 21 #[.val (.long z1), .second] [(.long ((z1 ^^^ (own_usrL z1 (27 : Int32))) * (-7723592293110705685 : Int64)))])) (fun t k => by
    show Steps p.tables e below (s₁.setTop (mkF m 10 #[.val (.long q0), .second] [(.long z1)])) _
    refine XS.lstoreN X0.here hx rfl (hb hby d4_10) rfl (l' := #[.val (.long z1), .second]) rfl ?_
    show Steps p.tables e below (s₁.setTop (mkF m 11 #[.val (.long z1), .second] [])) _
    refine XS.lloadN X0.here hx rfl (hb hby d4_11) rfl ?_
    show Steps p.tables e below (s₁.setTop (mkF m 12 #[.val (.long z1), .second] [(.long z1)])) _
    refine XS.lloadN X0.here hx rfl (hb hby d4_12) rfl ?_
    show Steps p.tables e below (s₁.setTop (mkF m 13 #[.val (.long z1), .second] [(.long z1), (.long z1)])) _
    refine XS.bipush X0.here hx rfl (hb hby d4_13) ?_
    show Steps p.tables e below (s₁.setTop (mkF m 15 #[.val (.long z1), .second] [(.int (27 : Int32)), (.long z1), (.long z1)])) _
    refine XS.lushr X0.here hx rfl (hb hby d4_15) rfl ?_
    show Steps p.tables e below (s₁.setTop (mkF m 16 #[.val (.long z1), .second] [(.long (own_usrL z1 (27 : Int32))), (.long z1)])) _
    refine XS.lxor X0.here hx rfl (hb hby d4_16) rfl ?_
    show Steps p.tables e below (s₁.setTop (mkF m 17 #[.val (.long z1), .second] [(.long (z1 ^^^ (own_usrL z1 (27 : Int32))))])) _
    refine X0.ldc2Long hx hown (mvT hZ (hw _ (List.mem_of_getElem? (i := 17) rfl))) (g := (mkF m 17 #[.val (.long z1), .second] [(.long (z1 ^^^ (own_usrL z1 (27 : Int32))))])) rfl (hb hby d4_17) _ ?_
    show Steps p.tables e below (s₁.setTop (mkF m 20 #[.val (.long z1), .second] [(.long (-7723592293110705685 : Int64)), (.long (z1 ^^^ (own_usrL z1 (27 : Int32))))])) _
    refine XS.lmul X0.here hx rfl (hb hby d4_20) rfl ?_
    exact k)
  obtain ⟨z2, hz2⟩ : ∃ z : Int64, z = ((z1 ^^^ (own_usrL z1 (27 : Int32))) * (-7723592293110705685 : Int64)) := ⟨_, rfl⟩
  rw [← hz2] at go2
  have go3 := go2.step (C := s₁.setTop (mkF m 28 #[.val (.long z2), .second] [(.long (z2 ^^^ (own_usrL z2 (31 : Int32))))])) (fun t k => by
    show Steps p.tables e below (s₁.setTop (mkF m 21 #[.val (.long z1), .second] [(.long z2)])) _
    refine XS.lstoreN X0.here hx rfl (hb hby d4_21) rfl (l' := #[.val (.long z2), .second]) rfl ?_
    show Steps p.tables e below (s₁.setTop (mkF m 22 #[.val (.long z2), .second] [])) _
    refine XS.lloadN X0.here hx rfl (hb hby d4_22) rfl ?_
    show Steps p.tables e below (s₁.setTop (mkF m 23 #[.val (.long z2), .second] [(.long z2)])) _
    refine XS.lloadN X0.here hx rfl (hb hby d4_23) rfl ?_
    show Steps p.tables e below (s₁.setTop (mkF m 24 #[.val (.long z2), .second] [(.long z2), (.long z2)])) _
    refine XS.bipush X0.here hx rfl (hb hby d4_24) ?_
    show Steps p.tables e below (s₁.setTop (mkF m 26 #[.val (.long z2), .second] [(.int (31 : Int32)), (.long z2), (.long z2)])) _
    refine XS.lushr X0.here hx rfl (hb hby d4_26) rfl ?_
    show Steps p.tables e below (s₁.setTop (mkF m 27 #[.val (.long z2), .second] [(.long (own_usrL z2 (31 : Int32))), (.long z2)])) _
    refine XS.lxor X0.here hx rfl (hb hby d4_27) rfl ?_
    exact k)
  obtain ⟨fs, hr, hrun, hended, hW, hsame⟩ := X0.leave (v := some (.long (z2 ^^^ (own_usrL z2 (31 : Int32))))) (fun h => by rw [Bd.returns] at h; cases h)
  refine ⟨_, _, go3 _ ?_, hrun, hended, _, _, rfl, ?_, ⟨_, rfl⟩, hW, hsame.mono (by decide) (by decide)⟩
  · exact own_retL X0 hx Bd.returns (hb hby d4_28) hr
  · show Q_rm4 Z q0 h0 n0 _ s₁.heap _
    rw [e0]
    exact ⟨by subst hz2 hz1; rfl, N0, rfl⟩
theorem d3_0 : decode prog_72_method_2_code 0 = .ok (.lload_n 0, 1) := by decide +kernel
theorem d3_1 : decode prog_72_method_2_code 1 = .ok (.ldc2_w 21, 3) := by decide +kernel
theorem d3_4 : decode prog_72_method_2_code 4 = .ok (.lmul, 1) := by decide +kernel
theorem d3_5 : decode prog_72_method_2_code 5 = .ok (.invokestatic 23, 3) := by decide +kernel
theorem d3_8 : decode prog_72_method_2_code 8 = .ok (.lreturn, 1) := by decide +kernel
theorem pn_rm3 : plainName "com/example/equipoise/equipoise/SplitMix" = true := by first | (simp [plainName, overriddenIn]; done) | decide +kernel
theorem pd3_0 : parseMethodDescriptor "(J)J" = some ⟨[.long], some .long⟩ := by decide +kernel
theorem ef_rm3 (m : MethodId) (q0 : Int64) : entryFrame m #[(.long q0)] 2 = mkF m 0 #[.val (.long q0), .second] [] := by first | (simp [entryFrame, mkF, argsToLocals, Value.category]; done) | rfl
def Q_rm3 (Z : State) (q0 : Int64) (h0 : Heap) (n0 : Nat) (v : Option Value) (h : Heap) (L : List Loc) : Prop := v = some (.long (own_key q0)) ∧ Fr n0 L ∧ h = h0
set_option maxRecDepth 65536 in
set_option maxHeartbeats 40000000 in
theorem rm3 (l : Launch) (Z : State) (a0 : Array Value) (hw : ∀ d ∈ tables_1, d.before a0 Z = true) (ws : List Jvm.Cond) (q0 : Int64) (h0 : Heap) (n0 : Nat) (Z0 : n0 ≤ h0.size) :
    MetFree l (⟨"com/example/equipoise/equipoise/SplitMix", "runKey", "(J)J"⟩ : MethodName) (head1 (Jvm.Cond.code (⟨"com/example/equipoise/equipoise/SplitMix", "runKey", "(J)J"⟩ : MethodName) prog_72_method_2_code 2 (some .long) :: ws) ({ frames := 1, cells := 0, slots := 0, locals := 13 } : Room)) (fun a U => a = #[(.long q0)] ∧ Z.Warmed39 U.vm ∧ U.heap = h0) (fun _ _ _ _ _ => True) (fun _ U o U' => ∃ v L, o = .returned v ∧ Q_rm3 Z q0 h0 n0 v U'.heap L ∧ FrameEnd U o U' L ({ frames := 1, cells := 0, slots := 0, locals := 13 } : Room).cells ({ frames := 1, cells := 0, slots := 0, locals := 13 } : Room).slots) := by
  refine MetFree.of_bodySF (plainFor_of_name pn_rm3) hisR ?_
  intro p e s m args below meth c s₁ Bd hml0 hP hK
  obtain ⟨rfl, hZ, hh⟩ := hP
  have hx := Bd.exec
  have hby := Bd.bytes
  have hml : c.maxLocals = 2 := hml0
  have hown : s.vm.findClass "com/example/equipoise/equipoise/SplitMix" = some m.cls := findClass_of_methodNamed Bd.named
  have hnm := (name_of_methodNamed Bd.named Bd.method).1
  have X0 : Stand p l e ({ frames := 1, cells := 0, slots := 0, locals := 13 } : Room) s m #[(.long q0)] below meth c s₁ [] 0 0 := Stand.of_body Bd
  have e0 : s₁.heap = h0 := by rw [← hh, Bd.state]; rfl
  have N0 := Fr.nil n0
  have K0 := Keep.refl h0 []
  have go0 : Go p e below (s₁.setTop (entryFrame m #[(.long q0)] 2)) (s₁.setTop (mkF m 0 #[.val (.long q0), .second] [])) := fun t k => castTop (ef_rm3 m q0) k
  have go1 := go0.step (C := s₁.setTop (mkF m 5 #[.val (.long q0), .second] [(.long (q0 * (-7046029254386353131 : Int64)))])) (fun t k => by
    show Steps p.tables e below (s₁.setTop (mkF m 0 #[.val (.long q0), .second] [])) _
    refine XS.lloadN X0.here hx rfl (hb hby d3_0) rfl ?_
    show Steps p.tables e below (s₁.setTop (mkF m 1 #[.val (.long q0), .second] [(.long q0)])) _
    refine X0.ldc2Long hx hown (mvT hZ (hw _ (List.mem_of_getElem? (i := 12) rfl))) (g := (mkF m 1 #[.val (.long q0), .second] [(.long q0)])) rfl (hb hby d3_1) _ ?_
    show Steps p.tables e below (s₁.setTop (mkF m 4 #[.val (.long q0), .second] [(.long (-7046029254386353131 : Int64)), (.long q0)])) _
    refine XS.lmul X0.here hx rfl (hb hby d3_4) rfl ?_
    exact k)
  obtain ⟨_, _, ⟨T2, L2, k2, n2⟩, -, X2, ⟨Lc2, hQ2, l2, y2, z2⟩, st2⟩ := Jvm.LawKit.callS X0 hx (y := (⟨"com/example/equipoise/equipoise/SplitMix", "mix", "(J)J"⟩ : MethodName)) hown (mvT hZ (hw _ (List.mem_of_getElem? (i := 13) rfl))) (mvT hZ (hw _ (List.mem_of_getElem? (i := 14) rfl))) (mvT hZ (hw _ (List.mem_of_getElem? (i := 2) rfl))) (mvT hZ (hw _ (List.mem_of_getElem? (i := 15) rfl))) (by decide) (backOf (W := 0) (rm4 l Z a0 hw [] (q0 * (-7046029254386353131 : Int64)) h0 n0 Z0 ) hZ (hw _ (List.mem_of_getElem? (i := 15) rfl)) (hw _ (List.mem_of_getElem? (i := 2) rfl)) (by decide) (by decide)) (g := (mkF m 5 #[.val (.long q0), .second] [(.long (q0 * (-7046029254386353131 : Int64)))])) rfl (by rw [hml]; rfl) (argsL := [(.long (q0 * (-7046029254386353131 : Int64)))]) (rest := []) (lenOf pd3_0 rfl) rfl (by show 2 * 0 + _ ≤ _; exact Nat.le_of_eq rfl) (hb hby d3_5) (fun _ _ => ⟨rfl, e0, (by decide : 0 + 0 ≤ _), (by decide : 0 + 0 ≤ _)⟩)
  dsimp only [Pt.U, Pt.locs, Pt.cells, Pt.slots] at X2 l2 y2 z2 st2 hQ2
  subst l2 y2 z2
  obtain ⟨rfl, N2q, e2⟩ := hQ2
  have N2 := Fr.app N0 N2q
  have go2 := go1.step (C := T2.setTop (mkF m 8 #[.val (.long q0), .second] [(.long (own_mix (q0 * (-7046029254386353131 : Int64))))])) (fun t k => st2 t k)
  obtain ⟨fs, hr, hrun, hended, hW, hsame⟩ := X2.leave (v := some (.long (own_mix (q0 * (-7046029254386353131 : Int64))))) (fun h => by rw [Bd.returns] at h; cases h)
  refine ⟨_, _, go2 _ ?_, hrun, hended, _, _, rfl, ?_, ⟨_, rfl⟩, hW, hsame.mono (by decide) (by decide)⟩
  · exact own_retL X2 hx Bd.returns (hb hby d3_8) hr
  · show Q_rm3 Z q0 h0 n0 _ T2.heap _
    rw [e2]
    exact ⟨rfl, N2, rfl⟩
theorem d5_0 : decode prog_72_method_3_code 0 = .ok (.lload_n 0, 1) := by decide +kernel
theorem d5_1 : decode prog_72_method_3_code 1 = .ok (.lload_n 2, 1) := by decide +kernel
theorem d5_2 : decode prog_72_method_3_code 2 = .ok (.lconst 1, 1) := by decide +kernel
theorem d5_3 : decode prog_72_method_3_code 3 = .ok (.ladd, 1) := by decide +kernel
theorem d5_4 : decode prog_72_method_3_code 4 = .ok (.ldc2_w 26, 3) := by decide +kernel
theorem d5_7 : decode prog_72_method_3_code 7 = .ok (.lmul, 1) := by decide +kernel
theorem d5_8 : decode prog_72_method_3_code 8 = .ok (.ladd, 1) := by decide +kernel
theorem d5_9 : decode prog_72_method_3_code 9 = .ok (.invokestatic 23, 3) := by decide +kernel
theorem d5_12 : decode prog_72_method_3_code 12 = .ok (.lreturn, 1) := by decide +kernel
theorem pn_rm5 : plainName "com/example/equipoise/equipoise/SplitMix" = true := by first | (simp [plainName, overriddenIn]; done) | decide +kernel
theorem pd5_0 : parseMethodDescriptor "(J)J" = some ⟨[.long], some .long⟩ := by decide +kernel
theorem ef_rm5 (m : MethodId) (q0 : Int64) (q1 : Int64) : entryFrame m #[(.long q0), (.long q1)] 4 = mkF m 0 #[.val (.long q0), .second, .val (.long q1), .second] [] := by first | (simp [entryFrame, mkF, argsToLocals, Value.category]; done) | rfl
def Q_rm5 (Z : State) (q0 : Int64) (q1 : Int64) (h0 : Heap) (n0 : Nat) (v : Option Value) (h : Heap) (L : List Loc) : Prop := v = some (.long (own_start q0 q1)) ∧ Fr n0 L ∧ h = h0
set_option maxRecDepth 65536 in
set_option maxHeartbeats 40000000 in
theorem rm5 (l : Launch) (Z : State) (a0 : Array Value) (hw : ∀ d ∈ tables_1, d.before a0 Z = true) (ws : List Jvm.Cond) (q0 : Int64) (q1 : Int64) (h0 : Heap) (n0 : Nat) (Z0 : n0 ≤ h0.size) :
    MetFree l (⟨"com/example/equipoise/equipoise/SplitMix", "start", "(JJ)J"⟩ : MethodName) (head1 (Jvm.Cond.code (⟨"com/example/equipoise/equipoise/SplitMix", "start", "(JJ)J"⟩ : MethodName) prog_72_method_3_code 4 (some .long) :: ws) ({ frames := 1, cells := 0, slots := 0, locals := 13 } : Room)) (fun a U => a = #[(.long q0), (.long q1)] ∧ Z.Warmed39 U.vm ∧ U.heap = h0) (fun _ _ _ _ _ => True) (fun _ U o U' => ∃ v L, o = .returned v ∧ Q_rm5 Z q0 q1 h0 n0 v U'.heap L ∧ FrameEnd U o U' L ({ frames := 1, cells := 0, slots := 0, locals := 13 } : Room).cells ({ frames := 1, cells := 0, slots := 0, locals := 13 } : Room).slots) := by
  refine MetFree.of_bodySF (plainFor_of_name pn_rm5) hisR ?_
  intro p e s m args below meth c s₁ Bd hml0 hP hK
  obtain ⟨rfl, hZ, hh⟩ := hP
  have hx := Bd.exec
  have hby := Bd.bytes
  have hml : c.maxLocals = 4 := hml0
  have hown : s.vm.findClass "com/example/equipoise/equipoise/SplitMix" = some m.cls := findClass_of_methodNamed Bd.named
  have hnm := (name_of_methodNamed Bd.named Bd.method).1
  have X0 : Stand p l e ({ frames := 1, cells := 0, slots := 0, locals := 13 } : Room) s m #[(.long q0), (.long q1)] below meth c s₁ [] 0 0 := Stand.of_body Bd
  have e0 : s₁.heap = h0 := by rw [← hh, Bd.state]; rfl
  have N0 := Fr.nil n0
  have K0 := Keep.refl h0 []
  have go0 : Go p e below (s₁.setTop (entryFrame m #[(.long q0), (.long q1)] 4)) (s₁.setTop (mkF m 0 #[.val (.long q0), .second, .val (.long q1), .second] [])) := fun t k => castTop (ef_rm5 m q0 q1) k
  have go1 := go0.step (C := s₁.setTop (mkF m 9 #[.val (.long q0), .second, .val (.long q1), .second] [(.long (q0 + ((q1 + (1 : Int64)) * (-3335678366873096957 : Int64))))])) (fun t k => by
    show Steps p.tables e below (s₁.setTop (mkF m 0 #[.val (.long q0), .second, .val (.long q1), .second] [])) _
    refine XS.lloadN X0.here hx rfl (hb hby d5_0) rfl ?_
    show Steps p.tables e below (s₁.setTop (mkF m 1 #[.val (.long q0), .second, .val (.long q1), .second] [(.long q0)])) _
    refine XS.lloadN X0.here hx rfl (hb hby d5_1) rfl ?_
    show Steps p.tables e below (s₁.setTop (mkF m 2 #[.val (.long q0), .second, .val (.long q1), .second] [(.long q1), (.long q0)])) _
    refine XS.lconst X0.here hx rfl (hb hby d5_2) ?_
    show Steps p.tables e below (s₁.setTop (mkF m 3 #[.val (.long q0), .second, .val (.long q1), .second] [(.long (1 : Int64)), (.long q1), (.long q0)])) _
    refine XS.ladd X0.here hx rfl (hb hby d5_3) rfl ?_
    show Steps p.tables e below (s₁.setTop (mkF m 4 #[.val (.long q0), .second, .val (.long q1), .second] [(.long (q1 + (1 : Int64))), (.long q0)])) _
    refine X0.ldc2Long hx hown (mvT hZ (hw _ (List.mem_of_getElem? (i := 21) rfl))) (g := (mkF m 4 #[.val (.long q0), .second, .val (.long q1), .second] [(.long (q1 + (1 : Int64))), (.long q0)])) rfl (hb hby d5_4) _ ?_
    show Steps p.tables e below (s₁.setTop (mkF m 7 #[.val (.long q0), .second, .val (.long q1), .second] [(.long (-3335678366873096957 : Int64)), (.long (q1 + (1 : Int64))), (.long q0)])) _
    refine XS.lmul X0.here hx rfl (hb hby d5_7) rfl ?_
    show Steps p.tables e below (s₁.setTop (mkF m 8 #[.val (.long q0), .second, .val (.long q1), .second] [(.long ((q1 + (1 : Int64)) * (-3335678366873096957 : Int64))), (.long q0)])) _
    refine XS.ladd X0.here hx rfl (hb hby d5_8) rfl ?_
    exact k)
  obtain ⟨_, _, ⟨T2, L2, k2, n2⟩, -, X2, ⟨Lc2, hQ2, l2, y2, z2⟩, st2⟩ := Jvm.LawKit.callS X0 hx (y := (⟨"com/example/equipoise/equipoise/SplitMix", "mix", "(J)J"⟩ : MethodName)) hown (mvT hZ (hw _ (List.mem_of_getElem? (i := 13) rfl))) (mvT hZ (hw _ (List.mem_of_getElem? (i := 14) rfl))) (mvT hZ (hw _ (List.mem_of_getElem? (i := 2) rfl))) (mvT hZ (hw _ (List.mem_of_getElem? (i := 15) rfl))) (by decide) (backOf (W := 0) (rm4 l Z a0 hw [] (q0 + ((q1 + (1 : Int64)) * (-3335678366873096957 : Int64))) h0 n0 Z0 ) hZ (hw _ (List.mem_of_getElem? (i := 15) rfl)) (hw _ (List.mem_of_getElem? (i := 2) rfl)) (by decide) (by decide)) (g := (mkF m 9 #[.val (.long q0), .second, .val (.long q1), .second] [(.long (q0 + ((q1 + (1 : Int64)) * (-3335678366873096957 : Int64))))])) rfl (by rw [hml]; rfl) (argsL := [(.long (q0 + ((q1 + (1 : Int64)) * (-3335678366873096957 : Int64))))]) (rest := []) (lenOf pd5_0 rfl) rfl (by show 2 * 0 + _ ≤ _; exact Nat.le_of_eq rfl) (hb hby d5_9) (fun _ _ => ⟨rfl, e0, (by decide : 0 + 0 ≤ _), (by decide : 0 + 0 ≤ _)⟩)
  dsimp only [Pt.U, Pt.locs, Pt.cells, Pt.slots] at X2 l2 y2 z2 st2 hQ2
  subst l2 y2 z2
  obtain ⟨rfl, N2q, e2⟩ := hQ2
  have N2 := Fr.app N0 N2q
  have go2 := go1.step (C := T2.setTop (mkF m 12 #[.val (.long q0), .second, .val (.long q1), .second] [(.long (own_mix (q0 + ((q1 + (1 : Int64)) * (-3335678366873096957 : Int64)))))])) (fun t k => st2 t k)
  obtain ⟨fs, hr, hrun, hended, hW, hsame⟩ := X2.leave (v := some (.long (own_mix (q0 + ((q1 + (1 : Int64)) * (-3335678366873096957 : Int64)))))) (fun h => by rw [Bd.returns] at h; cases h)
  refine ⟨_, _, go2 _ ?_, hrun, hended, _, _, rfl, ?_, ⟨_, rfl⟩, hW, hsame.mono (by decide) (by decide)⟩
  · exact own_retL X2 hx Bd.returns (hb hby d5_12) hr
  · show Q_rm5 Z q0 q1 h0 n0 _ T2.heap _
    rw [e2]
    exact ⟨rfl, N2, rfl⟩
theorem d7_0 : decode prog_72_method_4_code 0 = .ok (.lload_n 0, 1) := by decide +kernel
theorem d7_1 : decode prog_72_method_4_code 1 = .ok (.lload_n 2, 1) := by decide +kernel
theorem d7_2 : decode prog_72_method_4_code 2 = .ok (.ldc2_w 21, 3) := by decide +kernel
theorem d7_5 : decode prog_72_method_4_code 5 = .ok (.lmul, 1) := by decide +kernel
theorem d7_6 : decode prog_72_method_4_code 6 = .ok (.ladd, 1) := by decide +kernel
theorem d7_7 : decode prog_72_method_4_code 7 = .ok (.invokestatic 23, 3) := by decide +kernel
theorem d7_10 : decode prog_72_method_4_code 10 = .ok (.lreturn, 1) := by decide +kernel
theorem pn_rm7 : plainName "com/example/equipoise/equipoise/SplitMix" = true := by first | (simp [plainName, overriddenIn]; done) | decide +kernel
theorem pd7_0 : parseMethodDescriptor "(J)J" = some ⟨[.long], some .long⟩ := by decide +kernel
theorem ef_rm7 (m : MethodId) (q0 : Int64) (q1 : Int64) : entryFrame m #[(.long q0), (.long q1)] 4 = mkF m 0 #[.val (.long q0), .second, .val (.long q1), .second] [] := by first | (simp [entryFrame, mkF, argsToLocals, Value.category]; done) | rfl
def Q_rm7 (Z : State) (q0 : Int64) (q1 : Int64) (h0 : Heap) (n0 : Nat) (v : Option Value) (h : Heap) (L : List Loc) : Prop := v = some (.long (own_val q0 q1)) ∧ Fr n0 L ∧ h = h0
set_option maxRecDepth 65536 in
set_option maxHeartbeats 40000000 in
theorem rm7 (l : Launch) (Z : State) (a0 : Array Value) (hw : ∀ d ∈ tables_1, d.before a0 Z = true) (ws : List Jvm.Cond) (q0 : Int64) (q1 : Int64) (h0 : Heap) (n0 : Nat) (Z0 : n0 ≤ h0.size) :
    MetFree l (⟨"com/example/equipoise/equipoise/SplitMix", "value", "(JJ)J"⟩ : MethodName) (head1 (Jvm.Cond.code (⟨"com/example/equipoise/equipoise/SplitMix", "value", "(JJ)J"⟩ : MethodName) prog_72_method_4_code 4 (some .long) :: ws) ({ frames := 1, cells := 0, slots := 0, locals := 13 } : Room)) (fun a U => a = #[(.long q0), (.long q1)] ∧ Z.Warmed39 U.vm ∧ U.heap = h0) (fun _ _ _ _ _ => True) (fun _ U o U' => ∃ v L, o = .returned v ∧ Q_rm7 Z q0 q1 h0 n0 v U'.heap L ∧ FrameEnd U o U' L ({ frames := 1, cells := 0, slots := 0, locals := 13 } : Room).cells ({ frames := 1, cells := 0, slots := 0, locals := 13 } : Room).slots) := by
  refine MetFree.of_bodySF (plainFor_of_name pn_rm7) hisR ?_
  intro p e s m args below meth c s₁ Bd hml0 hP hK
  obtain ⟨rfl, hZ, hh⟩ := hP
  have hx := Bd.exec
  have hby := Bd.bytes
  have hml : c.maxLocals = 4 := hml0
  have hown : s.vm.findClass "com/example/equipoise/equipoise/SplitMix" = some m.cls := findClass_of_methodNamed Bd.named
  have hnm := (name_of_methodNamed Bd.named Bd.method).1
  have X0 : Stand p l e ({ frames := 1, cells := 0, slots := 0, locals := 13 } : Room) s m #[(.long q0), (.long q1)] below meth c s₁ [] 0 0 := Stand.of_body Bd
  have e0 : s₁.heap = h0 := by rw [← hh, Bd.state]; rfl
  have N0 := Fr.nil n0
  have K0 := Keep.refl h0 []
  have go0 : Go p e below (s₁.setTop (entryFrame m #[(.long q0), (.long q1)] 4)) (s₁.setTop (mkF m 0 #[.val (.long q0), .second, .val (.long q1), .second] [])) := fun t k => castTop (ef_rm7 m q0 q1) k
  have go1 := go0.step (C := s₁.setTop (mkF m 7 #[.val (.long q0), .second, .val (.long q1), .second] [(.long (q0 + (q1 * (-7046029254386353131 : Int64))))])) (fun t k => by
    show Steps p.tables e below (s₁.setTop (mkF m 0 #[.val (.long q0), .second, .val (.long q1), .second] [])) _
    refine XS.lloadN X0.here hx rfl (hb hby d7_0) rfl ?_
    show Steps p.tables e below (s₁.setTop (mkF m 1 #[.val (.long q0), .second, .val (.long q1), .second] [(.long q0)])) _
    refine XS.lloadN X0.here hx rfl (hb hby d7_1) rfl ?_
    show Steps p.tables e below (s₁.setTop (mkF m 2 #[.val (.long q0), .second, .val (.long q1), .second] [(.long q1), (.long q0)])) _
    refine X0.ldc2Long hx hown (mvT hZ (hw _ (List.mem_of_getElem? (i := 12) rfl))) (g := (mkF m 2 #[.val (.long q0), .second, .val (.long q1), .second] [(.long q1), (.long q0)])) rfl (hb hby d7_2) _ ?_
    show Steps p.tables e below (s₁.setTop (mkF m 5 #[.val (.long q0), .second, .val (.long q1), .second] [(.long (-7046029254386353131 : Int64)), (.long q1), (.long q0)])) _
    refine XS.lmul X0.here hx rfl (hb hby d7_5) rfl ?_
    show Steps p.tables e below (s₁.setTop (mkF m 6 #[.val (.long q0), .second, .val (.long q1), .second] [(.long (q1 * (-7046029254386353131 : Int64))), (.long q0)])) _
    refine XS.ladd X0.here hx rfl (hb hby d7_6) rfl ?_
    exact k)
  obtain ⟨_, _, ⟨T2, L2, k2, n2⟩, -, X2, ⟨Lc2, hQ2, l2, y2, z2⟩, st2⟩ := Jvm.LawKit.callS X0 hx (y := (⟨"com/example/equipoise/equipoise/SplitMix", "mix", "(J)J"⟩ : MethodName)) hown (mvT hZ (hw _ (List.mem_of_getElem? (i := 13) rfl))) (mvT hZ (hw _ (List.mem_of_getElem? (i := 14) rfl))) (mvT hZ (hw _ (List.mem_of_getElem? (i := 2) rfl))) (mvT hZ (hw _ (List.mem_of_getElem? (i := 15) rfl))) (by decide) (backOf (W := 0) (rm4 l Z a0 hw [] (q0 + (q1 * (-7046029254386353131 : Int64))) h0 n0 Z0 ) hZ (hw _ (List.mem_of_getElem? (i := 15) rfl)) (hw _ (List.mem_of_getElem? (i := 2) rfl)) (by decide) (by decide)) (g := (mkF m 7 #[.val (.long q0), .second, .val (.long q1), .second] [(.long (q0 + (q1 * (-7046029254386353131 : Int64))))])) rfl (by rw [hml]; rfl) (argsL := [(.long (q0 + (q1 * (-7046029254386353131 : Int64))))]) (rest := []) (lenOf pd7_0 rfl) rfl (by show 2 * 0 + _ ≤ _; exact Nat.le_of_eq rfl) (hb hby d7_7) (fun _ _ => ⟨rfl, e0, (by decide : 0 + 0 ≤ _), (by decide : 0 + 0 ≤ _)⟩)
  dsimp only [Pt.U, Pt.locs, Pt.cells, Pt.slots] at X2 l2 y2 z2 st2 hQ2
  subst l2 y2 z2
  obtain ⟨rfl, N2q, e2⟩ := hQ2
  have N2 := Fr.app N0 N2q
  have go2 := go1.step (C := T2.setTop (mkF m 10 #[.val (.long q0), .second, .val (.long q1), .second] [(.long (own_mix (q0 + (q1 * (-7046029254386353131 : Int64)))))])) (fun t k => st2 t k)
  obtain ⟨fs, hr, hrun, hended, hW, hsame⟩ := X2.leave (v := some (.long (own_mix (q0 + (q1 * (-7046029254386353131 : Int64)))))) (fun h => by rw [Bd.returns] at h; cases h)
  refine ⟨_, _, go2 _ ?_, hrun, hended, _, _, rfl, ?_, ⟨_, rfl⟩, hW, hsame.mono (by decide) (by decide)⟩
  · exact own_retL X2 hx Bd.returns (hb hby d7_10) hr
  · show Q_rm7 Z q0 q1 h0 n0 _ T2.heap _
    rw [e2]
    exact ⟨rfl, N2, rfl⟩
theorem d1_0 : decode prog_72_method_1_code 0 = .ok (.aload_n 0, 1) := by decide +kernel
theorem d1_1 : decode prog_72_method_1_code 1 = .ok (.invokespecial 1, 3) := by decide +kernel
theorem d1_4 : decode prog_72_method_1_code 4 = .ok (.aload_n 0, 1) := by decide +kernel
theorem d1_5 : decode prog_72_method_1_code 5 = .ok (.lload_n 1, 1) := by decide +kernel
theorem d1_6 : decode prog_72_method_1_code 6 = .ok (.invokestatic 7, 3) := by decide +kernel
theorem d1_9 : decode prog_72_method_1_code 9 = .ok (.lload_n 3, 1) := by decide +kernel
theorem d1_10 : decode prog_72_method_1_code 10 = .ok (.invokestatic 13, 3) := by decide +kernel
theorem d1_13 : decode prog_72_method_1_code 13 = .ok (.putfield 17, 3) := by decide +kernel
theorem d1_16 : decode prog_72_method_1_code 16 = .ok (.return_, 1) := by decide +kernel
theorem pn_rm1 : plainName "com/example/equipoise/equipoise/SplitMix" = true := by first | (simp [plainName, overriddenIn]; done) | decide +kernel
theorem pd1_0 : parseMethodDescriptor "(J)J" = some ⟨[.long], some .long⟩ := by decide +kernel
theorem pd1_1 : parseMethodDescriptor "(JJ)J" = some ⟨[.long, .long], some .long⟩ := by decide +kernel
theorem ef_rm1 (m : MethodId) (o0 : Addr) (q1 : Int64) (q2 : Int64) : entryFrame m #[(.ref o0), (.long q1), (.long q2)] 5 = mkF m 0 #[.val (.ref o0), .val (.long q1), .second, .val (.long q2), .second] [] := by first | (simp [entryFrame, mkF, argsToLocals, Value.category]; done) | rfl
def Q_rm1 (Z : State) (o0 : Addr) (q1 : Int64) (q2 : Int64) (h0 : Heap) (n0 : Nat) (v : Option Value) (h : Heap) (L : List Loc) : Prop := v = none ∧ Fr n0 L ∧ Keep h0 h [o0] ∧ Exa Z h o0 "com/example/equipoise/equipoise/SplitMix" ∧ Fld Z h o0 "com/example/equipoise/equipoise/SplitMix" "counter" "J" (.long (own_start (own_key q1) q2))
set_option maxRecDepth 65536 in
set_option maxHeartbeats 40000000 in
theorem rm1 (l : Launch) (Z : State) (a0 : Array Value) (hw : ∀ d ∈ tables_1, d.before a0 Z = true) (ws : List Jvm.Cond) (o0 : Addr) (q1 : Int64) (q2 : Int64) (h0 : Heap) (n0 : Nat) (Z0 : n0 ≤ h0.size) (E_o0 : Exa Z h0 o0 "com/example/equipoise/equipoise/SplitMix") (g_o0 : n0 ≤ o0) (F_counter : Fld Z h0 o0 "com/example/equipoise/equipoise/SplitMix" "counter" "J" (.long (0 : Int64))) :
    MetFree l (⟨"com/example/equipoise/equipoise/SplitMix", "<init>", "(JJ)V"⟩ : MethodName) (head1 (Jvm.Cond.code (⟨"com/example/equipoise/equipoise/SplitMix", "<init>", "(JJ)V"⟩ : MethodName) prog_72_method_1_code 5 none :: ws) ({ frames := 2, cells := 0, slots := 0, locals := 29 } : Room)) (fun a U => a = #[(.ref o0), (.long q1), (.long q2)] ∧ Z.Warmed39 U.vm ∧ U.heap = h0) (fun _ _ _ _ _ => True) (fun _ U o U' => ∃ v L, o = .returned v ∧ Q_rm1 Z o0 q1 q2 h0 n0 v U'.heap L ∧ FrameEnd U o U' L ({ frames := 2, cells := 0, slots := 0, locals := 29 } : Room).cells ({ frames := 2, cells := 0, slots := 0, locals := 29 } : Room).slots) := by
  refine MetFree.of_bodySF (plainFor_of_name pn_rm1) hisR ?_
  intro p e s m args below meth c s₁ Bd hml0 hP hK
  obtain ⟨rfl, hZ, hh⟩ := hP
  have hx := Bd.exec
  have hby := Bd.bytes
  have hml : c.maxLocals = 5 := hml0
  have hown : s.vm.findClass "com/example/equipoise/equipoise/SplitMix" = some m.cls := findClass_of_methodNamed Bd.named
  have hnm := (name_of_methodNamed Bd.named Bd.method).1
  have X0 : Stand p l e ({ frames := 2, cells := 0, slots := 0, locals := 29 } : Room) s m #[(.ref o0), (.long q1), (.long q2)] below meth c s₁ [] 0 0 := Stand.of_body Bd
  have e0 : s₁.heap = h0 := by rw [← hh, Bd.state]; rfl
  have N0 := Fr.nil n0
  have K0 := Keep.refl h0 [o0]
  have go0 : Go p e below (s₁.setTop (entryFrame m #[(.ref o0), (.long q1), (.long q2)] 5)) (s₁.setTop (mkF m 0 #[.val (.ref o0), .val (.long q1), .second, .val (.long q2), .second] [])) := fun t k => castTop (ef_rm1 m o0 q1 q2) k
  have go1 := go0.step (C := s₁.setTop (mkF m 1 #[.val (.ref o0), .val (.long q1), .second, .val (.long q2), .second] [(.ref o0)])) (fun t k => by
    show Steps p.tables e below (s₁.setTop (mkF m 0 #[.val (.ref o0), .val (.long q1), .second, .val (.long q2), .second] [])) _
    refine XS.aloadN X0.here hx rfl (hb hby d1_0) rfl rfl ?_
    exact k)
  obtain ⟨T2, X2, e2, st2⟩ := initO X0 hx hZ hown (hw _ (List.mem_of_getElem? (i := 6) rfl)) (hw _ (List.mem_of_getElem? (i := 7) rfl)) (hw _ (List.mem_of_getElem? (i := 8) rfl)) e0 (g := (mkF m 1 #[.val (.ref o0), .val (.long q1), .second, .val (.long q2), .second] [(.ref o0)])) rfl (by rw [hml]; rfl) rfl (hb hby d1_1) (by decide) (W := 0) (by show 2 * 0 + _ ≤ _; exact Nat.le_of_eq rfl) (by decide)
  have go2 := go1.step (C := T2.setTop (mkF m 4 #[.val (.ref o0), .val (.long q1), .second, .val (.long q2), .second] [])) (fun t k => st2 t k)
  have go3 := go2.step (C := T2.setTop (mkF m 6 #[.val (.ref o0), .val (.long q1), .second, .val (.long q2), .second] [(.long q1), (.ref o0)])) (fun t k => by
    show Steps p.tables e below (T2.setTop (mkF m 4 #[.val (.ref o0), .val (.long q1), .second, .val (.long q2), .second] [])) _
    refine XS.aloadN X2.here hx rfl (hb hby d1_4) rfl rfl ?_
    show Steps p.tables e below (T2.setTop (mkF m 5 #[.val (.ref o0), .val (.long q1), .second, .val (.long q2), .second] [(.ref o0)])) _
    refine XS.lloadN X2.here hx rfl (hb hby d1_5) rfl ?_
    exact k)
  obtain ⟨_, _, ⟨T4, L4, k4, n4⟩, -, X4, ⟨Lc4, hQ4, l4, y4, z4⟩, st4⟩ := Jvm.LawKit.callS X2 hx (y := (⟨"com/example/equipoise/equipoise/SplitMix", "runKey", "(J)J"⟩ : MethodName)) hown (mvT hZ (hw _ (List.mem_of_getElem? (i := 9) rfl))) (mvT hZ (hw _ (List.mem_of_getElem? (i := 10) rfl))) (mvT hZ (hw _ (List.mem_of_getElem? (i := 2) rfl))) (mvT hZ (hw _ (List.mem_of_getElem? (i := 11) rfl))) (by decide) (backOf (W := 1) (rm3 l Z a0 hw [] q1 h0 n0 Z0 ) hZ (hw _ (List.mem_of_getElem? (i := 11) rfl)) (hw _ (List.mem_of_getElem? (i := 2) rfl)) (by decide) (by decide)) (g := (mkF m 6 #[.val (.ref o0), .val (.long q1), .second, .val (.long q2), .second] [(.long q1), (.ref o0)])) rfl (by rw [hml]; rfl) (argsL := [(.long q1)]) (rest := [(.ref o0)]) (lenOf pd1_0 rfl) rfl (by show 2 * 0 + _ ≤ _; exact Nat.le_of_eq rfl) (hb hby d1_6) (fun _ _ => ⟨rfl, e2, (by decide : 0 + 0 ≤ _), (by decide : 0 + 0 ≤ _)⟩)
  dsimp only [Pt.U, Pt.locs, Pt.cells, Pt.slots] at X4 l4 y4 z4 st4 hQ4
  subst l4 y4 z4
  obtain ⟨rfl, N4q, e4⟩ := hQ4
  have N4 := Fr.app N0 N4q
  have go4 := go3.step (C := T4.setTop (mkF m 9 #[.val (.ref o0), .val (.long q1), .second, .val (.long q2), .second] [(.long (own_key q1)), (.ref o0)])) (fun t k => st4 t k)
  have go5 := go4.step (C := T4.setTop (mkF m 10 #[.val (.ref o0), .val (.long q1), .second, .val (.long q2), .second] [(.long q2), (.long (own_key q1)), (.ref o0)])) (fun t k => by
    show Steps p.tables e below (T4.setTop (mkF m 9 #[.val (.ref o0), .val (.long q1), .second, .val (.long q2), .second] [(.long (own_key q1)), (.ref o0)])) _
    refine XS.lloadN X4.here hx rfl (hb hby d1_9) rfl ?_
    exact k)
  obtain ⟨_, _, ⟨T6, L6, k6, n6⟩, -, X6, ⟨Lc6, hQ6, l6, y6, z6⟩, st6⟩ := Jvm.LawKit.callS X4 hx (y := (⟨"com/example/equipoise/equipoise/SplitMix", "start", "(JJ)J"⟩ : MethodName)) hown (mvT hZ (hw _ (List.mem_of_getElem? (i := 18) rfl))) (mvT hZ (hw _ (List.mem_of_getElem? (i := 19) rfl))) (mvT hZ (hw _ (List.mem_of_getElem? (i := 2) rfl))) (mvT hZ (hw _ (List.mem_of_getElem? (i := 20) rfl))) (by decide) (backOf (W := 1) (rm5 l Z a0 hw [] (own_key q1) q2 h0 n0 Z0 ) hZ (hw _ (List.mem_of_getElem? (i := 20) rfl)) (hw _ (List.mem_of_getElem? (i := 2) rfl)) (by decide) (by decide)) (g := (mkF m 10 #[.val (.ref o0), .val (.long q1), .second, .val (.long q2), .second] [(.long q2), (.long (own_key q1)), (.ref o0)])) rfl (by rw [hml]; rfl) (argsL := [(.long (own_key q1)), (.long q2)]) (rest := [(.ref o0)]) (lenOf pd1_1 rfl) rfl (by show 2 * 0 + _ ≤ _; exact Nat.le_of_eq rfl) (hb hby d1_10) (fun _ _ => ⟨rfl, e4, (by decide : 0 + 0 ≤ _), (by decide : 0 + 0 ≤ _)⟩)
  dsimp only [Pt.U, Pt.locs, Pt.cells, Pt.slots] at X6 l6 y6 z6 st6 hQ6
  subst l6 y6 z6
  obtain ⟨rfl, N6q, e6⟩ := hQ6
  have N6 := Fr.app N4 N6q
  have go6 := go5.step (C := T6.setTop (mkF m 13 #[.val (.ref o0), .val (.long q1), .second, .val (.long q2), .second] [(.long (own_start (own_key q1) q2)), (.ref o0)])) (fun t k => st6 t k)
  obtain ⟨T7, h7, X7, e7, W7, st7⟩ := putF X6 hx hZ hown (host := "") (Or.inl (hw _ (List.mem_of_getElem? (i := 22) rfl))) Via.refl e6 F_counter E_o0 (Or.inl (hw _ (List.mem_of_getElem? (i := 23) rfl))) (hw _ (List.mem_of_getElem? (i := 1) rfl)) (ty := .long) (by decide) rfl rfl (g := (mkF m 13 #[.val (.ref o0), .val (.long q1), .second, .val (.long q2), .second] [(.long (own_start (own_key q1) q2)), (.ref o0)])) rfl rfl (hb hby d1_13)
  have f8 := E_o0.wr W7
  have f9 := Fld.same W7 F_counter
  have Z7 : n0 ≤ h7.size := Nat.le_trans Z0 (Nat.le_of_eq W7.size.symm)
  have K7 := K0.wr W7 (Or.inl (List.mem_of_getElem? (i := 0) rfl))
  have N7 := Fr.snoc X7 N6 g_o0
  have go7 := go6.step (C := T7.setTop (mkF m 16 #[.val (.ref o0), .val (.long q1), .second, .val (.long q2), .second] [])) (fun t k => st7 t k)
  obtain ⟨fs, hr, hrun, hended, hW, hsame⟩ := X7.leave (v := none) (fun _ => rfl)
  refine ⟨_, _, go7 _ ?_, hrun, hended, _, _, rfl, ?_, ⟨_, rfl⟩, hW, hsame.mono (by decide) (by decide)⟩
  · exact X7.returnOut hx Bd.returns (hb hby d1_16) hr
  · show Q_rm1 Z o0 q1 q2 h0 n0 _ T7.heap _
    rw [e7]
    exact ⟨rfl, N7, K7, f8, f9⟩
theorem d6_0 : decode prog_72_method_5_code 0 = .ok (.aload_n 0, 1) := by decide +kernel
theorem d6_1 : decode prog_72_method_5_code 1 = .ok (.dup, 1) := by decide +kernel
theorem d6_2 : decode prog_72_method_5_code 2 = .ok (.getfield 17, 3) := by decide +kernel
theorem d6_5 : decode prog_72_method_5_code 5 = .ok (.ldc2_w 21, 3) := by decide +kernel
theorem d6_8 : decode prog_72_method_5_code 8 = .ok (.ladd, 1) := by decide +kernel
theorem d6_9 : decode prog_72_method_5_code 9 = .ok (.putfield 17, 3) := by decide +kernel
theorem d6_12 : decode prog_72_method_5_code 12 = .ok (.aload_n 0, 1) := by decide +kernel
theorem d6_13 : decode prog_72_method_5_code 13 = .ok (.getfield 17, 3) := by decide +kernel
theorem d6_16 : decode prog_72_method_5_code 16 = .ok (.invokestatic 23, 3) := by decide +kernel
theorem d6_19 : decode prog_72_method_5_code 19 = .ok (.lreturn, 1) := by decide +kernel
theorem pn_rm6 : plainName "com/example/equipoise/equipoise/SplitMix" = true := by first | (simp [plainName, overriddenIn]; done) | decide +kernel
theorem pd6_0 : parseMethodDescriptor "(J)J" = some ⟨[.long], some .long⟩ := by decide +kernel
theorem ef_rm6 (m : MethodId) (o0 : Addr) : entryFrame m #[(.ref o0)] 1 = mkF m 0 #[.val (.ref o0)] [] := by first | (simp [entryFrame, mkF, argsToLocals, Value.category]; done) | rfl
def Q_rm6 (Z : State) (o0 : Addr) (w : Int64) (h0 : Heap) (n0 : Nat) (v : Option Value) (h : Heap) (L : List Loc) : Prop := v = some (.long (own_mix (w + (-7046029254386353131 : Int64)))) ∧ Fr n0 L ∧ Keep h0 h [o0] ∧ Exa Z h o0 "com/example/equipoise/equipoise/SplitMix" ∧ Fld Z h o0 "com/example/equipoise/equipoise/SplitMix" "counter" "J" (.long (w + (-7046029254386353131 : Int64)))
set_option maxRecDepth 65536 in
set_option maxHeartbeats 40000000 in
theorem rm6 (l : Launch) (Z : State) (a0 : Array Value) (hw : ∀ d ∈ tables_1, d.before a0 Z = true) (ws : List Jvm.Cond) (o0 : Addr) (w : Int64) (h0 : Heap) (n0 : Nat) (Z0 : n0 ≤ h0.size) (E_o0 : Exa Z h0 o0 "com/example/equipoise/equipoise/SplitMix") (F_counter_o0 : Fld Z h0 o0 "com/example/equipoise/equipoise/SplitMix" "counter" "J" (.long w)) (g_o0 : n0 ≤ o0) :
    MetFree l (⟨"com/example/equipoise/equipoise/SplitMix", "next", "()J"⟩ : MethodName) (head1 (Jvm.Cond.code (⟨"com/example/equipoise/equipoise/SplitMix", "next", "()J"⟩ : MethodName) prog_72_method_5_code 1 (some .long) :: ws) ({ frames := 1, cells := 0, slots := 0, locals := 13 } : Room)) (fun a U => a = #[(.ref o0)] ∧ Z.Warmed39 U.vm ∧ U.heap = h0) (fun _ _ _ _ _ => True) (fun _ U o U' => ∃ v L, o = .returned v ∧ Q_rm6 Z o0 w h0 n0 v U'.heap L ∧ FrameEnd U o U' L ({ frames := 1, cells := 0, slots := 0, locals := 13 } : Room).cells ({ frames := 1, cells := 0, slots := 0, locals := 13 } : Room).slots) := by
  refine MetFree.of_bodySF (plainFor_of_name pn_rm6) hisR ?_
  intro p e s m args below meth c s₁ Bd hml0 hP hK
  obtain ⟨rfl, hZ, hh⟩ := hP
  have hx := Bd.exec
  have hby := Bd.bytes
  have hml : c.maxLocals = 1 := hml0
  have hown : s.vm.findClass "com/example/equipoise/equipoise/SplitMix" = some m.cls := findClass_of_methodNamed Bd.named
  have hnm := (name_of_methodNamed Bd.named Bd.method).1
  have X0 : Stand p l e ({ frames := 1, cells := 0, slots := 0, locals := 13 } : Room) s m #[(.ref o0)] below meth c s₁ [] 0 0 := Stand.of_body Bd
  have e0 : s₁.heap = h0 := by rw [← hh, Bd.state]; rfl
  have N0 := Fr.nil n0
  have K0 := Keep.refl h0 [o0]
  have go0 : Go p e below (s₁.setTop (entryFrame m #[(.ref o0)] 1)) (s₁.setTop (mkF m 0 #[.val (.ref o0)] [])) := fun t k => castTop (ef_rm6 m o0) k
  have go1 := go0.step (C := s₁.setTop (mkF m 2 #[.val (.ref o0)] [(.ref o0), (.ref o0)])) (fun t k => by
    show Steps p.tables e below (s₁.setTop (mkF m 0 #[.val (.ref o0)] [])) _
    refine XS.aloadN X0.here hx rfl (hb hby d6_0) rfl rfl ?_
    show Steps p.tables e below (s₁.setTop (mkF m 1 #[.val (.ref o0)] [(.ref o0)])) _
    refine XS.dup X0.here hx rfl (hb hby d6_1) rfl rfl ?_
    exact k)
  obtain ⟨T2, X2, e2, st2⟩ := getF X0 hx hZ hown (host := "") (Or.inl (hw _ (List.mem_of_getElem? (i := 22) rfl))) Via.refl e0 F_counter_o0 (g := (mkF m 2 #[.val (.ref o0)] [(.ref o0), (.ref o0)])) rfl rfl (hb hby d6_2)
  have go2 := go1.step (C := T2.setTop (mkF m 5 #[.val (.ref o0)] [(.long w), (.ref o0)])) (fun t k => st2 t k)
  have go3 := go2.step (C := T2.setTop (mkF m 9 #[.val (.ref o0)] [(.long (w + (-7046029254386353131 : Int64))), (.ref o0)])) (fun t k => by
    show Steps p.tables e below (T2.setTop (mkF m 5 #[.val (.ref o0)] [(.long w), (.ref o0)])) _
    refine X2.ldc2Long hx hown (mvT hZ (hw _ (List.mem_of_getElem? (i := 12) rfl))) (g := (mkF m 5 #[.val (.ref o0)] [(.long w), (.ref o0)])) rfl (hb hby d6_5) _ ?_
    show Steps p.tables e below (T2.setTop (mkF m 8 #[.val (.ref o0)] [(.long (-7046029254386353131 : Int64)), (.long w), (.ref o0)])) _
    refine XS.ladd X2.here hx rfl (hb hby d6_8) rfl ?_
    exact k)
  obtain ⟨T4, h4, X4, e4, W4, st4⟩ := putF X2 hx hZ hown (host := "") (Or.inl (hw _ (List.mem_of_getElem? (i := 22) rfl))) Via.refl e2 F_counter_o0 E_o0 (Or.inl (hw _ (List.mem_of_getElem? (i := 23) rfl))) (hw _ (List.mem_of_getElem? (i := 1) rfl)) (ty := .long) (by decide) rfl rfl (g := (mkF m 9 #[.val (.ref o0)] [(.long (w + (-7046029254386353131 : Int64))), (.ref o0)])) rfl rfl (hb hby d6_9)
  have f5 := E_o0.wr W4
  have f6 := Fld.same W4 F_counter_o0
  have Z4 : n0 ≤ h4.size := Nat.le_trans Z0 (Nat.le_of_eq W4.size.symm)
  have K4 := K0.wr W4 (Or.inl (List.mem_of_getElem? (i := 0) rfl))
  have N4 := Fr.snoc X4 N0 g_o0
  have go4 := go3.step (C := T4.setTop (mkF m 12 #[.val (.ref o0)] [])) (fun t k => st4 t k)
  have go7 := go4.step (C := T4.setTop (mkF m 13 #[.val (.ref o0)] [(.ref o0)])) (fun t k => by
    show Steps p.tables e below (T4.setTop (mkF m 12 #[.val (.ref o0)] [])) _
    refine XS.aloadN X4.here hx rfl (hb hby d6_12) rfl rfl ?_
    exact k)
  obtain ⟨T8, X8, e8, st8⟩ := getF X4 hx hZ hown (host := "") (Or.inl (hw _ (List.mem_of_getElem? (i := 22) rfl))) Via.refl e4 f6 (g := (mkF m 13 #[.val (.ref o0)] [(.ref o0)])) rfl rfl (hb hby d6_13)
  have go8 := go7.step (C := T8.setTop (mkF m 16 #[.val (.ref o0)] [(.long (w + (-7046029254386353131 : Int64)))])) (fun t k => st8 t k)
  obtain ⟨_, _, ⟨T9, L9, k9, n9⟩, -, X9, ⟨Lc9, hQ9, l9, y9, z9⟩, st9⟩ := Jvm.LawKit.callS X8 hx (y := (⟨"com/example/equipoise/equipoise/SplitMix", "mix", "(J)J"⟩ : MethodName)) hown (mvT hZ (hw _ (List.mem_of_getElem? (i := 13) rfl))) (mvT hZ (hw _ (List.mem_of_getElem? (i := 14) rfl))) (mvT hZ (hw _ (List.mem_of_getElem? (i := 2) rfl))) (mvT hZ (hw _ (List.mem_of_getElem? (i := 15) rfl))) (by decide) (backOf (W := 0) (rm4 l Z a0 hw [] (w + (-7046029254386353131 : Int64)) h4 n0 Z4 ) hZ (hw _ (List.mem_of_getElem? (i := 15) rfl)) (hw _ (List.mem_of_getElem? (i := 2) rfl)) (by decide) (by decide)) (g := (mkF m 16 #[.val (.ref o0)] [(.long (w + (-7046029254386353131 : Int64)))])) rfl (by rw [hml]; rfl) (argsL := [(.long (w + (-7046029254386353131 : Int64)))]) (rest := []) (lenOf pd6_0 rfl) rfl (by show 2 * 0 + _ ≤ _; exact Nat.le_of_eq rfl) (hb hby d6_16) (fun _ _ => ⟨rfl, e8, (by decide : 0 + 0 ≤ _), (by decide : 0 + 0 ≤ _)⟩)
  dsimp only [Pt.U, Pt.locs, Pt.cells, Pt.slots] at X9 l9 y9 z9 st9 hQ9
  subst l9 y9 z9
  obtain ⟨rfl, N9q, e9⟩ := hQ9
  have N9 := Fr.app N4 N9q
  have go9 := go8.step (C := T9.setTop (mkF m 19 #[.val (.ref o0)] [(.long (own_mix (w + (-7046029254386353131 : Int64))))])) (fun t k => st9 t k)
  obtain ⟨fs, hr, hrun, hended, hW, hsame⟩ := X9.leave (v := some (.long (own_mix (w + (-7046029254386353131 : Int64))))) (fun h => by rw [Bd.returns] at h; cases h)
  refine ⟨_, _, go9 _ ?_, hrun, hended, _, _, rfl, ?_, ⟨_, rfl⟩, hW, hsame.mono (by decide) (by decide)⟩
  · exact own_retL X9 hx Bd.returns (hb hby d6_19) hr
  · show Q_rm6 Z o0 w h0 n0 _ T9.heap _
    rw [e9]
    exact ⟨rfl, N9, K4, f5, f6⟩
theorem pn_rm0 : plainName "com/example/equipoise/equipoise/SplitMixNextPinLaw" = true := by first | (simp [plainName, overriddenIn]; done) | decide +kernel
theorem pd0_0 : parseMethodDescriptor "(JJ)V" = some ⟨[.long, .long], none⟩ := by decide +kernel
theorem pd0_1 : parseMethodDescriptor "(J)J" = some ⟨[.long], some .long⟩ := by decide +kernel
theorem pd0_2 : parseMethodDescriptor "(JJ)J" = some ⟨[.long, .long], some .long⟩ := by decide +kernel
theorem pd0_3 : parseMethodDescriptor "()J" = some ⟨[], some .long⟩ := by decide +kernel
theorem ef_rm0 (m : MethodId) (q0 : Int64) (q1 : Int64) : entryFrame m #[(.long q0), (.long q1)] maxLocals = mkF m 0 #[.val (.long q0), .second, .val (.long q1), .second, .unset, .unset, .unset, .unset, .unset, .unset, .unset, .unset, .unset] [] := by first | (simp [entryFrame, mkF, argsToLocals, Value.category, maxLocals]; done) | rfl
def Q_rm0 (Z : State) (q0 : Int64) (q1 : Int64) (h0 : Heap) (n0 : Nat) (v : Option Value) (h : Heap) (L : List Loc) : Prop := v = some (.int (1 : Int32)) ∧ Fr n0 L
set_option maxRecDepth 65536 in
set_option maxHeartbeats 40000000 in
theorem rm0 (l : Launch) (Z : State) (a0 : Array Value) (hw : ∀ d ∈ tables_1, d.before a0 Z = true) (ws : List Jvm.Cond) (q0 : Int64) (q1 : Int64) (h0 : Heap) (n0 : Nat) (Z0 : n0 ≤ h0.size) :
    MetFree l x (head1 (Jvm.Cond.code x code maxLocals ret :: ws) room_1) (fun a U => a = #[(.long q0), (.long q1)] ∧ Z.Warmed39 U.vm ∧ U.heap = h0) (fun _ _ _ _ _ => True) (fun _ U o U' => ∃ v L, o = .returned v ∧ Q_rm0 Z q0 q1 h0 n0 v U'.heap L ∧ FrameEnd U o U' L room_1.cells room_1.slots) := by
  refine MetFree.of_bodySF (plainFor_of_name pn_rm0) hisR ?_
  intro p e s m args below meth c s₁ Bd hml0 hP hK
  obtain ⟨rfl, hZ, hh⟩ := hP
  have hx := Bd.exec
  have hby := Bd.bytes
  have hml : c.maxLocals = 13 := hml0
  have hown : s.vm.findClass "com/example/equipoise/equipoise/SplitMixNextPinLaw" = some m.cls := findClass_of_methodNamed Bd.named
  have hnm := (name_of_methodNamed Bd.named Bd.method).1
  have X0 : Stand p l e room_1 s m #[(.long q0), (.long q1)] below meth c s₁ [] 0 0 := Stand.of_body Bd
  have e0 : s₁.heap = h0 := by rw [← hh, Bd.state]; rfl
  have N0 := Fr.nil n0
  have K0 := Keep.refl h0 []
  have go0 : Go p e below (s₁.setTop (entryFrame m #[(.long q0), (.long q1)] maxLocals)) (s₁.setTop (mkF m 0 #[.val (.long q0), .second, .val (.long q1), .second, .unset, .unset, .unset, .unset, .unset, .unset, .unset, .unset, .unset] [])) := fun t k => castTop (ef_rm0 m q0 q1) k
  obtain ⟨T1, h1, X1, e1, E1, A1, D1, -, st1⟩ := newO X0 hx hZ hown (hw _ (List.mem_of_getElem? (i := 0) rfl)) (hw _ (List.mem_of_getElem? (i := 1) rfl)) (hw _ (List.mem_of_getElem? (i := 2) rfl)) e0 (g := (mkF m 0 #[.val (.long q0), .second, .val (.long q1), .second, .unset, .unset, .unset, .unset, .unset, .unset, .unset, .unset, .unset] [])) rfl (hb hby at_0) (by decide) (by decide)
  obtain ⟨b1, g1⟩ : ∃ z, z = h0.size := ⟨_, rfl⟩
  rw [← g1] at A1 D1 st1
  have g_b1 : n0 ≤ b1 := Nat.le_trans Z0 (Nat.le_of_eq g1.symm)
  have sz_b1 : h0.size ≤ b1 := Nat.le_trans K0.1 (Nat.le_of_eq g1.symm)
  have F1_counter : Fld Z h1 b1 "com/example/equipoise/equipoise/SplitMix" "counter" "J" (.long (0 : Int64)) := D1 (Or.inl (hw _ (List.mem_of_getElem? (i := 23) rfl))) (ty := .long) (by decide)
  have Z1 : n0 ≤ h1.size := Nat.le_trans Z0 E1.1
  have K1 := K0.ext E1
  have go1 := go0.step (C := T1.setTop (mkF m 3 #[.val (.long q0), .second, .val (.long q1), .second, .unset, .unset, .unset, .unset, .unset, .unset, .unset, .unset, .unset] [(.ref b1)])) (fun t k => st1 t k)
  have go2 := go1.step (C := T1.setTop (mkF m 6 #[.val (.long q0), .second, .val (.long q1), .second, .unset, .unset, .unset, .unset, .unset, .unset, .unset, .unset, .unset] [(.long q1), (.long q0), (.ref b1), (.ref b1)])) (fun t k => by
    show Steps p.tables e below (T1.setTop (mkF m 3 #[.val (.long q0), .second, .val (.long q1), .second, .unset, .unset, .unset, .unset, .unset, .unset, .unset, .unset, .unset] [(.ref b1)])) _
    refine XS.dup X1.here hx rfl (hb hby at_3) rfl rfl ?_
    show Steps p.tables e below (T1.setTop (mkF m 4 #[.val (.long q0), .second, .val (.long q1), .second, .unset, .unset, .unset, .unset, .unset, .unset, .unset, .unset, .unset] [(.ref b1), (.ref b1)])) _
    refine XS.lloadN X1.here hx rfl (hb hby at_4) rfl ?_
    show Steps p.tables e below (T1.setTop (mkF m 5 #[.val (.long q0), .second, .val (.long q1), .second, .unset, .unset, .unset, .unset, .unset, .unset, .unset, .unset, .unset] [(.long q0), (.ref b1), (.ref b1)])) _
    refine XS.lloadN X1.here hx rfl (hb hby at_5) rfl ?_
    exact k)
  obtain ⟨_, _, ⟨T3, L3, k3, n3⟩, -, X3, ⟨Lc3, hQ3, l3, y3, z3⟩, st3⟩ := X1.specialBack hx (y := (⟨"com/example/equipoise/equipoise/SplitMix", "<init>", "(JJ)V"⟩ : MethodName)) rfl hown (mvT hZ (hw _ (List.mem_of_getElem? (i := 3) rfl))) (mvT hZ (hw _ (List.mem_of_getElem? (i := 4) rfl))) (mvT hZ (hw _ (List.mem_of_getElem? (i := 5) rfl))) (by decide) (backOf (W := 1) (rm1 l Z a0 hw [] b1 q0 q1 h1 n0 Z1 A1 g_b1 F1_counter) hZ (hw _ (List.mem_of_getElem? (i := 5) rfl)) (hw _ (List.mem_of_getElem? (i := 2) rfl)) (by decide) (by decide)) (g := (mkF m 6 #[.val (.long q0), .second, .val (.long q1), .second, .unset, .unset, .unset, .unset, .unset, .unset, .unset, .unset, .unset] [(.long q1), (.long q0), (.ref b1), (.ref b1)])) rfl (by rw [hml]; rfl) (Steps.refl _) (a := b1) (argsL := [(.long q0), (.long q1)]) (rest := [(.ref b1)]) (lenOf pd0_0 rfl) rfl (by show 2 * 0 + _ ≤ _; exact Nat.le_of_eq rfl) (hb hby at_6) (fun _ _ => ⟨rfl, e1, (by decide : 1 + 0 ≤ _), (by decide : 1 + 0 ≤ _)⟩)
  dsimp only [Pt.U, Pt.locs, Pt.cells, Pt.slots] at X3 l3 y3 z3 st3 hQ3
  subst l3 y3 z3
  obtain ⟨rfl, N3q, K3, qp3_0, qp3_1⟩ := hQ3
  have N3 := Fr.app N0 N3q
  have f4 := A1.keep K3
  have Z3 : n0 ≤ T3.heap.size := Nat.le_trans Z1 K3.1
  have KK3 := K1.trans K3 (allS (Or.inr sz_b1) all0)
  have go3 := go2.tr (C := T3.setTop (mkF m 9 #[.val (.long q0), .second, .val (.long q1), .second, .unset, .unset, .unset, .unset, .unset, .unset, .unset, .unset, .unset] [(.ref b1)])) st3
  have go6 := go3.step (C := T3.setTop (mkF m 12 #[.val (.long q0), .second, .val (.long q1), .second, .val (.ref b1), .unset, .unset, .unset, .unset, .unset, .unset, .unset, .unset] [(.long q0)])) (fun t k => by
    show Steps p.tables e below (T3.setTop (mkF m 9 #[.val (.long q0), .second, .val (.long q1), .second, .unset, .unset, .unset, .unset, .unset, .unset, .unset, .unset, .unset] [(.ref b1)])) _
    refine XS.astore X3.here hx rfl (hb hby at_9) rfl rfl (l' := #[.val (.long q0), .second, .val (.long q1), .second, .val (.ref b1), .unset, .unset, .unset, .unset, .unset, .unset, .unset, .unset]) rfl ?_
    show Steps p.tables e below (T3.setTop (mkF m 11 #[.val (.long q0), .second, .val (.long q1), .second, .val (.ref b1), .unset, .unset, .unset, .unset, .unset, .unset, .unset, .unset] [])) _
    refine XS.lloadN X3.here hx rfl (hb hby at_11) rfl ?_
    exact k)
  obtain ⟨_, _, ⟨T7, L7, k7, n7⟩, -, X7, ⟨Lc7, hQ7, l7, y7, z7⟩, st7⟩ := Jvm.LawKit.callS X3 hx (y := (⟨"com/example/equipoise/equipoise/SplitMix", "runKey", "(J)J"⟩ : MethodName)) hown (mvT hZ (hw _ (List.mem_of_getElem? (i := 24) rfl))) (mvT hZ (hw _ (List.mem_of_getElem? (i := 10) rfl))) (mvT hZ (hw _ (List.mem_of_getElem? (i := 2) rfl))) (mvT hZ (hw _ (List.mem_of_getElem? (i := 11) rfl))) (by decide) (backOf (W := 0) (rm3 l Z a0 hw [] q0 T3.heap n0 Z3 ) hZ (hw _ (List.mem_of_getElem? (i := 11) rfl)) (hw _ (List.mem_of_getElem? (i := 2) rfl)) (by decide) (by decide)) (g := (mkF m 12 #[.val (.long q0), .second, .val (.long q1), .second, .val (.ref b1), .unset, .unset, .unset, .unset, .unset, .unset, .unset, .unset] [(.long q0)])) rfl (by rw [hml]; rfl) (argsL := [(.long q0)]) (rest := []) (lenOf pd0_1 rfl) rfl (by show 2 * 0 + _ ≤ _; exact Nat.le_of_eq rfl) (hb hby at_12) (fun _ _ => ⟨rfl, rfl, (by decide : 1 + 0 ≤ _), (by decide : 1 + 0 ≤ _)⟩)
  dsimp only [Pt.U, Pt.locs, Pt.cells, Pt.slots] at X7 l7 y7 z7 st7 hQ7
  subst l7 y7 z7
  obtain ⟨rfl, N7q, e7⟩ := hQ7
  have N7 := Fr.app N3 N7q
  have go7 := go6.step (C := T7.setTop (mkF m 15 #[.val (.long q0), .second, .val (.long q1), .second, .val (.ref b1), .unset, .unset, .unset, .unset, .unset, .unset, .unset, .unset] [(.long (own_key q0))])) (fun t k => st7 t k)
  have go8 := go7.step (C := T7.setTop (mkF m 16 #[.val (.long q0), .second, .val (.long q1), .second, .val (.ref b1), .unset, .unset, .unset, .unset, .unset, .unset, .unset, .unset] [(.long q1), (.long (own_key q0))])) (fun t k => by
    show Steps p.tables e below (T7.setTop (mkF m 15 #[.val (.long q0), .second, .val (.long q1), .second, .val (.ref b1), .unset, .unset, .unset, .unset, .unset, .unset, .unset, .unset] [(.long (own_key q0))])) _
    refine XS.lloadN X7.here hx rfl (hb hby at_15) rfl ?_
    exact k)
  obtain ⟨_, _, ⟨T9, L9, k9, n9⟩, -, X9, ⟨Lc9, hQ9, l9, y9, z9⟩, st9⟩ := Jvm.LawKit.callS X7 hx (y := (⟨"com/example/equipoise/equipoise/SplitMix", "start", "(JJ)J"⟩ : MethodName)) hown (mvT hZ (hw _ (List.mem_of_getElem? (i := 25) rfl))) (mvT hZ (hw _ (List.mem_of_getElem? (i := 19) rfl))) (mvT hZ (hw _ (List.mem_of_getElem? (i := 2) rfl))) (mvT hZ (hw _ (List.mem_of_getElem? (i := 20) rfl))) (by decide) (backOf (W := 0) (rm5 l Z a0 hw [] (own_key q0) q1 T3.heap n0 Z3 ) hZ (hw _ (List.mem_of_getElem? (i := 20) rfl)) (hw _ (List.mem_of_getElem? (i := 2) rfl)) (by decide) (by decide)) (g := (mkF m 16 #[.val (.long q0), .second, .val (.long q1), .second, .val (.ref b1), .unset, .unset, .unset, .unset, .unset, .unset, .unset, .unset] [(.long q1), (.long (own_key q0))])) rfl (by rw [hml]; rfl) (argsL := [(.long (own_key q0)), (.long q1)]) (rest := []) (lenOf pd0_2 rfl) rfl (by show 2 * 0 + _ ≤ _; exact Nat.le_of_eq rfl) (hb hby at_16) (fun _ _ => ⟨rfl, e7, (by decide : 1 + 0 ≤ _), (by decide : 1 + 0 ≤ _)⟩)
  dsimp only [Pt.U, Pt.locs, Pt.cells, Pt.slots] at X9 l9 y9 z9 st9 hQ9
  subst l9 y9 z9
  obtain ⟨rfl, N9q, e9⟩ := hQ9
  have N9 := Fr.app N7 N9q
  have go9 := go8.step (C := T9.setTop (mkF m 19 #[.val (.long q0), .second, .val (.long q1), .second, .val (.ref b1), .unset, .unset, .unset, .unset, .unset, .unset, .unset, .unset] [(.long (own_start (own_key q0) q1))])) (fun t k => st9 t k)
  have go10 := go9.step (C := T9.setTop (mkF m 23 #[.val (.long q0), .second, .val (.long q1), .second, .val (.ref b1), .val (.long (own_start (own_key q0) q1)), .second, .unset, .unset, .unset, .unset, .unset, .unset] [(.ref b1)])) (fun t k => by
    show Steps p.tables e below (T9.setTop (mkF m 19 #[.val (.long q0), .second, .val (.long q1), .second, .val (.ref b1), .unset, .unset, .unset, .unset, .unset, .unset, .unset, .unset] [(.long (own_start (own_key q0) q1))])) _
    refine XS.lstore X9.here hx rfl (hb hby at_19) rfl (l' := #[.val (.long q0), .second, .val (.long q1), .second, .val (.ref b1), .val (.long (own_start (own_key q0) q1)), .second, .unset, .unset, .unset, .unset, .unset, .unset]) rfl ?_
    show Steps p.tables e below (T9.setTop (mkF m 21 #[.val (.long q0), .second, .val (.long q1), .second, .val (.ref b1), .val (.long (own_start (own_key q0) q1)), .second, .unset, .unset, .unset, .unset, .unset, .unset] [])) _
    refine XS.aload X9.here hx rfl (hb hby at_21) rfl rfl ?_
    exact k)
  obtain ⟨cq11, kq11, q11a, q11b, q11c⟩ := isOf hZ e9 qp3_0
  obtain ⟨_, _, ⟨T11, L11, k11, n11⟩, -, X11, ⟨Lc11, hQ11, l11, y11, z11⟩, st11⟩ := X9.virtualBack hx (y := (⟨"com/example/equipoise/equipoise/SplitMix", "next", "()J"⟩ : MethodName)) (z := (⟨"com/example/equipoise/equipoise/SplitMix", "next", "()J"⟩ : MethodName)) hown (mvT hZ (hw _ (List.mem_of_getElem? (i := 26) rfl))) (mvT hZ (hw _ (List.mem_of_getElem? (i := 27) rfl))) (notFace_of_selects (args := #[]) (mvT hZ (hw _ (List.mem_of_getElem? (i := 29) rfl)))) (mvT hZ (hw _ (List.mem_of_getElem? (i := 29) rfl))) (mvT hZ (hw _ (List.mem_of_getElem? (i := 28) rfl))) (by decide) (backOf (W := 0) (rm6 l Z a0 hw [] b1 (own_start (own_key q0) q1) T3.heap n0 Z3 qp3_0 qp3_1 g_b1) hZ (hw _ (List.mem_of_getElem? (i := 30) rfl)) (hw _ (List.mem_of_getElem? (i := 2) rfl)) (by decide) (by decide)) q11a q11c (g := (mkF m 23 #[.val (.long q0), .second, .val (.long q1), .second, .val (.ref b1), .val (.long (own_start (own_key q0) q1)), .second, .unset, .unset, .unset, .unset, .unset, .unset] [(.ref b1)])) rfl (by rw [hml]; rfl) (Steps.refl _) (argsL := []) (rest := []) (lenOf pd0_3 rfl) rfl (by show 2 * 0 + _ ≤ _; exact Nat.le_of_eq rfl) (hb hby at_23) (fun _ _ => ⟨rfl, e9, (by decide : 1 + 0 ≤ _), (by decide : 1 + 0 ≤ _)⟩)
  dsimp only [Pt.U, Pt.locs, Pt.cells, Pt.slots] at X11 l11 y11 z11 st11 hQ11
  subst l11 y11 z11
  obtain ⟨rfl, N11q, K11, qp11_0, qp11_1⟩ := hQ11
  have N11 := Fr.app N9 N11q
  have f12 := qp3_0.keep K11
  have Z11 : n0 ≤ T11.heap.size := Nat.le_trans Z3 K11.1
  have KK11 := KK3.trans K11 (allS (Or.inr sz_b1) all0)
  have go11 := go10.tr (C := T11.setTop (mkF m 26 #[.val (.long q0), .second, .val (.long q1), .second, .val (.ref b1), .val (.long (own_start (own_key q0) q1)), .second, .unset, .unset, .unset, .unset, .unset, .unset] [(.long (own_mix ((own_start (own_key q0) q1) + (-7046029254386353131 : Int64))))])) st11
  have go14 := go11.step (C := T11.setTop (mkF m 30 #[.val (.long q0), .second, .val (.long q1), .second, .val (.ref b1), .val (.long (own_start (own_key q0) q1)), .second, .val (.long (own_mix ((own_start (own_key q0) q1) + (-7046029254386353131 : Int64)))), .second, .unset, .unset, .unset, .unset] [(.ref b1)])) (fun t k => by
    show Steps p.tables e below (T11.setTop (mkF m 26 #[.val (.long q0), .second, .val (.long q1), .second, .val (.ref b1), .val (.long (own_start (own_key q0) q1)), .second, .unset, .unset, .unset, .unset, .unset, .unset] [(.long (own_mix ((own_start (own_key q0) q1) + (-7046029254386353131 : Int64))))])) _
    refine XS.lstore X11.here hx rfl (hb hby at_26) rfl (l' := #[.val (.long q0), .second, .val (.long q1), .second, .val (.ref b1), .val (.long (own_start (own_key q0) q1)), .second, .val (.long (own_mix ((own_start (own_key q0) q1) + (-7046029254386353131 : Int64)))), .second, .unset, .unset, .unset, .unset]) rfl ?_
    show Steps p.tables e below (T11.setTop (mkF m 28 #[.val (.long q0), .second, .val (.long q1), .second, .val (.ref b1), .val (.long (own_start (own_key q0) q1)), .second, .val (.long (own_mix ((own_start (own_key q0) q1) + (-7046029254386353131 : Int64)))), .second, .unset, .unset, .unset, .unset] [])) _
    refine XS.aload X11.here hx rfl (hb hby at_28) rfl rfl ?_
    exact k)
  obtain ⟨cq15, kq15, q15a, q15b, q15c⟩ := isOf hZ rfl qp11_0
  obtain ⟨_, _, ⟨T15, L15, k15, n15⟩, -, X15, ⟨Lc15, hQ15, l15, y15, z15⟩, st15⟩ := X11.virtualBack hx (y := (⟨"com/example/equipoise/equipoise/SplitMix", "next", "()J"⟩ : MethodName)) (z := (⟨"com/example/equipoise/equipoise/SplitMix", "next", "()J"⟩ : MethodName)) hown (mvT hZ (hw _ (List.mem_of_getElem? (i := 26) rfl))) (mvT hZ (hw _ (List.mem_of_getElem? (i := 27) rfl))) (notFace_of_selects (args := #[]) (mvT hZ (hw _ (List.mem_of_getElem? (i := 29) rfl)))) (mvT hZ (hw _ (List.mem_of_getElem? (i := 29) rfl))) (mvT hZ (hw _ (List.mem_of_getElem? (i := 28) rfl))) (by decide) (backOf (W := 0) (rm6 l Z a0 hw [] b1 ((own_start (own_key q0) q1) + (-7046029254386353131 : Int64)) T11.heap n0 Z11 qp11_0 qp11_1 g_b1) hZ (hw _ (List.mem_of_getElem? (i := 30) rfl)) (hw _ (List.mem_of_getElem? (i := 2) rfl)) (by decide) (by decide)) q15a q15c (g := (mkF m 30 #[.val (.long q0), .second, .val (.long q1), .second, .val (.ref b1), .val (.long (own_start (own_key q0) q1)), .second, .val (.long (own_mix ((own_start (own_key q0) q1) + (-7046029254386353131 : Int64)))), .second, .unset, .unset, .unset, .unset] [(.ref b1)])) rfl (by rw [hml]; rfl) (Steps.refl _) (argsL := []) (rest := []) (lenOf pd0_3 rfl) rfl (by show 2 * 0 + _ ≤ _; exact Nat.le_of_eq rfl) (hb hby at_30) (fun _ _ => ⟨rfl, rfl, (by decide : 1 + 0 ≤ _), (by decide : 1 + 0 ≤ _)⟩)
  dsimp only [Pt.U, Pt.locs, Pt.cells, Pt.slots] at X15 l15 y15 z15 st15 hQ15
  subst l15 y15 z15
  obtain ⟨rfl, N15q, K15, qp15_0, qp15_1⟩ := hQ15
  have N15 := Fr.app N11 N15q
  have f16 := qp11_0.keep K15
  have Z15 : n0 ≤ T15.heap.size := Nat.le_trans Z11 K15.1
  have KK15 := KK11.trans K15 (allS (Or.inr sz_b1) all0)
  have go15 := go14.tr (C := T15.setTop (mkF m 33 #[.val (.long q0), .second, .val (.long q1), .second, .val (.ref b1), .val (.long (own_start (own_key q0) q1)), .second, .val (.long (own_mix ((own_start (own_key q0) q1) + (-7046029254386353131 : Int64)))), .second, .unset, .unset, .unset, .unset] [(.long (own_mix (((own_start (own_key q0) q1) + (-7046029254386353131 : Int64)) + (-7046029254386353131 : Int64))))])) st15
  have go18 := go15.step (C := T15.setTop (mkF m 37 #[.val (.long q0), .second, .val (.long q1), .second, .val (.ref b1), .val (.long (own_start (own_key q0) q1)), .second, .val (.long (own_mix ((own_start (own_key q0) q1) + (-7046029254386353131 : Int64)))), .second, .val (.long (own_mix (((own_start (own_key q0) q1) + (-7046029254386353131 : Int64)) + (-7046029254386353131 : Int64)))), .second, .unset, .unset] [(.ref b1)])) (fun t k => by
    show Steps p.tables e below (T15.setTop (mkF m 33 #[.val (.long q0), .second, .val (.long q1), .second, .val (.ref b1), .val (.long (own_start (own_key q0) q1)), .second, .val (.long (own_mix ((own_start (own_key q0) q1) + (-7046029254386353131 : Int64)))), .second, .unset, .unset, .unset, .unset] [(.long (own_mix (((own_start (own_key q0) q1) + (-7046029254386353131 : Int64)) + (-7046029254386353131 : Int64))))])) _
    refine XS.lstore X15.here hx rfl (hb hby at_33) rfl (l' := #[.val (.long q0), .second, .val (.long q1), .second, .val (.ref b1), .val (.long (own_start (own_key q0) q1)), .second, .val (.long (own_mix ((own_start (own_key q0) q1) + (-7046029254386353131 : Int64)))), .second, .val (.long (own_mix (((own_start (own_key q0) q1) + (-7046029254386353131 : Int64)) + (-7046029254386353131 : Int64)))), .second, .unset, .unset]) rfl ?_
    show Steps p.tables e below (T15.setTop (mkF m 35 #[.val (.long q0), .second, .val (.long q1), .second, .val (.ref b1), .val (.long (own_start (own_key q0) q1)), .second, .val (.long (own_mix ((own_start (own_key q0) q1) + (-7046029254386353131 : Int64)))), .second, .val (.long (own_mix (((own_start (own_key q0) q1) + (-7046029254386353131 : Int64)) + (-7046029254386353131 : Int64)))), .second, .unset, .unset] [])) _
    refine XS.aload X15.here hx rfl (hb hby at_35) rfl rfl ?_
    exact k)
  obtain ⟨cq19, kq19, q19a, q19b, q19c⟩ := isOf hZ rfl qp15_0
  obtain ⟨_, _, ⟨T19, L19, k19, n19⟩, -, X19, ⟨Lc19, hQ19, l19, y19, z19⟩, st19⟩ := X15.virtualBack hx (y := (⟨"com/example/equipoise/equipoise/SplitMix", "next", "()J"⟩ : MethodName)) (z := (⟨"com/example/equipoise/equipoise/SplitMix", "next", "()J"⟩ : MethodName)) hown (mvT hZ (hw _ (List.mem_of_getElem? (i := 26) rfl))) (mvT hZ (hw _ (List.mem_of_getElem? (i := 27) rfl))) (notFace_of_selects (args := #[]) (mvT hZ (hw _ (List.mem_of_getElem? (i := 29) rfl)))) (mvT hZ (hw _ (List.mem_of_getElem? (i := 29) rfl))) (mvT hZ (hw _ (List.mem_of_getElem? (i := 28) rfl))) (by decide) (backOf (W := 0) (rm6 l Z a0 hw [] b1 (((own_start (own_key q0) q1) + (-7046029254386353131 : Int64)) + (-7046029254386353131 : Int64)) T15.heap n0 Z15 qp15_0 qp15_1 g_b1) hZ (hw _ (List.mem_of_getElem? (i := 30) rfl)) (hw _ (List.mem_of_getElem? (i := 2) rfl)) (by decide) (by decide)) q19a q19c (g := (mkF m 37 #[.val (.long q0), .second, .val (.long q1), .second, .val (.ref b1), .val (.long (own_start (own_key q0) q1)), .second, .val (.long (own_mix ((own_start (own_key q0) q1) + (-7046029254386353131 : Int64)))), .second, .val (.long (own_mix (((own_start (own_key q0) q1) + (-7046029254386353131 : Int64)) + (-7046029254386353131 : Int64)))), .second, .unset, .unset] [(.ref b1)])) rfl (by rw [hml]; rfl) (Steps.refl _) (argsL := []) (rest := []) (lenOf pd0_3 rfl) rfl (by show 2 * 0 + _ ≤ _; exact Nat.le_of_eq rfl) (hb hby at_37) (fun _ _ => ⟨rfl, rfl, (by decide : 1 + 0 ≤ _), (by decide : 1 + 0 ≤ _)⟩)
  dsimp only [Pt.U, Pt.locs, Pt.cells, Pt.slots] at X19 l19 y19 z19 st19 hQ19
  subst l19 y19 z19
  obtain ⟨rfl, N19q, K19, qp19_0, qp19_1⟩ := hQ19
  have N19 := Fr.app N15 N19q
  have f20 := qp15_0.keep K19
  have Z19 : n0 ≤ T19.heap.size := Nat.le_trans Z15 K19.1
  have KK19 := KK15.trans K19 (allS (Or.inr sz_b1) all0)
  have go19 := go18.tr (C := T19.setTop (mkF m 40 #[.val (.long q0), .second, .val (.long q1), .second, .val (.ref b1), .val (.long (own_start (own_key q0) q1)), .second, .val (.long (own_mix ((own_start (own_key q0) q1) + (-7046029254386353131 : Int64)))), .second, .val (.long (own_mix (((own_start (own_key q0) q1) + (-7046029254386353131 : Int64)) + (-7046029254386353131 : Int64)))), .second, .unset, .unset] [(.long (own_mix ((((own_start (own_key q0) q1) + (-7046029254386353131 : Int64)) + (-7046029254386353131 : Int64)) + (-7046029254386353131 : Int64))))])) st19
  have go22 := go19.step (C := T19.setTop (mkF m 47 #[.val (.long q0), .second, .val (.long q1), .second, .val (.ref b1), .val (.long (own_start (own_key q0) q1)), .second, .val (.long (own_mix ((own_start (own_key q0) q1) + (-7046029254386353131 : Int64)))), .second, .val (.long (own_mix (((own_start (own_key q0) q1) + (-7046029254386353131 : Int64)) + (-7046029254386353131 : Int64)))), .second, .val (.long (own_mix ((((own_start (own_key q0) q1) + (-7046029254386353131 : Int64)) + (-7046029254386353131 : Int64)) + (-7046029254386353131 : Int64)))), .second] [(.long (1 : Int64)), (.long (own_start (own_key q0) q1)), (.long (own_mix ((own_start (own_key q0) q1) + (-7046029254386353131 : Int64))))])) (fun t k => by
    show Steps p.tables e below (T19.setTop (mkF m 40 #[.val (.long q0), .second, .val (.long q1), .second, .val (.ref b1), .val (.long (own_start (own_key q0) q1)), .second, .val (.long (own_mix ((own_start (own_key q0) q1) + (-7046029254386353131 : Int64)))), .second, .val (.long (own_mix (((own_start (own_key q0) q1) + (-7046029254386353131 : Int64)) + (-7046029254386353131 : Int64)))), .second, .unset, .unset] [(.long (own_mix ((((own_start (own_key q0) q1) + (-7046029254386353131 : Int64)) + (-7046029254386353131 : Int64)) + (-7046029254386353131 : Int64))))])) _
    refine XS.lstore X19.here hx rfl (hb hby at_40) rfl (l' := #[.val (.long q0), .second, .val (.long q1), .second, .val (.ref b1), .val (.long (own_start (own_key q0) q1)), .second, .val (.long (own_mix ((own_start (own_key q0) q1) + (-7046029254386353131 : Int64)))), .second, .val (.long (own_mix (((own_start (own_key q0) q1) + (-7046029254386353131 : Int64)) + (-7046029254386353131 : Int64)))), .second, .val (.long (own_mix ((((own_start (own_key q0) q1) + (-7046029254386353131 : Int64)) + (-7046029254386353131 : Int64)) + (-7046029254386353131 : Int64)))), .second]) rfl ?_
    show Steps p.tables e below (T19.setTop (mkF m 42 #[.val (.long q0), .second, .val (.long q1), .second, .val (.ref b1), .val (.long (own_start (own_key q0) q1)), .second, .val (.long (own_mix ((own_start (own_key q0) q1) + (-7046029254386353131 : Int64)))), .second, .val (.long (own_mix (((own_start (own_key q0) q1) + (-7046029254386353131 : Int64)) + (-7046029254386353131 : Int64)))), .second, .val (.long (own_mix ((((own_start (own_key q0) q1) + (-7046029254386353131 : Int64)) + (-7046029254386353131 : Int64)) + (-7046029254386353131 : Int64)))), .second] [])) _
    refine XS.lload X19.here hx rfl (hb hby at_42) rfl ?_
    show Steps p.tables e below (T19.setTop (mkF m 44 #[.val (.long q0), .second, .val (.long q1), .second, .val (.ref b1), .val (.long (own_start (own_key q0) q1)), .second, .val (.long (own_mix ((own_start (own_key q0) q1) + (-7046029254386353131 : Int64)))), .second, .val (.long (own_mix (((own_start (own_key q0) q1) + (-7046029254386353131 : Int64)) + (-7046029254386353131 : Int64)))), .second, .val (.long (own_mix ((((own_start (own_key q0) q1) + (-7046029254386353131 : Int64)) + (-7046029254386353131 : Int64)) + (-7046029254386353131 : Int64)))), .second] [(.long (own_mix ((own_start (own_key q0) q1) + (-7046029254386353131 : Int64))))])) _
    refine XS.lload X19.here hx rfl (hb hby at_44) rfl ?_
    show Steps p.tables e below (T19.setTop (mkF m 46 #[.val (.long q0), .second, .val (.long q1), .second, .val (.ref b1), .val (.long (own_start (own_key q0) q1)), .second, .val (.long (own_mix ((own_start (own_key q0) q1) + (-7046029254386353131 : Int64)))), .second, .val (.long (own_mix (((own_start (own_key q0) q1) + (-7046029254386353131 : Int64)) + (-7046029254386353131 : Int64)))), .second, .val (.long (own_mix ((((own_start (own_key q0) q1) + (-7046029254386353131 : Int64)) + (-7046029254386353131 : Int64)) + (-7046029254386353131 : Int64)))), .second] [(.long (own_start (own_key q0) q1)), (.long (own_mix ((own_start (own_key q0) q1) + (-7046029254386353131 : Int64))))])) _
    refine XS.lconst X19.here hx rfl (hb hby at_46) ?_
    exact k)
  obtain ⟨_, _, ⟨T23, L23, k23, n23⟩, -, X23, ⟨Lc23, hQ23, l23, y23, z23⟩, st23⟩ := Jvm.LawKit.callS X19 hx (y := (⟨"com/example/equipoise/equipoise/SplitMix", "value", "(JJ)J"⟩ : MethodName)) hown (mvT hZ (hw _ (List.mem_of_getElem? (i := 31) rfl))) (mvT hZ (hw _ (List.mem_of_getElem? (i := 32) rfl))) (mvT hZ (hw _ (List.mem_of_getElem? (i := 2) rfl))) (mvT hZ (hw _ (List.mem_of_getElem? (i := 33) rfl))) (by decide) (backOf (W := 2) (rm7 l Z a0 hw [] (own_start (own_key q0) q1) (1 : Int64) T19.heap n0 Z19 ) hZ (hw _ (List.mem_of_getElem? (i := 33) rfl)) (hw _ (List.mem_of_getElem? (i := 2) rfl)) (by decide) (by decide)) (g := (mkF m 47 #[.val (.long q0), .second, .val (.long q1), .second, .val (.ref b1), .val (.long (own_start (own_key q0) q1)), .second, .val (.long (own_mix ((own_start (own_key q0) q1) + (-7046029254386353131 : Int64)))), .second, .val (.long (own_mix (((own_start (own_key q0) q1) + (-7046029254386353131 : Int64)) + (-7046029254386353131 : Int64)))), .second, .val (.long (own_mix ((((own_start (own_key q0) q1) + (-7046029254386353131 : Int64)) + (-7046029254386353131 : Int64)) + (-7046029254386353131 : Int64)))), .second] [(.long (1 : Int64)), (.long (own_start (own_key q0) q1)), (.long (own_mix ((own_start (own_key q0) q1) + (-7046029254386353131 : Int64))))])) rfl (by rw [hml]; rfl) (argsL := [(.long (own_start (own_key q0) q1)), (.long (1 : Int64))]) (rest := [(.long (own_mix ((own_start (own_key q0) q1) + (-7046029254386353131 : Int64))))]) (lenOf pd0_2 rfl) rfl (by show 2 * 0 + _ ≤ _; exact Nat.le_of_eq rfl) (hb hby at_47) (fun _ _ => ⟨rfl, rfl, (by decide : 1 + 0 ≤ _), (by decide : 1 + 0 ≤ _)⟩)
  dsimp only [Pt.U, Pt.locs, Pt.cells, Pt.slots] at X23 l23 y23 z23 st23 hQ23
  subst l23 y23 z23
  obtain ⟨rfl, N23q, e23⟩ := hQ23
  have N23 := Fr.app N19 N23q
  have go23 := go22.step (C := T23.setTop (mkF m 50 #[.val (.long q0), .second, .val (.long q1), .second, .val (.ref b1), .val (.long (own_start (own_key q0) q1)), .second, .val (.long (own_mix ((own_start (own_key q0) q1) + (-7046029254386353131 : Int64)))), .second, .val (.long (own_mix (((own_start (own_key q0) q1) + (-7046029254386353131 : Int64)) + (-7046029254386353131 : Int64)))), .second, .val (.long (own_mix ((((own_start (own_key q0) q1) + (-7046029254386353131 : Int64)) + (-7046029254386353131 : Int64)) + (-7046029254386353131 : Int64)))), .second] [(.long (own_val (own_start (own_key q0) q1) (1 : Int64))), (.long (own_mix ((own_start (own_key q0) q1) + (-7046029254386353131 : Int64))))])) (fun t k => st23 t k)
  have go25 := go23.step (C := T23.setTop (mkF m 61 #[.val (.long q0), .second, .val (.long q1), .second, .val (.ref b1), .val (.long (own_start (own_key q0) q1)), .second, .val (.long (own_mix ((own_start (own_key q0) q1) + (-7046029254386353131 : Int64)))), .second, .val (.long (own_mix (((own_start (own_key q0) q1) + (-7046029254386353131 : Int64)) + (-7046029254386353131 : Int64)))), .second, .val (.long (own_mix ((((own_start (own_key q0) q1) + (-7046029254386353131 : Int64)) + (-7046029254386353131 : Int64)) + (-7046029254386353131 : Int64)))), .second] [(.long (2 : Int64)), (.long (own_start (own_key q0) q1)), (.long (own_mix (((own_start (own_key q0) q1) + (-7046029254386353131 : Int64)) + (-7046029254386353131 : Int64))))])) (fun t k => by
    show Steps p.tables e below (T23.setTop (mkF m 50 #[.val (.long q0), .second, .val (.long q1), .second, .val (.ref b1), .val (.long (own_start (own_key q0) q1)), .second, .val (.long (own_mix ((own_start (own_key q0) q1) + (-7046029254386353131 : Int64)))), .second, .val (.long (own_mix (((own_start (own_key q0) q1) + (-7046029254386353131 : Int64)) + (-7046029254386353131 : Int64)))), .second, .val (.long (own_mix ((((own_start (own_key q0) q1) + (-7046029254386353131 : Int64)) + (-7046029254386353131 : Int64)) + (-7046029254386353131 : Int64)))), .second] [(.long (own_val (own_start (own_key q0) q1) (1 : Int64))), (.long (own_mix ((own_start (own_key q0) q1) + (-7046029254386353131 : Int64))))])) _
    refine XS.lcmp X23.here hx rfl (hb hby at_50) rfl ?_
    show Steps p.tables e below (T23.setTop (mkF m 51 #[.val (.long q0), .second, .val (.long q1), .second, .val (.ref b1), .val (.long (own_start (own_key q0) q1)), .second, .val (.long (own_mix ((own_start (own_key q0) q1) + (-7046029254386353131 : Int64)))), .second, .val (.long (own_mix (((own_start (own_key q0) q1) + (-7046029254386353131 : Int64)) + (-7046029254386353131 : Int64)))), .second, .val (.long (own_mix ((((own_start (own_key q0) q1) + (-7046029254386353131 : Int64)) + (-7046029254386353131 : Int64)) + (-7046029254386353131 : Int64)))), .second] [(.int (lcmpW (own_mix ((own_start (own_key q0) q1) + (-7046029254386353131 : Int64))) (own_val (own_start (own_key q0) q1) (1 : Int64))))])) _
    refine XS.ifNo X23.here hx rfl (hb hby at_51) rfl ((if0 _ _).trans (teq ((lw_eq _ _).mpr (own_l1 _ : (own_mix ((own_start (own_key q0) q1) + (-7046029254386353131 : Int64))) = (own_val (own_start (own_key q0) q1) (1 : Int64))))).2) ?_
    show Steps p.tables e below (T23.setTop (mkF m 54 #[.val (.long q0), .second, .val (.long q1), .second, .val (.ref b1), .val (.long (own_start (own_key q0) q1)), .second, .val (.long (own_mix ((own_start (own_key q0) q1) + (-7046029254386353131 : Int64)))), .second, .val (.long (own_mix (((own_start (own_key q0) q1) + (-7046029254386353131 : Int64)) + (-7046029254386353131 : Int64)))), .second, .val (.long (own_mix ((((own_start (own_key q0) q1) + (-7046029254386353131 : Int64)) + (-7046029254386353131 : Int64)) + (-7046029254386353131 : Int64)))), .second] [])) _
    refine XS.lload X23.here hx rfl (hb hby at_54) rfl ?_
    show Steps p.tables e below (T23.setTop (mkF m 56 #[.val (.long q0), .second, .val (.long q1), .second, .val (.ref b1), .val (.long (own_start (own_key q0) q1)), .second, .val (.long (own_mix ((own_start (own_key q0) q1) + (-7046029254386353131 : Int64)))), .second, .val (.long (own_mix (((own_start (own_key q0) q1) + (-7046029254386353131 : Int64)) + (-7046029254386353131 : Int64)))), .second, .val (.long (own_mix ((((own_start (own_key q0) q1) + (-7046029254386353131 : Int64)) + (-7046029254386353131 : Int64)) + (-7046029254386353131 : Int64)))), .second] [(.long (own_mix (((own_start (own_key q0) q1) + (-7046029254386353131 : Int64)) + (-7046029254386353131 : Int64))))])) _
    refine XS.lload X23.here hx rfl (hb hby at_56) rfl ?_
    show Steps p.tables e below (T23.setTop (mkF m 58 #[.val (.long q0), .second, .val (.long q1), .second, .val (.ref b1), .val (.long (own_start (own_key q0) q1)), .second, .val (.long (own_mix ((own_start (own_key q0) q1) + (-7046029254386353131 : Int64)))), .second, .val (.long (own_mix (((own_start (own_key q0) q1) + (-7046029254386353131 : Int64)) + (-7046029254386353131 : Int64)))), .second, .val (.long (own_mix ((((own_start (own_key q0) q1) + (-7046029254386353131 : Int64)) + (-7046029254386353131 : Int64)) + (-7046029254386353131 : Int64)))), .second] [(.long (own_start (own_key q0) q1)), (.long (own_mix (((own_start (own_key q0) q1) + (-7046029254386353131 : Int64)) + (-7046029254386353131 : Int64))))])) _
    refine X23.ldc2Long hx hown (mvT hZ (hw _ (List.mem_of_getElem? (i := 34) rfl))) (g := (mkF m 58 #[.val (.long q0), .second, .val (.long q1), .second, .val (.ref b1), .val (.long (own_start (own_key q0) q1)), .second, .val (.long (own_mix ((own_start (own_key q0) q1) + (-7046029254386353131 : Int64)))), .second, .val (.long (own_mix (((own_start (own_key q0) q1) + (-7046029254386353131 : Int64)) + (-7046029254386353131 : Int64)))), .second, .val (.long (own_mix ((((own_start (own_key q0) q1) + (-7046029254386353131 : Int64)) + (-7046029254386353131 : Int64)) + (-7046029254386353131 : Int64)))), .second] [(.long (own_start (own_key q0) q1)), (.long (own_mix (((own_start (own_key q0) q1) + (-7046029254386353131 : Int64)) + (-7046029254386353131 : Int64))))])) rfl (hb hby at_58) _ ?_
    exact k)
  obtain ⟨_, _, ⟨T26, L26, k26, n26⟩, -, X26, ⟨Lc26, hQ26, l26, y26, z26⟩, st26⟩ := Jvm.LawKit.callS X23 hx (y := (⟨"com/example/equipoise/equipoise/SplitMix", "value", "(JJ)J"⟩ : MethodName)) hown (mvT hZ (hw _ (List.mem_of_getElem? (i := 31) rfl))) (mvT hZ (hw _ (List.mem_of_getElem? (i := 32) rfl))) (mvT hZ (hw _ (List.mem_of_getElem? (i := 2) rfl))) (mvT hZ (hw _ (List.mem_of_getElem? (i := 33) rfl))) (by decide) (backOf (W := 2) (rm7 l Z a0 hw [] (own_start (own_key q0) q1) (2 : Int64) T19.heap n0 Z19 ) hZ (hw _ (List.mem_of_getElem? (i := 33) rfl)) (hw _ (List.mem_of_getElem? (i := 2) rfl)) (by decide) (by decide)) (g := (mkF m 61 #[.val (.long q0), .second, .val (.long q1), .second, .val (.ref b1), .val (.long (own_start (own_key q0) q1)), .second, .val (.long (own_mix ((own_start (own_key q0) q1) + (-7046029254386353131 : Int64)))), .second, .val (.long (own_mix (((own_start (own_key q0) q1) + (-7046029254386353131 : Int64)) + (-7046029254386353131 : Int64)))), .second, .val (.long (own_mix ((((own_start (own_key q0) q1) + (-7046029254386353131 : Int64)) + (-7046029254386353131 : Int64)) + (-7046029254386353131 : Int64)))), .second] [(.long (2 : Int64)), (.long (own_start (own_key q0) q1)), (.long (own_mix (((own_start (own_key q0) q1) + (-7046029254386353131 : Int64)) + (-7046029254386353131 : Int64))))])) rfl (by rw [hml]; rfl) (argsL := [(.long (own_start (own_key q0) q1)), (.long (2 : Int64))]) (rest := [(.long (own_mix (((own_start (own_key q0) q1) + (-7046029254386353131 : Int64)) + (-7046029254386353131 : Int64))))]) (lenOf pd0_2 rfl) rfl (by show 2 * 0 + _ ≤ _; exact Nat.le_of_eq rfl) (hb hby at_61) (fun _ _ => ⟨rfl, e23, (by decide : 1 + 0 ≤ _), (by decide : 1 + 0 ≤ _)⟩)
  dsimp only [Pt.U, Pt.locs, Pt.cells, Pt.slots] at X26 l26 y26 z26 st26 hQ26
  subst l26 y26 z26
  obtain ⟨rfl, N26q, e26⟩ := hQ26
  have N26 := Fr.app N23 N26q
  have go26 := go25.step (C := T26.setTop (mkF m 64 #[.val (.long q0), .second, .val (.long q1), .second, .val (.ref b1), .val (.long (own_start (own_key q0) q1)), .second, .val (.long (own_mix ((own_start (own_key q0) q1) + (-7046029254386353131 : Int64)))), .second, .val (.long (own_mix (((own_start (own_key q0) q1) + (-7046029254386353131 : Int64)) + (-7046029254386353131 : Int64)))), .second, .val (.long (own_mix ((((own_start (own_key q0) q1) + (-7046029254386353131 : Int64)) + (-7046029254386353131 : Int64)) + (-7046029254386353131 : Int64)))), .second] [(.long (own_val (own_start (own_key q0) q1) (2 : Int64))), (.long (own_mix (((own_start (own_key q0) q1) + (-7046029254386353131 : Int64)) + (-7046029254386353131 : Int64))))])) (fun t k => st26 t k)
  have go28 := go26.step (C := T26.setTop (mkF m 75 #[.val (.long q0), .second, .val (.long q1), .second, .val (.ref b1), .val (.long (own_start (own_key q0) q1)), .second, .val (.long (own_mix ((own_start (own_key q0) q1) + (-7046029254386353131 : Int64)))), .second, .val (.long (own_mix (((own_start (own_key q0) q1) + (-7046029254386353131 : Int64)) + (-7046029254386353131 : Int64)))), .second, .val (.long (own_mix ((((own_start (own_key q0) q1) + (-7046029254386353131 : Int64)) + (-7046029254386353131 : Int64)) + (-7046029254386353131 : Int64)))), .second] [(.long (3 : Int64)), (.long (own_start (own_key q0) q1)), (.long (own_mix ((((own_start (own_key q0) q1) + (-7046029254386353131 : Int64)) + (-7046029254386353131 : Int64)) + (-7046029254386353131 : Int64))))])) (fun t k => by
    show Steps p.tables e below (T26.setTop (mkF m 64 #[.val (.long q0), .second, .val (.long q1), .second, .val (.ref b1), .val (.long (own_start (own_key q0) q1)), .second, .val (.long (own_mix ((own_start (own_key q0) q1) + (-7046029254386353131 : Int64)))), .second, .val (.long (own_mix (((own_start (own_key q0) q1) + (-7046029254386353131 : Int64)) + (-7046029254386353131 : Int64)))), .second, .val (.long (own_mix ((((own_start (own_key q0) q1) + (-7046029254386353131 : Int64)) + (-7046029254386353131 : Int64)) + (-7046029254386353131 : Int64)))), .second] [(.long (own_val (own_start (own_key q0) q1) (2 : Int64))), (.long (own_mix (((own_start (own_key q0) q1) + (-7046029254386353131 : Int64)) + (-7046029254386353131 : Int64))))])) _
    refine XS.lcmp X26.here hx rfl (hb hby at_64) rfl ?_
    show Steps p.tables e below (T26.setTop (mkF m 65 #[.val (.long q0), .second, .val (.long q1), .second, .val (.ref b1), .val (.long (own_start (own_key q0) q1)), .second, .val (.long (own_mix ((own_start (own_key q0) q1) + (-7046029254386353131 : Int64)))), .second, .val (.long (own_mix (((own_start (own_key q0) q1) + (-7046029254386353131 : Int64)) + (-7046029254386353131 : Int64)))), .second, .val (.long (own_mix ((((own_start (own_key q0) q1) + (-7046029254386353131 : Int64)) + (-7046029254386353131 : Int64)) + (-7046029254386353131 : Int64)))), .second] [(.int (lcmpW (own_mix (((own_start (own_key q0) q1) + (-7046029254386353131 : Int64)) + (-7046029254386353131 : Int64))) (own_val (own_start (own_key q0) q1) (2 : Int64))))])) _
    refine XS.ifNo X26.here hx rfl (hb hby at_65) rfl ((if0 _ _).trans (teq ((lw_eq _ _).mpr (own_l2 _ : (own_mix (((own_start (own_key q0) q1) + (-7046029254386353131 : Int64)) + (-7046029254386353131 : Int64))) = (own_val (own_start (own_key q0) q1) (2 : Int64))))).2) ?_
    show Steps p.tables e below (T26.setTop (mkF m 68 #[.val (.long q0), .second, .val (.long q1), .second, .val (.ref b1), .val (.long (own_start (own_key q0) q1)), .second, .val (.long (own_mix ((own_start (own_key q0) q1) + (-7046029254386353131 : Int64)))), .second, .val (.long (own_mix (((own_start (own_key q0) q1) + (-7046029254386353131 : Int64)) + (-7046029254386353131 : Int64)))), .second, .val (.long (own_mix ((((own_start (own_key q0) q1) + (-7046029254386353131 : Int64)) + (-7046029254386353131 : Int64)) + (-7046029254386353131 : Int64)))), .second] [])) _
    refine XS.lload X26.here hx rfl (hb hby at_68) rfl ?_
    show Steps p.tables e below (T26.setTop (mkF m 70 #[.val (.long q0), .second, .val (.long q1), .second, .val (.ref b1), .val (.long (own_start (own_key q0) q1)), .second, .val (.long (own_mix ((own_start (own_key q0) q1) + (-7046029254386353131 : Int64)))), .second, .val (.long (own_mix (((own_start (own_key q0) q1) + (-7046029254386353131 : Int64)) + (-7046029254386353131 : Int64)))), .second, .val (.long (own_mix ((((own_start (own_key q0) q1) + (-7046029254386353131 : Int64)) + (-7046029254386353131 : Int64)) + (-7046029254386353131 : Int64)))), .second] [(.long (own_mix ((((own_start (own_key q0) q1) + (-7046029254386353131 : Int64)) + (-7046029254386353131 : Int64)) + (-7046029254386353131 : Int64))))])) _
    refine XS.lload X26.here hx rfl (hb hby at_70) rfl ?_
    show Steps p.tables e below (T26.setTop (mkF m 72 #[.val (.long q0), .second, .val (.long q1), .second, .val (.ref b1), .val (.long (own_start (own_key q0) q1)), .second, .val (.long (own_mix ((own_start (own_key q0) q1) + (-7046029254386353131 : Int64)))), .second, .val (.long (own_mix (((own_start (own_key q0) q1) + (-7046029254386353131 : Int64)) + (-7046029254386353131 : Int64)))), .second, .val (.long (own_mix ((((own_start (own_key q0) q1) + (-7046029254386353131 : Int64)) + (-7046029254386353131 : Int64)) + (-7046029254386353131 : Int64)))), .second] [(.long (own_start (own_key q0) q1)), (.long (own_mix ((((own_start (own_key q0) q1) + (-7046029254386353131 : Int64)) + (-7046029254386353131 : Int64)) + (-7046029254386353131 : Int64))))])) _
    refine X26.ldc2Long hx hown (mvT hZ (hw _ (List.mem_of_getElem? (i := 35) rfl))) (g := (mkF m 72 #[.val (.long q0), .second, .val (.long q1), .second, .val (.ref b1), .val (.long (own_start (own_key q0) q1)), .second, .val (.long (own_mix ((own_start (own_key q0) q1) + (-7046029254386353131 : Int64)))), .second, .val (.long (own_mix (((own_start (own_key q0) q1) + (-7046029254386353131 : Int64)) + (-7046029254386353131 : Int64)))), .second, .val (.long (own_mix ((((own_start (own_key q0) q1) + (-7046029254386353131 : Int64)) + (-7046029254386353131 : Int64)) + (-7046029254386353131 : Int64)))), .second] [(.long (own_start (own_key q0) q1)), (.long (own_mix ((((own_start (own_key q0) q1) + (-7046029254386353131 : Int64)) + (-7046029254386353131 : Int64)) + (-7046029254386353131 : Int64))))])) rfl (hb hby at_72) _ ?_
    exact k)
  obtain ⟨_, _, ⟨T29, L29, k29, n29⟩, -, X29, ⟨Lc29, hQ29, l29, y29, z29⟩, st29⟩ := Jvm.LawKit.callS X26 hx (y := (⟨"com/example/equipoise/equipoise/SplitMix", "value", "(JJ)J"⟩ : MethodName)) hown (mvT hZ (hw _ (List.mem_of_getElem? (i := 31) rfl))) (mvT hZ (hw _ (List.mem_of_getElem? (i := 32) rfl))) (mvT hZ (hw _ (List.mem_of_getElem? (i := 2) rfl))) (mvT hZ (hw _ (List.mem_of_getElem? (i := 33) rfl))) (by decide) (backOf (W := 2) (rm7 l Z a0 hw [] (own_start (own_key q0) q1) (3 : Int64) T19.heap n0 Z19 ) hZ (hw _ (List.mem_of_getElem? (i := 33) rfl)) (hw _ (List.mem_of_getElem? (i := 2) rfl)) (by decide) (by decide)) (g := (mkF m 75 #[.val (.long q0), .second, .val (.long q1), .second, .val (.ref b1), .val (.long (own_start (own_key q0) q1)), .second, .val (.long (own_mix ((own_start (own_key q0) q1) + (-7046029254386353131 : Int64)))), .second, .val (.long (own_mix (((own_start (own_key q0) q1) + (-7046029254386353131 : Int64)) + (-7046029254386353131 : Int64)))), .second, .val (.long (own_mix ((((own_start (own_key q0) q1) + (-7046029254386353131 : Int64)) + (-7046029254386353131 : Int64)) + (-7046029254386353131 : Int64)))), .second] [(.long (3 : Int64)), (.long (own_start (own_key q0) q1)), (.long (own_mix ((((own_start (own_key q0) q1) + (-7046029254386353131 : Int64)) + (-7046029254386353131 : Int64)) + (-7046029254386353131 : Int64))))])) rfl (by rw [hml]; rfl) (argsL := [(.long (own_start (own_key q0) q1)), (.long (3 : Int64))]) (rest := [(.long (own_mix ((((own_start (own_key q0) q1) + (-7046029254386353131 : Int64)) + (-7046029254386353131 : Int64)) + (-7046029254386353131 : Int64))))]) (lenOf pd0_2 rfl) rfl (by show 2 * 0 + _ ≤ _; exact Nat.le_of_eq rfl) (hb hby at_75) (fun _ _ => ⟨rfl, e26, (by decide : 1 + 0 ≤ _), (by decide : 1 + 0 ≤ _)⟩)
  dsimp only [Pt.U, Pt.locs, Pt.cells, Pt.slots] at X29 l29 y29 z29 st29 hQ29
  subst l29 y29 z29
  obtain ⟨rfl, N29q, e29⟩ := hQ29
  have N29 := Fr.app N26 N29q
  have go29 := go28.step (C := T29.setTop (mkF m 78 #[.val (.long q0), .second, .val (.long q1), .second, .val (.ref b1), .val (.long (own_start (own_key q0) q1)), .second, .val (.long (own_mix ((own_start (own_key q0) q1) + (-7046029254386353131 : Int64)))), .second, .val (.long (own_mix (((own_start (own_key q0) q1) + (-7046029254386353131 : Int64)) + (-7046029254386353131 : Int64)))), .second, .val (.long (own_mix ((((own_start (own_key q0) q1) + (-7046029254386353131 : Int64)) + (-7046029254386353131 : Int64)) + (-7046029254386353131 : Int64)))), .second] [(.long (own_val (own_start (own_key q0) q1) (3 : Int64))), (.long (own_mix ((((own_start (own_key q0) q1) + (-7046029254386353131 : Int64)) + (-7046029254386353131 : Int64)) + (-7046029254386353131 : Int64))))])) (fun t k => st29 t k)
  have go31 := go29.step (C := T29.setTop (mkF m 87 #[.val (.long q0), .second, .val (.long q1), .second, .val (.ref b1), .val (.long (own_start (own_key q0) q1)), .second, .val (.long (own_mix ((own_start (own_key q0) q1) + (-7046029254386353131 : Int64)))), .second, .val (.long (own_mix (((own_start (own_key q0) q1) + (-7046029254386353131 : Int64)) + (-7046029254386353131 : Int64)))), .second, .val (.long (own_mix ((((own_start (own_key q0) q1) + (-7046029254386353131 : Int64)) + (-7046029254386353131 : Int64)) + (-7046029254386353131 : Int64)))), .second] [(.int (1 : Int32))])) (fun t k => by
    show Steps p.tables e below (T29.setTop (mkF m 78 #[.val (.long q0), .second, .val (.long q1), .second, .val (.ref b1), .val (.long (own_start (own_key q0) q1)), .second, .val (.long (own_mix ((own_start (own_key q0) q1) + (-7046029254386353131 : Int64)))), .second, .val (.long (own_mix (((own_start (own_key q0) q1) + (-7046029254386353131 : Int64)) + (-7046029254386353131 : Int64)))), .second, .val (.long (own_mix ((((own_start (own_key q0) q1) + (-7046029254386353131 : Int64)) + (-7046029254386353131 : Int64)) + (-7046029254386353131 : Int64)))), .second] [(.long (own_val (own_start (own_key q0) q1) (3 : Int64))), (.long (own_mix ((((own_start (own_key q0) q1) + (-7046029254386353131 : Int64)) + (-7046029254386353131 : Int64)) + (-7046029254386353131 : Int64))))])) _
    refine XS.lcmp X29.here hx rfl (hb hby at_78) rfl ?_
    show Steps p.tables e below (T29.setTop (mkF m 79 #[.val (.long q0), .second, .val (.long q1), .second, .val (.ref b1), .val (.long (own_start (own_key q0) q1)), .second, .val (.long (own_mix ((own_start (own_key q0) q1) + (-7046029254386353131 : Int64)))), .second, .val (.long (own_mix (((own_start (own_key q0) q1) + (-7046029254386353131 : Int64)) + (-7046029254386353131 : Int64)))), .second, .val (.long (own_mix ((((own_start (own_key q0) q1) + (-7046029254386353131 : Int64)) + (-7046029254386353131 : Int64)) + (-7046029254386353131 : Int64)))), .second] [(.int (lcmpW (own_mix ((((own_start (own_key q0) q1) + (-7046029254386353131 : Int64)) + (-7046029254386353131 : Int64)) + (-7046029254386353131 : Int64))) (own_val (own_start (own_key q0) q1) (3 : Int64))))])) _
    refine XS.ifNo X29.here hx rfl (hb hby at_79) rfl ((if0 _ _).trans (teq ((lw_eq _ _).mpr (own_l3 _ : (own_mix ((((own_start (own_key q0) q1) + (-7046029254386353131 : Int64)) + (-7046029254386353131 : Int64)) + (-7046029254386353131 : Int64))) = (own_val (own_start (own_key q0) q1) (3 : Int64))))).2) ?_
    show Steps p.tables e below (T29.setTop (mkF m 82 #[.val (.long q0), .second, .val (.long q1), .second, .val (.ref b1), .val (.long (own_start (own_key q0) q1)), .second, .val (.long (own_mix ((own_start (own_key q0) q1) + (-7046029254386353131 : Int64)))), .second, .val (.long (own_mix (((own_start (own_key q0) q1) + (-7046029254386353131 : Int64)) + (-7046029254386353131 : Int64)))), .second, .val (.long (own_mix ((((own_start (own_key q0) q1) + (-7046029254386353131 : Int64)) + (-7046029254386353131 : Int64)) + (-7046029254386353131 : Int64)))), .second] [])) _
    refine XS.iconst X29.here hx rfl (hb hby at_82) ?_
    show Steps p.tables e below (T29.setTop (mkF m 83 #[.val (.long q0), .second, .val (.long q1), .second, .val (.ref b1), .val (.long (own_start (own_key q0) q1)), .second, .val (.long (own_mix ((own_start (own_key q0) q1) + (-7046029254386353131 : Int64)))), .second, .val (.long (own_mix (((own_start (own_key q0) q1) + (-7046029254386353131 : Int64)) + (-7046029254386353131 : Int64)))), .second, .val (.long (own_mix ((((own_start (own_key q0) q1) + (-7046029254386353131 : Int64)) + (-7046029254386353131 : Int64)) + (-7046029254386353131 : Int64)))), .second] [(.int (1 : Int32))])) _
    refine XS.goto X29.here hx rfl (pc0 := 83) (pc' := 87) rfl (hb hby at_83) (by decide) (by decide) ?_
    exact k)
  obtain ⟨fs, hr, hrun, hended, hW, hsame⟩ := X29.leave (v := some (.int (1 : Int32))) (fun h => by rw [Bd.returns] at h; cases h)
  refine ⟨_, _, go31 _ ?_, hrun, hended, _, _, rfl, ?_, ⟨_, rfl⟩, hW, hsame.mono (by decide) (by decide)⟩
  · exact retN X29 hx (t := .boolean) Bd.returns (by simp) (hb hby at_87) hr
  · show Q_rm0 Z q0 q1 h0 n0 _ T29.heap _
    rw [e29]
    exact ⟨rfl, N29⟩
set_option maxRecDepth 65536 in
set_option maxHeartbeats 40000000 in
theorem comes_1 {Post : Tables → Env → Array Value → State → Outcome → State → Prop} (hpost : ∀ tb e args s v u, (limb_1_1.after args s (.returned v) u = true ∧ limb_1_2.after args s (.returned v) u = true ∧ True) → FrameEnd s (.returned v) u (Jvm.fieldLocs frame_1_writes args s ++ Jvm.arrayLocs frame_1_arrays args s ++ Jvm.staticLocs frame_1_statics s) 16 128 → Post tb e args s (.returned v) u) :
    ArmFor flags0 classFile x code maxLocals ret World_1 tables_1 room_1 Calls_1 rest_1 Pre_1 Post := by
  intro l hfl _ _ p e ha hc hk s m args below hf hA hF happ hP
  obtain ⟨hcalls, hrest, hpre⟩ := hP
  obtain ⟨-, -, -, hnamed, -, -, -, hat⟩ := (Spec.applies_iff hf).mp happ
  obtain ⟨hg, hn⟩ := and_e (Cond.before_iff.mp (show (Jvm.Cond.and given_1 narrow_1).before args s = true from hpre))
  obtain ⟨gg0, gr0⟩ := and_e hg
  obtain ⟨gg1, gr1⟩ := and_e gr0
  obtain ⟨w0, w1, rfl⟩ : ∃ w0 w1 : Value, args = #[w0, w1] := by
    have hs : args.size = 2 := by simpa [Cond.value, given_1] using gg0
    obtain ⟨L⟩ := args
    match L, hs with
    | [w0, w1], _ => exact ⟨w0, w1, rfl⟩
  have hw := fun d (hd : d ∈ tables_1) => atoms_spec (ws := Jvm.Cond.code x code maxLocals ret :: tables_1) hat d (List.mem_cons_of_mem _ hd)
  have hfit : Fit s := fun {y c} hc i hi => by
    obtain ⟨ha, rfl⟩ := Array.getElem?_eq_some_iff.mp hc
    have q := List.all_eq_true.mp ((Array.all_eq_true_iff_forall_mem.mp hF) _ (Array.getElem_mem ha)) i (List.mem_range.mpr hi)
    simpa [Array.getElem?_eq_getElem hi] using q
  obtain ⟨i0, ei0⟩ := isL_v gg1
  obtain rfl : w0 = (.long i0) := Option.some.inj ei0
  obtain ⟨i1, ei1⟩ := isL_v gr1
  obtain rfl : w1 = (.long i1) := Option.some.inj ei1
  obtain ⟨n, o, h1, h2, h3, _, L, rfl, ⟨rfl, N⟩, hq⟩ := rm0 l s _ hw tables_1 i0 i1  s.heap s.heap.size (Nat.le_refl _)  p e ha hc hk s m _ below hf ((Spec.applies_iff_loose hf).mp happ).1 ⟨rfl, State.Warmed39.refl s, rfl⟩ trivial
  refine ⟨n, _, h1, h2, h3, hpost _ _ _ _ _ _ ⟨Cond.after_iff.mpr rfl, Cond.after_iff.mpr (eq_i res_at (Term.int_eval (1)) rfl), trivial⟩ ⟨hq.1, hq.2.1, (hq.2.2.sift fun y hy => Or.inr (N y hy)).mono (by decide) (by decide)⟩⟩
theorem main_1_1 : Claimed_1_1 := comes_1 fun _ _ _ _ _ _ h hF => ⟨h.1, hF⟩
theorem main_1_2 : Claimed_1_2 := comes_1 fun _ _ _ _ _ _ h hF => ⟨h.2.1, hF⟩
end Jvm.Pilot.@@N@@
namespace Jvm.Pilot.@@N@@
open Jvm Jvm.ClassFile Sem Op Lib Jvm.Free Jvm.Stand Jvm.Pilot.@@N@@.Jvm.D
/-! MADE BY PROGRAM (witnessworld.py) out of the Statement's table words and the real class files: 7 classes; the members and pool entries that the words name. The judged class is class 1, her method 1. -/
namespace start1
open Jvm.ClassFile
def u (s : String) : CpInfo := .utf8 (stringToUtf16 s)
/-- a pool by its gaps: so many unusable entries, then the entry; so many at the end -/
def gap : Nat → List CpInfo → List CpInfo
  | 0, r => r
  | n + 1, r => .unusable :: gap n r
def poolList (es : List (Nat × CpInfo)) (last : Nat) : List CpInfo := es.foldr (fun e r => gap e.1 (e.2 :: r)) (gap last [])
def pool (es : List (Nat × CpInfo)) (last : Nat) : Array CpInfo := ⟨poolList es last⟩
def fileOf (pool : Array CpInfo) (this : Nat) (attrs : Array Attribute := #[]) (ms : Array MethodInfo := #[]) (fl : Nat := 33) (sup : Nat := 0) (ifs : Array Nat := #[]) (fds : Array FieldInfo := #[]) : ClassFile where
  minorVersion := 0
  majorVersion := 65
  constantPool := pool
  accessFlags := fl
  thisClass := this
  superClass := sup
  interfaces := ifs
  fields := fds
  methods := ms
  attributes := attrs
def plain (name : String) (sup : Option ClassId) : Class where
  name := name
  kind := .ordinary
  loader := none
  accessFlags := 33
  super := sup
  interfaces := #[]
  cf := none
  fields := #[]
  methods := #[]
  instanceTypes := #[]
  staticTypes := #[]
  resolved := #[]
  callSites := []
  init := .initialized
  statics := none
  mirror := none

def pool0 : Array CpInfo := pool [(5, u "<init>"), (0, u "()V"), (1, .class_ 10), (1, u "java/lang/Object")] 113

def k0c0 : Code := { maxStack := 0, maxLocals := 1, code := object_method_1_code, exceptionTable := #[], attributes := #[] }
def k0m0 : Method := { name := "<init>", desc := "()V", sig := { parameters := [], returnType := none }, accessFlags := 1, code := some k0c0 }
/-- java/lang/Object -/
def k0 : Class := { plain "java/lang/Object" none with
  accessFlags := 33
  interfaces := #[]
  cf := some (fileOf pool0 8 #[] #[{ accessFlags := 1, nameIndex := 5, descriptorIndex := 6, attributes := #[] }] 33 0 #[] #[])
  fields := #[]
  methods := #[k0m0]
  instanceTypes := #[]
  staticTypes := #[]
  resolved := Array.replicate 124 none
  statics := none }

def pool1 : Array CpInfo := pool [(2, .class_ 4), (1, u "java/lang/Object"), (0, u "<init>"), (0, u "()V"), (0, .class_ 8), (0, u "com/example/equipoise/equipoise/SplitMix"), (0, .methodref 7 10), (0, .nameAndType 5 11), (0, u "(JJ)V"), (0, .methodref 7 13), (0, .nameAndType 14 15), (0, u "runKey"), (0, u "(J)J"), (0, .methodref 7 17), (0, .nameAndType 18 19), (0, u "start"), (0, u "(JJ)J"), (0, .methodref 7 21), (0, .nameAndType 22 23), (0, u "next"), (0, u "()J"), (0, .methodref 7 25), (0, .nameAndType 26 19), (0, u "value"), (0, .long 2), (1, .long 3), (1, .class_ 32), (0, u "com/example/equipoise/equipoise/SplitMixNextPinLaw"), (2, u "law"), (0, u "(JJ)Z")] 3

def k1m0 : Method := { name := "<init>", desc := "()V", sig := { parameters := [], returnType := none }, accessFlags := 1, code := none }
def k1c1 : Code := { maxStack := 6, maxLocals := 13, code := code, exceptionTable := #[], attributes := #[] }
def k1m1 : Method := { name := "law", desc := "(JJ)Z", sig := { parameters := [.long, .long], returnType := some .boolean }, accessFlags := 9, code := some k1c1 }
/-- com/example/equipoise/equipoise/SplitMixNextPinLaw -/
def k1 : Class := { plain "com/example/equipoise/equipoise/SplitMixNextPinLaw" (some 0) with
  accessFlags := 49
  interfaces := #[]
  cf := some (fileOf pool1 31 #[] #[{ accessFlags := 1, nameIndex := 5, descriptorIndex := 6, attributes := #[] }, { accessFlags := 9, nameIndex := 35, descriptorIndex := 36, attributes := #[] }] 49 2 #[] #[])
  fields := #[]
  methods := #[k1m0, k1m1]
  instanceTypes := #[]
  staticTypes := #[]
  resolved := Array.replicate 40 none
  statics := none }

def pool2 : Array CpInfo := pool [(1, .methodref 2 3), (0, .class_ 4), (0, .nameAndType 5 6), (0, u "java/lang/Object"), (0, u "<init>"), (0, u "()V"), (0, .methodref 8 9), (0, .class_ 10), (0, .nameAndType 11 12), (0, u "com/example/equipoise/equipoise/SplitMix"), (0, u "runKey"), (0, u "(J)J"), (0, .methodref 8 14), (0, .nameAndType 15 16), (0, u "start"), (0, u "(JJ)J"), (0, .fieldref 8 18), (0, .nameAndType 19 20), (0, u "counter"), (0, u "J"), (0, .long 11400714819323198485), (1, .methodref 8 24), (0, .nameAndType 25 12), (0, u "mix"), (0, .long 15111065706836454659), (7, u "next"), (0, u "()J"), (0, .long 13787848793156543929), (1, .long 10723151780598845931), (1, u "GOLDEN_GAMMA"), (1, u "KEY_GAMMA"), (0, u "(JJ)V"), (2, u "value")] 4

def k2c0 : Code := { maxStack := 5, maxLocals := 5, code := prog_72_method_1_code, exceptionTable := #[], attributes := #[] }
def k2m0 : Method := { name := "<init>", desc := "(JJ)V", sig := { parameters := [.long, .long], returnType := none }, accessFlags := 0, code := some k2c0 }
def k2c1 : Code := { maxStack := 4, maxLocals := 2, code := prog_72_method_2_code, exceptionTable := #[], attributes := #[] }
def k2m1 : Method := { name := "runKey", desc := "(J)J", sig := { parameters := [.long], returnType := some .long }, accessFlags := 8, code := some k2c1 }
def k2c2 : Code := { maxStack := 6, maxLocals := 4, code := prog_72_method_3_code, exceptionTable := #[], attributes := #[] }
def k2m2 : Method := { name := "start", desc := "(JJ)J", sig := { parameters := [.long, .long], returnType := some .long }, accessFlags := 8, code := some k2c2 }
def k2c3 : Code := { maxStack := 6, maxLocals := 4, code := prog_72_method_4_code, exceptionTable := #[], attributes := #[] }
def k2m3 : Method := { name := "value", desc := "(JJ)J", sig := { parameters := [.long, .long], returnType := some .long }, accessFlags := 8, code := some k2c3 }
def k2c4 : Code := { maxStack := 5, maxLocals := 1, code := prog_72_method_5_code, exceptionTable := #[], attributes := #[] }
def k2m4 : Method := { name := "next", desc := "()J", sig := { parameters := [], returnType := some .long }, accessFlags := 0, code := some k2c4 }
def k2c5 : Code := { maxStack := 5, maxLocals := 2, code := prog_72_method_7_code, exceptionTable := #[], attributes := #[] }
def k2m5 : Method := { name := "mix", desc := "(J)J", sig := { parameters := [.long], returnType := some .long }, accessFlags := 8, code := some k2c5 }
/-- com/example/equipoise/equipoise/SplitMix -/
def k2 : Class := { plain "com/example/equipoise/equipoise/SplitMix" (some 0) with
  accessFlags := 48
  interfaces := #[]
  cf := some (fileOf pool2 8 #[] #[{ accessFlags := 0, nameIndex := 5, descriptorIndex := 43, attributes := #[] }, { accessFlags := 8, nameIndex := 11, descriptorIndex := 12, attributes := #[] }, { accessFlags := 8, nameIndex := 15, descriptorIndex := 16, attributes := #[] }, { accessFlags := 8, nameIndex := 46, descriptorIndex := 16, attributes := #[] }, { accessFlags := 0, nameIndex := 34, descriptorIndex := 35, attributes := #[] }, { accessFlags := 8, nameIndex := 25, descriptorIndex := 12, attributes := #[] }] 48 2 #[] #[{ accessFlags := 26, nameIndex := 40, descriptorIndex := 20, attributes := #[] }, { accessFlags := 26, nameIndex := 42, descriptorIndex := 20, attributes := #[] }, { accessFlags := 2, nameIndex := 19, descriptorIndex := 20, attributes := #[] }])
  fields := #[{ name := "GOLDEN_GAMMA", type := .long, accessFlags := 26, slot := 0, constantValue := 0 }, { name := "KEY_GAMMA", type := .long, accessFlags := 26, slot := 1, constantValue := 0 }, { name := "counter", type := .long, accessFlags := 2, slot := 0, constantValue := 0 }]
  methods := #[k2m0, k2m1, k2m2, k2m3, k2m4, k2m5]
  instanceTypes := #[.long]
  staticTypes := #[.long, .long]
  resolved := Array.replicate 51 none
  statics := none }

def pool3 : Array CpInfo := pool [(1, u "java/lang/Cloneable"), (0, .class_ 1), (0, u "java/lang/Object"), (0, .class_ 3)] 3

/-- java/lang/Cloneable -/
def k3 : Class := { plain "java/lang/Cloneable" (some 0) with
  accessFlags := 1537
  interfaces := #[]
  cf := some (fileOf pool3 2 #[] #[] 1537 4 #[] #[])
  fields := #[]
  methods := #[]
  instanceTypes := #[]
  staticTypes := #[]
  resolved := Array.replicate 8 none
  statics := none }

def pool4 : Array CpInfo := pool [(1, u "java/io/Serializable"), (0, .class_ 1), (0, u "java/lang/Object"), (0, .class_ 3)] 3

/-- java/io/Serializable -/
def k4 : Class := { plain "java/io/Serializable" (some 0) with
  accessFlags := 1537
  interfaces := #[]
  cf := some (fileOf pool4 2 #[] #[] 1537 4 #[] #[])
  fields := #[]
  methods := #[]
  instanceTypes := #[]
  staticTypes := #[]
  resolved := Array.replicate 8 none
  statics := none }

/-- the primitive byte -/
def k5 : Class := { plain "byte" none with kind := .primitive 'B', accessFlags := 0x411 }
/-- [B -/
def k6 : Class := { plain "[B" (some 0) with kind := .array 5 .byte, interfaces := #[3, 4], accessFlags := 1041 }

def heap : Heap := #[]
def classes : Array Class := #[k0, k1, k2, k3, k4, k5, k6]
def interned : List (Array UInt16 × Addr) := []
def slotsUsed : Nat := 0
def theMethod : MethodId := ⟨1, 1⟩
def args0 : Array Value := #[.long 5, .long 7]
def aboutOver (below : List Frame) : State where
  vm := { classes := classes, interned := interned.toArray }
  heap := heap
  slotsUsed := slotsUsed
  threads := #[{ frames := .invoking theMethod args0 :: below }]
def below0 : List Frame := [.native { method := ⟨0, 0⟩, args := #[] }]
def about1 : State := aboutOver below0
def p0 : Program := .bare "" "" ""
def e0 : Env := launch0.env 0 0 0
theorem w_frames : about1.frames = Frame.invoking theMethod args0 :: below0 := rfl
set_option maxRecDepth 65536 in
theorem w_args : argsFit about1.vm theMethod args0 = true := by decide +kernel
set_option maxRecDepth 65536 in
theorem w_heap : heapFits about1 = true := by decide +kernel
set_option maxRecDepth 65536 in
theorem w_runnable : about1.curStatus? = some .runnable := by decide +kernel
set_option maxRecDepth 65536 in
theorem w_alone : about1.alone = true := by decide +kernel
set_option maxRecDepth 65536 in
theorem w_named : about1.methodNamed? x = some theMethod := by decide +kernel
set_option maxRecDepth 65536 in
theorem w_hears : about1.hears theMethod below0 = true := by decide +kernel
set_option maxRecDepth 65536 in
theorem w_ripe : about1.ripe theMethod args0 below0 = true := by decide +kernel
theorem w_running : about1.status = .running := rfl
set_option maxRecDepth 65536 in
theorem w_room : about1.hasRoom e0.platform room_1 = true :=
  launch0.hasRoom_least _ room_1 (by decide +kernel) (by decide +kernel) (by decide +kernel) (by decide +kernel) (by decide +kernel) (by decide +kernel)
theorem allAtoms_all (ts : List Jvm.Cond) (a : Array Jvm.Value) (st : Jvm.State) : (allAtoms ts).before a st = ts.all (fun c => c.before a st) := by
  induction ts with
  | nil => rfl
  | cons c t ih =>
    show (Jvm.Cond.and c (allAtoms t)).before a st = _
    rw [Jvm.Cond.before_and, ih, List.all_cons]
def words1 : List Jvm.Cond := Jvm.Cond.code x code maxLocals ret :: tables_1
/-- a 'code' word, met by the world's own term for the bytes: nothing is compared byte by byte -/
theorem code_word {y : MethodName} {bytes : ByteArray} {mx : Nat} {rt : Option FieldType} {a : Array Value} {s : State} {m : MethodId} {meth : Method} {c : Code} (h1 : s.methodNamed? y = some m) (h2 : s.vm.method? m = some meth) (h3 : meth.code = some c) (h4 : c.code = bytes)
    (h5 : (c.maxLocals == mx && c.exceptionTable.isEmpty && decide (c.maxStack ≤ mostOperands) && decide (meth.sig.returnType = rt) && !meth.locks && decide (parseMethodDescriptor y.desc = some meth.sig)) = true) : (Jvm.Cond.code y bytes mx rt).before a s = true := by
  simp only [Bool.and_eq_true, beq_iff_eq, Bool.not_eq_true', decide_eq_true_eq] at h5
  obtain ⟨⟨⟨⟨⟨g1, g2⟩, g3⟩, g4⟩, g5⟩, g6⟩ := h5
  simp [Cond.before, Cond.holds, Cond.value, h1, h2, h3, h4, g1, g2, g3, g4, g5, g6]
def isCode : Jvm.Cond → Bool
  | .code _ _ _ _ => true
  | _ => false
theorem all_split {L : List Jvm.Cond} {P : Jvm.Cond → Bool} (h1 : L.all (fun c => isCode c || P c) = true) (h2 : ∀ c ∈ L.filter isCode, P c = true) : L.all P = true := by
  refine List.all_eq_true.mpr fun c hc => ?_
  have h := List.all_eq_true.mp h1 c hc
  rcases Bool.eq_false_or_eq_true (isCode c) with hi | hi
  · exact h2 c (List.mem_filter.mpr ⟨hc, hi⟩)
  · simpa [hi] using h
set_option maxRecDepth 65536 in
theorem w_c0 : (Jvm.Cond.code x code maxLocals ret).before args0 about1 = true := code_word (m := ⟨1, 1⟩) (meth := k1m1) (c := k1c1) (by decide +kernel) rfl rfl rfl (by decide +kernel)
set_option maxRecDepth 65536 in
theorem w_c1 : (Jvm.Cond.code ({ cls := "com/example/equipoise/equipoise/SplitMix", name := "<init>", desc := "(JJ)V" } : Jvm.MethodName) prog_72_method_1_code (5 : Nat) (Option.none : Option Jvm.ClassFile.FieldType)).before args0 about1 = true := code_word (m := ⟨2, 0⟩) (meth := k2m0) (c := k2c0) (by decide +kernel) rfl rfl rfl (by decide +kernel)
set_option maxRecDepth 65536 in
theorem w_c2 : (Jvm.Cond.code ({ cls := "java/lang/Object", name := "<init>", desc := "()V" } : Jvm.MethodName) object_method_1_code (1 : Nat) (Option.none : Option Jvm.ClassFile.FieldType)).before args0 about1 = true := code_word (m := ⟨0, 0⟩) (meth := k0m0) (c := k0c0) (by decide +kernel) rfl rfl rfl (by decide +kernel)
set_option maxRecDepth 65536 in
theorem w_c3 : (Jvm.Cond.code ({ cls := "com/example/equipoise/equipoise/SplitMix", name := "runKey", desc := "(J)J" } : Jvm.MethodName) prog_72_method_2_code (2 : Nat) (Option.some Jvm.ClassFile.FieldType.long)).before args0 about1 = true := code_word (m := ⟨2, 1⟩) (meth := k2m1) (c := k2c1) (by decide +kernel) rfl rfl rfl (by decide +kernel)
set_option maxRecDepth 65536 in
theorem w_c4 : (Jvm.Cond.code ({ cls := "com/example/equipoise/equipoise/SplitMix", name := "mix", desc := "(J)J" } : Jvm.MethodName) prog_72_method_7_code (2 : Nat) (Option.some Jvm.ClassFile.FieldType.long)).before args0 about1 = true := code_word (m := ⟨2, 5⟩) (meth := k2m5) (c := k2c5) (by decide +kernel) rfl rfl rfl (by decide +kernel)
set_option maxRecDepth 65536 in
theorem w_c5 : (Jvm.Cond.code ({ cls := "com/example/equipoise/equipoise/SplitMix", name := "start", desc := "(JJ)J" } : Jvm.MethodName) prog_72_method_3_code (4 : Nat) (Option.some Jvm.ClassFile.FieldType.long)).before args0 about1 = true := code_word (m := ⟨2, 2⟩) (meth := k2m2) (c := k2c2) (by decide +kernel) rfl rfl rfl (by decide +kernel)
set_option maxRecDepth 65536 in
theorem w_c6 : (Jvm.Cond.code ({ cls := "com/example/equipoise/equipoise/SplitMix", name := "next", desc := "()J" } : Jvm.MethodName) prog_72_method_5_code (1 : Nat) (Option.some Jvm.ClassFile.FieldType.long)).before args0 about1 = true := code_word (m := ⟨2, 4⟩) (meth := k2m4) (c := k2c4) (by decide +kernel) rfl rfl rfl (by decide +kernel)
set_option maxRecDepth 65536 in
theorem w_c7 : (Jvm.Cond.code ({ cls := "com/example/equipoise/equipoise/SplitMix", name := "value", desc := "(JJ)J" } : Jvm.MethodName) prog_72_method_4_code (4 : Nat) (Option.some Jvm.ClassFile.FieldType.long)).before args0 about1 = true := code_word (m := ⟨2, 3⟩) (meth := k2m3) (c := k2c3) (by decide +kernel) rfl rfl rfl (by decide +kernel)
def codes1 : List Jvm.Cond := [Jvm.Cond.code x code maxLocals ret, Jvm.Cond.code ({ cls := "com/example/equipoise/equipoise/SplitMix", name := "<init>", desc := "(JJ)V" } : Jvm.MethodName) prog_72_method_1_code (5 : Nat) (Option.none : Option Jvm.ClassFile.FieldType), Jvm.Cond.code ({ cls := "java/lang/Object", name := "<init>", desc := "()V" } : Jvm.MethodName) object_method_1_code (1 : Nat) (Option.none : Option Jvm.ClassFile.FieldType), Jvm.Cond.code ({ cls := "com/example/equipoise/equipoise/SplitMix", name := "runKey", desc := "(J)J" } : Jvm.MethodName) prog_72_method_2_code (2 : Nat) (Option.some Jvm.ClassFile.FieldType.long), Jvm.Cond.code ({ cls := "com/example/equipoise/equipoise/SplitMix", name := "mix", desc := "(J)J" } : Jvm.MethodName) prog_72_method_7_code (2 : Nat) (Option.some Jvm.ClassFile.FieldType.long), Jvm.Cond.code ({ cls := "com/example/equipoise/equipoise/SplitMix", name := "start", desc := "(JJ)J" } : Jvm.MethodName) prog_72_method_3_code (4 : Nat) (Option.some Jvm.ClassFile.FieldType.long), Jvm.Cond.code ({ cls := "com/example/equipoise/equipoise/SplitMix", name := "next", desc := "()J" } : Jvm.MethodName) prog_72_method_5_code (1 : Nat) (Option.some Jvm.ClassFile.FieldType.long), Jvm.Cond.code ({ cls := "com/example/equipoise/equipoise/SplitMix", name := "value", desc := "(JJ)J" } : Jvm.MethodName) prog_72_method_4_code (4 : Nat) (Option.some Jvm.ClassFile.FieldType.long)]
set_option maxRecDepth 65536 in
theorem codes_eq : words1.filter isCode = codes1 := rfl
theorem w_codes : ∀ c ∈ words1.filter isCode, c.before args0 about1 = true := by
  rw [codes_eq]
  intro c hc
  simp only [codes1, List.mem_cons, List.not_mem_nil, or_false] at hc
  rcases hc with rfl | rfl | rfl | rfl | rfl | rfl | rfl | rfl
  · exact w_c0
  · exact w_c1
  · exact w_c2
  · exact w_c3
  · exact w_c4
  · exact w_c5
  · exact w_c6
  · exact w_c7
set_option maxRecDepth 65536 in
theorem w_t1 : (words1.take 24).all (fun c => isCode c || c.before args0 about1) = true := by decide +kernel
set_option maxRecDepth 65536 in
theorem w_t2 : (words1.drop 24).all (fun c => isCode c || c.before args0 about1) = true := by decide +kernel
theorem w_tables : (allAtoms (Jvm.Cond.code x code maxLocals ret :: tables_1)).before args0 about1 = true := by
  rw [allAtoms_all]
  show words1.all (fun c => c.before args0 about1) = true
  refine all_split ?_ w_codes
  rw [← List.take_append_drop 24 words1, List.all_append, w_t1, w_t2]
  rfl
set_option maxRecDepth 65536 in
theorem w_case : (Jvm.Cond.and given_1 narrow_1).before args0 about1 = true := by decide +kernel
theorem w_applies : (headSpec (Jvm.Cond.code x code maxLocals ret :: tables_1) room_1).applies x e0.platform about1 = true :=
  (Spec.applies_iff w_frames).mpr ⟨w_running, w_runnable, w_alone, w_named, w_hears, w_ripe, w_room, w_tables⟩
theorem atStart : AtStart classFile x code maxLocals ret World_1 tables_1 room_1 Calls_1 rest_1 Pre_1 launch0 p0 e0 about1 theMethod args0 below0 :=
  ⟨lists_1, trivial, launch0.admits_env _ _ _, launch0.least_env, fairChoices_fair.cas, fairChoices_fair.clock, w_frames, w_args, w_heap, w_applies, trivial, trivial, w_case⟩
end start1
theorem witness_1 : WitnessClaimed_1 := ⟨start1.p0, start1.e0, start1.about1, start1.theMethod, start1.args0, start1.below0, start1.atStart⟩
end Jvm.Pilot.@@N@@
