import JvmDerived
import JvmDerived.Pilot.@@N@@Statement
import JvmDerived.Pilot.@@N@@Code
set_option linter.unusedVariables false
set_option linter.unusedSimpArgs false
namespace Jvm.Pilot.@@N@@
open Jvm Jvm.ClassFile Sem Op Lib Jvm.Free Jvm.Stand Jvm.LawKit Jvm.RoadKit Bundle Jvm.Pilot.@@N@@.Jvm.D
def own_usr (x y : Int32) : Int32 := (x.toUInt32 >>> (y &&& 31).toUInt32).toInt32
def own_usrL (x : Int64) (y : Int32) : Int64 := (x.toUInt64 >>> (y &&& 0x3f).toInt64.toUInt64).toInt64
/-- where the run came from, where it stands -/
def Go (p : Program) (e : Env) (below : List Frame) (A B : State) : Prop := ∀ t, Steps p.tables e below B t → Steps p.tables e below A t
theorem Go.step {p : Program} {e : Env} {below : List Frame} {A B C : State} (g : Go p e below A B) (h : ∀ t, Steps p.tables e below C t → Steps p.tables e below B t) : Go p e below A C := fun t k => g t (h t k)
theorem Go.tr {p : Program} {e : Env} {below : List Frame} {A B C : State} (g : Go p e below A B) (h : Steps p.tables e below B C) : Go p e below A C := fun t k => g t (h.trans k)
section Rets
variable {p : Program} {l : Launch} {e : Env} {R : Room} {s : State} {m : MethodId} {args : Array Value} {below : List Frame} {meth : Method} {c : Code} {T : State} {locs : List Loc} {cells slots : Nat}
theorem own_retI (X : Stand p l e R s m args below meth c T locs cells slots) (hx : p.tables.exec = Jvm.exec) {pc : Nat} {Ls : Array Slot} {z : Int32} {rest : List Value} (hret : meth.sig.returnType = some .int) (hd : decode c.code pc = .ok (.ireturn, 1)) {fs : List Frame}
    (hl : ∀ (f : JFrame) (acts : List Action), f.method = m → f.locked = none → f.entered = [] → (doReturn e (T.setTop f) acts (some (.int z))).1 = T.setFrames fs) : Steps p.tables e below (T.setTop (mkF m pc Ls (.int z :: rest))) (T.setFrames fs) :=
  retOut X hx (t := .int) hret rfl (Or.inl ⟨rfl, Or.inl rfl, z, rfl⟩) hd hl
theorem own_retL (X : Stand p l e R s m args below meth c T locs cells slots) (hx : p.tables.exec = Jvm.exec) {pc : Nat} {Ls : Array Slot} {z : Int64} {rest : List Value} (hret : meth.sig.returnType = some .long) (hd : decode c.code pc = .ok (.lreturn, 1)) {fs : List Frame}
    (hl : ∀ (f : JFrame) (acts : List Action), f.method = m → f.locked = none → f.entered = [] → (doReturn e (T.setTop f) acts (some (.long z))).1 = T.setFrames fs) : Steps p.tables e below (T.setTop (mkF m pc Ls (.long z :: rest))) (T.setFrames fs) :=
  retOut X hx (t := .long) hret rfl (Or.inr (Or.inl ⟨rfl, rfl, z, rfl⟩)) hd hl
theorem own_retA (X : Stand p l e R s m args below meth c T locs cells slots) (hx : p.tables.exec = Jvm.exec) {t : FieldType} {pc : Nat} {Ls : Array Slot} {z : Addr} {rest : List Value} (hret : meth.sig.returnType = some t) (ht : t.isReference = true) (hn : narrow t (.ref z) = .ref z) (hd : decode c.code pc = .ok (.areturn, 1)) {fs : List Frame}
    (hl : ∀ (f : JFrame) (acts : List Action), f.method = m → f.locked = none → f.entered = [] → (doReturn e (T.setTop f) acts (some (.ref z))).1 = T.setFrames fs) : Steps p.tables e below (T.setTop (mkF m pc Ls (.ref z :: rest))) (T.setFrames fs) :=
  retOut X hx hret hn (Or.inr (Or.inr (Or.inr (Or.inr ⟨rfl, ht, rfl⟩)))) hd hl
end Rets
theorem d2_0 : decode jdk_30_method_1_code 0 = .ok (.aload_n 0, 1) := by decide +kernel
theorem d2_1 : decode jdk_30_method_1_code 1 = .ok (.invokespecial 1, 3) := by decide +kernel
theorem d2_4 : decode jdk_30_method_1_code 4 = .ok (.return_, 1) := by decide +kernel
theorem pn_rm2 : plainName "java/lang/Record" = true := by first | (simp [plainName, overriddenIn]; done) | decide +kernel
theorem ef_rm2 (m : MethodId) (o0 : Addr) : entryFrame m #[(.ref o0)] 1 = mkF m 0 #[.val (.ref o0)] [] := by first | (simp [entryFrame, mkF, argsToLocals, Value.category]; done) | rfl
def Q_rm2 (Z : State) (o0 : Addr) (h0 : Heap) (n0 : Nat) (v : Option Value) (h : Heap) (L : List Loc) : Prop := v = none ∧ Fr n0 L ∧ h = h0
set_option maxRecDepth 65536 in
set_option maxHeartbeats 40000000 in
theorem rm2 (l : Launch) (Z : State) (a0 : Array Value) (hw : ∀ d ∈ tables_1, d.before a0 Z = true) (ws : List Jvm.Cond) (o0 : Addr) (h0 : Heap) (n0 : Nat) (Z0 : n0 ≤ h0.size) :
    MetFree l (⟨"java/lang/Record", "<init>", "()V"⟩ : MethodName) (head1 (Jvm.Cond.code (⟨"java/lang/Record", "<init>", "()V"⟩ : MethodName) jdk_30_method_1_code 1 none :: ws) ({ frames := 1, cells := 0, slots := 0, locals := 12 } : Room)) (fun a U => a = #[(.ref o0)] ∧ Z.Warmed39 U.vm ∧ U.heap = h0) (fun _ _ _ _ _ => True) (fun _ U o U' => ∃ v L, o = .returned v ∧ Q_rm2 Z o0 h0 n0 v U'.heap L ∧ FrameEnd U o U' L ({ frames := 1, cells := 0, slots := 0, locals := 12 } : Room).cells ({ frames := 1, cells := 0, slots := 0, locals := 12 } : Room).slots) := by
  refine MetFree.of_bodySF (plainFor_of_name pn_rm2) hisR ?_
  intro p e s m args below meth c s₁ Bd hml0 hP hK
  obtain ⟨rfl, hZ, hh⟩ := hP
  have hx := Bd.exec
  have hby := Bd.bytes
  have hml : c.maxLocals = 1 := hml0
  have hown : s.vm.findClass "java/lang/Record" = some m.cls := findClass_of_methodNamed Bd.named
  have hnm := (name_of_methodNamed Bd.named Bd.method).1
  have X0 : Stand p l e ({ frames := 1, cells := 0, slots := 0, locals := 12 } : Room) s m #[(.ref o0)] below meth c s₁ [] 0 0 := Stand.of_body Bd
  have e0 : s₁.heap = h0 := by rw [← hh, Bd.state]; rfl
  have N0 := Fr.nil n0
  have K0 := Keep.refl h0 []
  have go0 : Go p e below (s₁.setTop (entryFrame m #[(.ref o0)] 1)) (s₁.setTop (mkF m 0 #[.val (.ref o0)] [])) := fun t k => castTop (ef_rm2 m o0) k
  have go1 := go0.step (C := s₁.setTop (mkF m 1 #[.val (.ref o0)] [(.ref o0)])) (fun t k => by
    show Steps p.tables e below (s₁.setTop (mkF m 0 #[.val (.ref o0)] [])) _
    refine XS.aloadN X0.here hx rfl (hb hby d2_0) rfl rfl ?_
    exact k)
  obtain ⟨T2, X2, e2, st2⟩ := initO X0 hx hZ hown (hw _ (List.mem_of_getElem? (i := 13) rfl)) (hw _ (List.mem_of_getElem? (i := 14) rfl)) (hw _ (List.mem_of_getElem? (i := 15) rfl)) e0 (g := (mkF m 1 #[.val (.ref o0)] [(.ref o0)])) rfl (by rw [hml]; rfl) rfl (hb hby d2_1) (by decide) (W := 0) (by show 2 * 0 + _ ≤ _; exact Nat.le_of_eq rfl) (by decide)
  have go2 := go1.step (C := T2.setTop (mkF m 4 #[.val (.ref o0)] [])) (fun t k => st2 t k)
  obtain ⟨fs, hr, hrun, hended, hW, hsame⟩ := X2.leave (v := none) (fun _ => rfl)
  refine ⟨_, _, go2 _ ?_, hrun, hended, _, _, rfl, ?_, ⟨_, rfl⟩, hW, hsame.mono (by decide) (by decide)⟩
  · exact X2.returnOut hx Bd.returns (hb hby d2_4) hr
  · show Q_rm2 Z o0 h0 n0 _ T2.heap _
    rw [e2]
    exact ⟨rfl, N0, rfl⟩
theorem d1_0 : decode prog_28_method_1_code 0 = .ok (.aload_n 0, 1) := by decide +kernel
theorem d1_1 : decode prog_28_method_1_code 1 = .ok (.invokespecial 1, 3) := by decide +kernel
theorem d1_4 : decode prog_28_method_1_code 4 = .ok (.aload_n 0, 1) := by decide +kernel
theorem d1_5 : decode prog_28_method_1_code 5 = .ok (.iload_n 1, 1) := by decide +kernel
theorem d1_6 : decode prog_28_method_1_code 6 = .ok (.putfield 7, 3) := by decide +kernel
theorem d1_9 : decode prog_28_method_1_code 9 = .ok (.aload_n 0, 1) := by decide +kernel
theorem d1_10 : decode prog_28_method_1_code 10 = .ok (.iload_n 2, 1) := by decide +kernel
theorem d1_11 : decode prog_28_method_1_code 11 = .ok (.putfield 13, 3) := by decide +kernel
theorem d1_14 : decode prog_28_method_1_code 14 = .ok (.return_, 1) := by decide +kernel
theorem pn_rm1 : plainName "com/example/packetsieve/packetsieve/packet/Symbol" = true := by first | (simp [plainName, overriddenIn]; done) | decide +kernel
theorem pd1_0 : parseMethodDescriptor "()V" = some ⟨[], none⟩ := by decide +kernel
theorem ef_rm1 (m : MethodId) (o0 : Addr) (p1 : Int32) (p2 : Int32) : entryFrame m #[(.ref o0), (.int p1), (.int p2)] 3 = mkF m 0 #[.val (.ref o0), .val (.int p1), .val (.int p2)] [] := by first | (simp [entryFrame, mkF, argsToLocals, Value.category]; done) | rfl
def Q_rm1 (Z : State) (o0 : Addr) (p1 : Int32) (p2 : Int32) (h0 : Heap) (n0 : Nat) (v : Option Value) (h : Heap) (L : List Loc) : Prop := v = none ∧ Fr n0 L ∧ Keep h0 h [o0] ∧ Exa Z h o0 "com/example/packetsieve/packetsieve/packet/Symbol" ∧ Fld Z h o0 "com/example/packetsieve/packetsieve/packet/Symbol" "table" "C" (.int (nar .char p1)) ∧ Fld Z h o0 "com/example/packetsieve/packetsieve/packet/Symbol" "code" "C" (.int (nar .char p2))
set_option maxRecDepth 65536 in
set_option maxHeartbeats 40000000 in
theorem rm1 (l : Launch) (Z : State) (a0 : Array Value) (hw : ∀ d ∈ tables_1, d.before a0 Z = true) (ws : List Jvm.Cond) (o0 : Addr) (p1 : Int32) (p2 : Int32) (h0 : Heap) (n0 : Nat) (Z0 : n0 ≤ h0.size) (E_o0 : Exa Z h0 o0 "com/example/packetsieve/packetsieve/packet/Symbol") (g_o0 : n0 ≤ o0) (F_table : Fld Z h0 o0 "com/example/packetsieve/packetsieve/packet/Symbol" "table" "C" (.int (0 : Int32))) (F_code : Fld Z h0 o0 "com/example/packetsieve/packetsieve/packet/Symbol" "code" "C" (.int (0 : Int32))) :
    MetFree l (⟨"com/example/packetsieve/packetsieve/packet/Symbol", "<init>", "(CC)V"⟩ : MethodName) (head1 (Jvm.Cond.code (⟨"com/example/packetsieve/packetsieve/packet/Symbol", "<init>", "(CC)V"⟩ : MethodName) prog_28_method_1_code 3 none :: ws) ({ frames := 2, cells := 0, slots := 0, locals := 24 } : Room)) (fun a U => a = #[(.ref o0), (.int p1), (.int p2)] ∧ Z.Warmed39 U.vm ∧ U.heap = h0) (fun _ _ _ _ _ => True) (fun _ U o U' => ∃ v L, o = .returned v ∧ Q_rm1 Z o0 p1 p2 h0 n0 v U'.heap L ∧ FrameEnd U o U' L ({ frames := 2, cells := 0, slots := 0, locals := 24 } : Room).cells ({ frames := 2, cells := 0, slots := 0, locals := 24 } : Room).slots) := by
  refine MetFree.of_bodySF (plainFor_of_name pn_rm1) hisR ?_
  intro p e s m args below meth c s₁ Bd hml0 hP hK
  obtain ⟨rfl, hZ, hh⟩ := hP
  have hx := Bd.exec
  have hby := Bd.bytes
  have hml : c.maxLocals = 3 := hml0
  have hown : s.vm.findClass "com/example/packetsieve/packetsieve/packet/Symbol" = some m.cls := findClass_of_methodNamed Bd.named
  have hnm := (name_of_methodNamed Bd.named Bd.method).1
  have X0 : Stand p l e ({ frames := 2, cells := 0, slots := 0, locals := 24 } : Room) s m #[(.ref o0), (.int p1), (.int p2)] below meth c s₁ [] 0 0 := Stand.of_body Bd
  have e0 : s₁.heap = h0 := by rw [← hh, Bd.state]; rfl
  have N0 := Fr.nil n0
  have K0 := Keep.refl h0 [o0]
  have go0 : Go p e below (s₁.setTop (entryFrame m #[(.ref o0), (.int p1), (.int p2)] 3)) (s₁.setTop (mkF m 0 #[.val (.ref o0), .val (.int p1), .val (.int p2)] [])) := fun t k => castTop (ef_rm1 m o0 p1 p2) k
  have go1 := go0.step (C := s₁.setTop (mkF m 1 #[.val (.ref o0), .val (.int p1), .val (.int p2)] [(.ref o0)])) (fun t k => by
    show Steps p.tables e below (s₁.setTop (mkF m 0 #[.val (.ref o0), .val (.int p1), .val (.int p2)] [])) _
    refine XS.aloadN X0.here hx rfl (hb hby d1_0) rfl rfl ?_
    exact k)
  obtain ⟨_, _, ⟨T2, L2, k2, n2⟩, -, X2, ⟨Lc2, hQ2, l2, y2, z2⟩, st2⟩ := X0.specialBack hx (y := (⟨"java/lang/Record", "<init>", "()V"⟩ : MethodName)) rfl hown (mvT hZ (hw _ (List.mem_of_getElem? (i := 8) rfl))) (mvT hZ (hw _ (List.mem_of_getElem? (i := 9) rfl))) (mvT hZ (hw _ (List.mem_of_getElem? (i := 12) rfl))) (by decide) (backOf (W := 0) (rm2 l Z a0 hw [] o0 h0 n0 Z0 ) hZ (hw _ (List.mem_of_getElem? (i := 12) rfl)) (hw _ (List.mem_of_getElem? (i := 11) rfl)) (by decide) (by decide)) (g := (mkF m 1 #[.val (.ref o0), .val (.int p1), .val (.int p2)] [(.ref o0)])) rfl (by rw [hml]; rfl) (Steps.refl _) (a := o0) (argsL := []) (rest := []) (lenOf pd1_0 rfl) rfl (by show 2 * 0 + _ ≤ _; exact Nat.le_of_eq rfl) (hb hby d1_1) (fun _ _ => ⟨rfl, e0, (by decide : 0 + 0 ≤ _), (by decide : 0 + 0 ≤ _)⟩)
  dsimp only [Pt.U, Pt.locs, Pt.cells, Pt.slots] at X2 l2 y2 z2 st2 hQ2
  subst l2 y2 z2
  obtain ⟨rfl, N2q, e2⟩ := hQ2
  have N2 := Fr.app N0 N2q
  have go2 := go1.tr (C := T2.setTop (mkF m 4 #[.val (.ref o0), .val (.int p1), .val (.int p2)] [])) st2
  have go3 := go2.step (C := T2.setTop (mkF m 6 #[.val (.ref o0), .val (.int p1), .val (.int p2)] [(.int p1), (.ref o0)])) (fun t k => by
    show Steps p.tables e below (T2.setTop (mkF m 4 #[.val (.ref o0), .val (.int p1), .val (.int p2)] [])) _
    refine XS.aloadN X2.here hx rfl (hb hby d1_4) rfl rfl ?_
    show Steps p.tables e below (T2.setTop (mkF m 5 #[.val (.ref o0), .val (.int p1), .val (.int p2)] [(.ref o0)])) _
    refine XS.iloadN X2.here hx rfl (hb hby d1_5) rfl ?_
    exact k)
  obtain ⟨T4, h4, X4, e4, W4, st4⟩ := putFN X2 hx hZ hown (hw _ (List.mem_of_getElem? (i := 16) rfl)) Via.refl e2 F_table E_o0 (Or.inr ⟨(hw _ (List.mem_of_getElem? (i := 17) rfl)), rfl, hnm⟩) (hw _ (List.mem_of_getElem? (i := 3) rfl)) (ty := .char) (v' := (.int (nar .char p1))) (by decide) rfl (fits_nar_char _) (g := (mkF m 6 #[.val (.ref o0), .val (.int p1), .val (.int p2)] [(.int p1), (.ref o0)])) rfl rfl (hb hby d1_6)
  have f5 := E_o0.wr W4
  have f6 := Fld.same W4 F_table
  have f7 := Fld.other W4 F_code (Or.inr (slot_ne (Or.inr (hw _ (List.mem_of_getElem? (i := 19) rfl))) (Or.inr (hw _ (List.mem_of_getElem? (i := 17) rfl))) (by decide) (t := .char) (t' := .char) (by decide) (by decide)))
  have Z4 : n0 ≤ h4.size := Nat.le_trans Z0 (Nat.le_of_eq W4.size.symm)
  have K4 := K0.wr W4 (Or.inl (List.mem_of_getElem? (i := 0) rfl))
  have N4 := Fr.snoc X4 N2 g_o0
  have go4 := go3.step (C := T4.setTop (mkF m 9 #[.val (.ref o0), .val (.int p1), .val (.int p2)] [])) (fun t k => st4 t k)
  have go8 := go4.step (C := T4.setTop (mkF m 11 #[.val (.ref o0), .val (.int p1), .val (.int p2)] [(.int p2), (.ref o0)])) (fun t k => by
    show Steps p.tables e below (T4.setTop (mkF m 9 #[.val (.ref o0), .val (.int p1), .val (.int p2)] [])) _
    refine XS.aloadN X4.here hx rfl (hb hby d1_9) rfl rfl ?_
    show Steps p.tables e below (T4.setTop (mkF m 10 #[.val (.ref o0), .val (.int p1), .val (.int p2)] [(.ref o0)])) _
    refine XS.iloadN X4.here hx rfl (hb hby d1_10) rfl ?_
    exact k)
  obtain ⟨T9, h9, X9, e9, W9, st9⟩ := putFN X4 hx hZ hown (hw _ (List.mem_of_getElem? (i := 18) rfl)) Via.refl e4 f7 f5 (Or.inr ⟨(hw _ (List.mem_of_getElem? (i := 19) rfl)), rfl, hnm⟩) (hw _ (List.mem_of_getElem? (i := 3) rfl)) (ty := .char) (v' := (.int (nar .char p2))) (by decide) rfl (fits_nar_char _) (g := (mkF m 11 #[.val (.ref o0), .val (.int p1), .val (.int p2)] [(.int p2), (.ref o0)])) rfl rfl (hb hby d1_11)
  have f10 := f5.wr W9
  have f11 := Fld.other W9 f6 (Or.inr (slot_ne (Or.inr (hw _ (List.mem_of_getElem? (i := 17) rfl))) (Or.inr (hw _ (List.mem_of_getElem? (i := 19) rfl))) (by decide) (t := .char) (t' := .char) (by decide) (by decide)))
  have f12 := Fld.same W9 f7
  have Z9 : n0 ≤ h9.size := Nat.le_trans Z4 (Nat.le_of_eq W9.size.symm)
  have K9 := K4.wr W9 (Or.inl (List.mem_of_getElem? (i := 0) rfl))
  have N9 := Fr.snoc X9 N4 g_o0
  have go9 := go8.step (C := T9.setTop (mkF m 14 #[.val (.ref o0), .val (.int p1), .val (.int p2)] [])) (fun t k => st9 t k)
  obtain ⟨fs, hr, hrun, hended, hW, hsame⟩ := X9.leave (v := none) (fun _ => rfl)
  refine ⟨_, _, go9 _ ?_, hrun, hended, _, _, rfl, ?_, ⟨_, rfl⟩, hW, hsame.mono (by decide) (by decide)⟩
  · exact X9.returnOut hx Bd.returns (hb hby d1_14) hr
  · show Q_rm1 Z o0 p1 p2 h0 n0 _ T9.heap _
    rw [e9]
    exact ⟨rfl, N9, K9, f10, f11, f12⟩
def own_has (w : Int32) : Int32 := (if w < (48 : Int32) then (if w < (65 : Int32) then (0 : Int32) else (if (90 : Int32) < w then (0 : Int32) else (1 : Int32))) else (if (57 : Int32) < w then (if w < (65 : Int32) then (0 : Int32) else (if (90 : Int32) < w then (0 : Int32) else (1 : Int32))) else (1 : Int32)))
theorem d4_0 : decode prog_28_method_4_code 0 = .ok (.aload_n 0, 1) := by decide +kernel
theorem d4_1 : decode prog_28_method_4_code 1 = .ok (.getfield 7, 3) := by decide +kernel
theorem d4_4 : decode prog_28_method_4_code 4 = .ok (.bipush 48, 2) := by decide +kernel
theorem d4_6 : decode prog_28_method_4_code 6 = .ok (.if_icmp .lt 12, 3) := by decide +kernel
theorem d4_9 : decode prog_28_method_4_code 9 = .ok (.aload_n 0, 1) := by decide +kernel
theorem d4_10 : decode prog_28_method_4_code 10 = .ok (.getfield 7, 3) := by decide +kernel
theorem d4_13 : decode prog_28_method_4_code 13 = .ok (.bipush 57, 2) := by decide +kernel
theorem d4_15 : decode prog_28_method_4_code 15 = .ok (.if_icmp .le 21, 3) := by decide +kernel
theorem d4_18 : decode prog_28_method_4_code 18 = .ok (.aload_n 0, 1) := by decide +kernel
theorem d4_19 : decode prog_28_method_4_code 19 = .ok (.getfield 7, 3) := by decide +kernel
theorem d4_22 : decode prog_28_method_4_code 22 = .ok (.bipush 65, 2) := by decide +kernel
theorem d4_24 : decode prog_28_method_4_code 24 = .ok (.if_icmp .lt 16, 3) := by decide +kernel
theorem d4_27 : decode prog_28_method_4_code 27 = .ok (.aload_n 0, 1) := by decide +kernel
theorem d4_28 : decode prog_28_method_4_code 28 = .ok (.getfield 7, 3) := by decide +kernel
theorem d4_31 : decode prog_28_method_4_code 31 = .ok (.bipush 90, 2) := by decide +kernel
theorem d4_33 : decode prog_28_method_4_code 33 = .ok (.if_icmp .gt 7, 3) := by decide +kernel
theorem d4_36 : decode prog_28_method_4_code 36 = .ok (.iconst 1, 1) := by decide +kernel
theorem d4_37 : decode prog_28_method_4_code 37 = .ok (.goto 4, 3) := by decide +kernel
theorem d4_40 : decode prog_28_method_4_code 40 = .ok (.iconst 0, 1) := by decide +kernel
theorem d4_41 : decode prog_28_method_4_code 41 = .ok (.ireturn, 1) := by decide +kernel
theorem pn_rm4 : plainName "com/example/packetsieve/packetsieve/packet/Symbol" = true := by first | (simp [plainName, overriddenIn]; done) | decide +kernel
theorem ef_rm4 (m : MethodId) (o0 : Addr) : entryFrame m #[(.ref o0)] 1 = mkF m 0 #[.val (.ref o0)] [] := by first | (simp [entryFrame, mkF, argsToLocals, Value.category]; done) | rfl
def Q_rm4 (Z : State) (o0 : Addr) (w : Int32) (h0 : Heap) (n0 : Nat) (v : Option Value) (h : Heap) (L : List Loc) : Prop := v = some (.int (own_has w)) ∧ Fr n0 L ∧ h = h0
set_option maxRecDepth 65536 in
set_option maxHeartbeats 40000000 in
theorem rm4 (l : Launch) (Z : State) (a0 : Array Value) (hw : ∀ d ∈ tables_1, d.before a0 Z = true) (ws : List Jvm.Cond) (o0 : Addr) (w : Int32) (h0 : Heap) (n0 : Nat) (Z0 : n0 ≤ h0.size) (F_table_o0 : Fld Z h0 o0 "com/example/packetsieve/packetsieve/packet/Symbol" "table" "C" (.int w)) :
    MetFree l (⟨"com/example/packetsieve/packetsieve/packet/Symbol", "hasOverlay", "()Z"⟩ : MethodName) (head1 (Jvm.Cond.code (⟨"com/example/packetsieve/packetsieve/packet/Symbol", "hasOverlay", "()Z"⟩ : MethodName) prog_28_method_4_code 1 (some .boolean) :: ws) ({ frames := 0, cells := 0, slots := 0, locals := 0 } : Room)) (fun a U => a = #[(.ref o0)] ∧ Z.Warmed39 U.vm ∧ U.heap = h0) (fun _ _ _ _ _ => True) (fun _ U o U' => ∃ v L, o = .returned v ∧ Q_rm4 Z o0 w h0 n0 v U'.heap L ∧ FrameEnd U o U' L ({ frames := 0, cells := 0, slots := 0, locals := 0 } : Room).cells ({ frames := 0, cells := 0, slots := 0, locals := 0 } : Room).slots) := by
  refine MetFree.of_bodySF (plainFor_of_name pn_rm4) hisR ?_
  intro p e s m args below meth c s₁ Bd hml0 hP hK
  obtain ⟨rfl, hZ, hh⟩ := hP
  have hx := Bd.exec
  have hby := Bd.bytes
  have hml : c.maxLocals = 1 := hml0
  have hown : s.vm.findClass "com/example/packetsieve/packetsieve/packet/Symbol" = some m.cls := findClass_of_methodNamed Bd.named
  have hnm := (name_of_methodNamed Bd.named Bd.method).1
  have X0 : Stand p l e ({ frames := 0, cells := 0, slots := 0, locals := 0 } : Room) s m #[(.ref o0)] below meth c s₁ [] 0 0 := Stand.of_body Bd
  have e0 : s₁.heap = h0 := by rw [← hh, Bd.state]; rfl
  have N0 := Fr.nil n0
  have K0 := Keep.refl h0 []
  have go0 : Go p e below (s₁.setTop (entryFrame m #[(.ref o0)] 1)) (s₁.setTop (mkF m 0 #[.val (.ref o0)] [])) := fun t k => castTop (ef_rm4 m o0) k
  have go1 := go0.step (C := s₁.setTop (mkF m 1 #[.val (.ref o0)] [(.ref o0)])) (fun t k => by
    show Steps p.tables e below (s₁.setTop (mkF m 0 #[.val (.ref o0)] [])) _
    refine XS.aloadN X0.here hx rfl (hb hby d4_0) rfl rfl ?_
    exact k)
  obtain ⟨T2, X2, e2, st2⟩ := getF X0 hx hZ hown (host := "") (Or.inl (hw _ (List.mem_of_getElem? (i := 16) rfl))) Via.refl e0 F_table_o0 (g := (mkF m 1 #[.val (.ref o0)] [(.ref o0)])) rfl rfl (hb hby d4_1)
  have go2 := go1.step (C := T2.setTop (mkF m 4 #[.val (.ref o0)] [(.int w)])) (fun t k => st2 t k)
  have go4 := go2.step (C := T2.setTop (mkF m 6 #[.val (.ref o0)] [(.int (48 : Int32)), (.int w)])) (fun t k => by
    show Steps p.tables e below (T2.setTop (mkF m 4 #[.val (.ref o0)] [(.int w)])) _
    refine XS.bipush X2.here hx rfl (hb hby d4_4) ?_
    exact k)
  by_cases hc3 : w < (48 : Int32)
  · skip
    have go5 := go4.step (C := T2.setTop (mkF m 19 #[.val (.ref o0)] [(.ref o0)])) (fun t k => by
      show Steps p.tables e below (T2.setTop (mkF m 6 #[.val (.ref o0)] [(.int (48 : Int32)), (.int w)])) _
      refine XS.icmpYes X2.here hx rfl (pc0 := 6) (pc' := 18) rfl (hb hby d4_6) rfl (tlt hc3).1 (by decide) (by decide) ?_
      show Steps p.tables e below (T2.setTop (mkF m 18 #[.val (.ref o0)] [])) _
      refine XS.aloadN X2.here hx rfl (hb hby d4_18) rfl rfl ?_
      exact k)
    obtain ⟨T6, X6, e6, st6⟩ := getF X2 hx hZ hown (host := "") (Or.inl (hw _ (List.mem_of_getElem? (i := 16) rfl))) Via.refl e2 F_table_o0 (g := (mkF m 19 #[.val (.ref o0)] [(.ref o0)])) rfl rfl (hb hby d4_19)
    have go6 := go5.step (C := T6.setTop (mkF m 22 #[.val (.ref o0)] [(.int w)])) (fun t k => st6 t k)
    have go8 := go6.step (C := T6.setTop (mkF m 24 #[.val (.ref o0)] [(.int (65 : Int32)), (.int w)])) (fun t k => by
      show Steps p.tables e below (T6.setTop (mkF m 22 #[.val (.ref o0)] [(.int w)])) _
      refine XS.bipush X6.here hx rfl (hb hby d4_22) ?_
      exact k)
    by_cases hc7 : w < (65 : Int32)
    · skip
      have go9 := go8.step (C := T6.setTop (mkF m 41 #[.val (.ref o0)] [(.int (0 : Int32))])) (fun t k => by
        show Steps p.tables e below (T6.setTop (mkF m 24 #[.val (.ref o0)] [(.int (65 : Int32)), (.int w)])) _
        refine XS.icmpYes X6.here hx rfl (pc0 := 24) (pc' := 40) rfl (hb hby d4_24) rfl (tlt hc7).1 (by decide) (by decide) ?_
        show Steps p.tables e below (T6.setTop (mkF m 40 #[.val (.ref o0)] [])) _
        refine XS.iconst X6.here hx rfl (hb hby d4_40) ?_
        exact k)
      obtain ⟨fs, hr, hrun, hended, hW, hsame⟩ := X6.leave (v := some (.int (0 : Int32))) (fun h => by rw [Bd.returns] at h; cases h)
      refine ⟨_, _, go9 _ ?_, hrun, hended, _, _, rfl, ?_, ⟨_, rfl⟩, hW, hsame.mono (by decide) (by decide)⟩
      · exact retN X6 hx (t := .boolean) Bd.returns (by simp) (hb hby d4_41) hr
      · show Q_rm4 Z o0 w h0 n0 _ T6.heap _
        rw [e6]
        exact ⟨by unfold own_has; simp only [if_pos hc3, if_pos hc7], N0, rfl⟩
    · skip
      have go10 := go8.step (C := T6.setTop (mkF m 28 #[.val (.ref o0)] [(.ref o0)])) (fun t k => by
        show Steps p.tables e below (T6.setTop (mkF m 24 #[.val (.ref o0)] [(.int (65 : Int32)), (.int w)])) _
        refine XS.icmpNo X6.here hx rfl (hb hby d4_24) rfl (flt hc7).1 ?_
        show Steps p.tables e below (T6.setTop (mkF m 27 #[.val (.ref o0)] [])) _
        refine XS.aloadN X6.here hx rfl (hb hby d4_27) rfl rfl ?_
        exact k)
      obtain ⟨T11, X11, e11, st11⟩ := getF X6 hx hZ hown (host := "") (Or.inl (hw _ (List.mem_of_getElem? (i := 16) rfl))) Via.refl e6 F_table_o0 (g := (mkF m 28 #[.val (.ref o0)] [(.ref o0)])) rfl rfl (hb hby d4_28)
      have go11 := go10.step (C := T11.setTop (mkF m 31 #[.val (.ref o0)] [(.int w)])) (fun t k => st11 t k)
      have go13 := go11.step (C := T11.setTop (mkF m 33 #[.val (.ref o0)] [(.int (90 : Int32)), (.int w)])) (fun t k => by
        show Steps p.tables e below (T11.setTop (mkF m 31 #[.val (.ref o0)] [(.int w)])) _
        refine XS.bipush X11.here hx rfl (hb hby d4_31) ?_
        exact k)
      by_cases hc12 : (90 : Int32) < w
      · skip
        have go14 := go13.step (C := T11.setTop (mkF m 41 #[.val (.ref o0)] [(.int (0 : Int32))])) (fun t k => by
          show Steps p.tables e below (T11.setTop (mkF m 33 #[.val (.ref o0)] [(.int (90 : Int32)), (.int w)])) _
          refine XS.icmpYes X11.here hx rfl (pc0 := 33) (pc' := 40) rfl (hb hby d4_33) rfl (tlt hc12).2.2.1 (by decide) (by decide) ?_
          show Steps p.tables e below (T11.setTop (mkF m 40 #[.val (.ref o0)] [])) _
          refine XS.iconst X11.here hx rfl (hb hby d4_40) ?_
          exact k)
        obtain ⟨fs, hr, hrun, hended, hW, hsame⟩ := X11.leave (v := some (.int (0 : Int32))) (fun h => by rw [Bd.returns] at h; cases h)
        refine ⟨_, _, go14 _ ?_, hrun, hended, _, _, rfl, ?_, ⟨_, rfl⟩, hW, hsame.mono (by decide) (by decide)⟩
        · exact retN X11 hx (t := .boolean) Bd.returns (by simp) (hb hby d4_41) hr
        · show Q_rm4 Z o0 w h0 n0 _ T11.heap _
          rw [e11]
          exact ⟨by unfold own_has; simp only [if_pos hc3, if_neg hc7, if_pos hc12], N0, rfl⟩
      · skip
        have go15 := go13.step (C := T11.setTop (mkF m 41 #[.val (.ref o0)] [(.int (1 : Int32))])) (fun t k => by
          show Steps p.tables e below (T11.setTop (mkF m 33 #[.val (.ref o0)] [(.int (90 : Int32)), (.int w)])) _
          refine XS.icmpNo X11.here hx rfl (hb hby d4_33) rfl (flt hc12).2.2.1 ?_
          show Steps p.tables e below (T11.setTop (mkF m 36 #[.val (.ref o0)] [])) _
          refine XS.iconst X11.here hx rfl (hb hby d4_36) ?_
          show Steps p.tables e below (T11.setTop (mkF m 37 #[.val (.ref o0)] [(.int (1 : Int32))])) _
          refine XS.goto X11.here hx rfl (pc0 := 37) (pc' := 41) rfl (hb hby d4_37) (by decide) (by decide) ?_
          exact k)
        obtain ⟨fs, hr, hrun, hended, hW, hsame⟩ := X11.leave (v := some (.int (1 : Int32))) (fun h => by rw [Bd.returns] at h; cases h)
        refine ⟨_, _, go15 _ ?_, hrun, hended, _, _, rfl, ?_, ⟨_, rfl⟩, hW, hsame.mono (by decide) (by decide)⟩
        · exact retN X11 hx (t := .boolean) Bd.returns (by simp) (hb hby d4_41) hr
        · show Q_rm4 Z o0 w h0 n0 _ T11.heap _
          rw [e11]
          exact ⟨by unfold own_has; simp only [if_pos hc3, if_neg hc7, if_neg hc12], N0, rfl⟩
  · skip
    have go16 := go4.step (C := T2.setTop (mkF m 10 #[.val (.ref o0)] [(.ref o0)])) (fun t k => by
      show Steps p.tables e below (T2.setTop (mkF m 6 #[.val (.ref o0)] [(.int (48 : Int32)), (.int w)])) _
      refine XS.icmpNo X2.here hx rfl (hb hby d4_6) rfl (flt hc3).1 ?_
      show Steps p.tables e below (T2.setTop (mkF m 9 #[.val (.ref o0)] [])) _
      refine XS.aloadN X2.here hx rfl (hb hby d4_9) rfl rfl ?_
      exact k)
    obtain ⟨T17, X17, e17, st17⟩ := getF X2 hx hZ hown (host := "") (Or.inl (hw _ (List.mem_of_getElem? (i := 16) rfl))) Via.refl e2 F_table_o0 (g := (mkF m 10 #[.val (.ref o0)] [(.ref o0)])) rfl rfl (hb hby d4_10)
    have go17 := go16.step (C := T17.setTop (mkF m 13 #[.val (.ref o0)] [(.int w)])) (fun t k => st17 t k)
    have go19 := go17.step (C := T17.setTop (mkF m 15 #[.val (.ref o0)] [(.int (57 : Int32)), (.int w)])) (fun t k => by
      show Steps p.tables e below (T17.setTop (mkF m 13 #[.val (.ref o0)] [(.int w)])) _
      refine XS.bipush X17.here hx rfl (hb hby d4_13) ?_
      exact k)
    by_cases hc18 : (57 : Int32) < w
    · skip
      have go20 := go19.step (C := T17.setTop (mkF m 19 #[.val (.ref o0)] [(.ref o0)])) (fun t k => by
        show Steps p.tables e below (T17.setTop (mkF m 15 #[.val (.ref o0)] [(.int (57 : Int32)), (.int w)])) _
        refine XS.icmpNo X17.here hx rfl (hb hby d4_15) rfl (tlt hc18).2.2.2 ?_
        show Steps p.tables e below (T17.setTop (mkF m 18 #[.val (.ref o0)] [])) _
        refine XS.aloadN X17.here hx rfl (hb hby d4_18) rfl rfl ?_
        exact k)
      obtain ⟨T21, X21, e21, st21⟩ := getF X17 hx hZ hown (host := "") (Or.inl (hw _ (List.mem_of_getElem? (i := 16) rfl))) Via.refl e17 F_table_o0 (g := (mkF m 19 #[.val (.ref o0)] [(.ref o0)])) rfl rfl (hb hby d4_19)
      have go21 := go20.step (C := T21.setTop (mkF m 22 #[.val (.ref o0)] [(.int w)])) (fun t k => st21 t k)
      have go23 := go21.step (C := T21.setTop (mkF m 24 #[.val (.ref o0)] [(.int (65 : Int32)), (.int w)])) (fun t k => by
        show Steps p.tables e below (T21.setTop (mkF m 22 #[.val (.ref o0)] [(.int w)])) _
        refine XS.bipush X21.here hx rfl (hb hby d4_22) ?_
        exact k)
      by_cases hc22 : w < (65 : Int32)
      · skip
        have go24 := go23.step (C := T21.setTop (mkF m 41 #[.val (.ref o0)] [(.int (0 : Int32))])) (fun t k => by
          show Steps p.tables e below (T21.setTop (mkF m 24 #[.val (.ref o0)] [(.int (65 : Int32)), (.int w)])) _
          refine XS.icmpYes X21.here hx rfl (pc0 := 24) (pc' := 40) rfl (hb hby d4_24) rfl (tlt hc22).1 (by decide) (by decide) ?_
          show Steps p.tables e below (T21.setTop (mkF m 40 #[.val (.ref o0)] [])) _
          refine XS.iconst X21.here hx rfl (hb hby d4_40) ?_
          exact k)
        obtain ⟨fs, hr, hrun, hended, hW, hsame⟩ := X21.leave (v := some (.int (0 : Int32))) (fun h => by rw [Bd.returns] at h; cases h)
        refine ⟨_, _, go24 _ ?_, hrun, hended, _, _, rfl, ?_, ⟨_, rfl⟩, hW, hsame.mono (by decide) (by decide)⟩
        · exact retN X21 hx (t := .boolean) Bd.returns (by simp) (hb hby d4_41) hr
        · show Q_rm4 Z o0 w h0 n0 _ T21.heap _
          rw [e21]
          exact ⟨by unfold own_has; simp only [if_neg hc3, if_pos hc18, if_pos hc22], N0, rfl⟩
      · skip
        have go25 := go23.step (C := T21.setTop (mkF m 28 #[.val (.ref o0)] [(.ref o0)])) (fun t k => by
          show Steps p.tables e below (T21.setTop (mkF m 24 #[.val (.ref o0)] [(.int (65 : Int32)), (.int w)])) _
          refine XS.icmpNo X21.here hx rfl (hb hby d4_24) rfl (flt hc22).1 ?_
          show Steps p.tables e below (T21.setTop (mkF m 27 #[.val (.ref o0)] [])) _
          refine XS.aloadN X21.here hx rfl (hb hby d4_27) rfl rfl ?_
          exact k)
        obtain ⟨T26, X26, e26, st26⟩ := getF X21 hx hZ hown (host := "") (Or.inl (hw _ (List.mem_of_getElem? (i := 16) rfl))) Via.refl e21 F_table_o0 (g := (mkF m 28 #[.val (.ref o0)] [(.ref o0)])) rfl rfl (hb hby d4_28)
        have go26 := go25.step (C := T26.setTop (mkF m 31 #[.val (.ref o0)] [(.int w)])) (fun t k => st26 t k)
        have go28 := go26.step (C := T26.setTop (mkF m 33 #[.val (.ref o0)] [(.int (90 : Int32)), (.int w)])) (fun t k => by
          show Steps p.tables e below (T26.setTop (mkF m 31 #[.val (.ref o0)] [(.int w)])) _
          refine XS.bipush X26.here hx rfl (hb hby d4_31) ?_
          exact k)
        by_cases hc27 : (90 : Int32) < w
        · skip
          have go29 := go28.step (C := T26.setTop (mkF m 41 #[.val (.ref o0)] [(.int (0 : Int32))])) (fun t k => by
            show Steps p.tables e below (T26.setTop (mkF m 33 #[.val (.ref o0)] [(.int (90 : Int32)), (.int w)])) _
            refine XS.icmpYes X26.here hx rfl (pc0 := 33) (pc' := 40) rfl (hb hby d4_33) rfl (tlt hc27).2.2.1 (by decide) (by decide) ?_
            show Steps p.tables e below (T26.setTop (mkF m 40 #[.val (.ref o0)] [])) _
            refine XS.iconst X26.here hx rfl (hb hby d4_40) ?_
            exact k)
          obtain ⟨fs, hr, hrun, hended, hW, hsame⟩ := X26.leave (v := some (.int (0 : Int32))) (fun h => by rw [Bd.returns] at h; cases h)
          refine ⟨_, _, go29 _ ?_, hrun, hended, _, _, rfl, ?_, ⟨_, rfl⟩, hW, hsame.mono (by decide) (by decide)⟩
          · exact retN X26 hx (t := .boolean) Bd.returns (by simp) (hb hby d4_41) hr
          · show Q_rm4 Z o0 w h0 n0 _ T26.heap _
            rw [e26]
            exact ⟨by unfold own_has; simp only [if_neg hc3, if_pos hc18, if_neg hc22, if_pos hc27], N0, rfl⟩
        · skip
          have go30 := go28.step (C := T26.setTop (mkF m 41 #[.val (.ref o0)] [(.int (1 : Int32))])) (fun t k => by
            show Steps p.tables e below (T26.setTop (mkF m 33 #[.val (.ref o0)] [(.int (90 : Int32)), (.int w)])) _
            refine XS.icmpNo X26.here hx rfl (hb hby d4_33) rfl (flt hc27).2.2.1 ?_
            show Steps p.tables e below (T26.setTop (mkF m 36 #[.val (.ref o0)] [])) _
            refine XS.iconst X26.here hx rfl (hb hby d4_36) ?_
            show Steps p.tables e below (T26.setTop (mkF m 37 #[.val (.ref o0)] [(.int (1 : Int32))])) _
            refine XS.goto X26.here hx rfl (pc0 := 37) (pc' := 41) rfl (hb hby d4_37) (by decide) (by decide) ?_
            exact k)
          obtain ⟨fs, hr, hrun, hended, hW, hsame⟩ := X26.leave (v := some (.int (1 : Int32))) (fun h => by rw [Bd.returns] at h; cases h)
          refine ⟨_, _, go30 _ ?_, hrun, hended, _, _, rfl, ?_, ⟨_, rfl⟩, hW, hsame.mono (by decide) (by decide)⟩
          · exact retN X26 hx (t := .boolean) Bd.returns (by simp) (hb hby d4_41) hr
          · show Q_rm4 Z o0 w h0 n0 _ T26.heap _
            rw [e26]
            exact ⟨by unfold own_has; simp only [if_neg hc3, if_pos hc18, if_neg hc22, if_neg hc27], N0, rfl⟩
    · skip
      have go31 := go19.step (C := T17.setTop (mkF m 41 #[.val (.ref o0)] [(.int (1 : Int32))])) (fun t k => by
        show Steps p.tables e below (T17.setTop (mkF m 15 #[.val (.ref o0)] [(.int (57 : Int32)), (.int w)])) _
        refine XS.icmpYes X17.here hx rfl (pc0 := 15) (pc' := 36) rfl (hb hby d4_15) rfl (flt hc18).2.2.2 (by decide) (by decide) ?_
        show Steps p.tables e below (T17.setTop (mkF m 36 #[.val (.ref o0)] [])) _
        refine XS.iconst X17.here hx rfl (hb hby d4_36) ?_
        show Steps p.tables e below (T17.setTop (mkF m 37 #[.val (.ref o0)] [(.int (1 : Int32))])) _
        refine XS.goto X17.here hx rfl (pc0 := 37) (pc' := 41) rfl (hb hby d4_37) (by decide) (by decide) ?_
        exact k)
      obtain ⟨fs, hr, hrun, hended, hW, hsame⟩ := X17.leave (v := some (.int (1 : Int32))) (fun h => by rw [Bd.returns] at h; cases h)
      refine ⟨_, _, go31 _ ?_, hrun, hended, _, _, rfl, ?_, ⟨_, rfl⟩, hW, hsame.mono (by decide) (by decide)⟩
      · exact retN X17 hx (t := .boolean) Bd.returns (by simp) (hb hby d4_41) hr
      · show Q_rm4 Z o0 w h0 n0 _ T17.heap _
        rw [e17]
        exact ⟨by unfold own_has; simp only [if_neg hc3, if_neg hc18], N0, rfl⟩
def own_exp (p0 : Int32) : Int32 := (if (((p0.toInt64) - (48 : Int64)) &&& (4294967295 : Int64)) < (10 : Int64) then (1 : Int32) else (if (((p0.toInt64) - (65 : Int64)) &&& (4294967295 : Int64)) < (26 : Int64) then (1 : Int32) else (0 : Int32)))
theorem d5_0 : decode method_2_code 0 = .ok (.iload_n 0, 1) := by decide +kernel
theorem d5_1 : decode method_2_code 1 = .ok (.i2l, 1) := by decide +kernel
theorem d5_2 : decode method_2_code 2 = .ok (.ldc2_w 7, 3) := by decide +kernel
theorem d5_5 : decode method_2_code 5 = .ok (.lsub, 1) := by decide +kernel
theorem d5_6 : decode method_2_code 6 = .ok (.ldc2_w 9, 3) := by decide +kernel
theorem d5_9 : decode method_2_code 9 = .ok (.land, 1) := by decide +kernel
theorem d5_10 : decode method_2_code 10 = .ok (.lstore_n 1, 1) := by decide +kernel
theorem d5_11 : decode method_2_code 11 = .ok (.iload_n 0, 1) := by decide +kernel
theorem d5_12 : decode method_2_code 12 = .ok (.i2l, 1) := by decide +kernel
theorem d5_13 : decode method_2_code 13 = .ok (.ldc2_w 11, 3) := by decide +kernel
theorem d5_16 : decode method_2_code 16 = .ok (.lsub, 1) := by decide +kernel
theorem d5_17 : decode method_2_code 17 = .ok (.ldc2_w 9, 3) := by decide +kernel
theorem d5_20 : decode method_2_code 20 = .ok (.land, 1) := by decide +kernel
theorem d5_21 : decode method_2_code 21 = .ok (.lstore_n 3, 1) := by decide +kernel
theorem d5_22 : decode method_2_code 22 = .ok (.lload_n 1, 1) := by decide +kernel
theorem d5_23 : decode method_2_code 23 = .ok (.ldc2_w 13, 3) := by decide +kernel
theorem d5_26 : decode method_2_code 26 = .ok (.lcmp, 1) := by decide +kernel
theorem d5_27 : decode method_2_code 27 = .ok (.ifCond .lt 11, 3) := by decide +kernel
theorem d5_30 : decode method_2_code 30 = .ok (.lload_n 3, 1) := by decide +kernel
theorem d5_31 : decode method_2_code 31 = .ok (.ldc2_w 15, 3) := by decide +kernel
theorem d5_34 : decode method_2_code 34 = .ok (.lcmp, 1) := by decide +kernel
theorem d5_35 : decode method_2_code 35 = .ok (.ifCond .ge 7, 3) := by decide +kernel
theorem d5_38 : decode method_2_code 38 = .ok (.iconst 1, 1) := by decide +kernel
theorem d5_39 : decode method_2_code 39 = .ok (.goto 4, 3) := by decide +kernel
theorem d5_42 : decode method_2_code 42 = .ok (.iconst 0, 1) := by decide +kernel
theorem d5_43 : decode method_2_code 43 = .ok (.ireturn, 1) := by decide +kernel
theorem pn_rm5 : plainName "com/example/packetsieve/packetsieve/packet/SymbolHasOverlayPinLaw" = true := by first | (simp [plainName, overriddenIn]; done) | decide +kernel
theorem ef_rm5 (m : MethodId) (p0 : Int32) : entryFrame m #[(.int p0)] 5 = mkF m 0 #[.val (.int p0), .unset, .unset, .unset, .unset] [] := by first | (simp [entryFrame, mkF, argsToLocals, Value.category]; done) | rfl
def Q_rm5 (Z : State) (p0 : Int32) (h0 : Heap) (n0 : Nat) (v : Option Value) (h : Heap) (L : List Loc) : Prop := v = some (.int (own_exp p0)) ∧ Fr n0 L ∧ h = h0
set_option maxRecDepth 65536 in
set_option maxHeartbeats 40000000 in
theorem rm5 (l : Launch) (Z : State) (a0 : Array Value) (hw : ∀ d ∈ tables_1, d.before a0 Z = true) (ws : List Jvm.Cond) (p0 : Int32) (h0 : Heap) (n0 : Nat) (Z0 : n0 ≤ h0.size) :
    MetFree l (⟨"com/example/packetsieve/packetsieve/packet/SymbolHasOverlayPinLaw", "expected", "(C)Z"⟩ : MethodName) (head1 (Jvm.Cond.code (⟨"com/example/packetsieve/packetsieve/packet/SymbolHasOverlayPinLaw", "expected", "(C)Z"⟩ : MethodName) method_2_code 5 (some .boolean) :: ws) ({ frames := 0, cells := 0, slots := 0, locals := 0 } : Room)) (fun a U => a = #[(.int p0)] ∧ Z.Warmed39 U.vm ∧ U.heap = h0) (fun _ _ _ _ _ => True) (fun _ U o U' => ∃ v L, o = .returned v ∧ Q_rm5 Z p0 h0 n0 v U'.heap L ∧ FrameEnd U o U' L ({ frames := 0, cells := 0, slots := 0, locals := 0 } : Room).cells ({ frames := 0, cells := 0, slots := 0, locals := 0 } : Room).slots) := by
  refine MetFree.of_bodySF (plainFor_of_name pn_rm5) hisR ?_
  intro p e s m args below meth c s₁ Bd hml0 hP hK
  obtain ⟨rfl, hZ, hh⟩ := hP
  have hx := Bd.exec
  have hby := Bd.bytes
  have hml : c.maxLocals = 5 := hml0
  have hown : s.vm.findClass "com/example/packetsieve/packetsieve/packet/SymbolHasOverlayPinLaw" = some m.cls := findClass_of_methodNamed Bd.named
  have hnm := (name_of_methodNamed Bd.named Bd.method).1
  have X0 : Stand p l e ({ frames := 0, cells := 0, slots := 0, locals := 0 } : Room) s m #[(.int p0)] below meth c s₁ [] 0 0 := Stand.of_body Bd
  have e0 : s₁.heap = h0 := by rw [← hh, Bd.state]; rfl
  have N0 := Fr.nil n0
  have K0 := Keep.refl h0 []
  have go0 : Go p e below (s₁.setTop (entryFrame m #[(.int p0)] 5)) (s₁.setTop (mkF m 0 #[.val (.int p0), .unset, .unset, .unset, .unset] [])) := fun t k => castTop (ef_rm5 m p0) k
  have go2 := go0.step (C := s₁.setTop (mkF m 27 #[.val (.int p0), .val (.long (((p0.toInt64) - (48 : Int64)) &&& (4294967295 : Int64))), .second, .val (.long (((p0.toInt64) - (65 : Int64)) &&& (4294967295 : Int64))), .second] [(.int (lcmpW (((p0.toInt64) - (48 : Int64)) &&& (4294967295 : Int64)) (10 : Int64)))])) (fun t k => by
    show Steps p.tables e below (s₁.setTop (mkF m 0 #[.val (.int p0), .unset, .unset, .unset, .unset] [])) _
    refine XS.iloadN X0.here hx rfl (hb hby d5_0) rfl ?_
    show Steps p.tables e below (s₁.setTop (mkF m 1 #[.val (.int p0), .unset, .unset, .unset, .unset] [(.int p0)])) _
    refine XS.i2l X0.here hx rfl (hb hby d5_1) rfl ?_
    show Steps p.tables e below (s₁.setTop (mkF m 2 #[.val (.int p0), .unset, .unset, .unset, .unset] [(.long (p0.toInt64))])) _
    refine X0.ldc2Long hx hown (mvT hZ (hw _ (List.mem_of_getElem? (i := 29) rfl))) (g := (mkF m 2 #[.val (.int p0), .unset, .unset, .unset, .unset] [(.long (p0.toInt64))])) rfl (hb hby d5_2) _ ?_
    show Steps p.tables e below (s₁.setTop (mkF m 5 #[.val (.int p0), .unset, .unset, .unset, .unset] [(.long (48 : Int64)), (.long (p0.toInt64))])) _
    refine XS.lsub X0.here hx rfl (hb hby d5_5) rfl ?_
    show Steps p.tables e below (s₁.setTop (mkF m 6 #[.val (.int p0), .unset, .unset, .unset, .unset] [(.long ((p0.toInt64) - (48 : Int64)))])) _
    refine X0.ldc2Long hx hown (mvT hZ (hw _ (List.mem_of_getElem? (i := 30) rfl))) (g := (mkF m 6 #[.val (.int p0), .unset, .unset, .unset, .unset] [(.long ((p0.toInt64) - (48 : Int64)))])) rfl (hb hby d5_6) _ ?_
    show Steps p.tables e below (s₁.setTop (mkF m 9 #[.val (.int p0), .unset, .unset, .unset, .unset] [(.long (4294967295 : Int64)), (.long ((p0.toInt64) - (48 : Int64)))])) _
    refine XS.land X0.here hx rfl (hb hby d5_9) rfl ?_
    show Steps p.tables e below (s₁.setTop (mkF m 10 #[.val (.int p0), .unset, .unset, .unset, .unset] [(.long (((p0.toInt64) - (48 : Int64)) &&& (4294967295 : Int64)))])) _
    refine XS.lstoreN X0.here hx rfl (hb hby d5_10) rfl (l' := #[.val (.int p0), .val (.long (((p0.toInt64) - (48 : Int64)) &&& (4294967295 : Int64))), .second, .unset, .unset]) rfl ?_
    show Steps p.tables e below (s₁.setTop (mkF m 11 #[.val (.int p0), .val (.long (((p0.toInt64) - (48 : Int64)) &&& (4294967295 : Int64))), .second, .unset, .unset] [])) _
    refine XS.iloadN X0.here hx rfl (hb hby d5_11) rfl ?_
    show Steps p.tables e below (s₁.setTop (mkF m 12 #[.val (.int p0), .val (.long (((p0.toInt64) - (48 : Int64)) &&& (4294967295 : Int64))), .second, .unset, .unset] [(.int p0)])) _
    refine XS.i2l X0.here hx rfl (hb hby d5_12) rfl ?_
    show Steps p.tables e below (s₁.setTop (mkF m 13 #[.val (.int p0), .val (.long (((p0.toInt64) - (48 : Int64)) &&& (4294967295 : Int64))), .second, .unset, .unset] [(.long (p0.toInt64))])) _
    refine X0.ldc2Long hx hown (mvT hZ (hw _ (List.mem_of_getElem? (i := 31) rfl))) (g := (mkF m 13 #[.val (.int p0), .val (.long (((p0.toInt64) - (48 : Int64)) &&& (4294967295 : Int64))), .second, .unset, .unset] [(.long (p0.toInt64))])) rfl (hb hby d5_13) _ ?_
    show Steps p.tables e below (s₁.setTop (mkF m 16 #[.val (.int p0), .val (.long (((p0.toInt64) - (48 : Int64)) &&& (4294967295 : Int64))), .second, .unset, .unset] [(.long (65 : Int64)), (.long (p0.toInt64))])) _
    refine XS.lsub X0.here hx rfl (hb hby d5_16) rfl ?_
    show Steps p.tables e below (s₁.setTop (mkF m 17 #[.val (.int p0), .val (.long (((p0.toInt64) - (48 : Int64)) &&& (4294967295 : Int64))), .second, .unset, .unset] [(.long ((p0.toInt64) - (65 : Int64)))])) _
    refine X0.ldc2Long hx hown (mvT hZ (hw _ (List.mem_of_getElem? (i := 30) rfl))) (g := (mkF m 17 #[.val (.int p0), .val (.long (((p0.toInt64) - (48 : Int64)) &&& (4294967295 : Int64))), .second, .unset, .unset] [(.long ((p0.toInt64) - (65 : Int64)))])) rfl (hb hby d5_17) _ ?_
    show Steps p.tables e below (s₁.setTop (mkF m 20 #[.val (.int p0), .val (.long (((p0.toInt64) - (48 : Int64)) &&& (4294967295 : Int64))), .second, .unset, .unset] [(.long (4294967295 : Int64)), (.long ((p0.toInt64) - (65 : Int64)))])) _
    refine XS.land X0.here hx rfl (hb hby d5_20) rfl ?_
    show Steps p.tables e below (s₁.setTop (mkF m 21 #[.val (.int p0), .val (.long (((p0.toInt64) - (48 : Int64)) &&& (4294967295 : Int64))), .second, .unset, .unset] [(.long (((p0.toInt64) - (65 : Int64)) &&& (4294967295 : Int64)))])) _
    refine XS.lstoreN X0.here hx rfl (hb hby d5_21) rfl (l' := #[.val (.int p0), .val (.long (((p0.toInt64) - (48 : Int64)) &&& (4294967295 : Int64))), .second, .val (.long (((p0.toInt64) - (65 : Int64)) &&& (4294967295 : Int64))), .second]) rfl ?_
    show Steps p.tables e below (s₁.setTop (mkF m 22 #[.val (.int p0), .val (.long (((p0.toInt64) - (48 : Int64)) &&& (4294967295 : Int64))), .second, .val (.long (((p0.toInt64) - (65 : Int64)) &&& (4294967295 : Int64))), .second] [])) _
    refine XS.lloadN X0.here hx rfl (hb hby d5_22) rfl ?_
    show Steps p.tables e below (s₁.setTop (mkF m 23 #[.val (.int p0), .val (.long (((p0.toInt64) - (48 : Int64)) &&& (4294967295 : Int64))), .second, .val (.long (((p0.toInt64) - (65 : Int64)) &&& (4294967295 : Int64))), .second] [(.long (((p0.toInt64) - (48 : Int64)) &&& (4294967295 : Int64)))])) _
    refine X0.ldc2Long hx hown (mvT hZ (hw _ (List.mem_of_getElem? (i := 32) rfl))) (g := (mkF m 23 #[.val (.int p0), .val (.long (((p0.toInt64) - (48 : Int64)) &&& (4294967295 : Int64))), .second, .val (.long (((p0.toInt64) - (65 : Int64)) &&& (4294967295 : Int64))), .second] [(.long (((p0.toInt64) - (48 : Int64)) &&& (4294967295 : Int64)))])) rfl (hb hby d5_23) _ ?_
    show Steps p.tables e below (s₁.setTop (mkF m 26 #[.val (.int p0), .val (.long (((p0.toInt64) - (48 : Int64)) &&& (4294967295 : Int64))), .second, .val (.long (((p0.toInt64) - (65 : Int64)) &&& (4294967295 : Int64))), .second] [(.long (10 : Int64)), (.long (((p0.toInt64) - (48 : Int64)) &&& (4294967295 : Int64)))])) _
    refine XS.lcmp X0.here hx rfl (hb hby d5_26) rfl ?_
    exact k)
  by_cases hc1 : (((p0.toInt64) - (48 : Int64)) &&& (4294967295 : Int64)) < (10 : Int64)
  · skip
    have go3 := go2.step (C := s₁.setTop (mkF m 43 #[.val (.int p0), .val (.long (((p0.toInt64) - (48 : Int64)) &&& (4294967295 : Int64))), .second, .val (.long (((p0.toInt64) - (65 : Int64)) &&& (4294967295 : Int64))), .second] [(.int (1 : Int32))])) (fun t k => by
      show Steps p.tables e below (s₁.setTop (mkF m 27 #[.val (.int p0), .val (.long (((p0.toInt64) - (48 : Int64)) &&& (4294967295 : Int64))), .second, .val (.long (((p0.toInt64) - (65 : Int64)) &&& (4294967295 : Int64))), .second] [(.int (lcmpW (((p0.toInt64) - (48 : Int64)) &&& (4294967295 : Int64)) (10 : Int64)))])) _
      refine XS.ifYes X0.here hx rfl (pc0 := 27) (pc' := 38) rfl (hb hby d5_27) rfl ((if0 _ _).trans (tlt ((lw_lt _ _).mpr hc1)).1) (by decide) (by decide) ?_
      show Steps p.tables e below (s₁.setTop (mkF m 38 #[.val (.int p0), .val (.long (((p0.toInt64) - (48 : Int64)) &&& (4294967295 : Int64))), .second, .val (.long (((p0.toInt64) - (65 : Int64)) &&& (4294967295 : Int64))), .second] [])) _
      refine XS.iconst X0.here hx rfl (hb hby d5_38) ?_
      show Steps p.tables e below (s₁.setTop (mkF m 39 #[.val (.int p0), .val (.long (((p0.toInt64) - (48 : Int64)) &&& (4294967295 : Int64))), .second, .val (.long (((p0.toInt64) - (65 : Int64)) &&& (4294967295 : Int64))), .second] [(.int (1 : Int32))])) _
      refine XS.goto X0.here hx rfl (pc0 := 39) (pc' := 43) rfl (hb hby d5_39) (by decide) (by decide) ?_
      exact k)
    obtain ⟨fs, hr, hrun, hended, hW, hsame⟩ := X0.leave (v := some (.int (1 : Int32))) (fun h => by rw [Bd.returns] at h; cases h)
    refine ⟨_, _, go3 _ ?_, hrun, hended, _, _, rfl, ?_, ⟨_, rfl⟩, hW, hsame.mono (by decide) (by decide)⟩
    · exact retN X0 hx (t := .boolean) Bd.returns (by simp) (hb hby d5_43) hr
    · show Q_rm5 Z p0 h0 n0 _ s₁.heap _
      rw [e0]
      exact ⟨by unfold own_exp; simp only [if_pos hc1], N0, rfl⟩
  · skip
    have go5 := go2.step (C := s₁.setTop (mkF m 35 #[.val (.int p0), .val (.long (((p0.toInt64) - (48 : Int64)) &&& (4294967295 : Int64))), .second, .val (.long (((p0.toInt64) - (65 : Int64)) &&& (4294967295 : Int64))), .second] [(.int (lcmpW (((p0.toInt64) - (65 : Int64)) &&& (4294967295 : Int64)) (26 : Int64)))])) (fun t k => by
      show Steps p.tables e below (s₁.setTop (mkF m 27 #[.val (.int p0), .val (.long (((p0.toInt64) - (48 : Int64)) &&& (4294967295 : Int64))), .second, .val (.long (((p0.toInt64) - (65 : Int64)) &&& (4294967295 : Int64))), .second] [(.int (lcmpW (((p0.toInt64) - (48 : Int64)) &&& (4294967295 : Int64)) (10 : Int64)))])) _
      refine XS.ifNo X0.here hx rfl (hb hby d5_27) rfl ((if0 _ _).trans (flt (fun q => hc1 ((lw_lt _ _).mp q))).1) ?_
      show Steps p.tables e below (s₁.setTop (mkF m 30 #[.val (.int p0), .val (.long (((p0.toInt64) - (48 : Int64)) &&& (4294967295 : Int64))), .second, .val (.long (((p0.toInt64) - (65 : Int64)) &&& (4294967295 : Int64))), .second] [])) _
      refine XS.lloadN X0.here hx rfl (hb hby d5_30) rfl ?_
      show Steps p.tables e below (s₁.setTop (mkF m 31 #[.val (.int p0), .val (.long (((p0.toInt64) - (48 : Int64)) &&& (4294967295 : Int64))), .second, .val (.long (((p0.toInt64) - (65 : Int64)) &&& (4294967295 : Int64))), .second] [(.long (((p0.toInt64) - (65 : Int64)) &&& (4294967295 : Int64)))])) _
      refine X0.ldc2Long hx hown (mvT hZ (hw _ (List.mem_of_getElem? (i := 33) rfl))) (g := (mkF m 31 #[.val (.int p0), .val (.long (((p0.toInt64) - (48 : Int64)) &&& (4294967295 : Int64))), .second, .val (.long (((p0.toInt64) - (65 : Int64)) &&& (4294967295 : Int64))), .second] [(.long (((p0.toInt64) - (65 : Int64)) &&& (4294967295 : Int64)))])) rfl (hb hby d5_31) _ ?_
      show Steps p.tables e below (s₁.setTop (mkF m 34 #[.val (.int p0), .val (.long (((p0.toInt64) - (48 : Int64)) &&& (4294967295 : Int64))), .second, .val (.long (((p0.toInt64) - (65 : Int64)) &&& (4294967295 : Int64))), .second] [(.long (26 : Int64)), (.long (((p0.toInt64) - (65 : Int64)) &&& (4294967295 : Int64)))])) _
      refine XS.lcmp X0.here hx rfl (hb hby d5_34) rfl ?_
      exact k)
    by_cases hc4 : (((p0.toInt64) - (65 : Int64)) &&& (4294967295 : Int64)) < (26 : Int64)
    · skip
      have go6 := go5.step (C := s₁.setTop (mkF m 43 #[.val (.int p0), .val (.long (((p0.toInt64) - (48 : Int64)) &&& (4294967295 : Int64))), .second, .val (.long (((p0.toInt64) - (65 : Int64)) &&& (4294967295 : Int64))), .second] [(.int (1 : Int32))])) (fun t k => by
        show Steps p.tables e below (s₁.setTop (mkF m 35 #[.val (.int p0), .val (.long (((p0.toInt64) - (48 : Int64)) &&& (4294967295 : Int64))), .second, .val (.long (((p0.toInt64) - (65 : Int64)) &&& (4294967295 : Int64))), .second] [(.int (lcmpW (((p0.toInt64) - (65 : Int64)) &&& (4294967295 : Int64)) (26 : Int64)))])) _
        refine XS.ifNo X0.here hx rfl (hb hby d5_35) rfl ((if0 _ _).trans (tlt ((lw_lt _ _).mpr hc4)).2.1) ?_
        show Steps p.tables e below (s₁.setTop (mkF m 38 #[.val (.int p0), .val (.long (((p0.toInt64) - (48 : Int64)) &&& (4294967295 : Int64))), .second, .val (.long (((p0.toInt64) - (65 : Int64)) &&& (4294967295 : Int64))), .second] [])) _
        refine XS.iconst X0.here hx rfl (hb hby d5_38) ?_
        show Steps p.tables e below (s₁.setTop (mkF m 39 #[.val (.int p0), .val (.long (((p0.toInt64) - (48 : Int64)) &&& (4294967295 : Int64))), .second, .val (.long (((p0.toInt64) - (65 : Int64)) &&& (4294967295 : Int64))), .second] [(.int (1 : Int32))])) _
        refine XS.goto X0.here hx rfl (pc0 := 39) (pc' := 43) rfl (hb hby d5_39) (by decide) (by decide) ?_
        exact k)
      obtain ⟨fs, hr, hrun, hended, hW, hsame⟩ := X0.leave (v := some (.int (1 : Int32))) (fun h => by rw [Bd.returns] at h; cases h)
      refine ⟨_, _, go6 _ ?_, hrun, hended, _, _, rfl, ?_, ⟨_, rfl⟩, hW, hsame.mono (by decide) (by decide)⟩
      · exact retN X0 hx (t := .boolean) Bd.returns (by simp) (hb hby d5_43) hr
      · show Q_rm5 Z p0 h0 n0 _ s₁.heap _
        rw [e0]
        exact ⟨by unfold own_exp; simp only [if_neg hc1, if_pos hc4], N0, rfl⟩
    · skip
      have go7 := go5.step (C := s₁.setTop (mkF m 43 #[.val (.int p0), .val (.long (((p0.toInt64) - (48 : Int64)) &&& (4294967295 : Int64))), .second, .val (.long (((p0.toInt64) - (65 : Int64)) &&& (4294967295 : Int64))), .second] [(.int (0 : Int32))])) (fun t k => by
        show Steps p.tables e below (s₁.setTop (mkF m 35 #[.val (.int p0), .val (.long (((p0.toInt64) - (48 : Int64)) &&& (4294967295 : Int64))), .second, .val (.long (((p0.toInt64) - (65 : Int64)) &&& (4294967295 : Int64))), .second] [(.int (lcmpW (((p0.toInt64) - (65 : Int64)) &&& (4294967295 : Int64)) (26 : Int64)))])) _
        refine XS.ifYes X0.here hx rfl (pc0 := 35) (pc' := 42) rfl (hb hby d5_35) rfl ((if0 _ _).trans (flt (fun q => hc4 ((lw_lt _ _).mp q))).2.1) (by decide) (by decide) ?_
        show Steps p.tables e below (s₁.setTop (mkF m 42 #[.val (.int p0), .val (.long (((p0.toInt64) - (48 : Int64)) &&& (4294967295 : Int64))), .second, .val (.long (((p0.toInt64) - (65 : Int64)) &&& (4294967295 : Int64))), .second] [])) _
        refine XS.iconst X0.here hx rfl (hb hby d5_42) ?_
        exact k)
      obtain ⟨fs, hr, hrun, hended, hW, hsame⟩ := X0.leave (v := some (.int (0 : Int32))) (fun h => by rw [Bd.returns] at h; cases h)
      refine ⟨_, _, go7 _ ?_, hrun, hended, _, _, rfl, ?_, ⟨_, rfl⟩, hW, hsame.mono (by decide) (by decide)⟩
      · exact retN X0 hx (t := .boolean) Bd.returns (by simp) (hb hby d5_43) hr
      · show Q_rm5 Z p0 h0 n0 _ s₁.heap _
        rw [e0]
        exact ⟨by unfold own_exp; simp only [if_neg hc1, if_neg hc4], N0, rfl⟩
theorem own_chr (x : Int32) : (nar .char (x.toUInt32.toUInt16.toUInt32.toInt32)) = x.toUInt32.toUInt16.toUInt32.toInt32 := by
  show (x.toUInt32.toUInt16.toUInt32.toInt32).toUInt32.toUInt16.toUInt32.toInt32 = _
  have h : ∀ u : UInt16, u.toUInt32.toInt32.toUInt32.toUInt16 = u := fun u => by simp
  exact congrArg (fun u : UInt16 => u.toUInt32.toInt32) (h _)
theorem own_rng (x : Int32) : 0 ≤ (x.toUInt32.toUInt16.toUInt32.toInt32).toInt ∧ (x.toUInt32.toUInt16.toUInt32.toInt32).toInt < 65536 := by
  have h := (c_i2c x); exact ⟨h.2.1, h.2.2⟩
theorem own_l64 (y : Int64) (h : -65536 ≤ y.toInt ∧ y.toInt < 65536) : (y &&& (4294967295 : Int64)).toInt = if y.toInt < 0 then y.toInt + 4294967296 else y.toInt := by
  have h2 : (y &&& (4294967295 : Int64)).toBitVec.toNat = y.toBitVec.toNat % 2 ^ 32 := by
    show (y.toBitVec &&& (4294967295 : Int64).toBitVec).toNat = _
    rw [BitVec.toNat_and]
    exact Nat.and_two_pow_sub_one_eq_mod _ 32
  have e1 : (y &&& (4294967295 : Int64)).toInt = (y &&& (4294967295 : Int64)).toBitVec.toInt := rfl
  have e2 : y.toInt = y.toBitVec.toInt := rfl
  rw [BitVec.toInt_eq_toNat_cond] at e1 e2
  have hl := y.toBitVec.isLt
  rw [e1, h2]
  rw [e2] at h ⊢
  split at h <;> split <;> omega
theorem own_eq {t : Int32} (h : 0 ≤ t.toInt ∧ t.toInt < 65536) : own_has t = own_exp t := by
  unfold own_has own_exp
  have k0 : t.toInt64.toInt = t.toInt := Int32.toInt_toInt64 _
  have k1 := c_lsub t.toInt64 (48 : Int64)
  have k2 := c_lsub t.toInt64 (65 : Int64)
  have r1 := rng64 (t.toInt64 - (48 : Int64))
  have r2 := rng64 (t.toInt64 - (65 : Int64))
  have e1 : (48 : Int64).toInt = 48 := rfl
  have e2 : (65 : Int64).toInt = 65 := rfl
  have e3 : (10 : Int64).toInt = 10 := rfl
  have e4 : (26 : Int64).toInt = 26 := rfl
  have e5 : (48 : Int32).toInt = 48 := rfl
  have e6 : (57 : Int32).toInt = 57 := rfl
  have e7 : (65 : Int32).toInt = 65 := rfl
  have e8 : (90 : Int32).toInt = 90 := rfl
  rw [e1] at k1; rw [e2] at k2
  have m1 := own_l64 (t.toInt64 - (48 : Int64)) (by omega)
  have m2 := own_l64 (t.toInt64 - (65 : Int64)) (by omega)
  simp only [Int32.lt_iff_toInt_lt, Int64.lt_iff_toInt_lt, e3, e4, e5, e6, e7, e8]
  generalize (t.toInt64 - (48 : Int64)) &&& (4294967295 : Int64) = u at *
  generalize (t.toInt64 - (65 : Int64)) &&& (4294967295 : Int64) = v at *
  split at m1 <;> split at m2 <;> (repeat' split) <;> first | rfl | (exfalso; omega)
theorem pn_rm0 : plainName "com/example/packetsieve/packetsieve/packet/SymbolHasOverlayPinLaw" = true := by first | (simp [plainName, overriddenIn]; done) | decide +kernel
theorem pd0_0 : parseMethodDescriptor "(CC)V" = some ⟨[.char, .char], none⟩ := by decide +kernel
theorem pd0_1 : parseMethodDescriptor "()Z" = some ⟨[], some .boolean⟩ := by decide +kernel
theorem pd0_2 : parseMethodDescriptor "(C)Z" = some ⟨[.char], some .boolean⟩ := by decide +kernel
theorem ef_rm0 (m : MethodId) (p0 : Int32) (p1 : Int32) (p2 : Int32) : entryFrame m #[(.int p0), (.int p1), (.int p2)] maxLocals = mkF m 0 #[.val (.int p0), .val (.int p1), .val (.int p2), .unset, .unset, .unset, .unset, .unset, .unset, .unset, .unset] [] := by first | (simp [entryFrame, mkF, argsToLocals, Value.category, maxLocals]; done) | rfl
def Q_rm0 (Z : State) (p0 : Int32) (p1 : Int32) (p2 : Int32) (h0 : Heap) (n0 : Nat) (v : Option Value) (h : Heap) (L : List Loc) : Prop := v = some (.int (1 : Int32)) ∧ Fr n0 L
set_option maxRecDepth 65536 in
set_option maxHeartbeats 40000000 in
theorem rm0 (l : Launch) (Z : State) (a0 : Array Value) (hw : ∀ d ∈ tables_1, d.before a0 Z = true) (ws : List Jvm.Cond) (p0 : Int32) (p1 : Int32) (p2 : Int32) (h0 : Heap) (n0 : Nat) (Z0 : n0 ≤ h0.size) :
    MetFree l x (head1 (Jvm.Cond.code x code maxLocals ret :: ws) room_1) (fun a U => a = #[(.int p0), (.int p1), (.int p2)] ∧ Z.Warmed39 U.vm ∧ U.heap = h0) (fun _ _ _ _ _ => True) (fun _ U o U' => ∃ v L, o = .returned v ∧ Q_rm0 Z p0 p1 p2 h0 n0 v U'.heap L ∧ FrameEnd U o U' L room_1.cells room_1.slots) := by
  refine MetFree.of_bodySF (plainFor_of_name pn_rm0) hisR ?_
  intro p e s m args below meth c s₁ Bd hml0 hP hK
  obtain ⟨rfl, hZ, hh⟩ := hP
  have hx := Bd.exec
  have hby := Bd.bytes
  have hml : c.maxLocals = 11 := hml0
  have hown : s.vm.findClass "com/example/packetsieve/packetsieve/packet/SymbolHasOverlayPinLaw" = some m.cls := findClass_of_methodNamed Bd.named
  have hnm := (name_of_methodNamed Bd.named Bd.method).1
  have X0 : Stand p l e room_1 s m #[(.int p0), (.int p1), (.int p2)] below meth c s₁ [] 0 0 := Stand.of_body Bd
  have e0 : s₁.heap = h0 := by rw [← hh, Bd.state]; rfl
  have N0 := Fr.nil n0
  have K0 := Keep.refl h0 []
  have go0 : Go p e below (s₁.setTop (entryFrame m #[(.int p0), (.int p1), (.int p2)] maxLocals)) (s₁.setTop (mkF m 0 #[.val (.int p0), .val (.int p1), .val (.int p2), .unset, .unset, .unset, .unset, .unset, .unset, .unset, .unset] [])) := fun t k => castTop (ef_rm0 m p0 p1 p2) k
  have go2 := go0.step (C := s₁.setTop (mkF m 4 #[.val (.int p0), .val (.int p1), .val (.int p2), .unset, .unset, .unset, .unset, .unset, .unset, .unset, .unset] [(.int (p0 &&& (65536 : Int32)))])) (fun t k => by
    show Steps p.tables e below (s₁.setTop (mkF m 0 #[.val (.int p0), .val (.int p1), .val (.int p2), .unset, .unset, .unset, .unset, .unset, .unset, .unset, .unset] [])) _
    refine XS.iloadN X0.here hx rfl (hb hby at_0) rfl ?_
    show Steps p.tables e below (s₁.setTop (mkF m 1 #[.val (.int p0), .val (.int p1), .val (.int p2), .unset, .unset, .unset, .unset, .unset, .unset, .unset, .unset] [(.int p0)])) _
    refine X0.ldcInt hx hown (mvT hZ (hw _ (List.mem_of_getElem? (i := 0) rfl))) (g := (mkF m 1 #[.val (.int p0), .val (.int p1), .val (.int p2), .unset, .unset, .unset, .unset, .unset, .unset, .unset, .unset] [(.int p0)])) rfl (hb hby at_1) _ ?_
    show Steps p.tables e below (s₁.setTop (mkF m 3 #[.val (.int p0), .val (.int p1), .val (.int p2), .unset, .unset, .unset, .unset, .unset, .unset, .unset, .unset] [(.int (65536 : Int32)), (.int p0)])) _
    refine XS.iand X0.here hx rfl (hb hby at_3) rfl ?_
    exact k)
  by_cases hc1 : (p0 &&& (65536 : Int32)) = (0 : Int32)
  · skip
    have go3 := go2.step (C := s₁.setTop (mkF m 28 #[.val (.int p0), .val (.int p1), .val (.int p2), .val (.int ((p0 &&& (65535 : Int32)).toUInt32.toUInt16.toUInt32.toInt32)), .unset, .unset, .unset, .unset, .unset, .unset, .unset] [])) (fun t k => by
      show Steps p.tables e below (s₁.setTop (mkF m 4 #[.val (.int p0), .val (.int p1), .val (.int p2), .unset, .unset, .unset, .unset, .unset, .unset, .unset, .unset] [(.int (p0 &&& (65536 : Int32)))])) _
      refine XS.ifYes X0.here hx rfl (pc0 := 4) (pc' := 22) rfl (hb hby at_4) rfl ((if0 _ _).trans (teq hc1).1) (by decide) (by decide) ?_
      show Steps p.tables e below (s₁.setTop (mkF m 22 #[.val (.int p0), .val (.int p1), .val (.int p2), .unset, .unset, .unset, .unset, .unset, .unset, .unset, .unset] [])) _
      refine XS.iloadN X0.here hx rfl (hb hby at_22) rfl ?_
      show Steps p.tables e below (s₁.setTop (mkF m 23 #[.val (.int p0), .val (.int p1), .val (.int p2), .unset, .unset, .unset, .unset, .unset, .unset, .unset, .unset] [(.int p0)])) _
      refine X0.ldcInt hx hown (mvT hZ (hw _ (List.mem_of_getElem? (i := 1) rfl))) (g := (mkF m 23 #[.val (.int p0), .val (.int p1), .val (.int p2), .unset, .unset, .unset, .unset, .unset, .unset, .unset, .unset] [(.int p0)])) rfl (hb hby at_23) _ ?_
      show Steps p.tables e below (s₁.setTop (mkF m 25 #[.val (.int p0), .val (.int p1), .val (.int p2), .unset, .unset, .unset, .unset, .unset, .unset, .unset, .unset] [(.int (65535 : Int32)), (.int p0)])) _
      refine XS.iand X0.here hx rfl (hb hby at_25) rfl ?_
      show Steps p.tables e below (s₁.setTop (mkF m 26 #[.val (.int p0), .val (.int p1), .val (.int p2), .unset, .unset, .unset, .unset, .unset, .unset, .unset, .unset] [(.int (p0 &&& (65535 : Int32)))])) _
      refine XS.i2c X0.here hx rfl (hb hby at_26) rfl ?_
      show Steps p.tables e below (s₁.setTop (mkF m 27 #[.val (.int p0), .val (.int p1), .val (.int p2), .unset, .unset, .unset, .unset, .unset, .unset, .unset, .unset] [(.int ((p0 &&& (65535 : Int32)).toUInt32.toUInt16.toUInt32.toInt32))])) _
      refine XS.istoreN X0.here hx rfl (hb hby at_27) rfl (l' := #[.val (.int p0), .val (.int p1), .val (.int p2), .val (.int ((p0 &&& (65535 : Int32)).toUInt32.toUInt16.toUInt32.toInt32)), .unset, .unset, .unset, .unset, .unset, .unset, .unset]) rfl ?_
      exact k)
    have hrt : (nar .char ((p0 &&& (65535 : Int32)).toUInt32.toUInt16.toUInt32.toInt32)) = ((p0 &&& (65535 : Int32)).toUInt32.toUInt16.toUInt32.toInt32) := own_chr _
    have hrg := own_rng ((p0 &&& (65535 : Int32)))
    obtain ⟨tt, htt⟩ : ∃ z : Int32, z = ((p0 &&& (65535 : Int32)).toUInt32.toUInt16.toUInt32.toInt32) := ⟨_, rfl⟩
    rw [← htt] at go3
    rw [← htt] at hrt hrg
    have go4 := go3.step (C := s₁.setTop (mkF m 42 #[.val (.int p0), .val (.int p1), .val (.int p2), .val (.int tt), .val (.int ((p1 &&& (65535 : Int32)).toUInt32.toUInt16.toUInt32.toInt32)), .val (.int ((p2 &&& (65535 : Int32)).toUInt32.toUInt16.toUInt32.toInt32)), .unset, .unset, .unset, .unset, .unset] [])) (fun t k => by
      show Steps p.tables e below (s₁.setTop (mkF m 28 #[.val (.int p0), .val (.int p1), .val (.int p2), .val (.int tt), .unset, .unset, .unset, .unset, .unset, .unset, .unset] [])) _
      refine XS.iloadN X0.here hx rfl (hb hby at_28) rfl ?_
      show Steps p.tables e below (s₁.setTop (mkF m 29 #[.val (.int p0), .val (.int p1), .val (.int p2), .val (.int tt), .unset, .unset, .unset, .unset, .unset, .unset, .unset] [(.int p1)])) _
      refine X0.ldcInt hx hown (mvT hZ (hw _ (List.mem_of_getElem? (i := 1) rfl))) (g := (mkF m 29 #[.val (.int p0), .val (.int p1), .val (.int p2), .val (.int tt), .unset, .unset, .unset, .unset, .unset, .unset, .unset] [(.int p1)])) rfl (hb hby at_29) _ ?_
      show Steps p.tables e below (s₁.setTop (mkF m 31 #[.val (.int p0), .val (.int p1), .val (.int p2), .val (.int tt), .unset, .unset, .unset, .unset, .unset, .unset, .unset] [(.int (65535 : Int32)), (.int p1)])) _
      refine XS.iand X0.here hx rfl (hb hby at_31) rfl ?_
      show Steps p.tables e below (s₁.setTop (mkF m 32 #[.val (.int p0), .val (.int p1), .val (.int p2), .val (.int tt), .unset, .unset, .unset, .unset, .unset, .unset, .unset] [(.int (p1 &&& (65535 : Int32)))])) _
      refine XS.i2c X0.here hx rfl (hb hby at_32) rfl ?_
      show Steps p.tables e below (s₁.setTop (mkF m 33 #[.val (.int p0), .val (.int p1), .val (.int p2), .val (.int tt), .unset, .unset, .unset, .unset, .unset, .unset, .unset] [(.int ((p1 &&& (65535 : Int32)).toUInt32.toUInt16.toUInt32.toInt32))])) _
      refine XS.istore X0.here hx rfl (hb hby at_33) rfl (l' := #[.val (.int p0), .val (.int p1), .val (.int p2), .val (.int tt), .val (.int ((p1 &&& (65535 : Int32)).toUInt32.toUInt16.toUInt32.toInt32)), .unset, .unset, .unset, .unset, .unset, .unset]) rfl ?_
      show Steps p.tables e below (s₁.setTop (mkF m 35 #[.val (.int p0), .val (.int p1), .val (.int p2), .val (.int tt), .val (.int ((p1 &&& (65535 : Int32)).toUInt32.toUInt16.toUInt32.toInt32)), .unset, .unset, .unset, .unset, .unset, .unset] [])) _
      refine XS.iloadN X0.here hx rfl (hb hby at_35) rfl ?_
      show Steps p.tables e below (s₁.setTop (mkF m 36 #[.val (.int p0), .val (.int p1), .val (.int p2), .val (.int tt), .val (.int ((p1 &&& (65535 : Int32)).toUInt32.toUInt16.toUInt32.toInt32)), .unset, .unset, .unset, .unset, .unset, .unset] [(.int p2)])) _
      refine X0.ldcInt hx hown (mvT hZ (hw _ (List.mem_of_getElem? (i := 1) rfl))) (g := (mkF m 36 #[.val (.int p0), .val (.int p1), .val (.int p2), .val (.int tt), .val (.int ((p1 &&& (65535 : Int32)).toUInt32.toUInt16.toUInt32.toInt32)), .unset, .unset, .unset, .unset, .unset, .unset] [(.int p2)])) rfl (hb hby at_36) _ ?_
      show Steps p.tables e below (s₁.setTop (mkF m 38 #[.val (.int p0), .val (.int p1), .val (.int p2), .val (.int tt), .val (.int ((p1 &&& (65535 : Int32)).toUInt32.toUInt16.toUInt32.toInt32)), .unset, .unset, .unset, .unset, .unset, .unset] [(.int (65535 : Int32)), (.int p2)])) _
      refine XS.iand X0.here hx rfl (hb hby at_38) rfl ?_
      show Steps p.tables e below (s₁.setTop (mkF m 39 #[.val (.int p0), .val (.int p1), .val (.int p2), .val (.int tt), .val (.int ((p1 &&& (65535 : Int32)).toUInt32.toUInt16.toUInt32.toInt32)), .unset, .unset, .unset, .unset, .unset, .unset] [(.int (p2 &&& (65535 : Int32)))])) _
      refine XS.i2c X0.here hx rfl (hb hby at_39) rfl ?_
      show Steps p.tables e below (s₁.setTop (mkF m 40 #[.val (.int p0), .val (.int p1), .val (.int p2), .val (.int tt), .val (.int ((p1 &&& (65535 : Int32)).toUInt32.toUInt16.toUInt32.toInt32)), .unset, .unset, .unset, .unset, .unset, .unset] [(.int ((p2 &&& (65535 : Int32)).toUInt32.toUInt16.toUInt32.toInt32))])) _
      refine XS.istore X0.here hx rfl (hb hby at_40) rfl (l' := #[.val (.int p0), .val (.int p1), .val (.int p2), .val (.int tt), .val (.int ((p1 &&& (65535 : Int32)).toUInt32.toUInt16.toUInt32.toInt32)), .val (.int ((p2 &&& (65535 : Int32)).toUInt32.toUInt16.toUInt32.toInt32)), .unset, .unset, .unset, .unset, .unset]) rfl ?_
      exact k)
    obtain ⟨T5, h5, X5, e5, E5, A5, D5, -, st5⟩ := newO X0 hx hZ hown (hw _ (List.mem_of_getElem? (i := 2) rfl)) (hw _ (List.mem_of_getElem? (i := 3) rfl)) (hw _ (List.mem_of_getElem? (i := 4) rfl)) e0 (g := (mkF m 42 #[.val (.int p0), .val (.int p1), .val (.int p2), .val (.int tt), .val (.int ((p1 &&& (65535 : Int32)).toUInt32.toUInt16.toUInt32.toInt32)), .val (.int ((p2 &&& (65535 : Int32)).toUInt32.toUInt16.toUInt32.toInt32)), .unset, .unset, .unset, .unset, .unset] [])) rfl (hb hby at_42) (by decide) (by decide)
    obtain ⟨b5, g5⟩ : ∃ z, z = h0.size := ⟨_, rfl⟩
    rw [← g5] at A5 D5 st5
    have g_b5 : n0 ≤ b5 := Nat.le_trans Z0 (Nat.le_of_eq g5.symm)
    have sz_b5 : h0.size ≤ b5 := Nat.le_trans K0.1 (Nat.le_of_eq g5.symm)
    have F5_table : Fld Z h5 b5 "com/example/packetsieve/packetsieve/packet/Symbol" "table" "C" (.int (0 : Int32)) := D5 (Or.inr (hw _ (List.mem_of_getElem? (i := 17) rfl))) (ty := .char) (by decide)
    have F5_code : Fld Z h5 b5 "com/example/packetsieve/packetsieve/packet/Symbol" "code" "C" (.int (0 : Int32)) := D5 (Or.inr (hw _ (List.mem_of_getElem? (i := 19) rfl))) (ty := .char) (by decide)
    have Z5 : n0 ≤ h5.size := Nat.le_trans Z0 E5.1
    have K5 := K0.ext E5
    have go5 := go4.step (C := T5.setTop (mkF m 45 #[.val (.int p0), .val (.int p1), .val (.int p2), .val (.int tt), .val (.int ((p1 &&& (65535 : Int32)).toUInt32.toUInt16.toUInt32.toInt32)), .val (.int ((p2 &&& (65535 : Int32)).toUInt32.toUInt16.toUInt32.toInt32)), .unset, .unset, .unset, .unset, .unset] [(.ref b5)])) (fun t k => st5 t k)
    have go6 := go5.step (C := T5.setTop (mkF m 49 #[.val (.int p0), .val (.int p1), .val (.int p2), .val (.int tt), .val (.int ((p1 &&& (65535 : Int32)).toUInt32.toUInt16.toUInt32.toInt32)), .val (.int ((p2 &&& (65535 : Int32)).toUInt32.toUInt16.toUInt32.toInt32)), .unset, .unset, .unset, .unset, .unset] [(.int ((p1 &&& (65535 : Int32)).toUInt32.toUInt16.toUInt32.toInt32)), (.int tt), (.ref b5), (.ref b5)])) (fun t k => by
      show Steps p.tables e below (T5.setTop (mkF m 45 #[.val (.int p0), .val (.int p1), .val (.int p2), .val (.int tt), .val (.int ((p1 &&& (65535 : Int32)).toUInt32.toUInt16.toUInt32.toInt32)), .val (.int ((p2 &&& (65535 : Int32)).toUInt32.toUInt16.toUInt32.toInt32)), .unset, .unset, .unset, .unset, .unset] [(.ref b5)])) _
      refine XS.dup X5.here hx rfl (hb hby at_45) rfl rfl ?_
      show Steps p.tables e below (T5.setTop (mkF m 46 #[.val (.int p0), .val (.int p1), .val (.int p2), .val (.int tt), .val (.int ((p1 &&& (65535 : Int32)).toUInt32.toUInt16.toUInt32.toInt32)), .val (.int ((p2 &&& (65535 : Int32)).toUInt32.toUInt16.toUInt32.toInt32)), .unset, .unset, .unset, .unset, .unset] [(.ref b5), (.ref b5)])) _
      refine XS.iloadN X5.here hx rfl (hb hby at_46) rfl ?_
      show Steps p.tables e below (T5.setTop (mkF m 47 #[.val (.int p0), .val (.int p1), .val (.int p2), .val (.int tt), .val (.int ((p1 &&& (65535 : Int32)).toUInt32.toUInt16.toUInt32.toInt32)), .val (.int ((p2 &&& (65535 : Int32)).toUInt32.toUInt16.toUInt32.toInt32)), .unset, .unset, .unset, .unset, .unset] [(.int tt), (.ref b5), (.ref b5)])) _
      refine XS.iload X5.here hx rfl (hb hby at_47) rfl ?_
      exact k)
    obtain ⟨_, _, ⟨T7, L7, k7, n7⟩, -, X7, ⟨Lc7, hQ7, l7, y7, z7⟩, st7⟩ := X5.specialBack hx (y := (⟨"com/example/packetsieve/packetsieve/packet/Symbol", "<init>", "(CC)V"⟩ : MethodName)) rfl hown (mvT hZ (hw _ (List.mem_of_getElem? (i := 5) rfl))) (mvT hZ (hw _ (List.mem_of_getElem? (i := 6) rfl))) (mvT hZ (hw _ (List.mem_of_getElem? (i := 7) rfl))) (by decide) (backOf (W := 1) (rm1 l Z a0 hw [] b5 tt ((p1 &&& (65535 : Int32)).toUInt32.toUInt16.toUInt32.toInt32) h5 n0 Z5 A5 g_b5 F5_table F5_code) hZ (hw _ (List.mem_of_getElem? (i := 7) rfl)) (hw _ (List.mem_of_getElem? (i := 4) rfl)) (by decide) (by decide)) (g := (mkF m 49 #[.val (.int p0), .val (.int p1), .val (.int p2), .val (.int tt), .val (.int ((p1 &&& (65535 : Int32)).toUInt32.toUInt16.toUInt32.toInt32)), .val (.int ((p2 &&& (65535 : Int32)).toUInt32.toUInt16.toUInt32.toInt32)), .unset, .unset, .unset, .unset, .unset] [(.int ((p1 &&& (65535 : Int32)).toUInt32.toUInt16.toUInt32.toInt32)), (.int tt), (.ref b5), (.ref b5)])) rfl (by rw [hml]; rfl) (Steps.refl _) (a := b5) (argsL := [(.int tt), (.int ((p1 &&& (65535 : Int32)).toUInt32.toUInt16.toUInt32.toInt32))]) (rest := [(.ref b5)]) (lenOf pd0_0 rfl) rfl (by show 2 * 0 + _ ≤ _; exact Nat.le_of_eq rfl) (hb hby at_49) (fun _ _ => ⟨rfl, e5, (by decide : 1 + 0 ≤ _), (by decide : 2 + 0 ≤ _)⟩)
    dsimp only [Pt.U, Pt.locs, Pt.cells, Pt.slots] at X7 l7 y7 z7 st7 hQ7
    subst l7 y7 z7
    obtain ⟨rfl, N7q, K7, qp7_0, qp7_1, qp7_2⟩ := hQ7
    have N7 := Fr.app N0 N7q
    have f8 := A5.keep K7
    have Z7 : n0 ≤ T7.heap.size := Nat.le_trans Z5 K7.1
    have KK7 := K5.trans K7 (allS (Or.inr sz_b5) all0)
    have go7 := go6.tr (C := T7.setTop (mkF m 52 #[.val (.int p0), .val (.int p1), .val (.int p2), .val (.int tt), .val (.int ((p1 &&& (65535 : Int32)).toUInt32.toUInt16.toUInt32.toInt32)), .val (.int ((p2 &&& (65535 : Int32)).toUInt32.toUInt16.toUInt32.toInt32)), .unset, .unset, .unset, .unset, .unset] [(.ref b5)])) st7
    have go11 := go7.step (C := T7.setTop (mkF m 54 #[.val (.int p0), .val (.int p1), .val (.int p2), .val (.int tt), .val (.int ((p1 &&& (65535 : Int32)).toUInt32.toUInt16.toUInt32.toInt32)), .val (.int ((p2 &&& (65535 : Int32)).toUInt32.toUInt16.toUInt32.toInt32)), .val (.ref b5), .unset, .unset, .unset, .unset] [])) (fun t k => by
      show Steps p.tables e below (T7.setTop (mkF m 52 #[.val (.int p0), .val (.int p1), .val (.int p2), .val (.int tt), .val (.int ((p1 &&& (65535 : Int32)).toUInt32.toUInt16.toUInt32.toInt32)), .val (.int ((p2 &&& (65535 : Int32)).toUInt32.toUInt16.toUInt32.toInt32)), .unset, .unset, .unset, .unset, .unset] [(.ref b5)])) _
      refine XS.astore X7.here hx rfl (hb hby at_52) rfl rfl (l' := #[.val (.int p0), .val (.int p1), .val (.int p2), .val (.int tt), .val (.int ((p1 &&& (65535 : Int32)).toUInt32.toUInt16.toUInt32.toInt32)), .val (.int ((p2 &&& (65535 : Int32)).toUInt32.toUInt16.toUInt32.toInt32)), .val (.ref b5), .unset, .unset, .unset, .unset]) rfl ?_
      exact k)
    obtain ⟨T12, h12, X12, e12, E12, A12, D12, -, st12⟩ := newO X7 hx hZ hown (hw _ (List.mem_of_getElem? (i := 2) rfl)) (hw _ (List.mem_of_getElem? (i := 3) rfl)) (hw _ (List.mem_of_getElem? (i := 4) rfl)) rfl (g := (mkF m 54 #[.val (.int p0), .val (.int p1), .val (.int p2), .val (.int tt), .val (.int ((p1 &&& (65535 : Int32)).toUInt32.toUInt16.toUInt32.toInt32)), .val (.int ((p2 &&& (65535 : Int32)).toUInt32.toUInt16.toUInt32.toInt32)), .val (.ref b5), .unset, .unset, .unset, .unset] [])) rfl (hb hby at_54) (by decide) (by decide)
    obtain ⟨b12, g12⟩ : ∃ z, z = T7.heap.size := ⟨_, rfl⟩
    rw [← g12] at A12 D12 st12
    have ne_b5_b12 : b5 ≠ b12 := Nat.ne_of_lt (Nat.lt_of_lt_of_le qp7_0.lt (Nat.le_of_eq g12.symm))
    have g_b12 : n0 ≤ b12 := Nat.le_trans Z7 (Nat.le_of_eq g12.symm)
    have sz_b12 : h0.size ≤ b12 := Nat.le_trans KK7.1 (Nat.le_of_eq g12.symm)
    have f13 := qp7_0.ext E12
    have f14 := qp7_1.ext E12
    have f15 := qp7_2.ext E12
    have F12_table : Fld Z h12 b12 "com/example/packetsieve/packetsieve/packet/Symbol" "table" "C" (.int (0 : Int32)) := D12 (Or.inr (hw _ (List.mem_of_getElem? (i := 17) rfl))) (ty := .char) (by decide)
    have F12_code : Fld Z h12 b12 "com/example/packetsieve/packetsieve/packet/Symbol" "code" "C" (.int (0 : Int32)) := D12 (Or.inr (hw _ (List.mem_of_getElem? (i := 19) rfl))) (ty := .char) (by decide)
    have Z12 : n0 ≤ h12.size := Nat.le_trans Z7 E12.1
    have K12 := KK7.ext E12
    have go12 := go11.step (C := T12.setTop (mkF m 57 #[.val (.int p0), .val (.int p1), .val (.int p2), .val (.int tt), .val (.int ((p1 &&& (65535 : Int32)).toUInt32.toUInt16.toUInt32.toInt32)), .val (.int ((p2 &&& (65535 : Int32)).toUInt32.toUInt16.toUInt32.toInt32)), .val (.ref b5), .unset, .unset, .unset, .unset] [(.ref b12)])) (fun t k => st12 t k)
    have go16 := go12.step (C := T12.setTop (mkF m 61 #[.val (.int p0), .val (.int p1), .val (.int p2), .val (.int tt), .val (.int ((p1 &&& (65535 : Int32)).toUInt32.toUInt16.toUInt32.toInt32)), .val (.int ((p2 &&& (65535 : Int32)).toUInt32.toUInt16.toUInt32.toInt32)), .val (.ref b5), .unset, .unset, .unset, .unset] [(.int ((p2 &&& (65535 : Int32)).toUInt32.toUInt16.toUInt32.toInt32)), (.int tt), (.ref b12), (.ref b12)])) (fun t k => by
      show Steps p.tables e below (T12.setTop (mkF m 57 #[.val (.int p0), .val (.int p1), .val (.int p2), .val (.int tt), .val (.int ((p1 &&& (65535 : Int32)).toUInt32.toUInt16.toUInt32.toInt32)), .val (.int ((p2 &&& (65535 : Int32)).toUInt32.toUInt16.toUInt32.toInt32)), .val (.ref b5), .unset, .unset, .unset, .unset] [(.ref b12)])) _
      refine XS.dup X12.here hx rfl (hb hby at_57) rfl rfl ?_
      show Steps p.tables e below (T12.setTop (mkF m 58 #[.val (.int p0), .val (.int p1), .val (.int p2), .val (.int tt), .val (.int ((p1 &&& (65535 : Int32)).toUInt32.toUInt16.toUInt32.toInt32)), .val (.int ((p2 &&& (65535 : Int32)).toUInt32.toUInt16.toUInt32.toInt32)), .val (.ref b5), .unset, .unset, .unset, .unset] [(.ref b12), (.ref b12)])) _
      refine XS.iloadN X12.here hx rfl (hb hby at_58) rfl ?_
      show Steps p.tables e below (T12.setTop (mkF m 59 #[.val (.int p0), .val (.int p1), .val (.int p2), .val (.int tt), .val (.int ((p1 &&& (65535 : Int32)).toUInt32.toUInt16.toUInt32.toInt32)), .val (.int ((p2 &&& (65535 : Int32)).toUInt32.toUInt16.toUInt32.toInt32)), .val (.ref b5), .unset, .unset, .unset, .unset] [(.int tt), (.ref b12), (.ref b12)])) _
      refine XS.iload X12.here hx rfl (hb hby at_59) rfl ?_
      exact k)
    obtain ⟨_, _, ⟨T17, L17, k17, n17⟩, -, X17, ⟨Lc17, hQ17, l17, y17, z17⟩, st17⟩ := X12.specialBack hx (y := (⟨"com/example/packetsieve/packetsieve/packet/Symbol", "<init>", "(CC)V"⟩ : MethodName)) rfl hown (mvT hZ (hw _ (List.mem_of_getElem? (i := 5) rfl))) (mvT hZ (hw _ (List.mem_of_getElem? (i := 6) rfl))) (mvT hZ (hw _ (List.mem_of_getElem? (i := 7) rfl))) (by decide) (backOf (W := 1) (rm1 l Z a0 hw [] b12 tt ((p2 &&& (65535 : Int32)).toUInt32.toUInt16.toUInt32.toInt32) h12 n0 Z12 A12 g_b12 F12_table F12_code) hZ (hw _ (List.mem_of_getElem? (i := 7) rfl)) (hw _ (List.mem_of_getElem? (i := 4) rfl)) (by decide) (by decide)) (g := (mkF m 61 #[.val (.int p0), .val (.int p1), .val (.int p2), .val (.int tt), .val (.int ((p1 &&& (65535 : Int32)).toUInt32.toUInt16.toUInt32.toInt32)), .val (.int ((p2 &&& (65535 : Int32)).toUInt32.toUInt16.toUInt32.toInt32)), .val (.ref b5), .unset, .unset, .unset, .unset] [(.int ((p2 &&& (65535 : Int32)).toUInt32.toUInt16.toUInt32.toInt32)), (.int tt), (.ref b12), (.ref b12)])) rfl (by rw [hml]; rfl) (Steps.refl _) (a := b12) (argsL := [(.int tt), (.int ((p2 &&& (65535 : Int32)).toUInt32.toUInt16.toUInt32.toInt32))]) (rest := [(.ref b12)]) (lenOf pd0_0 rfl) rfl (by show 2 * 0 + _ ≤ _; exact Nat.le_of_eq rfl) (hb hby at_61) (fun _ _ => ⟨rfl, e12, (by decide : 2 + 0 ≤ _), (by decide : 4 + 0 ≤ _)⟩)
    dsimp only [Pt.U, Pt.locs, Pt.cells, Pt.slots] at X17 l17 y17 z17 st17 hQ17
    subst l17 y17 z17
    obtain ⟨rfl, N17q, K17, qp17_0, qp17_1, qp17_2⟩ := hQ17
    have N17 := Fr.app N7 N17q
    have f18 := f13.keep K17
    have f19 := f14.keep K17 (ninS ne_b5_b12 nin0)
    have f20 := f15.keep K17 (ninS ne_b5_b12 nin0)
    have f21 := A12.keep K17
    have Z17 : n0 ≤ T17.heap.size := Nat.le_trans Z12 K17.1
    have KK17 := K12.trans K17 (allS (Or.inr sz_b12) all0)
    have go17 := go16.tr (C := T17.setTop (mkF m 64 #[.val (.int p0), .val (.int p1), .val (.int p2), .val (.int tt), .val (.int ((p1 &&& (65535 : Int32)).toUInt32.toUInt16.toUInt32.toInt32)), .val (.int ((p2 &&& (65535 : Int32)).toUInt32.toUInt16.toUInt32.toInt32)), .val (.ref b5), .unset, .unset, .unset, .unset] [(.ref b12)])) st17
    have go24 := go17.step (C := T17.setTop (mkF m 68 #[.val (.int p0), .val (.int p1), .val (.int p2), .val (.int tt), .val (.int ((p1 &&& (65535 : Int32)).toUInt32.toUInt16.toUInt32.toInt32)), .val (.int ((p2 &&& (65535 : Int32)).toUInt32.toUInt16.toUInt32.toInt32)), .val (.ref b5), .val (.ref b12), .unset, .unset, .unset] [(.ref b5)])) (fun t k => by
      show Steps p.tables e below (T17.setTop (mkF m 64 #[.val (.int p0), .val (.int p1), .val (.int p2), .val (.int tt), .val (.int ((p1 &&& (65535 : Int32)).toUInt32.toUInt16.toUInt32.toInt32)), .val (.int ((p2 &&& (65535 : Int32)).toUInt32.toUInt16.toUInt32.toInt32)), .val (.ref b5), .unset, .unset, .unset, .unset] [(.ref b12)])) _
      refine XS.astore X17.here hx rfl (hb hby at_64) rfl rfl (l' := #[.val (.int p0), .val (.int p1), .val (.int p2), .val (.int tt), .val (.int ((p1 &&& (65535 : Int32)).toUInt32.toUInt16.toUInt32.toInt32)), .val (.int ((p2 &&& (65535 : Int32)).toUInt32.toUInt16.toUInt32.toInt32)), .val (.ref b5), .val (.ref b12), .unset, .unset, .unset]) rfl ?_
      show Steps p.tables e below (T17.setTop (mkF m 66 #[.val (.int p0), .val (.int p1), .val (.int p2), .val (.int tt), .val (.int ((p1 &&& (65535 : Int32)).toUInt32.toUInt16.toUInt32.toInt32)), .val (.int ((p2 &&& (65535 : Int32)).toUInt32.toUInt16.toUInt32.toInt32)), .val (.ref b5), .val (.ref b12), .unset, .unset, .unset] [])) _
      refine XS.aload X17.here hx rfl (hb hby at_66) rfl rfl ?_
      exact k)
    obtain ⟨cq25, kq25, q25a, q25b, q25c⟩ := isOf hZ rfl f18
    obtain ⟨_, _, ⟨T25, L25, k25, n25⟩, -, X25, ⟨Lc25, hQ25, l25, y25, z25⟩, st25⟩ := X17.virtualBack hx (y := (⟨"com/example/packetsieve/packetsieve/packet/Symbol", "hasOverlay", "()Z"⟩ : MethodName)) (z := (⟨"com/example/packetsieve/packetsieve/packet/Symbol", "hasOverlay", "()Z"⟩ : MethodName)) hown (mvT hZ (hw _ (List.mem_of_getElem? (i := 20) rfl))) (mvT hZ (hw _ (List.mem_of_getElem? (i := 21) rfl))) (notFace_of_selects (args := #[]) (mvT hZ (hw _ (List.mem_of_getElem? (i := 23) rfl)))) (mvT hZ (hw _ (List.mem_of_getElem? (i := 23) rfl))) (mvT hZ (hw _ (List.mem_of_getElem? (i := 22) rfl))) (by decide) (backOf (W := 0) (rm4 l Z a0 hw [] b5 (nar .char tt) T17.heap n0 Z17 f19) hZ (hw _ (List.mem_of_getElem? (i := 24) rfl)) (hw _ (List.mem_of_getElem? (i := 4) rfl)) (by decide) (by decide)) q25a q25c (g := (mkF m 68 #[.val (.int p0), .val (.int p1), .val (.int p2), .val (.int tt), .val (.int ((p1 &&& (65535 : Int32)).toUInt32.toUInt16.toUInt32.toInt32)), .val (.int ((p2 &&& (65535 : Int32)).toUInt32.toUInt16.toUInt32.toInt32)), .val (.ref b5), .val (.ref b12), .unset, .unset, .unset] [(.ref b5)])) rfl (by rw [hml]; rfl) (Steps.refl _) (argsL := []) (rest := []) (lenOf pd0_1 rfl) rfl (by show 2 * 0 + _ ≤ _; exact Nat.le_of_eq rfl) (hb hby at_68) (fun _ _ => ⟨rfl, rfl, (by decide : 2 + 0 ≤ _), (by decide : 4 + 0 ≤ _)⟩)
    dsimp only [Pt.U, Pt.locs, Pt.cells, Pt.slots] at X25 l25 y25 z25 st25 hQ25
    subst l25 y25 z25
    obtain ⟨rfl, N25q, e25⟩ := hQ25
    have N25 := Fr.app N17 N25q
    have go25 := go24.tr (C := T25.setTop (mkF m 71 #[.val (.int p0), .val (.int p1), .val (.int p2), .val (.int tt), .val (.int ((p1 &&& (65535 : Int32)).toUInt32.toUInt16.toUInt32.toInt32)), .val (.int ((p2 &&& (65535 : Int32)).toUInt32.toUInt16.toUInt32.toInt32)), .val (.ref b5), .val (.ref b12), .unset, .unset, .unset] [(.int (own_has (nar .char tt)))])) st25
    have go26 := go25.step (C := T25.setTop (mkF m 75 #[.val (.int p0), .val (.int p1), .val (.int p2), .val (.int tt), .val (.int ((p1 &&& (65535 : Int32)).toUInt32.toUInt16.toUInt32.toInt32)), .val (.int ((p2 &&& (65535 : Int32)).toUInt32.toUInt16.toUInt32.toInt32)), .val (.ref b5), .val (.ref b12), .val (.int (own_has (nar .char tt))), .unset, .unset] [(.ref b12)])) (fun t k => by
      show Steps p.tables e below (T25.setTop (mkF m 71 #[.val (.int p0), .val (.int p1), .val (.int p2), .val (.int tt), .val (.int ((p1 &&& (65535 : Int32)).toUInt32.toUInt16.toUInt32.toInt32)), .val (.int ((p2 &&& (65535 : Int32)).toUInt32.toUInt16.toUInt32.toInt32)), .val (.ref b5), .val (.ref b12), .unset, .unset, .unset] [(.int (own_has (nar .char tt)))])) _
      refine XS.istore X25.here hx rfl (hb hby at_71) rfl (l' := #[.val (.int p0), .val (.int p1), .val (.int p2), .val (.int tt), .val (.int ((p1 &&& (65535 : Int32)).toUInt32.toUInt16.toUInt32.toInt32)), .val (.int ((p2 &&& (65535 : Int32)).toUInt32.toUInt16.toUInt32.toInt32)), .val (.ref b5), .val (.ref b12), .val (.int (own_has (nar .char tt))), .unset, .unset]) rfl ?_
      show Steps p.tables e below (T25.setTop (mkF m 73 #[.val (.int p0), .val (.int p1), .val (.int p2), .val (.int tt), .val (.int ((p1 &&& (65535 : Int32)).toUInt32.toUInt16.toUInt32.toInt32)), .val (.int ((p2 &&& (65535 : Int32)).toUInt32.toUInt16.toUInt32.toInt32)), .val (.ref b5), .val (.ref b12), .val (.int (own_has (nar .char tt))), .unset, .unset] [])) _
      refine XS.aload X25.here hx rfl (hb hby at_73) rfl rfl ?_
      exact k)
    obtain ⟨cq27, kq27, q27a, q27b, q27c⟩ := isOf hZ e25 qp17_0
    obtain ⟨_, _, ⟨T27, L27, k27, n27⟩, -, X27, ⟨Lc27, hQ27, l27, y27, z27⟩, st27⟩ := X25.virtualBack hx (y := (⟨"com/example/packetsieve/packetsieve/packet/Symbol", "hasOverlay", "()Z"⟩ : MethodName)) (z := (⟨"com/example/packetsieve/packetsieve/packet/Symbol", "hasOverlay", "()Z"⟩ : MethodName)) hown (mvT hZ (hw _ (List.mem_of_getElem? (i := 20) rfl))) (mvT hZ (hw _ (List.mem_of_getElem? (i := 21) rfl))) (notFace_of_selects (args := #[]) (mvT hZ (hw _ (List.mem_of_getElem? (i := 23) rfl)))) (mvT hZ (hw _ (List.mem_of_getElem? (i := 23) rfl))) (mvT hZ (hw _ (List.mem_of_getElem? (i := 22) rfl))) (by decide) (backOf (W := 0) (rm4 l Z a0 hw [] b12 (nar .char tt) T17.heap n0 Z17 qp17_1) hZ (hw _ (List.mem_of_getElem? (i := 24) rfl)) (hw _ (List.mem_of_getElem? (i := 4) rfl)) (by decide) (by decide)) q27a q27c (g := (mkF m 75 #[.val (.int p0), .val (.int p1), .val (.int p2), .val (.int tt), .val (.int ((p1 &&& (65535 : Int32)).toUInt32.toUInt16.toUInt32.toInt32)), .val (.int ((p2 &&& (65535 : Int32)).toUInt32.toUInt16.toUInt32.toInt32)), .val (.ref b5), .val (.ref b12), .val (.int (own_has (nar .char tt))), .unset, .unset] [(.ref b12)])) rfl (by rw [hml]; rfl) (Steps.refl _) (argsL := []) (rest := []) (lenOf pd0_1 rfl) rfl (by show 2 * 0 + _ ≤ _; exact Nat.le_of_eq rfl) (hb hby at_75) (fun _ _ => ⟨rfl, e25, (by decide : 2 + 0 ≤ _), (by decide : 4 + 0 ≤ _)⟩)
    dsimp only [Pt.U, Pt.locs, Pt.cells, Pt.slots] at X27 l27 y27 z27 st27 hQ27
    subst l27 y27 z27
    obtain ⟨rfl, N27q, e27⟩ := hQ27
    have N27 := Fr.app N25 N27q
    have go27 := go26.tr (C := T27.setTop (mkF m 78 #[.val (.int p0), .val (.int p1), .val (.int p2), .val (.int tt), .val (.int ((p1 &&& (65535 : Int32)).toUInt32.toUInt16.toUInt32.toInt32)), .val (.int ((p2 &&& (65535 : Int32)).toUInt32.toUInt16.toUInt32.toInt32)), .val (.ref b5), .val (.ref b12), .val (.int (own_has (nar .char tt))), .unset, .unset] [(.int (own_has (nar .char tt)))])) st27
    have go28 := go27.step (C := T27.setTop (mkF m 81 #[.val (.int p0), .val (.int p1), .val (.int p2), .val (.int tt), .val (.int ((p1 &&& (65535 : Int32)).toUInt32.toUInt16.toUInt32.toInt32)), .val (.int ((p2 &&& (65535 : Int32)).toUInt32.toUInt16.toUInt32.toInt32)), .val (.ref b5), .val (.ref b12), .val (.int (own_has (nar .char tt))), .val (.int (own_has (nar .char tt))), .unset] [(.int tt)])) (fun t k => by
      show Steps p.tables e below (T27.setTop (mkF m 78 #[.val (.int p0), .val (.int p1), .val (.int p2), .val (.int tt), .val (.int ((p1 &&& (65535 : Int32)).toUInt32.toUInt16.toUInt32.toInt32)), .val (.int ((p2 &&& (65535 : Int32)).toUInt32.toUInt16.toUInt32.toInt32)), .val (.ref b5), .val (.ref b12), .val (.int (own_has (nar .char tt))), .unset, .unset] [(.int (own_has (nar .char tt)))])) _
      refine XS.istore X27.here hx rfl (hb hby at_78) rfl (l' := #[.val (.int p0), .val (.int p1), .val (.int p2), .val (.int tt), .val (.int ((p1 &&& (65535 : Int32)).toUInt32.toUInt16.toUInt32.toInt32)), .val (.int ((p2 &&& (65535 : Int32)).toUInt32.toUInt16.toUInt32.toInt32)), .val (.ref b5), .val (.ref b12), .val (.int (own_has (nar .char tt))), .val (.int (own_has (nar .char tt))), .unset]) rfl ?_
      show Steps p.tables e below (T27.setTop (mkF m 80 #[.val (.int p0), .val (.int p1), .val (.int p2), .val (.int tt), .val (.int ((p1 &&& (65535 : Int32)).toUInt32.toUInt16.toUInt32.toInt32)), .val (.int ((p2 &&& (65535 : Int32)).toUInt32.toUInt16.toUInt32.toInt32)), .val (.ref b5), .val (.ref b12), .val (.int (own_has (nar .char tt))), .val (.int (own_has (nar .char tt))), .unset] [])) _
      refine XS.iloadN X27.here hx rfl (hb hby at_80) rfl ?_
      exact k)
    obtain ⟨_, _, ⟨T29, L29, k29, n29⟩, -, X29, ⟨Lc29, hQ29, l29, y29, z29⟩, st29⟩ := Jvm.LawKit.callS X27 hx (y := (⟨"com/example/packetsieve/packetsieve/packet/SymbolHasOverlayPinLaw", "expected", "(C)Z"⟩ : MethodName)) hown (mvT hZ (hw _ (List.mem_of_getElem? (i := 25) rfl))) (mvT hZ (hw _ (List.mem_of_getElem? (i := 26) rfl))) (mvT hZ (hw _ (List.mem_of_getElem? (i := 27) rfl))) (mvT hZ (hw _ (List.mem_of_getElem? (i := 28) rfl))) (by decide) (backOf (W := 0) (rm5 l Z a0 hw [] tt T17.heap n0 Z17 ) hZ (hw _ (List.mem_of_getElem? (i := 28) rfl)) (hw _ (List.mem_of_getElem? (i := 27) rfl)) (by decide) (by decide)) (g := (mkF m 81 #[.val (.int p0), .val (.int p1), .val (.int p2), .val (.int tt), .val (.int ((p1 &&& (65535 : Int32)).toUInt32.toUInt16.toUInt32.toInt32)), .val (.int ((p2 &&& (65535 : Int32)).toUInt32.toUInt16.toUInt32.toInt32)), .val (.ref b5), .val (.ref b12), .val (.int (own_has (nar .char tt))), .val (.int (own_has (nar .char tt))), .unset] [(.int tt)])) rfl (by rw [hml]; rfl) (argsL := [(.int tt)]) (rest := []) (lenOf pd0_2 rfl) rfl (by show 2 * 0 + _ ≤ _; exact Nat.le_of_eq rfl) (hb hby at_81) (fun _ _ => ⟨rfl, e27, (by decide : 2 + 0 ≤ _), (by decide : 4 + 0 ≤ _)⟩)
    dsimp only [Pt.U, Pt.locs, Pt.cells, Pt.slots] at X29 l29 y29 z29 st29 hQ29
    subst l29 y29 z29
    obtain ⟨rfl, N29q, e29⟩ := hQ29
    have N29 := Fr.app N27 N29q
    have go29 := go28.step (C := T29.setTop (mkF m 84 #[.val (.int p0), .val (.int p1), .val (.int p2), .val (.int tt), .val (.int ((p1 &&& (65535 : Int32)).toUInt32.toUInt16.toUInt32.toInt32)), .val (.int ((p2 &&& (65535 : Int32)).toUInt32.toUInt16.toUInt32.toInt32)), .val (.ref b5), .val (.ref b12), .val (.int (own_has (nar .char tt))), .val (.int (own_has (nar .char tt))), .unset] [(.int (own_exp tt))])) (fun t k => st29 t k)
    have go32 := go29.step (C := T29.setTop (mkF m 105 #[.val (.int p0), .val (.int p1), .val (.int p2), .val (.int tt), .val (.int ((p1 &&& (65535 : Int32)).toUInt32.toUInt16.toUInt32.toInt32)), .val (.int ((p2 &&& (65535 : Int32)).toUInt32.toUInt16.toUInt32.toInt32)), .val (.ref b5), .val (.ref b12), .val (.int (own_has (nar .char tt))), .val (.int (own_has (nar .char tt))), .val (.int (own_exp tt))] [(.int (1 : Int32))])) (fun t k => by
      show Steps p.tables e below (T29.setTop (mkF m 84 #[.val (.int p0), .val (.int p1), .val (.int p2), .val (.int tt), .val (.int ((p1 &&& (65535 : Int32)).toUInt32.toUInt16.toUInt32.toInt32)), .val (.int ((p2 &&& (65535 : Int32)).toUInt32.toUInt16.toUInt32.toInt32)), .val (.ref b5), .val (.ref b12), .val (.int (own_has (nar .char tt))), .val (.int (own_has (nar .char tt))), .unset] [(.int (own_exp tt))])) _
      refine XS.istore X29.here hx rfl (hb hby at_84) rfl (l' := #[.val (.int p0), .val (.int p1), .val (.int p2), .val (.int tt), .val (.int ((p1 &&& (65535 : Int32)).toUInt32.toUInt16.toUInt32.toInt32)), .val (.int ((p2 &&& (65535 : Int32)).toUInt32.toUInt16.toUInt32.toInt32)), .val (.ref b5), .val (.ref b12), .val (.int (own_has (nar .char tt))), .val (.int (own_has (nar .char tt))), .val (.int (own_exp tt))]) rfl ?_
      show Steps p.tables e below (T29.setTop (mkF m 86 #[.val (.int p0), .val (.int p1), .val (.int p2), .val (.int tt), .val (.int ((p1 &&& (65535 : Int32)).toUInt32.toUInt16.toUInt32.toInt32)), .val (.int ((p2 &&& (65535 : Int32)).toUInt32.toUInt16.toUInt32.toInt32)), .val (.ref b5), .val (.ref b12), .val (.int (own_has (nar .char tt))), .val (.int (own_has (nar .char tt))), .val (.int (own_exp tt))] [])) _
      refine XS.iload X29.here hx rfl (hb hby at_86) rfl ?_
      show Steps p.tables e below (T29.setTop (mkF m 88 #[.val (.int p0), .val (.int p1), .val (.int p2), .val (.int tt), .val (.int ((p1 &&& (65535 : Int32)).toUInt32.toUInt16.toUInt32.toInt32)), .val (.int ((p2 &&& (65535 : Int32)).toUInt32.toUInt16.toUInt32.toInt32)), .val (.ref b5), .val (.ref b12), .val (.int (own_has (nar .char tt))), .val (.int (own_has (nar .char tt))), .val (.int (own_exp tt))] [(.int (own_has (nar .char tt)))])) _
      refine XS.iload X29.here hx rfl (hb hby at_88) rfl ?_
      show Steps p.tables e below (T29.setTop (mkF m 90 #[.val (.int p0), .val (.int p1), .val (.int p2), .val (.int tt), .val (.int ((p1 &&& (65535 : Int32)).toUInt32.toUInt16.toUInt32.toInt32)), .val (.int ((p2 &&& (65535 : Int32)).toUInt32.toUInt16.toUInt32.toInt32)), .val (.ref b5), .val (.ref b12), .val (.int (own_has (nar .char tt))), .val (.int (own_has (nar .char tt))), .val (.int (own_exp tt))] [(.int (own_exp tt)), (.int (own_has (nar .char tt)))])) _
      refine XS.icmpNo X29.here hx rfl (hb hby at_90) rfl (teq ((by rw [hrt]; exact own_eq hrg) : (own_has (nar .char tt)) = (own_exp tt))).2 ?_
      show Steps p.tables e below (T29.setTop (mkF m 93 #[.val (.int p0), .val (.int p1), .val (.int p2), .val (.int tt), .val (.int ((p1 &&& (65535 : Int32)).toUInt32.toUInt16.toUInt32.toInt32)), .val (.int ((p2 &&& (65535 : Int32)).toUInt32.toUInt16.toUInt32.toInt32)), .val (.ref b5), .val (.ref b12), .val (.int (own_has (nar .char tt))), .val (.int (own_has (nar .char tt))), .val (.int (own_exp tt))] [])) _
      refine XS.iload X29.here hx rfl (hb hby at_93) rfl ?_
      show Steps p.tables e below (T29.setTop (mkF m 95 #[.val (.int p0), .val (.int p1), .val (.int p2), .val (.int tt), .val (.int ((p1 &&& (65535 : Int32)).toUInt32.toUInt16.toUInt32.toInt32)), .val (.int ((p2 &&& (65535 : Int32)).toUInt32.toUInt16.toUInt32.toInt32)), .val (.ref b5), .val (.ref b12), .val (.int (own_has (nar .char tt))), .val (.int (own_has (nar .char tt))), .val (.int (own_exp tt))] [(.int (own_has (nar .char tt)))])) _
      refine XS.iload X29.here hx rfl (hb hby at_95) rfl ?_
      show Steps p.tables e below (T29.setTop (mkF m 97 #[.val (.int p0), .val (.int p1), .val (.int p2), .val (.int tt), .val (.int ((p1 &&& (65535 : Int32)).toUInt32.toUInt16.toUInt32.toInt32)), .val (.int ((p2 &&& (65535 : Int32)).toUInt32.toUInt16.toUInt32.toInt32)), .val (.ref b5), .val (.ref b12), .val (.int (own_has (nar .char tt))), .val (.int (own_has (nar .char tt))), .val (.int (own_exp tt))] [(.int (own_exp tt)), (.int (own_has (nar .char tt)))])) _
      refine XS.icmpNo X29.here hx rfl (hb hby at_97) rfl (teq ((by rw [hrt]; exact own_eq hrg) : (own_has (nar .char tt)) = (own_exp tt))).2 ?_
      show Steps p.tables e below (T29.setTop (mkF m 100 #[.val (.int p0), .val (.int p1), .val (.int p2), .val (.int tt), .val (.int ((p1 &&& (65535 : Int32)).toUInt32.toUInt16.toUInt32.toInt32)), .val (.int ((p2 &&& (65535 : Int32)).toUInt32.toUInt16.toUInt32.toInt32)), .val (.ref b5), .val (.ref b12), .val (.int (own_has (nar .char tt))), .val (.int (own_has (nar .char tt))), .val (.int (own_exp tt))] [])) _
      refine XS.iconst X29.here hx rfl (hb hby at_100) ?_
      show Steps p.tables e below (T29.setTop (mkF m 101 #[.val (.int p0), .val (.int p1), .val (.int p2), .val (.int tt), .val (.int ((p1 &&& (65535 : Int32)).toUInt32.toUInt16.toUInt32.toInt32)), .val (.int ((p2 &&& (65535 : Int32)).toUInt32.toUInt16.toUInt32.toInt32)), .val (.ref b5), .val (.ref b12), .val (.int (own_has (nar .char tt))), .val (.int (own_has (nar .char tt))), .val (.int (own_exp tt))] [(.int (1 : Int32))])) _
      refine XS.goto X29.here hx rfl (pc0 := 101) (pc' := 105) rfl (hb hby at_101) (by decide) (by decide) ?_
      exact k)
    obtain ⟨fs, hr, hrun, hended, hW, hsame⟩ := X29.leave (v := some (.int (1 : Int32))) (fun h => by rw [Bd.returns] at h; cases h)
    refine ⟨_, _, go32 _ ?_, hrun, hended, _, _, rfl, ?_, ⟨_, rfl⟩, hW, hsame.mono (by decide) (by decide)⟩
    · exact retN X29 hx (t := .boolean) Bd.returns (by simp) (hb hby at_105) hr
    · show Q_rm0 Z p0 p1 p2 h0 n0 _ T29.heap _
      rw [e29]
      exact ⟨rfl, N29⟩
  · skip
    have go33 := go2.step (C := s₁.setTop (mkF m 28 #[.val (.int p0), .val (.int p1), .val (.int p2), .val (.int (((32 : Int32) + ((p0 &&& (65535 : Int32)) % (96 : Int32))).toUInt32.toUInt16.toUInt32.toInt32)), .unset, .unset, .unset, .unset, .unset, .unset, .unset] [])) (fun t k => by
      show Steps p.tables e below (s₁.setTop (mkF m 4 #[.val (.int p0), .val (.int p1), .val (.int p2), .unset, .unset, .unset, .unset, .unset, .unset, .unset, .unset] [(.int (p0 &&& (65536 : Int32)))])) _
      refine XS.ifNo X0.here hx rfl (hb hby at_4) rfl ((if0 _ _).trans (feq hc1).1) ?_
      show Steps p.tables e below (s₁.setTop (mkF m 7 #[.val (.int p0), .val (.int p1), .val (.int p2), .unset, .unset, .unset, .unset, .unset, .unset, .unset, .unset] [])) _
      refine XS.bipush X0.here hx rfl (hb hby at_7) ?_
      show Steps p.tables e below (s₁.setTop (mkF m 9 #[.val (.int p0), .val (.int p1), .val (.int p2), .unset, .unset, .unset, .unset, .unset, .unset, .unset, .unset] [(.int (32 : Int32))])) _
      refine XS.iloadN X0.here hx rfl (hb hby at_9) rfl ?_
      show Steps p.tables e below (s₁.setTop (mkF m 10 #[.val (.int p0), .val (.int p1), .val (.int p2), .unset, .unset, .unset, .unset, .unset, .unset, .unset, .unset] [(.int p0), (.int (32 : Int32))])) _
      refine X0.ldcInt hx hown (mvT hZ (hw _ (List.mem_of_getElem? (i := 1) rfl))) (g := (mkF m 10 #[.val (.int p0), .val (.int p1), .val (.int p2), .unset, .unset, .unset, .unset, .unset, .unset, .unset, .unset] [(.int p0), (.int (32 : Int32))])) rfl (hb hby at_10) _ ?_
      show Steps p.tables e below (s₁.setTop (mkF m 12 #[.val (.int p0), .val (.int p1), .val (.int p2), .unset, .unset, .unset, .unset, .unset, .unset, .unset, .unset] [(.int (65535 : Int32)), (.int p0), (.int (32 : Int32))])) _
      refine XS.iand X0.here hx rfl (hb hby at_12) rfl ?_
      show Steps p.tables e below (s₁.setTop (mkF m 13 #[.val (.int p0), .val (.int p1), .val (.int p2), .unset, .unset, .unset, .unset, .unset, .unset, .unset, .unset] [(.int (p0 &&& (65535 : Int32))), (.int (32 : Int32))])) _
      refine XS.bipush X0.here hx rfl (hb hby at_13) ?_
      show Steps p.tables e below (s₁.setTop (mkF m 15 #[.val (.int p0), .val (.int p1), .val (.int p2), .unset, .unset, .unset, .unset, .unset, .unset, .unset, .unset] [(.int (96 : Int32)), (.int (p0 &&& (65535 : Int32))), (.int (32 : Int32))])) _
      refine iremM X0 hx rfl (hb hby at_15) rfl (by decide) ?_
      show Steps p.tables e below (s₁.setTop (mkF m 16 #[.val (.int p0), .val (.int p1), .val (.int p2), .unset, .unset, .unset, .unset, .unset, .unset, .unset, .unset] [(.int ((p0 &&& (65535 : Int32)) % (96 : Int32))), (.int (32 : Int32))])) _
      refine XS.iadd X0.here hx rfl (hb hby at_16) rfl ?_
      show Steps p.tables e below (s₁.setTop (mkF m 17 #[.val (.int p0), .val (.int p1), .val (.int p2), .unset, .unset, .unset, .unset, .unset, .unset, .unset, .unset] [(.int ((32 : Int32) + ((p0 &&& (65535 : Int32)) % (96 : Int32))))])) _
      refine XS.i2c X0.here hx rfl (hb hby at_17) rfl ?_
      show Steps p.tables e below (s₁.setTop (mkF m 18 #[.val (.int p0), .val (.int p1), .val (.int p2), .unset, .unset, .unset, .unset, .unset, .unset, .unset, .unset] [(.int (((32 : Int32) + ((p0 &&& (65535 : Int32)) % (96 : Int32))).toUInt32.toUInt16.toUInt32.toInt32))])) _
      refine XS.istoreN X0.here hx rfl (hb hby at_18) rfl (l' := #[.val (.int p0), .val (.int p1), .val (.int p2), .val (.int (((32 : Int32) + ((p0 &&& (65535 : Int32)) % (96 : Int32))).toUInt32.toUInt16.toUInt32.toInt32)), .unset, .unset, .unset, .unset, .unset, .unset, .unset]) rfl ?_
      show Steps p.tables e below (s₁.setTop (mkF m 19 #[.val (.int p0), .val (.int p1), .val (.int p2), .val (.int (((32 : Int32) + ((p0 &&& (65535 : Int32)) % (96 : Int32))).toUInt32.toUInt16.toUInt32.toInt32)), .unset, .unset, .unset, .unset, .unset, .unset, .unset] [])) _
      refine XS.goto X0.here hx rfl (pc0 := 19) (pc' := 28) rfl (hb hby at_19) (by decide) (by decide) ?_
      exact k)
    have hrt : (nar .char (((32 : Int32) + ((p0 &&& (65535 : Int32)) % (96 : Int32))).toUInt32.toUInt16.toUInt32.toInt32)) = (((32 : Int32) + ((p0 &&& (65535 : Int32)) % (96 : Int32))).toUInt32.toUInt16.toUInt32.toInt32) := own_chr _
    have hrg := own_rng (((32 : Int32) + ((p0 &&& (65535 : Int32)) % (96 : Int32))))
    obtain ⟨tt, htt⟩ : ∃ z : Int32, z = (((32 : Int32) + ((p0 &&& (65535 : Int32)) % (96 : Int32))).toUInt32.toUInt16.toUInt32.toInt32) := ⟨_, rfl⟩
    rw [← htt] at go33
    rw [← htt] at hrt hrg
    have go34 := go33.step (C := s₁.setTop (mkF m 42 #[.val (.int p0), .val (.int p1), .val (.int p2), .val (.int tt), .val (.int ((p1 &&& (65535 : Int32)).toUInt32.toUInt16.toUInt32.toInt32)), .val (.int ((p2 &&& (65535 : Int32)).toUInt32.toUInt16.toUInt32.toInt32)), .unset, .unset, .unset, .unset, .unset] [])) (fun t k => by
      show Steps p.tables e below (s₁.setTop (mkF m 28 #[.val (.int p0), .val (.int p1), .val (.int p2), .val (.int tt), .unset, .unset, .unset, .unset, .unset, .unset, .unset] [])) _
      refine XS.iloadN X0.here hx rfl (hb hby at_28) rfl ?_
      show Steps p.tables e below (s₁.setTop (mkF m 29 #[.val (.int p0), .val (.int p1), .val (.int p2), .val (.int tt), .unset, .unset, .unset, .unset, .unset, .unset, .unset] [(.int p1)])) _
      refine X0.ldcInt hx hown (mvT hZ (hw _ (List.mem_of_getElem? (i := 1) rfl))) (g := (mkF m 29 #[.val (.int p0), .val (.int p1), .val (.int p2), .val (.int tt), .unset, .unset, .unset, .unset, .unset, .unset, .unset] [(.int p1)])) rfl (hb hby at_29) _ ?_
      show Steps p.tables e below (s₁.setTop (mkF m 31 #[.val (.int p0), .val (.int p1), .val (.int p2), .val (.int tt), .unset, .unset, .unset, .unset, .unset, .unset, .unset] [(.int (65535 : Int32)), (.int p1)])) _
      refine XS.iand X0.here hx rfl (hb hby at_31) rfl ?_
      show Steps p.tables e below (s₁.setTop (mkF m 32 #[.val (.int p0), .val (.int p1), .val (.int p2), .val (.int tt), .unset, .unset, .unset, .unset, .unset, .unset, .unset] [(.int (p1 &&& (65535 : Int32)))])) _
      refine XS.i2c X0.here hx rfl (hb hby at_32) rfl ?_
      show Steps p.tables e below (s₁.setTop (mkF m 33 #[.val (.int p0), .val (.int p1), .val (.int p2), .val (.int tt), .unset, .unset, .unset, .unset, .unset, .unset, .unset] [(.int ((p1 &&& (65535 : Int32)).toUInt32.toUInt16.toUInt32.toInt32))])) _
      refine XS.istore X0.here hx rfl (hb hby at_33) rfl (l' := #[.val (.int p0), .val (.int p1), .val (.int p2), .val (.int tt), .val (.int ((p1 &&& (65535 : Int32)).toUInt32.toUInt16.toUInt32.toInt32)), .unset, .unset, .unset, .unset, .unset, .unset]) rfl ?_
      show Steps p.tables e below (s₁.setTop (mkF m 35 #[.val (.int p0), .val (.int p1), .val (.int p2), .val (.int tt), .val (.int ((p1 &&& (65535 : Int32)).toUInt32.toUInt16.toUInt32.toInt32)), .unset, .unset, .unset, .unset, .unset, .unset] [])) _
      refine XS.iloadN X0.here hx rfl (hb hby at_35) rfl ?_
      show Steps p.tables e below (s₁.setTop (mkF m 36 #[.val (.int p0), .val (.int p1), .val (.int p2), .val (.int tt), .val (.int ((p1 &&& (65535 : Int32)).toUInt32.toUInt16.toUInt32.toInt32)), .unset, .unset, .unset, .unset, .unset, .unset] [(.int p2)])) _
      refine X0.ldcInt hx hown (mvT hZ (hw _ (List.mem_of_getElem? (i := 1) rfl))) (g := (mkF m 36 #[.val (.int p0), .val (.int p1), .val (.int p2), .val (.int tt), .val (.int ((p1 &&& (65535 : Int32)).toUInt32.toUInt16.toUInt32.toInt32)), .unset, .unset, .unset, .unset, .unset, .unset] [(.int p2)])) rfl (hb hby at_36) _ ?_
      show Steps p.tables e below (s₁.setTop (mkF m 38 #[.val (.int p0), .val (.int p1), .val (.int p2), .val (.int tt), .val (.int ((p1 &&& (65535 : Int32)).toUInt32.toUInt16.toUInt32.toInt32)), .unset, .unset, .unset, .unset, .unset, .unset] [(.int (65535 : Int32)), (.int p2)])) _
      refine XS.iand X0.here hx rfl (hb hby at_38) rfl ?_
      show Steps p.tables e below (s₁.setTop (mkF m 39 #[.val (.int p0), .val (.int p1), .val (.int p2), .val (.int tt), .val (.int ((p1 &&& (65535 : Int32)).toUInt32.toUInt16.toUInt32.toInt32)), .unset, .unset, .unset, .unset, .unset, .unset] [(.int (p2 &&& (65535 : Int32)))])) _
      refine XS.i2c X0.here hx rfl (hb hby at_39) rfl ?_
      show Steps p.tables e below (s₁.setTop (mkF m 40 #[.val (.int p0), .val (.int p1), .val (.int p2), .val (.int tt), .val (.int ((p1 &&& (65535 : Int32)).toUInt32.toUInt16.toUInt32.toInt32)), .unset, .unset, .unset, .unset, .unset, .unset] [(.int ((p2 &&& (65535 : Int32)).toUInt32.toUInt16.toUInt32.toInt32))])) _
      refine XS.istore X0.here hx rfl (hb hby at_40) rfl (l' := #[.val (.int p0), .val (.int p1), .val (.int p2), .val (.int tt), .val (.int ((p1 &&& (65535 : Int32)).toUInt32.toUInt16.toUInt32.toInt32)), .val (.int ((p2 &&& (65535 : Int32)).toUInt32.toUInt16.toUInt32.toInt32)), .unset, .unset, .unset, .unset, .unset]) rfl ?_
      exact k)
    obtain ⟨T35, h35, X35, e35, E35, A35, D35, -, st35⟩ := newO X0 hx hZ hown (hw _ (List.mem_of_getElem? (i := 2) rfl)) (hw _ (List.mem_of_getElem? (i := 3) rfl)) (hw _ (List.mem_of_getElem? (i := 4) rfl)) e0 (g := (mkF m 42 #[.val (.int p0), .val (.int p1), .val (.int p2), .val (.int tt), .val (.int ((p1 &&& (65535 : Int32)).toUInt32.toUInt16.toUInt32.toInt32)), .val (.int ((p2 &&& (65535 : Int32)).toUInt32.toUInt16.toUInt32.toInt32)), .unset, .unset, .unset, .unset, .unset] [])) rfl (hb hby at_42) (by decide) (by decide)
    obtain ⟨b35, g35⟩ : ∃ z, z = h0.size := ⟨_, rfl⟩
    rw [← g35] at A35 D35 st35
    have g_b35 : n0 ≤ b35 := Nat.le_trans Z0 (Nat.le_of_eq g35.symm)
    have sz_b35 : h0.size ≤ b35 := Nat.le_trans K0.1 (Nat.le_of_eq g35.symm)
    have F35_table : Fld Z h35 b35 "com/example/packetsieve/packetsieve/packet/Symbol" "table" "C" (.int (0 : Int32)) := D35 (Or.inr (hw _ (List.mem_of_getElem? (i := 17) rfl))) (ty := .char) (by decide)
    have F35_code : Fld Z h35 b35 "com/example/packetsieve/packetsieve/packet/Symbol" "code" "C" (.int (0 : Int32)) := D35 (Or.inr (hw _ (List.mem_of_getElem? (i := 19) rfl))) (ty := .char) (by decide)
    have Z35 : n0 ≤ h35.size := Nat.le_trans Z0 E35.1
    have K35 := K0.ext E35
    have go35 := go34.step (C := T35.setTop (mkF m 45 #[.val (.int p0), .val (.int p1), .val (.int p2), .val (.int tt), .val (.int ((p1 &&& (65535 : Int32)).toUInt32.toUInt16.toUInt32.toInt32)), .val (.int ((p2 &&& (65535 : Int32)).toUInt32.toUInt16.toUInt32.toInt32)), .unset, .unset, .unset, .unset, .unset] [(.ref b35)])) (fun t k => st35 t k)
    have go36 := go35.step (C := T35.setTop (mkF m 49 #[.val (.int p0), .val (.int p1), .val (.int p2), .val (.int tt), .val (.int ((p1 &&& (65535 : Int32)).toUInt32.toUInt16.toUInt32.toInt32)), .val (.int ((p2 &&& (65535 : Int32)).toUInt32.toUInt16.toUInt32.toInt32)), .unset, .unset, .unset, .unset, .unset] [(.int ((p1 &&& (65535 : Int32)).toUInt32.toUInt16.toUInt32.toInt32)), (.int tt), (.ref b35), (.ref b35)])) (fun t k => by
      show Steps p.tables e below (T35.setTop (mkF m 45 #[.val (.int p0), .val (.int p1), .val (.int p2), .val (.int tt), .val (.int ((p1 &&& (65535 : Int32)).toUInt32.toUInt16.toUInt32.toInt32)), .val (.int ((p2 &&& (65535 : Int32)).toUInt32.toUInt16.toUInt32.toInt32)), .unset, .unset, .unset, .unset, .unset] [(.ref b35)])) _
      refine XS.dup X35.here hx rfl (hb hby at_45) rfl rfl ?_
      show Steps p.tables e below (T35.setTop (mkF m 46 #[.val (.int p0), .val (.int p1), .val (.int p2), .val (.int tt), .val (.int ((p1 &&& (65535 : Int32)).toUInt32.toUInt16.toUInt32.toInt32)), .val (.int ((p2 &&& (65535 : Int32)).toUInt32.toUInt16.toUInt32.toInt32)), .unset, .unset, .unset, .unset, .unset] [(.ref b35), (.ref b35)])) _
      refine XS.iloadN X35.here hx rfl (hb hby at_46) rfl ?_
      show Steps p.tables e below (T35.setTop (mkF m 47 #[.val (.int p0), .val (.int p1), .val (.int p2), .val (.int tt), .val (.int ((p1 &&& (65535 : Int32)).toUInt32.toUInt16.toUInt32.toInt32)), .val (.int ((p2 &&& (65535 : Int32)).toUInt32.toUInt16.toUInt32.toInt32)), .unset, .unset, .unset, .unset, .unset] [(.int tt), (.ref b35), (.ref b35)])) _
      refine XS.iload X35.here hx rfl (hb hby at_47) rfl ?_
      exact k)
    obtain ⟨_, _, ⟨T37, L37, k37, n37⟩, -, X37, ⟨Lc37, hQ37, l37, y37, z37⟩, st37⟩ := X35.specialBack hx (y := (⟨"com/example/packetsieve/packetsieve/packet/Symbol", "<init>", "(CC)V"⟩ : MethodName)) rfl hown (mvT hZ (hw _ (List.mem_of_getElem? (i := 5) rfl))) (mvT hZ (hw _ (List.mem_of_getElem? (i := 6) rfl))) (mvT hZ (hw _ (List.mem_of_getElem? (i := 7) rfl))) (by decide) (backOf (W := 1) (rm1 l Z a0 hw [] b35 tt ((p1 &&& (65535 : Int32)).toUInt32.toUInt16.toUInt32.toInt32) h35 n0 Z35 A35 g_b35 F35_table F35_code) hZ (hw _ (List.mem_of_getElem? (i := 7) rfl)) (hw _ (List.mem_of_getElem? (i := 4) rfl)) (by decide) (by decide)) (g := (mkF m 49 #[.val (.int p0), .val (.int p1), .val (.int p2), .val (.int tt), .val (.int ((p1 &&& (65535 : Int32)).toUInt32.toUInt16.toUInt32.toInt32)), .val (.int ((p2 &&& (65535 : Int32)).toUInt32.toUInt16.toUInt32.toInt32)), .unset, .unset, .unset, .unset, .unset] [(.int ((p1 &&& (65535 : Int32)).toUInt32.toUInt16.toUInt32.toInt32)), (.int tt), (.ref b35), (.ref b35)])) rfl (by rw [hml]; rfl) (Steps.refl _) (a := b35) (argsL := [(.int tt), (.int ((p1 &&& (65535 : Int32)).toUInt32.toUInt16.toUInt32.toInt32))]) (rest := [(.ref b35)]) (lenOf pd0_0 rfl) rfl (by show 2 * 0 + _ ≤ _; exact Nat.le_of_eq rfl) (hb hby at_49) (fun _ _ => ⟨rfl, e35, (by decide : 1 + 0 ≤ _), (by decide : 2 + 0 ≤ _)⟩)
    dsimp only [Pt.U, Pt.locs, Pt.cells, Pt.slots] at X37 l37 y37 z37 st37 hQ37
    subst l37 y37 z37
    obtain ⟨rfl, N37q, K37, qp37_0, qp37_1, qp37_2⟩ := hQ37
    have N37 := Fr.app N0 N37q
    have f38 := A35.keep K37
    have Z37 : n0 ≤ T37.heap.size := Nat.le_trans Z35 K37.1
    have KK37 := K35.trans K37 (allS (Or.inr sz_b35) all0)
    have go37 := go36.tr (C := T37.setTop (mkF m 52 #[.val (.int p0), .val (.int p1), .val (.int p2), .val (.int tt), .val (.int ((p1 &&& (65535 : Int32)).toUInt32.toUInt16.toUInt32.toInt32)), .val (.int ((p2 &&& (65535 : Int32)).toUInt32.toUInt16.toUInt32.toInt32)), .unset, .unset, .unset, .unset, .unset] [(.ref b35)])) st37
    have go41 := go37.step (C := T37.setTop (mkF m 54 #[.val (.int p0), .val (.int p1), .val (.int p2), .val (.int tt), .val (.int ((p1 &&& (65535 : Int32)).toUInt32.toUInt16.toUInt32.toInt32)), .val (.int ((p2 &&& (65535 : Int32)).toUInt32.toUInt16.toUInt32.toInt32)), .val (.ref b35), .unset, .unset, .unset, .unset] [])) (fun t k => by
      show Steps p.tables e below (T37.setTop (mkF m 52 #[.val (.int p0), .val (.int p1), .val (.int p2), .val (.int tt), .val (.int ((p1 &&& (65535 : Int32)).toUInt32.toUInt16.toUInt32.toInt32)), .val (.int ((p2 &&& (65535 : Int32)).toUInt32.toUInt16.toUInt32.toInt32)), .unset, .unset, .unset, .unset, .unset] [(.ref b35)])) _
      refine XS.astore X37.here hx rfl (hb hby at_52) rfl rfl (l' := #[.val (.int p0), .val (.int p1), .val (.int p2), .val (.int tt), .val (.int ((p1 &&& (65535 : Int32)).toUInt32.toUInt16.toUInt32.toInt32)), .val (.int ((p2 &&& (65535 : Int32)).toUInt32.toUInt16.toUInt32.toInt32)), .val (.ref b35), .unset, .unset, .unset, .unset]) rfl ?_
      exact k)
    obtain ⟨T42, h42, X42, e42, E42, A42, D42, -, st42⟩ := newO X37 hx hZ hown (hw _ (List.mem_of_getElem? (i := 2) rfl)) (hw _ (List.mem_of_getElem? (i := 3) rfl)) (hw _ (List.mem_of_getElem? (i := 4) rfl)) rfl (g := (mkF m 54 #[.val (.int p0), .val (.int p1), .val (.int p2), .val (.int tt), .val (.int ((p1 &&& (65535 : Int32)).toUInt32.toUInt16.toUInt32.toInt32)), .val (.int ((p2 &&& (65535 : Int32)).toUInt32.toUInt16.toUInt32.toInt32)), .val (.ref b35), .unset, .unset, .unset, .unset] [])) rfl (hb hby at_54) (by decide) (by decide)
    obtain ⟨b42, g42⟩ : ∃ z, z = T37.heap.size := ⟨_, rfl⟩
    rw [← g42] at A42 D42 st42
    have ne_b35_b42 : b35 ≠ b42 := Nat.ne_of_lt (Nat.lt_of_lt_of_le qp37_0.lt (Nat.le_of_eq g42.symm))
    have g_b42 : n0 ≤ b42 := Nat.le_trans Z37 (Nat.le_of_eq g42.symm)
    have sz_b42 : h0.size ≤ b42 := Nat.le_trans KK37.1 (Nat.le_of_eq g42.symm)
    have f43 := qp37_0.ext E42
    have f44 := qp37_1.ext E42
    have f45 := qp37_2.ext E42
    have F42_table : Fld Z h42 b42 "com/example/packetsieve/packetsieve/packet/Symbol" "table" "C" (.int (0 : Int32)) := D42 (Or.inr (hw _ (List.mem_of_getElem? (i := 17) rfl))) (ty := .char) (by decide)
    have F42_code : Fld Z h42 b42 "com/example/packetsieve/packetsieve/packet/Symbol" "code" "C" (.int (0 : Int32)) := D42 (Or.inr (hw _ (List.mem_of_getElem? (i := 19) rfl))) (ty := .char) (by decide)
    have Z42 : n0 ≤ h42.size := Nat.le_trans Z37 E42.1
    have K42 := KK37.ext E42
    have go42 := go41.step (C := T42.setTop (mkF m 57 #[.val (.int p0), .val (.int p1), .val (.int p2), .val (.int tt), .val (.int ((p1 &&& (65535 : Int32)).toUInt32.toUInt16.toUInt32.toInt32)), .val (.int ((p2 &&& (65535 : Int32)).toUInt32.toUInt16.toUInt32.toInt32)), .val (.ref b35), .unset, .unset, .unset, .unset] [(.ref b42)])) (fun t k => st42 t k)
    have go46 := go42.step (C := T42.setTop (mkF m 61 #[.val (.int p0), .val (.int p1), .val (.int p2), .val (.int tt), .val (.int ((p1 &&& (65535 : Int32)).toUInt32.toUInt16.toUInt32.toInt32)), .val (.int ((p2 &&& (65535 : Int32)).toUInt32.toUInt16.toUInt32.toInt32)), .val (.ref b35), .unset, .unset, .unset, .unset] [(.int ((p2 &&& (65535 : Int32)).toUInt32.toUInt16.toUInt32.toInt32)), (.int tt), (.ref b42), (.ref b42)])) (fun t k => by
      show Steps p.tables e below (T42.setTop (mkF m 57 #[.val (.int p0), .val (.int p1), .val (.int p2), .val (.int tt), .val (.int ((p1 &&& (65535 : Int32)).toUInt32.toUInt16.toUInt32.toInt32)), .val (.int ((p2 &&& (65535 : Int32)).toUInt32.toUInt16.toUInt32.toInt32)), .val (.ref b35), .unset, .unset, .unset, .unset] [(.ref b42)])) _
      refine XS.dup X42.here hx rfl (hb hby at_57) rfl rfl ?_
      show Steps p.tables e below (T42.setTop (mkF m 58 #[.val (.int p0), .val (.int p1), .val (.int p2), .val (.int tt), .val (.int ((p1 &&& (65535 : Int32)).toUInt32.toUInt16.toUInt32.toInt32)), .val (.int ((p2 &&& (65535 : Int32)).toUInt32.toUInt16.toUInt32.toInt32)), .val (.ref b35), .unset, .unset, .unset, .unset] [(.ref b42), (.ref b42)])) _
      refine XS.iloadN X42.here hx rfl (hb hby at_58) rfl ?_
      show Steps p.tables e below (T42.setTop (mkF m 59 #[.val (.int p0), .val (.int p1), .val (.int p2), .val (.int tt), .val (.int ((p1 &&& (65535 : Int32)).toUInt32.toUInt16.toUInt32.toInt32)), .val (.int ((p2 &&& (65535 : Int32)).toUInt32.toUInt16.toUInt32.toInt32)), .val (.ref b35), .unset, .unset, .unset, .unset] [(.int tt), (.ref b42), (.ref b42)])) _
      refine XS.iload X42.here hx rfl (hb hby at_59) rfl ?_
      exact k)
    obtain ⟨_, _, ⟨T47, L47, k47, n47⟩, -, X47, ⟨Lc47, hQ47, l47, y47, z47⟩, st47⟩ := X42.specialBack hx (y := (⟨"com/example/packetsieve/packetsieve/packet/Symbol", "<init>", "(CC)V"⟩ : MethodName)) rfl hown (mvT hZ (hw _ (List.mem_of_getElem? (i := 5) rfl))) (mvT hZ (hw _ (List.mem_of_getElem? (i := 6) rfl))) (mvT hZ (hw _ (List.mem_of_getElem? (i := 7) rfl))) (by decide) (backOf (W := 1) (rm1 l Z a0 hw [] b42 tt ((p2 &&& (65535 : Int32)).toUInt32.toUInt16.toUInt32.toInt32) h42 n0 Z42 A42 g_b42 F42_table F42_code) hZ (hw _ (List.mem_of_getElem? (i := 7) rfl)) (hw _ (List.mem_of_getElem? (i := 4) rfl)) (by decide) (by decide)) (g := (mkF m 61 #[.val (.int p0), .val (.int p1), .val (.int p2), .val (.int tt), .val (.int ((p1 &&& (65535 : Int32)).toUInt32.toUInt16.toUInt32.toInt32)), .val (.int ((p2 &&& (65535 : Int32)).toUInt32.toUInt16.toUInt32.toInt32)), .val (.ref b35), .unset, .unset, .unset, .unset] [(.int ((p2 &&& (65535 : Int32)).toUInt32.toUInt16.toUInt32.toInt32)), (.int tt), (.ref b42), (.ref b42)])) rfl (by rw [hml]; rfl) (Steps.refl _) (a := b42) (argsL := [(.int tt), (.int ((p2 &&& (65535 : Int32)).toUInt32.toUInt16.toUInt32.toInt32))]) (rest := [(.ref b42)]) (lenOf pd0_0 rfl) rfl (by show 2 * 0 + _ ≤ _; exact Nat.le_of_eq rfl) (hb hby at_61) (fun _ _ => ⟨rfl, e42, (by decide : 2 + 0 ≤ _), (by decide : 4 + 0 ≤ _)⟩)
    dsimp only [Pt.U, Pt.locs, Pt.cells, Pt.slots] at X47 l47 y47 z47 st47 hQ47
    subst l47 y47 z47
    obtain ⟨rfl, N47q, K47, qp47_0, qp47_1, qp47_2⟩ := hQ47
    have N47 := Fr.app N37 N47q
    have f48 := f43.keep K47
    have f49 := f44.keep K47 (ninS ne_b35_b42 nin0)
    have f50 := f45.keep K47 (ninS ne_b35_b42 nin0)
    have f51 := A42.keep K47
    have Z47 : n0 ≤ T47.heap.size := Nat.le_trans Z42 K47.1
    have KK47 := K42.trans K47 (allS (Or.inr sz_b42) all0)
    have go47 := go46.tr (C := T47.setTop (mkF m 64 #[.val (.int p0), .val (.int p1), .val (.int p2), .val (.int tt), .val (.int ((p1 &&& (65535 : Int32)).toUInt32.toUInt16.toUInt32.toInt32)), .val (.int ((p2 &&& (65535 : Int32)).toUInt32.toUInt16.toUInt32.toInt32)), .val (.ref b35), .unset, .unset, .unset, .unset] [(.ref b42)])) st47
    have go54 := go47.step (C := T47.setTop (mkF m 68 #[.val (.int p0), .val (.int p1), .val (.int p2), .val (.int tt), .val (.int ((p1 &&& (65535 : Int32)).toUInt32.toUInt16.toUInt32.toInt32)), .val (.int ((p2 &&& (65535 : Int32)).toUInt32.toUInt16.toUInt32.toInt32)), .val (.ref b35), .val (.ref b42), .unset, .unset, .unset] [(.ref b35)])) (fun t k => by
      show Steps p.tables e below (T47.setTop (mkF m 64 #[.val (.int p0), .val (.int p1), .val (.int p2), .val (.int tt), .val (.int ((p1 &&& (65535 : Int32)).toUInt32.toUInt16.toUInt32.toInt32)), .val (.int ((p2 &&& (65535 : Int32)).toUInt32.toUInt16.toUInt32.toInt32)), .val (.ref b35), .unset, .unset, .unset, .unset] [(.ref b42)])) _
      refine XS.astore X47.here hx rfl (hb hby at_64) rfl rfl (l' := #[.val (.int p0), .val (.int p1), .val (.int p2), .val (.int tt), .val (.int ((p1 &&& (65535 : Int32)).toUInt32.toUInt16.toUInt32.toInt32)), .val (.int ((p2 &&& (65535 : Int32)).toUInt32.toUInt16.toUInt32.toInt32)), .val (.ref b35), .val (.ref b42), .unset, .unset, .unset]) rfl ?_
      show Steps p.tables e below (T47.setTop (mkF m 66 #[.val (.int p0), .val (.int p1), .val (.int p2), .val (.int tt), .val (.int ((p1 &&& (65535 : Int32)).toUInt32.toUInt16.toUInt32.toInt32)), .val (.int ((p2 &&& (65535 : Int32)).toUInt32.toUInt16.toUInt32.toInt32)), .val (.ref b35), .val (.ref b42), .unset, .unset, .unset] [])) _
      refine XS.aload X47.here hx rfl (hb hby at_66) rfl rfl ?_
      exact k)
    obtain ⟨cq55, kq55, q55a, q55b, q55c⟩ := isOf hZ rfl f48
    obtain ⟨_, _, ⟨T55, L55, k55, n55⟩, -, X55, ⟨Lc55, hQ55, l55, y55, z55⟩, st55⟩ := X47.virtualBack hx (y := (⟨"com/example/packetsieve/packetsieve/packet/Symbol", "hasOverlay", "()Z"⟩ : MethodName)) (z := (⟨"com/example/packetsieve/packetsieve/packet/Symbol", "hasOverlay", "()Z"⟩ : MethodName)) hown (mvT hZ (hw _ (List.mem_of_getElem? (i := 20) rfl))) (mvT hZ (hw _ (List.mem_of_getElem? (i := 21) rfl))) (notFace_of_selects (args := #[]) (mvT hZ (hw _ (List.mem_of_getElem? (i := 23) rfl)))) (mvT hZ (hw _ (List.mem_of_getElem? (i := 23) rfl))) (mvT hZ (hw _ (List.mem_of_getElem? (i := 22) rfl))) (by decide) (backOf (W := 0) (rm4 l Z a0 hw [] b35 (nar .char tt) T47.heap n0 Z47 f49) hZ (hw _ (List.mem_of_getElem? (i := 24) rfl)) (hw _ (List.mem_of_getElem? (i := 4) rfl)) (by decide) (by decide)) q55a q55c (g := (mkF m 68 #[.val (.int p0), .val (.int p1), .val (.int p2), .val (.int tt), .val (.int ((p1 &&& (65535 : Int32)).toUInt32.toUInt16.toUInt32.toInt32)), .val (.int ((p2 &&& (65535 : Int32)).toUInt32.toUInt16.toUInt32.toInt32)), .val (.ref b35), .val (.ref b42), .unset, .unset, .unset] [(.ref b35)])) rfl (by rw [hml]; rfl) (Steps.refl _) (argsL := []) (rest := []) (lenOf pd0_1 rfl) rfl (by show 2 * 0 + _ ≤ _; exact Nat.le_of_eq rfl) (hb hby at_68) (fun _ _ => ⟨rfl, rfl, (by decide : 2 + 0 ≤ _), (by decide : 4 + 0 ≤ _)⟩)
    dsimp only [Pt.U, Pt.locs, Pt.cells, Pt.slots] at X55 l55 y55 z55 st55 hQ55
    subst l55 y55 z55
    obtain ⟨rfl, N55q, e55⟩ := hQ55
    have N55 := Fr.app N47 N55q
    have go55 := go54.tr (C := T55.setTop (mkF m 71 #[.val (.int p0), .val (.int p1), .val (.int p2), .val (.int tt), .val (.int ((p1 &&& (65535 : Int32)).toUInt32.toUInt16.toUInt32.toInt32)), .val (.int ((p2 &&& (65535 : Int32)).toUInt32.toUInt16.toUInt32.toInt32)), .val (.ref b35), .val (.ref b42), .unset, .unset, .unset] [(.int (own_has (nar .char tt)))])) st55
    have go56 := go55.step (C := T55.setTop (mkF m 75 #[.val (.int p0), .val (.int p1), .val (.int p2), .val (.int tt), .val (.int ((p1 &&& (65535 : Int32)).toUInt32.toUInt16.toUInt32.toInt32)), .val (.int ((p2 &&& (65535 : Int32)).toUInt32.toUInt16.toUInt32.toInt32)), .val (.ref b35), .val (.ref b42), .val (.int (own_has (nar .char tt))), .unset, .unset] [(.ref b42)])) (fun t k => by
      show Steps p.tables e below (T55.setTop (mkF m 71 #[.val (.int p0), .val (.int p1), .val (.int p2), .val (.int tt), .val (.int ((p1 &&& (65535 : Int32)).toUInt32.toUInt16.toUInt32.toInt32)), .val (.int ((p2 &&& (65535 : Int32)).toUInt32.toUInt16.toUInt32.toInt32)), .val (.ref b35), .val (.ref b42), .unset, .unset, .unset] [(.int (own_has (nar .char tt)))])) _
      refine XS.istore X55.here hx rfl (hb hby at_71) rfl (l' := #[.val (.int p0), .val (.int p1), .val (.int p2), .val (.int tt), .val (.int ((p1 &&& (65535 : Int32)).toUInt32.toUInt16.toUInt32.toInt32)), .val (.int ((p2 &&& (65535 : Int32)).toUInt32.toUInt16.toUInt32.toInt32)), .val (.ref b35), .val (.ref b42), .val (.int (own_has (nar .char tt))), .unset, .unset]) rfl ?_
      show Steps p.tables e below (T55.setTop (mkF m 73 #[.val (.int p0), .val (.int p1), .val (.int p2), .val (.int tt), .val (.int ((p1 &&& (65535 : Int32)).toUInt32.toUInt16.toUInt32.toInt32)), .val (.int ((p2 &&& (65535 : Int32)).toUInt32.toUInt16.toUInt32.toInt32)), .val (.ref b35), .val (.ref b42), .val (.int (own_has (nar .char tt))), .unset, .unset] [])) _
      refine XS.aload X55.here hx rfl (hb hby at_73) rfl rfl ?_
      exact k)
    obtain ⟨cq57, kq57, q57a, q57b, q57c⟩ := isOf hZ e55 qp47_0
    obtain ⟨_, _, ⟨T57, L57, k57, n57⟩, -, X57, ⟨Lc57, hQ57, l57, y57, z57⟩, st57⟩ := X55.virtualBack hx (y := (⟨"com/example/packetsieve/packetsieve/packet/Symbol", "hasOverlay", "()Z"⟩ : MethodName)) (z := (⟨"com/example/packetsieve/packetsieve/packet/Symbol", "hasOverlay", "()Z"⟩ : MethodName)) hown (mvT hZ (hw _ (List.mem_of_getElem? (i := 20) rfl))) (mvT hZ (hw _ (List.mem_of_getElem? (i := 21) rfl))) (notFace_of_selects (args := #[]) (mvT hZ (hw _ (List.mem_of_getElem? (i := 23) rfl)))) (mvT hZ (hw _ (List.mem_of_getElem? (i := 23) rfl))) (mvT hZ (hw _ (List.mem_of_getElem? (i := 22) rfl))) (by decide) (backOf (W := 0) (rm4 l Z a0 hw [] b42 (nar .char tt) T47.heap n0 Z47 qp47_1) hZ (hw _ (List.mem_of_getElem? (i := 24) rfl)) (hw _ (List.mem_of_getElem? (i := 4) rfl)) (by decide) (by decide)) q57a q57c (g := (mkF m 75 #[.val (.int p0), .val (.int p1), .val (.int p2), .val (.int tt), .val (.int ((p1 &&& (65535 : Int32)).toUInt32.toUInt16.toUInt32.toInt32)), .val (.int ((p2 &&& (65535 : Int32)).toUInt32.toUInt16.toUInt32.toInt32)), .val (.ref b35), .val (.ref b42), .val (.int (own_has (nar .char tt))), .unset, .unset] [(.ref b42)])) rfl (by rw [hml]; rfl) (Steps.refl _) (argsL := []) (rest := []) (lenOf pd0_1 rfl) rfl (by show 2 * 0 + _ ≤ _; exact Nat.le_of_eq rfl) (hb hby at_75) (fun _ _ => ⟨rfl, e55, (by decide : 2 + 0 ≤ _), (by decide : 4 + 0 ≤ _)⟩)
    dsimp only [Pt.U, Pt.locs, Pt.cells, Pt.slots] at X57 l57 y57 z57 st57 hQ57
    subst l57 y57 z57
    obtain ⟨rfl, N57q, e57⟩ := hQ57
    have N57 := Fr.app N55 N57q
    have go57 := go56.tr (C := T57.setTop (mkF m 78 #[.val (.int p0), .val (.int p1), .val (.int p2), .val (.int tt), .val (.int ((p1 &&& (65535 : Int32)).toUInt32.toUInt16.toUInt32.toInt32)), .val (.int ((p2 &&& (65535 : Int32)).toUInt32.toUInt16.toUInt32.toInt32)), .val (.ref b35), .val (.ref b42), .val (.int (own_has (nar .char tt))), .unset, .unset] [(.int (own_has (nar .char tt)))])) st57
    have go58 := go57.step (C := T57.setTop (mkF m 81 #[.val (.int p0), .val (.int p1), .val (.int p2), .val (.int tt), .val (.int ((p1 &&& (65535 : Int32)).toUInt32.toUInt16.toUInt32.toInt32)), .val (.int ((p2 &&& (65535 : Int32)).toUInt32.toUInt16.toUInt32.toInt32)), .val (.ref b35), .val (.ref b42), .val (.int (own_has (nar .char tt))), .val (.int (own_has (nar .char tt))), .unset] [(.int tt)])) (fun t k => by
      show Steps p.tables e below (T57.setTop (mkF m 78 #[.val (.int p0), .val (.int p1), .val (.int p2), .val (.int tt), .val (.int ((p1 &&& (65535 : Int32)).toUInt32.toUInt16.toUInt32.toInt32)), .val (.int ((p2 &&& (65535 : Int32)).toUInt32.toUInt16.toUInt32.toInt32)), .val (.ref b35), .val (.ref b42), .val (.int (own_has (nar .char tt))), .unset, .unset] [(.int (own_has (nar .char tt)))])) _
      refine XS.istore X57.here hx rfl (hb hby at_78) rfl (l' := #[.val (.int p0), .val (.int p1), .val (.int p2), .val (.int tt), .val (.int ((p1 &&& (65535 : Int32)).toUInt32.toUInt16.toUInt32.toInt32)), .val (.int ((p2 &&& (65535 : Int32)).toUInt32.toUInt16.toUInt32.toInt32)), .val (.ref b35), .val (.ref b42), .val (.int (own_has (nar .char tt))), .val (.int (own_has (nar .char tt))), .unset]) rfl ?_
      show Steps p.tables e below (T57.setTop (mkF m 80 #[.val (.int p0), .val (.int p1), .val (.int p2), .val (.int tt), .val (.int ((p1 &&& (65535 : Int32)).toUInt32.toUInt16.toUInt32.toInt32)), .val (.int ((p2 &&& (65535 : Int32)).toUInt32.toUInt16.toUInt32.toInt32)), .val (.ref b35), .val (.ref b42), .val (.int (own_has (nar .char tt))), .val (.int (own_has (nar .char tt))), .unset] [])) _
      refine XS.iloadN X57.here hx rfl (hb hby at_80) rfl ?_
      exact k)
    obtain ⟨_, _, ⟨T59, L59, k59, n59⟩, -, X59, ⟨Lc59, hQ59, l59, y59, z59⟩, st59⟩ := Jvm.LawKit.callS X57 hx (y := (⟨"com/example/packetsieve/packetsieve/packet/SymbolHasOverlayPinLaw", "expected", "(C)Z"⟩ : MethodName)) hown (mvT hZ (hw _ (List.mem_of_getElem? (i := 25) rfl))) (mvT hZ (hw _ (List.mem_of_getElem? (i := 26) rfl))) (mvT hZ (hw _ (List.mem_of_getElem? (i := 27) rfl))) (mvT hZ (hw _ (List.mem_of_getElem? (i := 28) rfl))) (by decide) (backOf (W := 0) (rm5 l Z a0 hw [] tt T47.heap n0 Z47 ) hZ (hw _ (List.mem_of_getElem? (i := 28) rfl)) (hw _ (List.mem_of_getElem? (i := 27) rfl)) (by decide) (by decide)) (g := (mkF m 81 #[.val (.int p0), .val (.int p1), .val (.int p2), .val (.int tt), .val (.int ((p1 &&& (65535 : Int32)).toUInt32.toUInt16.toUInt32.toInt32)), .val (.int ((p2 &&& (65535 : Int32)).toUInt32.toUInt16.toUInt32.toInt32)), .val (.ref b35), .val (.ref b42), .val (.int (own_has (nar .char tt))), .val (.int (own_has (nar .char tt))), .unset] [(.int tt)])) rfl (by rw [hml]; rfl) (argsL := [(.int tt)]) (rest := []) (lenOf pd0_2 rfl) rfl (by show 2 * 0 + _ ≤ _; exact Nat.le_of_eq rfl) (hb hby at_81) (fun _ _ => ⟨rfl, e57, (by decide : 2 + 0 ≤ _), (by decide : 4 + 0 ≤ _)⟩)
    dsimp only [Pt.U, Pt.locs, Pt.cells, Pt.slots] at X59 l59 y59 z59 st59 hQ59
    subst l59 y59 z59
    obtain ⟨rfl, N59q, e59⟩ := hQ59
    have N59 := Fr.app N57 N59q
    have go59 := go58.step (C := T59.setTop (mkF m 84 #[.val (.int p0), .val (.int p1), .val (.int p2), .val (.int tt), .val (.int ((p1 &&& (65535 : Int32)).toUInt32.toUInt16.toUInt32.toInt32)), .val (.int ((p2 &&& (65535 : Int32)).toUInt32.toUInt16.toUInt32.toInt32)), .val (.ref b35), .val (.ref b42), .val (.int (own_has (nar .char tt))), .val (.int (own_has (nar .char tt))), .unset] [(.int (own_exp tt))])) (fun t k => st59 t k)
    have go62 := go59.step (C := T59.setTop (mkF m 105 #[.val (.int p0), .val (.int p1), .val (.int p2), .val (.int tt), .val (.int ((p1 &&& (65535 : Int32)).toUInt32.toUInt16.toUInt32.toInt32)), .val (.int ((p2 &&& (65535 : Int32)).toUInt32.toUInt16.toUInt32.toInt32)), .val (.ref b35), .val (.ref b42), .val (.int (own_has (nar .char tt))), .val (.int (own_has (nar .char tt))), .val (.int (own_exp tt))] [(.int (1 : Int32))])) (fun t k => by
      show Steps p.tables e below (T59.setTop (mkF m 84 #[.val (.int p0), .val (.int p1), .val (.int p2), .val (.int tt), .val (.int ((p1 &&& (65535 : Int32)).toUInt32.toUInt16.toUInt32.toInt32)), .val (.int ((p2 &&& (65535 : Int32)).toUInt32.toUInt16.toUInt32.toInt32)), .val (.ref b35), .val (.ref b42), .val (.int (own_has (nar .char tt))), .val (.int (own_has (nar .char tt))), .unset] [(.int (own_exp tt))])) _
      refine XS.istore X59.here hx rfl (hb hby at_84) rfl (l' := #[.val (.int p0), .val (.int p1), .val (.int p2), .val (.int tt), .val (.int ((p1 &&& (65535 : Int32)).toUInt32.toUInt16.toUInt32.toInt32)), .val (.int ((p2 &&& (65535 : Int32)).toUInt32.toUInt16.toUInt32.toInt32)), .val (.ref b35), .val (.ref b42), .val (.int (own_has (nar .char tt))), .val (.int (own_has (nar .char tt))), .val (.int (own_exp tt))]) rfl ?_
      show Steps p.tables e below (T59.setTop (mkF m 86 #[.val (.int p0), .val (.int p1), .val (.int p2), .val (.int tt), .val (.int ((p1 &&& (65535 : Int32)).toUInt32.toUInt16.toUInt32.toInt32)), .val (.int ((p2 &&& (65535 : Int32)).toUInt32.toUInt16.toUInt32.toInt32)), .val (.ref b35), .val (.ref b42), .val (.int (own_has (nar .char tt))), .val (.int (own_has (nar .char tt))), .val (.int (own_exp tt))] [])) _
      refine XS.iload X59.here hx rfl (hb hby at_86) rfl ?_
      show Steps p.tables e below (T59.setTop (mkF m 88 #[.val (.int p0), .val (.int p1), .val (.int p2), .val (.int tt), .val (.int ((p1 &&& (65535 : Int32)).toUInt32.toUInt16.toUInt32.toInt32)), .val (.int ((p2 &&& (65535 : Int32)).toUInt32.toUInt16.toUInt32.toInt32)), .val (.ref b35), .val (.ref b42), .val (.int (own_has (nar .char tt))), .val (.int (own_has (nar .char tt))), .val (.int (own_exp tt))] [(.int (own_has (nar .char tt)))])) _
      refine XS.iload X59.here hx rfl (hb hby at_88) rfl ?_
      show Steps p.tables e below (T59.setTop (mkF m 90 #[.val (.int p0), .val (.int p1), .val (.int p2), .val (.int tt), .val (.int ((p1 &&& (65535 : Int32)).toUInt32.toUInt16.toUInt32.toInt32)), .val (.int ((p2 &&& (65535 : Int32)).toUInt32.toUInt16.toUInt32.toInt32)), .val (.ref b35), .val (.ref b42), .val (.int (own_has (nar .char tt))), .val (.int (own_has (nar .char tt))), .val (.int (own_exp tt))] [(.int (own_exp tt)), (.int (own_has (nar .char tt)))])) _
      refine XS.icmpNo X59.here hx rfl (hb hby at_90) rfl (teq ((by rw [hrt]; exact own_eq hrg) : (own_has (nar .char tt)) = (own_exp tt))).2 ?_
      show Steps p.tables e below (T59.setTop (mkF m 93 #[.val (.int p0), .val (.int p1), .val (.int p2), .val (.int tt), .val (.int ((p1 &&& (65535 : Int32)).toUInt32.toUInt16.toUInt32.toInt32)), .val (.int ((p2 &&& (65535 : Int32)).toUInt32.toUInt16.toUInt32.toInt32)), .val (.ref b35), .val (.ref b42), .val (.int (own_has (nar .char tt))), .val (.int (own_has (nar .char tt))), .val (.int (own_exp tt))] [])) _
      refine XS.iload X59.here hx rfl (hb hby at_93) rfl ?_
      show Steps p.tables e below (T59.setTop (mkF m 95 #[.val (.int p0), .val (.int p1), .val (.int p2), .val (.int tt), .val (.int ((p1 &&& (65535 : Int32)).toUInt32.toUInt16.toUInt32.toInt32)), .val (.int ((p2 &&& (65535 : Int32)).toUInt32.toUInt16.toUInt32.toInt32)), .val (.ref b35), .val (.ref b42), .val (.int (own_has (nar .char tt))), .val (.int (own_has (nar .char tt))), .val (.int (own_exp tt))] [(.int (own_has (nar .char tt)))])) _
      refine XS.iload X59.here hx rfl (hb hby at_95) rfl ?_
      show Steps p.tables e below (T59.setTop (mkF m 97 #[.val (.int p0), .val (.int p1), .val (.int p2), .val (.int tt), .val (.int ((p1 &&& (65535 : Int32)).toUInt32.toUInt16.toUInt32.toInt32)), .val (.int ((p2 &&& (65535 : Int32)).toUInt32.toUInt16.toUInt32.toInt32)), .val (.ref b35), .val (.ref b42), .val (.int (own_has (nar .char tt))), .val (.int (own_has (nar .char tt))), .val (.int (own_exp tt))] [(.int (own_exp tt)), (.int (own_has (nar .char tt)))])) _
      refine XS.icmpNo X59.here hx rfl (hb hby at_97) rfl (teq ((by rw [hrt]; exact own_eq hrg) : (own_has (nar .char tt)) = (own_exp tt))).2 ?_
      show Steps p.tables e below (T59.setTop (mkF m 100 #[.val (.int p0), .val (.int p1), .val (.int p2), .val (.int tt), .val (.int ((p1 &&& (65535 : Int32)).toUInt32.toUInt16.toUInt32.toInt32)), .val (.int ((p2 &&& (65535 : Int32)).toUInt32.toUInt16.toUInt32.toInt32)), .val (.ref b35), .val (.ref b42), .val (.int (own_has (nar .char tt))), .val (.int (own_has (nar .char tt))), .val (.int (own_exp tt))] [])) _
      refine XS.iconst X59.here hx rfl (hb hby at_100) ?_
      show Steps p.tables e below (T59.setTop (mkF m 101 #[.val (.int p0), .val (.int p1), .val (.int p2), .val (.int tt), .val (.int ((p1 &&& (65535 : Int32)).toUInt32.toUInt16.toUInt32.toInt32)), .val (.int ((p2 &&& (65535 : Int32)).toUInt32.toUInt16.toUInt32.toInt32)), .val (.ref b35), .val (.ref b42), .val (.int (own_has (nar .char tt))), .val (.int (own_has (nar .char tt))), .val (.int (own_exp tt))] [(.int (1 : Int32))])) _
      refine XS.goto X59.here hx rfl (pc0 := 101) (pc' := 105) rfl (hb hby at_101) (by decide) (by decide) ?_
      exact k)
    obtain ⟨fs, hr, hrun, hended, hW, hsame⟩ := X59.leave (v := some (.int (1 : Int32))) (fun h => by rw [Bd.returns] at h; cases h)
    refine ⟨_, _, go62 _ ?_, hrun, hended, _, _, rfl, ?_, ⟨_, rfl⟩, hW, hsame.mono (by decide) (by decide)⟩
    · exact retN X59 hx (t := .boolean) Bd.returns (by simp) (hb hby at_105) hr
    · show Q_rm0 Z p0 p1 p2 h0 n0 _ T59.heap _
      rw [e59]
      exact ⟨rfl, N59⟩
set_option maxRecDepth 65536 in
set_option maxHeartbeats 40000000 in
theorem comes_1 {Post : Tables → Env → Array Value → State → Outcome → State → Prop} (hpost : ∀ tb e args s v u, (limb_1_1.after args s (.returned v) u = true ∧ limb_1_2.after args s (.returned v) u = true ∧ True) → FrameEnd s (.returned v) u (Jvm.fieldLocs frame_1_writes args s ++ Jvm.arrayLocs frame_1_arrays args s ++ Jvm.staticLocs frame_1_statics s) 16 128 → Post tb e args s (.returned v) u) :
    ArmFor flags0 classFile x code maxLocals ret World_1 tables_1 room_1 Calls_1 rest_1 Pre_1 Post := by
  intro l hfl _ _ p e ha hc hk s m args below hf hA hF happ hP
  obtain ⟨hcalls, hrest, hpre⟩ := hP
  obtain ⟨-, -, -, hnamed, -, -, -, hat⟩ := (Spec.applies_iff hf).mp happ
  obtain ⟨hg, hn⟩ := and_e (Cond.before_iff.mp (show (Jvm.Cond.and given_1 narrow_1).before args s = true from hpre))
  obtain ⟨gg0, gr0⟩ := and_e hg
  obtain ⟨gg1, gr1⟩ := and_e gr0
  obtain ⟨gg2, gr2⟩ := and_e gr1
  obtain ⟨w0, w1, w2, rfl⟩ : ∃ w0 w1 w2 : Value, args = #[w0, w1, w2] := by
    have hs : args.size = 3 := by simpa [Cond.value, given_1] using gg0
    obtain ⟨L⟩ := args
    match L, hs with
    | [w0, w1, w2], _ => exact ⟨w0, w1, w2, rfl⟩
  have hw := fun d (hd : d ∈ tables_1) => atoms_spec (ws := Jvm.Cond.code x code maxLocals ret :: tables_1) hat d (List.mem_cons_of_mem _ hd)
  have hfit : Fit s := fun {y c} hc i hi => by
    obtain ⟨ha, rfl⟩ := Array.getElem?_eq_some_iff.mp hc
    have q := List.all_eq_true.mp ((Array.all_eq_true_iff_forall_mem.mp hF) _ (Array.getElem_mem ha)) i (List.mem_range.mpr hi)
    simpa [Array.getElem?_eq_getElem hi] using q
  obtain ⟨i0, ei0⟩ := is_v gg1
  obtain rfl : w0 = (.int i0) := Option.some.inj ei0
  obtain ⟨i1, ei1⟩ := is_v gg2
  obtain rfl : w1 = (.int i1) := Option.some.inj ei1
  obtain ⟨i2, ei2⟩ := is_v gr2
  obtain rfl : w2 = (.int i2) := Option.some.inj ei2
  obtain ⟨n, o, h1, h2, h3, _, L, rfl, ⟨rfl, N⟩, hq⟩ := rm0 l s _ hw tables_1 i0 i1 i2  s.heap s.heap.size (Nat.le_refl _)  p e ha hc hk s m _ below hf ((Spec.applies_iff_loose hf).mp happ).1 ⟨rfl, State.Warmed39.refl s, rfl⟩ trivial
  refine ⟨n, _, h1, h2, h3, hpost _ _ _ _ _ _ ⟨Cond.after_iff.mpr rfl, Cond.after_iff.mpr (eq_i res_at (Term.int_eval (1)) rfl), trivial⟩ ⟨hq.1, hq.2.1, (hq.2.2.sift fun y hy => Or.inr (N y hy)).mono (by decide) (by decide)⟩⟩
theorem main_1_1 : Claimed_1_1 := comes_1 fun _ _ _ _ _ _ h hF => ⟨h.1, hF⟩
theorem main_1_2 : Claimed_1_2 := comes_1 fun _ _ _ _ _ _ h hF => ⟨h.2.1, hF⟩
end Jvm.Pilot.@@N@@
namespace Jvm.Pilot.@@N@@
open Jvm Jvm.ClassFile Sem Op Lib Jvm.Free Jvm.Stand Jvm.Pilot.@@N@@.Jvm.D
/-! MADE BY PROGRAM (witnessworld.py) out of the Statement's table words and the real class files: 10 classes; the members and pool entries that the words name. The judged class is class 1, her method 2. -/
namespace start1
open Jvm.ClassFile
def u (s : String) : CpInfo := .utf8 (stringToUtf16 s)
/-- a pool by its gaps: so many unusable entries, then the entry; so many at the end -/
def gap : Nat → List CpInfo → List CpInfo
  | 0, r => r
  | n + 1, r => .unusable :: gap n r
def poolList (es : List (Nat × CpInfo)) (last : Nat) : List CpInfo := es.foldr (fun e r => gap e.1 (e.2 :: r)) (gap last [])
def pool (es : List (Nat × CpInfo)) (last : Nat) : Array CpInfo := ⟨poolList es last⟩
def fileOf (pool : Array CpInfo) (this : Nat) (attrs : Array Attribute := #[]) (ms : Array MethodInfo := #[]) (fl : Nat := 33) (sup : Nat := 0) (ifs : Array Nat := #[]) (fds : Array FieldInfo := #[]) : ClassFile where
  minorVersion := 0
  majorVersion := 65
  constantPool := pool
  accessFlags := fl
  thisClass := this
  superClass := sup
  interfaces := ifs
  fields := fds
  methods := ms
  attributes := attrs
def plain (name : String) (sup : Option ClassId) : Class where
  name := name
  kind := .ordinary
  loader := none
  accessFlags := 33
  super := sup
  interfaces := #[]
  cf := none
  fields := #[]
  methods := #[]
  instanceTypes := #[]
  staticTypes := #[]
  resolved := #[]
  callSites := []
  init := .initialized
  statics := none
  mirror := none

def pool0 : Array CpInfo := pool [(5, u "<init>"), (0, u "()V"), (1, .class_ 10), (1, u "java/lang/Object")] 113

def k0c0 : Code := { maxStack := 0, maxLocals := 1, code := object_method_1_code, exceptionTable := #[], attributes := #[] }
def k0m0 : Method := { name := "<init>", desc := "()V", sig := { parameters := [], returnType := none }, accessFlags := 1, code := some k0c0 }
/-- java/lang/Object -/
def k0 : Class := { plain "java/lang/Object" none with
  accessFlags := 33
  interfaces := #[]
  cf := some (fileOf pool0 8 #[] #[{ accessFlags := 1, nameIndex := 5, descriptorIndex := 6, attributes := #[] }] 33 0 #[] #[])
  fields := #[]
  methods := #[k0m0]
  instanceTypes := #[]
  staticTypes := #[]
  resolved := Array.replicate 124 none
  statics := none }

def pool1 : Array CpInfo := pool [(2, .class_ 4), (1, u "java/lang/Object"), (0, u "<init>"), (0, u "()V"), (0, .long 48), (1, .long 4294967295), (1, .long 65), (1, .long 10), (1, .long 26), (1, .integer 65536), (0, .integer 65535), (0, .class_ 20), (0, u "com/example/packetsieve/packetsieve/packet/Symbol"), (0, .methodref 19 22), (0, .nameAndType 5 23), (0, u "(CC)V"), (0, .methodref 19 25), (0, .nameAndType 26 27), (0, u "hasOverlay"), (0, u "()Z"), (0, .methodref 29 30), (0, .class_ 31), (0, .nameAndType 32 33), (0, u "com/example/packetsieve/packetsieve/packet/SymbolHasOverlayPinLaw"), (0, u "expected"), (0, u "(C)Z"), (3, u "law"), (0, u "(III)Z")] 2

def k1m0 : Method := { name := "<init>", desc := "()V", sig := { parameters := [], returnType := none }, accessFlags := 1, code := none }
def k1c1 : Code := { maxStack := 4, maxLocals := 5, code := method_2_code, exceptionTable := #[], attributes := #[] }
def k1m1 : Method := { name := "expected", desc := "(C)Z", sig := { parameters := [.char], returnType := some .boolean }, accessFlags := 10, code := some k1c1 }
def k1c2 : Code := { maxStack := 4, maxLocals := 11, code := code, exceptionTable := #[], attributes := #[] }
def k1m2 : Method := { name := "law", desc := "(III)Z", sig := { parameters := [.int, .int, .int], returnType := some .boolean }, accessFlags := 9, code := some k1c2 }
/-- com/example/packetsieve/packetsieve/packet/SymbolHasOverlayPinLaw -/
def k1 : Class := { plain "com/example/packetsieve/packetsieve/packet/SymbolHasOverlayPinLaw" (some 0) with
  accessFlags := 49
  interfaces := #[]
  cf := some (fileOf pool1 29 #[] #[{ accessFlags := 1, nameIndex := 5, descriptorIndex := 6, attributes := #[] }, { accessFlags := 10, nameIndex := 32, descriptorIndex := 33, attributes := #[] }, { accessFlags := 9, nameIndex := 37, descriptorIndex := 38, attributes := #[] }] 49 2 #[] #[])
  fields := #[]
  methods := #[k1m0, k1m1, k1m2]
  instanceTypes := #[]
  staticTypes := #[]
  resolved := Array.replicate 41 none
  statics := none }

def pool2 : Array CpInfo := pool [(1, .methodref 2 3), (0, .class_ 4), (0, .nameAndType 5 6), (0, u "java/lang/Object"), (0, u "<init>"), (0, u "()V"), (0, .class_ 8), (0, u "java/lang/Record")] 13

def k2c0 : Code := { maxStack := 1, maxLocals := 1, code := jdk_30_method_1_code, exceptionTable := #[], attributes := #[] }
def k2m0 : Method := { name := "<init>", desc := "()V", sig := { parameters := [], returnType := none }, accessFlags := 4, code := some k2c0 }
/-- java/lang/Record -/
def k2 : Class := { plain "java/lang/Record" (some 0) with
  accessFlags := 1057
  interfaces := #[]
  cf := some (fileOf pool2 7 #[] #[{ accessFlags := 4, nameIndex := 5, descriptorIndex := 6, attributes := #[] }] 1057 2 #[] #[])
  fields := #[]
  methods := #[k2m0]
  instanceTypes := #[]
  staticTypes := #[]
  resolved := Array.replicate 22 none
  statics := none }

def pool3 : Array CpInfo := pool [(1, .methodref 2 3), (0, .class_ 4), (0, .nameAndType 5 6), (0, u "java/lang/Record"), (0, u "<init>"), (0, u "()V"), (0, .fieldref 8 9), (0, .class_ 10), (0, .nameAndType 11 12), (0, u "com/example/packetsieve/packetsieve/packet/Symbol"), (0, u "table"), (0, u "C"), (0, .fieldref 8 14), (0, .nameAndType 15 12), (0, u "code"), (2, u "hasOverlay"), (0, u "()Z"), (12, u "PRIMARY_TABLE"), (2, u "ALTERNATE_TABLE"), (1, u "(CC)V")] 31

def k3c0 : Code := { maxStack := 2, maxLocals := 3, code := prog_28_method_1_code, exceptionTable := #[], attributes := #[] }
def k3m0 : Method := { name := "<init>", desc := "(CC)V", sig := { parameters := [.char, .char], returnType := none }, accessFlags := 1, code := some k3c0 }
def k3c1 : Code := { maxStack := 2, maxLocals := 1, code := prog_28_method_4_code, exceptionTable := #[], attributes := #[] }
def k3m1 : Method := { name := "hasOverlay", desc := "()Z", sig := { parameters := [], returnType := some .boolean }, accessFlags := 1, code := some k3c1 }
/-- com/example/packetsieve/packetsieve/packet/Symbol -/
def k3 : Class := { plain "com/example/packetsieve/packetsieve/packet/Symbol" (some 2) with
  accessFlags := 49
  interfaces := #[]
  cf := some (fileOf pool3 8 #[] #[{ accessFlags := 1, nameIndex := 5, descriptorIndex := 37, attributes := #[] }, { accessFlags := 1, nameIndex := 18, descriptorIndex := 19, attributes := #[] }] 49 2 #[] #[{ accessFlags := 18, nameIndex := 11, descriptorIndex := 12, attributes := #[] }, { accessFlags := 18, nameIndex := 15, descriptorIndex := 12, attributes := #[] }, { accessFlags := 25, nameIndex := 32, descriptorIndex := 12, attributes := #[] }, { accessFlags := 25, nameIndex := 35, descriptorIndex := 12, attributes := #[] }])
  fields := #[{ name := "table", type := .char, accessFlags := 18, slot := 0, constantValue := 0 }, { name := "code", type := .char, accessFlags := 18, slot := 1, constantValue := 0 }, { name := "PRIMARY_TABLE", type := .char, accessFlags := 25, slot := 0, constantValue := 0 }, { name := "ALTERNATE_TABLE", type := .char, accessFlags := 25, slot := 1, constantValue := 0 }]
  methods := #[k3m0, k3m1]
  instanceTypes := #[.char, .char]
  staticTypes := #[.char, .char]
  resolved := Array.replicate 69 none
  statics := none }

def pool4 : Array CpInfo := pool [(1, u "java/lang/Cloneable"), (0, .class_ 1), (0, u "java/lang/Object"), (0, .class_ 3)] 3

/-- java/lang/Cloneable -/
def k4 : Class := { plain "java/lang/Cloneable" (some 0) with
  accessFlags := 1537
  interfaces := #[]
  cf := some (fileOf pool4 2 #[] #[] 1537 4 #[] #[])
  fields := #[]
  methods := #[]
  instanceTypes := #[]
  staticTypes := #[]
  resolved := Array.replicate 8 none
  statics := none }

def pool5 : Array CpInfo := pool [(1, u "java/io/Serializable"), (0, .class_ 1), (0, u "java/lang/Object"), (0, .class_ 3)] 3

/-- java/io/Serializable -/
def k5 : Class := { plain "java/io/Serializable" (some 0) with
  accessFlags := 1537
  interfaces := #[]
  cf := some (fileOf pool5 2 #[] #[] 1537 4 #[] #[])
  fields := #[]
  methods := #[]
  instanceTypes := #[]
  staticTypes := #[]
  resolved := Array.replicate 8 none
  statics := none }

/-- the primitive byte -/
def k6 : Class := { plain "byte" none with kind := .primitive 'B', accessFlags := 0x411 }
/-- [B -/
def k7 : Class := { plain "[B" (some 0) with kind := .array 6 .byte, interfaces := #[4, 5], accessFlags := 1041 }

/-- the primitive int -/
def k8 : Class := { plain "int" none with kind := .primitive 'I', accessFlags := 0x411 }
/-- [I -/
def k9 : Class := { plain "[I" (some 0) with kind := .array 8 .int, interfaces := #[4, 5], accessFlags := 1041 }

def heap : Heap := #[]
def classes : Array Class := #[k0, k1, k2, k3, k4, k5, k6, k7, k8, k9]
def interned : List (Array UInt16 × Addr) := []
def slotsUsed : Nat := 0
def theMethod : MethodId := ⟨1, 2⟩
def args0 : Array Value := #[.int 5, .int 7, .int 8]
def aboutOver (below : List Frame) : State where
  vm := { classes := classes, interned := interned.toArray }
  heap := heap
  slotsUsed := slotsUsed
  threads := #[{ frames := .invoking theMethod args0 :: below }]
def below0 : List Frame := [.native { method := ⟨0, 0⟩, args := #[] }]
def about1 : State := aboutOver below0
def p0 : Program := .bare "" "" ""
def e0 : Env := launch0.env 0 0 0
theorem w_frames : about1.frames = Frame.invoking theMethod args0 :: below0 := rfl
set_option maxRecDepth 65536 in
theorem w_args : argsFit about1.vm theMethod args0 = true := by decide +kernel
set_option maxRecDepth 65536 in
theorem w_heap : heapFits about1 = true := by decide +kernel
set_option maxRecDepth 65536 in
theorem w_runnable : about1.curStatus? = some .runnable := by decide +kernel
set_option maxRecDepth 65536 in
theorem w_alone : about1.alone = true := by decide +kernel
set_option maxRecDepth 65536 in
theorem w_named : about1.methodNamed? x = some theMethod := by decide +kernel
set_option maxRecDepth 65536 in
theorem w_hears : about1.hears theMethod below0 = true := by decide +kernel
set_option maxRecDepth 65536 in
theorem w_ripe : about1.ripe theMethod args0 below0 = true := by decide +kernel
theorem w_running : about1.status = .running := rfl
set_option maxRecDepth 65536 in
theorem w_room : about1.hasRoom e0.platform room_1 = true :=
  launch0.hasRoom_least _ room_1 (by decide +kernel) (by decide +kernel) (by decide +kernel) (by decide +kernel) (by decide +kernel) (by decide +kernel)
theorem allAtoms_all (ts : List Jvm.Cond) (a : Array Jvm.Value) (st : Jvm.State) : (allAtoms ts).before a st = ts.all (fun c => c.before a st) := by
  induction ts with
  | nil => rfl
  | cons c t ih =>
    show (Jvm.Cond.and c (allAtoms t)).before a st = _
    rw [Jvm.Cond.before_and, ih, List.all_cons]
def words1 : List Jvm.Cond := Jvm.Cond.code x code maxLocals ret :: tables_1
/-- a 'code' word, met by the world's own term for the bytes: nothing is compared byte by byte -/
theorem code_word {y : MethodName} {bytes : ByteArray} {mx : Nat} {rt : Option FieldType} {a : Array Value} {s : State} {m : MethodId} {meth : Method} {c : Code} (h1 : s.methodNamed? y = some m) (h2 : s.vm.method? m = some meth) (h3 : meth.code = some c) (h4 : c.code = bytes)
    (h5 : (c.maxLocals == mx && c.exceptionTable.isEmpty && decide (c.maxStack ≤ mostOperands) && decide (meth.sig.returnType = rt) && !meth.locks && decide (parseMethodDescriptor y.desc = some meth.sig)) = true) : (Jvm.Cond.code y bytes mx rt).before a s = true := by
  simp only [Bool.and_eq_true, beq_iff_eq, Bool.not_eq_true', decide_eq_true_eq] at h5
  obtain ⟨⟨⟨⟨⟨g1, g2⟩, g3⟩, g4⟩, g5⟩, g6⟩ := h5
  simp [Cond.before, Cond.holds, Cond.value, h1, h2, h3, h4, g1, g2, g3, g4, g5, g6]
def isCode : Jvm.Cond → Bool
  | .code _ _ _ _ => true
  | _ => false
theorem all_split {L : List Jvm.Cond} {P : Jvm.Cond → Bool} (h1 : L.all (fun c => isCode c || P c) = true) (h2 : ∀ c ∈ L.filter isCode, P c = true) : L.all P = true := by
  refine List.all_eq_true.mpr fun c hc => ?_
  have h := List.all_eq_true.mp h1 c hc
  rcases Bool.eq_false_or_eq_true (isCode c) with hi | hi
  · exact h2 c (List.mem_filter.mpr ⟨hc, hi⟩)
  · simpa [hi] using h
set_option maxRecDepth 65536 in
theorem w_c0 : (Jvm.Cond.code x code maxLocals ret).before args0 about1 = true := code_word (m := ⟨1, 2⟩) (meth := k1m2) (c := k1c2) (by decide +kernel) rfl rfl rfl (by decide +kernel)
set_option maxRecDepth 65536 in
theorem w_c1 : (Jvm.Cond.code ({ cls := "com/example/packetsieve/packetsieve/packet/Symbol", name := "<init>", desc := "(CC)V" } : Jvm.MethodName) prog_28_method_1_code (3 : Nat) (Option.none : Option Jvm.ClassFile.FieldType)).before args0 about1 = true := code_word (m := ⟨3, 0⟩) (meth := k3m0) (c := k3c0) (by decide +kernel) rfl rfl rfl (by decide +kernel)
set_option maxRecDepth 65536 in
theorem w_c2 : (Jvm.Cond.code ({ cls := "java/lang/Record", name := "<init>", desc := "()V" } : Jvm.MethodName) jdk_30_method_1_code (1 : Nat) (Option.none : Option Jvm.ClassFile.FieldType)).before args0 about1 = true := code_word (m := ⟨2, 0⟩) (meth := k2m0) (c := k2c0) (by decide +kernel) rfl rfl rfl (by decide +kernel)
set_option maxRecDepth 65536 in
theorem w_c3 : (Jvm.Cond.code ({ cls := "java/lang/Object", name := "<init>", desc := "()V" } : Jvm.MethodName) object_method_1_code (1 : Nat) (Option.none : Option Jvm.ClassFile.FieldType)).before args0 about1 = true := code_word (m := ⟨0, 0⟩) (meth := k0m0) (c := k0c0) (by decide +kernel) rfl rfl rfl (by decide +kernel)
set_option maxRecDepth 65536 in
theorem w_c4 : (Jvm.Cond.code ({ cls := "com/example/packetsieve/packetsieve/packet/Symbol", name := "hasOverlay", desc := "()Z" } : Jvm.MethodName) prog_28_method_4_code (1 : Nat) (Option.some Jvm.ClassFile.FieldType.boolean)).before args0 about1 = true := code_word (m := ⟨3, 1⟩) (meth := k3m1) (c := k3c1) (by decide +kernel) rfl rfl rfl (by decide +kernel)
set_option maxRecDepth 65536 in
theorem w_c5 : (Jvm.Cond.code ({ cls := "com/example/packetsieve/packetsieve/packet/SymbolHasOverlayPinLaw", name := "expected", desc := "(C)Z" } : Jvm.MethodName) method_2_code (5 : Nat) (Option.some Jvm.ClassFile.FieldType.boolean)).before args0 about1 = true := code_word (m := ⟨1, 1⟩) (meth := k1m1) (c := k1c1) (by decide +kernel) rfl rfl rfl (by decide +kernel)
def codes1 : List Jvm.Cond := [Jvm.Cond.code x code maxLocals ret, Jvm.Cond.code ({ cls := "com/example/packetsieve/packetsieve/packet/Symbol", name := "<init>", desc := "(CC)V" } : Jvm.MethodName) prog_28_method_1_code (3 : Nat) (Option.none : Option Jvm.ClassFile.FieldType), Jvm.Cond.code ({ cls := "java/lang/Record", name := "<init>", desc := "()V" } : Jvm.MethodName) jdk_30_method_1_code (1 : Nat) (Option.none : Option Jvm.ClassFile.FieldType), Jvm.Cond.code ({ cls := "java/lang/Object", name := "<init>", desc := "()V" } : Jvm.MethodName) object_method_1_code (1 : Nat) (Option.none : Option Jvm.ClassFile.FieldType), Jvm.Cond.code ({ cls := "com/example/packetsieve/packetsieve/packet/Symbol", name := "hasOverlay", desc := "()Z" } : Jvm.MethodName) prog_28_method_4_code (1 : Nat) (Option.some Jvm.ClassFile.FieldType.boolean), Jvm.Cond.code ({ cls := "com/example/packetsieve/packetsieve/packet/SymbolHasOverlayPinLaw", name := "expected", desc := "(C)Z" } : Jvm.MethodName) method_2_code (5 : Nat) (Option.some Jvm.ClassFile.FieldType.boolean)]
set_option maxRecDepth 65536 in
theorem codes_eq : words1.filter isCode = codes1 := rfl
theorem w_codes : ∀ c ∈ words1.filter isCode, c.before args0 about1 = true := by
  rw [codes_eq]
  intro c hc
  simp only [codes1, List.mem_cons, List.not_mem_nil, or_false] at hc
  rcases hc with rfl | rfl | rfl | rfl | rfl | rfl
  · exact w_c0
  · exact w_c1
  · exact w_c2
  · exact w_c3
  · exact w_c4
  · exact w_c5
set_option maxRecDepth 65536 in
theorem w_t1 : (words1.take 24).all (fun c => isCode c || c.before args0 about1) = true := by decide +kernel
set_option maxRecDepth 65536 in
theorem w_t2 : (words1.drop 24).all (fun c => isCode c || c.before args0 about1) = true := by decide +kernel
theorem w_tables : (allAtoms (Jvm.Cond.code x code maxLocals ret :: tables_1)).before args0 about1 = true := by
  rw [allAtoms_all]
  show words1.all (fun c => c.before args0 about1) = true
  refine all_split ?_ w_codes
  rw [← List.take_append_drop 24 words1, List.all_append, w_t1, w_t2]
  rfl
set_option maxRecDepth 65536 in
theorem w_case : (Jvm.Cond.and given_1 narrow_1).before args0 about1 = true := by decide +kernel
theorem w_applies : (headSpec (Jvm.Cond.code x code maxLocals ret :: tables_1) room_1).applies x e0.platform about1 = true :=
  (Spec.applies_iff w_frames).mpr ⟨w_running, w_runnable, w_alone, w_named, w_hears, w_ripe, w_room, w_tables⟩
theorem atStart : AtStart classFile x code maxLocals ret World_1 tables_1 room_1 Calls_1 rest_1 Pre_1 launch0 p0 e0 about1 theMethod args0 below0 :=
  ⟨lists_1, trivial, launch0.admits_env _ _ _, launch0.least_env, fairChoices_fair.cas, fairChoices_fair.clock, w_frames, w_args, w_heap, w_applies, trivial, trivial, w_case⟩
end start1
theorem witness_1 : WitnessClaimed_1 := ⟨start1.p0, start1.e0, start1.about1, start1.theMethod, start1.args0, start1.below0, start1.atStart⟩
end Jvm.Pilot.@@N@@
