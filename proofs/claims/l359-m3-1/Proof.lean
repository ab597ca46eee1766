import JvmDerived
import JvmDerived.Pilot.@@N@@Statement
import JvmDerived.Pilot.@@N@@Code
set_option linter.unusedVariables false
set_option linter.unusedSimpArgs false
namespace Jvm.Pilot.@@N@@
open Jvm Jvm.ClassFile Sem Op Lib Jvm.Free Jvm.Stand Jvm.LawKit Jvm.RoadKit Bundle Jvm.Pilot.@@N@@.Jvm.D
def own_usr (x y : Int32) : Int32 := (x.toUInt32 >>> (y &&& 31).toUInt32).toInt32
def own_usrL (x : Int64) (y : Int32) : Int64 := (x.toUInt64 >>> (y &&& 0x3f).toInt64.toUInt64).toInt64
/-- where the run came from, where it stands -/
def Go (p : Program) (e : Env) (below : List Frame) (A B : State) : Prop := ∀ t, Steps p.tables e below B t → Steps p.tables e below A t
theorem Go.step {p : Program} {e : Env} {below : List Frame} {A B C : State} (g : Go p e below A B) (h : ∀ t, Steps p.tables e below C t → Steps p.tables e below B t) : Go p e below A C := fun t k => g t (h t k)
theorem Go.tr {p : Program} {e : Env} {below : List Frame} {A B C : State} (g : Go p e below A B) (h : Steps p.tables e below B C) : Go p e below A C := fun t k => g t (h.trans k)
section Rets
variable {p : Program} {l : Launch} {e : Env} {R : Room} {s : State} {m : MethodId} {args : Array Value} {below : List Frame} {meth : Method} {c : Code} {T : State} {locs : List Loc} {cells slots : Nat}
theorem own_retI (X : Stand p l e R s m args below meth c T locs cells slots) (hx : p.tables.exec = Jvm.exec) {pc : Nat} {Ls : Array Slot} {z : Int32} {rest : List Value} (hret : meth.sig.returnType = some .int) (hd : decode c.code pc = .ok (.ireturn, 1)) {fs : List Frame}
    (hl : ∀ (f : JFrame) (acts : List Action), f.method = m → f.locked = none → f.entered = [] → (doReturn e (T.setTop f) acts (some (.int z))).1 = T.setFrames fs) : Steps p.tables e below (T.setTop (mkF m pc Ls (.int z :: rest))) (T.setFrames fs) :=
  retOut X hx (t := .int) hret rfl (Or.inl ⟨rfl, Or.inl rfl, z, rfl⟩) hd hl
theorem own_retL (X : Stand p l e R s m args below meth c T locs cells slots) (hx : p.tables.exec = Jvm.exec) {pc : Nat} {Ls : Array Slot} {z : Int64} {rest : List Value} (hret : meth.sig.returnType = some .long) (hd : decode c.code pc = .ok (.lreturn, 1)) {fs : List Frame}
    (hl : ∀ (f : JFrame) (acts : List Action), f.method = m → f.locked = none → f.entered = [] → (doReturn e (T.setTop f) acts (some (.long z))).1 = T.setFrames fs) : Steps p.tables e below (T.setTop (mkF m pc Ls (.long z :: rest))) (T.setFrames fs) :=
  retOut X hx (t := .long) hret rfl (Or.inr (Or.inl ⟨rfl, rfl, z, rfl⟩)) hd hl
theorem own_retA (X : Stand p l e R s m args below meth c T locs cells slots) (hx : p.tables.exec = Jvm.exec) {t : FieldType} {pc : Nat} {Ls : Array Slot} {z : Addr} {rest : List Value} (hret : meth.sig.returnType = some t) (ht : t.isReference = true) (hn : narrow t (.ref z) = .ref z) (hd : decode c.code pc = .ok (.areturn, 1)) {fs : List Frame}
    (hl : ∀ (f : JFrame) (acts : List Action), f.method = m → f.locked = none → f.entered = [] → (doReturn e (T.setTop f) acts (some (.ref z))).1 = T.setFrames fs) : Steps p.tables e below (T.setTop (mkF m pc Ls (.ref z :: rest))) (T.setFrames fs) :=
  retOut X hx hret hn (Or.inr (Or.inr (Or.inr (Or.inr ⟨rfl, ht, rfl⟩)))) hd hl
end Rets
theorem d2_0 : decode jdk_30_method_1_code 0 = .ok (.aload_n 0, 1) := by decide +kernel
theorem d2_1 : decode jdk_30_method_1_code 1 = .ok (.invokespecial 1, 3) := by decide +kernel
theorem d2_4 : decode jdk_30_method_1_code 4 = .ok (.return_, 1) := by decide +kernel
theorem pn_rm2 : plainName "java/lang/Record" = true := by first | (simp [plainName, overriddenIn]; done) | decide +kernel
theorem ef_rm2 (m : MethodId) (o0 : Addr) : entryFrame m #[(.ref o0)] 1 = mkF m 0 #[.val (.ref o0)] [] := by first | (simp [entryFrame, mkF, argsToLocals, Value.category]; done) | rfl
def Q_rm2 (Z : State) (o0 : Addr) (h0 : Heap) (n0 : Nat) (v : Option Value) (h : Heap) (L : List Loc) : Prop := v = none ∧ Fr n0 L ∧ h = h0
set_option maxRecDepth 65536 in
set_option maxHeartbeats 40000000 in
theorem rm2 (l : Launch) (Z : State) (a0 : Array Value) (hw : ∀ d ∈ tables_1, d.before a0 Z = true) (ws : List Jvm.Cond) (o0 : Addr) (h0 : Heap) (n0 : Nat) (Z0 : n0 ≤ h0.size) :
    MetFree l (⟨"java/lang/Record", "<init>", "()V"⟩ : MethodName) (head1 (Jvm.Cond.code (⟨"java/lang/Record", "<init>", "()V"⟩ : MethodName) jdk_30_method_1_code 1 none :: ws) ({ frames := 1, cells := 0, slots := 0, locals := 12 } : Room)) (fun a U => a = #[(.ref o0)] ∧ Z.Warmed39 U.vm ∧ U.heap = h0) (fun _ _ _ _ _ => True) (fun _ U o U' => ∃ v L, o = .returned v ∧ Q_rm2 Z o0 h0 n0 v U'.heap L ∧ FrameEnd U o U' L ({ frames := 1, cells := 0, slots := 0, locals := 12 } : Room).cells ({ frames := 1, cells := 0, slots := 0, locals := 12 } : Room).slots) := by
  refine MetFree.of_bodySF (plainFor_of_name pn_rm2) hisR ?_
  intro p e s m args below meth c s₁ Bd hml0 hP hK
  obtain ⟨rfl, hZ, hh⟩ := hP
  have hx := Bd.exec
  have hby := Bd.bytes
  have hml : c.maxLocals = 1 := hml0
  have hown : s.vm.findClass "java/lang/Record" = some m.cls := findClass_of_methodNamed Bd.named
  have hnm := (name_of_methodNamed Bd.named Bd.method).1
  have X0 : Stand p l e ({ frames := 1, cells := 0, slots := 0, locals := 12 } : Room) s m #[(.ref o0)] below meth c s₁ [] 0 0 := Stand.of_body Bd
  have e0 : s₁.heap = h0 := by rw [← hh, Bd.state]; rfl
  have N0 := Fr.nil n0
  have K0 := Keep.refl h0 []
  have go0 : Go p e below (s₁.setTop (entryFrame m #[(.ref o0)] 1)) (s₁.setTop (mkF m 0 #[.val (.ref o0)] [])) := fun t k => castTop (ef_rm2 m o0) k
  have go1 := go0.step (C := s₁.setTop (mkF m 1 #[.val (.ref o0)] [(.ref o0)])) (fun t k => by
    show Steps p.tables e below (s₁.setTop (mkF m 0 #[.val (.ref o0)] [])) _
    refine XS.aloadN X0.here hx rfl (hb hby d2_0) rfl rfl ?_
    exact k)
  obtain ⟨T2, X2, e2, st2⟩ := initO X0 hx hZ hown (hw _ (List.mem_of_getElem? (i := 11) rfl)) (hw _ (List.mem_of_getElem? (i := 12) rfl)) (hw _ (List.mem_of_getElem? (i := 13) rfl)) e0 (g := (mkF m 1 #[.val (.ref o0)] [(.ref o0)])) rfl (by rw [hml]; rfl) rfl (hb hby d2_1) (by decide) (W := 0) (by show 2 * 0 + _ ≤ _; exact Nat.le_of_eq rfl) (by decide)
  have go2 := go1.step (C := T2.setTop (mkF m 4 #[.val (.ref o0)] [])) (fun t k => st2 t k)
  obtain ⟨fs, hr, hrun, hended, hW, hsame⟩ := X2.leave (v := none) (fun _ => rfl)
  refine ⟨_, _, go2 _ ?_, hrun, hended, _, _, rfl, ?_, ⟨_, rfl⟩, hW, hsame.mono (by decide) (by decide)⟩
  · exact X2.returnOut hx Bd.returns (hb hby d2_4) hr
  · show Q_rm2 Z o0 h0 n0 _ T2.heap _
    rw [e2]
    exact ⟨rfl, N0, rfl⟩
theorem d1_0 : decode prog_23_method_1_code 0 = .ok (.aload_n 0, 1) := by decide +kernel
theorem d1_1 : decode prog_23_method_1_code 1 = .ok (.invokespecial 1, 3) := by decide +kernel
theorem d1_4 : decode prog_23_method_1_code 4 = .ok (.aload_n 0, 1) := by decide +kernel
theorem d1_5 : decode prog_23_method_1_code 5 = .ok (.lload_n 1, 1) := by decide +kernel
theorem d1_6 : decode prog_23_method_1_code 6 = .ok (.putfield 7, 3) := by decide +kernel
theorem d1_9 : decode prog_23_method_1_code 9 = .ok (.aload_n 0, 1) := by decide +kernel
theorem d1_10 : decode prog_23_method_1_code 10 = .ok (.lload_n 3, 1) := by decide +kernel
theorem d1_11 : decode prog_23_method_1_code 11 = .ok (.putfield 13, 3) := by decide +kernel
theorem d1_14 : decode prog_23_method_1_code 14 = .ok (.aload_n 0, 1) := by decide +kernel
theorem d1_15 : decode prog_23_method_1_code 15 = .ok (.lload 5, 2) := by decide +kernel
theorem d1_17 : decode prog_23_method_1_code 17 = .ok (.putfield 16, 3) := by decide +kernel
theorem d1_20 : decode prog_23_method_1_code 20 = .ok (.aload_n 0, 1) := by decide +kernel
theorem d1_21 : decode prog_23_method_1_code 21 = .ok (.lload 7, 2) := by decide +kernel
theorem d1_23 : decode prog_23_method_1_code 23 = .ok (.putfield 19, 3) := by decide +kernel
theorem d1_26 : decode prog_23_method_1_code 26 = .ok (.aload_n 0, 1) := by decide +kernel
theorem d1_27 : decode prog_23_method_1_code 27 = .ok (.lload 9, 2) := by decide +kernel
theorem d1_29 : decode prog_23_method_1_code 29 = .ok (.putfield 22, 3) := by decide +kernel
theorem d1_32 : decode prog_23_method_1_code 32 = .ok (.aload_n 0, 1) := by decide +kernel
theorem d1_33 : decode prog_23_method_1_code 33 = .ok (.lload 11, 2) := by decide +kernel
theorem d1_35 : decode prog_23_method_1_code 35 = .ok (.putfield 25, 3) := by decide +kernel
theorem d1_38 : decode prog_23_method_1_code 38 = .ok (.aload_n 0, 1) := by decide +kernel
theorem d1_39 : decode prog_23_method_1_code 39 = .ok (.lload 13, 2) := by decide +kernel
theorem d1_41 : decode prog_23_method_1_code 41 = .ok (.putfield 28, 3) := by decide +kernel
theorem d1_44 : decode prog_23_method_1_code 44 = .ok (.aload_n 0, 1) := by decide +kernel
theorem d1_45 : decode prog_23_method_1_code 45 = .ok (.lload 15, 2) := by decide +kernel
theorem d1_47 : decode prog_23_method_1_code 47 = .ok (.putfield 31, 3) := by decide +kernel
theorem d1_50 : decode prog_23_method_1_code 50 = .ok (.return_, 1) := by decide +kernel
theorem pn_rm1 : plainName "com/example/gridwire/gridwire/model/MapStatistics" = true := by first | (simp [plainName, overriddenIn]; done) | decide +kernel
theorem pd1_0 : parseMethodDescriptor "()V" = some ⟨[], none⟩ := by decide +kernel
theorem ef_rm1 (m : MethodId) (o0 : Addr) (q1 : Int64) (q2 : Int64) (q3 : Int64) (q4 : Int64) (q5 : Int64) (q6 : Int64) (q7 : Int64) (q8 : Int64) : entryFrame m #[(.ref o0), (.long q1), (.long q2), (.long q3), (.long q4), (.long q5), (.long q6), (.long q7), (.long q8)] 17 = mkF m 0 #[.val (.ref o0), .val (.long q1), .second, .val (.long q2), .second, .val (.long q3), .second, .val (.long q4), .second, .val (.long q5), .second, .val (.long q6), .second, .val (.long q7), .second, .val (.long q8), .second] [] := by first | (simp [entryFrame, mkF, argsToLocals, Value.category]; done) | rfl
def Q_rm1 (Z : State) (o0 : Addr) (q1 : Int64) (q2 : Int64) (q3 : Int64) (q4 : Int64) (q5 : Int64) (q6 : Int64) (q7 : Int64) (q8 : Int64) (h0 : Heap) (n0 : Nat) (v : Option Value) (h : Heap) (L : List Loc) : Prop := v = none ∧ Fr n0 L ∧ Keep h0 h [o0] ∧ Exa Z h o0 "com/example/gridwire/gridwire/model/MapStatistics" ∧ Fld Z h o0 "com/example/gridwire/gridwire/model/MapStatistics" "currentEntries" "J" (.long q1) ∧ Fld Z h o0 "com/example/gridwire/gridwire/model/MapStatistics" "totalEntries" "J" (.long q2) ∧ Fld Z h o0 "com/example/gridwire/gridwire/model/MapStatistics" "stores" "J" (.long q3) ∧ Fld Z h o0 "com/example/gridwire/gridwire/model/MapStatistics" "retrievals" "J" (.long q4) ∧ Fld Z h o0 "com/example/gridwire/gridwire/model/MapStatistics" "hits" "J" (.long q5) ∧ Fld Z h o0 "com/example/gridwire/gridwire/model/MapStatistics" "misses" "J" (.long q6) ∧ Fld Z h o0 "com/example/gridwire/gridwire/model/MapStatistics" "removeHits" "J" (.long q7) ∧ Fld Z h o0 "com/example/gridwire/gridwire/model/MapStatistics" "removeMisses" "J" (.long q8)
set_option maxRecDepth 65536 in
set_option maxHeartbeats 40000000 in
theorem rm1 (l : Launch) (Z : State) (a0 : Array Value) (hw : ∀ d ∈ tables_1, d.before a0 Z = true) (ws : List Jvm.Cond) (o0 : Addr) (q1 : Int64) (q2 : Int64) (q3 : Int64) (q4 : Int64) (q5 : Int64) (q6 : Int64) (q7 : Int64) (q8 : Int64) (h0 : Heap) (n0 : Nat) (Z0 : n0 ≤ h0.size) (E_o0 : Exa Z h0 o0 "com/example/gridwire/gridwire/model/MapStatistics") (g_o0 : n0 ≤ o0) (F_currentEntries : Fld Z h0 o0 "com/example/gridwire/gridwire/model/MapStatistics" "currentEntries" "J" (.long (0 : Int64))) (F_totalEntries : Fld Z h0 o0 "com/example/gridwire/gridwire/model/MapStatistics" "totalEntries" "J" (.long (0 : Int64))) (F_stores : Fld Z h0 o0 "com/example/gridwire/gridwire/model/MapStatistics" "stores" "J" (.long (0 : Int64))) (F_retrievals : Fld Z h0 o0 "com/example/gridwire/gridwire/model/MapStatistics" "retrievals" "J" (.long (0 : Int64))) (F_hits : Fld Z h0 o0 "com/example/gridwire/gridwire/model/MapStatistics" "hits" "J" (.long (0 : Int64))) (F_misses : Fld Z h0 o0 "com/example/gridwire/gridwire/model/MapStatistics" "misses" "J" (.long (0 : Int64))) (F_removeHits : Fld Z h0 o0 "com/example/gridwire/gridwire/model/MapStatistics" "removeHits" "J" (.long (0 : Int64))) (F_removeMisses : Fld Z h0 o0 "com/example/gridwire/gridwire/model/MapStatistics" "removeMisses" "J" (.long (0 : Int64))) :
    MetFree l (⟨"com/example/gridwire/gridwire/model/MapStatistics", "<init>", "(JJJJJJJJ)V"⟩ : MethodName) (head1 (Jvm.Cond.code (⟨"com/example/gridwire/gridwire/model/MapStatistics", "<init>", "(JJJJJJJJ)V"⟩ : MethodName) prog_23_method_1_code 17 none :: ws) ({ frames := 2, cells := 0, slots := 0, locals := 24 } : Room)) (fun a U => a = #[(.ref o0), (.long q1), (.long q2), (.long q3), (.long q4), (.long q5), (.long q6), (.long q7), (.long q8)] ∧ Z.Warmed39 U.vm ∧ U.heap = h0) (fun _ _ _ _ _ => True) (fun _ U o U' => ∃ v L, o = .returned v ∧ Q_rm1 Z o0 q1 q2 q3 q4 q5 q6 q7 q8 h0 n0 v U'.heap L ∧ FrameEnd U o U' L ({ frames := 2, cells := 0, slots := 0, locals := 24 } : Room).cells ({ frames := 2, cells := 0, slots := 0, locals := 24 } : Room).slots) := by
  refine MetFree.of_bodySF (plainFor_of_name pn_rm1) hisR ?_
  intro p e s m args below meth c s₁ Bd hml0 hP hK
  obtain ⟨rfl, hZ, hh⟩ := hP
  have hx := Bd.exec
  have hby := Bd.bytes
  have hml : c.maxLocals = 17 := hml0
  have hown : s.vm.findClass "com/example/gridwire/gridwire/model/MapStatistics" = some m.cls := findClass_of_methodNamed Bd.named
  have hnm := (name_of_methodNamed Bd.named Bd.method).1
  have X0 : Stand p l e ({ frames := 2, cells := 0, slots := 0, locals := 24 } : Room) s m #[(.ref o0), (.long q1), (.long q2), (.long q3), (.long q4), (.long q5), (.long q6), (.long q7), (.long q8)] below meth c s₁ [] 0 0 := Stand.of_body Bd
  have e0 : s₁.heap = h0 := by rw [← hh, Bd.state]; rfl
  have N0 := Fr.nil n0
  have K0 := Keep.refl h0 [o0]
  have go0 : Go p e below (s₁.setTop (entryFrame m #[(.ref o0), (.long q1), (.long q2), (.long q3), (.long q4), (.long q5), (.long q6), (.long q7), (.long q8)] 17)) (s₁.setTop (mkF m 0 #[.val (.ref o0), .val (.long q1), .second, .val (.long q2), .second, .val (.long q3), .second, .val (.long q4), .second, .val (.long q5), .second, .val (.long q6), .second, .val (.long q7), .second, .val (.long q8), .second] [])) := fun t k => castTop (ef_rm1 m o0 q1 q2 q3 q4 q5 q6 q7 q8) k
  have go1 := go0.step (C := s₁.setTop (mkF m 1 #[.val (.ref o0), .val (.long q1), .second, .val (.long q2), .second, .val (.long q3), .second, .val (.long q4), .second, .val (.long q5), .second, .val (.long q6), .second, .val (.long q7), .second, .val (.long q8), .second] [(.ref o0)])) (fun t k => by
    show Steps p.tables e below (s₁.setTop (mkF m 0 #[.val (.ref o0), .val (.long q1), .second, .val (.long q2), .second, .val (.long q3), .second, .val (.long q4), .second, .val (.long q5), .second, .val (.long q6), .second, .val (.long q7), .second, .val (.long q8), .second] [])) _
    refine XS.aloadN X0.here hx rfl (hb hby d1_0) rfl rfl ?_
    exact k)
  obtain ⟨_, _, ⟨T2, L2, k2, n2⟩, -, X2, ⟨Lc2, hQ2, l2, y2, z2⟩, st2⟩ := X0.specialBack hx (y := (⟨"java/lang/Record", "<init>", "()V"⟩ : MethodName)) rfl hown (mvT hZ (hw _ (List.mem_of_getElem? (i := 6) rfl))) (mvT hZ (hw _ (List.mem_of_getElem? (i := 7) rfl))) (mvT hZ (hw _ (List.mem_of_getElem? (i := 10) rfl))) (by decide) (backOf (W := 0) (rm2 l Z a0 hw [] o0 h0 n0 Z0 ) hZ (hw _ (List.mem_of_getElem? (i := 10) rfl)) (hw _ (List.mem_of_getElem? (i := 9) rfl)) (by decide) (by decide)) (g := (mkF m 1 #[.val (.ref o0), .val (.long q1), .second, .val (.long q2), .second, .val (.long q3), .second, .val (.long q4), .second, .val (.long q5), .second, .val (.long q6), .second, .val (.long q7), .second, .val (.long q8), .second] [(.ref o0)])) rfl (by rw [hml]; rfl) (Steps.refl _) (a := o0) (argsL := []) (rest := []) (lenOf pd1_0 rfl) rfl (by show 2 * 0 + _ ≤ _; exact Nat.le_of_eq rfl) (hb hby d1_1) (fun _ _ => ⟨rfl, e0, (by decide : 0 + 0 ≤ _), (by decide : 0 + 0 ≤ _)⟩)
  dsimp only [Pt.U, Pt.locs, Pt.cells, Pt.slots] at X2 l2 y2 z2 st2 hQ2
  subst l2 y2 z2
  obtain ⟨rfl, N2q, e2⟩ := hQ2
  have N2 := Fr.app N0 N2q
  have go2 := go1.tr (C := T2.setTop (mkF m 4 #[.val (.ref o0), .val (.long q1), .second, .val (.long q2), .second, .val (.long q3), .second, .val (.long q4), .second, .val (.long q5), .second, .val (.long q6), .second, .val (.long q7), .second, .val (.long q8), .second] [])) st2
  have go3 := go2.step (C := T2.setTop (mkF m 6 #[.val (.ref o0), .val (.long q1), .second, .val (.long q2), .second, .val (.long q3), .second, .val (.long q4), .second, .val (.long q5), .second, .val (.long q6), .second, .val (.long q7), .second, .val (.long q8), .second] [(.long q1), (.ref o0)])) (fun t k => by
    show Steps p.tables e below (T2.setTop (mkF m 4 #[.val (.ref o0), .val (.long q1), .second, .val (.long q2), .second, .val (.long q3), .second, .val (.long q4), .second, .val (.long q5), .second, .val (.long q6), .second, .val (.long q7), .second, .val (.long q8), .second] [])) _
    refine XS.aloadN X2.here hx rfl (hb hby d1_4) rfl rfl ?_
    show Steps p.tables e below (T2.setTop (mkF m 5 #[.val (.ref o0), .val (.long q1), .second, .val (.long q2), .second, .val (.long q3), .second, .val (.long q4), .second, .val (.long q5), .second, .val (.long q6), .second, .val (.long q7), .second, .val (.long q8), .second] [(.ref o0)])) _
    refine XS.lloadN X2.here hx rfl (hb hby d1_5) rfl ?_
    exact k)
  obtain ⟨T4, h4, X4, e4, W4, st4⟩ := putF X2 hx hZ hown (host := "") (Or.inl (hw _ (List.mem_of_getElem? (i := 14) rfl))) Via.refl e2 F_currentEntries E_o0 (Or.inr ⟨(hw _ (List.mem_of_getElem? (i := 15) rfl)), rfl, hnm⟩) (hw _ (List.mem_of_getElem? (i := 1) rfl)) (ty := .long) (by decide) rfl rfl (g := (mkF m 6 #[.val (.ref o0), .val (.long q1), .second, .val (.long q2), .second, .val (.long q3), .second, .val (.long q4), .second, .val (.long q5), .second, .val (.long q6), .second, .val (.long q7), .second, .val (.long q8), .second] [(.long q1), (.ref o0)])) rfl rfl (hb hby d1_6)
  have f5 := E_o0.wr W4
  have f6 := Fld.same W4 F_currentEntries
  have f7 := Fld.other W4 F_totalEntries (Or.inr (slot_ne (Or.inr (hw _ (List.mem_of_getElem? (i := 17) rfl))) (Or.inr (hw _ (List.mem_of_getElem? (i := 15) rfl))) (by decide) (t := .long) (t' := .long) (by decide) (by decide)))
  have f8 := Fld.other W4 F_stores (Or.inr (slot_ne (Or.inr (hw _ (List.mem_of_getElem? (i := 19) rfl))) (Or.inr (hw _ (List.mem_of_getElem? (i := 15) rfl))) (by decide) (t := .long) (t' := .long) (by decide) (by decide)))
  have f9 := Fld.other W4 F_retrievals (Or.inr (slot_ne (Or.inr (hw _ (List.mem_of_getElem? (i := 21) rfl))) (Or.inr (hw _ (List.mem_of_getElem? (i := 15) rfl))) (by decide) (t := .long) (t' := .long) (by decide) (by decide)))
  have f10 := Fld.other W4 F_hits (Or.inr (slot_ne (Or.inr (hw _ (List.mem_of_getElem? (i := 23) rfl))) (Or.inr (hw _ (List.mem_of_getElem? (i := 15) rfl))) (by decide) (t := .long) (t' := .long) (by decide) (by decide)))
  have f11 := Fld.other W4 F_misses (Or.inr (slot_ne (Or.inr (hw _ (List.mem_of_getElem? (i := 25) rfl))) (Or.inr (hw _ (List.mem_of_getElem? (i := 15) rfl))) (by decide) (t := .long) (t' := .long) (by decide) (by decide)))
  have f12 := Fld.other W4 F_removeHits (Or.inr (slot_ne (Or.inr (hw _ (List.mem_of_getElem? (i := 27) rfl))) (Or.inr (hw _ (List.mem_of_getElem? (i := 15) rfl))) (by decide) (t := .long) (t' := .long) (by decide) (by decide)))
  have f13 := Fld.other W4 F_removeMisses (Or.inr (slot_ne (Or.inr (hw _ (List.mem_of_getElem? (i := 29) rfl))) (Or.inr (hw _ (List.mem_of_getElem? (i := 15) rfl))) (by decide) (t := .long) (t' := .long) (by decide) (by decide)))
  have Z4 : n0 ≤ h4.size := Nat.le_trans Z0 (Nat.le_of_eq W4.size.symm)
  have K4 := K0.wr W4 (Or.inl (List.mem_of_getElem? (i := 0) rfl))
  have N4 := Fr.snoc X4 N2 g_o0
  have go4 := go3.step (C := T4.setTop (mkF m 9 #[.val (.ref o0), .val (.long q1), .second, .val (.long q2), .second, .val (.long q3), .second, .val (.long q4), .second, .val (.long q5), .second, .val (.long q6), .second, .val (.long q7), .second, .val (.long q8), .second] [])) (fun t k => st4 t k)
  have go14 := go4.step (C := T4.setTop (mkF m 11 #[.val (.ref o0), .val (.long q1), .second, .val (.long q2), .second, .val (.long q3), .second, .val (.long q4), .second, .val (.long q5), .second, .val (.long q6), .second, .val (.long q7), .second, .val (.long q8), .second] [(.long q2), (.ref o0)])) (fun t k => by
    show Steps p.tables e below (T4.setTop (mkF m 9 #[.val (.ref o0), .val (.long q1), .second, .val (.long q2), .second, .val (.long q3), .second, .val (.long q4), .second, .val (.long q5), .second, .val (.long q6), .second, .val (.long q7), .second, .val (.long q8), .second] [])) _
    refine XS.aloadN X4.here hx rfl (hb hby d1_9) rfl rfl ?_
    show Steps p.tables e below (T4.setTop (mkF m 10 #[.val (.ref o0), .val (.long q1), .second, .val (.long q2), .second, .val (.long q3), .second, .val (.long q4), .second, .val (.long q5), .second, .val (.long q6), .second, .val (.long q7), .second, .val (.long q8), .second] [(.ref o0)])) _
    refine XS.lloadN X4.here hx rfl (hb hby d1_10) rfl ?_
    exact k)
  obtain ⟨T15, h15, X15, e15, W15, st15⟩ := putF X4 hx hZ hown (host := "") (Or.inl (hw _ (List.mem_of_getElem? (i := 16) rfl))) Via.refl e4 f7 f5 (Or.inr ⟨(hw _ (List.mem_of_getElem? (i := 17) rfl)), rfl, hnm⟩) (hw _ (List.mem_of_getElem? (i := 1) rfl)) (ty := .long) (by decide) rfl rfl (g := (mkF m 11 #[.val (.ref o0), .val (.long q1), .second, .val (.long q2), .second, .val (.long q3), .second, .val (.long q4), .second, .val (.long q5), .second, .val (.long q6), .second, .val (.long q7), .second, .val (.long q8), .second] [(.long q2), (.ref o0)])) rfl rfl (hb hby d1_11)
  have f16 := f5.wr W15
  have f17 := Fld.other W15 f6 (Or.inr (slot_ne (Or.inr (hw _ (List.mem_of_getElem? (i := 15) rfl))) (Or.inr (hw _ (List.mem_of_getElem? (i := 17) rfl))) (by decide) (t := .long) (t' := .long) (by decide) (by decide)))
  have f18 := Fld.same W15 f7
  have f19 := Fld.other W15 f8 (Or.inr (slot_ne (Or.inr (hw _ (List.mem_of_getElem? (i := 19) rfl))) (Or.inr (hw _ (List.mem_of_getElem? (i := 17) rfl))) (by decide) (t := .long) (t' := .long) (by decide) (by decide)))
  have f20 := Fld.other W15 f9 (Or.inr (slot_ne (Or.inr (hw _ (List.mem_of_getElem? (i := 21) rfl))) (Or.inr (hw _ (List.mem_of_getElem? (i := 17) rfl))) (by decide) (t := .long) (t' := .long) (by decide) (by decide)))
  have f21 := Fld.other W15 f10 (Or.inr (slot_ne (Or.inr (hw _ (List.mem_of_getElem? (i := 23) rfl))) (Or.inr (hw _ (List.mem_of_getElem? (i := 17) rfl))) (by decide) (t := .long) (t' := .long) (by decide) (by decide)))
  have f22 := Fld.other W15 f11 (Or.inr (slot_ne (Or.inr (hw _ (List.mem_of_getElem? (i := 25) rfl))) (Or.inr (hw _ (List.mem_of_getElem? (i := 17) rfl))) (by decide) (t := .long) (t' := .long) (by decide) (by decide)))
  have f23 := Fld.other W15 f12 (Or.inr (slot_ne (Or.inr (hw _ (List.mem_of_getElem? (i := 27) rfl))) (Or.inr (hw _ (List.mem_of_getElem? (i := 17) rfl))) (by decide) (t := .long) (t' := .long) (by decide) (by decide)))
  have f24 := Fld.other W15 f13 (Or.inr (slot_ne (Or.inr (hw _ (List.mem_of_getElem? (i := 29) rfl))) (Or.inr (hw _ (List.mem_of_getElem? (i := 17) rfl))) (by decide) (t := .long) (t' := .long) (by decide) (by decide)))
  have Z15 : n0 ≤ h15.size := Nat.le_trans Z4 (Nat.le_of_eq W15.size.symm)
  have K15 := K4.wr W15 (Or.inl (List.mem_of_getElem? (i := 0) rfl))
  have N15 := Fr.snoc X15 N4 g_o0
  have go15 := go14.step (C := T15.setTop (mkF m 14 #[.val (.ref o0), .val (.long q1), .second, .val (.long q2), .second, .val (.long q3), .second, .val (.long q4), .second, .val (.long q5), .second, .val (.long q6), .second, .val (.long q7), .second, .val (.long q8), .second] [])) (fun t k => st15 t k)
  have go25 := go15.step (C := T15.setTop (mkF m 17 #[.val (.ref o0), .val (.long q1), .second, .val (.long q2), .second, .val (.long q3), .second, .val (.long q4), .second, .val (.long q5), .second, .val (.long q6), .second, .val (.long q7), .second, .val (.long q8), .second] [(.long q3), (.ref o0)])) (fun t k => by
    show Steps p.tables e below (T15.setTop (mkF m 14 #[.val (.ref o0), .val (.long q1), .second, .val (.long q2), .second, .val (.long q3), .second, .val (.long q4), .second, .val (.long q5), .second, .val (.long q6), .second, .val (.long q7), .second, .val (.long q8), .second] [])) _
    refine XS.aloadN X15.here hx rfl (hb hby d1_14) rfl rfl ?_
    show Steps p.tables e below (T15.setTop (mkF m 15 #[.val (.ref o0), .val (.long q1), .second, .val (.long q2), .second, .val (.long q3), .second, .val (.long q4), .second, .val (.long q5), .second, .val (.long q6), .second, .val (.long q7), .second, .val (.long q8), .second] [(.ref o0)])) _
    refine XS.lload X15.here hx rfl (hb hby d1_15) rfl ?_
    exact k)
  obtain ⟨T26, h26, X26, e26, W26, st26⟩ := putF X15 hx hZ hown (host := "") (Or.inl (hw _ (List.mem_of_getElem? (i := 18) rfl))) Via.refl e15 f19 f16 (Or.inr ⟨(hw _ (List.mem_of_getElem? (i := 19) rfl)), rfl, hnm⟩) (hw _ (List.mem_of_getElem? (i := 1) rfl)) (ty := .long) (by decide) rfl rfl (g := (mkF m 17 #[.val (.ref o0), .val (.long q1), .second, .val (.long q2), .second, .val (.long q3), .second, .val (.long q4), .second, .val (.long q5), .second, .val (.long q6), .second, .val (.long q7), .second, .val (.long q8), .second] [(.long q3), (.ref o0)])) rfl rfl (hb hby d1_17)
  have f27 := f16.wr W26
  have f28 := Fld.other W26 f17 (Or.inr (slot_ne (Or.inr (hw _ (List.mem_of_getElem? (i := 15) rfl))) (Or.inr (hw _ (List.mem_of_getElem? (i := 19) rfl))) (by decide) (t := .long) (t' := .long) (by decide) (by decide)))
  have f29 := Fld.other W26 f18 (Or.inr (slot_ne (Or.inr (hw _ (List.mem_of_getElem? (i := 17) rfl))) (Or.inr (hw _ (List.mem_of_getElem? (i := 19) rfl))) (by decide) (t := .long) (t' := .long) (by decide) (by decide)))
  have f30 := Fld.same W26 f19
  have f31 := Fld.other W26 f20 (Or.inr (slot_ne (Or.inr (hw _ (List.mem_of_getElem? (i := 21) rfl))) (Or.inr (hw _ (List.mem_of_getElem? (i := 19) rfl))) (by decide) (t := .long) (t' := .long) (by decide) (by decide)))
  have f32 := Fld.other W26 f21 (Or.inr (slot_ne (Or.inr (hw _ (List.mem_of_getElem? (i := 23) rfl))) (Or.inr (hw _ (List.mem_of_getElem? (i := 19) rfl))) (by decide) (t := .long) (t' := .long) (by decide) (by decide)))
  have f33 := Fld.other W26 f22 (Or.inr (slot_ne (Or.inr (hw _ (List.mem_of_getElem? (i := 25) rfl))) (Or.inr (hw _ (List.mem_of_getElem? (i := 19) rfl))) (by decide) (t := .long) (t' := .long) (by decide) (by decide)))
  have f34 := Fld.other W26 f23 (Or.inr (slot_ne (Or.inr (hw _ (List.mem_of_getElem? (i := 27) rfl))) (Or.inr (hw _ (List.mem_of_getElem? (i := 19) rfl))) (by decide) (t := .long) (t' := .long) (by decide) (by decide)))
  have f35 := Fld.other W26 f24 (Or.inr (slot_ne (Or.inr (hw _ (List.mem_of_getElem? (i := 29) rfl))) (Or.inr (hw _ (List.mem_of_getElem? (i := 19) rfl))) (by decide) (t := .long) (t' := .long) (by decide) (by decide)))
  have Z26 : n0 ≤ h26.size := Nat.le_trans Z15 (Nat.le_of_eq W26.size.symm)
  have K26 := K15.wr W26 (Or.inl (List.mem_of_getElem? (i := 0) rfl))
  have N26 := Fr.snoc X26 N15 g_o0
  have go26 := go25.step (C := T26.setTop (mkF m 20 #[.val (.ref o0), .val (.long q1), .second, .val (.long q2), .second, .val (.long q3), .second, .val (.long q4), .second, .val (.long q5), .second, .val (.long q6), .second, .val (.long q7), .second, .val (.long q8), .second] [])) (fun t k => st26 t k)
  have go36 := go26.step (C := T26.setTop (mkF m 23 #[.val (.ref o0), .val (.long q1), .second, .val (.long q2), .second, .val (.long q3), .second, .val (.long q4), .second, .val (.long q5), .second, .val (.long q6), .second, .val (.long q7), .second, .val (.long q8), .second] [(.long q4), (.ref o0)])) (fun t k => by
    show Steps p.tables e below (T26.setTop (mkF m 20 #[.val (.ref o0), .val (.long q1), .second, .val (.long q2), .second, .val (.long q3), .second, .val (.long q4), .second, .val (.long q5), .second, .val (.long q6), .second, .val (.long q7), .second, .val (.long q8), .second] [])) _
    refine XS.aloadN X26.here hx rfl (hb hby d1_20) rfl rfl ?_
    show Steps p.tables e below (T26.setTop (mkF m 21 #[.val (.ref o0), .val (.long q1), .second, .val (.long q2), .second, .val (.long q3), .second, .val (.long q4), .second, .val (.long q5), .second, .val (.long q6), .second, .val (.long q7), .second, .val (.long q8), .second] [(.ref o0)])) _
    refine XS.lload X26.here hx rfl (hb hby d1_21) rfl ?_
    exact k)
  obtain ⟨T37, h37, X37, e37, W37, st37⟩ := putF X26 hx hZ hown (host := "") (Or.inl (hw _ (List.mem_of_getElem? (i := 20) rfl))) Via.refl e26 f31 f27 (Or.inr ⟨(hw _ (List.mem_of_getElem? (i := 21) rfl)), rfl, hnm⟩) (hw _ (List.mem_of_getElem? (i := 1) rfl)) (ty := .long) (by decide) rfl rfl (g := (mkF m 23 #[.val (.ref o0), .val (.long q1), .second, .val (.long q2), .second, .val (.long q3), .second, .val (.long q4), .second, .val (.long q5), .second, .val (.long q6), .second, .val (.long q7), .second, .val (.long q8), .second] [(.long q4), (.ref o0)])) rfl rfl (hb hby d1_23)
  have f38 := f27.wr W37
  have f39 := Fld.other W37 f28 (Or.inr (slot_ne (Or.inr (hw _ (List.mem_of_getElem? (i := 15) rfl))) (Or.inr (hw _ (List.mem_of_getElem? (i := 21) rfl))) (by decide) (t := .long) (t' := .long) (by decide) (by decide)))
  have f40 := Fld.other W37 f29 (Or.inr (slot_ne (Or.inr (hw _ (List.mem_of_getElem? (i := 17) rfl))) (Or.inr (hw _ (List.mem_of_getElem? (i := 21) rfl))) (by decide) (t := .long) (t' := .long) (by decide) (by decide)))
  have f41 := Fld.other W37 f30 (Or.inr (slot_ne (Or.inr (hw _ (List.mem_of_getElem? (i := 19) rfl))) (Or.inr (hw _ (List.mem_of_getElem? (i := 21) rfl))) (by decide) (t := .long) (t' := .long) (by decide) (by decide)))
  have f42 := Fld.same W37 f31
  have f43 := Fld.other W37 f32 (Or.inr (slot_ne (Or.inr (hw _ (List.mem_of_getElem? (i := 23) rfl))) (Or.inr (hw _ (List.mem_of_getElem? (i := 21) rfl))) (by decide) (t := .long) (t' := .long) (by decide) (by decide)))
  have f44 := Fld.other W37 f33 (Or.inr (slot_ne (Or.inr (hw _ (List.mem_of_getElem? (i := 25) rfl))) (Or.inr (hw _ (List.mem_of_getElem? (i := 21) rfl))) (by decide) (t := .long) (t' := .long) (by decide) (by decide)))
  have f45 := Fld.other W37 f34 (Or.inr (slot_ne (Or.inr (hw _ (List.mem_of_getElem? (i := 27) rfl))) (Or.inr (hw _ (List.mem_of_getElem? (i := 21) rfl))) (by decide) (t := .long) (t' := .long) (by decide) (by decide)))
  have f46 := Fld.other W37 f35 (Or.inr (slot_ne (Or.inr (hw _ (List.mem_of_getElem? (i := 29) rfl))) (Or.inr (hw _ (List.mem_of_getElem? (i := 21) rfl))) (by decide) (t := .long) (t' := .long) (by decide) (by decide)))
  have Z37 : n0 ≤ h37.size := Nat.le_trans Z26 (Nat.le_of_eq W37.size.symm)
  have K37 := K26.wr W37 (Or.inl (List.mem_of_getElem? (i := 0) rfl))
  have N37 := Fr.snoc X37 N26 g_o0
  have go37 := go36.step (C := T37.setTop (mkF m 26 #[.val (.ref o0), .val (.long q1), .second, .val (.long q2), .second, .val (.long q3), .second, .val (.long q4), .second, .val (.long q5), .second, .val (.long q6), .second, .val (.long q7), .second, .val (.long q8), .second] [])) (fun t k => st37 t k)
  have go47 := go37.step (C := T37.setTop (mkF m 29 #[.val (.ref o0), .val (.long q1), .second, .val (.long q2), .second, .val (.long q3), .second, .val (.long q4), .second, .val (.long q5), .second, .val (.long q6), .second, .val (.long q7), .second, .val (.long q8), .second] [(.long q5), (.ref o0)])) (fun t k => by
    show Steps p.tables e below (T37.setTop (mkF m 26 #[.val (.ref o0), .val (.long q1), .second, .val (.long q2), .second, .val (.long q3), .second, .val (.long q4), .second, .val (.long q5), .second, .val (.long q6), .second, .val (.long q7), .second, .val (.long q8), .second] [])) _
    refine XS.aloadN X37.here hx rfl (hb hby d1_26) rfl rfl ?_
    show Steps p.tables e below (T37.setTop (mkF m 27 #[.val (.ref o0), .val (.long q1), .second, .val (.long q2), .second, .val (.long q3), .second, .val (.long q4), .second, .val (.long q5), .second, .val (.long q6), .second, .val (.long q7), .second, .val (.long q8), .second] [(.ref o0)])) _
    refine XS.lload X37.here hx rfl (hb hby d1_27) rfl ?_
    exact k)
  obtain ⟨T48, h48, X48, e48, W48, st48⟩ := putF X37 hx hZ hown (host := "") (Or.inl (hw _ (List.mem_of_getElem? (i := 22) rfl))) Via.refl e37 f43 f38 (Or.inr ⟨(hw _ (List.mem_of_getElem? (i := 23) rfl)), rfl, hnm⟩) (hw _ (List.mem_of_getElem? (i := 1) rfl)) (ty := .long) (by decide) rfl rfl (g := (mkF m 29 #[.val (.ref o0), .val (.long q1), .second, .val (.long q2), .second, .val (.long q3), .second, .val (.long q4), .second, .val (.long q5), .second, .val (.long q6), .second, .val (.long q7), .second, .val (.long q8), .second] [(.long q5), (.ref o0)])) rfl rfl (hb hby d1_29)
  have f49 := f38.wr W48
  have f50 := Fld.other W48 f39 (Or.inr (slot_ne (Or.inr (hw _ (List.mem_of_getElem? (i := 15) rfl))) (Or.inr (hw _ (List.mem_of_getElem? (i := 23) rfl))) (by decide) (t := .long) (t' := .long) (by decide) (by decide)))
  have f51 := Fld.other W48 f40 (Or.inr (slot_ne (Or.inr (hw _ (List.mem_of_getElem? (i := 17) rfl))) (Or.inr (hw _ (List.mem_of_getElem? (i := 23) rfl))) (by decide) (t := .long) (t' := .long) (by decide) (by decide)))
  have f52 := Fld.other W48 f41 (Or.inr (slot_ne (Or.inr (hw _ (List.mem_of_getElem? (i := 19) rfl))) (Or.inr (hw _ (List.mem_of_getElem? (i := 23) rfl))) (by decide) (t := .long) (t' := .long) (by decide) (by decide)))
  have f53 := Fld.other W48 f42 (Or.inr (slot_ne (Or.inr (hw _ (List.mem_of_getElem? (i := 21) rfl))) (Or.inr (hw _ (List.mem_of_getElem? (i := 23) rfl))) (by decide) (t := .long) (t' := .long) (by decide) (by decide)))
  have f54 := Fld.same W48 f43
  have f55 := Fld.other W48 f44 (Or.inr (slot_ne (Or.inr (hw _ (List.mem_of_getElem? (i := 25) rfl))) (Or.inr (hw _ (List.mem_of_getElem? (i := 23) rfl))) (by decide) (t := .long) (t' := .long) (by decide) (by decide)))
  have f56 := Fld.other W48 f45 (Or.inr (slot_ne (Or.inr (hw _ (List.mem_of_getElem? (i := 27) rfl))) (Or.inr (hw _ (List.mem_of_getElem? (i := 23) rfl))) (by decide) (t := .long) (t' := .long) (by decide) (by decide)))
  have f57 := Fld.other W48 f46 (Or.inr (slot_ne (Or.inr (hw _ (List.mem_of_getElem? (i := 29) rfl))) (Or.inr (hw _ (List.mem_of_getElem? (i := 23) rfl))) (by decide) (t := .long) (t' := .long) (by decide) (by decide)))
  have Z48 : n0 ≤ h48.size := Nat.le_trans Z37 (Nat.le_of_eq W48.size.symm)
  have K48 := K37.wr W48 (Or.inl (List.mem_of_getElem? (i := 0) rfl))
  have N48 := Fr.snoc X48 N37 g_o0
  have go48 := go47.step (C := T48.setTop (mkF m 32 #[.val (.ref o0), .val (.long q1), .second, .val (.long q2), .second, .val (.long q3), .second, .val (.long q4), .second, .val (.long q5), .second, .val (.long q6), .second, .val (.long q7), .second, .val (.long q8), .second] [])) (fun t k => st48 t k)
  have go58 := go48.step (C := T48.setTop (mkF m 35 #[.val (.ref o0), .val (.long q1), .second, .val (.long q2), .second, .val (.long q3), .second, .val (.long q4), .second, .val (.long q5), .second, .val (.long q6), .second, .val (.long q7), .second, .val (.long q8), .second] [(.long q6), (.ref o0)])) (fun t k => by
    show Steps p.tables e below (T48.setTop (mkF m 32 #[.val (.ref o0), .val (.long q1), .second, .val (.long q2), .second, .val (.long q3), .second, .val (.long q4), .second, .val (.long q5), .second, .val (.long q6), .second, .val (.long q7), .second, .val (.long q8), .second] [])) _
    refine XS.aloadN X48.here hx rfl (hb hby d1_32) rfl rfl ?_
    show Steps p.tables e below (T48.setTop (mkF m 33 #[.val (.ref o0), .val (.long q1), .second, .val (.long q2), .second, .val (.long q3), .second, .val (.long q4), .second, .val (.long q5), .second, .val (.long q6), .second, .val (.long q7), .second, .val (.long q8), .second] [(.ref o0)])) _
    refine XS.lload X48.here hx rfl (hb hby d1_33) rfl ?_
    exact k)
  obtain ⟨T59, h59, X59, e59, W59, st59⟩ := putF X48 hx hZ hown (host := "") (Or.inl (hw _ (List.mem_of_getElem? (i := 24) rfl))) Via.refl e48 f55 f49 (Or.inr ⟨(hw _ (List.mem_of_getElem? (i := 25) rfl)), rfl, hnm⟩) (hw _ (List.mem_of_getElem? (i := 1) rfl)) (ty := .long) (by decide) rfl rfl (g := (mkF m 35 #[.val (.ref o0), .val (.long q1), .second, .val (.long q2), .second, .val (.long q3), .second, .val (.long q4), .second, .val (.long q5), .second, .val (.long q6), .second, .val (.long q7), .second, .val (.long q8), .second] [(.long q6), (.ref o0)])) rfl rfl (hb hby d1_35)
  have f60 := f49.wr W59
  have f61 := Fld.other W59 f50 (Or.inr (slot_ne (Or.inr (hw _ (List.mem_of_getElem? (i := 15) rfl))) (Or.inr (hw _ (List.mem_of_getElem? (i := 25) rfl))) (by decide) (t := .long) (t' := .long) (by decide) (by decide)))
  have f62 := Fld.other W59 f51 (Or.inr (slot_ne (Or.inr (hw _ (List.mem_of_getElem? (i := 17) rfl))) (Or.inr (hw _ (List.mem_of_getElem? (i := 25) rfl))) (by decide) (t := .long) (t' := .long) (by decide) (by decide)))
  have f63 := Fld.other W59 f52 (Or.inr (slot_ne (Or.inr (hw _ (List.mem_of_getElem? (i := 19) rfl))) (Or.inr (hw _ (List.mem_of_getElem? (i := 25) rfl))) (by decide) (t := .long) (t' := .long) (by decide) (by decide)))
  have f64 := Fld.other W59 f53 (Or.inr (slot_ne (Or.inr (hw _ (List.mem_of_getElem? (i := 21) rfl))) (Or.inr (hw _ (List.mem_of_getElem? (i := 25) rfl))) (by decide) (t := .long) (t' := .long) (by decide) (by decide)))
  have f65 := Fld.other W59 f54 (Or.inr (slot_ne (Or.inr (hw _ (List.mem_of_getElem? (i := 23) rfl))) (Or.inr (hw _ (List.mem_of_getElem? (i := 25) rfl))) (by decide) (t := .long) (t' := .long) (by decide) (by decide)))
  have f66 := Fld.same W59 f55
  have f67 := Fld.other W59 f56 (Or.inr (slot_ne (Or.inr (hw _ (List.mem_of_getElem? (i := 27) rfl))) (Or.inr (hw _ (List.mem_of_getElem? (i := 25) rfl))) (by decide) (t := .long) (t' := .long) (by decide) (by decide)))
  have f68 := Fld.other W59 f57 (Or.inr (slot_ne (Or.inr (hw _ (List.mem_of_getElem? (i := 29) rfl))) (Or.inr (hw _ (List.mem_of_getElem? (i := 25) rfl))) (by decide) (t := .long) (t' := .long) (by decide) (by decide)))
  have Z59 : n0 ≤ h59.size := Nat.le_trans Z48 (Nat.le_of_eq W59.size.symm)
  have K59 := K48.wr W59 (Or.inl (List.mem_of_getElem? (i := 0) rfl))
  have N59 := Fr.snoc X59 N48 g_o0
  have go59 := go58.step (C := T59.setTop (mkF m 38 #[.val (.ref o0), .val (.long q1), .second, .val (.long q2), .second, .val (.long q3), .second, .val (.long q4), .second, .val (.long q5), .second, .val (.long q6), .second, .val (.long q7), .second, .val (.long q8), .second] [])) (fun t k => st59 t k)
  have go69 := go59.step (C := T59.setTop (mkF m 41 #[.val (.ref o0), .val (.long q1), .second, .val (.long q2), .second, .val (.long q3), .second, .val (.long q4), .second, .val (.long q5), .second, .val (.long q6), .second, .val (.long q7), .second, .val (.long q8), .second] [(.long q7), (.ref o0)])) (fun t k => by
    show Steps p.tables e below (T59.setTop (mkF m 38 #[.val (.ref o0), .val (.long q1), .second, .val (.long q2), .second, .val (.long q3), .second, .val (.long q4), .second, .val (.long q5), .second, .val (.long q6), .second, .val (.long q7), .second, .val (.long q8), .second] [])) _
    refine XS.aloadN X59.here hx rfl (hb hby d1_38) rfl rfl ?_
    show Steps p.tables e below (T59.setTop (mkF m 39 #[.val (.ref o0), .val (.long q1), .second, .val (.long q2), .second, .val (.long q3), .second, .val (.long q4), .second, .val (.long q5), .second, .val (.long q6), .second, .val (.long q7), .second, .val (.long q8), .second] [(.ref o0)])) _
    refine XS.lload X59.here hx rfl (hb hby d1_39) rfl ?_
    exact k)
  obtain ⟨T70, h70, X70, e70, W70, st70⟩ := putF X59 hx hZ hown (host := "") (Or.inl (hw _ (List.mem_of_getElem? (i := 26) rfl))) Via.refl e59 f67 f60 (Or.inr ⟨(hw _ (List.mem_of_getElem? (i := 27) rfl)), rfl, hnm⟩) (hw _ (List.mem_of_getElem? (i := 1) rfl)) (ty := .long) (by decide) rfl rfl (g := (mkF m 41 #[.val (.ref o0), .val (.long q1), .second, .val (.long q2), .second, .val (.long q3), .second, .val (.long q4), .second, .val (.long q5), .second, .val (.long q6), .second, .val (.long q7), .second, .val (.long q8), .second] [(.long q7), (.ref o0)])) rfl rfl (hb hby d1_41)
  have f71 := f60.wr W70
  have f72 := Fld.other W70 f61 (Or.inr (slot_ne (Or.inr (hw _ (List.mem_of_getElem? (i := 15) rfl))) (Or.inr (hw _ (List.mem_of_getElem? (i := 27) rfl))) (by decide) (t := .long) (t' := .long) (by decide) (by decide)))
  have f73 := Fld.other W70 f62 (Or.inr (slot_ne (Or.inr (hw _ (List.mem_of_getElem? (i := 17) rfl))) (Or.inr (hw _ (List.mem_of_getElem? (i := 27) rfl))) (by decide) (t := .long) (t' := .long) (by decide) (by decide)))
  have f74 := Fld.other W70 f63 (Or.inr (slot_ne (Or.inr (hw _ (List.mem_of_getElem? (i := 19) rfl))) (Or.inr (hw _ (List.mem_of_getElem? (i := 27) rfl))) (by decide) (t := .long) (t' := .long) (by decide) (by decide)))
  have f75 := Fld.other W70 f64 (Or.inr (slot_ne (Or.inr (hw _ (List.mem_of_getElem? (i := 21) rfl))) (Or.inr (hw _ (List.mem_of_getElem? (i := 27) rfl))) (by decide) (t := .long) (t' := .long) (by decide) (by decide)))
  have f76 := Fld.other W70 f65 (Or.inr (slot_ne (Or.inr (hw _ (List.mem_of_getElem? (i := 23) rfl))) (Or.inr (hw _ (List.mem_of_getElem? (i := 27) rfl))) (by decide) (t := .long) (t' := .long) (by decide) (by decide)))
  have f77 := Fld.other W70 f66 (Or.inr (slot_ne (Or.inr (hw _ (List.mem_of_getElem? (i := 25) rfl))) (Or.inr (hw _ (List.mem_of_getElem? (i := 27) rfl))) (by decide) (t := .long) (t' := .long) (by decide) (by decide)))
  have f78 := Fld.same W70 f67
  have f79 := Fld.other W70 f68 (Or.inr (slot_ne (Or.inr (hw _ (List.mem_of_getElem? (i := 29) rfl))) (Or.inr (hw _ (List.mem_of_getElem? (i := 27) rfl))) (by decide) (t := .long) (t' := .long) (by decide) (by decide)))
  have Z70 : n0 ≤ h70.size := Nat.le_trans Z59 (Nat.le_of_eq W70.size.symm)
  have K70 := K59.wr W70 (Or.inl (List.mem_of_getElem? (i := 0) rfl))
  have N70 := Fr.snoc X70 N59 g_o0
  have go70 := go69.step (C := T70.setTop (mkF m 44 #[.val (.ref o0), .val (.long q1), .second, .val (.long q2), .second, .val (.long q3), .second, .val (.long q4), .second, .val (.long q5), .second, .val (.long q6), .second, .val (.long q7), .second, .val (.long q8), .second] [])) (fun t k => st70 t k)
  have go80 := go70.step (C := T70.setTop (mkF m 47 #[.val (.ref o0), .val (.long q1), .second, .val (.long q2), .second, .val (.long q3), .second, .val (.long q4), .second, .val (.long q5), .second, .val (.long q6), .second, .val (.long q7), .second, .val (.long q8), .second] [(.long q8), (.ref o0)])) (fun t k => by
    show Steps p.tables e below (T70.setTop (mkF m 44 #[.val (.ref o0), .val (.long q1), .second, .val (.long q2), .second, .val (.long q3), .second, .val (.long q4), .second, .val (.long q5), .second, .val (.long q6), .second, .val (.long q7), .second, .val (.long q8), .second] [])) _
    refine XS.aloadN X70.here hx rfl (hb hby d1_44) rfl rfl ?_
    show Steps p.tables e below (T70.setTop (mkF m 45 #[.val (.ref o0), .val (.long q1), .second, .val (.long q2), .second, .val (.long q3), .second, .val (.long q4), .second, .val (.long q5), .second, .val (.long q6), .second, .val (.long q7), .second, .val (.long q8), .second] [(.ref o0)])) _
    refine XS.lload X70.here hx rfl (hb hby d1_45) rfl ?_
    exact k)
  obtain ⟨T81, h81, X81, e81, W81, st81⟩ := putF X70 hx hZ hown (host := "") (Or.inl (hw _ (List.mem_of_getElem? (i := 28) rfl))) Via.refl e70 f79 f71 (Or.inr ⟨(hw _ (List.mem_of_getElem? (i := 29) rfl)), rfl, hnm⟩) (hw _ (List.mem_of_getElem? (i := 1) rfl)) (ty := .long) (by decide) rfl rfl (g := (mkF m 47 #[.val (.ref o0), .val (.long q1), .second, .val (.long q2), .second, .val (.long q3), .second, .val (.long q4), .second, .val (.long q5), .second, .val (.long q6), .second, .val (.long q7), .second, .val (.long q8), .second] [(.long q8), (.ref o0)])) rfl rfl (hb hby d1_47)
  have f82 := f71.wr W81
  have f83 := Fld.other W81 f72 (Or.inr (slot_ne (Or.inr (hw _ (List.mem_of_getElem? (i := 15) rfl))) (Or.inr (hw _ (List.mem_of_getElem? (i := 29) rfl))) (by decide) (t := .long) (t' := .long) (by decide) (by decide)))
  have f84 := Fld.other W81 f73 (Or.inr (slot_ne (Or.inr (hw _ (List.mem_of_getElem? (i := 17) rfl))) (Or.inr (hw _ (List.mem_of_getElem? (i := 29) rfl))) (by decide) (t := .long) (t' := .long) (by decide) (by decide)))
  have f85 := Fld.other W81 f74 (Or.inr (slot_ne (Or.inr (hw _ (List.mem_of_getElem? (i := 19) rfl))) (Or.inr (hw _ (List.mem_of_getElem? (i := 29) rfl))) (by decide) (t := .long) (t' := .long) (by decide) (by decide)))
  have f86 := Fld.other W81 f75 (Or.inr (slot_ne (Or.inr (hw _ (List.mem_of_getElem? (i := 21) rfl))) (Or.inr (hw _ (List.mem_of_getElem? (i := 29) rfl))) (by decide) (t := .long) (t' := .long) (by decide) (by decide)))
  have f87 := Fld.other W81 f76 (Or.inr (slot_ne (Or.inr (hw _ (List.mem_of_getElem? (i := 23) rfl))) (Or.inr (hw _ (List.mem_of_getElem? (i := 29) rfl))) (by decide) (t := .long) (t' := .long) (by decide) (by decide)))
  have f88 := Fld.other W81 f77 (Or.inr (slot_ne (Or.inr (hw _ (List.mem_of_getElem? (i := 25) rfl))) (Or.inr (hw _ (List.mem_of_getElem? (i := 29) rfl))) (by decide) (t := .long) (t' := .long) (by decide) (by decide)))
  have f89 := Fld.other W81 f78 (Or.inr (slot_ne (Or.inr (hw _ (List.mem_of_getElem? (i := 27) rfl))) (Or.inr (hw _ (List.mem_of_getElem? (i := 29) rfl))) (by decide) (t := .long) (t' := .long) (by decide) (by decide)))
  have f90 := Fld.same W81 f79
  have Z81 : n0 ≤ h81.size := Nat.le_trans Z70 (Nat.le_of_eq W81.size.symm)
  have K81 := K70.wr W81 (Or.inl (List.mem_of_getElem? (i := 0) rfl))
  have N81 := Fr.snoc X81 N70 g_o0
  have go81 := go80.step (C := T81.setTop (mkF m 50 #[.val (.ref o0), .val (.long q1), .second, .val (.long q2), .second, .val (.long q3), .second, .val (.long q4), .second, .val (.long q5), .second, .val (.long q6), .second, .val (.long q7), .second, .val (.long q8), .second] [])) (fun t k => st81 t k)
  obtain ⟨fs, hr, hrun, hended, hW, hsame⟩ := X81.leave (v := none) (fun _ => rfl)
  refine ⟨_, _, go81 _ ?_, hrun, hended, _, _, rfl, ?_, ⟨_, rfl⟩, hW, hsame.mono (by decide) (by decide)⟩
  · exact X81.returnOut hx Bd.returns (hb hby d1_50) hr
  · show Q_rm1 Z o0 q1 q2 q3 q4 q5 q6 q7 q8 h0 n0 _ T81.heap _
    rw [e81]
    exact ⟨rfl, N81, K81, f82, f83, f84, f85, f86, f87, f88, f89, f90⟩
theorem d4_0 : decode prog_23_method_2_code 0 = .ok (.new 8, 3) := by decide +kernel
theorem d4_3 : decode prog_23_method_2_code 3 = .ok (.dup, 1) := by decide +kernel
theorem d4_4 : decode prog_23_method_2_code 4 = .ok (.aload_n 0, 1) := by decide +kernel
theorem d4_5 : decode prog_23_method_2_code 5 = .ok (.getfield 7, 3) := by decide +kernel
theorem d4_8 : decode prog_23_method_2_code 8 = .ok (.aload_n 1, 1) := by decide +kernel
theorem d4_9 : decode prog_23_method_2_code 9 = .ok (.getfield 7, 3) := by decide +kernel
theorem d4_12 : decode prog_23_method_2_code 12 = .ok (.ladd, 1) := by decide +kernel
theorem d4_13 : decode prog_23_method_2_code 13 = .ok (.aload_n 0, 1) := by decide +kernel
theorem d4_14 : decode prog_23_method_2_code 14 = .ok (.getfield 13, 3) := by decide +kernel
theorem d4_17 : decode prog_23_method_2_code 17 = .ok (.aload_n 1, 1) := by decide +kernel
theorem d4_18 : decode prog_23_method_2_code 18 = .ok (.getfield 13, 3) := by decide +kernel
theorem d4_21 : decode prog_23_method_2_code 21 = .ok (.ladd, 1) := by decide +kernel
theorem d4_22 : decode prog_23_method_2_code 22 = .ok (.aload_n 0, 1) := by decide +kernel
theorem d4_23 : decode prog_23_method_2_code 23 = .ok (.getfield 16, 3) := by decide +kernel
theorem d4_26 : decode prog_23_method_2_code 26 = .ok (.aload_n 1, 1) := by decide +kernel
theorem d4_27 : decode prog_23_method_2_code 27 = .ok (.getfield 16, 3) := by decide +kernel
theorem d4_30 : decode prog_23_method_2_code 30 = .ok (.ladd, 1) := by decide +kernel
theorem d4_31 : decode prog_23_method_2_code 31 = .ok (.aload_n 0, 1) := by decide +kernel
theorem d4_32 : decode prog_23_method_2_code 32 = .ok (.getfield 19, 3) := by decide +kernel
theorem d4_35 : decode prog_23_method_2_code 35 = .ok (.aload_n 1, 1) := by decide +kernel
theorem d4_36 : decode prog_23_method_2_code 36 = .ok (.getfield 19, 3) := by decide +kernel
theorem d4_39 : decode prog_23_method_2_code 39 = .ok (.ladd, 1) := by decide +kernel
theorem d4_40 : decode prog_23_method_2_code 40 = .ok (.aload_n 0, 1) := by decide +kernel
theorem d4_41 : decode prog_23_method_2_code 41 = .ok (.getfield 22, 3) := by decide +kernel
theorem d4_44 : decode prog_23_method_2_code 44 = .ok (.aload_n 1, 1) := by decide +kernel
theorem d4_45 : decode prog_23_method_2_code 45 = .ok (.getfield 22, 3) := by decide +kernel
theorem d4_48 : decode prog_23_method_2_code 48 = .ok (.ladd, 1) := by decide +kernel
theorem d4_49 : decode prog_23_method_2_code 49 = .ok (.aload_n 0, 1) := by decide +kernel
theorem d4_50 : decode prog_23_method_2_code 50 = .ok (.getfield 25, 3) := by decide +kernel
theorem d4_53 : decode prog_23_method_2_code 53 = .ok (.aload_n 1, 1) := by decide +kernel
theorem d4_54 : decode prog_23_method_2_code 54 = .ok (.getfield 25, 3) := by decide +kernel
theorem d4_57 : decode prog_23_method_2_code 57 = .ok (.ladd, 1) := by decide +kernel
theorem d4_58 : decode prog_23_method_2_code 58 = .ok (.aload_n 0, 1) := by decide +kernel
theorem d4_59 : decode prog_23_method_2_code 59 = .ok (.getfield 28, 3) := by decide +kernel
theorem d4_62 : decode prog_23_method_2_code 62 = .ok (.aload_n 1, 1) := by decide +kernel
theorem d4_63 : decode prog_23_method_2_code 63 = .ok (.getfield 28, 3) := by decide +kernel
theorem d4_66 : decode prog_23_method_2_code 66 = .ok (.ladd, 1) := by decide +kernel
theorem d4_67 : decode prog_23_method_2_code 67 = .ok (.aload_n 0, 1) := by decide +kernel
theorem d4_68 : decode prog_23_method_2_code 68 = .ok (.getfield 31, 3) := by decide +kernel
theorem d4_71 : decode prog_23_method_2_code 71 = .ok (.aload_n 1, 1) := by decide +kernel
theorem d4_72 : decode prog_23_method_2_code 72 = .ok (.getfield 31, 3) := by decide +kernel
theorem d4_75 : decode prog_23_method_2_code 75 = .ok (.ladd, 1) := by decide +kernel
theorem d4_76 : decode prog_23_method_2_code 76 = .ok (.invokespecial 34, 3) := by decide +kernel
theorem d4_79 : decode prog_23_method_2_code 79 = .ok (.areturn, 1) := by decide +kernel
theorem pn_rm4 : plainName "com/example/gridwire/gridwire/model/MapStatistics" = true := by first | (simp [plainName, overriddenIn]; done) | decide +kernel
theorem pd4_0 : parseMethodDescriptor "(JJJJJJJJ)V" = some ⟨[.long, .long, .long, .long, .long, .long, .long, .long], none⟩ := by decide +kernel
theorem ef_rm4 (m : MethodId) (o0 : Addr) (o1 : Addr) : entryFrame m #[(.ref o0), (.ref o1)] 2 = mkF m 0 #[.val (.ref o0), .val (.ref o1)] [] := by first | (simp [entryFrame, mkF, argsToLocals, Value.category]; done) | rfl
def Q_rm4 (Z : State) (o0 : Addr) (o1 : Addr) (u0 : Int64) (u1 : Int64) (u2 : Int64) (u3 : Int64) (u4 : Int64) (u5 : Int64) (u6 : Int64) (u7 : Int64) (v0 : Int64) (v1 : Int64) (v2 : Int64) (v3 : Int64) (v4 : Int64) (v5 : Int64) (v6 : Int64) (v7 : Int64) (h0 : Heap) (n0 : Nat) (v : Option Value) (h : Heap) (L : List Loc) : Prop := ∃ b : Addr, v = some (.ref b) ∧ Fr n0 L ∧ Keep h0 h [] ∧ n0 ≤ b ∧ h0.size ≤ b ∧ Exa Z h b "com/example/gridwire/gridwire/model/MapStatistics" ∧ Fld Z h b "com/example/gridwire/gridwire/model/MapStatistics" "currentEntries" "J" (.long (u0 + v0)) ∧ Fld Z h b "com/example/gridwire/gridwire/model/MapStatistics" "totalEntries" "J" (.long (u1 + v1)) ∧ Fld Z h b "com/example/gridwire/gridwire/model/MapStatistics" "stores" "J" (.long (u2 + v2)) ∧ Fld Z h b "com/example/gridwire/gridwire/model/MapStatistics" "retrievals" "J" (.long (u3 + v3)) ∧ Fld Z h b "com/example/gridwire/gridwire/model/MapStatistics" "hits" "J" (.long (u4 + v4)) ∧ Fld Z h b "com/example/gridwire/gridwire/model/MapStatistics" "misses" "J" (.long (u5 + v5)) ∧ Fld Z h b "com/example/gridwire/gridwire/model/MapStatistics" "removeHits" "J" (.long (u6 + v6)) ∧ Fld Z h b "com/example/gridwire/gridwire/model/MapStatistics" "removeMisses" "J" (.long (u7 + v7))
set_option maxRecDepth 65536 in
set_option maxHeartbeats 40000000 in
theorem rm4 (l : Launch) (Z : State) (a0 : Array Value) (hw : ∀ d ∈ tables_1, d.before a0 Z = true) (ws : List Jvm.Cond) (o0 : Addr) (o1 : Addr) (u0 : Int64) (u1 : Int64) (u2 : Int64) (u3 : Int64) (u4 : Int64) (u5 : Int64) (u6 : Int64) (u7 : Int64) (v0 : Int64) (v1 : Int64) (v2 : Int64) (v3 : Int64) (v4 : Int64) (v5 : Int64) (v6 : Int64) (v7 : Int64) (h0 : Heap) (n0 : Nat) (Z0 : n0 ≤ h0.size) (E_o0 : Exa Z h0 o0 "com/example/gridwire/gridwire/model/MapStatistics") (F_currentEntries_o0 : Fld Z h0 o0 "com/example/gridwire/gridwire/model/MapStatistics" "currentEntries" "J" (.long u0)) (F_totalEntries_o0 : Fld Z h0 o0 "com/example/gridwire/gridwire/model/MapStatistics" "totalEntries" "J" (.long u1)) (F_stores_o0 : Fld Z h0 o0 "com/example/gridwire/gridwire/model/MapStatistics" "stores" "J" (.long u2)) (F_retrievals_o0 : Fld Z h0 o0 "com/example/gridwire/gridwire/model/MapStatistics" "retrievals" "J" (.long u3)) (F_hits_o0 : Fld Z h0 o0 "com/example/gridwire/gridwire/model/MapStatistics" "hits" "J" (.long u4)) (F_misses_o0 : Fld Z h0 o0 "com/example/gridwire/gridwire/model/MapStatistics" "misses" "J" (.long u5)) (F_removeHits_o0 : Fld Z h0 o0 "com/example/gridwire/gridwire/model/MapStatistics" "removeHits" "J" (.long u6)) (F_removeMisses_o0 : Fld Z h0 o0 "com/example/gridwire/gridwire/model/MapStatistics" "removeMisses" "J" (.long u7)) (E_o1 : Exa Z h0 o1 "com/example/gridwire/gridwire/model/MapStatistics") (F_currentEntries_o1 : Fld Z h0 o1 "com/example/gridwire/gridwire/model/MapStatistics" "currentEntries" "J" (.long v0)) (F_totalEntries_o1 : Fld Z h0 o1 "com/example/gridwire/gridwire/model/MapStatistics" "totalEntries" "J" (.long v1)) (F_stores_o1 : Fld Z h0 o1 "com/example/gridwire/gridwire/model/MapStatistics" "stores" "J" (.long v2)) (F_retrievals_o1 : Fld Z h0 o1 "com/example/gridwire/gridwire/model/MapStatistics" "retrievals" "J" (.long v3)) (F_hits_o1 : Fld Z h0 o1 "com/example/gridwire/gridwire/model/MapStatistics" "hits" "J" (.long v4)) (F_misses_o1 : Fld Z h0 o1 "com/example/gridwire/gridwire/model/MapStatistics" "misses" "J" (.long v5)) (F_removeHits_o1 : Fld Z h0 o1 "com/example/gridwire/gridwire/model/MapStatistics" "removeHits" "J" (.long v6)) (F_removeMisses_o1 : Fld Z h0 o1 "com/example/gridwire/gridwire/model/MapStatistics" "removeMisses" "J" (.long v7)) :
    MetFree l (⟨"com/example/gridwire/gridwire/model/MapStatistics", "plus", "(Lcom/example/gridwire/gridwire/model/MapStatistics;)Lcom/example/gridwire/gridwire/model/MapStatistics;"⟩ : MethodName) (head1 (Jvm.Cond.code (⟨"com/example/gridwire/gridwire/model/MapStatistics", "plus", "(Lcom/example/gridwire/gridwire/model/MapStatistics;)Lcom/example/gridwire/gridwire/model/MapStatistics;"⟩ : MethodName) prog_23_method_2_code 2 (some (.object "com/example/gridwire/gridwire/model/MapStatistics")) :: ws) ({ frames := 3, cells := 1, slots := 8, locals := 53 } : Room)) (fun a U => a = #[(.ref o0), (.ref o1)] ∧ Z.Warmed39 U.vm ∧ U.heap = h0) (fun _ _ _ _ _ => True) (fun _ U o U' => ∃ v L, o = .returned v ∧ Q_rm4 Z o0 o1 u0 u1 u2 u3 u4 u5 u6 u7 v0 v1 v2 v3 v4 v5 v6 v7 h0 n0 v U'.heap L ∧ FrameEnd U o U' L ({ frames := 3, cells := 1, slots := 8, locals := 53 } : Room).cells ({ frames := 3, cells := 1, slots := 8, locals := 53 } : Room).slots) := by
  refine MetFree.of_bodySF (plainFor_of_name pn_rm4) hisR ?_
  intro p e s m args below meth c s₁ Bd hml0 hP hK
  obtain ⟨rfl, hZ, hh⟩ := hP
  have hx := Bd.exec
  have hby := Bd.bytes
  have hml : c.maxLocals = 2 := hml0
  have hown : s.vm.findClass "com/example/gridwire/gridwire/model/MapStatistics" = some m.cls := findClass_of_methodNamed Bd.named
  have hnm := (name_of_methodNamed Bd.named Bd.method).1
  have X0 : Stand p l e ({ frames := 3, cells := 1, slots := 8, locals := 53 } : Room) s m #[(.ref o0), (.ref o1)] below meth c s₁ [] 0 0 := Stand.of_body Bd
  have e0 : s₁.heap = h0 := by rw [← hh, Bd.state]; rfl
  have N0 := Fr.nil n0
  have K0 := Keep.refl h0 []
  have go0 : Go p e below (s₁.setTop (entryFrame m #[(.ref o0), (.ref o1)] 2)) (s₁.setTop (mkF m 0 #[.val (.ref o0), .val (.ref o1)] [])) := fun t k => castTop (ef_rm4 m o0 o1) k
  obtain ⟨T1, h1, X1, e1, E1, A1, D1, -, st1⟩ := newO X0 hx hZ hown (hw _ (List.mem_of_getElem? (i := 35) rfl)) (hw _ (List.mem_of_getElem? (i := 1) rfl)) (hw _ (List.mem_of_getElem? (i := 2) rfl)) e0 (g := (mkF m 0 #[.val (.ref o0), .val (.ref o1)] [])) rfl (hb hby d4_0) (by decide) (by decide)
  obtain ⟨b1, g1⟩ : ∃ z, z = h0.size := ⟨_, rfl⟩
  rw [← g1] at A1 D1 st1
  have ne_o0_b1 : o0 ≠ b1 := Nat.ne_of_lt (Nat.lt_of_lt_of_le E_o0.lt (Nat.le_of_eq g1.symm))
  have ne_o1_b1 : o1 ≠ b1 := Nat.ne_of_lt (Nat.lt_of_lt_of_le E_o1.lt (Nat.le_of_eq g1.symm))
  have g_b1 : n0 ≤ b1 := Nat.le_trans Z0 (Nat.le_of_eq g1.symm)
  have sz_b1 : h0.size ≤ b1 := Nat.le_trans K0.1 (Nat.le_of_eq g1.symm)
  have f2 := E_o0.ext E1
  have f3 := F_currentEntries_o0.ext E1
  have f4 := F_totalEntries_o0.ext E1
  have f5 := F_stores_o0.ext E1
  have f6 := F_retrievals_o0.ext E1
  have f7 := F_hits_o0.ext E1
  have f8 := F_misses_o0.ext E1
  have f9 := F_removeHits_o0.ext E1
  have f10 := F_removeMisses_o0.ext E1
  have f11 := E_o1.ext E1
  have f12 := F_currentEntries_o1.ext E1
  have f13 := F_totalEntries_o1.ext E1
  have f14 := F_stores_o1.ext E1
  have f15 := F_retrievals_o1.ext E1
  have f16 := F_hits_o1.ext E1
  have f17 := F_misses_o1.ext E1
  have f18 := F_removeHits_o1.ext E1
  have f19 := F_removeMisses_o1.ext E1
  have F1_currentEntries : Fld Z h1 b1 "com/example/gridwire/gridwire/model/MapStatistics" "currentEntries" "J" (.long (0 : Int64)) := D1 (Or.inr (hw _ (List.mem_of_getElem? (i := 15) rfl))) (ty := .long) (by decide)
  have F1_totalEntries : Fld Z h1 b1 "com/example/gridwire/gridwire/model/MapStatistics" "totalEntries" "J" (.long (0 : Int64)) := D1 (Or.inr (hw _ (List.mem_of_getElem? (i := 17) rfl))) (ty := .long) (by decide)
  have F1_stores : Fld Z h1 b1 "com/example/gridwire/gridwire/model/MapStatistics" "stores" "J" (.long (0 : Int64)) := D1 (Or.inr (hw _ (List.mem_of_getElem? (i := 19) rfl))) (ty := .long) (by decide)
  have F1_retrievals : Fld Z h1 b1 "com/example/gridwire/gridwire/model/MapStatistics" "retrievals" "J" (.long (0 : Int64)) := D1 (Or.inr (hw _ (List.mem_of_getElem? (i := 21) rfl))) (ty := .long) (by decide)
  have F1_hits : Fld Z h1 b1 "com/example/gridwire/gridwire/model/MapStatistics" "hits" "J" (.long (0 : Int64)) := D1 (Or.inr (hw _ (List.mem_of_getElem? (i := 23) rfl))) (ty := .long) (by decide)
  have F1_misses : Fld Z h1 b1 "com/example/gridwire/gridwire/model/MapStatistics" "misses" "J" (.long (0 : Int64)) := D1 (Or.inr (hw _ (List.mem_of_getElem? (i := 25) rfl))) (ty := .long) (by decide)
  have F1_removeHits : Fld Z h1 b1 "com/example/gridwire/gridwire/model/MapStatistics" "removeHits" "J" (.long (0 : Int64)) := D1 (Or.inr (hw _ (List.mem_of_getElem? (i := 27) rfl))) (ty := .long) (by decide)
  have F1_removeMisses : Fld Z h1 b1 "com/example/gridwire/gridwire/model/MapStatistics" "removeMisses" "J" (.long (0 : Int64)) := D1 (Or.inr (hw _ (List.mem_of_getElem? (i := 29) rfl))) (ty := .long) (by decide)
  have Z1 : n0 ≤ h1.size := Nat.le_trans Z0 E1.1
  have K1 := K0.ext E1
  have go1 := go0.step (C := T1.setTop (mkF m 3 #[.val (.ref o0), .val (.ref o1)] [(.ref b1)])) (fun t k => st1 t k)
  have go20 := go1.step (C := T1.setTop (mkF m 5 #[.val (.ref o0), .val (.ref o1)] [(.ref o0), (.ref b1), (.ref b1)])) (fun t k => by
    show Steps p.tables e below (T1.setTop (mkF m 3 #[.val (.ref o0), .val (.ref o1)] [(.ref b1)])) _
    refine XS.dup X1.here hx rfl (hb hby d4_3) rfl rfl ?_
    show Steps p.tables e below (T1.setTop (mkF m 4 #[.val (.ref o0), .val (.ref o1)] [(.ref b1), (.ref b1)])) _
    refine XS.aloadN X1.here hx rfl (hb hby d4_4) rfl rfl ?_
    exact k)
  obtain ⟨T21, X21, e21, st21⟩ := getF X1 hx hZ hown (host := "") (Or.inl (hw _ (List.mem_of_getElem? (i := 14) rfl))) Via.refl e1 f3 (g := (mkF m 5 #[.val (.ref o0), .val (.ref o1)] [(.ref o0), (.ref b1), (.ref b1)])) rfl rfl (hb hby d4_5)
  have go21 := go20.step (C := T21.setTop (mkF m 8 #[.val (.ref o0), .val (.ref o1)] [(.long u0), (.ref b1), (.ref b1)])) (fun t k => st21 t k)
  have go22 := go21.step (C := T21.setTop (mkF m 9 #[.val (.ref o0), .val (.ref o1)] [(.ref o1), (.long u0), (.ref b1), (.ref b1)])) (fun t k => by
    show Steps p.tables e below (T21.setTop (mkF m 8 #[.val (.ref o0), .val (.ref o1)] [(.long u0), (.ref b1), (.ref b1)])) _
    refine XS.aloadN X21.here hx rfl (hb hby d4_8) rfl rfl ?_
    exact k)
  obtain ⟨T23, X23, e23, st23⟩ := getF X21 hx hZ hown (host := "") (Or.inl (hw _ (List.mem_of_getElem? (i := 14) rfl))) Via.refl e21 f12 (g := (mkF m 9 #[.val (.ref o0), .val (.ref o1)] [(.ref o1), (.long u0), (.ref b1), (.ref b1)])) rfl rfl (hb hby d4_9)
  have go23 := go22.step (C := T23.setTop (mkF m 12 #[.val (.ref o0), .val (.ref o1)] [(.long v0), (.long u0), (.ref b1), (.ref b1)])) (fun t k => st23 t k)
  have go24 := go23.step (C := T23.setTop (mkF m 14 #[.val (.ref o0), .val (.ref o1)] [(.ref o0), (.long (u0 + v0)), (.ref b1), (.ref b1)])) (fun t k => by
    show Steps p.tables e below (T23.setTop (mkF m 12 #[.val (.ref o0), .val (.ref o1)] [(.long v0), (.long u0), (.ref b1), (.ref b1)])) _
    refine XS.ladd X23.here hx rfl (hb hby d4_12) rfl ?_
    show Steps p.tables e below (T23.setTop (mkF m 13 #[.val (.ref o0), .val (.ref o1)] [(.long (u0 + v0)), (.ref b1), (.ref b1)])) _
    refine XS.aloadN X23.here hx rfl (hb hby d4_13) rfl rfl ?_
    exact k)
  obtain ⟨T25, X25, e25, st25⟩ := getF X23 hx hZ hown (host := "") (Or.inl (hw _ (List.mem_of_getElem? (i := 16) rfl))) Via.refl e23 f4 (g := (mkF m 14 #[.val (.ref o0), .val (.ref o1)] [(.ref o0), (.long (u0 + v0)), (.ref b1), (.ref b1)])) rfl rfl (hb hby d4_14)
  have go25 := go24.step (C := T25.setTop (mkF m 17 #[.val (.ref o0), .val (.ref o1)] [(.long u1), (.long (u0 + v0)), (.ref b1), (.ref b1)])) (fun t k => st25 t k)
  have go26 := go25.step (C := T25.setTop (mkF m 18 #[.val (.ref o0), .val (.ref o1)] [(.ref o1), (.long u1), (.long (u0 + v0)), (.ref b1), (.ref b1)])) (fun t k => by
    show Steps p.tables e below (T25.setTop (mkF m 17 #[.val (.ref o0), .val (.ref o1)] [(.long u1), (.long (u0 + v0)), (.ref b1), (.ref b1)])) _
    refine XS.aloadN X25.here hx rfl (hb hby d4_17) rfl rfl ?_
    exact k)
  obtain ⟨T27, X27, e27, st27⟩ := getF X25 hx hZ hown (host := "") (Or.inl (hw _ (List.mem_of_getElem? (i := 16) rfl))) Via.refl e25 f13 (g := (mkF m 18 #[.val (.ref o0), .val (.ref o1)] [(.ref o1), (.long u1), (.long (u0 + v0)), (.ref b1), (.ref b1)])) rfl rfl (hb hby d4_18)
  have go27 := go26.step (C := T27.setTop (mkF m 21 #[.val (.ref o0), .val (.ref o1)] [(.long v1), (.long u1), (.long (u0 + v0)), (.ref b1), (.ref b1)])) (fun t k => st27 t k)
  have go28 := go27.step (C := T27.setTop (mkF m 23 #[.val (.ref o0), .val (.ref o1)] [(.ref o0), (.long (u1 + v1)), (.long (u0 + v0)), (.ref b1), (.ref b1)])) (fun t k => by
    show Steps p.tables e below (T27.setTop (mkF m 21 #[.val (.ref o0), .val (.ref o1)] [(.long v1), (.long u1), (.long (u0 + v0)), (.ref b1), (.ref b1)])) _
    refine XS.ladd X27.here hx rfl (hb hby d4_21) rfl ?_
    show Steps p.tables e below (T27.setTop (mkF m 22 #[.val (.ref o0), .val (.ref o1)] [(.long (u1 + v1)), (.long (u0 + v0)), (.ref b1), (.ref b1)])) _
    refine XS.aloadN X27.here hx rfl (hb hby d4_22) rfl rfl ?_
    exact k)
  obtain ⟨T29, X29, e29, st29⟩ := getF X27 hx hZ hown (host := "") (Or.inl (hw _ (List.mem_of_getElem? (i := 18) rfl))) Via.refl e27 f5 (g := (mkF m 23 #[.val (.ref o0), .val (.ref o1)] [(.ref o0), (.long (u1 + v1)), (.long (u0 + v0)), (.ref b1), (.ref b1)])) rfl rfl (hb hby d4_23)
  have go29 := go28.step (C := T29.setTop (mkF m 26 #[.val (.ref o0), .val (.ref o1)] [(.long u2), (.long (u1 + v1)), (.long (u0 + v0)), (.ref b1), (.ref b1)])) (fun t k => st29 t k)
  have go30 := go29.step (C := T29.setTop (mkF m 27 #[.val (.ref o0), .val (.ref o1)] [(.ref o1), (.long u2), (.long (u1 + v1)), (.long (u0 + v0)), (.ref b1), (.ref b1)])) (fun t k => by
    show Steps p.tables e below (T29.setTop (mkF m 26 #[.val (.ref o0), .val (.ref o1)] [(.long u2), (.long (u1 + v1)), (.long (u0 + v0)), (.ref b1), (.ref b1)])) _
    refine XS.aloadN X29.here hx rfl (hb hby d4_26) rfl rfl ?_
    exact k)
  obtain ⟨T31, X31, e31, st31⟩ := getF X29 hx hZ hown (host := "") (Or.inl (hw _ (List.mem_of_getElem? (i := 18) rfl))) Via.refl e29 f14 (g := (mkF m 27 #[.val (.ref o0), .val (.ref o1)] [(.ref o1), (.long u2), (.long (u1 + v1)), (.long (u0 + v0)), (.ref b1), (.ref b1)])) rfl rfl (hb hby d4_27)
  have go31 := go30.step (C := T31.setTop (mkF m 30 #[.val (.ref o0), .val (.ref o1)] [(.long v2), (.long u2), (.long (u1 + v1)), (.long (u0 + v0)), (.ref b1), (.ref b1)])) (fun t k => st31 t k)
  have go32 := go31.step (C := T31.setTop (mkF m 32 #[.val (.ref o0), .val (.ref o1)] [(.ref o0), (.long (u2 + v2)), (.long (u1 + v1)), (.long (u0 + v0)), (.ref b1), (.ref b1)])) (fun t k => by
    show Steps p.tables e below (T31.setTop (mkF m 30 #[.val (.ref o0), .val (.ref o1)] [(.long v2), (.long u2), (.long (u1 + v1)), (.long (u0 + v0)), (.ref b1), (.ref b1)])) _
    refine XS.ladd X31.here hx rfl (hb hby d4_30) rfl ?_
    show Steps p.tables e below (T31.setTop (mkF m 31 #[.val (.ref o0), .val (.ref o1)] [(.long (u2 + v2)), (.long (u1 + v1)), (.long (u0 + v0)), (.ref b1), (.ref b1)])) _
    refine XS.aloadN X31.here hx rfl (hb hby d4_31) rfl rfl ?_
    exact k)
  obtain ⟨T33, X33, e33, st33⟩ := getF X31 hx hZ hown (host := "") (Or.inl (hw _ (List.mem_of_getElem? (i := 20) rfl))) Via.refl e31 f6 (g := (mkF m 32 #[.val (.ref o0), .val (.ref o1)] [(.ref o0), (.long (u2 + v2)), (.long (u1 + v1)), (.long (u0 + v0)), (.ref b1), (.ref b1)])) rfl rfl (hb hby d4_32)
  have go33 := go32.step (C := T33.setTop (mkF m 35 #[.val (.ref o0), .val (.ref o1)] [(.long u3), (.long (u2 + v2)), (.long (u1 + v1)), (.long (u0 + v0)), (.ref b1), (.ref b1)])) (fun t k => st33 t k)
  have go34 := go33.step (C := T33.setTop (mkF m 36 #[.val (.ref o0), .val (.ref o1)] [(.ref o1), (.long u3), (.long (u2 + v2)), (.long (u1 + v1)), (.long (u0 + v0)), (.ref b1), (.ref b1)])) (fun t k => by
    show Steps p.tables e below (T33.setTop (mkF m 35 #[.val (.ref o0), .val (.ref o1)] [(.long u3), (.long (u2 + v2)), (.long (u1 + v1)), (.long (u0 + v0)), (.ref b1), (.ref b1)])) _
    refine XS.aloadN X33.here hx rfl (hb hby d4_35) rfl rfl ?_
    exact k)
  obtain ⟨T35, X35, e35, st35⟩ := getF X33 hx hZ hown (host := "") (Or.inl (hw _ (List.mem_of_getElem? (i := 20) rfl))) Via.refl e33 f15 (g := (mkF m 36 #[.val (.ref o0), .val (.ref o1)] [(.ref o1), (.long u3), (.long (u2 + v2)), (.long (u1 + v1)), (.long (u0 + v0)), (.ref b1), (.ref b1)])) rfl rfl (hb hby d4_36)
  have go35 := go34.step (C := T35.setTop (mkF m 39 #[.val (.ref o0), .val (.ref o1)] [(.long v3), (.long u3), (.long (u2 + v2)), (.long (u1 + v1)), (.long (u0 + v0)), (.ref b1), (.ref b1)])) (fun t k => st35 t k)
  have go36 := go35.step (C := T35.setTop (mkF m 41 #[.val (.ref o0), .val (.ref o1)] [(.ref o0), (.long (u3 + v3)), (.long (u2 + v2)), (.long (u1 + v1)), (.long (u0 + v0)), (.ref b1), (.ref b1)])) (fun t k => by
    show Steps p.tables e below (T35.setTop (mkF m 39 #[.val (.ref o0), .val (.ref o1)] [(.long v3), (.long u3), (.long (u2 + v2)), (.long (u1 + v1)), (.long (u0 + v0)), (.ref b1), (.ref b1)])) _
    refine XS.ladd X35.here hx rfl (hb hby d4_39) rfl ?_
    show Steps p.tables e below (T35.setTop (mkF m 40 #[.val (.ref o0), .val (.ref o1)] [(.long (u3 + v3)), (.long (u2 + v2)), (.long (u1 + v1)), (.long (u0 + v0)), (.ref b1), (.ref b1)])) _
    refine XS.aloadN X35.here hx rfl (hb hby d4_40) rfl rfl ?_
    exact k)
  obtain ⟨T37, X37, e37, st37⟩ := getF X35 hx hZ hown (host := "") (Or.inl (hw _ (List.mem_of_getElem? (i := 22) rfl))) Via.refl e35 f7 (g := (mkF m 41 #[.val (.ref o0), .val (.ref o1)] [(.ref o0), (.long (u3 + v3)), (.long (u2 + v2)), (.long (u1 + v1)), (.long (u0 + v0)), (.ref b1), (.ref b1)])) rfl rfl (hb hby d4_41)
  have go37 := go36.step (C := T37.setTop (mkF m 44 #[.val (.ref o0), .val (.ref o1)] [(.long u4), (.long (u3 + v3)), (.long (u2 + v2)), (.long (u1 + v1)), (.long (u0 + v0)), (.ref b1), (.ref b1)])) (fun t k => st37 t k)
  have go38 := go37.step (C := T37.setTop (mkF m 45 #[.val (.ref o0), .val (.ref o1)] [(.ref o1), (.long u4), (.long (u3 + v3)), (.long (u2 + v2)), (.long (u1 + v1)), (.long (u0 + v0)), (.ref b1), (.ref b1)])) (fun t k => by
    show Steps p.tables e below (T37.setTop (mkF m 44 #[.val (.ref o0), .val (.ref o1)] [(.long u4), (.long (u3 + v3)), (.long (u2 + v2)), (.long (u1 + v1)), (.long (u0 + v0)), (.ref b1), (.ref b1)])) _
    refine XS.aloadN X37.here hx rfl (hb hby d4_44) rfl rfl ?_
    exact k)
  obtain ⟨T39, X39, e39, st39⟩ := getF X37 hx hZ hown (host := "") (Or.inl (hw _ (List.mem_of_getElem? (i := 22) rfl))) Via.refl e37 f16 (g := (mkF m 45 #[.val (.ref o0), .val (.ref o1)] [(.ref o1), (.long u4), (.long (u3 + v3)), (.long (u2 + v2)), (.long (u1 + v1)), (.long (u0 + v0)), (.ref b1), (.ref b1)])) rfl rfl (hb hby d4_45)
  have go39 := go38.step (C := T39.setTop (mkF m 48 #[.val (.ref o0), .val (.ref o1)] [(.long v4), (.long u4), (.long (u3 + v3)), (.long (u2 + v2)), (.long (u1 + v1)), (.long (u0 + v0)), (.ref b1), (.ref b1)])) (fun t k => st39 t k)
  have go40 := go39.step (C := T39.setTop (mkF m 50 #[.val (.ref o0), .val (.ref o1)] [(.ref o0), (.long (u4 + v4)), (.long (u3 + v3)), (.long (u2 + v2)), (.long (u1 + v1)), (.long (u0 + v0)), (.ref b1), (.ref b1)])) (fun t k => by
    show Steps p.tables e below (T39.setTop (mkF m 48 #[.val (.ref o0), .val (.ref o1)] [(.long v4), (.long u4), (.long (u3 + v3)), (.long (u2 + v2)), (.long (u1 + v1)), (.long (u0 + v0)), (.ref b1), (.ref b1)])) _
    refine XS.ladd X39.here hx rfl (hb hby d4_48) rfl ?_
    show Steps p.tables e below (T39.setTop (mkF m 49 #[.val (.ref o0), .val (.ref o1)] [(.long (u4 + v4)), (.long (u3 + v3)), (.long (u2 + v2)), (.long (u1 + v1)), (.long (u0 + v0)), (.ref b1), (.ref b1)])) _
    refine XS.aloadN X39.here hx rfl (hb hby d4_49) rfl rfl ?_
    exact k)
  obtain ⟨T41, X41, e41, st41⟩ := getF X39 hx hZ hown (host := "") (Or.inl (hw _ (List.mem_of_getElem? (i := 24) rfl))) Via.refl e39 f8 (g := (mkF m 50 #[.val (.ref o0), .val (.ref o1)] [(.ref o0), (.long (u4 + v4)), (.long (u3 + v3)), (.long (u2 + v2)), (.long (u1 + v1)), (.long (u0 + v0)), (.ref b1), (.ref b1)])) rfl rfl (hb hby d4_50)
  have go41 := go40.step (C := T41.setTop (mkF m 53 #[.val (.ref o0), .val (.ref o1)] [(.long u5), (.long (u4 + v4)), (.long (u3 + v3)), (.long (u2 + v2)), (.long (u1 + v1)), (.long (u0 + v0)), (.ref b1), (.ref b1)])) (fun t k => st41 t k)
  have go42 := go41.step (C := T41.setTop (mkF m 54 #[.val (.ref o0), .val (.ref o1)] [(.ref o1), (.long u5), (.long (u4 + v4)), (.long (u3 + v3)), (.long (u2 + v2)), (.long (u1 + v1)), (.long (u0 + v0)), (.ref b1), (.ref b1)])) (fun t k => by
    show Steps p.tables e below (T41.setTop (mkF m 53 #[.val (.ref o0), .val (.ref o1)] [(.long u5), (.long (u4 + v4)), (.long (u3 + v3)), (.long (u2 + v2)), (.long (u1 + v1)), (.long (u0 + v0)), (.ref b1), (.ref b1)])) _
    refine XS.aloadN X41.here hx rfl (hb hby d4_53) rfl rfl ?_
    exact k)
  obtain ⟨T43, X43, e43, st43⟩ := getF X41 hx hZ hown (host := "") (Or.inl (hw _ (List.mem_of_getElem? (i := 24) rfl))) Via.refl e41 f17 (g := (mkF m 54 #[.val (.ref o0), .val (.ref o1)] [(.ref o1), (.long u5), (.long (u4 + v4)), (.long (u3 + v3)), (.long (u2 + v2)), (.long (u1 + v1)), (.long (u0 + v0)), (.ref b1), (.ref b1)])) rfl rfl (hb hby d4_54)
  have go43 := go42.step (C := T43.setTop (mkF m 57 #[.val (.ref o0), .val (.ref o1)] [(.long v5), (.long u5), (.long (u4 + v4)), (.long (u3 + v3)), (.long (u2 + v2)), (.long (u1 + v1)), (.long (u0 + v0)), (.ref b1), (.ref b1)])) (fun t k => st43 t k)
  have go44 := go43.step (C := T43.setTop (mkF m 59 #[.val (.ref o0), .val (.ref o1)] [(.ref o0), (.long (u5 + v5)), (.long (u4 + v4)), (.long (u3 + v3)), (.long (u2 + v2)), (.long (u1 + v1)), (.long (u0 + v0)), (.ref b1), (.ref b1)])) (fun t k => by
    show Steps p.tables e below (T43.setTop (mkF m 57 #[.val (.ref o0), .val (.ref o1)] [(.long v5), (.long u5), (.long (u4 + v4)), (.long (u3 + v3)), (.long (u2 + v2)), (.long (u1 + v1)), (.long (u0 + v0)), (.ref b1), (.ref b1)])) _
    refine XS.ladd X43.here hx rfl (hb hby d4_57) rfl ?_
    show Steps p.tables e below (T43.setTop (mkF m 58 #[.val (.ref o0), .val (.ref o1)] [(.long (u5 + v5)), (.long (u4 + v4)), (.long (u3 + v3)), (.long (u2 + v2)), (.long (u1 + v1)), (.long (u0 + v0)), (.ref b1), (.ref b1)])) _
    refine XS.aloadN X43.here hx rfl (hb hby d4_58) rfl rfl ?_
    exact k)
  obtain ⟨T45, X45, e45, st45⟩ := getF X43 hx hZ hown (host := "") (Or.inl (hw _ (List.mem_of_getElem? (i := 26) rfl))) Via.refl e43 f9 (g := (mkF m 59 #[.val (.ref o0), .val (.ref o1)] [(.ref o0), (.long (u5 + v5)), (.long (u4 + v4)), (.long (u3 + v3)), (.long (u2 + v2)), (.long (u1 + v1)), (.long (u0 + v0)), (.ref b1), (.ref b1)])) rfl rfl (hb hby d4_59)
  have go45 := go44.step (C := T45.setTop (mkF m 62 #[.val (.ref o0), .val (.ref o1)] [(.long u6), (.long (u5 + v5)), (.long (u4 + v4)), (.long (u3 + v3)), (.long (u2 + v2)), (.long (u1 + v1)), (.long (u0 + v0)), (.ref b1), (.ref b1)])) (fun t k => st45 t k)
  have go46 := go45.step (C := T45.setTop (mkF m 63 #[.val (.ref o0), .val (.ref o1)] [(.ref o1), (.long u6), (.long (u5 + v5)), (.long (u4 + v4)), (.long (u3 + v3)), (.long (u2 + v2)), (.long (u1 + v1)), (.long (u0 + v0)), (.ref b1), (.ref b1)])) (fun t k => by
    show Steps p.tables e below (T45.setTop (mkF m 62 #[.val (.ref o0), .val (.ref o1)] [(.long u6), (.long (u5 + v5)), (.long (u4 + v4)), (.long (u3 + v3)), (.long (u2 + v2)), (.long (u1 + v1)), (.long (u0 + v0)), (.ref b1), (.ref b1)])) _
    refine XS.aloadN X45.here hx rfl (hb hby d4_62) rfl rfl ?_
    exact k)
  obtain ⟨T47, X47, e47, st47⟩ := getF X45 hx hZ hown (host := "") (Or.inl (hw _ (List.mem_of_getElem? (i := 26) rfl))) Via.refl e45 f18 (g := (mkF m 63 #[.val (.ref o0), .val (.ref o1)] [(.ref o1), (.long u6), (.long (u5 + v5)), (.long (u4 + v4)), (.long (u3 + v3)), (.long (u2 + v2)), (.long (u1 + v1)), (.long (u0 + v0)), (.ref b1), (.ref b1)])) rfl rfl (hb hby d4_63)
  have go47 := go46.step (C := T47.setTop (mkF m 66 #[.val (.ref o0), .val (.ref o1)] [(.long v6), (.long u6), (.long (u5 + v5)), (.long (u4 + v4)), (.long (u3 + v3)), (.long (u2 + v2)), (.long (u1 + v1)), (.long (u0 + v0)), (.ref b1), (.ref b1)])) (fun t k => st47 t k)
  have go48 := go47.step (C := T47.setTop (mkF m 68 #[.val (.ref o0), .val (.ref o1)] [(.ref o0), (.long (u6 + v6)), (.long (u5 + v5)), (.long (u4 + v4)), (.long (u3 + v3)), (.long (u2 + v2)), (.long (u1 + v1)), (.long (u0 + v0)), (.ref b1), (.ref b1)])) (fun t k => by
    show Steps p.tables e below (T47.setTop (mkF m 66 #[.val (.ref o0), .val (.ref o1)] [(.long v6), (.long u6), (.long (u5 + v5)), (.long (u4 + v4)), (.long (u3 + v3)), (.long (u2 + v2)), (.long (u1 + v1)), (.long (u0 + v0)), (.ref b1), (.ref b1)])) _
    refine XS.ladd X47.here hx rfl (hb hby d4_66) rfl ?_
    show Steps p.tables e below (T47.setTop (mkF m 67 #[.val (.ref o0), .val (.ref o1)] [(.long (u6 + v6)), (.long (u5 + v5)), (.long (u4 + v4)), (.long (u3 + v3)), (.long (u2 + v2)), (.long (u1 + v1)), (.long (u0 + v0)), (.ref b1), (.ref b1)])) _
    refine XS.aloadN X47.here hx rfl (hb hby d4_67) rfl rfl ?_
    exact k)
  obtain ⟨T49, X49, e49, st49⟩ := getF X47 hx hZ hown (host := "") (Or.inl (hw _ (List.mem_of_getElem? (i := 28) rfl))) Via.refl e47 f10 (g := (mkF m 68 #[.val (.ref o0), .val (.ref o1)] [(.ref o0), (.long (u6 + v6)), (.long (u5 + v5)), (.long (u4 + v4)), (.long (u3 + v3)), (.long (u2 + v2)), (.long (u1 + v1)), (.long (u0 + v0)), (.ref b1), (.ref b1)])) rfl rfl (hb hby d4_68)
  have go49 := go48.step (C := T49.setTop (mkF m 71 #[.val (.ref o0), .val (.ref o1)] [(.long u7), (.long (u6 + v6)), (.long (u5 + v5)), (.long (u4 + v4)), (.long (u3 + v3)), (.long (u2 + v2)), (.long (u1 + v1)), (.long (u0 + v0)), (.ref b1), (.ref b1)])) (fun t k => st49 t k)
  have go50 := go49.step (C := T49.setTop (mkF m 72 #[.val (.ref o0), .val (.ref o1)] [(.ref o1), (.long u7), (.long (u6 + v6)), (.long (u5 + v5)), (.long (u4 + v4)), (.long (u3 + v3)), (.long (u2 + v2)), (.long (u1 + v1)), (.long (u0 + v0)), (.ref b1), (.ref b1)])) (fun t k => by
    show Steps p.tables e below (T49.setTop (mkF m 71 #[.val (.ref o0), .val (.ref o1)] [(.long u7), (.long (u6 + v6)), (.long (u5 + v5)), (.long (u4 + v4)), (.long (u3 + v3)), (.long (u2 + v2)), (.long (u1 + v1)), (.long (u0 + v0)), (.ref b1), (.ref b1)])) _
    refine XS.aloadN X49.here hx rfl (hb hby d4_71) rfl rfl ?_
    exact k)
  obtain ⟨T51, X51, e51, st51⟩ := getF X49 hx hZ hown (host := "") (Or.inl (hw _ (List.mem_of_getElem? (i := 28) rfl))) Via.refl e49 f19 (g := (mkF m 72 #[.val (.ref o0), .val (.ref o1)] [(.ref o1), (.long u7), (.long (u6 + v6)), (.long (u5 + v5)), (.long (u4 + v4)), (.long (u3 + v3)), (.long (u2 + v2)), (.long (u1 + v1)), (.long (u0 + v0)), (.ref b1), (.ref b1)])) rfl rfl (hb hby d4_72)
  have go51 := go50.step (C := T51.setTop (mkF m 75 #[.val (.ref o0), .val (.ref o1)] [(.long v7), (.long u7), (.long (u6 + v6)), (.long (u5 + v5)), (.long (u4 + v4)), (.long (u3 + v3)), (.long (u2 + v2)), (.long (u1 + v1)), (.long (u0 + v0)), (.ref b1), (.ref b1)])) (fun t k => st51 t k)
  have go52 := go51.step (C := T51.setTop (mkF m 76 #[.val (.ref o0), .val (.ref o1)] [(.long (u7 + v7)), (.long (u6 + v6)), (.long (u5 + v5)), (.long (u4 + v4)), (.long (u3 + v3)), (.long (u2 + v2)), (.long (u1 + v1)), (.long (u0 + v0)), (.ref b1), (.ref b1)])) (fun t k => by
    show Steps p.tables e below (T51.setTop (mkF m 75 #[.val (.ref o0), .val (.ref o1)] [(.long v7), (.long u7), (.long (u6 + v6)), (.long (u5 + v5)), (.long (u4 + v4)), (.long (u3 + v3)), (.long (u2 + v2)), (.long (u1 + v1)), (.long (u0 + v0)), (.ref b1), (.ref b1)])) _
    refine XS.ladd X51.here hx rfl (hb hby d4_75) rfl ?_
    exact k)
  obtain ⟨_, _, ⟨T53, L53, k53, n53⟩, -, X53, ⟨Lc53, hQ53, l53, y53, z53⟩, st53⟩ := X51.specialBack hx (y := (⟨"com/example/gridwire/gridwire/model/MapStatistics", "<init>", "(JJJJJJJJ)V"⟩ : MethodName)) rfl hown (mvT hZ (hw _ (List.mem_of_getElem? (i := 36) rfl))) (mvT hZ (hw _ (List.mem_of_getElem? (i := 4) rfl))) (mvT hZ (hw _ (List.mem_of_getElem? (i := 5) rfl))) (by decide) (backOf (W := 1) (rm1 l Z a0 hw [] b1 (u0 + v0) (u1 + v1) (u2 + v2) (u3 + v3) (u4 + v4) (u5 + v5) (u6 + v6) (u7 + v7) h1 n0 Z1 A1 g_b1 F1_currentEntries F1_totalEntries F1_stores F1_retrievals F1_hits F1_misses F1_removeHits F1_removeMisses) hZ (hw _ (List.mem_of_getElem? (i := 5) rfl)) (hw _ (List.mem_of_getElem? (i := 2) rfl)) (by decide) (by decide)) (g := (mkF m 76 #[.val (.ref o0), .val (.ref o1)] [(.long (u7 + v7)), (.long (u6 + v6)), (.long (u5 + v5)), (.long (u4 + v4)), (.long (u3 + v3)), (.long (u2 + v2)), (.long (u1 + v1)), (.long (u0 + v0)), (.ref b1), (.ref b1)])) rfl (by rw [hml]; rfl) (Steps.refl _) (a := b1) (argsL := [(.long (u0 + v0)), (.long (u1 + v1)), (.long (u2 + v2)), (.long (u3 + v3)), (.long (u4 + v4)), (.long (u5 + v5)), (.long (u6 + v6)), (.long (u7 + v7))]) (rest := [(.ref b1)]) (lenOf pd4_0 rfl) rfl (by show 2 * 0 + _ ≤ _; exact Nat.le_of_eq rfl) (hb hby d4_76) (fun _ _ => ⟨rfl, e51, (by decide : 1 + 0 ≤ _), (by decide : 8 + 0 ≤ _)⟩)
  dsimp only [Pt.U, Pt.locs, Pt.cells, Pt.slots] at X53 l53 y53 z53 st53 hQ53
  subst l53 y53 z53
  obtain ⟨rfl, N53q, K53, qp53_0, qp53_1, qp53_2, qp53_3, qp53_4, qp53_5, qp53_6, qp53_7, qp53_8⟩ := hQ53
  have N53 := Fr.app N0 N53q
  have f54 := f2.keep K53
  have f55 := f3.keep K53 (ninS ne_o0_b1 nin0)
  have f56 := f4.keep K53 (ninS ne_o0_b1 nin0)
  have f57 := f5.keep K53 (ninS ne_o0_b1 nin0)
  have f58 := f6.keep K53 (ninS ne_o0_b1 nin0)
  have f59 := f7.keep K53 (ninS ne_o0_b1 nin0)
  have f60 := f8.keep K53 (ninS ne_o0_b1 nin0)
  have f61 := f9.keep K53 (ninS ne_o0_b1 nin0)
  have f62 := f10.keep K53 (ninS ne_o0_b1 nin0)
  have f63 := f11.keep K53
  have f64 := f12.keep K53 (ninS ne_o1_b1 nin0)
  have f65 := f13.keep K53 (ninS ne_o1_b1 nin0)
  have f66 := f14.keep K53 (ninS ne_o1_b1 nin0)
  have f67 := f15.keep K53 (ninS ne_o1_b1 nin0)
  have f68 := f16.keep K53 (ninS ne_o1_b1 nin0)
  have f69 := f17.keep K53 (ninS ne_o1_b1 nin0)
  have f70 := f18.keep K53 (ninS ne_o1_b1 nin0)
  have f71 := f19.keep K53 (ninS ne_o1_b1 nin0)
  have f72 := A1.keep K53
  have Z53 : n0 ≤ T53.heap.size := Nat.le_trans Z1 K53.1
  have KK53 := K1.trans K53 (allS (Or.inr sz_b1) all0)
  have go53 := go52.tr (C := T53.setTop (mkF m 79 #[.val (.ref o0), .val (.ref o1)] [(.ref b1)])) st53
  obtain ⟨fs, hr, hrun, hended, hW, hsame⟩ := X53.leave (v := some (.ref b1)) (fun h => by rw [Bd.returns] at h; cases h)
  refine ⟨_, _, go53 _ ?_, hrun, hended, _, _, rfl, ?_, ⟨_, rfl⟩, hW, hsame.mono (by decide) (by decide)⟩
  · exact own_retA X53 hx Bd.returns rfl rfl (hb hby d4_79) hr
  · show Q_rm4 Z o0 o1 u0 u1 u2 u3 u4 u5 u6 u7 v0 v1 v2 v3 v4 v5 v6 v7 h0 n0 _ T53.heap _
    exact ⟨b1, rfl, N53, KK53, g_b1, sz_b1, qp53_0, qp53_1, qp53_2, qp53_3, qp53_4, qp53_5, qp53_6, qp53_7, qp53_8⟩
theorem d5_0 : decode prog_23_method_6_code 0 = .ok (.aload_n 0, 1) := by decide +kernel
theorem d5_1 : decode prog_23_method_6_code 1 = .ok (.getfield 7, 3) := by decide +kernel
theorem d5_4 : decode prog_23_method_6_code 4 = .ok (.lreturn, 1) := by decide +kernel
theorem pn_rm5 : plainName "com/example/gridwire/gridwire/model/MapStatistics" = true := by first | (simp [plainName, overriddenIn]; done) | decide +kernel
theorem ef_rm5 (m : MethodId) (o0 : Addr) : entryFrame m #[(.ref o0)] 1 = mkF m 0 #[.val (.ref o0)] [] := by first | (simp [entryFrame, mkF, argsToLocals, Value.category]; done) | rfl
def Q_rm5 (Z : State) (o0 : Addr) (w : Int64) (h0 : Heap) (n0 : Nat) (v : Option Value) (h : Heap) (L : List Loc) : Prop := v = some (.long w) ∧ Fr n0 L ∧ h = h0
set_option maxRecDepth 65536 in
set_option maxHeartbeats 40000000 in
theorem rm5 (l : Launch) (Z : State) (a0 : Array Value) (hw : ∀ d ∈ tables_1, d.before a0 Z = true) (ws : List Jvm.Cond) (o0 : Addr) (w : Int64) (h0 : Heap) (n0 : Nat) (Z0 : n0 ≤ h0.size) (F_currentEntries_o0 : Fld Z h0 o0 "com/example/gridwire/gridwire/model/MapStatistics" "currentEntries" "J" (.long w)) :
    MetFree l (⟨"com/example/gridwire/gridwire/model/MapStatistics", "currentEntries", "()J"⟩ : MethodName) (head1 (Jvm.Cond.code (⟨"com/example/gridwire/gridwire/model/MapStatistics", "currentEntries", "()J"⟩ : MethodName) prog_23_method_6_code 1 (some .long) :: ws) ({ frames := 0, cells := 0, slots := 0, locals := 0 } : Room)) (fun a U => a = #[(.ref o0)] ∧ Z.Warmed39 U.vm ∧ U.heap = h0) (fun _ _ _ _ _ => True) (fun _ U o U' => ∃ v L, o = .returned v ∧ Q_rm5 Z o0 w h0 n0 v U'.heap L ∧ FrameEnd U o U' L ({ frames := 0, cells := 0, slots := 0, locals := 0 } : Room).cells ({ frames := 0, cells := 0, slots := 0, locals := 0 } : Room).slots) := by
  refine MetFree.of_bodySF (plainFor_of_name pn_rm5) hisR ?_
  intro p e s m args below meth c s₁ Bd hml0 hP hK
  obtain ⟨rfl, hZ, hh⟩ := hP
  have hx := Bd.exec
  have hby := Bd.bytes
  have hml : c.maxLocals = 1 := hml0
  have hown : s.vm.findClass "com/example/gridwire/gridwire/model/MapStatistics" = some m.cls := findClass_of_methodNamed Bd.named
  have hnm := (name_of_methodNamed Bd.named Bd.method).1
  have X0 : Stand p l e ({ frames := 0, cells := 0, slots := 0, locals := 0 } : Room) s m #[(.ref o0)] below meth c s₁ [] 0 0 := Stand.of_body Bd
  have e0 : s₁.heap = h0 := by rw [← hh, Bd.state]; rfl
  have N0 := Fr.nil n0
  have K0 := Keep.refl h0 []
  have go0 : Go p e below (s₁.setTop (entryFrame m #[(.ref o0)] 1)) (s₁.setTop (mkF m 0 #[.val (.ref o0)] [])) := fun t k => castTop (ef_rm5 m o0) k
  have go1 := go0.step (C := s₁.setTop (mkF m 1 #[.val (.ref o0)] [(.ref o0)])) (fun t k => by
    show Steps p.tables e below (s₁.setTop (mkF m 0 #[.val (.ref o0)] [])) _
    refine XS.aloadN X0.here hx rfl (hb hby d5_0) rfl rfl ?_
    exact k)
  obtain ⟨T2, X2, e2, st2⟩ := getF X0 hx hZ hown (host := "") (Or.inl (hw _ (List.mem_of_getElem? (i := 14) rfl))) Via.refl e0 F_currentEntries_o0 (g := (mkF m 1 #[.val (.ref o0)] [(.ref o0)])) rfl rfl (hb hby d5_1)
  have go2 := go1.step (C := T2.setTop (mkF m 4 #[.val (.ref o0)] [(.long w)])) (fun t k => st2 t k)
  obtain ⟨fs, hr, hrun, hended, hW, hsame⟩ := X2.leave (v := some (.long w)) (fun h => by rw [Bd.returns] at h; cases h)
  refine ⟨_, _, go2 _ ?_, hrun, hended, _, _, rfl, ?_, ⟨_, rfl⟩, hW, hsame.mono (by decide) (by decide)⟩
  · exact own_retL X2 hx Bd.returns (hb hby d5_4) hr
  · show Q_rm5 Z o0 w h0 n0 _ T2.heap _
    rw [e2]
    exact ⟨rfl, N0, rfl⟩
theorem d6_0 : decode prog_23_method_7_code 0 = .ok (.aload_n 0, 1) := by decide +kernel
theorem d6_1 : decode prog_23_method_7_code 1 = .ok (.getfield 13, 3) := by decide +kernel
theorem d6_4 : decode prog_23_method_7_code 4 = .ok (.lreturn, 1) := by decide +kernel
theorem pn_rm6 : plainName "com/example/gridwire/gridwire/model/MapStatistics" = true := by first | (simp [plainName, overriddenIn]; done) | decide +kernel
theorem ef_rm6 (m : MethodId) (o0 : Addr) : entryFrame m #[(.ref o0)] 1 = mkF m 0 #[.val (.ref o0)] [] := by first | (simp [entryFrame, mkF, argsToLocals, Value.category]; done) | rfl
def Q_rm6 (Z : State) (o0 : Addr) (w : Int64) (h0 : Heap) (n0 : Nat) (v : Option Value) (h : Heap) (L : List Loc) : Prop := v = some (.long w) ∧ Fr n0 L ∧ h = h0
set_option maxRecDepth 65536 in
set_option maxHeartbeats 40000000 in
theorem rm6 (l : Launch) (Z : State) (a0 : Array Value) (hw : ∀ d ∈ tables_1, d.before a0 Z = true) (ws : List Jvm.Cond) (o0 : Addr) (w : Int64) (h0 : Heap) (n0 : Nat) (Z0 : n0 ≤ h0.size) (F_totalEntries_o0 : Fld Z h0 o0 "com/example/gridwire/gridwire/model/MapStatistics" "totalEntries" "J" (.long w)) :
    MetFree l (⟨"com/example/gridwire/gridwire/model/MapStatistics", "totalEntries", "()J"⟩ : MethodName) (head1 (Jvm.Cond.code (⟨"com/example/gridwire/gridwire/model/MapStatistics", "totalEntries", "()J"⟩ : MethodName) prog_23_method_7_code 1 (some .long) :: ws) ({ frames := 0, cells := 0, slots := 0, locals := 0 } : Room)) (fun a U => a = #[(.ref o0)] ∧ Z.Warmed39 U.vm ∧ U.heap = h0) (fun _ _ _ _ _ => True) (fun _ U o U' => ∃ v L, o = .returned v ∧ Q_rm6 Z o0 w h0 n0 v U'.heap L ∧ FrameEnd U o U' L ({ frames := 0, cells := 0, slots := 0, locals := 0 } : Room).cells ({ frames := 0, cells := 0, slots := 0, locals := 0 } : Room).slots) := by
  refine MetFree.of_bodySF (plainFor_of_name pn_rm6) hisR ?_
  intro p e s m args below meth c s₁ Bd hml0 hP hK
  obtain ⟨rfl, hZ, hh⟩ := hP
  have hx := Bd.exec
  have hby := Bd.bytes
  have hml : c.maxLocals = 1 := hml0
  have hown : s.vm.findClass "com/example/gridwire/gridwire/model/MapStatistics" = some m.cls := findClass_of_methodNamed Bd.named
  have hnm := (name_of_methodNamed Bd.named Bd.method).1
  have X0 : Stand p l e ({ frames := 0, cells := 0, slots := 0, locals := 0 } : Room) s m #[(.ref o0)] below meth c s₁ [] 0 0 := Stand.of_body Bd
  have e0 : s₁.heap = h0 := by rw [← hh, Bd.state]; rfl
  have N0 := Fr.nil n0
  have K0 := Keep.refl h0 []
  have go0 : Go p e below (s₁.setTop (entryFrame m #[(.ref o0)] 1)) (s₁.setTop (mkF m 0 #[.val (.ref o0)] [])) := fun t k => castTop (ef_rm6 m o0) k
  have go1 := go0.step (C := s₁.setTop (mkF m 1 #[.val (.ref o0)] [(.ref o0)])) (fun t k => by
    show Steps p.tables e below (s₁.setTop (mkF m 0 #[.val (.ref o0)] [])) _
    refine XS.aloadN X0.here hx rfl (hb hby d6_0) rfl rfl ?_
    exact k)
  obtain ⟨T2, X2, e2, st2⟩ := getF X0 hx hZ hown (host := "") (Or.inl (hw _ (List.mem_of_getElem? (i := 16) rfl))) Via.refl e0 F_totalEntries_o0 (g := (mkF m 1 #[.val (.ref o0)] [(.ref o0)])) rfl rfl (hb hby d6_1)
  have go2 := go1.step (C := T2.setTop (mkF m 4 #[.val (.ref o0)] [(.long w)])) (fun t k => st2 t k)
  obtain ⟨fs, hr, hrun, hended, hW, hsame⟩ := X2.leave (v := some (.long w)) (fun h => by rw [Bd.returns] at h; cases h)
  refine ⟨_, _, go2 _ ?_, hrun, hended, _, _, rfl, ?_, ⟨_, rfl⟩, hW, hsame.mono (by decide) (by decide)⟩
  · exact own_retL X2 hx Bd.returns (hb hby d6_4) hr
  · show Q_rm6 Z o0 w h0 n0 _ T2.heap _
    rw [e2]
    exact ⟨rfl, N0, rfl⟩
theorem d7_0 : decode prog_23_method_8_code 0 = .ok (.aload_n 0, 1) := by decide +kernel
theorem d7_1 : decode prog_23_method_8_code 1 = .ok (.getfield 16, 3) := by decide +kernel
theorem d7_4 : decode prog_23_method_8_code 4 = .ok (.lreturn, 1) := by decide +kernel
theorem pn_rm7 : plainName "com/example/gridwire/gridwire/model/MapStatistics" = true := by first | (simp [plainName, overriddenIn]; done) | decide +kernel
theorem ef_rm7 (m : MethodId) (o0 : Addr) : entryFrame m #[(.ref o0)] 1 = mkF m 0 #[.val (.ref o0)] [] := by first | (simp [entryFrame, mkF, argsToLocals, Value.category]; done) | rfl
def Q_rm7 (Z : State) (o0 : Addr) (w : Int64) (h0 : Heap) (n0 : Nat) (v : Option Value) (h : Heap) (L : List Loc) : Prop := v = some (.long w) ∧ Fr n0 L ∧ h = h0
set_option maxRecDepth 65536 in
set_option maxHeartbeats 40000000 in
theorem rm7 (l : Launch) (Z : State) (a0 : Array Value) (hw : ∀ d ∈ tables_1, d.before a0 Z = true) (ws : List Jvm.Cond) (o0 : Addr) (w : Int64) (h0 : Heap) (n0 : Nat) (Z0 : n0 ≤ h0.size) (F_stores_o0 : Fld Z h0 o0 "com/example/gridwire/gridwire/model/MapStatistics" "stores" "J" (.long w)) :
    MetFree l (⟨"com/example/gridwire/gridwire/model/MapStatistics", "stores", "()J"⟩ : MethodName) (head1 (Jvm.Cond.code (⟨"com/example/gridwire/gridwire/model/MapStatistics", "stores", "()J"⟩ : MethodName) prog_23_method_8_code 1 (some .long) :: ws) ({ frames := 0, cells := 0, slots := 0, locals := 0 } : Room)) (fun a U => a = #[(.ref o0)] ∧ Z.Warmed39 U.vm ∧ U.heap = h0) (fun _ _ _ _ _ => True) (fun _ U o U' => ∃ v L, o = .returned v ∧ Q_rm7 Z o0 w h0 n0 v U'.heap L ∧ FrameEnd U o U' L ({ frames := 0, cells := 0, slots := 0, locals := 0 } : Room).cells ({ frames := 0, cells := 0, slots := 0, locals := 0 } : Room).slots) := by
  refine MetFree.of_bodySF (plainFor_of_name pn_rm7) hisR ?_
  intro p e s m args below meth c s₁ Bd hml0 hP hK
  obtain ⟨rfl, hZ, hh⟩ := hP
  have hx := Bd.exec
  have hby := Bd.bytes
  have hml : c.maxLocals = 1 := hml0
  have hown : s.vm.findClass "com/example/gridwire/gridwire/model/MapStatistics" = some m.cls := findClass_of_methodNamed Bd.named
  have hnm := (name_of_methodNamed Bd.named Bd.method).1
  have X0 : Stand p l e ({ frames := 0, cells := 0, slots := 0, locals := 0 } : Room) s m #[(.ref o0)] below meth c s₁ [] 0 0 := Stand.of_body Bd
  have e0 : s₁.heap = h0 := by rw [← hh, Bd.state]; rfl
  have N0 := Fr.nil n0
  have K0 := Keep.refl h0 []
  have go0 : Go p e below (s₁.setTop (entryFrame m #[(.ref o0)] 1)) (s₁.setTop (mkF m 0 #[.val (.ref o0)] [])) := fun t k => castTop (ef_rm7 m o0) k
  have go1 := go0.step (C := s₁.setTop (mkF m 1 #[.val (.ref o0)] [(.ref o0)])) (fun t k => by
    show Steps p.tables e below (s₁.setTop (mkF m 0 #[.val (.ref o0)] [])) _
    refine XS.aloadN X0.here hx rfl (hb hby d7_0) rfl rfl ?_
    exact k)
  obtain ⟨T2, X2, e2, st2⟩ := getF X0 hx hZ hown (host := "") (Or.inl (hw _ (List.mem_of_getElem? (i := 18) rfl))) Via.refl e0 F_stores_o0 (g := (mkF m 1 #[.val (.ref o0)] [(.ref o0)])) rfl rfl (hb hby d7_1)
  have go2 := go1.step (C := T2.setTop (mkF m 4 #[.val (.ref o0)] [(.long w)])) (fun t k => st2 t k)
  obtain ⟨fs, hr, hrun, hended, hW, hsame⟩ := X2.leave (v := some (.long w)) (fun h => by rw [Bd.returns] at h; cases h)
  refine ⟨_, _, go2 _ ?_, hrun, hended, _, _, rfl, ?_, ⟨_, rfl⟩, hW, hsame.mono (by decide) (by decide)⟩
  · exact own_retL X2 hx Bd.returns (hb hby d7_4) hr
  · show Q_rm7 Z o0 w h0 n0 _ T2.heap _
    rw [e2]
    exact ⟨rfl, N0, rfl⟩
theorem d8_0 : decode prog_23_method_9_code 0 = .ok (.aload_n 0, 1) := by decide +kernel
theorem d8_1 : decode prog_23_method_9_code 1 = .ok (.getfield 19, 3) := by decide +kernel
theorem d8_4 : decode prog_23_method_9_code 4 = .ok (.lreturn, 1) := by decide +kernel
theorem pn_rm8 : plainName "com/example/gridwire/gridwire/model/MapStatistics" = true := by first | (simp [plainName, overriddenIn]; done) | decide +kernel
theorem ef_rm8 (m : MethodId) (o0 : Addr) : entryFrame m #[(.ref o0)] 1 = mkF m 0 #[.val (.ref o0)] [] := by first | (simp [entryFrame, mkF, argsToLocals, Value.category]; done) | rfl
def Q_rm8 (Z : State) (o0 : Addr) (w : Int64) (h0 : Heap) (n0 : Nat) (v : Option Value) (h : Heap) (L : List Loc) : Prop := v = some (.long w) ∧ Fr n0 L ∧ h = h0
set_option maxRecDepth 65536 in
set_option maxHeartbeats 40000000 in
theorem rm8 (l : Launch) (Z : State) (a0 : Array Value) (hw : ∀ d ∈ tables_1, d.before a0 Z = true) (ws : List Jvm.Cond) (o0 : Addr) (w : Int64) (h0 : Heap) (n0 : Nat) (Z0 : n0 ≤ h0.size) (F_retrievals_o0 : Fld Z h0 o0 "com/example/gridwire/gridwire/model/MapStatistics" "retrievals" "J" (.long w)) :
    MetFree l (⟨"com/example/gridwire/gridwire/model/MapStatistics", "retrievals", "()J"⟩ : MethodName) (head1 (Jvm.Cond.code (⟨"com/example/gridwire/gridwire/model/MapStatistics", "retrievals", "()J"⟩ : MethodName) prog_23_method_9_code 1 (some .long) :: ws) ({ frames := 0, cells := 0, slots := 0, locals := 0 } : Room)) (fun a U => a = #[(.ref o0)] ∧ Z.Warmed39 U.vm ∧ U.heap = h0) (fun _ _ _ _ _ => True) (fun _ U o U' => ∃ v L, o = .returned v ∧ Q_rm8 Z o0 w h0 n0 v U'.heap L ∧ FrameEnd U o U' L ({ frames := 0, cells := 0, slots := 0, locals := 0 } : Room).cells ({ frames := 0, cells := 0, slots := 0, locals := 0 } : Room).slots) := by
  refine MetFree.of_bodySF (plainFor_of_name pn_rm8) hisR ?_
  intro p e s m args below meth c s₁ Bd hml0 hP hK
  obtain ⟨rfl, hZ, hh⟩ := hP
  have hx := Bd.exec
  have hby := Bd.bytes
  have hml : c.maxLocals = 1 := hml0
  have hown : s.vm.findClass "com/example/gridwire/gridwire/model/MapStatistics" = some m.cls := findClass_of_methodNamed Bd.named
  have hnm := (name_of_methodNamed Bd.named Bd.method).1
  have X0 : Stand p l e ({ frames := 0, cells := 0, slots := 0, locals := 0 } : Room) s m #[(.ref o0)] below meth c s₁ [] 0 0 := Stand.of_body Bd
  have e0 : s₁.heap = h0 := by rw [← hh, Bd.state]; rfl
  have N0 := Fr.nil n0
  have K0 := Keep.refl h0 []
  have go0 : Go p e below (s₁.setTop (entryFrame m #[(.ref o0)] 1)) (s₁.setTop (mkF m 0 #[.val (.ref o0)] [])) := fun t k => castTop (ef_rm8 m o0) k
  have go1 := go0.step (C := s₁.setTop (mkF m 1 #[.val (.ref o0)] [(.ref o0)])) (fun t k => by
    show Steps p.tables e below (s₁.setTop (mkF m 0 #[.val (.ref o0)] [])) _
    refine XS.aloadN X0.here hx rfl (hb hby d8_0) rfl rfl ?_
    exact k)
  obtain ⟨T2, X2, e2, st2⟩ := getF X0 hx hZ hown (host := "") (Or.inl (hw _ (List.mem_of_getElem? (i := 20) rfl))) Via.refl e0 F_retrievals_o0 (g := (mkF m 1 #[.val (.ref o0)] [(.ref o0)])) rfl rfl (hb hby d8_1)
  have go2 := go1.step (C := T2.setTop (mkF m 4 #[.val (.ref o0)] [(.long w)])) (fun t k => st2 t k)
  obtain ⟨fs, hr, hrun, hended, hW, hsame⟩ := X2.leave (v := some (.long w)) (fun h => by rw [Bd.returns] at h; cases h)
  refine ⟨_, _, go2 _ ?_, hrun, hended, _, _, rfl, ?_, ⟨_, rfl⟩, hW, hsame.mono (by decide) (by decide)⟩
  · exact own_retL X2 hx Bd.returns (hb hby d8_4) hr
  · show Q_rm8 Z o0 w h0 n0 _ T2.heap _
    rw [e2]
    exact ⟨rfl, N0, rfl⟩
theorem d9_0 : decode prog_23_method_10_code 0 = .ok (.aload_n 0, 1) := by decide +kernel
theorem d9_1 : decode prog_23_method_10_code 1 = .ok (.getfield 22, 3) := by decide +kernel
theorem d9_4 : decode prog_23_method_10_code 4 = .ok (.lreturn, 1) := by decide +kernel
theorem pn_rm9 : plainName "com/example/gridwire/gridwire/model/MapStatistics" = true := by first | (simp [plainName, overriddenIn]; done) | decide +kernel
theorem ef_rm9 (m : MethodId) (o0 : Addr) : entryFrame m #[(.ref o0)] 1 = mkF m 0 #[.val (.ref o0)] [] := by first | (simp [entryFrame, mkF, argsToLocals, Value.category]; done) | rfl
def Q_rm9 (Z : State) (o0 : Addr) (w : Int64) (h0 : Heap) (n0 : Nat) (v : Option Value) (h : Heap) (L : List Loc) : Prop := v = some (.long w) ∧ Fr n0 L ∧ h = h0
set_option maxRecDepth 65536 in
set_option maxHeartbeats 40000000 in
theorem rm9 (l : Launch) (Z : State) (a0 : Array Value) (hw : ∀ d ∈ tables_1, d.before a0 Z = true) (ws : List Jvm.Cond) (o0 : Addr) (w : Int64) (h0 : Heap) (n0 : Nat) (Z0 : n0 ≤ h0.size) (F_hits_o0 : Fld Z h0 o0 "com/example/gridwire/gridwire/model/MapStatistics" "hits" "J" (.long w)) :
    MetFree l (⟨"com/example/gridwire/gridwire/model/MapStatistics", "hits", "()J"⟩ : MethodName) (head1 (Jvm.Cond.code (⟨"com/example/gridwire/gridwire/model/MapStatistics", "hits", "()J"⟩ : MethodName) prog_23_method_10_code 1 (some .long) :: ws) ({ frames := 0, cells := 0, slots := 0, locals := 0 } : Room)) (fun a U => a = #[(.ref o0)] ∧ Z.Warmed39 U.vm ∧ U.heap = h0) (fun _ _ _ _ _ => True) (fun _ U o U' => ∃ v L, o = .returned v ∧ Q_rm9 Z o0 w h0 n0 v U'.heap L ∧ FrameEnd U o U' L ({ frames := 0, cells := 0, slots := 0, locals := 0 } : Room).cells ({ frames := 0, cells := 0, slots := 0, locals := 0 } : Room).slots) := by
  refine MetFree.of_bodySF (plainFor_of_name pn_rm9) hisR ?_
  intro p e s m args below meth c s₁ Bd hml0 hP hK
  obtain ⟨rfl, hZ, hh⟩ := hP
  have hx := Bd.exec
  have hby := Bd.bytes
  have hml : c.maxLocals = 1 := hml0
  have hown : s.vm.findClass "com/example/gridwire/gridwire/model/MapStatistics" = some m.cls := findClass_of_methodNamed Bd.named
  have hnm := (name_of_methodNamed Bd.named Bd.method).1
  have X0 : Stand p l e ({ frames := 0, cells := 0, slots := 0, locals := 0 } : Room) s m #[(.ref o0)] below meth c s₁ [] 0 0 := Stand.of_body Bd
  have e0 : s₁.heap = h0 := by rw [← hh, Bd.state]; rfl
  have N0 := Fr.nil n0
  have K0 := Keep.refl h0 []
  have go0 : Go p e below (s₁.setTop (entryFrame m #[(.ref o0)] 1)) (s₁.setTop (mkF m 0 #[.val (.ref o0)] [])) := fun t k => castTop (ef_rm9 m o0) k
  have go1 := go0.step (C := s₁.setTop (mkF m 1 #[.val (.ref o0)] [(.ref o0)])) (fun t k => by
    show Steps p.tables e below (s₁.setTop (mkF m 0 #[.val (.ref o0)] [])) _
    refine XS.aloadN X0.here hx rfl (hb hby d9_0) rfl rfl ?_
    exact k)
  obtain ⟨T2, X2, e2, st2⟩ := getF X0 hx hZ hown (host := "") (Or.inl (hw _ (List.mem_of_getElem? (i := 22) rfl))) Via.refl e0 F_hits_o0 (g := (mkF m 1 #[.val (.ref o0)] [(.ref o0)])) rfl rfl (hb hby d9_1)
  have go2 := go1.step (C := T2.setTop (mkF m 4 #[.val (.ref o0)] [(.long w)])) (fun t k => st2 t k)
  obtain ⟨fs, hr, hrun, hended, hW, hsame⟩ := X2.leave (v := some (.long w)) (fun h => by rw [Bd.returns] at h; cases h)
  refine ⟨_, _, go2 _ ?_, hrun, hended, _, _, rfl, ?_, ⟨_, rfl⟩, hW, hsame.mono (by decide) (by decide)⟩
  · exact own_retL X2 hx Bd.returns (hb hby d9_4) hr
  · show Q_rm9 Z o0 w h0 n0 _ T2.heap _
    rw [e2]
    exact ⟨rfl, N0, rfl⟩
theorem d10_0 : decode prog_23_method_11_code 0 = .ok (.aload_n 0, 1) := by decide +kernel
theorem d10_1 : decode prog_23_method_11_code 1 = .ok (.getfield 25, 3) := by decide +kernel
theorem d10_4 : decode prog_23_method_11_code 4 = .ok (.lreturn, 1) := by decide +kernel
theorem pn_rm10 : plainName "com/example/gridwire/gridwire/model/MapStatistics" = true := by first | (simp [plainName, overriddenIn]; done) | decide +kernel
theorem ef_rm10 (m : MethodId) (o0 : Addr) : entryFrame m #[(.ref o0)] 1 = mkF m 0 #[.val (.ref o0)] [] := by first | (simp [entryFrame, mkF, argsToLocals, Value.category]; done) | rfl
def Q_rm10 (Z : State) (o0 : Addr) (w : Int64) (h0 : Heap) (n0 : Nat) (v : Option Value) (h : Heap) (L : List Loc) : Prop := v = some (.long w) ∧ Fr n0 L ∧ h = h0
set_option maxRecDepth 65536 in
set_option maxHeartbeats 40000000 in
theorem rm10 (l : Launch) (Z : State) (a0 : Array Value) (hw : ∀ d ∈ tables_1, d.before a0 Z = true) (ws : List Jvm.Cond) (o0 : Addr) (w : Int64) (h0 : Heap) (n0 : Nat) (Z0 : n0 ≤ h0.size) (F_misses_o0 : Fld Z h0 o0 "com/example/gridwire/gridwire/model/MapStatistics" "misses" "J" (.long w)) :
    MetFree l (⟨"com/example/gridwire/gridwire/model/MapStatistics", "misses", "()J"⟩ : MethodName) (head1 (Jvm.Cond.code (⟨"com/example/gridwire/gridwire/model/MapStatistics", "misses", "()J"⟩ : MethodName) prog_23_method_11_code 1 (some .long) :: ws) ({ frames := 0, cells := 0, slots := 0, locals := 0 } : Room)) (fun a U => a = #[(.ref o0)] ∧ Z.Warmed39 U.vm ∧ U.heap = h0) (fun _ _ _ _ _ => True) (fun _ U o U' => ∃ v L, o = .returned v ∧ Q_rm10 Z o0 w h0 n0 v U'.heap L ∧ FrameEnd U o U' L ({ frames := 0, cells := 0, slots := 0, locals := 0 } : Room).cells ({ frames := 0, cells := 0, slots := 0, locals := 0 } : Room).slots) := by
  refine MetFree.of_bodySF (plainFor_of_name pn_rm10) hisR ?_
  intro p e s m args below meth c s₁ Bd hml0 hP hK
  obtain ⟨rfl, hZ, hh⟩ := hP
  have hx := Bd.exec
  have hby := Bd.bytes
  have hml : c.maxLocals = 1 := hml0
  have hown : s.vm.findClass "com/example/gridwire/gridwire/model/MapStatistics" = some m.cls := findClass_of_methodNamed Bd.named
  have hnm := (name_of_methodNamed Bd.named Bd.method).1
  have X0 : Stand p l e ({ frames := 0, cells := 0, slots := 0, locals := 0 } : Room) s m #[(.ref o0)] below meth c s₁ [] 0 0 := Stand.of_body Bd
  have e0 : s₁.heap = h0 := by rw [← hh, Bd.state]; rfl
  have N0 := Fr.nil n0
  have K0 := Keep.refl h0 []
  have go0 : Go p e below (s₁.setTop (entryFrame m #[(.ref o0)] 1)) (s₁.setTop (mkF m 0 #[.val (.ref o0)] [])) := fun t k => castTop (ef_rm10 m o0) k
  have go1 := go0.step (C := s₁.setTop (mkF m 1 #[.val (.ref o0)] [(.ref o0)])) (fun t k => by
    show Steps p.tables e below (s₁.setTop (mkF m 0 #[.val (.ref o0)] [])) _
    refine XS.aloadN X0.here hx rfl (hb hby d10_0) rfl rfl ?_
    exact k)
  obtain ⟨T2, X2, e2, st2⟩ := getF X0 hx hZ hown (host := "") (Or.inl (hw _ (List.mem_of_getElem? (i := 24) rfl))) Via.refl e0 F_misses_o0 (g := (mkF m 1 #[.val (.ref o0)] [(.ref o0)])) rfl rfl (hb hby d10_1)
  have go2 := go1.step (C := T2.setTop (mkF m 4 #[.val (.ref o0)] [(.long w)])) (fun t k => st2 t k)
  obtain ⟨fs, hr, hrun, hended, hW, hsame⟩ := X2.leave (v := some (.long w)) (fun h => by rw [Bd.returns] at h; cases h)
  refine ⟨_, _, go2 _ ?_, hrun, hended, _, _, rfl, ?_, ⟨_, rfl⟩, hW, hsame.mono (by decide) (by decide)⟩
  · exact own_retL X2 hx Bd.returns (hb hby d10_4) hr
  · show Q_rm10 Z o0 w h0 n0 _ T2.heap _
    rw [e2]
    exact ⟨rfl, N0, rfl⟩
theorem d11_0 : decode prog_23_method_12_code 0 = .ok (.aload_n 0, 1) := by decide +kernel
theorem d11_1 : decode prog_23_method_12_code 1 = .ok (.getfield 28, 3) := by decide +kernel
theorem d11_4 : decode prog_23_method_12_code 4 = .ok (.lreturn, 1) := by decide +kernel
theorem pn_rm11 : plainName "com/example/gridwire/gridwire/model/MapStatistics" = true := by first | (simp [plainName, overriddenIn]; done) | decide +kernel
theorem ef_rm11 (m : MethodId) (o0 : Addr) : entryFrame m #[(.ref o0)] 1 = mkF m 0 #[.val (.ref o0)] [] := by first | (simp [entryFrame, mkF, argsToLocals, Value.category]; done) | rfl
def Q_rm11 (Z : State) (o0 : Addr) (w : Int64) (h0 : Heap) (n0 : Nat) (v : Option Value) (h : Heap) (L : List Loc) : Prop := v = some (.long w) ∧ Fr n0 L ∧ h = h0
set_option maxRecDepth 65536 in
set_option maxHeartbeats 40000000 in
theorem rm11 (l : Launch) (Z : State) (a0 : Array Value) (hw : ∀ d ∈ tables_1, d.before a0 Z = true) (ws : List Jvm.Cond) (o0 : Addr) (w : Int64) (h0 : Heap) (n0 : Nat) (Z0 : n0 ≤ h0.size) (F_removeHits_o0 : Fld Z h0 o0 "com/example/gridwire/gridwire/model/MapStatistics" "removeHits" "J" (.long w)) :
    MetFree l (⟨"com/example/gridwire/gridwire/model/MapStatistics", "removeHits", "()J"⟩ : MethodName) (head1 (Jvm.Cond.code (⟨"com/example/gridwire/gridwire/model/MapStatistics", "removeHits", "()J"⟩ : MethodName) prog_23_method_12_code 1 (some .long) :: ws) ({ frames := 0, cells := 0, slots := 0, locals := 0 } : Room)) (fun a U => a = #[(.ref o0)] ∧ Z.Warmed39 U.vm ∧ U.heap = h0) (fun _ _ _ _ _ => True) (fun _ U o U' => ∃ v L, o = .returned v ∧ Q_rm11 Z o0 w h0 n0 v U'.heap L ∧ FrameEnd U o U' L ({ frames := 0, cells := 0, slots := 0, locals := 0 } : Room).cells ({ frames := 0, cells := 0, slots := 0, locals := 0 } : Room).slots) := by
  refine MetFree.of_bodySF (plainFor_of_name pn_rm11) hisR ?_
  intro p e s m args below meth c s₁ Bd hml0 hP hK
  obtain ⟨rfl, hZ, hh⟩ := hP
  have hx := Bd.exec
  have hby := Bd.bytes
  have hml : c.maxLocals = 1 := hml0
  have hown : s.vm.findClass "com/example/gridwire/gridwire/model/MapStatistics" = some m.cls := findClass_of_methodNamed Bd.named
  have hnm := (name_of_methodNamed Bd.named Bd.method).1
  have X0 : Stand p l e ({ frames := 0, cells := 0, slots := 0, locals := 0 } : Room) s m #[(.ref o0)] below meth c s₁ [] 0 0 := Stand.of_body Bd
  have e0 : s₁.heap = h0 := by rw [← hh, Bd.state]; rfl
  have N0 := Fr.nil n0
  have K0 := Keep.refl h0 []
  have go0 : Go p e below (s₁.setTop (entryFrame m #[(.ref o0)] 1)) (s₁.setTop (mkF m 0 #[.val (.ref o0)] [])) := fun t k => castTop (ef_rm11 m o0) k
  have go1 := go0.step (C := s₁.setTop (mkF m 1 #[.val (.ref o0)] [(.ref o0)])) (fun t k => by
    show Steps p.tables e below (s₁.setTop (mkF m 0 #[.val (.ref o0)] [])) _
    refine XS.aloadN X0.here hx rfl (hb hby d11_0) rfl rfl ?_
    exact k)
  obtain ⟨T2, X2, e2, st2⟩ := getF X0 hx hZ hown (host := "") (Or.inl (hw _ (List.mem_of_getElem? (i := 26) rfl))) Via.refl e0 F_removeHits_o0 (g := (mkF m 1 #[.val (.ref o0)] [(.ref o0)])) rfl rfl (hb hby d11_1)
  have go2 := go1.step (C := T2.setTop (mkF m 4 #[.val (.ref o0)] [(.long w)])) (fun t k => st2 t k)
  obtain ⟨fs, hr, hrun, hended, hW, hsame⟩ := X2.leave (v := some (.long w)) (fun h => by rw [Bd.returns] at h; cases h)
  refine ⟨_, _, go2 _ ?_, hrun, hended, _, _, rfl, ?_, ⟨_, rfl⟩, hW, hsame.mono (by decide) (by decide)⟩
  · exact own_retL X2 hx Bd.returns (hb hby d11_4) hr
  · show Q_rm11 Z o0 w h0 n0 _ T2.heap _
    rw [e2]
    exact ⟨rfl, N0, rfl⟩
theorem d12_0 : decode prog_23_method_13_code 0 = .ok (.aload_n 0, 1) := by decide +kernel
theorem d12_1 : decode prog_23_method_13_code 1 = .ok (.getfield 31, 3) := by decide +kernel
theorem d12_4 : decode prog_23_method_13_code 4 = .ok (.lreturn, 1) := by decide +kernel
theorem pn_rm12 : plainName "com/example/gridwire/gridwire/model/MapStatistics" = true := by first | (simp [plainName, overriddenIn]; done) | decide +kernel
theorem ef_rm12 (m : MethodId) (o0 : Addr) : entryFrame m #[(.ref o0)] 1 = mkF m 0 #[.val (.ref o0)] [] := by first | (simp [entryFrame, mkF, argsToLocals, Value.category]; done) | rfl
def Q_rm12 (Z : State) (o0 : Addr) (w : Int64) (h0 : Heap) (n0 : Nat) (v : Option Value) (h : Heap) (L : List Loc) : Prop := v = some (.long w) ∧ Fr n0 L ∧ h = h0
set_option maxRecDepth 65536 in
set_option maxHeartbeats 40000000 in
theorem rm12 (l : Launch) (Z : State) (a0 : Array Value) (hw : ∀ d ∈ tables_1, d.before a0 Z = true) (ws : List Jvm.Cond) (o0 : Addr) (w : Int64) (h0 : Heap) (n0 : Nat) (Z0 : n0 ≤ h0.size) (F_removeMisses_o0 : Fld Z h0 o0 "com/example/gridwire/gridwire/model/MapStatistics" "removeMisses" "J" (.long w)) :
    MetFree l (⟨"com/example/gridwire/gridwire/model/MapStatistics", "removeMisses", "()J"⟩ : MethodName) (head1 (Jvm.Cond.code (⟨"com/example/gridwire/gridwire/model/MapStatistics", "removeMisses", "()J"⟩ : MethodName) prog_23_method_13_code 1 (some .long) :: ws) ({ frames := 0, cells := 0, slots := 0, locals := 0 } : Room)) (fun a U => a = #[(.ref o0)] ∧ Z.Warmed39 U.vm ∧ U.heap = h0) (fun _ _ _ _ _ => True) (fun _ U o U' => ∃ v L, o = .returned v ∧ Q_rm12 Z o0 w h0 n0 v U'.heap L ∧ FrameEnd U o U' L ({ frames := 0, cells := 0, slots := 0, locals := 0 } : Room).cells ({ frames := 0, cells := 0, slots := 0, locals := 0 } : Room).slots) := by
  refine MetFree.of_bodySF (plainFor_of_name pn_rm12) hisR ?_
  intro p e s m args below meth c s₁ Bd hml0 hP hK
  obtain ⟨rfl, hZ, hh⟩ := hP
  have hx := Bd.exec
  have hby := Bd.bytes
  have hml : c.maxLocals = 1 := hml0
  have hown : s.vm.findClass "com/example/gridwire/gridwire/model/MapStatistics" = some m.cls := findClass_of_methodNamed Bd.named
  have hnm := (name_of_methodNamed Bd.named Bd.method).1
  have X0 : Stand p l e ({ frames := 0, cells := 0, slots := 0, locals := 0 } : Room) s m #[(.ref o0)] below meth c s₁ [] 0 0 := Stand.of_body Bd
  have e0 : s₁.heap = h0 := by rw [← hh, Bd.state]; rfl
  have N0 := Fr.nil n0
  have K0 := Keep.refl h0 []
  have go0 : Go p e below (s₁.setTop (entryFrame m #[(.ref o0)] 1)) (s₁.setTop (mkF m 0 #[.val (.ref o0)] [])) := fun t k => castTop (ef_rm12 m o0) k
  have go1 := go0.step (C := s₁.setTop (mkF m 1 #[.val (.ref o0)] [(.ref o0)])) (fun t k => by
    show Steps p.tables e below (s₁.setTop (mkF m 0 #[.val (.ref o0)] [])) _
    refine XS.aloadN X0.here hx rfl (hb hby d12_0) rfl rfl ?_
    exact k)
  obtain ⟨T2, X2, e2, st2⟩ := getF X0 hx hZ hown (host := "") (Or.inl (hw _ (List.mem_of_getElem? (i := 28) rfl))) Via.refl e0 F_removeMisses_o0 (g := (mkF m 1 #[.val (.ref o0)] [(.ref o0)])) rfl rfl (hb hby d12_1)
  have go2 := go1.step (C := T2.setTop (mkF m 4 #[.val (.ref o0)] [(.long w)])) (fun t k => st2 t k)
  obtain ⟨fs, hr, hrun, hended, hW, hsame⟩ := X2.leave (v := some (.long w)) (fun h => by rw [Bd.returns] at h; cases h)
  refine ⟨_, _, go2 _ ?_, hrun, hended, _, _, rfl, ?_, ⟨_, rfl⟩, hW, hsame.mono (by decide) (by decide)⟩
  · exact own_retL X2 hx Bd.returns (hb hby d12_4) hr
  · show Q_rm12 Z o0 w h0 n0 _ T2.heap _
    rw [e2]
    exact ⟨rfl, N0, rfl⟩
theorem pn_rm0 : plainName "com/example/gridwire/gridwire/model/MapStatisticsPlusPinLaw" = true := by first | (simp [plainName, overriddenIn]; done) | decide +kernel
theorem pd0_0 : parseMethodDescriptor "(JJJJJJJJ)V" = some ⟨[.long, .long, .long, .long, .long, .long, .long, .long], none⟩ := by decide +kernel
theorem pd0_1 : parseMethodDescriptor "(Lcom/example/gridwire/gridwire/model/MapStatistics;)Lcom/example/gridwire/gridwire/model/MapStatistics;" = some ⟨[(.object "com/example/gridwire/gridwire/model/MapStatistics")], some (.object "com/example/gridwire/gridwire/model/MapStatistics")⟩ := by decide +kernel
theorem pd0_2 : parseMethodDescriptor "()J" = some ⟨[], some .long⟩ := by decide +kernel
theorem ef_rm0 (m : MethodId) (q0 : Int64) (q1 : Int64) (q2 : Int64) (q3 : Int64) (q4 : Int64) (q5 : Int64) : entryFrame m #[(.long q0), (.long q1), (.long q2), (.long q3), (.long q4), (.long q5)] maxLocals = mkF m 0 #[.val (.long q0), .second, .val (.long q1), .second, .val (.long q2), .second, .val (.long q3), .second, .val (.long q4), .second, .val (.long q5), .second, .unset, .unset, .unset] [] := by first | (simp [entryFrame, mkF, argsToLocals, Value.category, maxLocals]; done) | rfl
def Q_rm0 (Z : State) (q0 : Int64) (q1 : Int64) (q2 : Int64) (q3 : Int64) (q4 : Int64) (q5 : Int64) (h0 : Heap) (n0 : Nat) (v : Option Value) (h : Heap) (L : List Loc) : Prop := v = some (.int (1 : Int32)) ∧ Fr n0 L
set_option maxRecDepth 65536 in
set_option maxHeartbeats 40000000 in
theorem rm0 (l : Launch) (Z : State) (a0 : Array Value) (hw : ∀ d ∈ tables_1, d.before a0 Z = true) (ws : List Jvm.Cond) (q0 : Int64) (q1 : Int64) (q2 : Int64) (q3 : Int64) (q4 : Int64) (q5 : Int64) (h0 : Heap) (n0 : Nat) (Z0 : n0 ≤ h0.size) :
    MetFree l x (head1 (Jvm.Cond.code x code maxLocals ret :: ws) room_1) (fun a U => a = #[(.long q0), (.long q1), (.long q2), (.long q3), (.long q4), (.long q5)] ∧ Z.Warmed39 U.vm ∧ U.heap = h0) (fun _ _ _ _ _ => True) (fun _ U o U' => ∃ v L, o = .returned v ∧ Q_rm0 Z q0 q1 q2 q3 q4 q5 h0 n0 v U'.heap L ∧ FrameEnd U o U' L room_1.cells room_1.slots) := by
  refine MetFree.of_bodySF (plainFor_of_name pn_rm0) hisR ?_
  intro p e s m args below meth c s₁ Bd hml0 hP hK
  obtain ⟨rfl, hZ, hh⟩ := hP
  have hx := Bd.exec
  have hby := Bd.bytes
  have hml : c.maxLocals = 15 := hml0
  have hown : s.vm.findClass "com/example/gridwire/gridwire/model/MapStatisticsPlusPinLaw" = some m.cls := findClass_of_methodNamed Bd.named
  have hnm := (name_of_methodNamed Bd.named Bd.method).1
  have X0 : Stand p l e room_1 s m #[(.long q0), (.long q1), (.long q2), (.long q3), (.long q4), (.long q5)] below meth c s₁ [] 0 0 := Stand.of_body Bd
  have e0 : s₁.heap = h0 := by rw [← hh, Bd.state]; rfl
  have N0 := Fr.nil n0
  have K0 := Keep.refl h0 []
  have go0 : Go p e below (s₁.setTop (entryFrame m #[(.long q0), (.long q1), (.long q2), (.long q3), (.long q4), (.long q5)] maxLocals)) (s₁.setTop (mkF m 0 #[.val (.long q0), .second, .val (.long q1), .second, .val (.long q2), .second, .val (.long q3), .second, .val (.long q4), .second, .val (.long q5), .second, .unset, .unset, .unset] [])) := fun t k => castTop (ef_rm0 m q0 q1 q2 q3 q4 q5) k
  obtain ⟨T1, h1, X1, e1, E1, A1, D1, -, st1⟩ := newO X0 hx hZ hown (hw _ (List.mem_of_getElem? (i := 0) rfl)) (hw _ (List.mem_of_getElem? (i := 1) rfl)) (hw _ (List.mem_of_getElem? (i := 2) rfl)) e0 (g := (mkF m 0 #[.val (.long q0), .second, .val (.long q1), .second, .val (.long q2), .second, .val (.long q3), .second, .val (.long q4), .second, .val (.long q5), .second, .unset, .unset, .unset] [])) rfl (hb hby at_0) (by decide) (by decide)
  obtain ⟨b1, g1⟩ : ∃ z, z = h0.size := ⟨_, rfl⟩
  rw [← g1] at A1 D1 st1
  have g_b1 : n0 ≤ b1 := Nat.le_trans Z0 (Nat.le_of_eq g1.symm)
  have sz_b1 : h0.size ≤ b1 := Nat.le_trans K0.1 (Nat.le_of_eq g1.symm)
  have F1_currentEntries : Fld Z h1 b1 "com/example/gridwire/gridwire/model/MapStatistics" "currentEntries" "J" (.long (0 : Int64)) := D1 (Or.inr (hw _ (List.mem_of_getElem? (i := 15) rfl))) (ty := .long) (by decide)
  have F1_totalEntries : Fld Z h1 b1 "com/example/gridwire/gridwire/model/MapStatistics" "totalEntries" "J" (.long (0 : Int64)) := D1 (Or.inr (hw _ (List.mem_of_getElem? (i := 17) rfl))) (ty := .long) (by decide)
  have F1_stores : Fld Z h1 b1 "com/example/gridwire/gridwire/model/MapStatistics" "stores" "J" (.long (0 : Int64)) := D1 (Or.inr (hw _ (List.mem_of_getElem? (i := 19) rfl))) (ty := .long) (by decide)
  have F1_retrievals : Fld Z h1 b1 "com/example/gridwire/gridwire/model/MapStatistics" "retrievals" "J" (.long (0 : Int64)) := D1 (Or.inr (hw _ (List.mem_of_getElem? (i := 21) rfl))) (ty := .long) (by decide)
  have F1_hits : Fld Z h1 b1 "com/example/gridwire/gridwire/model/MapStatistics" "hits" "J" (.long (0 : Int64)) := D1 (Or.inr (hw _ (List.mem_of_getElem? (i := 23) rfl))) (ty := .long) (by decide)
  have F1_misses : Fld Z h1 b1 "com/example/gridwire/gridwire/model/MapStatistics" "misses" "J" (.long (0 : Int64)) := D1 (Or.inr (hw _ (List.mem_of_getElem? (i := 25) rfl))) (ty := .long) (by decide)
  have F1_removeHits : Fld Z h1 b1 "com/example/gridwire/gridwire/model/MapStatistics" "removeHits" "J" (.long (0 : Int64)) := D1 (Or.inr (hw _ (List.mem_of_getElem? (i := 27) rfl))) (ty := .long) (by decide)
  have F1_removeMisses : Fld Z h1 b1 "com/example/gridwire/gridwire/model/MapStatistics" "removeMisses" "J" (.long (0 : Int64)) := D1 (Or.inr (hw _ (List.mem_of_getElem? (i := 29) rfl))) (ty := .long) (by decide)
  have Z1 : n0 ≤ h1.size := Nat.le_trans Z0 E1.1
  have K1 := K0.ext E1
  have go1 := go0.step (C := T1.setTop (mkF m 3 #[.val (.long q0), .second, .val (.long q1), .second, .val (.long q2), .second, .val (.long q3), .second, .val (.long q4), .second, .val (.long q5), .second, .unset, .unset, .unset] [(.ref b1)])) (fun t k => st1 t k)
  have go2 := go1.step (C := T1.setTop (mkF m 22 #[.val (.long q0), .second, .val (.long q1), .second, .val (.long q2), .second, .val (.long q3), .second, .val (.long q4), .second, .val (.long q5), .second, .unset, .unset, .unset] [(.long (q1 ^^^ q4)), (.long (q0 ^^^ q5)), (.long q5), (.long q4), (.long q3), (.long q2), (.long q1), (.long q0), (.ref b1), (.ref b1)])) (fun t k => by
    show Steps p.tables e below (T1.setTop (mkF m 3 #[.val (.long q0), .second, .val (.long q1), .second, .val (.long q2), .second, .val (.long q3), .second, .val (.long q4), .second, .val (.long q5), .second, .unset, .unset, .unset] [(.ref b1)])) _
    refine XS.dup X1.here hx rfl (hb hby at_3) rfl rfl ?_
    show Steps p.tables e below (T1.setTop (mkF m 4 #[.val (.long q0), .second, .val (.long q1), .second, .val (.long q2), .second, .val (.long q3), .second, .val (.long q4), .second, .val (.long q5), .second, .unset, .unset, .unset] [(.ref b1), (.ref b1)])) _
    refine XS.lloadN X1.here hx rfl (hb hby at_4) rfl ?_
    show Steps p.tables e below (T1.setTop (mkF m 5 #[.val (.long q0), .second, .val (.long q1), .second, .val (.long q2), .second, .val (.long q3), .second, .val (.long q4), .second, .val (.long q5), .second, .unset, .unset, .unset] [(.long q0), (.ref b1), (.ref b1)])) _
    refine XS.lloadN X1.here hx rfl (hb hby at_5) rfl ?_
    show Steps p.tables e below (T1.setTop (mkF m 6 #[.val (.long q0), .second, .val (.long q1), .second, .val (.long q2), .second, .val (.long q3), .second, .val (.long q4), .second, .val (.long q5), .second, .unset, .unset, .unset] [(.long q1), (.long q0), (.ref b1), (.ref b1)])) _
    refine XS.lload X1.here hx rfl (hb hby at_6) rfl ?_
    show Steps p.tables e below (T1.setTop (mkF m 8 #[.val (.long q0), .second, .val (.long q1), .second, .val (.long q2), .second, .val (.long q3), .second, .val (.long q4), .second, .val (.long q5), .second, .unset, .unset, .unset] [(.long q2), (.long q1), (.long q0), (.ref b1), (.ref b1)])) _
    refine XS.lload X1.here hx rfl (hb hby at_8) rfl ?_
    show Steps p.tables e below (T1.setTop (mkF m 10 #[.val (.long q0), .second, .val (.long q1), .second, .val (.long q2), .second, .val (.long q3), .second, .val (.long q4), .second, .val (.long q5), .second, .unset, .unset, .unset] [(.long q3), (.long q2), (.long q1), (.long q0), (.ref b1), (.ref b1)])) _
    refine XS.lload X1.here hx rfl (hb hby at_10) rfl ?_
    show Steps p.tables e below (T1.setTop (mkF m 12 #[.val (.long q0), .second, .val (.long q1), .second, .val (.long q2), .second, .val (.long q3), .second, .val (.long q4), .second, .val (.long q5), .second, .unset, .unset, .unset] [(.long q4), (.long q3), (.long q2), (.long q1), (.long q0), (.ref b1), (.ref b1)])) _
    refine XS.lload X1.here hx rfl (hb hby at_12) rfl ?_
    show Steps p.tables e below (T1.setTop (mkF m 14 #[.val (.long q0), .second, .val (.long q1), .second, .val (.long q2), .second, .val (.long q3), .second, .val (.long q4), .second, .val (.long q5), .second, .unset, .unset, .unset] [(.long q5), (.long q4), (.long q3), (.long q2), (.long q1), (.long q0), (.ref b1), (.ref b1)])) _
    refine XS.lloadN X1.here hx rfl (hb hby at_14) rfl ?_
    show Steps p.tables e below (T1.setTop (mkF m 15 #[.val (.long q0), .second, .val (.long q1), .second, .val (.long q2), .second, .val (.long q3), .second, .val (.long q4), .second, .val (.long q5), .second, .unset, .unset, .unset] [(.long q0), (.long q5), (.long q4), (.long q3), (.long q2), (.long q1), (.long q0), (.ref b1), (.ref b1)])) _
    refine XS.lload X1.here hx rfl (hb hby at_15) rfl ?_
    show Steps p.tables e below (T1.setTop (mkF m 17 #[.val (.long q0), .second, .val (.long q1), .second, .val (.long q2), .second, .val (.long q3), .second, .val (.long q4), .second, .val (.long q5), .second, .unset, .unset, .unset] [(.long q5), (.long q0), (.long q5), (.long q4), (.long q3), (.long q2), (.long q1), (.long q0), (.ref b1), (.ref b1)])) _
    refine XS.lxor X1.here hx rfl (hb hby at_17) rfl ?_
    show Steps p.tables e below (T1.setTop (mkF m 18 #[.val (.long q0), .second, .val (.long q1), .second, .val (.long q2), .second, .val (.long q3), .second, .val (.long q4), .second, .val (.long q5), .second, .unset, .unset, .unset] [(.long (q0 ^^^ q5)), (.long q5), (.long q4), (.long q3), (.long q2), (.long q1), (.long q0), (.ref b1), (.ref b1)])) _
    refine XS.lloadN X1.here hx rfl (hb hby at_18) rfl ?_
    show Steps p.tables e below (T1.setTop (mkF m 19 #[.val (.long q0), .second, .val (.long q1), .second, .val (.long q2), .second, .val (.long q3), .second, .val (.long q4), .second, .val (.long q5), .second, .unset, .unset, .unset] [(.long q1), (.long (q0 ^^^ q5)), (.long q5), (.long q4), (.long q3), (.long q2), (.long q1), (.long q0), (.ref b1), (.ref b1)])) _
    refine XS.lload X1.here hx rfl (hb hby at_19) rfl ?_
    show Steps p.tables e below (T1.setTop (mkF m 21 #[.val (.long q0), .second, .val (.long q1), .second, .val (.long q2), .second, .val (.long q3), .second, .val (.long q4), .second, .val (.long q5), .second, .unset, .unset, .unset] [(.long q4), (.long q1), (.long (q0 ^^^ q5)), (.long q5), (.long q4), (.long q3), (.long q2), (.long q1), (.long q0), (.ref b1), (.ref b1)])) _
    refine XS.lxor X1.here hx rfl (hb hby at_21) rfl ?_
    exact k)
  obtain ⟨_, _, ⟨T3, L3, k3, n3⟩, -, X3, ⟨Lc3, hQ3, l3, y3, z3⟩, st3⟩ := X1.specialBack hx (y := (⟨"com/example/gridwire/gridwire/model/MapStatistics", "<init>", "(JJJJJJJJ)V"⟩ : MethodName)) rfl hown (mvT hZ (hw _ (List.mem_of_getElem? (i := 3) rfl))) (mvT hZ (hw _ (List.mem_of_getElem? (i := 4) rfl))) (mvT hZ (hw _ (List.mem_of_getElem? (i := 5) rfl))) (by decide) (backOf (W := 1) (rm1 l Z a0 hw [] b1 q0 q1 q2 q3 q4 q5 (q0 ^^^ q5) (q1 ^^^ q4) h1 n0 Z1 A1 g_b1 F1_currentEntries F1_totalEntries F1_stores F1_retrievals F1_hits F1_misses F1_removeHits F1_removeMisses) hZ (hw _ (List.mem_of_getElem? (i := 5) rfl)) (hw _ (List.mem_of_getElem? (i := 2) rfl)) (by decide) (by decide)) (g := (mkF m 22 #[.val (.long q0), .second, .val (.long q1), .second, .val (.long q2), .second, .val (.long q3), .second, .val (.long q4), .second, .val (.long q5), .second, .unset, .unset, .unset] [(.long (q1 ^^^ q4)), (.long (q0 ^^^ q5)), (.long q5), (.long q4), (.long q3), (.long q2), (.long q1), (.long q0), (.ref b1), (.ref b1)])) rfl (by rw [hml]; rfl) (Steps.refl _) (a := b1) (argsL := [(.long q0), (.long q1), (.long q2), (.long q3), (.long q4), (.long q5), (.long (q0 ^^^ q5)), (.long (q1 ^^^ q4))]) (rest := [(.ref b1)]) (lenOf pd0_0 rfl) rfl (by show 2 * 0 + _ ≤ _; exact Nat.le_of_eq rfl) (hb hby at_22) (fun _ _ => ⟨rfl, e1, (by decide : 1 + 0 ≤ _), (by decide : 8 + 0 ≤ _)⟩)
  dsimp only [Pt.U, Pt.locs, Pt.cells, Pt.slots] at X3 l3 y3 z3 st3 hQ3
  subst l3 y3 z3
  obtain ⟨rfl, N3q, K3, qp3_0, qp3_1, qp3_2, qp3_3, qp3_4, qp3_5, qp3_6, qp3_7, qp3_8⟩ := hQ3
  have N3 := Fr.app N0 N3q
  have f4 := A1.keep K3
  have Z3 : n0 ≤ T3.heap.size := Nat.le_trans Z1 K3.1
  have KK3 := K1.trans K3 (allS (Or.inr sz_b1) all0)
  have go3 := go2.tr (C := T3.setTop (mkF m 25 #[.val (.long q0), .second, .val (.long q1), .second, .val (.long q2), .second, .val (.long q3), .second, .val (.long q4), .second, .val (.long q5), .second, .unset, .unset, .unset] [(.ref b1)])) st3
  have go13 := go3.step (C := T3.setTop (mkF m 27 #[.val (.long q0), .second, .val (.long q1), .second, .val (.long q2), .second, .val (.long q3), .second, .val (.long q4), .second, .val (.long q5), .second, .val (.ref b1), .unset, .unset] [])) (fun t k => by
    show Steps p.tables e below (T3.setTop (mkF m 25 #[.val (.long q0), .second, .val (.long q1), .second, .val (.long q2), .second, .val (.long q3), .second, .val (.long q4), .second, .val (.long q5), .second, .unset, .unset, .unset] [(.ref b1)])) _
    refine XS.astore X3.here hx rfl (hb hby at_25) rfl rfl (l' := #[.val (.long q0), .second, .val (.long q1), .second, .val (.long q2), .second, .val (.long q3), .second, .val (.long q4), .second, .val (.long q5), .second, .val (.ref b1), .unset, .unset]) rfl ?_
    exact k)
  obtain ⟨T14, h14, X14, e14, E14, A14, D14, -, st14⟩ := newO X3 hx hZ hown (hw _ (List.mem_of_getElem? (i := 0) rfl)) (hw _ (List.mem_of_getElem? (i := 1) rfl)) (hw _ (List.mem_of_getElem? (i := 2) rfl)) rfl (g := (mkF m 27 #[.val (.long q0), .second, .val (.long q1), .second, .val (.long q2), .second, .val (.long q3), .second, .val (.long q4), .second, .val (.long q5), .second, .val (.ref b1), .unset, .unset] [])) rfl (hb hby at_27) (by decide) (by decide)
  obtain ⟨b14, g14⟩ : ∃ z, z = T3.heap.size := ⟨_, rfl⟩
  rw [← g14] at A14 D14 st14
  have ne_b1_b14 : b1 ≠ b14 := Nat.ne_of_lt (Nat.lt_of_lt_of_le qp3_0.lt (Nat.le_of_eq g14.symm))
  have g_b14 : n0 ≤ b14 := Nat.le_trans Z3 (Nat.le_of_eq g14.symm)
  have sz_b14 : h0.size ≤ b14 := Nat.le_trans KK3.1 (Nat.le_of_eq g14.symm)
  have f15 := qp3_0.ext E14
  have f16 := qp3_1.ext E14
  have f17 := qp3_2.ext E14
  have f18 := qp3_3.ext E14
  have f19 := qp3_4.ext E14
  have f20 := qp3_5.ext E14
  have f21 := qp3_6.ext E14
  have f22 := qp3_7.ext E14
  have f23 := qp3_8.ext E14
  have F14_currentEntries : Fld Z h14 b14 "com/example/gridwire/gridwire/model/MapStatistics" "currentEntries" "J" (.long (0 : Int64)) := D14 (Or.inr (hw _ (List.mem_of_getElem? (i := 15) rfl))) (ty := .long) (by decide)
  have F14_totalEntries : Fld Z h14 b14 "com/example/gridwire/gridwire/model/MapStatistics" "totalEntries" "J" (.long (0 : Int64)) := D14 (Or.inr (hw _ (List.mem_of_getElem? (i := 17) rfl))) (ty := .long) (by decide)
  have F14_stores : Fld Z h14 b14 "com/example/gridwire/gridwire/model/MapStatistics" "stores" "J" (.long (0 : Int64)) := D14 (Or.inr (hw _ (List.mem_of_getElem? (i := 19) rfl))) (ty := .long) (by decide)
  have F14_retrievals : Fld Z h14 b14 "com/example/gridwire/gridwire/model/MapStatistics" "retrievals" "J" (.long (0 : Int64)) := D14 (Or.inr (hw _ (List.mem_of_getElem? (i := 21) rfl))) (ty := .long) (by decide)
  have F14_hits : Fld Z h14 b14 "com/example/gridwire/gridwire/model/MapStatistics" "hits" "J" (.long (0 : Int64)) := D14 (Or.inr (hw _ (List.mem_of_getElem? (i := 23) rfl))) (ty := .long) (by decide)
  have F14_misses : Fld Z h14 b14 "com/example/gridwire/gridwire/model/MapStatistics" "misses" "J" (.long (0 : Int64)) := D14 (Or.inr (hw _ (List.mem_of_getElem? (i := 25) rfl))) (ty := .long) (by decide)
  have F14_removeHits : Fld Z h14 b14 "com/example/gridwire/gridwire/model/MapStatistics" "removeHits" "J" (.long (0 : Int64)) := D14 (Or.inr (hw _ (List.mem_of_getElem? (i := 27) rfl))) (ty := .long) (by decide)
  have F14_removeMisses : Fld Z h14 b14 "com/example/gridwire/gridwire/model/MapStatistics" "removeMisses" "J" (.long (0 : Int64)) := D14 (Or.inr (hw _ (List.mem_of_getElem? (i := 29) rfl))) (ty := .long) (by decide)
  have Z14 : n0 ≤ h14.size := Nat.le_trans Z3 E14.1
  have K14 := KK3.ext E14
  have go14 := go13.step (C := T14.setTop (mkF m 30 #[.val (.long q0), .second, .val (.long q1), .second, .val (.long q2), .second, .val (.long q3), .second, .val (.long q4), .second, .val (.long q5), .second, .val (.ref b1), .unset, .unset] [(.ref b14)])) (fun t k => st14 t k)
  have go24 := go14.step (C := T14.setTop (mkF m 50 #[.val (.long q0), .second, .val (.long q1), .second, .val (.long q2), .second, .val (.long q3), .second, .val (.long q4), .second, .val (.long q5), .second, .val (.ref b1), .unset, .unset] [(.long (q3 ^^^ q5)), (.long (q0 ^^^ q2)), (.long q0), (.long q5), (.long q4), (.long q3), (.long q2), (.long q1), (.ref b14), (.ref b14)])) (fun t k => by
    show Steps p.tables e below (T14.setTop (mkF m 30 #[.val (.long q0), .second, .val (.long q1), .second, .val (.long q2), .second, .val (.long q3), .second, .val (.long q4), .second, .val (.long q5), .second, .val (.ref b1), .unset, .unset] [(.ref b14)])) _
    refine XS.dup X14.here hx rfl (hb hby at_30) rfl rfl ?_
    show Steps p.tables e below (T14.setTop (mkF m 31 #[.val (.long q0), .second, .val (.long q1), .second, .val (.long q2), .second, .val (.long q3), .second, .val (.long q4), .second, .val (.long q5), .second, .val (.ref b1), .unset, .unset] [(.ref b14), (.ref b14)])) _
    refine XS.lloadN X14.here hx rfl (hb hby at_31) rfl ?_
    show Steps p.tables e below (T14.setTop (mkF m 32 #[.val (.long q0), .second, .val (.long q1), .second, .val (.long q2), .second, .val (.long q3), .second, .val (.long q4), .second, .val (.long q5), .second, .val (.ref b1), .unset, .unset] [(.long q1), (.ref b14), (.ref b14)])) _
    refine XS.lload X14.here hx rfl (hb hby at_32) rfl ?_
    show Steps p.tables e below (T14.setTop (mkF m 34 #[.val (.long q0), .second, .val (.long q1), .second, .val (.long q2), .second, .val (.long q3), .second, .val (.long q4), .second, .val (.long q5), .second, .val (.ref b1), .unset, .unset] [(.long q2), (.long q1), (.ref b14), (.ref b14)])) _
    refine XS.lload X14.here hx rfl (hb hby at_34) rfl ?_
    show Steps p.tables e below (T14.setTop (mkF m 36 #[.val (.long q0), .second, .val (.long q1), .second, .val (.long q2), .second, .val (.long q3), .second, .val (.long q4), .second, .val (.long q5), .second, .val (.ref b1), .unset, .unset] [(.long q3), (.long q2), (.long q1), (.ref b14), (.ref b14)])) _
    refine XS.lload X14.here hx rfl (hb hby at_36) rfl ?_
    show Steps p.tables e below (T14.setTop (mkF m 38 #[.val (.long q0), .second, .val (.long q1), .second, .val (.long q2), .second, .val (.long q3), .second, .val (.long q4), .second, .val (.long q5), .second, .val (.ref b1), .unset, .unset] [(.long q4), (.long q3), (.long q2), (.long q1), (.ref b14), (.ref b14)])) _
    refine XS.lload X14.here hx rfl (hb hby at_38) rfl ?_
    show Steps p.tables e below (T14.setTop (mkF m 40 #[.val (.long q0), .second, .val (.long q1), .second, .val (.long q2), .second, .val (.long q3), .second, .val (.long q4), .second, .val (.long q5), .second, .val (.ref b1), .unset, .unset] [(.long q5), (.long q4), (.long q3), (.long q2), (.long q1), (.ref b14), (.ref b14)])) _
    refine XS.lloadN X14.here hx rfl (hb hby at_40) rfl ?_
    show Steps p.tables e below (T14.setTop (mkF m 41 #[.val (.long q0), .second, .val (.long q1), .second, .val (.long q2), .second, .val (.long q3), .second, .val (.long q4), .second, .val (.long q5), .second, .val (.ref b1), .unset, .unset] [(.long q0), (.long q5), (.long q4), (.long q3), (.long q2), (.long q1), (.ref b14), (.ref b14)])) _
    refine XS.lloadN X14.here hx rfl (hb hby at_41) rfl ?_
    show Steps p.tables e below (T14.setTop (mkF m 42 #[.val (.long q0), .second, .val (.long q1), .second, .val (.long q2), .second, .val (.long q3), .second, .val (.long q4), .second, .val (.long q5), .second, .val (.ref b1), .unset, .unset] [(.long q0), (.long q0), (.long q5), (.long q4), (.long q3), (.long q2), (.long q1), (.ref b14), (.ref b14)])) _
    refine XS.lload X14.here hx rfl (hb hby at_42) rfl ?_
    show Steps p.tables e below (T14.setTop (mkF m 44 #[.val (.long q0), .second, .val (.long q1), .second, .val (.long q2), .second, .val (.long q3), .second, .val (.long q4), .second, .val (.long q5), .second, .val (.ref b1), .unset, .unset] [(.long q2), (.long q0), (.long q0), (.long q5), (.long q4), (.long q3), (.long q2), (.long q1), (.ref b14), (.ref b14)])) _
    refine XS.lxor X14.here hx rfl (hb hby at_44) rfl ?_
    show Steps p.tables e below (T14.setTop (mkF m 45 #[.val (.long q0), .second, .val (.long q1), .second, .val (.long q2), .second, .val (.long q3), .second, .val (.long q4), .second, .val (.long q5), .second, .val (.ref b1), .unset, .unset] [(.long (q0 ^^^ q2)), (.long q0), (.long q5), (.long q4), (.long q3), (.long q2), (.long q1), (.ref b14), (.ref b14)])) _
    refine XS.lload X14.here hx rfl (hb hby at_45) rfl ?_
    show Steps p.tables e below (T14.setTop (mkF m 47 #[.val (.long q0), .second, .val (.long q1), .second, .val (.long q2), .second, .val (.long q3), .second, .val (.long q4), .second, .val (.long q5), .second, .val (.ref b1), .unset, .unset] [(.long q3), (.long (q0 ^^^ q2)), (.long q0), (.long q5), (.long q4), (.long q3), (.long q2), (.long q1), (.ref b14), (.ref b14)])) _
    refine XS.lload X14.here hx rfl (hb hby at_47) rfl ?_
    show Steps p.tables e below (T14.setTop (mkF m 49 #[.val (.long q0), .second, .val (.long q1), .second, .val (.long q2), .second, .val (.long q3), .second, .val (.long q4), .second, .val (.long q5), .second, .val (.ref b1), .unset, .unset] [(.long q5), (.long q3), (.long (q0 ^^^ q2)), (.long q0), (.long q5), (.long q4), (.long q3), (.long q2), (.long q1), (.ref b14), (.ref b14)])) _
    refine XS.lxor X14.here hx rfl (hb hby at_49) rfl ?_
    exact k)
  obtain ⟨_, _, ⟨T25, L25, k25, n25⟩, -, X25, ⟨Lc25, hQ25, l25, y25, z25⟩, st25⟩ := X14.specialBack hx (y := (⟨"com/example/gridwire/gridwire/model/MapStatistics", "<init>", "(JJJJJJJJ)V"⟩ : MethodName)) rfl hown (mvT hZ (hw _ (List.mem_of_getElem? (i := 3) rfl))) (mvT hZ (hw _ (List.mem_of_getElem? (i := 4) rfl))) (mvT hZ (hw _ (List.mem_of_getElem? (i := 5) rfl))) (by decide) (backOf (W := 1) (rm1 l Z a0 hw [] b14 q1 q2 q3 q4 q5 q0 (q0 ^^^ q2) (q3 ^^^ q5) h14 n0 Z14 A14 g_b14 F14_currentEntries F14_totalEntries F14_stores F14_retrievals F14_hits F14_misses F14_removeHits F14_removeMisses) hZ (hw _ (List.mem_of_getElem? (i := 5) rfl)) (hw _ (List.mem_of_getElem? (i := 2) rfl)) (by decide) (by decide)) (g := (mkF m 50 #[.val (.long q0), .second, .val (.long q1), .second, .val (.long q2), .second, .val (.long q3), .second, .val (.long q4), .second, .val (.long q5), .second, .val (.ref b1), .unset, .unset] [(.long (q3 ^^^ q5)), (.long (q0 ^^^ q2)), (.long q0), (.long q5), (.long q4), (.long q3), (.long q2), (.long q1), (.ref b14), (.ref b14)])) rfl (by rw [hml]; rfl) (Steps.refl _) (a := b14) (argsL := [(.long q1), (.long q2), (.long q3), (.long q4), (.long q5), (.long q0), (.long (q0 ^^^ q2)), (.long (q3 ^^^ q5))]) (rest := [(.ref b14)]) (lenOf pd0_0 rfl) rfl (by show 2 * 0 + _ ≤ _; exact Nat.le_of_eq rfl) (hb hby at_50) (fun _ _ => ⟨rfl, e14, (by decide : 2 + 0 ≤ _), (by decide : 16 + 0 ≤ _)⟩)
  dsimp only [Pt.U, Pt.locs, Pt.cells, Pt.slots] at X25 l25 y25 z25 st25 hQ25
  subst l25 y25 z25
  obtain ⟨rfl, N25q, K25, qp25_0, qp25_1, qp25_2, qp25_3, qp25_4, qp25_5, qp25_6, qp25_7, qp25_8⟩ := hQ25
  have N25 := Fr.app N3 N25q
  have f26 := f15.keep K25
  have f27 := f16.keep K25 (ninS ne_b1_b14 nin0)
  have f28 := f17.keep K25 (ninS ne_b1_b14 nin0)
  have f29 := f18.keep K25 (ninS ne_b1_b14 nin0)
  have f30 := f19.keep K25 (ninS ne_b1_b14 nin0)
  have f31 := f20.keep K25 (ninS ne_b1_b14 nin0)
  have f32 := f21.keep K25 (ninS ne_b1_b14 nin0)
  have f33 := f22.keep K25 (ninS ne_b1_b14 nin0)
  have f34 := f23.keep K25 (ninS ne_b1_b14 nin0)
  have f35 := A14.keep K25
  have Z25 : n0 ≤ T25.heap.size := Nat.le_trans Z14 K25.1
  have KK25 := K14.trans K25 (allS (Or.inr sz_b14) all0)
  have go25 := go24.tr (C := T25.setTop (mkF m 53 #[.val (.long q0), .second, .val (.long q1), .second, .val (.long q2), .second, .val (.long q3), .second, .val (.long q4), .second, .val (.long q5), .second, .val (.ref b1), .unset, .unset] [(.ref b14)])) st25
  have go44 := go25.step (C := T25.setTop (mkF m 59 #[.val (.long q0), .second, .val (.long q1), .second, .val (.long q2), .second, .val (.long q3), .second, .val (.long q4), .second, .val (.long q5), .second, .val (.ref b1), .val (.ref b14), .unset] [(.ref b14), (.ref b1)])) (fun t k => by
    show Steps p.tables e below (T25.setTop (mkF m 53 #[.val (.long q0), .second, .val (.long q1), .second, .val (.long q2), .second, .val (.long q3), .second, .val (.long q4), .second, .val (.long q5), .second, .val (.ref b1), .unset, .unset] [(.ref b14)])) _
    refine XS.astore X25.here hx rfl (hb hby at_53) rfl rfl (l' := #[.val (.long q0), .second, .val (.long q1), .second, .val (.long q2), .second, .val (.long q3), .second, .val (.long q4), .second, .val (.long q5), .second, .val (.ref b1), .val (.ref b14), .unset]) rfl ?_
    show Steps p.tables e below (T25.setTop (mkF m 55 #[.val (.long q0), .second, .val (.long q1), .second, .val (.long q2), .second, .val (.long q3), .second, .val (.long q4), .second, .val (.long q5), .second, .val (.ref b1), .val (.ref b14), .unset] [])) _
    refine XS.aload X25.here hx rfl (hb hby at_55) rfl rfl ?_
    show Steps p.tables e below (T25.setTop (mkF m 57 #[.val (.long q0), .second, .val (.long q1), .second, .val (.long q2), .second, .val (.long q3), .second, .val (.long q4), .second, .val (.long q5), .second, .val (.ref b1), .val (.ref b14), .unset] [(.ref b1)])) _
    refine XS.aload X25.here hx rfl (hb hby at_57) rfl rfl ?_
    exact k)
  obtain ⟨cq45, kq45, q45a, q45b, q45c⟩ := isOf hZ rfl f26
  obtain ⟨_, _, ⟨T45, L45, k45, n45⟩, -, X45, ⟨Lc45, hQ45, l45, y45, z45⟩, st45⟩ := X25.virtualBack hx (y := (⟨"com/example/gridwire/gridwire/model/MapStatistics", "plus", "(Lcom/example/gridwire/gridwire/model/MapStatistics;)Lcom/example/gridwire/gridwire/model/MapStatistics;"⟩ : MethodName)) (z := (⟨"com/example/gridwire/gridwire/model/MapStatistics", "plus", "(Lcom/example/gridwire/gridwire/model/MapStatistics;)Lcom/example/gridwire/gridwire/model/MapStatistics;"⟩ : MethodName)) hown (mvT hZ (hw _ (List.mem_of_getElem? (i := 30) rfl))) (mvT hZ (hw _ (List.mem_of_getElem? (i := 31) rfl))) (notFace_of_selects (args := #[]) (mvT hZ (hw _ (List.mem_of_getElem? (i := 33) rfl)))) (mvT hZ (hw _ (List.mem_of_getElem? (i := 33) rfl))) (mvT hZ (hw _ (List.mem_of_getElem? (i := 32) rfl))) (by decide) (backOf (W := 0) (rm4 l Z a0 hw [] b1 b14 q0 q1 q2 q3 q4 q5 (q0 ^^^ q5) (q1 ^^^ q4) q1 q2 q3 q4 q5 q0 (q0 ^^^ q2) (q3 ^^^ q5) T25.heap n0 Z25 f26 f27 f28 f29 f30 f31 f32 f33 f34 qp25_0 qp25_1 qp25_2 qp25_3 qp25_4 qp25_5 qp25_6 qp25_7 qp25_8) hZ (hw _ (List.mem_of_getElem? (i := 34) rfl)) (hw _ (List.mem_of_getElem? (i := 2) rfl)) (by decide) (by decide)) q45a q45c (g := (mkF m 59 #[.val (.long q0), .second, .val (.long q1), .second, .val (.long q2), .second, .val (.long q3), .second, .val (.long q4), .second, .val (.long q5), .second, .val (.ref b1), .val (.ref b14), .unset] [(.ref b14), (.ref b1)])) rfl (by rw [hml]; rfl) (Steps.refl _) (argsL := [(.ref b14)]) (rest := []) (lenOf pd0_1 rfl) rfl (by show 2 * 0 + _ ≤ _; exact Nat.le_of_eq rfl) (hb hby at_59) (fun _ _ => ⟨rfl, rfl, (by decide : 2 + 1 ≤ _), (by decide : 16 + 8 ≤ _)⟩)
  dsimp only [Pt.U, Pt.locs, Pt.cells, Pt.slots] at X45 l45 y45 z45 st45 hQ45
  subst l45 y45 z45
  obtain ⟨b_45, rfl, N45q, K45, qp45_0, qp45_1, qp45_2, qp45_3, qp45_4, qp45_5, qp45_6, qp45_7, qp45_8, qp45_9, qp45_10⟩ := hQ45
  have N45 := Fr.app N25 N45q
  have f46 := f26.keep K45
  have f47 := f27.keep K45 nin0
  have f48 := f28.keep K45 nin0
  have f49 := f29.keep K45 nin0
  have f50 := f30.keep K45 nin0
  have f51 := f31.keep K45 nin0
  have f52 := f32.keep K45 nin0
  have f53 := f33.keep K45 nin0
  have f54 := f34.keep K45 nin0
  have f55 := qp25_0.keep K45
  have f56 := qp25_1.keep K45 nin0
  have f57 := qp25_2.keep K45 nin0
  have f58 := qp25_3.keep K45 nin0
  have f59 := qp25_4.keep K45 nin0
  have f60 := qp25_5.keep K45 nin0
  have f61 := qp25_6.keep K45 nin0
  have f62 := qp25_7.keep K45 nin0
  have f63 := qp25_8.keep K45 nin0
  have Z45 : n0 ≤ T45.heap.size := Nat.le_trans Z25 K45.1
  have KK45 := KK25.trans K45 all0
  have g_b_45 := qp45_0
  have sz_b_45 := Nat.le_trans KK25.1 qp45_1
  have ne_b1_b_45 : b1 ≠ b_45 := Nat.ne_of_lt (Nat.lt_of_lt_of_le f26.lt qp45_1)
  have ne_b14_b_45 : b14 ≠ b_45 := Nat.ne_of_lt (Nat.lt_of_lt_of_le qp25_0.lt qp45_1)
  have go45 := go44.tr (C := T45.setTop (mkF m 62 #[.val (.long q0), .second, .val (.long q1), .second, .val (.long q2), .second, .val (.long q3), .second, .val (.long q4), .second, .val (.long q5), .second, .val (.ref b1), .val (.ref b14), .unset] [(.ref b_45)])) st45
  have go64 := go45.step (C := T45.setTop (mkF m 66 #[.val (.long q0), .second, .val (.long q1), .second, .val (.long q2), .second, .val (.long q3), .second, .val (.long q4), .second, .val (.long q5), .second, .val (.ref b1), .val (.ref b14), .val (.ref b_45)] [(.ref b_45)])) (fun t k => by
    show Steps p.tables e below (T45.setTop (mkF m 62 #[.val (.long q0), .second, .val (.long q1), .second, .val (.long q2), .second, .val (.long q3), .second, .val (.long q4), .second, .val (.long q5), .second, .val (.ref b1), .val (.ref b14), .unset] [(.ref b_45)])) _
    refine XS.astore X45.here hx rfl (hb hby at_62) rfl rfl (l' := #[.val (.long q0), .second, .val (.long q1), .second, .val (.long q2), .second, .val (.long q3), .second, .val (.long q4), .second, .val (.long q5), .second, .val (.ref b1), .val (.ref b14), .val (.ref b_45)]) rfl ?_
    show Steps p.tables e below (T45.setTop (mkF m 64 #[.val (.long q0), .second, .val (.long q1), .second, .val (.long q2), .second, .val (.long q3), .second, .val (.long q4), .second, .val (.long q5), .second, .val (.ref b1), .val (.ref b14), .val (.ref b_45)] [])) _
    refine XS.aload X45.here hx rfl (hb hby at_64) rfl rfl ?_
    exact k)
  obtain ⟨cq65, kq65, q65a, q65b, q65c⟩ := isOf hZ rfl qp45_2
  obtain ⟨_, _, ⟨T65, L65, k65, n65⟩, -, X65, ⟨Lc65, hQ65, l65, y65, z65⟩, st65⟩ := X45.virtualBack hx (y := (⟨"com/example/gridwire/gridwire/model/MapStatistics", "currentEntries", "()J"⟩ : MethodName)) (z := (⟨"com/example/gridwire/gridwire/model/MapStatistics", "currentEntries", "()J"⟩ : MethodName)) hown (mvT hZ (hw _ (List.mem_of_getElem? (i := 37) rfl))) (mvT hZ (hw _ (List.mem_of_getElem? (i := 38) rfl))) (notFace_of_selects (args := #[]) (mvT hZ (hw _ (List.mem_of_getElem? (i := 40) rfl)))) (mvT hZ (hw _ (List.mem_of_getElem? (i := 40) rfl))) (mvT hZ (hw _ (List.mem_of_getElem? (i := 39) rfl))) (by decide) (backOf (W := 0) (rm5 l Z a0 hw [] b_45 (q0 + q1) T45.heap n0 Z45 qp45_3) hZ (hw _ (List.mem_of_getElem? (i := 41) rfl)) (hw _ (List.mem_of_getElem? (i := 2) rfl)) (by decide) (by decide)) q65a q65c (g := (mkF m 66 #[.val (.long q0), .second, .val (.long q1), .second, .val (.long q2), .second, .val (.long q3), .second, .val (.long q4), .second, .val (.long q5), .second, .val (.ref b1), .val (.ref b14), .val (.ref b_45)] [(.ref b_45)])) rfl (by rw [hml]; rfl) (Steps.refl _) (argsL := []) (rest := []) (lenOf pd0_2 rfl) rfl (by show 2 * 0 + _ ≤ _; exact Nat.le_of_eq rfl) (hb hby at_66) (fun _ _ => ⟨rfl, rfl, (by decide : 3 + 0 ≤ _), (by decide : 24 + 0 ≤ _)⟩)
  dsimp only [Pt.U, Pt.locs, Pt.cells, Pt.slots] at X65 l65 y65 z65 st65 hQ65
  subst l65 y65 z65
  obtain ⟨rfl, N65q, e65⟩ := hQ65
  have N65 := Fr.app N45 N65q
  have go65 := go64.tr (C := T65.setTop (mkF m 69 #[.val (.long q0), .second, .val (.long q1), .second, .val (.long q2), .second, .val (.long q3), .second, .val (.long q4), .second, .val (.long q5), .second, .val (.ref b1), .val (.ref b14), .val (.ref b_45)] [(.long (q0 + q1))])) st65
  have go67 := go65.step (C := T65.setTop (mkF m 78 #[.val (.long q0), .second, .val (.long q1), .second, .val (.long q2), .second, .val (.long q3), .second, .val (.long q4), .second, .val (.long q5), .second, .val (.ref b1), .val (.ref b14), .val (.ref b_45)] [(.ref b_45)])) (fun t k => by
    show Steps p.tables e below (T65.setTop (mkF m 69 #[.val (.long q0), .second, .val (.long q1), .second, .val (.long q2), .second, .val (.long q3), .second, .val (.long q4), .second, .val (.long q5), .second, .val (.ref b1), .val (.ref b14), .val (.ref b_45)] [(.long (q0 + q1))])) _
    refine XS.lloadN X65.here hx rfl (hb hby at_69) rfl ?_
    show Steps p.tables e below (T65.setTop (mkF m 70 #[.val (.long q0), .second, .val (.long q1), .second, .val (.long q2), .second, .val (.long q3), .second, .val (.long q4), .second, .val (.long q5), .second, .val (.ref b1), .val (.ref b14), .val (.ref b_45)] [(.long q0), (.long (q0 + q1))])) _
    refine XS.lloadN X65.here hx rfl (hb hby at_70) rfl ?_
    show Steps p.tables e below (T65.setTop (mkF m 71 #[.val (.long q0), .second, .val (.long q1), .second, .val (.long q2), .second, .val (.long q3), .second, .val (.long q4), .second, .val (.long q5), .second, .val (.ref b1), .val (.ref b14), .val (.ref b_45)] [(.long q1), (.long q0), (.long (q0 + q1))])) _
    refine XS.ladd X65.here hx rfl (hb hby at_71) rfl ?_
    show Steps p.tables e below (T65.setTop (mkF m 72 #[.val (.long q0), .second, .val (.long q1), .second, .val (.long q2), .second, .val (.long q3), .second, .val (.long q4), .second, .val (.long q5), .second, .val (.ref b1), .val (.ref b14), .val (.ref b_45)] [(.long (q0 + q1)), (.long (q0 + q1))])) _
    refine XS.lcmp X65.here hx rfl (hb hby at_72) rfl ?_
    show Steps p.tables e below (T65.setTop (mkF m 73 #[.val (.long q0), .second, .val (.long q1), .second, .val (.long q2), .second, .val (.long q3), .second, .val (.long q4), .second, .val (.long q5), .second, .val (.ref b1), .val (.ref b14), .val (.ref b_45)] [(.int (lcmpW (q0 + q1) (q0 + q1)))])) _
    refine XS.ifNo X65.here hx rfl (hb hby at_73) rfl ((if0 _ _).trans (teq ((lw_eq _ _).mpr (rfl : (q0 + q1) = (q0 + q1)))).2) ?_
    show Steps p.tables e below (T65.setTop (mkF m 76 #[.val (.long q0), .second, .val (.long q1), .second, .val (.long q2), .second, .val (.long q3), .second, .val (.long q4), .second, .val (.long q5), .second, .val (.ref b1), .val (.ref b14), .val (.ref b_45)] [])) _
    refine XS.aload X65.here hx rfl (hb hby at_76) rfl rfl ?_
    exact k)
  obtain ⟨cq68, kq68, q68a, q68b, q68c⟩ := isOf hZ e65 qp45_2
  obtain ⟨_, _, ⟨T68, L68, k68, n68⟩, -, X68, ⟨Lc68, hQ68, l68, y68, z68⟩, st68⟩ := X65.virtualBack hx (y := (⟨"com/example/gridwire/gridwire/model/MapStatistics", "totalEntries", "()J"⟩ : MethodName)) (z := (⟨"com/example/gridwire/gridwire/model/MapStatistics", "totalEntries", "()J"⟩ : MethodName)) hown (mvT hZ (hw _ (List.mem_of_getElem? (i := 42) rfl))) (mvT hZ (hw _ (List.mem_of_getElem? (i := 43) rfl))) (notFace_of_selects (args := #[]) (mvT hZ (hw _ (List.mem_of_getElem? (i := 45) rfl)))) (mvT hZ (hw _ (List.mem_of_getElem? (i := 45) rfl))) (mvT hZ (hw _ (List.mem_of_getElem? (i := 44) rfl))) (by decide) (backOf (W := 0) (rm6 l Z a0 hw [] b_45 (q1 + q2) T45.heap n0 Z45 qp45_4) hZ (hw _ (List.mem_of_getElem? (i := 46) rfl)) (hw _ (List.mem_of_getElem? (i := 2) rfl)) (by decide) (by decide)) q68a q68c (g := (mkF m 78 #[.val (.long q0), .second, .val (.long q1), .second, .val (.long q2), .second, .val (.long q3), .second, .val (.long q4), .second, .val (.long q5), .second, .val (.ref b1), .val (.ref b14), .val (.ref b_45)] [(.ref b_45)])) rfl (by rw [hml]; rfl) (Steps.refl _) (argsL := []) (rest := []) (lenOf pd0_2 rfl) rfl (by show 2 * 0 + _ ≤ _; exact Nat.le_of_eq rfl) (hb hby at_78) (fun _ _ => ⟨rfl, e65, (by decide : 3 + 0 ≤ _), (by decide : 24 + 0 ≤ _)⟩)
  dsimp only [Pt.U, Pt.locs, Pt.cells, Pt.slots] at X68 l68 y68 z68 st68 hQ68
  subst l68 y68 z68
  obtain ⟨rfl, N68q, e68⟩ := hQ68
  have N68 := Fr.app N65 N68q
  have go68 := go67.tr (C := T68.setTop (mkF m 81 #[.val (.long q0), .second, .val (.long q1), .second, .val (.long q2), .second, .val (.long q3), .second, .val (.long q4), .second, .val (.long q5), .second, .val (.ref b1), .val (.ref b14), .val (.ref b_45)] [(.long (q1 + q2))])) st68
  have go70 := go68.step (C := T68.setTop (mkF m 91 #[.val (.long q0), .second, .val (.long q1), .second, .val (.long q2), .second, .val (.long q3), .second, .val (.long q4), .second, .val (.long q5), .second, .val (.ref b1), .val (.ref b14), .val (.ref b_45)] [(.ref b_45)])) (fun t k => by
    show Steps p.tables e below (T68.setTop (mkF m 81 #[.val (.long q0), .second, .val (.long q1), .second, .val (.long q2), .second, .val (.long q3), .second, .val (.long q4), .second, .val (.long q5), .second, .val (.ref b1), .val (.ref b14), .val (.ref b_45)] [(.long (q1 + q2))])) _
    refine XS.lloadN X68.here hx rfl (hb hby at_81) rfl ?_
    show Steps p.tables e below (T68.setTop (mkF m 82 #[.val (.long q0), .second, .val (.long q1), .second, .val (.long q2), .second, .val (.long q3), .second, .val (.long q4), .second, .val (.long q5), .second, .val (.ref b1), .val (.ref b14), .val (.ref b_45)] [(.long q1), (.long (q1 + q2))])) _
    refine XS.lload X68.here hx rfl (hb hby at_82) rfl ?_
    show Steps p.tables e below (T68.setTop (mkF m 84 #[.val (.long q0), .second, .val (.long q1), .second, .val (.long q2), .second, .val (.long q3), .second, .val (.long q4), .second, .val (.long q5), .second, .val (.ref b1), .val (.ref b14), .val (.ref b_45)] [(.long q2), (.long q1), (.long (q1 + q2))])) _
    refine XS.ladd X68.here hx rfl (hb hby at_84) rfl ?_
    show Steps p.tables e below (T68.setTop (mkF m 85 #[.val (.long q0), .second, .val (.long q1), .second, .val (.long q2), .second, .val (.long q3), .second, .val (.long q4), .second, .val (.long q5), .second, .val (.ref b1), .val (.ref b14), .val (.ref b_45)] [(.long (q1 + q2)), (.long (q1 + q2))])) _
    refine XS.lcmp X68.here hx rfl (hb hby at_85) rfl ?_
    show Steps p.tables e below (T68.setTop (mkF m 86 #[.val (.long q0), .second, .val (.long q1), .second, .val (.long q2), .second, .val (.long q3), .second, .val (.long q4), .second, .val (.long q5), .second, .val (.ref b1), .val (.ref b14), .val (.ref b_45)] [(.int (lcmpW (q1 + q2) (q1 + q2)))])) _
    refine XS.ifNo X68.here hx rfl (hb hby at_86) rfl ((if0 _ _).trans (teq ((lw_eq _ _).mpr (rfl : (q1 + q2) = (q1 + q2)))).2) ?_
    show Steps p.tables e below (T68.setTop (mkF m 89 #[.val (.long q0), .second, .val (.long q1), .second, .val (.long q2), .second, .val (.long q3), .second, .val (.long q4), .second, .val (.long q5), .second, .val (.ref b1), .val (.ref b14), .val (.ref b_45)] [])) _
    refine XS.aload X68.here hx rfl (hb hby at_89) rfl rfl ?_
    exact k)
  obtain ⟨cq71, kq71, q71a, q71b, q71c⟩ := isOf hZ e68 qp45_2
  obtain ⟨_, _, ⟨T71, L71, k71, n71⟩, -, X71, ⟨Lc71, hQ71, l71, y71, z71⟩, st71⟩ := X68.virtualBack hx (y := (⟨"com/example/gridwire/gridwire/model/MapStatistics", "stores", "()J"⟩ : MethodName)) (z := (⟨"com/example/gridwire/gridwire/model/MapStatistics", "stores", "()J"⟩ : MethodName)) hown (mvT hZ (hw _ (List.mem_of_getElem? (i := 47) rfl))) (mvT hZ (hw _ (List.mem_of_getElem? (i := 48) rfl))) (notFace_of_selects (args := #[]) (mvT hZ (hw _ (List.mem_of_getElem? (i := 50) rfl)))) (mvT hZ (hw _ (List.mem_of_getElem? (i := 50) rfl))) (mvT hZ (hw _ (List.mem_of_getElem? (i := 49) rfl))) (by decide) (backOf (W := 0) (rm7 l Z a0 hw [] b_45 (q2 + q3) T45.heap n0 Z45 qp45_5) hZ (hw _ (List.mem_of_getElem? (i := 51) rfl)) (hw _ (List.mem_of_getElem? (i := 2) rfl)) (by decide) (by decide)) q71a q71c (g := (mkF m 91 #[.val (.long q0), .second, .val (.long q1), .second, .val (.long q2), .second, .val (.long q3), .second, .val (.long q4), .second, .val (.long q5), .second, .val (.ref b1), .val (.ref b14), .val (.ref b_45)] [(.ref b_45)])) rfl (by rw [hml]; rfl) (Steps.refl _) (argsL := []) (rest := []) (lenOf pd0_2 rfl) rfl (by show 2 * 0 + _ ≤ _; exact Nat.le_of_eq rfl) (hb hby at_91) (fun _ _ => ⟨rfl, e68, (by decide : 3 + 0 ≤ _), (by decide : 24 + 0 ≤ _)⟩)
  dsimp only [Pt.U, Pt.locs, Pt.cells, Pt.slots] at X71 l71 y71 z71 st71 hQ71
  subst l71 y71 z71
  obtain ⟨rfl, N71q, e71⟩ := hQ71
  have N71 := Fr.app N68 N71q
  have go71 := go70.tr (C := T71.setTop (mkF m 94 #[.val (.long q0), .second, .val (.long q1), .second, .val (.long q2), .second, .val (.long q3), .second, .val (.long q4), .second, .val (.long q5), .second, .val (.ref b1), .val (.ref b14), .val (.ref b_45)] [(.long (q2 + q3))])) st71
  have go73 := go71.step (C := T71.setTop (mkF m 105 #[.val (.long q0), .second, .val (.long q1), .second, .val (.long q2), .second, .val (.long q3), .second, .val (.long q4), .second, .val (.long q5), .second, .val (.ref b1), .val (.ref b14), .val (.ref b_45)] [(.ref b_45)])) (fun t k => by
    show Steps p.tables e below (T71.setTop (mkF m 94 #[.val (.long q0), .second, .val (.long q1), .second, .val (.long q2), .second, .val (.long q3), .second, .val (.long q4), .second, .val (.long q5), .second, .val (.ref b1), .val (.ref b14), .val (.ref b_45)] [(.long (q2 + q3))])) _
    refine XS.lload X71.here hx rfl (hb hby at_94) rfl ?_
    show Steps p.tables e below (T71.setTop (mkF m 96 #[.val (.long q0), .second, .val (.long q1), .second, .val (.long q2), .second, .val (.long q3), .second, .val (.long q4), .second, .val (.long q5), .second, .val (.ref b1), .val (.ref b14), .val (.ref b_45)] [(.long q2), (.long (q2 + q3))])) _
    refine XS.lload X71.here hx rfl (hb hby at_96) rfl ?_
    show Steps p.tables e below (T71.setTop (mkF m 98 #[.val (.long q0), .second, .val (.long q1), .second, .val (.long q2), .second, .val (.long q3), .second, .val (.long q4), .second, .val (.long q5), .second, .val (.ref b1), .val (.ref b14), .val (.ref b_45)] [(.long q3), (.long q2), (.long (q2 + q3))])) _
    refine XS.ladd X71.here hx rfl (hb hby at_98) rfl ?_
    show Steps p.tables e below (T71.setTop (mkF m 99 #[.val (.long q0), .second, .val (.long q1), .second, .val (.long q2), .second, .val (.long q3), .second, .val (.long q4), .second, .val (.long q5), .second, .val (.ref b1), .val (.ref b14), .val (.ref b_45)] [(.long (q2 + q3)), (.long (q2 + q3))])) _
    refine XS.lcmp X71.here hx rfl (hb hby at_99) rfl ?_
    show Steps p.tables e below (T71.setTop (mkF m 100 #[.val (.long q0), .second, .val (.long q1), .second, .val (.long q2), .second, .val (.long q3), .second, .val (.long q4), .second, .val (.long q5), .second, .val (.ref b1), .val (.ref b14), .val (.ref b_45)] [(.int (lcmpW (q2 + q3) (q2 + q3)))])) _
    refine XS.ifNo X71.here hx rfl (hb hby at_100) rfl ((if0 _ _).trans (teq ((lw_eq _ _).mpr (rfl : (q2 + q3) = (q2 + q3)))).2) ?_
    show Steps p.tables e below (T71.setTop (mkF m 103 #[.val (.long q0), .second, .val (.long q1), .second, .val (.long q2), .second, .val (.long q3), .second, .val (.long q4), .second, .val (.long q5), .second, .val (.ref b1), .val (.ref b14), .val (.ref b_45)] [])) _
    refine XS.aload X71.here hx rfl (hb hby at_103) rfl rfl ?_
    exact k)
  obtain ⟨cq74, kq74, q74a, q74b, q74c⟩ := isOf hZ e71 qp45_2
  obtain ⟨_, _, ⟨T74, L74, k74, n74⟩, -, X74, ⟨Lc74, hQ74, l74, y74, z74⟩, st74⟩ := X71.virtualBack hx (y := (⟨"com/example/gridwire/gridwire/model/MapStatistics", "retrievals", "()J"⟩ : MethodName)) (z := (⟨"com/example/gridwire/gridwire/model/MapStatistics", "retrievals", "()J"⟩ : MethodName)) hown (mvT hZ (hw _ (List.mem_of_getElem? (i := 52) rfl))) (mvT hZ (hw _ (List.mem_of_getElem? (i := 53) rfl))) (notFace_of_selects (args := #[]) (mvT hZ (hw _ (List.mem_of_getElem? (i := 55) rfl)))) (mvT hZ (hw _ (List.mem_of_getElem? (i := 55) rfl))) (mvT hZ (hw _ (List.mem_of_getElem? (i := 54) rfl))) (by decide) (backOf (W := 0) (rm8 l Z a0 hw [] b_45 (q3 + q4) T45.heap n0 Z45 qp45_6) hZ (hw _ (List.mem_of_getElem? (i := 56) rfl)) (hw _ (List.mem_of_getElem? (i := 2) rfl)) (by decide) (by decide)) q74a q74c (g := (mkF m 105 #[.val (.long q0), .second, .val (.long q1), .second, .val (.long q2), .second, .val (.long q3), .second, .val (.long q4), .second, .val (.long q5), .second, .val (.ref b1), .val (.ref b14), .val (.ref b_45)] [(.ref b_45)])) rfl (by rw [hml]; rfl) (Steps.refl _) (argsL := []) (rest := []) (lenOf pd0_2 rfl) rfl (by show 2 * 0 + _ ≤ _; exact Nat.le_of_eq rfl) (hb hby at_105) (fun _ _ => ⟨rfl, e71, (by decide : 3 + 0 ≤ _), (by decide : 24 + 0 ≤ _)⟩)
  dsimp only [Pt.U, Pt.locs, Pt.cells, Pt.slots] at X74 l74 y74 z74 st74 hQ74
  subst l74 y74 z74
  obtain ⟨rfl, N74q, e74⟩ := hQ74
  have N74 := Fr.app N71 N74q
  have go74 := go73.tr (C := T74.setTop (mkF m 108 #[.val (.long q0), .second, .val (.long q1), .second, .val (.long q2), .second, .val (.long q3), .second, .val (.long q4), .second, .val (.long q5), .second, .val (.ref b1), .val (.ref b14), .val (.ref b_45)] [(.long (q3 + q4))])) st74
  have go76 := go74.step (C := T74.setTop (mkF m 119 #[.val (.long q0), .second, .val (.long q1), .second, .val (.long q2), .second, .val (.long q3), .second, .val (.long q4), .second, .val (.long q5), .second, .val (.ref b1), .val (.ref b14), .val (.ref b_45)] [(.ref b_45)])) (fun t k => by
    show Steps p.tables e below (T74.setTop (mkF m 108 #[.val (.long q0), .second, .val (.long q1), .second, .val (.long q2), .second, .val (.long q3), .second, .val (.long q4), .second, .val (.long q5), .second, .val (.ref b1), .val (.ref b14), .val (.ref b_45)] [(.long (q3 + q4))])) _
    refine XS.lload X74.here hx rfl (hb hby at_108) rfl ?_
    show Steps p.tables e below (T74.setTop (mkF m 110 #[.val (.long q0), .second, .val (.long q1), .second, .val (.long q2), .second, .val (.long q3), .second, .val (.long q4), .second, .val (.long q5), .second, .val (.ref b1), .val (.ref b14), .val (.ref b_45)] [(.long q3), (.long (q3 + q4))])) _
    refine XS.lload X74.here hx rfl (hb hby at_110) rfl ?_
    show Steps p.tables e below (T74.setTop (mkF m 112 #[.val (.long q0), .second, .val (.long q1), .second, .val (.long q2), .second, .val (.long q3), .second, .val (.long q4), .second, .val (.long q5), .second, .val (.ref b1), .val (.ref b14), .val (.ref b_45)] [(.long q4), (.long q3), (.long (q3 + q4))])) _
    refine XS.ladd X74.here hx rfl (hb hby at_112) rfl ?_
    show Steps p.tables e below (T74.setTop (mkF m 113 #[.val (.long q0), .second, .val (.long q1), .second, .val (.long q2), .second, .val (.long q3), .second, .val (.long q4), .second, .val (.long q5), .second, .val (.ref b1), .val (.ref b14), .val (.ref b_45)] [(.long (q3 + q4)), (.long (q3 + q4))])) _
    refine XS.lcmp X74.here hx rfl (hb hby at_113) rfl ?_
    show Steps p.tables e below (T74.setTop (mkF m 114 #[.val (.long q0), .second, .val (.long q1), .second, .val (.long q2), .second, .val (.long q3), .second, .val (.long q4), .second, .val (.long q5), .second, .val (.ref b1), .val (.ref b14), .val (.ref b_45)] [(.int (lcmpW (q3 + q4) (q3 + q4)))])) _
    refine XS.ifNo X74.here hx rfl (hb hby at_114) rfl ((if0 _ _).trans (teq ((lw_eq _ _).mpr (rfl : (q3 + q4) = (q3 + q4)))).2) ?_
    show Steps p.tables e below (T74.setTop (mkF m 117 #[.val (.long q0), .second, .val (.long q1), .second, .val (.long q2), .second, .val (.long q3), .second, .val (.long q4), .second, .val (.long q5), .second, .val (.ref b1), .val (.ref b14), .val (.ref b_45)] [])) _
    refine XS.aload X74.here hx rfl (hb hby at_117) rfl rfl ?_
    exact k)
  obtain ⟨cq77, kq77, q77a, q77b, q77c⟩ := isOf hZ e74 qp45_2
  obtain ⟨_, _, ⟨T77, L77, k77, n77⟩, -, X77, ⟨Lc77, hQ77, l77, y77, z77⟩, st77⟩ := X74.virtualBack hx (y := (⟨"com/example/gridwire/gridwire/model/MapStatistics", "hits", "()J"⟩ : MethodName)) (z := (⟨"com/example/gridwire/gridwire/model/MapStatistics", "hits", "()J"⟩ : MethodName)) hown (mvT hZ (hw _ (List.mem_of_getElem? (i := 57) rfl))) (mvT hZ (hw _ (List.mem_of_getElem? (i := 58) rfl))) (notFace_of_selects (args := #[]) (mvT hZ (hw _ (List.mem_of_getElem? (i := 60) rfl)))) (mvT hZ (hw _ (List.mem_of_getElem? (i := 60) rfl))) (mvT hZ (hw _ (List.mem_of_getElem? (i := 59) rfl))) (by decide) (backOf (W := 0) (rm9 l Z a0 hw [] b_45 (q4 + q5) T45.heap n0 Z45 qp45_7) hZ (hw _ (List.mem_of_getElem? (i := 61) rfl)) (hw _ (List.mem_of_getElem? (i := 2) rfl)) (by decide) (by decide)) q77a q77c (g := (mkF m 119 #[.val (.long q0), .second, .val (.long q1), .second, .val (.long q2), .second, .val (.long q3), .second, .val (.long q4), .second, .val (.long q5), .second, .val (.ref b1), .val (.ref b14), .val (.ref b_45)] [(.ref b_45)])) rfl (by rw [hml]; rfl) (Steps.refl _) (argsL := []) (rest := []) (lenOf pd0_2 rfl) rfl (by show 2 * 0 + _ ≤ _; exact Nat.le_of_eq rfl) (hb hby at_119) (fun _ _ => ⟨rfl, e74, (by decide : 3 + 0 ≤ _), (by decide : 24 + 0 ≤ _)⟩)
  dsimp only [Pt.U, Pt.locs, Pt.cells, Pt.slots] at X77 l77 y77 z77 st77 hQ77
  subst l77 y77 z77
  obtain ⟨rfl, N77q, e77⟩ := hQ77
  have N77 := Fr.app N74 N77q
  have go77 := go76.tr (C := T77.setTop (mkF m 122 #[.val (.long q0), .second, .val (.long q1), .second, .val (.long q2), .second, .val (.long q3), .second, .val (.long q4), .second, .val (.long q5), .second, .val (.ref b1), .val (.ref b14), .val (.ref b_45)] [(.long (q4 + q5))])) st77
  have go79 := go77.step (C := T77.setTop (mkF m 133 #[.val (.long q0), .second, .val (.long q1), .second, .val (.long q2), .second, .val (.long q3), .second, .val (.long q4), .second, .val (.long q5), .second, .val (.ref b1), .val (.ref b14), .val (.ref b_45)] [(.ref b_45)])) (fun t k => by
    show Steps p.tables e below (T77.setTop (mkF m 122 #[.val (.long q0), .second, .val (.long q1), .second, .val (.long q2), .second, .val (.long q3), .second, .val (.long q4), .second, .val (.long q5), .second, .val (.ref b1), .val (.ref b14), .val (.ref b_45)] [(.long (q4 + q5))])) _
    refine XS.lload X77.here hx rfl (hb hby at_122) rfl ?_
    show Steps p.tables e below (T77.setTop (mkF m 124 #[.val (.long q0), .second, .val (.long q1), .second, .val (.long q2), .second, .val (.long q3), .second, .val (.long q4), .second, .val (.long q5), .second, .val (.ref b1), .val (.ref b14), .val (.ref b_45)] [(.long q4), (.long (q4 + q5))])) _
    refine XS.lload X77.here hx rfl (hb hby at_124) rfl ?_
    show Steps p.tables e below (T77.setTop (mkF m 126 #[.val (.long q0), .second, .val (.long q1), .second, .val (.long q2), .second, .val (.long q3), .second, .val (.long q4), .second, .val (.long q5), .second, .val (.ref b1), .val (.ref b14), .val (.ref b_45)] [(.long q5), (.long q4), (.long (q4 + q5))])) _
    refine XS.ladd X77.here hx rfl (hb hby at_126) rfl ?_
    show Steps p.tables e below (T77.setTop (mkF m 127 #[.val (.long q0), .second, .val (.long q1), .second, .val (.long q2), .second, .val (.long q3), .second, .val (.long q4), .second, .val (.long q5), .second, .val (.ref b1), .val (.ref b14), .val (.ref b_45)] [(.long (q4 + q5)), (.long (q4 + q5))])) _
    refine XS.lcmp X77.here hx rfl (hb hby at_127) rfl ?_
    show Steps p.tables e below (T77.setTop (mkF m 128 #[.val (.long q0), .second, .val (.long q1), .second, .val (.long q2), .second, .val (.long q3), .second, .val (.long q4), .second, .val (.long q5), .second, .val (.ref b1), .val (.ref b14), .val (.ref b_45)] [(.int (lcmpW (q4 + q5) (q4 + q5)))])) _
    refine XS.ifNo X77.here hx rfl (hb hby at_128) rfl ((if0 _ _).trans (teq ((lw_eq _ _).mpr (rfl : (q4 + q5) = (q4 + q5)))).2) ?_
    show Steps p.tables e below (T77.setTop (mkF m 131 #[.val (.long q0), .second, .val (.long q1), .second, .val (.long q2), .second, .val (.long q3), .second, .val (.long q4), .second, .val (.long q5), .second, .val (.ref b1), .val (.ref b14), .val (.ref b_45)] [])) _
    refine XS.aload X77.here hx rfl (hb hby at_131) rfl rfl ?_
    exact k)
  obtain ⟨cq80, kq80, q80a, q80b, q80c⟩ := isOf hZ e77 qp45_2
  obtain ⟨_, _, ⟨T80, L80, k80, n80⟩, -, X80, ⟨Lc80, hQ80, l80, y80, z80⟩, st80⟩ := X77.virtualBack hx (y := (⟨"com/example/gridwire/gridwire/model/MapStatistics", "misses", "()J"⟩ : MethodName)) (z := (⟨"com/example/gridwire/gridwire/model/MapStatistics", "misses", "()J"⟩ : MethodName)) hown (mvT hZ (hw _ (List.mem_of_getElem? (i := 62) rfl))) (mvT hZ (hw _ (List.mem_of_getElem? (i := 63) rfl))) (notFace_of_selects (args := #[]) (mvT hZ (hw _ (List.mem_of_getElem? (i := 65) rfl)))) (mvT hZ (hw _ (List.mem_of_getElem? (i := 65) rfl))) (mvT hZ (hw _ (List.mem_of_getElem? (i := 64) rfl))) (by decide) (backOf (W := 0) (rm10 l Z a0 hw [] b_45 (q5 + q0) T45.heap n0 Z45 qp45_8) hZ (hw _ (List.mem_of_getElem? (i := 66) rfl)) (hw _ (List.mem_of_getElem? (i := 2) rfl)) (by decide) (by decide)) q80a q80c (g := (mkF m 133 #[.val (.long q0), .second, .val (.long q1), .second, .val (.long q2), .second, .val (.long q3), .second, .val (.long q4), .second, .val (.long q5), .second, .val (.ref b1), .val (.ref b14), .val (.ref b_45)] [(.ref b_45)])) rfl (by rw [hml]; rfl) (Steps.refl _) (argsL := []) (rest := []) (lenOf pd0_2 rfl) rfl (by show 2 * 0 + _ ≤ _; exact Nat.le_of_eq rfl) (hb hby at_133) (fun _ _ => ⟨rfl, e77, (by decide : 3 + 0 ≤ _), (by decide : 24 + 0 ≤ _)⟩)
  dsimp only [Pt.U, Pt.locs, Pt.cells, Pt.slots] at X80 l80 y80 z80 st80 hQ80
  subst l80 y80 z80
  obtain ⟨rfl, N80q, e80⟩ := hQ80
  have N80 := Fr.app N77 N80q
  have go80 := go79.tr (C := T80.setTop (mkF m 136 #[.val (.long q0), .second, .val (.long q1), .second, .val (.long q2), .second, .val (.long q3), .second, .val (.long q4), .second, .val (.long q5), .second, .val (.ref b1), .val (.ref b14), .val (.ref b_45)] [(.long (q5 + q0))])) st80
  have go82 := go80.step (C := T80.setTop (mkF m 146 #[.val (.long q0), .second, .val (.long q1), .second, .val (.long q2), .second, .val (.long q3), .second, .val (.long q4), .second, .val (.long q5), .second, .val (.ref b1), .val (.ref b14), .val (.ref b_45)] [(.ref b_45)])) (fun t k => by
    show Steps p.tables e below (T80.setTop (mkF m 136 #[.val (.long q0), .second, .val (.long q1), .second, .val (.long q2), .second, .val (.long q3), .second, .val (.long q4), .second, .val (.long q5), .second, .val (.ref b1), .val (.ref b14), .val (.ref b_45)] [(.long (q5 + q0))])) _
    refine XS.lload X80.here hx rfl (hb hby at_136) rfl ?_
    show Steps p.tables e below (T80.setTop (mkF m 138 #[.val (.long q0), .second, .val (.long q1), .second, .val (.long q2), .second, .val (.long q3), .second, .val (.long q4), .second, .val (.long q5), .second, .val (.ref b1), .val (.ref b14), .val (.ref b_45)] [(.long q5), (.long (q5 + q0))])) _
    refine XS.lloadN X80.here hx rfl (hb hby at_138) rfl ?_
    show Steps p.tables e below (T80.setTop (mkF m 139 #[.val (.long q0), .second, .val (.long q1), .second, .val (.long q2), .second, .val (.long q3), .second, .val (.long q4), .second, .val (.long q5), .second, .val (.ref b1), .val (.ref b14), .val (.ref b_45)] [(.long q0), (.long q5), (.long (q5 + q0))])) _
    refine XS.ladd X80.here hx rfl (hb hby at_139) rfl ?_
    show Steps p.tables e below (T80.setTop (mkF m 140 #[.val (.long q0), .second, .val (.long q1), .second, .val (.long q2), .second, .val (.long q3), .second, .val (.long q4), .second, .val (.long q5), .second, .val (.ref b1), .val (.ref b14), .val (.ref b_45)] [(.long (q5 + q0)), (.long (q5 + q0))])) _
    refine XS.lcmp X80.here hx rfl (hb hby at_140) rfl ?_
    show Steps p.tables e below (T80.setTop (mkF m 141 #[.val (.long q0), .second, .val (.long q1), .second, .val (.long q2), .second, .val (.long q3), .second, .val (.long q4), .second, .val (.long q5), .second, .val (.ref b1), .val (.ref b14), .val (.ref b_45)] [(.int (lcmpW (q5 + q0) (q5 + q0)))])) _
    refine XS.ifNo X80.here hx rfl (hb hby at_141) rfl ((if0 _ _).trans (teq ((lw_eq _ _).mpr (rfl : (q5 + q0) = (q5 + q0)))).2) ?_
    show Steps p.tables e below (T80.setTop (mkF m 144 #[.val (.long q0), .second, .val (.long q1), .second, .val (.long q2), .second, .val (.long q3), .second, .val (.long q4), .second, .val (.long q5), .second, .val (.ref b1), .val (.ref b14), .val (.ref b_45)] [])) _
    refine XS.aload X80.here hx rfl (hb hby at_144) rfl rfl ?_
    exact k)
  obtain ⟨cq83, kq83, q83a, q83b, q83c⟩ := isOf hZ e80 qp45_2
  obtain ⟨_, _, ⟨T83, L83, k83, n83⟩, -, X83, ⟨Lc83, hQ83, l83, y83, z83⟩, st83⟩ := X80.virtualBack hx (y := (⟨"com/example/gridwire/gridwire/model/MapStatistics", "removeHits", "()J"⟩ : MethodName)) (z := (⟨"com/example/gridwire/gridwire/model/MapStatistics", "removeHits", "()J"⟩ : MethodName)) hown (mvT hZ (hw _ (List.mem_of_getElem? (i := 67) rfl))) (mvT hZ (hw _ (List.mem_of_getElem? (i := 68) rfl))) (notFace_of_selects (args := #[]) (mvT hZ (hw _ (List.mem_of_getElem? (i := 70) rfl)))) (mvT hZ (hw _ (List.mem_of_getElem? (i := 70) rfl))) (mvT hZ (hw _ (List.mem_of_getElem? (i := 69) rfl))) (by decide) (backOf (W := 0) (rm11 l Z a0 hw [] b_45 ((q0 ^^^ q5) + (q0 ^^^ q2)) T45.heap n0 Z45 qp45_9) hZ (hw _ (List.mem_of_getElem? (i := 71) rfl)) (hw _ (List.mem_of_getElem? (i := 2) rfl)) (by decide) (by decide)) q83a q83c (g := (mkF m 146 #[.val (.long q0), .second, .val (.long q1), .second, .val (.long q2), .second, .val (.long q3), .second, .val (.long q4), .second, .val (.long q5), .second, .val (.ref b1), .val (.ref b14), .val (.ref b_45)] [(.ref b_45)])) rfl (by rw [hml]; rfl) (Steps.refl _) (argsL := []) (rest := []) (lenOf pd0_2 rfl) rfl (by show 2 * 0 + _ ≤ _; exact Nat.le_of_eq rfl) (hb hby at_146) (fun _ _ => ⟨rfl, e80, (by decide : 3 + 0 ≤ _), (by decide : 24 + 0 ≤ _)⟩)
  dsimp only [Pt.U, Pt.locs, Pt.cells, Pt.slots] at X83 l83 y83 z83 st83 hQ83
  subst l83 y83 z83
  obtain ⟨rfl, N83q, e83⟩ := hQ83
  have N83 := Fr.app N80 N83q
  have go83 := go82.tr (C := T83.setTop (mkF m 149 #[.val (.long q0), .second, .val (.long q1), .second, .val (.long q2), .second, .val (.long q3), .second, .val (.long q4), .second, .val (.long q5), .second, .val (.ref b1), .val (.ref b14), .val (.ref b_45)] [(.long ((q0 ^^^ q5) + (q0 ^^^ q2)))])) st83
  have go85 := go83.step (C := T83.setTop (mkF m 164 #[.val (.long q0), .second, .val (.long q1), .second, .val (.long q2), .second, .val (.long q3), .second, .val (.long q4), .second, .val (.long q5), .second, .val (.ref b1), .val (.ref b14), .val (.ref b_45)] [(.ref b_45)])) (fun t k => by
    show Steps p.tables e below (T83.setTop (mkF m 149 #[.val (.long q0), .second, .val (.long q1), .second, .val (.long q2), .second, .val (.long q3), .second, .val (.long q4), .second, .val (.long q5), .second, .val (.ref b1), .val (.ref b14), .val (.ref b_45)] [(.long ((q0 ^^^ q5) + (q0 ^^^ q2)))])) _
    refine XS.lloadN X83.here hx rfl (hb hby at_149) rfl ?_
    show Steps p.tables e below (T83.setTop (mkF m 150 #[.val (.long q0), .second, .val (.long q1), .second, .val (.long q2), .second, .val (.long q3), .second, .val (.long q4), .second, .val (.long q5), .second, .val (.ref b1), .val (.ref b14), .val (.ref b_45)] [(.long q0), (.long ((q0 ^^^ q5) + (q0 ^^^ q2)))])) _
    refine XS.lload X83.here hx rfl (hb hby at_150) rfl ?_
    show Steps p.tables e below (T83.setTop (mkF m 152 #[.val (.long q0), .second, .val (.long q1), .second, .val (.long q2), .second, .val (.long q3), .second, .val (.long q4), .second, .val (.long q5), .second, .val (.ref b1), .val (.ref b14), .val (.ref b_45)] [(.long q5), (.long q0), (.long ((q0 ^^^ q5) + (q0 ^^^ q2)))])) _
    refine XS.lxor X83.here hx rfl (hb hby at_152) rfl ?_
    show Steps p.tables e below (T83.setTop (mkF m 153 #[.val (.long q0), .second, .val (.long q1), .second, .val (.long q2), .second, .val (.long q3), .second, .val (.long q4), .second, .val (.long q5), .second, .val (.ref b1), .val (.ref b14), .val (.ref b_45)] [(.long (q0 ^^^ q5)), (.long ((q0 ^^^ q5) + (q0 ^^^ q2)))])) _
    refine XS.lloadN X83.here hx rfl (hb hby at_153) rfl ?_
    show Steps p.tables e below (T83.setTop (mkF m 154 #[.val (.long q0), .second, .val (.long q1), .second, .val (.long q2), .second, .val (.long q3), .second, .val (.long q4), .second, .val (.long q5), .second, .val (.ref b1), .val (.ref b14), .val (.ref b_45)] [(.long q0), (.long (q0 ^^^ q5)), (.long ((q0 ^^^ q5) + (q0 ^^^ q2)))])) _
    refine XS.lload X83.here hx rfl (hb hby at_154) rfl ?_
    show Steps p.tables e below (T83.setTop (mkF m 156 #[.val (.long q0), .second, .val (.long q1), .second, .val (.long q2), .second, .val (.long q3), .second, .val (.long q4), .second, .val (.long q5), .second, .val (.ref b1), .val (.ref b14), .val (.ref b_45)] [(.long q2), (.long q0), (.long (q0 ^^^ q5)), (.long ((q0 ^^^ q5) + (q0 ^^^ q2)))])) _
    refine XS.lxor X83.here hx rfl (hb hby at_156) rfl ?_
    show Steps p.tables e below (T83.setTop (mkF m 157 #[.val (.long q0), .second, .val (.long q1), .second, .val (.long q2), .second, .val (.long q3), .second, .val (.long q4), .second, .val (.long q5), .second, .val (.ref b1), .val (.ref b14), .val (.ref b_45)] [(.long (q0 ^^^ q2)), (.long (q0 ^^^ q5)), (.long ((q0 ^^^ q5) + (q0 ^^^ q2)))])) _
    refine XS.ladd X83.here hx rfl (hb hby at_157) rfl ?_
    show Steps p.tables e below (T83.setTop (mkF m 158 #[.val (.long q0), .second, .val (.long q1), .second, .val (.long q2), .second, .val (.long q3), .second, .val (.long q4), .second, .val (.long q5), .second, .val (.ref b1), .val (.ref b14), .val (.ref b_45)] [(.long ((q0 ^^^ q5) + (q0 ^^^ q2))), (.long ((q0 ^^^ q5) + (q0 ^^^ q2)))])) _
    refine XS.lcmp X83.here hx rfl (hb hby at_158) rfl ?_
    show Steps p.tables e below (T83.setTop (mkF m 159 #[.val (.long q0), .second, .val (.long q1), .second, .val (.long q2), .second, .val (.long q3), .second, .val (.long q4), .second, .val (.long q5), .second, .val (.ref b1), .val (.ref b14), .val (.ref b_45)] [(.int (lcmpW ((q0 ^^^ q5) + (q0 ^^^ q2)) ((q0 ^^^ q5) + (q0 ^^^ q2))))])) _
    refine XS.ifNo X83.here hx rfl (hb hby at_159) rfl ((if0 _ _).trans (teq ((lw_eq _ _).mpr (rfl : ((q0 ^^^ q5) + (q0 ^^^ q2)) = ((q0 ^^^ q5) + (q0 ^^^ q2))))).2) ?_
    show Steps p.tables e below (T83.setTop (mkF m 162 #[.val (.long q0), .second, .val (.long q1), .second, .val (.long q2), .second, .val (.long q3), .second, .val (.long q4), .second, .val (.long q5), .second, .val (.ref b1), .val (.ref b14), .val (.ref b_45)] [])) _
    refine XS.aload X83.here hx rfl (hb hby at_162) rfl rfl ?_
    exact k)
  obtain ⟨cq86, kq86, q86a, q86b, q86c⟩ := isOf hZ e83 qp45_2
  obtain ⟨_, _, ⟨T86, L86, k86, n86⟩, -, X86, ⟨Lc86, hQ86, l86, y86, z86⟩, st86⟩ := X83.virtualBack hx (y := (⟨"com/example/gridwire/gridwire/model/MapStatistics", "removeMisses", "()J"⟩ : MethodName)) (z := (⟨"com/example/gridwire/gridwire/model/MapStatistics", "removeMisses", "()J"⟩ : MethodName)) hown (mvT hZ (hw _ (List.mem_of_getElem? (i := 72) rfl))) (mvT hZ (hw _ (List.mem_of_getElem? (i := 73) rfl))) (notFace_of_selects (args := #[]) (mvT hZ (hw _ (List.mem_of_getElem? (i := 75) rfl)))) (mvT hZ (hw _ (List.mem_of_getElem? (i := 75) rfl))) (mvT hZ (hw _ (List.mem_of_getElem? (i := 74) rfl))) (by decide) (backOf (W := 0) (rm12 l Z a0 hw [] b_45 ((q1 ^^^ q4) + (q3 ^^^ q5)) T45.heap n0 Z45 qp45_10) hZ (hw _ (List.mem_of_getElem? (i := 76) rfl)) (hw _ (List.mem_of_getElem? (i := 2) rfl)) (by decide) (by decide)) q86a q86c (g := (mkF m 164 #[.val (.long q0), .second, .val (.long q1), .second, .val (.long q2), .second, .val (.long q3), .second, .val (.long q4), .second, .val (.long q5), .second, .val (.ref b1), .val (.ref b14), .val (.ref b_45)] [(.ref b_45)])) rfl (by rw [hml]; rfl) (Steps.refl _) (argsL := []) (rest := []) (lenOf pd0_2 rfl) rfl (by show 2 * 0 + _ ≤ _; exact Nat.le_of_eq rfl) (hb hby at_164) (fun _ _ => ⟨rfl, e83, (by decide : 3 + 0 ≤ _), (by decide : 24 + 0 ≤ _)⟩)
  dsimp only [Pt.U, Pt.locs, Pt.cells, Pt.slots] at X86 l86 y86 z86 st86 hQ86
  subst l86 y86 z86
  obtain ⟨rfl, N86q, e86⟩ := hQ86
  have N86 := Fr.app N83 N86q
  have go86 := go85.tr (C := T86.setTop (mkF m 167 #[.val (.long q0), .second, .val (.long q1), .second, .val (.long q2), .second, .val (.long q3), .second, .val (.long q4), .second, .val (.long q5), .second, .val (.ref b1), .val (.ref b14), .val (.ref b_45)] [(.long ((q1 ^^^ q4) + (q3 ^^^ q5)))])) st86
  have go88 := go86.step (C := T86.setTop (mkF m 186 #[.val (.long q0), .second, .val (.long q1), .second, .val (.long q2), .second, .val (.long q3), .second, .val (.long q4), .second, .val (.long q5), .second, .val (.ref b1), .val (.ref b14), .val (.ref b_45)] [(.int (1 : Int32))])) (fun t k => by
    show Steps p.tables e below (T86.setTop (mkF m 167 #[.val (.long q0), .second, .val (.long q1), .second, .val (.long q2), .second, .val (.long q3), .second, .val (.long q4), .second, .val (.long q5), .second, .val (.ref b1), .val (.ref b14), .val (.ref b_45)] [(.long ((q1 ^^^ q4) + (q3 ^^^ q5)))])) _
    refine XS.lloadN X86.here hx rfl (hb hby at_167) rfl ?_
    show Steps p.tables e below (T86.setTop (mkF m 168 #[.val (.long q0), .second, .val (.long q1), .second, .val (.long q2), .second, .val (.long q3), .second, .val (.long q4), .second, .val (.long q5), .second, .val (.ref b1), .val (.ref b14), .val (.ref b_45)] [(.long q1), (.long ((q1 ^^^ q4) + (q3 ^^^ q5)))])) _
    refine XS.lload X86.here hx rfl (hb hby at_168) rfl ?_
    show Steps p.tables e below (T86.setTop (mkF m 170 #[.val (.long q0), .second, .val (.long q1), .second, .val (.long q2), .second, .val (.long q3), .second, .val (.long q4), .second, .val (.long q5), .second, .val (.ref b1), .val (.ref b14), .val (.ref b_45)] [(.long q4), (.long q1), (.long ((q1 ^^^ q4) + (q3 ^^^ q5)))])) _
    refine XS.lxor X86.here hx rfl (hb hby at_170) rfl ?_
    show Steps p.tables e below (T86.setTop (mkF m 171 #[.val (.long q0), .second, .val (.long q1), .second, .val (.long q2), .second, .val (.long q3), .second, .val (.long q4), .second, .val (.long q5), .second, .val (.ref b1), .val (.ref b14), .val (.ref b_45)] [(.long (q1 ^^^ q4)), (.long ((q1 ^^^ q4) + (q3 ^^^ q5)))])) _
    refine XS.lload X86.here hx rfl (hb hby at_171) rfl ?_
    show Steps p.tables e below (T86.setTop (mkF m 173 #[.val (.long q0), .second, .val (.long q1), .second, .val (.long q2), .second, .val (.long q3), .second, .val (.long q4), .second, .val (.long q5), .second, .val (.ref b1), .val (.ref b14), .val (.ref b_45)] [(.long q3), (.long (q1 ^^^ q4)), (.long ((q1 ^^^ q4) + (q3 ^^^ q5)))])) _
    refine XS.lload X86.here hx rfl (hb hby at_173) rfl ?_
    show Steps p.tables e below (T86.setTop (mkF m 175 #[.val (.long q0), .second, .val (.long q1), .second, .val (.long q2), .second, .val (.long q3), .second, .val (.long q4), .second, .val (.long q5), .second, .val (.ref b1), .val (.ref b14), .val (.ref b_45)] [(.long q5), (.long q3), (.long (q1 ^^^ q4)), (.long ((q1 ^^^ q4) + (q3 ^^^ q5)))])) _
    refine XS.lxor X86.here hx rfl (hb hby at_175) rfl ?_
    show Steps p.tables e below (T86.setTop (mkF m 176 #[.val (.long q0), .second, .val (.long q1), .second, .val (.long q2), .second, .val (.long q3), .second, .val (.long q4), .second, .val (.long q5), .second, .val (.ref b1), .val (.ref b14), .val (.ref b_45)] [(.long (q3 ^^^ q5)), (.long (q1 ^^^ q4)), (.long ((q1 ^^^ q4) + (q3 ^^^ q5)))])) _
    refine XS.ladd X86.here hx rfl (hb hby at_176) rfl ?_
    show Steps p.tables e below (T86.setTop (mkF m 177 #[.val (.long q0), .second, .val (.long q1), .second, .val (.long q2), .second, .val (.long q3), .second, .val (.long q4), .second, .val (.long q5), .second, .val (.ref b1), .val (.ref b14), .val (.ref b_45)] [(.long ((q1 ^^^ q4) + (q3 ^^^ q5))), (.long ((q1 ^^^ q4) + (q3 ^^^ q5)))])) _
    refine XS.lcmp X86.here hx rfl (hb hby at_177) rfl ?_
    show Steps p.tables e below (T86.setTop (mkF m 178 #[.val (.long q0), .second, .val (.long q1), .second, .val (.long q2), .second, .val (.long q3), .second, .val (.long q4), .second, .val (.long q5), .second, .val (.ref b1), .val (.ref b14), .val (.ref b_45)] [(.int (lcmpW ((q1 ^^^ q4) + (q3 ^^^ q5)) ((q1 ^^^ q4) + (q3 ^^^ q5))))])) _
    refine XS.ifNo X86.here hx rfl (hb hby at_178) rfl ((if0 _ _).trans (teq ((lw_eq _ _).mpr (rfl : ((q1 ^^^ q4) + (q3 ^^^ q5)) = ((q1 ^^^ q4) + (q3 ^^^ q5))))).2) ?_
    show Steps p.tables e below (T86.setTop (mkF m 181 #[.val (.long q0), .second, .val (.long q1), .second, .val (.long q2), .second, .val (.long q3), .second, .val (.long q4), .second, .val (.long q5), .second, .val (.ref b1), .val (.ref b14), .val (.ref b_45)] [])) _
    refine XS.iconst X86.here hx rfl (hb hby at_181) ?_
    show Steps p.tables e below (T86.setTop (mkF m 182 #[.val (.long q0), .second, .val (.long q1), .second, .val (.long q2), .second, .val (.long q3), .second, .val (.long q4), .second, .val (.long q5), .second, .val (.ref b1), .val (.ref b14), .val (.ref b_45)] [(.int (1 : Int32))])) _
    refine XS.goto X86.here hx rfl (pc0 := 182) (pc' := 186) rfl (hb hby at_182) (by decide) (by decide) ?_
    exact k)
  obtain ⟨fs, hr, hrun, hended, hW, hsame⟩ := X86.leave (v := some (.int (1 : Int32))) (fun h => by rw [Bd.returns] at h; cases h)
  refine ⟨_, _, go88 _ ?_, hrun, hended, _, _, rfl, ?_, ⟨_, rfl⟩, hW, hsame.mono (by decide) (by decide)⟩
  · exact retN X86 hx (t := .boolean) Bd.returns (by simp) (hb hby at_186) hr
  · show Q_rm0 Z q0 q1 q2 q3 q4 q5 h0 n0 _ T86.heap _
    rw [e86]
    exact ⟨rfl, N86⟩
set_option maxRecDepth 65536 in
set_option maxHeartbeats 40000000 in
theorem comes_1 {Post : Tables → Env → Array Value → State → Outcome → State → Prop} (hpost : ∀ tb e args s v u, (limb_1_1.after args s (.returned v) u = true ∧ limb_1_2.after args s (.returned v) u = true ∧ True) → FrameEnd s (.returned v) u (Jvm.fieldLocs frame_1_writes args s ++ Jvm.arrayLocs frame_1_arrays args s ++ Jvm.staticLocs frame_1_statics s) 16 128 → Post tb e args s (.returned v) u) :
    ArmFor flags0 classFile x code maxLocals ret World_1 tables_1 room_1 Calls_1 rest_1 Pre_1 Post := by
  intro l hfl _ _ p e ha hc hk s m args below hf hA hF happ hP
  obtain ⟨hcalls, hrest, hpre⟩ := hP
  obtain ⟨-, -, -, hnamed, -, -, -, hat⟩ := (Spec.applies_iff hf).mp happ
  obtain ⟨hg, hn⟩ := and_e (Cond.before_iff.mp (show (Jvm.Cond.and given_1 narrow_1).before args s = true from hpre))
  obtain ⟨gg0, gr0⟩ := and_e hg
  obtain ⟨gg1, gr1⟩ := and_e gr0
  obtain ⟨gg2, gr2⟩ := and_e gr1
  obtain ⟨gg3, gr3⟩ := and_e gr2
  obtain ⟨gg4, gr4⟩ := and_e gr3
  obtain ⟨gg5, gr5⟩ := and_e gr4
  obtain ⟨w0, w1, w2, w3, w4, w5, rfl⟩ : ∃ w0 w1 w2 w3 w4 w5 : Value, args = #[w0, w1, w2, w3, w4, w5] := by
    have hs : args.size = 6 := by simpa [Cond.value, given_1] using gg0
    obtain ⟨L⟩ := args
    match L, hs with
    | [w0, w1, w2, w3, w4, w5], _ => exact ⟨w0, w1, w2, w3, w4, w5, rfl⟩
  have hw := fun d (hd : d ∈ tables_1) => atoms_spec (ws := Jvm.Cond.code x code maxLocals ret :: tables_1) hat d (List.mem_cons_of_mem _ hd)
  have hfit : Fit s := fun {y c} hc i hi => by
    obtain ⟨ha, rfl⟩ := Array.getElem?_eq_some_iff.mp hc
    have q := List.all_eq_true.mp ((Array.all_eq_true_iff_forall_mem.mp hF) _ (Array.getElem_mem ha)) i (List.mem_range.mpr hi)
    simpa [Array.getElem?_eq_getElem hi] using q
  obtain ⟨i0, ei0⟩ := isL_v gg1
  obtain rfl : w0 = (.long i0) := Option.some.inj ei0
  obtain ⟨i1, ei1⟩ := isL_v gg2
  obtain rfl : w1 = (.long i1) := Option.some.inj ei1
  obtain ⟨i2, ei2⟩ := isL_v gg3
  obtain rfl : w2 = (.long i2) := Option.some.inj ei2
  obtain ⟨i3, ei3⟩ := isL_v gg4
  obtain rfl : w3 = (.long i3) := Option.some.inj ei3
  obtain ⟨i4, ei4⟩ := isL_v gg5
  obtain rfl : w4 = (.long i4) := Option.some.inj ei4
  obtain ⟨i5, ei5⟩ := isL_v gr5
  obtain rfl : w5 = (.long i5) := Option.some.inj ei5
  obtain ⟨n, o, h1, h2, h3, _, L, rfl, ⟨rfl, N⟩, hq⟩ := rm0 l s _ hw tables_1 i0 i1 i2 i3 i4 i5  s.heap s.heap.size (Nat.le_refl _)  p e ha hc hk s m _ below hf ((Spec.applies_iff_loose hf).mp happ).1 ⟨rfl, State.Warmed39.refl s, rfl⟩ trivial
  refine ⟨n, _, h1, h2, h3, hpost _ _ _ _ _ _ ⟨Cond.after_iff.mpr rfl, Cond.after_iff.mpr (eq_i res_at (Term.int_eval (1)) rfl), trivial⟩ ⟨hq.1, hq.2.1, (hq.2.2.sift fun y hy => Or.inr (N y hy)).mono (by decide) (by decide)⟩⟩
theorem main_1_1 : Claimed_1_1 := comes_1 fun _ _ _ _ _ _ h hF => ⟨h.1, hF⟩
theorem main_1_2 : Claimed_1_2 := comes_1 fun _ _ _ _ _ _ h hF => ⟨h.2.1, hF⟩
end Jvm.Pilot.@@N@@
namespace Jvm.Pilot.@@N@@
open Jvm Jvm.ClassFile Sem Op Lib Jvm.Free Jvm.Stand Jvm.Pilot.@@N@@.Jvm.D
/-! MADE BY PROGRAM (witnessworld.py) out of the Statement's table words and the real class files: 8 classes; the members and pool entries that the words name. The judged class is class 1, her method 1. -/
namespace start1
open Jvm.ClassFile
def u (s : String) : CpInfo := .utf8 (stringToUtf16 s)
/-- a pool by its gaps: so many unusable entries, then the entry; so many at the end -/
def gap : Nat → List CpInfo → List CpInfo
  | 0, r => r
  | n + 1, r => .unusable :: gap n r
def poolList (es : List (Nat × CpInfo)) (last : Nat) : List CpInfo := es.foldr (fun e r => gap e.1 (e.2 :: r)) (gap last [])
def pool (es : List (Nat × CpInfo)) (last : Nat) : Array CpInfo := ⟨poolList es last⟩
def fileOf (pool : Array CpInfo) (this : Nat) (attrs : Array Attribute := #[]) (ms : Array MethodInfo := #[]) (fl : Nat := 33) (sup : Nat := 0) (ifs : Array Nat := #[]) (fds : Array FieldInfo := #[]) : ClassFile where
  minorVersion := 0
  majorVersion := 65
  constantPool := pool
  accessFlags := fl
  thisClass := this
  superClass := sup
  interfaces := ifs
  fields := fds
  methods := ms
  attributes := attrs
def plain (name : String) (sup : Option ClassId) : Class where
  name := name
  kind := .ordinary
  loader := none
  accessFlags := 33
  super := sup
  interfaces := #[]
  cf := none
  fields := #[]
  methods := #[]
  instanceTypes := #[]
  staticTypes := #[]
  resolved := #[]
  callSites := []
  init := .initialized
  statics := none
  mirror := none

def pool0 : Array CpInfo := pool [(5, u "<init>"), (0, u "()V"), (1, .class_ 10), (1, u "java/lang/Object")] 113

def k0c0 : Code := { maxStack := 0, maxLocals := 1, code := object_method_1_code, exceptionTable := #[], attributes := #[] }
def k0m0 : Method := { name := "<init>", desc := "()V", sig := { parameters := [], returnType := none }, accessFlags := 1, code := some k0c0 }
/-- java/lang/Object -/
def k0 : Class := { plain "java/lang/Object" none with
  accessFlags := 33
  interfaces := #[]
  cf := some (fileOf pool0 8 #[] #[{ accessFlags := 1, nameIndex := 5, descriptorIndex := 6, attributes := #[] }] 33 0 #[] #[])
  fields := #[]
  methods := #[k0m0]
  instanceTypes := #[]
  staticTypes := #[]
  resolved := Array.replicate 124 none
  statics := none }

def pool1 : Array CpInfo := pool [(2, .class_ 4), (1, u "java/lang/Object"), (0, u "<init>"), (0, u "()V"), (0, .class_ 8), (0, u "com/example/gridwire/gridwire/model/MapStatistics"), (0, .methodref 7 10), (0, .nameAndType 5 11), (0, u "(JJJJJJJJ)V"), (0, .methodref 7 13), (0, .nameAndType 14 15), (0, u "plus"), (0, u "(Lcom/example/gridwire/gridwire/model/MapStatistics;)Lcom/example/gridwire/gridwire/model/MapStatistics;"), (0, .methodref 7 17), (0, .nameAndType 18 19), (0, u "currentEntries"), (0, u "()J"), (0, .methodref 7 21), (0, .nameAndType 22 19), (0, u "totalEntries"), (0, .methodref 7 24), (0, .nameAndType 25 19), (0, u "stores"), (0, .methodref 7 27), (0, .nameAndType 28 19), (0, u "retrievals"), (0, .methodref 7 30), (0, .nameAndType 31 19), (0, u "hits"), (0, .methodref 7 33), (0, .nameAndType 34 19), (0, u "misses"), (0, .methodref 7 36), (0, .nameAndType 37 19), (0, u "removeHits"), (0, .methodref 7 39), (0, .nameAndType 40 19), (0, u "removeMisses"), (0, .class_ 42), (0, u "com/example/gridwire/gridwire/model/MapStatisticsPlusPinLaw"), (2, u "law"), (0, u "(JJJJJJ)Z")] 3

def k1m0 : Method := { name := "<init>", desc := "()V", sig := { parameters := [], returnType := none }, accessFlags := 1, code := none }
def k1c1 : Code := { maxStack := 20, maxLocals := 15, code := code, exceptionTable := #[], attributes := #[] }
def k1m1 : Method := { name := "law", desc := "(JJJJJJ)Z", sig := { parameters := [.long, .long, .long, .long, .long, .long], returnType := some .boolean }, accessFlags := 9, code := some k1c1 }
/-- com/example/gridwire/gridwire/model/MapStatisticsPlusPinLaw -/
def k1 : Class := { plain "com/example/gridwire/gridwire/model/MapStatisticsPlusPinLaw" (some 0) with
  accessFlags := 49
  interfaces := #[]
  cf := some (fileOf pool1 41 #[] #[{ accessFlags := 1, nameIndex := 5, descriptorIndex := 6, attributes := #[] }, { accessFlags := 9, nameIndex := 45, descriptorIndex := 46, attributes := #[] }] 49 2 #[] #[])
  fields := #[]
  methods := #[k1m0, k1m1]
  instanceTypes := #[]
  staticTypes := #[]
  resolved := Array.replicate 50 none
  statics := none }

def pool2 : Array CpInfo := pool [(1, .methodref 2 3), (0, .class_ 4), (0, .nameAndType 5 6), (0, u "java/lang/Object"), (0, u "<init>"), (0, u "()V"), (0, .class_ 8), (0, u "java/lang/Record")] 13

def k2c0 : Code := { maxStack := 1, maxLocals := 1, code := jdk_30_method_1_code, exceptionTable := #[], attributes := #[] }
def k2m0 : Method := { name := "<init>", desc := "()V", sig := { parameters := [], returnType := none }, accessFlags := 4, code := some k2c0 }
/-- java/lang/Record -/
def k2 : Class := { plain "java/lang/Record" (some 0) with
  accessFlags := 1057
  interfaces := #[]
  cf := some (fileOf pool2 7 #[] #[{ accessFlags := 4, nameIndex := 5, descriptorIndex := 6, attributes := #[] }] 1057 2 #[] #[])
  fields := #[]
  methods := #[k2m0]
  instanceTypes := #[]
  staticTypes := #[]
  resolved := Array.replicate 22 none
  statics := none }

def pool3 : Array CpInfo := pool [(1, .methodref 2 3), (0, .class_ 4), (0, .nameAndType 5 6), (0, u "java/lang/Record"), (0, u "<init>"), (0, u "()V"), (0, .fieldref 8 9), (0, .class_ 10), (0, .nameAndType 11 12), (0, u "com/example/gridwire/gridwire/model/MapStatistics"), (0, u "currentEntries"), (0, u "J"), (0, .fieldref 8 14), (0, .nameAndType 15 12), (0, u "totalEntries"), (0, .fieldref 8 17), (0, .nameAndType 18 12), (0, u "stores"), (0, .fieldref 8 20), (0, .nameAndType 21 12), (0, u "retrievals"), (0, .fieldref 8 23), (0, .nameAndType 24 12), (0, u "hits"), (0, .fieldref 8 26), (0, .nameAndType 27 12), (0, u "misses"), (0, .fieldref 8 29), (0, .nameAndType 30 12), (0, u "removeHits"), (0, .fieldref 8 32), (0, .nameAndType 33 12), (0, u "removeMisses"), (0, .methodref 8 35), (0, .nameAndType 5 36), (0, u "(JJJJJJJJ)V"), (14, u "NONE"), (0, u "Lcom/example/gridwire/gridwire/model/MapStatistics;"), (3, u "plus"), (0, u "(Lcom/example/gridwire/gridwire/model/MapStatistics;)Lcom/example/gridwire/gridwire/model/MapStatistics;"), (3, u "()J")] 28

def k3c0 : Code := { maxStack := 3, maxLocals := 17, code := prog_23_method_1_code, exceptionTable := #[], attributes := #[] }
def k3m0 : Method := { name := "<init>", desc := "(JJJJJJJJ)V", sig := { parameters := [.long, .long, .long, .long, .long, .long, .long, .long], returnType := none }, accessFlags := 1, code := some k3c0 }
def k3c1 : Code := { maxStack := 20, maxLocals := 2, code := prog_23_method_2_code, exceptionTable := #[], attributes := #[] }
def k3m1 : Method := { name := "plus", desc := "(Lcom/example/gridwire/gridwire/model/MapStatistics;)Lcom/example/gridwire/gridwire/model/MapStatistics;", sig := { parameters := [(.object "com/example/gridwire/gridwire/model/MapStatistics")], returnType := some (.object "com/example/gridwire/gridwire/model/MapStatistics") }, accessFlags := 1, code := some k3c1 }
def k3c2 : Code := { maxStack := 2, maxLocals := 1, code := prog_23_method_6_code, exceptionTable := #[], attributes := #[] }
def k3m2 : Method := { name := "currentEntries", desc := "()J", sig := { parameters := [], returnType := some .long }, accessFlags := 1, code := some k3c2 }
def k3c3 : Code := { maxStack := 2, maxLocals := 1, code := prog_23_method_7_code, exceptionTable := #[], attributes := #[] }
def k3m3 : Method := { name := "totalEntries", desc := "()J", sig := { parameters := [], returnType := some .long }, accessFlags := 1, code := some k3c3 }
def k3c4 : Code := { maxStack := 2, maxLocals := 1, code := prog_23_method_8_code, exceptionTable := #[], attributes := #[] }
def k3m4 : Method := { name := "stores", desc := "()J", sig := { parameters := [], returnType := some .long }, accessFlags := 1, code := some k3c4 }
def k3c5 : Code := { maxStack := 2, maxLocals := 1, code := prog_23_method_9_code, exceptionTable := #[], attributes := #[] }
def k3m5 : Method := { name := "retrievals", desc := "()J", sig := { parameters := [], returnType := some .long }, accessFlags := 1, code := some k3c5 }
def k3c6 : Code := { maxStack := 2, maxLocals := 1, code := prog_23_method_10_code, exceptionTable := #[], attributes := #[] }
def k3m6 : Method := { name := "hits", desc := "()J", sig := { parameters := [], returnType := some .long }, accessFlags := 1, code := some k3c6 }
def k3c7 : Code := { maxStack := 2, maxLocals := 1, code := prog_23_method_11_code, exceptionTable := #[], attributes := #[] }
def k3m7 : Method := { name := "misses", desc := "()J", sig := { parameters := [], returnType := some .long }, accessFlags := 1, code := some k3c7 }
def k3c8 : Code := { maxStack := 2, maxLocals := 1, code := prog_23_method_12_code, exceptionTable := #[], attributes := #[] }
def k3m8 : Method := { name := "removeHits", desc := "()J", sig := { parameters := [], returnType := some .long }, accessFlags := 1, code := some k3c8 }
def k3c9 : Code := { maxStack := 2, maxLocals := 1, code := prog_23_method_13_code, exceptionTable := #[], attributes := #[] }
def k3m9 : Method := { name := "removeMisses", desc := "()J", sig := { parameters := [], returnType := some .long }, accessFlags := 1, code := some k3c9 }
/-- com/example/gridwire/gridwire/model/MapStatistics -/
def k3 : Class := { plain "com/example/gridwire/gridwire/model/MapStatistics" (some 2) with
  accessFlags := 49
  interfaces := #[]
  cf := some (fileOf pool3 8 #[] #[{ accessFlags := 1, nameIndex := 5, descriptorIndex := 36, attributes := #[] }, { accessFlags := 1, nameIndex := 56, descriptorIndex := 57, attributes := #[] }, { accessFlags := 1, nameIndex := 11, descriptorIndex := 61, attributes := #[] }, { accessFlags := 1, nameIndex := 15, descriptorIndex := 61, attributes := #[] }, { accessFlags := 1, nameIndex := 18, descriptorIndex := 61, attributes := #[] }, { accessFlags := 1, nameIndex := 21, descriptorIndex := 61, attributes := #[] }, { accessFlags := 1, nameIndex := 24, descriptorIndex := 61, attributes := #[] }, { accessFlags := 1, nameIndex := 27, descriptorIndex := 61, attributes := #[] }, { accessFlags := 1, nameIndex := 30, descriptorIndex := 61, attributes := #[] }, { accessFlags := 1, nameIndex := 33, descriptorIndex := 61, attributes := #[] }] 49 2 #[] #[{ accessFlags := 18, nameIndex := 11, descriptorIndex := 12, attributes := #[] }, { accessFlags := 18, nameIndex := 15, descriptorIndex := 12, attributes := #[] }, { accessFlags := 18, nameIndex := 18, descriptorIndex := 12, attributes := #[] }, { accessFlags := 18, nameIndex := 21, descriptorIndex := 12, attributes := #[] }, { accessFlags := 18, nameIndex := 24, descriptorIndex := 12, attributes := #[] }, { accessFlags := 18, nameIndex := 27, descriptorIndex := 12, attributes := #[] }, { accessFlags := 18, nameIndex := 30, descriptorIndex := 12, attributes := #[] }, { accessFlags := 18, nameIndex := 33, descriptorIndex := 12, attributes := #[] }, { accessFlags := 25, nameIndex := 51, descriptorIndex := 52, attributes := #[] }])
  fields := #[{ name := "currentEntries", type := .long, accessFlags := 18, slot := 0, constantValue := 0 }, { name := "totalEntries", type := .long, accessFlags := 18, slot := 1, constantValue := 0 }, { name := "stores", type := .long, accessFlags := 18, slot := 2, constantValue := 0 }, { name := "retrievals", type := .long, accessFlags := 18, slot := 3, constantValue := 0 }, { name := "hits", type := .long, accessFlags := 18, slot := 4, constantValue := 0 }, { name := "misses", type := .long, accessFlags := 18, slot := 5, constantValue := 0 }, { name := "removeHits", type := .long, accessFlags := 18, slot := 6, constantValue := 0 }, { name := "removeMisses", type := .long, accessFlags := 18, slot := 7, constantValue := 0 }, { name := "NONE", type := (.object "com/example/gridwire/gridwire/model/MapStatistics"), accessFlags := 25, slot := 0, constantValue := 0 }]
  methods := #[k3m0, k3m1, k3m2, k3m3, k3m4, k3m5, k3m6, k3m7, k3m8, k3m9]
  instanceTypes := #[.long, .long, .long, .long, .long, .long, .long, .long]
  staticTypes := #[(.object "com/example/gridwire/gridwire/model/MapStatistics")]
  resolved := Array.replicate 90 none
  statics := none }

def pool4 : Array CpInfo := pool [(1, u "java/lang/Cloneable"), (0, .class_ 1), (0, u "java/lang/Object"), (0, .class_ 3)] 3

/-- java/lang/Cloneable -/
def k4 : Class := { plain "java/lang/Cloneable" (some 0) with
  accessFlags := 1537
  interfaces := #[]
  cf := some (fileOf pool4 2 #[] #[] 1537 4 #[] #[])
  fields := #[]
  methods := #[]
  instanceTypes := #[]
  staticTypes := #[]
  resolved := Array.replicate 8 none
  statics := none }

def pool5 : Array CpInfo := pool [(1, u "java/io/Serializable"), (0, .class_ 1), (0, u "java/lang/Object"), (0, .class_ 3)] 3

/-- java/io/Serializable -/
def k5 : Class := { plain "java/io/Serializable" (some 0) with
  accessFlags := 1537
  interfaces := #[]
  cf := some (fileOf pool5 2 #[] #[] 1537 4 #[] #[])
  fields := #[]
  methods := #[]
  instanceTypes := #[]
  staticTypes := #[]
  resolved := Array.replicate 8 none
  statics := none }

/-- the primitive byte -/
def k6 : Class := { plain "byte" none with kind := .primitive 'B', accessFlags := 0x411 }
/-- [B -/
def k7 : Class := { plain "[B" (some 0) with kind := .array 6 .byte, interfaces := #[4, 5], accessFlags := 1041 }

def heap : Heap := #[]
def classes : Array Class := #[k0, k1, k2, k3, k4, k5, k6, k7]
def interned : List (Array UInt16 × Addr) := []
def slotsUsed : Nat := 0
def theMethod : MethodId := ⟨1, 1⟩
def args0 : Array Value := #[.long 1, .long 2, .long 3, .long 4, .long 5, .long 6]
def aboutOver (below : List Frame) : State where
  vm := { classes := classes, interned := interned.toArray }
  heap := heap
  slotsUsed := slotsUsed
  threads := #[{ frames := .invoking theMethod args0 :: below }]
def below0 : List Frame := [.native { method := ⟨0, 0⟩, args := #[] }]
def about1 : State := aboutOver below0
def p0 : Program := .bare "" "" ""
def e0 : Env := launch0.env 0 0 0
theorem w_frames : about1.frames = Frame.invoking theMethod args0 :: below0 := rfl
set_option maxRecDepth 65536 in
theorem w_args : argsFit about1.vm theMethod args0 = true := by decide +kernel
set_option maxRecDepth 65536 in
theorem w_heap : heapFits about1 = true := by decide +kernel
set_option maxRecDepth 65536 in
theorem w_runnable : about1.curStatus? = some .runnable := by decide +kernel
set_option maxRecDepth 65536 in
theorem w_alone : about1.alone = true := by decide +kernel
set_option maxRecDepth 65536 in
theorem w_named : about1.methodNamed? x = some theMethod := by decide +kernel
set_option maxRecDepth 65536 in
theorem w_hears : about1.hears theMethod below0 = true := by decide +kernel
set_option maxRecDepth 65536 in
theorem w_ripe : about1.ripe theMethod args0 below0 = true := by decide +kernel
theorem w_running : about1.status = .running := rfl
set_option maxRecDepth 65536 in
theorem w_room : about1.hasRoom e0.platform room_1 = true :=
  launch0.hasRoom_least _ room_1 (by decide +kernel) (by decide +kernel) (by decide +kernel) (by decide +kernel) (by decide +kernel) (by decide +kernel)
theorem allAtoms_all (ts : List Jvm.Cond) (a : Array Jvm.Value) (st : Jvm.State) : (allAtoms ts).before a st = ts.all (fun c => c.before a st) := by
  induction ts with
  | nil => rfl
  | cons c t ih =>
    show (Jvm.Cond.and c (allAtoms t)).before a st = _
    rw [Jvm.Cond.before_and, ih, List.all_cons]
def words1 : List Jvm.Cond := Jvm.Cond.code x code maxLocals ret :: tables_1
/-- a 'code' word, met by the world's own term for the bytes: nothing is compared byte by byte -/
theorem code_word {y : MethodName} {bytes : ByteArray} {mx : Nat} {rt : Option FieldType} {a : Array Value} {s : State} {m : MethodId} {meth : Method} {c : Code} (h1 : s.methodNamed? y = some m) (h2 : s.vm.method? m = some meth) (h3 : meth.code = some c) (h4 : c.code = bytes)
    (h5 : (c.maxLocals == mx && c.exceptionTable.isEmpty && decide (c.maxStack ≤ mostOperands) && decide (meth.sig.returnType = rt) && !meth.locks && decide (parseMethodDescriptor y.desc = some meth.sig)) = true) : (Jvm.Cond.code y bytes mx rt).before a s = true := by
  simp only [Bool.and_eq_true, beq_iff_eq, Bool.not_eq_true', decide_eq_true_eq] at h5
  obtain ⟨⟨⟨⟨⟨g1, g2⟩, g3⟩, g4⟩, g5⟩, g6⟩ := h5
  simp [Cond.before, Cond.holds, Cond.value, h1, h2, h3, h4, g1, g2, g3, g4, g5, g6]
def isCode : Jvm.Cond → Bool
  | .code _ _ _ _ => true
  | _ => false
theorem all_split {L : List Jvm.Cond} {P : Jvm.Cond → Bool} (h1 : L.all (fun c => isCode c || P c) = true) (h2 : ∀ c ∈ L.filter isCode, P c = true) : L.all P = true := by
  refine List.all_eq_true.mpr fun c hc => ?_
  have h := List.all_eq_true.mp h1 c hc
  rcases Bool.eq_false_or_eq_true (isCode c) with hi | hi
  · exact h2 c (List.mem_filter.mpr ⟨hc, hi⟩)
  · simpa [hi] using h
set_option maxRecDepth 65536 in
theorem w_c0 : (Jvm.Cond.code x code maxLocals ret).before args0 about1 = true := code_word (m := ⟨1, 1⟩) (meth := k1m1) (c := k1c1) (by decide +kernel) rfl rfl rfl (by decide +kernel)
set_option maxRecDepth 65536 in
theorem w_c1 : (Jvm.Cond.code ({ cls := "com/example/gridwire/gridwire/model/MapStatistics", name := "<init>", desc := "(JJJJJJJJ)V" } : Jvm.MethodName) prog_23_method_1_code (17 : Nat) (Option.none : Option Jvm.ClassFile.FieldType)).before args0 about1 = true := code_word (m := ⟨3, 0⟩) (meth := k3m0) (c := k3c0) (by decide +kernel) rfl rfl rfl (by decide +kernel)
set_option maxRecDepth 65536 in
theorem w_c2 : (Jvm.Cond.code ({ cls := "java/lang/Record", name := "<init>", desc := "()V" } : Jvm.MethodName) jdk_30_method_1_code (1 : Nat) (Option.none : Option Jvm.ClassFile.FieldType)).before args0 about1 = true := code_word (m := ⟨2, 0⟩) (meth := k2m0) (c := k2c0) (by decide +kernel) rfl rfl rfl (by decide +kernel)
set_option maxRecDepth 65536 in
theorem w_c3 : (Jvm.Cond.code ({ cls := "java/lang/Object", name := "<init>", desc := "()V" } : Jvm.MethodName) object_method_1_code (1 : Nat) (Option.none : Option Jvm.ClassFile.FieldType)).before args0 about1 = true := code_word (m := ⟨0, 0⟩) (meth := k0m0) (c := k0c0) (by decide +kernel) rfl rfl rfl (by decide +kernel)
set_option maxRecDepth 65536 in
theorem w_c4 : (Jvm.Cond.code ({ cls := "com/example/gridwire/gridwire/model/MapStatistics", name := "plus", desc := "(Lcom/example/gridwire/gridwire/model/MapStatistics;)Lcom/example/gridwire/gridwire/model/MapStatistics;" } : Jvm.MethodName) prog_23_method_2_code (2 : Nat) (Option.some (Jvm.ClassFile.FieldType.object "com/example/gridwire/gridwire/model/MapStatistics"))).before args0 about1 = true := code_word (m := ⟨3, 1⟩) (meth := k3m1) (c := k3c1) (by decide +kernel) rfl rfl rfl (by decide +kernel)
set_option maxRecDepth 65536 in
theorem w_c5 : (Jvm.Cond.code ({ cls := "com/example/gridwire/gridwire/model/MapStatistics", name := "currentEntries", desc := "()J" } : Jvm.MethodName) prog_23_method_6_code (1 : Nat) (Option.some Jvm.ClassFile.FieldType.long)).before args0 about1 = true := code_word (m := ⟨3, 2⟩) (meth := k3m2) (c := k3c2) (by decide +kernel) rfl rfl rfl (by decide +kernel)
set_option maxRecDepth 65536 in
theorem w_c6 : (Jvm.Cond.code ({ cls := "com/example/gridwire/gridwire/model/MapStatistics", name := "totalEntries", desc := "()J" } : Jvm.MethodName) prog_23_method_7_code (1 : Nat) (Option.some Jvm.ClassFile.FieldType.long)).before args0 about1 = true := code_word (m := ⟨3, 3⟩) (meth := k3m3) (c := k3c3) (by decide +kernel) rfl rfl rfl (by decide +kernel)
set_option maxRecDepth 65536 in
theorem w_c7 : (Jvm.Cond.code ({ cls := "com/example/gridwire/gridwire/model/MapStatistics", name := "stores", desc := "()J" } : Jvm.MethodName) prog_23_method_8_code (1 : Nat) (Option.some Jvm.ClassFile.FieldType.long)).before args0 about1 = true := code_word (m := ⟨3, 4⟩) (meth := k3m4) (c := k3c4) (by decide +kernel) rfl rfl rfl (by decide +kernel)
set_option maxRecDepth 65536 in
theorem w_c8 : (Jvm.Cond.code ({ cls := "com/example/gridwire/gridwire/model/MapStatistics", name := "retrievals", desc := "()J" } : Jvm.MethodName) prog_23_method_9_code (1 : Nat) (Option.some Jvm.ClassFile.FieldType.long)).before args0 about1 = true := code_word (m := ⟨3, 5⟩) (meth := k3m5) (c := k3c5) (by decide +kernel) rfl rfl rfl (by decide +kernel)
set_option maxRecDepth 65536 in
theorem w_c9 : (Jvm.Cond.code ({ cls := "com/example/gridwire/gridwire/model/MapStatistics", name := "hits", desc := "()J" } : Jvm.MethodName) prog_23_method_10_code (1 : Nat) (Option.some Jvm.ClassFile.FieldType.long)).before args0 about1 = true := code_word (m := ⟨3, 6⟩) (meth := k3m6) (c := k3c6) (by decide +kernel) rfl rfl rfl (by decide +kernel)
set_option maxRecDepth 65536 in
theorem w_c10 : (Jvm.Cond.code ({ cls := "com/example/gridwire/gridwire/model/MapStatistics", name := "misses", desc := "()J" } : Jvm.MethodName) prog_23_method_11_code (1 : Nat) (Option.some Jvm.ClassFile.FieldType.long)).before args0 about1 = true := code_word (m := ⟨3, 7⟩) (meth := k3m7) (c := k3c7) (by decide +kernel) rfl rfl rfl (by decide +kernel)
set_option maxRecDepth 65536 in
theorem w_c11 : (Jvm.Cond.code ({ cls := "com/example/gridwire/gridwire/model/MapStatistics", name := "removeHits", desc := "()J" } : Jvm.MethodName) prog_23_method_12_code (1 : Nat) (Option.some Jvm.ClassFile.FieldType.long)).before args0 about1 = true := code_word (m := ⟨3, 8⟩) (meth := k3m8) (c := k3c8) (by decide +kernel) rfl rfl rfl (by decide +kernel)
set_option maxRecDepth 65536 in
theorem w_c12 : (Jvm.Cond.code ({ cls := "com/example/gridwire/gridwire/model/MapStatistics", name := "removeMisses", desc := "()J" } : Jvm.MethodName) prog_23_method_13_code (1 : Nat) (Option.some Jvm.ClassFile.FieldType.long)).before args0 about1 = true := code_word (m := ⟨3, 9⟩) (meth := k3m9) (c := k3c9) (by decide +kernel) rfl rfl rfl (by decide +kernel)
def codes1 : List Jvm.Cond := [Jvm.Cond.code x code maxLocals ret, Jvm.Cond.code ({ cls := "com/example/gridwire/gridwire/model/MapStatistics", name := "<init>", desc := "(JJJJJJJJ)V" } : Jvm.MethodName) prog_23_method_1_code (17 : Nat) (Option.none : Option Jvm.ClassFile.FieldType), Jvm.Cond.code ({ cls := "java/lang/Record", name := "<init>", desc := "()V" } : Jvm.MethodName) jdk_30_method_1_code (1 : Nat) (Option.none : Option Jvm.ClassFile.FieldType), Jvm.Cond.code ({ cls := "java/lang/Object", name := "<init>", desc := "()V" } : Jvm.MethodName) object_method_1_code (1 : Nat) (Option.none : Option Jvm.ClassFile.FieldType), Jvm.Cond.code ({ cls := "com/example/gridwire/gridwire/model/MapStatistics", name := "plus", desc := "(Lcom/example/gridwire/gridwire/model/MapStatistics;)Lcom/example/gridwire/gridwire/model/MapStatistics;" } : Jvm.MethodName) prog_23_method_2_code (2 : Nat) (Option.some (Jvm.ClassFile.FieldType.object "com/example/gridwire/gridwire/model/MapStatistics")), Jvm.Cond.code ({ cls := "com/example/gridwire/gridwire/model/MapStatistics", name := "currentEntries", desc := "()J" } : Jvm.MethodName) prog_23_method_6_code (1 : Nat) (Option.some Jvm.ClassFile.FieldType.long), Jvm.Cond.code ({ cls := "com/example/gridwire/gridwire/model/MapStatistics", name := "totalEntries", desc := "()J" } : Jvm.MethodName) prog_23_method_7_code (1 : Nat) (Option.some Jvm.ClassFile.FieldType.long), Jvm.Cond.code ({ cls := "com/example/gridwire/gridwire/model/MapStatistics", name := "stores", desc := "()J" } : Jvm.MethodName) prog_23_method_8_code (1 : Nat) (Option.some Jvm.ClassFile.FieldType.long), Jvm.Cond.code ({ cls := "com/example/gridwire/gridwire/model/MapStatistics", name := "retrievals", desc := "()J" } : Jvm.MethodName) prog_23_method_9_code (1 : Nat) (Option.some Jvm.ClassFile.FieldType.long), Jvm.Cond.code ({ cls := "com/example/gridwire/gridwire/model/MapStatistics", name := "hits", desc := "()J" } : Jvm.MethodName) prog_23_method_10_code (1 : Nat) (Option.some Jvm.ClassFile.FieldType.long), Jvm.Cond.code ({ cls := "com/example/gridwire/gridwire/model/MapStatistics", name := "misses", desc := "()J" } : Jvm.MethodName) prog_23_method_11_code (1 : Nat) (Option.some Jvm.ClassFile.FieldType.long), Jvm.Cond.code ({ cls := "com/example/gridwire/gridwire/model/MapStatistics", name := "removeHits", desc := "()J" } : Jvm.MethodName) prog_23_method_12_code (1 : Nat) (Option.some Jvm.ClassFile.FieldType.long), Jvm.Cond.code ({ cls := "com/example/gridwire/gridwire/model/MapStatistics", name := "removeMisses", desc := "()J" } : Jvm.MethodName) prog_23_method_13_code (1 : Nat) (Option.some Jvm.ClassFile.FieldType.long)]
set_option maxRecDepth 65536 in
theorem codes_eq : words1.filter isCode = codes1 := rfl
theorem w_codes : ∀ c ∈ words1.filter isCode, c.before args0 about1 = true := by
  rw [codes_eq]
  intro c hc
  simp only [codes1, List.mem_cons, List.not_mem_nil, or_false] at hc
  rcases hc with rfl | rfl | rfl | rfl | rfl | rfl | rfl | rfl | rfl | rfl | rfl | rfl | rfl
  · exact w_c0
  · exact w_c1
  · exact w_c2
  · exact w_c3
  · exact w_c4
  · exact w_c5
  · exact w_c6
  · exact w_c7
  · exact w_c8
  · exact w_c9
  · exact w_c10
  · exact w_c11
  · exact w_c12
set_option maxRecDepth 65536 in
theorem w_t1 : (words1.take 24).all (fun c => isCode c || c.before args0 about1) = true := by decide +kernel
set_option maxRecDepth 65536 in
theorem w_t2 : ((words1.drop 24).take 24).all (fun c => isCode c || c.before args0 about1) = true := by decide +kernel
set_option maxRecDepth 65536 in
theorem w_t3 : (((words1.drop 24).drop 24).take 24).all (fun c => isCode c || c.before args0 about1) = true := by decide +kernel
set_option maxRecDepth 65536 in
theorem w_t4 : (((words1.drop 24).drop 24).drop 24).all (fun c => isCode c || c.before args0 about1) = true := by decide +kernel
theorem w_tables : (allAtoms (Jvm.Cond.code x code maxLocals ret :: tables_1)).before args0 about1 = true := by
  rw [allAtoms_all]
  show words1.all (fun c => c.before args0 about1) = true
  refine all_split ?_ w_codes
  rw [← List.take_append_drop 24 words1, List.all_append, w_t1, ← List.take_append_drop 24 (words1.drop 24), List.all_append, w_t2, ← List.take_append_drop 24 ((words1.drop 24).drop 24), List.all_append, w_t3, w_t4]
  rfl
set_option maxRecDepth 65536 in
theorem w_case : (Jvm.Cond.and given_1 narrow_1).before args0 about1 = true := by decide +kernel
theorem w_applies : (headSpec (Jvm.Cond.code x code maxLocals ret :: tables_1) room_1).applies x e0.platform about1 = true :=
  (Spec.applies_iff w_frames).mpr ⟨w_running, w_runnable, w_alone, w_named, w_hears, w_ripe, w_room, w_tables⟩
theorem atStart : AtStart classFile x code maxLocals ret World_1 tables_1 room_1 Calls_1 rest_1 Pre_1 launch0 p0 e0 about1 theMethod args0 below0 :=
  ⟨lists_1, trivial, launch0.admits_env _ _ _, launch0.least_env, fairChoices_fair.cas, fairChoices_fair.clock, w_frames, w_args, w_heap, w_applies, trivial, trivial, w_case⟩
end start1
theorem witness_1 : WitnessClaimed_1 := ⟨start1.p0, start1.e0, start1.about1, start1.theMethod, start1.args0, start1.below0, start1.atStart⟩
end Jvm.Pilot.@@N@@
