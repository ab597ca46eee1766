import JvmDerived
import JvmDerived.Pilot.@@N@@Statement
import JvmDerived.Pilot.@@N@@Code
set_option linter.unusedVariables false
set_option linter.unusedSimpArgs false
namespace Jvm.Pilot.@@N@@
open Jvm Jvm.ClassFile Sem Op Lib Jvm.Free Jvm.Stand Jvm.LawKit Jvm.RoadKit Bundle Jvm.Pilot.@@N@@.Jvm.D
def own_usr (x y : Int32) : Int32 := (x.toUInt32 >>> (y &&& 31).toUInt32).toInt32
def own_usrL (x : Int64) (y : Int32) : Int64 := (x.toUInt64 >>> (y &&& 0x3f).toInt64.toUInt64).toInt64
/-- where the run came from, where it stands -/
def Go (p : Program) (e : Env) (below : List Frame) (A B : State) : Prop := ∀ t, Steps p.tables e below B t → Steps p.tables e below A t
theorem Go.step {p : Program} {e : Env} {below : List Frame} {A B C : State} (g : Go p e below A B) (h : ∀ t, Steps p.tables e below C t → Steps p.tables e below B t) : Go p e below A C := fun t k => g t (h t k)
theorem Go.tr {p : Program} {e : Env} {below : List Frame} {A B C : State} (g : Go p e below A B) (h : Steps p.tables e below B C) : Go p e below A C := fun t k => g t (h.trans k)
section Rets
variable {p : Program} {l : Launch} {e : Env} {R : Room} {s : State} {m : MethodId} {args : Array Value} {below : List Frame} {meth : Method} {c : Code} {T : State} {locs : List Loc} {cells slots : Nat}
theorem own_retI (X : Stand p l e R s m args below meth c T locs cells slots) (hx : p.tables.exec = Jvm.exec) {pc : Nat} {Ls : Array Slot} {z : Int32} {rest : List Value} (hret : meth.sig.returnType = some .int) (hd : decode c.code pc = .ok (.ireturn, 1)) {fs : List Frame}
    (hl : ∀ (f : JFrame) (acts : List Action), f.method = m → f.locked = none → f.entered = [] → (doReturn e (T.setTop f) acts (some (.int z))).1 = T.setFrames fs) : Steps p.tables e below (T.setTop (mkF m pc Ls (.int z :: rest))) (T.setFrames fs) :=
  retOut X hx (t := .int) hret rfl (Or.inl ⟨rfl, Or.inl rfl, z, rfl⟩) hd hl
theorem own_retL (X : Stand p l e R s m args below meth c T locs cells slots) (hx : p.tables.exec = Jvm.exec) {pc : Nat} {Ls : Array Slot} {z : Int64} {rest : List Value} (hret : meth.sig.returnType = some .long) (hd : decode c.code pc = .ok (.lreturn, 1)) {fs : List Frame}
    (hl : ∀ (f : JFrame) (acts : List Action), f.method = m → f.locked = none → f.entered = [] → (doReturn e (T.setTop f) acts (some (.long z))).1 = T.setFrames fs) : Steps p.tables e below (T.setTop (mkF m pc Ls (.long z :: rest))) (T.setFrames fs) :=
  retOut X hx (t := .long) hret rfl (Or.inr (Or.inl ⟨rfl, rfl, z, rfl⟩)) hd hl
theorem own_retA (X : Stand p l e R s m args below meth c T locs cells slots) (hx : p.tables.exec = Jvm.exec) {t : FieldType} {pc : Nat} {Ls : Array Slot} {z : Addr} {rest : List Value} (hret : meth.sig.returnType = some t) (ht : t.isReference = true) (hn : narrow t (.ref z) = .ref z) (hd : decode c.code pc = .ok (.areturn, 1)) {fs : List Frame}
    (hl : ∀ (f : JFrame) (acts : List Action), f.method = m → f.locked = none → f.entered = [] → (doReturn e (T.setTop f) acts (some (.ref z))).1 = T.setFrames fs) : Steps p.tables e below (T.setTop (mkF m pc Ls (.ref z :: rest))) (T.setFrames fs) :=
  retOut X hx hret hn (Or.inr (Or.inr (Or.inr (Or.inr ⟨rfl, ht, rfl⟩)))) hd hl
end Rets
theorem own_max_w (a b : Int64) : (if a < b then b else a).toInt = if a.toInt < b.toInt then b.toInt else a.toInt := by
  by_cases h : a < b
  · rw [if_pos h, if_pos (Int64.lt_iff_toInt_lt.mp h)]
  · rw [if_neg h, if_neg (fun q => h (Int64.lt_iff_toInt_lt.mpr q))]
def own_max (q0 : Int64) (q1 : Int64) : Int64 := (if q0 < q1 then q1 else q0)
theorem d2_0 : decode jdk_29_method_66_code 0 = .ok (.lload_n 0, 1) := by decide +kernel
theorem d2_1 : decode jdk_29_method_66_code 1 = .ok (.lload_n 2, 1) := by decide +kernel
theorem d2_2 : decode jdk_29_method_66_code 2 = .ok (.lcmp, 1) := by decide +kernel
theorem d2_3 : decode jdk_29_method_66_code 3 = .ok (.ifCond .lt 7, 3) := by decide +kernel
theorem d2_6 : decode jdk_29_method_66_code 6 = .ok (.lload_n 0, 1) := by decide +kernel
theorem d2_7 : decode jdk_29_method_66_code 7 = .ok (.goto 4, 3) := by decide +kernel
theorem d2_10 : decode jdk_29_method_66_code 10 = .ok (.lload_n 2, 1) := by decide +kernel
theorem d2_11 : decode jdk_29_method_66_code 11 = .ok (.lreturn, 1) := by decide +kernel
theorem ef_rm2 (m : MethodId) (q0 : Int64) (q1 : Int64) : entryFrame m #[(.long q0), (.long q1)] 4 = mkF m 0 #[.val (.long q0), .second, .val (.long q1), .second] [] := by first | (simp [entryFrame, mkF, argsToLocals, Value.category]; done) | rfl
def Q_rm2 (Z : State) (q0 : Int64) (q1 : Int64) (h0 : Heap) (n0 : Nat) (v : Option Value) (h : Heap) (L : List Loc) : Prop := v = some (.long (own_max q0 q1)) ∧ Fr n0 L ∧ h = h0
set_option maxRecDepth 65536 in
set_option maxHeartbeats 40000000 in
theorem rm2 (l : Launch) (Z : State) (a0 : Array Value) (hw : ∀ d ∈ tables_1, d.before a0 Z = true) (ws : List Jvm.Cond) (q0 : Int64) (q1 : Int64) (h0 : Heap) (n0 : Nat) (Z0 : n0 ≤ h0.size) :
    MetFree l (⟨"java/lang/Math", "max", "(JJ)J"⟩ : MethodName) (head1 (Jvm.Cond.code (⟨"java/lang/Math", "max", "(JJ)J"⟩ : MethodName) jdk_29_method_66_code 4 (some .long) :: ws) ({ frames := 0, cells := 0, slots := 0, locals := 0 } : Room)) (fun a U => a = #[(.long q0), (.long q1)] ∧ Z.Warmed39 U.vm ∧ U.heap = h0) (fun _ _ _ _ _ => True) (fun _ U o U' => ∃ v L, o = .returned v ∧ Q_rm2 Z q0 q1 h0 n0 v U'.heap L ∧ FrameEnd U o U' L ({ frames := 0, cells := 0, slots := 0, locals := 0 } : Room).cells ({ frames := 0, cells := 0, slots := 0, locals := 0 } : Room).slots) := by
  refine MetFree.of_bodySF (Jvm.Free.JP.mathPlain rfl (by decide +kernel)) hisR ?_
  intro p e s m args below meth c s₁ Bd hml0 hP hK
  obtain ⟨rfl, hZ, hh⟩ := hP
  have hx := Bd.exec
  have hby := Bd.bytes
  have hml : c.maxLocals = 4 := hml0
  have hown : s.vm.findClass "java/lang/Math" = some m.cls := findClass_of_methodNamed Bd.named
  have hnm := (name_of_methodNamed Bd.named Bd.method).1
  have X0 : Stand p l e ({ frames := 0, cells := 0, slots := 0, locals := 0 } : Room) s m #[(.long q0), (.long q1)] below meth c s₁ [] 0 0 := Stand.of_body Bd
  have e0 : s₁.heap = h0 := by rw [← hh, Bd.state]; rfl
  have N0 := Fr.nil n0
  have K0 := Keep.refl h0 []
  have go0 : Go p e below (s₁.setTop (entryFrame m #[(.long q0), (.long q1)] 4)) (s₁.setTop (mkF m 0 #[.val (.long q0), .second, .val (.long q1), .second] [])) := fun t k => castTop (ef_rm2 m q0 q1) k
  have go2 := go0.step (C := s₁.setTop (mkF m 3 #[.val (.long q0), .second, .val (.long q1), .second] [(.int (lcmpW q0 q1))])) (fun t k => by
    show Steps p.tables e below (s₁.setTop (mkF m 0 #[.val (.long q0), .second, .val (.long q1), .second] [])) _
    refine XS.lloadN X0.here hx rfl (hb hby d2_0) rfl ?_
    show Steps p.tables e below (s₁.setTop (mkF m 1 #[.val (.long q0), .second, .val (.long q1), .second] [(.long q0)])) _
    refine XS.lloadN X0.here hx rfl (hb hby d2_1) rfl ?_
    show Steps p.tables e below (s₁.setTop (mkF m 2 #[.val (.long q0), .second, .val (.long q1), .second] [(.long q1), (.long q0)])) _
    refine XS.lcmp X0.here hx rfl (hb hby d2_2) rfl ?_
    exact k)
  by_cases hc1 : q0 < q1
  · skip
    have go3 := go2.step (C := s₁.setTop (mkF m 11 #[.val (.long q0), .second, .val (.long q1), .second] [(.long q1)])) (fun t k => by
      show Steps p.tables e below (s₁.setTop (mkF m 3 #[.val (.long q0), .second, .val (.long q1), .second] [(.int (lcmpW q0 q1))])) _
      refine XS.ifYes X0.here hx rfl (pc0 := 3) (pc' := 10) rfl (hb hby d2_3) rfl ((if0 _ _).trans (tlt ((lw_lt _ _).mpr hc1)).1) (by decide) (by decide) ?_
      show Steps p.tables e below (s₁.setTop (mkF m 10 #[.val (.long q0), .second, .val (.long q1), .second] [])) _
      refine XS.lloadN X0.here hx rfl (hb hby d2_10) rfl ?_
      exact k)
    obtain ⟨fs, hr, hrun, hended, hW, hsame⟩ := X0.leave (v := some (.long q1)) (fun h => by rw [Bd.returns] at h; cases h)
    refine ⟨_, _, go3 _ ?_, hrun, hended, _, _, rfl, ?_, ⟨_, rfl⟩, hW, hsame.mono (by decide) (by decide)⟩
    · exact own_retL X0 hx Bd.returns (hb hby d2_11) hr
    · show Q_rm2 Z q0 q1 h0 n0 _ s₁.heap _
      rw [e0]
      exact ⟨by unfold own_max; simp only [if_pos hc1], N0, rfl⟩
  · skip
    have go4 := go2.step (C := s₁.setTop (mkF m 11 #[.val (.long q0), .second, .val (.long q1), .second] [(.long q0)])) (fun t k => by
      show Steps p.tables e below (s₁.setTop (mkF m 3 #[.val (.long q0), .second, .val (.long q1), .second] [(.int (lcmpW q0 q1))])) _
      refine XS.ifNo X0.here hx rfl (hb hby d2_3) rfl ((if0 _ _).trans (flt (fun q => hc1 ((lw_lt _ _).mp q))).1) ?_
      show Steps p.tables e below (s₁.setTop (mkF m 6 #[.val (.long q0), .second, .val (.long q1), .second] [])) _
      refine XS.lloadN X0.here hx rfl (hb hby d2_6) rfl ?_
      show Steps p.tables e below (s₁.setTop (mkF m 7 #[.val (.long q0), .second, .val (.long q1), .second] [(.long q0)])) _
      refine XS.goto X0.here hx rfl (pc0 := 7) (pc' := 11) rfl (hb hby d2_7) (by decide) (by decide) ?_
      exact k)
    obtain ⟨fs, hr, hrun, hended, hW, hsame⟩ := X0.leave (v := some (.long q0)) (fun h => by rw [Bd.returns] at h; cases h)
    refine ⟨_, _, go4 _ ?_, hrun, hended, _, _, rfl, ?_, ⟨_, rfl⟩, hW, hsame.mono (by decide) (by decide)⟩
    · exact own_retL X0 hx Bd.returns (hb hby d2_11) hr
    · show Q_rm2 Z q0 q1 h0 n0 _ s₁.heap _
      rw [e0]
      exact ⟨by unfold own_max; simp only [if_neg hc1], N0, rfl⟩
theorem d1_0 : decode prog_27_method_3_code 0 = .ok (.lconst 1, 1) := by decide +kernel
theorem d1_1 : decode prog_27_method_3_code 1 = .ok (.lload_n 0, 1) := by decide +kernel
theorem d1_2 : decode prog_27_method_3_code 2 = .ok (.getstatic 69, 3) := by decide +kernel
theorem d1_5 : decode prog_27_method_3_code 5 = .ok (.lsub, 1) := by decide +kernel
theorem d1_6 : decode prog_27_method_3_code 6 = .ok (.ldc2_w 73, 3) := by decide +kernel
theorem d1_9 : decode prog_27_method_3_code 9 = .ok (.ldiv, 1) := by decide +kernel
theorem d1_10 : decode prog_27_method_3_code 10 = .ok (.invokestatic 75, 3) := by decide +kernel
theorem d1_13 : decode prog_27_method_3_code 13 = .ok (.l2i, 1) := by decide +kernel
theorem d1_14 : decode prog_27_method_3_code 14 = .ok (.ireturn, 1) := by decide +kernel
theorem pn_rm1 : plainName "com/example/gridwire/gridwire/service/Cluster" = true := by first | (simp [plainName, overriddenIn]; done) | decide +kernel
theorem pd1_0 : parseMethodDescriptor "(JJ)J" = some ⟨[.long, .long], some .long⟩ := by decide +kernel
theorem ef_rm1 (m : MethodId) (q0 : Int64) : entryFrame m #[(.long q0)] 2 = mkF m 0 #[.val (.long q0), .second] [] := by first | (simp [entryFrame, mkF, argsToLocals, Value.category]; done) | rfl
def Q_rm1 (Z : State) (q0 : Int64) (h0 : Heap) (n0 : Nat) (v : Option Value) (h : Heap) (L : List Loc) : Prop := v = some (.int (own_max (1 : Int64) ((q0 - (1735689600000 : Int64)) / (1000 : Int64))).toInt32) ∧ Fr n0 L ∧ h = h0
set_option maxRecDepth 65536 in
set_option maxHeartbeats 40000000 in
theorem rm1 (l : Launch) (Z : State) (a0 : Array Value) (hw : ∀ d ∈ tables_1, d.before a0 Z = true) (ws : List Jvm.Cond) (q0 : Int64) (h0 : Heap) (n0 : Nat) (Z0 : n0 ≤ h0.size) (Ol : Old Z n0 h0) (S_ep : Sta Z Z.heap "com/example/gridwire/gridwire/service/Cluster" "VERSION_EPOCH_MILLIS" "J" (.long (1735689600000 : Int64))) :
    MetFree l (⟨"com/example/gridwire/gridwire/service/Cluster", "firstVersion", "(J)I"⟩ : MethodName) (head1 (Jvm.Cond.code (⟨"com/example/gridwire/gridwire/service/Cluster", "firstVersion", "(J)I"⟩ : MethodName) prog_27_method_3_code 2 (some .int) :: ws) ({ frames := 1, cells := 0, slots := 0, locals := 15 } : Room)) (fun a U => a = #[(.long q0)] ∧ Z.Warmed39 U.vm ∧ U.heap = h0) (fun _ _ _ _ _ => True) (fun _ U o U' => ∃ v L, o = .returned v ∧ Q_rm1 Z q0 h0 n0 v U'.heap L ∧ FrameEnd U o U' L ({ frames := 1, cells := 0, slots := 0, locals := 15 } : Room).cells ({ frames := 1, cells := 0, slots := 0, locals := 15 } : Room).slots) := by
  refine MetFree.of_bodySF (plainFor_of_name pn_rm1) hisR ?_
  intro p e s m args below meth c s₁ Bd hml0 hP hK
  obtain ⟨rfl, hZ, hh⟩ := hP
  have hx := Bd.exec
  have hby := Bd.bytes
  have hml : c.maxLocals = 2 := hml0
  have hown : s.vm.findClass "com/example/gridwire/gridwire/service/Cluster" = some m.cls := findClass_of_methodNamed Bd.named
  have hnm := (name_of_methodNamed Bd.named Bd.method).1
  have X0 : Stand p l e ({ frames := 1, cells := 0, slots := 0, locals := 15 } : Room) s m #[(.long q0)] below meth c s₁ [] 0 0 := Stand.of_body Bd
  have e0 : s₁.heap = h0 := by rw [← hh, Bd.state]; rfl
  have N0 := Fr.nil n0
  have K0 := Keep.refl h0 []
  have go0 : Go p e below (s₁.setTop (entryFrame m #[(.long q0)] 2)) (s₁.setTop (mkF m 0 #[.val (.long q0), .second] [])) := fun t k => castTop (ef_rm1 m q0) k
  have go1 := go0.step (C := s₁.setTop (mkF m 2 #[.val (.long q0), .second] [(.long q0), (.long (1 : Int64))])) (fun t k => by
    show Steps p.tables e below (s₁.setTop (mkF m 0 #[.val (.long q0), .second] [])) _
    refine XS.lconst X0.here hx rfl (hb hby d1_0) ?_
    show Steps p.tables e below (s₁.setTop (mkF m 1 #[.val (.long q0), .second] [(.long (1 : Int64))])) _
    refine XS.lloadN X0.here hx rfl (hb hby d1_1) rfl ?_
    exact k)
  have f2 := S_ep.ext Ol.2
  obtain ⟨T3, X3, e3, st3⟩ := getS2 X0 hx hZ hown (host := "") (Or.inl (hw _ (List.mem_of_getElem? (i := 7) rfl))) Via.refl e0 f2 (g := (mkF m 2 #[.val (.long q0), .second] [(.long q0), (.long (1 : Int64))])) rfl (hb hby d1_2)
  have go3 := go1.step (C := T3.setTop (mkF m 5 #[.val (.long q0), .second] [(.long (1735689600000 : Int64)), (.long q0), (.long (1 : Int64))])) (fun t k => st3 t k)
  have go4 := go3.step (C := T3.setTop (mkF m 10 #[.val (.long q0), .second] [(.long ((q0 - (1735689600000 : Int64)) / (1000 : Int64))), (.long (1 : Int64))])) (fun t k => by
    show Steps p.tables e below (T3.setTop (mkF m 5 #[.val (.long q0), .second] [(.long (1735689600000 : Int64)), (.long q0), (.long (1 : Int64))])) _
    refine XS.lsub X3.here hx rfl (hb hby d1_5) rfl ?_
    show Steps p.tables e below (T3.setTop (mkF m 6 #[.val (.long q0), .second] [(.long (q0 - (1735689600000 : Int64))), (.long (1 : Int64))])) _
    refine X3.ldc2Long hx hown (mvT hZ (hw _ (List.mem_of_getElem? (i := 9) rfl))) (g := (mkF m 6 #[.val (.long q0), .second] [(.long (q0 - (1735689600000 : Int64))), (.long (1 : Int64))])) rfl (hb hby d1_6) _ ?_
    show Steps p.tables e below (T3.setTop (mkF m 9 #[.val (.long q0), .second] [(.long (1000 : Int64)), (.long (q0 - (1735689600000 : Int64))), (.long (1 : Int64))])) _
    refine XS.ldiv X3.here hx rfl (hb hby d1_9) rfl (by decide) ?_
    exact k)
  obtain ⟨_, _, ⟨T5, L5, k5, n5⟩, -, X5, ⟨Lc5, hQ5, l5, y5, z5⟩, st5⟩ := Jvm.LawKit.callS X3 hx (y := (⟨"java/lang/Math", "max", "(JJ)J"⟩ : MethodName)) hown (mvT hZ (hw _ (List.mem_of_getElem? (i := 10) rfl))) (mvT hZ (hw _ (List.mem_of_getElem? (i := 11) rfl))) (mvT hZ (hw _ (List.mem_of_getElem? (i := 12) rfl))) (mvT hZ (hw _ (List.mem_of_getElem? (i := 13) rfl))) (by decide) (backOf (W := 0) (rm2 l Z a0 hw [] (1 : Int64) ((q0 - (1735689600000 : Int64)) / (1000 : Int64)) h0 n0 Z0 ) hZ (hw _ (List.mem_of_getElem? (i := 13) rfl)) (hw _ (List.mem_of_getElem? (i := 12) rfl)) (by decide) (by decide)) (g := (mkF m 10 #[.val (.long q0), .second] [(.long ((q0 - (1735689600000 : Int64)) / (1000 : Int64))), (.long (1 : Int64))])) rfl (by rw [hml]; rfl) (argsL := [(.long (1 : Int64)), (.long ((q0 - (1735689600000 : Int64)) / (1000 : Int64)))]) (rest := []) (lenOf pd1_0 rfl) rfl (by show 2 * 0 + _ ≤ _; exact Nat.le_of_eq rfl) (hb hby d1_10) (fun _ _ => ⟨rfl, e3, (by decide : 0 + 0 ≤ _), (by decide : 0 + 0 ≤ _)⟩)
  dsimp only [Pt.U, Pt.locs, Pt.cells, Pt.slots] at X5 l5 y5 z5 st5 hQ5
  subst l5 y5 z5
  obtain ⟨rfl, N5q, e5⟩ := hQ5
  have N5 := Fr.app N0 N5q
  have go5 := go4.step (C := T5.setTop (mkF m 13 #[.val (.long q0), .second] [(.long (own_max (1 : Int64) ((q0 - (1735689600000 : Int64)) / (1000 : Int64))))])) (fun t k => st5 t k)
  have go6 := go5.step (C := T5.setTop (mkF m 14 #[.val (.long q0), .second] [(.int ((own_max (1 : Int64) ((q0 - (1735689600000 : Int64)) / (1000 : Int64))).toInt32))])) (fun t k => by
    show Steps p.tables e below (T5.setTop (mkF m 13 #[.val (.long q0), .second] [(.long (own_max (1 : Int64) ((q0 - (1735689600000 : Int64)) / (1000 : Int64))))])) _
    refine XS.l2i X5.here hx rfl (hb hby d1_13) rfl ?_
    exact k)
  obtain ⟨fs, hr, hrun, hended, hW, hsame⟩ := X5.leave (v := some (.int ((own_max (1 : Int64) ((q0 - (1735689600000 : Int64)) / (1000 : Int64))).toInt32))) (fun h => by rw [Bd.returns] at h; cases h)
  refine ⟨_, _, go6 _ ?_, hrun, hended, _, _, rfl, ?_, ⟨_, rfl⟩, hW, hsame.mono (by decide) (by decide)⟩
  · exact own_retI X5 hx Bd.returns (hb hby d1_14) hr
  · show Q_rm1 Z q0 h0 n0 _ T5.heap _
    rw [e5]
    exact ⟨rfl, N5, rfl⟩
theorem own_mx (b : Int64) : own_max (1 : Int64) b = if (1 : Int64) < b then b else (1 : Int64) := rfl
theorem own_one {b : Int64} (h : b.toInt ≤ 1) : (own_max (1 : Int64) b).toInt32 = (1 : Int32) := by
  have e1 : (1 : Int64).toInt = 1 := rfl
  rw [own_mx, if_neg (fun q => by rw [Int64.lt_iff_toInt_lt, e1] at q; omega)]; rfl
theorem own_div (x : Int64) : (x / (1000 : Int64)).toInt = x.toInt.tdiv 1000 := Int64.toInt_div_of_ne_right x 1000 (by decide)
theorem own_far (x : Int64) : (own_max (1 : Int64) (((1735689600000 : Int64) - (x &&& (9223372036854775807 : Int64)) - (1735689600000 : Int64)) / (1000 : Int64))).toInt32 = (1 : Int32) := by
  apply own_one
  rw [own_div]
  have hm : 0 ≤ (x &&& (9223372036854775807 : Int64)).toInt := by
    have h2 : (x &&& (9223372036854775807 : Int64)).toBitVec.toNat ≤ 9223372036854775807 := by
      show (x.toBitVec &&& (9223372036854775807 : Int64).toBitVec).toNat ≤ _
      rw [BitVec.toNat_and]; exact Nat.and_le_right
    show 0 ≤ (x &&& (9223372036854775807 : Int64)).toBitVec.toInt
    rw [BitVec.toInt_eq_toNat_cond, if_pos (by omega)]; omega
  generalize x &&& (9223372036854775807 : Int64) = y at *
  have h1 := c_lsub (1735689600000 : Int64) y
  have h2 := c_lsub ((1735689600000 : Int64) - y) (1735689600000 : Int64)
  have r0 := rng64 y
  have r1 := rng64 ((1735689600000 : Int64) - y)
  have r2 := rng64 ((1735689600000 : Int64) - y - (1735689600000 : Int64))
  have e : (1735689600000 : Int64).toInt = 1735689600000 := rfl
  rw [e] at h1 h2
  have h3 : ((1735689600000 : Int64) - y - (1735689600000 : Int64)).toInt = - y.toInt := by omega
  rw [h3, Int.neg_tdiv, Int.tdiv_eq_ediv_of_nonneg hm]
  omega
theorem own_near (a b : Int32) : ((1735689600000 : Int64) + a.toInt64 * (1000 : Int64) + ((b &&& (2147483647 : Int32)) % (1000 : Int32)).toInt64 - (1735689600000 : Int64)).toInt = a.toInt * 1000 + (b &&& (2147483647 : Int32)).toInt % 1000 ∧ 0 ≤ (b &&& (2147483647 : Int32)).toInt := by
  have hm : 0 ≤ (b &&& (2147483647 : Int32)).toInt := by
    have h2 : (b &&& (2147483647 : Int32)).toBitVec.toNat ≤ 2147483647 := by
      show (b.toBitVec &&& (2147483647 : Int32).toBitVec).toNat ≤ _
      rw [BitVec.toNat_and]; exact Nat.and_le_right
    show 0 ≤ (b &&& (2147483647 : Int32)).toBitVec.toInt
    rw [BitVec.toInt_eq_toNat_cond, if_pos (by omega)]; omega
  generalize b &&& (2147483647 : Int32) = y at *
  have h0 : (y % (1000 : Int32)).toInt = y.toInt.tmod 1000 := Int32.toInt_mod _ _
  rw [Int.tmod_eq_emod_of_nonneg hm] at h0
  have h1 : (y % (1000 : Int32)).toInt64.toInt = y.toInt % 1000 := by rw [Int32.toInt_toInt64, h0]
  have h2 : a.toInt64.toInt = a.toInt := Int32.toInt_toInt64 a
  generalize (y % (1000 : Int32)).toInt64 = r at *
  generalize a.toInt64 = A at *
  have ra := rng32 a
  have k1 := c_lmul A (1000 : Int64)
  have k2 := c_ladd (1735689600000 : Int64) (A * (1000 : Int64))
  have k3 := c_ladd ((1735689600000 : Int64) + A * (1000 : Int64)) r
  have k4 := c_lsub ((1735689600000 : Int64) + A * (1000 : Int64) + r) (1735689600000 : Int64)
  have r1 := rng64 (A * (1000 : Int64))
  have r2 := rng64 ((1735689600000 : Int64) + A * (1000 : Int64))
  have r3 := rng64 ((1735689600000 : Int64) + A * (1000 : Int64) + r)
  have r4 := rng64 ((1735689600000 : Int64) + A * (1000 : Int64) + r - (1735689600000 : Int64))
  have e : (1735689600000 : Int64).toInt = 1735689600000 := rfl
  have e1 : (1000 : Int64).toInt = 1000 := rfl
  rw [e] at k2 k4
  rw [e1] at k1
  refine ⟨?_, hm⟩
  omega
theorem own_near0 (a b : Int32) (h : a < (1 : Int32)) : (own_max (1 : Int64) (((1735689600000 : Int64) + a.toInt64 * (1000 : Int64) + ((b &&& (2147483647 : Int32)) % (1000 : Int32)).toInt64 - (1735689600000 : Int64)) / (1000 : Int64))).toInt32 = (1 : Int32) := by
  apply own_one
  obtain ⟨h1, h2⟩ := own_near a b
  rw [own_div, h1]
  have e1 : (1 : Int32).toInt = 1 := rfl
  rw [Int32.lt_iff_toInt_lt, e1] at h
  generalize (b &&& (2147483647 : Int32)).toInt = y at *
  by_cases q : 0 ≤ a.toInt * 1000 + y % 1000
  · rw [Int.tdiv_eq_ediv_of_nonneg q]; omega
  · have h5 : (a.toInt * 1000 + y % 1000) = -(-(a.toInt * 1000 + y % 1000)) := by omega
    rw [h5, Int.neg_tdiv, Int.tdiv_eq_ediv_of_nonneg (by omega)]
    omega
theorem own_near1 (a b : Int32) (h : ¬ a < (1 : Int32)) : (own_max (1 : Int64) (((1735689600000 : Int64) + a.toInt64 * (1000 : Int64) + ((b &&& (2147483647 : Int32)) % (1000 : Int32)).toInt64 - (1735689600000 : Int64)) / (1000 : Int64))).toInt32 = a := by
  obtain ⟨h1, h2⟩ := own_near a b
  have e1 : (1 : Int32).toInt = 1 := rfl
  have e2 : (1 : Int64).toInt = 1 := rfl
  rw [Int32.lt_iff_toInt_lt, e1] at h
  have h3 := own_div ((1735689600000 : Int64) + a.toInt64 * (1000 : Int64) + ((b &&& (2147483647 : Int32)) % (1000 : Int32)).toInt64 - (1735689600000 : Int64))
  rw [h1] at h3
  generalize (b &&& (2147483647 : Int32)).toInt = y at *
  rw [Int.tdiv_eq_ediv_of_nonneg (by omega)] at h3
  have h4 : (a.toInt * 1000 + y % 1000) / 1000 = a.toInt := by omega
  rw [h4] at h3
  have h5 : ((1735689600000 : Int64) + a.toInt64 * (1000 : Int64) + ((b &&& (2147483647 : Int32)) % (1000 : Int32)).toInt64 - (1735689600000 : Int64)) / (1000 : Int64) = a.toInt64 := Int64.toInt_inj.mp (by rw [h3, Int32.toInt_toInt64])
  rw [h5, own_mx]
  split
  · exact Int32.toInt32_toInt64 a
  · rename_i q
    rw [Int64.lt_iff_toInt_lt, Int32.toInt_toInt64, e2] at q
    have : a.toInt = 1 := by omega
    exact (Int32.toInt_inj.mp (by rw [this]; rfl))
theorem pn_rm0 : plainName "com/example/gridwire/gridwire/service/ClusterFirstVersionPinLaw" = true := by first | (simp [plainName, overriddenIn]; done) | decide +kernel
theorem pd0_0 : parseMethodDescriptor "(J)I" = some ⟨[.long], some .int⟩ := by decide +kernel
theorem ef_rm0 (m : MethodId) (p0 : Int32) (p1 : Int32) (q2 : Int64) (p3 : Int32) : entryFrame m #[(.int p0), (.int p1), (.long q2), (.int p3)] maxLocals = mkF m 0 #[.val (.int p0), .val (.int p1), .val (.long q2), .second, .val (.int p3), .unset, .unset, .unset, .unset, .unset, .unset] [] := by first | (simp [entryFrame, mkF, argsToLocals, Value.category, maxLocals]; done) | rfl
def Q_rm0 (Z : State) (p0 : Int32) (p1 : Int32) (q2 : Int64) (p3 : Int32) (h0 : Heap) (n0 : Nat) (v : Option Value) (h : Heap) (L : List Loc) : Prop := v = some (.int (1 : Int32)) ∧ Fr n0 L
set_option maxRecDepth 65536 in
set_option maxHeartbeats 40000000 in
theorem rm0 (l : Launch) (Z : State) (a0 : Array Value) (hw : ∀ d ∈ tables_1, d.before a0 Z = true) (ws : List Jvm.Cond) (p0 : Int32) (p1 : Int32) (q2 : Int64) (p3 : Int32) (h0 : Heap) (n0 : Nat) (Z0 : n0 ≤ h0.size) (Ol : Old Z n0 h0) (S_ep : Sta Z Z.heap "com/example/gridwire/gridwire/service/Cluster" "VERSION_EPOCH_MILLIS" "J" (.long (1735689600000 : Int64))) :
    MetFree l x (head1 (Jvm.Cond.code x code maxLocals ret :: ws) room_1) (fun a U => a = #[(.int p0), (.int p1), (.long q2), (.int p3)] ∧ Z.Warmed39 U.vm ∧ U.heap = h0) (fun _ _ _ _ _ => True) (fun _ U o U' => ∃ v L, o = .returned v ∧ Q_rm0 Z p0 p1 q2 p3 h0 n0 v U'.heap L ∧ FrameEnd U o U' L room_1.cells room_1.slots) := by
  refine MetFree.of_bodySF (plainFor_of_name pn_rm0) hisR ?_
  intro p e s m args below meth c s₁ Bd hml0 hP hK
  obtain ⟨rfl, hZ, hh⟩ := hP
  have hx := Bd.exec
  have hby := Bd.bytes
  have hml : c.maxLocals = 11 := hml0
  have hown : s.vm.findClass "com/example/gridwire/gridwire/service/ClusterFirstVersionPinLaw" = some m.cls := findClass_of_methodNamed Bd.named
  have hnm := (name_of_methodNamed Bd.named Bd.method).1
  have X0 : Stand p l e room_1 s m #[(.int p0), (.int p1), (.long q2), (.int p3)] below meth c s₁ [] 0 0 := Stand.of_body Bd
  have e0 : s₁.heap = h0 := by rw [← hh, Bd.state]; rfl
  have N0 := Fr.nil n0
  have K0 := Keep.refl h0 []
  have go0 : Go p e below (s₁.setTop (entryFrame m #[(.int p0), (.int p1), (.long q2), (.int p3)] maxLocals)) (s₁.setTop (mkF m 0 #[.val (.int p0), .val (.int p1), .val (.long q2), .second, .val (.int p3), .unset, .unset, .unset, .unset, .unset, .unset] [])) := fun t k => castTop (ef_rm0 m p0 p1 q2 p3) k
  have go2 := go0.step (C := s₁.setTop (mkF m 4 #[.val (.int p0), .val (.int p1), .val (.long q2), .second, .val (.int p3), .unset, .unset, .unset, .unset, .unset, .unset] [(.int (p3 &&& (1 : Int32)))])) (fun t k => by
    show Steps p.tables e below (s₁.setTop (mkF m 0 #[.val (.int p0), .val (.int p1), .val (.long q2), .second, .val (.int p3), .unset, .unset, .unset, .unset, .unset, .unset] [])) _
    refine XS.iload X0.here hx rfl (hb hby at_0) rfl ?_
    show Steps p.tables e below (s₁.setTop (mkF m 2 #[.val (.int p0), .val (.int p1), .val (.long q2), .second, .val (.int p3), .unset, .unset, .unset, .unset, .unset, .unset] [(.int p3)])) _
    refine XS.iconst X0.here hx rfl (hb hby at_2) ?_
    show Steps p.tables e below (s₁.setTop (mkF m 3 #[.val (.int p0), .val (.int p1), .val (.long q2), .second, .val (.int p3), .unset, .unset, .unset, .unset, .unset, .unset] [(.int (1 : Int32)), (.int p3)])) _
    refine XS.iand X0.here hx rfl (hb hby at_3) rfl ?_
    exact k)
  by_cases hc1 : (p3 &&& (1 : Int32)) = (0 : Int32)
  · skip
    have go5 := go2.step (C := s₁.setTop (mkF m 64 #[.val (.int p0), .val (.int p1), .val (.long q2), .second, .val (.int p3), .val (.int (0 : Int32)), .val (.long (((1735689600000 : Int64) + ((p0.toInt64) * (1000 : Int64))) + (((p1 &&& (2147483647 : Int32)) % (1000 : Int32)).toInt64))), .second, .unset, .val (.long (((p1 &&& (2147483647 : Int32)) % (1000 : Int32)).toInt64)), .second] [(.int (1 : Int32)), (.int p0)])) (fun t k => by
      show Steps p.tables e below (s₁.setTop (mkF m 4 #[.val (.int p0), .val (.int p1), .val (.long q2), .second, .val (.int p3), .unset, .unset, .unset, .unset, .unset, .unset] [(.int (p3 &&& (1 : Int32)))])) _
      refine XS.ifYes X0.here hx rfl (pc0 := 4) (pc' := 11) rfl (hb hby at_4) rfl ((if0 _ _).trans (teq hc1).1) (by decide) (by decide) ?_
      show Steps p.tables e below (s₁.setTop (mkF m 11 #[.val (.int p0), .val (.int p1), .val (.long q2), .second, .val (.int p3), .unset, .unset, .unset, .unset, .unset, .unset] [])) _
      refine XS.iconst X0.here hx rfl (hb hby at_11) ?_
      show Steps p.tables e below (s₁.setTop (mkF m 12 #[.val (.int p0), .val (.int p1), .val (.long q2), .second, .val (.int p3), .unset, .unset, .unset, .unset, .unset, .unset] [(.int (0 : Int32))])) _
      refine XS.istore X0.here hx rfl (hb hby at_12) rfl (l' := #[.val (.int p0), .val (.int p1), .val (.long q2), .second, .val (.int p3), .val (.int (0 : Int32)), .unset, .unset, .unset, .unset, .unset]) rfl ?_
      show Steps p.tables e below (s₁.setTop (mkF m 14 #[.val (.int p0), .val (.int p1), .val (.long q2), .second, .val (.int p3), .val (.int (0 : Int32)), .unset, .unset, .unset, .unset, .unset] [])) _
      refine XS.iload X0.here hx rfl (hb hby at_14) rfl ?_
      show Steps p.tables e below (s₁.setTop (mkF m 16 #[.val (.int p0), .val (.int p1), .val (.long q2), .second, .val (.int p3), .val (.int (0 : Int32)), .unset, .unset, .unset, .unset, .unset] [(.int (0 : Int32))])) _
      refine XS.ifYes X0.here hx rfl (pc0 := 16) (pc' := 36) rfl (hb hby at_16) rfl ((if0 _ _).trans (teq ((by decide) : (0 : Int32) = (0 : Int32))).1) (by decide) (by decide) ?_
      show Steps p.tables e below (s₁.setTop (mkF m 36 #[.val (.int p0), .val (.int p1), .val (.long q2), .second, .val (.int p3), .val (.int (0 : Int32)), .unset, .unset, .unset, .unset, .unset] [])) _
      refine XS.iloadN X0.here hx rfl (hb hby at_36) rfl ?_
      show Steps p.tables e below (s₁.setTop (mkF m 37 #[.val (.int p0), .val (.int p1), .val (.long q2), .second, .val (.int p3), .val (.int (0 : Int32)), .unset, .unset, .unset, .unset, .unset] [(.int p1)])) _
      refine X0.ldcInt hx hown (mvT hZ (hw _ (List.mem_of_getElem? (i := 0) rfl))) (g := (mkF m 37 #[.val (.int p0), .val (.int p1), .val (.long q2), .second, .val (.int p3), .val (.int (0 : Int32)), .unset, .unset, .unset, .unset, .unset] [(.int p1)])) rfl (hb hby at_37) _ ?_
      show Steps p.tables e below (s₁.setTop (mkF m 39 #[.val (.int p0), .val (.int p1), .val (.long q2), .second, .val (.int p3), .val (.int (0 : Int32)), .unset, .unset, .unset, .unset, .unset] [(.int (2147483647 : Int32)), (.int p1)])) _
      refine XS.iand X0.here hx rfl (hb hby at_39) rfl ?_
      show Steps p.tables e below (s₁.setTop (mkF m 40 #[.val (.int p0), .val (.int p1), .val (.long q2), .second, .val (.int p3), .val (.int (0 : Int32)), .unset, .unset, .unset, .unset, .unset] [(.int (p1 &&& (2147483647 : Int32)))])) _
      refine XS.sipush X0.here hx rfl (hb hby at_40) ?_
      show Steps p.tables e below (s₁.setTop (mkF m 43 #[.val (.int p0), .val (.int p1), .val (.long q2), .second, .val (.int p3), .val (.int (0 : Int32)), .unset, .unset, .unset, .unset, .unset] [(.int (1000 : Int32)), (.int (p1 &&& (2147483647 : Int32)))])) _
      refine iremM X0 hx rfl (hb hby at_43) rfl (by decide) ?_
      show Steps p.tables e below (s₁.setTop (mkF m 44 #[.val (.int p0), .val (.int p1), .val (.long q2), .second, .val (.int p3), .val (.int (0 : Int32)), .unset, .unset, .unset, .unset, .unset] [(.int ((p1 &&& (2147483647 : Int32)) % (1000 : Int32)))])) _
      refine XS.i2l X0.here hx rfl (hb hby at_44) rfl ?_
      show Steps p.tables e below (s₁.setTop (mkF m 45 #[.val (.int p0), .val (.int p1), .val (.long q2), .second, .val (.int p3), .val (.int (0 : Int32)), .unset, .unset, .unset, .unset, .unset] [(.long (((p1 &&& (2147483647 : Int32)) % (1000 : Int32)).toInt64))])) _
      refine XS.lstore X0.here hx rfl (hb hby at_45) rfl (l' := #[.val (.int p0), .val (.int p1), .val (.long q2), .second, .val (.int p3), .val (.int (0 : Int32)), .unset, .unset, .unset, .val (.long (((p1 &&& (2147483647 : Int32)) % (1000 : Int32)).toInt64)), .second]) rfl ?_
      show Steps p.tables e below (s₁.setTop (mkF m 47 #[.val (.int p0), .val (.int p1), .val (.long q2), .second, .val (.int p3), .val (.int (0 : Int32)), .unset, .unset, .unset, .val (.long (((p1 &&& (2147483647 : Int32)) % (1000 : Int32)).toInt64)), .second] [])) _
      refine X0.ldc2Long hx hown (mvT hZ (hw _ (List.mem_of_getElem? (i := 1) rfl))) (g := (mkF m 47 #[.val (.int p0), .val (.int p1), .val (.long q2), .second, .val (.int p3), .val (.int (0 : Int32)), .unset, .unset, .unset, .val (.long (((p1 &&& (2147483647 : Int32)) % (1000 : Int32)).toInt64)), .second] [])) rfl (hb hby at_47) _ ?_
      show Steps p.tables e below (s₁.setTop (mkF m 50 #[.val (.int p0), .val (.int p1), .val (.long q2), .second, .val (.int p3), .val (.int (0 : Int32)), .unset, .unset, .unset, .val (.long (((p1 &&& (2147483647 : Int32)) % (1000 : Int32)).toInt64)), .second] [(.long (1735689600000 : Int64))])) _
      refine XS.iloadN X0.here hx rfl (hb hby at_50) rfl ?_
      show Steps p.tables e below (s₁.setTop (mkF m 51 #[.val (.int p0), .val (.int p1), .val (.long q2), .second, .val (.int p3), .val (.int (0 : Int32)), .unset, .unset, .unset, .val (.long (((p1 &&& (2147483647 : Int32)) % (1000 : Int32)).toInt64)), .second] [(.int p0), (.long (1735689600000 : Int64))])) _
      refine XS.i2l X0.here hx rfl (hb hby at_51) rfl ?_
      show Steps p.tables e below (s₁.setTop (mkF m 52 #[.val (.int p0), .val (.int p1), .val (.long q2), .second, .val (.int p3), .val (.int (0 : Int32)), .unset, .unset, .unset, .val (.long (((p1 &&& (2147483647 : Int32)) % (1000 : Int32)).toInt64)), .second] [(.long (p0.toInt64)), (.long (1735689600000 : Int64))])) _
      refine X0.ldc2Long hx hown (mvT hZ (hw _ (List.mem_of_getElem? (i := 2) rfl))) (g := (mkF m 52 #[.val (.int p0), .val (.int p1), .val (.long q2), .second, .val (.int p3), .val (.int (0 : Int32)), .unset, .unset, .unset, .val (.long (((p1 &&& (2147483647 : Int32)) % (1000 : Int32)).toInt64)), .second] [(.long (p0.toInt64)), (.long (1735689600000 : Int64))])) rfl (hb hby at_52) _ ?_
      show Steps p.tables e below (s₁.setTop (mkF m 55 #[.val (.int p0), .val (.int p1), .val (.long q2), .second, .val (.int p3), .val (.int (0 : Int32)), .unset, .unset, .unset, .val (.long (((p1 &&& (2147483647 : Int32)) % (1000 : Int32)).toInt64)), .second] [(.long (1000 : Int64)), (.long (p0.toInt64)), (.long (1735689600000 : Int64))])) _
      refine XS.lmul X0.here hx rfl (hb hby at_55) rfl ?_
      show Steps p.tables e below (s₁.setTop (mkF m 56 #[.val (.int p0), .val (.int p1), .val (.long q2), .second, .val (.int p3), .val (.int (0 : Int32)), .unset, .unset, .unset, .val (.long (((p1 &&& (2147483647 : Int32)) % (1000 : Int32)).toInt64)), .second] [(.long ((p0.toInt64) * (1000 : Int64))), (.long (1735689600000 : Int64))])) _
      refine XS.ladd X0.here hx rfl (hb hby at_56) rfl ?_
      show Steps p.tables e below (s₁.setTop (mkF m 57 #[.val (.int p0), .val (.int p1), .val (.long q2), .second, .val (.int p3), .val (.int (0 : Int32)), .unset, .unset, .unset, .val (.long (((p1 &&& (2147483647 : Int32)) % (1000 : Int32)).toInt64)), .second] [(.long ((1735689600000 : Int64) + ((p0.toInt64) * (1000 : Int64))))])) _
      refine XS.lload X0.here hx rfl (hb hby at_57) rfl ?_
      show Steps p.tables e below (s₁.setTop (mkF m 59 #[.val (.int p0), .val (.int p1), .val (.long q2), .second, .val (.int p3), .val (.int (0 : Int32)), .unset, .unset, .unset, .val (.long (((p1 &&& (2147483647 : Int32)) % (1000 : Int32)).toInt64)), .second] [(.long (((p1 &&& (2147483647 : Int32)) % (1000 : Int32)).toInt64)), (.long ((1735689600000 : Int64) + ((p0.toInt64) * (1000 : Int64))))])) _
      refine XS.ladd X0.here hx rfl (hb hby at_59) rfl ?_
      show Steps p.tables e below (s₁.setTop (mkF m 60 #[.val (.int p0), .val (.int p1), .val (.long q2), .second, .val (.int p3), .val (.int (0 : Int32)), .unset, .unset, .unset, .val (.long (((p1 &&& (2147483647 : Int32)) % (1000 : Int32)).toInt64)), .second] [(.long (((1735689600000 : Int64) + ((p0.toInt64) * (1000 : Int64))) + (((p1 &&& (2147483647 : Int32)) % (1000 : Int32)).toInt64)))])) _
      refine XS.lstore X0.here hx rfl (hb hby at_60) rfl (l' := #[.val (.int p0), .val (.int p1), .val (.long q2), .second, .val (.int p3), .val (.int (0 : Int32)), .val (.long (((1735689600000 : Int64) + ((p0.toInt64) * (1000 : Int64))) + (((p1 &&& (2147483647 : Int32)) % (1000 : Int32)).toInt64))), .second, .unset, .val (.long (((p1 &&& (2147483647 : Int32)) % (1000 : Int32)).toInt64)), .second]) rfl ?_
      show Steps p.tables e below (s₁.setTop (mkF m 62 #[.val (.int p0), .val (.int p1), .val (.long q2), .second, .val (.int p3), .val (.int (0 : Int32)), .val (.long (((1735689600000 : Int64) + ((p0.toInt64) * (1000 : Int64))) + (((p1 &&& (2147483647 : Int32)) % (1000 : Int32)).toInt64))), .second, .unset, .val (.long (((p1 &&& (2147483647 : Int32)) % (1000 : Int32)).toInt64)), .second] [])) _
      refine XS.iloadN X0.here hx rfl (hb hby at_62) rfl ?_
      show Steps p.tables e below (s₁.setTop (mkF m 63 #[.val (.int p0), .val (.int p1), .val (.long q2), .second, .val (.int p3), .val (.int (0 : Int32)), .val (.long (((1735689600000 : Int64) + ((p0.toInt64) * (1000 : Int64))) + (((p1 &&& (2147483647 : Int32)) % (1000 : Int32)).toInt64))), .second, .unset, .val (.long (((p1 &&& (2147483647 : Int32)) % (1000 : Int32)).toInt64)), .second] [(.int p0)])) _
      refine XS.iconst X0.here hx rfl (hb hby at_63) ?_
      exact k)
    by_cases hc4 : p0 < (1 : Int32)
    · skip
      have go6 := go5.step (C := s₁.setTop (mkF m 78 #[.val (.int p0), .val (.int p1), .val (.long q2), .second, .val (.int p3), .val (.int (0 : Int32)), .val (.long (((1735689600000 : Int64) + ((p0.toInt64) * (1000 : Int64))) + (((p1 &&& (2147483647 : Int32)) % (1000 : Int32)).toInt64))), .second, .val (.int (1 : Int32)), .val (.long (((p1 &&& (2147483647 : Int32)) % (1000 : Int32)).toInt64)), .second] [(.long (((1735689600000 : Int64) + ((p0.toInt64) * (1000 : Int64))) + (((p1 &&& (2147483647 : Int32)) % (1000 : Int32)).toInt64)))])) (fun t k => by
        show Steps p.tables e below (s₁.setTop (mkF m 64 #[.val (.int p0), .val (.int p1), .val (.long q2), .second, .val (.int p3), .val (.int (0 : Int32)), .val (.long (((1735689600000 : Int64) + ((p0.toInt64) * (1000 : Int64))) + (((p1 &&& (2147483647 : Int32)) % (1000 : Int32)).toInt64))), .second, .unset, .val (.long (((p1 &&& (2147483647 : Int32)) % (1000 : Int32)).toInt64)), .second] [(.int (1 : Int32)), (.int p0)])) _
        refine XS.icmpYes X0.here hx rfl (pc0 := 64) (pc' := 73) rfl (hb hby at_64) rfl (tlt hc4).1 (by decide) (by decide) ?_
        show Steps p.tables e below (s₁.setTop (mkF m 73 #[.val (.int p0), .val (.int p1), .val (.long q2), .second, .val (.int p3), .val (.int (0 : Int32)), .val (.long (((1735689600000 : Int64) + ((p0.toInt64) * (1000 : Int64))) + (((p1 &&& (2147483647 : Int32)) % (1000 : Int32)).toInt64))), .second, .unset, .val (.long (((p1 &&& (2147483647 : Int32)) % (1000 : Int32)).toInt64)), .second] [])) _
        refine XS.iconst X0.here hx rfl (hb hby at_73) ?_
        show Steps p.tables e below (s₁.setTop (mkF m 74 #[.val (.int p0), .val (.int p1), .val (.long q2), .second, .val (.int p3), .val (.int (0 : Int32)), .val (.long (((1735689600000 : Int64) + ((p0.toInt64) * (1000 : Int64))) + (((p1 &&& (2147483647 : Int32)) % (1000 : Int32)).toInt64))), .second, .unset, .val (.long (((p1 &&& (2147483647 : Int32)) % (1000 : Int32)).toInt64)), .second] [(.int (1 : Int32))])) _
        refine XS.istore X0.here hx rfl (hb hby at_74) rfl (l' := #[.val (.int p0), .val (.int p1), .val (.long q2), .second, .val (.int p3), .val (.int (0 : Int32)), .val (.long (((1735689600000 : Int64) + ((p0.toInt64) * (1000 : Int64))) + (((p1 &&& (2147483647 : Int32)) % (1000 : Int32)).toInt64))), .second, .val (.int (1 : Int32)), .val (.long (((p1 &&& (2147483647 : Int32)) % (1000 : Int32)).toInt64)), .second]) rfl ?_
        show Steps p.tables e below (s₁.setTop (mkF m 76 #[.val (.int p0), .val (.int p1), .val (.long q2), .second, .val (.int p3), .val (.int (0 : Int32)), .val (.long (((1735689600000 : Int64) + ((p0.toInt64) * (1000 : Int64))) + (((p1 &&& (2147483647 : Int32)) % (1000 : Int32)).toInt64))), .second, .val (.int (1 : Int32)), .val (.long (((p1 &&& (2147483647 : Int32)) % (1000 : Int32)).toInt64)), .second] [])) _
        refine XS.lload X0.here hx rfl (hb hby at_76) rfl ?_
        exact k)
      obtain ⟨_, _, ⟨T7, L7, k7, n7⟩, -, X7, ⟨Lc7, hQ7, l7, y7, z7⟩, st7⟩ := Jvm.LawKit.callS X0 hx (y := (⟨"com/example/gridwire/gridwire/service/Cluster", "firstVersion", "(J)I"⟩ : MethodName)) hown (mvT hZ (hw _ (List.mem_of_getElem? (i := 3) rfl))) (mvT hZ (hw _ (List.mem_of_getElem? (i := 4) rfl))) (mvT hZ (hw _ (List.mem_of_getElem? (i := 5) rfl))) (mvT hZ (hw _ (List.mem_of_getElem? (i := 6) rfl))) (by decide) (backOf (W := 0) (rm1 l Z a0 hw [] (((1735689600000 : Int64) + ((p0.toInt64) * (1000 : Int64))) + (((p1 &&& (2147483647 : Int32)) % (1000 : Int32)).toInt64)) h0 n0 Z0 Ol S_ep) hZ (hw _ (List.mem_of_getElem? (i := 6) rfl)) (hw _ (List.mem_of_getElem? (i := 5) rfl)) (by decide) (by decide)) (g := (mkF m 78 #[.val (.int p0), .val (.int p1), .val (.long q2), .second, .val (.int p3), .val (.int (0 : Int32)), .val (.long (((1735689600000 : Int64) + ((p0.toInt64) * (1000 : Int64))) + (((p1 &&& (2147483647 : Int32)) % (1000 : Int32)).toInt64))), .second, .val (.int (1 : Int32)), .val (.long (((p1 &&& (2147483647 : Int32)) % (1000 : Int32)).toInt64)), .second] [(.long (((1735689600000 : Int64) + ((p0.toInt64) * (1000 : Int64))) + (((p1 &&& (2147483647 : Int32)) % (1000 : Int32)).toInt64)))])) rfl (by rw [hml]; rfl) (argsL := [(.long (((1735689600000 : Int64) + ((p0.toInt64) * (1000 : Int64))) + (((p1 &&& (2147483647 : Int32)) % (1000 : Int32)).toInt64)))]) (rest := []) (lenOf pd0_0 rfl) rfl (by show 2 * 0 + _ ≤ _; exact Nat.le_of_eq rfl) (hb hby at_78) (fun _ _ => ⟨rfl, e0, (by decide : 0 + 0 ≤ _), (by decide : 0 + 0 ≤ _)⟩)
      dsimp only [Pt.U, Pt.locs, Pt.cells, Pt.slots] at X7 l7 y7 z7 st7 hQ7
      subst l7 y7 z7
      obtain ⟨rfl, N7q, e7⟩ := hQ7
      have N7 := Fr.app N0 N7q
      have go7 := go6.step (C := T7.setTop (mkF m 81 #[.val (.int p0), .val (.int p1), .val (.long q2), .second, .val (.int p3), .val (.int (0 : Int32)), .val (.long (((1735689600000 : Int64) + ((p0.toInt64) * (1000 : Int64))) + (((p1 &&& (2147483647 : Int32)) % (1000 : Int32)).toInt64))), .second, .val (.int (1 : Int32)), .val (.long (((p1 &&& (2147483647 : Int32)) % (1000 : Int32)).toInt64)), .second] [(.int (own_max (1 : Int64) (((((1735689600000 : Int64) + ((p0.toInt64) * (1000 : Int64))) + (((p1 &&& (2147483647 : Int32)) % (1000 : Int32)).toInt64)) - (1735689600000 : Int64)) / (1000 : Int64))).toInt32)])) (fun t k => st7 t k)
      have go9 := go7.step (C := T7.setTop (mkF m 91 #[.val (.int p0), .val (.int p1), .val (.long q2), .second, .val (.int p3), .val (.int (0 : Int32)), .val (.long (((1735689600000 : Int64) + ((p0.toInt64) * (1000 : Int64))) + (((p1 &&& (2147483647 : Int32)) % (1000 : Int32)).toInt64))), .second, .val (.int (1 : Int32)), .val (.long (((p1 &&& (2147483647 : Int32)) % (1000 : Int32)).toInt64)), .second] [(.int (1 : Int32))])) (fun t k => by
        show Steps p.tables e below (T7.setTop (mkF m 81 #[.val (.int p0), .val (.int p1), .val (.long q2), .second, .val (.int p3), .val (.int (0 : Int32)), .val (.long (((1735689600000 : Int64) + ((p0.toInt64) * (1000 : Int64))) + (((p1 &&& (2147483647 : Int32)) % (1000 : Int32)).toInt64))), .second, .val (.int (1 : Int32)), .val (.long (((p1 &&& (2147483647 : Int32)) % (1000 : Int32)).toInt64)), .second] [(.int (own_max (1 : Int64) (((((1735689600000 : Int64) + ((p0.toInt64) * (1000 : Int64))) + (((p1 &&& (2147483647 : Int32)) % (1000 : Int32)).toInt64)) - (1735689600000 : Int64)) / (1000 : Int64))).toInt32)])) _
        refine XS.iload X7.here hx rfl (hb hby at_81) rfl ?_
        show Steps p.tables e below (T7.setTop (mkF m 83 #[.val (.int p0), .val (.int p1), .val (.long q2), .second, .val (.int p3), .val (.int (0 : Int32)), .val (.long (((1735689600000 : Int64) + ((p0.toInt64) * (1000 : Int64))) + (((p1 &&& (2147483647 : Int32)) % (1000 : Int32)).toInt64))), .second, .val (.int (1 : Int32)), .val (.long (((p1 &&& (2147483647 : Int32)) % (1000 : Int32)).toInt64)), .second] [(.int (1 : Int32)), (.int (own_max (1 : Int64) (((((1735689600000 : Int64) + ((p0.toInt64) * (1000 : Int64))) + (((p1 &&& (2147483647 : Int32)) % (1000 : Int32)).toInt64)) - (1735689600000 : Int64)) / (1000 : Int64))).toInt32)])) _
        refine XS.icmpNo X7.here hx rfl (hb hby at_83) rfl (teq (own_near0 _ _ hc4 : (own_max (1 : Int64) (((((1735689600000 : Int64) + ((p0.toInt64) * (1000 : Int64))) + (((p1 &&& (2147483647 : Int32)) % (1000 : Int32)).toInt64)) - (1735689600000 : Int64)) / (1000 : Int64))).toInt32 = (1 : Int32))).2 ?_
        show Steps p.tables e below (T7.setTop (mkF m 86 #[.val (.int p0), .val (.int p1), .val (.long q2), .second, .val (.int p3), .val (.int (0 : Int32)), .val (.long (((1735689600000 : Int64) + ((p0.toInt64) * (1000 : Int64))) + (((p1 &&& (2147483647 : Int32)) % (1000 : Int32)).toInt64))), .second, .val (.int (1 : Int32)), .val (.long (((p1 &&& (2147483647 : Int32)) % (1000 : Int32)).toInt64)), .second] [])) _
        refine XS.iconst X7.here hx rfl (hb hby at_86) ?_
        show Steps p.tables e below (T7.setTop (mkF m 87 #[.val (.int p0), .val (.int p1), .val (.long q2), .second, .val (.int p3), .val (.int (0 : Int32)), .val (.long (((1735689600000 : Int64) + ((p0.toInt64) * (1000 : Int64))) + (((p1 &&& (2147483647 : Int32)) % (1000 : Int32)).toInt64))), .second, .val (.int (1 : Int32)), .val (.long (((p1 &&& (2147483647 : Int32)) % (1000 : Int32)).toInt64)), .second] [(.int (1 : Int32))])) _
        refine XS.goto X7.here hx rfl (pc0 := 87) (pc' := 91) rfl (hb hby at_87) (by decide) (by decide) ?_
        exact k)
      obtain ⟨fs, hr, hrun, hended, hW, hsame⟩ := X7.leave (v := some (.int (1 : Int32))) (fun h => by rw [Bd.returns] at h; cases h)
      refine ⟨_, _, go9 _ ?_, hrun, hended, _, _, rfl, ?_, ⟨_, rfl⟩, hW, hsame.mono (by decide) (by decide)⟩
      · exact retN X7 hx (t := .boolean) Bd.returns (by simp) (hb hby at_91) hr
      · show Q_rm0 Z p0 p1 q2 p3 h0 n0 _ T7.heap _
        rw [e7]
        exact ⟨rfl, N7⟩
    · skip
      have go10 := go5.step (C := s₁.setTop (mkF m 78 #[.val (.int p0), .val (.int p1), .val (.long q2), .second, .val (.int p3), .val (.int (0 : Int32)), .val (.long (((1735689600000 : Int64) + ((p0.toInt64) * (1000 : Int64))) + (((p1 &&& (2147483647 : Int32)) % (1000 : Int32)).toInt64))), .second, .val (.int p0), .val (.long (((p1 &&& (2147483647 : Int32)) % (1000 : Int32)).toInt64)), .second] [(.long (((1735689600000 : Int64) + ((p0.toInt64) * (1000 : Int64))) + (((p1 &&& (2147483647 : Int32)) % (1000 : Int32)).toInt64)))])) (fun t k => by
        show Steps p.tables e below (s₁.setTop (mkF m 64 #[.val (.int p0), .val (.int p1), .val (.long q2), .second, .val (.int p3), .val (.int (0 : Int32)), .val (.long (((1735689600000 : Int64) + ((p0.toInt64) * (1000 : Int64))) + (((p1 &&& (2147483647 : Int32)) % (1000 : Int32)).toInt64))), .second, .unset, .val (.long (((p1 &&& (2147483647 : Int32)) % (1000 : Int32)).toInt64)), .second] [(.int (1 : Int32)), (.int p0)])) _
        refine XS.icmpNo X0.here hx rfl (hb hby at_64) rfl (flt hc4).1 ?_
        show Steps p.tables e below (s₁.setTop (mkF m 67 #[.val (.int p0), .val (.int p1), .val (.long q2), .second, .val (.int p3), .val (.int (0 : Int32)), .val (.long (((1735689600000 : Int64) + ((p0.toInt64) * (1000 : Int64))) + (((p1 &&& (2147483647 : Int32)) % (1000 : Int32)).toInt64))), .second, .unset, .val (.long (((p1 &&& (2147483647 : Int32)) % (1000 : Int32)).toInt64)), .second] [])) _
        refine XS.iloadN X0.here hx rfl (hb hby at_67) rfl ?_
        show Steps p.tables e below (s₁.setTop (mkF m 68 #[.val (.int p0), .val (.int p1), .val (.long q2), .second, .val (.int p3), .val (.int (0 : Int32)), .val (.long (((1735689600000 : Int64) + ((p0.toInt64) * (1000 : Int64))) + (((p1 &&& (2147483647 : Int32)) % (1000 : Int32)).toInt64))), .second, .unset, .val (.long (((p1 &&& (2147483647 : Int32)) % (1000 : Int32)).toInt64)), .second] [(.int p0)])) _
        refine XS.istore X0.here hx rfl (hb hby at_68) rfl (l' := #[.val (.int p0), .val (.int p1), .val (.long q2), .second, .val (.int p3), .val (.int (0 : Int32)), .val (.long (((1735689600000 : Int64) + ((p0.toInt64) * (1000 : Int64))) + (((p1 &&& (2147483647 : Int32)) % (1000 : Int32)).toInt64))), .second, .val (.int p0), .val (.long (((p1 &&& (2147483647 : Int32)) % (1000 : Int32)).toInt64)), .second]) rfl ?_
        show Steps p.tables e below (s₁.setTop (mkF m 70 #[.val (.int p0), .val (.int p1), .val (.long q2), .second, .val (.int p3), .val (.int (0 : Int32)), .val (.long (((1735689600000 : Int64) + ((p0.toInt64) * (1000 : Int64))) + (((p1 &&& (2147483647 : Int32)) % (1000 : Int32)).toInt64))), .second, .val (.int p0), .val (.long (((p1 &&& (2147483647 : Int32)) % (1000 : Int32)).toInt64)), .second] [])) _
        refine XS.goto X0.here hx rfl (pc0 := 70) (pc' := 76) rfl (hb hby at_70) (by decide) (by decide) ?_
        show Steps p.tables e below (s₁.setTop (mkF m 76 #[.val (.int p0), .val (.int p1), .val (.long q2), .second, .val (.int p3), .val (.int (0 : Int32)), .val (.long (((1735689600000 : Int64) + ((p0.toInt64) * (1000 : Int64))) + (((p1 &&& (2147483647 : Int32)) % (1000 : Int32)).toInt64))), .second, .val (.int p0), .val (.long (((p1 &&& (2147483647 : Int32)) % (1000 : Int32)).toInt64)), .second] [])) _
        refine XS.lload X0.here hx rfl (hb hby at_76) rfl ?_
        exact k)
      obtain ⟨_, _, ⟨T11, L11, k11, n11⟩, -, X11, ⟨Lc11, hQ11, l11, y11, z11⟩, st11⟩ := Jvm.LawKit.callS X0 hx (y := (⟨"com/example/gridwire/gridwire/service/Cluster", "firstVersion", "(J)I"⟩ : MethodName)) hown (mvT hZ (hw _ (List.mem_of_getElem? (i := 3) rfl))) (mvT hZ (hw _ (List.mem_of_getElem? (i := 4) rfl))) (mvT hZ (hw _ (List.mem_of_getElem? (i := 5) rfl))) (mvT hZ (hw _ (List.mem_of_getElem? (i := 6) rfl))) (by decide) (backOf (W := 0) (rm1 l Z a0 hw [] (((1735689600000 : Int64) + ((p0.toInt64) * (1000 : Int64))) + (((p1 &&& (2147483647 : Int32)) % (1000 : Int32)).toInt64)) h0 n0 Z0 Ol S_ep) hZ (hw _ (List.mem_of_getElem? (i := 6) rfl)) (hw _ (List.mem_of_getElem? (i := 5) rfl)) (by decide) (by decide)) (g := (mkF m 78 #[.val (.int p0), .val (.int p1), .val (.long q2), .second, .val (.int p3), .val (.int (0 : Int32)), .val (.long (((1735689600000 : Int64) + ((p0.toInt64) * (1000 : Int64))) + (((p1 &&& (2147483647 : Int32)) % (1000 : Int32)).toInt64))), .second, .val (.int p0), .val (.long (((p1 &&& (2147483647 : Int32)) % (1000 : Int32)).toInt64)), .second] [(.long (((1735689600000 : Int64) + ((p0.toInt64) * (1000 : Int64))) + (((p1 &&& (2147483647 : Int32)) % (1000 : Int32)).toInt64)))])) rfl (by rw [hml]; rfl) (argsL := [(.long (((1735689600000 : Int64) + ((p0.toInt64) * (1000 : Int64))) + (((p1 &&& (2147483647 : Int32)) % (1000 : Int32)).toInt64)))]) (rest := []) (lenOf pd0_0 rfl) rfl (by show 2 * 0 + _ ≤ _; exact Nat.le_of_eq rfl) (hb hby at_78) (fun _ _ => ⟨rfl, e0, (by decide : 0 + 0 ≤ _), (by decide : 0 + 0 ≤ _)⟩)
      dsimp only [Pt.U, Pt.locs, Pt.cells, Pt.slots] at X11 l11 y11 z11 st11 hQ11
      subst l11 y11 z11
      obtain ⟨rfl, N11q, e11⟩ := hQ11
      have N11 := Fr.app N0 N11q
      have go11 := go10.step (C := T11.setTop (mkF m 81 #[.val (.int p0), .val (.int p1), .val (.long q2), .second, .val (.int p3), .val (.int (0 : Int32)), .val (.long (((1735689600000 : Int64) + ((p0.toInt64) * (1000 : Int64))) + (((p1 &&& (2147483647 : Int32)) % (1000 : Int32)).toInt64))), .second, .val (.int p0), .val (.long (((p1 &&& (2147483647 : Int32)) % (1000 : Int32)).toInt64)), .second] [(.int (own_max (1 : Int64) (((((1735689600000 : Int64) + ((p0.toInt64) * (1000 : Int64))) + (((p1 &&& (2147483647 : Int32)) % (1000 : Int32)).toInt64)) - (1735689600000 : Int64)) / (1000 : Int64))).toInt32)])) (fun t k => st11 t k)
      have go13 := go11.step (C := T11.setTop (mkF m 91 #[.val (.int p0), .val (.int p1), .val (.long q2), .second, .val (.int p3), .val (.int (0 : Int32)), .val (.long (((1735689600000 : Int64) + ((p0.toInt64) * (1000 : Int64))) + (((p1 &&& (2147483647 : Int32)) % (1000 : Int32)).toInt64))), .second, .val (.int p0), .val (.long (((p1 &&& (2147483647 : Int32)) % (1000 : Int32)).toInt64)), .second] [(.int (1 : Int32))])) (fun t k => by
        show Steps p.tables e below (T11.setTop (mkF m 81 #[.val (.int p0), .val (.int p1), .val (.long q2), .second, .val (.int p3), .val (.int (0 : Int32)), .val (.long (((1735689600000 : Int64) + ((p0.toInt64) * (1000 : Int64))) + (((p1 &&& (2147483647 : Int32)) % (1000 : Int32)).toInt64))), .second, .val (.int p0), .val (.long (((p1 &&& (2147483647 : Int32)) % (1000 : Int32)).toInt64)), .second] [(.int (own_max (1 : Int64) (((((1735689600000 : Int64) + ((p0.toInt64) * (1000 : Int64))) + (((p1 &&& (2147483647 : Int32)) % (1000 : Int32)).toInt64)) - (1735689600000 : Int64)) / (1000 : Int64))).toInt32)])) _
        refine XS.iload X11.here hx rfl (hb hby at_81) rfl ?_
        show Steps p.tables e below (T11.setTop (mkF m 83 #[.val (.int p0), .val (.int p1), .val (.long q2), .second, .val (.int p3), .val (.int (0 : Int32)), .val (.long (((1735689600000 : Int64) + ((p0.toInt64) * (1000 : Int64))) + (((p1 &&& (2147483647 : Int32)) % (1000 : Int32)).toInt64))), .second, .val (.int p0), .val (.long (((p1 &&& (2147483647 : Int32)) % (1000 : Int32)).toInt64)), .second] [(.int p0), (.int (own_max (1 : Int64) (((((1735689600000 : Int64) + ((p0.toInt64) * (1000 : Int64))) + (((p1 &&& (2147483647 : Int32)) % (1000 : Int32)).toInt64)) - (1735689600000 : Int64)) / (1000 : Int64))).toInt32)])) _
        refine XS.icmpNo X11.here hx rfl (hb hby at_83) rfl (teq (own_near1 _ _ hc4 : (own_max (1 : Int64) (((((1735689600000 : Int64) + ((p0.toInt64) * (1000 : Int64))) + (((p1 &&& (2147483647 : Int32)) % (1000 : Int32)).toInt64)) - (1735689600000 : Int64)) / (1000 : Int64))).toInt32 = p0)).2 ?_
        show Steps p.tables e below (T11.setTop (mkF m 86 #[.val (.int p0), .val (.int p1), .val (.long q2), .second, .val (.int p3), .val (.int (0 : Int32)), .val (.long (((1735689600000 : Int64) + ((p0.toInt64) * (1000 : Int64))) + (((p1 &&& (2147483647 : Int32)) % (1000 : Int32)).toInt64))), .second, .val (.int p0), .val (.long (((p1 &&& (2147483647 : Int32)) % (1000 : Int32)).toInt64)), .second] [])) _
        refine XS.iconst X11.here hx rfl (hb hby at_86) ?_
        show Steps p.tables e below (T11.setTop (mkF m 87 #[.val (.int p0), .val (.int p1), .val (.long q2), .second, .val (.int p3), .val (.int (0 : Int32)), .val (.long (((1735689600000 : Int64) + ((p0.toInt64) * (1000 : Int64))) + (((p1 &&& (2147483647 : Int32)) % (1000 : Int32)).toInt64))), .second, .val (.int p0), .val (.long (((p1 &&& (2147483647 : Int32)) % (1000 : Int32)).toInt64)), .second] [(.int (1 : Int32))])) _
        refine XS.goto X11.here hx rfl (pc0 := 87) (pc' := 91) rfl (hb hby at_87) (by decide) (by decide) ?_
        exact k)
      obtain ⟨fs, hr, hrun, hended, hW, hsame⟩ := X11.leave (v := some (.int (1 : Int32))) (fun h => by rw [Bd.returns] at h; cases h)
      refine ⟨_, _, go13 _ ?_, hrun, hended, _, _, rfl, ?_, ⟨_, rfl⟩, hW, hsame.mono (by decide) (by decide)⟩
      · exact retN X11 hx (t := .boolean) Bd.returns (by simp) (hb hby at_91) hr
      · show Q_rm0 Z p0 p1 q2 p3 h0 n0 _ T11.heap _
        rw [e11]
        exact ⟨rfl, N11⟩
  · skip
    have go15 := go2.step (C := s₁.setTop (mkF m 78 #[.val (.int p0), .val (.int p1), .val (.long q2), .second, .val (.int p3), .val (.int (1 : Int32)), .val (.long ((1735689600000 : Int64) - (q2 &&& (9223372036854775807 : Int64)))), .second, .val (.int (1 : Int32)), .unset, .unset] [(.long ((1735689600000 : Int64) - (q2 &&& (9223372036854775807 : Int64))))])) (fun t k => by
      show Steps p.tables e below (s₁.setTop (mkF m 4 #[.val (.int p0), .val (.int p1), .val (.long q2), .second, .val (.int p3), .unset, .unset, .unset, .unset, .unset, .unset] [(.int (p3 &&& (1 : Int32)))])) _
      refine XS.ifNo X0.here hx rfl (hb hby at_4) rfl ((if0 _ _).trans (feq hc1).1) ?_
      show Steps p.tables e below (s₁.setTop (mkF m 7 #[.val (.int p0), .val (.int p1), .val (.long q2), .second, .val (.int p3), .unset, .unset, .unset, .unset, .unset, .unset] [])) _
      refine XS.iconst X0.here hx rfl (hb hby at_7) ?_
      show Steps p.tables e below (s₁.setTop (mkF m 8 #[.val (.int p0), .val (.int p1), .val (.long q2), .second, .val (.int p3), .unset, .unset, .unset, .unset, .unset, .unset] [(.int (1 : Int32))])) _
      refine XS.goto X0.here hx rfl (pc0 := 8) (pc' := 12) rfl (hb hby at_8) (by decide) (by decide) ?_
      show Steps p.tables e below (s₁.setTop (mkF m 12 #[.val (.int p0), .val (.int p1), .val (.long q2), .second, .val (.int p3), .unset, .unset, .unset, .unset, .unset, .unset] [(.int (1 : Int32))])) _
      refine XS.istore X0.here hx rfl (hb hby at_12) rfl (l' := #[.val (.int p0), .val (.int p1), .val (.long q2), .second, .val (.int p3), .val (.int (1 : Int32)), .unset, .unset, .unset, .unset, .unset]) rfl ?_
      show Steps p.tables e below (s₁.setTop (mkF m 14 #[.val (.int p0), .val (.int p1), .val (.long q2), .second, .val (.int p3), .val (.int (1 : Int32)), .unset, .unset, .unset, .unset, .unset] [])) _
      refine XS.iload X0.here hx rfl (hb hby at_14) rfl ?_
      show Steps p.tables e below (s₁.setTop (mkF m 16 #[.val (.int p0), .val (.int p1), .val (.long q2), .second, .val (.int p3), .val (.int (1 : Int32)), .unset, .unset, .unset, .unset, .unset] [(.int (1 : Int32))])) _
      refine XS.ifNo X0.here hx rfl (hb hby at_16) rfl ((if0 _ _).trans (feq ((by decide) : ¬ ((1 : Int32) = (0 : Int32)))).1) ?_
      show Steps p.tables e below (s₁.setTop (mkF m 19 #[.val (.int p0), .val (.int p1), .val (.long q2), .second, .val (.int p3), .val (.int (1 : Int32)), .unset, .unset, .unset, .unset, .unset] [])) _
      refine X0.ldc2Long hx hown (mvT hZ (hw _ (List.mem_of_getElem? (i := 1) rfl))) (g := (mkF m 19 #[.val (.int p0), .val (.int p1), .val (.long q2), .second, .val (.int p3), .val (.int (1 : Int32)), .unset, .unset, .unset, .unset, .unset] [])) rfl (hb hby at_19) _ ?_
      show Steps p.tables e below (s₁.setTop (mkF m 22 #[.val (.int p0), .val (.int p1), .val (.long q2), .second, .val (.int p3), .val (.int (1 : Int32)), .unset, .unset, .unset, .unset, .unset] [(.long (1735689600000 : Int64))])) _
      refine XS.lloadN X0.here hx rfl (hb hby at_22) rfl ?_
      show Steps p.tables e below (s₁.setTop (mkF m 23 #[.val (.int p0), .val (.int p1), .val (.long q2), .second, .val (.int p3), .val (.int (1 : Int32)), .unset, .unset, .unset, .unset, .unset] [(.long q2), (.long (1735689600000 : Int64))])) _
      refine X0.ldc2Long hx hown (mvT hZ (hw _ (List.mem_of_getElem? (i := 14) rfl))) (g := (mkF m 23 #[.val (.int p0), .val (.int p1), .val (.long q2), .second, .val (.int p3), .val (.int (1 : Int32)), .unset, .unset, .unset, .unset, .unset] [(.long q2), (.long (1735689600000 : Int64))])) rfl (hb hby at_23) _ ?_
      show Steps p.tables e below (s₁.setTop (mkF m 26 #[.val (.int p0), .val (.int p1), .val (.long q2), .second, .val (.int p3), .val (.int (1 : Int32)), .unset, .unset, .unset, .unset, .unset] [(.long (9223372036854775807 : Int64)), (.long q2), (.long (1735689600000 : Int64))])) _
      refine XS.land X0.here hx rfl (hb hby at_26) rfl ?_
      show Steps p.tables e below (s₁.setTop (mkF m 27 #[.val (.int p0), .val (.int p1), .val (.long q2), .second, .val (.int p3), .val (.int (1 : Int32)), .unset, .unset, .unset, .unset, .unset] [(.long (q2 &&& (9223372036854775807 : Int64))), (.long (1735689600000 : Int64))])) _
      refine XS.lsub X0.here hx rfl (hb hby at_27) rfl ?_
      show Steps p.tables e below (s₁.setTop (mkF m 28 #[.val (.int p0), .val (.int p1), .val (.long q2), .second, .val (.int p3), .val (.int (1 : Int32)), .unset, .unset, .unset, .unset, .unset] [(.long ((1735689600000 : Int64) - (q2 &&& (9223372036854775807 : Int64))))])) _
      refine XS.lstore X0.here hx rfl (hb hby at_28) rfl (l' := #[.val (.int p0), .val (.int p1), .val (.long q2), .second, .val (.int p3), .val (.int (1 : Int32)), .val (.long ((1735689600000 : Int64) - (q2 &&& (9223372036854775807 : Int64)))), .second, .unset, .unset, .unset]) rfl ?_
      show Steps p.tables e below (s₁.setTop (mkF m 30 #[.val (.int p0), .val (.int p1), .val (.long q2), .second, .val (.int p3), .val (.int (1 : Int32)), .val (.long ((1735689600000 : Int64) - (q2 &&& (9223372036854775807 : Int64)))), .second, .unset, .unset, .unset] [])) _
      refine XS.iconst X0.here hx rfl (hb hby at_30) ?_
      show Steps p.tables e below (s₁.setTop (mkF m 31 #[.val (.int p0), .val (.int p1), .val (.long q2), .second, .val (.int p3), .val (.int (1 : Int32)), .val (.long ((1735689600000 : Int64) - (q2 &&& (9223372036854775807 : Int64)))), .second, .unset, .unset, .unset] [(.int (1 : Int32))])) _
      refine XS.istore X0.here hx rfl (hb hby at_31) rfl (l' := #[.val (.int p0), .val (.int p1), .val (.long q2), .second, .val (.int p3), .val (.int (1 : Int32)), .val (.long ((1735689600000 : Int64) - (q2 &&& (9223372036854775807 : Int64)))), .second, .val (.int (1 : Int32)), .unset, .unset]) rfl ?_
      show Steps p.tables e below (s₁.setTop (mkF m 33 #[.val (.int p0), .val (.int p1), .val (.long q2), .second, .val (.int p3), .val (.int (1 : Int32)), .val (.long ((1735689600000 : Int64) - (q2 &&& (9223372036854775807 : Int64)))), .second, .val (.int (1 : Int32)), .unset, .unset] [])) _
      refine XS.goto X0.here hx rfl (pc0 := 33) (pc' := 76) rfl (hb hby at_33) (by decide) (by decide) ?_
      show Steps p.tables e below (s₁.setTop (mkF m 76 #[.val (.int p0), .val (.int p1), .val (.long q2), .second, .val (.int p3), .val (.int (1 : Int32)), .val (.long ((1735689600000 : Int64) - (q2 &&& (9223372036854775807 : Int64)))), .second, .val (.int (1 : Int32)), .unset, .unset] [])) _
      refine XS.lload X0.here hx rfl (hb hby at_76) rfl ?_
      exact k)
    obtain ⟨_, _, ⟨T16, L16, k16, n16⟩, -, X16, ⟨Lc16, hQ16, l16, y16, z16⟩, st16⟩ := Jvm.LawKit.callS X0 hx (y := (⟨"com/example/gridwire/gridwire/service/Cluster", "firstVersion", "(J)I"⟩ : MethodName)) hown (mvT hZ (hw _ (List.mem_of_getElem? (i := 3) rfl))) (mvT hZ (hw _ (List.mem_of_getElem? (i := 4) rfl))) (mvT hZ (hw _ (List.mem_of_getElem? (i := 5) rfl))) (mvT hZ (hw _ (List.mem_of_getElem? (i := 6) rfl))) (by decide) (backOf (W := 0) (rm1 l Z a0 hw [] ((1735689600000 : Int64) - (q2 &&& (9223372036854775807 : Int64))) h0 n0 Z0 Ol S_ep) hZ (hw _ (List.mem_of_getElem? (i := 6) rfl)) (hw _ (List.mem_of_getElem? (i := 5) rfl)) (by decide) (by decide)) (g := (mkF m 78 #[.val (.int p0), .val (.int p1), .val (.long q2), .second, .val (.int p3), .val (.int (1 : Int32)), .val (.long ((1735689600000 : Int64) - (q2 &&& (9223372036854775807 : Int64)))), .second, .val (.int (1 : Int32)), .unset, .unset] [(.long ((1735689600000 : Int64) - (q2 &&& (9223372036854775807 : Int64))))])) rfl (by rw [hml]; rfl) (argsL := [(.long ((1735689600000 : Int64) - (q2 &&& (9223372036854775807 : Int64))))]) (rest := []) (lenOf pd0_0 rfl) rfl (by show 2 * 0 + _ ≤ _; exact Nat.le_of_eq rfl) (hb hby at_78) (fun _ _ => ⟨rfl, e0, (by decide : 0 + 0 ≤ _), (by decide : 0 + 0 ≤ _)⟩)
    dsimp only [Pt.U, Pt.locs, Pt.cells, Pt.slots] at X16 l16 y16 z16 st16 hQ16
    subst l16 y16 z16
    obtain ⟨rfl, N16q, e16⟩ := hQ16
    have N16 := Fr.app N0 N16q
    have go16 := go15.step (C := T16.setTop (mkF m 81 #[.val (.int p0), .val (.int p1), .val (.long q2), .second, .val (.int p3), .val (.int (1 : Int32)), .val (.long ((1735689600000 : Int64) - (q2 &&& (9223372036854775807 : Int64)))), .second, .val (.int (1 : Int32)), .unset, .unset] [(.int (own_max (1 : Int64) ((((1735689600000 : Int64) - (q2 &&& (9223372036854775807 : Int64))) - (1735689600000 : Int64)) / (1000 : Int64))).toInt32)])) (fun t k => st16 t k)
    have go18 := go16.step (C := T16.setTop (mkF m 91 #[.val (.int p0), .val (.int p1), .val (.long q2), .second, .val (.int p3), .val (.int (1 : Int32)), .val (.long ((1735689600000 : Int64) - (q2 &&& (9223372036854775807 : Int64)))), .second, .val (.int (1 : Int32)), .unset, .unset] [(.int (1 : Int32))])) (fun t k => by
      show Steps p.tables e below (T16.setTop (mkF m 81 #[.val (.int p0), .val (.int p1), .val (.long q2), .second, .val (.int p3), .val (.int (1 : Int32)), .val (.long ((1735689600000 : Int64) - (q2 &&& (9223372036854775807 : Int64)))), .second, .val (.int (1 : Int32)), .unset, .unset] [(.int (own_max (1 : Int64) ((((1735689600000 : Int64) - (q2 &&& (9223372036854775807 : Int64))) - (1735689600000 : Int64)) / (1000 : Int64))).toInt32)])) _
      refine XS.iload X16.here hx rfl (hb hby at_81) rfl ?_
      show Steps p.tables e below (T16.setTop (mkF m 83 #[.val (.int p0), .val (.int p1), .val (.long q2), .second, .val (.int p3), .val (.int (1 : Int32)), .val (.long ((1735689600000 : Int64) - (q2 &&& (9223372036854775807 : Int64)))), .second, .val (.int (1 : Int32)), .unset, .unset] [(.int (1 : Int32)), (.int (own_max (1 : Int64) ((((1735689600000 : Int64) - (q2 &&& (9223372036854775807 : Int64))) - (1735689600000 : Int64)) / (1000 : Int64))).toInt32)])) _
      refine XS.icmpNo X16.here hx rfl (hb hby at_83) rfl (teq (own_far _ : (own_max (1 : Int64) ((((1735689600000 : Int64) - (q2 &&& (9223372036854775807 : Int64))) - (1735689600000 : Int64)) / (1000 : Int64))).toInt32 = (1 : Int32))).2 ?_
      show Steps p.tables e below (T16.setTop (mkF m 86 #[.val (.int p0), .val (.int p1), .val (.long q2), .second, .val (.int p3), .val (.int (1 : Int32)), .val (.long ((1735689600000 : Int64) - (q2 &&& (9223372036854775807 : Int64)))), .second, .val (.int (1 : Int32)), .unset, .unset] [])) _
      refine XS.iconst X16.here hx rfl (hb hby at_86) ?_
      show Steps p.tables e below (T16.setTop (mkF m 87 #[.val (.int p0), .val (.int p1), .val (.long q2), .second, .val (.int p3), .val (.int (1 : Int32)), .val (.long ((1735689600000 : Int64) - (q2 &&& (9223372036854775807 : Int64)))), .second, .val (.int (1 : Int32)), .unset, .unset] [(.int (1 : Int32))])) _
      refine XS.goto X16.here hx rfl (pc0 := 87) (pc' := 91) rfl (hb hby at_87) (by decide) (by decide) ?_
      exact k)
    obtain ⟨fs, hr, hrun, hended, hW, hsame⟩ := X16.leave (v := some (.int (1 : Int32))) (fun h => by rw [Bd.returns] at h; cases h)
    refine ⟨_, _, go18 _ ?_, hrun, hended, _, _, rfl, ?_, ⟨_, rfl⟩, hW, hsame.mono (by decide) (by decide)⟩
    · exact retN X16 hx (t := .boolean) Bd.returns (by simp) (hb hby at_91) hr
    · show Q_rm0 Z p0 p1 q2 p3 h0 n0 _ T16.heap _
      rw [e16]
      exact ⟨rfl, N16⟩
theorem own_stl {args : Array Value} {s : State} {t : Term} {z : Int64} (h : (Jvm.Cond.eq t (Term.long z)).value args s none s [] = some true) : t.eval args s none [] s = some (.long z) := by
  obtain ⟨x, y, h1, h2, h3, h4⟩ := cmp_v (Or.inl h)
  have h2' : (Term.long z).eval args s none [] s = some (.long z) := rfl
  rw [h2'] at h2
  cases h2
  obtain ⟨w, rfl⟩ := h4
  simp [Cond.value, h1, h2'] at h
  subst h
  exact h1
set_option maxRecDepth 65536 in
set_option maxHeartbeats 40000000 in
theorem comes_1 {Post : Tables → Env → Array Value → State → Outcome → State → Prop} (hpost : ∀ tb e args s v u, (limb_1_1.after args s (.returned v) u = true ∧ limb_1_2.after args s (.returned v) u = true ∧ True) → FrameEnd s (.returned v) u (Jvm.fieldLocs frame_1_writes args s ++ Jvm.arrayLocs frame_1_arrays args s ++ Jvm.staticLocs frame_1_statics s) 0 0 → Post tb e args s (.returned v) u) :
    ArmFor flags0 classFile x code maxLocals ret World_1 tables_1 room_1 Calls_1 rest_1 Pre_1 Post := by
  intro l hfl _ _ p e ha hc hk s m args below hf hA hF happ hP
  obtain ⟨hcalls, hrest, hpre⟩ := hP
  obtain ⟨-, -, -, hnamed, -, -, -, hat⟩ := (Spec.applies_iff hf).mp happ
  obtain ⟨hg, hn⟩ := and_e (Cond.before_iff.mp (show (Jvm.Cond.and given_1 narrow_1).before args s = true from hpre))
  obtain ⟨gg0, gr0⟩ := and_e hg
  obtain ⟨gg1, gr1⟩ := and_e gr0
  obtain ⟨gg2, gr2⟩ := and_e gr1
  obtain ⟨gg3, gr3⟩ := and_e gr2
  obtain ⟨w0, w1, w2, w3, rfl⟩ : ∃ w0 w1 w2 w3 : Value, args = #[w0, w1, w2, w3] := by
    have hs : args.size = 4 := by simpa [Cond.value, given_1] using gg0
    obtain ⟨L⟩ := args
    match L, hs with
    | [w0, w1, w2, w3], _ => exact ⟨w0, w1, w2, w3, rfl⟩
  have hw := fun d (hd : d ∈ tables_1) => atoms_spec (ws := Jvm.Cond.code x code maxLocals ret :: tables_1) hat d (List.mem_cons_of_mem _ hd)
  have hfit : Fit s := fun {y c} hc i hi => by
    obtain ⟨ha, rfl⟩ := Array.getElem?_eq_some_iff.mp hc
    have q := List.all_eq_true.mp ((Array.all_eq_true_iff_forall_mem.mp hF) _ (Array.getElem_mem ha)) i (List.mem_range.mpr hi)
    simpa [Array.getElem?_eq_getElem hi] using q
  obtain ⟨i0, ei0⟩ := is_v gg1
  obtain rfl : w0 = (.int i0) := Option.some.inj ei0
  obtain ⟨i1, ei1⟩ := is_v gg2
  obtain rfl : w1 = (.int i1) := Option.some.inj ei1
  obtain ⟨i2, ei2⟩ := isL_v gg3
  obtain rfl : w2 = (.long i2) := Option.some.inj ei2
  obtain ⟨i3, ei3⟩ := is_v gr3
  obtain rfl : w3 = (.int i3) := Option.some.inj ei3
  have S_ep : Sta s s.heap "com/example/gridwire/gridwire/service/Cluster" "VERSION_EPOCH_MILLIS" "J" (.long (1735689600000 : Int64)) := Sta.start (own_stl hn) (Or.inr ⟨hw _ (List.mem_of_getElem? (i := 5) rfl), hw _ (List.mem_of_getElem? (i := 8) rfl)⟩)
  obtain ⟨n, o, h1, h2, h3, _, L, rfl, ⟨rfl, N⟩, hq⟩ := rm0 l s _ hw tables_1 i0 i1 i2 i3  s.heap s.heap.size (Nat.le_refl _) (Old.start s) S_ep p e ha hc hk s m _ below hf ((Spec.applies_iff_loose hf).mp happ).1 ⟨rfl, State.Warmed39.refl s, rfl⟩ trivial
  refine ⟨n, _, h1, h2, h3, hpost _ _ _ _ _ _ ⟨Cond.after_iff.mpr rfl, Cond.after_iff.mpr (eq_i res_at (Term.int_eval (1)) rfl), trivial⟩ ⟨hq.1, hq.2.1, (hq.2.2.sift fun y hy => Or.inr (N y hy)).mono (by decide) (by decide)⟩⟩
theorem main_1_1 : Claimed_1_1 := comes_1 fun _ _ _ _ _ _ h hF => ⟨h.1, hF⟩
theorem main_1_2 : Claimed_1_2 := comes_1 fun _ _ _ _ _ _ h hF => ⟨h.2.1, hF⟩
end Jvm.Pilot.@@N@@
namespace Jvm.Pilot.@@N@@
open Jvm Jvm.ClassFile Sem Op Lib Jvm.Free Jvm.Stand Jvm.Pilot.@@N@@.Jvm.D
/-! MADE BY PROGRAM (witnessworld.py) out of the Statement's table words and the real class files: 10 classes; the members and pool entries that the words name. The judged class is class 1, her method 1. -/
namespace start1
open Jvm.ClassFile
def u (s : String) : CpInfo := .utf8 (stringToUtf16 s)
/-- a pool by its gaps: so many unusable entries, then the entry; so many at the end -/
def gap : Nat → List CpInfo → List CpInfo
  | 0, r => r
  | n + 1, r => .unusable :: gap n r
def poolList (es : List (Nat × CpInfo)) (last : Nat) : List CpInfo := es.foldr (fun e r => gap e.1 (e.2 :: r)) (gap last [])
def pool (es : List (Nat × CpInfo)) (last : Nat) : Array CpInfo := ⟨poolList es last⟩
def fileOf (pool : Array CpInfo) (this : Nat) (attrs : Array Attribute := #[]) (ms : Array MethodInfo := #[]) (fl : Nat := 33) (sup : Nat := 0) (ifs : Array Nat := #[]) (fds : Array FieldInfo := #[]) : ClassFile where
  minorVersion := 0
  majorVersion := 65
  constantPool := pool
  accessFlags := fl
  thisClass := this
  superClass := sup
  interfaces := ifs
  fields := fds
  methods := ms
  attributes := attrs
def plain (name : String) (sup : Option ClassId) : Class where
  name := name
  kind := .ordinary
  loader := none
  accessFlags := 33
  super := sup
  interfaces := #[]
  cf := none
  fields := #[]
  methods := #[]
  instanceTypes := #[]
  staticTypes := #[]
  resolved := #[]
  callSites := []
  init := .initialized
  statics := none
  mirror := none

def pool0 : Array CpInfo := pool [(5, u "<init>"), (0, u "()V"), (1, .class_ 10), (1, u "java/lang/Object")] 113

def k0m0 : Method := { name := "<init>", desc := "()V", sig := { parameters := [], returnType := none }, accessFlags := 1, code := none }
/-- java/lang/Object -/
def k0 : Class := { plain "java/lang/Object" none with
  accessFlags := 33
  interfaces := #[]
  cf := some (fileOf pool0 8 #[] #[{ accessFlags := 1, nameIndex := 5, descriptorIndex := 6, attributes := #[] }] 33 0 #[] #[])
  fields := #[]
  methods := #[k0m0]
  instanceTypes := #[]
  staticTypes := #[]
  resolved := Array.replicate 124 none
  statics := none }

def pool1 : Array CpInfo := pool [(2, .class_ 4), (1, u "java/lang/Object"), (0, u "<init>"), (0, u "()V"), (0, .class_ 8), (0, u "com/example/gridwire/gridwire/service/ClusterFirstVersionPinLaw"), (0, .long 1735689600000), (3, .long 9223372036854775807), (1, .integer 2147483647), (0, .long 1000), (1, .methodref 19 20), (0, .class_ 21), (0, .nameAndType 22 23), (0, u "com/example/gridwire/gridwire/service/Cluster"), (0, u "firstVersion"), (0, u "(J)I"), (0, u "EPOCH"), (0, u "J"), (3, u "law"), (0, u "(IIJI)Z")] 3

def k1m0 : Method := { name := "<init>", desc := "()V", sig := { parameters := [], returnType := none }, accessFlags := 1, code := none }
def k1c1 : Code := { maxStack := 6, maxLocals := 11, code := code, exceptionTable := #[], attributes := #[] }
def k1m1 : Method := { name := "law", desc := "(IIJI)Z", sig := { parameters := [.int, .int, .long, .int], returnType := some .boolean }, accessFlags := 9, code := some k1c1 }
/-- com/example/gridwire/gridwire/service/ClusterFirstVersionPinLaw -/
def k1 : Class := { plain "com/example/gridwire/gridwire/service/ClusterFirstVersionPinLaw" (some 0) with
  accessFlags := 49
  interfaces := #[]
  cf := some (fileOf pool1 7 #[] #[{ accessFlags := 1, nameIndex := 5, descriptorIndex := 6, attributes := #[] }, { accessFlags := 9, nameIndex := 29, descriptorIndex := 30, attributes := #[] }] 49 2 #[] #[{ accessFlags := 26, nameIndex := 24, descriptorIndex := 25, attributes := #[] }])
  fields := #[{ name := "EPOCH", type := .long, accessFlags := 26, slot := 0, constantValue := 0 }]
  methods := #[k1m0, k1m1]
  instanceTypes := #[]
  staticTypes := #[.long]
  resolved := Array.replicate 34 none
  statics := none }

def pool2 : Array CpInfo := pool [(8, .class_ 10), (1, u "com/example/gridwire/gridwire/service/Cluster"), (0, u "firstVersion"), (0, u "(J)I"), (5, .class_ 20), (1, u "java/lang/Object"), (6, u "viewListeners"), (0, u "Ljava/util/List;"), (2, u "name"), (0, u "Ljava/lang/String;"), (2, u "localMember"), (0, u "Lcom/example/gridwire/gridwire/service/Member;"), (30, u "view"), (0, u "Lcom/example/gridwire/gridwire/service/ClusterView;"), (0, .fieldref 8 70), (0, .nameAndType 71 72), (0, u "VERSION_EPOCH_MILLIS"), (0, u "J"), (0, .long 1000), (1, .methodref 76 77), (0, .class_ 78), (0, .nameAndType 79 80), (0, u "java/lang/Math"), (0, u "max"), (0, u "(JJ)J"), (68, u "PARTITION_COUNT"), (0, u "I")] 25

def k2c0 : Code := { maxStack := 6, maxLocals := 2, code := prog_27_method_3_code, exceptionTable := #[], attributes := #[] }
def k2m0 : Method := { name := "firstVersion", desc := "(J)I", sig := { parameters := [.long], returnType := some .int }, accessFlags := 8, code := some k2c0 }
/-- com/example/gridwire/gridwire/service/Cluster -/
def k2 : Class := { plain "com/example/gridwire/gridwire/service/Cluster" (some 0) with
  accessFlags := 33
  interfaces := #[]
  cf := some (fileOf pool2 8 #[] #[{ accessFlags := 8, nameIndex := 11, descriptorIndex := 12, attributes := #[] }] 33 18 #[] #[{ accessFlags := 25, nameIndex := 149, descriptorIndex := 150, attributes := #[] }, { accessFlags := 26, nameIndex := 71, descriptorIndex := 72, attributes := #[] }, { accessFlags := 18, nameIndex := 31, descriptorIndex := 32, attributes := #[] }, { accessFlags := 18, nameIndex := 35, descriptorIndex := 36, attributes := #[] }, { accessFlags := 66, nameIndex := 67, descriptorIndex := 68, attributes := #[] }, { accessFlags := 18, nameIndex := 27, descriptorIndex := 28, attributes := #[] }])
  fields := #[{ name := "PARTITION_COUNT", type := .int, accessFlags := 25, slot := 0, constantValue := 0 }, { name := "VERSION_EPOCH_MILLIS", type := .long, accessFlags := 26, slot := 1, constantValue := 0 }, { name := "name", type := (.object "java/lang/String"), accessFlags := 18, slot := 0, constantValue := 0 }, { name := "localMember", type := (.object "com/example/gridwire/gridwire/service/Member"), accessFlags := 18, slot := 1, constantValue := 0 }, { name := "view", type := (.object "com/example/gridwire/gridwire/service/ClusterView"), accessFlags := 66, slot := 2, constantValue := 0 }, { name := "viewListeners", type := (.object "java/util/List"), accessFlags := 18, slot := 3, constantValue := 0 }]
  methods := #[k2m0]
  instanceTypes := #[(.object "java/lang/String"), (.object "com/example/gridwire/gridwire/service/Member"), (.object "com/example/gridwire/gridwire/service/ClusterView"), (.object "java/util/List")]
  staticTypes := #[.int, .long]
  resolved := Array.replicate 176 none
  statics := some 0 }

def pool3 : Array CpInfo := pool [(1, .class_ 2), (0, u "java/lang/Math"), (1, .class_ 6), (1, u "java/lang/Object"), (0, u "<init>"), (0, u "()V"), (89, .class_ 100), (1, u "java/lang/Math$RandomNumberGeneratorHolder"), (20, u "(JJ)J"), (50, u "negativeZeroFloatBits"), (0, u "J"), (2, u "negativeZeroDoubleBits"), (21, u "max"), (46, u "$assertionsDisabled"), (0, u "Z"), (91, u "twoToTheDoubleScaleDown"), (0, u "D"), (4, u "twoToTheDoubleScaleUp"), (9, u "E"), (3, u "PI"), (2, u "TAU"), (2, u "DEGREES_TO_RADIANS"), (0, u "RADIANS_TO_DEGREES")] 94

def k3m0 : Method := { name := "<init>", desc := "()V", sig := { parameters := [], returnType := none }, accessFlags := 2, code := none }
def k3c1 : Code := { maxStack := 4, maxLocals := 4, code := jdk_29_method_66_code, exceptionTable := #[], attributes := #[] }
def k3m1 : Method := { name := "max", desc := "(JJ)J", sig := { parameters := [.long, .long], returnType := some .long }, accessFlags := 9, code := some k3c1 }
/-- java/lang/Math -/
def k3 : Class := { plain "java/lang/Math" (some 0) with
  accessFlags := 49
  interfaces := #[]
  cf := some (fileOf pool3 1 #[.nestMembers #[98]] #[{ accessFlags := 2, nameIndex := 7, descriptorIndex := 8, attributes := #[] }, { accessFlags := 9, nameIndex := 198, descriptorIndex := 121, attributes := #[] }] 49 4 #[] #[{ accessFlags := 25, nameIndex := 354, descriptorIndex := 339, attributes := #[] }, { accessFlags := 25, nameIndex := 358, descriptorIndex := 339, attributes := #[] }, { accessFlags := 25, nameIndex := 361, descriptorIndex := 339, attributes := #[] }, { accessFlags := 26, nameIndex := 364, descriptorIndex := 339, attributes := #[] }, { accessFlags := 26, nameIndex := 365, descriptorIndex := 339, attributes := #[] }, { accessFlags := 26, nameIndex := 172, descriptorIndex := 173, attributes := #[] }, { accessFlags := 26, nameIndex := 176, descriptorIndex := 173, attributes := #[] }, { accessFlags := 8, nameIndex := 344, descriptorIndex := 339, attributes := #[] }, { accessFlags := 8, nameIndex := 338, descriptorIndex := 339, attributes := #[] }, { accessFlags := 4120, nameIndex := 245, descriptorIndex := 246, attributes := #[] }])
  fields := #[{ name := "E", type := .double, accessFlags := 25, slot := 0, constantValue := 0 }, { name := "PI", type := .double, accessFlags := 25, slot := 1, constantValue := 0 }, { name := "TAU", type := .double, accessFlags := 25, slot := 2, constantValue := 0 }, { name := "DEGREES_TO_RADIANS", type := .double, accessFlags := 26, slot := 3, constantValue := 0 }, { name := "RADIANS_TO_DEGREES", type := .double, accessFlags := 26, slot := 4, constantValue := 0 }, { name := "negativeZeroFloatBits", type := .long, accessFlags := 26, slot := 5, constantValue := 0 }, { name := "negativeZeroDoubleBits", type := .long, accessFlags := 26, slot := 6, constantValue := 0 }, { name := "twoToTheDoubleScaleUp", type := .double, accessFlags := 8, slot := 7, constantValue := 0 }, { name := "twoToTheDoubleScaleDown", type := .double, accessFlags := 8, slot := 8, constantValue := 0 }, { name := "$assertionsDisabled", type := .boolean, accessFlags := 4120, slot := 9, constantValue := 0 }]
  methods := #[k3m0, k3m1]
  instanceTypes := #[]
  staticTypes := #[.double, .double, .double, .double, .double, .long, .long, .double, .double, .boolean]
  resolved := Array.replicate 460 none
  statics := none }

def pool4 : Array CpInfo := pool [(1, u "java/lang/Cloneable"), (0, .class_ 1), (0, u "java/lang/Object"), (0, .class_ 3)] 3

/-- java/lang/Cloneable -/
def k4 : Class := { plain "java/lang/Cloneable" (some 0) with
  accessFlags := 1537
  interfaces := #[]
  cf := some (fileOf pool4 2 #[] #[] 1537 4 #[] #[])
  fields := #[]
  methods := #[]
  instanceTypes := #[]
  staticTypes := #[]
  resolved := Array.replicate 8 none
  statics := none }

def pool5 : Array CpInfo := pool [(1, u "java/io/Serializable"), (0, .class_ 1), (0, u "java/lang/Object"), (0, .class_ 3)] 3

/-- java/io/Serializable -/
def k5 : Class := { plain "java/io/Serializable" (some 0) with
  accessFlags := 1537
  interfaces := #[]
  cf := some (fileOf pool5 2 #[] #[] 1537 4 #[] #[])
  fields := #[]
  methods := #[]
  instanceTypes := #[]
  staticTypes := #[]
  resolved := Array.replicate 8 none
  statics := none }

/-- the primitive byte -/
def k6 : Class := { plain "byte" none with kind := .primitive 'B', accessFlags := 0x411 }
/-- [B -/
def k7 : Class := { plain "[B" (some 0) with kind := .array 6 .byte, interfaces := #[4, 5], accessFlags := 1041 }

/-- the primitive int -/
def k8 : Class := { plain "int" none with kind := .primitive 'I', accessFlags := 0x411 }
/-- [I -/
def k9 : Class := { plain "[I" (some 0) with kind := .array 8 .int, interfaces := #[4, 5], accessFlags := 1041 }

def heap : Heap := #[{ cls := 2, slots := #[.int 0, .long 1735689600000], vm := .statics 2 }]
def classes : Array Class := #[k0, k1, k2, k3, k4, k5, k6, k7, k8, k9]
def interned : List (Array UInt16 × Addr) := []
def slotsUsed : Nat := 2
def theMethod : MethodId := ⟨1, 1⟩
def args0 : Array Value := #[.int 5, .int 7, .long 3, .int 1]
def aboutOver (below : List Frame) : State where
  vm := { classes := classes, interned := interned.toArray }
  heap := heap
  slotsUsed := slotsUsed
  threads := #[{ frames := .invoking theMethod args0 :: below }]
def below0 : List Frame := [.native { method := ⟨0, 0⟩, args := #[] }]
def about1 : State := aboutOver below0
def p0 : Program := .bare "" "" ""
def e0 : Env := launch0.env 0 0 0
theorem w_frames : about1.frames = Frame.invoking theMethod args0 :: below0 := rfl
set_option maxRecDepth 65536 in
theorem w_args : argsFit about1.vm theMethod args0 = true := by decide +kernel
set_option maxRecDepth 65536 in
theorem w_heap : heapFits about1 = true := by decide +kernel
set_option maxRecDepth 65536 in
theorem w_runnable : about1.curStatus? = some .runnable := by decide +kernel
set_option maxRecDepth 65536 in
theorem w_alone : about1.alone = true := by decide +kernel
set_option maxRecDepth 65536 in
theorem w_named : about1.methodNamed? x = some theMethod := by decide +kernel
set_option maxRecDepth 65536 in
theorem w_hears : about1.hears theMethod below0 = true := by decide +kernel
set_option maxRecDepth 65536 in
theorem w_ripe : about1.ripe theMethod args0 below0 = true := by decide +kernel
theorem w_running : about1.status = .running := rfl
set_option maxRecDepth 65536 in
theorem w_room : about1.hasRoom e0.platform room_1 = true :=
  launch0.hasRoom_least _ room_1 (by decide +kernel) (by decide +kernel) (by decide +kernel) (by decide +kernel) (by decide +kernel) (by decide +kernel)
theorem allAtoms_all (ts : List Jvm.Cond) (a : Array Jvm.Value) (st : Jvm.State) : (allAtoms ts).before a st = ts.all (fun c => c.before a st) := by
  induction ts with
  | nil => rfl
  | cons c t ih =>
    show (Jvm.Cond.and c (allAtoms t)).before a st = _
    rw [Jvm.Cond.before_and, ih, List.all_cons]
def words1 : List Jvm.Cond := Jvm.Cond.code x code maxLocals ret :: tables_1
/-- a 'code' word, met by the world's own term for the bytes: nothing is compared byte by byte -/
theorem code_word {y : MethodName} {bytes : ByteArray} {mx : Nat} {rt : Option FieldType} {a : Array Value} {s : State} {m : MethodId} {meth : Method} {c : Code} (h1 : s.methodNamed? y = some m) (h2 : s.vm.method? m = some meth) (h3 : meth.code = some c) (h4 : c.code = bytes)
    (h5 : (c.maxLocals == mx && c.exceptionTable.isEmpty && decide (c.maxStack ≤ mostOperands) && decide (meth.sig.returnType = rt) && !meth.locks && decide (parseMethodDescriptor y.desc = some meth.sig)) = true) : (Jvm.Cond.code y bytes mx rt).before a s = true := by
  simp only [Bool.and_eq_true, beq_iff_eq, Bool.not_eq_true', decide_eq_true_eq] at h5
  obtain ⟨⟨⟨⟨⟨g1, g2⟩, g3⟩, g4⟩, g5⟩, g6⟩ := h5
  simp [Cond.before, Cond.holds, Cond.value, h1, h2, h3, h4, g1, g2, g3, g4, g5, g6]
def isCode : Jvm.Cond → Bool
  | .code _ _ _ _ => true
  | _ => false
theorem all_split {L : List Jvm.Cond} {P : Jvm.Cond → Bool} (h1 : L.all (fun c => isCode c || P c) = true) (h2 : ∀ c ∈ L.filter isCode, P c = true) : L.all P = true := by
  refine List.all_eq_true.mpr fun c hc => ?_
  have h := List.all_eq_true.mp h1 c hc
  rcases Bool.eq_false_or_eq_true (isCode c) with hi | hi
  · exact h2 c (List.mem_filter.mpr ⟨hc, hi⟩)
  · simpa [hi] using h
set_option maxRecDepth 65536 in
theorem w_c0 : (Jvm.Cond.code x code maxLocals ret).before args0 about1 = true := code_word (m := ⟨1, 1⟩) (meth := k1m1) (c := k1c1) (by decide +kernel) rfl rfl rfl (by decide +kernel)
set_option maxRecDepth 65536 in
theorem w_c1 : (Jvm.Cond.code ({ cls := "com/example/gridwire/gridwire/service/Cluster", name := "firstVersion", desc := "(J)I" } : Jvm.MethodName) prog_27_method_3_code (2 : Nat) (Option.some Jvm.ClassFile.FieldType.int)).before args0 about1 = true := code_word (m := ⟨2, 0⟩) (meth := k2m0) (c := k2c0) (by decide +kernel) rfl rfl rfl (by decide +kernel)
set_option maxRecDepth 65536 in
theorem w_c2 : (Jvm.Cond.code ({ cls := "java/lang/Math", name := "max", desc := "(JJ)J" } : Jvm.MethodName) jdk_29_method_66_code (4 : Nat) (Option.some Jvm.ClassFile.FieldType.long)).before args0 about1 = true := code_word (m := ⟨3, 1⟩) (meth := k3m1) (c := k3c1) (by decide +kernel) rfl rfl rfl (by decide +kernel)
def codes1 : List Jvm.Cond := [Jvm.Cond.code x code maxLocals ret, Jvm.Cond.code ({ cls := "com/example/gridwire/gridwire/service/Cluster", name := "firstVersion", desc := "(J)I" } : Jvm.MethodName) prog_27_method_3_code (2 : Nat) (Option.some Jvm.ClassFile.FieldType.int), Jvm.Cond.code ({ cls := "java/lang/Math", name := "max", desc := "(JJ)J" } : Jvm.MethodName) jdk_29_method_66_code (4 : Nat) (Option.some Jvm.ClassFile.FieldType.long)]
set_option maxRecDepth 65536 in
theorem codes_eq : words1.filter isCode = codes1 := rfl
theorem w_codes : ∀ c ∈ words1.filter isCode, c.before args0 about1 = true := by
  rw [codes_eq]
  intro c hc
  simp only [codes1, List.mem_cons, List.not_mem_nil, or_false] at hc
  rcases hc with rfl | rfl | rfl
  · exact w_c0
  · exact w_c1
  · exact w_c2
set_option maxRecDepth 65536 in
theorem w_t1 : words1.all (fun c => isCode c || c.before args0 about1) = true := by decide +kernel
theorem w_tables : (allAtoms (Jvm.Cond.code x code maxLocals ret :: tables_1)).before args0 about1 = true := by
  rw [allAtoms_all]
  show words1.all (fun c => c.before args0 about1) = true
  refine all_split ?_ w_codes
  rw [w_t1]
set_option maxRecDepth 65536 in
theorem w_case : (Jvm.Cond.and given_1 narrow_1).before args0 about1 = true := by decide +kernel
theorem w_applies : (headSpec (Jvm.Cond.code x code maxLocals ret :: tables_1) room_1).applies x e0.platform about1 = true :=
  (Spec.applies_iff w_frames).mpr ⟨w_running, w_runnable, w_alone, w_named, w_hears, w_ripe, w_room, w_tables⟩
theorem atStart : AtStart classFile x code maxLocals ret World_1 tables_1 room_1 Calls_1 rest_1 Pre_1 launch0 p0 e0 about1 theMethod args0 below0 :=
  ⟨lists_1, trivial, launch0.admits_env _ _ _, launch0.least_env, fairChoices_fair.cas, fairChoices_fair.clock, w_frames, w_args, w_heap, w_applies, trivial, trivial, w_case⟩
end start1
theorem witness_1 : WitnessClaimed_1 := ⟨start1.p0, start1.e0, start1.about1, start1.theMethod, start1.args0, start1.below0, start1.atStart⟩
end Jvm.Pilot.@@N@@
