import JvmDerived
import JvmDerived.Pilot.@@N@@Statement
import JvmDerived.Pilot.@@N@@Code
set_option linter.unusedVariables false
set_option linter.unusedSimpArgs false
namespace Jvm.Pilot.@@N@@
open Jvm Jvm.ClassFile Sem Op Lib Jvm.Free Jvm.Stand Jvm.LawKit Jvm.RoadKit Bundle Jvm.Pilot.@@N@@.Jvm.D
def own_usr (x y : Int32) : Int32 := (x.toUInt32 >>> (y &&& 31).toUInt32).toInt32
def own_usrL (x : Int64) (y : Int32) : Int64 := (x.toUInt64 >>> (y &&& 0x3f).toInt64.toUInt64).toInt64
/-- where the run came from, where it stands -/
def Go (p : Program) (e : Env) (below : List Frame) (A B : State) : Prop := ∀ t, Steps p.tables e below B t → Steps p.tables e below A t
theorem Go.step {p : Program} {e : Env} {below : List Frame} {A B C : State} (g : Go p e below A B) (h : ∀ t, Steps p.tables e below C t → Steps p.tables e below B t) : Go p e below A C := fun t k => g t (h t k)
theorem Go.tr {p : Program} {e : Env} {below : List Frame} {A B C : State} (g : Go p e below A B) (h : Steps p.tables e below B C) : Go p e below A C := fun t k => g t (h.trans k)
section Rets
variable {p : Program} {l : Launch} {e : Env} {R : Room} {s : State} {m : MethodId} {args : Array Value} {below : List Frame} {meth : Method} {c : Code} {T : State} {locs : List Loc} {cells slots : Nat}
theorem own_retI (X : Stand p l e R s m args below meth c T locs cells slots) (hx : p.tables.exec = Jvm.exec) {pc : Nat} {Ls : Array Slot} {z : Int32} {rest : List Value} (hret : meth.sig.returnType = some .int) (hd : decode c.code pc = .ok (.ireturn, 1)) {fs : List Frame}
    (hl : ∀ (f : JFrame) (acts : List Action), f.method = m → f.locked = none → f.entered = [] → (doReturn e (T.setTop f) acts (some (.int z))).1 = T.setFrames fs) : Steps p.tables e below (T.setTop (mkF m pc Ls (.int z :: rest))) (T.setFrames fs) :=
  retOut X hx (t := .int) hret rfl (Or.inl ⟨rfl, Or.inl rfl, z, rfl⟩) hd hl
theorem own_retL (X : Stand p l e R s m args below meth c T locs cells slots) (hx : p.tables.exec = Jvm.exec) {pc : Nat} {Ls : Array Slot} {z : Int64} {rest : List Value} (hret : meth.sig.returnType = some .long) (hd : decode c.code pc = .ok (.lreturn, 1)) {fs : List Frame}
    (hl : ∀ (f : JFrame) (acts : List Action), f.method = m → f.locked = none → f.entered = [] → (doReturn e (T.setTop f) acts (some (.long z))).1 = T.setFrames fs) : Steps p.tables e below (T.setTop (mkF m pc Ls (.long z :: rest))) (T.setFrames fs) :=
  retOut X hx (t := .long) hret rfl (Or.inr (Or.inl ⟨rfl, rfl, z, rfl⟩)) hd hl
theorem own_retA (X : Stand p l e R s m args below meth c T locs cells slots) (hx : p.tables.exec = Jvm.exec) {t : FieldType} {pc : Nat} {Ls : Array Slot} {z : Addr} {rest : List Value} (hret : meth.sig.returnType = some t) (ht : t.isReference = true) (hn : narrow t (.ref z) = .ref z) (hd : decode c.code pc = .ok (.areturn, 1)) {fs : List Frame}
    (hl : ∀ (f : JFrame) (acts : List Action), f.method = m → f.locked = none → f.entered = [] → (doReturn e (T.setTop f) acts (some (.ref z))).1 = T.setFrames fs) : Steps p.tables e below (T.setTop (mkF m pc Ls (.ref z :: rest))) (T.setFrames fs) :=
  retOut X hx hret hn (Or.inr (Or.inr (Or.inr (Or.inr ⟨rfl, ht, rfl⟩)))) hd hl
end Rets
def own_isf (p0 : Int32) : Int32 := (if p0 < (97 : Int32) then (if p0 < (65 : Int32) then (0 : Int32) else (if (90 : Int32) < p0 then (0 : Int32) else (1 : Int32))) else (if (122 : Int32) < p0 then (if p0 < (65 : Int32) then (0 : Int32) else (if (90 : Int32) < p0 then (0 : Int32) else (1 : Int32))) else (1 : Int32)))
theorem d1_0 : decode prog_5_method_2_code 0 = .ok (.iload_n 0, 1) := by decide +kernel
theorem d1_1 : decode prog_5_method_2_code 1 = .ok (.bipush 97, 2) := by decide +kernel
theorem d1_3 : decode prog_5_method_2_code 3 = .ok (.if_icmp .lt 9, 3) := by decide +kernel
theorem d1_6 : decode prog_5_method_2_code 6 = .ok (.iload_n 0, 1) := by decide +kernel
theorem d1_7 : decode prog_5_method_2_code 7 = .ok (.bipush 122, 2) := by decide +kernel
theorem d1_9 : decode prog_5_method_2_code 9 = .ok (.if_icmp .le 15, 3) := by decide +kernel
theorem d1_12 : decode prog_5_method_2_code 12 = .ok (.iload_n 0, 1) := by decide +kernel
theorem d1_13 : decode prog_5_method_2_code 13 = .ok (.bipush 65, 2) := by decide +kernel
theorem d1_15 : decode prog_5_method_2_code 15 = .ok (.if_icmp .lt 13, 3) := by decide +kernel
theorem d1_18 : decode prog_5_method_2_code 18 = .ok (.iload_n 0, 1) := by decide +kernel
theorem d1_19 : decode prog_5_method_2_code 19 = .ok (.bipush 90, 2) := by decide +kernel
theorem d1_21 : decode prog_5_method_2_code 21 = .ok (.if_icmp .gt 7, 3) := by decide +kernel
theorem d1_24 : decode prog_5_method_2_code 24 = .ok (.iconst 1, 1) := by decide +kernel
theorem d1_25 : decode prog_5_method_2_code 25 = .ok (.goto 4, 3) := by decide +kernel
theorem d1_28 : decode prog_5_method_2_code 28 = .ok (.iconst 0, 1) := by decide +kernel
theorem d1_29 : decode prog_5_method_2_code 29 = .ok (.ireturn, 1) := by decide +kernel
theorem pn_rm1 : plainName "com/example/graphkind/graphkind/IriScheme" = true := by first | (simp [plainName, overriddenIn]; done) | decide +kernel
theorem ef_rm1 (m : MethodId) (p0 : Int32) : entryFrame m #[(.int p0)] 1 = mkF m 0 #[.val (.int p0)] [] := by first | (simp [entryFrame, mkF, argsToLocals, Value.category]; done) | rfl
def Q_rm1 (Z : State) (p0 : Int32) (h0 : Heap) (n0 : Nat) (v : Option Value) (h : Heap) (L : List Loc) : Prop := v = some (.int (own_isf p0)) ∧ Fr n0 L ∧ h = h0
set_option maxRecDepth 65536 in
set_option maxHeartbeats 40000000 in
theorem rm1 (l : Launch) (Z : State) (a0 : Array Value) (hw : ∀ d ∈ tables_1, d.before a0 Z = true) (ws : List Jvm.Cond) (p0 : Int32) (h0 : Heap) (n0 : Nat) (Z0 : n0 ≤ h0.size) :
    MetFree l (⟨"com/example/graphkind/graphkind/IriScheme", "isFirst", "(I)Z"⟩ : MethodName) (head1 (Jvm.Cond.code (⟨"com/example/graphkind/graphkind/IriScheme", "isFirst", "(I)Z"⟩ : MethodName) prog_5_method_2_code 1 (some .boolean) :: ws) ({ frames := 0, cells := 0, slots := 0, locals := 0 } : Room)) (fun a U => a = #[(.int p0)] ∧ Z.Warmed39 U.vm ∧ U.heap = h0) (fun _ _ _ _ _ => True) (fun _ U o U' => ∃ v L, o = .returned v ∧ Q_rm1 Z p0 h0 n0 v U'.heap L ∧ FrameEnd U o U' L ({ frames := 0, cells := 0, slots := 0, locals := 0 } : Room).cells ({ frames := 0, cells := 0, slots := 0, locals := 0 } : Room).slots) := by
  refine MetFree.of_bodySF (plainFor_of_name pn_rm1) hisR ?_
  intro p e s m args below meth c s₁ Bd hml0 hP hK
  obtain ⟨rfl, hZ, hh⟩ := hP
  have hx := Bd.exec
  have hby := Bd.bytes
  have hml : c.maxLocals = 1 := hml0
  have hown : s.vm.findClass "com/example/graphkind/graphkind/IriScheme" = some m.cls := findClass_of_methodNamed Bd.named
  have hnm := (name_of_methodNamed Bd.named Bd.method).1
  have X0 : Stand p l e ({ frames := 0, cells := 0, slots := 0, locals := 0 } : Room) s m #[(.int p0)] below meth c s₁ [] 0 0 := Stand.of_body Bd
  have e0 : s₁.heap = h0 := by rw [← hh, Bd.state]; rfl
  have N0 := Fr.nil n0
  have K0 := Keep.refl h0 []
  have go0 : Go p e below (s₁.setTop (entryFrame m #[(.int p0)] 1)) (s₁.setTop (mkF m 0 #[.val (.int p0)] [])) := fun t k => castTop (ef_rm1 m p0) k
  have go2 := go0.step (C := s₁.setTop (mkF m 3 #[.val (.int p0)] [(.int (97 : Int32)), (.int p0)])) (fun t k => by
    show Steps p.tables e below (s₁.setTop (mkF m 0 #[.val (.int p0)] [])) _
    refine XS.iloadN X0.here hx rfl (hb hby d1_0) rfl ?_
    show Steps p.tables e below (s₁.setTop (mkF m 1 #[.val (.int p0)] [(.int p0)])) _
    refine XS.bipush X0.here hx rfl (hb hby d1_1) ?_
    exact k)
  by_cases hc1 : p0 < (97 : Int32)
  · skip
    have go4 := go2.step (C := s₁.setTop (mkF m 15 #[.val (.int p0)] [(.int (65 : Int32)), (.int p0)])) (fun t k => by
      show Steps p.tables e below (s₁.setTop (mkF m 3 #[.val (.int p0)] [(.int (97 : Int32)), (.int p0)])) _
      refine XS.icmpYes X0.here hx rfl (pc0 := 3) (pc' := 12) rfl (hb hby d1_3) rfl (tlt hc1).1 (by decide) (by decide) ?_
      show Steps p.tables e below (s₁.setTop (mkF m 12 #[.val (.int p0)] [])) _
      refine XS.iloadN X0.here hx rfl (hb hby d1_12) rfl ?_
      show Steps p.tables e below (s₁.setTop (mkF m 13 #[.val (.int p0)] [(.int p0)])) _
      refine XS.bipush X0.here hx rfl (hb hby d1_13) ?_
      exact k)
    by_cases hc3 : p0 < (65 : Int32)
    · skip
      have go5 := go4.step (C := s₁.setTop (mkF m 29 #[.val (.int p0)] [(.int (0 : Int32))])) (fun t k => by
        show Steps p.tables e below (s₁.setTop (mkF m 15 #[.val (.int p0)] [(.int (65 : Int32)), (.int p0)])) _
        refine XS.icmpYes X0.here hx rfl (pc0 := 15) (pc' := 28) rfl (hb hby d1_15) rfl (tlt hc3).1 (by decide) (by decide) ?_
        show Steps p.tables e below (s₁.setTop (mkF m 28 #[.val (.int p0)] [])) _
        refine XS.iconst X0.here hx rfl (hb hby d1_28) ?_
        exact k)
      obtain ⟨fs, hr, hrun, hended, hW, hsame⟩ := X0.leave (v := some (.int (0 : Int32))) (fun h => by rw [Bd.returns] at h; cases h)
      refine ⟨_, _, go5 _ ?_, hrun, hended, _, _, rfl, ?_, ⟨_, rfl⟩, hW, hsame.mono (by decide) (by decide)⟩
      · exact retN X0 hx (t := .boolean) Bd.returns (by simp) (hb hby d1_29) hr
      · show Q_rm1 Z p0 h0 n0 _ s₁.heap _
        rw [e0]
        exact ⟨by unfold own_isf; simp only [if_pos hc1, if_pos hc3], N0, rfl⟩
    · skip
      have go7 := go4.step (C := s₁.setTop (mkF m 21 #[.val (.int p0)] [(.int (90 : Int32)), (.int p0)])) (fun t k => by
        show Steps p.tables e below (s₁.setTop (mkF m 15 #[.val (.int p0)] [(.int (65 : Int32)), (.int p0)])) _
        refine XS.icmpNo X0.here hx rfl (hb hby d1_15) rfl (flt hc3).1 ?_
        show Steps p.tables e below (s₁.setTop (mkF m 18 #[.val (.int p0)] [])) _
        refine XS.iloadN X0.here hx rfl (hb hby d1_18) rfl ?_
        show Steps p.tables e below (s₁.setTop (mkF m 19 #[.val (.int p0)] [(.int p0)])) _
        refine XS.bipush X0.here hx rfl (hb hby d1_19) ?_
        exact k)
      by_cases hc6 : (90 : Int32) < p0
      · skip
        have go8 := go7.step (C := s₁.setTop (mkF m 29 #[.val (.int p0)] [(.int (0 : Int32))])) (fun t k => by
          show Steps p.tables e below (s₁.setTop (mkF m 21 #[.val (.int p0)] [(.int (90 : Int32)), (.int p0)])) _
          refine XS.icmpYes X0.here hx rfl (pc0 := 21) (pc' := 28) rfl (hb hby d1_21) rfl (tlt hc6).2.2.1 (by decide) (by decide) ?_
          show Steps p.tables e below (s₁.setTop (mkF m 28 #[.val (.int p0)] [])) _
          refine XS.iconst X0.here hx rfl (hb hby d1_28) ?_
          exact k)
        obtain ⟨fs, hr, hrun, hended, hW, hsame⟩ := X0.leave (v := some (.int (0 : Int32))) (fun h => by rw [Bd.returns] at h; cases h)
        refine ⟨_, _, go8 _ ?_, hrun, hended, _, _, rfl, ?_, ⟨_, rfl⟩, hW, hsame.mono (by decide) (by decide)⟩
        · exact retN X0 hx (t := .boolean) Bd.returns (by simp) (hb hby d1_29) hr
        · show Q_rm1 Z p0 h0 n0 _ s₁.heap _
          rw [e0]
          exact ⟨by unfold own_isf; simp only [if_pos hc1, if_neg hc3, if_pos hc6], N0, rfl⟩
      · skip
        have go9 := go7.step (C := s₁.setTop (mkF m 29 #[.val (.int p0)] [(.int (1 : Int32))])) (fun t k => by
          show Steps p.tables e below (s₁.setTop (mkF m 21 #[.val (.int p0)] [(.int (90 : Int32)), (.int p0)])) _
          refine XS.icmpNo X0.here hx rfl (hb hby d1_21) rfl (flt hc6).2.2.1 ?_
          show Steps p.tables e below (s₁.setTop (mkF m 24 #[.val (.int p0)] [])) _
          refine XS.iconst X0.here hx rfl (hb hby d1_24) ?_
          show Steps p.tables e below (s₁.setTop (mkF m 25 #[.val (.int p0)] [(.int (1 : Int32))])) _
          refine XS.goto X0.here hx rfl (pc0 := 25) (pc' := 29) rfl (hb hby d1_25) (by decide) (by decide) ?_
          exact k)
        obtain ⟨fs, hr, hrun, hended, hW, hsame⟩ := X0.leave (v := some (.int (1 : Int32))) (fun h => by rw [Bd.returns] at h; cases h)
        refine ⟨_, _, go9 _ ?_, hrun, hended, _, _, rfl, ?_, ⟨_, rfl⟩, hW, hsame.mono (by decide) (by decide)⟩
        · exact retN X0 hx (t := .boolean) Bd.returns (by simp) (hb hby d1_29) hr
        · show Q_rm1 Z p0 h0 n0 _ s₁.heap _
          rw [e0]
          exact ⟨by unfold own_isf; simp only [if_pos hc1, if_neg hc3, if_neg hc6], N0, rfl⟩
  · skip
    have go11 := go2.step (C := s₁.setTop (mkF m 9 #[.val (.int p0)] [(.int (122 : Int32)), (.int p0)])) (fun t k => by
      show Steps p.tables e below (s₁.setTop (mkF m 3 #[.val (.int p0)] [(.int (97 : Int32)), (.int p0)])) _
      refine XS.icmpNo X0.here hx rfl (hb hby d1_3) rfl (flt hc1).1 ?_
      show Steps p.tables e below (s₁.setTop (mkF m 6 #[.val (.int p0)] [])) _
      refine XS.iloadN X0.here hx rfl (hb hby d1_6) rfl ?_
      show Steps p.tables e below (s₁.setTop (mkF m 7 #[.val (.int p0)] [(.int p0)])) _
      refine XS.bipush X0.here hx rfl (hb hby d1_7) ?_
      exact k)
    by_cases hc10 : (122 : Int32) < p0
    · skip
      have go13 := go11.step (C := s₁.setTop (mkF m 15 #[.val (.int p0)] [(.int (65 : Int32)), (.int p0)])) (fun t k => by
        show Steps p.tables e below (s₁.setTop (mkF m 9 #[.val (.int p0)] [(.int (122 : Int32)), (.int p0)])) _
        refine XS.icmpNo X0.here hx rfl (hb hby d1_9) rfl (tlt hc10).2.2.2 ?_
        show Steps p.tables e below (s₁.setTop (mkF m 12 #[.val (.int p0)] [])) _
        refine XS.iloadN X0.here hx rfl (hb hby d1_12) rfl ?_
        show Steps p.tables e below (s₁.setTop (mkF m 13 #[.val (.int p0)] [(.int p0)])) _
        refine XS.bipush X0.here hx rfl (hb hby d1_13) ?_
        exact k)
      by_cases hc12 : p0 < (65 : Int32)
      · skip
        have go14 := go13.step (C := s₁.setTop (mkF m 29 #[.val (.int p0)] [(.int (0 : Int32))])) (fun t k => by
          show Steps p.tables e below (s₁.setTop (mkF m 15 #[.val (.int p0)] [(.int (65 : Int32)), (.int p0)])) _
          refine XS.icmpYes X0.here hx rfl (pc0 := 15) (pc' := 28) rfl (hb hby d1_15) rfl (tlt hc12).1 (by decide) (by decide) ?_
          show Steps p.tables e below (s₁.setTop (mkF m 28 #[.val (.int p0)] [])) _
          refine XS.iconst X0.here hx rfl (hb hby d1_28) ?_
          exact k)
        obtain ⟨fs, hr, hrun, hended, hW, hsame⟩ := X0.leave (v := some (.int (0 : Int32))) (fun h => by rw [Bd.returns] at h; cases h)
        refine ⟨_, _, go14 _ ?_, hrun, hended, _, _, rfl, ?_, ⟨_, rfl⟩, hW, hsame.mono (by decide) (by decide)⟩
        · exact retN X0 hx (t := .boolean) Bd.returns (by simp) (hb hby d1_29) hr
        · show Q_rm1 Z p0 h0 n0 _ s₁.heap _
          rw [e0]
          exact ⟨by unfold own_isf; simp only [if_neg hc1, if_pos hc10, if_pos hc12], N0, rfl⟩
      · skip
        have go16 := go13.step (C := s₁.setTop (mkF m 21 #[.val (.int p0)] [(.int (90 : Int32)), (.int p0)])) (fun t k => by
          show Steps p.tables e below (s₁.setTop (mkF m 15 #[.val (.int p0)] [(.int (65 : Int32)), (.int p0)])) _
          refine XS.icmpNo X0.here hx rfl (hb hby d1_15) rfl (flt hc12).1 ?_
          show Steps p.tables e below (s₁.setTop (mkF m 18 #[.val (.int p0)] [])) _
          refine XS.iloadN X0.here hx rfl (hb hby d1_18) rfl ?_
          show Steps p.tables e below (s₁.setTop (mkF m 19 #[.val (.int p0)] [(.int p0)])) _
          refine XS.bipush X0.here hx rfl (hb hby d1_19) ?_
          exact k)
        by_cases hc15 : (90 : Int32) < p0
        · skip
          have go17 := go16.step (C := s₁.setTop (mkF m 29 #[.val (.int p0)] [(.int (0 : Int32))])) (fun t k => by
            show Steps p.tables e below (s₁.setTop (mkF m 21 #[.val (.int p0)] [(.int (90 : Int32)), (.int p0)])) _
            refine XS.icmpYes X0.here hx rfl (pc0 := 21) (pc' := 28) rfl (hb hby d1_21) rfl (tlt hc15).2.2.1 (by decide) (by decide) ?_
            show Steps p.tables e below (s₁.setTop (mkF m 28 #[.val (.int p0)] [])) _
            refine XS.iconst X0.here hx rfl (hb hby d1_28) ?_
            exact k)
          obtain ⟨fs, hr, hrun, hended, hW, hsame⟩ := X0.leave (v := some (.int (0 : Int32))) (fun h => by rw [Bd.returns] at h; cases h)
          refine ⟨_, _, go17 _ ?_, hrun, hended, _, _, rfl, ?_, ⟨_, rfl⟩, hW, hsame.mono (by decide) (by decide)⟩
          · exact retN X0 hx (t := .boolean) Bd.returns (by simp) (hb hby d1_29) hr
          · show Q_rm1 Z p0 h0 n0 _ s₁.heap _
            rw [e0]
            exact ⟨by unfold own_isf; simp only [if_neg hc1, if_pos hc10, if_neg hc12, if_pos hc15], N0, rfl⟩
        · skip
          have go18 := go16.step (C := s₁.setTop (mkF m 29 #[.val (.int p0)] [(.int (1 : Int32))])) (fun t k => by
            show Steps p.tables e below (s₁.setTop (mkF m 21 #[.val (.int p0)] [(.int (90 : Int32)), (.int p0)])) _
            refine XS.icmpNo X0.here hx rfl (hb hby d1_21) rfl (flt hc15).2.2.1 ?_
            show Steps p.tables e below (s₁.setTop (mkF m 24 #[.val (.int p0)] [])) _
            refine XS.iconst X0.here hx rfl (hb hby d1_24) ?_
            show Steps p.tables e below (s₁.setTop (mkF m 25 #[.val (.int p0)] [(.int (1 : Int32))])) _
            refine XS.goto X0.here hx rfl (pc0 := 25) (pc' := 29) rfl (hb hby d1_25) (by decide) (by decide) ?_
            exact k)
          obtain ⟨fs, hr, hrun, hended, hW, hsame⟩ := X0.leave (v := some (.int (1 : Int32))) (fun h => by rw [Bd.returns] at h; cases h)
          refine ⟨_, _, go18 _ ?_, hrun, hended, _, _, rfl, ?_, ⟨_, rfl⟩, hW, hsame.mono (by decide) (by decide)⟩
          · exact retN X0 hx (t := .boolean) Bd.returns (by simp) (hb hby d1_29) hr
          · show Q_rm1 Z p0 h0 n0 _ s₁.heap _
            rw [e0]
            exact ⟨by unfold own_isf; simp only [if_neg hc1, if_pos hc10, if_neg hc12, if_neg hc15], N0, rfl⟩
    · skip
      have go19 := go11.step (C := s₁.setTop (mkF m 29 #[.val (.int p0)] [(.int (1 : Int32))])) (fun t k => by
        show Steps p.tables e below (s₁.setTop (mkF m 9 #[.val (.int p0)] [(.int (122 : Int32)), (.int p0)])) _
        refine XS.icmpYes X0.here hx rfl (pc0 := 9) (pc' := 24) rfl (hb hby d1_9) rfl (flt hc10).2.2.2 (by decide) (by decide) ?_
        show Steps p.tables e below (s₁.setTop (mkF m 24 #[.val (.int p0)] [])) _
        refine XS.iconst X0.here hx rfl (hb hby d1_24) ?_
        show Steps p.tables e below (s₁.setTop (mkF m 25 #[.val (.int p0)] [(.int (1 : Int32))])) _
        refine XS.goto X0.here hx rfl (pc0 := 25) (pc' := 29) rfl (hb hby d1_25) (by decide) (by decide) ?_
        exact k)
      obtain ⟨fs, hr, hrun, hended, hW, hsame⟩ := X0.leave (v := some (.int (1 : Int32))) (fun h => by rw [Bd.returns] at h; cases h)
      refine ⟨_, _, go19 _ ?_, hrun, hended, _, _, rfl, ?_, ⟨_, rfl⟩, hW, hsame.mono (by decide) (by decide)⟩
      · exact retN X0 hx (t := .boolean) Bd.returns (by simp) (hb hby d1_29) hr
      · show Q_rm1 Z p0 h0 n0 _ s₁.heap _
        rw [e0]
        exact ⟨by unfold own_isf; simp only [if_neg hc1, if_neg hc10], N0, rfl⟩
def own_ref (p0 : Int32) : Int32 := (if (((p0 ||| (32 : Int32)).toInt64) - (97 : Int64)) < (0 : Int64) then (0 : Int32) else (if (((p0 ||| (32 : Int32)).toInt64) - (97 : Int64)) < (26 : Int64) then (1 : Int32) else (0 : Int32)))
theorem d2_0 : decode method_2_code 0 = .ok (.iload_n 0, 1) := by decide +kernel
theorem d2_1 : decode method_2_code 1 = .ok (.bipush 32, 2) := by decide +kernel
theorem d2_3 : decode method_2_code 3 = .ok (.ior, 1) := by decide +kernel
theorem d2_4 : decode method_2_code 4 = .ok (.i2l, 1) := by decide +kernel
theorem d2_5 : decode method_2_code 5 = .ok (.ldc2_w 7, 3) := by decide +kernel
theorem d2_8 : decode method_2_code 8 = .ok (.lsub, 1) := by decide +kernel
theorem d2_9 : decode method_2_code 9 = .ok (.lstore_n 1, 1) := by decide +kernel
theorem d2_10 : decode method_2_code 10 = .ok (.lload_n 1, 1) := by decide +kernel
theorem d2_11 : decode method_2_code 11 = .ok (.lconst 0, 1) := by decide +kernel
theorem d2_12 : decode method_2_code 12 = .ok (.lcmp, 1) := by decide +kernel
theorem d2_13 : decode method_2_code 13 = .ok (.ifCond .lt 15, 3) := by decide +kernel
theorem d2_16 : decode method_2_code 16 = .ok (.lload_n 1, 1) := by decide +kernel
theorem d2_17 : decode method_2_code 17 = .ok (.ldc2_w 9, 3) := by decide +kernel
theorem d2_20 : decode method_2_code 20 = .ok (.lcmp, 1) := by decide +kernel
theorem d2_21 : decode method_2_code 21 = .ok (.ifCond .ge 7, 3) := by decide +kernel
theorem d2_24 : decode method_2_code 24 = .ok (.iconst 1, 1) := by decide +kernel
theorem d2_25 : decode method_2_code 25 = .ok (.goto 4, 3) := by decide +kernel
theorem d2_28 : decode method_2_code 28 = .ok (.iconst 0, 1) := by decide +kernel
theorem d2_29 : decode method_2_code 29 = .ok (.ireturn, 1) := by decide +kernel
theorem pn_rm2 : plainName "com/example/graphkind/graphkind/IriSchemeIsFirstPinLaw" = true := by first | (simp [plainName, overriddenIn]; done) | decide +kernel
theorem ef_rm2 (m : MethodId) (p0 : Int32) : entryFrame m #[(.int p0)] 3 = mkF m 0 #[.val (.int p0), .unset, .unset] [] := by first | (simp [entryFrame, mkF, argsToLocals, Value.category]; done) | rfl
def Q_rm2 (Z : State) (p0 : Int32) (h0 : Heap) (n0 : Nat) (v : Option Value) (h : Heap) (L : List Loc) : Prop := v = some (.int (own_ref p0)) ∧ Fr n0 L ∧ h = h0
set_option maxRecDepth 65536 in
set_option maxHeartbeats 40000000 in
theorem rm2 (l : Launch) (Z : State) (a0 : Array Value) (hw : ∀ d ∈ tables_1, d.before a0 Z = true) (ws : List Jvm.Cond) (p0 : Int32) (h0 : Heap) (n0 : Nat) (Z0 : n0 ≤ h0.size) :
    MetFree l (⟨"com/example/graphkind/graphkind/IriSchemeIsFirstPinLaw", "ref", "(I)Z"⟩ : MethodName) (head1 (Jvm.Cond.code (⟨"com/example/graphkind/graphkind/IriSchemeIsFirstPinLaw", "ref", "(I)Z"⟩ : MethodName) method_2_code 3 (some .boolean) :: ws) ({ frames := 0, cells := 0, slots := 0, locals := 0 } : Room)) (fun a U => a = #[(.int p0)] ∧ Z.Warmed39 U.vm ∧ U.heap = h0) (fun _ _ _ _ _ => True) (fun _ U o U' => ∃ v L, o = .returned v ∧ Q_rm2 Z p0 h0 n0 v U'.heap L ∧ FrameEnd U o U' L ({ frames := 0, cells := 0, slots := 0, locals := 0 } : Room).cells ({ frames := 0, cells := 0, slots := 0, locals := 0 } : Room).slots) := by
  refine MetFree.of_bodySF (plainFor_of_name pn_rm2) hisR ?_
  intro p e s m args below meth c s₁ Bd hml0 hP hK
  obtain ⟨rfl, hZ, hh⟩ := hP
  have hx := Bd.exec
  have hby := Bd.bytes
  have hml : c.maxLocals = 3 := hml0
  have hown : s.vm.findClass "com/example/graphkind/graphkind/IriSchemeIsFirstPinLaw" = some m.cls := findClass_of_methodNamed Bd.named
  have hnm := (name_of_methodNamed Bd.named Bd.method).1
  have X0 : Stand p l e ({ frames := 0, cells := 0, slots := 0, locals := 0 } : Room) s m #[(.int p0)] below meth c s₁ [] 0 0 := Stand.of_body Bd
  have e0 : s₁.heap = h0 := by rw [← hh, Bd.state]; rfl
  have N0 := Fr.nil n0
  have K0 := Keep.refl h0 []
  have go0 : Go p e below (s₁.setTop (entryFrame m #[(.int p0)] 3)) (s₁.setTop (mkF m 0 #[.val (.int p0), .unset, .unset] [])) := fun t k => castTop (ef_rm2 m p0) k
  have go2 := go0.step (C := s₁.setTop (mkF m 13 #[.val (.int p0), .val (.long (((p0 ||| (32 : Int32)).toInt64) - (97 : Int64))), .second] [(.int (lcmpW (((p0 ||| (32 : Int32)).toInt64) - (97 : Int64)) (0 : Int64)))])) (fun t k => by
    show Steps p.tables e below (s₁.setTop (mkF m 0 #[.val (.int p0), .unset, .unset] [])) _
    refine XS.iloadN X0.here hx rfl (hb hby d2_0) rfl ?_
    show Steps p.tables e below (s₁.setTop (mkF m 1 #[.val (.int p0), .unset, .unset] [(.int p0)])) _
    refine XS.bipush X0.here hx rfl (hb hby d2_1) ?_
    show Steps p.tables e below (s₁.setTop (mkF m 3 #[.val (.int p0), .unset, .unset] [(.int (32 : Int32)), (.int p0)])) _
    refine XS.ior X0.here hx rfl (hb hby d2_3) rfl ?_
    show Steps p.tables e below (s₁.setTop (mkF m 4 #[.val (.int p0), .unset, .unset] [(.int (p0 ||| (32 : Int32)))])) _
    refine XS.i2l X0.here hx rfl (hb hby d2_4) rfl ?_
    show Steps p.tables e below (s₁.setTop (mkF m 5 #[.val (.int p0), .unset, .unset] [(.long ((p0 ||| (32 : Int32)).toInt64))])) _
    refine X0.ldc2Long hx hown (mvT hZ (hw _ (List.mem_of_getElem? (i := 9) rfl))) (g := (mkF m 5 #[.val (.int p0), .unset, .unset] [(.long ((p0 ||| (32 : Int32)).toInt64))])) rfl (hb hby d2_5) _ ?_
    show Steps p.tables e below (s₁.setTop (mkF m 8 #[.val (.int p0), .unset, .unset] [(.long (97 : Int64)), (.long ((p0 ||| (32 : Int32)).toInt64))])) _
    refine XS.lsub X0.here hx rfl (hb hby d2_8) rfl ?_
    show Steps p.tables e below (s₁.setTop (mkF m 9 #[.val (.int p0), .unset, .unset] [(.long (((p0 ||| (32 : Int32)).toInt64) - (97 : Int64)))])) _
    refine XS.lstoreN X0.here hx rfl (hb hby d2_9) rfl (l' := #[.val (.int p0), .val (.long (((p0 ||| (32 : Int32)).toInt64) - (97 : Int64))), .second]) rfl ?_
    show Steps p.tables e below (s₁.setTop (mkF m 10 #[.val (.int p0), .val (.long (((p0 ||| (32 : Int32)).toInt64) - (97 : Int64))), .second] [])) _
    refine XS.lloadN X0.here hx rfl (hb hby d2_10) rfl ?_
    show Steps p.tables e below (s₁.setTop (mkF m 11 #[.val (.int p0), .val (.long (((p0 ||| (32 : Int32)).toInt64) - (97 : Int64))), .second] [(.long (((p0 ||| (32 : Int32)).toInt64) - (97 : Int64)))])) _
    refine XS.lconst X0.here hx rfl (hb hby d2_11) ?_
    show Steps p.tables e below (s₁.setTop (mkF m 12 #[.val (.int p0), .val (.long (((p0 ||| (32 : Int32)).toInt64) - (97 : Int64))), .second] [(.long (0 : Int64)), (.long (((p0 ||| (32 : Int32)).toInt64) - (97 : Int64)))])) _
    refine XS.lcmp X0.here hx rfl (hb hby d2_12) rfl ?_
    exact k)
  by_cases hc1 : (((p0 ||| (32 : Int32)).toInt64) - (97 : Int64)) < (0 : Int64)
  · skip
    have go3 := go2.step (C := s₁.setTop (mkF m 29 #[.val (.int p0), .val (.long (((p0 ||| (32 : Int32)).toInt64) - (97 : Int64))), .second] [(.int (0 : Int32))])) (fun t k => by
      show Steps p.tables e below (s₁.setTop (mkF m 13 #[.val (.int p0), .val (.long (((p0 ||| (32 : Int32)).toInt64) - (97 : Int64))), .second] [(.int (lcmpW (((p0 ||| (32 : Int32)).toInt64) - (97 : Int64)) (0 : Int64)))])) _
      refine XS.ifYes X0.here hx rfl (pc0 := 13) (pc' := 28) rfl (hb hby d2_13) rfl ((if0 _ _).trans (tlt ((lw_lt _ _).mpr hc1)).1) (by decide) (by decide) ?_
      show Steps p.tables e below (s₁.setTop (mkF m 28 #[.val (.int p0), .val (.long (((p0 ||| (32 : Int32)).toInt64) - (97 : Int64))), .second] [])) _
      refine XS.iconst X0.here hx rfl (hb hby d2_28) ?_
      exact k)
    obtain ⟨fs, hr, hrun, hended, hW, hsame⟩ := X0.leave (v := some (.int (0 : Int32))) (fun h => by rw [Bd.returns] at h; cases h)
    refine ⟨_, _, go3 _ ?_, hrun, hended, _, _, rfl, ?_, ⟨_, rfl⟩, hW, hsame.mono (by decide) (by decide)⟩
    · exact retN X0 hx (t := .boolean) Bd.returns (by simp) (hb hby d2_29) hr
    · show Q_rm2 Z p0 h0 n0 _ s₁.heap _
      rw [e0]
      exact ⟨by unfold own_ref; simp only [if_pos hc1], N0, rfl⟩
  · skip
    have go5 := go2.step (C := s₁.setTop (mkF m 21 #[.val (.int p0), .val (.long (((p0 ||| (32 : Int32)).toInt64) - (97 : Int64))), .second] [(.int (lcmpW (((p0 ||| (32 : Int32)).toInt64) - (97 : Int64)) (26 : Int64)))])) (fun t k => by
      show Steps p.tables e below (s₁.setTop (mkF m 13 #[.val (.int p0), .val (.long (((p0 ||| (32 : Int32)).toInt64) - (97 : Int64))), .second] [(.int (lcmpW (((p0 ||| (32 : Int32)).toInt64) - (97 : Int64)) (0 : Int64)))])) _
      refine XS.ifNo X0.here hx rfl (hb hby d2_13) rfl ((if0 _ _).trans (flt (fun q => hc1 ((lw_lt _ _).mp q))).1) ?_
      show Steps p.tables e below (s₁.setTop (mkF m 16 #[.val (.int p0), .val (.long (((p0 ||| (32 : Int32)).toInt64) - (97 : Int64))), .second] [])) _
      refine XS.lloadN X0.here hx rfl (hb hby d2_16) rfl ?_
      show Steps p.tables e below (s₁.setTop (mkF m 17 #[.val (.int p0), .val (.long (((p0 ||| (32 : Int32)).toInt64) - (97 : Int64))), .second] [(.long (((p0 ||| (32 : Int32)).toInt64) - (97 : Int64)))])) _
      refine X0.ldc2Long hx hown (mvT hZ (hw _ (List.mem_of_getElem? (i := 10) rfl))) (g := (mkF m 17 #[.val (.int p0), .val (.long (((p0 ||| (32 : Int32)).toInt64) - (97 : Int64))), .second] [(.long (((p0 ||| (32 : Int32)).toInt64) - (97 : Int64)))])) rfl (hb hby d2_17) _ ?_
      show Steps p.tables e below (s₁.setTop (mkF m 20 #[.val (.int p0), .val (.long (((p0 ||| (32 : Int32)).toInt64) - (97 : Int64))), .second] [(.long (26 : Int64)), (.long (((p0 ||| (32 : Int32)).toInt64) - (97 : Int64)))])) _
      refine XS.lcmp X0.here hx rfl (hb hby d2_20) rfl ?_
      exact k)
    by_cases hc4 : (((p0 ||| (32 : Int32)).toInt64) - (97 : Int64)) < (26 : Int64)
    · skip
      have go6 := go5.step (C := s₁.setTop (mkF m 29 #[.val (.int p0), .val (.long (((p0 ||| (32 : Int32)).toInt64) - (97 : Int64))), .second] [(.int (1 : Int32))])) (fun t k => by
        show Steps p.tables e below (s₁.setTop (mkF m 21 #[.val (.int p0), .val (.long (((p0 ||| (32 : Int32)).toInt64) - (97 : Int64))), .second] [(.int (lcmpW (((p0 ||| (32 : Int32)).toInt64) - (97 : Int64)) (26 : Int64)))])) _
        refine XS.ifNo X0.here hx rfl (hb hby d2_21) rfl ((if0 _ _).trans (tlt ((lw_lt _ _).mpr hc4)).2.1) ?_
        show Steps p.tables e below (s₁.setTop (mkF m 24 #[.val (.int p0), .val (.long (((p0 ||| (32 : Int32)).toInt64) - (97 : Int64))), .second] [])) _
        refine XS.iconst X0.here hx rfl (hb hby d2_24) ?_
        show Steps p.tables e below (s₁.setTop (mkF m 25 #[.val (.int p0), .val (.long (((p0 ||| (32 : Int32)).toInt64) - (97 : Int64))), .second] [(.int (1 : Int32))])) _
        refine XS.goto X0.here hx rfl (pc0 := 25) (pc' := 29) rfl (hb hby d2_25) (by decide) (by decide) ?_
        exact k)
      obtain ⟨fs, hr, hrun, hended, hW, hsame⟩ := X0.leave (v := some (.int (1 : Int32))) (fun h => by rw [Bd.returns] at h; cases h)
      refine ⟨_, _, go6 _ ?_, hrun, hended, _, _, rfl, ?_, ⟨_, rfl⟩, hW, hsame.mono (by decide) (by decide)⟩
      · exact retN X0 hx (t := .boolean) Bd.returns (by simp) (hb hby d2_29) hr
      · show Q_rm2 Z p0 h0 n0 _ s₁.heap _
        rw [e0]
        exact ⟨by unfold own_ref; simp only [if_neg hc1, if_pos hc4], N0, rfl⟩
    · skip
      have go7 := go5.step (C := s₁.setTop (mkF m 29 #[.val (.int p0), .val (.long (((p0 ||| (32 : Int32)).toInt64) - (97 : Int64))), .second] [(.int (0 : Int32))])) (fun t k => by
        show Steps p.tables e below (s₁.setTop (mkF m 21 #[.val (.int p0), .val (.long (((p0 ||| (32 : Int32)).toInt64) - (97 : Int64))), .second] [(.int (lcmpW (((p0 ||| (32 : Int32)).toInt64) - (97 : Int64)) (26 : Int64)))])) _
        refine XS.ifYes X0.here hx rfl (pc0 := 21) (pc' := 28) rfl (hb hby d2_21) rfl ((if0 _ _).trans (flt (fun q => hc4 ((lw_lt _ _).mp q))).2.1) (by decide) (by decide) ?_
        show Steps p.tables e below (s₁.setTop (mkF m 28 #[.val (.int p0), .val (.long (((p0 ||| (32 : Int32)).toInt64) - (97 : Int64))), .second] [])) _
        refine XS.iconst X0.here hx rfl (hb hby d2_28) ?_
        exact k)
      obtain ⟨fs, hr, hrun, hended, hW, hsame⟩ := X0.leave (v := some (.int (0 : Int32))) (fun h => by rw [Bd.returns] at h; cases h)
      refine ⟨_, _, go7 _ ?_, hrun, hended, _, _, rfl, ?_, ⟨_, rfl⟩, hW, hsame.mono (by decide) (by decide)⟩
      · exact retN X0 hx (t := .boolean) Bd.returns (by simp) (hb hby d2_29) hr
      · show Q_rm2 Z p0 h0 n0 _ s₁.heap _
        rw [e0]
        exact ⟨by unfold own_ref; simp only [if_neg hc1, if_neg hc4], N0, rfl⟩
theorem own_or32 (n : Nat) : n ||| 32 = if n / 32 % 2 = 1 then n else n + 32 := by
  have h1 : n = 2 ^ 5 * (n / 32) + n % 32 := by omega
  have h2 : n / 32 = 2 * (n / 64) + n / 32 % 2 := by omega
  have key : ∀ b < 64, b ||| 32 = if b / 32 % 2 = 1 then b else b + 32 := by decide
  have h3 : n = 2 ^ 6 * (n / 64) + n % 64 := by omega
  have h4 : n ||| 32 = 2 ^ 6 * (n / 64) + (n % 64 ||| 32) := by
    conv => lhs; rw [h3]
    rw [Nat.two_pow_add_eq_or_of_lt (by omega), Nat.or_assoc, Nat.two_pow_add_eq_or_of_lt]
    exact Nat.or_lt_two_pow (by omega) (by decide)
  rw [h4, key _ (Nat.mod_lt _ (by decide))]
  split <;> split <;> omega
theorem own_or (c : Int32) : (c ||| (32 : Int32)).toInt = c.toInt ∧ c.toInt / 32 % 2 = 1 ∨ (c ||| (32 : Int32)).toInt = c.toInt + 32 ∧ c.toInt / 32 % 2 = 0 := by
  have h : (c ||| (32 : Int32)).toBitVec.toNat = c.toBitVec.toNat ||| 32 := by
    show (c.toBitVec ||| (32 : Int32).toBitVec).toNat = _
    rw [BitVec.toNat_or]; rfl
  rw [own_or32] at h
  have hl := c.toBitVec.isLt
  have hl2 := (c ||| (32 : Int32)).toBitVec.isLt
  have e1 : c.toInt = c.toBitVec.toInt := rfl
  have e2 : (c ||| (32 : Int32)).toInt = (c ||| (32 : Int32)).toBitVec.toInt := rfl
  rw [BitVec.toInt_eq_toNat_cond] at e1 e2
  rw [e1, e2]
  split at h
  · left; rw [h]; constructor
    · rfl
    · split <;> omega
  · right; rw [h]; constructor
    · split <;> split <;> omega
    · split <;> omega
theorem own_eq (c : Int32) : own_isf c = own_ref c := by
  have h := own_or c
  have rc := rng32 c
  unfold own_isf own_ref
  have k1 := c_lsub (c ||| (32 : Int32)).toInt64 (97 : Int64)
  have r1 := rng64 ((c ||| (32 : Int32)).toInt64 - (97 : Int64))
  have k2 : (c ||| (32 : Int32)).toInt64.toInt = (c ||| (32 : Int32)).toInt := Int32.toInt_toInt64 _
  have e1 : (97 : Int64).toInt = 97 := rfl
  have e2 : (26 : Int64).toInt = 26 := rfl
  have e3 : (0 : Int64).toInt = 0 := rfl
  have e4 : (97 : Int32).toInt = 97 := rfl
  have e5 : (122 : Int32).toInt = 122 := rfl
  have e6 : (65 : Int32).toInt = 65 := rfl
  have e7 : (90 : Int32).toInt = 90 := rfl
  rw [e1] at k1
  simp only [Int32.lt_iff_toInt_lt, Int64.lt_iff_toInt_lt, e2, e3, e4, e5, e6, e7]
  generalize (c ||| (32 : Int32)).toInt64 - (97 : Int64) = u at *
  rcases h with h | h <;> (repeat' split) <;> first | rfl | (exfalso; omega)
theorem own_get (j : Nat) : ∃ d : Int32, List.getD [(.int (64 : Int32)), (.int (65 : Int32)), (.int (90 : Int32)), (.int (91 : Int32)), (.int (96 : Int32)), (.int (97 : Int32)), (.int (122 : Int32)), (.int (123 : Int32))] j (.int (0 : Int32)) = Value.int d := by
  match j with
  | 0 => exact ⟨_, rfl⟩
  | 1 => exact ⟨_, rfl⟩
  | 2 => exact ⟨_, rfl⟩
  | 3 => exact ⟨_, rfl⟩
  | 4 => exact ⟨_, rfl⟩
  | 5 => exact ⟨_, rfl⟩
  | 6 => exact ⟨_, rfl⟩
  | 7 => exact ⟨_, rfl⟩
  | n + 8 => exact ⟨0, rfl⟩
theorem own_7 (k : Int32) : ¬ (k &&& (7 : Int32)) < 0 ∧ (k &&& (7 : Int32)) < (8 : Int32) := by
  have h2 : (k &&& (7 : Int32)).toBitVec.toNat ≤ 7 := by
    show (k.toBitVec &&& (7 : Int32).toBitVec).toNat ≤ _
    rw [BitVec.toNat_and]; exact Nat.and_le_right
  have e1 : (k &&& (7 : Int32)).toInt = (k &&& (7 : Int32)).toBitVec.toInt := rfl
  rw [BitVec.toInt_eq_toNat_cond, if_pos (by omega)] at e1
  have e0 : (0 : Int32).toInt = 0 := rfl
  have e8 : (8 : Int32).toInt = 8 := rfl
  rw [Int32.lt_iff_toInt_lt, Int32.lt_iff_toInt_lt, e0, e8]; omega
theorem pn_rm0 : plainName "com/example/graphkind/graphkind/IriSchemeIsFirstPinLaw" = true := by first | (simp [plainName, overriddenIn]; done) | decide +kernel
theorem pd0_0 : parseMethodDescriptor "(I)Z" = some ⟨[.int], some .boolean⟩ := by decide +kernel
theorem ef_rm0 (m : MethodId) (p0 : Int32) (p1 : Int32) : entryFrame m #[(.int p0), (.int p1)] maxLocals = mkF m 0 #[.val (.int p0), .val (.int p1), .unset, .unset, .unset, .unset] [] := by first | (simp [entryFrame, mkF, argsToLocals, Value.category, maxLocals]; done) | rfl
def Q_rm0 (Z : State) (p0 : Int32) (p1 : Int32) (h0 : Heap) (n0 : Nat) (v : Option Value) (h : Heap) (L : List Loc) : Prop := v = some (.int (1 : Int32)) ∧ Fr n0 L
set_option maxRecDepth 65536 in
set_option maxHeartbeats 40000000 in
theorem rm0 (l : Launch) (Z : State) (a0 : Array Value) (hw : ∀ d ∈ tables_1, d.before a0 Z = true) (ws : List Jvm.Cond) (p0 : Int32) (p1 : Int32) (h0 : Heap) (n0 : Nat) (Z0 : n0 ≤ h0.size) :
    MetFree l x (head1 (Jvm.Cond.code x code maxLocals ret :: ws) room_1) (fun a U => a = #[(.int p0), (.int p1)] ∧ Z.Warmed39 U.vm ∧ U.heap = h0) (fun _ _ _ _ _ => True) (fun _ U o U' => ∃ v L, o = .returned v ∧ Q_rm0 Z p0 p1 h0 n0 v U'.heap L ∧ FrameEnd U o U' L room_1.cells room_1.slots) := by
  refine MetFree.of_bodySF (plainFor_of_name pn_rm0) hisR ?_
  intro p e s m args below meth c s₁ Bd hml0 hP hK
  obtain ⟨rfl, hZ, hh⟩ := hP
  have hx := Bd.exec
  have hby := Bd.bytes
  have hml : c.maxLocals = 6 := hml0
  have hown : s.vm.findClass "com/example/graphkind/graphkind/IriSchemeIsFirstPinLaw" = some m.cls := findClass_of_methodNamed Bd.named
  have hnm := (name_of_methodNamed Bd.named Bd.method).1
  have X0 : Stand p l e room_1 s m #[(.int p0), (.int p1)] below meth c s₁ [] 0 0 := Stand.of_body Bd
  have e0 : s₁.heap = h0 := by rw [← hh, Bd.state]; rfl
  have N0 := Fr.nil n0
  have K0 := Keep.refl h0 []
  have go0 : Go p e below (s₁.setTop (entryFrame m #[(.int p0), (.int p1)] maxLocals)) (s₁.setTop (mkF m 0 #[.val (.int p0), .val (.int p1), .unset, .unset, .unset, .unset] [])) := fun t k => castTop (ef_rm0 m p0 p1) k
  have go1 := go0.step (C := s₁.setTop (mkF m 2 #[.val (.int p0), .val (.int p1), .unset, .unset, .unset, .unset] [(.int (8 : Int32))])) (fun t k => by
    show Steps p.tables e below (s₁.setTop (mkF m 0 #[.val (.int p0), .val (.int p1), .unset, .unset, .unset, .unset] [])) _
    refine XS.bipush X0.here hx rfl (hb hby at_0) ?_
    exact k)
  obtain ⟨T2, h2, k2, X2, e2, E2, A2, st2⟩ := newP X0 hx hZ (hw _ (List.mem_of_getElem? (i := 0) rfl)) e0 (g := (mkF m 2 #[.val (.int p0), .val (.int p1), .unset, .unset, .unset, .unset] [(.int (8 : Int32))])) rfl (hb hby at_2) rfl (by decide) (cap := 8) (by decide) (by decide) (by decide) (by decide)
  obtain ⟨b2, g2⟩ : ∃ z, z = h0.size := ⟨_, rfl⟩
  rw [← g2] at A2 st2
  have g_b2 : n0 ≤ b2 := Nat.le_trans Z0 (Nat.le_of_eq g2.symm)
  have sz_b2 : h0.size ≤ b2 := Nat.le_trans K0.1 (Nat.le_of_eq g2.symm)
  have V2 : Arv Z h2 b2 k2 .int (8 : Int32) [(.int (0 : Int32)), (.int (0 : Int32)), (.int (0 : Int32)), (.int (0 : Int32)), (.int (0 : Int32)), (.int (0 : Int32)), (.int (0 : Int32)), (.int (0 : Int32))] (.int (0 : Int32)) := (Arv.new A2 (by decide)).pad (pad_rep [] (.int (0 : Int32)) 8)
  have Z2 : n0 ≤ h2.size := Nat.le_trans Z0 E2.1
  have K2 := K0.ext E2
  have go2 := go1.step (C := T2.setTop (mkF m 4 #[.val (.int p0), .val (.int p1), .unset, .unset, .unset, .unset] [(.ref b2)])) (fun t k => st2 t k)
  have go3 := go2.step (C := T2.setTop (mkF m 8 #[.val (.int p0), .val (.int p1), .unset, .unset, .unset, .unset] [(.int (64 : Int32)), (.int (0 : Int32)), (.ref b2), (.ref b2)])) (fun t k => by
    show Steps p.tables e below (T2.setTop (mkF m 4 #[.val (.int p0), .val (.int p1), .unset, .unset, .unset, .unset] [(.ref b2)])) _
    refine XS.dup X2.here hx rfl (hb hby at_4) rfl rfl ?_
    show Steps p.tables e below (T2.setTop (mkF m 5 #[.val (.int p0), .val (.int p1), .unset, .unset, .unset, .unset] [(.ref b2), (.ref b2)])) _
    refine XS.iconst X2.here hx rfl (hb hby at_5) ?_
    show Steps p.tables e below (T2.setTop (mkF m 6 #[.val (.int p0), .val (.int p1), .unset, .unset, .unset, .unset] [(.int (0 : Int32)), (.ref b2), (.ref b2)])) _
    refine XS.bipush X2.here hx rfl (hb hby at_6) ?_
    exact k)
  obtain ⟨cl4, Ar4, qa4, Sa4, Na4, Ha4, Ga4⟩ := V2
  have hin4 : ¬ ((0 : Int32) < 0 ∨ cl4.slots.size ≤ ((0 : Int32)).toNatClampNeg) := inb_of Sa4 ⟨by decide, by decide⟩
  obtain ⟨T5, h5, X5, e5, W5, st5⟩ := stI X2 hx hZ e2 Ar4 (j := (0 : Int32)) hin4 (g := (mkF m 8 #[.val (.int p0), .val (.int p1), .unset, .unset, .unset, .unset] [(.int (64 : Int32)), (.int (0 : Int32)), (.ref b2), (.ref b2)])) rfl rfl (hb hby at_8)
  have V5 : Arv Z h5 b2 k2 .int (8 : Int32) [(.int (64 : Int32)), (.int (0 : Int32)), (.int (0 : Int32)), (.int (0 : Int32)), (.int (0 : Int32)), (.int (0 : Int32)), (.int (0 : Int32)), (.int (0 : Int32))] (.int (0 : Int32)) := Arv.set Ar4 qa4 Sa4 Na4 Ha4 Ga4 rfl W5 0 rfl (Nat.le_of_ble_eq_true rfl)
  have Z5 : n0 ≤ h5.size := Nat.le_trans Z2 (Nat.le_of_eq W5.size.symm)
  have K5 := K2.wr W5 (Or.inr sz_b2)
  have N5 := Fr.snoc X5 N0 g_b2
  have go5 := go3.step (C := T5.setTop (mkF m 9 #[.val (.int p0), .val (.int p1), .unset, .unset, .unset, .unset] [(.ref b2)])) (fun t k => st5 t k)
  have go7 := go5.step (C := T5.setTop (mkF m 13 #[.val (.int p0), .val (.int p1), .unset, .unset, .unset, .unset] [(.int (65 : Int32)), (.int (1 : Int32)), (.ref b2), (.ref b2)])) (fun t k => by
    show Steps p.tables e below (T5.setTop (mkF m 9 #[.val (.int p0), .val (.int p1), .unset, .unset, .unset, .unset] [(.ref b2)])) _
    refine XS.dup X5.here hx rfl (hb hby at_9) rfl rfl ?_
    show Steps p.tables e below (T5.setTop (mkF m 10 #[.val (.int p0), .val (.int p1), .unset, .unset, .unset, .unset] [(.ref b2), (.ref b2)])) _
    refine XS.iconst X5.here hx rfl (hb hby at_10) ?_
    show Steps p.tables e below (T5.setTop (mkF m 11 #[.val (.int p0), .val (.int p1), .unset, .unset, .unset, .unset] [(.int (1 : Int32)), (.ref b2), (.ref b2)])) _
    refine XS.bipush X5.here hx rfl (hb hby at_11) ?_
    exact k)
  obtain ⟨cl8, Ar8, qa8, Sa8, Na8, Ha8, Ga8⟩ := V5
  have hin8 : ¬ ((1 : Int32) < 0 ∨ cl8.slots.size ≤ ((1 : Int32)).toNatClampNeg) := inb_of Sa8 ⟨by decide, by decide⟩
  obtain ⟨T9, h9, X9, e9, W9, st9⟩ := stI X5 hx hZ e5 Ar8 (j := (1 : Int32)) hin8 (g := (mkF m 13 #[.val (.int p0), .val (.int p1), .unset, .unset, .unset, .unset] [(.int (65 : Int32)), (.int (1 : Int32)), (.ref b2), (.ref b2)])) rfl rfl (hb hby at_13)
  have V9 : Arv Z h9 b2 k2 .int (8 : Int32) [(.int (64 : Int32)), (.int (65 : Int32)), (.int (0 : Int32)), (.int (0 : Int32)), (.int (0 : Int32)), (.int (0 : Int32)), (.int (0 : Int32)), (.int (0 : Int32))] (.int (0 : Int32)) := Arv.set Ar8 qa8 Sa8 Na8 Ha8 Ga8 rfl W9 1 rfl (Nat.le_of_ble_eq_true rfl)
  have Z9 : n0 ≤ h9.size := Nat.le_trans Z5 (Nat.le_of_eq W9.size.symm)
  have K9 := K5.wr W9 (Or.inr sz_b2)
  have N9 := Fr.snoc X9 N5 g_b2
  have go9 := go7.step (C := T9.setTop (mkF m 14 #[.val (.int p0), .val (.int p1), .unset, .unset, .unset, .unset] [(.ref b2)])) (fun t k => st9 t k)
  have go11 := go9.step (C := T9.setTop (mkF m 18 #[.val (.int p0), .val (.int p1), .unset, .unset, .unset, .unset] [(.int (90 : Int32)), (.int (2 : Int32)), (.ref b2), (.ref b2)])) (fun t k => by
    show Steps p.tables e below (T9.setTop (mkF m 14 #[.val (.int p0), .val (.int p1), .unset, .unset, .unset, .unset] [(.ref b2)])) _
    refine XS.dup X9.here hx rfl (hb hby at_14) rfl rfl ?_
    show Steps p.tables e below (T9.setTop (mkF m 15 #[.val (.int p0), .val (.int p1), .unset, .unset, .unset, .unset] [(.ref b2), (.ref b2)])) _
    refine XS.iconst X9.here hx rfl (hb hby at_15) ?_
    show Steps p.tables e below (T9.setTop (mkF m 16 #[.val (.int p0), .val (.int p1), .unset, .unset, .unset, .unset] [(.int (2 : Int32)), (.ref b2), (.ref b2)])) _
    refine XS.bipush X9.here hx rfl (hb hby at_16) ?_
    exact k)
  obtain ⟨cl12, Ar12, qa12, Sa12, Na12, Ha12, Ga12⟩ := V9
  have hin12 : ¬ ((2 : Int32) < 0 ∨ cl12.slots.size ≤ ((2 : Int32)).toNatClampNeg) := inb_of Sa12 ⟨by decide, by decide⟩
  obtain ⟨T13, h13, X13, e13, W13, st13⟩ := stI X9 hx hZ e9 Ar12 (j := (2 : Int32)) hin12 (g := (mkF m 18 #[.val (.int p0), .val (.int p1), .unset, .unset, .unset, .unset] [(.int (90 : Int32)), (.int (2 : Int32)), (.ref b2), (.ref b2)])) rfl rfl (hb hby at_18)
  have V13 : Arv Z h13 b2 k2 .int (8 : Int32) [(.int (64 : Int32)), (.int (65 : Int32)), (.int (90 : Int32)), (.int (0 : Int32)), (.int (0 : Int32)), (.int (0 : Int32)), (.int (0 : Int32)), (.int (0 : Int32))] (.int (0 : Int32)) := Arv.set Ar12 qa12 Sa12 Na12 Ha12 Ga12 rfl W13 2 rfl (Nat.le_of_ble_eq_true rfl)
  have Z13 : n0 ≤ h13.size := Nat.le_trans Z9 (Nat.le_of_eq W13.size.symm)
  have K13 := K9.wr W13 (Or.inr sz_b2)
  have N13 := Fr.snoc X13 N9 g_b2
  have go13 := go11.step (C := T13.setTop (mkF m 19 #[.val (.int p0), .val (.int p1), .unset, .unset, .unset, .unset] [(.ref b2)])) (fun t k => st13 t k)
  have go15 := go13.step (C := T13.setTop (mkF m 23 #[.val (.int p0), .val (.int p1), .unset, .unset, .unset, .unset] [(.int (91 : Int32)), (.int (3 : Int32)), (.ref b2), (.ref b2)])) (fun t k => by
    show Steps p.tables e below (T13.setTop (mkF m 19 #[.val (.int p0), .val (.int p1), .unset, .unset, .unset, .unset] [(.ref b2)])) _
    refine XS.dup X13.here hx rfl (hb hby at_19) rfl rfl ?_
    show Steps p.tables e below (T13.setTop (mkF m 20 #[.val (.int p0), .val (.int p1), .unset, .unset, .unset, .unset] [(.ref b2), (.ref b2)])) _
    refine XS.iconst X13.here hx rfl (hb hby at_20) ?_
    show Steps p.tables e below (T13.setTop (mkF m 21 #[.val (.int p0), .val (.int p1), .unset, .unset, .unset, .unset] [(.int (3 : Int32)), (.ref b2), (.ref b2)])) _
    refine XS.bipush X13.here hx rfl (hb hby at_21) ?_
    exact k)
  obtain ⟨cl16, Ar16, qa16, Sa16, Na16, Ha16, Ga16⟩ := V13
  have hin16 : ¬ ((3 : Int32) < 0 ∨ cl16.slots.size ≤ ((3 : Int32)).toNatClampNeg) := inb_of Sa16 ⟨by decide, by decide⟩
  obtain ⟨T17, h17, X17, e17, W17, st17⟩ := stI X13 hx hZ e13 Ar16 (j := (3 : Int32)) hin16 (g := (mkF m 23 #[.val (.int p0), .val (.int p1), .unset, .unset, .unset, .unset] [(.int (91 : Int32)), (.int (3 : Int32)), (.ref b2), (.ref b2)])) rfl rfl (hb hby at_23)
  have V17 : Arv Z h17 b2 k2 .int (8 : Int32) [(.int (64 : Int32)), (.int (65 : Int32)), (.int (90 : Int32)), (.int (91 : Int32)), (.int (0 : Int32)), (.int (0 : Int32)), (.int (0 : Int32)), (.int (0 : Int32))] (.int (0 : Int32)) := Arv.set Ar16 qa16 Sa16 Na16 Ha16 Ga16 rfl W17 3 rfl (Nat.le_of_ble_eq_true rfl)
  have Z17 : n0 ≤ h17.size := Nat.le_trans Z13 (Nat.le_of_eq W17.size.symm)
  have K17 := K13.wr W17 (Or.inr sz_b2)
  have N17 := Fr.snoc X17 N13 g_b2
  have go17 := go15.step (C := T17.setTop (mkF m 24 #[.val (.int p0), .val (.int p1), .unset, .unset, .unset, .unset] [(.ref b2)])) (fun t k => st17 t k)
  have go19 := go17.step (C := T17.setTop (mkF m 28 #[.val (.int p0), .val (.int p1), .unset, .unset, .unset, .unset] [(.int (96 : Int32)), (.int (4 : Int32)), (.ref b2), (.ref b2)])) (fun t k => by
    show Steps p.tables e below (T17.setTop (mkF m 24 #[.val (.int p0), .val (.int p1), .unset, .unset, .unset, .unset] [(.ref b2)])) _
    refine XS.dup X17.here hx rfl (hb hby at_24) rfl rfl ?_
    show Steps p.tables e below (T17.setTop (mkF m 25 #[.val (.int p0), .val (.int p1), .unset, .unset, .unset, .unset] [(.ref b2), (.ref b2)])) _
    refine XS.iconst X17.here hx rfl (hb hby at_25) ?_
    show Steps p.tables e below (T17.setTop (mkF m 26 #[.val (.int p0), .val (.int p1), .unset, .unset, .unset, .unset] [(.int (4 : Int32)), (.ref b2), (.ref b2)])) _
    refine XS.bipush X17.here hx rfl (hb hby at_26) ?_
    exact k)
  obtain ⟨cl20, Ar20, qa20, Sa20, Na20, Ha20, Ga20⟩ := V17
  have hin20 : ¬ ((4 : Int32) < 0 ∨ cl20.slots.size ≤ ((4 : Int32)).toNatClampNeg) := inb_of Sa20 ⟨by decide, by decide⟩
  obtain ⟨T21, h21, X21, e21, W21, st21⟩ := stI X17 hx hZ e17 Ar20 (j := (4 : Int32)) hin20 (g := (mkF m 28 #[.val (.int p0), .val (.int p1), .unset, .unset, .unset, .unset] [(.int (96 : Int32)), (.int (4 : Int32)), (.ref b2), (.ref b2)])) rfl rfl (hb hby at_28)
  have V21 : Arv Z h21 b2 k2 .int (8 : Int32) [(.int (64 : Int32)), (.int (65 : Int32)), (.int (90 : Int32)), (.int (91 : Int32)), (.int (96 : Int32)), (.int (0 : Int32)), (.int (0 : Int32)), (.int (0 : Int32))] (.int (0 : Int32)) := Arv.set Ar20 qa20 Sa20 Na20 Ha20 Ga20 rfl W21 4 rfl (Nat.le_of_ble_eq_true rfl)
  have Z21 : n0 ≤ h21.size := Nat.le_trans Z17 (Nat.le_of_eq W21.size.symm)
  have K21 := K17.wr W21 (Or.inr sz_b2)
  have N21 := Fr.snoc X21 N17 g_b2
  have go21 := go19.step (C := T21.setTop (mkF m 29 #[.val (.int p0), .val (.int p1), .unset, .unset, .unset, .unset] [(.ref b2)])) (fun t k => st21 t k)
  have go23 := go21.step (C := T21.setTop (mkF m 33 #[.val (.int p0), .val (.int p1), .unset, .unset, .unset, .unset] [(.int (97 : Int32)), (.int (5 : Int32)), (.ref b2), (.ref b2)])) (fun t k => by
    show Steps p.tables e below (T21.setTop (mkF m 29 #[.val (.int p0), .val (.int p1), .unset, .unset, .unset, .unset] [(.ref b2)])) _
    refine XS.dup X21.here hx rfl (hb hby at_29) rfl rfl ?_
    show Steps p.tables e below (T21.setTop (mkF m 30 #[.val (.int p0), .val (.int p1), .unset, .unset, .unset, .unset] [(.ref b2), (.ref b2)])) _
    refine XS.iconst X21.here hx rfl (hb hby at_30) ?_
    show Steps p.tables e below (T21.setTop (mkF m 31 #[.val (.int p0), .val (.int p1), .unset, .unset, .unset, .unset] [(.int (5 : Int32)), (.ref b2), (.ref b2)])) _
    refine XS.bipush X21.here hx rfl (hb hby at_31) ?_
    exact k)
  obtain ⟨cl24, Ar24, qa24, Sa24, Na24, Ha24, Ga24⟩ := V21
  have hin24 : ¬ ((5 : Int32) < 0 ∨ cl24.slots.size ≤ ((5 : Int32)).toNatClampNeg) := inb_of Sa24 ⟨by decide, by decide⟩
  obtain ⟨T25, h25, X25, e25, W25, st25⟩ := stI X21 hx hZ e21 Ar24 (j := (5 : Int32)) hin24 (g := (mkF m 33 #[.val (.int p0), .val (.int p1), .unset, .unset, .unset, .unset] [(.int (97 : Int32)), (.int (5 : Int32)), (.ref b2), (.ref b2)])) rfl rfl (hb hby at_33)
  have V25 : Arv Z h25 b2 k2 .int (8 : Int32) [(.int (64 : Int32)), (.int (65 : Int32)), (.int (90 : Int32)), (.int (91 : Int32)), (.int (96 : Int32)), (.int (97 : Int32)), (.int (0 : Int32)), (.int (0 : Int32))] (.int (0 : Int32)) := Arv.set Ar24 qa24 Sa24 Na24 Ha24 Ga24 rfl W25 5 rfl (Nat.le_of_ble_eq_true rfl)
  have Z25 : n0 ≤ h25.size := Nat.le_trans Z21 (Nat.le_of_eq W25.size.symm)
  have K25 := K21.wr W25 (Or.inr sz_b2)
  have N25 := Fr.snoc X25 N21 g_b2
  have go25 := go23.step (C := T25.setTop (mkF m 34 #[.val (.int p0), .val (.int p1), .unset, .unset, .unset, .unset] [(.ref b2)])) (fun t k => st25 t k)
  have go27 := go25.step (C := T25.setTop (mkF m 39 #[.val (.int p0), .val (.int p1), .unset, .unset, .unset, .unset] [(.int (122 : Int32)), (.int (6 : Int32)), (.ref b2), (.ref b2)])) (fun t k => by
    show Steps p.tables e below (T25.setTop (mkF m 34 #[.val (.int p0), .val (.int p1), .unset, .unset, .unset, .unset] [(.ref b2)])) _
    refine XS.dup X25.here hx rfl (hb hby at_34) rfl rfl ?_
    show Steps p.tables e below (T25.setTop (mkF m 35 #[.val (.int p0), .val (.int p1), .unset, .unset, .unset, .unset] [(.ref b2), (.ref b2)])) _
    refine XS.bipush X25.here hx rfl (hb hby at_35) ?_
    show Steps p.tables e below (T25.setTop (mkF m 37 #[.val (.int p0), .val (.int p1), .unset, .unset, .unset, .unset] [(.int (6 : Int32)), (.ref b2), (.ref b2)])) _
    refine XS.bipush X25.here hx rfl (hb hby at_37) ?_
    exact k)
  obtain ⟨cl28, Ar28, qa28, Sa28, Na28, Ha28, Ga28⟩ := V25
  have hin28 : ¬ ((6 : Int32) < 0 ∨ cl28.slots.size ≤ ((6 : Int32)).toNatClampNeg) := inb_of Sa28 ⟨by decide, by decide⟩
  obtain ⟨T29, h29, X29, e29, W29, st29⟩ := stI X25 hx hZ e25 Ar28 (j := (6 : Int32)) hin28 (g := (mkF m 39 #[.val (.int p0), .val (.int p1), .unset, .unset, .unset, .unset] [(.int (122 : Int32)), (.int (6 : Int32)), (.ref b2), (.ref b2)])) rfl rfl (hb hby at_39)
  have V29 : Arv Z h29 b2 k2 .int (8 : Int32) [(.int (64 : Int32)), (.int (65 : Int32)), (.int (90 : Int32)), (.int (91 : Int32)), (.int (96 : Int32)), (.int (97 : Int32)), (.int (122 : Int32)), (.int (0 : Int32))] (.int (0 : Int32)) := Arv.set Ar28 qa28 Sa28 Na28 Ha28 Ga28 rfl W29 6 rfl (Nat.le_of_ble_eq_true rfl)
  have Z29 : n0 ≤ h29.size := Nat.le_trans Z25 (Nat.le_of_eq W29.size.symm)
  have K29 := K25.wr W29 (Or.inr sz_b2)
  have N29 := Fr.snoc X29 N25 g_b2
  have go29 := go27.step (C := T29.setTop (mkF m 40 #[.val (.int p0), .val (.int p1), .unset, .unset, .unset, .unset] [(.ref b2)])) (fun t k => st29 t k)
  have go31 := go29.step (C := T29.setTop (mkF m 45 #[.val (.int p0), .val (.int p1), .unset, .unset, .unset, .unset] [(.int (123 : Int32)), (.int (7 : Int32)), (.ref b2), (.ref b2)])) (fun t k => by
    show Steps p.tables e below (T29.setTop (mkF m 40 #[.val (.int p0), .val (.int p1), .unset, .unset, .unset, .unset] [(.ref b2)])) _
    refine XS.dup X29.here hx rfl (hb hby at_40) rfl rfl ?_
    show Steps p.tables e below (T29.setTop (mkF m 41 #[.val (.int p0), .val (.int p1), .unset, .unset, .unset, .unset] [(.ref b2), (.ref b2)])) _
    refine XS.bipush X29.here hx rfl (hb hby at_41) ?_
    show Steps p.tables e below (T29.setTop (mkF m 43 #[.val (.int p0), .val (.int p1), .unset, .unset, .unset, .unset] [(.int (7 : Int32)), (.ref b2), (.ref b2)])) _
    refine XS.bipush X29.here hx rfl (hb hby at_43) ?_
    exact k)
  obtain ⟨cl32, Ar32, qa32, Sa32, Na32, Ha32, Ga32⟩ := V29
  have hin32 : ¬ ((7 : Int32) < 0 ∨ cl32.slots.size ≤ ((7 : Int32)).toNatClampNeg) := inb_of Sa32 ⟨by decide, by decide⟩
  obtain ⟨T33, h33, X33, e33, W33, st33⟩ := stI X29 hx hZ e29 Ar32 (j := (7 : Int32)) hin32 (g := (mkF m 45 #[.val (.int p0), .val (.int p1), .unset, .unset, .unset, .unset] [(.int (123 : Int32)), (.int (7 : Int32)), (.ref b2), (.ref b2)])) rfl rfl (hb hby at_45)
  have V33 : Arv Z h33 b2 k2 .int (8 : Int32) [(.int (64 : Int32)), (.int (65 : Int32)), (.int (90 : Int32)), (.int (91 : Int32)), (.int (96 : Int32)), (.int (97 : Int32)), (.int (122 : Int32)), (.int (123 : Int32))] (.int (0 : Int32)) := Arv.set Ar32 qa32 Sa32 Na32 Ha32 Ga32 rfl W33 7 rfl (Nat.le_of_ble_eq_true rfl)
  have Z33 : n0 ≤ h33.size := Nat.le_trans Z29 (Nat.le_of_eq W33.size.symm)
  have K33 := K29.wr W33 (Or.inr sz_b2)
  have N33 := Fr.snoc X33 N29 g_b2
  have go33 := go31.step (C := T33.setTop (mkF m 46 #[.val (.int p0), .val (.int p1), .unset, .unset, .unset, .unset] [(.ref b2)])) (fun t k => st33 t k)
  have go35 := go33.step (C := T33.setTop (mkF m 52 #[.val (.int p0), .val (.int p1), .val (.ref b2), .unset, .unset, .unset] [(.int (p1 &&& (7 : Int32))), (.ref b2)])) (fun t k => by
    show Steps p.tables e below (T33.setTop (mkF m 46 #[.val (.int p0), .val (.int p1), .unset, .unset, .unset, .unset] [(.ref b2)])) _
    refine XS.astoreN X33.here hx rfl (hb hby at_46) rfl rfl (l' := #[.val (.int p0), .val (.int p1), .val (.ref b2), .unset, .unset, .unset]) rfl ?_
    show Steps p.tables e below (T33.setTop (mkF m 47 #[.val (.int p0), .val (.int p1), .val (.ref b2), .unset, .unset, .unset] [])) _
    refine XS.aloadN X33.here hx rfl (hb hby at_47) rfl rfl ?_
    show Steps p.tables e below (T33.setTop (mkF m 48 #[.val (.int p0), .val (.int p1), .val (.ref b2), .unset, .unset, .unset] [(.ref b2)])) _
    refine XS.iloadN X33.here hx rfl (hb hby at_48) rfl ?_
    show Steps p.tables e below (T33.setTop (mkF m 49 #[.val (.int p0), .val (.int p1), .val (.ref b2), .unset, .unset, .unset] [(.int p1), (.ref b2)])) _
    refine XS.bipush X33.here hx rfl (hb hby at_49) ?_
    show Steps p.tables e below (T33.setTop (mkF m 51 #[.val (.int p0), .val (.int p1), .val (.ref b2), .unset, .unset, .unset] [(.int (7 : Int32)), (.int p1), (.ref b2)])) _
    refine XS.iand X33.here hx rfl (hb hby at_51) rfl ?_
    exact k)
  obtain ⟨cl36, Ar36, qa36, Sa36, Na36, Ha36, Ga36⟩ := V33
  obtain ⟨d_, hd_⟩ := own_get ((p1 &&& (7 : Int32))).toNatClampNeg
  have hin36 : ¬ ((p1 &&& (7 : Int32)) < 0 ∨ cl36.slots.size ≤ ((p1 &&& (7 : Int32))).toNatClampNeg) := inb_of Sa36 (own_7 _)
  have hat36 : cl36.slots[((p1 &&& (7 : Int32))).toNatClampNeg]? = some (.int d_) := Has.at Ha36 hin36 hd_
  have go37 := go35.step (C := T33.setTop (mkF m 55 #[.val (.int p0), .val (.int p1), .val (.ref b2), .val (.int d_), .unset, .unset] [(.int p0)])) (fun t k => by
    show Steps p.tables e below (T33.setTop (mkF m 52 #[.val (.int p0), .val (.int p1), .val (.ref b2), .unset, .unset, .unset] [(.int (p1 &&& (7 : Int32))), (.ref b2)])) _
    refine X33.iaload hx (j := (p1 &&& (7 : Int32))) (v := (.int d_)) (by rw [e33]; exact Ar36.1) (State.isArrayOf_alike hZ.alike Ar36.2.1) Ar36.2.2 hin36 hat36 (g := (mkF m 52 #[.val (.int p0), .val (.int p1), .val (.ref b2), .unset, .unset, .unset] [(.int (p1 &&& (7 : Int32))), (.ref b2)])) rfl rfl (hb hby at_52) _ ?_
    show Steps p.tables e below (T33.setTop (mkF m 53 #[.val (.int p0), .val (.int p1), .val (.ref b2), .unset, .unset, .unset] [(.int d_)])) _
    refine XS.istoreN X33.here hx rfl (hb hby at_53) rfl (l' := #[.val (.int p0), .val (.int p1), .val (.ref b2), .val (.int d_), .unset, .unset]) rfl ?_
    show Steps p.tables e below (T33.setTop (mkF m 54 #[.val (.int p0), .val (.int p1), .val (.ref b2), .val (.int d_), .unset, .unset] [])) _
    refine XS.iloadN X33.here hx rfl (hb hby at_54) rfl ?_
    exact k)
  obtain ⟨_, _, ⟨T38, L38, k38, n38⟩, -, X38, ⟨Lc38, hQ38, l38, y38, z38⟩, st38⟩ := Jvm.LawKit.callS X33 hx (y := (⟨"com/example/graphkind/graphkind/IriScheme", "isFirst", "(I)Z"⟩ : MethodName)) hown (mvT hZ (hw _ (List.mem_of_getElem? (i := 1) rfl))) (mvT hZ (hw _ (List.mem_of_getElem? (i := 2) rfl))) (mvT hZ (hw _ (List.mem_of_getElem? (i := 3) rfl))) (mvT hZ (hw _ (List.mem_of_getElem? (i := 4) rfl))) (by decide) (backOf (W := 0) (rm1 l Z a0 hw [] p0 h33 n0 Z33 ) hZ (hw _ (List.mem_of_getElem? (i := 4) rfl)) (hw _ (List.mem_of_getElem? (i := 3) rfl)) (by decide) (by decide)) (g := (mkF m 55 #[.val (.int p0), .val (.int p1), .val (.ref b2), .val (.int d_), .unset, .unset] [(.int p0)])) rfl (by rw [hml]; rfl) (argsL := [(.int p0)]) (rest := []) (lenOf pd0_0 rfl) rfl (by show 2 * 0 + _ ≤ _; exact Nat.le_of_eq rfl) (hb hby at_55) (fun _ _ => ⟨rfl, e33, (by decide : 1 + 0 ≤ _), (by decide : 8 + 0 ≤ _)⟩)
  dsimp only [Pt.U, Pt.locs, Pt.cells, Pt.slots] at X38 l38 y38 z38 st38 hQ38
  subst l38 y38 z38
  obtain ⟨rfl, N38q, e38⟩ := hQ38
  have N38 := Fr.app N33 N38q
  have go38 := go37.step (C := T38.setTop (mkF m 58 #[.val (.int p0), .val (.int p1), .val (.ref b2), .val (.int d_), .unset, .unset] [(.int (own_isf p0))])) (fun t k => st38 t k)
  have go39 := go38.step (C := T38.setTop (mkF m 59 #[.val (.int p0), .val (.int p1), .val (.ref b2), .val (.int d_), .unset, .unset] [(.int p0), (.int (own_isf p0))])) (fun t k => by
    show Steps p.tables e below (T38.setTop (mkF m 58 #[.val (.int p0), .val (.int p1), .val (.ref b2), .val (.int d_), .unset, .unset] [(.int (own_isf p0))])) _
    refine XS.iloadN X38.here hx rfl (hb hby at_58) rfl ?_
    exact k)
  obtain ⟨_, _, ⟨T40, L40, k40, n40⟩, -, X40, ⟨Lc40, hQ40, l40, y40, z40⟩, st40⟩ := Jvm.LawKit.callS X38 hx (y := (⟨"com/example/graphkind/graphkind/IriSchemeIsFirstPinLaw", "ref", "(I)Z"⟩ : MethodName)) hown (mvT hZ (hw _ (List.mem_of_getElem? (i := 5) rfl))) (mvT hZ (hw _ (List.mem_of_getElem? (i := 6) rfl))) (mvT hZ (hw _ (List.mem_of_getElem? (i := 7) rfl))) (mvT hZ (hw _ (List.mem_of_getElem? (i := 8) rfl))) (by decide) (backOf (W := 1) (rm2 l Z a0 hw [] p0 h33 n0 Z33 ) hZ (hw _ (List.mem_of_getElem? (i := 8) rfl)) (hw _ (List.mem_of_getElem? (i := 7) rfl)) (by decide) (by decide)) (g := (mkF m 59 #[.val (.int p0), .val (.int p1), .val (.ref b2), .val (.int d_), .unset, .unset] [(.int p0), (.int (own_isf p0))])) rfl (by rw [hml]; rfl) (argsL := [(.int p0)]) (rest := [(.int (own_isf p0))]) (lenOf pd0_0 rfl) rfl (by show 2 * 0 + _ ≤ _; exact Nat.le_of_eq rfl) (hb hby at_59) (fun _ _ => ⟨rfl, e38, (by decide : 1 + 0 ≤ _), (by decide : 8 + 0 ≤ _)⟩)
  dsimp only [Pt.U, Pt.locs, Pt.cells, Pt.slots] at X40 l40 y40 z40 st40 hQ40
  subst l40 y40 z40
  obtain ⟨rfl, N40q, e40⟩ := hQ40
  have N40 := Fr.app N38 N40q
  have go40 := go39.step (C := T40.setTop (mkF m 62 #[.val (.int p0), .val (.int p1), .val (.ref b2), .val (.int d_), .unset, .unset] [(.int (own_ref p0)), (.int (own_isf p0))])) (fun t k => st40 t k)
  have go42 := go40.step (C := T40.setTop (mkF m 73 #[.val (.int p0), .val (.int p1), .val (.ref b2), .val (.int d_), .val (.int (1 : Int32)), .unset] [(.int d_)])) (fun t k => by
    show Steps p.tables e below (T40.setTop (mkF m 62 #[.val (.int p0), .val (.int p1), .val (.ref b2), .val (.int d_), .unset, .unset] [(.int (own_ref p0)), (.int (own_isf p0))])) _
    refine XS.icmpNo X40.here hx rfl (hb hby at_62) rfl (teq (own_eq _ : (own_isf p0) = (own_ref p0))).2 ?_
    show Steps p.tables e below (T40.setTop (mkF m 65 #[.val (.int p0), .val (.int p1), .val (.ref b2), .val (.int d_), .unset, .unset] [])) _
    refine XS.iconst X40.here hx rfl (hb hby at_65) ?_
    show Steps p.tables e below (T40.setTop (mkF m 66 #[.val (.int p0), .val (.int p1), .val (.ref b2), .val (.int d_), .unset, .unset] [(.int (1 : Int32))])) _
    refine XS.goto X40.here hx rfl (pc0 := 66) (pc' := 70) rfl (hb hby at_66) (by decide) (by decide) ?_
    show Steps p.tables e below (T40.setTop (mkF m 70 #[.val (.int p0), .val (.int p1), .val (.ref b2), .val (.int d_), .unset, .unset] [(.int (1 : Int32))])) _
    refine XS.istore X40.here hx rfl (hb hby at_70) rfl (l' := #[.val (.int p0), .val (.int p1), .val (.ref b2), .val (.int d_), .val (.int (1 : Int32)), .unset]) rfl ?_
    show Steps p.tables e below (T40.setTop (mkF m 72 #[.val (.int p0), .val (.int p1), .val (.ref b2), .val (.int d_), .val (.int (1 : Int32)), .unset] [])) _
    refine XS.iloadN X40.here hx rfl (hb hby at_72) rfl ?_
    exact k)
  obtain ⟨_, _, ⟨T43, L43, k43, n43⟩, -, X43, ⟨Lc43, hQ43, l43, y43, z43⟩, st43⟩ := Jvm.LawKit.callS X40 hx (y := (⟨"com/example/graphkind/graphkind/IriScheme", "isFirst", "(I)Z"⟩ : MethodName)) hown (mvT hZ (hw _ (List.mem_of_getElem? (i := 1) rfl))) (mvT hZ (hw _ (List.mem_of_getElem? (i := 2) rfl))) (mvT hZ (hw _ (List.mem_of_getElem? (i := 3) rfl))) (mvT hZ (hw _ (List.mem_of_getElem? (i := 4) rfl))) (by decide) (backOf (W := 0) (rm1 l Z a0 hw [] d_ h33 n0 Z33 ) hZ (hw _ (List.mem_of_getElem? (i := 4) rfl)) (hw _ (List.mem_of_getElem? (i := 3) rfl)) (by decide) (by decide)) (g := (mkF m 73 #[.val (.int p0), .val (.int p1), .val (.ref b2), .val (.int d_), .val (.int (1 : Int32)), .unset] [(.int d_)])) rfl (by rw [hml]; rfl) (argsL := [(.int d_)]) (rest := []) (lenOf pd0_0 rfl) rfl (by show 2 * 0 + _ ≤ _; exact Nat.le_of_eq rfl) (hb hby at_73) (fun _ _ => ⟨rfl, e40, (by decide : 1 + 0 ≤ _), (by decide : 8 + 0 ≤ _)⟩)
  dsimp only [Pt.U, Pt.locs, Pt.cells, Pt.slots] at X43 l43 y43 z43 st43 hQ43
  subst l43 y43 z43
  obtain ⟨rfl, N43q, e43⟩ := hQ43
  have N43 := Fr.app N40 N43q
  have go43 := go42.step (C := T43.setTop (mkF m 76 #[.val (.int p0), .val (.int p1), .val (.ref b2), .val (.int d_), .val (.int (1 : Int32)), .unset] [(.int (own_isf d_))])) (fun t k => st43 t k)
  have go44 := go43.step (C := T43.setTop (mkF m 77 #[.val (.int p0), .val (.int p1), .val (.ref b2), .val (.int d_), .val (.int (1 : Int32)), .unset] [(.int d_), (.int (own_isf d_))])) (fun t k => by
    show Steps p.tables e below (T43.setTop (mkF m 76 #[.val (.int p0), .val (.int p1), .val (.ref b2), .val (.int d_), .val (.int (1 : Int32)), .unset] [(.int (own_isf d_))])) _
    refine XS.iloadN X43.here hx rfl (hb hby at_76) rfl ?_
    exact k)
  obtain ⟨_, _, ⟨T45, L45, k45, n45⟩, -, X45, ⟨Lc45, hQ45, l45, y45, z45⟩, st45⟩ := Jvm.LawKit.callS X43 hx (y := (⟨"com/example/graphkind/graphkind/IriSchemeIsFirstPinLaw", "ref", "(I)Z"⟩ : MethodName)) hown (mvT hZ (hw _ (List.mem_of_getElem? (i := 5) rfl))) (mvT hZ (hw _ (List.mem_of_getElem? (i := 6) rfl))) (mvT hZ (hw _ (List.mem_of_getElem? (i := 7) rfl))) (mvT hZ (hw _ (List.mem_of_getElem? (i := 8) rfl))) (by decide) (backOf (W := 1) (rm2 l Z a0 hw [] d_ h33 n0 Z33 ) hZ (hw _ (List.mem_of_getElem? (i := 8) rfl)) (hw _ (List.mem_of_getElem? (i := 7) rfl)) (by decide) (by decide)) (g := (mkF m 77 #[.val (.int p0), .val (.int p1), .val (.ref b2), .val (.int d_), .val (.int (1 : Int32)), .unset] [(.int d_), (.int (own_isf d_))])) rfl (by rw [hml]; rfl) (argsL := [(.int d_)]) (rest := [(.int (own_isf d_))]) (lenOf pd0_0 rfl) rfl (by show 2 * 0 + _ ≤ _; exact Nat.le_of_eq rfl) (hb hby at_77) (fun _ _ => ⟨rfl, e43, (by decide : 1 + 0 ≤ _), (by decide : 8 + 0 ≤ _)⟩)
  dsimp only [Pt.U, Pt.locs, Pt.cells, Pt.slots] at X45 l45 y45 z45 st45 hQ45
  subst l45 y45 z45
  obtain ⟨rfl, N45q, e45⟩ := hQ45
  have N45 := Fr.app N43 N45q
  have go45 := go44.step (C := T45.setTop (mkF m 80 #[.val (.int p0), .val (.int p1), .val (.ref b2), .val (.int d_), .val (.int (1 : Int32)), .unset] [(.int (own_ref d_)), (.int (own_isf d_))])) (fun t k => st45 t k)
  have go49 := go45.step (C := T45.setTop (mkF m 105 #[.val (.int p0), .val (.int p1), .val (.ref b2), .val (.int d_), .val (.int (1 : Int32)), .val (.int (1 : Int32))] [(.int (1 : Int32))])) (fun t k => by
    show Steps p.tables e below (T45.setTop (mkF m 80 #[.val (.int p0), .val (.int p1), .val (.ref b2), .val (.int d_), .val (.int (1 : Int32)), .unset] [(.int (own_ref d_)), (.int (own_isf d_))])) _
    refine XS.icmpNo X45.here hx rfl (hb hby at_80) rfl (teq (own_eq _ : (own_isf d_) = (own_ref d_))).2 ?_
    show Steps p.tables e below (T45.setTop (mkF m 83 #[.val (.int p0), .val (.int p1), .val (.ref b2), .val (.int d_), .val (.int (1 : Int32)), .unset] [])) _
    refine XS.iconst X45.here hx rfl (hb hby at_83) ?_
    show Steps p.tables e below (T45.setTop (mkF m 84 #[.val (.int p0), .val (.int p1), .val (.ref b2), .val (.int d_), .val (.int (1 : Int32)), .unset] [(.int (1 : Int32))])) _
    refine XS.goto X45.here hx rfl (pc0 := 84) (pc' := 88) rfl (hb hby at_84) (by decide) (by decide) ?_
    show Steps p.tables e below (T45.setTop (mkF m 88 #[.val (.int p0), .val (.int p1), .val (.ref b2), .val (.int d_), .val (.int (1 : Int32)), .unset] [(.int (1 : Int32))])) _
    refine XS.istore X45.here hx rfl (hb hby at_88) rfl (l' := #[.val (.int p0), .val (.int p1), .val (.ref b2), .val (.int d_), .val (.int (1 : Int32)), .val (.int (1 : Int32))]) rfl ?_
    show Steps p.tables e below (T45.setTop (mkF m 90 #[.val (.int p0), .val (.int p1), .val (.ref b2), .val (.int d_), .val (.int (1 : Int32)), .val (.int (1 : Int32))] [])) _
    refine XS.iload X45.here hx rfl (hb hby at_90) rfl ?_
    show Steps p.tables e below (T45.setTop (mkF m 92 #[.val (.int p0), .val (.int p1), .val (.ref b2), .val (.int d_), .val (.int (1 : Int32)), .val (.int (1 : Int32))] [(.int (1 : Int32))])) _
    refine XS.ifNo X45.here hx rfl (hb hby at_92) rfl ((if0 _ _).trans (feq ((by decide) : ¬ ((1 : Int32) = (0 : Int32)))).1) ?_
    show Steps p.tables e below (T45.setTop (mkF m 95 #[.val (.int p0), .val (.int p1), .val (.ref b2), .val (.int d_), .val (.int (1 : Int32)), .val (.int (1 : Int32))] [])) _
    refine XS.iload X45.here hx rfl (hb hby at_95) rfl ?_
    show Steps p.tables e below (T45.setTop (mkF m 97 #[.val (.int p0), .val (.int p1), .val (.ref b2), .val (.int d_), .val (.int (1 : Int32)), .val (.int (1 : Int32))] [(.int (1 : Int32))])) _
    refine XS.ifNo X45.here hx rfl (hb hby at_97) rfl ((if0 _ _).trans (feq ((by decide) : ¬ ((1 : Int32) = (0 : Int32)))).1) ?_
    show Steps p.tables e below (T45.setTop (mkF m 100 #[.val (.int p0), .val (.int p1), .val (.ref b2), .val (.int d_), .val (.int (1 : Int32)), .val (.int (1 : Int32))] [])) _
    refine XS.iconst X45.here hx rfl (hb hby at_100) ?_
    show Steps p.tables e below (T45.setTop (mkF m 101 #[.val (.int p0), .val (.int p1), .val (.ref b2), .val (.int d_), .val (.int (1 : Int32)), .val (.int (1 : Int32))] [(.int (1 : Int32))])) _
    refine XS.goto X45.here hx rfl (pc0 := 101) (pc' := 105) rfl (hb hby at_101) (by decide) (by decide) ?_
    exact k)
  obtain ⟨fs, hr, hrun, hended, hW, hsame⟩ := X45.leave (v := some (.int (1 : Int32))) (fun h => by rw [Bd.returns] at h; cases h)
  refine ⟨_, _, go49 _ ?_, hrun, hended, _, _, rfl, ?_, ⟨_, rfl⟩, hW, hsame.mono (by decide) (by decide)⟩
  · exact retN X45 hx (t := .boolean) Bd.returns (by simp) (hb hby at_105) hr
  · show Q_rm0 Z p0 p1 h0 n0 _ T45.heap _
    rw [e45]
    exact ⟨rfl, N45⟩
set_option maxRecDepth 65536 in
set_option maxHeartbeats 40000000 in
theorem comes_1 {Post : Tables → Env → Array Value → State → Outcome → State → Prop} (hpost : ∀ tb e args s v u, (limb_1_1.after args s (.returned v) u = true ∧ limb_1_2.after args s (.returned v) u = true ∧ True) → FrameEnd s (.returned v) u (Jvm.fieldLocs frame_1_writes args s ++ Jvm.arrayLocs frame_1_arrays args s ++ Jvm.staticLocs frame_1_statics s) 16 128 → Post tb e args s (.returned v) u) :
    ArmFor flags0 classFile x code maxLocals ret World_1 tables_1 room_1 Calls_1 rest_1 Pre_1 Post := by
  intro l hfl _ _ p e ha hc hk s m args below hf hA hF happ hP
  obtain ⟨hcalls, hrest, hpre⟩ := hP
  obtain ⟨-, -, -, hnamed, -, -, -, hat⟩ := (Spec.applies_iff hf).mp happ
  obtain ⟨hg, hn⟩ := and_e (Cond.before_iff.mp (show (Jvm.Cond.and given_1 narrow_1).before args s = true from hpre))
  obtain ⟨gg0, gr0⟩ := and_e hg
  obtain ⟨gg1, gr1⟩ := and_e gr0
  obtain ⟨w0, w1, rfl⟩ : ∃ w0 w1 : Value, args = #[w0, w1] := by
    have hs : args.size = 2 := by simpa [Cond.value, given_1] using gg0
    obtain ⟨L⟩ := args
    match L, hs with
    | [w0, w1], _ => exact ⟨w0, w1, rfl⟩
  have hw := fun d (hd : d ∈ tables_1) => atoms_spec (ws := Jvm.Cond.code x code maxLocals ret :: tables_1) hat d (List.mem_cons_of_mem _ hd)
  have hfit : Fit s := fun {y c} hc i hi => by
    obtain ⟨ha, rfl⟩ := Array.getElem?_eq_some_iff.mp hc
    have q := List.all_eq_true.mp ((Array.all_eq_true_iff_forall_mem.mp hF) _ (Array.getElem_mem ha)) i (List.mem_range.mpr hi)
    simpa [Array.getElem?_eq_getElem hi] using q
  obtain ⟨i0, ei0⟩ := is_v gg1
  obtain rfl : w0 = (.int i0) := Option.some.inj ei0
  obtain ⟨i1, ei1⟩ := is_v gr1
  obtain rfl : w1 = (.int i1) := Option.some.inj ei1
  obtain ⟨n, o, h1, h2, h3, _, L, rfl, ⟨rfl, N⟩, hq⟩ := rm0 l s _ hw tables_1 i0 i1  s.heap s.heap.size (Nat.le_refl _)  p e ha hc hk s m _ below hf ((Spec.applies_iff_loose hf).mp happ).1 ⟨rfl, State.Warmed39.refl s, rfl⟩ trivial
  refine ⟨n, _, h1, h2, h3, hpost _ _ _ _ _ _ ⟨Cond.after_iff.mpr rfl, Cond.after_iff.mpr (eq_i res_at (Term.int_eval (1)) rfl), trivial⟩ ⟨hq.1, hq.2.1, (hq.2.2.sift fun y hy => Or.inr (N y hy)).mono (by decide) (by decide)⟩⟩
theorem main_1_1 : Claimed_1_1 := comes_1 fun _ _ _ _ _ _ h hF => ⟨h.1, hF⟩
theorem main_1_2 : Claimed_1_2 := comes_1 fun _ _ _ _ _ _ h hF => ⟨h.2.1, hF⟩
end Jvm.Pilot.@@N@@
namespace Jvm.Pilot.@@N@@
open Jvm Jvm.ClassFile Sem Op Lib Jvm.Free Jvm.Stand Jvm.Pilot.@@N@@.Jvm.D
/-! MADE BY PROGRAM (witnessworld.py) out of the Statement's table words and the real class files: 9 classes; the members and pool entries that the words name. The judged class is class 1, her method 2. -/
namespace start1
open Jvm.ClassFile
def u (s : String) : CpInfo := .utf8 (stringToUtf16 s)
/-- a pool by its gaps: so many unusable entries, then the entry; so many at the end -/
def gap : Nat → List CpInfo → List CpInfo
  | 0, r => r
  | n + 1, r => .unusable :: gap n r
def poolList (es : List (Nat × CpInfo)) (last : Nat) : List CpInfo := es.foldr (fun e r => gap e.1 (e.2 :: r)) (gap last [])
def pool (es : List (Nat × CpInfo)) (last : Nat) : Array CpInfo := ⟨poolList es last⟩
def fileOf (pool : Array CpInfo) (this : Nat) (attrs : Array Attribute := #[]) (ms : Array MethodInfo := #[]) (fl : Nat := 33) (sup : Nat := 0) (ifs : Array Nat := #[]) (fds : Array FieldInfo := #[]) : ClassFile where
  minorVersion := 0
  majorVersion := 65
  constantPool := pool
  accessFlags := fl
  thisClass := this
  superClass := sup
  interfaces := ifs
  fields := fds
  methods := ms
  attributes := attrs
def plain (name : String) (sup : Option ClassId) : Class where
  name := name
  kind := .ordinary
  loader := none
  accessFlags := 33
  super := sup
  interfaces := #[]
  cf := none
  fields := #[]
  methods := #[]
  instanceTypes := #[]
  staticTypes := #[]
  resolved := #[]
  callSites := []
  init := .initialized
  statics := none
  mirror := none

def pool0 : Array CpInfo := pool [(5, u "<init>"), (0, u "()V"), (1, .class_ 10), (1, u "java/lang/Object")] 113

def k0m0 : Method := { name := "<init>", desc := "()V", sig := { parameters := [], returnType := none }, accessFlags := 1, code := none }
/-- java/lang/Object -/
def k0 : Class := { plain "java/lang/Object" none with
  accessFlags := 33
  interfaces := #[]
  cf := some (fileOf pool0 8 #[] #[{ accessFlags := 1, nameIndex := 5, descriptorIndex := 6, attributes := #[] }] 33 0 #[] #[])
  fields := #[]
  methods := #[k0m0]
  instanceTypes := #[]
  staticTypes := #[]
  resolved := Array.replicate 124 none
  statics := none }

def pool1 : Array CpInfo := pool [(2, .class_ 4), (1, u "java/lang/Object"), (0, u "<init>"), (0, u "()V"), (0, .long 97), (1, .long 26), (1, .methodref 12 13), (0, .class_ 14), (0, .nameAndType 15 16), (0, u "com/example/graphkind/graphkind/IriScheme"), (0, u "isFirst"), (0, u "(I)Z"), (0, .methodref 18 19), (0, .class_ 20), (0, .nameAndType 21 16), (0, u "com/example/graphkind/graphkind/IriSchemeIsFirstPinLaw"), (0, u "ref"), (3, u "law"), (0, u "(II)Z")] 4

def k1m0 : Method := { name := "<init>", desc := "()V", sig := { parameters := [], returnType := none }, accessFlags := 2, code := none }
def k1c1 : Code := { maxStack := 4, maxLocals := 3, code := method_2_code, exceptionTable := #[], attributes := #[] }
def k1m1 : Method := { name := "ref", desc := "(I)Z", sig := { parameters := [.int], returnType := some .boolean }, accessFlags := 10, code := some k1c1 }
def k1c2 : Code := { maxStack := 4, maxLocals := 6, code := code, exceptionTable := #[], attributes := #[] }
def k1m2 : Method := { name := "law", desc := "(II)Z", sig := { parameters := [.int, .int], returnType := some .boolean }, accessFlags := 9, code := some k1c2 }
/-- com/example/graphkind/graphkind/IriSchemeIsFirstPinLaw -/
def k1 : Class := { plain "com/example/graphkind/graphkind/IriSchemeIsFirstPinLaw" (some 0) with
  accessFlags := 49
  interfaces := #[]
  cf := some (fileOf pool1 18 #[] #[{ accessFlags := 2, nameIndex := 5, descriptorIndex := 6, attributes := #[] }, { accessFlags := 10, nameIndex := 21, descriptorIndex := 16, attributes := #[] }, { accessFlags := 9, nameIndex := 25, descriptorIndex := 26, attributes := #[] }] 49 2 #[] #[])
  fields := #[]
  methods := #[k1m0, k1m1, k1m2]
  instanceTypes := #[]
  staticTypes := #[]
  resolved := Array.replicate 31 none
  statics := none }

def pool2 : Array CpInfo := pool [(2, .class_ 4), (1, u "java/lang/Object"), (0, u "<init>"), (0, u "()V"), (1, .class_ 10), (1, u "com/example/graphkind/graphkind/IriScheme"), (0, u "isFirst"), (0, u "(I)Z")] 24

def k2m0 : Method := { name := "<init>", desc := "()V", sig := { parameters := [], returnType := none }, accessFlags := 2, code := none }
def k2c1 : Code := { maxStack := 2, maxLocals := 1, code := prog_5_method_2_code, exceptionTable := #[], attributes := #[] }
def k2m1 : Method := { name := "isFirst", desc := "(I)Z", sig := { parameters := [.int], returnType := some .boolean }, accessFlags := 8, code := some k2c1 }
/-- com/example/graphkind/graphkind/IriScheme -/
def k2 : Class := { plain "com/example/graphkind/graphkind/IriScheme" (some 0) with
  accessFlags := 48
  interfaces := #[]
  cf := some (fileOf pool2 8 #[] #[{ accessFlags := 2, nameIndex := 5, descriptorIndex := 6, attributes := #[] }, { accessFlags := 8, nameIndex := 11, descriptorIndex := 12, attributes := #[] }] 48 2 #[] #[])
  fields := #[]
  methods := #[k2m0, k2m1]
  instanceTypes := #[]
  staticTypes := #[]
  resolved := Array.replicate 37 none
  statics := none }

def pool3 : Array CpInfo := pool [(1, u "java/lang/Cloneable"), (0, .class_ 1), (0, u "java/lang/Object"), (0, .class_ 3)] 3

/-- java/lang/Cloneable -/
def k3 : Class := { plain "java/lang/Cloneable" (some 0) with
  accessFlags := 1537
  interfaces := #[]
  cf := some (fileOf pool3 2 #[] #[] 1537 4 #[] #[])
  fields := #[]
  methods := #[]
  instanceTypes := #[]
  staticTypes := #[]
  resolved := Array.replicate 8 none
  statics := none }

def pool4 : Array CpInfo := pool [(1, u "java/io/Serializable"), (0, .class_ 1), (0, u "java/lang/Object"), (0, .class_ 3)] 3

/-- java/io/Serializable -/
def k4 : Class := { plain "java/io/Serializable" (some 0) with
  accessFlags := 1537
  interfaces := #[]
  cf := some (fileOf pool4 2 #[] #[] 1537 4 #[] #[])
  fields := #[]
  methods := #[]
  instanceTypes := #[]
  staticTypes := #[]
  resolved := Array.replicate 8 none
  statics := none }

/-- the primitive byte -/
def k5 : Class := { plain "byte" none with kind := .primitive 'B', accessFlags := 0x411 }
/-- [B -/
def k6 : Class := { plain "[B" (some 0) with kind := .array 5 .byte, interfaces := #[3, 4], accessFlags := 1041 }

/-- the primitive int -/
def k7 : Class := { plain "int" none with kind := .primitive 'I', accessFlags := 0x411 }
/-- [I -/
def k8 : Class := { plain "[I" (some 0) with kind := .array 7 .int, interfaces := #[3, 4], accessFlags := 1041 }

def heap : Heap := #[]
def classes : Array Class := #[k0, k1, k2, k3, k4, k5, k6, k7, k8]
def interned : List (Array UInt16 × Addr) := []
def slotsUsed : Nat := 0
def theMethod : MethodId := ⟨1, 2⟩
def args0 : Array Value := #[.int 5, .int 7]
def aboutOver (below : List Frame) : State where
  vm := { classes := classes, interned := interned.toArray }
  heap := heap
  slotsUsed := slotsUsed
  threads := #[{ frames := .invoking theMethod args0 :: below }]
def below0 : List Frame := [.native { method := ⟨0, 0⟩, args := #[] }]
def about1 : State := aboutOver below0
def p0 : Program := .bare "" "" ""
def e0 : Env := launch0.env 0 0 0
theorem w_frames : about1.frames = Frame.invoking theMethod args0 :: below0 := rfl
set_option maxRecDepth 65536 in
theorem w_args : argsFit about1.vm theMethod args0 = true := by decide +kernel
set_option maxRecDepth 65536 in
theorem w_heap : heapFits about1 = true := by decide +kernel
set_option maxRecDepth 65536 in
theorem w_runnable : about1.curStatus? = some .runnable := by decide +kernel
set_option maxRecDepth 65536 in
theorem w_alone : about1.alone = true := by decide +kernel
set_option maxRecDepth 65536 in
theorem w_named : about1.methodNamed? x = some theMethod := by decide +kernel
set_option maxRecDepth 65536 in
theorem w_hears : about1.hears theMethod below0 = true := by decide +kernel
set_option maxRecDepth 65536 in
theorem w_ripe : about1.ripe theMethod args0 below0 = true := by decide +kernel
theorem w_running : about1.status = .running := rfl
set_option maxRecDepth 65536 in
theorem w_room : about1.hasRoom e0.platform room_1 = true :=
  launch0.hasRoom_least _ room_1 (by decide +kernel) (by decide +kernel) (by decide +kernel) (by decide +kernel) (by decide +kernel) (by decide +kernel)
theorem allAtoms_all (ts : List Jvm.Cond) (a : Array Jvm.Value) (st : Jvm.State) : (allAtoms ts).before a st = ts.all (fun c => c.before a st) := by
  induction ts with
  | nil => rfl
  | cons c t ih =>
    show (Jvm.Cond.and c (allAtoms t)).before a st = _
    rw [Jvm.Cond.before_and, ih, List.all_cons]
def words1 : List Jvm.Cond := Jvm.Cond.code x code maxLocals ret :: tables_1
/-- a 'code' word, met by the world's own term for the bytes: nothing is compared byte by byte -/
theorem code_word {y : MethodName} {bytes : ByteArray} {mx : Nat} {rt : Option FieldType} {a : Array Value} {s : State} {m : MethodId} {meth : Method} {c : Code} (h1 : s.methodNamed? y = some m) (h2 : s.vm.method? m = some meth) (h3 : meth.code = some c) (h4 : c.code = bytes)
    (h5 : (c.maxLocals == mx && c.exceptionTable.isEmpty && decide (c.maxStack ≤ mostOperands) && decide (meth.sig.returnType = rt) && !meth.locks && decide (parseMethodDescriptor y.desc = some meth.sig)) = true) : (Jvm.Cond.code y bytes mx rt).before a s = true := by
  simp only [Bool.and_eq_true, beq_iff_eq, Bool.not_eq_true', decide_eq_true_eq] at h5
  obtain ⟨⟨⟨⟨⟨g1, g2⟩, g3⟩, g4⟩, g5⟩, g6⟩ := h5
  simp [Cond.before, Cond.holds, Cond.value, h1, h2, h3, h4, g1, g2, g3, g4, g5, g6]
def isCode : Jvm.Cond → Bool
  | .code _ _ _ _ => true
  | _ => false
theorem all_split {L : List Jvm.Cond} {P : Jvm.Cond → Bool} (h1 : L.all (fun c => isCode c || P c) = true) (h2 : ∀ c ∈ L.filter isCode, P c = true) : L.all P = true := by
  refine List.all_eq_true.mpr fun c hc => ?_
  have h := List.all_eq_true.mp h1 c hc
  rcases Bool.eq_false_or_eq_true (isCode c) with hi | hi
  · exact h2 c (List.mem_filter.mpr ⟨hc, hi⟩)
  · simpa [hi] using h
set_option maxRecDepth 65536 in
theorem w_c0 : (Jvm.Cond.code x code maxLocals ret).before args0 about1 = true := code_word (m := ⟨1, 2⟩) (meth := k1m2) (c := k1c2) (by decide +kernel) rfl rfl rfl (by decide +kernel)
set_option maxRecDepth 65536 in
theorem w_c1 : (Jvm.Cond.code ({ cls := "com/example/graphkind/graphkind/IriScheme", name := "isFirst", desc := "(I)Z" } : Jvm.MethodName) prog_5_method_2_code (1 : Nat) (Option.some Jvm.ClassFile.FieldType.boolean)).before args0 about1 = true := code_word (m := ⟨2, 1⟩) (meth := k2m1) (c := k2c1) (by decide +kernel) rfl rfl rfl (by decide +kernel)
set_option maxRecDepth 65536 in
theorem w_c2 : (Jvm.Cond.code ({ cls := "com/example/graphkind/graphkind/IriSchemeIsFirstPinLaw", name := "ref", desc := "(I)Z" } : Jvm.MethodName) method_2_code (3 : Nat) (Option.some Jvm.ClassFile.FieldType.boolean)).before args0 about1 = true := code_word (m := ⟨1, 1⟩) (meth := k1m1) (c := k1c1) (by decide +kernel) rfl rfl rfl (by decide +kernel)
def codes1 : List Jvm.Cond := [Jvm.Cond.code x code maxLocals ret, Jvm.Cond.code ({ cls := "com/example/graphkind/graphkind/IriScheme", name := "isFirst", desc := "(I)Z" } : Jvm.MethodName) prog_5_method_2_code (1 : Nat) (Option.some Jvm.ClassFile.FieldType.boolean), Jvm.Cond.code ({ cls := "com/example/graphkind/graphkind/IriSchemeIsFirstPinLaw", name := "ref", desc := "(I)Z" } : Jvm.MethodName) method_2_code (3 : Nat) (Option.some Jvm.ClassFile.FieldType.boolean)]
set_option maxRecDepth 65536 in
theorem codes_eq : words1.filter isCode = codes1 := rfl
theorem w_codes : ∀ c ∈ words1.filter isCode, c.before args0 about1 = true := by
  rw [codes_eq]
  intro c hc
  simp only [codes1, List.mem_cons, List.not_mem_nil, or_false] at hc
  rcases hc with rfl | rfl | rfl
  · exact w_c0
  · exact w_c1
  · exact w_c2
set_option maxRecDepth 65536 in
theorem w_t1 : words1.all (fun c => isCode c || c.before args0 about1) = true := by decide +kernel
theorem w_tables : (allAtoms (Jvm.Cond.code x code maxLocals ret :: tables_1)).before args0 about1 = true := by
  rw [allAtoms_all]
  show words1.all (fun c => c.before args0 about1) = true
  refine all_split ?_ w_codes
  rw [w_t1]
set_option maxRecDepth 65536 in
theorem w_case : (Jvm.Cond.and given_1 narrow_1).before args0 about1 = true := by decide +kernel
theorem w_applies : (headSpec (Jvm.Cond.code x code maxLocals ret :: tables_1) room_1).applies x e0.platform about1 = true :=
  (Spec.applies_iff w_frames).mpr ⟨w_running, w_runnable, w_alone, w_named, w_hears, w_ripe, w_room, w_tables⟩
theorem atStart : AtStart classFile x code maxLocals ret World_1 tables_1 room_1 Calls_1 rest_1 Pre_1 launch0 p0 e0 about1 theMethod args0 below0 :=
  ⟨lists_1, trivial, launch0.admits_env _ _ _, launch0.least_env, fairChoices_fair.cas, fairChoices_fair.clock, w_frames, w_args, w_heap, w_applies, trivial, trivial, w_case⟩
end start1
theorem witness_1 : WitnessClaimed_1 := ⟨start1.p0, start1.e0, start1.about1, start1.theMethod, start1.args0, start1.below0, start1.atStart⟩
end Jvm.Pilot.@@N@@
