import JvmDerived
import JvmDerived.Pilot.@@N@@Statement
import JvmDerived.Pilot.@@N@@Code
set_option linter.unusedVariables false
set_option linter.unusedSimpArgs false
namespace Jvm.Pilot.@@N@@
open Jvm Jvm.ClassFile Sem Op Lib Jvm.Free Jvm.Stand Jvm.LawKit Jvm.RoadKit Bundle Jvm.Pilot.@@N@@.Jvm.D
def own_usr (x y : Int32) : Int32 := (x.toUInt32 >>> (y &&& 31).toUInt32).toInt32
def own_usrL (x : Int64) (y : Int32) : Int64 := (x.toUInt64 >>> (y &&& 0x3f).toInt64.toUInt64).toInt64
/-- where the run came from, where it stands -/
def Go (p : Program) (e : Env) (below : List Frame) (A B : State) : Prop := ∀ t, Steps p.tables e below B t → Steps p.tables e below A t
theorem Go.step {p : Program} {e : Env} {below : List Frame} {A B C : State} (g : Go p e below A B) (h : ∀ t, Steps p.tables e below C t → Steps p.tables e below B t) : Go p e below A C := fun t k => g t (h t k)
theorem Go.tr {p : Program} {e : Env} {below : List Frame} {A B C : State} (g : Go p e below A B) (h : Steps p.tables e below B C) : Go p e below A C := fun t k => g t (h.trans k)
section Rets
variable {p : Program} {l : Launch} {e : Env} {R : Room} {s : State} {m : MethodId} {args : Array Value} {below : List Frame} {meth : Method} {c : Code} {T : State} {locs : List Loc} {cells slots : Nat}
theorem own_retI (X : Stand p l e R s m args below meth c T locs cells slots) (hx : p.tables.exec = Jvm.exec) {pc : Nat} {Ls : Array Slot} {z : Int32} {rest : List Value} (hret : meth.sig.returnType = some .int) (hd : decode c.code pc = .ok (.ireturn, 1)) {fs : List Frame}
    (hl : ∀ (f : JFrame) (acts : List Action), f.method = m → f.locked = none → f.entered = [] → (doReturn e (T.setTop f) acts (some (.int z))).1 = T.setFrames fs) : Steps p.tables e below (T.setTop (mkF m pc Ls (.int z :: rest))) (T.setFrames fs) :=
  retOut X hx (t := .int) hret rfl (Or.inl ⟨rfl, Or.inl rfl, z, rfl⟩) hd hl
theorem own_retL (X : Stand p l e R s m args below meth c T locs cells slots) (hx : p.tables.exec = Jvm.exec) {pc : Nat} {Ls : Array Slot} {z : Int64} {rest : List Value} (hret : meth.sig.returnType = some .long) (hd : decode c.code pc = .ok (.lreturn, 1)) {fs : List Frame}
    (hl : ∀ (f : JFrame) (acts : List Action), f.method = m → f.locked = none → f.entered = [] → (doReturn e (T.setTop f) acts (some (.long z))).1 = T.setFrames fs) : Steps p.tables e below (T.setTop (mkF m pc Ls (.long z :: rest))) (T.setFrames fs) :=
  retOut X hx (t := .long) hret rfl (Or.inr (Or.inl ⟨rfl, rfl, z, rfl⟩)) hd hl
theorem own_retA (X : Stand p l e R s m args below meth c T locs cells slots) (hx : p.tables.exec = Jvm.exec) {t : FieldType} {pc : Nat} {Ls : Array Slot} {z : Addr} {rest : List Value} (hret : meth.sig.returnType = some t) (ht : t.isReference = true) (hn : narrow t (.ref z) = .ref z) (hd : decode c.code pc = .ok (.areturn, 1)) {fs : List Frame}
    (hl : ∀ (f : JFrame) (acts : List Action), f.method = m → f.locked = none → f.entered = [] → (doReturn e (T.setTop f) acts (some (.ref z))).1 = T.setFrames fs) : Steps p.tables e below (T.setTop (mkF m pc Ls (.ref z :: rest))) (T.setFrames fs) :=
  retOut X hx hret hn (Or.inr (Or.inr (Or.inr (Or.inr ⟨rfl, ht, rfl⟩)))) hd hl
end Rets
def own_nm : Nat → String
  | 0 => "DIAMETER_MULTI_ROUND_AUTH"
  | 1 => "DIAMETER_SUCCESS"
  | 2 => "DIAMETER_LIMITED_SUCCESS"
  | 3 => "DIAMETER_COMMAND_UNSUPPORTED"
  | 4 => "DIAMETER_UNABLE_TO_DELIVER"
  | 5 => "DIAMETER_REALM_NOT_SERVED"
  | 6 => "DIAMETER_TOO_BUSY"
  | 7 => "DIAMETER_LOOP_DETECTED"
  | 8 => "DIAMETER_REDIRECT_INDICATION"
  | 9 => "DIAMETER_APPLICATION_UNSUPPORTED"
  | 10 => "DIAMETER_INVALID_HDR_BITS"
  | 11 => "DIAMETER_INVALID_AVP_BITS"
  | 12 => "DIAMETER_UNKNOWN_PEER"
  | 13 => "DIAMETER_AUTHENTICATION_REJECTED"
  | 14 => "DIAMETER_OUT_OF_SPACE"
  | 15 => "ELECTION_LOST"
  | 16 => "DIAMETER_AVP_UNSUPPORTED"
  | 17 => "DIAMETER_UNKNOWN_SESSION_ID"
  | 18 => "DIAMETER_AUTHORIZATION_REJECTED"
  | 19 => "DIAMETER_INVALID_AVP_VALUE"
  | 20 => "DIAMETER_MISSING_AVP"
  | 21 => "DIAMETER_RESOURCES_EXCEEDED"
  | 22 => "DIAMETER_CONTRADICTING_AVPS"
  | 23 => "DIAMETER_AVP_NOT_ALLOWED"
  | 24 => "DIAMETER_AVP_OCCURS_TOO_MANY_TIMES"
  | 25 => "DIAMETER_NO_COMMON_APPLICATION"
  | 26 => "DIAMETER_UNSUPPORTED_VERSION"
  | 27 => "DIAMETER_UNABLE_TO_COMPLY"
  | 28 => "DIAMETER_INVALID_BIT_IN_HEADER"
  | 29 => "DIAMETER_INVALID_AVP_LENGTH"
  | 30 => "DIAMETER_INVALID_MESSAGE_LENGTH"
  | 31 => "DIAMETER_INVALID_AVP_BIT_COMBO"
  | 32 => "DIAMETER_NO_COMMON_SECURITY"
  | _ => ""
def own_code : Nat → Int64
  | 0 => (1001 : Int64)
  | 1 => (2001 : Int64)
  | 2 => (2002 : Int64)
  | 3 => (3001 : Int64)
  | 4 => (3002 : Int64)
  | 5 => (3003 : Int64)
  | 6 => (3004 : Int64)
  | 7 => (3005 : Int64)
  | 8 => (3006 : Int64)
  | 9 => (3007 : Int64)
  | 10 => (3008 : Int64)
  | 11 => (3009 : Int64)
  | 12 => (3010 : Int64)
  | 13 => (4001 : Int64)
  | 14 => (4002 : Int64)
  | 15 => (4003 : Int64)
  | 16 => (5001 : Int64)
  | 17 => (5002 : Int64)
  | 18 => (5003 : Int64)
  | 19 => (5004 : Int64)
  | 20 => (5005 : Int64)
  | 21 => (5006 : Int64)
  | 22 => (5007 : Int64)
  | 23 => (5008 : Int64)
  | 24 => (5009 : Int64)
  | 25 => (5010 : Int64)
  | 26 => (5011 : Int64)
  | 27 => (5012 : Int64)
  | 28 => (5013 : Int64)
  | 29 => (5014 : Int64)
  | 30 => (5015 : Int64)
  | 31 => (5016 : Int64)
  | 32 => (5017 : Int64)
  | _ => 0
def own_ipe (w : Int64) : Int32 := (if w < (3000 : Int64) then (0 : Int32) else (if w < (4000 : Int64) then (1 : Int32) else (0 : Int32)))
theorem d1_0 : decode prog_41_method_5_code 0 = .ok (.aload_n 0, 1) := by decide +kernel
theorem d1_1 : decode prog_41_method_5_code 1 = .ok (.getfield 122, 3) := by decide +kernel
theorem d1_4 : decode prog_41_method_5_code 4 = .ok (.ldc2_w 126, 3) := by decide +kernel
theorem d1_7 : decode prog_41_method_5_code 7 = .ok (.lcmp, 1) := by decide +kernel
theorem d1_8 : decode prog_41_method_5_code 8 = .ok (.ifCond .lt 18, 3) := by decide +kernel
theorem d1_11 : decode prog_41_method_5_code 11 = .ok (.aload_n 0, 1) := by decide +kernel
theorem d1_12 : decode prog_41_method_5_code 12 = .ok (.getfield 122, 3) := by decide +kernel
theorem d1_15 : decode prog_41_method_5_code 15 = .ok (.ldc2_w 128, 3) := by decide +kernel
theorem d1_18 : decode prog_41_method_5_code 18 = .ok (.lcmp, 1) := by decide +kernel
theorem d1_19 : decode prog_41_method_5_code 19 = .ok (.ifCond .ge 7, 3) := by decide +kernel
theorem d1_22 : decode prog_41_method_5_code 22 = .ok (.iconst 1, 1) := by decide +kernel
theorem d1_23 : decode prog_41_method_5_code 23 = .ok (.goto 4, 3) := by decide +kernel
theorem d1_26 : decode prog_41_method_5_code 26 = .ok (.iconst 0, 1) := by decide +kernel
theorem d1_27 : decode prog_41_method_5_code 27 = .ok (.ireturn, 1) := by decide +kernel
theorem pn_rm1 : plainName "com/example/gatewarden/gatewarden/diameter/ResultCode" = true := by first | (simp [plainName, overriddenIn]; done) | decide +kernel
theorem ef_rm1 (m : MethodId) (o0 : Addr) : entryFrame m #[(.ref o0)] 1 = mkF m 0 #[.val (.ref o0)] [] := by first | (simp [entryFrame, mkF, argsToLocals, Value.category]; done) | rfl
def Q_rm1 (Z : State) (o0 : Addr) (w : Int64) (h0 : Heap) (n0 : Nat) (v : Option Value) (h : Heap) (L : List Loc) : Prop := v = some (.int (own_ipe w)) ∧ Fr n0 L ∧ h = h0
set_option maxRecDepth 65536 in
set_option maxHeartbeats 40000000 in
theorem rm1 (l : Launch) (Z : State) (a0 : Array Value) (hw : ∀ d ∈ tables_1, d.before a0 Z = true) (ws : List Jvm.Cond) (o0 : Addr) (w : Int64) (h0 : Heap) (n0 : Nat) (Z0 : n0 ≤ h0.size) (F_code_o0 : Fld Z h0 o0 "com/example/gatewarden/gatewarden/diameter/ResultCode" "code" "J" (.long w)) :
    MetFree l (⟨"com/example/gatewarden/gatewarden/diameter/ResultCode", "isProtocolError", "()Z"⟩ : MethodName) (head1 (Jvm.Cond.code (⟨"com/example/gatewarden/gatewarden/diameter/ResultCode", "isProtocolError", "()Z"⟩ : MethodName) prog_41_method_5_code 1 (some .boolean) :: ws) ({ frames := 0, cells := 0, slots := 0, locals := 0 } : Room)) (fun a U => a = #[(.ref o0)] ∧ Z.Warmed39 U.vm ∧ U.heap = h0) (fun _ _ _ _ _ => True) (fun _ U o U' => ∃ v L, o = .returned v ∧ Q_rm1 Z o0 w h0 n0 v U'.heap L ∧ FrameEnd U o U' L ({ frames := 0, cells := 0, slots := 0, locals := 0 } : Room).cells ({ frames := 0, cells := 0, slots := 0, locals := 0 } : Room).slots) := by
  refine MetFree.of_bodySF (plainFor_of_name pn_rm1) hisR ?_
  intro p e s m args below meth c s₁ Bd hml0 hP hK
  obtain ⟨rfl, hZ, hh⟩ := hP
  have hx := Bd.exec
  have hby := Bd.bytes
  have hml : c.maxLocals = 1 := hml0
  have hown : s.vm.findClass "com/example/gatewarden/gatewarden/diameter/ResultCode" = some m.cls := findClass_of_methodNamed Bd.named
  have hnm := (name_of_methodNamed Bd.named Bd.method).1
  have X0 : Stand p l e ({ frames := 0, cells := 0, slots := 0, locals := 0 } : Room) s m #[(.ref o0)] below meth c s₁ [] 0 0 := Stand.of_body Bd
  have e0 : s₁.heap = h0 := by rw [← hh, Bd.state]; rfl
  have N0 := Fr.nil n0
  have K0 := Keep.refl h0 []
  have go0 : Go p e below (s₁.setTop (entryFrame m #[(.ref o0)] 1)) (s₁.setTop (mkF m 0 #[.val (.ref o0)] [])) := fun t k => castTop (ef_rm1 m o0) k
  have go1 := go0.step (C := s₁.setTop (mkF m 1 #[.val (.ref o0)] [(.ref o0)])) (fun t k => by
    show Steps p.tables e below (s₁.setTop (mkF m 0 #[.val (.ref o0)] [])) _
    refine XS.aloadN X0.here hx rfl (hb hby d1_0) rfl rfl ?_
    exact k)
  obtain ⟨T2, X2, e2, st2⟩ := getF X0 hx hZ hown (host := "") (Or.inl (hw _ (List.mem_of_getElem? (i := 76) rfl))) Via.refl e0 F_code_o0 (g := (mkF m 1 #[.val (.ref o0)] [(.ref o0)])) rfl rfl (hb hby d1_1)
  have go2 := go1.step (C := T2.setTop (mkF m 4 #[.val (.ref o0)] [(.long w)])) (fun t k => st2 t k)
  have go4 := go2.step (C := T2.setTop (mkF m 8 #[.val (.ref o0)] [(.int (lcmpW w (3000 : Int64)))])) (fun t k => by
    show Steps p.tables e below (T2.setTop (mkF m 4 #[.val (.ref o0)] [(.long w)])) _
    refine X2.ldc2Long hx hown (mvT hZ (hw _ (List.mem_of_getElem? (i := 78) rfl))) (g := (mkF m 4 #[.val (.ref o0)] [(.long w)])) rfl (hb hby d1_4) _ ?_
    show Steps p.tables e below (T2.setTop (mkF m 7 #[.val (.ref o0)] [(.long (3000 : Int64)), (.long w)])) _
    refine XS.lcmp X2.here hx rfl (hb hby d1_7) rfl ?_
    exact k)
  by_cases hc3 : w < (3000 : Int64)
  · skip
    have go5 := go4.step (C := T2.setTop (mkF m 27 #[.val (.ref o0)] [(.int (0 : Int32))])) (fun t k => by
      show Steps p.tables e below (T2.setTop (mkF m 8 #[.val (.ref o0)] [(.int (lcmpW w (3000 : Int64)))])) _
      refine XS.ifYes X2.here hx rfl (pc0 := 8) (pc' := 26) rfl (hb hby d1_8) rfl ((if0 _ _).trans (tlt ((lw_lt _ _).mpr hc3)).1) (by decide) (by decide) ?_
      show Steps p.tables e below (T2.setTop (mkF m 26 #[.val (.ref o0)] [])) _
      refine XS.iconst X2.here hx rfl (hb hby d1_26) ?_
      exact k)
    obtain ⟨fs, hr, hrun, hended, hW, hsame⟩ := X2.leave (v := some (.int (0 : Int32))) (fun h => by rw [Bd.returns] at h; cases h)
    refine ⟨_, _, go5 _ ?_, hrun, hended, _, _, rfl, ?_, ⟨_, rfl⟩, hW, hsame.mono (by decide) (by decide)⟩
    · exact retN X2 hx (t := .boolean) Bd.returns (by simp) (hb hby d1_27) hr
    · show Q_rm1 Z o0 w h0 n0 _ T2.heap _
      rw [e2]
      exact ⟨by unfold own_ipe; simp only [if_pos hc3], N0, rfl⟩
  · skip
    have go6 := go4.step (C := T2.setTop (mkF m 12 #[.val (.ref o0)] [(.ref o0)])) (fun t k => by
      show Steps p.tables e below (T2.setTop (mkF m 8 #[.val (.ref o0)] [(.int (lcmpW w (3000 : Int64)))])) _
      refine XS.ifNo X2.here hx rfl (hb hby d1_8) rfl ((if0 _ _).trans (flt (fun q => hc3 ((lw_lt _ _).mp q))).1) ?_
      show Steps p.tables e below (T2.setTop (mkF m 11 #[.val (.ref o0)] [])) _
      refine XS.aloadN X2.here hx rfl (hb hby d1_11) rfl rfl ?_
      exact k)
    obtain ⟨T7, X7, e7, st7⟩ := getF X2 hx hZ hown (host := "") (Or.inl (hw _ (List.mem_of_getElem? (i := 76) rfl))) Via.refl e2 F_code_o0 (g := (mkF m 12 #[.val (.ref o0)] [(.ref o0)])) rfl rfl (hb hby d1_12)
    have go7 := go6.step (C := T7.setTop (mkF m 15 #[.val (.ref o0)] [(.long w)])) (fun t k => st7 t k)
    have go9 := go7.step (C := T7.setTop (mkF m 19 #[.val (.ref o0)] [(.int (lcmpW w (4000 : Int64)))])) (fun t k => by
      show Steps p.tables e below (T7.setTop (mkF m 15 #[.val (.ref o0)] [(.long w)])) _
      refine X7.ldc2Long hx hown (mvT hZ (hw _ (List.mem_of_getElem? (i := 79) rfl))) (g := (mkF m 15 #[.val (.ref o0)] [(.long w)])) rfl (hb hby d1_15) _ ?_
      show Steps p.tables e below (T7.setTop (mkF m 18 #[.val (.ref o0)] [(.long (4000 : Int64)), (.long w)])) _
      refine XS.lcmp X7.here hx rfl (hb hby d1_18) rfl ?_
      exact k)
    by_cases hc8 : w < (4000 : Int64)
    · skip
      have go10 := go9.step (C := T7.setTop (mkF m 27 #[.val (.ref o0)] [(.int (1 : Int32))])) (fun t k => by
        show Steps p.tables e below (T7.setTop (mkF m 19 #[.val (.ref o0)] [(.int (lcmpW w (4000 : Int64)))])) _
        refine XS.ifNo X7.here hx rfl (hb hby d1_19) rfl ((if0 _ _).trans (tlt ((lw_lt _ _).mpr hc8)).2.1) ?_
        show Steps p.tables e below (T7.setTop (mkF m 22 #[.val (.ref o0)] [])) _
        refine XS.iconst X7.here hx rfl (hb hby d1_22) ?_
        show Steps p.tables e below (T7.setTop (mkF m 23 #[.val (.ref o0)] [(.int (1 : Int32))])) _
        refine XS.goto X7.here hx rfl (pc0 := 23) (pc' := 27) rfl (hb hby d1_23) (by decide) (by decide) ?_
        exact k)
      obtain ⟨fs, hr, hrun, hended, hW, hsame⟩ := X7.leave (v := some (.int (1 : Int32))) (fun h => by rw [Bd.returns] at h; cases h)
      refine ⟨_, _, go10 _ ?_, hrun, hended, _, _, rfl, ?_, ⟨_, rfl⟩, hW, hsame.mono (by decide) (by decide)⟩
      · exact retN X7 hx (t := .boolean) Bd.returns (by simp) (hb hby d1_27) hr
      · show Q_rm1 Z o0 w h0 n0 _ T7.heap _
        rw [e7]
        exact ⟨by unfold own_ipe; simp only [if_neg hc3, if_pos hc8], N0, rfl⟩
    · skip
      have go11 := go9.step (C := T7.setTop (mkF m 27 #[.val (.ref o0)] [(.int (0 : Int32))])) (fun t k => by
        show Steps p.tables e below (T7.setTop (mkF m 19 #[.val (.ref o0)] [(.int (lcmpW w (4000 : Int64)))])) _
        refine XS.ifYes X7.here hx rfl (pc0 := 19) (pc' := 26) rfl (hb hby d1_19) rfl ((if0 _ _).trans (flt (fun q => hc8 ((lw_lt _ _).mp q))).2.1) (by decide) (by decide) ?_
        show Steps p.tables e below (T7.setTop (mkF m 26 #[.val (.ref o0)] [])) _
        refine XS.iconst X7.here hx rfl (hb hby d1_26) ?_
        exact k)
      obtain ⟨fs, hr, hrun, hended, hW, hsame⟩ := X7.leave (v := some (.int (0 : Int32))) (fun h => by rw [Bd.returns] at h; cases h)
      refine ⟨_, _, go11 _ ?_, hrun, hended, _, _, rfl, ?_, ⟨_, rfl⟩, hW, hsame.mono (by decide) (by decide)⟩
      · exact retN X7 hx (t := .boolean) Bd.returns (by simp) (hb hby d1_27) hr
      · show Q_rm1 Z o0 w h0 n0 _ T7.heap _
        rw [e7]
        exact ⟨by unfold own_ipe; simp only [if_neg hc3, if_neg hc8], N0, rfl⟩
theorem own_at (u : Nat → Addr) (j : Nat) (hj : j < 33) : List.getD [(.ref (u 0)), (.ref (u 1)), (.ref (u 2)), (.ref (u 3)), (.ref (u 4)), (.ref (u 5)), (.ref (u 6)), (.ref (u 7)), (.ref (u 8)), (.ref (u 9)), (.ref (u 10)), (.ref (u 11)), (.ref (u 12)), (.ref (u 13)), (.ref (u 14)), (.ref (u 15)), (.ref (u 16)), (.ref (u 17)), (.ref (u 18)), (.ref (u 19)), (.ref (u 20)), (.ref (u 21)), (.ref (u 22)), (.ref (u 23)), (.ref (u 24)), (.ref (u 25)), (.ref (u 26)), (.ref (u 27)), (.ref (u 28)), (.ref (u 29)), (.ref (u 30)), (.ref (u 31)), (.ref (u 32))] j Value.null = Value.ref (u j) := by
  show List.getD ((List.range 33).map fun i => Value.ref (u i)) j Value.null = _
  rw [List.getD_eq_getElem?_getD, List.getElem?_map, List.getElem?_range hj]; rfl
theorem own_fin : ∀ j : Fin 33, own_ipe (own_code j.val) = if (j.val : Int) < 3 then (0 : Int32) else if 12 < (j.val : Int) then (0 : Int32) else (1 : Int32) := by decide +kernel
theorem own_i {k z : Int32} (hz : z = (k &&& (2147483647 : Int32)) % (33 : Int32)) : 0 ≤ z.toInt ∧ z.toInt < 33 := by
  have hm : 0 ≤ (k &&& (2147483647 : Int32)).toInt := by
    have h2 : (k &&& (2147483647 : Int32)).toBitVec.toNat ≤ 2147483647 := by
      show (k.toBitVec &&& (2147483647 : Int32).toBitVec).toNat ≤ _
      rw [BitVec.toNat_and]; exact Nat.and_le_right
    show 0 ≤ (k &&& (2147483647 : Int32)).toBitVec.toInt
    rw [BitVec.toInt_eq_toNat_cond, if_pos (by omega)]; omega
  generalize k &&& (2147483647 : Int32) = y at *
  have h2 : z.toInt = y.toInt.tmod 33 := by rw [hz]; exact Int32.toInt_mod _ _
  rw [Int.tmod_eq_emod_of_nonneg hm] at h2
  omega
theorem own_in {z : Int32} (h : 0 ≤ z.toInt ∧ z.toInt < 33) : ¬ z < 0 ∧ z < (33 : Int32) := by
  have e0 : (0 : Int32).toInt = 0 := rfl
  have e1 : (33 : Int32).toInt = 33 := rfl
  rw [Int32.lt_iff_toInt_lt, Int32.lt_iff_toInt_lt, e0, e1]; omega
theorem own_fit {z : Int32} {j : Nat} (h : 0 ≤ z.toInt ∧ z.toInt < 33) (hj : j = z.toNatClampNeg) : j < 33 ∧ own_ipe (own_code j) = if z < (3 : Int32) then (0 : Int32) else (if (12 : Int32) < z then (0 : Int32) else (1 : Int32)) := by
  have e : (j : Int) = z.toInt := by rw [hj]; show ((z.toInt.toNat : Nat) : Int) = _; omega
  have h1 : j < 33 := by omega
  refine ⟨h1, ?_⟩
  rw [show own_ipe (own_code j) = _ from own_fin ⟨j, h1⟩]
  have e3 : (3 : Int32).toInt = 3 := rfl
  have e12 : (12 : Int32).toInt = 12 := rfl
  simp only [Int32.lt_iff_toInt_lt, e3, e12, e]
theorem pn_rm0 : plainName "com/example/gatewarden/gatewarden/diameter/ResultCodeIsProtocolErrorPinLaw" = true := by first | (simp [plainName, overriddenIn]; done) | decide +kernel
theorem pd0_0 : parseMethodDescriptor "()Z" = some ⟨[], some .boolean⟩ := by decide +kernel
theorem ef_rm0 (m : MethodId) (p0 : Int32) : entryFrame m #[(.int p0)] maxLocals = mkF m 0 #[.val (.int p0), .unset, .unset, .unset] [] := by first | (simp [entryFrame, mkF, argsToLocals, Value.category, maxLocals]; done) | rfl
def Q_rm0 (Z : State) (p0 : Int32) (u : Nat → Addr) (h0 : Heap) (n0 : Nat) (v : Option Value) (h : Heap) (L : List Loc) : Prop := v = some (.int (1 : Int32)) ∧ Fr n0 L
set_option maxRecDepth 65536 in
set_option maxHeartbeats 40000000 in
theorem rm0 (l : Launch) (Z : State) (a0 : Array Value) (hw : ∀ d ∈ tables_1, d.before a0 Z = true) (ws : List Jvm.Cond) (p0 : Int32) (u : Nat → Addr) (h0 : Heap) (n0 : Nat) (Z0 : n0 ≤ h0.size) (Ol : Old Z n0 h0) (hS : ∀ i, i < 33 → Sta Z Z.heap "com/example/gatewarden/gatewarden/diameter/ResultCode" (own_nm i) "Lcom/example/gatewarden/gatewarden/diameter/ResultCode;" (.ref (u i))) (hE : ∀ i, i < 33 → Exa Z Z.heap (u i) "com/example/gatewarden/gatewarden/diameter/ResultCode") (hF : ∀ i, i < 33 → Fld Z Z.heap (u i) "com/example/gatewarden/gatewarden/diameter/ResultCode" "code" "J" (.long (own_code i))) :
    MetFree l x (head1 (Jvm.Cond.code x code maxLocals ret :: ws) room_1) (fun a U => a = #[(.int p0)] ∧ Z.Warmed39 U.vm ∧ U.heap = h0) (fun _ _ _ _ _ => True) (fun _ U o U' => ∃ v L, o = .returned v ∧ Q_rm0 Z p0 u h0 n0 v U'.heap L ∧ FrameEnd U o U' L room_1.cells room_1.slots) := by
  refine MetFree.of_bodySF (plainFor_of_name pn_rm0) hisR ?_
  intro p e s m args below meth c s₁ Bd hml0 hP hK
  obtain ⟨rfl, hZ, hh⟩ := hP
  have hx := Bd.exec
  have hby := Bd.bytes
  have hml : c.maxLocals = 4 := hml0
  have hown : s.vm.findClass "com/example/gatewarden/gatewarden/diameter/ResultCodeIsProtocolErrorPinLaw" = some m.cls := findClass_of_methodNamed Bd.named
  have hnm := (name_of_methodNamed Bd.named Bd.method).1
  have X0 : Stand p l e room_1 s m #[(.int p0)] below meth c s₁ [] 0 0 := Stand.of_body Bd
  have e0 : s₁.heap = h0 := by rw [← hh, Bd.state]; rfl
  have N0 := Fr.nil n0
  have K0 := Keep.refl h0 []
  have go0 : Go p e below (s₁.setTop (entryFrame m #[(.int p0)] maxLocals)) (s₁.setTop (mkF m 0 #[.val (.int p0), .unset, .unset, .unset] [])) := fun t k => castTop (ef_rm0 m p0) k
  have go1 := go0.step (C := s₁.setTop (mkF m 2 #[.val (.int p0), .unset, .unset, .unset] [(.int (33 : Int32))])) (fun t k => by
    show Steps p.tables e below (s₁.setTop (mkF m 0 #[.val (.int p0), .unset, .unset, .unset] [])) _
    refine XS.bipush X0.here hx rfl (hb hby at_0) ?_
    exact k)
  obtain ⟨T2, h2, k2, X2, e2, E2, A2, O2, st2⟩ := newR X0 hx hZ hown (hw _ (List.mem_of_getElem? (i := 0) rfl)) (hw _ (List.mem_of_getElem? (i := 1) rfl)) e0 (g := (mkF m 2 #[.val (.int p0), .unset, .unset, .unset] [(.int (33 : Int32))])) rfl (hb hby at_2) rfl (by decide) (cap := 33) (by decide) (by decide) (by decide) (by decide)
  obtain ⟨b2, g2⟩ : ∃ z, z = h0.size := ⟨_, rfl⟩
  rw [← g2] at A2 st2
  have g_b2 : n0 ≤ b2 := Nat.le_trans Z0 (Nat.le_of_eq g2.symm)
  have sz_b2 : h0.size ≤ b2 := Nat.le_trans K0.1 (Nat.le_of_eq g2.symm)
  have f3 := Old.ext Ol E2
  have V2 : Arv Z h2 b2 k2 (.object "com/example/gatewarden/gatewarden/diameter/ResultCode") (33 : Int32) [.null, .null, .null, .null, .null, .null, .null, .null, .null, .null, .null, .null, .null, .null, .null, .null, .null, .null, .null, .null, .null, .null, .null, .null, .null, .null, .null, .null, .null, .null, .null, .null, .null] .null := (Arv.new A2 (by decide)).pad (pad_rep [] .null 33)
  have Z2 : n0 ≤ h2.size := Nat.le_trans Z0 E2.1
  have K2 := K0.ext E2
  have go2 := go1.step (C := T2.setTop (mkF m 5 #[.val (.int p0), .unset, .unset, .unset] [(.ref b2)])) (fun t k => st2 t k)
  have go4 := go2.step (C := T2.setTop (mkF m 7 #[.val (.int p0), .unset, .unset, .unset] [(.int (0 : Int32)), (.ref b2), (.ref b2)])) (fun t k => by
    show Steps p.tables e below (T2.setTop (mkF m 5 #[.val (.int p0), .unset, .unset, .unset] [(.ref b2)])) _
    refine XS.dup X2.here hx rfl (hb hby at_5) rfl rfl ?_
    show Steps p.tables e below (T2.setTop (mkF m 6 #[.val (.int p0), .unset, .unset, .unset] [(.ref b2), (.ref b2)])) _
    refine XS.iconst X2.here hx rfl (hb hby at_6) ?_
    exact k)
  have f5 := (hS 0 (by decide) : Sta Z Z.heap "com/example/gatewarden/gatewarden/diameter/ResultCode" "DIAMETER_MULTI_ROUND_AUTH" "Lcom/example/gatewarden/gatewarden/diameter/ResultCode;" (.ref (u 0))).ext f3.2
  obtain ⟨T6, X6, e6, st6⟩ := getS2 X2 hx hZ hown (host := "") (Or.inl (hw _ (List.mem_of_getElem? (i := 2) rfl))) Via.refl e2 f5 (g := (mkF m 7 #[.val (.int p0), .unset, .unset, .unset] [(.int (0 : Int32)), (.ref b2), (.ref b2)])) rfl (hb hby at_7)
  have go6 := go4.step (C := T6.setTop (mkF m 10 #[.val (.int p0), .unset, .unset, .unset] [(.ref (u 0)), (.int (0 : Int32)), (.ref b2), (.ref b2)])) (fun t k => st6 t k)
  obtain ⟨cl7, Ar7, qa7, Sa7, Na7, Ha7, Ga7⟩ := V2
  have hin7 : ¬ ((0 : Int32) < 0 ∨ cl7.slots.size ≤ ((0 : Int32)).toNatClampNeg) := inb_of Sa7 ⟨by decide, by decide⟩
  obtain ⟨T8, h8, X8, e8, W8, st8⟩ := stR X6 hx hZ e6 Ar7 (j := (0 : Int32)) hin7 rfl (Sto.ofV Ar7 qa7 O2 (Ins.self ((hE 0 (by decide)).ext f3.2))) (g := (mkF m 10 #[.val (.int p0), .unset, .unset, .unset] [(.ref (u 0)), (.int (0 : Int32)), (.ref b2), (.ref b2)])) rfl rfl (hb hby at_10)
  have V8 : Arv Z h8 b2 k2 (.object "com/example/gatewarden/gatewarden/diameter/ResultCode") (33 : Int32) [(.ref (u 0)), .null, .null, .null, .null, .null, .null, .null, .null, .null, .null, .null, .null, .null, .null, .null, .null, .null, .null, .null, .null, .null, .null, .null, .null, .null, .null, .null, .null, .null, .null, .null, .null] .null := Arv.set Ar7 qa7 Sa7 Na7 Ha7 Ga7 rfl W8 0 rfl (Nat.le_of_ble_eq_true rfl)
  have f9 := Old.wr f3 W8 g_b2
  have Z8 : n0 ≤ h8.size := Nat.le_trans Z2 (Nat.le_of_eq W8.size.symm)
  have K8 := K2.wr W8 (Or.inr sz_b2)
  have N8 := Fr.snoc X8 N0 g_b2
  have go8 := go6.step (C := T8.setTop (mkF m 11 #[.val (.int p0), .unset, .unset, .unset] [(.ref b2)])) (fun t k => st8 t k)
  have go11 := go8.step (C := T8.setTop (mkF m 13 #[.val (.int p0), .unset, .unset, .unset] [(.int (1 : Int32)), (.ref b2), (.ref b2)])) (fun t k => by
    show Steps p.tables e below (T8.setTop (mkF m 11 #[.val (.int p0), .unset, .unset, .unset] [(.ref b2)])) _
    refine XS.dup X8.here hx rfl (hb hby at_11) rfl rfl ?_
    show Steps p.tables e below (T8.setTop (mkF m 12 #[.val (.int p0), .unset, .unset, .unset] [(.ref b2), (.ref b2)])) _
    refine XS.iconst X8.here hx rfl (hb hby at_12) ?_
    exact k)
  have f12 := (hS 1 (by decide) : Sta Z Z.heap "com/example/gatewarden/gatewarden/diameter/ResultCode" "DIAMETER_SUCCESS" "Lcom/example/gatewarden/gatewarden/diameter/ResultCode;" (.ref (u 1))).ext f9.2
  obtain ⟨T13, X13, e13, st13⟩ := getS2 X8 hx hZ hown (host := "") (Or.inl (hw _ (List.mem_of_getElem? (i := 6) rfl))) Via.refl e8 f12 (g := (mkF m 13 #[.val (.int p0), .unset, .unset, .unset] [(.int (1 : Int32)), (.ref b2), (.ref b2)])) rfl (hb hby at_13)
  have go13 := go11.step (C := T13.setTop (mkF m 16 #[.val (.int p0), .unset, .unset, .unset] [(.ref (u 1)), (.int (1 : Int32)), (.ref b2), (.ref b2)])) (fun t k => st13 t k)
  obtain ⟨cl14, Ar14, qa14, Sa14, Na14, Ha14, Ga14⟩ := V8
  have hin14 : ¬ ((1 : Int32) < 0 ∨ cl14.slots.size ≤ ((1 : Int32)).toNatClampNeg) := inb_of Sa14 ⟨by decide, by decide⟩
  obtain ⟨T15, h15, X15, e15, W15, st15⟩ := stR X13 hx hZ e13 Ar14 (j := (1 : Int32)) hin14 rfl (Sto.ofV Ar14 qa14 O2 (Ins.self ((hE 1 (by decide)).ext f9.2))) (g := (mkF m 16 #[.val (.int p0), .unset, .unset, .unset] [(.ref (u 1)), (.int (1 : Int32)), (.ref b2), (.ref b2)])) rfl rfl (hb hby at_16)
  have V15 : Arv Z h15 b2 k2 (.object "com/example/gatewarden/gatewarden/diameter/ResultCode") (33 : Int32) [(.ref (u 0)), (.ref (u 1)), .null, .null, .null, .null, .null, .null, .null, .null, .null, .null, .null, .null, .null, .null, .null, .null, .null, .null, .null, .null, .null, .null, .null, .null, .null, .null, .null, .null, .null, .null, .null] .null := Arv.set Ar14 qa14 Sa14 Na14 Ha14 Ga14 rfl W15 1 rfl (Nat.le_of_ble_eq_true rfl)
  have f16 := Old.wr f9 W15 g_b2
  have Z15 : n0 ≤ h15.size := Nat.le_trans Z8 (Nat.le_of_eq W15.size.symm)
  have K15 := K8.wr W15 (Or.inr sz_b2)
  have N15 := Fr.snoc X15 N8 g_b2
  have go15 := go13.step (C := T15.setTop (mkF m 17 #[.val (.int p0), .unset, .unset, .unset] [(.ref b2)])) (fun t k => st15 t k)
  have go18 := go15.step (C := T15.setTop (mkF m 19 #[.val (.int p0), .unset, .unset, .unset] [(.int (2 : Int32)), (.ref b2), (.ref b2)])) (fun t k => by
    show Steps p.tables e below (T15.setTop (mkF m 17 #[.val (.int p0), .unset, .unset, .unset] [(.ref b2)])) _
    refine XS.dup X15.here hx rfl (hb hby at_17) rfl rfl ?_
    show Steps p.tables e below (T15.setTop (mkF m 18 #[.val (.int p0), .unset, .unset, .unset] [(.ref b2), (.ref b2)])) _
    refine XS.iconst X15.here hx rfl (hb hby at_18) ?_
    exact k)
  have f19 := (hS 2 (by decide) : Sta Z Z.heap "com/example/gatewarden/gatewarden/diameter/ResultCode" "DIAMETER_LIMITED_SUCCESS" "Lcom/example/gatewarden/gatewarden/diameter/ResultCode;" (.ref (u 2))).ext f16.2
  obtain ⟨T20, X20, e20, st20⟩ := getS2 X15 hx hZ hown (host := "") (Or.inl (hw _ (List.mem_of_getElem? (i := 8) rfl))) Via.refl e15 f19 (g := (mkF m 19 #[.val (.int p0), .unset, .unset, .unset] [(.int (2 : Int32)), (.ref b2), (.ref b2)])) rfl (hb hby at_19)
  have go20 := go18.step (C := T20.setTop (mkF m 22 #[.val (.int p0), .unset, .unset, .unset] [(.ref (u 2)), (.int (2 : Int32)), (.ref b2), (.ref b2)])) (fun t k => st20 t k)
  obtain ⟨cl21, Ar21, qa21, Sa21, Na21, Ha21, Ga21⟩ := V15
  have hin21 : ¬ ((2 : Int32) < 0 ∨ cl21.slots.size ≤ ((2 : Int32)).toNatClampNeg) := inb_of Sa21 ⟨by decide, by decide⟩
  obtain ⟨T22, h22, X22, e22, W22, st22⟩ := stR X20 hx hZ e20 Ar21 (j := (2 : Int32)) hin21 rfl (Sto.ofV Ar21 qa21 O2 (Ins.self ((hE 2 (by decide)).ext f16.2))) (g := (mkF m 22 #[.val (.int p0), .unset, .unset, .unset] [(.ref (u 2)), (.int (2 : Int32)), (.ref b2), (.ref b2)])) rfl rfl (hb hby at_22)
  have V22 : Arv Z h22 b2 k2 (.object "com/example/gatewarden/gatewarden/diameter/ResultCode") (33 : Int32) [(.ref (u 0)), (.ref (u 1)), (.ref (u 2)), .null, .null, .null, .null, .null, .null, .null, .null, .null, .null, .null, .null, .null, .null, .null, .null, .null, .null, .null, .null, .null, .null, .null, .null, .null, .null, .null, .null, .null, .null] .null := Arv.set Ar21 qa21 Sa21 Na21 Ha21 Ga21 rfl W22 2 rfl (Nat.le_of_ble_eq_true rfl)
  have f23 := Old.wr f16 W22 g_b2
  have Z22 : n0 ≤ h22.size := Nat.le_trans Z15 (Nat.le_of_eq W22.size.symm)
  have K22 := K15.wr W22 (Or.inr sz_b2)
  have N22 := Fr.snoc X22 N15 g_b2
  have go22 := go20.step (C := T22.setTop (mkF m 23 #[.val (.int p0), .unset, .unset, .unset] [(.ref b2)])) (fun t k => st22 t k)
  have go25 := go22.step (C := T22.setTop (mkF m 25 #[.val (.int p0), .unset, .unset, .unset] [(.int (3 : Int32)), (.ref b2), (.ref b2)])) (fun t k => by
    show Steps p.tables e below (T22.setTop (mkF m 23 #[.val (.int p0), .unset, .unset, .unset] [(.ref b2)])) _
    refine XS.dup X22.here hx rfl (hb hby at_23) rfl rfl ?_
    show Steps p.tables e below (T22.setTop (mkF m 24 #[.val (.int p0), .unset, .unset, .unset] [(.ref b2), (.ref b2)])) _
    refine XS.iconst X22.here hx rfl (hb hby at_24) ?_
    exact k)
  have f26 := (hS 3 (by decide) : Sta Z Z.heap "com/example/gatewarden/gatewarden/diameter/ResultCode" "DIAMETER_COMMAND_UNSUPPORTED" "Lcom/example/gatewarden/gatewarden/diameter/ResultCode;" (.ref (u 3))).ext f23.2
  obtain ⟨T27, X27, e27, st27⟩ := getS2 X22 hx hZ hown (host := "") (Or.inl (hw _ (List.mem_of_getElem? (i := 10) rfl))) Via.refl e22 f26 (g := (mkF m 25 #[.val (.int p0), .unset, .unset, .unset] [(.int (3 : Int32)), (.ref b2), (.ref b2)])) rfl (hb hby at_25)
  have go27 := go25.step (C := T27.setTop (mkF m 28 #[.val (.int p0), .unset, .unset, .unset] [(.ref (u 3)), (.int (3 : Int32)), (.ref b2), (.ref b2)])) (fun t k => st27 t k)
  obtain ⟨cl28, Ar28, qa28, Sa28, Na28, Ha28, Ga28⟩ := V22
  have hin28 : ¬ ((3 : Int32) < 0 ∨ cl28.slots.size ≤ ((3 : Int32)).toNatClampNeg) := inb_of Sa28 ⟨by decide, by decide⟩
  obtain ⟨T29, h29, X29, e29, W29, st29⟩ := stR X27 hx hZ e27 Ar28 (j := (3 : Int32)) hin28 rfl (Sto.ofV Ar28 qa28 O2 (Ins.self ((hE 3 (by decide)).ext f23.2))) (g := (mkF m 28 #[.val (.int p0), .unset, .unset, .unset] [(.ref (u 3)), (.int (3 : Int32)), (.ref b2), (.ref b2)])) rfl rfl (hb hby at_28)
  have V29 : Arv Z h29 b2 k2 (.object "com/example/gatewarden/gatewarden/diameter/ResultCode") (33 : Int32) [(.ref (u 0)), (.ref (u 1)), (.ref (u 2)), (.ref (u 3)), .null, .null, .null, .null, .null, .null, .null, .null, .null, .null, .null, .null, .null, .null, .null, .null, .null, .null, .null, .null, .null, .null, .null, .null, .null, .null, .null, .null, .null] .null := Arv.set Ar28 qa28 Sa28 Na28 Ha28 Ga28 rfl W29 3 rfl (Nat.le_of_ble_eq_true rfl)
  have f30 := Old.wr f23 W29 g_b2
  have Z29 : n0 ≤ h29.size := Nat.le_trans Z22 (Nat.le_of_eq W29.size.symm)
  have K29 := K22.wr W29 (Or.inr sz_b2)
  have N29 := Fr.snoc X29 N22 g_b2
  have go29 := go27.step (C := T29.setTop (mkF m 29 #[.val (.int p0), .unset, .unset, .unset] [(.ref b2)])) (fun t k => st29 t k)
  have go32 := go29.step (C := T29.setTop (mkF m 31 #[.val (.int p0), .unset, .unset, .unset] [(.int (4 : Int32)), (.ref b2), (.ref b2)])) (fun t k => by
    show Steps p.tables e below (T29.setTop (mkF m 29 #[.val (.int p0), .unset, .unset, .unset] [(.ref b2)])) _
    refine XS.dup X29.here hx rfl (hb hby at_29) rfl rfl ?_
    show Steps p.tables e below (T29.setTop (mkF m 30 #[.val (.int p0), .unset, .unset, .unset] [(.ref b2), (.ref b2)])) _
    refine XS.iconst X29.here hx rfl (hb hby at_30) ?_
    exact k)
  have f33 := (hS 4 (by decide) : Sta Z Z.heap "com/example/gatewarden/gatewarden/diameter/ResultCode" "DIAMETER_UNABLE_TO_DELIVER" "Lcom/example/gatewarden/gatewarden/diameter/ResultCode;" (.ref (u 4))).ext f30.2
  obtain ⟨T34, X34, e34, st34⟩ := getS2 X29 hx hZ hown (host := "") (Or.inl (hw _ (List.mem_of_getElem? (i := 12) rfl))) Via.refl e29 f33 (g := (mkF m 31 #[.val (.int p0), .unset, .unset, .unset] [(.int (4 : Int32)), (.ref b2), (.ref b2)])) rfl (hb hby at_31)
  have go34 := go32.step (C := T34.setTop (mkF m 34 #[.val (.int p0), .unset, .unset, .unset] [(.ref (u 4)), (.int (4 : Int32)), (.ref b2), (.ref b2)])) (fun t k => st34 t k)
  obtain ⟨cl35, Ar35, qa35, Sa35, Na35, Ha35, Ga35⟩ := V29
  have hin35 : ¬ ((4 : Int32) < 0 ∨ cl35.slots.size ≤ ((4 : Int32)).toNatClampNeg) := inb_of Sa35 ⟨by decide, by decide⟩
  obtain ⟨T36, h36, X36, e36, W36, st36⟩ := stR X34 hx hZ e34 Ar35 (j := (4 : Int32)) hin35 rfl (Sto.ofV Ar35 qa35 O2 (Ins.self ((hE 4 (by decide)).ext f30.2))) (g := (mkF m 34 #[.val (.int p0), .unset, .unset, .unset] [(.ref (u 4)), (.int (4 : Int32)), (.ref b2), (.ref b2)])) rfl rfl (hb hby at_34)
  have V36 : Arv Z h36 b2 k2 (.object "com/example/gatewarden/gatewarden/diameter/ResultCode") (33 : Int32) [(.ref (u 0)), (.ref (u 1)), (.ref (u 2)), (.ref (u 3)), (.ref (u 4)), .null, .null, .null, .null, .null, .null, .null, .null, .null, .null, .null, .null, .null, .null, .null, .null, .null, .null, .null, .null, .null, .null, .null, .null, .null, .null, .null, .null] .null := Arv.set Ar35 qa35 Sa35 Na35 Ha35 Ga35 rfl W36 4 rfl (Nat.le_of_ble_eq_true rfl)
  have f37 := Old.wr f30 W36 g_b2
  have Z36 : n0 ≤ h36.size := Nat.le_trans Z29 (Nat.le_of_eq W36.size.symm)
  have K36 := K29.wr W36 (Or.inr sz_b2)
  have N36 := Fr.snoc X36 N29 g_b2
  have go36 := go34.step (C := T36.setTop (mkF m 35 #[.val (.int p0), .unset, .unset, .unset] [(.ref b2)])) (fun t k => st36 t k)
  have go39 := go36.step (C := T36.setTop (mkF m 37 #[.val (.int p0), .unset, .unset, .unset] [(.int (5 : Int32)), (.ref b2), (.ref b2)])) (fun t k => by
    show Steps p.tables e below (T36.setTop (mkF m 35 #[.val (.int p0), .unset, .unset, .unset] [(.ref b2)])) _
    refine XS.dup X36.here hx rfl (hb hby at_35) rfl rfl ?_
    show Steps p.tables e below (T36.setTop (mkF m 36 #[.val (.int p0), .unset, .unset, .unset] [(.ref b2), (.ref b2)])) _
    refine XS.iconst X36.here hx rfl (hb hby at_36) ?_
    exact k)
  have f40 := (hS 5 (by decide) : Sta Z Z.heap "com/example/gatewarden/gatewarden/diameter/ResultCode" "DIAMETER_REALM_NOT_SERVED" "Lcom/example/gatewarden/gatewarden/diameter/ResultCode;" (.ref (u 5))).ext f37.2
  obtain ⟨T41, X41, e41, st41⟩ := getS2 X36 hx hZ hown (host := "") (Or.inl (hw _ (List.mem_of_getElem? (i := 14) rfl))) Via.refl e36 f40 (g := (mkF m 37 #[.val (.int p0), .unset, .unset, .unset] [(.int (5 : Int32)), (.ref b2), (.ref b2)])) rfl (hb hby at_37)
  have go41 := go39.step (C := T41.setTop (mkF m 40 #[.val (.int p0), .unset, .unset, .unset] [(.ref (u 5)), (.int (5 : Int32)), (.ref b2), (.ref b2)])) (fun t k => st41 t k)
  obtain ⟨cl42, Ar42, qa42, Sa42, Na42, Ha42, Ga42⟩ := V36
  have hin42 : ¬ ((5 : Int32) < 0 ∨ cl42.slots.size ≤ ((5 : Int32)).toNatClampNeg) := inb_of Sa42 ⟨by decide, by decide⟩
  obtain ⟨T43, h43, X43, e43, W43, st43⟩ := stR X41 hx hZ e41 Ar42 (j := (5 : Int32)) hin42 rfl (Sto.ofV Ar42 qa42 O2 (Ins.self ((hE 5 (by decide)).ext f37.2))) (g := (mkF m 40 #[.val (.int p0), .unset, .unset, .unset] [(.ref (u 5)), (.int (5 : Int32)), (.ref b2), (.ref b2)])) rfl rfl (hb hby at_40)
  have V43 : Arv Z h43 b2 k2 (.object "com/example/gatewarden/gatewarden/diameter/ResultCode") (33 : Int32) [(.ref (u 0)), (.ref (u 1)), (.ref (u 2)), (.ref (u 3)), (.ref (u 4)), (.ref (u 5)), .null, .null, .null, .null, .null, .null, .null, .null, .null, .null, .null, .null, .null, .null, .null, .null, .null, .null, .null, .null, .null, .null, .null, .null, .null, .null, .null] .null := Arv.set Ar42 qa42 Sa42 Na42 Ha42 Ga42 rfl W43 5 rfl (Nat.le_of_ble_eq_true rfl)
  have f44 := Old.wr f37 W43 g_b2
  have Z43 : n0 ≤ h43.size := Nat.le_trans Z36 (Nat.le_of_eq W43.size.symm)
  have K43 := K36.wr W43 (Or.inr sz_b2)
  have N43 := Fr.snoc X43 N36 g_b2
  have go43 := go41.step (C := T43.setTop (mkF m 41 #[.val (.int p0), .unset, .unset, .unset] [(.ref b2)])) (fun t k => st43 t k)
  have go46 := go43.step (C := T43.setTop (mkF m 44 #[.val (.int p0), .unset, .unset, .unset] [(.int (6 : Int32)), (.ref b2), (.ref b2)])) (fun t k => by
    show Steps p.tables e below (T43.setTop (mkF m 41 #[.val (.int p0), .unset, .unset, .unset] [(.ref b2)])) _
    refine XS.dup X43.here hx rfl (hb hby at_41) rfl rfl ?_
    show Steps p.tables e below (T43.setTop (mkF m 42 #[.val (.int p0), .unset, .unset, .unset] [(.ref b2), (.ref b2)])) _
    refine XS.bipush X43.here hx rfl (hb hby at_42) ?_
    exact k)
  have f47 := (hS 6 (by decide) : Sta Z Z.heap "com/example/gatewarden/gatewarden/diameter/ResultCode" "DIAMETER_TOO_BUSY" "Lcom/example/gatewarden/gatewarden/diameter/ResultCode;" (.ref (u 6))).ext f44.2
  obtain ⟨T48, X48, e48, st48⟩ := getS2 X43 hx hZ hown (host := "") (Or.inl (hw _ (List.mem_of_getElem? (i := 16) rfl))) Via.refl e43 f47 (g := (mkF m 44 #[.val (.int p0), .unset, .unset, .unset] [(.int (6 : Int32)), (.ref b2), (.ref b2)])) rfl (hb hby at_44)
  have go48 := go46.step (C := T48.setTop (mkF m 47 #[.val (.int p0), .unset, .unset, .unset] [(.ref (u 6)), (.int (6 : Int32)), (.ref b2), (.ref b2)])) (fun t k => st48 t k)
  obtain ⟨cl49, Ar49, qa49, Sa49, Na49, Ha49, Ga49⟩ := V43
  have hin49 : ¬ ((6 : Int32) < 0 ∨ cl49.slots.size ≤ ((6 : Int32)).toNatClampNeg) := inb_of Sa49 ⟨by decide, by decide⟩
  obtain ⟨T50, h50, X50, e50, W50, st50⟩ := stR X48 hx hZ e48 Ar49 (j := (6 : Int32)) hin49 rfl (Sto.ofV Ar49 qa49 O2 (Ins.self ((hE 6 (by decide)).ext f44.2))) (g := (mkF m 47 #[.val (.int p0), .unset, .unset, .unset] [(.ref (u 6)), (.int (6 : Int32)), (.ref b2), (.ref b2)])) rfl rfl (hb hby at_47)
  have V50 : Arv Z h50 b2 k2 (.object "com/example/gatewarden/gatewarden/diameter/ResultCode") (33 : Int32) [(.ref (u 0)), (.ref (u 1)), (.ref (u 2)), (.ref (u 3)), (.ref (u 4)), (.ref (u 5)), (.ref (u 6)), .null, .null, .null, .null, .null, .null, .null, .null, .null, .null, .null, .null, .null, .null, .null, .null, .null, .null, .null, .null, .null, .null, .null, .null, .null, .null] .null := Arv.set Ar49 qa49 Sa49 Na49 Ha49 Ga49 rfl W50 6 rfl (Nat.le_of_ble_eq_true rfl)
  have f51 := Old.wr f44 W50 g_b2
  have Z50 : n0 ≤ h50.size := Nat.le_trans Z43 (Nat.le_of_eq W50.size.symm)
  have K50 := K43.wr W50 (Or.inr sz_b2)
  have N50 := Fr.snoc X50 N43 g_b2
  have go50 := go48.step (C := T50.setTop (mkF m 48 #[.val (.int p0), .unset, .unset, .unset] [(.ref b2)])) (fun t k => st50 t k)
  have go53 := go50.step (C := T50.setTop (mkF m 51 #[.val (.int p0), .unset, .unset, .unset] [(.int (7 : Int32)), (.ref b2), (.ref b2)])) (fun t k => by
    show Steps p.tables e below (T50.setTop (mkF m 48 #[.val (.int p0), .unset, .unset, .unset] [(.ref b2)])) _
    refine XS.dup X50.here hx rfl (hb hby at_48) rfl rfl ?_
    show Steps p.tables e below (T50.setTop (mkF m 49 #[.val (.int p0), .unset, .unset, .unset] [(.ref b2), (.ref b2)])) _
    refine XS.bipush X50.here hx rfl (hb hby at_49) ?_
    exact k)
  have f54 := (hS 7 (by decide) : Sta Z Z.heap "com/example/gatewarden/gatewarden/diameter/ResultCode" "DIAMETER_LOOP_DETECTED" "Lcom/example/gatewarden/gatewarden/diameter/ResultCode;" (.ref (u 7))).ext f51.2
  obtain ⟨T55, X55, e55, st55⟩ := getS2 X50 hx hZ hown (host := "") (Or.inl (hw _ (List.mem_of_getElem? (i := 18) rfl))) Via.refl e50 f54 (g := (mkF m 51 #[.val (.int p0), .unset, .unset, .unset] [(.int (7 : Int32)), (.ref b2), (.ref b2)])) rfl (hb hby at_51)
  have go55 := go53.step (C := T55.setTop (mkF m 54 #[.val (.int p0), .unset, .unset, .unset] [(.ref (u 7)), (.int (7 : Int32)), (.ref b2), (.ref b2)])) (fun t k => st55 t k)
  obtain ⟨cl56, Ar56, qa56, Sa56, Na56, Ha56, Ga56⟩ := V50
  have hin56 : ¬ ((7 : Int32) < 0 ∨ cl56.slots.size ≤ ((7 : Int32)).toNatClampNeg) := inb_of Sa56 ⟨by decide, by decide⟩
  obtain ⟨T57, h57, X57, e57, W57, st57⟩ := stR X55 hx hZ e55 Ar56 (j := (7 : Int32)) hin56 rfl (Sto.ofV Ar56 qa56 O2 (Ins.self ((hE 7 (by decide)).ext f51.2))) (g := (mkF m 54 #[.val (.int p0), .unset, .unset, .unset] [(.ref (u 7)), (.int (7 : Int32)), (.ref b2), (.ref b2)])) rfl rfl (hb hby at_54)
  have V57 : Arv Z h57 b2 k2 (.object "com/example/gatewarden/gatewarden/diameter/ResultCode") (33 : Int32) [(.ref (u 0)), (.ref (u 1)), (.ref (u 2)), (.ref (u 3)), (.ref (u 4)), (.ref (u 5)), (.ref (u 6)), (.ref (u 7)), .null, .null, .null, .null, .null, .null, .null, .null, .null, .null, .null, .null, .null, .null, .null, .null, .null, .null, .null, .null, .null, .null, .null, .null, .null] .null := Arv.set Ar56 qa56 Sa56 Na56 Ha56 Ga56 rfl W57 7 rfl (Nat.le_of_ble_eq_true rfl)
  have f58 := Old.wr f51 W57 g_b2
  have Z57 : n0 ≤ h57.size := Nat.le_trans Z50 (Nat.le_of_eq W57.size.symm)
  have K57 := K50.wr W57 (Or.inr sz_b2)
  have N57 := Fr.snoc X57 N50 g_b2
  have go57 := go55.step (C := T57.setTop (mkF m 55 #[.val (.int p0), .unset, .unset, .unset] [(.ref b2)])) (fun t k => st57 t k)
  have go60 := go57.step (C := T57.setTop (mkF m 58 #[.val (.int p0), .unset, .unset, .unset] [(.int (8 : Int32)), (.ref b2), (.ref b2)])) (fun t k => by
    show Steps p.tables e below (T57.setTop (mkF m 55 #[.val (.int p0), .unset, .unset, .unset] [(.ref b2)])) _
    refine XS.dup X57.here hx rfl (hb hby at_55) rfl rfl ?_
    show Steps p.tables e below (T57.setTop (mkF m 56 #[.val (.int p0), .unset, .unset, .unset] [(.ref b2), (.ref b2)])) _
    refine XS.bipush X57.here hx rfl (hb hby at_56) ?_
    exact k)
  have f61 := (hS 8 (by decide) : Sta Z Z.heap "com/example/gatewarden/gatewarden/diameter/ResultCode" "DIAMETER_REDIRECT_INDICATION" "Lcom/example/gatewarden/gatewarden/diameter/ResultCode;" (.ref (u 8))).ext f58.2
  obtain ⟨T62, X62, e62, st62⟩ := getS2 X57 hx hZ hown (host := "") (Or.inl (hw _ (List.mem_of_getElem? (i := 20) rfl))) Via.refl e57 f61 (g := (mkF m 58 #[.val (.int p0), .unset, .unset, .unset] [(.int (8 : Int32)), (.ref b2), (.ref b2)])) rfl (hb hby at_58)
  have go62 := go60.step (C := T62.setTop (mkF m 61 #[.val (.int p0), .unset, .unset, .unset] [(.ref (u 8)), (.int (8 : Int32)), (.ref b2), (.ref b2)])) (fun t k => st62 t k)
  obtain ⟨cl63, Ar63, qa63, Sa63, Na63, Ha63, Ga63⟩ := V57
  have hin63 : ¬ ((8 : Int32) < 0 ∨ cl63.slots.size ≤ ((8 : Int32)).toNatClampNeg) := inb_of Sa63 ⟨by decide, by decide⟩
  obtain ⟨T64, h64, X64, e64, W64, st64⟩ := stR X62 hx hZ e62 Ar63 (j := (8 : Int32)) hin63 rfl (Sto.ofV Ar63 qa63 O2 (Ins.self ((hE 8 (by decide)).ext f58.2))) (g := (mkF m 61 #[.val (.int p0), .unset, .unset, .unset] [(.ref (u 8)), (.int (8 : Int32)), (.ref b2), (.ref b2)])) rfl rfl (hb hby at_61)
  have V64 : Arv Z h64 b2 k2 (.object "com/example/gatewarden/gatewarden/diameter/ResultCode") (33 : Int32) [(.ref (u 0)), (.ref (u 1)), (.ref (u 2)), (.ref (u 3)), (.ref (u 4)), (.ref (u 5)), (.ref (u 6)), (.ref (u 7)), (.ref (u 8)), .null, .null, .null, .null, .null, .null, .null, .null, .null, .null, .null, .null, .null, .null, .null, .null, .null, .null, .null, .null, .null, .null, .null, .null] .null := Arv.set Ar63 qa63 Sa63 Na63 Ha63 Ga63 rfl W64 8 rfl (Nat.le_of_ble_eq_true rfl)
  have f65 := Old.wr f58 W64 g_b2
  have Z64 : n0 ≤ h64.size := Nat.le_trans Z57 (Nat.le_of_eq W64.size.symm)
  have K64 := K57.wr W64 (Or.inr sz_b2)
  have N64 := Fr.snoc X64 N57 g_b2
  have go64 := go62.step (C := T64.setTop (mkF m 62 #[.val (.int p0), .unset, .unset, .unset] [(.ref b2)])) (fun t k => st64 t k)
  have go67 := go64.step (C := T64.setTop (mkF m 65 #[.val (.int p0), .unset, .unset, .unset] [(.int (9 : Int32)), (.ref b2), (.ref b2)])) (fun t k => by
    show Steps p.tables e below (T64.setTop (mkF m 62 #[.val (.int p0), .unset, .unset, .unset] [(.ref b2)])) _
    refine XS.dup X64.here hx rfl (hb hby at_62) rfl rfl ?_
    show Steps p.tables e below (T64.setTop (mkF m 63 #[.val (.int p0), .unset, .unset, .unset] [(.ref b2), (.ref b2)])) _
    refine XS.bipush X64.here hx rfl (hb hby at_63) ?_
    exact k)
  have f68 := (hS 9 (by decide) : Sta Z Z.heap "com/example/gatewarden/gatewarden/diameter/ResultCode" "DIAMETER_APPLICATION_UNSUPPORTED" "Lcom/example/gatewarden/gatewarden/diameter/ResultCode;" (.ref (u 9))).ext f65.2
  obtain ⟨T69, X69, e69, st69⟩ := getS2 X64 hx hZ hown (host := "") (Or.inl (hw _ (List.mem_of_getElem? (i := 22) rfl))) Via.refl e64 f68 (g := (mkF m 65 #[.val (.int p0), .unset, .unset, .unset] [(.int (9 : Int32)), (.ref b2), (.ref b2)])) rfl (hb hby at_65)
  have go69 := go67.step (C := T69.setTop (mkF m 68 #[.val (.int p0), .unset, .unset, .unset] [(.ref (u 9)), (.int (9 : Int32)), (.ref b2), (.ref b2)])) (fun t k => st69 t k)
  obtain ⟨cl70, Ar70, qa70, Sa70, Na70, Ha70, Ga70⟩ := V64
  have hin70 : ¬ ((9 : Int32) < 0 ∨ cl70.slots.size ≤ ((9 : Int32)).toNatClampNeg) := inb_of Sa70 ⟨by decide, by decide⟩
  obtain ⟨T71, h71, X71, e71, W71, st71⟩ := stR X69 hx hZ e69 Ar70 (j := (9 : Int32)) hin70 rfl (Sto.ofV Ar70 qa70 O2 (Ins.self ((hE 9 (by decide)).ext f65.2))) (g := (mkF m 68 #[.val (.int p0), .unset, .unset, .unset] [(.ref (u 9)), (.int (9 : Int32)), (.ref b2), (.ref b2)])) rfl rfl (hb hby at_68)
  have V71 : Arv Z h71 b2 k2 (.object "com/example/gatewarden/gatewarden/diameter/ResultCode") (33 : Int32) [(.ref (u 0)), (.ref (u 1)), (.ref (u 2)), (.ref (u 3)), (.ref (u 4)), (.ref (u 5)), (.ref (u 6)), (.ref (u 7)), (.ref (u 8)), (.ref (u 9)), .null, .null, .null, .null, .null, .null, .null, .null, .null, .null, .null, .null, .null, .null, .null, .null, .null, .null, .null, .null, .null, .null, .null] .null := Arv.set Ar70 qa70 Sa70 Na70 Ha70 Ga70 rfl W71 9 rfl (Nat.le_of_ble_eq_true rfl)
  have f72 := Old.wr f65 W71 g_b2
  have Z71 : n0 ≤ h71.size := Nat.le_trans Z64 (Nat.le_of_eq W71.size.symm)
  have K71 := K64.wr W71 (Or.inr sz_b2)
  have N71 := Fr.snoc X71 N64 g_b2
  have go71 := go69.step (C := T71.setTop (mkF m 69 #[.val (.int p0), .unset, .unset, .unset] [(.ref b2)])) (fun t k => st71 t k)
  have go74 := go71.step (C := T71.setTop (mkF m 72 #[.val (.int p0), .unset, .unset, .unset] [(.int (10 : Int32)), (.ref b2), (.ref b2)])) (fun t k => by
    show Steps p.tables e below (T71.setTop (mkF m 69 #[.val (.int p0), .unset, .unset, .unset] [(.ref b2)])) _
    refine XS.dup X71.here hx rfl (hb hby at_69) rfl rfl ?_
    show Steps p.tables e below (T71.setTop (mkF m 70 #[.val (.int p0), .unset, .unset, .unset] [(.ref b2), (.ref b2)])) _
    refine XS.bipush X71.here hx rfl (hb hby at_70) ?_
    exact k)
  have f75 := (hS 10 (by decide) : Sta Z Z.heap "com/example/gatewarden/gatewarden/diameter/ResultCode" "DIAMETER_INVALID_HDR_BITS" "Lcom/example/gatewarden/gatewarden/diameter/ResultCode;" (.ref (u 10))).ext f72.2
  obtain ⟨T76, X76, e76, st76⟩ := getS2 X71 hx hZ hown (host := "") (Or.inl (hw _ (List.mem_of_getElem? (i := 24) rfl))) Via.refl e71 f75 (g := (mkF m 72 #[.val (.int p0), .unset, .unset, .unset] [(.int (10 : Int32)), (.ref b2), (.ref b2)])) rfl (hb hby at_72)
  have go76 := go74.step (C := T76.setTop (mkF m 75 #[.val (.int p0), .unset, .unset, .unset] [(.ref (u 10)), (.int (10 : Int32)), (.ref b2), (.ref b2)])) (fun t k => st76 t k)
  obtain ⟨cl77, Ar77, qa77, Sa77, Na77, Ha77, Ga77⟩ := V71
  have hin77 : ¬ ((10 : Int32) < 0 ∨ cl77.slots.size ≤ ((10 : Int32)).toNatClampNeg) := inb_of Sa77 ⟨by decide, by decide⟩
  obtain ⟨T78, h78, X78, e78, W78, st78⟩ := stR X76 hx hZ e76 Ar77 (j := (10 : Int32)) hin77 rfl (Sto.ofV Ar77 qa77 O2 (Ins.self ((hE 10 (by decide)).ext f72.2))) (g := (mkF m 75 #[.val (.int p0), .unset, .unset, .unset] [(.ref (u 10)), (.int (10 : Int32)), (.ref b2), (.ref b2)])) rfl rfl (hb hby at_75)
  have V78 : Arv Z h78 b2 k2 (.object "com/example/gatewarden/gatewarden/diameter/ResultCode") (33 : Int32) [(.ref (u 0)), (.ref (u 1)), (.ref (u 2)), (.ref (u 3)), (.ref (u 4)), (.ref (u 5)), (.ref (u 6)), (.ref (u 7)), (.ref (u 8)), (.ref (u 9)), (.ref (u 10)), .null, .null, .null, .null, .null, .null, .null, .null, .null, .null, .null, .null, .null, .null, .null, .null, .null, .null, .null, .null, .null, .null] .null := Arv.set Ar77 qa77 Sa77 Na77 Ha77 Ga77 rfl W78 10 rfl (Nat.le_of_ble_eq_true rfl)
  have f79 := Old.wr f72 W78 g_b2
  have Z78 : n0 ≤ h78.size := Nat.le_trans Z71 (Nat.le_of_eq W78.size.symm)
  have K78 := K71.wr W78 (Or.inr sz_b2)
  have N78 := Fr.snoc X78 N71 g_b2
  have go78 := go76.step (C := T78.setTop (mkF m 76 #[.val (.int p0), .unset, .unset, .unset] [(.ref b2)])) (fun t k => st78 t k)
  have go81 := go78.step (C := T78.setTop (mkF m 79 #[.val (.int p0), .unset, .unset, .unset] [(.int (11 : Int32)), (.ref b2), (.ref b2)])) (fun t k => by
    show Steps p.tables e below (T78.setTop (mkF m 76 #[.val (.int p0), .unset, .unset, .unset] [(.ref b2)])) _
    refine XS.dup X78.here hx rfl (hb hby at_76) rfl rfl ?_
    show Steps p.tables e below (T78.setTop (mkF m 77 #[.val (.int p0), .unset, .unset, .unset] [(.ref b2), (.ref b2)])) _
    refine XS.bipush X78.here hx rfl (hb hby at_77) ?_
    exact k)
  have f82 := (hS 11 (by decide) : Sta Z Z.heap "com/example/gatewarden/gatewarden/diameter/ResultCode" "DIAMETER_INVALID_AVP_BITS" "Lcom/example/gatewarden/gatewarden/diameter/ResultCode;" (.ref (u 11))).ext f79.2
  obtain ⟨T83, X83, e83, st83⟩ := getS2 X78 hx hZ hown (host := "") (Or.inl (hw _ (List.mem_of_getElem? (i := 26) rfl))) Via.refl e78 f82 (g := (mkF m 79 #[.val (.int p0), .unset, .unset, .unset] [(.int (11 : Int32)), (.ref b2), (.ref b2)])) rfl (hb hby at_79)
  have go83 := go81.step (C := T83.setTop (mkF m 82 #[.val (.int p0), .unset, .unset, .unset] [(.ref (u 11)), (.int (11 : Int32)), (.ref b2), (.ref b2)])) (fun t k => st83 t k)
  obtain ⟨cl84, Ar84, qa84, Sa84, Na84, Ha84, Ga84⟩ := V78
  have hin84 : ¬ ((11 : Int32) < 0 ∨ cl84.slots.size ≤ ((11 : Int32)).toNatClampNeg) := inb_of Sa84 ⟨by decide, by decide⟩
  obtain ⟨T85, h85, X85, e85, W85, st85⟩ := stR X83 hx hZ e83 Ar84 (j := (11 : Int32)) hin84 rfl (Sto.ofV Ar84 qa84 O2 (Ins.self ((hE 11 (by decide)).ext f79.2))) (g := (mkF m 82 #[.val (.int p0), .unset, .unset, .unset] [(.ref (u 11)), (.int (11 : Int32)), (.ref b2), (.ref b2)])) rfl rfl (hb hby at_82)
  have V85 : Arv Z h85 b2 k2 (.object "com/example/gatewarden/gatewarden/diameter/ResultCode") (33 : Int32) [(.ref (u 0)), (.ref (u 1)), (.ref (u 2)), (.ref (u 3)), (.ref (u 4)), (.ref (u 5)), (.ref (u 6)), (.ref (u 7)), (.ref (u 8)), (.ref (u 9)), (.ref (u 10)), (.ref (u 11)), .null, .null, .null, .null, .null, .null, .null, .null, .null, .null, .null, .null, .null, .null, .null, .null, .null, .null, .null, .null, .null] .null := Arv.set Ar84 qa84 Sa84 Na84 Ha84 Ga84 rfl W85 11 rfl (Nat.le_of_ble_eq_true rfl)
  have f86 := Old.wr f79 W85 g_b2
  have Z85 : n0 ≤ h85.size := Nat.le_trans Z78 (Nat.le_of_eq W85.size.symm)
  have K85 := K78.wr W85 (Or.inr sz_b2)
  have N85 := Fr.snoc X85 N78 g_b2
  have go85 := go83.step (C := T85.setTop (mkF m 83 #[.val (.int p0), .unset, .unset, .unset] [(.ref b2)])) (fun t k => st85 t k)
  have go88 := go85.step (C := T85.setTop (mkF m 86 #[.val (.int p0), .unset, .unset, .unset] [(.int (12 : Int32)), (.ref b2), (.ref b2)])) (fun t k => by
    show Steps p.tables e below (T85.setTop (mkF m 83 #[.val (.int p0), .unset, .unset, .unset] [(.ref b2)])) _
    refine XS.dup X85.here hx rfl (hb hby at_83) rfl rfl ?_
    show Steps p.tables e below (T85.setTop (mkF m 84 #[.val (.int p0), .unset, .unset, .unset] [(.ref b2), (.ref b2)])) _
    refine XS.bipush X85.here hx rfl (hb hby at_84) ?_
    exact k)
  have f89 := (hS 12 (by decide) : Sta Z Z.heap "com/example/gatewarden/gatewarden/diameter/ResultCode" "DIAMETER_UNKNOWN_PEER" "Lcom/example/gatewarden/gatewarden/diameter/ResultCode;" (.ref (u 12))).ext f86.2
  obtain ⟨T90, X90, e90, st90⟩ := getS2 X85 hx hZ hown (host := "") (Or.inl (hw _ (List.mem_of_getElem? (i := 28) rfl))) Via.refl e85 f89 (g := (mkF m 86 #[.val (.int p0), .unset, .unset, .unset] [(.int (12 : Int32)), (.ref b2), (.ref b2)])) rfl (hb hby at_86)
  have go90 := go88.step (C := T90.setTop (mkF m 89 #[.val (.int p0), .unset, .unset, .unset] [(.ref (u 12)), (.int (12 : Int32)), (.ref b2), (.ref b2)])) (fun t k => st90 t k)
  obtain ⟨cl91, Ar91, qa91, Sa91, Na91, Ha91, Ga91⟩ := V85
  have hin91 : ¬ ((12 : Int32) < 0 ∨ cl91.slots.size ≤ ((12 : Int32)).toNatClampNeg) := inb_of Sa91 ⟨by decide, by decide⟩
  obtain ⟨T92, h92, X92, e92, W92, st92⟩ := stR X90 hx hZ e90 Ar91 (j := (12 : Int32)) hin91 rfl (Sto.ofV Ar91 qa91 O2 (Ins.self ((hE 12 (by decide)).ext f86.2))) (g := (mkF m 89 #[.val (.int p0), .unset, .unset, .unset] [(.ref (u 12)), (.int (12 : Int32)), (.ref b2), (.ref b2)])) rfl rfl (hb hby at_89)
  have V92 : Arv Z h92 b2 k2 (.object "com/example/gatewarden/gatewarden/diameter/ResultCode") (33 : Int32) [(.ref (u 0)), (.ref (u 1)), (.ref (u 2)), (.ref (u 3)), (.ref (u 4)), (.ref (u 5)), (.ref (u 6)), (.ref (u 7)), (.ref (u 8)), (.ref (u 9)), (.ref (u 10)), (.ref (u 11)), (.ref (u 12)), .null, .null, .null, .null, .null, .null, .null, .null, .null, .null, .null, .null, .null, .null, .null, .null, .null, .null, .null, .null] .null := Arv.set Ar91 qa91 Sa91 Na91 Ha91 Ga91 rfl W92 12 rfl (Nat.le_of_ble_eq_true rfl)
  have f93 := Old.wr f86 W92 g_b2
  have Z92 : n0 ≤ h92.size := Nat.le_trans Z85 (Nat.le_of_eq W92.size.symm)
  have K92 := K85.wr W92 (Or.inr sz_b2)
  have N92 := Fr.snoc X92 N85 g_b2
  have go92 := go90.step (C := T92.setTop (mkF m 90 #[.val (.int p0), .unset, .unset, .unset] [(.ref b2)])) (fun t k => st92 t k)
  have go95 := go92.step (C := T92.setTop (mkF m 93 #[.val (.int p0), .unset, .unset, .unset] [(.int (13 : Int32)), (.ref b2), (.ref b2)])) (fun t k => by
    show Steps p.tables e below (T92.setTop (mkF m 90 #[.val (.int p0), .unset, .unset, .unset] [(.ref b2)])) _
    refine XS.dup X92.here hx rfl (hb hby at_90) rfl rfl ?_
    show Steps p.tables e below (T92.setTop (mkF m 91 #[.val (.int p0), .unset, .unset, .unset] [(.ref b2), (.ref b2)])) _
    refine XS.bipush X92.here hx rfl (hb hby at_91) ?_
    exact k)
  have f96 := (hS 13 (by decide) : Sta Z Z.heap "com/example/gatewarden/gatewarden/diameter/ResultCode" "DIAMETER_AUTHENTICATION_REJECTED" "Lcom/example/gatewarden/gatewarden/diameter/ResultCode;" (.ref (u 13))).ext f93.2
  obtain ⟨T97, X97, e97, st97⟩ := getS2 X92 hx hZ hown (host := "") (Or.inl (hw _ (List.mem_of_getElem? (i := 30) rfl))) Via.refl e92 f96 (g := (mkF m 93 #[.val (.int p0), .unset, .unset, .unset] [(.int (13 : Int32)), (.ref b2), (.ref b2)])) rfl (hb hby at_93)
  have go97 := go95.step (C := T97.setTop (mkF m 96 #[.val (.int p0), .unset, .unset, .unset] [(.ref (u 13)), (.int (13 : Int32)), (.ref b2), (.ref b2)])) (fun t k => st97 t k)
  obtain ⟨cl98, Ar98, qa98, Sa98, Na98, Ha98, Ga98⟩ := V92
  have hin98 : ¬ ((13 : Int32) < 0 ∨ cl98.slots.size ≤ ((13 : Int32)).toNatClampNeg) := inb_of Sa98 ⟨by decide, by decide⟩
  obtain ⟨T99, h99, X99, e99, W99, st99⟩ := stR X97 hx hZ e97 Ar98 (j := (13 : Int32)) hin98 rfl (Sto.ofV Ar98 qa98 O2 (Ins.self ((hE 13 (by decide)).ext f93.2))) (g := (mkF m 96 #[.val (.int p0), .unset, .unset, .unset] [(.ref (u 13)), (.int (13 : Int32)), (.ref b2), (.ref b2)])) rfl rfl (hb hby at_96)
  have V99 : Arv Z h99 b2 k2 (.object "com/example/gatewarden/gatewarden/diameter/ResultCode") (33 : Int32) [(.ref (u 0)), (.ref (u 1)), (.ref (u 2)), (.ref (u 3)), (.ref (u 4)), (.ref (u 5)), (.ref (u 6)), (.ref (u 7)), (.ref (u 8)), (.ref (u 9)), (.ref (u 10)), (.ref (u 11)), (.ref (u 12)), (.ref (u 13)), .null, .null, .null, .null, .null, .null, .null, .null, .null, .null, .null, .null, .null, .null, .null, .null, .null, .null, .null] .null := Arv.set Ar98 qa98 Sa98 Na98 Ha98 Ga98 rfl W99 13 rfl (Nat.le_of_ble_eq_true rfl)
  have f100 := Old.wr f93 W99 g_b2
  have Z99 : n0 ≤ h99.size := Nat.le_trans Z92 (Nat.le_of_eq W99.size.symm)
  have K99 := K92.wr W99 (Or.inr sz_b2)
  have N99 := Fr.snoc X99 N92 g_b2
  have go99 := go97.step (C := T99.setTop (mkF m 97 #[.val (.int p0), .unset, .unset, .unset] [(.ref b2)])) (fun t k => st99 t k)
  have go102 := go99.step (C := T99.setTop (mkF m 100 #[.val (.int p0), .unset, .unset, .unset] [(.int (14 : Int32)), (.ref b2), (.ref b2)])) (fun t k => by
    show Steps p.tables e below (T99.setTop (mkF m 97 #[.val (.int p0), .unset, .unset, .unset] [(.ref b2)])) _
    refine XS.dup X99.here hx rfl (hb hby at_97) rfl rfl ?_
    show Steps p.tables e below (T99.setTop (mkF m 98 #[.val (.int p0), .unset, .unset, .unset] [(.ref b2), (.ref b2)])) _
    refine XS.bipush X99.here hx rfl (hb hby at_98) ?_
    exact k)
  have f103 := (hS 14 (by decide) : Sta Z Z.heap "com/example/gatewarden/gatewarden/diameter/ResultCode" "DIAMETER_OUT_OF_SPACE" "Lcom/example/gatewarden/gatewarden/diameter/ResultCode;" (.ref (u 14))).ext f100.2
  obtain ⟨T104, X104, e104, st104⟩ := getS2 X99 hx hZ hown (host := "") (Or.inl (hw _ (List.mem_of_getElem? (i := 32) rfl))) Via.refl e99 f103 (g := (mkF m 100 #[.val (.int p0), .unset, .unset, .unset] [(.int (14 : Int32)), (.ref b2), (.ref b2)])) rfl (hb hby at_100)
  have go104 := go102.step (C := T104.setTop (mkF m 103 #[.val (.int p0), .unset, .unset, .unset] [(.ref (u 14)), (.int (14 : Int32)), (.ref b2), (.ref b2)])) (fun t k => st104 t k)
  obtain ⟨cl105, Ar105, qa105, Sa105, Na105, Ha105, Ga105⟩ := V99
  have hin105 : ¬ ((14 : Int32) < 0 ∨ cl105.slots.size ≤ ((14 : Int32)).toNatClampNeg) := inb_of Sa105 ⟨by decide, by decide⟩
  obtain ⟨T106, h106, X106, e106, W106, st106⟩ := stR X104 hx hZ e104 Ar105 (j := (14 : Int32)) hin105 rfl (Sto.ofV Ar105 qa105 O2 (Ins.self ((hE 14 (by decide)).ext f100.2))) (g := (mkF m 103 #[.val (.int p0), .unset, .unset, .unset] [(.ref (u 14)), (.int (14 : Int32)), (.ref b2), (.ref b2)])) rfl rfl (hb hby at_103)
  have V106 : Arv Z h106 b2 k2 (.object "com/example/gatewarden/gatewarden/diameter/ResultCode") (33 : Int32) [(.ref (u 0)), (.ref (u 1)), (.ref (u 2)), (.ref (u 3)), (.ref (u 4)), (.ref (u 5)), (.ref (u 6)), (.ref (u 7)), (.ref (u 8)), (.ref (u 9)), (.ref (u 10)), (.ref (u 11)), (.ref (u 12)), (.ref (u 13)), (.ref (u 14)), .null, .null, .null, .null, .null, .null, .null, .null, .null, .null, .null, .null, .null, .null, .null, .null, .null, .null] .null := Arv.set Ar105 qa105 Sa105 Na105 Ha105 Ga105 rfl W106 14 rfl (Nat.le_of_ble_eq_true rfl)
  have f107 := Old.wr f100 W106 g_b2
  have Z106 : n0 ≤ h106.size := Nat.le_trans Z99 (Nat.le_of_eq W106.size.symm)
  have K106 := K99.wr W106 (Or.inr sz_b2)
  have N106 := Fr.snoc X106 N99 g_b2
  have go106 := go104.step (C := T106.setTop (mkF m 104 #[.val (.int p0), .unset, .unset, .unset] [(.ref b2)])) (fun t k => st106 t k)
  have go109 := go106.step (C := T106.setTop (mkF m 107 #[.val (.int p0), .unset, .unset, .unset] [(.int (15 : Int32)), (.ref b2), (.ref b2)])) (fun t k => by
    show Steps p.tables e below (T106.setTop (mkF m 104 #[.val (.int p0), .unset, .unset, .unset] [(.ref b2)])) _
    refine XS.dup X106.here hx rfl (hb hby at_104) rfl rfl ?_
    show Steps p.tables e below (T106.setTop (mkF m 105 #[.val (.int p0), .unset, .unset, .unset] [(.ref b2), (.ref b2)])) _
    refine XS.bipush X106.here hx rfl (hb hby at_105) ?_
    exact k)
  have f110 := (hS 15 (by decide) : Sta Z Z.heap "com/example/gatewarden/gatewarden/diameter/ResultCode" "ELECTION_LOST" "Lcom/example/gatewarden/gatewarden/diameter/ResultCode;" (.ref (u 15))).ext f107.2
  obtain ⟨T111, X111, e111, st111⟩ := getS2 X106 hx hZ hown (host := "") (Or.inl (hw _ (List.mem_of_getElem? (i := 34) rfl))) Via.refl e106 f110 (g := (mkF m 107 #[.val (.int p0), .unset, .unset, .unset] [(.int (15 : Int32)), (.ref b2), (.ref b2)])) rfl (hb hby at_107)
  have go111 := go109.step (C := T111.setTop (mkF m 110 #[.val (.int p0), .unset, .unset, .unset] [(.ref (u 15)), (.int (15 : Int32)), (.ref b2), (.ref b2)])) (fun t k => st111 t k)
  obtain ⟨cl112, Ar112, qa112, Sa112, Na112, Ha112, Ga112⟩ := V106
  have hin112 : ¬ ((15 : Int32) < 0 ∨ cl112.slots.size ≤ ((15 : Int32)).toNatClampNeg) := inb_of Sa112 ⟨by decide, by decide⟩
  obtain ⟨T113, h113, X113, e113, W113, st113⟩ := stR X111 hx hZ e111 Ar112 (j := (15 : Int32)) hin112 rfl (Sto.ofV Ar112 qa112 O2 (Ins.self ((hE 15 (by decide)).ext f107.2))) (g := (mkF m 110 #[.val (.int p0), .unset, .unset, .unset] [(.ref (u 15)), (.int (15 : Int32)), (.ref b2), (.ref b2)])) rfl rfl (hb hby at_110)
  have V113 : Arv Z h113 b2 k2 (.object "com/example/gatewarden/gatewarden/diameter/ResultCode") (33 : Int32) [(.ref (u 0)), (.ref (u 1)), (.ref (u 2)), (.ref (u 3)), (.ref (u 4)), (.ref (u 5)), (.ref (u 6)), (.ref (u 7)), (.ref (u 8)), (.ref (u 9)), (.ref (u 10)), (.ref (u 11)), (.ref (u 12)), (.ref (u 13)), (.ref (u 14)), (.ref (u 15)), .null, .null, .null, .null, .null, .null, .null, .null, .null, .null, .null, .null, .null, .null, .null, .null, .null] .null := Arv.set Ar112 qa112 Sa112 Na112 Ha112 Ga112 rfl W113 15 rfl (Nat.le_of_ble_eq_true rfl)
  have f114 := Old.wr f107 W113 g_b2
  have Z113 : n0 ≤ h113.size := Nat.le_trans Z106 (Nat.le_of_eq W113.size.symm)
  have K113 := K106.wr W113 (Or.inr sz_b2)
  have N113 := Fr.snoc X113 N106 g_b2
  have go113 := go111.step (C := T113.setTop (mkF m 111 #[.val (.int p0), .unset, .unset, .unset] [(.ref b2)])) (fun t k => st113 t k)
  have go116 := go113.step (C := T113.setTop (mkF m 114 #[.val (.int p0), .unset, .unset, .unset] [(.int (16 : Int32)), (.ref b2), (.ref b2)])) (fun t k => by
    show Steps p.tables e below (T113.setTop (mkF m 111 #[.val (.int p0), .unset, .unset, .unset] [(.ref b2)])) _
    refine XS.dup X113.here hx rfl (hb hby at_111) rfl rfl ?_
    show Steps p.tables e below (T113.setTop (mkF m 112 #[.val (.int p0), .unset, .unset, .unset] [(.ref b2), (.ref b2)])) _
    refine XS.bipush X113.here hx rfl (hb hby at_112) ?_
    exact k)
  have f117 := (hS 16 (by decide) : Sta Z Z.heap "com/example/gatewarden/gatewarden/diameter/ResultCode" "DIAMETER_AVP_UNSUPPORTED" "Lcom/example/gatewarden/gatewarden/diameter/ResultCode;" (.ref (u 16))).ext f114.2
  obtain ⟨T118, X118, e118, st118⟩ := getS2 X113 hx hZ hown (host := "") (Or.inl (hw _ (List.mem_of_getElem? (i := 36) rfl))) Via.refl e113 f117 (g := (mkF m 114 #[.val (.int p0), .unset, .unset, .unset] [(.int (16 : Int32)), (.ref b2), (.ref b2)])) rfl (hb hby at_114)
  have go118 := go116.step (C := T118.setTop (mkF m 117 #[.val (.int p0), .unset, .unset, .unset] [(.ref (u 16)), (.int (16 : Int32)), (.ref b2), (.ref b2)])) (fun t k => st118 t k)
  obtain ⟨cl119, Ar119, qa119, Sa119, Na119, Ha119, Ga119⟩ := V113
  have hin119 : ¬ ((16 : Int32) < 0 ∨ cl119.slots.size ≤ ((16 : Int32)).toNatClampNeg) := inb_of Sa119 ⟨by decide, by decide⟩
  obtain ⟨T120, h120, X120, e120, W120, st120⟩ := stR X118 hx hZ e118 Ar119 (j := (16 : Int32)) hin119 rfl (Sto.ofV Ar119 qa119 O2 (Ins.self ((hE 16 (by decide)).ext f114.2))) (g := (mkF m 117 #[.val (.int p0), .unset, .unset, .unset] [(.ref (u 16)), (.int (16 : Int32)), (.ref b2), (.ref b2)])) rfl rfl (hb hby at_117)
  have V120 : Arv Z h120 b2 k2 (.object "com/example/gatewarden/gatewarden/diameter/ResultCode") (33 : Int32) [(.ref (u 0)), (.ref (u 1)), (.ref (u 2)), (.ref (u 3)), (.ref (u 4)), (.ref (u 5)), (.ref (u 6)), (.ref (u 7)), (.ref (u 8)), (.ref (u 9)), (.ref (u 10)), (.ref (u 11)), (.ref (u 12)), (.ref (u 13)), (.ref (u 14)), (.ref (u 15)), (.ref (u 16)), .null, .null, .null, .null, .null, .null, .null, .null, .null, .null, .null, .null, .null, .null, .null, .null] .null := Arv.set Ar119 qa119 Sa119 Na119 Ha119 Ga119 rfl W120 16 rfl (Nat.le_of_ble_eq_true rfl)
  have f121 := Old.wr f114 W120 g_b2
  have Z120 : n0 ≤ h120.size := Nat.le_trans Z113 (Nat.le_of_eq W120.size.symm)
  have K120 := K113.wr W120 (Or.inr sz_b2)
  have N120 := Fr.snoc X120 N113 g_b2
  have go120 := go118.step (C := T120.setTop (mkF m 118 #[.val (.int p0), .unset, .unset, .unset] [(.ref b2)])) (fun t k => st120 t k)
  have go123 := go120.step (C := T120.setTop (mkF m 121 #[.val (.int p0), .unset, .unset, .unset] [(.int (17 : Int32)), (.ref b2), (.ref b2)])) (fun t k => by
    show Steps p.tables e below (T120.setTop (mkF m 118 #[.val (.int p0), .unset, .unset, .unset] [(.ref b2)])) _
    refine XS.dup X120.here hx rfl (hb hby at_118) rfl rfl ?_
    show Steps p.tables e below (T120.setTop (mkF m 119 #[.val (.int p0), .unset, .unset, .unset] [(.ref b2), (.ref b2)])) _
    refine XS.bipush X120.here hx rfl (hb hby at_119) ?_
    exact k)
  have f124 := (hS 17 (by decide) : Sta Z Z.heap "com/example/gatewarden/gatewarden/diameter/ResultCode" "DIAMETER_UNKNOWN_SESSION_ID" "Lcom/example/gatewarden/gatewarden/diameter/ResultCode;" (.ref (u 17))).ext f121.2
  obtain ⟨T125, X125, e125, st125⟩ := getS2 X120 hx hZ hown (host := "") (Or.inl (hw _ (List.mem_of_getElem? (i := 38) rfl))) Via.refl e120 f124 (g := (mkF m 121 #[.val (.int p0), .unset, .unset, .unset] [(.int (17 : Int32)), (.ref b2), (.ref b2)])) rfl (hb hby at_121)
  have go125 := go123.step (C := T125.setTop (mkF m 124 #[.val (.int p0), .unset, .unset, .unset] [(.ref (u 17)), (.int (17 : Int32)), (.ref b2), (.ref b2)])) (fun t k => st125 t k)
  obtain ⟨cl126, Ar126, qa126, Sa126, Na126, Ha126, Ga126⟩ := V120
  have hin126 : ¬ ((17 : Int32) < 0 ∨ cl126.slots.size ≤ ((17 : Int32)).toNatClampNeg) := inb_of Sa126 ⟨by decide, by decide⟩
  obtain ⟨T127, h127, X127, e127, W127, st127⟩ := stR X125 hx hZ e125 Ar126 (j := (17 : Int32)) hin126 rfl (Sto.ofV Ar126 qa126 O2 (Ins.self ((hE 17 (by decide)).ext f121.2))) (g := (mkF m 124 #[.val (.int p0), .unset, .unset, .unset] [(.ref (u 17)), (.int (17 : Int32)), (.ref b2), (.ref b2)])) rfl rfl (hb hby at_124)
  have V127 : Arv Z h127 b2 k2 (.object "com/example/gatewarden/gatewarden/diameter/ResultCode") (33 : Int32) [(.ref (u 0)), (.ref (u 1)), (.ref (u 2)), (.ref (u 3)), (.ref (u 4)), (.ref (u 5)), (.ref (u 6)), (.ref (u 7)), (.ref (u 8)), (.ref (u 9)), (.ref (u 10)), (.ref (u 11)), (.ref (u 12)), (.ref (u 13)), (.ref (u 14)), (.ref (u 15)), (.ref (u 16)), (.ref (u 17)), .null, .null, .null, .null, .null, .null, .null, .null, .null, .null, .null, .null, .null, .null, .null] .null := Arv.set Ar126 qa126 Sa126 Na126 Ha126 Ga126 rfl W127 17 rfl (Nat.le_of_ble_eq_true rfl)
  have f128 := Old.wr f121 W127 g_b2
  have Z127 : n0 ≤ h127.size := Nat.le_trans Z120 (Nat.le_of_eq W127.size.symm)
  have K127 := K120.wr W127 (Or.inr sz_b2)
  have N127 := Fr.snoc X127 N120 g_b2
  have go127 := go125.step (C := T127.setTop (mkF m 125 #[.val (.int p0), .unset, .unset, .unset] [(.ref b2)])) (fun t k => st127 t k)
  have go130 := go127.step (C := T127.setTop (mkF m 128 #[.val (.int p0), .unset, .unset, .unset] [(.int (18 : Int32)), (.ref b2), (.ref b2)])) (fun t k => by
    show Steps p.tables e below (T127.setTop (mkF m 125 #[.val (.int p0), .unset, .unset, .unset] [(.ref b2)])) _
    refine XS.dup X127.here hx rfl (hb hby at_125) rfl rfl ?_
    show Steps p.tables e below (T127.setTop (mkF m 126 #[.val (.int p0), .unset, .unset, .unset] [(.ref b2), (.ref b2)])) _
    refine XS.bipush X127.here hx rfl (hb hby at_126) ?_
    exact k)
  have f131 := (hS 18 (by decide) : Sta Z Z.heap "com/example/gatewarden/gatewarden/diameter/ResultCode" "DIAMETER_AUTHORIZATION_REJECTED" "Lcom/example/gatewarden/gatewarden/diameter/ResultCode;" (.ref (u 18))).ext f128.2
  obtain ⟨T132, X132, e132, st132⟩ := getS2 X127 hx hZ hown (host := "") (Or.inl (hw _ (List.mem_of_getElem? (i := 40) rfl))) Via.refl e127 f131 (g := (mkF m 128 #[.val (.int p0), .unset, .unset, .unset] [(.int (18 : Int32)), (.ref b2), (.ref b2)])) rfl (hb hby at_128)
  have go132 := go130.step (C := T132.setTop (mkF m 131 #[.val (.int p0), .unset, .unset, .unset] [(.ref (u 18)), (.int (18 : Int32)), (.ref b2), (.ref b2)])) (fun t k => st132 t k)
  obtain ⟨cl133, Ar133, qa133, Sa133, Na133, Ha133, Ga133⟩ := V127
  have hin133 : ¬ ((18 : Int32) < 0 ∨ cl133.slots.size ≤ ((18 : Int32)).toNatClampNeg) := inb_of Sa133 ⟨by decide, by decide⟩
  obtain ⟨T134, h134, X134, e134, W134, st134⟩ := stR X132 hx hZ e132 Ar133 (j := (18 : Int32)) hin133 rfl (Sto.ofV Ar133 qa133 O2 (Ins.self ((hE 18 (by decide)).ext f128.2))) (g := (mkF m 131 #[.val (.int p0), .unset, .unset, .unset] [(.ref (u 18)), (.int (18 : Int32)), (.ref b2), (.ref b2)])) rfl rfl (hb hby at_131)
  have V134 : Arv Z h134 b2 k2 (.object "com/example/gatewarden/gatewarden/diameter/ResultCode") (33 : Int32) [(.ref (u 0)), (.ref (u 1)), (.ref (u 2)), (.ref (u 3)), (.ref (u 4)), (.ref (u 5)), (.ref (u 6)), (.ref (u 7)), (.ref (u 8)), (.ref (u 9)), (.ref (u 10)), (.ref (u 11)), (.ref (u 12)), (.ref (u 13)), (.ref (u 14)), (.ref (u 15)), (.ref (u 16)), (.ref (u 17)), (.ref (u 18)), .null, .null, .null, .null, .null, .null, .null, .null, .null, .null, .null, .null, .null, .null] .null := Arv.set Ar133 qa133 Sa133 Na133 Ha133 Ga133 rfl W134 18 rfl (Nat.le_of_ble_eq_true rfl)
  have f135 := Old.wr f128 W134 g_b2
  have Z134 : n0 ≤ h134.size := Nat.le_trans Z127 (Nat.le_of_eq W134.size.symm)
  have K134 := K127.wr W134 (Or.inr sz_b2)
  have N134 := Fr.snoc X134 N127 g_b2
  have go134 := go132.step (C := T134.setTop (mkF m 132 #[.val (.int p0), .unset, .unset, .unset] [(.ref b2)])) (fun t k => st134 t k)
  have go137 := go134.step (C := T134.setTop (mkF m 135 #[.val (.int p0), .unset, .unset, .unset] [(.int (19 : Int32)), (.ref b2), (.ref b2)])) (fun t k => by
    show Steps p.tables e below (T134.setTop (mkF m 132 #[.val (.int p0), .unset, .unset, .unset] [(.ref b2)])) _
    refine XS.dup X134.here hx rfl (hb hby at_132) rfl rfl ?_
    show Steps p.tables e below (T134.setTop (mkF m 133 #[.val (.int p0), .unset, .unset, .unset] [(.ref b2), (.ref b2)])) _
    refine XS.bipush X134.here hx rfl (hb hby at_133) ?_
    exact k)
  have f138 := (hS 19 (by decide) : Sta Z Z.heap "com/example/gatewarden/gatewarden/diameter/ResultCode" "DIAMETER_INVALID_AVP_VALUE" "Lcom/example/gatewarden/gatewarden/diameter/ResultCode;" (.ref (u 19))).ext f135.2
  obtain ⟨T139, X139, e139, st139⟩ := getS2 X134 hx hZ hown (host := "") (Or.inl (hw _ (List.mem_of_getElem? (i := 42) rfl))) Via.refl e134 f138 (g := (mkF m 135 #[.val (.int p0), .unset, .unset, .unset] [(.int (19 : Int32)), (.ref b2), (.ref b2)])) rfl (hb hby at_135)
  have go139 := go137.step (C := T139.setTop (mkF m 138 #[.val (.int p0), .unset, .unset, .unset] [(.ref (u 19)), (.int (19 : Int32)), (.ref b2), (.ref b2)])) (fun t k => st139 t k)
  obtain ⟨cl140, Ar140, qa140, Sa140, Na140, Ha140, Ga140⟩ := V134
  have hin140 : ¬ ((19 : Int32) < 0 ∨ cl140.slots.size ≤ ((19 : Int32)).toNatClampNeg) := inb_of Sa140 ⟨by decide, by decide⟩
  obtain ⟨T141, h141, X141, e141, W141, st141⟩ := stR X139 hx hZ e139 Ar140 (j := (19 : Int32)) hin140 rfl (Sto.ofV Ar140 qa140 O2 (Ins.self ((hE 19 (by decide)).ext f135.2))) (g := (mkF m 138 #[.val (.int p0), .unset, .unset, .unset] [(.ref (u 19)), (.int (19 : Int32)), (.ref b2), (.ref b2)])) rfl rfl (hb hby at_138)
  have V141 : Arv Z h141 b2 k2 (.object "com/example/gatewarden/gatewarden/diameter/ResultCode") (33 : Int32) [(.ref (u 0)), (.ref (u 1)), (.ref (u 2)), (.ref (u 3)), (.ref (u 4)), (.ref (u 5)), (.ref (u 6)), (.ref (u 7)), (.ref (u 8)), (.ref (u 9)), (.ref (u 10)), (.ref (u 11)), (.ref (u 12)), (.ref (u 13)), (.ref (u 14)), (.ref (u 15)), (.ref (u 16)), (.ref (u 17)), (.ref (u 18)), (.ref (u 19)), .null, .null, .null, .null, .null, .null, .null, .null, .null, .null, .null, .null, .null] .null := Arv.set Ar140 qa140 Sa140 Na140 Ha140 Ga140 rfl W141 19 rfl (Nat.le_of_ble_eq_true rfl)
  have f142 := Old.wr f135 W141 g_b2
  have Z141 : n0 ≤ h141.size := Nat.le_trans Z134 (Nat.le_of_eq W141.size.symm)
  have K141 := K134.wr W141 (Or.inr sz_b2)
  have N141 := Fr.snoc X141 N134 g_b2
  have go141 := go139.step (C := T141.setTop (mkF m 139 #[.val (.int p0), .unset, .unset, .unset] [(.ref b2)])) (fun t k => st141 t k)
  have go144 := go141.step (C := T141.setTop (mkF m 142 #[.val (.int p0), .unset, .unset, .unset] [(.int (20 : Int32)), (.ref b2), (.ref b2)])) (fun t k => by
    show Steps p.tables e below (T141.setTop (mkF m 139 #[.val (.int p0), .unset, .unset, .unset] [(.ref b2)])) _
    refine XS.dup X141.here hx rfl (hb hby at_139) rfl rfl ?_
    show Steps p.tables e below (T141.setTop (mkF m 140 #[.val (.int p0), .unset, .unset, .unset] [(.ref b2), (.ref b2)])) _
    refine XS.bipush X141.here hx rfl (hb hby at_140) ?_
    exact k)
  have f145 := (hS 20 (by decide) : Sta Z Z.heap "com/example/gatewarden/gatewarden/diameter/ResultCode" "DIAMETER_MISSING_AVP" "Lcom/example/gatewarden/gatewarden/diameter/ResultCode;" (.ref (u 20))).ext f142.2
  obtain ⟨T146, X146, e146, st146⟩ := getS2 X141 hx hZ hown (host := "") (Or.inl (hw _ (List.mem_of_getElem? (i := 44) rfl))) Via.refl e141 f145 (g := (mkF m 142 #[.val (.int p0), .unset, .unset, .unset] [(.int (20 : Int32)), (.ref b2), (.ref b2)])) rfl (hb hby at_142)
  have go146 := go144.step (C := T146.setTop (mkF m 145 #[.val (.int p0), .unset, .unset, .unset] [(.ref (u 20)), (.int (20 : Int32)), (.ref b2), (.ref b2)])) (fun t k => st146 t k)
  obtain ⟨cl147, Ar147, qa147, Sa147, Na147, Ha147, Ga147⟩ := V141
  have hin147 : ¬ ((20 : Int32) < 0 ∨ cl147.slots.size ≤ ((20 : Int32)).toNatClampNeg) := inb_of Sa147 ⟨by decide, by decide⟩
  obtain ⟨T148, h148, X148, e148, W148, st148⟩ := stR X146 hx hZ e146 Ar147 (j := (20 : Int32)) hin147 rfl (Sto.ofV Ar147 qa147 O2 (Ins.self ((hE 20 (by decide)).ext f142.2))) (g := (mkF m 145 #[.val (.int p0), .unset, .unset, .unset] [(.ref (u 20)), (.int (20 : Int32)), (.ref b2), (.ref b2)])) rfl rfl (hb hby at_145)
  have V148 : Arv Z h148 b2 k2 (.object "com/example/gatewarden/gatewarden/diameter/ResultCode") (33 : Int32) [(.ref (u 0)), (.ref (u 1)), (.ref (u 2)), (.ref (u 3)), (.ref (u 4)), (.ref (u 5)), (.ref (u 6)), (.ref (u 7)), (.ref (u 8)), (.ref (u 9)), (.ref (u 10)), (.ref (u 11)), (.ref (u 12)), (.ref (u 13)), (.ref (u 14)), (.ref (u 15)), (.ref (u 16)), (.ref (u 17)), (.ref (u 18)), (.ref (u 19)), (.ref (u 20)), .null, .null, .null, .null, .null, .null, .null, .null, .null, .null, .null, .null] .null := Arv.set Ar147 qa147 Sa147 Na147 Ha147 Ga147 rfl W148 20 rfl (Nat.le_of_ble_eq_true rfl)
  have f149 := Old.wr f142 W148 g_b2
  have Z148 : n0 ≤ h148.size := Nat.le_trans Z141 (Nat.le_of_eq W148.size.symm)
  have K148 := K141.wr W148 (Or.inr sz_b2)
  have N148 := Fr.snoc X148 N141 g_b2
  have go148 := go146.step (C := T148.setTop (mkF m 146 #[.val (.int p0), .unset, .unset, .unset] [(.ref b2)])) (fun t k => st148 t k)
  have go151 := go148.step (C := T148.setTop (mkF m 149 #[.val (.int p0), .unset, .unset, .unset] [(.int (21 : Int32)), (.ref b2), (.ref b2)])) (fun t k => by
    show Steps p.tables e below (T148.setTop (mkF m 146 #[.val (.int p0), .unset, .unset, .unset] [(.ref b2)])) _
    refine XS.dup X148.here hx rfl (hb hby at_146) rfl rfl ?_
    show Steps p.tables e below (T148.setTop (mkF m 147 #[.val (.int p0), .unset, .unset, .unset] [(.ref b2), (.ref b2)])) _
    refine XS.bipush X148.here hx rfl (hb hby at_147) ?_
    exact k)
  have f152 := (hS 21 (by decide) : Sta Z Z.heap "com/example/gatewarden/gatewarden/diameter/ResultCode" "DIAMETER_RESOURCES_EXCEEDED" "Lcom/example/gatewarden/gatewarden/diameter/ResultCode;" (.ref (u 21))).ext f149.2
  obtain ⟨T153, X153, e153, st153⟩ := getS2 X148 hx hZ hown (host := "") (Or.inl (hw _ (List.mem_of_getElem? (i := 46) rfl))) Via.refl e148 f152 (g := (mkF m 149 #[.val (.int p0), .unset, .unset, .unset] [(.int (21 : Int32)), (.ref b2), (.ref b2)])) rfl (hb hby at_149)
  have go153 := go151.step (C := T153.setTop (mkF m 152 #[.val (.int p0), .unset, .unset, .unset] [(.ref (u 21)), (.int (21 : Int32)), (.ref b2), (.ref b2)])) (fun t k => st153 t k)
  obtain ⟨cl154, Ar154, qa154, Sa154, Na154, Ha154, Ga154⟩ := V148
  have hin154 : ¬ ((21 : Int32) < 0 ∨ cl154.slots.size ≤ ((21 : Int32)).toNatClampNeg) := inb_of Sa154 ⟨by decide, by decide⟩
  obtain ⟨T155, h155, X155, e155, W155, st155⟩ := stR X153 hx hZ e153 Ar154 (j := (21 : Int32)) hin154 rfl (Sto.ofV Ar154 qa154 O2 (Ins.self ((hE 21 (by decide)).ext f149.2))) (g := (mkF m 152 #[.val (.int p0), .unset, .unset, .unset] [(.ref (u 21)), (.int (21 : Int32)), (.ref b2), (.ref b2)])) rfl rfl (hb hby at_152)
  have V155 : Arv Z h155 b2 k2 (.object "com/example/gatewarden/gatewarden/diameter/ResultCode") (33 : Int32) [(.ref (u 0)), (.ref (u 1)), (.ref (u 2)), (.ref (u 3)), (.ref (u 4)), (.ref (u 5)), (.ref (u 6)), (.ref (u 7)), (.ref (u 8)), (.ref (u 9)), (.ref (u 10)), (.ref (u 11)), (.ref (u 12)), (.ref (u 13)), (.ref (u 14)), (.ref (u 15)), (.ref (u 16)), (.ref (u 17)), (.ref (u 18)), (.ref (u 19)), (.ref (u 20)), (.ref (u 21)), .null, .null, .null, .null, .null, .null, .null, .null, .null, .null, .null] .null := Arv.set Ar154 qa154 Sa154 Na154 Ha154 Ga154 rfl W155 21 rfl (Nat.le_of_ble_eq_true rfl)
  have f156 := Old.wr f149 W155 g_b2
  have Z155 : n0 ≤ h155.size := Nat.le_trans Z148 (Nat.le_of_eq W155.size.symm)
  have K155 := K148.wr W155 (Or.inr sz_b2)
  have N155 := Fr.snoc X155 N148 g_b2
  have go155 := go153.step (C := T155.setTop (mkF m 153 #[.val (.int p0), .unset, .unset, .unset] [(.ref b2)])) (fun t k => st155 t k)
  have go158 := go155.step (C := T155.setTop (mkF m 156 #[.val (.int p0), .unset, .unset, .unset] [(.int (22 : Int32)), (.ref b2), (.ref b2)])) (fun t k => by
    show Steps p.tables e below (T155.setTop (mkF m 153 #[.val (.int p0), .unset, .unset, .unset] [(.ref b2)])) _
    refine XS.dup X155.here hx rfl (hb hby at_153) rfl rfl ?_
    show Steps p.tables e below (T155.setTop (mkF m 154 #[.val (.int p0), .unset, .unset, .unset] [(.ref b2), (.ref b2)])) _
    refine XS.bipush X155.here hx rfl (hb hby at_154) ?_
    exact k)
  have f159 := (hS 22 (by decide) : Sta Z Z.heap "com/example/gatewarden/gatewarden/diameter/ResultCode" "DIAMETER_CONTRADICTING_AVPS" "Lcom/example/gatewarden/gatewarden/diameter/ResultCode;" (.ref (u 22))).ext f156.2
  obtain ⟨T160, X160, e160, st160⟩ := getS2 X155 hx hZ hown (host := "") (Or.inl (hw _ (List.mem_of_getElem? (i := 48) rfl))) Via.refl e155 f159 (g := (mkF m 156 #[.val (.int p0), .unset, .unset, .unset] [(.int (22 : Int32)), (.ref b2), (.ref b2)])) rfl (hb hby at_156)
  have go160 := go158.step (C := T160.setTop (mkF m 159 #[.val (.int p0), .unset, .unset, .unset] [(.ref (u 22)), (.int (22 : Int32)), (.ref b2), (.ref b2)])) (fun t k => st160 t k)
  obtain ⟨cl161, Ar161, qa161, Sa161, Na161, Ha161, Ga161⟩ := V155
  have hin161 : ¬ ((22 : Int32) < 0 ∨ cl161.slots.size ≤ ((22 : Int32)).toNatClampNeg) := inb_of Sa161 ⟨by decide, by decide⟩
  obtain ⟨T162, h162, X162, e162, W162, st162⟩ := stR X160 hx hZ e160 Ar161 (j := (22 : Int32)) hin161 rfl (Sto.ofV Ar161 qa161 O2 (Ins.self ((hE 22 (by decide)).ext f156.2))) (g := (mkF m 159 #[.val (.int p0), .unset, .unset, .unset] [(.ref (u 22)), (.int (22 : Int32)), (.ref b2), (.ref b2)])) rfl rfl (hb hby at_159)
  have V162 : Arv Z h162 b2 k2 (.object "com/example/gatewarden/gatewarden/diameter/ResultCode") (33 : Int32) [(.ref (u 0)), (.ref (u 1)), (.ref (u 2)), (.ref (u 3)), (.ref (u 4)), (.ref (u 5)), (.ref (u 6)), (.ref (u 7)), (.ref (u 8)), (.ref (u 9)), (.ref (u 10)), (.ref (u 11)), (.ref (u 12)), (.ref (u 13)), (.ref (u 14)), (.ref (u 15)), (.ref (u 16)), (.ref (u 17)), (.ref (u 18)), (.ref (u 19)), (.ref (u 20)), (.ref (u 21)), (.ref (u 22)), .null, .null, .null, .null, .null, .null, .null, .null, .null, .null] .null := Arv.set Ar161 qa161 Sa161 Na161 Ha161 Ga161 rfl W162 22 rfl (Nat.le_of_ble_eq_true rfl)
  have f163 := Old.wr f156 W162 g_b2
  have Z162 : n0 ≤ h162.size := Nat.le_trans Z155 (Nat.le_of_eq W162.size.symm)
  have K162 := K155.wr W162 (Or.inr sz_b2)
  have N162 := Fr.snoc X162 N155 g_b2
  have go162 := go160.step (C := T162.setTop (mkF m 160 #[.val (.int p0), .unset, .unset, .unset] [(.ref b2)])) (fun t k => st162 t k)
  have go165 := go162.step (C := T162.setTop (mkF m 163 #[.val (.int p0), .unset, .unset, .unset] [(.int (23 : Int32)), (.ref b2), (.ref b2)])) (fun t k => by
    show Steps p.tables e below (T162.setTop (mkF m 160 #[.val (.int p0), .unset, .unset, .unset] [(.ref b2)])) _
    refine XS.dup X162.here hx rfl (hb hby at_160) rfl rfl ?_
    show Steps p.tables e below (T162.setTop (mkF m 161 #[.val (.int p0), .unset, .unset, .unset] [(.ref b2), (.ref b2)])) _
    refine XS.bipush X162.here hx rfl (hb hby at_161) ?_
    exact k)
  have f166 := (hS 23 (by decide) : Sta Z Z.heap "com/example/gatewarden/gatewarden/diameter/ResultCode" "DIAMETER_AVP_NOT_ALLOWED" "Lcom/example/gatewarden/gatewarden/diameter/ResultCode;" (.ref (u 23))).ext f163.2
  obtain ⟨T167, X167, e167, st167⟩ := getS2 X162 hx hZ hown (host := "") (Or.inl (hw _ (List.mem_of_getElem? (i := 50) rfl))) Via.refl e162 f166 (g := (mkF m 163 #[.val (.int p0), .unset, .unset, .unset] [(.int (23 : Int32)), (.ref b2), (.ref b2)])) rfl (hb hby at_163)
  have go167 := go165.step (C := T167.setTop (mkF m 166 #[.val (.int p0), .unset, .unset, .unset] [(.ref (u 23)), (.int (23 : Int32)), (.ref b2), (.ref b2)])) (fun t k => st167 t k)
  obtain ⟨cl168, Ar168, qa168, Sa168, Na168, Ha168, Ga168⟩ := V162
  have hin168 : ¬ ((23 : Int32) < 0 ∨ cl168.slots.size ≤ ((23 : Int32)).toNatClampNeg) := inb_of Sa168 ⟨by decide, by decide⟩
  obtain ⟨T169, h169, X169, e169, W169, st169⟩ := stR X167 hx hZ e167 Ar168 (j := (23 : Int32)) hin168 rfl (Sto.ofV Ar168 qa168 O2 (Ins.self ((hE 23 (by decide)).ext f163.2))) (g := (mkF m 166 #[.val (.int p0), .unset, .unset, .unset] [(.ref (u 23)), (.int (23 : Int32)), (.ref b2), (.ref b2)])) rfl rfl (hb hby at_166)
  have V169 : Arv Z h169 b2 k2 (.object "com/example/gatewarden/gatewarden/diameter/ResultCode") (33 : Int32) [(.ref (u 0)), (.ref (u 1)), (.ref (u 2)), (.ref (u 3)), (.ref (u 4)), (.ref (u 5)), (.ref (u 6)), (.ref (u 7)), (.ref (u 8)), (.ref (u 9)), (.ref (u 10)), (.ref (u 11)), (.ref (u 12)), (.ref (u 13)), (.ref (u 14)), (.ref (u 15)), (.ref (u 16)), (.ref (u 17)), (.ref (u 18)), (.ref (u 19)), (.ref (u 20)), (.ref (u 21)), (.ref (u 22)), (.ref (u 23)), .null, .null, .null, .null, .null, .null, .null, .null, .null] .null := Arv.set Ar168 qa168 Sa168 Na168 Ha168 Ga168 rfl W169 23 rfl (Nat.le_of_ble_eq_true rfl)
  have f170 := Old.wr f163 W169 g_b2
  have Z169 : n0 ≤ h169.size := Nat.le_trans Z162 (Nat.le_of_eq W169.size.symm)
  have K169 := K162.wr W169 (Or.inr sz_b2)
  have N169 := Fr.snoc X169 N162 g_b2
  have go169 := go167.step (C := T169.setTop (mkF m 167 #[.val (.int p0), .unset, .unset, .unset] [(.ref b2)])) (fun t k => st169 t k)
  have go172 := go169.step (C := T169.setTop (mkF m 170 #[.val (.int p0), .unset, .unset, .unset] [(.int (24 : Int32)), (.ref b2), (.ref b2)])) (fun t k => by
    show Steps p.tables e below (T169.setTop (mkF m 167 #[.val (.int p0), .unset, .unset, .unset] [(.ref b2)])) _
    refine XS.dup X169.here hx rfl (hb hby at_167) rfl rfl ?_
    show Steps p.tables e below (T169.setTop (mkF m 168 #[.val (.int p0), .unset, .unset, .unset] [(.ref b2), (.ref b2)])) _
    refine XS.bipush X169.here hx rfl (hb hby at_168) ?_
    exact k)
  have f173 := (hS 24 (by decide) : Sta Z Z.heap "com/example/gatewarden/gatewarden/diameter/ResultCode" "DIAMETER_AVP_OCCURS_TOO_MANY_TIMES" "Lcom/example/gatewarden/gatewarden/diameter/ResultCode;" (.ref (u 24))).ext f170.2
  obtain ⟨T174, X174, e174, st174⟩ := getS2 X169 hx hZ hown (host := "") (Or.inl (hw _ (List.mem_of_getElem? (i := 52) rfl))) Via.refl e169 f173 (g := (mkF m 170 #[.val (.int p0), .unset, .unset, .unset] [(.int (24 : Int32)), (.ref b2), (.ref b2)])) rfl (hb hby at_170)
  have go174 := go172.step (C := T174.setTop (mkF m 173 #[.val (.int p0), .unset, .unset, .unset] [(.ref (u 24)), (.int (24 : Int32)), (.ref b2), (.ref b2)])) (fun t k => st174 t k)
  obtain ⟨cl175, Ar175, qa175, Sa175, Na175, Ha175, Ga175⟩ := V169
  have hin175 : ¬ ((24 : Int32) < 0 ∨ cl175.slots.size ≤ ((24 : Int32)).toNatClampNeg) := inb_of Sa175 ⟨by decide, by decide⟩
  obtain ⟨T176, h176, X176, e176, W176, st176⟩ := stR X174 hx hZ e174 Ar175 (j := (24 : Int32)) hin175 rfl (Sto.ofV Ar175 qa175 O2 (Ins.self ((hE 24 (by decide)).ext f170.2))) (g := (mkF m 173 #[.val (.int p0), .unset, .unset, .unset] [(.ref (u 24)), (.int (24 : Int32)), (.ref b2), (.ref b2)])) rfl rfl (hb hby at_173)
  have V176 : Arv Z h176 b2 k2 (.object "com/example/gatewarden/gatewarden/diameter/ResultCode") (33 : Int32) [(.ref (u 0)), (.ref (u 1)), (.ref (u 2)), (.ref (u 3)), (.ref (u 4)), (.ref (u 5)), (.ref (u 6)), (.ref (u 7)), (.ref (u 8)), (.ref (u 9)), (.ref (u 10)), (.ref (u 11)), (.ref (u 12)), (.ref (u 13)), (.ref (u 14)), (.ref (u 15)), (.ref (u 16)), (.ref (u 17)), (.ref (u 18)), (.ref (u 19)), (.ref (u 20)), (.ref (u 21)), (.ref (u 22)), (.ref (u 23)), (.ref (u 24)), .null, .null, .null, .null, .null, .null, .null, .null] .null := Arv.set Ar175 qa175 Sa175 Na175 Ha175 Ga175 rfl W176 24 rfl (Nat.le_of_ble_eq_true rfl)
  have f177 := Old.wr f170 W176 g_b2
  have Z176 : n0 ≤ h176.size := Nat.le_trans Z169 (Nat.le_of_eq W176.size.symm)
  have K176 := K169.wr W176 (Or.inr sz_b2)
  have N176 := Fr.snoc X176 N169 g_b2
  have go176 := go174.step (C := T176.setTop (mkF m 174 #[.val (.int p0), .unset, .unset, .unset] [(.ref b2)])) (fun t k => st176 t k)
  have go179 := go176.step (C := T176.setTop (mkF m 177 #[.val (.int p0), .unset, .unset, .unset] [(.int (25 : Int32)), (.ref b2), (.ref b2)])) (fun t k => by
    show Steps p.tables e below (T176.setTop (mkF m 174 #[.val (.int p0), .unset, .unset, .unset] [(.ref b2)])) _
    refine XS.dup X176.here hx rfl (hb hby at_174) rfl rfl ?_
    show Steps p.tables e below (T176.setTop (mkF m 175 #[.val (.int p0), .unset, .unset, .unset] [(.ref b2), (.ref b2)])) _
    refine XS.bipush X176.here hx rfl (hb hby at_175) ?_
    exact k)
  have f180 := (hS 25 (by decide) : Sta Z Z.heap "com/example/gatewarden/gatewarden/diameter/ResultCode" "DIAMETER_NO_COMMON_APPLICATION" "Lcom/example/gatewarden/gatewarden/diameter/ResultCode;" (.ref (u 25))).ext f177.2
  obtain ⟨T181, X181, e181, st181⟩ := getS2 X176 hx hZ hown (host := "") (Or.inl (hw _ (List.mem_of_getElem? (i := 54) rfl))) Via.refl e176 f180 (g := (mkF m 177 #[.val (.int p0), .unset, .unset, .unset] [(.int (25 : Int32)), (.ref b2), (.ref b2)])) rfl (hb hby at_177)
  have go181 := go179.step (C := T181.setTop (mkF m 180 #[.val (.int p0), .unset, .unset, .unset] [(.ref (u 25)), (.int (25 : Int32)), (.ref b2), (.ref b2)])) (fun t k => st181 t k)
  obtain ⟨cl182, Ar182, qa182, Sa182, Na182, Ha182, Ga182⟩ := V176
  have hin182 : ¬ ((25 : Int32) < 0 ∨ cl182.slots.size ≤ ((25 : Int32)).toNatClampNeg) := inb_of Sa182 ⟨by decide, by decide⟩
  obtain ⟨T183, h183, X183, e183, W183, st183⟩ := stR X181 hx hZ e181 Ar182 (j := (25 : Int32)) hin182 rfl (Sto.ofV Ar182 qa182 O2 (Ins.self ((hE 25 (by decide)).ext f177.2))) (g := (mkF m 180 #[.val (.int p0), .unset, .unset, .unset] [(.ref (u 25)), (.int (25 : Int32)), (.ref b2), (.ref b2)])) rfl rfl (hb hby at_180)
  have V183 : Arv Z h183 b2 k2 (.object "com/example/gatewarden/gatewarden/diameter/ResultCode") (33 : Int32) [(.ref (u 0)), (.ref (u 1)), (.ref (u 2)), (.ref (u 3)), (.ref (u 4)), (.ref (u 5)), (.ref (u 6)), (.ref (u 7)), (.ref (u 8)), (.ref (u 9)), (.ref (u 10)), (.ref (u 11)), (.ref (u 12)), (.ref (u 13)), (.ref (u 14)), (.ref (u 15)), (.ref (u 16)), (.ref (u 17)), (.ref (u 18)), (.ref (u 19)), (.ref (u 20)), (.ref (u 21)), (.ref (u 22)), (.ref (u 23)), (.ref (u 24)), (.ref (u 25)), .null, .null, .null, .null, .null, .null, .null] .null := Arv.set Ar182 qa182 Sa182 Na182 Ha182 Ga182 rfl W183 25 rfl (Nat.le_of_ble_eq_true rfl)
  have f184 := Old.wr f177 W183 g_b2
  have Z183 : n0 ≤ h183.size := Nat.le_trans Z176 (Nat.le_of_eq W183.size.symm)
  have K183 := K176.wr W183 (Or.inr sz_b2)
  have N183 := Fr.snoc X183 N176 g_b2
  have go183 := go181.step (C := T183.setTop (mkF m 181 #[.val (.int p0), .unset, .unset, .unset] [(.ref b2)])) (fun t k => st183 t k)
  have go186 := go183.step (C := T183.setTop (mkF m 184 #[.val (.int p0), .unset, .unset, .unset] [(.int (26 : Int32)), (.ref b2), (.ref b2)])) (fun t k => by
    show Steps p.tables e below (T183.setTop (mkF m 181 #[.val (.int p0), .unset, .unset, .unset] [(.ref b2)])) _
    refine XS.dup X183.here hx rfl (hb hby at_181) rfl rfl ?_
    show Steps p.tables e below (T183.setTop (mkF m 182 #[.val (.int p0), .unset, .unset, .unset] [(.ref b2), (.ref b2)])) _
    refine XS.bipush X183.here hx rfl (hb hby at_182) ?_
    exact k)
  have f187 := (hS 26 (by decide) : Sta Z Z.heap "com/example/gatewarden/gatewarden/diameter/ResultCode" "DIAMETER_UNSUPPORTED_VERSION" "Lcom/example/gatewarden/gatewarden/diameter/ResultCode;" (.ref (u 26))).ext f184.2
  obtain ⟨T188, X188, e188, st188⟩ := getS2 X183 hx hZ hown (host := "") (Or.inl (hw _ (List.mem_of_getElem? (i := 56) rfl))) Via.refl e183 f187 (g := (mkF m 184 #[.val (.int p0), .unset, .unset, .unset] [(.int (26 : Int32)), (.ref b2), (.ref b2)])) rfl (hb hby at_184)
  have go188 := go186.step (C := T188.setTop (mkF m 187 #[.val (.int p0), .unset, .unset, .unset] [(.ref (u 26)), (.int (26 : Int32)), (.ref b2), (.ref b2)])) (fun t k => st188 t k)
  obtain ⟨cl189, Ar189, qa189, Sa189, Na189, Ha189, Ga189⟩ := V183
  have hin189 : ¬ ((26 : Int32) < 0 ∨ cl189.slots.size ≤ ((26 : Int32)).toNatClampNeg) := inb_of Sa189 ⟨by decide, by decide⟩
  obtain ⟨T190, h190, X190, e190, W190, st190⟩ := stR X188 hx hZ e188 Ar189 (j := (26 : Int32)) hin189 rfl (Sto.ofV Ar189 qa189 O2 (Ins.self ((hE 26 (by decide)).ext f184.2))) (g := (mkF m 187 #[.val (.int p0), .unset, .unset, .unset] [(.ref (u 26)), (.int (26 : Int32)), (.ref b2), (.ref b2)])) rfl rfl (hb hby at_187)
  have V190 : Arv Z h190 b2 k2 (.object "com/example/gatewarden/gatewarden/diameter/ResultCode") (33 : Int32) [(.ref (u 0)), (.ref (u 1)), (.ref (u 2)), (.ref (u 3)), (.ref (u 4)), (.ref (u 5)), (.ref (u 6)), (.ref (u 7)), (.ref (u 8)), (.ref (u 9)), (.ref (u 10)), (.ref (u 11)), (.ref (u 12)), (.ref (u 13)), (.ref (u 14)), (.ref (u 15)), (.ref (u 16)), (.ref (u 17)), (.ref (u 18)), (.ref (u 19)), (.ref (u 20)), (.ref (u 21)), (.ref (u 22)), (.ref (u 23)), (.ref (u 24)), (.ref (u 25)), (.ref (u 26)), .null, .null, .null, .null, .null, .null] .null := Arv.set Ar189 qa189 Sa189 Na189 Ha189 Ga189 rfl W190 26 rfl (Nat.le_of_ble_eq_true rfl)
  have f191 := Old.wr f184 W190 g_b2
  have Z190 : n0 ≤ h190.size := Nat.le_trans Z183 (Nat.le_of_eq W190.size.symm)
  have K190 := K183.wr W190 (Or.inr sz_b2)
  have N190 := Fr.snoc X190 N183 g_b2
  have go190 := go188.step (C := T190.setTop (mkF m 188 #[.val (.int p0), .unset, .unset, .unset] [(.ref b2)])) (fun t k => st190 t k)
  have go193 := go190.step (C := T190.setTop (mkF m 191 #[.val (.int p0), .unset, .unset, .unset] [(.int (27 : Int32)), (.ref b2), (.ref b2)])) (fun t k => by
    show Steps p.tables e below (T190.setTop (mkF m 188 #[.val (.int p0), .unset, .unset, .unset] [(.ref b2)])) _
    refine XS.dup X190.here hx rfl (hb hby at_188) rfl rfl ?_
    show Steps p.tables e below (T190.setTop (mkF m 189 #[.val (.int p0), .unset, .unset, .unset] [(.ref b2), (.ref b2)])) _
    refine XS.bipush X190.here hx rfl (hb hby at_189) ?_
    exact k)
  have f194 := (hS 27 (by decide) : Sta Z Z.heap "com/example/gatewarden/gatewarden/diameter/ResultCode" "DIAMETER_UNABLE_TO_COMPLY" "Lcom/example/gatewarden/gatewarden/diameter/ResultCode;" (.ref (u 27))).ext f191.2
  obtain ⟨T195, X195, e195, st195⟩ := getS2 X190 hx hZ hown (host := "") (Or.inl (hw _ (List.mem_of_getElem? (i := 58) rfl))) Via.refl e190 f194 (g := (mkF m 191 #[.val (.int p0), .unset, .unset, .unset] [(.int (27 : Int32)), (.ref b2), (.ref b2)])) rfl (hb hby at_191)
  have go195 := go193.step (C := T195.setTop (mkF m 194 #[.val (.int p0), .unset, .unset, .unset] [(.ref (u 27)), (.int (27 : Int32)), (.ref b2), (.ref b2)])) (fun t k => st195 t k)
  obtain ⟨cl196, Ar196, qa196, Sa196, Na196, Ha196, Ga196⟩ := V190
  have hin196 : ¬ ((27 : Int32) < 0 ∨ cl196.slots.size ≤ ((27 : Int32)).toNatClampNeg) := inb_of Sa196 ⟨by decide, by decide⟩
  obtain ⟨T197, h197, X197, e197, W197, st197⟩ := stR X195 hx hZ e195 Ar196 (j := (27 : Int32)) hin196 rfl (Sto.ofV Ar196 qa196 O2 (Ins.self ((hE 27 (by decide)).ext f191.2))) (g := (mkF m 194 #[.val (.int p0), .unset, .unset, .unset] [(.ref (u 27)), (.int (27 : Int32)), (.ref b2), (.ref b2)])) rfl rfl (hb hby at_194)
  have V197 : Arv Z h197 b2 k2 (.object "com/example/gatewarden/gatewarden/diameter/ResultCode") (33 : Int32) [(.ref (u 0)), (.ref (u 1)), (.ref (u 2)), (.ref (u 3)), (.ref (u 4)), (.ref (u 5)), (.ref (u 6)), (.ref (u 7)), (.ref (u 8)), (.ref (u 9)), (.ref (u 10)), (.ref (u 11)), (.ref (u 12)), (.ref (u 13)), (.ref (u 14)), (.ref (u 15)), (.ref (u 16)), (.ref (u 17)), (.ref (u 18)), (.ref (u 19)), (.ref (u 20)), (.ref (u 21)), (.ref (u 22)), (.ref (u 23)), (.ref (u 24)), (.ref (u 25)), (.ref (u 26)), (.ref (u 27)), .null, .null, .null, .null, .null] .null := Arv.set Ar196 qa196 Sa196 Na196 Ha196 Ga196 rfl W197 27 rfl (Nat.le_of_ble_eq_true rfl)
  have f198 := Old.wr f191 W197 g_b2
  have Z197 : n0 ≤ h197.size := Nat.le_trans Z190 (Nat.le_of_eq W197.size.symm)
  have K197 := K190.wr W197 (Or.inr sz_b2)
  have N197 := Fr.snoc X197 N190 g_b2
  have go197 := go195.step (C := T197.setTop (mkF m 195 #[.val (.int p0), .unset, .unset, .unset] [(.ref b2)])) (fun t k => st197 t k)
  have go200 := go197.step (C := T197.setTop (mkF m 198 #[.val (.int p0), .unset, .unset, .unset] [(.int (28 : Int32)), (.ref b2), (.ref b2)])) (fun t k => by
    show Steps p.tables e below (T197.setTop (mkF m 195 #[.val (.int p0), .unset, .unset, .unset] [(.ref b2)])) _
    refine XS.dup X197.here hx rfl (hb hby at_195) rfl rfl ?_
    show Steps p.tables e below (T197.setTop (mkF m 196 #[.val (.int p0), .unset, .unset, .unset] [(.ref b2), (.ref b2)])) _
    refine XS.bipush X197.here hx rfl (hb hby at_196) ?_
    exact k)
  have f201 := (hS 28 (by decide) : Sta Z Z.heap "com/example/gatewarden/gatewarden/diameter/ResultCode" "DIAMETER_INVALID_BIT_IN_HEADER" "Lcom/example/gatewarden/gatewarden/diameter/ResultCode;" (.ref (u 28))).ext f198.2
  obtain ⟨T202, X202, e202, st202⟩ := getS2 X197 hx hZ hown (host := "") (Or.inl (hw _ (List.mem_of_getElem? (i := 60) rfl))) Via.refl e197 f201 (g := (mkF m 198 #[.val (.int p0), .unset, .unset, .unset] [(.int (28 : Int32)), (.ref b2), (.ref b2)])) rfl (hb hby at_198)
  have go202 := go200.step (C := T202.setTop (mkF m 201 #[.val (.int p0), .unset, .unset, .unset] [(.ref (u 28)), (.int (28 : Int32)), (.ref b2), (.ref b2)])) (fun t k => st202 t k)
  obtain ⟨cl203, Ar203, qa203, Sa203, Na203, Ha203, Ga203⟩ := V197
  have hin203 : ¬ ((28 : Int32) < 0 ∨ cl203.slots.size ≤ ((28 : Int32)).toNatClampNeg) := inb_of Sa203 ⟨by decide, by decide⟩
  obtain ⟨T204, h204, X204, e204, W204, st204⟩ := stR X202 hx hZ e202 Ar203 (j := (28 : Int32)) hin203 rfl (Sto.ofV Ar203 qa203 O2 (Ins.self ((hE 28 (by decide)).ext f198.2))) (g := (mkF m 201 #[.val (.int p0), .unset, .unset, .unset] [(.ref (u 28)), (.int (28 : Int32)), (.ref b2), (.ref b2)])) rfl rfl (hb hby at_201)
  have V204 : Arv Z h204 b2 k2 (.object "com/example/gatewarden/gatewarden/diameter/ResultCode") (33 : Int32) [(.ref (u 0)), (.ref (u 1)), (.ref (u 2)), (.ref (u 3)), (.ref (u 4)), (.ref (u 5)), (.ref (u 6)), (.ref (u 7)), (.ref (u 8)), (.ref (u 9)), (.ref (u 10)), (.ref (u 11)), (.ref (u 12)), (.ref (u 13)), (.ref (u 14)), (.ref (u 15)), (.ref (u 16)), (.ref (u 17)), (.ref (u 18)), (.ref (u 19)), (.ref (u 20)), (.ref (u 21)), (.ref (u 22)), (.ref (u 23)), (.ref (u 24)), (.ref (u 25)), (.ref (u 26)), (.ref (u 27)), (.ref (u 28)), .null, .null, .null, .null] .null := Arv.set Ar203 qa203 Sa203 Na203 Ha203 Ga203 rfl W204 28 rfl (Nat.le_of_ble_eq_true rfl)
  have f205 := Old.wr f198 W204 g_b2
  have Z204 : n0 ≤ h204.size := Nat.le_trans Z197 (Nat.le_of_eq W204.size.symm)
  have K204 := K197.wr W204 (Or.inr sz_b2)
  have N204 := Fr.snoc X204 N197 g_b2
  have go204 := go202.step (C := T204.setTop (mkF m 202 #[.val (.int p0), .unset, .unset, .unset] [(.ref b2)])) (fun t k => st204 t k)
  have go207 := go204.step (C := T204.setTop (mkF m 205 #[.val (.int p0), .unset, .unset, .unset] [(.int (29 : Int32)), (.ref b2), (.ref b2)])) (fun t k => by
    show Steps p.tables e below (T204.setTop (mkF m 202 #[.val (.int p0), .unset, .unset, .unset] [(.ref b2)])) _
    refine XS.dup X204.here hx rfl (hb hby at_202) rfl rfl ?_
    show Steps p.tables e below (T204.setTop (mkF m 203 #[.val (.int p0), .unset, .unset, .unset] [(.ref b2), (.ref b2)])) _
    refine XS.bipush X204.here hx rfl (hb hby at_203) ?_
    exact k)
  have f208 := (hS 29 (by decide) : Sta Z Z.heap "com/example/gatewarden/gatewarden/diameter/ResultCode" "DIAMETER_INVALID_AVP_LENGTH" "Lcom/example/gatewarden/gatewarden/diameter/ResultCode;" (.ref (u 29))).ext f205.2
  obtain ⟨T209, X209, e209, st209⟩ := getS2 X204 hx hZ hown (host := "") (Or.inl (hw _ (List.mem_of_getElem? (i := 62) rfl))) Via.refl e204 f208 (g := (mkF m 205 #[.val (.int p0), .unset, .unset, .unset] [(.int (29 : Int32)), (.ref b2), (.ref b2)])) rfl (hb hby at_205)
  have go209 := go207.step (C := T209.setTop (mkF m 208 #[.val (.int p0), .unset, .unset, .unset] [(.ref (u 29)), (.int (29 : Int32)), (.ref b2), (.ref b2)])) (fun t k => st209 t k)
  obtain ⟨cl210, Ar210, qa210, Sa210, Na210, Ha210, Ga210⟩ := V204
  have hin210 : ¬ ((29 : Int32) < 0 ∨ cl210.slots.size ≤ ((29 : Int32)).toNatClampNeg) := inb_of Sa210 ⟨by decide, by decide⟩
  obtain ⟨T211, h211, X211, e211, W211, st211⟩ := stR X209 hx hZ e209 Ar210 (j := (29 : Int32)) hin210 rfl (Sto.ofV Ar210 qa210 O2 (Ins.self ((hE 29 (by decide)).ext f205.2))) (g := (mkF m 208 #[.val (.int p0), .unset, .unset, .unset] [(.ref (u 29)), (.int (29 : Int32)), (.ref b2), (.ref b2)])) rfl rfl (hb hby at_208)
  have V211 : Arv Z h211 b2 k2 (.object "com/example/gatewarden/gatewarden/diameter/ResultCode") (33 : Int32) [(.ref (u 0)), (.ref (u 1)), (.ref (u 2)), (.ref (u 3)), (.ref (u 4)), (.ref (u 5)), (.ref (u 6)), (.ref (u 7)), (.ref (u 8)), (.ref (u 9)), (.ref (u 10)), (.ref (u 11)), (.ref (u 12)), (.ref (u 13)), (.ref (u 14)), (.ref (u 15)), (.ref (u 16)), (.ref (u 17)), (.ref (u 18)), (.ref (u 19)), (.ref (u 20)), (.ref (u 21)), (.ref (u 22)), (.ref (u 23)), (.ref (u 24)), (.ref (u 25)), (.ref (u 26)), (.ref (u 27)), (.ref (u 28)), (.ref (u 29)), .null, .null, .null] .null := Arv.set Ar210 qa210 Sa210 Na210 Ha210 Ga210 rfl W211 29 rfl (Nat.le_of_ble_eq_true rfl)
  have f212 := Old.wr f205 W211 g_b2
  have Z211 : n0 ≤ h211.size := Nat.le_trans Z204 (Nat.le_of_eq W211.size.symm)
  have K211 := K204.wr W211 (Or.inr sz_b2)
  have N211 := Fr.snoc X211 N204 g_b2
  have go211 := go209.step (C := T211.setTop (mkF m 209 #[.val (.int p0), .unset, .unset, .unset] [(.ref b2)])) (fun t k => st211 t k)
  have go214 := go211.step (C := T211.setTop (mkF m 212 #[.val (.int p0), .unset, .unset, .unset] [(.int (30 : Int32)), (.ref b2), (.ref b2)])) (fun t k => by
    show Steps p.tables e below (T211.setTop (mkF m 209 #[.val (.int p0), .unset, .unset, .unset] [(.ref b2)])) _
    refine XS.dup X211.here hx rfl (hb hby at_209) rfl rfl ?_
    show Steps p.tables e below (T211.setTop (mkF m 210 #[.val (.int p0), .unset, .unset, .unset] [(.ref b2), (.ref b2)])) _
    refine XS.bipush X211.here hx rfl (hb hby at_210) ?_
    exact k)
  have f215 := (hS 30 (by decide) : Sta Z Z.heap "com/example/gatewarden/gatewarden/diameter/ResultCode" "DIAMETER_INVALID_MESSAGE_LENGTH" "Lcom/example/gatewarden/gatewarden/diameter/ResultCode;" (.ref (u 30))).ext f212.2
  obtain ⟨T216, X216, e216, st216⟩ := getS2 X211 hx hZ hown (host := "") (Or.inl (hw _ (List.mem_of_getElem? (i := 64) rfl))) Via.refl e211 f215 (g := (mkF m 212 #[.val (.int p0), .unset, .unset, .unset] [(.int (30 : Int32)), (.ref b2), (.ref b2)])) rfl (hb hby at_212)
  have go216 := go214.step (C := T216.setTop (mkF m 215 #[.val (.int p0), .unset, .unset, .unset] [(.ref (u 30)), (.int (30 : Int32)), (.ref b2), (.ref b2)])) (fun t k => st216 t k)
  obtain ⟨cl217, Ar217, qa217, Sa217, Na217, Ha217, Ga217⟩ := V211
  have hin217 : ¬ ((30 : Int32) < 0 ∨ cl217.slots.size ≤ ((30 : Int32)).toNatClampNeg) := inb_of Sa217 ⟨by decide, by decide⟩
  obtain ⟨T218, h218, X218, e218, W218, st218⟩ := stR X216 hx hZ e216 Ar217 (j := (30 : Int32)) hin217 rfl (Sto.ofV Ar217 qa217 O2 (Ins.self ((hE 30 (by decide)).ext f212.2))) (g := (mkF m 215 #[.val (.int p0), .unset, .unset, .unset] [(.ref (u 30)), (.int (30 : Int32)), (.ref b2), (.ref b2)])) rfl rfl (hb hby at_215)
  have V218 : Arv Z h218 b2 k2 (.object "com/example/gatewarden/gatewarden/diameter/ResultCode") (33 : Int32) [(.ref (u 0)), (.ref (u 1)), (.ref (u 2)), (.ref (u 3)), (.ref (u 4)), (.ref (u 5)), (.ref (u 6)), (.ref (u 7)), (.ref (u 8)), (.ref (u 9)), (.ref (u 10)), (.ref (u 11)), (.ref (u 12)), (.ref (u 13)), (.ref (u 14)), (.ref (u 15)), (.ref (u 16)), (.ref (u 17)), (.ref (u 18)), (.ref (u 19)), (.ref (u 20)), (.ref (u 21)), (.ref (u 22)), (.ref (u 23)), (.ref (u 24)), (.ref (u 25)), (.ref (u 26)), (.ref (u 27)), (.ref (u 28)), (.ref (u 29)), (.ref (u 30)), .null, .null] .null := Arv.set Ar217 qa217 Sa217 Na217 Ha217 Ga217 rfl W218 30 rfl (Nat.le_of_ble_eq_true rfl)
  have f219 := Old.wr f212 W218 g_b2
  have Z218 : n0 ≤ h218.size := Nat.le_trans Z211 (Nat.le_of_eq W218.size.symm)
  have K218 := K211.wr W218 (Or.inr sz_b2)
  have N218 := Fr.snoc X218 N211 g_b2
  have go218 := go216.step (C := T218.setTop (mkF m 216 #[.val (.int p0), .unset, .unset, .unset] [(.ref b2)])) (fun t k => st218 t k)
  have go221 := go218.step (C := T218.setTop (mkF m 219 #[.val (.int p0), .unset, .unset, .unset] [(.int (31 : Int32)), (.ref b2), (.ref b2)])) (fun t k => by
    show Steps p.tables e below (T218.setTop (mkF m 216 #[.val (.int p0), .unset, .unset, .unset] [(.ref b2)])) _
    refine XS.dup X218.here hx rfl (hb hby at_216) rfl rfl ?_
    show Steps p.tables e below (T218.setTop (mkF m 217 #[.val (.int p0), .unset, .unset, .unset] [(.ref b2), (.ref b2)])) _
    refine XS.bipush X218.here hx rfl (hb hby at_217) ?_
    exact k)
  have f222 := (hS 31 (by decide) : Sta Z Z.heap "com/example/gatewarden/gatewarden/diameter/ResultCode" "DIAMETER_INVALID_AVP_BIT_COMBO" "Lcom/example/gatewarden/gatewarden/diameter/ResultCode;" (.ref (u 31))).ext f219.2
  obtain ⟨T223, X223, e223, st223⟩ := getS2 X218 hx hZ hown (host := "") (Or.inl (hw _ (List.mem_of_getElem? (i := 66) rfl))) Via.refl e218 f222 (g := (mkF m 219 #[.val (.int p0), .unset, .unset, .unset] [(.int (31 : Int32)), (.ref b2), (.ref b2)])) rfl (hb hby at_219)
  have go223 := go221.step (C := T223.setTop (mkF m 222 #[.val (.int p0), .unset, .unset, .unset] [(.ref (u 31)), (.int (31 : Int32)), (.ref b2), (.ref b2)])) (fun t k => st223 t k)
  obtain ⟨cl224, Ar224, qa224, Sa224, Na224, Ha224, Ga224⟩ := V218
  have hin224 : ¬ ((31 : Int32) < 0 ∨ cl224.slots.size ≤ ((31 : Int32)).toNatClampNeg) := inb_of Sa224 ⟨by decide, by decide⟩
  obtain ⟨T225, h225, X225, e225, W225, st225⟩ := stR X223 hx hZ e223 Ar224 (j := (31 : Int32)) hin224 rfl (Sto.ofV Ar224 qa224 O2 (Ins.self ((hE 31 (by decide)).ext f219.2))) (g := (mkF m 222 #[.val (.int p0), .unset, .unset, .unset] [(.ref (u 31)), (.int (31 : Int32)), (.ref b2), (.ref b2)])) rfl rfl (hb hby at_222)
  have V225 : Arv Z h225 b2 k2 (.object "com/example/gatewarden/gatewarden/diameter/ResultCode") (33 : Int32) [(.ref (u 0)), (.ref (u 1)), (.ref (u 2)), (.ref (u 3)), (.ref (u 4)), (.ref (u 5)), (.ref (u 6)), (.ref (u 7)), (.ref (u 8)), (.ref (u 9)), (.ref (u 10)), (.ref (u 11)), (.ref (u 12)), (.ref (u 13)), (.ref (u 14)), (.ref (u 15)), (.ref (u 16)), (.ref (u 17)), (.ref (u 18)), (.ref (u 19)), (.ref (u 20)), (.ref (u 21)), (.ref (u 22)), (.ref (u 23)), (.ref (u 24)), (.ref (u 25)), (.ref (u 26)), (.ref (u 27)), (.ref (u 28)), (.ref (u 29)), (.ref (u 30)), (.ref (u 31)), .null] .null := Arv.set Ar224 qa224 Sa224 Na224 Ha224 Ga224 rfl W225 31 rfl (Nat.le_of_ble_eq_true rfl)
  have f226 := Old.wr f219 W225 g_b2
  have Z225 : n0 ≤ h225.size := Nat.le_trans Z218 (Nat.le_of_eq W225.size.symm)
  have K225 := K218.wr W225 (Or.inr sz_b2)
  have N225 := Fr.snoc X225 N218 g_b2
  have go225 := go223.step (C := T225.setTop (mkF m 223 #[.val (.int p0), .unset, .unset, .unset] [(.ref b2)])) (fun t k => st225 t k)
  have go228 := go225.step (C := T225.setTop (mkF m 226 #[.val (.int p0), .unset, .unset, .unset] [(.int (32 : Int32)), (.ref b2), (.ref b2)])) (fun t k => by
    show Steps p.tables e below (T225.setTop (mkF m 223 #[.val (.int p0), .unset, .unset, .unset] [(.ref b2)])) _
    refine XS.dup X225.here hx rfl (hb hby at_223) rfl rfl ?_
    show Steps p.tables e below (T225.setTop (mkF m 224 #[.val (.int p0), .unset, .unset, .unset] [(.ref b2), (.ref b2)])) _
    refine XS.bipush X225.here hx rfl (hb hby at_224) ?_
    exact k)
  have f229 := (hS 32 (by decide) : Sta Z Z.heap "com/example/gatewarden/gatewarden/diameter/ResultCode" "DIAMETER_NO_COMMON_SECURITY" "Lcom/example/gatewarden/gatewarden/diameter/ResultCode;" (.ref (u 32))).ext f226.2
  obtain ⟨T230, X230, e230, st230⟩ := getS2 X225 hx hZ hown (host := "") (Or.inl (hw _ (List.mem_of_getElem? (i := 68) rfl))) Via.refl e225 f229 (g := (mkF m 226 #[.val (.int p0), .unset, .unset, .unset] [(.int (32 : Int32)), (.ref b2), (.ref b2)])) rfl (hb hby at_226)
  have go230 := go228.step (C := T230.setTop (mkF m 229 #[.val (.int p0), .unset, .unset, .unset] [(.ref (u 32)), (.int (32 : Int32)), (.ref b2), (.ref b2)])) (fun t k => st230 t k)
  obtain ⟨cl231, Ar231, qa231, Sa231, Na231, Ha231, Ga231⟩ := V225
  have hin231 : ¬ ((32 : Int32) < 0 ∨ cl231.slots.size ≤ ((32 : Int32)).toNatClampNeg) := inb_of Sa231 ⟨by decide, by decide⟩
  obtain ⟨T232, h232, X232, e232, W232, st232⟩ := stR X230 hx hZ e230 Ar231 (j := (32 : Int32)) hin231 rfl (Sto.ofV Ar231 qa231 O2 (Ins.self ((hE 32 (by decide)).ext f226.2))) (g := (mkF m 229 #[.val (.int p0), .unset, .unset, .unset] [(.ref (u 32)), (.int (32 : Int32)), (.ref b2), (.ref b2)])) rfl rfl (hb hby at_229)
  have V232 : Arv Z h232 b2 k2 (.object "com/example/gatewarden/gatewarden/diameter/ResultCode") (33 : Int32) [(.ref (u 0)), (.ref (u 1)), (.ref (u 2)), (.ref (u 3)), (.ref (u 4)), (.ref (u 5)), (.ref (u 6)), (.ref (u 7)), (.ref (u 8)), (.ref (u 9)), (.ref (u 10)), (.ref (u 11)), (.ref (u 12)), (.ref (u 13)), (.ref (u 14)), (.ref (u 15)), (.ref (u 16)), (.ref (u 17)), (.ref (u 18)), (.ref (u 19)), (.ref (u 20)), (.ref (u 21)), (.ref (u 22)), (.ref (u 23)), (.ref (u 24)), (.ref (u 25)), (.ref (u 26)), (.ref (u 27)), (.ref (u 28)), (.ref (u 29)), (.ref (u 30)), (.ref (u 31)), (.ref (u 32))] .null := Arv.set Ar231 qa231 Sa231 Na231 Ha231 Ga231 rfl W232 32 rfl (Nat.le_of_ble_eq_true rfl)
  have f233 := Old.wr f226 W232 g_b2
  have Z232 : n0 ≤ h232.size := Nat.le_trans Z225 (Nat.le_of_eq W232.size.symm)
  have K232 := K225.wr W232 (Or.inr sz_b2)
  have N232 := Fr.snoc X232 N225 g_b2
  have go232 := go230.step (C := T232.setTop (mkF m 230 #[.val (.int p0), .unset, .unset, .unset] [(.ref b2)])) (fun t k => st232 t k)
  have go235 := go232.step (C := T232.setTop (mkF m 238 #[.val (.int p0), .val (.ref b2), .unset, .unset] [(.int ((p0 &&& (2147483647 : Int32)) % (33 : Int32)))])) (fun t k => by
    show Steps p.tables e below (T232.setTop (mkF m 230 #[.val (.int p0), .unset, .unset, .unset] [(.ref b2)])) _
    refine XS.astoreN X232.here hx rfl (hb hby at_230) rfl rfl (l' := #[.val (.int p0), .val (.ref b2), .unset, .unset]) rfl ?_
    show Steps p.tables e below (T232.setTop (mkF m 231 #[.val (.int p0), .val (.ref b2), .unset, .unset] [])) _
    refine XS.iloadN X232.here hx rfl (hb hby at_231) rfl ?_
    show Steps p.tables e below (T232.setTop (mkF m 232 #[.val (.int p0), .val (.ref b2), .unset, .unset] [(.int p0)])) _
    refine X232.ldcInt hx hown (mvT hZ (hw _ (List.mem_of_getElem? (i := 70) rfl))) (g := (mkF m 232 #[.val (.int p0), .val (.ref b2), .unset, .unset] [(.int p0)])) rfl (hb hby at_232) _ ?_
    show Steps p.tables e below (T232.setTop (mkF m 234 #[.val (.int p0), .val (.ref b2), .unset, .unset] [(.int (2147483647 : Int32)), (.int p0)])) _
    refine XS.iand X232.here hx rfl (hb hby at_234) rfl ?_
    show Steps p.tables e below (T232.setTop (mkF m 235 #[.val (.int p0), .val (.ref b2), .unset, .unset] [(.int (p0 &&& (2147483647 : Int32)))])) _
    refine XS.bipush X232.here hx rfl (hb hby at_235) ?_
    show Steps p.tables e below (T232.setTop (mkF m 237 #[.val (.int p0), .val (.ref b2), .unset, .unset] [(.int (33 : Int32)), (.int (p0 &&& (2147483647 : Int32)))])) _
    refine iremM X232 hx rfl (hb hby at_237) rfl (by decide) ?_
    exact k)
  obtain ⟨zi, hzi⟩ : ∃ z : Int32, z = ((p0 &&& (2147483647 : Int32)) % (33 : Int32)) := ⟨_, rfl⟩
  rw [← hzi] at go235
  have go236 := go235.step (C := T232.setTop (mkF m 241 #[.val (.int p0), .val (.ref b2), .val (.int zi), .unset] [(.int (3 : Int32)), (.int zi)])) (fun t k => by
    show Steps p.tables e below (T232.setTop (mkF m 238 #[.val (.int p0), .val (.ref b2), .unset, .unset] [(.int zi)])) _
    refine XS.istoreN X232.here hx rfl (hb hby at_238) rfl (l' := #[.val (.int p0), .val (.ref b2), .val (.int zi), .unset]) rfl ?_
    show Steps p.tables e below (T232.setTop (mkF m 239 #[.val (.int p0), .val (.ref b2), .val (.int zi), .unset] [])) _
    refine XS.iloadN X232.here hx rfl (hb hby at_239) rfl ?_
    show Steps p.tables e below (T232.setTop (mkF m 240 #[.val (.int p0), .val (.ref b2), .val (.int zi), .unset] [(.int zi)])) _
    refine XS.iconst X232.here hx rfl (hb hby at_240) ?_
    exact k)
  have go239 := go236.step (C := T232.setTop (mkF m 255 #[.val (.int p0), .val (.ref b2), .val (.int zi), .unset] [(.int (if zi < (3 : Int32) then (0 : Int32) else (if (12 : Int32) < zi then (0 : Int32) else (1 : Int32))))])) (fun t k => by
    by_cases hc237 : zi < (3 : Int32)
    · skip
      try simp only [if_pos hc237] at k
      show Steps p.tables e below (T232.setTop (mkF m 241 #[.val (.int p0), .val (.ref b2), .val (.int zi), .unset] [(.int (3 : Int32)), (.int zi)])) _
      refine XS.icmpYes X232.here hx rfl (pc0 := 241) (pc' := 254) rfl (hb hby at_241) rfl (tlt hc237).1 (by decide) (by decide) ?_
      show Steps p.tables e below (T232.setTop (mkF m 254 #[.val (.int p0), .val (.ref b2), .val (.int zi), .unset] [])) _
      refine XS.iconst X232.here hx rfl (hb hby at_254) ?_
      exact k
    · skip
      by_cases hc238 : (12 : Int32) < zi
      · skip
        try simp only [if_neg hc237, if_pos hc238] at k
        show Steps p.tables e below (T232.setTop (mkF m 241 #[.val (.int p0), .val (.ref b2), .val (.int zi), .unset] [(.int (3 : Int32)), (.int zi)])) _
        refine XS.icmpNo X232.here hx rfl (hb hby at_241) rfl (flt hc237).1 ?_
        show Steps p.tables e below (T232.setTop (mkF m 244 #[.val (.int p0), .val (.ref b2), .val (.int zi), .unset] [])) _
        refine XS.iloadN X232.here hx rfl (hb hby at_244) rfl ?_
        show Steps p.tables e below (T232.setTop (mkF m 245 #[.val (.int p0), .val (.ref b2), .val (.int zi), .unset] [(.int zi)])) _
        refine XS.bipush X232.here hx rfl (hb hby at_245) ?_
        show Steps p.tables e below (T232.setTop (mkF m 247 #[.val (.int p0), .val (.ref b2), .val (.int zi), .unset] [(.int (12 : Int32)), (.int zi)])) _
        refine XS.icmpYes X232.here hx rfl (pc0 := 247) (pc' := 254) rfl (hb hby at_247) rfl (tlt hc238).2.2.1 (by decide) (by decide) ?_
        show Steps p.tables e below (T232.setTop (mkF m 254 #[.val (.int p0), .val (.ref b2), .val (.int zi), .unset] [])) _
        refine XS.iconst X232.here hx rfl (hb hby at_254) ?_
        exact k
      · skip
        try simp only [if_neg hc237, if_neg hc238] at k
        show Steps p.tables e below (T232.setTop (mkF m 241 #[.val (.int p0), .val (.ref b2), .val (.int zi), .unset] [(.int (3 : Int32)), (.int zi)])) _
        refine XS.icmpNo X232.here hx rfl (hb hby at_241) rfl (flt hc237).1 ?_
        show Steps p.tables e below (T232.setTop (mkF m 244 #[.val (.int p0), .val (.ref b2), .val (.int zi), .unset] [])) _
        refine XS.iloadN X232.here hx rfl (hb hby at_244) rfl ?_
        show Steps p.tables e below (T232.setTop (mkF m 245 #[.val (.int p0), .val (.ref b2), .val (.int zi), .unset] [(.int zi)])) _
        refine XS.bipush X232.here hx rfl (hb hby at_245) ?_
        show Steps p.tables e below (T232.setTop (mkF m 247 #[.val (.int p0), .val (.ref b2), .val (.int zi), .unset] [(.int (12 : Int32)), (.int zi)])) _
        refine XS.icmpNo X232.here hx rfl (hb hby at_247) rfl (flt hc238).2.2.1 ?_
        show Steps p.tables e below (T232.setTop (mkF m 250 #[.val (.int p0), .val (.ref b2), .val (.int zi), .unset] [])) _
        refine XS.iconst X232.here hx rfl (hb hby at_250) ?_
        show Steps p.tables e below (T232.setTop (mkF m 251 #[.val (.int p0), .val (.ref b2), .val (.int zi), .unset] [(.int (1 : Int32))])) _
        refine XS.goto X232.here hx rfl (pc0 := 251) (pc' := 255) rfl (hb hby at_251) (by decide) (by decide) ?_
        exact k
    )
  have go240 := go239.step (C := T232.setTop (mkF m 258 #[.val (.int p0), .val (.ref b2), .val (.int zi), .val (.int (if zi < (3 : Int32) then (0 : Int32) else (if (12 : Int32) < zi then (0 : Int32) else (1 : Int32))))] [(.int zi), (.ref b2)])) (fun t k => by
    show Steps p.tables e below (T232.setTop (mkF m 255 #[.val (.int p0), .val (.ref b2), .val (.int zi), .unset] [(.int (if zi < (3 : Int32) then (0 : Int32) else (if (12 : Int32) < zi then (0 : Int32) else (1 : Int32))))])) _
    refine XS.istoreN X232.here hx rfl (hb hby at_255) rfl (l' := #[.val (.int p0), .val (.ref b2), .val (.int zi), .val (.int (if zi < (3 : Int32) then (0 : Int32) else (if (12 : Int32) < zi then (0 : Int32) else (1 : Int32))))]) rfl ?_
    show Steps p.tables e below (T232.setTop (mkF m 256 #[.val (.int p0), .val (.ref b2), .val (.int zi), .val (.int (if zi < (3 : Int32) then (0 : Int32) else (if (12 : Int32) < zi then (0 : Int32) else (1 : Int32))))] [])) _
    refine XS.aloadN X232.here hx rfl (hb hby at_256) rfl rfl ?_
    show Steps p.tables e below (T232.setTop (mkF m 257 #[.val (.int p0), .val (.ref b2), .val (.int zi), .val (.int (if zi < (3 : Int32) then (0 : Int32) else (if (12 : Int32) < zi then (0 : Int32) else (1 : Int32))))] [(.ref b2)])) _
    refine XS.iloadN X232.here hx rfl (hb hby at_257) rfl ?_
    exact k)
  obtain ⟨cl241, Ar241, qa241, Sa241, Na241, Ha241, Ga241⟩ := V232
  obtain ⟨jj, hjj⟩ : ∃ j : Nat, j = (zi).toNatClampNeg := ⟨_, rfl⟩
  have hfit := own_fit (own_i hzi) hjj
  have hin241 : ¬ (zi < 0 ∨ cl241.slots.size ≤ (zi).toNatClampNeg) := inb_of Sa241 (own_in (own_i hzi))
  have hat241 : cl241.slots[(zi).toNatClampNeg]? = some (.ref (u jj)) := Has.at Ha241 hin241 (by rw [← hjj]; exact own_at u jj hfit.1)
  have go242 := go240.step (C := T232.setTop (mkF m 259 #[.val (.int p0), .val (.ref b2), .val (.int zi), .val (.int (if zi < (3 : Int32) then (0 : Int32) else (if (12 : Int32) < zi then (0 : Int32) else (1 : Int32))))] [(.ref (u jj))])) (fun t k => by
    show Steps p.tables e below (T232.setTop (mkF m 258 #[.val (.int p0), .val (.ref b2), .val (.int zi), .val (.int (if zi < (3 : Int32) then (0 : Int32) else (if (12 : Int32) < zi then (0 : Int32) else (1 : Int32))))] [(.int zi), (.ref b2)])) _
    refine X232.aaload hx (j := zi) (v := (.ref (u jj))) (by rw [e232]; exact Ar241.1) (State.isArrayOf_alike hZ.alike Ar241.2.1) rfl Ar241.2.2 hin241 hat241 (g := (mkF m 258 #[.val (.int p0), .val (.ref b2), .val (.int zi), .val (.int (if zi < (3 : Int32) then (0 : Int32) else (if (12 : Int32) < zi then (0 : Int32) else (1 : Int32))))] [(.int zi), (.ref b2)])) rfl rfl (hb hby at_258) _ ?_
    exact k)
  have f244 := (hF jj hfit.1).ext f233.2
  have f245 := (hE jj hfit.1).ext f233.2
  obtain ⟨cq243, kq243, q243a, q243b, q243c⟩ := isOf hZ e232 f245
  obtain ⟨_, _, ⟨T243, L243, k243, n243⟩, -, X243, ⟨Lc243, hQ243, l243, y243, z243⟩, st243⟩ := X232.virtualBack hx (y := (⟨"com/example/gatewarden/gatewarden/diameter/ResultCode", "isProtocolError", "()Z"⟩ : MethodName)) (z := (⟨"com/example/gatewarden/gatewarden/diameter/ResultCode", "isProtocolError", "()Z"⟩ : MethodName)) hown (mvT hZ (hw _ (List.mem_of_getElem? (i := 71) rfl))) (mvT hZ (hw _ (List.mem_of_getElem? (i := 72) rfl))) (notFace_of_selects (args := #[]) (mvT hZ (hw _ (List.mem_of_getElem? (i := 74) rfl)))) (mvT hZ (hw _ (List.mem_of_getElem? (i := 74) rfl))) (mvT hZ (hw _ (List.mem_of_getElem? (i := 73) rfl))) (by decide) (backOf (W := 0) (rm1 l Z a0 hw [] (u jj) (own_code jj) h232 n0 Z232 f244) hZ (hw _ (List.mem_of_getElem? (i := 75) rfl)) (hw _ (List.mem_of_getElem? (i := 3) rfl)) (by decide) (by decide)) q243a q243c (g := (mkF m 259 #[.val (.int p0), .val (.ref b2), .val (.int zi), .val (.int (if zi < (3 : Int32) then (0 : Int32) else (if (12 : Int32) < zi then (0 : Int32) else (1 : Int32))))] [(.ref (u jj))])) rfl (by rw [hml]; rfl) (Steps.refl _) (argsL := []) (rest := []) (lenOf pd0_0 rfl) rfl (by show 2 * 0 + _ ≤ _; exact Nat.le_of_eq rfl) (hb hby at_259) (fun _ _ => ⟨rfl, e232, (by decide : 1 + 0 ≤ _), (by decide : 33 + 0 ≤ _)⟩)
  dsimp only [Pt.U, Pt.locs, Pt.cells, Pt.slots] at X243 l243 y243 z243 st243 hQ243
  rw [l243, y243, z243] at X243
  obtain ⟨rfl, N243q, e243⟩ := hQ243
  have N243 := Fr.app N232 N243q
  have go243 := go242.tr (C := T243.setTop (mkF m 262 #[.val (.int p0), .val (.ref b2), .val (.int zi), .val (.int (if zi < (3 : Int32) then (0 : Int32) else (if (12 : Int32) < zi then (0 : Int32) else (1 : Int32))))] [(.int (own_ipe (own_code jj)))])) st243
  have go247 := go243.step (C := T243.setTop (mkF m 271 #[.val (.int p0), .val (.ref b2), .val (.int zi), .val (.int (if zi < (3 : Int32) then (0 : Int32) else (if (12 : Int32) < zi then (0 : Int32) else (1 : Int32))))] [(.int (1 : Int32))])) (fun t k => by
    show Steps p.tables e below (T243.setTop (mkF m 262 #[.val (.int p0), .val (.ref b2), .val (.int zi), .val (.int (if zi < (3 : Int32) then (0 : Int32) else (if (12 : Int32) < zi then (0 : Int32) else (1 : Int32))))] [(.int (own_ipe (own_code jj)))])) _
    refine XS.iloadN X243.here hx rfl (hb hby at_262) rfl ?_
    show Steps p.tables e below (T243.setTop (mkF m 263 #[.val (.int p0), .val (.ref b2), .val (.int zi), .val (.int (if zi < (3 : Int32) then (0 : Int32) else (if (12 : Int32) < zi then (0 : Int32) else (1 : Int32))))] [(.int (if zi < (3 : Int32) then (0 : Int32) else (if (12 : Int32) < zi then (0 : Int32) else (1 : Int32)))), (.int (own_ipe (own_code jj)))])) _
    refine XS.icmpNo X243.here hx rfl (hb hby at_263) rfl (teq (hfit.2 : (own_ipe (own_code jj)) = (if zi < (3 : Int32) then (0 : Int32) else (if (12 : Int32) < zi then (0 : Int32) else (1 : Int32))))).2 ?_
    show Steps p.tables e below (T243.setTop (mkF m 266 #[.val (.int p0), .val (.ref b2), .val (.int zi), .val (.int (if zi < (3 : Int32) then (0 : Int32) else (if (12 : Int32) < zi then (0 : Int32) else (1 : Int32))))] [])) _
    refine XS.iconst X243.here hx rfl (hb hby at_266) ?_
    show Steps p.tables e below (T243.setTop (mkF m 267 #[.val (.int p0), .val (.ref b2), .val (.int zi), .val (.int (if zi < (3 : Int32) then (0 : Int32) else (if (12 : Int32) < zi then (0 : Int32) else (1 : Int32))))] [(.int (1 : Int32))])) _
    refine XS.goto X243.here hx rfl (pc0 := 267) (pc' := 271) rfl (hb hby at_267) (by decide) (by decide) ?_
    exact k)
  obtain ⟨fs, hr, hrun, hended, hW, hsame⟩ := X243.leave (v := some (.int (1 : Int32))) (fun h => by rw [Bd.returns] at h; cases h)
  refine ⟨_, _, go247 _ ?_, hrun, hended, _, _, rfl, ?_, ⟨_, rfl⟩, hW, hsame.mono (by decide) (by decide)⟩
  · exact retN X243 hx (t := .boolean) Bd.returns (by simp) (hb hby at_271) hr
  · show Q_rm0 Z p0 u h0 n0 _ T243.heap _
    rw [e243]
    exact ⟨rfl, N243⟩
theorem own_fldL {args : Array Value} {s : State} {t : Term} {a : Addr} {C n : String} {z : Int64} (ev : t.eval args s none [] s = some (.ref a)) (h : (Jvm.Cond.eq (Term.field t C n "J") (Term.long z)).value args s none s [] = some true) : s.fieldOf? a C n "J" = some (.long z) := by
  obtain ⟨x, y, h1, h2, h3, h4⟩ := cmp_v (Or.inl h)
  have h2' : (Term.long z).eval args s none [] s = some (.long z) := rfl
  rw [h2'] at h2
  cases h2
  obtain ⟨w, rfl⟩ := h4
  have q := h1
  rw [fld_at ev] at h1
  simp [Cond.value, q, h2'] at h
  subst h
  exact h1
set_option maxRecDepth 65536 in
set_option maxHeartbeats 40000000 in
theorem comes_1 {Post : Tables → Env → Array Value → State → Outcome → State → Prop} (hpost : ∀ tb e args s v u, (limb_1_1.after args s (.returned v) u = true ∧ limb_1_2.after args s (.returned v) u = true ∧ True) → FrameEnd s (.returned v) u (Jvm.fieldLocs frame_1_writes args s ++ Jvm.arrayLocs frame_1_arrays args s ++ Jvm.staticLocs frame_1_statics s) 16 192 → Post tb e args s (.returned v) u) :
    ArmFor flags0 classFile x code maxLocals ret World_1 tables_1 room_1 Calls_1 rest_1 Pre_1 Post := by
  intro l hfl _ _ p e ha hc hk s m args below hf hA hF happ hP
  obtain ⟨hcalls, hrest, hpre⟩ := hP
  obtain ⟨-, -, -, hnamed, -, -, -, hat⟩ := (Spec.applies_iff hf).mp happ
  obtain ⟨hg, hn⟩ := and_e (Cond.before_iff.mp (show (Jvm.Cond.and given_1 narrow_1).before args s = true from hpre))
  obtain ⟨gg0, gr0⟩ := and_e hg
  obtain ⟨w0, rfl⟩ : ∃ w0 : Value, args = #[w0] := by
    have hs : args.size = 1 := by simpa [Cond.value, given_1] using gg0
    obtain ⟨L⟩ := args
    match L, hs with
    | [w0], _ => exact ⟨w0, rfl⟩
  have hw := fun d (hd : d ∈ tables_1) => atoms_spec (ws := Jvm.Cond.code x code maxLocals ret :: tables_1) hat d (List.mem_cons_of_mem _ hd)
  have hfit : Fit s := fun {y c} hc i hi => by
    obtain ⟨ha, rfl⟩ := Array.getElem?_eq_some_iff.mp hc
    have q := List.all_eq_true.mp ((Array.all_eq_true_iff_forall_mem.mp hF) _ (Array.getElem_mem ha)) i (List.mem_range.mpr hi)
    simpa [Array.getElem?_eq_getElem hi] using q
  obtain ⟨i0, ei0⟩ := is_v gr0
  obtain rfl : w0 = (.int i0) := Option.some.inj ei0
  obtain ⟨c0, r0⟩ := and_e hn
  obtain ⟨c1, r1⟩ := and_e r0
  obtain ⟨c2, r2⟩ := and_e r1
  obtain ⟨c3, r3⟩ := and_e r2
  obtain ⟨c4, r4⟩ := and_e r3
  obtain ⟨c5, r5⟩ := and_e r4
  obtain ⟨c6, r6⟩ := and_e r5
  obtain ⟨c7, r7⟩ := and_e r6
  obtain ⟨c8, r8⟩ := and_e r7
  obtain ⟨c9, r9⟩ := and_e r8
  obtain ⟨c10, r10⟩ := and_e r9
  obtain ⟨c11, r11⟩ := and_e r10
  obtain ⟨c12, r12⟩ := and_e r11
  obtain ⟨c13, r13⟩ := and_e r12
  obtain ⟨c14, r14⟩ := and_e r13
  obtain ⟨c15, r15⟩ := and_e r14
  obtain ⟨c16, r16⟩ := and_e r15
  obtain ⟨c17, r17⟩ := and_e r16
  obtain ⟨c18, r18⟩ := and_e r17
  obtain ⟨c19, r19⟩ := and_e r18
  obtain ⟨c20, r20⟩ := and_e r19
  obtain ⟨c21, r21⟩ := and_e r20
  obtain ⟨c22, r22⟩ := and_e r21
  obtain ⟨c23, r23⟩ := and_e r22
  obtain ⟨c24, r24⟩ := and_e r23
  obtain ⟨c25, r25⟩ := and_e r24
  obtain ⟨c26, r26⟩ := and_e r25
  obtain ⟨c27, r27⟩ := and_e r26
  obtain ⟨c28, r28⟩ := and_e r27
  obtain ⟨c29, r29⟩ := and_e r28
  obtain ⟨c30, r30⟩ := and_e r29
  obtain ⟨c31, r31⟩ := and_e r30
  obtain ⟨c32, r32⟩ := and_e r31
  obtain ⟨c33, r33⟩ := and_e r32
  obtain ⟨c34, r34⟩ := and_e r33
  obtain ⟨c35, r35⟩ := and_e r34
  obtain ⟨c36, r36⟩ := and_e r35
  obtain ⟨c37, r37⟩ := and_e r36
  obtain ⟨c38, r38⟩ := and_e r37
  obtain ⟨c39, r39⟩ := and_e r38
  obtain ⟨c40, r40⟩ := and_e r39
  obtain ⟨c41, r41⟩ := and_e r40
  obtain ⟨c42, r42⟩ := and_e r41
  obtain ⟨c43, r43⟩ := and_e r42
  obtain ⟨c44, r44⟩ := and_e r43
  obtain ⟨c45, r45⟩ := and_e r44
  obtain ⟨c46, r46⟩ := and_e r45
  obtain ⟨c47, r47⟩ := and_e r46
  obtain ⟨c48, r48⟩ := and_e r47
  obtain ⟨c49, r49⟩ := and_e r48
  obtain ⟨c50, r50⟩ := and_e r49
  obtain ⟨c51, r51⟩ := and_e r50
  obtain ⟨c52, r52⟩ := and_e r51
  obtain ⟨c53, r53⟩ := and_e r52
  obtain ⟨c54, r54⟩ := and_e r53
  obtain ⟨c55, r55⟩ := and_e r54
  obtain ⟨c56, r56⟩ := and_e r55
  obtain ⟨c57, r57⟩ := and_e r56
  obtain ⟨c58, r58⟩ := and_e r57
  obtain ⟨c59, r59⟩ := and_e r58
  obtain ⟨c60, r60⟩ := and_e r59
  obtain ⟨c61, r61⟩ := and_e r60
  obtain ⟨c62, r62⟩ := and_e r61
  obtain ⟨c63, r63⟩ := and_e r62
  obtain ⟨c64, r64⟩ := and_e r63
  obtain ⟨u0, eu0⟩ := exa_v c0
  obtain ⟨u1, eu1⟩ := exa_v c1
  obtain ⟨u2, eu2⟩ := exa_v c2
  obtain ⟨u3, eu3⟩ := exa_v c3
  obtain ⟨u4, eu4⟩ := exa_v c4
  obtain ⟨u5, eu5⟩ := exa_v c5
  obtain ⟨u6, eu6⟩ := exa_v c6
  obtain ⟨u7, eu7⟩ := exa_v c7
  obtain ⟨u8, eu8⟩ := exa_v c8
  obtain ⟨u9, eu9⟩ := exa_v c9
  obtain ⟨u10, eu10⟩ := exa_v c10
  obtain ⟨u11, eu11⟩ := exa_v c11
  obtain ⟨u12, eu12⟩ := exa_v c12
  obtain ⟨u13, eu13⟩ := exa_v c13
  obtain ⟨u14, eu14⟩ := exa_v c14
  obtain ⟨u15, eu15⟩ := exa_v c15
  obtain ⟨u16, eu16⟩ := exa_v c16
  obtain ⟨u17, eu17⟩ := exa_v c17
  obtain ⟨u18, eu18⟩ := exa_v c18
  obtain ⟨u19, eu19⟩ := exa_v c19
  obtain ⟨u20, eu20⟩ := exa_v c20
  obtain ⟨u21, eu21⟩ := exa_v c21
  obtain ⟨u22, eu22⟩ := exa_v c22
  obtain ⟨u23, eu23⟩ := exa_v c23
  obtain ⟨u24, eu24⟩ := exa_v c24
  obtain ⟨u25, eu25⟩ := exa_v c25
  obtain ⟨u26, eu26⟩ := exa_v c26
  obtain ⟨u27, eu27⟩ := exa_v c27
  obtain ⟨u28, eu28⟩ := exa_v c28
  obtain ⟨u29, eu29⟩ := exa_v c29
  obtain ⟨u30, eu30⟩ := exa_v c30
  obtain ⟨u31, eu31⟩ := exa_v c31
  obtain ⟨u32, eu32⟩ := exa_v c32
  obtain ⟨u, hu⟩ : ∃ u : Nat → Addr, u = fun i => [u0, u1, u2, u3, u4, u5, u6, u7, u8, u9, u10, u11, u12, u13, u14, u15, u16, u17, u18, u19, u20, u21, u22, u23, u24, u25, u26, u27, u28, u29, u30, u31, u32].getD i 0 := ⟨_, rfl⟩
  have hS : ∀ i, i < 33 → Sta s s.heap "com/example/gatewarden/gatewarden/diameter/ResultCode" (own_nm i) "Lcom/example/gatewarden/gatewarden/diameter/ResultCode;" (.ref (u i)) := by
    intro i hi; subst hu
    match i, hi with
    | 0, _ => exact Sta.start eu0 (Or.inr ⟨hw _ (List.mem_of_getElem? (i := 3) rfl), hw _ (List.mem_of_getElem? (i := 4) rfl)⟩)
    | 1, _ => exact Sta.start eu1 (Or.inr ⟨hw _ (List.mem_of_getElem? (i := 3) rfl), hw _ (List.mem_of_getElem? (i := 7) rfl)⟩)
    | 2, _ => exact Sta.start eu2 (Or.inr ⟨hw _ (List.mem_of_getElem? (i := 3) rfl), hw _ (List.mem_of_getElem? (i := 9) rfl)⟩)
    | 3, _ => exact Sta.start eu3 (Or.inr ⟨hw _ (List.mem_of_getElem? (i := 3) rfl), hw _ (List.mem_of_getElem? (i := 11) rfl)⟩)
    | 4, _ => exact Sta.start eu4 (Or.inr ⟨hw _ (List.mem_of_getElem? (i := 3) rfl), hw _ (List.mem_of_getElem? (i := 13) rfl)⟩)
    | 5, _ => exact Sta.start eu5 (Or.inr ⟨hw _ (List.mem_of_getElem? (i := 3) rfl), hw _ (List.mem_of_getElem? (i := 15) rfl)⟩)
    | 6, _ => exact Sta.start eu6 (Or.inr ⟨hw _ (List.mem_of_getElem? (i := 3) rfl), hw _ (List.mem_of_getElem? (i := 17) rfl)⟩)
    | 7, _ => exact Sta.start eu7 (Or.inr ⟨hw _ (List.mem_of_getElem? (i := 3) rfl), hw _ (List.mem_of_getElem? (i := 19) rfl)⟩)
    | 8, _ => exact Sta.start eu8 (Or.inr ⟨hw _ (List.mem_of_getElem? (i := 3) rfl), hw _ (List.mem_of_getElem? (i := 21) rfl)⟩)
    | 9, _ => exact Sta.start eu9 (Or.inr ⟨hw _ (List.mem_of_getElem? (i := 3) rfl), hw _ (List.mem_of_getElem? (i := 23) rfl)⟩)
    | 10, _ => exact Sta.start eu10 (Or.inr ⟨hw _ (List.mem_of_getElem? (i := 3) rfl), hw _ (List.mem_of_getElem? (i := 25) rfl)⟩)
    | 11, _ => exact Sta.start eu11 (Or.inr ⟨hw _ (List.mem_of_getElem? (i := 3) rfl), hw _ (List.mem_of_getElem? (i := 27) rfl)⟩)
    | 12, _ => exact Sta.start eu12 (Or.inr ⟨hw _ (List.mem_of_getElem? (i := 3) rfl), hw _ (List.mem_of_getElem? (i := 29) rfl)⟩)
    | 13, _ => exact Sta.start eu13 (Or.inr ⟨hw _ (List.mem_of_getElem? (i := 3) rfl), hw _ (List.mem_of_getElem? (i := 31) rfl)⟩)
    | 14, _ => exact Sta.start eu14 (Or.inr ⟨hw _ (List.mem_of_getElem? (i := 3) rfl), hw _ (List.mem_of_getElem? (i := 33) rfl)⟩)
    | 15, _ => exact Sta.start eu15 (Or.inr ⟨hw _ (List.mem_of_getElem? (i := 3) rfl), hw _ (List.mem_of_getElem? (i := 35) rfl)⟩)
    | 16, _ => exact Sta.start eu16 (Or.inr ⟨hw _ (List.mem_of_getElem? (i := 3) rfl), hw _ (List.mem_of_getElem? (i := 37) rfl)⟩)
    | 17, _ => exact Sta.start eu17 (Or.inr ⟨hw _ (List.mem_of_getElem? (i := 3) rfl), hw _ (List.mem_of_getElem? (i := 39) rfl)⟩)
    | 18, _ => exact Sta.start eu18 (Or.inr ⟨hw _ (List.mem_of_getElem? (i := 3) rfl), hw _ (List.mem_of_getElem? (i := 41) rfl)⟩)
    | 19, _ => exact Sta.start eu19 (Or.inr ⟨hw _ (List.mem_of_getElem? (i := 3) rfl), hw _ (List.mem_of_getElem? (i := 43) rfl)⟩)
    | 20, _ => exact Sta.start eu20 (Or.inr ⟨hw _ (List.mem_of_getElem? (i := 3) rfl), hw _ (List.mem_of_getElem? (i := 45) rfl)⟩)
    | 21, _ => exact Sta.start eu21 (Or.inr ⟨hw _ (List.mem_of_getElem? (i := 3) rfl), hw _ (List.mem_of_getElem? (i := 47) rfl)⟩)
    | 22, _ => exact Sta.start eu22 (Or.inr ⟨hw _ (List.mem_of_getElem? (i := 3) rfl), hw _ (List.mem_of_getElem? (i := 49) rfl)⟩)
    | 23, _ => exact Sta.start eu23 (Or.inr ⟨hw _ (List.mem_of_getElem? (i := 3) rfl), hw _ (List.mem_of_getElem? (i := 51) rfl)⟩)
    | 24, _ => exact Sta.start eu24 (Or.inr ⟨hw _ (List.mem_of_getElem? (i := 3) rfl), hw _ (List.mem_of_getElem? (i := 53) rfl)⟩)
    | 25, _ => exact Sta.start eu25 (Or.inr ⟨hw _ (List.mem_of_getElem? (i := 3) rfl), hw _ (List.mem_of_getElem? (i := 55) rfl)⟩)
    | 26, _ => exact Sta.start eu26 (Or.inr ⟨hw _ (List.mem_of_getElem? (i := 3) rfl), hw _ (List.mem_of_getElem? (i := 57) rfl)⟩)
    | 27, _ => exact Sta.start eu27 (Or.inr ⟨hw _ (List.mem_of_getElem? (i := 3) rfl), hw _ (List.mem_of_getElem? (i := 59) rfl)⟩)
    | 28, _ => exact Sta.start eu28 (Or.inr ⟨hw _ (List.mem_of_getElem? (i := 3) rfl), hw _ (List.mem_of_getElem? (i := 61) rfl)⟩)
    | 29, _ => exact Sta.start eu29 (Or.inr ⟨hw _ (List.mem_of_getElem? (i := 3) rfl), hw _ (List.mem_of_getElem? (i := 63) rfl)⟩)
    | 30, _ => exact Sta.start eu30 (Or.inr ⟨hw _ (List.mem_of_getElem? (i := 3) rfl), hw _ (List.mem_of_getElem? (i := 65) rfl)⟩)
    | 31, _ => exact Sta.start eu31 (Or.inr ⟨hw _ (List.mem_of_getElem? (i := 3) rfl), hw _ (List.mem_of_getElem? (i := 67) rfl)⟩)
    | 32, _ => exact Sta.start eu32 (Or.inr ⟨hw _ (List.mem_of_getElem? (i := 3) rfl), hw _ (List.mem_of_getElem? (i := 69) rfl)⟩)
    | n + 33, h => exact absurd h (by omega)
  have hE : ∀ i, i < 33 → Exa s s.heap (u i) "com/example/gatewarden/gatewarden/diameter/ResultCode" := by
    intro i hi; subst hu
    match i, hi with
    | 0, _ => exact Exa.start eu0 c0
    | 1, _ => exact Exa.start eu1 c1
    | 2, _ => exact Exa.start eu2 c2
    | 3, _ => exact Exa.start eu3 c3
    | 4, _ => exact Exa.start eu4 c4
    | 5, _ => exact Exa.start eu5 c5
    | 6, _ => exact Exa.start eu6 c6
    | 7, _ => exact Exa.start eu7 c7
    | 8, _ => exact Exa.start eu8 c8
    | 9, _ => exact Exa.start eu9 c9
    | 10, _ => exact Exa.start eu10 c10
    | 11, _ => exact Exa.start eu11 c11
    | 12, _ => exact Exa.start eu12 c12
    | 13, _ => exact Exa.start eu13 c13
    | 14, _ => exact Exa.start eu14 c14
    | 15, _ => exact Exa.start eu15 c15
    | 16, _ => exact Exa.start eu16 c16
    | 17, _ => exact Exa.start eu17 c17
    | 18, _ => exact Exa.start eu18 c18
    | 19, _ => exact Exa.start eu19 c19
    | 20, _ => exact Exa.start eu20 c20
    | 21, _ => exact Exa.start eu21 c21
    | 22, _ => exact Exa.start eu22 c22
    | 23, _ => exact Exa.start eu23 c23
    | 24, _ => exact Exa.start eu24 c24
    | 25, _ => exact Exa.start eu25 c25
    | 26, _ => exact Exa.start eu26 c26
    | 27, _ => exact Exa.start eu27 c27
    | 28, _ => exact Exa.start eu28 c28
    | 29, _ => exact Exa.start eu29 c29
    | 30, _ => exact Exa.start eu30 c30
    | 31, _ => exact Exa.start eu31 c31
    | 32, _ => exact Exa.start eu32 c32
    | n + 33, h => exact absurd h (by omega)
  have hF : ∀ i, i < 33 → Fld s s.heap (u i) "com/example/gatewarden/gatewarden/diameter/ResultCode" "code" "J" (.long (own_code i)) := by
    intro i hi; subst hu
    match i, hi with
    | 0, _ => exact Fld.start (own_fldL eu0 c33)
    | 1, _ => exact Fld.start (own_fldL eu1 c42)
    | 2, _ => exact Fld.start (own_fldL eu2 c40)
    | 3, _ => exact Fld.start (own_fldL eu3 c34)
    | 4, _ => exact Fld.start (own_fldL eu4 c61)
    | 5, _ => exact Fld.start (own_fldL eu5 c48)
    | 6, _ => exact Fld.start (own_fldL eu6 c59)
    | 7, _ => exact Fld.start (own_fldL eu7 c39)
    | 8, _ => exact Fld.start (own_fldL eu8 c38)
    | 9, _ => exact Fld.start (own_fldL eu9 c60)
    | 10, _ => exact Fld.start (own_fldL eu10 c41)
    | 11, _ => exact Fld.start (own_fldL eu11 c35)
    | 12, _ => exact Fld.start (own_fldL eu12 c47)
    | 13, _ => exact Fld.start (own_fldL eu13 c63)
    | 14, _ => exact Fld.start (own_fldL eu14 c58)
    | 15, _ => exact Fld.start (own_fldL eu15 c53)
    | 16, _ => exact Fld.start (own_fldL eu16 c44)
    | 17, _ => exact Fld.start (own_fldL eu17 c62)
    | 18, _ => exact Fld.start (own_fldL eu18 c37)
    | 19, _ => exact Fld.start (own_fldL eu19 c52)
    | 20, _ => exact Fld.start (own_fldL eu20 c43)
    | 21, _ => exact Fld.start (own_fldL eu21 c56)
    | 22, _ => exact Fld.start (own_fldL eu22 c64)
    | 23, _ => exact Fld.start (own_fldL eu23 c57)
    | 24, _ => exact Fld.start (own_fldL eu24 c51)
    | 25, _ => exact Fld.start (own_fldL eu25 c36)
    | 26, _ => exact Fld.start (own_fldL eu26 c54)
    | 27, _ => exact Fld.start (own_fldL eu27 c45)
    | 28, _ => exact Fld.start (own_fldL eu28 c46)
    | 29, _ => exact Fld.start (own_fldL eu29 c50)
    | 30, _ => exact Fld.start (own_fldL eu30 c49)
    | 31, _ => exact Fld.start (own_fldL eu31 r64)
    | 32, _ => exact Fld.start (own_fldL eu32 c55)
    | n + 33, h => exact absurd h (by omega)
  obtain ⟨n, o, h1, h2, h3, _, L, rfl, ⟨rfl, N⟩, hq⟩ := rm0 l s _ hw tables_1 i0 u s.heap s.heap.size (Nat.le_refl _) (Old.start s) hS hE hF p e ha hc hk s m _ below hf ((Spec.applies_iff_loose hf).mp happ).1 ⟨rfl, State.Warmed39.refl s, rfl⟩ trivial
  refine ⟨n, _, h1, h2, h3, hpost _ _ _ _ _ _ ⟨Cond.after_iff.mpr rfl, Cond.after_iff.mpr (eq_i res_at (Term.int_eval (1)) rfl), trivial⟩ ⟨hq.1, hq.2.1, (hq.2.2.sift fun y hy => Or.inr (N y hy)).mono (by decide) (by decide)⟩⟩
theorem main_1_1 : Claimed_1_1 := comes_1 fun _ _ _ _ _ _ h hF => ⟨h.1, hF⟩
theorem main_1_2 : Claimed_1_2 := comes_1 fun _ _ _ _ _ _ h hF => ⟨h.2.1, hF⟩
end Jvm.Pilot.@@N@@
namespace Jvm.Pilot.@@N@@
open Jvm Jvm.ClassFile Sem Op Lib Jvm.Free Jvm.Stand Jvm.Pilot.@@N@@.Jvm.D
/-! MADE BY PROGRAM (witnessworld.py) out of the Statement's table words and the real class files: 13 classes; the members and pool entries that the words name. The judged class is class 1, her method 1. -/
namespace start1
open Jvm.ClassFile
def u (s : String) : CpInfo := .utf8 (stringToUtf16 s)
/-- a pool by its gaps: so many unusable entries, then the entry; so many at the end -/
def gap : Nat → List CpInfo → List CpInfo
  | 0, r => r
  | n + 1, r => .unusable :: gap n r
def poolList (es : List (Nat × CpInfo)) (last : Nat) : List CpInfo := es.foldr (fun e r => gap e.1 (e.2 :: r)) (gap last [])
def pool (es : List (Nat × CpInfo)) (last : Nat) : Array CpInfo := ⟨poolList es last⟩
def fileOf (pool : Array CpInfo) (this : Nat) (attrs : Array Attribute := #[]) (ms : Array MethodInfo := #[]) (fl : Nat := 33) (sup : Nat := 0) (ifs : Array Nat := #[]) (fds : Array FieldInfo := #[]) : ClassFile where
  minorVersion := 0
  majorVersion := 65
  constantPool := pool
  accessFlags := fl
  thisClass := this
  superClass := sup
  interfaces := ifs
  fields := fds
  methods := ms
  attributes := attrs
def plain (name : String) (sup : Option ClassId) : Class where
  name := name
  kind := .ordinary
  loader := none
  accessFlags := 33
  super := sup
  interfaces := #[]
  cf := none
  fields := #[]
  methods := #[]
  instanceTypes := #[]
  staticTypes := #[]
  resolved := #[]
  callSites := []
  init := .initialized
  statics := none
  mirror := none

def pool0 : Array CpInfo := pool [(5, u "<init>"), (0, u "()V"), (1, .class_ 10), (1, u "java/lang/Object")] 113

def k0m0 : Method := { name := "<init>", desc := "()V", sig := { parameters := [], returnType := none }, accessFlags := 1, code := none }
/-- java/lang/Object -/
def k0 : Class := { plain "java/lang/Object" none with
  accessFlags := 33
  interfaces := #[]
  cf := some (fileOf pool0 8 #[] #[{ accessFlags := 1, nameIndex := 5, descriptorIndex := 6, attributes := #[] }] 33 0 #[] #[])
  fields := #[]
  methods := #[k0m0]
  instanceTypes := #[]
  staticTypes := #[]
  resolved := Array.replicate 124 none
  statics := none }

def pool1 : Array CpInfo := pool [(2, .class_ 4), (1, u "java/lang/Object"), (0, u "<init>"), (0, u "()V"), (0, .class_ 8), (0, u "com/example/gatewarden/gatewarden/diameter/ResultCode"), (0, .fieldref 7 10), (0, .nameAndType 11 12), (0, u "DIAMETER_MULTI_ROUND_AUTH"), (0, u "Lcom/example/gatewarden/gatewarden/diameter/ResultCode;"), (0, .fieldref 7 14), (0, .nameAndType 15 12), (0, u "DIAMETER_SUCCESS"), (0, .fieldref 7 17), (0, .nameAndType 18 12), (0, u "DIAMETER_LIMITED_SUCCESS"), (0, .fieldref 7 20), (0, .nameAndType 21 12), (0, u "DIAMETER_COMMAND_UNSUPPORTED"), (0, .fieldref 7 23), (0, .nameAndType 24 12), (0, u "DIAMETER_UNABLE_TO_DELIVER"), (0, .fieldref 7 26), (0, .nameAndType 27 12), (0, u "DIAMETER_REALM_NOT_SERVED"), (0, .fieldref 7 29), (0, .nameAndType 30 12), (0, u "DIAMETER_TOO_BUSY"), (0, .fieldref 7 32), (0, .nameAndType 33 12), (0, u "DIAMETER_LOOP_DETECTED"), (0, .fieldref 7 35), (0, .nameAndType 36 12), (0, u "DIAMETER_REDIRECT_INDICATION"), (0, .fieldref 7 38), (0, .nameAndType 39 12), (0, u "DIAMETER_APPLICATION_UNSUPPORTED"), (0, .fieldref 7 41), (0, .nameAndType 42 12), (0, u "DIAMETER_INVALID_HDR_BITS"), (0, .fieldref 7 44), (0, .nameAndType 45 12), (0, u "DIAMETER_INVALID_AVP_BITS"), (0, .fieldref 7 47), (0, .nameAndType 48 12), (0, u "DIAMETER_UNKNOWN_PEER"), (0, .fieldref 7 50), (0, .nameAndType 51 12), (0, u "DIAMETER_AUTHENTICATION_REJECTED"), (0, .fieldref 7 53), (0, .nameAndType 54 12), (0, u "DIAMETER_OUT_OF_SPACE"), (0, .fieldref 7 56), (0, .nameAndType 57 12), (0, u "ELECTION_LOST"), (0, .fieldref 7 59), (0, .nameAndType 60 12), (0, u "DIAMETER_AVP_UNSUPPORTED"), (0, .fieldref 7 62), (0, .nameAndType 63 12), (0, u "DIAMETER_UNKNOWN_SESSION_ID"), (0, .fieldref 7 65), (0, .nameAndType 66 12), (0, u "DIAMETER_AUTHORIZATION_REJECTED"), (0, .fieldref 7 68), (0, .nameAndType 69 12), (0, u "DIAMETER_INVALID_AVP_VALUE"), (0, .fieldref 7 71), (0, .nameAndType 72 12), (0, u "DIAMETER_MISSING_AVP"), (0, .fieldref 7 74), (0, .nameAndType 75 12), (0, u "DIAMETER_RESOURCES_EXCEEDED"), (0, .fieldref 7 77), (0, .nameAndType 78 12), (0, u "DIAMETER_CONTRADICTING_AVPS"), (0, .fieldref 7 80), (0, .nameAndType 81 12), (0, u "DIAMETER_AVP_NOT_ALLOWED"), (0, .fieldref 7 83), (0, .nameAndType 84 12), (0, u "DIAMETER_AVP_OCCURS_TOO_MANY_TIMES"), (0, .fieldref 7 86), (0, .nameAndType 87 12), (0, u "DIAMETER_NO_COMMON_APPLICATION"), (0, .fieldref 7 89), (0, .nameAndType 90 12), (0, u "DIAMETER_UNSUPPORTED_VERSION"), (0, .fieldref 7 92), (0, .nameAndType 93 12), (0, u "DIAMETER_UNABLE_TO_COMPLY"), (0, .fieldref 7 95), (0, .nameAndType 96 12), (0, u "DIAMETER_INVALID_BIT_IN_HEADER"), (0, .fieldref 7 98), (0, .nameAndType 99 12), (0, u "DIAMETER_INVALID_AVP_LENGTH"), (0, .fieldref 7 101), (0, .nameAndType 102 12), (0, u "DIAMETER_INVALID_MESSAGE_LENGTH"), (0, .fieldref 7 104), (0, .nameAndType 105 12), (0, u "DIAMETER_INVALID_AVP_BIT_COMBO"), (0, .fieldref 7 107), (0, .nameAndType 108 12), (0, u "DIAMETER_NO_COMMON_SECURITY"), (0, .integer 2147483647), (0, .methodref 7 111), (0, .nameAndType 112 113), (0, u "isProtocolError"), (0, u "()Z"), (0, .class_ 115), (0, u "com/example/gatewarden/gatewarden/diameter/ResultCodeIsProtocolErrorPinLaw"), (2, u "law"), (0, u "(I)Z")] 5

def k1m0 : Method := { name := "<init>", desc := "()V", sig := { parameters := [], returnType := none }, accessFlags := 1, code := none }
def k1c1 : Code := { maxStack := 4, maxLocals := 4, code := code, exceptionTable := #[], attributes := #[] }
def k1m1 : Method := { name := "law", desc := "(I)Z", sig := { parameters := [.int], returnType := some .boolean }, accessFlags := 9, code := some k1c1 }
/-- com/example/gatewarden/gatewarden/diameter/ResultCodeIsProtocolErrorPinLaw -/
def k1 : Class := { plain "com/example/gatewarden/gatewarden/diameter/ResultCodeIsProtocolErrorPinLaw" (some 0) with
  accessFlags := 49
  interfaces := #[]
  cf := some (fileOf pool1 114 #[] #[{ accessFlags := 1, nameIndex := 5, descriptorIndex := 6, attributes := #[] }, { accessFlags := 9, nameIndex := 118, descriptorIndex := 119, attributes := #[] }] 49 2 #[] #[])
  fields := #[]
  methods := #[k1m0, k1m1]
  instanceTypes := #[]
  staticTypes := #[]
  resolved := Array.replicate 125 none
  statics := none }

def pool2 : Array CpInfo := pool [(1, .class_ 2), (0, u "java/lang/constant/Constable"), (0, .class_ 4), (0, u "java/lang/Object")] 6

/-- java/lang/constant/Constable -/
def k2 : Class := { plain "java/lang/constant/Constable" (some 0) with
  accessFlags := 1537
  interfaces := #[]
  cf := some (fileOf pool2 1 #[] #[] 1537 3 #[] #[])
  fields := #[]
  methods := #[]
  instanceTypes := #[]
  staticTypes := #[]
  resolved := Array.replicate 11 none
  statics := none }

def pool3 : Array CpInfo := pool [(1, .class_ 2), (0, u "java/lang/Comparable"), (0, .class_ 4), (0, u "java/lang/Object")] 7

/-- java/lang/Comparable -/
def k3 : Class := { plain "java/lang/Comparable" (some 0) with
  accessFlags := 1537
  interfaces := #[]
  cf := some (fileOf pool3 1 #[] #[] 1537 3 #[] #[])
  fields := #[]
  methods := #[]
  instanceTypes := #[]
  staticTypes := #[]
  resolved := Array.replicate 12 none
  statics := none }

def pool4 : Array CpInfo := pool [(1, .class_ 2), (0, u "java/io/Serializable"), (0, .class_ 4), (0, u "java/lang/Object")] 2

/-- java/io/Serializable -/
def k4 : Class := { plain "java/io/Serializable" (some 0) with
  accessFlags := 1537
  interfaces := #[]
  cf := some (fileOf pool4 1 #[] #[] 1537 3 #[] #[])
  fields := #[]
  methods := #[]
  instanceTypes := #[]
  staticTypes := #[]
  resolved := Array.replicate 7 none
  statics := none }

def pool5 : Array CpInfo := pool [(2, .class_ 4), (1, u "java/lang/Enum"), (0, u "name"), (0, u "Ljava/lang/String;"), (2, u "ordinal"), (0, u "I"), (1, .class_ 14), (1, u "java/lang/Object"), (4, u "hash"), (86, .class_ 108), (1, u "java/lang/Enum$EnumDesc"), (2, .class_ 112), (0, u "java/lang/constant/Constable"), (0, .class_ 114), (0, u "java/lang/Comparable"), (0, .class_ 116), (0, u "java/io/Serializable")] 87

/-- java/lang/Enum -/
def k5 : Class := { plain "java/lang/Enum" (some 0) with
  accessFlags := 1057
  interfaces := #[2, 3, 4]
  cf := some (fileOf pool5 2 #[.nestMembers #[106]] #[] 1057 12 #[111, 113, 115] #[{ accessFlags := 18, nameIndex := 5, descriptorIndex := 6, attributes := #[] }, { accessFlags := 18, nameIndex := 9, descriptorIndex := 10, attributes := #[] }, { accessFlags := 2, nameIndex := 19, descriptorIndex := 10, attributes := #[] }])
  fields := #[{ name := "name", type := (.object "java/lang/String"), accessFlags := 18, slot := 0, constantValue := 0 }, { name := "ordinal", type := .int, accessFlags := 18, slot := 1, constantValue := 0 }, { name := "hash", type := .int, accessFlags := 2, slot := 2, constantValue := 0 }]
  methods := #[]
  instanceTypes := #[(.object "java/lang/String"), .int, .int]
  staticTypes := #[]
  resolved := Array.replicate 204 none
  statics := none }

def pool6 : Array CpInfo := pool [(1, .class_ 2), (0, u "com/example/gatewarden/gatewarden/diameter/ResultCode"), (2, u "DIAMETER_MULTI_ROUND_AUTH"), (0, u "Lcom/example/gatewarden/gatewarden/diameter/ResultCode;"), (2, u "DIAMETER_SUCCESS"), (2, u "DIAMETER_LIMITED_SUCCESS"), (2, u "DIAMETER_COMMAND_UNSUPPORTED"), (2, u "DIAMETER_UNABLE_TO_DELIVER"), (2, u "DIAMETER_REALM_NOT_SERVED"), (2, u "DIAMETER_TOO_BUSY"), (2, u "DIAMETER_LOOP_DETECTED"), (2, u "DIAMETER_REDIRECT_INDICATION"), (2, u "DIAMETER_APPLICATION_UNSUPPORTED"), (2, u "DIAMETER_INVALID_HDR_BITS"), (2, u "DIAMETER_INVALID_AVP_BITS"), (2, u "DIAMETER_UNKNOWN_PEER"), (2, u "DIAMETER_AUTHENTICATION_REJECTED"), (2, u "DIAMETER_OUT_OF_SPACE"), (2, u "ELECTION_LOST"), (2, u "DIAMETER_AVP_UNSUPPORTED"), (2, u "DIAMETER_UNKNOWN_SESSION_ID"), (2, u "DIAMETER_AUTHORIZATION_REJECTED"), (2, u "DIAMETER_INVALID_AVP_VALUE"), (2, u "DIAMETER_MISSING_AVP"), (2, u "DIAMETER_RESOURCES_EXCEEDED"), (2, u "DIAMETER_CONTRADICTING_AVPS"), (2, u "DIAMETER_AVP_NOT_ALLOWED"), (2, u "DIAMETER_AVP_OCCURS_TOO_MANY_TIMES"), (2, u "DIAMETER_NO_COMMON_APPLICATION"), (2, u "DIAMETER_UNSUPPORTED_VERSION"), (2, u "DIAMETER_UNABLE_TO_COMPLY"), (2, u "DIAMETER_INVALID_BIT_IN_HEADER"), (2, u "DIAMETER_INVALID_AVP_LENGTH"), (2, u "DIAMETER_INVALID_MESSAGE_LENGTH"), (2, u "DIAMETER_INVALID_AVP_BIT_COMBO"), (2, u "DIAMETER_NO_COMMON_SECURITY"), (2, u "$VALUES"), (0, u "[Lcom/example/gatewarden/gatewarden/diameter/ResultCode;"), (6, .class_ 115), (1, u "java/lang/Enum"), (6, .fieldref 1 123), (0, .nameAndType 124 125), (0, u "code"), (0, u "J"), (0, .long 3000), (1, .long 4000), (128, u "isProtocolError"), (0, u "()Z")] 8

def k6c0 : Code := { maxStack := 4, maxLocals := 1, code := prog_41_method_5_code, exceptionTable := #[], attributes := #[] }
def k6m0 : Method := { name := "isProtocolError", desc := "()Z", sig := { parameters := [], returnType := some .boolean }, accessFlags := 1, code := some k6c0 }
/-- com/example/gatewarden/gatewarden/diameter/ResultCode -/
def k6 : Class := { plain "com/example/gatewarden/gatewarden/diameter/ResultCode" (some 5) with
  accessFlags := 16433
  interfaces := #[]
  cf := some (fileOf pool6 1 #[] #[{ accessFlags := 1, nameIndex := 257, descriptorIndex := 258, attributes := #[] }] 16433 113 #[] #[{ accessFlags := 16409, nameIndex := 5, descriptorIndex := 6, attributes := #[] }, { accessFlags := 16409, nameIndex := 9, descriptorIndex := 6, attributes := #[] }, { accessFlags := 16409, nameIndex := 12, descriptorIndex := 6, attributes := #[] }, { accessFlags := 16409, nameIndex := 15, descriptorIndex := 6, attributes := #[] }, { accessFlags := 16409, nameIndex := 18, descriptorIndex := 6, attributes := #[] }, { accessFlags := 16409, nameIndex := 21, descriptorIndex := 6, attributes := #[] }, { accessFlags := 16409, nameIndex := 24, descriptorIndex := 6, attributes := #[] }, { accessFlags := 16409, nameIndex := 27, descriptorIndex := 6, attributes := #[] }, { accessFlags := 16409, nameIndex := 30, descriptorIndex := 6, attributes := #[] }, { accessFlags := 16409, nameIndex := 33, descriptorIndex := 6, attributes := #[] }, { accessFlags := 16409, nameIndex := 36, descriptorIndex := 6, attributes := #[] }, { accessFlags := 16409, nameIndex := 39, descriptorIndex := 6, attributes := #[] }, { accessFlags := 16409, nameIndex := 42, descriptorIndex := 6, attributes := #[] }, { accessFlags := 16409, nameIndex := 45, descriptorIndex := 6, attributes := #[] }, { accessFlags := 16409, nameIndex := 48, descriptorIndex := 6, attributes := #[] }, { accessFlags := 16409, nameIndex := 51, descriptorIndex := 6, attributes := #[] }, { accessFlags := 16409, nameIndex := 54, descriptorIndex := 6, attributes := #[] }, { accessFlags := 16409, nameIndex := 57, descriptorIndex := 6, attributes := #[] }, { accessFlags := 16409, nameIndex := 60, descriptorIndex := 6, attributes := #[] }, { accessFlags := 16409, nameIndex := 63, descriptorIndex := 6, attributes := #[] }, { accessFlags := 16409, nameIndex := 66, descriptorIndex := 6, attributes := #[] }, { accessFlags := 16409, nameIndex := 69, descriptorIndex := 6, attributes := #[] }, { accessFlags := 16409, nameIndex := 72, descriptorIndex := 6, attributes := #[] }, { accessFlags := 16409, nameIndex := 75, descriptorIndex := 6, attributes := #[] }, { accessFlags := 16409, nameIndex := 78, descriptorIndex := 6, attributes := #[] }, { accessFlags := 16409, nameIndex := 81, descriptorIndex := 6, attributes := #[] }, { accessFlags := 16409, nameIndex := 84, descriptorIndex := 6, attributes := #[] }, { accessFlags := 16409, nameIndex := 87, descriptorIndex := 6, attributes := #[] }, { accessFlags := 16409, nameIndex := 90, descriptorIndex := 6, attributes := #[] }, { accessFlags := 16409, nameIndex := 93, descriptorIndex := 6, attributes := #[] }, { accessFlags := 16409, nameIndex := 96, descriptorIndex := 6, attributes := #[] }, { accessFlags := 16409, nameIndex := 99, descriptorIndex := 6, attributes := #[] }, { accessFlags := 16409, nameIndex := 102, descriptorIndex := 6, attributes := #[] }, { accessFlags := 18, nameIndex := 124, descriptorIndex := 125, attributes := #[] }, { accessFlags := 4122, nameIndex := 105, descriptorIndex := 106, attributes := #[] }])
  fields := #[{ name := "DIAMETER_MULTI_ROUND_AUTH", type := (.object "com/example/gatewarden/gatewarden/diameter/ResultCode"), accessFlags := 16409, slot := 0, constantValue := 0 }, { name := "DIAMETER_SUCCESS", type := (.object "com/example/gatewarden/gatewarden/diameter/ResultCode"), accessFlags := 16409, slot := 1, constantValue := 0 }, { name := "DIAMETER_LIMITED_SUCCESS", type := (.object "com/example/gatewarden/gatewarden/diameter/ResultCode"), accessFlags := 16409, slot := 2, constantValue := 0 }, { name := "DIAMETER_COMMAND_UNSUPPORTED", type := (.object "com/example/gatewarden/gatewarden/diameter/ResultCode"), accessFlags := 16409, slot := 3, constantValue := 0 }, { name := "DIAMETER_UNABLE_TO_DELIVER", type := (.object "com/example/gatewarden/gatewarden/diameter/ResultCode"), accessFlags := 16409, slot := 4, constantValue := 0 }, { name := "DIAMETER_REALM_NOT_SERVED", type := (.object "com/example/gatewarden/gatewarden/diameter/ResultCode"), accessFlags := 16409, slot := 5, constantValue := 0 }, { name := "DIAMETER_TOO_BUSY", type := (.object "com/example/gatewarden/gatewarden/diameter/ResultCode"), accessFlags := 16409, slot := 6, constantValue := 0 }, { name := "DIAMETER_LOOP_DETECTED", type := (.object "com/example/gatewarden/gatewarden/diameter/ResultCode"), accessFlags := 16409, slot := 7, constantValue := 0 }, { name := "DIAMETER_REDIRECT_INDICATION", type := (.object "com/example/gatewarden/gatewarden/diameter/ResultCode"), accessFlags := 16409, slot := 8, constantValue := 0 }, { name := "DIAMETER_APPLICATION_UNSUPPORTED", type := (.object "com/example/gatewarden/gatewarden/diameter/ResultCode"), accessFlags := 16409, slot := 9, constantValue := 0 }, { name := "DIAMETER_INVALID_HDR_BITS", type := (.object "com/example/gatewarden/gatewarden/diameter/ResultCode"), accessFlags := 16409, slot := 10, constantValue := 0 }, { name := "DIAMETER_INVALID_AVP_BITS", type := (.object "com/example/gatewarden/gatewarden/diameter/ResultCode"), accessFlags := 16409, slot := 11, constantValue := 0 }, { name := "DIAMETER_UNKNOWN_PEER", type := (.object "com/example/gatewarden/gatewarden/diameter/ResultCode"), accessFlags := 16409, slot := 12, constantValue := 0 }, { name := "DIAMETER_AUTHENTICATION_REJECTED", type := (.object "com/example/gatewarden/gatewarden/diameter/ResultCode"), accessFlags := 16409, slot := 13, constantValue := 0 }, { name := "DIAMETER_OUT_OF_SPACE", type := (.object "com/example/gatewarden/gatewarden/diameter/ResultCode"), accessFlags := 16409, slot := 14, constantValue := 0 }, { name := "ELECTION_LOST", type := (.object "com/example/gatewarden/gatewarden/diameter/ResultCode"), accessFlags := 16409, slot := 15, constantValue := 0 }, { name := "DIAMETER_AVP_UNSUPPORTED", type := (.object "com/example/gatewarden/gatewarden/diameter/ResultCode"), accessFlags := 16409, slot := 16, constantValue := 0 }, { name := "DIAMETER_UNKNOWN_SESSION_ID", type := (.object "com/example/gatewarden/gatewarden/diameter/ResultCode"), accessFlags := 16409, slot := 17, constantValue := 0 }, { name := "DIAMETER_AUTHORIZATION_REJECTED", type := (.object "com/example/gatewarden/gatewarden/diameter/ResultCode"), accessFlags := 16409, slot := 18, constantValue := 0 }, { name := "DIAMETER_INVALID_AVP_VALUE", type := (.object "com/example/gatewarden/gatewarden/diameter/ResultCode"), accessFlags := 16409, slot := 19, constantValue := 0 }, { name := "DIAMETER_MISSING_AVP", type := (.object "com/example/gatewarden/gatewarden/diameter/ResultCode"), accessFlags := 16409, slot := 20, constantValue := 0 }, { name := "DIAMETER_RESOURCES_EXCEEDED", type := (.object "com/example/gatewarden/gatewarden/diameter/ResultCode"), accessFlags := 16409, slot := 21, constantValue := 0 }, { name := "DIAMETER_CONTRADICTING_AVPS", type := (.object "com/example/gatewarden/gatewarden/diameter/ResultCode"), accessFlags := 16409, slot := 22, constantValue := 0 }, { name := "DIAMETER_AVP_NOT_ALLOWED", type := (.object "com/example/gatewarden/gatewarden/diameter/ResultCode"), accessFlags := 16409, slot := 23, constantValue := 0 }, { name := "DIAMETER_AVP_OCCURS_TOO_MANY_TIMES", type := (.object "com/example/gatewarden/gatewarden/diameter/ResultCode"), accessFlags := 16409, slot := 24, constantValue := 0 }, { name := "DIAMETER_NO_COMMON_APPLICATION", type := (.object "com/example/gatewarden/gatewarden/diameter/ResultCode"), accessFlags := 16409, slot := 25, constantValue := 0 }, { name := "DIAMETER_UNSUPPORTED_VERSION", type := (.object "com/example/gatewarden/gatewarden/diameter/ResultCode"), accessFlags := 16409, slot := 26, constantValue := 0 }, { name := "DIAMETER_UNABLE_TO_COMPLY", type := (.object "com/example/gatewarden/gatewarden/diameter/ResultCode"), accessFlags := 16409, slot := 27, constantValue := 0 }, { name := "DIAMETER_INVALID_BIT_IN_HEADER", type := (.object "com/example/gatewarden/gatewarden/diameter/ResultCode"), accessFlags := 16409, slot := 28, constantValue := 0 }, { name := "DIAMETER_INVALID_AVP_LENGTH", type := (.object "com/example/gatewarden/gatewarden/diameter/ResultCode"), accessFlags := 16409, slot := 29, constantValue := 0 }, { name := "DIAMETER_INVALID_MESSAGE_LENGTH", type := (.object "com/example/gatewarden/gatewarden/diameter/ResultCode"), accessFlags := 16409, slot := 30, constantValue := 0 }, { name := "DIAMETER_INVALID_AVP_BIT_COMBO", type := (.object "com/example/gatewarden/gatewarden/diameter/ResultCode"), accessFlags := 16409, slot := 31, constantValue := 0 }, { name := "DIAMETER_NO_COMMON_SECURITY", type := (.object "com/example/gatewarden/gatewarden/diameter/ResultCode"), accessFlags := 16409, slot := 32, constantValue := 0 }, { name := "code", type := .long, accessFlags := 18, slot := 3, constantValue := 0 }, { name := "$VALUES", type := (.array (.object "com/example/gatewarden/gatewarden/diameter/ResultCode")), accessFlags := 4122, slot := 33, constantValue := 0 }]
  methods := #[k6m0]
  instanceTypes := #[(.object "java/lang/String"), .int, .int, .long]
  staticTypes := #[(.object "com/example/gatewarden/gatewarden/diameter/ResultCode"), (.object "com/example/gatewarden/gatewarden/diameter/ResultCode"), (.object "com/example/gatewarden/gatewarden/diameter/ResultCode"), (.object "com/example/gatewarden/gatewarden/diameter/ResultCode"), (.object "com/example/gatewarden/gatewarden/diameter/ResultCode"), (.object "com/example/gatewarden/gatewarden/diameter/ResultCode"), (.object "com/example/gatewarden/gatewarden/diameter/ResultCode"), (.object "com/example/gatewarden/gatewarden/diameter/ResultCode"), (.object "com/example/gatewarden/gatewarden/diameter/ResultCode"), (.object "com/example/gatewarden/gatewarden/diameter/ResultCode"), (.object "com/example/gatewarden/gatewarden/diameter/ResultCode"), (.object "com/example/gatewarden/gatewarden/diameter/ResultCode"), (.object "com/example/gatewarden/gatewarden/diameter/ResultCode"), (.object "com/example/gatewarden/gatewarden/diameter/ResultCode"), (.object "com/example/gatewarden/gatewarden/diameter/ResultCode"), (.object "com/example/gatewarden/gatewarden/diameter/ResultCode"), (.object "com/example/gatewarden/gatewarden/diameter/ResultCode"), (.object "com/example/gatewarden/gatewarden/diameter/ResultCode"), (.object "com/example/gatewarden/gatewarden/diameter/ResultCode"), (.object "com/example/gatewarden/gatewarden/diameter/ResultCode"), (.object "com/example/gatewarden/gatewarden/diameter/ResultCode"), (.object "com/example/gatewarden/gatewarden/diameter/ResultCode"), (.object "com/example/gatewarden/gatewarden/diameter/ResultCode"), (.object "com/example/gatewarden/gatewarden/diameter/ResultCode"), (.object "com/example/gatewarden/gatewarden/diameter/ResultCode"), (.object "com/example/gatewarden/gatewarden/diameter/ResultCode"), (.object "com/example/gatewarden/gatewarden/diameter/ResultCode"), (.object "com/example/gatewarden/gatewarden/diameter/ResultCode"), (.object "com/example/gatewarden/gatewarden/diameter/ResultCode"), (.object "com/example/gatewarden/gatewarden/diameter/ResultCode"), (.object "com/example/gatewarden/gatewarden/diameter/ResultCode"), (.object "com/example/gatewarden/gatewarden/diameter/ResultCode"), (.object "com/example/gatewarden/gatewarden/diameter/ResultCode"), (.array (.object "com/example/gatewarden/gatewarden/diameter/ResultCode"))]
  resolved := Array.replicate 267 none
  statics := some 0 }

def pool7 : Array CpInfo := pool [(1, u "java/lang/Cloneable"), (0, .class_ 1), (0, u "java/lang/Object"), (0, .class_ 3)] 3

/-- java/lang/Cloneable -/
def k7 : Class := { plain "java/lang/Cloneable" (some 0) with
  accessFlags := 1537
  interfaces := #[]
  cf := some (fileOf pool7 2 #[] #[] 1537 4 #[] #[])
  fields := #[]
  methods := #[]
  instanceTypes := #[]
  staticTypes := #[]
  resolved := Array.replicate 8 none
  statics := none }

/-- the primitive byte -/
def k8 : Class := { plain "byte" none with kind := .primitive 'B', accessFlags := 0x411 }
/-- [B -/
def k9 : Class := { plain "[B" (some 0) with kind := .array 8 .byte, interfaces := #[7, 4], accessFlags := 1041 }

/-- the primitive int -/
def k10 : Class := { plain "int" none with kind := .primitive 'I', accessFlags := 0x411 }
/-- [I -/
def k11 : Class := { plain "[I" (some 0) with kind := .array 10 .int, interfaces := #[7, 4], accessFlags := 1041 }

/-- [Lcom/example/gatewarden/gatewarden/diameter/ResultCode; -/
def k12 : Class := { plain "[Lcom/example/gatewarden/gatewarden/diameter/ResultCode;" (some 0) with kind := .array 6 (.object "com/example/gatewarden/gatewarden/diameter/ResultCode"), interfaces := #[7, 4], accessFlags := 1041 }

def heap : Heap := #[{ cls := 6, slots := #[.ref 1, .ref 2, .ref 3, .ref 4, .ref 5, .ref 6, .ref 7, .ref 8, .ref 9, .ref 10, .ref 11, .ref 12, .ref 13, .ref 14, .ref 15, .ref 16, .ref 17, .ref 18, .ref 19, .ref 20, .ref 21, .ref 22, .ref 23, .ref 24, .ref 25, .ref 26, .ref 27, .ref 28, .ref 29, .ref 30, .ref 31, .ref 32, .ref 33, .null], vm := .statics 6 },
  { cls := 6, slots := #[.null, .int 0, .int 0, .long 1001], vm := .none },
  { cls := 6, slots := #[.null, .int 1, .int 0, .long 2001], vm := .none },
  { cls := 6, slots := #[.null, .int 2, .int 0, .long 2002], vm := .none },
  { cls := 6, slots := #[.null, .int 3, .int 0, .long 3001], vm := .none },
  { cls := 6, slots := #[.null, .int 4, .int 0, .long 3002], vm := .none },
  { cls := 6, slots := #[.null, .int 5, .int 0, .long 3003], vm := .none },
  { cls := 6, slots := #[.null, .int 6, .int 0, .long 3004], vm := .none },
  { cls := 6, slots := #[.null, .int 7, .int 0, .long 3005], vm := .none },
  { cls := 6, slots := #[.null, .int 8, .int 0, .long 3006], vm := .none },
  { cls := 6, slots := #[.null, .int 9, .int 0, .long 3007], vm := .none },
  { cls := 6, slots := #[.null, .int 10, .int 0, .long 3008], vm := .none },
  { cls := 6, slots := #[.null, .int 11, .int 0, .long 3009], vm := .none },
  { cls := 6, slots := #[.null, .int 12, .int 0, .long 3010], vm := .none },
  { cls := 6, slots := #[.null, .int 13, .int 0, .long 4001], vm := .none },
  { cls := 6, slots := #[.null, .int 14, .int 0, .long 4002], vm := .none },
  { cls := 6, slots := #[.null, .int 15, .int 0, .long 4003], vm := .none },
  { cls := 6, slots := #[.null, .int 16, .int 0, .long 5001], vm := .none },
  { cls := 6, slots := #[.null, .int 17, .int 0, .long 5002], vm := .none },
  { cls := 6, slots := #[.null, .int 18, .int 0, .long 5003], vm := .none },
  { cls := 6, slots := #[.null, .int 19, .int 0, .long 5004], vm := .none },
  { cls := 6, slots := #[.null, .int 20, .int 0, .long 5005], vm := .none },
  { cls := 6, slots := #[.null, .int 21, .int 0, .long 5006], vm := .none },
  { cls := 6, slots := #[.null, .int 22, .int 0, .long 5007], vm := .none },
  { cls := 6, slots := #[.null, .int 23, .int 0, .long 5008], vm := .none },
  { cls := 6, slots := #[.null, .int 24, .int 0, .long 5009], vm := .none },
  { cls := 6, slots := #[.null, .int 25, .int 0, .long 5010], vm := .none },
  { cls := 6, slots := #[.null, .int 26, .int 0, .long 5011], vm := .none },
  { cls := 6, slots := #[.null, .int 27, .int 0, .long 5012], vm := .none },
  { cls := 6, slots := #[.null, .int 28, .int 0, .long 5013], vm := .none },
  { cls := 6, slots := #[.null, .int 29, .int 0, .long 5014], vm := .none },
  { cls := 6, slots := #[.null, .int 30, .int 0, .long 5015], vm := .none },
  { cls := 6, slots := #[.null, .int 31, .int 0, .long 5016], vm := .none },
  { cls := 6, slots := #[.null, .int 32, .int 0, .long 5017], vm := .none }]
def classes : Array Class := #[k0, k1, k2, k3, k4, k5, k6, k7, k8, k9, k10, k11, k12]
def interned : List (Array UInt16 × Addr) := []
def slotsUsed : Nat := 166
def theMethod : MethodId := ⟨1, 1⟩
def args0 : Array Value := #[.int 5]
def aboutOver (below : List Frame) : State where
  vm := { classes := classes, interned := interned.toArray }
  heap := heap
  slotsUsed := slotsUsed
  threads := #[{ frames := .invoking theMethod args0 :: below }]
def below0 : List Frame := [.native { method := ⟨0, 0⟩, args := #[] }]
def about1 : State := aboutOver below0
def p0 : Program := .bare "" "" ""
def e0 : Env := launch0.env 0 0 0
theorem w_frames : about1.frames = Frame.invoking theMethod args0 :: below0 := rfl
set_option maxRecDepth 65536 in
theorem w_args : argsFit about1.vm theMethod args0 = true := by decide +kernel
set_option maxRecDepth 65536 in
theorem w_heap : heapFits about1 = true := by decide +kernel
set_option maxRecDepth 65536 in
theorem w_runnable : about1.curStatus? = some .runnable := by decide +kernel
set_option maxRecDepth 65536 in
theorem w_alone : about1.alone = true := by decide +kernel
set_option maxRecDepth 65536 in
theorem w_named : about1.methodNamed? x = some theMethod := by decide +kernel
set_option maxRecDepth 65536 in
theorem w_hears : about1.hears theMethod below0 = true := by decide +kernel
set_option maxRecDepth 65536 in
theorem w_ripe : about1.ripe theMethod args0 below0 = true := by decide +kernel
theorem w_running : about1.status = .running := rfl
set_option maxRecDepth 65536 in
theorem w_room : about1.hasRoom e0.platform room_1 = true :=
  launch0.hasRoom_least _ room_1 (by decide +kernel) (by decide +kernel) (by decide +kernel) (by decide +kernel) (by decide +kernel) (by decide +kernel)
theorem allAtoms_all (ts : List Jvm.Cond) (a : Array Jvm.Value) (st : Jvm.State) : (allAtoms ts).before a st = ts.all (fun c => c.before a st) := by
  induction ts with
  | nil => rfl
  | cons c t ih =>
    show (Jvm.Cond.and c (allAtoms t)).before a st = _
    rw [Jvm.Cond.before_and, ih, List.all_cons]
def words1 : List Jvm.Cond := Jvm.Cond.code x code maxLocals ret :: tables_1
/-- a 'code' word, met by the world's own term for the bytes: nothing is compared byte by byte -/
theorem code_word {y : MethodName} {bytes : ByteArray} {mx : Nat} {rt : Option FieldType} {a : Array Value} {s : State} {m : MethodId} {meth : Method} {c : Code} (h1 : s.methodNamed? y = some m) (h2 : s.vm.method? m = some meth) (h3 : meth.code = some c) (h4 : c.code = bytes)
    (h5 : (c.maxLocals == mx && c.exceptionTable.isEmpty && decide (c.maxStack ≤ mostOperands) && decide (meth.sig.returnType = rt) && !meth.locks && decide (parseMethodDescriptor y.desc = some meth.sig)) = true) : (Jvm.Cond.code y bytes mx rt).before a s = true := by
  simp only [Bool.and_eq_true, beq_iff_eq, Bool.not_eq_true', decide_eq_true_eq] at h5
  obtain ⟨⟨⟨⟨⟨g1, g2⟩, g3⟩, g4⟩, g5⟩, g6⟩ := h5
  simp [Cond.before, Cond.holds, Cond.value, h1, h2, h3, h4, g1, g2, g3, g4, g5, g6]
def isCode : Jvm.Cond → Bool
  | .code _ _ _ _ => true
  | _ => false
theorem all_split {L : List Jvm.Cond} {P : Jvm.Cond → Bool} (h1 : L.all (fun c => isCode c || P c) = true) (h2 : ∀ c ∈ L.filter isCode, P c = true) : L.all P = true := by
  refine List.all_eq_true.mpr fun c hc => ?_
  have h := List.all_eq_true.mp h1 c hc
  rcases Bool.eq_false_or_eq_true (isCode c) with hi | hi
  · exact h2 c (List.mem_filter.mpr ⟨hc, hi⟩)
  · simpa [hi] using h
set_option maxRecDepth 65536 in
theorem w_c0 : (Jvm.Cond.code x code maxLocals ret).before args0 about1 = true := code_word (m := ⟨1, 1⟩) (meth := k1m1) (c := k1c1) (by decide +kernel) rfl rfl rfl (by decide +kernel)
set_option maxRecDepth 65536 in
theorem w_c1 : (Jvm.Cond.code ({ cls := "com/example/gatewarden/gatewarden/diameter/ResultCode", name := "isProtocolError", desc := "()Z" } : Jvm.MethodName) prog_41_method_5_code (1 : Nat) (Option.some Jvm.ClassFile.FieldType.boolean)).before args0 about1 = true := code_word (m := ⟨6, 0⟩) (meth := k6m0) (c := k6c0) (by decide +kernel) rfl rfl rfl (by decide +kernel)
def codes1 : List Jvm.Cond := [Jvm.Cond.code x code maxLocals ret, Jvm.Cond.code ({ cls := "com/example/gatewarden/gatewarden/diameter/ResultCode", name := "isProtocolError", desc := "()Z" } : Jvm.MethodName) prog_41_method_5_code (1 : Nat) (Option.some Jvm.ClassFile.FieldType.boolean)]
set_option maxRecDepth 65536 in
theorem codes_eq : words1.filter isCode = codes1 := rfl
theorem w_codes : ∀ c ∈ words1.filter isCode, c.before args0 about1 = true := by
  rw [codes_eq]
  intro c hc
  simp only [codes1, List.mem_cons, List.not_mem_nil, or_false] at hc
  rcases hc with rfl | rfl
  · exact w_c0
  · exact w_c1
set_option maxRecDepth 65536 in
theorem w_t1 : (words1.take 24).all (fun c => isCode c || c.before args0 about1) = true := by decide +kernel
set_option maxRecDepth 65536 in
theorem w_t2 : ((words1.drop 24).take 24).all (fun c => isCode c || c.before args0 about1) = true := by decide +kernel
set_option maxRecDepth 65536 in
theorem w_t3 : (((words1.drop 24).drop 24).take 24).all (fun c => isCode c || c.before args0 about1) = true := by decide +kernel
set_option maxRecDepth 65536 in
theorem w_t4 : (((words1.drop 24).drop 24).drop 24).all (fun c => isCode c || c.before args0 about1) = true := by decide +kernel
theorem w_tables : (allAtoms (Jvm.Cond.code x code maxLocals ret :: tables_1)).before args0 about1 = true := by
  rw [allAtoms_all]
  show words1.all (fun c => c.before args0 about1) = true
  refine all_split ?_ w_codes
  rw [← List.take_append_drop 24 words1, List.all_append, w_t1, ← List.take_append_drop 24 (words1.drop 24), List.all_append, w_t2, ← List.take_append_drop 24 ((words1.drop 24).drop 24), List.all_append, w_t3, w_t4]
  rfl
set_option maxRecDepth 65536 in
theorem w_case : (Jvm.Cond.and given_1 narrow_1).before args0 about1 = true := by decide +kernel
theorem w_applies : (headSpec (Jvm.Cond.code x code maxLocals ret :: tables_1) room_1).applies x e0.platform about1 = true :=
  (Spec.applies_iff w_frames).mpr ⟨w_running, w_runnable, w_alone, w_named, w_hears, w_ripe, w_room, w_tables⟩
theorem atStart : AtStart classFile x code maxLocals ret World_1 tables_1 room_1 Calls_1 rest_1 Pre_1 launch0 p0 e0 about1 theMethod args0 below0 :=
  ⟨lists_1, trivial, launch0.admits_env _ _ _, launch0.least_env, fairChoices_fair.cas, fairChoices_fair.clock, w_frames, w_args, w_heap, w_applies, trivial, trivial, w_case⟩
end start1
theorem witness_1 : WitnessClaimed_1 := ⟨start1.p0, start1.e0, start1.about1, start1.theMethod, start1.args0, start1.below0, start1.atStart⟩
end Jvm.Pilot.@@N@@
