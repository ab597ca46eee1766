import JvmDerived
import JvmDerived.Pilot.@@N@@Statement
import JvmDerived.Pilot.@@N@@Code
set_option linter.unusedVariables false
set_option linter.unusedSimpArgs false
namespace Jvm.Pilot.@@N@@
open Jvm Jvm.ClassFile Sem Op Lib Jvm.Free Jvm.Stand Jvm.LawKit Jvm.RoadKit Bundle Jvm.Pilot.@@N@@.Jvm.D
def own_usr (x y : Int32) : Int32 := (x.toUInt32 >>> (y &&& 31).toUInt32).toInt32
def own_usrL (x : Int64) (y : Int32) : Int64 := (x.toUInt64 >>> (y &&& 0x3f).toInt64.toUInt64).toInt64
/-- where the run came from, where it stands -/
def Go (p : Program) (e : Env) (below : List Frame) (A B : State) : Prop := ∀ t, Steps p.tables e below B t → Steps p.tables e below A t
theorem Go.step {p : Program} {e : Env} {below : List Frame} {A B C : State} (g : Go p e below A B) (h : ∀ t, Steps p.tables e below C t → Steps p.tables e below B t) : Go p e below A C := fun t k => g t (h t k)
theorem Go.tr {p : Program} {e : Env} {below : List Frame} {A B C : State} (g : Go p e below A B) (h : Steps p.tables e below B C) : Go p e below A C := fun t k => g t (h.trans k)
section Rets
variable {p : Program} {l : Launch} {e : Env} {R : Room} {s : State} {m : MethodId} {args : Array Value} {below : List Frame} {meth : Method} {c : Code} {T : State} {locs : List Loc} {cells slots : Nat}
theorem own_retI (X : Stand p l e R s m args below meth c T locs cells slots) (hx : p.tables.exec = Jvm.exec) {pc : Nat} {Ls : Array Slot} {z : Int32} {rest : List Value} (hret : meth.sig.returnType = some .int) (hd : decode c.code pc = .ok (.ireturn, 1)) {fs : List Frame}
    (hl : ∀ (f : JFrame) (acts : List Action), f.method = m → f.locked = none → f.entered = [] → (doReturn e (T.setTop f) acts (some (.int z))).1 = T.setFrames fs) : Steps p.tables e below (T.setTop (mkF m pc Ls (.int z :: rest))) (T.setFrames fs) :=
  retOut X hx (t := .int) hret rfl (Or.inl ⟨rfl, Or.inl rfl, z, rfl⟩) hd hl
theorem own_retL (X : Stand p l e R s m args below meth c T locs cells slots) (hx : p.tables.exec = Jvm.exec) {pc : Nat} {Ls : Array Slot} {z : Int64} {rest : List Value} (hret : meth.sig.returnType = some .long) (hd : decode c.code pc = .ok (.lreturn, 1)) {fs : List Frame}
    (hl : ∀ (f : JFrame) (acts : List Action), f.method = m → f.locked = none → f.entered = [] → (doReturn e (T.setTop f) acts (some (.long z))).1 = T.setFrames fs) : Steps p.tables e below (T.setTop (mkF m pc Ls (.long z :: rest))) (T.setFrames fs) :=
  retOut X hx (t := .long) hret rfl (Or.inr (Or.inl ⟨rfl, rfl, z, rfl⟩)) hd hl
theorem own_retA (X : Stand p l e R s m args below meth c T locs cells slots) (hx : p.tables.exec = Jvm.exec) {t : FieldType} {pc : Nat} {Ls : Array Slot} {z : Addr} {rest : List Value} (hret : meth.sig.returnType = some t) (ht : t.isReference = true) (hn : narrow t (.ref z) = .ref z) (hd : decode c.code pc = .ok (.areturn, 1)) {fs : List Frame}
    (hl : ∀ (f : JFrame) (acts : List Action), f.method = m → f.locked = none → f.entered = [] → (doReturn e (T.setTop f) acts (some (.ref z))).1 = T.setFrames fs) : Steps p.tables e below (T.setTop (mkF m pc Ls (.ref z :: rest))) (T.setFrames fs) :=
  retOut X hx hret hn (Or.inr (Or.inr (Or.inr (Or.inr ⟨rfl, ht, rfl⟩)))) hd hl
end Rets
def own_hash (f : Nat → Int32) : Nat → Nat → Int32 → Int32
  | _, 0, acc => acc
  | j, k + 1, acc => own_hash f (j + 1) k (((31 : Int32) * acc) + f j)
def own_Vs (vs : List Value) (f : Nat → Int32) : Prop := ∀ j, j < 8 → vs.getD j (.int (0 : Int32)) = .int (f j)
theorem own_in {i : Int32} {j : Nat} (h : i.toInt = (j : Int)) (hj : j < 8) : ¬ i < 0 ∧ i < (8 : Int32) := by
  have e0 : (0 : Int32).toInt = 0 := rfl
  have e7 : (8 : Int32).toInt = 8 := rfl
  rw [Int32.lt_iff_toInt_lt, Int32.lt_iff_toInt_lt, e0, e7]; omega
theorem own_rd {vs : List Value} {f : Nat → Int32} (hv : own_Vs vs f) {i : Int32} {j : Nat} (h : i.toInt = (j : Int)) (hj : j < 8) : vs.getD (i).toNatClampNeg (.int (0 : Int32)) = .int (f j) := by
  have e : i.toNatClampNeg = j := by show i.toInt.toNat = j; omega
  rw [e]; exact hv j hj
theorem own_succ {i : Int32} {j : Nat} (h : i.toInt = (j : Int)) (hj : j < 8) : (i + (1 : Int32)).toInt = ((j + 1 : Nat) : Int) := by
  have := c_iadd i 1
  have r := rng32 (i + 1)
  have e : (1 : Int32).toInt = 1 := rfl
  rw [e] at this
  omega
theorem own_lt {i e : Int32} {j k : Nat} (h : i.toInt = (j : Int)) (he : e.toInt = ((j + (k + 1) : Nat) : Int)) : i < e := by
  rw [Int32.lt_iff_toInt_lt]; omega
theorem own_nlt {i e : Int32} {j : Nat} (h : i.toInt = (j : Int)) (he : e.toInt = ((j + 0 : Nat) : Int)) : ¬ i < e := by
  rw [Int32.lt_iff_toInt_lt]; omega
theorem d2_0 : decode jdk_43_method_3_code 0 = .ok (.iload_n 0, 1) := by decide +kernel
theorem d2_1 : decode jdk_43_method_3_code 1 = .ok (.sipush 255, 3) := by decide +kernel
theorem d2_4 : decode jdk_43_method_3_code 4 = .ok (.if_icmp .gt 7, 3) := by decide +kernel
theorem d2_7 : decode jdk_43_method_3_code 7 = .ok (.iconst 1, 1) := by decide +kernel
theorem d2_8 : decode jdk_43_method_3_code 8 = .ok (.goto 4, 3) := by decide +kernel
theorem d2_12 : decode jdk_43_method_3_code 12 = .ok (.ireturn, 1) := by decide +kernel
theorem pn_rm2 : plainName "java/lang/StringLatin1" = true := by first | (simp [plainName, overriddenIn]; done) | decide +kernel
theorem ef_rm2 (m : MethodId) (p0 : Int32) : entryFrame m #[(.int p0)] 1 = mkF m 0 #[.val (.int p0)] [] := by first | (simp [entryFrame, mkF, argsToLocals, Value.category]; done) | rfl
def Q_rm2 (Z : State) (p0 : Int32) (h0 : Heap) (n0 : Nat) (v : Option Value) (h : Heap) (L : List Loc) : Prop := v = some (.int (1 : Int32)) ∧ Fr n0 L ∧ h = h0
set_option maxRecDepth 65536 in
set_option maxHeartbeats 40000000 in
theorem rm2 (l : Launch) (Z : State) (a0 : Array Value) (hw : ∀ d ∈ tables_1, d.before a0 Z = true) (ws : List Jvm.Cond) (p0 : Int32) (h0 : Heap) (n0 : Nat) (Z0 : n0 ≤ h0.size) (hp : ¬ (255 : Int32) < p0) :
    MetFree l (⟨"java/lang/StringLatin1", "canEncode", "(C)Z"⟩ : MethodName) (head1 (Jvm.Cond.code (⟨"java/lang/StringLatin1", "canEncode", "(C)Z"⟩ : MethodName) jdk_43_method_3_code 1 (some .boolean) :: ws) ({ frames := 0, cells := 0, slots := 0, locals := 0 } : Room)) (fun a U => a = #[(.int p0)] ∧ Z.Warmed39 U.vm ∧ U.heap = h0) (fun _ _ _ _ _ => True) (fun _ U o U' => ∃ v L, o = .returned v ∧ Q_rm2 Z p0 h0 n0 v U'.heap L ∧ FrameEnd U o U' L ({ frames := 0, cells := 0, slots := 0, locals := 0 } : Room).cells ({ frames := 0, cells := 0, slots := 0, locals := 0 } : Room).slots) := by
  refine MetFree.of_bodySF (plainFor_of_name pn_rm2) hisR ?_
  intro p e s m args below meth c s₁ Bd hml0 hP hK
  obtain ⟨rfl, hZ, hh⟩ := hP
  have hx := Bd.exec
  have hby := Bd.bytes
  have hml : c.maxLocals = 1 := hml0
  have hown : s.vm.findClass "java/lang/StringLatin1" = some m.cls := findClass_of_methodNamed Bd.named
  have hnm := (name_of_methodNamed Bd.named Bd.method).1
  have X0 : Stand p l e ({ frames := 0, cells := 0, slots := 0, locals := 0 } : Room) s m #[(.int p0)] below meth c s₁ [] 0 0 := Stand.of_body Bd
  have e0 : s₁.heap = h0 := by rw [← hh, Bd.state]; rfl
  have N0 := Fr.nil n0
  have K0 := Keep.refl h0 []
  have go0 : Go p e below (s₁.setTop (entryFrame m #[(.int p0)] 1)) (s₁.setTop (mkF m 0 #[.val (.int p0)] [])) := fun t k => castTop (ef_rm2 m p0) k
  have go2 := go0.step (C := s₁.setTop (mkF m 12 #[.val (.int p0)] [(.int (1 : Int32))])) (fun t k => by
    show Steps p.tables e below (s₁.setTop (mkF m 0 #[.val (.int p0)] [])) _
    refine XS.iloadN X0.here hx rfl (hb hby d2_0) rfl ?_
    show Steps p.tables e below (s₁.setTop (mkF m 1 #[.val (.int p0)] [(.int p0)])) _
    refine XS.sipush X0.here hx rfl (hb hby d2_1) ?_
    show Steps p.tables e below (s₁.setTop (mkF m 4 #[.val (.int p0)] [(.int (255 : Int32)), (.int p0)])) _
    refine XS.icmpNo X0.here hx rfl (hb hby d2_4) rfl (flt (hp : ¬ ((255 : Int32) < p0))).2.2.1 ?_
    show Steps p.tables e below (s₁.setTop (mkF m 7 #[.val (.int p0)] [])) _
    refine XS.iconst X0.here hx rfl (hb hby d2_7) ?_
    show Steps p.tables e below (s₁.setTop (mkF m 8 #[.val (.int p0)] [(.int (1 : Int32))])) _
    refine XS.goto X0.here hx rfl (pc0 := 8) (pc' := 12) rfl (hb hby d2_8) (by decide) (by decide) ?_
    exact k)
  obtain ⟨fs, hr, hrun, hended, hW, hsame⟩ := X0.leave (v := some (.int (1 : Int32))) (fun h => by rw [Bd.returns] at h; cases h)
  refine ⟨_, _, go2 _ ?_, hrun, hended, _, _, rfl, ?_, ⟨_, rfl⟩, hW, hsame.mono (by decide) (by decide)⟩
  · exact retN X0 hx (t := .boolean) Bd.returns (by simp) (hb hby d2_12) hr
  · show Q_rm2 Z p0 h0 n0 _ s₁.heap _
    rw [e0]
    exact ⟨rfl, N0, rfl⟩
theorem d3_0 : decode jdk_43_method_46_code 0 = .ok (.iconst 1, 1) := by decide +kernel
theorem d3_1 : decode jdk_43_method_46_code 1 = .ok (.newarray .byte, 2) := by decide +kernel
theorem d3_3 : decode jdk_43_method_46_code 3 = .ok (.dup, 1) := by decide +kernel
theorem d3_4 : decode jdk_43_method_46_code 4 = .ok (.iconst 0, 1) := by decide +kernel
theorem d3_5 : decode jdk_43_method_46_code 5 = .ok (.iload_n 0, 1) := by decide +kernel
theorem d3_6 : decode jdk_43_method_46_code 6 = .ok (.i2b, 1) := by decide +kernel
theorem d3_7 : decode jdk_43_method_46_code 7 = .ok (.bastore, 1) := by decide +kernel
theorem d3_8 : decode jdk_43_method_46_code 8 = .ok (.areturn, 1) := by decide +kernel
theorem pn_rm3 : plainName "java/lang/StringLatin1" = true := by first | (simp [plainName, overriddenIn]; done) | decide +kernel
theorem ef_rm3 (m : MethodId) (p0 : Int32) : entryFrame m #[(.int p0)] 1 = mkF m 0 #[.val (.int p0)] [] := by first | (simp [entryFrame, mkF, argsToLocals, Value.category]; done) | rfl
def Q_rm3 (Z : State) (p0 : Int32) (h0 : Heap) (n0 : Nat) (v : Option Value) (h : Heap) (L : List Loc) : Prop := ∃ b : Addr, v = some (.ref b) ∧ Fr n0 L ∧ Keep h0 h [] ∧ n0 ≤ b ∧ h0.size ≤ b
set_option maxRecDepth 65536 in
set_option maxHeartbeats 40000000 in
theorem rm3 (l : Launch) (Z : State) (a0 : Array Value) (hw : ∀ d ∈ tables_1, d.before a0 Z = true) (ws : List Jvm.Cond) (p0 : Int32) (h0 : Heap) (n0 : Nat) (Z0 : n0 ≤ h0.size) :
    MetFree l (⟨"java/lang/StringLatin1", "toBytes", "(C)[B"⟩ : MethodName) (head1 (Jvm.Cond.code (⟨"java/lang/StringLatin1", "toBytes", "(C)[B"⟩ : MethodName) jdk_43_method_46_code 1 (some (.array .byte)) :: ws) ({ frames := 0, cells := 1, slots := 1, locals := 0 } : Room)) (fun a U => a = #[(.int p0)] ∧ Z.Warmed39 U.vm ∧ U.heap = h0) (fun _ _ _ _ _ => True) (fun _ U o U' => ∃ v L, o = .returned v ∧ Q_rm3 Z p0 h0 n0 v U'.heap L ∧ FrameEnd U o U' L ({ frames := 0, cells := 1, slots := 1, locals := 0 } : Room).cells ({ frames := 0, cells := 1, slots := 1, locals := 0 } : Room).slots) := by
  refine MetFree.of_bodySF (plainFor_of_name pn_rm3) hisR ?_
  intro p e s m args below meth c s₁ Bd hml0 hP hK
  obtain ⟨rfl, hZ, hh⟩ := hP
  have hx := Bd.exec
  have hby := Bd.bytes
  have hml : c.maxLocals = 1 := hml0
  have hown : s.vm.findClass "java/lang/StringLatin1" = some m.cls := findClass_of_methodNamed Bd.named
  have hnm := (name_of_methodNamed Bd.named Bd.method).1
  have X0 : Stand p l e ({ frames := 0, cells := 1, slots := 1, locals := 0 } : Room) s m #[(.int p0)] below meth c s₁ [] 0 0 := Stand.of_body Bd
  have e0 : s₁.heap = h0 := by rw [← hh, Bd.state]; rfl
  have N0 := Fr.nil n0
  have K0 := Keep.refl h0 []
  have go0 : Go p e below (s₁.setTop (entryFrame m #[(.int p0)] 1)) (s₁.setTop (mkF m 0 #[.val (.int p0)] [])) := fun t k => castTop (ef_rm3 m p0) k
  have go1 := go0.step (C := s₁.setTop (mkF m 1 #[.val (.int p0)] [(.int (1 : Int32))])) (fun t k => by
    show Steps p.tables e below (s₁.setTop (mkF m 0 #[.val (.int p0)] [])) _
    refine XS.iconst X0.here hx rfl (hb hby d3_0) ?_
    exact k)
  obtain ⟨T2, h2, k2, X2, e2, E2, A2, st2⟩ := newP X0 hx hZ (hw _ (List.mem_of_getElem? (i := 0) rfl)) e0 (g := (mkF m 1 #[.val (.int p0)] [(.int (1 : Int32))])) rfl (hb hby d3_1) rfl (by decide) (cap := 1) (by decide) (by decide) (by decide) (by decide)
  obtain ⟨b2, g2⟩ : ∃ z, z = h0.size := ⟨_, rfl⟩
  rw [← g2] at A2 st2
  have g_b2 : n0 ≤ b2 := Nat.le_trans Z0 (Nat.le_of_eq g2.symm)
  have sz_b2 : h0.size ≤ b2 := Nat.le_trans K0.1 (Nat.le_of_eq g2.symm)
  have V2 : Arv Z h2 b2 k2 .byte (1 : Int32) [(.int (0 : Int32))] (.int (0 : Int32)) := (Arv.new A2 (by decide)).pad (pad_rep [] (.int (0 : Int32)) 1)
  have Z2 : n0 ≤ h2.size := Nat.le_trans Z0 E2.1
  have K2 := K0.ext E2
  have go2 := go1.step (C := T2.setTop (mkF m 3 #[.val (.int p0)] [(.ref b2)])) (fun t k => st2 t k)
  have go3 := go2.step (C := T2.setTop (mkF m 7 #[.val (.int p0)] [(.int (p0.toInt8.toInt32)), (.int (0 : Int32)), (.ref b2), (.ref b2)])) (fun t k => by
    show Steps p.tables e below (T2.setTop (mkF m 3 #[.val (.int p0)] [(.ref b2)])) _
    refine XS.dup X2.here hx rfl (hb hby d3_3) rfl rfl ?_
    show Steps p.tables e below (T2.setTop (mkF m 4 #[.val (.int p0)] [(.ref b2), (.ref b2)])) _
    refine XS.iconst X2.here hx rfl (hb hby d3_4) ?_
    show Steps p.tables e below (T2.setTop (mkF m 5 #[.val (.int p0)] [(.int (0 : Int32)), (.ref b2), (.ref b2)])) _
    refine XS.iloadN X2.here hx rfl (hb hby d3_5) rfl ?_
    show Steps p.tables e below (T2.setTop (mkF m 6 #[.val (.int p0)] [(.int p0), (.int (0 : Int32)), (.ref b2), (.ref b2)])) _
    refine XS.i2b X2.here hx rfl (hb hby d3_6) rfl ?_
    exact k)
  have Vo4 := V2
  obtain ⟨cl4, Ar4, qa4, Sa4, Na4, Ha4, Ga4⟩ := Vo4
  have hin4 : ¬ ((0 : Int32) < 0 ∨ cl4.slots.size ≤ ((0 : Int32)).toNatClampNeg) := inb_of Sa4 ⟨by decide, by decide⟩
  obtain ⟨T5, h5, X5, e5, W5, st5⟩ := stB X2 hx hZ e2 Ar4 (j := (0 : Int32)) hin4 (g := (mkF m 7 #[.val (.int p0)] [(.int (p0.toInt8.toInt32)), (.int (0 : Int32)), (.ref b2), (.ref b2)])) rfl rfl (hb hby d3_7)
  have V5 : Arv Z h5 b2 k2 .byte (1 : Int32) [(.int (nar .byte (p0.toInt8.toInt32)))] (.int (0 : Int32)) := Arv.set Ar4 qa4 Sa4 Na4 Ha4 Ga4 (fits_nar_byte _) W5 0 rfl (Nat.le_of_ble_eq_true rfl)
  have Z5 : n0 ≤ h5.size := Nat.le_trans Z2 (Nat.le_of_eq W5.size.symm)
  have K5 := K2.wr W5 (Or.inr sz_b2)
  have N5 := Fr.snoc X5 N0 g_b2
  have go5 := go3.step (C := T5.setTop (mkF m 8 #[.val (.int p0)] [(.ref b2)])) (fun t k => st5 t k)
  obtain ⟨fs, hr, hrun, hended, hW, hsame⟩ := X5.leave (v := some (.ref b2)) (fun h => by rw [Bd.returns] at h; cases h)
  refine ⟨_, _, go5 _ ?_, hrun, hended, _, _, rfl, ?_, ⟨_, rfl⟩, hW, hsame.mono (by decide) (by decide)⟩
  · exact own_retA X5 hx Bd.returns rfl rfl (hb hby d3_8) hr
  · show Q_rm3 Z p0 h0 n0 _ T5.heap _
    rw [e5]
    exact ⟨b2, rfl, N5, K5, g_b2, sz_b2⟩
theorem d4_0 : decode jdk_42_method_151_code 0 = .ok (.aload_n 0, 1) := by decide +kernel
theorem d4_1 : decode jdk_42_method_151_code 1 = .ok (.invokespecial 1, 3) := by decide +kernel
theorem d4_4 : decode jdk_42_method_151_code 4 = .ok (.aload_n 0, 1) := by decide +kernel
theorem d4_5 : decode jdk_42_method_151_code 5 = .ok (.aload_n 1, 1) := by decide +kernel
theorem d4_6 : decode jdk_42_method_151_code 6 = .ok (.putfield 9, 3) := by decide +kernel
theorem d4_9 : decode jdk_42_method_151_code 9 = .ok (.aload_n 0, 1) := by decide +kernel
theorem d4_10 : decode jdk_42_method_151_code 10 = .ok (.iload_n 2, 1) := by decide +kernel
theorem d4_11 : decode jdk_42_method_151_code 11 = .ok (.putfield 15, 3) := by decide +kernel
theorem d4_14 : decode jdk_42_method_151_code 14 = .ok (.return_, 1) := by decide +kernel
theorem pn_rm4 : plainName "java/lang/String" = true := by first | (simp [plainName, overriddenIn]; done) | decide +kernel
theorem ef_rm4 (m : MethodId) (o0 : Addr) (o1 : Addr) (p2 : Int32) : entryFrame m #[(.ref o0), (.ref o1), (.int p2)] 3 = mkF m 0 #[.val (.ref o0), .val (.ref o1), .val (.int p2)] [] := by first | (simp [entryFrame, mkF, argsToLocals, Value.category]; done) | rfl
def Q_rm4 (Z : State) (o0 : Addr) (o1 : Addr) (p2 : Int32) (h0 : Heap) (n0 : Nat) (v : Option Value) (h : Heap) (L : List Loc) : Prop := v = none ∧ Fr n0 L ∧ Keep h0 h [o0] ∧ Exa Z h o0 "java/lang/String"
set_option maxRecDepth 65536 in
set_option maxHeartbeats 40000000 in
theorem rm4 (l : Launch) (Z : State) (a0 : Array Value) (hw : ∀ d ∈ tables_1, d.before a0 Z = true) (ws : List Jvm.Cond) (o0 : Addr) (o1 : Addr) (p2 : Int32) (h0 : Heap) (n0 : Nat) (Z0 : n0 ≤ h0.size) (E_o0 : Exa Z h0 o0 "java/lang/String") (g_o0 : n0 ≤ o0) (F_value : Fld Z h0 o0 "java/lang/String" "value" "[B" .null) (F_coder : Fld Z h0 o0 "java/lang/String" "coder" "B" (.int (0 : Int32))) :
    MetFree l (⟨"java/lang/String", "<init>", "([BB)V"⟩ : MethodName) (head1 (Jvm.Cond.code (⟨"java/lang/String", "<init>", "([BB)V"⟩ : MethodName) jdk_42_method_151_code 3 none :: ws) ({ frames := 1, cells := 0, slots := 0, locals := 12 } : Room)) (fun a U => a = #[(.ref o0), (.ref o1), (.int p2)] ∧ Z.Warmed39 U.vm ∧ U.heap = h0) (fun _ _ _ _ _ => True) (fun _ U o U' => ∃ v L, o = .returned v ∧ Q_rm4 Z o0 o1 p2 h0 n0 v U'.heap L ∧ FrameEnd U o U' L ({ frames := 1, cells := 0, slots := 0, locals := 12 } : Room).cells ({ frames := 1, cells := 0, slots := 0, locals := 12 } : Room).slots) := by
  refine MetFree.of_bodySF (plainFor_of_name pn_rm4) hisR ?_
  intro p e s m args below meth c s₁ Bd hml0 hP hK
  obtain ⟨rfl, hZ, hh⟩ := hP
  have hx := Bd.exec
  have hby := Bd.bytes
  have hml : c.maxLocals = 3 := hml0
  have hown : s.vm.findClass "java/lang/String" = some m.cls := findClass_of_methodNamed Bd.named
  have hnm := (name_of_methodNamed Bd.named Bd.method).1
  have X0 : Stand p l e ({ frames := 1, cells := 0, slots := 0, locals := 12 } : Room) s m #[(.ref o0), (.ref o1), (.int p2)] below meth c s₁ [] 0 0 := Stand.of_body Bd
  have e0 : s₁.heap = h0 := by rw [← hh, Bd.state]; rfl
  have N0 := Fr.nil n0
  have K0 := Keep.refl h0 [o0]
  have go0 : Go p e below (s₁.setTop (entryFrame m #[(.ref o0), (.ref o1), (.int p2)] 3)) (s₁.setTop (mkF m 0 #[.val (.ref o0), .val (.ref o1), .val (.int p2)] [])) := fun t k => castTop (ef_rm4 m o0 o1 p2) k
  have go1 := go0.step (C := s₁.setTop (mkF m 1 #[.val (.ref o0), .val (.ref o1), .val (.int p2)] [(.ref o0)])) (fun t k => by
    show Steps p.tables e below (s₁.setTop (mkF m 0 #[.val (.ref o0), .val (.ref o1), .val (.int p2)] [])) _
    refine XS.aloadN X0.here hx rfl (hb hby d4_0) rfl rfl ?_
    exact k)
  obtain ⟨T2, X2, e2, st2⟩ := initO X0 hx hZ hown (hw _ (List.mem_of_getElem? (i := 19) rfl)) (hw _ (List.mem_of_getElem? (i := 20) rfl)) (hw _ (List.mem_of_getElem? (i := 21) rfl)) e0 (g := (mkF m 1 #[.val (.ref o0), .val (.ref o1), .val (.int p2)] [(.ref o0)])) rfl (by rw [hml]; rfl) rfl (hb hby d4_1) (by decide) (W := 0) (by show 2 * 0 + _ ≤ _; exact Nat.le_of_eq rfl) (by decide)
  have go2 := go1.step (C := T2.setTop (mkF m 4 #[.val (.ref o0), .val (.ref o1), .val (.int p2)] [])) (fun t k => st2 t k)
  have go3 := go2.step (C := T2.setTop (mkF m 6 #[.val (.ref o0), .val (.ref o1), .val (.int p2)] [(.ref o1), (.ref o0)])) (fun t k => by
    show Steps p.tables e below (T2.setTop (mkF m 4 #[.val (.ref o0), .val (.ref o1), .val (.int p2)] [])) _
    refine XS.aloadN X2.here hx rfl (hb hby d4_4) rfl rfl ?_
    show Steps p.tables e below (T2.setTop (mkF m 5 #[.val (.ref o0), .val (.ref o1), .val (.int p2)] [(.ref o0)])) _
    refine XS.aloadN X2.here hx rfl (hb hby d4_5) rfl rfl ?_
    exact k)
  obtain ⟨T4, h4, X4, e4, W4, st4⟩ := putF X2 hx hZ hown (host := "") (Or.inl (hw _ (List.mem_of_getElem? (i := 22) rfl))) Via.refl e2 F_value E_o0 (Or.inr ⟨(hw _ (List.mem_of_getElem? (i := 23) rfl)), rfl, hnm⟩) (hw _ (List.mem_of_getElem? (i := 11) rfl)) (ty := (.array .byte)) (by decide) rfl rfl (g := (mkF m 6 #[.val (.ref o0), .val (.ref o1), .val (.int p2)] [(.ref o1), (.ref o0)])) rfl rfl (hb hby d4_6)
  have f5 := E_o0.wr W4
  have f6 := Fld.same W4 F_value
  have f7 := Fld.other W4 F_coder (Or.inr (slot_ne (Or.inr (hw _ (List.mem_of_getElem? (i := 25) rfl))) (Or.inr (hw _ (List.mem_of_getElem? (i := 23) rfl))) (by decide) (t := .byte) (t' := (.array .byte)) (by decide) (by decide)))
  have Z4 : n0 ≤ h4.size := Nat.le_trans Z0 (Nat.le_of_eq W4.size.symm)
  have K4 := K0.wr W4 (Or.inl (List.mem_of_getElem? (i := 0) rfl))
  have N4 := Fr.snoc X4 N0 g_o0
  have go4 := go3.step (C := T4.setTop (mkF m 9 #[.val (.ref o0), .val (.ref o1), .val (.int p2)] [])) (fun t k => st4 t k)
  have go8 := go4.step (C := T4.setTop (mkF m 11 #[.val (.ref o0), .val (.ref o1), .val (.int p2)] [(.int p2), (.ref o0)])) (fun t k => by
    show Steps p.tables e below (T4.setTop (mkF m 9 #[.val (.ref o0), .val (.ref o1), .val (.int p2)] [])) _
    refine XS.aloadN X4.here hx rfl (hb hby d4_9) rfl rfl ?_
    show Steps p.tables e below (T4.setTop (mkF m 10 #[.val (.ref o0), .val (.ref o1), .val (.int p2)] [(.ref o0)])) _
    refine XS.iloadN X4.here hx rfl (hb hby d4_10) rfl ?_
    exact k)
  obtain ⟨T9, h9, X9, e9, W9, st9⟩ := putFN X4 hx hZ hown (hw _ (List.mem_of_getElem? (i := 24) rfl)) Via.refl e4 f7 f5 (Or.inr ⟨(hw _ (List.mem_of_getElem? (i := 25) rfl)), rfl, hnm⟩) (hw _ (List.mem_of_getElem? (i := 11) rfl)) (ty := .byte) (v' := (.int (nar .byte p2))) (by decide) rfl (fits_nar_byte _) (g := (mkF m 11 #[.val (.ref o0), .val (.ref o1), .val (.int p2)] [(.int p2), (.ref o0)])) rfl rfl (hb hby d4_11)
  have f10 := f5.wr W9
  have f11 := Fld.other W9 f6 (Or.inr (slot_ne (Or.inr (hw _ (List.mem_of_getElem? (i := 23) rfl))) (Or.inr (hw _ (List.mem_of_getElem? (i := 25) rfl))) (by decide) (t := (.array .byte)) (t' := .byte) (by decide) (by decide)))
  have f12 := Fld.same W9 f7
  have Z9 : n0 ≤ h9.size := Nat.le_trans Z4 (Nat.le_of_eq W9.size.symm)
  have K9 := K4.wr W9 (Or.inl (List.mem_of_getElem? (i := 0) rfl))
  have N9 := Fr.snoc X9 N4 g_o0
  have go9 := go8.step (C := T9.setTop (mkF m 14 #[.val (.ref o0), .val (.ref o1), .val (.int p2)] [])) (fun t k => st9 t k)
  obtain ⟨fs, hr, hrun, hended, hW, hsame⟩ := X9.leave (v := none) (fun _ => rfl)
  refine ⟨_, _, go9 _ ?_, hrun, hended, _, _, rfl, ?_, ⟨_, rfl⟩, hW, hsame.mono (by decide) (by decide)⟩
  · exact X9.returnOut hx Bd.returns (hb hby d4_14) hr
  · show Q_rm4 Z o0 o1 p2 h0 n0 _ T9.heap _
    rw [e9]
    exact ⟨rfl, N9, K9, f10⟩
theorem d1_0 : decode jdk_42_method_139_code 0 = .ok (.getstatic 38, 3) := by decide +kernel
theorem d1_3 : decode jdk_42_method_139_code 3 = .ok (.ifCond .eq 23, 3) := by decide +kernel
theorem d1_6 : decode jdk_42_method_139_code 6 = .ok (.iload_n 0, 1) := by decide +kernel
theorem d1_7 : decode jdk_42_method_139_code 7 = .ok (.invokestatic 1015, 3) := by decide +kernel
theorem d1_10 : decode jdk_42_method_139_code 10 = .ok (.ifCond .eq 16, 3) := by decide +kernel
theorem d1_13 : decode jdk_42_method_139_code 13 = .ok (.new 10, 3) := by decide +kernel
theorem d1_16 : decode jdk_42_method_139_code 16 = .ok (.dup, 1) := by decide +kernel
theorem d1_17 : decode jdk_42_method_139_code 17 = .ok (.iload_n 0, 1) := by decide +kernel
theorem d1_18 : decode jdk_42_method_139_code 18 = .ok (.invokestatic 1018, 3) := by decide +kernel
theorem d1_21 : decode jdk_42_method_139_code 21 = .ok (.iconst 0, 1) := by decide +kernel
theorem d1_22 : decode jdk_42_method_139_code 22 = .ok (.invokespecial 209, 3) := by decide +kernel
theorem d1_25 : decode jdk_42_method_139_code 25 = .ok (.areturn, 1) := by decide +kernel
theorem pn_rm1 : plainName "java/lang/String" = true := by first | (simp [plainName, overriddenIn]; done) | decide +kernel
theorem pd_rm1_0 : parseMethodDescriptor "(C)Z" = some ⟨[.char], some .boolean⟩ := by decide +kernel
theorem pd_rm1_1 : parseMethodDescriptor "(C)[B" = some ⟨[.char], some (.array .byte)⟩ := by decide +kernel
theorem pd_rm1_2 : parseMethodDescriptor "([BB)V" = some ⟨[(.array .byte), .byte], none⟩ := by decide +kernel
theorem ef_rm1 (m : MethodId) (p0 : Int32) : entryFrame m #[(.int p0)] 1 = mkF m 0 #[.val (.int p0)] [] := by first | (simp [entryFrame, mkF, argsToLocals, Value.category]; done) | rfl
def Q_rm1 (Z : State) (p0 : Int32) (cs : Int32) (h0 : Heap) (n0 : Nat) (v : Option Value) (h : Heap) (L : List Loc) : Prop := ∃ b : Addr, v = some (.ref b) ∧ Fr n0 L ∧ Keep h0 h [] ∧ n0 ≤ b ∧ h0.size ≤ b ∧ Exa Z h b "java/lang/String"
set_option maxRecDepth 65536 in
set_option maxHeartbeats 40000000 in
theorem rm1 (l : Launch) (Z : State) (a0 : Array Value) (hw : ∀ d ∈ tables_1, d.before a0 Z = true) (ws : List Jvm.Cond) (p0 : Int32) (cs : Int32) (h0 : Heap) (n0 : Nat) (Z0 : n0 ≤ h0.size) (Ol : Old Z n0 h0) (S_cs : Sta Z Z.heap "java/lang/String" "COMPACT_STRINGS" "Z" (.int cs)) (hcs : ¬ cs = (0 : Int32)) (hp : ¬ (255 : Int32) < p0) :
    MetFree l (⟨"java/lang/String", "valueOf", "(C)Ljava/lang/String;"⟩ : MethodName) (head1 (Jvm.Cond.code (⟨"java/lang/String", "valueOf", "(C)Ljava/lang/String;"⟩ : MethodName) jdk_42_method_139_code 1 (some (.object "java/lang/String")) :: ws) ({ frames := 2, cells := 2, slots := 5, locals := 27 } : Room)) (fun a U => a = #[(.int p0)] ∧ Z.Warmed39 U.vm ∧ U.heap = h0) (fun _ _ _ _ _ => True) (fun _ U o U' => ∃ v L, o = .returned v ∧ Q_rm1 Z p0 cs h0 n0 v U'.heap L ∧ FrameEnd U o U' L ({ frames := 2, cells := 2, slots := 5, locals := 27 } : Room).cells ({ frames := 2, cells := 2, slots := 5, locals := 27 } : Room).slots) := by
  refine MetFree.of_bodySF (plainFor_of_name pn_rm1) hisR ?_
  intro p e s m args below meth c s₁ Bd hml0 hP hK
  obtain ⟨rfl, hZ, hh⟩ := hP
  have hx := Bd.exec
  have hby := Bd.bytes
  have hml : c.maxLocals = 1 := hml0
  have hown : s.vm.findClass "java/lang/String" = some m.cls := findClass_of_methodNamed Bd.named
  have hnm := (name_of_methodNamed Bd.named Bd.method).1
  have X0 : Stand p l e ({ frames := 2, cells := 2, slots := 5, locals := 27 } : Room) s m #[(.int p0)] below meth c s₁ [] 0 0 := Stand.of_body Bd
  have e0 : s₁.heap = h0 := by rw [← hh, Bd.state]; rfl
  have N0 := Fr.nil n0
  have K0 := Keep.refl h0 []
  have go0 : Go p e below (s₁.setTop (entryFrame m #[(.int p0)] 1)) (s₁.setTop (mkF m 0 #[.val (.int p0)] [])) := fun t k => castTop (ef_rm1 m p0) k
  have f1 := S_cs.ext Ol.2
  obtain ⟨T2, X2, e2, st2⟩ := getS2 X0 hx hZ hown (host := "") (Or.inl (hw _ (List.mem_of_getElem? (i := 5) rfl))) Via.refl e0 f1 (g := (mkF m 0 #[.val (.int p0)] [])) rfl (hb hby d1_0)
  have go2 := go0.step (C := T2.setTop (mkF m 3 #[.val (.int p0)] [(.int cs)])) (fun t k => st2 t k)
  have go4 := go2.step (C := T2.setTop (mkF m 7 #[.val (.int p0)] [(.int p0)])) (fun t k => by
    show Steps p.tables e below (T2.setTop (mkF m 3 #[.val (.int p0)] [(.int cs)])) _
    refine XS.ifNo X2.here hx rfl (hb hby d1_3) rfl ((if0 _ _).trans (feq (hcs : ¬ (cs = (0 : Int32)))).1) ?_
    show Steps p.tables e below (T2.setTop (mkF m 6 #[.val (.int p0)] [])) _
    refine XS.iloadN X2.here hx rfl (hb hby d1_6) rfl ?_
    exact k)
  obtain ⟨_, _, ⟨T5, L5, k5, n5⟩, -, X5, ⟨Lc5, hQ5, l5, y5, z5⟩, st5⟩ := Jvm.LawKit.callS X2 hx (y := (⟨"java/lang/StringLatin1", "canEncode", "(C)Z"⟩ : MethodName)) hown (mvT hZ (hw _ (List.mem_of_getElem? (i := 6) rfl))) (mvT hZ (hw _ (List.mem_of_getElem? (i := 7) rfl))) (mvT hZ (hw _ (List.mem_of_getElem? (i := 8) rfl))) (mvT hZ (hw _ (List.mem_of_getElem? (i := 9) rfl))) (by decide) (backOf (W := 0) (rm2 l Z a0 hw [] p0 h0 n0 Z0 hp) hZ (hw _ (List.mem_of_getElem? (i := 9) rfl)) (hw _ (List.mem_of_getElem? (i := 8) rfl)) (by decide) (by decide)) (g := (mkF m 7 #[.val (.int p0)] [(.int p0)])) rfl (by rw [hml]; rfl) (argsL := [(.int p0)]) (rest := []) (lenOf pd_rm1_0 rfl) rfl (by show 2 * 0 + _ ≤ _; exact Nat.le_of_eq rfl) (hb hby d1_7) (fun _ _ => ⟨rfl, e2, (by decide : 0 + 0 ≤ _), (by decide : 0 + 0 ≤ _)⟩)
  dsimp only [Pt.U, Pt.locs, Pt.cells, Pt.slots] at X5 l5 y5 z5 st5 hQ5
  rw [l5, y5, z5] at X5
  obtain ⟨rfl, N5q, e5⟩ := hQ5
  have N5 := Fr.app N0 N5q
  have go5 := go4.step (C := T5.setTop (mkF m 10 #[.val (.int p0)] [(.int (1 : Int32))])) (fun t k => st5 t k)
  have go7 := go5.step (C := T5.setTop (mkF m 13 #[.val (.int p0)] [])) (fun t k => by
    show Steps p.tables e below (T5.setTop (mkF m 10 #[.val (.int p0)] [(.int (1 : Int32))])) _
    refine XS.ifNo X5.here hx rfl (hb hby d1_10) rfl ((if0 _ _).trans (feq ((by decide) : ¬ ((1 : Int32) = (0 : Int32)))).1) ?_
    exact k)
  obtain ⟨T8, h8, X8, e8, E8, A8, D8, -, st8⟩ := newO X5 hx hZ hown (hw _ (List.mem_of_getElem? (i := 10) rfl)) (hw _ (List.mem_of_getElem? (i := 11) rfl)) (hw _ (List.mem_of_getElem? (i := 3) rfl)) e5 (g := (mkF m 13 #[.val (.int p0)] [])) rfl (hb hby d1_13) (by decide) (by decide)
  obtain ⟨b8, g8⟩ : ∃ z, z = h0.size := ⟨_, rfl⟩
  rw [← g8] at A8 D8 st8
  have g_b8 : n0 ≤ b8 := Nat.le_trans Z0 (Nat.le_of_eq g8.symm)
  have sz_b8 : h0.size ≤ b8 := Nat.le_trans K0.1 (Nat.le_of_eq g8.symm)
  have f9 := Old.ext Ol E8
  have F8_value : Fld Z h8 b8 "java/lang/String" "value" "[B" .null := D8 (Or.inr (hw _ (List.mem_of_getElem? (i := 23) rfl))) (ty := (.array .byte)) (by decide)
  have F8_coder : Fld Z h8 b8 "java/lang/String" "coder" "B" (.int (0 : Int32)) := D8 (Or.inr (hw _ (List.mem_of_getElem? (i := 25) rfl))) (ty := .byte) (by decide)
  have Z8 : n0 ≤ h8.size := Nat.le_trans Z0 E8.1
  have K8 := K0.ext E8
  have go8 := go7.step (C := T8.setTop (mkF m 16 #[.val (.int p0)] [(.ref b8)])) (fun t k => st8 t k)
  have go10 := go8.step (C := T8.setTop (mkF m 18 #[.val (.int p0)] [(.int p0), (.ref b8), (.ref b8)])) (fun t k => by
    show Steps p.tables e below (T8.setTop (mkF m 16 #[.val (.int p0)] [(.ref b8)])) _
    refine XS.dup X8.here hx rfl (hb hby d1_16) rfl rfl ?_
    show Steps p.tables e below (T8.setTop (mkF m 17 #[.val (.int p0)] [(.ref b8), (.ref b8)])) _
    refine XS.iloadN X8.here hx rfl (hb hby d1_17) rfl ?_
    exact k)
  obtain ⟨_, _, ⟨T11, L11, k11, n11⟩, -, X11, ⟨Lc11, hQ11, l11, y11, z11⟩, st11⟩ := Jvm.LawKit.callS X8 hx (y := (⟨"java/lang/StringLatin1", "toBytes", "(C)[B"⟩ : MethodName)) hown (mvT hZ (hw _ (List.mem_of_getElem? (i := 12) rfl))) (mvT hZ (hw _ (List.mem_of_getElem? (i := 13) rfl))) (mvT hZ (hw _ (List.mem_of_getElem? (i := 8) rfl))) (mvT hZ (hw _ (List.mem_of_getElem? (i := 14) rfl))) (by decide) (backOf (W := 2) (rm3 l Z a0 hw [] p0 h8 n0 Z8 ) hZ (hw _ (List.mem_of_getElem? (i := 14) rfl)) (hw _ (List.mem_of_getElem? (i := 8) rfl)) (by decide) (by decide)) (g := (mkF m 18 #[.val (.int p0)] [(.int p0), (.ref b8), (.ref b8)])) rfl (by rw [hml]; rfl) (argsL := [(.int p0)]) (rest := [(.ref b8), (.ref b8)]) (lenOf pd_rm1_1 rfl) rfl (by show 2 * 0 + _ ≤ _; exact Nat.le_of_eq rfl) (hb hby d1_18) (fun _ _ => ⟨rfl, e8, (by decide : 1 + 1 ≤ _), (by decide : 4 + 1 ≤ _)⟩)
  dsimp only [Pt.U, Pt.locs, Pt.cells, Pt.slots] at X11 l11 y11 z11 st11 hQ11
  rw [l11, y11, z11] at X11
  obtain ⟨b_11, rfl, N11q, K11, qp11_0, qp11_1⟩ := hQ11
  have N11 := Fr.app N5 N11q
  have f12 := Old.keep f9 K11 all0
  have f13 := A8.keep K11
  have f14 := F8_value.keep K11 nin0
  have f15 := F8_coder.keep K11 nin0
  have Z11 : n0 ≤ T11.heap.size := Nat.le_trans Z8 K11.1
  have KK11 := K8.trans K11 all0
  have g_b_11 := qp11_0
  have sz_b_11 := Nat.le_trans K8.1 qp11_1
  have ne_b8_b_11 : b8 ≠ b_11 := Nat.ne_of_lt (Nat.lt_of_lt_of_le A8.lt qp11_1)
  have go11 := go10.step (C := T11.setTop (mkF m 21 #[.val (.int p0)] [(.ref b_11), (.ref b8), (.ref b8)])) (fun t k => st11 t k)
  have go16 := go11.step (C := T11.setTop (mkF m 22 #[.val (.int p0)] [(.int (0 : Int32)), (.ref b_11), (.ref b8), (.ref b8)])) (fun t k => by
    show Steps p.tables e below (T11.setTop (mkF m 21 #[.val (.int p0)] [(.ref b_11), (.ref b8), (.ref b8)])) _
    refine XS.iconst X11.here hx rfl (hb hby d1_21) ?_
    exact k)
  obtain ⟨_, _, ⟨T17, L17, k17, n17⟩, -, X17, ⟨Lc17, hQ17, l17, y17, z17⟩, st17⟩ := X11.specialBack hx (y := (⟨"java/lang/String", "<init>", "([BB)V"⟩ : MethodName)) rfl hown (mvT hZ (hw _ (List.mem_of_getElem? (i := 15) rfl))) (mvT hZ (hw _ (List.mem_of_getElem? (i := 16) rfl))) (mvT hZ (hw _ (List.mem_of_getElem? (i := 18) rfl))) (by decide) (backOf (W := 1) (rm4 l Z a0 hw [] b8 b_11 (0 : Int32) T11.heap n0 Z11 f13 g_b8 f14 f15) hZ (hw _ (List.mem_of_getElem? (i := 18) rfl)) (hw _ (List.mem_of_getElem? (i := 3) rfl)) (by decide) (by decide)) (g := (mkF m 22 #[.val (.int p0)] [(.int (0 : Int32)), (.ref b_11), (.ref b8), (.ref b8)])) rfl (by rw [hml]; rfl) (Steps.refl _) (a := b8) (argsL := [(.ref b_11), (.int (0 : Int32))]) (rest := [(.ref b8)]) (lenOf pd_rm1_2 rfl) rfl (by show 2 * 0 + _ ≤ _; exact Nat.le_of_eq rfl) (hb hby d1_22) (fun _ _ => ⟨rfl, rfl, (by decide : 2 + 0 ≤ _), (by decide : 5 + 0 ≤ _)⟩)
  dsimp only [Pt.U, Pt.locs, Pt.cells, Pt.slots] at X17 l17 y17 z17 st17 hQ17
  rw [l17, y17, z17] at X17
  obtain ⟨rfl, N17q, K17, qp17_0⟩ := hQ17
  have N17 := Fr.app N11 N17q
  have f18 := Old.keep f12 K17 (allS g_b8 all0)
  have f19 := f13.keep K17
  have Z17 : n0 ≤ T17.heap.size := Nat.le_trans Z11 K17.1
  have KK17 := KK11.trans K17 (allS (Or.inr sz_b8) all0)
  have go17 := go16.tr (C := T17.setTop (mkF m 25 #[.val (.int p0)] [(.ref b8)])) st17
  obtain ⟨fs, hr, hrun, hended, hW, hsame⟩ := X17.leave (v := some (.ref b8)) (fun h => by rw [Bd.returns] at h; cases h)
  refine ⟨_, _, go17 _ ?_, hrun, hended, _, _, rfl, ?_, ⟨_, rfl⟩, hW, hsame.mono (by decide) (by decide)⟩
  · exact own_retA X17 hx Bd.returns rfl rfl (hb hby d1_25) hr
  · show Q_rm1 Z p0 cs h0 n0 _ T17.heap _
    exact ⟨b8, rfl, N17, KK17, g_b8, sz_b8, qp17_0⟩
theorem d6_0 : decode prog_55_method_1_code 0 = .ok (.aload_n 0, 1) := by decide +kernel
theorem d6_1 : decode prog_55_method_1_code 1 = .ok (.invokespecial 1, 3) := by decide +kernel
theorem d6_4 : decode prog_55_method_1_code 4 = .ok (.iload_n 3, 1) := by decide +kernel
theorem d6_5 : decode prog_55_method_1_code 5 = .ok (.ifCond .lt 22, 3) := by decide +kernel
theorem d6_8 : decode prog_55_method_1_code 8 = .ok (.iload 4, 2) := by decide +kernel
theorem d6_10 : decode prog_55_method_1_code 10 = .ok (.ifCond .lt 17, 3) := by decide +kernel
theorem d6_13 : decode prog_55_method_1_code 13 = .ok (.iload_n 3, 1) := by decide +kernel
theorem d6_14 : decode prog_55_method_1_code 14 = .ok (.iload 4, 2) := by decide +kernel
theorem d6_16 : decode prog_55_method_1_code 16 = .ok (.iadd, 1) := by decide +kernel
theorem d6_17 : decode prog_55_method_1_code 17 = .ok (.aload_n 2, 1) := by decide +kernel
theorem d6_18 : decode prog_55_method_1_code 18 = .ok (.arraylength, 1) := by decide +kernel
theorem d6_19 : decode prog_55_method_1_code 19 = .ok (.if_icmp .gt 8, 3) := by decide +kernel
theorem d6_22 : decode prog_55_method_1_code 22 = .ok (.iload 5, 2) := by decide +kernel
theorem d6_24 : decode prog_55_method_1_code 24 = .ok (.ifCond .ge 22, 3) := by decide +kernel
theorem d6_46 : decode prog_55_method_1_code 46 = .ok (.aload_n 0, 1) := by decide +kernel
theorem d6_47 : decode prog_55_method_1_code 47 = .ok (.aload_n 1, 1) := by decide +kernel
theorem d6_48 : decode prog_55_method_1_code 48 = .ok (.putfield 16, 3) := by decide +kernel
theorem d6_51 : decode prog_55_method_1_code 51 = .ok (.aload_n 0, 1) := by decide +kernel
theorem d6_52 : decode prog_55_method_1_code 52 = .ok (.aload_n 2, 1) := by decide +kernel
theorem d6_53 : decode prog_55_method_1_code 53 = .ok (.putfield 22, 3) := by decide +kernel
theorem d6_56 : decode prog_55_method_1_code 56 = .ok (.aload_n 0, 1) := by decide +kernel
theorem d6_57 : decode prog_55_method_1_code 57 = .ok (.iload_n 3, 1) := by decide +kernel
theorem d6_58 : decode prog_55_method_1_code 58 = .ok (.putfield 26, 3) := by decide +kernel
theorem d6_61 : decode prog_55_method_1_code 61 = .ok (.aload_n 0, 1) := by decide +kernel
theorem d6_62 : decode prog_55_method_1_code 62 = .ok (.iload 4, 2) := by decide +kernel
theorem d6_64 : decode prog_55_method_1_code 64 = .ok (.putfield 30, 3) := by decide +kernel
theorem d6_67 : decode prog_55_method_1_code 67 = .ok (.aload_n 0, 1) := by decide +kernel
theorem d6_68 : decode prog_55_method_1_code 68 = .ok (.iload 5, 2) := by decide +kernel
theorem d6_70 : decode prog_55_method_1_code 70 = .ok (.putfield 33, 3) := by decide +kernel
theorem d6_73 : decode prog_55_method_1_code 73 = .ok (.return_, 1) := by decide +kernel
theorem pn_rm6 : plainName "com/example/zemlja/zemlja/record/Field" = true := by first | (simp [plainName, overriddenIn]; done) | decide +kernel
theorem ef_rm6 (m : MethodId) (o0 : Addr) (o1 : Addr) (o2 : Addr) (p3 : Int32) (p4 : Int32) (p5 : Int32) : entryFrame m #[(.ref o0), (.ref o1), (.ref o2), (.int p3), (.int p4), (.int p5)] 6 = mkF m 0 #[.val (.ref o0), .val (.ref o1), .val (.ref o2), .val (.int p3), .val (.int p4), .val (.int p5)] [] := by first | (simp [entryFrame, mkF, argsToLocals, Value.category]; done) | rfl
def Q_rm6 (Z : State) (o0 : Addr) (o1 : Addr) (o2 : Addr) (p3 : Int32) (p4 : Int32) (p5 : Int32) (ka : ClassId) (vs : List Value) (h0 : Heap) (n0 : Nat) (v : Option Value) (h : Heap) (L : List Loc) : Prop := v = none ∧ Fr n0 L ∧ Keep h0 h [o0] ∧ Exa Z h o0 "com/example/zemlja/zemlja/record/Field" ∧ Fld Z h o0 "com/example/zemlja/zemlja/record/Field" "tag" "Ljava/lang/String;" (.ref o1) ∧ Fld Z h o0 "com/example/zemlja/zemlja/record/Field" "bytes" "[B" (.ref o2) ∧ Fld Z h o0 "com/example/zemlja/zemlja/record/Field" "offset" "I" (.int p3) ∧ Fld Z h o0 "com/example/zemlja/zemlja/record/Field" "length" "I" (.int p4) ∧ Fld Z h o0 "com/example/zemlja/zemlja/record/Field" "indicatorCount" "I" (.int p5)
set_option maxRecDepth 65536 in
set_option maxHeartbeats 40000000 in
theorem rm6 (l : Launch) (Z : State) (a0 : Array Value) (hw : ∀ d ∈ tables_1, d.before a0 Z = true) (ws : List Jvm.Cond) (o0 : Addr) (o1 : Addr) (o2 : Addr) (p3 : Int32) (p4 : Int32) (p5 : Int32) (ka : ClassId) (vs : List Value) (h0 : Heap) (n0 : Nat) (Z0 : n0 ≤ h0.size) (E_o0 : Exa Z h0 o0 "com/example/zemlja/zemlja/record/Field") (g_o0 : n0 ≤ o0) (F_tag : Fld Z h0 o0 "com/example/zemlja/zemlja/record/Field" "tag" "Ljava/lang/String;" .null) (F_bytes : Fld Z h0 o0 "com/example/zemlja/zemlja/record/Field" "bytes" "[B" .null) (F_offset : Fld Z h0 o0 "com/example/zemlja/zemlja/record/Field" "offset" "I" (.int (0 : Int32))) (F_length : Fld Z h0 o0 "com/example/zemlja/zemlja/record/Field" "length" "I" (.int (0 : Int32))) (F_indicatorCount : Fld Z h0 o0 "com/example/zemlja/zemlja/record/Field" "indicatorCount" "I" (.int (0 : Int32))) (V_o2 : Arv Z h0 o2 ka .byte (8 : Int32) vs (.int (0 : Int32))) (h3 : ¬ p3 < (0 : Int32)) (h4 : ¬ p4 < (0 : Int32)) (h34 : ¬ (8 : Int32) < (p3 + p4)) (h5 : ¬ p5 < (0 : Int32)) :
    MetFree l (⟨"com/example/zemlja/zemlja/record/Field", "<init>", "(Ljava/lang/String;[BIII)V"⟩ : MethodName) (head1 (Jvm.Cond.code (⟨"com/example/zemlja/zemlja/record/Field", "<init>", "(Ljava/lang/String;[BIII)V"⟩ : MethodName) prog_55_method_1_code 6 none :: ws) ({ frames := 1, cells := 0, slots := 0, locals := 12 } : Room)) (fun a U => a = #[(.ref o0), (.ref o1), (.ref o2), (.int p3), (.int p4), (.int p5)] ∧ Z.Warmed39 U.vm ∧ U.heap = h0) (fun _ _ _ _ _ => True) (fun _ U o U' => ∃ v L, o = .returned v ∧ Q_rm6 Z o0 o1 o2 p3 p4 p5 ka vs h0 n0 v U'.heap L ∧ FrameEnd U o U' L ({ frames := 1, cells := 0, slots := 0, locals := 12 } : Room).cells ({ frames := 1, cells := 0, slots := 0, locals := 12 } : Room).slots) := by
  refine MetFree.of_bodySF (plainFor_of_name pn_rm6) hisR ?_
  intro p e s m args below meth c s₁ Bd hml0 hP hK
  obtain ⟨rfl, hZ, hh⟩ := hP
  have hx := Bd.exec
  have hby := Bd.bytes
  have hml : c.maxLocals = 6 := hml0
  have hown : s.vm.findClass "com/example/zemlja/zemlja/record/Field" = some m.cls := findClass_of_methodNamed Bd.named
  have hnm := (name_of_methodNamed Bd.named Bd.method).1
  have X0 : Stand p l e ({ frames := 1, cells := 0, slots := 0, locals := 12 } : Room) s m #[(.ref o0), (.ref o1), (.ref o2), (.int p3), (.int p4), (.int p5)] below meth c s₁ [] 0 0 := Stand.of_body Bd
  have e0 : s₁.heap = h0 := by rw [← hh, Bd.state]; rfl
  have N0 := Fr.nil n0
  have K0 := Keep.refl h0 [o0]
  have go0 : Go p e below (s₁.setTop (entryFrame m #[(.ref o0), (.ref o1), (.ref o2), (.int p3), (.int p4), (.int p5)] 6)) (s₁.setTop (mkF m 0 #[.val (.ref o0), .val (.ref o1), .val (.ref o2), .val (.int p3), .val (.int p4), .val (.int p5)] [])) := fun t k => castTop (ef_rm6 m o0 o1 o2 p3 p4 p5) k
  have go1 := go0.step (C := s₁.setTop (mkF m 1 #[.val (.ref o0), .val (.ref o1), .val (.ref o2), .val (.int p3), .val (.int p4), .val (.int p5)] [(.ref o0)])) (fun t k => by
    show Steps p.tables e below (s₁.setTop (mkF m 0 #[.val (.ref o0), .val (.ref o1), .val (.ref o2), .val (.int p3), .val (.int p4), .val (.int p5)] [])) _
    refine XS.aloadN X0.here hx rfl (hb hby d6_0) rfl rfl ?_
    exact k)
  obtain ⟨T2, X2, e2, st2⟩ := initO X0 hx hZ hown (hw _ (List.mem_of_getElem? (i := 32) rfl)) (hw _ (List.mem_of_getElem? (i := 20) rfl)) (hw _ (List.mem_of_getElem? (i := 21) rfl)) e0 (g := (mkF m 1 #[.val (.ref o0), .val (.ref o1), .val (.ref o2), .val (.int p3), .val (.int p4), .val (.int p5)] [(.ref o0)])) rfl (by rw [hml]; rfl) rfl (hb hby d6_1) (by decide) (W := 0) (by show 2 * 0 + _ ≤ _; exact Nat.le_of_eq rfl) (by decide)
  have go2 := go1.step (C := T2.setTop (mkF m 4 #[.val (.ref o0), .val (.ref o1), .val (.ref o2), .val (.int p3), .val (.int p4), .val (.int p5)] [])) (fun t k => st2 t k)
  have go5 := go2.step (C := T2.setTop (mkF m 18 #[.val (.ref o0), .val (.ref o1), .val (.ref o2), .val (.int p3), .val (.int p4), .val (.int p5)] [(.ref o2), (.int (p3 + p4))])) (fun t k => by
    show Steps p.tables e below (T2.setTop (mkF m 4 #[.val (.ref o0), .val (.ref o1), .val (.ref o2), .val (.int p3), .val (.int p4), .val (.int p5)] [])) _
    refine XS.iloadN X2.here hx rfl (hb hby d6_4) rfl ?_
    show Steps p.tables e below (T2.setTop (mkF m 5 #[.val (.ref o0), .val (.ref o1), .val (.ref o2), .val (.int p3), .val (.int p4), .val (.int p5)] [(.int p3)])) _
    refine XS.ifNo X2.here hx rfl (hb hby d6_5) rfl ((if0 _ _).trans (flt (h3 : ¬ (p3 < (0 : Int32)))).1) ?_
    show Steps p.tables e below (T2.setTop (mkF m 8 #[.val (.ref o0), .val (.ref o1), .val (.ref o2), .val (.int p3), .val (.int p4), .val (.int p5)] [])) _
    refine XS.iload X2.here hx rfl (hb hby d6_8) rfl ?_
    show Steps p.tables e below (T2.setTop (mkF m 10 #[.val (.ref o0), .val (.ref o1), .val (.ref o2), .val (.int p3), .val (.int p4), .val (.int p5)] [(.int p4)])) _
    refine XS.ifNo X2.here hx rfl (hb hby d6_10) rfl ((if0 _ _).trans (flt (h4 : ¬ (p4 < (0 : Int32)))).1) ?_
    show Steps p.tables e below (T2.setTop (mkF m 13 #[.val (.ref o0), .val (.ref o1), .val (.ref o2), .val (.int p3), .val (.int p4), .val (.int p5)] [])) _
    refine XS.iloadN X2.here hx rfl (hb hby d6_13) rfl ?_
    show Steps p.tables e below (T2.setTop (mkF m 14 #[.val (.ref o0), .val (.ref o1), .val (.ref o2), .val (.int p3), .val (.int p4), .val (.int p5)] [(.int p3)])) _
    refine XS.iload X2.here hx rfl (hb hby d6_14) rfl ?_
    show Steps p.tables e below (T2.setTop (mkF m 16 #[.val (.ref o0), .val (.ref o1), .val (.ref o2), .val (.int p3), .val (.int p4), .val (.int p5)] [(.int p4), (.int p3)])) _
    refine XS.iadd X2.here hx rfl (hb hby d6_16) rfl ?_
    show Steps p.tables e below (T2.setTop (mkF m 17 #[.val (.ref o0), .val (.ref o1), .val (.ref o2), .val (.int p3), .val (.int p4), .val (.int p5)] [(.int (p3 + p4))])) _
    refine XS.aloadN X2.here hx rfl (hb hby d6_17) rfl rfl ?_
    exact k)
  have Vo6 := V_o2
  obtain ⟨cl6, Ar6, qa6, Sa6, Na6, Ha6, Ga6⟩ := Vo6
  have go9 := go5.step (C := T2.setTop (mkF m 48 #[.val (.ref o0), .val (.ref o1), .val (.ref o2), .val (.int p3), .val (.int p4), .val (.int p5)] [(.ref o1), (.ref o0)])) (fun t k => by
    show Steps p.tables e below (T2.setTop (mkF m 18 #[.val (.ref o0), .val (.ref o1), .val (.ref o2), .val (.int p3), .val (.int p4), .val (.int p5)] [(.ref o2), (.int (p3 + p4))])) _
    refine X2.arraylength hx (by rw [e2]; exact Ar6.1) (State.isArrayOf_alike hZ.alike Ar6.2.1) (g := (mkF m 18 #[.val (.ref o0), .val (.ref o1), .val (.ref o2), .val (.int p3), .val (.int p4), .val (.int p5)] [(.ref o2), (.int (p3 + p4))])) rfl rfl (hb hby d6_18) _ ?_
    rw [len_of Sa6 Na6]
    show Steps p.tables e below (T2.setTop (mkF m 19 #[.val (.ref o0), .val (.ref o1), .val (.ref o2), .val (.int p3), .val (.int p4), .val (.int p5)] [(.int (8 : Int32)), (.int (p3 + p4))])) _
    refine XS.icmpNo X2.here hx rfl (hb hby d6_19) rfl (flt (h34 : ¬ ((8 : Int32) < (p3 + p4)))).2.2.1 ?_
    show Steps p.tables e below (T2.setTop (mkF m 22 #[.val (.ref o0), .val (.ref o1), .val (.ref o2), .val (.int p3), .val (.int p4), .val (.int p5)] [])) _
    refine XS.iload X2.here hx rfl (hb hby d6_22) rfl ?_
    show Steps p.tables e below (T2.setTop (mkF m 24 #[.val (.ref o0), .val (.ref o1), .val (.ref o2), .val (.int p3), .val (.int p4), .val (.int p5)] [(.int p5)])) _
    refine XS.ifYes X2.here hx rfl (pc0 := 24) (pc' := 46) rfl (hb hby d6_24) rfl ((if0 _ _).trans (flt (h5 : ¬ (p5 < (0 : Int32)))).2.1) (by decide) (by decide) ?_
    show Steps p.tables e below (T2.setTop (mkF m 46 #[.val (.ref o0), .val (.ref o1), .val (.ref o2), .val (.int p3), .val (.int p4), .val (.int p5)] [])) _
    refine XS.aloadN X2.here hx rfl (hb hby d6_46) rfl rfl ?_
    show Steps p.tables e below (T2.setTop (mkF m 47 #[.val (.ref o0), .val (.ref o1), .val (.ref o2), .val (.int p3), .val (.int p4), .val (.int p5)] [(.ref o0)])) _
    refine XS.aloadN X2.here hx rfl (hb hby d6_47) rfl rfl ?_
    exact k)
  obtain ⟨T10, h10, X10, e10, W10, st10⟩ := putF X2 hx hZ hown (host := "") (Or.inl (hw _ (List.mem_of_getElem? (i := 33) rfl))) Via.refl e2 F_tag E_o0 (Or.inr ⟨(hw _ (List.mem_of_getElem? (i := 34) rfl)), rfl, hnm⟩) (hw _ (List.mem_of_getElem? (i := 27) rfl)) (ty := (.object "java/lang/String")) (by decide) rfl rfl (g := (mkF m 48 #[.val (.ref o0), .val (.ref o1), .val (.ref o2), .val (.int p3), .val (.int p4), .val (.int p5)] [(.ref o1), (.ref o0)])) rfl rfl (hb hby d6_48)
  have f11 := E_o0.wr W10
  have f12 := Fld.same W10 F_tag
  have f13 := Fld.other W10 F_bytes (Or.inr (slot_ne (Or.inr (hw _ (List.mem_of_getElem? (i := 36) rfl))) (Or.inr (hw _ (List.mem_of_getElem? (i := 34) rfl))) (by decide) (t := (.array .byte)) (t' := (.object "java/lang/String")) (by decide) (by decide)))
  have f14 := Fld.other W10 F_offset (Or.inr (slot_ne (Or.inr (hw _ (List.mem_of_getElem? (i := 38) rfl))) (Or.inr (hw _ (List.mem_of_getElem? (i := 34) rfl))) (by decide) (t := .int) (t' := (.object "java/lang/String")) (by decide) (by decide)))
  have f15 := Fld.other W10 F_length (Or.inr (slot_ne (Or.inr (hw _ (List.mem_of_getElem? (i := 40) rfl))) (Or.inr (hw _ (List.mem_of_getElem? (i := 34) rfl))) (by decide) (t := .int) (t' := (.object "java/lang/String")) (by decide) (by decide)))
  have f16 := Fld.other W10 F_indicatorCount (Or.inr (slot_ne (Or.inr (hw _ (List.mem_of_getElem? (i := 42) rfl))) (Or.inr (hw _ (List.mem_of_getElem? (i := 34) rfl))) (by decide) (t := .int) (t' := (.object "java/lang/String")) (by decide) (by decide)))
  have Z10 : n0 ≤ h10.size := Nat.le_trans Z0 (Nat.le_of_eq W10.size.symm)
  have K10 := K0.wr W10 (Or.inl (List.mem_of_getElem? (i := 0) rfl))
  have N10 := Fr.snoc X10 N0 g_o0
  have go10 := go9.step (C := T10.setTop (mkF m 51 #[.val (.ref o0), .val (.ref o1), .val (.ref o2), .val (.int p3), .val (.int p4), .val (.int p5)] [])) (fun t k => st10 t k)
  have go17 := go10.step (C := T10.setTop (mkF m 53 #[.val (.ref o0), .val (.ref o1), .val (.ref o2), .val (.int p3), .val (.int p4), .val (.int p5)] [(.ref o2), (.ref o0)])) (fun t k => by
    show Steps p.tables e below (T10.setTop (mkF m 51 #[.val (.ref o0), .val (.ref o1), .val (.ref o2), .val (.int p3), .val (.int p4), .val (.int p5)] [])) _
    refine XS.aloadN X10.here hx rfl (hb hby d6_51) rfl rfl ?_
    show Steps p.tables e below (T10.setTop (mkF m 52 #[.val (.ref o0), .val (.ref o1), .val (.ref o2), .val (.int p3), .val (.int p4), .val (.int p5)] [(.ref o0)])) _
    refine XS.aloadN X10.here hx rfl (hb hby d6_52) rfl rfl ?_
    exact k)
  obtain ⟨T18, h18, X18, e18, W18, st18⟩ := putF X10 hx hZ hown (host := "") (Or.inl (hw _ (List.mem_of_getElem? (i := 35) rfl))) Via.refl e10 f13 f11 (Or.inr ⟨(hw _ (List.mem_of_getElem? (i := 36) rfl)), rfl, hnm⟩) (hw _ (List.mem_of_getElem? (i := 27) rfl)) (ty := (.array .byte)) (by decide) rfl rfl (g := (mkF m 53 #[.val (.ref o0), .val (.ref o1), .val (.ref o2), .val (.int p3), .val (.int p4), .val (.int p5)] [(.ref o2), (.ref o0)])) rfl rfl (hb hby d6_53)
  have f19 := f11.wr W18
  have f20 := Fld.other W18 f12 (Or.inr (slot_ne (Or.inr (hw _ (List.mem_of_getElem? (i := 34) rfl))) (Or.inr (hw _ (List.mem_of_getElem? (i := 36) rfl))) (by decide) (t := (.object "java/lang/String")) (t' := (.array .byte)) (by decide) (by decide)))
  have f21 := Fld.same W18 f13
  have f22 := Fld.other W18 f14 (Or.inr (slot_ne (Or.inr (hw _ (List.mem_of_getElem? (i := 38) rfl))) (Or.inr (hw _ (List.mem_of_getElem? (i := 36) rfl))) (by decide) (t := .int) (t' := (.array .byte)) (by decide) (by decide)))
  have f23 := Fld.other W18 f15 (Or.inr (slot_ne (Or.inr (hw _ (List.mem_of_getElem? (i := 40) rfl))) (Or.inr (hw _ (List.mem_of_getElem? (i := 36) rfl))) (by decide) (t := .int) (t' := (.array .byte)) (by decide) (by decide)))
  have f24 := Fld.other W18 f16 (Or.inr (slot_ne (Or.inr (hw _ (List.mem_of_getElem? (i := 42) rfl))) (Or.inr (hw _ (List.mem_of_getElem? (i := 36) rfl))) (by decide) (t := .int) (t' := (.array .byte)) (by decide) (by decide)))
  have Z18 : n0 ≤ h18.size := Nat.le_trans Z10 (Nat.le_of_eq W18.size.symm)
  have K18 := K10.wr W18 (Or.inl (List.mem_of_getElem? (i := 0) rfl))
  have N18 := Fr.snoc X18 N10 g_o0
  have go18 := go17.step (C := T18.setTop (mkF m 56 #[.val (.ref o0), .val (.ref o1), .val (.ref o2), .val (.int p3), .val (.int p4), .val (.int p5)] [])) (fun t k => st18 t k)
  have go25 := go18.step (C := T18.setTop (mkF m 58 #[.val (.ref o0), .val (.ref o1), .val (.ref o2), .val (.int p3), .val (.int p4), .val (.int p5)] [(.int p3), (.ref o0)])) (fun t k => by
    show Steps p.tables e below (T18.setTop (mkF m 56 #[.val (.ref o0), .val (.ref o1), .val (.ref o2), .val (.int p3), .val (.int p4), .val (.int p5)] [])) _
    refine XS.aloadN X18.here hx rfl (hb hby d6_56) rfl rfl ?_
    show Steps p.tables e below (T18.setTop (mkF m 57 #[.val (.ref o0), .val (.ref o1), .val (.ref o2), .val (.int p3), .val (.int p4), .val (.int p5)] [(.ref o0)])) _
    refine XS.iloadN X18.here hx rfl (hb hby d6_57) rfl ?_
    exact k)
  obtain ⟨T26, h26, X26, e26, W26, st26⟩ := putF X18 hx hZ hown (host := "") (Or.inl (hw _ (List.mem_of_getElem? (i := 37) rfl))) Via.refl e18 f22 f19 (Or.inr ⟨(hw _ (List.mem_of_getElem? (i := 38) rfl)), rfl, hnm⟩) (hw _ (List.mem_of_getElem? (i := 27) rfl)) (ty := .int) (by decide) rfl rfl (g := (mkF m 58 #[.val (.ref o0), .val (.ref o1), .val (.ref o2), .val (.int p3), .val (.int p4), .val (.int p5)] [(.int p3), (.ref o0)])) rfl rfl (hb hby d6_58)
  have f27 := f19.wr W26
  have f28 := Fld.other W26 f20 (Or.inr (slot_ne (Or.inr (hw _ (List.mem_of_getElem? (i := 34) rfl))) (Or.inr (hw _ (List.mem_of_getElem? (i := 38) rfl))) (by decide) (t := (.object "java/lang/String")) (t' := .int) (by decide) (by decide)))
  have f29 := Fld.other W26 f21 (Or.inr (slot_ne (Or.inr (hw _ (List.mem_of_getElem? (i := 36) rfl))) (Or.inr (hw _ (List.mem_of_getElem? (i := 38) rfl))) (by decide) (t := (.array .byte)) (t' := .int) (by decide) (by decide)))
  have f30 := Fld.same W26 f22
  have f31 := Fld.other W26 f23 (Or.inr (slot_ne (Or.inr (hw _ (List.mem_of_getElem? (i := 40) rfl))) (Or.inr (hw _ (List.mem_of_getElem? (i := 38) rfl))) (by decide) (t := .int) (t' := .int) (by decide) (by decide)))
  have f32 := Fld.other W26 f24 (Or.inr (slot_ne (Or.inr (hw _ (List.mem_of_getElem? (i := 42) rfl))) (Or.inr (hw _ (List.mem_of_getElem? (i := 38) rfl))) (by decide) (t := .int) (t' := .int) (by decide) (by decide)))
  have Z26 : n0 ≤ h26.size := Nat.le_trans Z18 (Nat.le_of_eq W26.size.symm)
  have K26 := K18.wr W26 (Or.inl (List.mem_of_getElem? (i := 0) rfl))
  have N26 := Fr.snoc X26 N18 g_o0
  have go26 := go25.step (C := T26.setTop (mkF m 61 #[.val (.ref o0), .val (.ref o1), .val (.ref o2), .val (.int p3), .val (.int p4), .val (.int p5)] [])) (fun t k => st26 t k)
  have go33 := go26.step (C := T26.setTop (mkF m 64 #[.val (.ref o0), .val (.ref o1), .val (.ref o2), .val (.int p3), .val (.int p4), .val (.int p5)] [(.int p4), (.ref o0)])) (fun t k => by
    show Steps p.tables e below (T26.setTop (mkF m 61 #[.val (.ref o0), .val (.ref o1), .val (.ref o2), .val (.int p3), .val (.int p4), .val (.int p5)] [])) _
    refine XS.aloadN X26.here hx rfl (hb hby d6_61) rfl rfl ?_
    show Steps p.tables e below (T26.setTop (mkF m 62 #[.val (.ref o0), .val (.ref o1), .val (.ref o2), .val (.int p3), .val (.int p4), .val (.int p5)] [(.ref o0)])) _
    refine XS.iload X26.here hx rfl (hb hby d6_62) rfl ?_
    exact k)
  obtain ⟨T34, h34, X34, e34, W34, st34⟩ := putF X26 hx hZ hown (host := "") (Or.inl (hw _ (List.mem_of_getElem? (i := 39) rfl))) Via.refl e26 f31 f27 (Or.inr ⟨(hw _ (List.mem_of_getElem? (i := 40) rfl)), rfl, hnm⟩) (hw _ (List.mem_of_getElem? (i := 27) rfl)) (ty := .int) (by decide) rfl rfl (g := (mkF m 64 #[.val (.ref o0), .val (.ref o1), .val (.ref o2), .val (.int p3), .val (.int p4), .val (.int p5)] [(.int p4), (.ref o0)])) rfl rfl (hb hby d6_64)
  have f35 := f27.wr W34
  have f36 := Fld.other W34 f28 (Or.inr (slot_ne (Or.inr (hw _ (List.mem_of_getElem? (i := 34) rfl))) (Or.inr (hw _ (List.mem_of_getElem? (i := 40) rfl))) (by decide) (t := (.object "java/lang/String")) (t' := .int) (by decide) (by decide)))
  have f37 := Fld.other W34 f29 (Or.inr (slot_ne (Or.inr (hw _ (List.mem_of_getElem? (i := 36) rfl))) (Or.inr (hw _ (List.mem_of_getElem? (i := 40) rfl))) (by decide) (t := (.array .byte)) (t' := .int) (by decide) (by decide)))
  have f38 := Fld.other W34 f30 (Or.inr (slot_ne (Or.inr (hw _ (List.mem_of_getElem? (i := 38) rfl))) (Or.inr (hw _ (List.mem_of_getElem? (i := 40) rfl))) (by decide) (t := .int) (t' := .int) (by decide) (by decide)))
  have f39 := Fld.same W34 f31
  have f40 := Fld.other W34 f32 (Or.inr (slot_ne (Or.inr (hw _ (List.mem_of_getElem? (i := 42) rfl))) (Or.inr (hw _ (List.mem_of_getElem? (i := 40) rfl))) (by decide) (t := .int) (t' := .int) (by decide) (by decide)))
  have Z34 : n0 ≤ h34.size := Nat.le_trans Z26 (Nat.le_of_eq W34.size.symm)
  have K34 := K26.wr W34 (Or.inl (List.mem_of_getElem? (i := 0) rfl))
  have N34 := Fr.snoc X34 N26 g_o0
  have go34 := go33.step (C := T34.setTop (mkF m 67 #[.val (.ref o0), .val (.ref o1), .val (.ref o2), .val (.int p3), .val (.int p4), .val (.int p5)] [])) (fun t k => st34 t k)
  have go41 := go34.step (C := T34.setTop (mkF m 70 #[.val (.ref o0), .val (.ref o1), .val (.ref o2), .val (.int p3), .val (.int p4), .val (.int p5)] [(.int p5), (.ref o0)])) (fun t k => by
    show Steps p.tables e below (T34.setTop (mkF m 67 #[.val (.ref o0), .val (.ref o1), .val (.ref o2), .val (.int p3), .val (.int p4), .val (.int p5)] [])) _
    refine XS.aloadN X34.here hx rfl (hb hby d6_67) rfl rfl ?_
    show Steps p.tables e below (T34.setTop (mkF m 68 #[.val (.ref o0), .val (.ref o1), .val (.ref o2), .val (.int p3), .val (.int p4), .val (.int p5)] [(.ref o0)])) _
    refine XS.iload X34.here hx rfl (hb hby d6_68) rfl ?_
    exact k)
  obtain ⟨T42, h42, X42, e42, W42, st42⟩ := putF X34 hx hZ hown (host := "") (Or.inl (hw _ (List.mem_of_getElem? (i := 41) rfl))) Via.refl e34 f40 f35 (Or.inr ⟨(hw _ (List.mem_of_getElem? (i := 42) rfl)), rfl, hnm⟩) (hw _ (List.mem_of_getElem? (i := 27) rfl)) (ty := .int) (by decide) rfl rfl (g := (mkF m 70 #[.val (.ref o0), .val (.ref o1), .val (.ref o2), .val (.int p3), .val (.int p4), .val (.int p5)] [(.int p5), (.ref o0)])) rfl rfl (hb hby d6_70)
  have f43 := f35.wr W42
  have f44 := Fld.other W42 f36 (Or.inr (slot_ne (Or.inr (hw _ (List.mem_of_getElem? (i := 34) rfl))) (Or.inr (hw _ (List.mem_of_getElem? (i := 42) rfl))) (by decide) (t := (.object "java/lang/String")) (t' := .int) (by decide) (by decide)))
  have f45 := Fld.other W42 f37 (Or.inr (slot_ne (Or.inr (hw _ (List.mem_of_getElem? (i := 36) rfl))) (Or.inr (hw _ (List.mem_of_getElem? (i := 42) rfl))) (by decide) (t := (.array .byte)) (t' := .int) (by decide) (by decide)))
  have f46 := Fld.other W42 f38 (Or.inr (slot_ne (Or.inr (hw _ (List.mem_of_getElem? (i := 38) rfl))) (Or.inr (hw _ (List.mem_of_getElem? (i := 42) rfl))) (by decide) (t := .int) (t' := .int) (by decide) (by decide)))
  have f47 := Fld.other W42 f39 (Or.inr (slot_ne (Or.inr (hw _ (List.mem_of_getElem? (i := 40) rfl))) (Or.inr (hw _ (List.mem_of_getElem? (i := 42) rfl))) (by decide) (t := .int) (t' := .int) (by decide) (by decide)))
  have f48 := Fld.same W42 f40
  have Z42 : n0 ≤ h42.size := Nat.le_trans Z34 (Nat.le_of_eq W42.size.symm)
  have K42 := K34.wr W42 (Or.inl (List.mem_of_getElem? (i := 0) rfl))
  have N42 := Fr.snoc X42 N34 g_o0
  have go42 := go41.step (C := T42.setTop (mkF m 73 #[.val (.ref o0), .val (.ref o1), .val (.ref o2), .val (.int p3), .val (.int p4), .val (.int p5)] [])) (fun t k => st42 t k)
  obtain ⟨fs, hr, hrun, hended, hW, hsame⟩ := X42.leave (v := none) (fun _ => rfl)
  refine ⟨_, _, go42 _ ?_, hrun, hended, _, _, rfl, ?_, ⟨_, rfl⟩, hW, hsame.mono (by decide) (by decide)⟩
  · exact X42.returnOut hx Bd.returns (hb hby d6_73) hr
  · show Q_rm6 Z o0 o1 o2 p3 p4 p5 ka vs h0 n0 _ T42.heap _
    rw [e42]
    exact ⟨rfl, N42, K42, f43, f44, f45, f46, f47, f48⟩
theorem d8_7 : decode prog_55_method_10_code 7 = .ok (.iload_n 2, 1) := by decide +kernel
theorem d8_8 : decode prog_55_method_10_code 8 = .ok (.aload_n 0, 1) := by decide +kernel
theorem d8_9 : decode prog_55_method_10_code 9 = .ok (.getfield 26, 3) := by decide +kernel
theorem d8_12 : decode prog_55_method_10_code 12 = .ok (.aload_n 0, 1) := by decide +kernel
theorem d8_13 : decode prog_55_method_10_code 13 = .ok (.getfield 30, 3) := by decide +kernel
theorem d8_16 : decode prog_55_method_10_code 16 = .ok (.iadd, 1) := by decide +kernel
theorem d8_17 : decode prog_55_method_10_code 17 = .ok (.if_icmp .ge 21, 3) := by decide +kernel
theorem d8_20 : decode prog_55_method_10_code 20 = .ok (.bipush 31, 2) := by decide +kernel
theorem d8_22 : decode prog_55_method_10_code 22 = .ok (.iload_n 1, 1) := by decide +kernel
theorem d8_23 : decode prog_55_method_10_code 23 = .ok (.imul, 1) := by decide +kernel
theorem d8_24 : decode prog_55_method_10_code 24 = .ok (.aload_n 0, 1) := by decide +kernel
theorem d8_25 : decode prog_55_method_10_code 25 = .ok (.getfield 22, 3) := by decide +kernel
theorem d8_28 : decode prog_55_method_10_code 28 = .ok (.iload_n 2, 1) := by decide +kernel
theorem d8_29 : decode prog_55_method_10_code 29 = .ok (.baload, 1) := by decide +kernel
theorem d8_30 : decode prog_55_method_10_code 30 = .ok (.iadd, 1) := by decide +kernel
theorem d8_31 : decode prog_55_method_10_code 31 = .ok (.istore_n 1, 1) := by decide +kernel
theorem d8_32 : decode prog_55_method_10_code 32 = .ok (.iinc 2 1, 3) := by decide +kernel
theorem d8_35 : decode prog_55_method_10_code 35 = .ok (.goto (-28), 3) := by decide +kernel
set_option maxRecDepth 65536 in
set_option maxHeartbeats 40000000 in
theorem lp_ch {p : Program} {l : Launch} {e : Env} {R : Room} {s : State} {m : MethodId} {args : Array Value} {below : List Frame} {meth : Method} {c : Code} {cells slots : Nat} {Z : State} {a0 : Array Value} {A : State} {G : Prop} (o0 : Addr) (o1 : Addr) (p1 : Int32) (p2 : Int32) (ka : ClassId) (vs : List Value) (f : Nat → Int32) (res : Int32) (h0 : Heap) (n0 : Nat)
    (hx : p.tables.exec = Jvm.exec) (hZ : Z.Warmed39 s.vm) (hw : ∀ d ∈ tables_1, d.before a0 Z = true) (hby : c.code = prog_55_method_10_code) (hml : c.maxLocals = 3) (hown : s.vm.findClass "com/example/zemlja/zemlja/record/Field" = some m.cls) (F_offset : Fld Z h0 o0 "com/example/zemlja/zemlja/record/Field" "offset" "I" (.int p1)) (F_length : Fld Z h0 o0 "com/example/zemlja/zemlja/record/Field" "length" "I" (.int p2)) (F_bytes : Fld Z h0 o0 "com/example/zemlja/zemlja/record/Field" "bytes" "[B" (.ref o1)) (V_o1 : Arv Z h0 o1 ka .byte (8 : Int32) vs (.int (0 : Int32))) (hv : own_Vs vs f)
    (kx0 : ∀ (T : State) (locs : List Loc) (i : Int32) (acc : Int32), Stand p l e R s m args below meth c T locs cells slots → T.heap = h0 → Fr n0 locs → acc = res → Go p e below A (T.setTop (mkF m 38 #[.val (.ref o0), .val (.int acc), .val (.int i)] [])) → G)
    : ∀ (k : Nat) (T : State) (locs : List Loc) (acc : Int32) (i : Int32) (j : Nat), Stand p l e R s m args below meth c T locs cells slots → T.heap = h0 → Fr n0 locs → i.toInt = (j : Int) → (p1 + p2).toInt = ((j + k : Nat) : Int) → j + k ≤ 8 → own_hash f j k acc = res → Go p e below A (T.setTop (mkF m 7 #[.val (.ref o0), .val (.int acc), .val (.int i)] [])) → G := by
  intro k
  induction k with
  | zero =>
    intro T locs acc i j X0 e0 N0 hi hk hle hres go0
    have Z0 : n0 ≤ n0 := Nat.le_refl _
    have K0 := Keep.refl h0 []
    have go1 := go0.step (C := T.setTop (mkF m 9 #[.val (.ref o0), .val (.int acc), .val (.int i)] [(.ref o0), (.int i)])) (fun t k => by
      show Steps p.tables e below (T.setTop (mkF m 7 #[.val (.ref o0), .val (.int acc), .val (.int i)] [])) _
      refine XS.iloadN X0.here hx rfl (hb hby d8_7) rfl ?_
      show Steps p.tables e below (T.setTop (mkF m 8 #[.val (.ref o0), .val (.int acc), .val (.int i)] [(.int i)])) _
      refine XS.aloadN X0.here hx rfl (hb hby d8_8) rfl rfl ?_
      exact k)
    obtain ⟨T2, X2, e2, st2⟩ := getF X0 hx hZ hown (host := "") (Or.inl (hw _ (List.mem_of_getElem? (i := 37) rfl))) Via.refl e0 F_offset (g := (mkF m 9 #[.val (.ref o0), .val (.int acc), .val (.int i)] [(.ref o0), (.int i)])) rfl rfl (hb hby d8_9)
    have go2 := go1.step (C := T2.setTop (mkF m 12 #[.val (.ref o0), .val (.int acc), .val (.int i)] [(.int p1), (.int i)])) (fun t k => st2 t k)
    have go3 := go2.step (C := T2.setTop (mkF m 13 #[.val (.ref o0), .val (.int acc), .val (.int i)] [(.ref o0), (.int p1), (.int i)])) (fun t k => by
      show Steps p.tables e below (T2.setTop (mkF m 12 #[.val (.ref o0), .val (.int acc), .val (.int i)] [(.int p1), (.int i)])) _
      refine XS.aloadN X2.here hx rfl (hb hby d8_12) rfl rfl ?_
      exact k)
    obtain ⟨T4, X4, e4, st4⟩ := getF X2 hx hZ hown (host := "") (Or.inl (hw _ (List.mem_of_getElem? (i := 39) rfl))) Via.refl e2 F_length (g := (mkF m 13 #[.val (.ref o0), .val (.int acc), .val (.int i)] [(.ref o0), (.int p1), (.int i)])) rfl rfl (hb hby d8_13)
    have go4 := go3.step (C := T4.setTop (mkF m 16 #[.val (.ref o0), .val (.int acc), .val (.int i)] [(.int p2), (.int p1), (.int i)])) (fun t k => st4 t k)
    have go6 := go4.step (C := T4.setTop (mkF m 38 #[.val (.ref o0), .val (.int acc), .val (.int i)] [])) (fun t k => by
      show Steps p.tables e below (T4.setTop (mkF m 16 #[.val (.ref o0), .val (.int acc), .val (.int i)] [(.int p2), (.int p1), (.int i)])) _
      refine XS.iadd X4.here hx rfl (hb hby d8_16) rfl ?_
      show Steps p.tables e below (T4.setTop (mkF m 17 #[.val (.ref o0), .val (.int acc), .val (.int i)] [(.int (p1 + p2)), (.int i)])) _
      refine XS.icmpYes X4.here hx rfl (pc0 := 17) (pc' := 38) rfl (hb hby d8_17) rfl (flt (own_nlt hi hk : ¬ (i < (p1 + p2)))).2.1 (by decide) (by decide) ?_
      exact k)
    exact kx0 T4 _ i acc X4 e4 N0 (by rw [← hres]; rfl) go6
  | succ k ih =>
    intro T locs acc i j X0 e0 N0 hi hk hle hres go0
    have Z0 : n0 ≤ n0 := Nat.le_refl _
    have K0 := Keep.refl h0 []
    have go7 := go0.step (C := T.setTop (mkF m 9 #[.val (.ref o0), .val (.int acc), .val (.int i)] [(.ref o0), (.int i)])) (fun t k => by
      show Steps p.tables e below (T.setTop (mkF m 7 #[.val (.ref o0), .val (.int acc), .val (.int i)] [])) _
      refine XS.iloadN X0.here hx rfl (hb hby d8_7) rfl ?_
      show Steps p.tables e below (T.setTop (mkF m 8 #[.val (.ref o0), .val (.int acc), .val (.int i)] [(.int i)])) _
      refine XS.aloadN X0.here hx rfl (hb hby d8_8) rfl rfl ?_
      exact k)
    obtain ⟨T8, X8, e8, st8⟩ := getF X0 hx hZ hown (host := "") (Or.inl (hw _ (List.mem_of_getElem? (i := 37) rfl))) Via.refl e0 F_offset (g := (mkF m 9 #[.val (.ref o0), .val (.int acc), .val (.int i)] [(.ref o0), (.int i)])) rfl rfl (hb hby d8_9)
    have go8 := go7.step (C := T8.setTop (mkF m 12 #[.val (.ref o0), .val (.int acc), .val (.int i)] [(.int p1), (.int i)])) (fun t k => st8 t k)
    have go9 := go8.step (C := T8.setTop (mkF m 13 #[.val (.ref o0), .val (.int acc), .val (.int i)] [(.ref o0), (.int p1), (.int i)])) (fun t k => by
      show Steps p.tables e below (T8.setTop (mkF m 12 #[.val (.ref o0), .val (.int acc), .val (.int i)] [(.int p1), (.int i)])) _
      refine XS.aloadN X8.here hx rfl (hb hby d8_12) rfl rfl ?_
      exact k)
    obtain ⟨T10, X10, e10, st10⟩ := getF X8 hx hZ hown (host := "") (Or.inl (hw _ (List.mem_of_getElem? (i := 39) rfl))) Via.refl e8 F_length (g := (mkF m 13 #[.val (.ref o0), .val (.int acc), .val (.int i)] [(.ref o0), (.int p1), (.int i)])) rfl rfl (hb hby d8_13)
    have go10 := go9.step (C := T10.setTop (mkF m 16 #[.val (.ref o0), .val (.int acc), .val (.int i)] [(.int p2), (.int p1), (.int i)])) (fun t k => st10 t k)
    have go12 := go10.step (C := T10.setTop (mkF m 25 #[.val (.ref o0), .val (.int acc), .val (.int i)] [(.ref o0), (.int ((31 : Int32) * acc))])) (fun t k => by
      show Steps p.tables e below (T10.setTop (mkF m 16 #[.val (.ref o0), .val (.int acc), .val (.int i)] [(.int p2), (.int p1), (.int i)])) _
      refine XS.iadd X10.here hx rfl (hb hby d8_16) rfl ?_
      show Steps p.tables e below (T10.setTop (mkF m 17 #[.val (.ref o0), .val (.int acc), .val (.int i)] [(.int (p1 + p2)), (.int i)])) _
      refine XS.icmpNo X10.here hx rfl (hb hby d8_17) rfl (tlt (own_lt hi hk : i < (p1 + p2))).2.1 ?_
      show Steps p.tables e below (T10.setTop (mkF m 20 #[.val (.ref o0), .val (.int acc), .val (.int i)] [])) _
      refine XS.bipush X10.here hx rfl (hb hby d8_20) ?_
      show Steps p.tables e below (T10.setTop (mkF m 22 #[.val (.ref o0), .val (.int acc), .val (.int i)] [(.int (31 : Int32))])) _
      refine XS.iloadN X10.here hx rfl (hb hby d8_22) rfl ?_
      show Steps p.tables e below (T10.setTop (mkF m 23 #[.val (.ref o0), .val (.int acc), .val (.int i)] [(.int acc), (.int (31 : Int32))])) _
      refine XS.imul X10.here hx rfl (hb hby d8_23) rfl ?_
      show Steps p.tables e below (T10.setTop (mkF m 24 #[.val (.ref o0), .val (.int acc), .val (.int i)] [(.int ((31 : Int32) * acc))])) _
      refine XS.aloadN X10.here hx rfl (hb hby d8_24) rfl rfl ?_
      exact k)
    obtain ⟨T13, X13, e13, st13⟩ := getF X10 hx hZ hown (host := "") (Or.inl (hw _ (List.mem_of_getElem? (i := 35) rfl))) Via.refl e10 F_bytes (g := (mkF m 25 #[.val (.ref o0), .val (.int acc), .val (.int i)] [(.ref o0), (.int ((31 : Int32) * acc))])) rfl rfl (hb hby d8_25)
    have go13 := go12.step (C := T13.setTop (mkF m 28 #[.val (.ref o0), .val (.int acc), .val (.int i)] [(.ref o1), (.int ((31 : Int32) * acc))])) (fun t k => st13 t k)
    have go14 := go13.step (C := T13.setTop (mkF m 29 #[.val (.ref o0), .val (.int acc), .val (.int i)] [(.int i), (.ref o1), (.int ((31 : Int32) * acc))])) (fun t k => by
      show Steps p.tables e below (T13.setTop (mkF m 28 #[.val (.ref o0), .val (.int acc), .val (.int i)] [(.ref o1), (.int ((31 : Int32) * acc))])) _
      refine XS.iloadN X13.here hx rfl (hb hby d8_28) rfl ?_
      exact k)
    have Vo15 := V_o1
    obtain ⟨cl15, Ar15, qa15, Sa15, Na15, Ha15, Ga15⟩ := Vo15
    have hin15 : ¬ (i < 0 ∨ cl15.slots.size ≤ (i).toNatClampNeg) := inb_of Sa15 (own_in hi (by omega))
    have hat15 : cl15.slots[(i).toNatClampNeg]? = some (.int (f j)) := Has.at Ha15 hin15 (own_rd hv hi (by omega))
    have go16 := go14.step (C := T13.setTop (mkF m 7 #[.val (.ref o0), .val (.int (((31 : Int32) * acc) + (f j))), .val (.int (i + (1 : Int32)))] [])) (fun t k => by
      show Steps p.tables e below (T13.setTop (mkF m 29 #[.val (.ref o0), .val (.int acc), .val (.int i)] [(.int i), (.ref o1), (.int ((31 : Int32) * acc))])) _
      refine X13.baloadBytes hx (j := i) (v := (.int (f j))) (by rw [e13]; exact Ar15.1) (State.isArrayOf_alike hZ.alike Ar15.2.1) Ar15.2.2 hin15 hat15 (g := (mkF m 29 #[.val (.ref o0), .val (.int acc), .val (.int i)] [(.int i), (.ref o1), (.int ((31 : Int32) * acc))])) rfl rfl (hb hby d8_29) _ ?_
      show Steps p.tables e below (T13.setTop (mkF m 30 #[.val (.ref o0), .val (.int acc), .val (.int i)] [(.int (f j)), (.int ((31 : Int32) * acc))])) _
      refine XS.iadd X13.here hx rfl (hb hby d8_30) rfl ?_
      show Steps p.tables e below (T13.setTop (mkF m 31 #[.val (.ref o0), .val (.int acc), .val (.int i)] [(.int (((31 : Int32) * acc) + (f j)))])) _
      refine XS.istoreN X13.here hx rfl (hb hby d8_31) rfl (l' := #[.val (.ref o0), .val (.int (((31 : Int32) * acc) + (f j))), .val (.int i)]) rfl ?_
      show Steps p.tables e below (T13.setTop (mkF m 32 #[.val (.ref o0), .val (.int (((31 : Int32) * acc) + (f j))), .val (.int i)] [])) _
      refine XS.iinc X13.here hx rfl (hb hby d8_32) rfl (l' := #[.val (.ref o0), .val (.int (((31 : Int32) * acc) + (f j))), .val (.int (i + (1 : Int32)))]) rfl ?_
      show Steps p.tables e below (T13.setTop (mkF m 35 #[.val (.ref o0), .val (.int (((31 : Int32) * acc) + (f j))), .val (.int (i + (1 : Int32)))] [])) _
      refine XS.goto X13.here hx rfl (pc0 := 35) (pc' := 7) rfl (hb hby d8_35) (by decide) (by decide) ?_
      exact k)
    exact ih T13 _ (((31 : Int32) * acc) + (f j)) (i + (1 : Int32)) (j + 1) X13 e13 N0 (own_succ hi (by omega)) (by rw [hk]; omega) (by omega) (by rw [← hres]; rfl) go16
theorem d8_0 : decode prog_55_method_10_code 0 = .ok (.iconst 0, 1) := by decide +kernel
theorem d8_1 : decode prog_55_method_10_code 1 = .ok (.istore_n 1, 1) := by decide +kernel
theorem d8_2 : decode prog_55_method_10_code 2 = .ok (.aload_n 0, 1) := by decide +kernel
theorem d8_3 : decode prog_55_method_10_code 3 = .ok (.getfield 26, 3) := by decide +kernel
theorem d8_6 : decode prog_55_method_10_code 6 = .ok (.istore_n 2, 1) := by decide +kernel
theorem d8_38 : decode prog_55_method_10_code 38 = .ok (.iload_n 1, 1) := by decide +kernel
theorem d8_39 : decode prog_55_method_10_code 39 = .ok (.ireturn, 1) := by decide +kernel
theorem pn_rm8 : plainName "com/example/zemlja/zemlja/record/Field" = true := by first | (simp [plainName, overriddenIn]; done) | decide +kernel
theorem ef_rm8 (m : MethodId) (o0 : Addr) : entryFrame m #[(.ref o0)] 3 = mkF m 0 #[.val (.ref o0), .unset, .unset] [] := by first | (simp [entryFrame, mkF, argsToLocals, Value.category]; done) | rfl
def Q_rm8 (Z : State) (o0 : Addr) (o1 : Addr) (p1 : Int32) (p2 : Int32) (ka : ClassId) (vs : List Value) (f : Nat → Int32) (fn : Nat) (cn : Nat) (h0 : Heap) (n0 : Nat) (v : Option Value) (h : Heap) (L : List Loc) : Prop := v = some (.int (own_hash f fn cn (0 : Int32))) ∧ Fr n0 L ∧ h = h0
set_option maxRecDepth 65536 in
set_option maxHeartbeats 40000000 in
theorem rm8 (l : Launch) (Z : State) (a0 : Array Value) (hw : ∀ d ∈ tables_1, d.before a0 Z = true) (ws : List Jvm.Cond) (o0 : Addr) (o1 : Addr) (p1 : Int32) (p2 : Int32) (ka : ClassId) (vs : List Value) (f : Nat → Int32) (fn : Nat) (cn : Nat) (h0 : Heap) (n0 : Nat) (Z0 : n0 ≤ h0.size) (F_offset : Fld Z h0 o0 "com/example/zemlja/zemlja/record/Field" "offset" "I" (.int p1)) (F_length : Fld Z h0 o0 "com/example/zemlja/zemlja/record/Field" "length" "I" (.int p2)) (F_bytes : Fld Z h0 o0 "com/example/zemlja/zemlja/record/Field" "bytes" "[B" (.ref o1)) (V_o1 : Arv Z h0 o1 ka .byte (8 : Int32) vs (.int (0 : Int32))) (hv : own_Vs vs f) (hfn : p1.toInt = (fn : Int)) (hcn : p2.toInt = (cn : Int)) (hle : fn + cn ≤ 8) :
    MetFree l (⟨"com/example/zemlja/zemlja/record/Field", "contentHash", "()I"⟩ : MethodName) (head1 (Jvm.Cond.code (⟨"com/example/zemlja/zemlja/record/Field", "contentHash", "()I"⟩ : MethodName) prog_55_method_10_code 3 (some .int) :: ws) ({ frames := 0, cells := 0, slots := 0, locals := 0 } : Room)) (fun a U => a = #[(.ref o0)] ∧ Z.Warmed39 U.vm ∧ U.heap = h0) (fun _ _ _ _ _ => True) (fun _ U o U' => ∃ v L, o = .returned v ∧ Q_rm8 Z o0 o1 p1 p2 ka vs f fn cn h0 n0 v U'.heap L ∧ FrameEnd U o U' L ({ frames := 0, cells := 0, slots := 0, locals := 0 } : Room).cells ({ frames := 0, cells := 0, slots := 0, locals := 0 } : Room).slots) := by
  refine MetFree.of_bodySF (plainFor_of_name pn_rm8) hisR ?_
  intro p e s m args below meth c s₁ Bd hml0 hP hK
  obtain ⟨rfl, hZ, hh⟩ := hP
  have hx := Bd.exec
  have hby := Bd.bytes
  have hml : c.maxLocals = 3 := hml0
  have hown : s.vm.findClass "com/example/zemlja/zemlja/record/Field" = some m.cls := findClass_of_methodNamed Bd.named
  have hnm := (name_of_methodNamed Bd.named Bd.method).1
  have X0 : Stand p l e ({ frames := 0, cells := 0, slots := 0, locals := 0 } : Room) s m #[(.ref o0)] below meth c s₁ [] 0 0 := Stand.of_body Bd
  have e0 : s₁.heap = h0 := by rw [← hh, Bd.state]; rfl
  have N0 := Fr.nil n0
  have K0 := Keep.refl h0 []
  have go0 : Go p e below (s₁.setTop (entryFrame m #[(.ref o0)] 3)) (s₁.setTop (mkF m 0 #[.val (.ref o0), .unset, .unset] [])) := fun t k => castTop (ef_rm8 m o0) k
  have hsum : (p1 + p2).toInt = ((fn + cn : Nat) : Int) := by
    have q := c_iadd p1 p2
    have r := rng32 (p1 + p2)
    omega
  have go1 := go0.step (C := s₁.setTop (mkF m 3 #[.val (.ref o0), .val (.int (0 : Int32)), .unset] [(.ref o0)])) (fun t k => by
    show Steps p.tables e below (s₁.setTop (mkF m 0 #[.val (.ref o0), .unset, .unset] [])) _
    refine XS.iconst X0.here hx rfl (hb hby d8_0) ?_
    show Steps p.tables e below (s₁.setTop (mkF m 1 #[.val (.ref o0), .unset, .unset] [(.int (0 : Int32))])) _
    refine XS.istoreN X0.here hx rfl (hb hby d8_1) rfl (l' := #[.val (.ref o0), .val (.int (0 : Int32)), .unset]) rfl ?_
    show Steps p.tables e below (s₁.setTop (mkF m 2 #[.val (.ref o0), .val (.int (0 : Int32)), .unset] [])) _
    refine XS.aloadN X0.here hx rfl (hb hby d8_2) rfl rfl ?_
    exact k)
  obtain ⟨T2, X2, e2, st2⟩ := getF X0 hx hZ hown (host := "") (Or.inl (hw _ (List.mem_of_getElem? (i := 37) rfl))) Via.refl e0 F_offset (g := (mkF m 3 #[.val (.ref o0), .val (.int (0 : Int32)), .unset] [(.ref o0)])) rfl rfl (hb hby d8_3)
  have go2 := go1.step (C := T2.setTop (mkF m 6 #[.val (.ref o0), .val (.int (0 : Int32)), .unset] [(.int p1)])) (fun t k => st2 t k)
  have go3 := go2.step (C := T2.setTop (mkF m 7 #[.val (.ref o0), .val (.int (0 : Int32)), .val (.int p1)] [])) (fun t k => by
    show Steps p.tables e below (T2.setTop (mkF m 6 #[.val (.ref o0), .val (.int (0 : Int32)), .unset] [(.int p1)])) _
    refine XS.istoreN X2.here hx rfl (hb hby d8_6) rfl (l' := #[.val (.ref o0), .val (.int (0 : Int32)), .val (.int p1)]) rfl ?_
    exact k)
  refine lp_ch o0 o1 p1 p2 ka vs f _ h0 n0 hx hZ hw hby hml hown F_offset F_length F_bytes V_o1 hv ?_ cn T2 _ (0 : Int32) p1 fn X2 e2 N0 hfn (by rw [hsum]) hle rfl go3
  intro T9 locs9 i9 acc9 X9 e9 N9 hr9 go9
  have go4 := go9.step (C := T9.setTop (mkF m 39 #[.val (.ref o0), .val (.int acc9), .val (.int i9)] [(.int acc9)])) (fun t k => by
    show Steps p.tables e below (T9.setTop (mkF m 38 #[.val (.ref o0), .val (.int acc9), .val (.int i9)] [])) _
    refine XS.iloadN X9.here hx rfl (hb hby d8_38) rfl ?_
    exact k)
  obtain ⟨fs, hr, hrun, hended, hW, hsame⟩ := X9.leave (v := some (.int acc9)) (fun h => by rw [Bd.returns] at h; cases h)
  refine ⟨_, _, go4 _ ?_, hrun, hended, _, _, rfl, ?_, ⟨_, rfl⟩, hW, hsame.mono (by decide) (by decide)⟩
  · exact own_retI X9 hx Bd.returns (hb hby d8_39) hr
  · show Q_rm8 Z o0 o1 p1 p2 ka vs f fn cn h0 n0 _ T9.heap _
    rw [e9]
    exact ⟨by rw [hr9], N9, rfl⟩
def own_p31 (p0 : Int32) : Int32 := (if p0 = (0 : Int32) then (1 : Int32) else (if p0 = (1 : Int32) then (31 : Int32) else (if p0 = (2 : Int32) then (961 : Int32) else (if p0 = (3 : Int32) then (29791 : Int32) else (if p0 = (4 : Int32) then (923521 : Int32) else (28629151 : Int32))))))
theorem d9_0 : decode method_2_code 0 = .ok (.iload_n 0, 1) := by decide +kernel
theorem d9_1 : decode method_2_code 1 = .ok (.ifCond .ne 5, 3) := by decide +kernel
theorem d9_4 : decode method_2_code 4 = .ok (.iconst 1, 1) := by decide +kernel
theorem d9_5 : decode method_2_code 5 = .ok (.ireturn, 1) := by decide +kernel
theorem d9_6 : decode method_2_code 6 = .ok (.iload_n 0, 1) := by decide +kernel
theorem d9_7 : decode method_2_code 7 = .ok (.iconst 1, 1) := by decide +kernel
theorem d9_8 : decode method_2_code 8 = .ok (.if_icmp .ne 6, 3) := by decide +kernel
theorem d9_11 : decode method_2_code 11 = .ok (.bipush 31, 2) := by decide +kernel
theorem d9_13 : decode method_2_code 13 = .ok (.ireturn, 1) := by decide +kernel
theorem d9_14 : decode method_2_code 14 = .ok (.iload_n 0, 1) := by decide +kernel
theorem d9_15 : decode method_2_code 15 = .ok (.iconst 2, 1) := by decide +kernel
theorem d9_16 : decode method_2_code 16 = .ok (.if_icmp .ne 7, 3) := by decide +kernel
theorem d9_19 : decode method_2_code 19 = .ok (.sipush 961, 3) := by decide +kernel
theorem d9_22 : decode method_2_code 22 = .ok (.ireturn, 1) := by decide +kernel
theorem d9_23 : decode method_2_code 23 = .ok (.iload_n 0, 1) := by decide +kernel
theorem d9_24 : decode method_2_code 24 = .ok (.iconst 3, 1) := by decide +kernel
theorem d9_25 : decode method_2_code 25 = .ok (.if_icmp .ne 7, 3) := by decide +kernel
theorem d9_28 : decode method_2_code 28 = .ok (.sipush 29791, 3) := by decide +kernel
theorem d9_31 : decode method_2_code 31 = .ok (.ireturn, 1) := by decide +kernel
theorem d9_32 : decode method_2_code 32 = .ok (.iload_n 0, 1) := by decide +kernel
theorem d9_33 : decode method_2_code 33 = .ok (.iconst 4, 1) := by decide +kernel
theorem d9_34 : decode method_2_code 34 = .ok (.if_icmp .ne 6, 3) := by decide +kernel
theorem d9_37 : decode method_2_code 37 = .ok (.ldc 7, 2) := by decide +kernel
theorem d9_39 : decode method_2_code 39 = .ok (.ireturn, 1) := by decide +kernel
theorem d9_40 : decode method_2_code 40 = .ok (.ldc 8, 2) := by decide +kernel
theorem d9_42 : decode method_2_code 42 = .ok (.ireturn, 1) := by decide +kernel
theorem pn_rm9 : plainName "com/example/zemlja/zemlja/record/FieldContentHashPinLaw" = true := by first | (simp [plainName, overriddenIn]; done) | decide +kernel
theorem ef_rm9 (m : MethodId) (p0 : Int32) : entryFrame m #[(.int p0)] 1 = mkF m 0 #[.val (.int p0)] [] := by first | (simp [entryFrame, mkF, argsToLocals, Value.category]; done) | rfl
def Q_rm9 (Z : State) (p0 : Int32) (h0 : Heap) (n0 : Nat) (v : Option Value) (h : Heap) (L : List Loc) : Prop := v = some (.int (own_p31 p0)) ∧ Fr n0 L ∧ h = h0
set_option maxRecDepth 65536 in
set_option maxHeartbeats 40000000 in
theorem rm9 (l : Launch) (Z : State) (a0 : Array Value) (hw : ∀ d ∈ tables_1, d.before a0 Z = true) (ws : List Jvm.Cond) (p0 : Int32) (h0 : Heap) (n0 : Nat) (Z0 : n0 ≤ h0.size) :
    MetFree l (⟨"com/example/zemlja/zemlja/record/FieldContentHashPinLaw", "pow31", "(I)I"⟩ : MethodName) (head1 (Jvm.Cond.code (⟨"com/example/zemlja/zemlja/record/FieldContentHashPinLaw", "pow31", "(I)I"⟩ : MethodName) method_2_code 1 (some .int) :: ws) ({ frames := 0, cells := 0, slots := 0, locals := 0 } : Room)) (fun a U => a = #[(.int p0)] ∧ Z.Warmed39 U.vm ∧ U.heap = h0) (fun _ _ _ _ _ => True) (fun _ U o U' => ∃ v L, o = .returned v ∧ Q_rm9 Z p0 h0 n0 v U'.heap L ∧ FrameEnd U o U' L ({ frames := 0, cells := 0, slots := 0, locals := 0 } : Room).cells ({ frames := 0, cells := 0, slots := 0, locals := 0 } : Room).slots) := by
  refine MetFree.of_bodySF (plainFor_of_name pn_rm9) hisR ?_
  intro p e s m args below meth c s₁ Bd hml0 hP hK
  obtain ⟨rfl, hZ, hh⟩ := hP
  have hx := Bd.exec
  have hby := Bd.bytes
  have hml : c.maxLocals = 1 := hml0
  have hown : s.vm.findClass "com/example/zemlja/zemlja/record/FieldContentHashPinLaw" = some m.cls := findClass_of_methodNamed Bd.named
  have hnm := (name_of_methodNamed Bd.named Bd.method).1
  have X0 : Stand p l e ({ frames := 0, cells := 0, slots := 0, locals := 0 } : Room) s m #[(.int p0)] below meth c s₁ [] 0 0 := Stand.of_body Bd
  have e0 : s₁.heap = h0 := by rw [← hh, Bd.state]; rfl
  have N0 := Fr.nil n0
  have K0 := Keep.refl h0 []
  have go0 : Go p e below (s₁.setTop (entryFrame m #[(.int p0)] 1)) (s₁.setTop (mkF m 0 #[.val (.int p0)] [])) := fun t k => castTop (ef_rm9 m p0) k
  have go2 := go0.step (C := s₁.setTop (mkF m 1 #[.val (.int p0)] [(.int p0)])) (fun t k => by
    show Steps p.tables e below (s₁.setTop (mkF m 0 #[.val (.int p0)] [])) _
    refine XS.iloadN X0.here hx rfl (hb hby d9_0) rfl ?_
    exact k)
  by_cases hc1 : p0 = (0 : Int32)
  · skip
    have go3 := go2.step (C := s₁.setTop (mkF m 5 #[.val (.int p0)] [(.int (1 : Int32))])) (fun t k => by
      show Steps p.tables e below (s₁.setTop (mkF m 1 #[.val (.int p0)] [(.int p0)])) _
      refine XS.ifNo X0.here hx rfl (hb hby d9_1) rfl ((if0 _ _).trans (teq hc1).2) ?_
      show Steps p.tables e below (s₁.setTop (mkF m 4 #[.val (.int p0)] [])) _
      refine XS.iconst X0.here hx rfl (hb hby d9_4) ?_
      exact k)
    obtain ⟨fs, hr, hrun, hended, hW, hsame⟩ := X0.leave (v := some (.int (1 : Int32))) (fun h => by rw [Bd.returns] at h; cases h)
    refine ⟨_, _, go3 _ ?_, hrun, hended, _, _, rfl, ?_, ⟨_, rfl⟩, hW, hsame.mono (by decide) (by decide)⟩
    · exact own_retI X0 hx Bd.returns (hb hby d9_5) hr
    · show Q_rm9 Z p0 h0 n0 _ s₁.heap _
      rw [e0]
      exact ⟨by unfold own_p31; simp only [if_pos hc1], N0, rfl⟩
  · skip
    have go5 := go2.step (C := s₁.setTop (mkF m 8 #[.val (.int p0)] [(.int (1 : Int32)), (.int p0)])) (fun t k => by
      show Steps p.tables e below (s₁.setTop (mkF m 1 #[.val (.int p0)] [(.int p0)])) _
      refine XS.ifYes X0.here hx rfl (pc0 := 1) (pc' := 6) rfl (hb hby d9_1) rfl ((if0 _ _).trans (feq hc1).2) (by decide) (by decide) ?_
      show Steps p.tables e below (s₁.setTop (mkF m 6 #[.val (.int p0)] [])) _
      refine XS.iloadN X0.here hx rfl (hb hby d9_6) rfl ?_
      show Steps p.tables e below (s₁.setTop (mkF m 7 #[.val (.int p0)] [(.int p0)])) _
      refine XS.iconst X0.here hx rfl (hb hby d9_7) ?_
      exact k)
    by_cases hc4 : p0 = (1 : Int32)
    · skip
      have go6 := go5.step (C := s₁.setTop (mkF m 13 #[.val (.int p0)] [(.int (31 : Int32))])) (fun t k => by
        show Steps p.tables e below (s₁.setTop (mkF m 8 #[.val (.int p0)] [(.int (1 : Int32)), (.int p0)])) _
        refine XS.icmpNo X0.here hx rfl (hb hby d9_8) rfl (teq hc4).2 ?_
        show Steps p.tables e below (s₁.setTop (mkF m 11 #[.val (.int p0)] [])) _
        refine XS.bipush X0.here hx rfl (hb hby d9_11) ?_
        exact k)
      obtain ⟨fs, hr, hrun, hended, hW, hsame⟩ := X0.leave (v := some (.int (31 : Int32))) (fun h => by rw [Bd.returns] at h; cases h)
      refine ⟨_, _, go6 _ ?_, hrun, hended, _, _, rfl, ?_, ⟨_, rfl⟩, hW, hsame.mono (by decide) (by decide)⟩
      · exact own_retI X0 hx Bd.returns (hb hby d9_13) hr
      · show Q_rm9 Z p0 h0 n0 _ s₁.heap _
        rw [e0]
        exact ⟨by unfold own_p31; simp only [if_neg hc1, if_pos hc4], N0, rfl⟩
    · skip
      have go8 := go5.step (C := s₁.setTop (mkF m 16 #[.val (.int p0)] [(.int (2 : Int32)), (.int p0)])) (fun t k => by
        show Steps p.tables e below (s₁.setTop (mkF m 8 #[.val (.int p0)] [(.int (1 : Int32)), (.int p0)])) _
        refine XS.icmpYes X0.here hx rfl (pc0 := 8) (pc' := 14) rfl (hb hby d9_8) rfl (feq hc4).2 (by decide) (by decide) ?_
        show Steps p.tables e below (s₁.setTop (mkF m 14 #[.val (.int p0)] [])) _
        refine XS.iloadN X0.here hx rfl (hb hby d9_14) rfl ?_
        show Steps p.tables e below (s₁.setTop (mkF m 15 #[.val (.int p0)] [(.int p0)])) _
        refine XS.iconst X0.here hx rfl (hb hby d9_15) ?_
        exact k)
      by_cases hc7 : p0 = (2 : Int32)
      · skip
        have go9 := go8.step (C := s₁.setTop (mkF m 22 #[.val (.int p0)] [(.int (961 : Int32))])) (fun t k => by
          show Steps p.tables e below (s₁.setTop (mkF m 16 #[.val (.int p0)] [(.int (2 : Int32)), (.int p0)])) _
          refine XS.icmpNo X0.here hx rfl (hb hby d9_16) rfl (teq hc7).2 ?_
          show Steps p.tables e below (s₁.setTop (mkF m 19 #[.val (.int p0)] [])) _
          refine XS.sipush X0.here hx rfl (hb hby d9_19) ?_
          exact k)
        obtain ⟨fs, hr, hrun, hended, hW, hsame⟩ := X0.leave (v := some (.int (961 : Int32))) (fun h => by rw [Bd.returns] at h; cases h)
        refine ⟨_, _, go9 _ ?_, hrun, hended, _, _, rfl, ?_, ⟨_, rfl⟩, hW, hsame.mono (by decide) (by decide)⟩
        · exact own_retI X0 hx Bd.returns (hb hby d9_22) hr
        · show Q_rm9 Z p0 h0 n0 _ s₁.heap _
          rw [e0]
          exact ⟨by unfold own_p31; simp only [if_neg hc1, if_neg hc4, if_pos hc7], N0, rfl⟩
      · skip
        have go11 := go8.step (C := s₁.setTop (mkF m 25 #[.val (.int p0)] [(.int (3 : Int32)), (.int p0)])) (fun t k => by
          show Steps p.tables e below (s₁.setTop (mkF m 16 #[.val (.int p0)] [(.int (2 : Int32)), (.int p0)])) _
          refine XS.icmpYes X0.here hx rfl (pc0 := 16) (pc' := 23) rfl (hb hby d9_16) rfl (feq hc7).2 (by decide) (by decide) ?_
          show Steps p.tables e below (s₁.setTop (mkF m 23 #[.val (.int p0)] [])) _
          refine XS.iloadN X0.here hx rfl (hb hby d9_23) rfl ?_
          show Steps p.tables e below (s₁.setTop (mkF m 24 #[.val (.int p0)] [(.int p0)])) _
          refine XS.iconst X0.here hx rfl (hb hby d9_24) ?_
          exact k)
        by_cases hc10 : p0 = (3 : Int32)
        · skip
          have go12 := go11.step (C := s₁.setTop (mkF m 31 #[.val (.int p0)] [(.int (29791 : Int32))])) (fun t k => by
            show Steps p.tables e below (s₁.setTop (mkF m 25 #[.val (.int p0)] [(.int (3 : Int32)), (.int p0)])) _
            refine XS.icmpNo X0.here hx rfl (hb hby d9_25) rfl (teq hc10).2 ?_
            show Steps p.tables e below (s₁.setTop (mkF m 28 #[.val (.int p0)] [])) _
            refine XS.sipush X0.here hx rfl (hb hby d9_28) ?_
            exact k)
          obtain ⟨fs, hr, hrun, hended, hW, hsame⟩ := X0.leave (v := some (.int (29791 : Int32))) (fun h => by rw [Bd.returns] at h; cases h)
          refine ⟨_, _, go12 _ ?_, hrun, hended, _, _, rfl, ?_, ⟨_, rfl⟩, hW, hsame.mono (by decide) (by decide)⟩
          · exact own_retI X0 hx Bd.returns (hb hby d9_31) hr
          · show Q_rm9 Z p0 h0 n0 _ s₁.heap _
            rw [e0]
            exact ⟨by unfold own_p31; simp only [if_neg hc1, if_neg hc4, if_neg hc7, if_pos hc10], N0, rfl⟩
        · skip
          have go14 := go11.step (C := s₁.setTop (mkF m 34 #[.val (.int p0)] [(.int (4 : Int32)), (.int p0)])) (fun t k => by
            show Steps p.tables e below (s₁.setTop (mkF m 25 #[.val (.int p0)] [(.int (3 : Int32)), (.int p0)])) _
            refine XS.icmpYes X0.here hx rfl (pc0 := 25) (pc' := 32) rfl (hb hby d9_25) rfl (feq hc10).2 (by decide) (by decide) ?_
            show Steps p.tables e below (s₁.setTop (mkF m 32 #[.val (.int p0)] [])) _
            refine XS.iloadN X0.here hx rfl (hb hby d9_32) rfl ?_
            show Steps p.tables e below (s₁.setTop (mkF m 33 #[.val (.int p0)] [(.int p0)])) _
            refine XS.iconst X0.here hx rfl (hb hby d9_33) ?_
            exact k)
          by_cases hc13 : p0 = (4 : Int32)
          · skip
            have go15 := go14.step (C := s₁.setTop (mkF m 39 #[.val (.int p0)] [(.int (923521 : Int32))])) (fun t k => by
              show Steps p.tables e below (s₁.setTop (mkF m 34 #[.val (.int p0)] [(.int (4 : Int32)), (.int p0)])) _
              refine XS.icmpNo X0.here hx rfl (hb hby d9_34) rfl (teq hc13).2 ?_
              show Steps p.tables e below (s₁.setTop (mkF m 37 #[.val (.int p0)] [])) _
              refine X0.ldcInt hx hown (mvT hZ (hw _ (List.mem_of_getElem? (i := 55) rfl))) (g := (mkF m 37 #[.val (.int p0)] [])) rfl (hb hby d9_37) _ ?_
              exact k)
            obtain ⟨fs, hr, hrun, hended, hW, hsame⟩ := X0.leave (v := some (.int (923521 : Int32))) (fun h => by rw [Bd.returns] at h; cases h)
            refine ⟨_, _, go15 _ ?_, hrun, hended, _, _, rfl, ?_, ⟨_, rfl⟩, hW, hsame.mono (by decide) (by decide)⟩
            · exact own_retI X0 hx Bd.returns (hb hby d9_39) hr
            · show Q_rm9 Z p0 h0 n0 _ s₁.heap _
              rw [e0]
              exact ⟨by unfold own_p31; simp only [if_neg hc1, if_neg hc4, if_neg hc7, if_neg hc10, if_pos hc13], N0, rfl⟩
          · skip
            have go16 := go14.step (C := s₁.setTop (mkF m 42 #[.val (.int p0)] [(.int (28629151 : Int32))])) (fun t k => by
              show Steps p.tables e below (s₁.setTop (mkF m 34 #[.val (.int p0)] [(.int (4 : Int32)), (.int p0)])) _
              refine XS.icmpYes X0.here hx rfl (pc0 := 34) (pc' := 40) rfl (hb hby d9_34) rfl (feq hc13).2 (by decide) (by decide) ?_
              show Steps p.tables e below (s₁.setTop (mkF m 40 #[.val (.int p0)] [])) _
              refine X0.ldcInt hx hown (mvT hZ (hw _ (List.mem_of_getElem? (i := 56) rfl))) (g := (mkF m 40 #[.val (.int p0)] [])) rfl (hb hby d9_40) _ ?_
              exact k)
            obtain ⟨fs, hr, hrun, hended, hW, hsame⟩ := X0.leave (v := some (.int (28629151 : Int32))) (fun h => by rw [Bd.returns] at h; cases h)
            refine ⟨_, _, go16 _ ?_, hrun, hended, _, _, rfl, ?_, ⟨_, rfl⟩, hW, hsame.mono (by decide) (by decide)⟩
            · exact own_retI X0 hx Bd.returns (hb hby d9_42) hr
            · show Q_rm9 Z p0 h0 n0 _ s₁.heap _
              rw [e0]
              exact ⟨by unfold own_p31; simp only [if_neg hc1, if_neg hc4, if_neg hc7, if_neg hc10, if_neg hc13], N0, rfl⟩
def own_term (p2 : Int32) (p3 : Int32) (f : Nat → Int32) (jn : Nat) : Int32 := (if p3 < p2 then ((f jn) * (own_p31 ((p2 - (1 : Int32)) - p3))) else (0 : Int32))
theorem d7_0 : decode method_3_code 0 = .ok (.iload_n 3, 1) := by decide +kernel
theorem d7_1 : decode method_3_code 1 = .ok (.iload_n 2, 1) := by decide +kernel
theorem d7_2 : decode method_3_code 2 = .ok (.if_icmp .ge 18, 3) := by decide +kernel
theorem d7_5 : decode method_3_code 5 = .ok (.aload_n 0, 1) := by decide +kernel
theorem d7_6 : decode method_3_code 6 = .ok (.iload_n 1, 1) := by decide +kernel
theorem d7_7 : decode method_3_code 7 = .ok (.iload_n 3, 1) := by decide +kernel
theorem d7_8 : decode method_3_code 8 = .ok (.iadd, 1) := by decide +kernel
theorem d7_9 : decode method_3_code 9 = .ok (.baload, 1) := by decide +kernel
theorem d7_10 : decode method_3_code 10 = .ok (.iload_n 2, 1) := by decide +kernel
theorem d7_11 : decode method_3_code 11 = .ok (.iconst 1, 1) := by decide +kernel
theorem d7_12 : decode method_3_code 12 = .ok (.isub, 1) := by decide +kernel
theorem d7_13 : decode method_3_code 13 = .ok (.iload_n 3, 1) := by decide +kernel
theorem d7_14 : decode method_3_code 14 = .ok (.isub, 1) := by decide +kernel
theorem d7_15 : decode method_3_code 15 = .ok (.invokestatic 9, 3) := by decide +kernel
theorem d7_18 : decode method_3_code 18 = .ok (.imul, 1) := by decide +kernel
theorem d7_19 : decode method_3_code 19 = .ok (.ireturn, 1) := by decide +kernel
theorem d7_20 : decode method_3_code 20 = .ok (.iconst 0, 1) := by decide +kernel
theorem d7_21 : decode method_3_code 21 = .ok (.ireturn, 1) := by decide +kernel
theorem pn_rm7 : plainName "com/example/zemlja/zemlja/record/FieldContentHashPinLaw" = true := by first | (simp [plainName, overriddenIn]; done) | decide +kernel
theorem pd_rm7_0 : parseMethodDescriptor "(I)I" = some ⟨[.int], some .int⟩ := by decide +kernel
theorem ef_rm7 (m : MethodId) (o0 : Addr) (p1 : Int32) (p2 : Int32) (p3 : Int32) : entryFrame m #[(.ref o0), (.int p1), (.int p2), (.int p3)] 4 = mkF m 0 #[.val (.ref o0), .val (.int p1), .val (.int p2), .val (.int p3)] [] := by first | (simp [entryFrame, mkF, argsToLocals, Value.category]; done) | rfl
def Q_rm7 (Z : State) (o0 : Addr) (p1 : Int32) (p2 : Int32) (p3 : Int32) (ka : ClassId) (vs : List Value) (f : Nat → Int32) (jn : Nat) (h0 : Heap) (n0 : Nat) (v : Option Value) (h : Heap) (L : List Loc) : Prop := v = some (.int (own_term p2 p3 f jn)) ∧ Fr n0 L ∧ h = h0
set_option maxRecDepth 65536 in
set_option maxHeartbeats 40000000 in
theorem rm7 (l : Launch) (Z : State) (a0 : Array Value) (hw : ∀ d ∈ tables_1, d.before a0 Z = true) (ws : List Jvm.Cond) (o0 : Addr) (p1 : Int32) (p2 : Int32) (p3 : Int32) (ka : ClassId) (vs : List Value) (f : Nat → Int32) (jn : Nat) (h0 : Heap) (n0 : Nat) (Z0 : n0 ≤ h0.size) (V_o0 : Arv Z h0 o0 ka .byte (8 : Int32) vs (.int (0 : Int32))) (hv : own_Vs vs f) (hi : (p1 + p3).toInt = (jn : Int)) (hlt : p3 < p2 → jn < 8) :
    MetFree l (⟨"com/example/zemlja/zemlja/record/FieldContentHashPinLaw", "term", "([BIII)I"⟩ : MethodName) (head1 (Jvm.Cond.code (⟨"com/example/zemlja/zemlja/record/FieldContentHashPinLaw", "term", "([BIII)I"⟩ : MethodName) method_3_code 4 (some .int) :: ws) ({ frames := 1, cells := 0, slots := 0, locals := 13 } : Room)) (fun a U => a = #[(.ref o0), (.int p1), (.int p2), (.int p3)] ∧ Z.Warmed39 U.vm ∧ U.heap = h0) (fun _ _ _ _ _ => True) (fun _ U o U' => ∃ v L, o = .returned v ∧ Q_rm7 Z o0 p1 p2 p3 ka vs f jn h0 n0 v U'.heap L ∧ FrameEnd U o U' L ({ frames := 1, cells := 0, slots := 0, locals := 13 } : Room).cells ({ frames := 1, cells := 0, slots := 0, locals := 13 } : Room).slots) := by
  refine MetFree.of_bodySF (plainFor_of_name pn_rm7) hisR ?_
  intro p e s m args below meth c s₁ Bd hml0 hP hK
  obtain ⟨rfl, hZ, hh⟩ := hP
  have hx := Bd.exec
  have hby := Bd.bytes
  have hml : c.maxLocals = 4 := hml0
  have hown : s.vm.findClass "com/example/zemlja/zemlja/record/FieldContentHashPinLaw" = some m.cls := findClass_of_methodNamed Bd.named
  have hnm := (name_of_methodNamed Bd.named Bd.method).1
  have X0 : Stand p l e ({ frames := 1, cells := 0, slots := 0, locals := 13 } : Room) s m #[(.ref o0), (.int p1), (.int p2), (.int p3)] below meth c s₁ [] 0 0 := Stand.of_body Bd
  have e0 : s₁.heap = h0 := by rw [← hh, Bd.state]; rfl
  have N0 := Fr.nil n0
  have K0 := Keep.refl h0 []
  have go0 : Go p e below (s₁.setTop (entryFrame m #[(.ref o0), (.int p1), (.int p2), (.int p3)] 4)) (s₁.setTop (mkF m 0 #[.val (.ref o0), .val (.int p1), .val (.int p2), .val (.int p3)] [])) := fun t k => castTop (ef_rm7 m o0 p1 p2 p3) k
  have go2 := go0.step (C := s₁.setTop (mkF m 2 #[.val (.ref o0), .val (.int p1), .val (.int p2), .val (.int p3)] [(.int p2), (.int p3)])) (fun t k => by
    show Steps p.tables e below (s₁.setTop (mkF m 0 #[.val (.ref o0), .val (.int p1), .val (.int p2), .val (.int p3)] [])) _
    refine XS.iloadN X0.here hx rfl (hb hby d7_0) rfl ?_
    show Steps p.tables e below (s₁.setTop (mkF m 1 #[.val (.ref o0), .val (.int p1), .val (.int p2), .val (.int p3)] [(.int p3)])) _
    refine XS.iloadN X0.here hx rfl (hb hby d7_1) rfl ?_
    exact k)
  by_cases hc1 : p3 < p2
  · skip
    have go3 := go2.step (C := s₁.setTop (mkF m 9 #[.val (.ref o0), .val (.int p1), .val (.int p2), .val (.int p3)] [(.int (p1 + p3)), (.ref o0)])) (fun t k => by
      show Steps p.tables e below (s₁.setTop (mkF m 2 #[.val (.ref o0), .val (.int p1), .val (.int p2), .val (.int p3)] [(.int p2), (.int p3)])) _
      refine XS.icmpNo X0.here hx rfl (hb hby d7_2) rfl (tlt hc1).2.1 ?_
      show Steps p.tables e below (s₁.setTop (mkF m 5 #[.val (.ref o0), .val (.int p1), .val (.int p2), .val (.int p3)] [])) _
      refine XS.aloadN X0.here hx rfl (hb hby d7_5) rfl rfl ?_
      show Steps p.tables e below (s₁.setTop (mkF m 6 #[.val (.ref o0), .val (.int p1), .val (.int p2), .val (.int p3)] [(.ref o0)])) _
      refine XS.iloadN X0.here hx rfl (hb hby d7_6) rfl ?_
      show Steps p.tables e below (s₁.setTop (mkF m 7 #[.val (.ref o0), .val (.int p1), .val (.int p2), .val (.int p3)] [(.int p1), (.ref o0)])) _
      refine XS.iloadN X0.here hx rfl (hb hby d7_7) rfl ?_
      show Steps p.tables e below (s₁.setTop (mkF m 8 #[.val (.ref o0), .val (.int p1), .val (.int p2), .val (.int p3)] [(.int p3), (.int p1), (.ref o0)])) _
      refine XS.iadd X0.here hx rfl (hb hby d7_8) rfl ?_
      exact k)
    have Vo4 := V_o0
    obtain ⟨cl4, Ar4, qa4, Sa4, Na4, Ha4, Ga4⟩ := Vo4
    have hin4 : ¬ ((p1 + p3) < 0 ∨ cl4.slots.size ≤ ((p1 + p3)).toNatClampNeg) := inb_of Sa4 (own_in hi (hlt hc1))
    have hat4 : cl4.slots[((p1 + p3)).toNatClampNeg]? = some (.int (f jn)) := Has.at Ha4 hin4 (own_rd hv hi (hlt hc1))
    have go5 := go3.step (C := s₁.setTop (mkF m 15 #[.val (.ref o0), .val (.int p1), .val (.int p2), .val (.int p3)] [(.int ((p2 - (1 : Int32)) - p3)), (.int (f jn))])) (fun t k => by
      show Steps p.tables e below (s₁.setTop (mkF m 9 #[.val (.ref o0), .val (.int p1), .val (.int p2), .val (.int p3)] [(.int (p1 + p3)), (.ref o0)])) _
      refine X0.baloadBytes hx (j := (p1 + p3)) (v := (.int (f jn))) (by rw [e0]; exact Ar4.1) (State.isArrayOf_alike hZ.alike Ar4.2.1) Ar4.2.2 hin4 hat4 (g := (mkF m 9 #[.val (.ref o0), .val (.int p1), .val (.int p2), .val (.int p3)] [(.int (p1 + p3)), (.ref o0)])) rfl rfl (hb hby d7_9) _ ?_
      show Steps p.tables e below (s₁.setTop (mkF m 10 #[.val (.ref o0), .val (.int p1), .val (.int p2), .val (.int p3)] [(.int (f jn))])) _
      refine XS.iloadN X0.here hx rfl (hb hby d7_10) rfl ?_
      show Steps p.tables e below (s₁.setTop (mkF m 11 #[.val (.ref o0), .val (.int p1), .val (.int p2), .val (.int p3)] [(.int p2), (.int (f jn))])) _
      refine XS.iconst X0.here hx rfl (hb hby d7_11) ?_
      show Steps p.tables e below (s₁.setTop (mkF m 12 #[.val (.ref o0), .val (.int p1), .val (.int p2), .val (.int p3)] [(.int (1 : Int32)), (.int p2), (.int (f jn))])) _
      refine XS.isub X0.here hx rfl (hb hby d7_12) rfl ?_
      show Steps p.tables e below (s₁.setTop (mkF m 13 #[.val (.ref o0), .val (.int p1), .val (.int p2), .val (.int p3)] [(.int (p2 - (1 : Int32))), (.int (f jn))])) _
      refine XS.iloadN X0.here hx rfl (hb hby d7_13) rfl ?_
      show Steps p.tables e below (s₁.setTop (mkF m 14 #[.val (.ref o0), .val (.int p1), .val (.int p2), .val (.int p3)] [(.int p3), (.int (p2 - (1 : Int32))), (.int (f jn))])) _
      refine XS.isub X0.here hx rfl (hb hby d7_14) rfl ?_
      exact k)
    obtain ⟨_, _, ⟨T6, L6, k6, n6⟩, -, X6, ⟨Lc6, hQ6, l6, y6, z6⟩, st6⟩ := Jvm.LawKit.callS X0 hx (y := (⟨"com/example/zemlja/zemlja/record/FieldContentHashPinLaw", "pow31", "(I)I"⟩ : MethodName)) hown (mvT hZ (hw _ (List.mem_of_getElem? (i := 52) rfl))) (mvT hZ (hw _ (List.mem_of_getElem? (i := 53) rfl))) (mvT hZ (hw _ (List.mem_of_getElem? (i := 45) rfl))) (mvT hZ (hw _ (List.mem_of_getElem? (i := 54) rfl))) (by decide) (backOf (W := 1) (rm9 l Z a0 hw [] ((p2 - (1 : Int32)) - p3) h0 n0 Z0 ) hZ (hw _ (List.mem_of_getElem? (i := 54) rfl)) (hw _ (List.mem_of_getElem? (i := 45) rfl)) (by decide) (by decide)) (g := (mkF m 15 #[.val (.ref o0), .val (.int p1), .val (.int p2), .val (.int p3)] [(.int ((p2 - (1 : Int32)) - p3)), (.int (f jn))])) rfl (by rw [hml]; rfl) (argsL := [(.int ((p2 - (1 : Int32)) - p3))]) (rest := [(.int (f jn))]) (lenOf pd_rm7_0 rfl) rfl (by show 2 * 0 + _ ≤ _; exact Nat.le_of_eq rfl) (hb hby d7_15) (fun _ _ => ⟨rfl, e0, (by decide : 0 + 0 ≤ _), (by decide : 0 + 0 ≤ _)⟩)
    dsimp only [Pt.U, Pt.locs, Pt.cells, Pt.slots] at X6 l6 y6 z6 st6 hQ6
    rw [l6, y6, z6] at X6
    obtain ⟨rfl, N6q, e6⟩ := hQ6
    have N6 := Fr.app N0 N6q
    have go6 := go5.step (C := T6.setTop (mkF m 18 #[.val (.ref o0), .val (.int p1), .val (.int p2), .val (.int p3)] [(.int (own_p31 ((p2 - (1 : Int32)) - p3))), (.int (f jn))])) (fun t k => st6 t k)
    have go7 := go6.step (C := T6.setTop (mkF m 19 #[.val (.ref o0), .val (.int p1), .val (.int p2), .val (.int p3)] [(.int ((f jn) * (own_p31 ((p2 - (1 : Int32)) - p3))))])) (fun t k => by
      show Steps p.tables e below (T6.setTop (mkF m 18 #[.val (.ref o0), .val (.int p1), .val (.int p2), .val (.int p3)] [(.int (own_p31 ((p2 - (1 : Int32)) - p3))), (.int (f jn))])) _
      refine XS.imul X6.here hx rfl (hb hby d7_18) rfl ?_
      exact k)
    obtain ⟨fs, hr, hrun, hended, hW, hsame⟩ := X6.leave (v := some (.int ((f jn) * (own_p31 ((p2 - (1 : Int32)) - p3))))) (fun h => by rw [Bd.returns] at h; cases h)
    refine ⟨_, _, go7 _ ?_, hrun, hended, _, _, rfl, ?_, ⟨_, rfl⟩, hW, hsame.mono (by decide) (by decide)⟩
    · exact own_retI X6 hx Bd.returns (hb hby d7_19) hr
    · show Q_rm7 Z o0 p1 p2 p3 ka vs f jn h0 n0 _ T6.heap _
      rw [e6]
      exact ⟨by unfold own_term; simp only [if_pos hc1], N6, rfl⟩
  · skip
    have go8 := go2.step (C := s₁.setTop (mkF m 21 #[.val (.ref o0), .val (.int p1), .val (.int p2), .val (.int p3)] [(.int (0 : Int32))])) (fun t k => by
      show Steps p.tables e below (s₁.setTop (mkF m 2 #[.val (.ref o0), .val (.int p1), .val (.int p2), .val (.int p3)] [(.int p2), (.int p3)])) _
      refine XS.icmpYes X0.here hx rfl (pc0 := 2) (pc' := 20) rfl (hb hby d7_2) rfl (flt hc1).2.1 (by decide) (by decide) ?_
      show Steps p.tables e below (s₁.setTop (mkF m 20 #[.val (.ref o0), .val (.int p1), .val (.int p2), .val (.int p3)] [])) _
      refine XS.iconst X0.here hx rfl (hb hby d7_20) ?_
      exact k)
    obtain ⟨fs, hr, hrun, hended, hW, hsame⟩ := X0.leave (v := some (.int (0 : Int32))) (fun h => by rw [Bd.returns] at h; cases h)
    refine ⟨_, _, go8 _ ?_, hrun, hended, _, _, rfl, ?_, ⟨_, rfl⟩, hW, hsame.mono (by decide) (by decide)⟩
    · exact own_retI X0 hx Bd.returns (hb hby d7_21) hr
    · show Q_rm7 Z o0 p1 p2 p3 ka vs f jn h0 n0 _ s₁.heap _
      rw [e0]
      exact ⟨by unfold own_term; simp only [if_neg hc1], N0, rfl⟩
theorem own_t1 {p2 p3 : Int32} {f : Nat → Int32} {jn : Nat} (h : p3 < p2) : own_term p2 p3 f jn = f jn * own_p31 (p2 - (1 : Int32) - p3) := by
  unfold own_term; rw [if_pos h]
theorem own_t0 {p2 p3 : Int32} {f : Nat → Int32} {jn : Nat} (h : ¬ p3 < p2) : own_term p2 p3 f jn = (0 : Int32) := by
  unfold own_term; rw [if_neg h]
theorem own_sum {c : Int32} {f : Nat → Int32} {fn cn : Nat} (hc : c.toInt = (cn : Int)) (h6 : cn ≤ 6) :
    own_hash f fn cn (0 : Int32) = own_term c (0 : Int32) f fn + own_term c (1 : Int32) f (fn + 1) + own_term c (2 : Int32) f (fn + 2) + own_term c (3 : Int32) f (fn + 3) + own_term c (4 : Int32) f (fn + 4) + own_term c (5 : Int32) f (fn + 5) := by
  have hcc : c = Int32.ofNat cn := by
    apply Int32.toInt_inj.mp
    rw [hc, Int32.toInt_ofNat_small (by omega)]
  subst hcc
  match cn, h6 with
  | 0, _ =>
    rw [own_t0 (by decide), own_t0 (by decide), own_t0 (by decide), own_t0 (by decide), own_t0 (by decide), own_t0 (by decide)]
    simp only [own_hash]
    rfl
  | 1, _ =>
    rw [own_t1 (by decide), own_t0 (by decide), own_t0 (by decide), own_t0 (by decide), own_t0 (by decide), own_t0 (by decide)]
    simp only [own_hash]
    rw [show own_p31 (Int32.ofNat 1 - (1 : Int32) - (0 : Int32)) = (1 : Int32) from by decide +kernel]
    generalize f (fn) = a0
    clear hc
    grind
  | 2, _ =>
    rw [own_t1 (by decide), own_t1 (by decide), own_t0 (by decide), own_t0 (by decide), own_t0 (by decide), own_t0 (by decide)]
    simp only [own_hash]
    rw [show own_p31 (Int32.ofNat 2 - (1 : Int32) - (0 : Int32)) = (31 : Int32) from by decide +kernel]
    rw [show own_p31 (Int32.ofNat 2 - (1 : Int32) - (1 : Int32)) = (1 : Int32) from by decide +kernel]
    generalize f (fn + 1) = a1
    generalize f (fn) = a0
    clear hc
    grind
  | 3, _ =>
    rw [own_t1 (by decide), own_t1 (by decide), own_t1 (by decide), own_t0 (by decide), own_t0 (by decide), own_t0 (by decide)]
    simp only [own_hash]
    rw [show own_p31 (Int32.ofNat 3 - (1 : Int32) - (0 : Int32)) = (961 : Int32) from by decide +kernel]
    rw [show own_p31 (Int32.ofNat 3 - (1 : Int32) - (1 : Int32)) = (31 : Int32) from by decide +kernel]
    rw [show own_p31 (Int32.ofNat 3 - (1 : Int32) - (2 : Int32)) = (1 : Int32) from by decide +kernel]
    generalize f (fn + 2) = a2
    generalize f (fn + 1) = a1
    generalize f (fn) = a0
    clear hc
    grind
  | 4, _ =>
    rw [own_t1 (by decide), own_t1 (by decide), own_t1 (by decide), own_t1 (by decide), own_t0 (by decide), own_t0 (by decide)]
    simp only [own_hash]
    rw [show own_p31 (Int32.ofNat 4 - (1 : Int32) - (0 : Int32)) = (29791 : Int32) from by decide +kernel]
    rw [show own_p31 (Int32.ofNat 4 - (1 : Int32) - (1 : Int32)) = (961 : Int32) from by decide +kernel]
    rw [show own_p31 (Int32.ofNat 4 - (1 : Int32) - (2 : Int32)) = (31 : Int32) from by decide +kernel]
    rw [show own_p31 (Int32.ofNat 4 - (1 : Int32) - (3 : Int32)) = (1 : Int32) from by decide +kernel]
    generalize f (fn + 3) = a3
    generalize f (fn + 2) = a2
    generalize f (fn + 1) = a1
    generalize f (fn) = a0
    clear hc
    grind
  | 5, _ =>
    rw [own_t1 (by decide), own_t1 (by decide), own_t1 (by decide), own_t1 (by decide), own_t1 (by decide), own_t0 (by decide)]
    simp only [own_hash]
    rw [show own_p31 (Int32.ofNat 5 - (1 : Int32) - (0 : Int32)) = (923521 : Int32) from by decide +kernel]
    rw [show own_p31 (Int32.ofNat 5 - (1 : Int32) - (1 : Int32)) = (29791 : Int32) from by decide +kernel]
    rw [show own_p31 (Int32.ofNat 5 - (1 : Int32) - (2 : Int32)) = (961 : Int32) from by decide +kernel]
    rw [show own_p31 (Int32.ofNat 5 - (1 : Int32) - (3 : Int32)) = (31 : Int32) from by decide +kernel]
    rw [show own_p31 (Int32.ofNat 5 - (1 : Int32) - (4 : Int32)) = (1 : Int32) from by decide +kernel]
    generalize f (fn + 4) = a4
    generalize f (fn + 3) = a3
    generalize f (fn + 2) = a2
    generalize f (fn + 1) = a1
    generalize f (fn) = a0
    clear hc
    grind
  | 6, _ =>
    rw [own_t1 (by decide), own_t1 (by decide), own_t1 (by decide), own_t1 (by decide), own_t1 (by decide), own_t1 (by decide)]
    simp only [own_hash]
    rw [show own_p31 (Int32.ofNat 6 - (1 : Int32) - (0 : Int32)) = (28629151 : Int32) from by decide +kernel]
    rw [show own_p31 (Int32.ofNat 6 - (1 : Int32) - (1 : Int32)) = (923521 : Int32) from by decide +kernel]
    rw [show own_p31 (Int32.ofNat 6 - (1 : Int32) - (2 : Int32)) = (29791 : Int32) from by decide +kernel]
    rw [show own_p31 (Int32.ofNat 6 - (1 : Int32) - (3 : Int32)) = (961 : Int32) from by decide +kernel]
    rw [show own_p31 (Int32.ofNat 6 - (1 : Int32) - (4 : Int32)) = (31 : Int32) from by decide +kernel]
    rw [show own_p31 (Int32.ofNat 6 - (1 : Int32) - (5 : Int32)) = (1 : Int32) from by decide +kernel]
    generalize f (fn + 5) = a5
    generalize f (fn + 4) = a4
    generalize f (fn + 3) = a3
    generalize f (fn + 2) = a2
    generalize f (fn + 1) = a1
    generalize f (fn) = a0
    clear hc
    grind
  | n + 7, h => exact absurd h (by omega)
def own_f (q0 : Int64) : Nat → Int32
  | 0 => nar .byte ((q0.toInt32).toInt8.toInt32)
  | 1 => nar .byte (((own_usrL q0 (8 : Int32)).toInt32).toInt8.toInt32)
  | 2 => nar .byte (((own_usrL q0 (16 : Int32)).toInt32).toInt8.toInt32)
  | 3 => nar .byte (((own_usrL q0 (24 : Int32)).toInt32).toInt8.toInt32)
  | 4 => nar .byte (((own_usrL q0 (32 : Int32)).toInt32).toInt8.toInt32)
  | 5 => nar .byte (((own_usrL q0 (40 : Int32)).toInt32).toInt8.toInt32)
  | 6 => nar .byte (((own_usrL q0 (48 : Int32)).toInt32).toInt8.toInt32)
  | 7 => nar .byte (((own_usrL q0 (56 : Int32)).toInt32).toInt8.toInt32)
  | _ => 0
theorem own_hv (q0 : Int64) : own_Vs [(.int (nar .byte ((q0.toInt32).toInt8.toInt32))), (.int (nar .byte (((own_usrL q0 (8 : Int32)).toInt32).toInt8.toInt32))), (.int (nar .byte (((own_usrL q0 (16 : Int32)).toInt32).toInt8.toInt32))), (.int (nar .byte (((own_usrL q0 (24 : Int32)).toInt32).toInt8.toInt32))), (.int (nar .byte (((own_usrL q0 (32 : Int32)).toInt32).toInt8.toInt32))), (.int (nar .byte (((own_usrL q0 (40 : Int32)).toInt32).toInt8.toInt32))), (.int (nar .byte (((own_usrL q0 (48 : Int32)).toInt32).toInt8.toInt32))), (.int (nar .byte (((own_usrL q0 (56 : Int32)).toInt32).toInt8.toInt32)))] (own_f q0) := fun j hj => by
  match j, hj with
  | 0, _ => rfl
  | 1, _ => rfl
  | 2, _ => rfl
  | 3, _ => rfl
  | 4, _ => rfl
  | 5, _ => rfl
  | 6, _ => rfl
  | 7, _ => rfl
  | n + 8, h => exact absurd h (by omega)
theorem own_zo {x z : Int32} (hz : z = (x &&& (3 : Int32)) % (3 : Int32)) : 0 ≤ z.toInt ∧ z.toInt ≤ 2 := by
  have q := c_mask x 3 2 (by decide) (by decide)
  have q2 := (c_irem (x &&& (3 : Int32)) 3 3 rfl).1 (by omega)
  rw [← hz] at q2; omega
theorem own_zl {x z : Int32} (hz : z = (x &&& (7 : Int32)) % (7 : Int32)) : 0 ≤ z.toInt ∧ z.toInt ≤ 6 := by
  have q := c_mask x 7 3 (by decide) (by decide)
  have q2 := (c_irem (x &&& (7 : Int32)) 7 7 rfl).1 (by omega)
  rw [← hz] at q2; omega
theorem own_nn {z : Int32} (h : 0 ≤ z.toInt) : ¬ z < (0 : Int32) := by
  have e0 : (0 : Int32).toInt = 0 := rfl
  rw [Int32.lt_iff_toInt_lt, e0]; omega
theorem own_m7 (x : Int32) : ¬ (x &&& (7 : Int32)) < (0 : Int32) := own_nn (by rw [c_mask x 7 3 (by decide) (by decide)]; omega)
theorem own_ch {x z : Int32} (hz : z = (x &&& (255 : Int32)).toUInt32.toUInt16.toUInt32.toInt32) : ¬ (255 : Int32) < z := by
  have q := c_mask x 255 8 (by decide) (by decide)
  have q2 := c_i2c (x &&& (255 : Int32))
  rw [← hz] at q2
  have e : (255 : Int32).toInt = 255 := rfl
  rw [Int32.lt_iff_toInt_lt, e]; omega
theorem own_le {z c : Int32} (h : 0 ≤ z.toInt ∧ z.toInt ≤ 2) (h2 : 0 ≤ c.toInt ∧ c.toInt ≤ 6) : ¬ (8 : Int32) < (z + c) := by
  have q := c_iadd z c
  have r := rng32 (z + c)
  have e : (8 : Int32).toInt = 8 := rfl
  rw [Int32.lt_iff_toInt_lt, e]; omega
theorem own_hi {z c li : Int32} {fn cn i : Nat} (hf : z.toInt = (fn : Int)) (hc : c.toInt = (cn : Int)) (hle : fn + cn ≤ 8) (hl : li.toInt = (i : Int)) (h5 : i < 6) : (z + li).toInt = ((fn + i : Nat) : Int) ∧ (li < c → fn + i < 8) := by
  have q := c_iadd z li
  have r := rng32 (z + li)
  have hfn : fn ≤ 8 := by omega
  refine ⟨by omega, fun h => ?_⟩
  rw [Int32.lt_iff_toInt_lt] at h; omega
theorem pn_rm0 : plainName "com/example/zemlja/zemlja/record/FieldContentHashPinLaw" = true := by first | (simp [plainName, overriddenIn]; done) | decide +kernel
theorem pd_rm0_0 : parseMethodDescriptor "(C)Ljava/lang/String;" = some ⟨[.char], some (.object "java/lang/String")⟩ := by decide +kernel
theorem pd_rm0_1 : parseMethodDescriptor "(Ljava/lang/String;[BIII)V" = some ⟨[(.object "java/lang/String"), (.array .byte), .int, .int, .int], none⟩ := by decide +kernel
theorem pd_rm0_2 : parseMethodDescriptor "([BIII)I" = some ⟨[(.array .byte), .int, .int, .int], some .int⟩ := by decide +kernel
theorem pd_rm0_3 : parseMethodDescriptor "()I" = some ⟨[], some .int⟩ := by decide +kernel
theorem ef_rm0 (m : MethodId) (q0 : Int64) (p1 : Int32) (p2 : Int32) : entryFrame m #[(.long q0), (.int p1), (.int p2)] maxLocals = mkF m 0 #[.val (.long q0), .second, .val (.int p1), .val (.int p2), .unset, .unset, .unset, .unset, .unset, .unset, .unset] [] := by first | (simp [entryFrame, mkF, argsToLocals, Value.category, maxLocals]; done) | rfl
def Q_rm0 (Z : State) (q0 : Int64) (p1 : Int32) (p2 : Int32) (cs : Int32) (h0 : Heap) (n0 : Nat) (v : Option Value) (h : Heap) (L : List Loc) : Prop := v = some (.int (1 : Int32)) ∧ Fr n0 L
set_option maxRecDepth 65536 in
set_option maxHeartbeats 40000000 in
theorem rm0 (l : Launch) (Z : State) (a0 : Array Value) (hw : ∀ d ∈ tables_1, d.before a0 Z = true) (ws : List Jvm.Cond) (q0 : Int64) (p1 : Int32) (p2 : Int32) (cs : Int32) (h0 : Heap) (n0 : Nat) (Z0 : n0 ≤ h0.size) (Ol : Old Z n0 h0) (S_cs : Sta Z Z.heap "java/lang/String" "COMPACT_STRINGS" "Z" (.int cs)) (hcs : ¬ cs = (0 : Int32)) :
    MetFree l x (head1 (Jvm.Cond.code x code maxLocals ret :: ws) room_1) (fun a U => a = #[(.long q0), (.int p1), (.int p2)] ∧ Z.Warmed39 U.vm ∧ U.heap = h0) (fun _ _ _ _ _ => True) (fun _ U o U' => ∃ v L, o = .returned v ∧ Q_rm0 Z q0 p1 p2 cs h0 n0 v U'.heap L ∧ FrameEnd U o U' L room_1.cells room_1.slots) := by
  refine MetFree.of_bodySF (plainFor_of_name pn_rm0) hisR ?_
  intro p e s m args below meth c s₁ Bd hml0 hP hK
  obtain ⟨rfl, hZ, hh⟩ := hP
  have hx := Bd.exec
  have hby := Bd.bytes
  have hml : c.maxLocals = 11 := hml0
  have hown : s.vm.findClass "com/example/zemlja/zemlja/record/FieldContentHashPinLaw" = some m.cls := findClass_of_methodNamed Bd.named
  have hnm := (name_of_methodNamed Bd.named Bd.method).1
  have X0 : Stand p l e room_1 s m #[(.long q0), (.int p1), (.int p2)] below meth c s₁ [] 0 0 := Stand.of_body Bd
  have e0 : s₁.heap = h0 := by rw [← hh, Bd.state]; rfl
  have N0 := Fr.nil n0
  have K0 := Keep.refl h0 []
  have go0 : Go p e below (s₁.setTop (entryFrame m #[(.long q0), (.int p1), (.int p2)] maxLocals)) (s₁.setTop (mkF m 0 #[.val (.long q0), .second, .val (.int p1), .val (.int p2), .unset, .unset, .unset, .unset, .unset, .unset, .unset] [])) := fun t k => castTop (ef_rm0 m q0 p1 p2) k
  have go1 := go0.step (C := s₁.setTop (mkF m 2 #[.val (.long q0), .second, .val (.int p1), .val (.int p2), .unset, .unset, .unset, .unset, .unset, .unset, .unset] [(.int (8 : Int32))])) (fun t k => by
    show Steps p.tables e below (s₁.setTop (mkF m 0 #[.val (.long q0), .second, .val (.int p1), .val (.int p2), .unset, .unset, .unset, .unset, .unset, .unset, .unset] [])) _
    refine XS.bipush X0.here hx rfl (hb hby at_0) ?_
    exact k)
  obtain ⟨T2, h2, k2, X2, e2, E2, A2, st2⟩ := newP X0 hx hZ (hw _ (List.mem_of_getElem? (i := 0) rfl)) e0 (g := (mkF m 2 #[.val (.long q0), .second, .val (.int p1), .val (.int p2), .unset, .unset, .unset, .unset, .unset, .unset, .unset] [(.int (8 : Int32))])) rfl (hb hby at_2) rfl (by decide) (cap := 8) (by decide) (by decide) (by decide) (by decide)
  obtain ⟨b2, g2⟩ : ∃ z, z = h0.size := ⟨_, rfl⟩
  rw [← g2] at A2 st2
  have g_b2 : n0 ≤ b2 := Nat.le_trans Z0 (Nat.le_of_eq g2.symm)
  have sz_b2 : h0.size ≤ b2 := Nat.le_trans K0.1 (Nat.le_of_eq g2.symm)
  have f3 := Old.ext Ol E2
  have V2 : Arv Z h2 b2 k2 .byte (8 : Int32) [(.int (0 : Int32)), (.int (0 : Int32)), (.int (0 : Int32)), (.int (0 : Int32)), (.int (0 : Int32)), (.int (0 : Int32)), (.int (0 : Int32)), (.int (0 : Int32))] (.int (0 : Int32)) := (Arv.new A2 (by decide)).pad (pad_rep [] (.int (0 : Int32)) 8)
  have Z2 : n0 ≤ h2.size := Nat.le_trans Z0 E2.1
  have K2 := K0.ext E2
  have go2 := go1.step (C := T2.setTop (mkF m 4 #[.val (.long q0), .second, .val (.int p1), .val (.int p2), .unset, .unset, .unset, .unset, .unset, .unset, .unset] [(.ref b2)])) (fun t k => st2 t k)
  have go4 := go2.step (C := T2.setTop (mkF m 12 #[.val (.long q0), .second, .val (.int p1), .val (.int p2), .val (.ref b2), .unset, .unset, .unset, .unset, .unset, .unset] [(.int ((q0.toInt32).toInt8.toInt32)), (.int (0 : Int32)), (.ref b2)])) (fun t k => by
    show Steps p.tables e below (T2.setTop (mkF m 4 #[.val (.long q0), .second, .val (.int p1), .val (.int p2), .unset, .unset, .unset, .unset, .unset, .unset, .unset] [(.ref b2)])) _
    refine XS.astore X2.here hx rfl (hb hby at_4) rfl rfl (l' := #[.val (.long q0), .second, .val (.int p1), .val (.int p2), .val (.ref b2), .unset, .unset, .unset, .unset, .unset, .unset]) rfl ?_
    show Steps p.tables e below (T2.setTop (mkF m 6 #[.val (.long q0), .second, .val (.int p1), .val (.int p2), .val (.ref b2), .unset, .unset, .unset, .unset, .unset, .unset] [])) _
    refine XS.aload X2.here hx rfl (hb hby at_6) rfl rfl ?_
    show Steps p.tables e below (T2.setTop (mkF m 8 #[.val (.long q0), .second, .val (.int p1), .val (.int p2), .val (.ref b2), .unset, .unset, .unset, .unset, .unset, .unset] [(.ref b2)])) _
    refine XS.iconst X2.here hx rfl (hb hby at_8) ?_
    show Steps p.tables e below (T2.setTop (mkF m 9 #[.val (.long q0), .second, .val (.int p1), .val (.int p2), .val (.ref b2), .unset, .unset, .unset, .unset, .unset, .unset] [(.int (0 : Int32)), (.ref b2)])) _
    refine XS.lloadN X2.here hx rfl (hb hby at_9) rfl ?_
    show Steps p.tables e below (T2.setTop (mkF m 10 #[.val (.long q0), .second, .val (.int p1), .val (.int p2), .val (.ref b2), .unset, .unset, .unset, .unset, .unset, .unset] [(.long q0), (.int (0 : Int32)), (.ref b2)])) _
    refine XS.l2i X2.here hx rfl (hb hby at_10) rfl ?_
    show Steps p.tables e below (T2.setTop (mkF m 11 #[.val (.long q0), .second, .val (.int p1), .val (.int p2), .val (.ref b2), .unset, .unset, .unset, .unset, .unset, .unset] [(.int (q0.toInt32)), (.int (0 : Int32)), (.ref b2)])) _
    refine XS.i2b X2.here hx rfl (hb hby at_11) rfl ?_
    exact k)
  have Vo5 := V2
  obtain ⟨cl5, Ar5, qa5, Sa5, Na5, Ha5, Ga5⟩ := Vo5
  have hin5 : ¬ ((0 : Int32) < 0 ∨ cl5.slots.size ≤ ((0 : Int32)).toNatClampNeg) := inb_of Sa5 ⟨by decide, by decide⟩
  obtain ⟨T6, h6, X6, e6, W6, st6⟩ := stB X2 hx hZ e2 Ar5 (j := (0 : Int32)) hin5 (g := (mkF m 12 #[.val (.long q0), .second, .val (.int p1), .val (.int p2), .val (.ref b2), .unset, .unset, .unset, .unset, .unset, .unset] [(.int ((q0.toInt32).toInt8.toInt32)), (.int (0 : Int32)), (.ref b2)])) rfl rfl (hb hby at_12)
  have V6 : Arv Z h6 b2 k2 .byte (8 : Int32) [(.int (nar .byte ((q0.toInt32).toInt8.toInt32))), (.int (0 : Int32)), (.int (0 : Int32)), (.int (0 : Int32)), (.int (0 : Int32)), (.int (0 : Int32)), (.int (0 : Int32)), (.int (0 : Int32))] (.int (0 : Int32)) := Arv.set Ar5 qa5 Sa5 Na5 Ha5 Ga5 (fits_nar_byte _) W6 0 rfl (Nat.le_of_ble_eq_true rfl)
  have f7 := Old.wr f3 W6 g_b2
  have Z6 : n0 ≤ h6.size := Nat.le_trans Z2 (Nat.le_of_eq W6.size.symm)
  have K6 := K2.wr W6 (Or.inr sz_b2)
  have N6 := Fr.snoc X6 N0 g_b2
  have go6 := go4.step (C := T6.setTop (mkF m 13 #[.val (.long q0), .second, .val (.int p1), .val (.int p2), .val (.ref b2), .unset, .unset, .unset, .unset, .unset, .unset] [])) (fun t k => st6 t k)
  have go9 := go6.step (C := T6.setTop (mkF m 22 #[.val (.long q0), .second, .val (.int p1), .val (.int p2), .val (.ref b2), .unset, .unset, .unset, .unset, .unset, .unset] [(.int (((own_usrL q0 (8 : Int32)).toInt32).toInt8.toInt32)), (.int (1 : Int32)), (.ref b2)])) (fun t k => by
    show Steps p.tables e below (T6.setTop (mkF m 13 #[.val (.long q0), .second, .val (.int p1), .val (.int p2), .val (.ref b2), .unset, .unset, .unset, .unset, .unset, .unset] [])) _
    refine XS.aload X6.here hx rfl (hb hby at_13) rfl rfl ?_
    show Steps p.tables e below (T6.setTop (mkF m 15 #[.val (.long q0), .second, .val (.int p1), .val (.int p2), .val (.ref b2), .unset, .unset, .unset, .unset, .unset, .unset] [(.ref b2)])) _
    refine XS.iconst X6.here hx rfl (hb hby at_15) ?_
    show Steps p.tables e below (T6.setTop (mkF m 16 #[.val (.long q0), .second, .val (.int p1), .val (.int p2), .val (.ref b2), .unset, .unset, .unset, .unset, .unset, .unset] [(.int (1 : Int32)), (.ref b2)])) _
    refine XS.lloadN X6.here hx rfl (hb hby at_16) rfl ?_
    show Steps p.tables e below (T6.setTop (mkF m 17 #[.val (.long q0), .second, .val (.int p1), .val (.int p2), .val (.ref b2), .unset, .unset, .unset, .unset, .unset, .unset] [(.long q0), (.int (1 : Int32)), (.ref b2)])) _
    refine XS.bipush X6.here hx rfl (hb hby at_17) ?_
    show Steps p.tables e below (T6.setTop (mkF m 19 #[.val (.long q0), .second, .val (.int p1), .val (.int p2), .val (.ref b2), .unset, .unset, .unset, .unset, .unset, .unset] [(.int (8 : Int32)), (.long q0), (.int (1 : Int32)), (.ref b2)])) _
    refine XS.lushr X6.here hx rfl (hb hby at_19) rfl ?_
    show Steps p.tables e below (T6.setTop (mkF m 20 #[.val (.long q0), .second, .val (.int p1), .val (.int p2), .val (.ref b2), .unset, .unset, .unset, .unset, .unset, .unset] [(.long (own_usrL q0 (8 : Int32))), (.int (1 : Int32)), (.ref b2)])) _
    refine XS.l2i X6.here hx rfl (hb hby at_20) rfl ?_
    show Steps p.tables e below (T6.setTop (mkF m 21 #[.val (.long q0), .second, .val (.int p1), .val (.int p2), .val (.ref b2), .unset, .unset, .unset, .unset, .unset, .unset] [(.int ((own_usrL q0 (8 : Int32)).toInt32)), (.int (1 : Int32)), (.ref b2)])) _
    refine XS.i2b X6.here hx rfl (hb hby at_21) rfl ?_
    exact k)
  have Vo10 := V6
  obtain ⟨cl10, Ar10, qa10, Sa10, Na10, Ha10, Ga10⟩ := Vo10
  have hin10 : ¬ ((1 : Int32) < 0 ∨ cl10.slots.size ≤ ((1 : Int32)).toNatClampNeg) := inb_of Sa10 ⟨by decide, by decide⟩
  obtain ⟨T11, h11, X11, e11, W11, st11⟩ := stB X6 hx hZ e6 Ar10 (j := (1 : Int32)) hin10 (g := (mkF m 22 #[.val (.long q0), .second, .val (.int p1), .val (.int p2), .val (.ref b2), .unset, .unset, .unset, .unset, .unset, .unset] [(.int (((own_usrL q0 (8 : Int32)).toInt32).toInt8.toInt32)), (.int (1 : Int32)), (.ref b2)])) rfl rfl (hb hby at_22)
  have V11 : Arv Z h11 b2 k2 .byte (8 : Int32) [(.int (nar .byte ((q0.toInt32).toInt8.toInt32))), (.int (nar .byte (((own_usrL q0 (8 : Int32)).toInt32).toInt8.toInt32))), (.int (0 : Int32)), (.int (0 : Int32)), (.int (0 : Int32)), (.int (0 : Int32)), (.int (0 : Int32)), (.int (0 : Int32))] (.int (0 : Int32)) := Arv.set Ar10 qa10 Sa10 Na10 Ha10 Ga10 (fits_nar_byte _) W11 1 rfl (Nat.le_of_ble_eq_true rfl)
  have f12 := Old.wr f7 W11 g_b2
  have Z11 : n0 ≤ h11.size := Nat.le_trans Z6 (Nat.le_of_eq W11.size.symm)
  have K11 := K6.wr W11 (Or.inr sz_b2)
  have N11 := Fr.snoc X11 N6 g_b2
  have go11 := go9.step (C := T11.setTop (mkF m 23 #[.val (.long q0), .second, .val (.int p1), .val (.int p2), .val (.ref b2), .unset, .unset, .unset, .unset, .unset, .unset] [])) (fun t k => st11 t k)
  have go14 := go11.step (C := T11.setTop (mkF m 32 #[.val (.long q0), .second, .val (.int p1), .val (.int p2), .val (.ref b2), .unset, .unset, .unset, .unset, .unset, .unset] [(.int (((own_usrL q0 (16 : Int32)).toInt32).toInt8.toInt32)), (.int (2 : Int32)), (.ref b2)])) (fun t k => by
    show Steps p.tables e below (T11.setTop (mkF m 23 #[.val (.long q0), .second, .val (.int p1), .val (.int p2), .val (.ref b2), .unset, .unset, .unset, .unset, .unset, .unset] [])) _
    refine XS.aload X11.here hx rfl (hb hby at_23) rfl rfl ?_
    show Steps p.tables e below (T11.setTop (mkF m 25 #[.val (.long q0), .second, .val (.int p1), .val (.int p2), .val (.ref b2), .unset, .unset, .unset, .unset, .unset, .unset] [(.ref b2)])) _
    refine XS.iconst X11.here hx rfl (hb hby at_25) ?_
    show Steps p.tables e below (T11.setTop (mkF m 26 #[.val (.long q0), .second, .val (.int p1), .val (.int p2), .val (.ref b2), .unset, .unset, .unset, .unset, .unset, .unset] [(.int (2 : Int32)), (.ref b2)])) _
    refine XS.lloadN X11.here hx rfl (hb hby at_26) rfl ?_
    show Steps p.tables e below (T11.setTop (mkF m 27 #[.val (.long q0), .second, .val (.int p1), .val (.int p2), .val (.ref b2), .unset, .unset, .unset, .unset, .unset, .unset] [(.long q0), (.int (2 : Int32)), (.ref b2)])) _
    refine XS.bipush X11.here hx rfl (hb hby at_27) ?_
    show Steps p.tables e below (T11.setTop (mkF m 29 #[.val (.long q0), .second, .val (.int p1), .val (.int p2), .val (.ref b2), .unset, .unset, .unset, .unset, .unset, .unset] [(.int (16 : Int32)), (.long q0), (.int (2 : Int32)), (.ref b2)])) _
    refine XS.lushr X11.here hx rfl (hb hby at_29) rfl ?_
    show Steps p.tables e below (T11.setTop (mkF m 30 #[.val (.long q0), .second, .val (.int p1), .val (.int p2), .val (.ref b2), .unset, .unset, .unset, .unset, .unset, .unset] [(.long (own_usrL q0 (16 : Int32))), (.int (2 : Int32)), (.ref b2)])) _
    refine XS.l2i X11.here hx rfl (hb hby at_30) rfl ?_
    show Steps p.tables e below (T11.setTop (mkF m 31 #[.val (.long q0), .second, .val (.int p1), .val (.int p2), .val (.ref b2), .unset, .unset, .unset, .unset, .unset, .unset] [(.int ((own_usrL q0 (16 : Int32)).toInt32)), (.int (2 : Int32)), (.ref b2)])) _
    refine XS.i2b X11.here hx rfl (hb hby at_31) rfl ?_
    exact k)
  have Vo15 := V11
  obtain ⟨cl15, Ar15, qa15, Sa15, Na15, Ha15, Ga15⟩ := Vo15
  have hin15 : ¬ ((2 : Int32) < 0 ∨ cl15.slots.size ≤ ((2 : Int32)).toNatClampNeg) := inb_of Sa15 ⟨by decide, by decide⟩
  obtain ⟨T16, h16, X16, e16, W16, st16⟩ := stB X11 hx hZ e11 Ar15 (j := (2 : Int32)) hin15 (g := (mkF m 32 #[.val (.long q0), .second, .val (.int p1), .val (.int p2), .val (.ref b2), .unset, .unset, .unset, .unset, .unset, .unset] [(.int (((own_usrL q0 (16 : Int32)).toInt32).toInt8.toInt32)), (.int (2 : Int32)), (.ref b2)])) rfl rfl (hb hby at_32)
  have V16 : Arv Z h16 b2 k2 .byte (8 : Int32) [(.int (nar .byte ((q0.toInt32).toInt8.toInt32))), (.int (nar .byte (((own_usrL q0 (8 : Int32)).toInt32).toInt8.toInt32))), (.int (nar .byte (((own_usrL q0 (16 : Int32)).toInt32).toInt8.toInt32))), (.int (0 : Int32)), (.int (0 : Int32)), (.int (0 : Int32)), (.int (0 : Int32)), (.int (0 : Int32))] (.int (0 : Int32)) := Arv.set Ar15 qa15 Sa15 Na15 Ha15 Ga15 (fits_nar_byte _) W16 2 rfl (Nat.le_of_ble_eq_true rfl)
  have f17 := Old.wr f12 W16 g_b2
  have Z16 : n0 ≤ h16.size := Nat.le_trans Z11 (Nat.le_of_eq W16.size.symm)
  have K16 := K11.wr W16 (Or.inr sz_b2)
  have N16 := Fr.snoc X16 N11 g_b2
  have go16 := go14.step (C := T16.setTop (mkF m 33 #[.val (.long q0), .second, .val (.int p1), .val (.int p2), .val (.ref b2), .unset, .unset, .unset, .unset, .unset, .unset] [])) (fun t k => st16 t k)
  have go19 := go16.step (C := T16.setTop (mkF m 42 #[.val (.long q0), .second, .val (.int p1), .val (.int p2), .val (.ref b2), .unset, .unset, .unset, .unset, .unset, .unset] [(.int (((own_usrL q0 (24 : Int32)).toInt32).toInt8.toInt32)), (.int (3 : Int32)), (.ref b2)])) (fun t k => by
    show Steps p.tables e below (T16.setTop (mkF m 33 #[.val (.long q0), .second, .val (.int p1), .val (.int p2), .val (.ref b2), .unset, .unset, .unset, .unset, .unset, .unset] [])) _
    refine XS.aload X16.here hx rfl (hb hby at_33) rfl rfl ?_
    show Steps p.tables e below (T16.setTop (mkF m 35 #[.val (.long q0), .second, .val (.int p1), .val (.int p2), .val (.ref b2), .unset, .unset, .unset, .unset, .unset, .unset] [(.ref b2)])) _
    refine XS.iconst X16.here hx rfl (hb hby at_35) ?_
    show Steps p.tables e below (T16.setTop (mkF m 36 #[.val (.long q0), .second, .val (.int p1), .val (.int p2), .val (.ref b2), .unset, .unset, .unset, .unset, .unset, .unset] [(.int (3 : Int32)), (.ref b2)])) _
    refine XS.lloadN X16.here hx rfl (hb hby at_36) rfl ?_
    show Steps p.tables e below (T16.setTop (mkF m 37 #[.val (.long q0), .second, .val (.int p1), .val (.int p2), .val (.ref b2), .unset, .unset, .unset, .unset, .unset, .unset] [(.long q0), (.int (3 : Int32)), (.ref b2)])) _
    refine XS.bipush X16.here hx rfl (hb hby at_37) ?_
    show Steps p.tables e below (T16.setTop (mkF m 39 #[.val (.long q0), .second, .val (.int p1), .val (.int p2), .val (.ref b2), .unset, .unset, .unset, .unset, .unset, .unset] [(.int (24 : Int32)), (.long q0), (.int (3 : Int32)), (.ref b2)])) _
    refine XS.lushr X16.here hx rfl (hb hby at_39) rfl ?_
    show Steps p.tables e below (T16.setTop (mkF m 40 #[.val (.long q0), .second, .val (.int p1), .val (.int p2), .val (.ref b2), .unset, .unset, .unset, .unset, .unset, .unset] [(.long (own_usrL q0 (24 : Int32))), (.int (3 : Int32)), (.ref b2)])) _
    refine XS.l2i X16.here hx rfl (hb hby at_40) rfl ?_
    show Steps p.tables e below (T16.setTop (mkF m 41 #[.val (.long q0), .second, .val (.int p1), .val (.int p2), .val (.ref b2), .unset, .unset, .unset, .unset, .unset, .unset] [(.int ((own_usrL q0 (24 : Int32)).toInt32)), (.int (3 : Int32)), (.ref b2)])) _
    refine XS.i2b X16.here hx rfl (hb hby at_41) rfl ?_
    exact k)
  have Vo20 := V16
  obtain ⟨cl20, Ar20, qa20, Sa20, Na20, Ha20, Ga20⟩ := Vo20
  have hin20 : ¬ ((3 : Int32) < 0 ∨ cl20.slots.size ≤ ((3 : Int32)).toNatClampNeg) := inb_of Sa20 ⟨by decide, by decide⟩
  obtain ⟨T21, h21, X21, e21, W21, st21⟩ := stB X16 hx hZ e16 Ar20 (j := (3 : Int32)) hin20 (g := (mkF m 42 #[.val (.long q0), .second, .val (.int p1), .val (.int p2), .val (.ref b2), .unset, .unset, .unset, .unset, .unset, .unset] [(.int (((own_usrL q0 (24 : Int32)).toInt32).toInt8.toInt32)), (.int (3 : Int32)), (.ref b2)])) rfl rfl (hb hby at_42)
  have V21 : Arv Z h21 b2 k2 .byte (8 : Int32) [(.int (nar .byte ((q0.toInt32).toInt8.toInt32))), (.int (nar .byte (((own_usrL q0 (8 : Int32)).toInt32).toInt8.toInt32))), (.int (nar .byte (((own_usrL q0 (16 : Int32)).toInt32).toInt8.toInt32))), (.int (nar .byte (((own_usrL q0 (24 : Int32)).toInt32).toInt8.toInt32))), (.int (0 : Int32)), (.int (0 : Int32)), (.int (0 : Int32)), (.int (0 : Int32))] (.int (0 : Int32)) := Arv.set Ar20 qa20 Sa20 Na20 Ha20 Ga20 (fits_nar_byte _) W21 3 rfl (Nat.le_of_ble_eq_true rfl)
  have f22 := Old.wr f17 W21 g_b2
  have Z21 : n0 ≤ h21.size := Nat.le_trans Z16 (Nat.le_of_eq W21.size.symm)
  have K21 := K16.wr W21 (Or.inr sz_b2)
  have N21 := Fr.snoc X21 N16 g_b2
  have go21 := go19.step (C := T21.setTop (mkF m 43 #[.val (.long q0), .second, .val (.int p1), .val (.int p2), .val (.ref b2), .unset, .unset, .unset, .unset, .unset, .unset] [])) (fun t k => st21 t k)
  have go24 := go21.step (C := T21.setTop (mkF m 52 #[.val (.long q0), .second, .val (.int p1), .val (.int p2), .val (.ref b2), .unset, .unset, .unset, .unset, .unset, .unset] [(.int (((own_usrL q0 (32 : Int32)).toInt32).toInt8.toInt32)), (.int (4 : Int32)), (.ref b2)])) (fun t k => by
    show Steps p.tables e below (T21.setTop (mkF m 43 #[.val (.long q0), .second, .val (.int p1), .val (.int p2), .val (.ref b2), .unset, .unset, .unset, .unset, .unset, .unset] [])) _
    refine XS.aload X21.here hx rfl (hb hby at_43) rfl rfl ?_
    show Steps p.tables e below (T21.setTop (mkF m 45 #[.val (.long q0), .second, .val (.int p1), .val (.int p2), .val (.ref b2), .unset, .unset, .unset, .unset, .unset, .unset] [(.ref b2)])) _
    refine XS.iconst X21.here hx rfl (hb hby at_45) ?_
    show Steps p.tables e below (T21.setTop (mkF m 46 #[.val (.long q0), .second, .val (.int p1), .val (.int p2), .val (.ref b2), .unset, .unset, .unset, .unset, .unset, .unset] [(.int (4 : Int32)), (.ref b2)])) _
    refine XS.lloadN X21.here hx rfl (hb hby at_46) rfl ?_
    show Steps p.tables e below (T21.setTop (mkF m 47 #[.val (.long q0), .second, .val (.int p1), .val (.int p2), .val (.ref b2), .unset, .unset, .unset, .unset, .unset, .unset] [(.long q0), (.int (4 : Int32)), (.ref b2)])) _
    refine XS.bipush X21.here hx rfl (hb hby at_47) ?_
    show Steps p.tables e below (T21.setTop (mkF m 49 #[.val (.long q0), .second, .val (.int p1), .val (.int p2), .val (.ref b2), .unset, .unset, .unset, .unset, .unset, .unset] [(.int (32 : Int32)), (.long q0), (.int (4 : Int32)), (.ref b2)])) _
    refine XS.lushr X21.here hx rfl (hb hby at_49) rfl ?_
    show Steps p.tables e below (T21.setTop (mkF m 50 #[.val (.long q0), .second, .val (.int p1), .val (.int p2), .val (.ref b2), .unset, .unset, .unset, .unset, .unset, .unset] [(.long (own_usrL q0 (32 : Int32))), (.int (4 : Int32)), (.ref b2)])) _
    refine XS.l2i X21.here hx rfl (hb hby at_50) rfl ?_
    show Steps p.tables e below (T21.setTop (mkF m 51 #[.val (.long q0), .second, .val (.int p1), .val (.int p2), .val (.ref b2), .unset, .unset, .unset, .unset, .unset, .unset] [(.int ((own_usrL q0 (32 : Int32)).toInt32)), (.int (4 : Int32)), (.ref b2)])) _
    refine XS.i2b X21.here hx rfl (hb hby at_51) rfl ?_
    exact k)
  have Vo25 := V21
  obtain ⟨cl25, Ar25, qa25, Sa25, Na25, Ha25, Ga25⟩ := Vo25
  have hin25 : ¬ ((4 : Int32) < 0 ∨ cl25.slots.size ≤ ((4 : Int32)).toNatClampNeg) := inb_of Sa25 ⟨by decide, by decide⟩
  obtain ⟨T26, h26, X26, e26, W26, st26⟩ := stB X21 hx hZ e21 Ar25 (j := (4 : Int32)) hin25 (g := (mkF m 52 #[.val (.long q0), .second, .val (.int p1), .val (.int p2), .val (.ref b2), .unset, .unset, .unset, .unset, .unset, .unset] [(.int (((own_usrL q0 (32 : Int32)).toInt32).toInt8.toInt32)), (.int (4 : Int32)), (.ref b2)])) rfl rfl (hb hby at_52)
  have V26 : Arv Z h26 b2 k2 .byte (8 : Int32) [(.int (nar .byte ((q0.toInt32).toInt8.toInt32))), (.int (nar .byte (((own_usrL q0 (8 : Int32)).toInt32).toInt8.toInt32))), (.int (nar .byte (((own_usrL q0 (16 : Int32)).toInt32).toInt8.toInt32))), (.int (nar .byte (((own_usrL q0 (24 : Int32)).toInt32).toInt8.toInt32))), (.int (nar .byte (((own_usrL q0 (32 : Int32)).toInt32).toInt8.toInt32))), (.int (0 : Int32)), (.int (0 : Int32)), (.int (0 : Int32))] (.int (0 : Int32)) := Arv.set Ar25 qa25 Sa25 Na25 Ha25 Ga25 (fits_nar_byte _) W26 4 rfl (Nat.le_of_ble_eq_true rfl)
  have f27 := Old.wr f22 W26 g_b2
  have Z26 : n0 ≤ h26.size := Nat.le_trans Z21 (Nat.le_of_eq W26.size.symm)
  have K26 := K21.wr W26 (Or.inr sz_b2)
  have N26 := Fr.snoc X26 N21 g_b2
  have go26 := go24.step (C := T26.setTop (mkF m 53 #[.val (.long q0), .second, .val (.int p1), .val (.int p2), .val (.ref b2), .unset, .unset, .unset, .unset, .unset, .unset] [])) (fun t k => st26 t k)
  have go29 := go26.step (C := T26.setTop (mkF m 62 #[.val (.long q0), .second, .val (.int p1), .val (.int p2), .val (.ref b2), .unset, .unset, .unset, .unset, .unset, .unset] [(.int (((own_usrL q0 (40 : Int32)).toInt32).toInt8.toInt32)), (.int (5 : Int32)), (.ref b2)])) (fun t k => by
    show Steps p.tables e below (T26.setTop (mkF m 53 #[.val (.long q0), .second, .val (.int p1), .val (.int p2), .val (.ref b2), .unset, .unset, .unset, .unset, .unset, .unset] [])) _
    refine XS.aload X26.here hx rfl (hb hby at_53) rfl rfl ?_
    show Steps p.tables e below (T26.setTop (mkF m 55 #[.val (.long q0), .second, .val (.int p1), .val (.int p2), .val (.ref b2), .unset, .unset, .unset, .unset, .unset, .unset] [(.ref b2)])) _
    refine XS.iconst X26.here hx rfl (hb hby at_55) ?_
    show Steps p.tables e below (T26.setTop (mkF m 56 #[.val (.long q0), .second, .val (.int p1), .val (.int p2), .val (.ref b2), .unset, .unset, .unset, .unset, .unset, .unset] [(.int (5 : Int32)), (.ref b2)])) _
    refine XS.lloadN X26.here hx rfl (hb hby at_56) rfl ?_
    show Steps p.tables e below (T26.setTop (mkF m 57 #[.val (.long q0), .second, .val (.int p1), .val (.int p2), .val (.ref b2), .unset, .unset, .unset, .unset, .unset, .unset] [(.long q0), (.int (5 : Int32)), (.ref b2)])) _
    refine XS.bipush X26.here hx rfl (hb hby at_57) ?_
    show Steps p.tables e below (T26.setTop (mkF m 59 #[.val (.long q0), .second, .val (.int p1), .val (.int p2), .val (.ref b2), .unset, .unset, .unset, .unset, .unset, .unset] [(.int (40 : Int32)), (.long q0), (.int (5 : Int32)), (.ref b2)])) _
    refine XS.lushr X26.here hx rfl (hb hby at_59) rfl ?_
    show Steps p.tables e below (T26.setTop (mkF m 60 #[.val (.long q0), .second, .val (.int p1), .val (.int p2), .val (.ref b2), .unset, .unset, .unset, .unset, .unset, .unset] [(.long (own_usrL q0 (40 : Int32))), (.int (5 : Int32)), (.ref b2)])) _
    refine XS.l2i X26.here hx rfl (hb hby at_60) rfl ?_
    show Steps p.tables e below (T26.setTop (mkF m 61 #[.val (.long q0), .second, .val (.int p1), .val (.int p2), .val (.ref b2), .unset, .unset, .unset, .unset, .unset, .unset] [(.int ((own_usrL q0 (40 : Int32)).toInt32)), (.int (5 : Int32)), (.ref b2)])) _
    refine XS.i2b X26.here hx rfl (hb hby at_61) rfl ?_
    exact k)
  have Vo30 := V26
  obtain ⟨cl30, Ar30, qa30, Sa30, Na30, Ha30, Ga30⟩ := Vo30
  have hin30 : ¬ ((5 : Int32) < 0 ∨ cl30.slots.size ≤ ((5 : Int32)).toNatClampNeg) := inb_of Sa30 ⟨by decide, by decide⟩
  obtain ⟨T31, h31, X31, e31, W31, st31⟩ := stB X26 hx hZ e26 Ar30 (j := (5 : Int32)) hin30 (g := (mkF m 62 #[.val (.long q0), .second, .val (.int p1), .val (.int p2), .val (.ref b2), .unset, .unset, .unset, .unset, .unset, .unset] [(.int (((own_usrL q0 (40 : Int32)).toInt32).toInt8.toInt32)), (.int (5 : Int32)), (.ref b2)])) rfl rfl (hb hby at_62)
  have V31 : Arv Z h31 b2 k2 .byte (8 : Int32) [(.int (nar .byte ((q0.toInt32).toInt8.toInt32))), (.int (nar .byte (((own_usrL q0 (8 : Int32)).toInt32).toInt8.toInt32))), (.int (nar .byte (((own_usrL q0 (16 : Int32)).toInt32).toInt8.toInt32))), (.int (nar .byte (((own_usrL q0 (24 : Int32)).toInt32).toInt8.toInt32))), (.int (nar .byte (((own_usrL q0 (32 : Int32)).toInt32).toInt8.toInt32))), (.int (nar .byte (((own_usrL q0 (40 : Int32)).toInt32).toInt8.toInt32))), (.int (0 : Int32)), (.int (0 : Int32))] (.int (0 : Int32)) := Arv.set Ar30 qa30 Sa30 Na30 Ha30 Ga30 (fits_nar_byte _) W31 5 rfl (Nat.le_of_ble_eq_true rfl)
  have f32 := Old.wr f27 W31 g_b2
  have Z31 : n0 ≤ h31.size := Nat.le_trans Z26 (Nat.le_of_eq W31.size.symm)
  have K31 := K26.wr W31 (Or.inr sz_b2)
  have N31 := Fr.snoc X31 N26 g_b2
  have go31 := go29.step (C := T31.setTop (mkF m 63 #[.val (.long q0), .second, .val (.int p1), .val (.int p2), .val (.ref b2), .unset, .unset, .unset, .unset, .unset, .unset] [])) (fun t k => st31 t k)
  have go34 := go31.step (C := T31.setTop (mkF m 73 #[.val (.long q0), .second, .val (.int p1), .val (.int p2), .val (.ref b2), .unset, .unset, .unset, .unset, .unset, .unset] [(.int (((own_usrL q0 (48 : Int32)).toInt32).toInt8.toInt32)), (.int (6 : Int32)), (.ref b2)])) (fun t k => by
    show Steps p.tables e below (T31.setTop (mkF m 63 #[.val (.long q0), .second, .val (.int p1), .val (.int p2), .val (.ref b2), .unset, .unset, .unset, .unset, .unset, .unset] [])) _
    refine XS.aload X31.here hx rfl (hb hby at_63) rfl rfl ?_
    show Steps p.tables e below (T31.setTop (mkF m 65 #[.val (.long q0), .second, .val (.int p1), .val (.int p2), .val (.ref b2), .unset, .unset, .unset, .unset, .unset, .unset] [(.ref b2)])) _
    refine XS.bipush X31.here hx rfl (hb hby at_65) ?_
    show Steps p.tables e below (T31.setTop (mkF m 67 #[.val (.long q0), .second, .val (.int p1), .val (.int p2), .val (.ref b2), .unset, .unset, .unset, .unset, .unset, .unset] [(.int (6 : Int32)), (.ref b2)])) _
    refine XS.lloadN X31.here hx rfl (hb hby at_67) rfl ?_
    show Steps p.tables e below (T31.setTop (mkF m 68 #[.val (.long q0), .second, .val (.int p1), .val (.int p2), .val (.ref b2), .unset, .unset, .unset, .unset, .unset, .unset] [(.long q0), (.int (6 : Int32)), (.ref b2)])) _
    refine XS.bipush X31.here hx rfl (hb hby at_68) ?_
    show Steps p.tables e below (T31.setTop (mkF m 70 #[.val (.long q0), .second, .val (.int p1), .val (.int p2), .val (.ref b2), .unset, .unset, .unset, .unset, .unset, .unset] [(.int (48 : Int32)), (.long q0), (.int (6 : Int32)), (.ref b2)])) _
    refine XS.lushr X31.here hx rfl (hb hby at_70) rfl ?_
    show Steps p.tables e below (T31.setTop (mkF m 71 #[.val (.long q0), .second, .val (.int p1), .val (.int p2), .val (.ref b2), .unset, .unset, .unset, .unset, .unset, .unset] [(.long (own_usrL q0 (48 : Int32))), (.int (6 : Int32)), (.ref b2)])) _
    refine XS.l2i X31.here hx rfl (hb hby at_71) rfl ?_
    show Steps p.tables e below (T31.setTop (mkF m 72 #[.val (.long q0), .second, .val (.int p1), .val (.int p2), .val (.ref b2), .unset, .unset, .unset, .unset, .unset, .unset] [(.int ((own_usrL q0 (48 : Int32)).toInt32)), (.int (6 : Int32)), (.ref b2)])) _
    refine XS.i2b X31.here hx rfl (hb hby at_72) rfl ?_
    exact k)
  have Vo35 := V31
  obtain ⟨cl35, Ar35, qa35, Sa35, Na35, Ha35, Ga35⟩ := Vo35
  have hin35 : ¬ ((6 : Int32) < 0 ∨ cl35.slots.size ≤ ((6 : Int32)).toNatClampNeg) := inb_of Sa35 ⟨by decide, by decide⟩
  obtain ⟨T36, h36, X36, e36, W36, st36⟩ := stB X31 hx hZ e31 Ar35 (j := (6 : Int32)) hin35 (g := (mkF m 73 #[.val (.long q0), .second, .val (.int p1), .val (.int p2), .val (.ref b2), .unset, .unset, .unset, .unset, .unset, .unset] [(.int (((own_usrL q0 (48 : Int32)).toInt32).toInt8.toInt32)), (.int (6 : Int32)), (.ref b2)])) rfl rfl (hb hby at_73)
  have V36 : Arv Z h36 b2 k2 .byte (8 : Int32) [(.int (nar .byte ((q0.toInt32).toInt8.toInt32))), (.int (nar .byte (((own_usrL q0 (8 : Int32)).toInt32).toInt8.toInt32))), (.int (nar .byte (((own_usrL q0 (16 : Int32)).toInt32).toInt8.toInt32))), (.int (nar .byte (((own_usrL q0 (24 : Int32)).toInt32).toInt8.toInt32))), (.int (nar .byte (((own_usrL q0 (32 : Int32)).toInt32).toInt8.toInt32))), (.int (nar .byte (((own_usrL q0 (40 : Int32)).toInt32).toInt8.toInt32))), (.int (nar .byte (((own_usrL q0 (48 : Int32)).toInt32).toInt8.toInt32))), (.int (0 : Int32))] (.int (0 : Int32)) := Arv.set Ar35 qa35 Sa35 Na35 Ha35 Ga35 (fits_nar_byte _) W36 6 rfl (Nat.le_of_ble_eq_true rfl)
  have f37 := Old.wr f32 W36 g_b2
  have Z36 : n0 ≤ h36.size := Nat.le_trans Z31 (Nat.le_of_eq W36.size.symm)
  have K36 := K31.wr W36 (Or.inr sz_b2)
  have N36 := Fr.snoc X36 N31 g_b2
  have go36 := go34.step (C := T36.setTop (mkF m 74 #[.val (.long q0), .second, .val (.int p1), .val (.int p2), .val (.ref b2), .unset, .unset, .unset, .unset, .unset, .unset] [])) (fun t k => st36 t k)
  have go39 := go36.step (C := T36.setTop (mkF m 84 #[.val (.long q0), .second, .val (.int p1), .val (.int p2), .val (.ref b2), .unset, .unset, .unset, .unset, .unset, .unset] [(.int (((own_usrL q0 (56 : Int32)).toInt32).toInt8.toInt32)), (.int (7 : Int32)), (.ref b2)])) (fun t k => by
    show Steps p.tables e below (T36.setTop (mkF m 74 #[.val (.long q0), .second, .val (.int p1), .val (.int p2), .val (.ref b2), .unset, .unset, .unset, .unset, .unset, .unset] [])) _
    refine XS.aload X36.here hx rfl (hb hby at_74) rfl rfl ?_
    show Steps p.tables e below (T36.setTop (mkF m 76 #[.val (.long q0), .second, .val (.int p1), .val (.int p2), .val (.ref b2), .unset, .unset, .unset, .unset, .unset, .unset] [(.ref b2)])) _
    refine XS.bipush X36.here hx rfl (hb hby at_76) ?_
    show Steps p.tables e below (T36.setTop (mkF m 78 #[.val (.long q0), .second, .val (.int p1), .val (.int p2), .val (.ref b2), .unset, .unset, .unset, .unset, .unset, .unset] [(.int (7 : Int32)), (.ref b2)])) _
    refine XS.lloadN X36.here hx rfl (hb hby at_78) rfl ?_
    show Steps p.tables e below (T36.setTop (mkF m 79 #[.val (.long q0), .second, .val (.int p1), .val (.int p2), .val (.ref b2), .unset, .unset, .unset, .unset, .unset, .unset] [(.long q0), (.int (7 : Int32)), (.ref b2)])) _
    refine XS.bipush X36.here hx rfl (hb hby at_79) ?_
    show Steps p.tables e below (T36.setTop (mkF m 81 #[.val (.long q0), .second, .val (.int p1), .val (.int p2), .val (.ref b2), .unset, .unset, .unset, .unset, .unset, .unset] [(.int (56 : Int32)), (.long q0), (.int (7 : Int32)), (.ref b2)])) _
    refine XS.lushr X36.here hx rfl (hb hby at_81) rfl ?_
    show Steps p.tables e below (T36.setTop (mkF m 82 #[.val (.long q0), .second, .val (.int p1), .val (.int p2), .val (.ref b2), .unset, .unset, .unset, .unset, .unset, .unset] [(.long (own_usrL q0 (56 : Int32))), (.int (7 : Int32)), (.ref b2)])) _
    refine XS.l2i X36.here hx rfl (hb hby at_82) rfl ?_
    show Steps p.tables e below (T36.setTop (mkF m 83 #[.val (.long q0), .second, .val (.int p1), .val (.int p2), .val (.ref b2), .unset, .unset, .unset, .unset, .unset, .unset] [(.int ((own_usrL q0 (56 : Int32)).toInt32)), (.int (7 : Int32)), (.ref b2)])) _
    refine XS.i2b X36.here hx rfl (hb hby at_83) rfl ?_
    exact k)
  have Vo40 := V36
  obtain ⟨cl40, Ar40, qa40, Sa40, Na40, Ha40, Ga40⟩ := Vo40
  have hin40 : ¬ ((7 : Int32) < 0 ∨ cl40.slots.size ≤ ((7 : Int32)).toNatClampNeg) := inb_of Sa40 ⟨by decide, by decide⟩
  obtain ⟨T41, h41, X41, e41, W41, st41⟩ := stB X36 hx hZ e36 Ar40 (j := (7 : Int32)) hin40 (g := (mkF m 84 #[.val (.long q0), .second, .val (.int p1), .val (.int p2), .val (.ref b2), .unset, .unset, .unset, .unset, .unset, .unset] [(.int (((own_usrL q0 (56 : Int32)).toInt32).toInt8.toInt32)), (.int (7 : Int32)), (.ref b2)])) rfl rfl (hb hby at_84)
  have V41 : Arv Z h41 b2 k2 .byte (8 : Int32) [(.int (nar .byte ((q0.toInt32).toInt8.toInt32))), (.int (nar .byte (((own_usrL q0 (8 : Int32)).toInt32).toInt8.toInt32))), (.int (nar .byte (((own_usrL q0 (16 : Int32)).toInt32).toInt8.toInt32))), (.int (nar .byte (((own_usrL q0 (24 : Int32)).toInt32).toInt8.toInt32))), (.int (nar .byte (((own_usrL q0 (32 : Int32)).toInt32).toInt8.toInt32))), (.int (nar .byte (((own_usrL q0 (40 : Int32)).toInt32).toInt8.toInt32))), (.int (nar .byte (((own_usrL q0 (48 : Int32)).toInt32).toInt8.toInt32))), (.int (nar .byte (((own_usrL q0 (56 : Int32)).toInt32).toInt8.toInt32)))] (.int (0 : Int32)) := Arv.set Ar40 qa40 Sa40 Na40 Ha40 Ga40 (fits_nar_byte _) W41 7 rfl (Nat.le_of_ble_eq_true rfl)
  have f42 := Old.wr f37 W41 g_b2
  have Z41 : n0 ≤ h41.size := Nat.le_trans Z36 (Nat.le_of_eq W41.size.symm)
  have K41 := K36.wr W41 (Or.inr sz_b2)
  have N41 := Fr.snoc X41 N36 g_b2
  have go41 := go39.step (C := T41.setTop (mkF m 85 #[.val (.long q0), .second, .val (.int p1), .val (.int p2), .val (.ref b2), .unset, .unset, .unset, .unset, .unset, .unset] [])) (fun t k => st41 t k)
  have go44 := go41.step (C := T41.setTop (mkF m 90 #[.val (.long q0), .second, .val (.int p1), .val (.int p2), .val (.ref b2), .unset, .unset, .unset, .unset, .unset, .unset] [(.int ((p1 &&& (3 : Int32)) % (3 : Int32)))])) (fun t k => by
    show Steps p.tables e below (T41.setTop (mkF m 85 #[.val (.long q0), .second, .val (.int p1), .val (.int p2), .val (.ref b2), .unset, .unset, .unset, .unset, .unset, .unset] [])) _
    refine XS.iloadN X41.here hx rfl (hb hby at_85) rfl ?_
    show Steps p.tables e below (T41.setTop (mkF m 86 #[.val (.long q0), .second, .val (.int p1), .val (.int p2), .val (.ref b2), .unset, .unset, .unset, .unset, .unset, .unset] [(.int p1)])) _
    refine XS.iconst X41.here hx rfl (hb hby at_86) ?_
    show Steps p.tables e below (T41.setTop (mkF m 87 #[.val (.long q0), .second, .val (.int p1), .val (.int p2), .val (.ref b2), .unset, .unset, .unset, .unset, .unset, .unset] [(.int (3 : Int32)), (.int p1)])) _
    refine XS.iand X41.here hx rfl (hb hby at_87) rfl ?_
    show Steps p.tables e below (T41.setTop (mkF m 88 #[.val (.long q0), .second, .val (.int p1), .val (.int p2), .val (.ref b2), .unset, .unset, .unset, .unset, .unset, .unset] [(.int (p1 &&& (3 : Int32)))])) _
    refine XS.iconst X41.here hx rfl (hb hby at_88) ?_
    show Steps p.tables e below (T41.setTop (mkF m 89 #[.val (.long q0), .second, .val (.int p1), .val (.int p2), .val (.ref b2), .unset, .unset, .unset, .unset, .unset, .unset] [(.int (3 : Int32)), (.int (p1 &&& (3 : Int32)))])) _
    refine iremM X41 hx rfl (hb hby at_89) rfl (by decide) ?_
    exact k)
  obtain ⟨zo, hzo⟩ : ∃ z : Int32, z = ((p1 &&& (3 : Int32)) % (3 : Int32)) := ⟨_, rfl⟩
  rw [← hzo] at go44
  have go45 := go44.step (C := T41.setTop (mkF m 101 #[.val (.long q0), .second, .val (.int p1), .val (.int p2), .val (.ref b2), .val (.int zo), .unset, .unset, .unset, .unset, .unset] [(.int (((own_usr p1 (2 : Int32)) &&& (7 : Int32)) % (7 : Int32)))])) (fun t k => by
    show Steps p.tables e below (T41.setTop (mkF m 90 #[.val (.long q0), .second, .val (.int p1), .val (.int p2), .val (.ref b2), .unset, .unset, .unset, .unset, .unset, .unset] [(.int zo)])) _
    refine XS.istore X41.here hx rfl (hb hby at_90) rfl (l' := #[.val (.long q0), .second, .val (.int p1), .val (.int p2), .val (.ref b2), .val (.int zo), .unset, .unset, .unset, .unset, .unset]) rfl ?_
    show Steps p.tables e below (T41.setTop (mkF m 92 #[.val (.long q0), .second, .val (.int p1), .val (.int p2), .val (.ref b2), .val (.int zo), .unset, .unset, .unset, .unset, .unset] [])) _
    refine XS.iloadN X41.here hx rfl (hb hby at_92) rfl ?_
    show Steps p.tables e below (T41.setTop (mkF m 93 #[.val (.long q0), .second, .val (.int p1), .val (.int p2), .val (.ref b2), .val (.int zo), .unset, .unset, .unset, .unset, .unset] [(.int p1)])) _
    refine XS.iconst X41.here hx rfl (hb hby at_93) ?_
    show Steps p.tables e below (T41.setTop (mkF m 94 #[.val (.long q0), .second, .val (.int p1), .val (.int p2), .val (.ref b2), .val (.int zo), .unset, .unset, .unset, .unset, .unset] [(.int (2 : Int32)), (.int p1)])) _
    refine XS.iushr X41.here hx rfl (hb hby at_94) rfl ?_
    show Steps p.tables e below (T41.setTop (mkF m 95 #[.val (.long q0), .second, .val (.int p1), .val (.int p2), .val (.ref b2), .val (.int zo), .unset, .unset, .unset, .unset, .unset] [(.int (own_usr p1 (2 : Int32)))])) _
    refine XS.bipush X41.here hx rfl (hb hby at_95) ?_
    show Steps p.tables e below (T41.setTop (mkF m 97 #[.val (.long q0), .second, .val (.int p1), .val (.int p2), .val (.ref b2), .val (.int zo), .unset, .unset, .unset, .unset, .unset] [(.int (7 : Int32)), (.int (own_usr p1 (2 : Int32)))])) _
    refine XS.iand X41.here hx rfl (hb hby at_97) rfl ?_
    show Steps p.tables e below (T41.setTop (mkF m 98 #[.val (.long q0), .second, .val (.int p1), .val (.int p2), .val (.ref b2), .val (.int zo), .unset, .unset, .unset, .unset, .unset] [(.int ((own_usr p1 (2 : Int32)) &&& (7 : Int32)))])) _
    refine XS.bipush X41.here hx rfl (hb hby at_98) ?_
    show Steps p.tables e below (T41.setTop (mkF m 100 #[.val (.long q0), .second, .val (.int p1), .val (.int p2), .val (.ref b2), .val (.int zo), .unset, .unset, .unset, .unset, .unset] [(.int (7 : Int32)), (.int ((own_usr p1 (2 : Int32)) &&& (7 : Int32)))])) _
    refine iremM X41 hx rfl (hb hby at_100) rfl (by decide) ?_
    exact k)
  obtain ⟨zl, hzl⟩ : ∃ z : Int32, z = (((own_usr p1 (2 : Int32)) &&& (7 : Int32)) % (7 : Int32)) := ⟨_, rfl⟩
  rw [← hzl] at go45
  have go46 := go45.step (C := T41.setTop (mkF m 103 #[.val (.long q0), .second, .val (.int p1), .val (.int p2), .val (.ref b2), .val (.int zo), .val (.int zl), .unset, .unset, .unset, .unset] [])) (fun t k => by
    show Steps p.tables e below (T41.setTop (mkF m 101 #[.val (.long q0), .second, .val (.int p1), .val (.int p2), .val (.ref b2), .val (.int zo), .unset, .unset, .unset, .unset, .unset] [(.int zl)])) _
    refine XS.istore X41.here hx rfl (hb hby at_101) rfl (l' := #[.val (.long q0), .second, .val (.int p1), .val (.int p2), .val (.ref b2), .val (.int zo), .val (.int zl), .unset, .unset, .unset, .unset]) rfl ?_
    exact k)
  obtain ⟨cn, hcn⟩ : ∃ n : Nat, zl.toInt = (n : Int) := ⟨zl.toInt.toNat, by have := own_zl hzl; omega⟩
  obtain ⟨fn, hfn⟩ : ∃ n : Nat, zo.toInt = (n : Int) := ⟨zo.toInt.toNat, by have := own_zo hzo; omega⟩
  have hle : fn + cn ≤ 8 := by have := own_zl hzl; have := own_zo hzo; omega
  have h6 : cn ≤ 6 := by have := own_zl hzl; omega
  have go47 := go46.step (C := T41.setTop (mkF m 117 #[.val (.long q0), .second, .val (.int p1), .val (.int p2), .val (.ref b2), .val (.int zo), .val (.int zl), .val (.int (p2 &&& (7 : Int32))), .unset, .unset, .unset] [(.int (((own_usr p2 (3 : Int32)) &&& (255 : Int32)).toUInt32.toUInt16.toUInt32.toInt32))])) (fun t k => by
    show Steps p.tables e below (T41.setTop (mkF m 103 #[.val (.long q0), .second, .val (.int p1), .val (.int p2), .val (.ref b2), .val (.int zo), .val (.int zl), .unset, .unset, .unset, .unset] [])) _
    refine XS.iloadN X41.here hx rfl (hb hby at_103) rfl ?_
    show Steps p.tables e below (T41.setTop (mkF m 104 #[.val (.long q0), .second, .val (.int p1), .val (.int p2), .val (.ref b2), .val (.int zo), .val (.int zl), .unset, .unset, .unset, .unset] [(.int p2)])) _
    refine XS.bipush X41.here hx rfl (hb hby at_104) ?_
    show Steps p.tables e below (T41.setTop (mkF m 106 #[.val (.long q0), .second, .val (.int p1), .val (.int p2), .val (.ref b2), .val (.int zo), .val (.int zl), .unset, .unset, .unset, .unset] [(.int (7 : Int32)), (.int p2)])) _
    refine XS.iand X41.here hx rfl (hb hby at_106) rfl ?_
    show Steps p.tables e below (T41.setTop (mkF m 107 #[.val (.long q0), .second, .val (.int p1), .val (.int p2), .val (.ref b2), .val (.int zo), .val (.int zl), .unset, .unset, .unset, .unset] [(.int (p2 &&& (7 : Int32)))])) _
    refine XS.istore X41.here hx rfl (hb hby at_107) rfl (l' := #[.val (.long q0), .second, .val (.int p1), .val (.int p2), .val (.ref b2), .val (.int zo), .val (.int zl), .val (.int (p2 &&& (7 : Int32))), .unset, .unset, .unset]) rfl ?_
    show Steps p.tables e below (T41.setTop (mkF m 109 #[.val (.long q0), .second, .val (.int p1), .val (.int p2), .val (.ref b2), .val (.int zo), .val (.int zl), .val (.int (p2 &&& (7 : Int32))), .unset, .unset, .unset] [])) _
    refine XS.iloadN X41.here hx rfl (hb hby at_109) rfl ?_
    show Steps p.tables e below (T41.setTop (mkF m 110 #[.val (.long q0), .second, .val (.int p1), .val (.int p2), .val (.ref b2), .val (.int zo), .val (.int zl), .val (.int (p2 &&& (7 : Int32))), .unset, .unset, .unset] [(.int p2)])) _
    refine XS.iconst X41.here hx rfl (hb hby at_110) ?_
    show Steps p.tables e below (T41.setTop (mkF m 111 #[.val (.long q0), .second, .val (.int p1), .val (.int p2), .val (.ref b2), .val (.int zo), .val (.int zl), .val (.int (p2 &&& (7 : Int32))), .unset, .unset, .unset] [(.int (3 : Int32)), (.int p2)])) _
    refine XS.iushr X41.here hx rfl (hb hby at_111) rfl ?_
    show Steps p.tables e below (T41.setTop (mkF m 112 #[.val (.long q0), .second, .val (.int p1), .val (.int p2), .val (.ref b2), .val (.int zo), .val (.int zl), .val (.int (p2 &&& (7 : Int32))), .unset, .unset, .unset] [(.int (own_usr p2 (3 : Int32)))])) _
    refine XS.sipush X41.here hx rfl (hb hby at_112) ?_
    show Steps p.tables e below (T41.setTop (mkF m 115 #[.val (.long q0), .second, .val (.int p1), .val (.int p2), .val (.ref b2), .val (.int zo), .val (.int zl), .val (.int (p2 &&& (7 : Int32))), .unset, .unset, .unset] [(.int (255 : Int32)), (.int (own_usr p2 (3 : Int32)))])) _
    refine XS.iand X41.here hx rfl (hb hby at_115) rfl ?_
    show Steps p.tables e below (T41.setTop (mkF m 116 #[.val (.long q0), .second, .val (.int p1), .val (.int p2), .val (.ref b2), .val (.int zo), .val (.int zl), .val (.int (p2 &&& (7 : Int32))), .unset, .unset, .unset] [(.int ((own_usr p2 (3 : Int32)) &&& (255 : Int32)))])) _
    refine XS.i2c X41.here hx rfl (hb hby at_116) rfl ?_
    exact k)
  obtain ⟨zch, hzch⟩ : ∃ z : Int32, z = (((own_usr p2 (3 : Int32)) &&& (255 : Int32)).toUInt32.toUInt16.toUInt32.toInt32) := ⟨_, rfl⟩
  rw [← hzch] at go47
  obtain ⟨_, _, ⟨T48, L48, k48, n48⟩, -, X48, ⟨Lc48, hQ48, l48, y48, z48⟩, st48⟩ := Jvm.LawKit.callS X41 hx (y := (⟨"java/lang/String", "valueOf", "(C)Ljava/lang/String;"⟩ : MethodName)) hown (mvT hZ (hw _ (List.mem_of_getElem? (i := 1) rfl))) (mvT hZ (hw _ (List.mem_of_getElem? (i := 2) rfl))) (mvT hZ (hw _ (List.mem_of_getElem? (i := 3) rfl))) (mvT hZ (hw _ (List.mem_of_getElem? (i := 4) rfl))) (by decide) (backOf (W := 0) (rm1 l Z a0 hw [] zch cs h41 n0 Z41 f42 S_cs hcs (own_ch hzch)) hZ (hw _ (List.mem_of_getElem? (i := 4) rfl)) (hw _ (List.mem_of_getElem? (i := 3) rfl)) (by decide) (by decide)) (g := (mkF m 117 #[.val (.long q0), .second, .val (.int p1), .val (.int p2), .val (.ref b2), .val (.int zo), .val (.int zl), .val (.int (p2 &&& (7 : Int32))), .unset, .unset, .unset] [(.int zch)])) rfl (by rw [hml]; rfl) (argsL := [(.int zch)]) (rest := []) (lenOf pd_rm0_0 rfl) rfl (by show 2 * 0 + _ ≤ _; exact Nat.le_of_eq rfl) (hb hby at_117) (fun _ _ => ⟨rfl, e41, (by decide : 1 + 2 ≤ _), (by decide : 8 + 5 ≤ _)⟩)
  dsimp only [Pt.U, Pt.locs, Pt.cells, Pt.slots] at X48 l48 y48 z48 st48 hQ48
  rw [l48, y48, z48] at X48
  obtain ⟨b_48, rfl, N48q, K48, qp48_0, qp48_1, qp48_2⟩ := hQ48
  have N48 := Fr.app N41 N48q
  have f49 := Old.keep f42 K48 all0
  have f50 := V41.keep K48 nin0
  have Z48 : n0 ≤ T48.heap.size := Nat.le_trans Z41 K48.1
  have KK48 := K41.trans K48 all0
  have g_b_48 := qp48_0
  have sz_b_48 := Nat.le_trans K41.1 qp48_1
  have ne_b2_b_48 : b2 ≠ b_48 := Nat.ne_of_lt (Nat.lt_of_lt_of_le V41.lt qp48_1)
  have go48 := go47.step (C := T48.setTop (mkF m 120 #[.val (.long q0), .second, .val (.int p1), .val (.int p2), .val (.ref b2), .val (.int zo), .val (.int zl), .val (.int (p2 &&& (7 : Int32))), .unset, .unset, .unset] [(.ref b_48)])) (fun t k => st48 t k)
  have go51 := go48.step (C := T48.setTop (mkF m 122 #[.val (.long q0), .second, .val (.int p1), .val (.int p2), .val (.ref b2), .val (.int zo), .val (.int zl), .val (.int (p2 &&& (7 : Int32))), .val (.ref b_48), .unset, .unset] [])) (fun t k => by
    show Steps p.tables e below (T48.setTop (mkF m 120 #[.val (.long q0), .second, .val (.int p1), .val (.int p2), .val (.ref b2), .val (.int zo), .val (.int zl), .val (.int (p2 &&& (7 : Int32))), .unset, .unset, .unset] [(.ref b_48)])) _
    refine XS.astore X48.here hx rfl (hb hby at_120) rfl rfl (l' := #[.val (.long q0), .second, .val (.int p1), .val (.int p2), .val (.ref b2), .val (.int zo), .val (.int zl), .val (.int (p2 &&& (7 : Int32))), .val (.ref b_48), .unset, .unset]) rfl ?_
    exact k)
  obtain ⟨T52, h52, X52, e52, E52, A52, D52, -, st52⟩ := newO X48 hx hZ hown (hw _ (List.mem_of_getElem? (i := 26) rfl)) (hw _ (List.mem_of_getElem? (i := 27) rfl)) (hw _ (List.mem_of_getElem? (i := 28) rfl)) rfl (g := (mkF m 122 #[.val (.long q0), .second, .val (.int p1), .val (.int p2), .val (.ref b2), .val (.int zo), .val (.int zl), .val (.int (p2 &&& (7 : Int32))), .val (.ref b_48), .unset, .unset] [])) rfl (hb hby at_122) (by decide) (by decide)
  obtain ⟨b52, g52⟩ : ∃ z, z = T48.heap.size := ⟨_, rfl⟩
  rw [← g52] at A52 D52 st52
  have ne_b2_b52 : b2 ≠ b52 := Nat.ne_of_lt (Nat.lt_of_lt_of_le f50.lt (Nat.le_of_eq g52.symm))
  have ne_b_48_b52 : b_48 ≠ b52 := Nat.ne_of_lt (Nat.lt_of_lt_of_le qp48_2.lt (Nat.le_of_eq g52.symm))
  have g_b52 : n0 ≤ b52 := Nat.le_trans Z48 (Nat.le_of_eq g52.symm)
  have sz_b52 : h0.size ≤ b52 := Nat.le_trans KK48.1 (Nat.le_of_eq g52.symm)
  have f53 := Old.ext f49 E52
  have f54 := f50.ext E52
  have f55 := qp48_2.ext E52
  have F52_tag : Fld Z h52 b52 "com/example/zemlja/zemlja/record/Field" "tag" "Ljava/lang/String;" .null := D52 (Or.inr (hw _ (List.mem_of_getElem? (i := 34) rfl))) (ty := (.object "java/lang/String")) (by decide)
  have F52_bytes : Fld Z h52 b52 "com/example/zemlja/zemlja/record/Field" "bytes" "[B" .null := D52 (Or.inr (hw _ (List.mem_of_getElem? (i := 36) rfl))) (ty := (.array .byte)) (by decide)
  have F52_offset : Fld Z h52 b52 "com/example/zemlja/zemlja/record/Field" "offset" "I" (.int (0 : Int32)) := D52 (Or.inr (hw _ (List.mem_of_getElem? (i := 38) rfl))) (ty := .int) (by decide)
  have F52_length : Fld Z h52 b52 "com/example/zemlja/zemlja/record/Field" "length" "I" (.int (0 : Int32)) := D52 (Or.inr (hw _ (List.mem_of_getElem? (i := 40) rfl))) (ty := .int) (by decide)
  have F52_indicatorCount : Fld Z h52 b52 "com/example/zemlja/zemlja/record/Field" "indicatorCount" "I" (.int (0 : Int32)) := D52 (Or.inr (hw _ (List.mem_of_getElem? (i := 42) rfl))) (ty := .int) (by decide)
  have Z52 : n0 ≤ h52.size := Nat.le_trans Z48 E52.1
  have K52 := KK48.ext E52
  have go52 := go51.step (C := T52.setTop (mkF m 125 #[.val (.long q0), .second, .val (.int p1), .val (.int p2), .val (.ref b2), .val (.int zo), .val (.int zl), .val (.int (p2 &&& (7 : Int32))), .val (.ref b_48), .unset, .unset] [(.ref b52)])) (fun t k => st52 t k)
  have go56 := go52.step (C := T52.setTop (mkF m 136 #[.val (.long q0), .second, .val (.int p1), .val (.int p2), .val (.ref b2), .val (.int zo), .val (.int zl), .val (.int (p2 &&& (7 : Int32))), .val (.ref b_48), .unset, .unset] [(.int (p2 &&& (7 : Int32))), (.int zl), (.int zo), (.ref b2), (.ref b_48), (.ref b52), (.ref b52)])) (fun t k => by
    show Steps p.tables e below (T52.setTop (mkF m 125 #[.val (.long q0), .second, .val (.int p1), .val (.int p2), .val (.ref b2), .val (.int zo), .val (.int zl), .val (.int (p2 &&& (7 : Int32))), .val (.ref b_48), .unset, .unset] [(.ref b52)])) _
    refine XS.dup X52.here hx rfl (hb hby at_125) rfl rfl ?_
    show Steps p.tables e below (T52.setTop (mkF m 126 #[.val (.long q0), .second, .val (.int p1), .val (.int p2), .val (.ref b2), .val (.int zo), .val (.int zl), .val (.int (p2 &&& (7 : Int32))), .val (.ref b_48), .unset, .unset] [(.ref b52), (.ref b52)])) _
    refine XS.aload X52.here hx rfl (hb hby at_126) rfl rfl ?_
    show Steps p.tables e below (T52.setTop (mkF m 128 #[.val (.long q0), .second, .val (.int p1), .val (.int p2), .val (.ref b2), .val (.int zo), .val (.int zl), .val (.int (p2 &&& (7 : Int32))), .val (.ref b_48), .unset, .unset] [(.ref b_48), (.ref b52), (.ref b52)])) _
    refine XS.aload X52.here hx rfl (hb hby at_128) rfl rfl ?_
    show Steps p.tables e below (T52.setTop (mkF m 130 #[.val (.long q0), .second, .val (.int p1), .val (.int p2), .val (.ref b2), .val (.int zo), .val (.int zl), .val (.int (p2 &&& (7 : Int32))), .val (.ref b_48), .unset, .unset] [(.ref b2), (.ref b_48), (.ref b52), (.ref b52)])) _
    refine XS.iload X52.here hx rfl (hb hby at_130) rfl ?_
    show Steps p.tables e below (T52.setTop (mkF m 132 #[.val (.long q0), .second, .val (.int p1), .val (.int p2), .val (.ref b2), .val (.int zo), .val (.int zl), .val (.int (p2 &&& (7 : Int32))), .val (.ref b_48), .unset, .unset] [(.int zo), (.ref b2), (.ref b_48), (.ref b52), (.ref b52)])) _
    refine XS.iload X52.here hx rfl (hb hby at_132) rfl ?_
    show Steps p.tables e below (T52.setTop (mkF m 134 #[.val (.long q0), .second, .val (.int p1), .val (.int p2), .val (.ref b2), .val (.int zo), .val (.int zl), .val (.int (p2 &&& (7 : Int32))), .val (.ref b_48), .unset, .unset] [(.int zl), (.int zo), (.ref b2), (.ref b_48), (.ref b52), (.ref b52)])) _
    refine XS.iload X52.here hx rfl (hb hby at_134) rfl ?_
    exact k)
  obtain ⟨_, _, ⟨T57, L57, k57, n57⟩, -, X57, ⟨Lc57, hQ57, l57, y57, z57⟩, st57⟩ := X52.specialBack hx (y := (⟨"com/example/zemlja/zemlja/record/Field", "<init>", "(Ljava/lang/String;[BIII)V"⟩ : MethodName)) rfl hown (mvT hZ (hw _ (List.mem_of_getElem? (i := 29) rfl))) (mvT hZ (hw _ (List.mem_of_getElem? (i := 30) rfl))) (mvT hZ (hw _ (List.mem_of_getElem? (i := 31) rfl))) (by decide) (backOf (W := 1) (rm6 l Z a0 hw [] b52 b_48 b2 zo zl (p2 &&& (7 : Int32)) k2 [(.int (nar .byte ((q0.toInt32).toInt8.toInt32))), (.int (nar .byte (((own_usrL q0 (8 : Int32)).toInt32).toInt8.toInt32))), (.int (nar .byte (((own_usrL q0 (16 : Int32)).toInt32).toInt8.toInt32))), (.int (nar .byte (((own_usrL q0 (24 : Int32)).toInt32).toInt8.toInt32))), (.int (nar .byte (((own_usrL q0 (32 : Int32)).toInt32).toInt8.toInt32))), (.int (nar .byte (((own_usrL q0 (40 : Int32)).toInt32).toInt8.toInt32))), (.int (nar .byte (((own_usrL q0 (48 : Int32)).toInt32).toInt8.toInt32))), (.int (nar .byte (((own_usrL q0 (56 : Int32)).toInt32).toInt8.toInt32)))] h52 n0 Z52 A52 g_b52 F52_tag F52_bytes F52_offset F52_length F52_indicatorCount f54 (own_nn (own_zo hzo).1) (own_nn (own_zl hzl).1) (own_le (own_zo hzo) (own_zl hzl)) (own_m7 _)) hZ (hw _ (List.mem_of_getElem? (i := 31) rfl)) (hw _ (List.mem_of_getElem? (i := 28) rfl)) (by decide) (by decide)) (g := (mkF m 136 #[.val (.long q0), .second, .val (.int p1), .val (.int p2), .val (.ref b2), .val (.int zo), .val (.int zl), .val (.int (p2 &&& (7 : Int32))), .val (.ref b_48), .unset, .unset] [(.int (p2 &&& (7 : Int32))), (.int zl), (.int zo), (.ref b2), (.ref b_48), (.ref b52), (.ref b52)])) rfl (by rw [hml]; rfl) (Steps.refl _) (a := b52) (argsL := [(.ref b_48), (.ref b2), (.int zo), (.int zl), (.int (p2 &&& (7 : Int32)))]) (rest := [(.ref b52)]) (lenOf pd_rm0_1 rfl) rfl (by show 2 * 0 + _ ≤ _; exact Nat.le_of_eq rfl) (hb hby at_136) (fun _ _ => ⟨rfl, e52, (by decide : 4 + 0 ≤ _), (by decide : 18 + 0 ≤ _)⟩)
  dsimp only [Pt.U, Pt.locs, Pt.cells, Pt.slots] at X57 l57 y57 z57 st57 hQ57
  rw [l57, y57, z57] at X57
  obtain ⟨rfl, N57q, K57, qp57_0, qp57_1, qp57_2, qp57_3, qp57_4, qp57_5⟩ := hQ57
  have N57 := Fr.app N48 N57q
  have f58 := Old.keep f53 K57 (allS g_b52 all0)
  have f59 := f54.keep K57 (ninS ne_b2_b52 nin0)
  have f60 := f55.keep K57
  have f61 := A52.keep K57
  have Z57 : n0 ≤ T57.heap.size := Nat.le_trans Z52 K57.1
  have KK57 := K52.trans K57 (allS (Or.inr sz_b52) all0)
  have go57 := go56.tr (C := T57.setTop (mkF m 139 #[.val (.long q0), .second, .val (.int p1), .val (.int p2), .val (.ref b2), .val (.int zo), .val (.int zl), .val (.int (p2 &&& (7 : Int32))), .val (.ref b_48), .unset, .unset] [(.ref b52)])) st57
  have go67 := go57.step (C := T57.setTop (mkF m 148 #[.val (.long q0), .second, .val (.int p1), .val (.int p2), .val (.ref b2), .val (.int zo), .val (.int zl), .val (.int (p2 &&& (7 : Int32))), .val (.ref b_48), .val (.ref b52), .unset] [(.int (0 : Int32)), (.int zl), (.int zo), (.ref b2)])) (fun t k => by
    show Steps p.tables e below (T57.setTop (mkF m 139 #[.val (.long q0), .second, .val (.int p1), .val (.int p2), .val (.ref b2), .val (.int zo), .val (.int zl), .val (.int (p2 &&& (7 : Int32))), .val (.ref b_48), .unset, .unset] [(.ref b52)])) _
    refine XS.astore X57.here hx rfl (hb hby at_139) rfl rfl (l' := #[.val (.long q0), .second, .val (.int p1), .val (.int p2), .val (.ref b2), .val (.int zo), .val (.int zl), .val (.int (p2 &&& (7 : Int32))), .val (.ref b_48), .val (.ref b52), .unset]) rfl ?_
    show Steps p.tables e below (T57.setTop (mkF m 141 #[.val (.long q0), .second, .val (.int p1), .val (.int p2), .val (.ref b2), .val (.int zo), .val (.int zl), .val (.int (p2 &&& (7 : Int32))), .val (.ref b_48), .val (.ref b52), .unset] [])) _
    refine XS.aload X57.here hx rfl (hb hby at_141) rfl rfl ?_
    show Steps p.tables e below (T57.setTop (mkF m 143 #[.val (.long q0), .second, .val (.int p1), .val (.int p2), .val (.ref b2), .val (.int zo), .val (.int zl), .val (.int (p2 &&& (7 : Int32))), .val (.ref b_48), .val (.ref b52), .unset] [(.ref b2)])) _
    refine XS.iload X57.here hx rfl (hb hby at_143) rfl ?_
    show Steps p.tables e below (T57.setTop (mkF m 145 #[.val (.long q0), .second, .val (.int p1), .val (.int p2), .val (.ref b2), .val (.int zo), .val (.int zl), .val (.int (p2 &&& (7 : Int32))), .val (.ref b_48), .val (.ref b52), .unset] [(.int zo), (.ref b2)])) _
    refine XS.iload X57.here hx rfl (hb hby at_145) rfl ?_
    show Steps p.tables e below (T57.setTop (mkF m 147 #[.val (.long q0), .second, .val (.int p1), .val (.int p2), .val (.ref b2), .val (.int zo), .val (.int zl), .val (.int (p2 &&& (7 : Int32))), .val (.ref b_48), .val (.ref b52), .unset] [(.int zl), (.int zo), (.ref b2)])) _
    refine XS.iconst X57.here hx rfl (hb hby at_147) ?_
    exact k)
  obtain ⟨_, _, ⟨T68, L68, k68, n68⟩, -, X68, ⟨Lc68, hQ68, l68, y68, z68⟩, st68⟩ := Jvm.LawKit.callS X57 hx (y := (⟨"com/example/zemlja/zemlja/record/FieldContentHashPinLaw", "term", "([BIII)I"⟩ : MethodName)) hown (mvT hZ (hw _ (List.mem_of_getElem? (i := 43) rfl))) (mvT hZ (hw _ (List.mem_of_getElem? (i := 44) rfl))) (mvT hZ (hw _ (List.mem_of_getElem? (i := 45) rfl))) (mvT hZ (hw _ (List.mem_of_getElem? (i := 46) rfl))) (by decide) (backOf (W := 0) (rm7 l Z a0 hw [] b2 zo zl (0 : Int32) k2 [(.int (nar .byte ((q0.toInt32).toInt8.toInt32))), (.int (nar .byte (((own_usrL q0 (8 : Int32)).toInt32).toInt8.toInt32))), (.int (nar .byte (((own_usrL q0 (16 : Int32)).toInt32).toInt8.toInt32))), (.int (nar .byte (((own_usrL q0 (24 : Int32)).toInt32).toInt8.toInt32))), (.int (nar .byte (((own_usrL q0 (32 : Int32)).toInt32).toInt8.toInt32))), (.int (nar .byte (((own_usrL q0 (40 : Int32)).toInt32).toInt8.toInt32))), (.int (nar .byte (((own_usrL q0 (48 : Int32)).toInt32).toInt8.toInt32))), (.int (nar .byte (((own_usrL q0 (56 : Int32)).toInt32).toInt8.toInt32)))] (own_f q0) fn T57.heap n0 Z57 f59 (own_hv q0) (own_hi (i := 0) hfn hcn hle rfl (by decide)).1 (own_hi (i := 0) hfn hcn hle rfl (by decide)).2) hZ (hw _ (List.mem_of_getElem? (i := 46) rfl)) (hw _ (List.mem_of_getElem? (i := 45) rfl)) (by decide) (by decide)) (g := (mkF m 148 #[.val (.long q0), .second, .val (.int p1), .val (.int p2), .val (.ref b2), .val (.int zo), .val (.int zl), .val (.int (p2 &&& (7 : Int32))), .val (.ref b_48), .val (.ref b52), .unset] [(.int (0 : Int32)), (.int zl), (.int zo), (.ref b2)])) rfl (by rw [hml]; rfl) (argsL := [(.ref b2), (.int zo), (.int zl), (.int (0 : Int32))]) (rest := []) (lenOf pd_rm0_2 rfl) rfl (by show 2 * 0 + _ ≤ _; exact Nat.le_of_eq rfl) (hb hby at_148) (fun _ _ => ⟨rfl, rfl, (by decide : 4 + 0 ≤ _), (by decide : 18 + 0 ≤ _)⟩)
  dsimp only [Pt.U, Pt.locs, Pt.cells, Pt.slots] at X68 l68 y68 z68 st68 hQ68
  rw [l68, y68, z68] at X68
  obtain ⟨rfl, N68q, e68⟩ := hQ68
  have N68 := Fr.app N57 N68q
  have go68 := go67.step (C := T68.setTop (mkF m 151 #[.val (.long q0), .second, .val (.int p1), .val (.int p2), .val (.ref b2), .val (.int zo), .val (.int zl), .val (.int (p2 &&& (7 : Int32))), .val (.ref b_48), .val (.ref b52), .unset] [(.int (own_term zl (0 : Int32) (own_f q0) fn))])) (fun t k => st68 t k)
  have go69 := go68.step (C := T68.setTop (mkF m 158 #[.val (.long q0), .second, .val (.int p1), .val (.int p2), .val (.ref b2), .val (.int zo), .val (.int zl), .val (.int (p2 &&& (7 : Int32))), .val (.ref b_48), .val (.ref b52), .unset] [(.int (1 : Int32)), (.int zl), (.int zo), (.ref b2), (.int (own_term zl (0 : Int32) (own_f q0) fn))])) (fun t k => by
    show Steps p.tables e below (T68.setTop (mkF m 151 #[.val (.long q0), .second, .val (.int p1), .val (.int p2), .val (.ref b2), .val (.int zo), .val (.int zl), .val (.int (p2 &&& (7 : Int32))), .val (.ref b_48), .val (.ref b52), .unset] [(.int (own_term zl (0 : Int32) (own_f q0) fn))])) _
    refine XS.aload X68.here hx rfl (hb hby at_151) rfl rfl ?_
    show Steps p.tables e below (T68.setTop (mkF m 153 #[.val (.long q0), .second, .val (.int p1), .val (.int p2), .val (.ref b2), .val (.int zo), .val (.int zl), .val (.int (p2 &&& (7 : Int32))), .val (.ref b_48), .val (.ref b52), .unset] [(.ref b2), (.int (own_term zl (0 : Int32) (own_f q0) fn))])) _
    refine XS.iload X68.here hx rfl (hb hby at_153) rfl ?_
    show Steps p.tables e below (T68.setTop (mkF m 155 #[.val (.long q0), .second, .val (.int p1), .val (.int p2), .val (.ref b2), .val (.int zo), .val (.int zl), .val (.int (p2 &&& (7 : Int32))), .val (.ref b_48), .val (.ref b52), .unset] [(.int zo), (.ref b2), (.int (own_term zl (0 : Int32) (own_f q0) fn))])) _
    refine XS.iload X68.here hx rfl (hb hby at_155) rfl ?_
    show Steps p.tables e below (T68.setTop (mkF m 157 #[.val (.long q0), .second, .val (.int p1), .val (.int p2), .val (.ref b2), .val (.int zo), .val (.int zl), .val (.int (p2 &&& (7 : Int32))), .val (.ref b_48), .val (.ref b52), .unset] [(.int zl), (.int zo), (.ref b2), (.int (own_term zl (0 : Int32) (own_f q0) fn))])) _
    refine XS.iconst X68.here hx rfl (hb hby at_157) ?_
    exact k)
  obtain ⟨_, _, ⟨T70, L70, k70, n70⟩, -, X70, ⟨Lc70, hQ70, l70, y70, z70⟩, st70⟩ := Jvm.LawKit.callS X68 hx (y := (⟨"com/example/zemlja/zemlja/record/FieldContentHashPinLaw", "term", "([BIII)I"⟩ : MethodName)) hown (mvT hZ (hw _ (List.mem_of_getElem? (i := 43) rfl))) (mvT hZ (hw _ (List.mem_of_getElem? (i := 44) rfl))) (mvT hZ (hw _ (List.mem_of_getElem? (i := 45) rfl))) (mvT hZ (hw _ (List.mem_of_getElem? (i := 46) rfl))) (by decide) (backOf (W := 1) (rm7 l Z a0 hw [] b2 zo zl (1 : Int32) k2 [(.int (nar .byte ((q0.toInt32).toInt8.toInt32))), (.int (nar .byte (((own_usrL q0 (8 : Int32)).toInt32).toInt8.toInt32))), (.int (nar .byte (((own_usrL q0 (16 : Int32)).toInt32).toInt8.toInt32))), (.int (nar .byte (((own_usrL q0 (24 : Int32)).toInt32).toInt8.toInt32))), (.int (nar .byte (((own_usrL q0 (32 : Int32)).toInt32).toInt8.toInt32))), (.int (nar .byte (((own_usrL q0 (40 : Int32)).toInt32).toInt8.toInt32))), (.int (nar .byte (((own_usrL q0 (48 : Int32)).toInt32).toInt8.toInt32))), (.int (nar .byte (((own_usrL q0 (56 : Int32)).toInt32).toInt8.toInt32)))] (own_f q0) (fn + 1) T57.heap n0 Z57 f59 (own_hv q0) (own_hi (i := 1) hfn hcn hle rfl (by decide)).1 (own_hi (i := 1) hfn hcn hle rfl (by decide)).2) hZ (hw _ (List.mem_of_getElem? (i := 46) rfl)) (hw _ (List.mem_of_getElem? (i := 45) rfl)) (by decide) (by decide)) (g := (mkF m 158 #[.val (.long q0), .second, .val (.int p1), .val (.int p2), .val (.ref b2), .val (.int zo), .val (.int zl), .val (.int (p2 &&& (7 : Int32))), .val (.ref b_48), .val (.ref b52), .unset] [(.int (1 : Int32)), (.int zl), (.int zo), (.ref b2), (.int (own_term zl (0 : Int32) (own_f q0) fn))])) rfl (by rw [hml]; rfl) (argsL := [(.ref b2), (.int zo), (.int zl), (.int (1 : Int32))]) (rest := [(.int (own_term zl (0 : Int32) (own_f q0) fn))]) (lenOf pd_rm0_2 rfl) rfl (by show 2 * 0 + _ ≤ _; exact Nat.le_of_eq rfl) (hb hby at_158) (fun _ _ => ⟨rfl, e68, (by decide : 4 + 0 ≤ _), (by decide : 18 + 0 ≤ _)⟩)
  dsimp only [Pt.U, Pt.locs, Pt.cells, Pt.slots] at X70 l70 y70 z70 st70 hQ70
  rw [l70, y70, z70] at X70
  obtain ⟨rfl, N70q, e70⟩ := hQ70
  have N70 := Fr.app N68 N70q
  have go70 := go69.step (C := T70.setTop (mkF m 161 #[.val (.long q0), .second, .val (.int p1), .val (.int p2), .val (.ref b2), .val (.int zo), .val (.int zl), .val (.int (p2 &&& (7 : Int32))), .val (.ref b_48), .val (.ref b52), .unset] [(.int (own_term zl (1 : Int32) (own_f q0) (fn + 1))), (.int (own_term zl (0 : Int32) (own_f q0) fn))])) (fun t k => st70 t k)
  have go71 := go70.step (C := T70.setTop (mkF m 169 #[.val (.long q0), .second, .val (.int p1), .val (.int p2), .val (.ref b2), .val (.int zo), .val (.int zl), .val (.int (p2 &&& (7 : Int32))), .val (.ref b_48), .val (.ref b52), .unset] [(.int (2 : Int32)), (.int zl), (.int zo), (.ref b2), (.int ((own_term zl (0 : Int32) (own_f q0) fn) + (own_term zl (1 : Int32) (own_f q0) (fn + 1))))])) (fun t k => by
    show Steps p.tables e below (T70.setTop (mkF m 161 #[.val (.long q0), .second, .val (.int p1), .val (.int p2), .val (.ref b2), .val (.int zo), .val (.int zl), .val (.int (p2 &&& (7 : Int32))), .val (.ref b_48), .val (.ref b52), .unset] [(.int (own_term zl (1 : Int32) (own_f q0) (fn + 1))), (.int (own_term zl (0 : Int32) (own_f q0) fn))])) _
    refine XS.iadd X70.here hx rfl (hb hby at_161) rfl ?_
    show Steps p.tables e below (T70.setTop (mkF m 162 #[.val (.long q0), .second, .val (.int p1), .val (.int p2), .val (.ref b2), .val (.int zo), .val (.int zl), .val (.int (p2 &&& (7 : Int32))), .val (.ref b_48), .val (.ref b52), .unset] [(.int ((own_term zl (0 : Int32) (own_f q0) fn) + (own_term zl (1 : Int32) (own_f q0) (fn + 1))))])) _
    refine XS.aload X70.here hx rfl (hb hby at_162) rfl rfl ?_
    show Steps p.tables e below (T70.setTop (mkF m 164 #[.val (.long q0), .second, .val (.int p1), .val (.int p2), .val (.ref b2), .val (.int zo), .val (.int zl), .val (.int (p2 &&& (7 : Int32))), .val (.ref b_48), .val (.ref b52), .unset] [(.ref b2), (.int ((own_term zl (0 : Int32) (own_f q0) fn) + (own_term zl (1 : Int32) (own_f q0) (fn + 1))))])) _
    refine XS.iload X70.here hx rfl (hb hby at_164) rfl ?_
    show Steps p.tables e below (T70.setTop (mkF m 166 #[.val (.long q0), .second, .val (.int p1), .val (.int p2), .val (.ref b2), .val (.int zo), .val (.int zl), .val (.int (p2 &&& (7 : Int32))), .val (.ref b_48), .val (.ref b52), .unset] [(.int zo), (.ref b2), (.int ((own_term zl (0 : Int32) (own_f q0) fn) + (own_term zl (1 : Int32) (own_f q0) (fn + 1))))])) _
    refine XS.iload X70.here hx rfl (hb hby at_166) rfl ?_
    show Steps p.tables e below (T70.setTop (mkF m 168 #[.val (.long q0), .second, .val (.int p1), .val (.int p2), .val (.ref b2), .val (.int zo), .val (.int zl), .val (.int (p2 &&& (7 : Int32))), .val (.ref b_48), .val (.ref b52), .unset] [(.int zl), (.int zo), (.ref b2), (.int ((own_term zl (0 : Int32) (own_f q0) fn) + (own_term zl (1 : Int32) (own_f q0) (fn + 1))))])) _
    refine XS.iconst X70.here hx rfl (hb hby at_168) ?_
    exact k)
  obtain ⟨_, _, ⟨T72, L72, k72, n72⟩, -, X72, ⟨Lc72, hQ72, l72, y72, z72⟩, st72⟩ := Jvm.LawKit.callS X70 hx (y := (⟨"com/example/zemlja/zemlja/record/FieldContentHashPinLaw", "term", "([BIII)I"⟩ : MethodName)) hown (mvT hZ (hw _ (List.mem_of_getElem? (i := 43) rfl))) (mvT hZ (hw _ (List.mem_of_getElem? (i := 44) rfl))) (mvT hZ (hw _ (List.mem_of_getElem? (i := 45) rfl))) (mvT hZ (hw _ (List.mem_of_getElem? (i := 46) rfl))) (by decide) (backOf (W := 1) (rm7 l Z a0 hw [] b2 zo zl (2 : Int32) k2 [(.int (nar .byte ((q0.toInt32).toInt8.toInt32))), (.int (nar .byte (((own_usrL q0 (8 : Int32)).toInt32).toInt8.toInt32))), (.int (nar .byte (((own_usrL q0 (16 : Int32)).toInt32).toInt8.toInt32))), (.int (nar .byte (((own_usrL q0 (24 : Int32)).toInt32).toInt8.toInt32))), (.int (nar .byte (((own_usrL q0 (32 : Int32)).toInt32).toInt8.toInt32))), (.int (nar .byte (((own_usrL q0 (40 : Int32)).toInt32).toInt8.toInt32))), (.int (nar .byte (((own_usrL q0 (48 : Int32)).toInt32).toInt8.toInt32))), (.int (nar .byte (((own_usrL q0 (56 : Int32)).toInt32).toInt8.toInt32)))] (own_f q0) (fn + 2) T57.heap n0 Z57 f59 (own_hv q0) (own_hi (i := 2) hfn hcn hle rfl (by decide)).1 (own_hi (i := 2) hfn hcn hle rfl (by decide)).2) hZ (hw _ (List.mem_of_getElem? (i := 46) rfl)) (hw _ (List.mem_of_getElem? (i := 45) rfl)) (by decide) (by decide)) (g := (mkF m 169 #[.val (.long q0), .second, .val (.int p1), .val (.int p2), .val (.ref b2), .val (.int zo), .val (.int zl), .val (.int (p2 &&& (7 : Int32))), .val (.ref b_48), .val (.ref b52), .unset] [(.int (2 : Int32)), (.int zl), (.int zo), (.ref b2), (.int ((own_term zl (0 : Int32) (own_f q0) fn) + (own_term zl (1 : Int32) (own_f q0) (fn + 1))))])) rfl (by rw [hml]; rfl) (argsL := [(.ref b2), (.int zo), (.int zl), (.int (2 : Int32))]) (rest := [(.int ((own_term zl (0 : Int32) (own_f q0) fn) + (own_term zl (1 : Int32) (own_f q0) (fn + 1))))]) (lenOf pd_rm0_2 rfl) rfl (by show 2 * 0 + _ ≤ _; exact Nat.le_of_eq rfl) (hb hby at_169) (fun _ _ => ⟨rfl, e70, (by decide : 4 + 0 ≤ _), (by decide : 18 + 0 ≤ _)⟩)
  dsimp only [Pt.U, Pt.locs, Pt.cells, Pt.slots] at X72 l72 y72 z72 st72 hQ72
  rw [l72, y72, z72] at X72
  obtain ⟨rfl, N72q, e72⟩ := hQ72
  have N72 := Fr.app N70 N72q
  have go72 := go71.step (C := T72.setTop (mkF m 172 #[.val (.long q0), .second, .val (.int p1), .val (.int p2), .val (.ref b2), .val (.int zo), .val (.int zl), .val (.int (p2 &&& (7 : Int32))), .val (.ref b_48), .val (.ref b52), .unset] [(.int (own_term zl (2 : Int32) (own_f q0) (fn + 2))), (.int ((own_term zl (0 : Int32) (own_f q0) fn) + (own_term zl (1 : Int32) (own_f q0) (fn + 1))))])) (fun t k => st72 t k)
  have go73 := go72.step (C := T72.setTop (mkF m 180 #[.val (.long q0), .second, .val (.int p1), .val (.int p2), .val (.ref b2), .val (.int zo), .val (.int zl), .val (.int (p2 &&& (7 : Int32))), .val (.ref b_48), .val (.ref b52), .unset] [(.int (3 : Int32)), (.int zl), (.int zo), (.ref b2), (.int (((own_term zl (0 : Int32) (own_f q0) fn) + (own_term zl (1 : Int32) (own_f q0) (fn + 1))) + (own_term zl (2 : Int32) (own_f q0) (fn + 2))))])) (fun t k => by
    show Steps p.tables e below (T72.setTop (mkF m 172 #[.val (.long q0), .second, .val (.int p1), .val (.int p2), .val (.ref b2), .val (.int zo), .val (.int zl), .val (.int (p2 &&& (7 : Int32))), .val (.ref b_48), .val (.ref b52), .unset] [(.int (own_term zl (2 : Int32) (own_f q0) (fn + 2))), (.int ((own_term zl (0 : Int32) (own_f q0) fn) + (own_term zl (1 : Int32) (own_f q0) (fn + 1))))])) _
    refine XS.iadd X72.here hx rfl (hb hby at_172) rfl ?_
    show Steps p.tables e below (T72.setTop (mkF m 173 #[.val (.long q0), .second, .val (.int p1), .val (.int p2), .val (.ref b2), .val (.int zo), .val (.int zl), .val (.int (p2 &&& (7 : Int32))), .val (.ref b_48), .val (.ref b52), .unset] [(.int (((own_term zl (0 : Int32) (own_f q0) fn) + (own_term zl (1 : Int32) (own_f q0) (fn + 1))) + (own_term zl (2 : Int32) (own_f q0) (fn + 2))))])) _
    refine XS.aload X72.here hx rfl (hb hby at_173) rfl rfl ?_
    show Steps p.tables e below (T72.setTop (mkF m 175 #[.val (.long q0), .second, .val (.int p1), .val (.int p2), .val (.ref b2), .val (.int zo), .val (.int zl), .val (.int (p2 &&& (7 : Int32))), .val (.ref b_48), .val (.ref b52), .unset] [(.ref b2), (.int (((own_term zl (0 : Int32) (own_f q0) fn) + (own_term zl (1 : Int32) (own_f q0) (fn + 1))) + (own_term zl (2 : Int32) (own_f q0) (fn + 2))))])) _
    refine XS.iload X72.here hx rfl (hb hby at_175) rfl ?_
    show Steps p.tables e below (T72.setTop (mkF m 177 #[.val (.long q0), .second, .val (.int p1), .val (.int p2), .val (.ref b2), .val (.int zo), .val (.int zl), .val (.int (p2 &&& (7 : Int32))), .val (.ref b_48), .val (.ref b52), .unset] [(.int zo), (.ref b2), (.int (((own_term zl (0 : Int32) (own_f q0) fn) + (own_term zl (1 : Int32) (own_f q0) (fn + 1))) + (own_term zl (2 : Int32) (own_f q0) (fn + 2))))])) _
    refine XS.iload X72.here hx rfl (hb hby at_177) rfl ?_
    show Steps p.tables e below (T72.setTop (mkF m 179 #[.val (.long q0), .second, .val (.int p1), .val (.int p2), .val (.ref b2), .val (.int zo), .val (.int zl), .val (.int (p2 &&& (7 : Int32))), .val (.ref b_48), .val (.ref b52), .unset] [(.int zl), (.int zo), (.ref b2), (.int (((own_term zl (0 : Int32) (own_f q0) fn) + (own_term zl (1 : Int32) (own_f q0) (fn + 1))) + (own_term zl (2 : Int32) (own_f q0) (fn + 2))))])) _
    refine XS.iconst X72.here hx rfl (hb hby at_179) ?_
    exact k)
  obtain ⟨_, _, ⟨T74, L74, k74, n74⟩, -, X74, ⟨Lc74, hQ74, l74, y74, z74⟩, st74⟩ := Jvm.LawKit.callS X72 hx (y := (⟨"com/example/zemlja/zemlja/record/FieldContentHashPinLaw", "term", "([BIII)I"⟩ : MethodName)) hown (mvT hZ (hw _ (List.mem_of_getElem? (i := 43) rfl))) (mvT hZ (hw _ (List.mem_of_getElem? (i := 44) rfl))) (mvT hZ (hw _ (List.mem_of_getElem? (i := 45) rfl))) (mvT hZ (hw _ (List.mem_of_getElem? (i := 46) rfl))) (by decide) (backOf (W := 1) (rm7 l Z a0 hw [] b2 zo zl (3 : Int32) k2 [(.int (nar .byte ((q0.toInt32).toInt8.toInt32))), (.int (nar .byte (((own_usrL q0 (8 : Int32)).toInt32).toInt8.toInt32))), (.int (nar .byte (((own_usrL q0 (16 : Int32)).toInt32).toInt8.toInt32))), (.int (nar .byte (((own_usrL q0 (24 : Int32)).toInt32).toInt8.toInt32))), (.int (nar .byte (((own_usrL q0 (32 : Int32)).toInt32).toInt8.toInt32))), (.int (nar .byte (((own_usrL q0 (40 : Int32)).toInt32).toInt8.toInt32))), (.int (nar .byte (((own_usrL q0 (48 : Int32)).toInt32).toInt8.toInt32))), (.int (nar .byte (((own_usrL q0 (56 : Int32)).toInt32).toInt8.toInt32)))] (own_f q0) (fn + 3) T57.heap n0 Z57 f59 (own_hv q0) (own_hi (i := 3) hfn hcn hle rfl (by decide)).1 (own_hi (i := 3) hfn hcn hle rfl (by decide)).2) hZ (hw _ (List.mem_of_getElem? (i := 46) rfl)) (hw _ (List.mem_of_getElem? (i := 45) rfl)) (by decide) (by decide)) (g := (mkF m 180 #[.val (.long q0), .second, .val (.int p1), .val (.int p2), .val (.ref b2), .val (.int zo), .val (.int zl), .val (.int (p2 &&& (7 : Int32))), .val (.ref b_48), .val (.ref b52), .unset] [(.int (3 : Int32)), (.int zl), (.int zo), (.ref b2), (.int (((own_term zl (0 : Int32) (own_f q0) fn) + (own_term zl (1 : Int32) (own_f q0) (fn + 1))) + (own_term zl (2 : Int32) (own_f q0) (fn + 2))))])) rfl (by rw [hml]; rfl) (argsL := [(.ref b2), (.int zo), (.int zl), (.int (3 : Int32))]) (rest := [(.int (((own_term zl (0 : Int32) (own_f q0) fn) + (own_term zl (1 : Int32) (own_f q0) (fn + 1))) + (own_term zl (2 : Int32) (own_f q0) (fn + 2))))]) (lenOf pd_rm0_2 rfl) rfl (by show 2 * 0 + _ ≤ _; exact Nat.le_of_eq rfl) (hb hby at_180) (fun _ _ => ⟨rfl, e72, (by decide : 4 + 0 ≤ _), (by decide : 18 + 0 ≤ _)⟩)
  dsimp only [Pt.U, Pt.locs, Pt.cells, Pt.slots] at X74 l74 y74 z74 st74 hQ74
  rw [l74, y74, z74] at X74
  obtain ⟨rfl, N74q, e74⟩ := hQ74
  have N74 := Fr.app N72 N74q
  have go74 := go73.step (C := T74.setTop (mkF m 183 #[.val (.long q0), .second, .val (.int p1), .val (.int p2), .val (.ref b2), .val (.int zo), .val (.int zl), .val (.int (p2 &&& (7 : Int32))), .val (.ref b_48), .val (.ref b52), .unset] [(.int (own_term zl (3 : Int32) (own_f q0) (fn + 3))), (.int (((own_term zl (0 : Int32) (own_f q0) fn) + (own_term zl (1 : Int32) (own_f q0) (fn + 1))) + (own_term zl (2 : Int32) (own_f q0) (fn + 2))))])) (fun t k => st74 t k)
  have go75 := go74.step (C := T74.setTop (mkF m 191 #[.val (.long q0), .second, .val (.int p1), .val (.int p2), .val (.ref b2), .val (.int zo), .val (.int zl), .val (.int (p2 &&& (7 : Int32))), .val (.ref b_48), .val (.ref b52), .unset] [(.int (4 : Int32)), (.int zl), (.int zo), (.ref b2), (.int ((((own_term zl (0 : Int32) (own_f q0) fn) + (own_term zl (1 : Int32) (own_f q0) (fn + 1))) + (own_term zl (2 : Int32) (own_f q0) (fn + 2))) + (own_term zl (3 : Int32) (own_f q0) (fn + 3))))])) (fun t k => by
    show Steps p.tables e below (T74.setTop (mkF m 183 #[.val (.long q0), .second, .val (.int p1), .val (.int p2), .val (.ref b2), .val (.int zo), .val (.int zl), .val (.int (p2 &&& (7 : Int32))), .val (.ref b_48), .val (.ref b52), .unset] [(.int (own_term zl (3 : Int32) (own_f q0) (fn + 3))), (.int (((own_term zl (0 : Int32) (own_f q0) fn) + (own_term zl (1 : Int32) (own_f q0) (fn + 1))) + (own_term zl (2 : Int32) (own_f q0) (fn + 2))))])) _
    refine XS.iadd X74.here hx rfl (hb hby at_183) rfl ?_
    show Steps p.tables e below (T74.setTop (mkF m 184 #[.val (.long q0), .second, .val (.int p1), .val (.int p2), .val (.ref b2), .val (.int zo), .val (.int zl), .val (.int (p2 &&& (7 : Int32))), .val (.ref b_48), .val (.ref b52), .unset] [(.int ((((own_term zl (0 : Int32) (own_f q0) fn) + (own_term zl (1 : Int32) (own_f q0) (fn + 1))) + (own_term zl (2 : Int32) (own_f q0) (fn + 2))) + (own_term zl (3 : Int32) (own_f q0) (fn + 3))))])) _
    refine XS.aload X74.here hx rfl (hb hby at_184) rfl rfl ?_
    show Steps p.tables e below (T74.setTop (mkF m 186 #[.val (.long q0), .second, .val (.int p1), .val (.int p2), .val (.ref b2), .val (.int zo), .val (.int zl), .val (.int (p2 &&& (7 : Int32))), .val (.ref b_48), .val (.ref b52), .unset] [(.ref b2), (.int ((((own_term zl (0 : Int32) (own_f q0) fn) + (own_term zl (1 : Int32) (own_f q0) (fn + 1))) + (own_term zl (2 : Int32) (own_f q0) (fn + 2))) + (own_term zl (3 : Int32) (own_f q0) (fn + 3))))])) _
    refine XS.iload X74.here hx rfl (hb hby at_186) rfl ?_
    show Steps p.tables e below (T74.setTop (mkF m 188 #[.val (.long q0), .second, .val (.int p1), .val (.int p2), .val (.ref b2), .val (.int zo), .val (.int zl), .val (.int (p2 &&& (7 : Int32))), .val (.ref b_48), .val (.ref b52), .unset] [(.int zo), (.ref b2), (.int ((((own_term zl (0 : Int32) (own_f q0) fn) + (own_term zl (1 : Int32) (own_f q0) (fn + 1))) + (own_term zl (2 : Int32) (own_f q0) (fn + 2))) + (own_term zl (3 : Int32) (own_f q0) (fn + 3))))])) _
    refine XS.iload X74.here hx rfl (hb hby at_188) rfl ?_
    show Steps p.tables e below (T74.setTop (mkF m 190 #[.val (.long q0), .second, .val (.int p1), .val (.int p2), .val (.ref b2), .val (.int zo), .val (.int zl), .val (.int (p2 &&& (7 : Int32))), .val (.ref b_48), .val (.ref b52), .unset] [(.int zl), (.int zo), (.ref b2), (.int ((((own_term zl (0 : Int32) (own_f q0) fn) + (own_term zl (1 : Int32) (own_f q0) (fn + 1))) + (own_term zl (2 : Int32) (own_f q0) (fn + 2))) + (own_term zl (3 : Int32) (own_f q0) (fn + 3))))])) _
    refine XS.iconst X74.here hx rfl (hb hby at_190) ?_
    exact k)
  obtain ⟨_, _, ⟨T76, L76, k76, n76⟩, -, X76, ⟨Lc76, hQ76, l76, y76, z76⟩, st76⟩ := Jvm.LawKit.callS X74 hx (y := (⟨"com/example/zemlja/zemlja/record/FieldContentHashPinLaw", "term", "([BIII)I"⟩ : MethodName)) hown (mvT hZ (hw _ (List.mem_of_getElem? (i := 43) rfl))) (mvT hZ (hw _ (List.mem_of_getElem? (i := 44) rfl))) (mvT hZ (hw _ (List.mem_of_getElem? (i := 45) rfl))) (mvT hZ (hw _ (List.mem_of_getElem? (i := 46) rfl))) (by decide) (backOf (W := 1) (rm7 l Z a0 hw [] b2 zo zl (4 : Int32) k2 [(.int (nar .byte ((q0.toInt32).toInt8.toInt32))), (.int (nar .byte (((own_usrL q0 (8 : Int32)).toInt32).toInt8.toInt32))), (.int (nar .byte (((own_usrL q0 (16 : Int32)).toInt32).toInt8.toInt32))), (.int (nar .byte (((own_usrL q0 (24 : Int32)).toInt32).toInt8.toInt32))), (.int (nar .byte (((own_usrL q0 (32 : Int32)).toInt32).toInt8.toInt32))), (.int (nar .byte (((own_usrL q0 (40 : Int32)).toInt32).toInt8.toInt32))), (.int (nar .byte (((own_usrL q0 (48 : Int32)).toInt32).toInt8.toInt32))), (.int (nar .byte (((own_usrL q0 (56 : Int32)).toInt32).toInt8.toInt32)))] (own_f q0) (fn + 4) T57.heap n0 Z57 f59 (own_hv q0) (own_hi (i := 4) hfn hcn hle rfl (by decide)).1 (own_hi (i := 4) hfn hcn hle rfl (by decide)).2) hZ (hw _ (List.mem_of_getElem? (i := 46) rfl)) (hw _ (List.mem_of_getElem? (i := 45) rfl)) (by decide) (by decide)) (g := (mkF m 191 #[.val (.long q0), .second, .val (.int p1), .val (.int p2), .val (.ref b2), .val (.int zo), .val (.int zl), .val (.int (p2 &&& (7 : Int32))), .val (.ref b_48), .val (.ref b52), .unset] [(.int (4 : Int32)), (.int zl), (.int zo), (.ref b2), (.int ((((own_term zl (0 : Int32) (own_f q0) fn) + (own_term zl (1 : Int32) (own_f q0) (fn + 1))) + (own_term zl (2 : Int32) (own_f q0) (fn + 2))) + (own_term zl (3 : Int32) (own_f q0) (fn + 3))))])) rfl (by rw [hml]; rfl) (argsL := [(.ref b2), (.int zo), (.int zl), (.int (4 : Int32))]) (rest := [(.int ((((own_term zl (0 : Int32) (own_f q0) fn) + (own_term zl (1 : Int32) (own_f q0) (fn + 1))) + (own_term zl (2 : Int32) (own_f q0) (fn + 2))) + (own_term zl (3 : Int32) (own_f q0) (fn + 3))))]) (lenOf pd_rm0_2 rfl) rfl (by show 2 * 0 + _ ≤ _; exact Nat.le_of_eq rfl) (hb hby at_191) (fun _ _ => ⟨rfl, e74, (by decide : 4 + 0 ≤ _), (by decide : 18 + 0 ≤ _)⟩)
  dsimp only [Pt.U, Pt.locs, Pt.cells, Pt.slots] at X76 l76 y76 z76 st76 hQ76
  rw [l76, y76, z76] at X76
  obtain ⟨rfl, N76q, e76⟩ := hQ76
  have N76 := Fr.app N74 N76q
  have go76 := go75.step (C := T76.setTop (mkF m 194 #[.val (.long q0), .second, .val (.int p1), .val (.int p2), .val (.ref b2), .val (.int zo), .val (.int zl), .val (.int (p2 &&& (7 : Int32))), .val (.ref b_48), .val (.ref b52), .unset] [(.int (own_term zl (4 : Int32) (own_f q0) (fn + 4))), (.int ((((own_term zl (0 : Int32) (own_f q0) fn) + (own_term zl (1 : Int32) (own_f q0) (fn + 1))) + (own_term zl (2 : Int32) (own_f q0) (fn + 2))) + (own_term zl (3 : Int32) (own_f q0) (fn + 3))))])) (fun t k => st76 t k)
  have go77 := go76.step (C := T76.setTop (mkF m 202 #[.val (.long q0), .second, .val (.int p1), .val (.int p2), .val (.ref b2), .val (.int zo), .val (.int zl), .val (.int (p2 &&& (7 : Int32))), .val (.ref b_48), .val (.ref b52), .unset] [(.int (5 : Int32)), (.int zl), (.int zo), (.ref b2), (.int (((((own_term zl (0 : Int32) (own_f q0) fn) + (own_term zl (1 : Int32) (own_f q0) (fn + 1))) + (own_term zl (2 : Int32) (own_f q0) (fn + 2))) + (own_term zl (3 : Int32) (own_f q0) (fn + 3))) + (own_term zl (4 : Int32) (own_f q0) (fn + 4))))])) (fun t k => by
    show Steps p.tables e below (T76.setTop (mkF m 194 #[.val (.long q0), .second, .val (.int p1), .val (.int p2), .val (.ref b2), .val (.int zo), .val (.int zl), .val (.int (p2 &&& (7 : Int32))), .val (.ref b_48), .val (.ref b52), .unset] [(.int (own_term zl (4 : Int32) (own_f q0) (fn + 4))), (.int ((((own_term zl (0 : Int32) (own_f q0) fn) + (own_term zl (1 : Int32) (own_f q0) (fn + 1))) + (own_term zl (2 : Int32) (own_f q0) (fn + 2))) + (own_term zl (3 : Int32) (own_f q0) (fn + 3))))])) _
    refine XS.iadd X76.here hx rfl (hb hby at_194) rfl ?_
    show Steps p.tables e below (T76.setTop (mkF m 195 #[.val (.long q0), .second, .val (.int p1), .val (.int p2), .val (.ref b2), .val (.int zo), .val (.int zl), .val (.int (p2 &&& (7 : Int32))), .val (.ref b_48), .val (.ref b52), .unset] [(.int (((((own_term zl (0 : Int32) (own_f q0) fn) + (own_term zl (1 : Int32) (own_f q0) (fn + 1))) + (own_term zl (2 : Int32) (own_f q0) (fn + 2))) + (own_term zl (3 : Int32) (own_f q0) (fn + 3))) + (own_term zl (4 : Int32) (own_f q0) (fn + 4))))])) _
    refine XS.aload X76.here hx rfl (hb hby at_195) rfl rfl ?_
    show Steps p.tables e below (T76.setTop (mkF m 197 #[.val (.long q0), .second, .val (.int p1), .val (.int p2), .val (.ref b2), .val (.int zo), .val (.int zl), .val (.int (p2 &&& (7 : Int32))), .val (.ref b_48), .val (.ref b52), .unset] [(.ref b2), (.int (((((own_term zl (0 : Int32) (own_f q0) fn) + (own_term zl (1 : Int32) (own_f q0) (fn + 1))) + (own_term zl (2 : Int32) (own_f q0) (fn + 2))) + (own_term zl (3 : Int32) (own_f q0) (fn + 3))) + (own_term zl (4 : Int32) (own_f q0) (fn + 4))))])) _
    refine XS.iload X76.here hx rfl (hb hby at_197) rfl ?_
    show Steps p.tables e below (T76.setTop (mkF m 199 #[.val (.long q0), .second, .val (.int p1), .val (.int p2), .val (.ref b2), .val (.int zo), .val (.int zl), .val (.int (p2 &&& (7 : Int32))), .val (.ref b_48), .val (.ref b52), .unset] [(.int zo), (.ref b2), (.int (((((own_term zl (0 : Int32) (own_f q0) fn) + (own_term zl (1 : Int32) (own_f q0) (fn + 1))) + (own_term zl (2 : Int32) (own_f q0) (fn + 2))) + (own_term zl (3 : Int32) (own_f q0) (fn + 3))) + (own_term zl (4 : Int32) (own_f q0) (fn + 4))))])) _
    refine XS.iload X76.here hx rfl (hb hby at_199) rfl ?_
    show Steps p.tables e below (T76.setTop (mkF m 201 #[.val (.long q0), .second, .val (.int p1), .val (.int p2), .val (.ref b2), .val (.int zo), .val (.int zl), .val (.int (p2 &&& (7 : Int32))), .val (.ref b_48), .val (.ref b52), .unset] [(.int zl), (.int zo), (.ref b2), (.int (((((own_term zl (0 : Int32) (own_f q0) fn) + (own_term zl (1 : Int32) (own_f q0) (fn + 1))) + (own_term zl (2 : Int32) (own_f q0) (fn + 2))) + (own_term zl (3 : Int32) (own_f q0) (fn + 3))) + (own_term zl (4 : Int32) (own_f q0) (fn + 4))))])) _
    refine XS.iconst X76.here hx rfl (hb hby at_201) ?_
    exact k)
  obtain ⟨_, _, ⟨T78, L78, k78, n78⟩, -, X78, ⟨Lc78, hQ78, l78, y78, z78⟩, st78⟩ := Jvm.LawKit.callS X76 hx (y := (⟨"com/example/zemlja/zemlja/record/FieldContentHashPinLaw", "term", "([BIII)I"⟩ : MethodName)) hown (mvT hZ (hw _ (List.mem_of_getElem? (i := 43) rfl))) (mvT hZ (hw _ (List.mem_of_getElem? (i := 44) rfl))) (mvT hZ (hw _ (List.mem_of_getElem? (i := 45) rfl))) (mvT hZ (hw _ (List.mem_of_getElem? (i := 46) rfl))) (by decide) (backOf (W := 1) (rm7 l Z a0 hw [] b2 zo zl (5 : Int32) k2 [(.int (nar .byte ((q0.toInt32).toInt8.toInt32))), (.int (nar .byte (((own_usrL q0 (8 : Int32)).toInt32).toInt8.toInt32))), (.int (nar .byte (((own_usrL q0 (16 : Int32)).toInt32).toInt8.toInt32))), (.int (nar .byte (((own_usrL q0 (24 : Int32)).toInt32).toInt8.toInt32))), (.int (nar .byte (((own_usrL q0 (32 : Int32)).toInt32).toInt8.toInt32))), (.int (nar .byte (((own_usrL q0 (40 : Int32)).toInt32).toInt8.toInt32))), (.int (nar .byte (((own_usrL q0 (48 : Int32)).toInt32).toInt8.toInt32))), (.int (nar .byte (((own_usrL q0 (56 : Int32)).toInt32).toInt8.toInt32)))] (own_f q0) (fn + 5) T57.heap n0 Z57 f59 (own_hv q0) (own_hi (i := 5) hfn hcn hle rfl (by decide)).1 (own_hi (i := 5) hfn hcn hle rfl (by decide)).2) hZ (hw _ (List.mem_of_getElem? (i := 46) rfl)) (hw _ (List.mem_of_getElem? (i := 45) rfl)) (by decide) (by decide)) (g := (mkF m 202 #[.val (.long q0), .second, .val (.int p1), .val (.int p2), .val (.ref b2), .val (.int zo), .val (.int zl), .val (.int (p2 &&& (7 : Int32))), .val (.ref b_48), .val (.ref b52), .unset] [(.int (5 : Int32)), (.int zl), (.int zo), (.ref b2), (.int (((((own_term zl (0 : Int32) (own_f q0) fn) + (own_term zl (1 : Int32) (own_f q0) (fn + 1))) + (own_term zl (2 : Int32) (own_f q0) (fn + 2))) + (own_term zl (3 : Int32) (own_f q0) (fn + 3))) + (own_term zl (4 : Int32) (own_f q0) (fn + 4))))])) rfl (by rw [hml]; rfl) (argsL := [(.ref b2), (.int zo), (.int zl), (.int (5 : Int32))]) (rest := [(.int (((((own_term zl (0 : Int32) (own_f q0) fn) + (own_term zl (1 : Int32) (own_f q0) (fn + 1))) + (own_term zl (2 : Int32) (own_f q0) (fn + 2))) + (own_term zl (3 : Int32) (own_f q0) (fn + 3))) + (own_term zl (4 : Int32) (own_f q0) (fn + 4))))]) (lenOf pd_rm0_2 rfl) rfl (by show 2 * 0 + _ ≤ _; exact Nat.le_of_eq rfl) (hb hby at_202) (fun _ _ => ⟨rfl, e76, (by decide : 4 + 0 ≤ _), (by decide : 18 + 0 ≤ _)⟩)
  dsimp only [Pt.U, Pt.locs, Pt.cells, Pt.slots] at X78 l78 y78 z78 st78 hQ78
  rw [l78, y78, z78] at X78
  obtain ⟨rfl, N78q, e78⟩ := hQ78
  have N78 := Fr.app N76 N78q
  have go78 := go77.step (C := T78.setTop (mkF m 205 #[.val (.long q0), .second, .val (.int p1), .val (.int p2), .val (.ref b2), .val (.int zo), .val (.int zl), .val (.int (p2 &&& (7 : Int32))), .val (.ref b_48), .val (.ref b52), .unset] [(.int (own_term zl (5 : Int32) (own_f q0) (fn + 5))), (.int (((((own_term zl (0 : Int32) (own_f q0) fn) + (own_term zl (1 : Int32) (own_f q0) (fn + 1))) + (own_term zl (2 : Int32) (own_f q0) (fn + 2))) + (own_term zl (3 : Int32) (own_f q0) (fn + 3))) + (own_term zl (4 : Int32) (own_f q0) (fn + 4))))])) (fun t k => st78 t k)
  have go79 := go78.step (C := T78.setTop (mkF m 210 #[.val (.long q0), .second, .val (.int p1), .val (.int p2), .val (.ref b2), .val (.int zo), .val (.int zl), .val (.int (p2 &&& (7 : Int32))), .val (.ref b_48), .val (.ref b52), .val (.int ((((((own_term zl (0 : Int32) (own_f q0) fn) + (own_term zl (1 : Int32) (own_f q0) (fn + 1))) + (own_term zl (2 : Int32) (own_f q0) (fn + 2))) + (own_term zl (3 : Int32) (own_f q0) (fn + 3))) + (own_term zl (4 : Int32) (own_f q0) (fn + 4))) + (own_term zl (5 : Int32) (own_f q0) (fn + 5))))] [(.ref b52)])) (fun t k => by
    show Steps p.tables e below (T78.setTop (mkF m 205 #[.val (.long q0), .second, .val (.int p1), .val (.int p2), .val (.ref b2), .val (.int zo), .val (.int zl), .val (.int (p2 &&& (7 : Int32))), .val (.ref b_48), .val (.ref b52), .unset] [(.int (own_term zl (5 : Int32) (own_f q0) (fn + 5))), (.int (((((own_term zl (0 : Int32) (own_f q0) fn) + (own_term zl (1 : Int32) (own_f q0) (fn + 1))) + (own_term zl (2 : Int32) (own_f q0) (fn + 2))) + (own_term zl (3 : Int32) (own_f q0) (fn + 3))) + (own_term zl (4 : Int32) (own_f q0) (fn + 4))))])) _
    refine XS.iadd X78.here hx rfl (hb hby at_205) rfl ?_
    show Steps p.tables e below (T78.setTop (mkF m 206 #[.val (.long q0), .second, .val (.int p1), .val (.int p2), .val (.ref b2), .val (.int zo), .val (.int zl), .val (.int (p2 &&& (7 : Int32))), .val (.ref b_48), .val (.ref b52), .unset] [(.int ((((((own_term zl (0 : Int32) (own_f q0) fn) + (own_term zl (1 : Int32) (own_f q0) (fn + 1))) + (own_term zl (2 : Int32) (own_f q0) (fn + 2))) + (own_term zl (3 : Int32) (own_f q0) (fn + 3))) + (own_term zl (4 : Int32) (own_f q0) (fn + 4))) + (own_term zl (5 : Int32) (own_f q0) (fn + 5))))])) _
    refine XS.istore X78.here hx rfl (hb hby at_206) rfl (l' := #[.val (.long q0), .second, .val (.int p1), .val (.int p2), .val (.ref b2), .val (.int zo), .val (.int zl), .val (.int (p2 &&& (7 : Int32))), .val (.ref b_48), .val (.ref b52), .val (.int ((((((own_term zl (0 : Int32) (own_f q0) fn) + (own_term zl (1 : Int32) (own_f q0) (fn + 1))) + (own_term zl (2 : Int32) (own_f q0) (fn + 2))) + (own_term zl (3 : Int32) (own_f q0) (fn + 3))) + (own_term zl (4 : Int32) (own_f q0) (fn + 4))) + (own_term zl (5 : Int32) (own_f q0) (fn + 5))))]) rfl ?_
    show Steps p.tables e below (T78.setTop (mkF m 208 #[.val (.long q0), .second, .val (.int p1), .val (.int p2), .val (.ref b2), .val (.int zo), .val (.int zl), .val (.int (p2 &&& (7 : Int32))), .val (.ref b_48), .val (.ref b52), .val (.int ((((((own_term zl (0 : Int32) (own_f q0) fn) + (own_term zl (1 : Int32) (own_f q0) (fn + 1))) + (own_term zl (2 : Int32) (own_f q0) (fn + 2))) + (own_term zl (3 : Int32) (own_f q0) (fn + 3))) + (own_term zl (4 : Int32) (own_f q0) (fn + 4))) + (own_term zl (5 : Int32) (own_f q0) (fn + 5))))] [])) _
    refine XS.aload X78.here hx rfl (hb hby at_208) rfl rfl ?_
    exact k)
  obtain ⟨cq80, kq80, q80a, q80b, q80c⟩ := isOf hZ e78 qp57_0
  obtain ⟨_, _, ⟨T80, L80, k80, n80⟩, -, X80, ⟨Lc80, hQ80, l80, y80, z80⟩, st80⟩ := X78.virtualBack hx (y := (⟨"com/example/zemlja/zemlja/record/Field", "contentHash", "()I"⟩ : MethodName)) (z := (⟨"com/example/zemlja/zemlja/record/Field", "contentHash", "()I"⟩ : MethodName)) hown (mvT hZ (hw _ (List.mem_of_getElem? (i := 47) rfl))) (mvT hZ (hw _ (List.mem_of_getElem? (i := 48) rfl))) (notFace_of_selects (args := #[]) (mvT hZ (hw _ (List.mem_of_getElem? (i := 50) rfl)))) (mvT hZ (hw _ (List.mem_of_getElem? (i := 50) rfl))) (mvT hZ (hw _ (List.mem_of_getElem? (i := 49) rfl))) (by decide) (backOf (W := 0) (rm8 l Z a0 hw [] b52 b2 zo zl k2 [(.int (nar .byte ((q0.toInt32).toInt8.toInt32))), (.int (nar .byte (((own_usrL q0 (8 : Int32)).toInt32).toInt8.toInt32))), (.int (nar .byte (((own_usrL q0 (16 : Int32)).toInt32).toInt8.toInt32))), (.int (nar .byte (((own_usrL q0 (24 : Int32)).toInt32).toInt8.toInt32))), (.int (nar .byte (((own_usrL q0 (32 : Int32)).toInt32).toInt8.toInt32))), (.int (nar .byte (((own_usrL q0 (40 : Int32)).toInt32).toInt8.toInt32))), (.int (nar .byte (((own_usrL q0 (48 : Int32)).toInt32).toInt8.toInt32))), (.int (nar .byte (((own_usrL q0 (56 : Int32)).toInt32).toInt8.toInt32)))] (own_f q0) fn cn T57.heap n0 Z57 qp57_3 qp57_4 qp57_2 f59 (own_hv q0) hfn hcn hle) hZ (hw _ (List.mem_of_getElem? (i := 51) rfl)) (hw _ (List.mem_of_getElem? (i := 28) rfl)) (by decide) (by decide)) q80a q80c (g := (mkF m 210 #[.val (.long q0), .second, .val (.int p1), .val (.int p2), .val (.ref b2), .val (.int zo), .val (.int zl), .val (.int (p2 &&& (7 : Int32))), .val (.ref b_48), .val (.ref b52), .val (.int ((((((own_term zl (0 : Int32) (own_f q0) fn) + (own_term zl (1 : Int32) (own_f q0) (fn + 1))) + (own_term zl (2 : Int32) (own_f q0) (fn + 2))) + (own_term zl (3 : Int32) (own_f q0) (fn + 3))) + (own_term zl (4 : Int32) (own_f q0) (fn + 4))) + (own_term zl (5 : Int32) (own_f q0) (fn + 5))))] [(.ref b52)])) rfl (by rw [hml]; rfl) (Steps.refl _) (argsL := []) (rest := []) (lenOf pd_rm0_3 rfl) rfl (by show 2 * 0 + _ ≤ _; exact Nat.le_of_eq rfl) (hb hby at_210) (fun _ _ => ⟨rfl, e78, (by decide : 4 + 0 ≤ _), (by decide : 18 + 0 ≤ _)⟩)
  dsimp only [Pt.U, Pt.locs, Pt.cells, Pt.slots] at X80 l80 y80 z80 st80 hQ80
  rw [l80, y80, z80] at X80
  obtain ⟨rfl, N80q, e80⟩ := hQ80
  have N80 := Fr.app N78 N80q
  have go80 := go79.tr (C := T80.setTop (mkF m 213 #[.val (.long q0), .second, .val (.int p1), .val (.int p2), .val (.ref b2), .val (.int zo), .val (.int zl), .val (.int (p2 &&& (7 : Int32))), .val (.ref b_48), .val (.ref b52), .val (.int ((((((own_term zl (0 : Int32) (own_f q0) fn) + (own_term zl (1 : Int32) (own_f q0) (fn + 1))) + (own_term zl (2 : Int32) (own_f q0) (fn + 2))) + (own_term zl (3 : Int32) (own_f q0) (fn + 3))) + (own_term zl (4 : Int32) (own_f q0) (fn + 4))) + (own_term zl (5 : Int32) (own_f q0) (fn + 5))))] [(.int (own_hash (own_f q0) fn cn (0 : Int32)))])) st80
  have go82 := go80.step (C := T80.setTop (mkF m 223 #[.val (.long q0), .second, .val (.int p1), .val (.int p2), .val (.ref b2), .val (.int zo), .val (.int zl), .val (.int (p2 &&& (7 : Int32))), .val (.ref b_48), .val (.ref b52), .val (.int ((((((own_term zl (0 : Int32) (own_f q0) fn) + (own_term zl (1 : Int32) (own_f q0) (fn + 1))) + (own_term zl (2 : Int32) (own_f q0) (fn + 2))) + (own_term zl (3 : Int32) (own_f q0) (fn + 3))) + (own_term zl (4 : Int32) (own_f q0) (fn + 4))) + (own_term zl (5 : Int32) (own_f q0) (fn + 5))))] [(.int (1 : Int32))])) (fun t k => by
    show Steps p.tables e below (T80.setTop (mkF m 213 #[.val (.long q0), .second, .val (.int p1), .val (.int p2), .val (.ref b2), .val (.int zo), .val (.int zl), .val (.int (p2 &&& (7 : Int32))), .val (.ref b_48), .val (.ref b52), .val (.int ((((((own_term zl (0 : Int32) (own_f q0) fn) + (own_term zl (1 : Int32) (own_f q0) (fn + 1))) + (own_term zl (2 : Int32) (own_f q0) (fn + 2))) + (own_term zl (3 : Int32) (own_f q0) (fn + 3))) + (own_term zl (4 : Int32) (own_f q0) (fn + 4))) + (own_term zl (5 : Int32) (own_f q0) (fn + 5))))] [(.int (own_hash (own_f q0) fn cn (0 : Int32)))])) _
    refine XS.iload X80.here hx rfl (hb hby at_213) rfl ?_
    show Steps p.tables e below (T80.setTop (mkF m 215 #[.val (.long q0), .second, .val (.int p1), .val (.int p2), .val (.ref b2), .val (.int zo), .val (.int zl), .val (.int (p2 &&& (7 : Int32))), .val (.ref b_48), .val (.ref b52), .val (.int ((((((own_term zl (0 : Int32) (own_f q0) fn) + (own_term zl (1 : Int32) (own_f q0) (fn + 1))) + (own_term zl (2 : Int32) (own_f q0) (fn + 2))) + (own_term zl (3 : Int32) (own_f q0) (fn + 3))) + (own_term zl (4 : Int32) (own_f q0) (fn + 4))) + (own_term zl (5 : Int32) (own_f q0) (fn + 5))))] [(.int ((((((own_term zl (0 : Int32) (own_f q0) fn) + (own_term zl (1 : Int32) (own_f q0) (fn + 1))) + (own_term zl (2 : Int32) (own_f q0) (fn + 2))) + (own_term zl (3 : Int32) (own_f q0) (fn + 3))) + (own_term zl (4 : Int32) (own_f q0) (fn + 4))) + (own_term zl (5 : Int32) (own_f q0) (fn + 5)))), (.int (own_hash (own_f q0) fn cn (0 : Int32)))])) _
    refine XS.icmpNo X80.here hx rfl (hb hby at_215) rfl (teq (own_sum hcn h6 : (own_hash (own_f q0) fn cn (0 : Int32)) = ((((((own_term zl (0 : Int32) (own_f q0) fn) + (own_term zl (1 : Int32) (own_f q0) (fn + 1))) + (own_term zl (2 : Int32) (own_f q0) (fn + 2))) + (own_term zl (3 : Int32) (own_f q0) (fn + 3))) + (own_term zl (4 : Int32) (own_f q0) (fn + 4))) + (own_term zl (5 : Int32) (own_f q0) (fn + 5))))).2 ?_
    show Steps p.tables e below (T80.setTop (mkF m 218 #[.val (.long q0), .second, .val (.int p1), .val (.int p2), .val (.ref b2), .val (.int zo), .val (.int zl), .val (.int (p2 &&& (7 : Int32))), .val (.ref b_48), .val (.ref b52), .val (.int ((((((own_term zl (0 : Int32) (own_f q0) fn) + (own_term zl (1 : Int32) (own_f q0) (fn + 1))) + (own_term zl (2 : Int32) (own_f q0) (fn + 2))) + (own_term zl (3 : Int32) (own_f q0) (fn + 3))) + (own_term zl (4 : Int32) (own_f q0) (fn + 4))) + (own_term zl (5 : Int32) (own_f q0) (fn + 5))))] [])) _
    refine XS.iconst X80.here hx rfl (hb hby at_218) ?_
    show Steps p.tables e below (T80.setTop (mkF m 219 #[.val (.long q0), .second, .val (.int p1), .val (.int p2), .val (.ref b2), .val (.int zo), .val (.int zl), .val (.int (p2 &&& (7 : Int32))), .val (.ref b_48), .val (.ref b52), .val (.int ((((((own_term zl (0 : Int32) (own_f q0) fn) + (own_term zl (1 : Int32) (own_f q0) (fn + 1))) + (own_term zl (2 : Int32) (own_f q0) (fn + 2))) + (own_term zl (3 : Int32) (own_f q0) (fn + 3))) + (own_term zl (4 : Int32) (own_f q0) (fn + 4))) + (own_term zl (5 : Int32) (own_f q0) (fn + 5))))] [(.int (1 : Int32))])) _
    refine XS.goto X80.here hx rfl (pc0 := 219) (pc' := 223) rfl (hb hby at_219) (by decide) (by decide) ?_
    exact k)
  obtain ⟨fs, hr, hrun, hended, hW, hsame⟩ := X80.leave (v := some (.int (1 : Int32))) (fun h => by rw [Bd.returns] at h; cases h)
  refine ⟨_, _, go82 _ ?_, hrun, hended, _, _, rfl, ?_, ⟨_, rfl⟩, hW, hsame.mono (by decide) (by decide)⟩
  · exact retN X80 hx (t := .boolean) Bd.returns (by simp) (hb hby at_223) hr
  · show Q_rm0 Z q0 p1 p2 cs h0 n0 _ T80.heap _
    rw [e80]
    exact ⟨rfl, N80⟩
set_option maxRecDepth 65536 in
set_option maxHeartbeats 40000000 in
theorem comes_1 {Post : Tables → Env → Array Value → State → Outcome → State → Prop} (hpost : ∀ tb e args s v u, (limb_1_1.after args s (.returned v) u = true ∧ limb_1_2.after args s (.returned v) u = true ∧ True) → FrameEnd s (.returned v) u (Jvm.fieldLocs frame_1_writes args s ++ Jvm.arrayLocs frame_1_arrays args s ++ Jvm.staticLocs frame_1_statics s) 16 128 → Post tb e args s (.returned v) u) :
    ArmFor flags0 classFile x code maxLocals ret World_1 tables_1 room_1 Calls_1 rest_1 Pre_1 Post := by
  intro l hfl _ _ p e ha hc hk s m args below hf hA hF happ hP
  obtain ⟨hcalls, hrest, hpre⟩ := hP
  obtain ⟨-, -, -, hnamed, -, -, -, hat⟩ := (Spec.applies_iff hf).mp happ
  obtain ⟨hg, hn⟩ := and_e (Cond.before_iff.mp (show (Jvm.Cond.and given_1 narrow_1).before args s = true from hpre))
  obtain ⟨gg0, gr0⟩ := and_e hg
  obtain ⟨gg1, gr1⟩ := and_e gr0
  obtain ⟨gg2, gr2⟩ := and_e gr1
  obtain ⟨w0, w1, w2, rfl⟩ : ∃ w0 w1 w2 : Value, args = #[w0, w1, w2] := by
    have hs : args.size = 3 := by simpa [Cond.value, given_1] using gg0
    obtain ⟨L⟩ := args
    match L, hs with
    | [w0, w1, w2], _ => exact ⟨w0, w1, w2, rfl⟩
  have hw := fun d (hd : d ∈ tables_1) => atoms_spec (ws := Jvm.Cond.code x code maxLocals ret :: tables_1) hat d (List.mem_cons_of_mem _ hd)
  have hfit : Fit s := fun {y c} hc i hi => by
    obtain ⟨ha, rfl⟩ := Array.getElem?_eq_some_iff.mp hc
    have q := List.all_eq_true.mp ((Array.all_eq_true_iff_forall_mem.mp hF) _ (Array.getElem_mem ha)) i (List.mem_range.mpr hi)
    simpa [Array.getElem?_eq_getElem hi] using q
  obtain ⟨hsets, hown0⟩ := atoms_of _ (rest_1_c_eq ▸ (show rest_1_c.before _ s = true from hrest))
  have hr0 := Cond.before_iff.mp hown0
  obtain ⟨i0, ei0⟩ := isL_v gg1
  obtain rfl : w0 = (.long i0) := Option.some.inj ei0
  obtain ⟨i1, ei1⟩ := is_v gg2
  obtain rfl : w1 = (.int i1) := Option.some.inj ei1
  obtain ⟨i2, ei2⟩ := is_v gr2
  obtain rfl : w2 = (.int i2) := Option.some.inj ei2
  have k1 := Cond.before_iff.mp (hsets _ (List.mem_of_getElem? (i := 1) rfl))
  obtain ⟨cs, ecs⟩ := is_v k1
  have S_cs : Sta s s.heap "java/lang/String" "COMPACT_STRINGS" "Z" (.int cs) := Sta.start ecs (Or.inl (hsets _ (List.mem_of_getElem? (i := 0) rfl)))
  have k2 := not_v (Cond.before_iff.mp (hsets _ (List.mem_of_getElem? (i := 2) rfl)))
  have hcs : ¬ cs = (0 : Int32) := fun q => by
    subst q
    simp [Cond.value, ecs, Term.int_eval] at k2
  obtain ⟨n, o, h1, h2, h3, _, L, rfl, ⟨rfl, N⟩, hq⟩ := rm0 l s _ hw tables_1 i0 i1 i2 cs s.heap s.heap.size (Nat.le_refl _) (Old.start s) S_cs hcs p e ha hc hk s m _ below hf ((Spec.applies_iff_loose hf).mp happ).1 ⟨rfl, State.Warmed39.refl s, rfl⟩ trivial
  refine ⟨n, _, h1, h2, h3, hpost _ _ _ _ _ _ ⟨Cond.after_iff.mpr rfl, Cond.after_iff.mpr (eq_i res_at (Term.int_eval (1)) rfl), trivial⟩ ⟨hq.1, hq.2.1, (hq.2.2.sift fun y hy => Or.inr (N y hy)).mono (by decide) (by decide)⟩⟩
theorem main_1_1 : Claimed_1_1 := comes_1 fun _ _ _ _ _ _ h hF => ⟨h.1, hF⟩
theorem main_1_2 : Claimed_1_2 := comes_1 fun _ _ _ _ _ _ h hF => ⟨h.2.1, hF⟩
end Jvm.Pilot.@@N@@
namespace Jvm.Pilot.@@N@@
open Jvm Jvm.ClassFile Sem Op Lib Jvm.Free Jvm.Stand Jvm.Pilot.@@N@@.Jvm.D
/-! MADE BY PROGRAM (witnessworld.py) out of the Statement's table words and the real class files: 17 classes; the members and pool entries that the words name. The judged class is class 1, her method 3. -/
namespace start1
open Jvm.ClassFile
def u (s : String) : CpInfo := .utf8 (stringToUtf16 s)
/-- a pool by its gaps: so many unusable entries, then the entry; so many at the end -/
def gap : Nat → List CpInfo → List CpInfo
  | 0, r => r
  | n + 1, r => .unusable :: gap n r
def poolList (es : List (Nat × CpInfo)) (last : Nat) : List CpInfo := es.foldr (fun e r => gap e.1 (e.2 :: r)) (gap last [])
def pool (es : List (Nat × CpInfo)) (last : Nat) : Array CpInfo := ⟨poolList es last⟩
def fileOf (pool : Array CpInfo) (this : Nat) (attrs : Array Attribute := #[]) (ms : Array MethodInfo := #[]) (fl : Nat := 33) (sup : Nat := 0) (ifs : Array Nat := #[]) (fds : Array FieldInfo := #[]) : ClassFile where
  minorVersion := 0
  majorVersion := 65
  constantPool := pool
  accessFlags := fl
  thisClass := this
  superClass := sup
  interfaces := ifs
  fields := fds
  methods := ms
  attributes := attrs
def plain (name : String) (sup : Option ClassId) : Class where
  name := name
  kind := .ordinary
  loader := none
  accessFlags := 33
  super := sup
  interfaces := #[]
  cf := none
  fields := #[]
  methods := #[]
  instanceTypes := #[]
  staticTypes := #[]
  resolved := #[]
  callSites := []
  init := .initialized
  statics := none
  mirror := none

def pool0 : Array CpInfo := pool [(5, u "<init>"), (0, u "()V"), (1, .class_ 10), (1, u "java/lang/Object")] 113

def k0c0 : Code := { maxStack := 0, maxLocals := 1, code := object_method_1_code, exceptionTable := #[], attributes := #[] }
def k0m0 : Method := { name := "<init>", desc := "()V", sig := { parameters := [], returnType := none }, accessFlags := 1, code := some k0c0 }
/-- java/lang/Object -/
def k0 : Class := { plain "java/lang/Object" none with
  accessFlags := 33
  interfaces := #[]
  cf := some (fileOf pool0 8 #[] #[{ accessFlags := 1, nameIndex := 5, descriptorIndex := 6, attributes := #[] }] 33 0 #[] #[])
  fields := #[]
  methods := #[k0m0]
  instanceTypes := #[]
  staticTypes := #[]
  resolved := Array.replicate 124 none
  statics := none }

def pool1 : Array CpInfo := pool [(2, .class_ 4), (1, u "java/lang/Object"), (0, u "<init>"), (0, u "()V"), (0, .integer 923521), (0, .integer 28629151), (0, .methodref 10 11), (0, .class_ 12), (0, .nameAndType 13 14), (0, u "com/example/zemlja/zemlja/record/FieldContentHashPinLaw"), (0, u "pow31"), (0, u "(I)I"), (0, .methodref 16 17), (0, .class_ 18), (0, .nameAndType 19 20), (0, u "java/lang/String"), (0, u "valueOf"), (0, u "(C)Ljava/lang/String;"), (0, .class_ 22), (0, u "com/example/zemlja/zemlja/record/Field"), (0, .methodref 21 24), (0, .nameAndType 5 25), (0, u "(Ljava/lang/String;[BIII)V"), (0, .methodref 10 27), (0, .nameAndType 28 29), (0, u "term"), (0, u "([BIII)I"), (0, .methodref 21 31), (0, .nameAndType 32 33), (0, u "contentHash"), (0, u "()I"), (3, u "law"), (0, u "(JII)Z")] 4

def k1m0 : Method := { name := "<init>", desc := "()V", sig := { parameters := [], returnType := none }, accessFlags := 1, code := none }
def k1c1 : Code := { maxStack := 2, maxLocals := 1, code := method_2_code, exceptionTable := #[], attributes := #[] }
def k1m1 : Method := { name := "pow31", desc := "(I)I", sig := { parameters := [.int], returnType := some .int }, accessFlags := 10, code := some k1c1 }
def k1c2 : Code := { maxStack := 3, maxLocals := 4, code := method_3_code, exceptionTable := #[], attributes := #[] }
def k1m2 : Method := { name := "term", desc := "([BIII)I", sig := { parameters := [(.array .byte), .int, .int, .int], returnType := some .int }, accessFlags := 10, code := some k1c2 }
def k1c3 : Code := { maxStack := 7, maxLocals := 11, code := code, exceptionTable := #[], attributes := #[] }
def k1m3 : Method := { name := "law", desc := "(JII)Z", sig := { parameters := [.long, .int, .int], returnType := some .boolean }, accessFlags := 9, code := some k1c3 }
/-- com/example/zemlja/zemlja/record/FieldContentHashPinLaw -/
def k1 : Class := { plain "com/example/zemlja/zemlja/record/FieldContentHashPinLaw" (some 0) with
  accessFlags := 49
  interfaces := #[]
  cf := some (fileOf pool1 10 #[] #[{ accessFlags := 1, nameIndex := 5, descriptorIndex := 6, attributes := #[] }, { accessFlags := 10, nameIndex := 13, descriptorIndex := 14, attributes := #[] }, { accessFlags := 10, nameIndex := 28, descriptorIndex := 29, attributes := #[] }, { accessFlags := 9, nameIndex := 37, descriptorIndex := 38, attributes := #[] }] 49 2 #[] #[])
  fields := #[]
  methods := #[k1m0, k1m1, k1m2, k1m3]
  instanceTypes := #[]
  staticTypes := #[]
  resolved := Array.replicate 43 none
  statics := none }

def pool2 : Array CpInfo := pool [(1, .class_ 2), (0, u "java/io/Serializable"), (0, .class_ 4), (0, u "java/lang/Object")] 2

/-- java/io/Serializable -/
def k2 : Class := { plain "java/io/Serializable" (some 0) with
  accessFlags := 1537
  interfaces := #[]
  cf := some (fileOf pool2 1 #[] #[] 1537 3 #[] #[])
  fields := #[]
  methods := #[]
  instanceTypes := #[]
  staticTypes := #[]
  resolved := Array.replicate 7 none
  statics := none }

def pool3 : Array CpInfo := pool [(1, .class_ 2), (0, u "java/lang/Comparable"), (0, .class_ 4), (0, u "java/lang/Object")] 7

/-- java/lang/Comparable -/
def k3 : Class := { plain "java/lang/Comparable" (some 0) with
  accessFlags := 1537
  interfaces := #[]
  cf := some (fileOf pool3 1 #[] #[] 1537 3 #[] #[])
  fields := #[]
  methods := #[]
  instanceTypes := #[]
  staticTypes := #[]
  resolved := Array.replicate 12 none
  statics := none }

def pool4 : Array CpInfo := pool [(2, .class_ 4), (1, u "java/lang/CharSequence"), (42, .class_ 48), (0, u "java/lang/CharSequence$1CodePointIterator"), (10, .class_ 60), (0, u "java/lang/CharSequence$1CharIterator"), (5, .class_ 67), (0, u "java/lang/Object")] 63

/-- java/lang/CharSequence -/
def k4 : Class := { plain "java/lang/CharSequence" (some 0) with
  accessFlags := 1537
  interfaces := #[]
  cf := some (fileOf pool4 2 #[.nestMembers #[47, 59]] #[] 1537 66 #[] #[])
  fields := #[]
  methods := #[]
  instanceTypes := #[]
  staticTypes := #[]
  resolved := Array.replicate 131 none
  statics := none }

def pool5 : Array CpInfo := pool [(1, .class_ 2), (0, u "java/lang/constant/Constable"), (0, .class_ 4), (0, u "java/lang/Object")] 6

/-- java/lang/constant/Constable -/
def k5 : Class := { plain "java/lang/constant/Constable" (some 0) with
  accessFlags := 1537
  interfaces := #[]
  cf := some (fileOf pool5 1 #[] #[] 1537 3 #[] #[])
  fields := #[]
  methods := #[]
  instanceTypes := #[]
  staticTypes := #[]
  resolved := Array.replicate 11 none
  statics := none }

def pool6 : Array CpInfo := pool [(1, .class_ 2), (0, u "java/lang/constant/ConstantDesc"), (0, .class_ 4), (0, u "java/lang/Object")] 32

/-- java/lang/constant/ConstantDesc -/
def k6 : Class := { plain "java/lang/constant/ConstantDesc" (some 0) with
  accessFlags := 1537
  interfaces := #[]
  cf := some (fileOf pool6 1 #[] #[] 1537 3 #[] #[])
  fields := #[]
  methods := #[]
  instanceTypes := #[]
  staticTypes := #[]
  resolved := Array.replicate 37 none
  statics := none }

def pool7 : Array CpInfo := pool [(1, .methodref 2 3), (0, .class_ 4), (0, .nameAndType 5 6), (0, u "java/lang/Object"), (0, u "<init>"), (0, u "()V"), (2, .fieldref 10 11), (0, .class_ 12), (0, .nameAndType 13 14), (0, u "java/lang/String"), (0, u "value"), (0, u "[B"), (0, .fieldref 10 16), (0, .nameAndType 17 18), (0, u "coder"), (0, u "B"), (2, u "hash"), (0, u "I"), (2, u "hashIsZero"), (0, u "Z"), (11, .fieldref 10 39), (0, .nameAndType 40 26), (0, u "COMPACT_STRINGS"), (12, u "toBytes"), (53, .class_ 109), (1, u "java/lang/StringLatin1"), (99, .methodref 10 210), (0, .nameAndType 5 211), (0, u "([BB)V"), (157, u "(C)Z"), (205, .class_ 576), (0, u "java/lang/CharSequence"), (22, u "CASE_INSENSITIVE_ORDER"), (0, u "Ljava/util/Comparator;"), (181, u "valueOf"), (0, u "(C)Ljava/lang/String;"), (231, .methodref 107 1016), (0, .nameAndType 1017 369), (0, u "canEncode"), (0, .methodref 107 1019), (0, .nameAndType 53 1020), (0, u "(C)[B"), (80, u "serialPersistentFields"), (0, u "[Ljava/io/ObjectStreamField;"), (0, .class_ 1104), (0, u "java/lang/String$CaseInsensitiveComparator"), (1, .class_ 1107), (0, u "java/io/Serializable"), (0, .class_ 1109), (0, u "java/lang/Comparable"), (0, .class_ 1111), (0, u "java/lang/constant/Constable"), (0, .class_ 1113), (0, u "java/lang/constant/ConstantDesc"), (2, u "serialVersionUID"), (0, u "J"), (3, u "REPL"), (0, u "C"), (2, u "LATIN1"), (1, u "UTF16")] 323

def k7m0 : Method := { name := "<init>", desc := "()V", sig := { parameters := [], returnType := none }, accessFlags := 1, code := none }
def k7c1 : Code := { maxStack := 4, maxLocals := 1, code := jdk_42_method_139_code, exceptionTable := #[], attributes := #[] }
def k7m1 : Method := { name := "valueOf", desc := "(C)Ljava/lang/String;", sig := { parameters := [.char], returnType := some (.object "java/lang/String") }, accessFlags := 9, code := some k7c1 }
def k7c2 : Code := { maxStack := 2, maxLocals := 3, code := jdk_42_method_151_code, exceptionTable := #[], attributes := #[] }
def k7m2 : Method := { name := "<init>", desc := "([BB)V", sig := { parameters := [(.array .byte), .byte], returnType := none }, accessFlags := 0, code := some k7c2 }
/-- java/lang/String -/
def k7 : Class := { plain "java/lang/String" (some 0) with
  accessFlags := 49
  interfaces := #[2, 3, 4, 5, 6]
  cf := some (fileOf pool7 10 #[.nestMembers #[1103]] #[{ accessFlags := 1, nameIndex := 5, descriptorIndex := 6, attributes := #[] }, { accessFlags := 9, nameIndex := 782, descriptorIndex := 783, attributes := #[] }, { accessFlags := 0, nameIndex := 5, descriptorIndex := 211, attributes := #[] }] 49 2 #[1106, 1108, 575, 1110, 1112] #[{ accessFlags := 18, nameIndex := 13, descriptorIndex := 14, attributes := #[] }, { accessFlags := 18, nameIndex := 17, descriptorIndex := 18, attributes := #[] }, { accessFlags := 2, nameIndex := 21, descriptorIndex := 22, attributes := #[] }, { accessFlags := 2, nameIndex := 25, descriptorIndex := 26, attributes := #[] }, { accessFlags := 26, nameIndex := 1116, descriptorIndex := 1117, attributes := #[] }, { accessFlags := 24, nameIndex := 40, descriptorIndex := 26, attributes := #[] }, { accessFlags := 26, nameIndex := 1101, descriptorIndex := 1102, attributes := #[] }, { accessFlags := 26, nameIndex := 1121, descriptorIndex := 1122, attributes := #[] }, { accessFlags := 25, nameIndex := 599, descriptorIndex := 600, attributes := #[] }, { accessFlags := 24, nameIndex := 1125, descriptorIndex := 18, attributes := #[] }, { accessFlags := 24, nameIndex := 1127, descriptorIndex := 18, attributes := #[] }])
  fields := #[{ name := "value", type := (.array .byte), accessFlags := 18, slot := 0, constantValue := 0 }, { name := "coder", type := .byte, accessFlags := 18, slot := 1, constantValue := 0 }, { name := "hash", type := .int, accessFlags := 2, slot := 2, constantValue := 0 }, { name := "hashIsZero", type := .boolean, accessFlags := 2, slot := 3, constantValue := 0 }, { name := "serialVersionUID", type := .long, accessFlags := 26, slot := 0, constantValue := 0 }, { name := "COMPACT_STRINGS", type := .boolean, accessFlags := 24, slot := 1, constantValue := 0 }, { name := "serialPersistentFields", type := (.array (.object "java/io/ObjectStreamField")), accessFlags := 26, slot := 2, constantValue := 0 }, { name := "REPL", type := .char, accessFlags := 26, slot := 3, constantValue := 0 }, { name := "CASE_INSENSITIVE_ORDER", type := (.object "java/util/Comparator"), accessFlags := 25, slot := 4, constantValue := 0 }, { name := "LATIN1", type := .byte, accessFlags := 24, slot := 5, constantValue := 0 }, { name := "UTF16", type := .byte, accessFlags := 24, slot := 6, constantValue := 0 }]
  methods := #[k7m0, k7m1, k7m2]
  instanceTypes := #[(.array .byte), .byte, .int, .boolean]
  staticTypes := #[.long, .boolean, (.array (.object "java/io/ObjectStreamField")), .char, (.object "java/util/Comparator"), .byte, .byte]
  resolved := Array.replicate 1451 none
  statics := some 0 }

def pool8 : Array CpInfo := pool [(4, .class_ 6), (1, u "java/lang/Object"), (0, u "<init>"), (0, u "()V"), (5, .class_ 16), (1, u "java/lang/StringLatin1"), (73, u "canEncode"), (14, u "(C)Z"), (15, u "$assertionsDisabled"), (0, u "Z"), (98, .class_ 223), (1, u "java/lang/StringLatin1$LinesSpliterator"), (156, u "toBytes"), (1, u "(C)[B"), (7, .class_ 391), (0, u "java/lang/StringLatin1$CharsSpliterator")] 3

def k8m0 : Method := { name := "<init>", desc := "()V", sig := { parameters := [], returnType := none }, accessFlags := 0, code := none }
def k8c1 : Code := { maxStack := 2, maxLocals := 1, code := jdk_43_method_3_code, exceptionTable := #[], attributes := #[] }
def k8m1 : Method := { name := "canEncode", desc := "(C)Z", sig := { parameters := [.char], returnType := some .boolean }, accessFlags := 9, code := some k8c1 }
def k8c2 : Code := { maxStack := 4, maxLocals := 1, code := jdk_43_method_46_code, exceptionTable := #[], attributes := #[] }
def k8m2 : Method := { name := "toBytes", desc := "(C)[B", sig := { parameters := [.char], returnType := some (.array .byte) }, accessFlags := 9, code := some k8c2 }
/-- java/lang/StringLatin1 -/
def k8 : Class := { plain "java/lang/StringLatin1" (some 0) with
  accessFlags := 48
  interfaces := #[]
  cf := some (fileOf pool8 14 #[.nestMembers #[390, 221]] #[{ accessFlags := 0, nameIndex := 7, descriptorIndex := 8, attributes := #[] }, { accessFlags := 9, nameIndex := 90, descriptorIndex := 105, attributes := #[] }, { accessFlags := 9, nameIndex := 380, descriptorIndex := 382, attributes := #[] }] 48 4 #[] #[{ accessFlags := 4120, nameIndex := 121, descriptorIndex := 122, attributes := #[] }])
  fields := #[{ name := "$assertionsDisabled", type := .boolean, accessFlags := 4120, slot := 0, constantValue := 0 }]
  methods := #[k8m0, k8m1, k8m2]
  instanceTypes := #[]
  staticTypes := #[.boolean]
  resolved := Array.replicate 395 none
  statics := none }

def pool9 : Array CpInfo := pool [(1, .methodref 2 3), (0, .class_ 4), (0, .nameAndType 5 6), (0, u "java/lang/Object"), (0, u "<init>"), (0, u "()V"), (9, .fieldref 17 18), (0, .class_ 19), (0, .nameAndType 20 21), (0, u "com/example/zemlja/zemlja/record/Field"), (0, u "tag"), (0, u "Ljava/lang/String;"), (0, .fieldref 17 23), (0, .nameAndType 24 25), (0, u "bytes"), (0, u "[B"), (0, .fieldref 17 27), (0, .nameAndType 28 29), (0, u "offset"), (0, u "I"), (0, .fieldref 17 31), (0, .nameAndType 32 29), (0, u "length"), (0, .fieldref 17 34), (0, .nameAndType 35 29), (0, u "indicatorCount"), (22, u "()I"), (88, u "(Ljava/lang/String;[BIII)V"), (23, u "SUBFIELD_DELIMITER"), (0, u "B"), (2, u "REPLACEMENT_CHARACTER"), (0, u "C"), (0, u "ASCII_HIGHEST"), (16, u "contentHash")] 19

def k9c0 : Code := { maxStack := 6, maxLocals := 6, code := prog_55_method_1_code, exceptionTable := #[], attributes := #[] }
def k9m0 : Method := { name := "<init>", desc := "(Ljava/lang/String;[BIII)V", sig := { parameters := [(.object "java/lang/String"), (.array .byte), .int, .int, .int], returnType := none }, accessFlags := 1, code := some k9c0 }
def k9c1 : Code := { maxStack := 3, maxLocals := 3, code := prog_55_method_10_code, exceptionTable := #[], attributes := #[] }
def k9m1 : Method := { name := "contentHash", desc := "()I", sig := { parameters := [], returnType := some .int }, accessFlags := 1, code := some k9c1 }
/-- com/example/zemlja/zemlja/record/Field -/
def k9 : Class := { plain "com/example/zemlja/zemlja/record/Field" (some 0) with
  accessFlags := 49
  interfaces := #[]
  cf := some (fileOf pool9 17 #[] #[{ accessFlags := 1, nameIndex := 5, descriptorIndex := 147, attributes := #[] }, { accessFlags := 1, nameIndex := 194, descriptorIndex := 58, attributes := #[] }] 49 2 #[] #[{ accessFlags := 25, nameIndex := 171, descriptorIndex := 172, attributes := #[] }, { accessFlags := 26, nameIndex := 175, descriptorIndex := 176, attributes := #[] }, { accessFlags := 26, nameIndex := 177, descriptorIndex := 176, attributes := #[] }, { accessFlags := 18, nameIndex := 20, descriptorIndex := 21, attributes := #[] }, { accessFlags := 18, nameIndex := 24, descriptorIndex := 25, attributes := #[] }, { accessFlags := 18, nameIndex := 28, descriptorIndex := 29, attributes := #[] }, { accessFlags := 18, nameIndex := 32, descriptorIndex := 29, attributes := #[] }, { accessFlags := 18, nameIndex := 35, descriptorIndex := 29, attributes := #[] }])
  fields := #[{ name := "SUBFIELD_DELIMITER", type := .byte, accessFlags := 25, slot := 0, constantValue := 0 }, { name := "REPLACEMENT_CHARACTER", type := .char, accessFlags := 26, slot := 1, constantValue := 0 }, { name := "ASCII_HIGHEST", type := .char, accessFlags := 26, slot := 2, constantValue := 0 }, { name := "tag", type := (.object "java/lang/String"), accessFlags := 18, slot := 0, constantValue := 0 }, { name := "bytes", type := (.array .byte), accessFlags := 18, slot := 1, constantValue := 0 }, { name := "offset", type := .int, accessFlags := 18, slot := 2, constantValue := 0 }, { name := "length", type := .int, accessFlags := 18, slot := 3, constantValue := 0 }, { name := "indicatorCount", type := .int, accessFlags := 18, slot := 4, constantValue := 0 }]
  methods := #[k9m0, k9m1]
  instanceTypes := #[(.object "java/lang/String"), (.array .byte), .int, .int, .int]
  staticTypes := #[.byte, .char, .char]
  resolved := Array.replicate 214 none
  statics := none }

def pool10 : Array CpInfo := pool [(2, .class_ 4), (1, u "java/lang/Object"), (0, u "<init>"), (0, u "()V"), (17, .class_ 26), (1, u "jdk/internal/util/Preconditions"), (28, .class_ 56), (0, u "jdk/internal/util/Preconditions$4"), (57, .class_ 115), (0, u "jdk/internal/util/Preconditions$1"), (7, u "SIOOBE_FORMATTER"), (0, u "Ljava/util/function/BiFunction;"), (0, .class_ 126), (0, u "jdk/internal/util/Preconditions$2"), (3, u "AIOOBE_FORMATTER"), (0, .class_ 132), (0, u "jdk/internal/util/Preconditions$3"), (3, u "IOOBE_FORMATTER")] 57

def k10m0 : Method := { name := "<init>", desc := "()V", sig := { parameters := [], returnType := none }, accessFlags := 1, code := none }
/-- jdk/internal/util/Preconditions -/
def k10 : Class := { plain "jdk/internal/util/Preconditions" (some 0) with
  accessFlags := 33
  interfaces := #[]
  cf := some (fileOf pool10 24 #[.nestMembers #[55, 131, 125, 114]] #[{ accessFlags := 1, nameIndex := 5, descriptorIndex := 6, attributes := #[] }] 33 2 #[] #[{ accessFlags := 25, nameIndex := 123, descriptorIndex := 124, attributes := #[] }, { accessFlags := 25, nameIndex := 130, descriptorIndex := 124, attributes := #[] }, { accessFlags := 25, nameIndex := 136, descriptorIndex := 124, attributes := #[] }])
  fields := #[{ name := "SIOOBE_FORMATTER", type := (.object "java/util/function/BiFunction"), accessFlags := 25, slot := 0, constantValue := 0 }, { name := "AIOOBE_FORMATTER", type := (.object "java/util/function/BiFunction"), accessFlags := 25, slot := 1, constantValue := 0 }, { name := "IOOBE_FORMATTER", type := (.object "java/util/function/BiFunction"), accessFlags := 25, slot := 2, constantValue := 0 }]
  methods := #[k10m0]
  instanceTypes := #[]
  staticTypes := #[(.object "java/util/function/BiFunction"), (.object "java/util/function/BiFunction"), (.object "java/util/function/BiFunction")]
  resolved := Array.replicate 194 none
  statics := some 1 }

def pool11 : Array CpInfo := pool [(9, u "<init>"), (6, .class_ 18), (1, u "java/lang/Object"), (0, u "()V"), (1, .class_ 23), (1, u "jdk/internal/util/ArraysSupport"), (0, u "LOG2_ARRAY_LONG_INDEX_SCALE"), (0, u "I"), (2, u "U"), (0, u "Ljdk/internal/misc/Unsafe;"), (8, u "BIG_ENDIAN"), (0, u "Z"), (8, u "LOG2_BYTE_BIT_SIZE"), (4, u "LOG2_ARRAY_INT_INDEX_SCALE"), (54, u "JLA"), (0, u "Ljdk/internal/access/JavaLangAccess;"), (11, u "LOG2_ARRAY_BOOLEAN_INDEX_SCALE"), (9, u "LOG2_ARRAY_BYTE_INDEX_SCALE"), (5, u "LOG2_ARRAY_CHAR_INDEX_SCALE"), (5, u "LOG2_ARRAY_SHORT_INDEX_SCALE"), (18, u "LOG2_ARRAY_FLOAT_INDEX_SCALE"), (24, u "LOG2_ARRAY_DOUBLE_INDEX_SCALE"), (89, u "T_BOOLEAN"), (2, u "T_CHAR"), (1, u "T_FLOAT"), (1, u "T_DOUBLE"), (1, u "T_BYTE"), (1, u "T_SHORT"), (1, u "T_INT"), (1, u "T_LONG"), (1, u "SOFT_MAX_ARRAY_LENGTH")] 83

def k11m0 : Method := { name := "<init>", desc := "()V", sig := { parameters := [], returnType := none }, accessFlags := 2, code := none }
/-- jdk/internal/util/ArraysSupport -/
def k11 : Class := { plain "jdk/internal/util/ArraysSupport" (some 0) with
  accessFlags := 33
  interfaces := #[]
  cf := some (fileOf pool11 21 #[] #[{ accessFlags := 2, nameIndex := 9, descriptorIndex := 19, attributes := #[] }] 33 16 #[] #[{ accessFlags := 24, nameIndex := 28, descriptorIndex := 29, attributes := #[] }, { accessFlags := 26, nameIndex := 38, descriptorIndex := 39, attributes := #[] }, { accessFlags := 25, nameIndex := 121, descriptorIndex := 25, attributes := #[] }, { accessFlags := 25, nameIndex := 131, descriptorIndex := 25, attributes := #[] }, { accessFlags := 25, nameIndex := 137, descriptorIndex := 25, attributes := #[] }, { accessFlags := 25, nameIndex := 143, descriptorIndex := 25, attributes := #[] }, { accessFlags := 25, nameIndex := 53, descriptorIndex := 25, attributes := #[] }, { accessFlags := 25, nameIndex := 24, descriptorIndex := 25, attributes := #[] }, { accessFlags := 25, nameIndex := 162, descriptorIndex := 25, attributes := #[] }, { accessFlags := 25, nameIndex := 187, descriptorIndex := 25, attributes := #[] }, { accessFlags := 26, nameIndex := 48, descriptorIndex := 25, attributes := #[] }, { accessFlags := 25, nameIndex := 277, descriptorIndex := 25, attributes := #[] }, { accessFlags := 25, nameIndex := 280, descriptorIndex := 25, attributes := #[] }, { accessFlags := 25, nameIndex := 282, descriptorIndex := 25, attributes := #[] }, { accessFlags := 25, nameIndex := 284, descriptorIndex := 25, attributes := #[] }, { accessFlags := 25, nameIndex := 286, descriptorIndex := 25, attributes := #[] }, { accessFlags := 25, nameIndex := 288, descriptorIndex := 25, attributes := #[] }, { accessFlags := 25, nameIndex := 290, descriptorIndex := 25, attributes := #[] }, { accessFlags := 25, nameIndex := 292, descriptorIndex := 25, attributes := #[] }, { accessFlags := 26, nameIndex := 108, descriptorIndex := 109, attributes := #[] }, { accessFlags := 25, nameIndex := 294, descriptorIndex := 25, attributes := #[] }])
  fields := #[{ name := "U", type := (.object "jdk/internal/misc/Unsafe"), accessFlags := 24, slot := 0, constantValue := 0 }, { name := "BIG_ENDIAN", type := .boolean, accessFlags := 26, slot := 1, constantValue := 0 }, { name := "LOG2_ARRAY_BOOLEAN_INDEX_SCALE", type := .int, accessFlags := 25, slot := 2, constantValue := 0 }, { name := "LOG2_ARRAY_BYTE_INDEX_SCALE", type := .int, accessFlags := 25, slot := 3, constantValue := 0 }, { name := "LOG2_ARRAY_CHAR_INDEX_SCALE", type := .int, accessFlags := 25, slot := 4, constantValue := 0 }, { name := "LOG2_ARRAY_SHORT_INDEX_SCALE", type := .int, accessFlags := 25, slot := 5, constantValue := 0 }, { name := "LOG2_ARRAY_INT_INDEX_SCALE", type := .int, accessFlags := 25, slot := 6, constantValue := 0 }, { name := "LOG2_ARRAY_LONG_INDEX_SCALE", type := .int, accessFlags := 25, slot := 7, constantValue := 0 }, { name := "LOG2_ARRAY_FLOAT_INDEX_SCALE", type := .int, accessFlags := 25, slot := 8, constantValue := 0 }, { name := "LOG2_ARRAY_DOUBLE_INDEX_SCALE", type := .int, accessFlags := 25, slot := 9, constantValue := 0 }, { name := "LOG2_BYTE_BIT_SIZE", type := .int, accessFlags := 26, slot := 10, constantValue := 0 }, { name := "T_BOOLEAN", type := .int, accessFlags := 25, slot := 11, constantValue := 0 }, { name := "T_CHAR", type := .int, accessFlags := 25, slot := 12, constantValue := 0 }, { name := "T_FLOAT", type := .int, accessFlags := 25, slot := 13, constantValue := 0 }, { name := "T_DOUBLE", type := .int, accessFlags := 25, slot := 14, constantValue := 0 }, { name := "T_BYTE", type := .int, accessFlags := 25, slot := 15, constantValue := 0 }, { name := "T_SHORT", type := .int, accessFlags := 25, slot := 16, constantValue := 0 }, { name := "T_INT", type := .int, accessFlags := 25, slot := 17, constantValue := 0 }, { name := "T_LONG", type := .int, accessFlags := 25, slot := 18, constantValue := 0 }, { name := "JLA", type := (.object "jdk/internal/access/JavaLangAccess"), accessFlags := 26, slot := 19, constantValue := 0 }, { name := "SOFT_MAX_ARRAY_LENGTH", type := .int, accessFlags := 25, slot := 20, constantValue := 0 }]
  methods := #[k11m0]
  instanceTypes := #[]
  staticTypes := #[(.object "jdk/internal/misc/Unsafe"), .boolean, .int, .int, .int, .int, .int, .int, .int, .int, .int, .int, .int, .int, .int, .int, .int, .int, .int, (.object "jdk/internal/access/JavaLangAccess"), .int]
  resolved := Array.replicate 378 none
  statics := none }

def pool12 : Array CpInfo := pool [(1, u "java/lang/Cloneable"), (0, .class_ 1), (0, u "java/lang/Object"), (0, .class_ 3)] 3

/-- java/lang/Cloneable -/
def k12 : Class := { plain "java/lang/Cloneable" (some 0) with
  accessFlags := 1537
  interfaces := #[]
  cf := some (fileOf pool12 2 #[] #[] 1537 4 #[] #[])
  fields := #[]
  methods := #[]
  instanceTypes := #[]
  staticTypes := #[]
  resolved := Array.replicate 8 none
  statics := none }

/-- the primitive byte -/
def k13 : Class := { plain "byte" none with kind := .primitive 'B', accessFlags := 0x411 }
/-- [B -/
def k14 : Class := { plain "[B" (some 0) with kind := .array 13 .byte, interfaces := #[12, 2], accessFlags := 1041 }

/-- the primitive int -/
def k15 : Class := { plain "int" none with kind := .primitive 'I', accessFlags := 0x411 }
/-- [I -/
def k16 : Class := { plain "[I" (some 0) with kind := .array 15 .int, interfaces := #[12, 2], accessFlags := 1041 }

def heap : Heap := #[{ cls := 7, slots := #[.long 0, .int 1, .null, .int 0, .null, .int 0, .int 0], vm := .statics 7 },
  { cls := 10, slots := #[.null, .null, .null], vm := .statics 10 }]
def classes : Array Class := #[k0, k1, k2, k3, k4, k5, k6, k7, k8, k9, k10, k11, k12, k13, k14, k15, k16]
def interned : List (Array UInt16 × Addr) := []
def slotsUsed : Nat := 10
def theMethod : MethodId := ⟨1, 3⟩
def args0 : Array Value := #[.long 5, .int 7, .int 9]
def aboutOver (below : List Frame) : State where
  vm := { classes := classes, interned := interned.toArray }
  heap := heap
  slotsUsed := slotsUsed
  threads := #[{ frames := .invoking theMethod args0 :: below }]
def below0 : List Frame := [.native { method := ⟨0, 0⟩, args := #[] }]
def about1 : State := aboutOver below0
def p0 : Program := .bare "" "" ""
def e0 : Env := launch0.env 0 0 0
theorem w_frames : about1.frames = Frame.invoking theMethod args0 :: below0 := rfl
set_option maxRecDepth 65536 in
theorem w_args : argsFit about1.vm theMethod args0 = true := by decide +kernel
set_option maxRecDepth 65536 in
theorem w_heap : heapFits about1 = true := by decide +kernel
set_option maxRecDepth 65536 in
theorem w_runnable : about1.curStatus? = some .runnable := by decide +kernel
set_option maxRecDepth 65536 in
theorem w_alone : about1.alone = true := by decide +kernel
set_option maxRecDepth 65536 in
theorem w_named : about1.methodNamed? x = some theMethod := by decide +kernel
set_option maxRecDepth 65536 in
theorem w_hears : about1.hears theMethod below0 = true := by decide +kernel
set_option maxRecDepth 65536 in
theorem w_ripe : about1.ripe theMethod args0 below0 = true := by decide +kernel
theorem w_running : about1.status = .running := rfl
set_option maxRecDepth 65536 in
theorem w_room : about1.hasRoom e0.platform room_1 = true :=
  launch0.hasRoom_least _ room_1 (by decide +kernel) (by decide +kernel) (by decide +kernel) (by decide +kernel) (by decide +kernel) (by decide +kernel)
theorem allAtoms_all (ts : List Jvm.Cond) (a : Array Jvm.Value) (st : Jvm.State) : (allAtoms ts).before a st = ts.all (fun c => c.before a st) := by
  induction ts with
  | nil => rfl
  | cons c t ih =>
    show (Jvm.Cond.and c (allAtoms t)).before a st = _
    rw [Jvm.Cond.before_and, ih, List.all_cons]
def words1 : List Jvm.Cond := Jvm.Cond.code x code maxLocals ret :: tables_1
/-- a 'code' word, met by the world's own term for the bytes: nothing is compared byte by byte -/
theorem code_word {y : MethodName} {bytes : ByteArray} {mx : Nat} {rt : Option FieldType} {a : Array Value} {s : State} {m : MethodId} {meth : Method} {c : Code} (h1 : s.methodNamed? y = some m) (h2 : s.vm.method? m = some meth) (h3 : meth.code = some c) (h4 : c.code = bytes)
    (h5 : (c.maxLocals == mx && c.exceptionTable.isEmpty && decide (c.maxStack ≤ mostOperands) && decide (meth.sig.returnType = rt) && !meth.locks && decide (parseMethodDescriptor y.desc = some meth.sig)) = true) : (Jvm.Cond.code y bytes mx rt).before a s = true := by
  simp only [Bool.and_eq_true, beq_iff_eq, Bool.not_eq_true', decide_eq_true_eq] at h5
  obtain ⟨⟨⟨⟨⟨g1, g2⟩, g3⟩, g4⟩, g5⟩, g6⟩ := h5
  simp [Cond.before, Cond.holds, Cond.value, h1, h2, h3, h4, g1, g2, g3, g4, g5, g6]
def isCode : Jvm.Cond → Bool
  | .code _ _ _ _ => true
  | _ => false
theorem all_split {L : List Jvm.Cond} {P : Jvm.Cond → Bool} (h1 : L.all (fun c => isCode c || P c) = true) (h2 : ∀ c ∈ L.filter isCode, P c = true) : L.all P = true := by
  refine List.all_eq_true.mpr fun c hc => ?_
  have h := List.all_eq_true.mp h1 c hc
  rcases Bool.eq_false_or_eq_true (isCode c) with hi | hi
  · exact h2 c (List.mem_filter.mpr ⟨hc, hi⟩)
  · simpa [hi] using h
set_option maxRecDepth 65536 in
theorem w_c0 : (Jvm.Cond.code x code maxLocals ret).before args0 about1 = true := code_word (m := ⟨1, 3⟩) (meth := k1m3) (c := k1c3) (by decide +kernel) rfl rfl rfl (by decide +kernel)
set_option maxRecDepth 65536 in
theorem w_c1 : (Jvm.Cond.code ({ cls := "java/lang/String", name := "valueOf", desc := "(C)Ljava/lang/String;" } : Jvm.MethodName) jdk_42_method_139_code (1 : Nat) (Option.some (Jvm.ClassFile.FieldType.object "java/lang/String"))).before args0 about1 = true := code_word (m := ⟨7, 1⟩) (meth := k7m1) (c := k7c1) (by decide +kernel) rfl rfl rfl (by decide +kernel)
set_option maxRecDepth 65536 in
theorem w_c2 : (Jvm.Cond.code ({ cls := "java/lang/StringLatin1", name := "canEncode", desc := "(C)Z" } : Jvm.MethodName) jdk_43_method_3_code (1 : Nat) (Option.some Jvm.ClassFile.FieldType.boolean)).before args0 about1 = true := code_word (m := ⟨8, 1⟩) (meth := k8m1) (c := k8c1) (by decide +kernel) rfl rfl rfl (by decide +kernel)
set_option maxRecDepth 65536 in
theorem w_c3 : (Jvm.Cond.code ({ cls := "java/lang/StringLatin1", name := "toBytes", desc := "(C)[B" } : Jvm.MethodName) jdk_43_method_46_code (1 : Nat) (Option.some (Jvm.ClassFile.FieldType.array Jvm.ClassFile.FieldType.byte))).before args0 about1 = true := code_word (m := ⟨8, 2⟩) (meth := k8m2) (c := k8c2) (by decide +kernel) rfl rfl rfl (by decide +kernel)
set_option maxRecDepth 65536 in
theorem w_c4 : (Jvm.Cond.code ({ cls := "java/lang/String", name := "<init>", desc := "([BB)V" } : Jvm.MethodName) jdk_42_method_151_code (3 : Nat) (Option.none : Option Jvm.ClassFile.FieldType)).before args0 about1 = true := code_word (m := ⟨7, 2⟩) (meth := k7m2) (c := k7c2) (by decide +kernel) rfl rfl rfl (by decide +kernel)
set_option maxRecDepth 65536 in
theorem w_c5 : (Jvm.Cond.code ({ cls := "java/lang/Object", name := "<init>", desc := "()V" } : Jvm.MethodName) object_method_1_code (1 : Nat) (Option.none : Option Jvm.ClassFile.FieldType)).before args0 about1 = true := code_word (m := ⟨0, 0⟩) (meth := k0m0) (c := k0c0) (by decide +kernel) rfl rfl rfl (by decide +kernel)
set_option maxRecDepth 65536 in
theorem w_c6 : (Jvm.Cond.code ({ cls := "com/example/zemlja/zemlja/record/Field", name := "<init>", desc := "(Ljava/lang/String;[BIII)V" } : Jvm.MethodName) prog_55_method_1_code (6 : Nat) (Option.none : Option Jvm.ClassFile.FieldType)).before args0 about1 = true := code_word (m := ⟨9, 0⟩) (meth := k9m0) (c := k9c0) (by decide +kernel) rfl rfl rfl (by decide +kernel)
set_option maxRecDepth 65536 in
theorem w_c7 : (Jvm.Cond.code ({ cls := "com/example/zemlja/zemlja/record/FieldContentHashPinLaw", name := "term", desc := "([BIII)I" } : Jvm.MethodName) method_3_code (4 : Nat) (Option.some Jvm.ClassFile.FieldType.int)).before args0 about1 = true := code_word (m := ⟨1, 2⟩) (meth := k1m2) (c := k1c2) (by decide +kernel) rfl rfl rfl (by decide +kernel)
set_option maxRecDepth 65536 in
theorem w_c8 : (Jvm.Cond.code ({ cls := "com/example/zemlja/zemlja/record/Field", name := "contentHash", desc := "()I" } : Jvm.MethodName) prog_55_method_10_code (3 : Nat) (Option.some Jvm.ClassFile.FieldType.int)).before args0 about1 = true := code_word (m := ⟨9, 1⟩) (meth := k9m1) (c := k9c1) (by decide +kernel) rfl rfl rfl (by decide +kernel)
set_option maxRecDepth 65536 in
theorem w_c9 : (Jvm.Cond.code ({ cls := "com/example/zemlja/zemlja/record/FieldContentHashPinLaw", name := "pow31", desc := "(I)I" } : Jvm.MethodName) method_2_code (1 : Nat) (Option.some Jvm.ClassFile.FieldType.int)).before args0 about1 = true := code_word (m := ⟨1, 1⟩) (meth := k1m1) (c := k1c1) (by decide +kernel) rfl rfl rfl (by decide +kernel)
def codes1 : List Jvm.Cond := [Jvm.Cond.code x code maxLocals ret, Jvm.Cond.code ({ cls := "java/lang/String", name := "valueOf", desc := "(C)Ljava/lang/String;" } : Jvm.MethodName) jdk_42_method_139_code (1 : Nat) (Option.some (Jvm.ClassFile.FieldType.object "java/lang/String")), Jvm.Cond.code ({ cls := "java/lang/StringLatin1", name := "canEncode", desc := "(C)Z" } : Jvm.MethodName) jdk_43_method_3_code (1 : Nat) (Option.some Jvm.ClassFile.FieldType.boolean), Jvm.Cond.code ({ cls := "java/lang/StringLatin1", name := "toBytes", desc := "(C)[B" } : Jvm.MethodName) jdk_43_method_46_code (1 : Nat) (Option.some (Jvm.ClassFile.FieldType.array Jvm.ClassFile.FieldType.byte)), Jvm.Cond.code ({ cls := "java/lang/String", name := "<init>", desc := "([BB)V" } : Jvm.MethodName) jdk_42_method_151_code (3 : Nat) (Option.none : Option Jvm.ClassFile.FieldType), Jvm.Cond.code ({ cls := "java/lang/Object", name := "<init>", desc := "()V" } : Jvm.MethodName) object_method_1_code (1 : Nat) (Option.none : Option Jvm.ClassFile.FieldType), Jvm.Cond.code ({ cls := "com/example/zemlja/zemlja/record/Field", name := "<init>", desc := "(Ljava/lang/String;[BIII)V" } : Jvm.MethodName) prog_55_method_1_code (6 : Nat) (Option.none : Option Jvm.ClassFile.FieldType), Jvm.Cond.code ({ cls := "com/example/zemlja/zemlja/record/FieldContentHashPinLaw", name := "term", desc := "([BIII)I" } : Jvm.MethodName) method_3_code (4 : Nat) (Option.some Jvm.ClassFile.FieldType.int), Jvm.Cond.code ({ cls := "com/example/zemlja/zemlja/record/Field", name := "contentHash", desc := "()I" } : Jvm.MethodName) prog_55_method_10_code (3 : Nat) (Option.some Jvm.ClassFile.FieldType.int), Jvm.Cond.code ({ cls := "com/example/zemlja/zemlja/record/FieldContentHashPinLaw", name := "pow31", desc := "(I)I" } : Jvm.MethodName) method_2_code (1 : Nat) (Option.some Jvm.ClassFile.FieldType.int)]
set_option maxRecDepth 65536 in
theorem codes_eq : words1.filter isCode = codes1 := rfl
theorem w_codes : ∀ c ∈ words1.filter isCode, c.before args0 about1 = true := by
  rw [codes_eq]
  intro c hc
  simp only [codes1, List.mem_cons, List.not_mem_nil, or_false] at hc
  rcases hc with rfl | rfl | rfl | rfl | rfl | rfl | rfl | rfl | rfl | rfl
  · exact w_c0
  · exact w_c1
  · exact w_c2
  · exact w_c3
  · exact w_c4
  · exact w_c5
  · exact w_c6
  · exact w_c7
  · exact w_c8
  · exact w_c9
set_option maxRecDepth 65536 in
theorem w_t1 : (words1.take 24).all (fun c => isCode c || c.before args0 about1) = true := by decide +kernel
set_option maxRecDepth 65536 in
theorem w_t2 : ((words1.drop 24).take 24).all (fun c => isCode c || c.before args0 about1) = true := by decide +kernel
set_option maxRecDepth 65536 in
theorem w_t3 : ((words1.drop 24).drop 24).all (fun c => isCode c || c.before args0 about1) = true := by decide +kernel
theorem w_tables : (allAtoms (Jvm.Cond.code x code maxLocals ret :: tables_1)).before args0 about1 = true := by
  rw [allAtoms_all]
  show words1.all (fun c => c.before args0 about1) = true
  refine all_split ?_ w_codes
  rw [← List.take_append_drop 24 words1, List.all_append, w_t1, ← List.take_append_drop 24 (words1.drop 24), List.all_append, w_t2, w_t3]
  rfl
set_option maxRecDepth 65536 in
theorem w_rest : rest_1_c.before args0 about1 = true := by decide +kernel
set_option maxRecDepth 65536 in
theorem w_case : (Jvm.Cond.and given_1 narrow_1).before args0 about1 = true := by decide +kernel
theorem w_applies : (headSpec (Jvm.Cond.code x code maxLocals ret :: tables_1) room_1).applies x e0.platform about1 = true :=
  (Spec.applies_iff w_frames).mpr ⟨w_running, w_runnable, w_alone, w_named, w_hears, w_ripe, w_room, w_tables⟩
theorem atStart : AtStart classFile x code maxLocals ret World_1 tables_1 room_1 Calls_1 rest_1 Pre_1 launch0 p0 e0 about1 theMethod args0 below0 :=
  ⟨lists_1, trivial, launch0.admits_env _ _ _, launch0.least_env, fairChoices_fair.cas, fairChoices_fair.clock, w_frames, w_args, w_heap, w_applies, trivial, w_rest, w_case⟩
end start1
theorem witness_1 : WitnessClaimed_1 := ⟨start1.p0, start1.e0, start1.about1, start1.theMethod, start1.args0, start1.below0, start1.atStart⟩
end Jvm.Pilot.@@N@@
