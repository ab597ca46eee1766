import JvmDerived
import JvmDerived.Pilot.@@N@@Statement
import JvmDerived.Pilot.@@N@@Code
set_option linter.unusedVariables false
set_option linter.unusedSimpArgs false
namespace Jvm.Pilot.@@N@@
open Jvm Jvm.ClassFile Sem Op Lib Jvm.Free Jvm.Stand Jvm.LawKit Jvm.RoadKit Bundle Jvm.Pilot.@@N@@.Jvm.D
def own_usr (x y : Int32) : Int32 := (x.toUInt32 >>> (y &&& 31).toUInt32).toInt32
def own_usrL (x : Int64) (y : Int32) : Int64 := (x.toUInt64 >>> (y &&& 0x3f).toInt64.toUInt64).toInt64
/-- where the run came from, where it stands -/
def Go (p : Program) (e : Env) (below : List Frame) (A B : State) : Prop := ∀ t, Steps p.tables e below B t → Steps p.tables e below A t
theorem Go.step {p : Program} {e : Env} {below : List Frame} {A B C : State} (g : Go p e below A B) (h : ∀ t, Steps p.tables e below C t → Steps p.tables e below B t) : Go p e below A C := fun t k => g t (h t k)
theorem Go.tr {p : Program} {e : Env} {below : List Frame} {A B C : State} (g : Go p e below A B) (h : Steps p.tables e below B C) : Go p e below A C := fun t k => g t (h.trans k)
abbrev vI (x : Int32) : Slot := .val (.int x)
abbrev vJ (x : Int64) : Slot := .val (.long x)
abbrev vR (x : Addr) : Slot := .val (.ref x)
abbrev uu : Slot := .unset
abbrev sI (x : Int32) : Value := .int x
abbrev sJ (x : Int64) : Value := .long x
abbrev sR (x : Addr) : Value := .ref x
abbrev i0 : Int32 := 0
abbrev i1 : Int32 := 1
abbrev i2 : Int32 := 2
abbrev SP (p : Program) (e : Env) (below : List Frame) (T : State) (f : JFrame) (t : State) : Prop := Steps p.tables e below (T.setTop f) t
theorem Go.st {p : Program} {e : Env} {below : List Frame} {A B : State} (g : Go p e below A B) (T : State) (f : JFrame) (h : ∀ t, Steps p.tables e below (T.setTop f) t → Steps p.tables e below B t) : Go p e below A (T.setTop f) := fun t k => g t (h t k)
theorem wD {Z : State} {a0 : Array Value} (hw : ∀ d ∈ tables_1, d.before a0 Z = true) (i : Nat) {d : Jvm.Cond} (h : tables_1[i]? = some d) : d.before a0 Z = true := hw d (List.mem_of_getElem? h)
abbrev yN0 : MethodName := ⟨"com/example/graphkind/graphkind/TripleList", "<init>", "()V"⟩
abbrev yN1 : MethodName := ⟨"com/example/graphkind/graphkind/TripleList", "add", "(III)V"⟩
abbrev yN2 : MethodName := ⟨"com/example/graphkind/graphkind/Statements$Builder", "<init>", "(I)V"⟩
abbrev yN3 : MethodName := ⟨"com/example/graphkind/graphkind/TripleList", "ofSubject", "(I)I"⟩
abbrev yN4 : MethodName := ⟨"java/lang/Math", "min", "(II)I"⟩
abbrev yN5 : MethodName := ⟨"java/util/Arrays", "copyOf", "([II)[I"⟩
abbrev yN6 : MethodName := ⟨"java/util/Arrays", "copyOf", "([JI)[J"⟩
abbrev yN7 : MethodName := ⟨"com/example/graphkind/graphkind/Statements$Builder", "count", "(Lcom/example/graphkind/graphkind/TripleList;)V"⟩
abbrev yN8 : MethodName := ⟨"com/example/graphkind/graphkind/Statements$Builder", "startPutting", "()V"⟩
abbrev yN9 : MethodName := ⟨"com/example/graphkind/graphkind/Statements$Builder", "put", "(IIIZ)V"⟩
abbrev yN10 : MethodName := ⟨"java/util/Arrays", "rangeCheck", "(III)V"⟩
abbrev yN11 : MethodName := ⟨"java/util/DualPivotQuicksort", "insertionSort", "([JII)V"⟩
abbrev yN12 : MethodName := ⟨"java/util/DualPivotQuicksort", "sort", "(Ljava/util/DualPivotQuicksort$Sorter;[JIII)V"⟩
abbrev yN13 : MethodName := ⟨"java/util/DualPivotQuicksort", "sort", "([JIII)V"⟩
abbrev yN14 : MethodName := ⟨"java/util/Arrays", "sort", "([JII)V"⟩
abbrev yN15 : MethodName := ⟨"com/example/graphkind/graphkind/Statements", "<init>", "([I[J)V"⟩
abbrev yN16 : MethodName := ⟨"com/example/graphkind/graphkind/Statements$Builder", "keep", "(II)I"⟩
abbrev yN17 : MethodName := ⟨"com/example/graphkind/graphkind/Statements$Builder", "build", "()Lcom/example/graphkind/graphkind/Statements;"⟩
abbrev yN18 : MethodName := ⟨"com/example/graphkind/graphkind/Statements", "end", "(I)I"⟩
abbrev yN19 : MethodName := ⟨"com/example/graphkind/graphkind/Statements", "predicate", "(I)I"⟩
abbrev yN20 : MethodName := ⟨"com/example/graphkind/graphkind/Statements", "object", "(I)I"⟩
abbrev yN21 : MethodName := ⟨"com/example/graphkind/graphkind/Statements", "isData", "(I)Z"⟩
abbrev yN22 : MethodName := ⟨"com/example/graphkind/graphkind/BuilderPutPinLaw", "at", "(Lcom/example/graphkind/graphkind/Statements;IIIZ)Z"⟩
section Rets
variable {p : Program} {l : Launch} {e : Env} {R : Room} {s : State} {m : MethodId} {args : Array Value} {below : List Frame} {meth : Method} {c : Code} {T : State} {locs : List Loc} {cells slots : Nat}
theorem own_retI (X : Stand p l e R s m args below meth c T locs cells slots) (hx : p.tables.exec = Jvm.exec) {pc : Nat} {Ls : Array Slot} {z : Int32} {rest : List Value} (hret : meth.sig.returnType = some .int) (hd : decode c.code pc = .ok (.ireturn, 1)) {fs : List Frame}
    (hl : ∀ (f : JFrame) (acts : List Action), f.method = m → f.locked = none → f.entered = [] → (doReturn e (T.setTop f) acts (some (.int z))).1 = T.setFrames fs) : Steps p.tables e below (T.setTop (mkF m pc Ls (.int z :: rest))) (T.setFrames fs) :=
  retOut X hx (t := .int) hret rfl (Or.inl ⟨rfl, Or.inl rfl, z, rfl⟩) hd hl
theorem own_retL (X : Stand p l e R s m args below meth c T locs cells slots) (hx : p.tables.exec = Jvm.exec) {pc : Nat} {Ls : Array Slot} {z : Int64} {rest : List Value} (hret : meth.sig.returnType = some .long) (hd : decode c.code pc = .ok (.lreturn, 1)) {fs : List Frame}
    (hl : ∀ (f : JFrame) (acts : List Action), f.method = m → f.locked = none → f.entered = [] → (doReturn e (T.setTop f) acts (some (.long z))).1 = T.setFrames fs) : Steps p.tables e below (T.setTop (mkF m pc Ls (.long z :: rest))) (T.setFrames fs) :=
  retOut X hx (t := .long) hret rfl (Or.inr (Or.inl ⟨rfl, rfl, z, rfl⟩)) hd hl
theorem own_retA (X : Stand p l e R s m args below meth c T locs cells slots) (hx : p.tables.exec = Jvm.exec) {t : FieldType} {pc : Nat} {Ls : Array Slot} {z : Addr} {rest : List Value} (hret : meth.sig.returnType = some t) (ht : t.isReference = true) (hn : narrow t (.ref z) = .ref z) (hd : decode c.code pc = .ok (.areturn, 1)) {fs : List Frame}
    (hl : ∀ (f : JFrame) (acts : List Action), f.method = m → f.locked = none → f.entered = [] → (doReturn e (T.setTop f) acts (some (.ref z))).1 = T.setFrames fs) : Steps p.tables e below (T.setTop (mkF m pc Ls (.ref z :: rest))) (T.setFrames fs) :=
  retOut X hx hret hn (Or.inr (Or.inr (Or.inr (Or.inr ⟨rfl, ht, rfl⟩)))) hd hl
end Rets
theorem own_mvM {Z s : State} {a0 args : Array Value} {o h : String} {i : Nat} {y : MethodName} (hZ : Z.Warmed39 s.vm) (w : (Cond.methodLinkNest o i y h).before a0 Z = true) : (Cond.methodLinkNest o i y h).before args s = true := (Cond.methodLinkNest_wide hZ w :)
theorem own_selpriv {y : MethodName} {s : State} {args : Array Value} {n : Nat} (hy : y.cls ≠ "java/lang/invoke/MethodHandle" ∧ y.cls ≠ "java/lang/invoke/VarHandle")
    (hins : (Cond.instantiable y.cls n).before args s = true) (hpriv : (Cond.privateMethod y).before args s = true) (hinst : (Cond.instanceMethod y).before args s = true) :
    (Cond.selects y.cls y y).before args s = true := by
  obtain ⟨c, k, hc, hk, -, hniab, -, -⟩ := Cond.instantiable_spec hins
  have hni : k.isInterface = false := (Bool.or_eq_false_iff.mp hniab).1
  obtain ⟨mk, methM, hnamed, hmethM, -, -⟩ := Cond.instanceMethod_spec hinst
  have hfound : s.methodFound? y.cls y.name y.desc = some mk := State.methodFound?_of_named hnamed hy
  have hcls : mk.cls = c := Option.some.inj ((findClass_of_methodNamed hnamed).symm.trans hc)
  have hsel : selectMethod {} s.vm c mk = .method mk := selectMethod_private hmethM (Cond.privateMethod_at hpriv mk methM hnamed hmethM)
  simp only [Cond.before, Cond.holds, Cond.value, hc, hfound, hnamed, hsel, hcls, hk]
  simp; exact hni
theorem d1_0 : decode prog_12_method_1_code 0 = .ok (.aload_n 0, 1) := by decide +kernel
theorem d1_1 : decode prog_12_method_1_code 1 = .ok (.invokespecial 1, 3) := by decide +kernel
theorem d1_4 : decode prog_12_method_1_code 4 = .ok (.aload_n 0, 1) := by decide +kernel
theorem d1_5 : decode prog_12_method_1_code 5 = .ok (.iconst 1, 1) := by decide +kernel
theorem d1_6 : decode prog_12_method_1_code 6 = .ok (.anewarray 7, 3) := by decide +kernel
theorem d1_9 : decode prog_12_method_1_code 9 = .ok (.dup, 1) := by decide +kernel
theorem d1_10 : decode prog_12_method_1_code 10 = .ok (.iconst 0, 1) := by decide +kernel
theorem d1_11 : decode prog_12_method_1_code 11 = .ok (.bipush 48, 2) := by decide +kernel
theorem d1_13 : decode prog_12_method_1_code 13 = .ok (.newarray .int, 2) := by decide +kernel
theorem d1_15 : decode prog_12_method_1_code 15 = .ok (.aastore, 1) := by decide +kernel
theorem d1_16 : decode prog_12_method_1_code 16 = .ok (.putfield 9, 3) := by decide +kernel
theorem d1_19 : decode prog_12_method_1_code 19 = .ok (.aload_n 0, 1) := by decide +kernel
theorem d1_20 : decode prog_12_method_1_code 20 = .ok (.bipush 16, 2) := by decide +kernel
theorem d1_22 : decode prog_12_method_1_code 22 = .ok (.putfield 15, 3) := by decide +kernel
theorem d1_25 : decode prog_12_method_1_code 25 = .ok (.aload_n 0, 1) := by decide +kernel
theorem d1_26 : decode prog_12_method_1_code 26 = .ok (.bipush 16, 2) := by decide +kernel
theorem d1_28 : decode prog_12_method_1_code 28 = .ok (.newarray .int, 2) := by decide +kernel
theorem d1_30 : decode prog_12_method_1_code 30 = .ok (.putfield 19, 3) := by decide +kernel
theorem d1_33 : decode prog_12_method_1_code 33 = .ok (.return_, 1) := by decide +kernel
theorem pn_rm_tinit : plainName "com/example/graphkind/graphkind/TripleList" = true := by first | (simp [plainName, overriddenIn]; done) | decide +kernel
theorem ef_rm_tinit (m : MethodId) (o0 : Addr) : entryFrame m #[(.ref o0)] 1 = mkF m 0 #[.val (.ref o0)] [] := by first | (simp [entryFrame, mkF, argsToLocals, Value.category]; done) | rfl
def Q_rm_tinit (Z : State) (o0 : Addr) (h0 : Heap) (n0 : Nat) (v : Option Value) (h : Heap) (L : List Loc) : Prop := ∃ pg : Addr, ∃ pa : Addr, ∃ sb : Addr, ∃ k1 : ClassId, ∃ k2 : ClassId, ∃ k3 : ClassId, v = none ∧ Fr n0 L ∧ Keep h0 h [o0] ∧ Exa Z h o0 "com/example/graphkind/graphkind/TripleList" ∧ Fld Z h o0 "com/example/graphkind/graphkind/TripleList" "pages" "[[I" (.ref pg) ∧ Fld Z h o0 "com/example/graphkind/graphkind/TripleList" "size" "I" (.int (0 : Int32)) ∧ Fld Z h o0 "com/example/graphkind/graphkind/TripleList" "room" "I" (.int (16 : Int32)) ∧ Fld Z h o0 "com/example/graphkind/graphkind/TripleList" "ofSubject" "[I" (.ref sb) ∧ n0 ≤ pg ∧ h0.size ≤ pg ∧ n0 ≤ pa ∧ h0.size ≤ pa ∧ n0 ≤ sb ∧ h0.size ≤ sb ∧ Arv Z h pg k1 (.array .int) (1 : Int32) [(.ref pa)] .null ∧ Arv Z h pa k2 .int (48 : Int32) [(.int (0 : Int32)), (.int (0 : Int32)), (.int (0 : Int32)), (.int (0 : Int32)), (.int (0 : Int32)), (.int (0 : Int32))] (.int (0 : Int32)) ∧ Arv Z h sb k3 .int (16 : Int32) [(.int (0 : Int32)), (.int (0 : Int32))] (.int (0 : Int32)) ∧ pg ≠ pa ∧ pg ≠ sb ∧ pa ≠ sb
set_option maxRecDepth 65536 in
set_option maxHeartbeats 40000000 in
theorem rm_tinit (l : Launch) (Z : State) (a0 : Array Value) (hw : ∀ d ∈ tables_1, d.before a0 Z = true) (ws : List Jvm.Cond) (o0 : Addr) (h0 : Heap) (n0 : Nat) (Z0 : n0 ≤ h0.size) (E_o0 : Exa Z h0 o0 "com/example/graphkind/graphkind/TripleList") (g_o0 : n0 ≤ o0) (F_pages : Fld Z h0 o0 "com/example/graphkind/graphkind/TripleList" "pages" "[[I" .null) (F_size : Fld Z h0 o0 "com/example/graphkind/graphkind/TripleList" "size" "I" (.int (0 : Int32))) (F_room : Fld Z h0 o0 "com/example/graphkind/graphkind/TripleList" "room" "I" (.int (0 : Int32))) (F_ofSubject : Fld Z h0 o0 "com/example/graphkind/graphkind/TripleList" "ofSubject" "[I" .null) :
    MetFree l yN0 (head1 (Jvm.Cond.code yN0 prog_12_method_1_code 1 none :: ws) ({ frames := 1, cells := 3, slots := 65, locals := 12 } : Room)) (fun a U => a = #[(.ref o0)] ∧ Z.Warmed39 U.vm ∧ U.heap = h0) (fun _ _ _ _ _ => True) (fun _ U o U' => ∃ v L, o = .returned v ∧ Q_rm_tinit Z o0 h0 n0 v U'.heap L ∧ FrameEnd U o U' L ({ frames := 1, cells := 3, slots := 65, locals := 12 } : Room).cells ({ frames := 1, cells := 3, slots := 65, locals := 12 } : Room).slots) := by
  refine MetFree.of_bodySF (plainFor_of_name pn_rm_tinit) hisR ?_
  intro p e s m args below meth c s₁ Bd hml0 hP hK
  obtain ⟨rfl, hZ, hh⟩ := hP
  have hx := Bd.exec
  have hby := Bd.bytes
  have hml : c.maxLocals = 1 := hml0
  have hown : s.vm.findClass "com/example/graphkind/graphkind/TripleList" = some m.cls := findClass_of_methodNamed Bd.named
  have hnm := (name_of_methodNamed Bd.named Bd.method).1
  have X0 : Stand p l e ({ frames := 1, cells := 3, slots := 65, locals := 12 } : Room) s m #[(.ref o0)] below meth c s₁ [] 0 0 := Stand.of_body Bd
  have e0 : s₁.heap = h0 := by rw [← hh, Bd.state]; rfl
  have N0 := Fr.nil n0
  have K0 := Keep.refl h0 [o0]
  have go0 : Go p e below (s₁.setTop (entryFrame m #[(.ref o0)] 1)) (s₁.setTop (mkF m 0 #[vR o0] [])) := fun t k => castTop (ef_rm_tinit m o0) k
  have go1 := go0.st s₁ (mkF m 1 #[vR o0] [sR o0]) (fun t k => by
    refine XS.aloadN X0.here hx rfl (hb hby d1_0) rfl rfl ?_
    exact k)
  obtain ⟨T2, X2, e2, st2⟩ := initO X0 hx hZ hown (wD hw 7 rfl) (wD hw 8 rfl) (wD hw 9 rfl) e0 (g := (mkF m 1 #[vR o0] [sR o0])) rfl (by rw [hml]; rfl) rfl (hb hby d1_1) (by decide) (W := 0) (by show 2 * 0 + _ ≤ _; exact Nat.le_of_eq rfl) (by decide)
  have go3 := go1.st T2 (mkF m 6 #[vR o0] [sI i1, sR o0]) (fun t k => by
    refine st2 _ ?_
    show SP p e below T2 (mkF m 4 #[vR o0] []) _
    refine XS.aloadN X2.here hx rfl (hb hby d1_4) rfl rfl ?_
    refine XS.iconst X2.here hx rfl (hb hby d1_5) ?_
    exact k)
  obtain ⟨T4, h4, k4, X4, e4, E4, A4, -, O4, st4⟩ := newRA X2 hx hZ hown (ty := .int) (C := "[I") rfl (wD hw 10 rfl) (wD hw 11 rfl) e2 (g := (mkF m 6 #[vR o0] [sI i1, sR o0])) rfl (hb hby d1_6) rfl (by decide) (cap := 1) (by decide) (by decide) (by decide) (by decide) (ad := "[[I") rfl
  obtain ⟨b4, g4⟩ : ∃ z, z = h0.size := ⟨_, rfl⟩
  rw [← g4] at A4 st4
  have ne_o0_b4 : o0 ≠ b4 := Nat.ne_of_lt (Nat.lt_of_lt_of_le E_o0.lt (Nat.le_of_eq g4.symm))
  have g_b4 : n0 ≤ b4 := Nat.le_trans Z0 (Nat.le_of_eq g4.symm)
  have sz_b4 : h0.size ≤ b4 := Nat.le_trans K0.1 (Nat.le_of_eq g4.symm)
  have f5 := E_o0.ext E4
  have f6 := F_pages.ext E4
  have f7 := F_size.ext E4
  have f8 := F_room.ext E4
  have f9 := F_ofSubject.ext E4
  have V4 : Arv Z h4 b4 k4 (.array .int) (1 : Int32) [.null] .null := (Arv.new A4 (by decide)).pad (pad_rep [] .null 1)
  have Z4 : n0 ≤ h4.size := Nat.le_trans Z0 E4.1
  have K4 := K0.ext E4
  have go10 := go3.st T4 (mkF m 13 #[vR o0] [(sI (48 : Int32)), sI i0, sR b4, sR b4, sR o0]) (fun t k => by
    refine st4 _ ?_
    show SP p e below T4 (mkF m 9 #[vR o0] [sR b4, sR o0]) _
    refine XS.dup X4.here hx rfl (hb hby d1_9) rfl rfl ?_
    refine XS.iconst X4.here hx rfl (hb hby d1_10) ?_
    refine XS.bipush X4.here hx rfl (hb hby d1_11) ?_
    exact k)
  obtain ⟨T11, h11, k11, X11, e11, E11, A11, D11, st11⟩ := newPE X4 hx hZ (wD hw 12 rfl) e4 (g := (mkF m 13 #[vR o0] [(sI (48 : Int32)), sI i0, sR b4, sR b4, sR o0])) rfl (hb hby d1_13) rfl (by decide) (cap := 48) (by decide) (by decide) (by decide) (by decide) (ad := "[I") rfl
  obtain ⟨b11, g11⟩ : ∃ z, z = h4.size := ⟨_, rfl⟩
  rw [← g11] at A11 D11 st11
  have ne_o0_b11 : o0 ≠ b11 := Nat.ne_of_lt (Nat.lt_of_lt_of_le f5.lt (Nat.le_of_eq g11.symm))
  have ne_b4_b11 : b4 ≠ b11 := Nat.ne_of_lt (Nat.lt_of_lt_of_le V4.lt (Nat.le_of_eq g11.symm))
  have g_b11 : n0 ≤ b11 := Nat.le_trans Z4 (Nat.le_of_eq g11.symm)
  have sz_b11 : h0.size ≤ b11 := Nat.le_trans K4.1 (Nat.le_of_eq g11.symm)
  have f12 := f5.ext E11
  have f13 := f6.ext E11
  have f14 := f7.ext E11
  have f15 := f8.ext E11
  have f16 := f9.ext E11
  have f17 := V4.ext E11
  have V11 : Arv Z h11 b11 k11 .int (48 : Int32) [(.int (0 : Int32)), (.int (0 : Int32)), (.int (0 : Int32)), (.int (0 : Int32)), (.int (0 : Int32)), (.int (0 : Int32))] (.int (0 : Int32)) := (Arv.new A11 (by decide)).pad (pad_rep [] (.int (0 : Int32)) 6)
  have Z11 : n0 ≤ h11.size := Nat.le_trans Z4 E11.1
  have K11 := K4.ext E11
  have go18 := go10.st T11 (mkF m 15 #[vR o0] [sR b11, sI i0, sR b4, sR b4, sR o0]) (fun t k => by
    refine st11 _ ?_
    exact k)
  have Vo19 := f17
  obtain ⟨cl19, Ar19, qa19, Sa19, Na19, Ha19, Ga19⟩ := Vo19
  have hin19 := inb_of (j := (0 : Int32)) Sa19 ⟨by decide, by decide⟩
  obtain ⟨T20, h20, X20, e20, W20, st20⟩ := stR X11 hx hZ e11 Ar19 (j := (0 : Int32)) hin19 rfl (Sto.ofVA Ar19 qa19 O4 (Ins.self D11)) (g := (mkF m 15 #[vR o0] [sR b11, sI i0, sR b4, sR b4, sR o0])) rfl rfl (hb hby d1_15)
  have V20 : Arv Z h20 b4 k4 (.array .int) (1 : Int32) [(.ref b11)] .null := Arv.set Ar19 qa19 Sa19 Na19 Ha19 Ga19 rfl W20 0 rfl (Nat.le_of_ble_eq_true rfl)
  have f21 := f12.wr W20
  have f22 := Fld.other W20 f13 (Or.inl ne_o0_b4)
  have f23 := Fld.other W20 f14 (Or.inl ne_o0_b4)
  have f24 := Fld.other W20 f15 (Or.inl ne_o0_b4)
  have f25 := Fld.other W20 f16 (Or.inl ne_o0_b4)
  have f27 := Arv.other V11 W20 (Ne.symm ne_b4_b11)
  have f28 := D11.wr W20
  have Z20 : n0 ≤ h20.size := Nat.le_trans Z11 (Nat.le_of_eq W20.size.symm)
  have K20 := K11.wr W20 (Or.inr sz_b4)
  have N20 := Fr.snoc X20 N0 g_b4
  have go29 := go18.st T20 (mkF m 16 #[vR o0] [sR b4, sR o0]) (fun t k => by
    refine st20 _ ?_
    exact k)
  obtain ⟨T30, h30, X30, e30, W30, st30⟩ := putF X20 hx hZ hown (host := "") (Or.inl (wD hw 14 rfl)) Via.refl e20 f22 f21 (Or.inl (wD hw 15 rfl)) (wD hw 2 rfl) (ty := (.array (.array .int))) (by decide) rfl rfl (g := (mkF m 16 #[vR o0] [sR b4, sR o0])) rfl rfl (hb hby d1_16)
  have f31 := f21.wr W30
  have f32 := Fld.same W30 f22
  have f33 := Fld.other W30 f23 (Or.inr (slot_ne (Or.inl (wD hw 26 rfl)) (Or.inl (wD hw 15 rfl)) (by decide) (t := .int) (t' := (.array (.array .int))) (by decide) (by decide)))
  have f34 := Fld.other W30 f24 (Or.inr (slot_ne (Or.inl (wD hw 17 rfl)) (Or.inl (wD hw 15 rfl)) (by decide) (t := .int) (t' := (.array (.array .int))) (by decide) (by decide)))
  have f35 := Fld.other W30 f25 (Or.inr (slot_ne (Or.inl (wD hw 19 rfl)) (Or.inl (wD hw 15 rfl)) (by decide) (t := (.array .int)) (t' := (.array (.array .int))) (by decide) (by decide)))
  have f36 := Arv.other f27 W30 (Ne.symm ne_o0_b11)
  have f37 := f28.wr W30
  have f38 := Arv.other V20 W30 (Ne.symm ne_o0_b4)
  have Z30 : n0 ≤ h30.size := Nat.le_trans Z20 (Nat.le_of_eq W30.size.symm)
  have K30 := K20.wr W30 (Or.inl (List.mem_of_getElem? (i := 0) rfl))
  have N30 := Fr.snoc X30 N20 g_o0
  have go39 := go29.st T30 (mkF m 22 #[vR o0] [(sI (16 : Int32)), sR o0]) (fun t k => by
    refine st30 _ ?_
    show SP p e below T30 (mkF m 19 #[vR o0] []) _
    refine XS.aloadN X30.here hx rfl (hb hby d1_19) rfl rfl ?_
    refine XS.bipush X30.here hx rfl (hb hby d1_20) ?_
    exact k)
  obtain ⟨T40, h40, X40, e40, W40, st40⟩ := putF X30 hx hZ hown (host := "") (Or.inl (wD hw 16 rfl)) Via.refl e30 f34 f31 (Or.inl (wD hw 17 rfl)) (wD hw 2 rfl) (ty := .int) (by decide) rfl rfl (g := (mkF m 22 #[vR o0] [(sI (16 : Int32)), sR o0])) rfl rfl (hb hby d1_22)
  have f41 := f31.wr W40
  have f42 := Fld.other W40 f32 (Or.inr (slot_ne (Or.inl (wD hw 15 rfl)) (Or.inl (wD hw 17 rfl)) (by decide) (t := (.array (.array .int))) (t' := .int) (by decide) (by decide)))
  have f43 := Fld.other W40 f33 (Or.inr (slot_ne (Or.inl (wD hw 26 rfl)) (Or.inl (wD hw 17 rfl)) (by decide) (t := .int) (t' := .int) (by decide) (by decide)))
  have f44 := Fld.same W40 f34
  have f45 := Fld.other W40 f35 (Or.inr (slot_ne (Or.inl (wD hw 19 rfl)) (Or.inl (wD hw 17 rfl)) (by decide) (t := (.array .int)) (t' := .int) (by decide) (by decide)))
  have f46 := Arv.other f36 W40 (Ne.symm ne_o0_b11)
  have f47 := f37.wr W40
  have f48 := Arv.other f38 W40 (Ne.symm ne_o0_b4)
  have Z40 : n0 ≤ h40.size := Nat.le_trans Z30 (Nat.le_of_eq W40.size.symm)
  have K40 := K30.wr W40 (Or.inl (List.mem_of_getElem? (i := 0) rfl))
  have N40 := Fr.snoc X40 N30 g_o0
  have go49 := go39.st T40 (mkF m 28 #[vR o0] [(sI (16 : Int32)), sR o0]) (fun t k => by
    refine st40 _ ?_
    show SP p e below T40 (mkF m 25 #[vR o0] []) _
    refine XS.aloadN X40.here hx rfl (hb hby d1_25) rfl rfl ?_
    refine XS.bipush X40.here hx rfl (hb hby d1_26) ?_
    exact k)
  obtain ⟨T50, h50, k50, X50, e50, E50, A50, st50⟩ := newP X40 hx hZ (wD hw 12 rfl) e40 (g := (mkF m 28 #[vR o0] [(sI (16 : Int32)), sR o0])) rfl (hb hby d1_28) rfl (by decide) (cap := 16) (by decide) (by decide) (by decide) (by decide)
  obtain ⟨b50, g50⟩ : ∃ z, z = h40.size := ⟨_, rfl⟩
  rw [← g50] at A50 st50
  have ne_o0_b50 : o0 ≠ b50 := Nat.ne_of_lt (Nat.lt_of_lt_of_le f41.lt (Nat.le_of_eq g50.symm))
  have ne_b4_b50 : b4 ≠ b50 := Nat.ne_of_lt (Nat.lt_of_lt_of_le f48.lt (Nat.le_of_eq g50.symm))
  have ne_b11_b50 : b11 ≠ b50 := Nat.ne_of_lt (Nat.lt_of_lt_of_le f46.lt (Nat.le_of_eq g50.symm))
  have g_b50 : n0 ≤ b50 := Nat.le_trans Z40 (Nat.le_of_eq g50.symm)
  have sz_b50 : h0.size ≤ b50 := Nat.le_trans K40.1 (Nat.le_of_eq g50.symm)
  have f51 := f41.ext E50
  have f52 := f42.ext E50
  have f53 := f43.ext E50
  have f54 := f44.ext E50
  have f55 := f45.ext E50
  have f56 := f46.ext E50
  have f57 := f47.ext E50
  have f58 := f48.ext E50
  have V50 : Arv Z h50 b50 k50 .int (16 : Int32) [(.int (0 : Int32)), (.int (0 : Int32))] (.int (0 : Int32)) := (Arv.new A50 (by decide)).pad (pad_rep [] (.int (0 : Int32)) 2)
  have Z50 : n0 ≤ h50.size := Nat.le_trans Z40 E50.1
  have K50 := K40.ext E50
  have go59 := go49.st T50 (mkF m 30 #[vR o0] [sR b50, sR o0]) (fun t k => by
    refine st50 _ ?_
    exact k)
  obtain ⟨T60, h60, X60, e60, W60, st60⟩ := putF X50 hx hZ hown (host := "") (Or.inl (wD hw 18 rfl)) Via.refl e50 f55 f51 (Or.inl (wD hw 19 rfl)) (wD hw 2 rfl) (ty := (.array .int)) (by decide) rfl rfl (g := (mkF m 30 #[vR o0] [sR b50, sR o0])) rfl rfl (hb hby d1_30)
  have f61 := f51.wr W60
  have f62 := Fld.other W60 f52 (Or.inr (slot_ne (Or.inl (wD hw 15 rfl)) (Or.inl (wD hw 19 rfl)) (by decide) (t := (.array (.array .int))) (t' := (.array .int)) (by decide) (by decide)))
  have f63 := Fld.other W60 f53 (Or.inr (slot_ne (Or.inl (wD hw 26 rfl)) (Or.inl (wD hw 19 rfl)) (by decide) (t := .int) (t' := (.array .int)) (by decide) (by decide)))
  have f64 := Fld.other W60 f54 (Or.inr (slot_ne (Or.inl (wD hw 17 rfl)) (Or.inl (wD hw 19 rfl)) (by decide) (t := .int) (t' := (.array .int)) (by decide) (by decide)))
  have f65 := Fld.same W60 f55
  have f66 := Arv.other f56 W60 (Ne.symm ne_o0_b11)
  have f67 := f57.wr W60
  have f68 := Arv.other f58 W60 (Ne.symm ne_o0_b4)
  have f69 := Arv.other V50 W60 (Ne.symm ne_o0_b50)
  have Z60 : n0 ≤ h60.size := Nat.le_trans Z50 (Nat.le_of_eq W60.size.symm)
  have K60 := K50.wr W60 (Or.inl (List.mem_of_getElem? (i := 0) rfl))
  have N60 := Fr.snoc X60 N40 g_o0
  have go70 := go59.st T60 (mkF m 33 #[vR o0] []) (fun t k => by
    refine st60 _ ?_
    exact k)
  obtain ⟨fs, hr, hrun, hended, hW, hsame⟩ := X60.leave (v := none) (fun _ => rfl)
  refine ⟨_, _, go70 _ ?_, hrun, hended, _, _, rfl, ?_, ⟨_, rfl⟩, hW, hsame.mono (by decide) (by decide)⟩
  · exact X60.returnOut hx Bd.returns (hb hby d1_33) hr
  · show Q_rm_tinit Z o0 h0 n0 _ T60.heap _
    rw [e60]
    exact ⟨b4, b11, b50, k4, k11, k50, rfl, N60, K60, f61, f62, f63, f64, f65, g_b4, sz_b4, g_b11, sz_b11, g_b50, sz_b50, f68, f66, f69, ne_b4_b11, ne_b4_b50, ne_b11_b50⟩
theorem d3_0 : decode prog_12_method_3_code 0 = .ok (.aload_n 0, 1) := by decide +kernel
theorem d3_1 : decode prog_12_method_3_code 1 = .ok (.getfield 22, 3) := by decide +kernel
theorem d3_4 : decode prog_12_method_3_code 4 = .ok (.aload_n 0, 1) := by decide +kernel
theorem d3_5 : decode prog_12_method_3_code 5 = .ok (.getfield 15, 3) := by decide +kernel
theorem d3_8 : decode prog_12_method_3_code 8 = .ok (.if_icmp .ne 7, 3) := by decide +kernel
theorem d3_15 : decode prog_12_method_3_code 15 = .ok (.aload_n 0, 1) := by decide +kernel
theorem d3_16 : decode prog_12_method_3_code 16 = .ok (.getfield 9, 3) := by decide +kernel
theorem d3_19 : decode prog_12_method_3_code 19 = .ok (.aload_n 0, 1) := by decide +kernel
theorem d3_20 : decode prog_12_method_3_code 20 = .ok (.getfield 22, 3) := by decide +kernel
theorem d3_23 : decode prog_12_method_3_code 23 = .ok (.ldc 28, 2) := by decide +kernel
theorem d3_25 : decode prog_12_method_3_code 25 = .ok (.idiv, 1) := by decide +kernel
theorem d3_26 : decode prog_12_method_3_code 26 = .ok (.aaload, 1) := by decide +kernel
theorem d3_27 : decode prog_12_method_3_code 27 = .ok (.astore 4, 2) := by decide +kernel
theorem d3_29 : decode prog_12_method_3_code 29 = .ok (.aload_n 0, 1) := by decide +kernel
theorem d3_30 : decode prog_12_method_3_code 30 = .ok (.getfield 22, 3) := by decide +kernel
theorem d3_33 : decode prog_12_method_3_code 33 = .ok (.ldc 28, 2) := by decide +kernel
theorem d3_35 : decode prog_12_method_3_code 35 = .ok (.irem, 1) := by decide +kernel
theorem d3_36 : decode prog_12_method_3_code 36 = .ok (.iconst 3, 1) := by decide +kernel
theorem d3_37 : decode prog_12_method_3_code 37 = .ok (.imul, 1) := by decide +kernel
theorem d3_38 : decode prog_12_method_3_code 38 = .ok (.istore 5, 2) := by decide +kernel
theorem d3_40 : decode prog_12_method_3_code 40 = .ok (.aload 4, 2) := by decide +kernel
theorem d3_42 : decode prog_12_method_3_code 42 = .ok (.iload 5, 2) := by decide +kernel
theorem d3_44 : decode prog_12_method_3_code 44 = .ok (.iload_n 1, 1) := by decide +kernel
theorem d3_45 : decode prog_12_method_3_code 45 = .ok (.iastore, 1) := by decide +kernel
theorem d3_46 : decode prog_12_method_3_code 46 = .ok (.aload 4, 2) := by decide +kernel
theorem d3_48 : decode prog_12_method_3_code 48 = .ok (.iload 5, 2) := by decide +kernel
theorem d3_50 : decode prog_12_method_3_code 50 = .ok (.iconst 1, 1) := by decide +kernel
theorem d3_51 : decode prog_12_method_3_code 51 = .ok (.iadd, 1) := by decide +kernel
theorem d3_52 : decode prog_12_method_3_code 52 = .ok (.iload_n 2, 1) := by decide +kernel
theorem d3_53 : decode prog_12_method_3_code 53 = .ok (.iastore, 1) := by decide +kernel
theorem d3_54 : decode prog_12_method_3_code 54 = .ok (.aload 4, 2) := by decide +kernel
theorem d3_56 : decode prog_12_method_3_code 56 = .ok (.iload 5, 2) := by decide +kernel
theorem d3_58 : decode prog_12_method_3_code 58 = .ok (.iconst 2, 1) := by decide +kernel
theorem d3_59 : decode prog_12_method_3_code 59 = .ok (.iadd, 1) := by decide +kernel
theorem d3_60 : decode prog_12_method_3_code 60 = .ok (.iload_n 3, 1) := by decide +kernel
theorem d3_61 : decode prog_12_method_3_code 61 = .ok (.iastore, 1) := by decide +kernel
theorem d3_62 : decode prog_12_method_3_code 62 = .ok (.aload_n 0, 1) := by decide +kernel
theorem d3_63 : decode prog_12_method_3_code 63 = .ok (.dup, 1) := by decide +kernel
theorem d3_64 : decode prog_12_method_3_code 64 = .ok (.getfield 22, 3) := by decide +kernel
theorem d3_67 : decode prog_12_method_3_code 67 = .ok (.iconst 1, 1) := by decide +kernel
theorem d3_68 : decode prog_12_method_3_code 68 = .ok (.iadd, 1) := by decide +kernel
theorem d3_69 : decode prog_12_method_3_code 69 = .ok (.putfield 22, 3) := by decide +kernel
theorem d3_72 : decode prog_12_method_3_code 72 = .ok (.iload_n 1, 1) := by decide +kernel
theorem d3_73 : decode prog_12_method_3_code 73 = .ok (.aload_n 0, 1) := by decide +kernel
theorem d3_74 : decode prog_12_method_3_code 74 = .ok (.getfield 19, 3) := by decide +kernel
theorem d3_77 : decode prog_12_method_3_code 77 = .ok (.arraylength, 1) := by decide +kernel
theorem d3_78 : decode prog_12_method_3_code 78 = .ok (.if_icmp .lt 8, 3) := by decide +kernel
theorem d3_86 : decode prog_12_method_3_code 86 = .ok (.aload_n 0, 1) := by decide +kernel
theorem d3_87 : decode prog_12_method_3_code 87 = .ok (.getfield 19, 3) := by decide +kernel
theorem d3_90 : decode prog_12_method_3_code 90 = .ok (.iload_n 1, 1) := by decide +kernel
theorem d3_91 : decode prog_12_method_3_code 91 = .ok (.dup2, 1) := by decide +kernel
theorem d3_92 : decode prog_12_method_3_code 92 = .ok (.iaload, 1) := by decide +kernel
theorem d3_93 : decode prog_12_method_3_code 93 = .ok (.iconst 1, 1) := by decide +kernel
theorem d3_94 : decode prog_12_method_3_code 94 = .ok (.iadd, 1) := by decide +kernel
theorem d3_95 : decode prog_12_method_3_code 95 = .ok (.iastore, 1) := by decide +kernel
theorem d3_96 : decode prog_12_method_3_code 96 = .ok (.return_, 1) := by decide +kernel
theorem pn_rm_add1_0 : plainName "com/example/graphkind/graphkind/TripleList" = true := by first | (simp [plainName, overriddenIn]; done) | decide +kernel
theorem ef_rm_add1_0 (m : MethodId) (o0 : Addr) (p2 : Int32) (p3 : Int32) : entryFrame m #[(.ref o0), (.int (0 : Int32)), (.int p2), (.int p3)] 6 = mkF m 0 #[.val (.ref o0), .val (.int (0 : Int32)), .val (.int p2), .val (.int p3), uu, uu] [] := by first | (simp [entryFrame, mkF, argsToLocals, Value.category]; done) | rfl
def Q_rm_add1_0 (Z : State) (o0 : Addr) (p2 : Int32) (p3 : Int32) (pg : Addr) (k1 : ClassId) (pa : Addr) (sb : Addr) (k2 : ClassId) (k3 : ClassId) (x0 : Int32) (x1 : Int32) (h0 : Heap) (n0 : Nat) (v : Option Value) (h : Heap) (L : List Loc) : Prop := v = none ∧ Fr n0 L ∧ Keep h0 h [pa, o0, sb] ∧ Exa Z h o0 "com/example/graphkind/graphkind/TripleList" ∧ Fld Z h o0 "com/example/graphkind/graphkind/TripleList" "ofSubject" "[I" (.ref sb) ∧ Arv Z h sb k3 .int (16 : Int32) [(.int (x0 + (1 : Int32))), (.int x1)] (.int (0 : Int32)) ∧ Fld Z h o0 "com/example/graphkind/graphkind/TripleList" "pages" "[[I" (.ref pg) ∧ Fld Z h o0 "com/example/graphkind/graphkind/TripleList" "size" "I" (.int (1 : Int32)) ∧ Fld Z h o0 "com/example/graphkind/graphkind/TripleList" "room" "I" (.int (16 : Int32)) ∧ Arv Z h pa k2 .int (48 : Int32) [(.int (0 : Int32)), (.int p2), (.int p3), (.int (0 : Int32)), (.int (0 : Int32)), (.int (0 : Int32))] (.int (0 : Int32))
set_option maxRecDepth 65536 in
set_option maxHeartbeats 40000000 in
theorem rm_add1_0 (l : Launch) (Z : State) (a0 : Array Value) (hw : ∀ d ∈ tables_1, d.before a0 Z = true) (ws : List Jvm.Cond) (o0 : Addr) (p2 : Int32) (p3 : Int32) (pg : Addr) (k1 : ClassId) (pa : Addr) (sb : Addr) (k2 : ClassId) (k3 : ClassId) (x0 : Int32) (x1 : Int32) (h0 : Heap) (n0 : Nat) (Z0 : n0 ≤ h0.size) (E_o0 : Exa Z h0 o0 "com/example/graphkind/graphkind/TripleList") (F_pages_o0 : Fld Z h0 o0 "com/example/graphkind/graphkind/TripleList" "pages" "[[I" (.ref pg)) (F_size_o0 : Fld Z h0 o0 "com/example/graphkind/graphkind/TripleList" "size" "I" (.int (0 : Int32))) (F_room_o0 : Fld Z h0 o0 "com/example/graphkind/graphkind/TripleList" "room" "I" (.int (16 : Int32))) (F_ofSubject_o0 : Fld Z h0 o0 "com/example/graphkind/graphkind/TripleList" "ofSubject" "[I" (.ref sb)) (V_pg : Arv Z h0 pg k1 (.array .int) (1 : Int32) [(.ref pa)] .null) (V_pa : Arv Z h0 pa k2 .int (48 : Int32) [(.int (0 : Int32)), (.int (0 : Int32)), (.int (0 : Int32)), (.int (0 : Int32)), (.int (0 : Int32)), (.int (0 : Int32))] (.int (0 : Int32))) (V_sb : Arv Z h0 sb k3 .int (16 : Int32) [(.int x0), (.int x1)] (.int (0 : Int32))) (g_o0 : n0 ≤ o0) (g_pa : n0 ≤ pa) (g_sb : n0 ≤ sb) (ne_o0_pg : o0 ≠ pg) (ne_o0_pa : o0 ≠ pa) (ne_o0_sb : o0 ≠ sb) (ne_pg_pa : pg ≠ pa) (ne_pg_sb : pg ≠ sb) (ne_pa_sb : pa ≠ sb) :
    MetFree l yN1 (head1 (Jvm.Cond.code yN1 prog_12_method_3_code 6 none :: ws) ({ frames := 0, cells := 0, slots := 0, locals := 0 } : Room)) (fun a U => a = #[(.ref o0), (.int (0 : Int32)), (.int p2), (.int p3)] ∧ Z.Warmed39 U.vm ∧ U.heap = h0) (fun _ _ _ _ _ => True) (fun _ U o U' => ∃ v L, o = .returned v ∧ Q_rm_add1_0 Z o0 p2 p3 pg k1 pa sb k2 k3 x0 x1 h0 n0 v U'.heap L ∧ FrameEnd U o U' L ({ frames := 0, cells := 0, slots := 0, locals := 0 } : Room).cells ({ frames := 0, cells := 0, slots := 0, locals := 0 } : Room).slots) := by
  refine MetFree.of_bodySF (plainFor_of_name pn_rm_add1_0) hisR ?_
  intro p e s m args below meth c s₁ Bd hml0 hP hK
  obtain ⟨rfl, hZ, hh⟩ := hP
  have hx := Bd.exec
  have hby := Bd.bytes
  have hml : c.maxLocals = 6 := hml0
  have hown : s.vm.findClass "com/example/graphkind/graphkind/TripleList" = some m.cls := findClass_of_methodNamed Bd.named
  have hnm := (name_of_methodNamed Bd.named Bd.method).1
  have X0 : Stand p l e ({ frames := 0, cells := 0, slots := 0, locals := 0 } : Room) s m #[(.ref o0), (.int (0 : Int32)), (.int p2), (.int p3)] below meth c s₁ [] 0 0 := Stand.of_body Bd
  have e0 : s₁.heap = h0 := by rw [← hh, Bd.state]; rfl
  have N0 := Fr.nil n0
  have K0 := Keep.refl h0 [pa, o0, sb]
  have go0 : Go p e below (s₁.setTop (entryFrame m #[(.ref o0), (.int (0 : Int32)), (.int p2), (.int p3)] 6)) (s₁.setTop (mkF m 0 #[vR o0, vI i0, vI p2, vI p3, uu, uu] [])) := fun t k => castTop (ef_rm_add1_0 m o0 p2 p3) k
  have go1 := go0.st s₁ (mkF m 1 #[vR o0, vI i0, vI p2, vI p3, uu, uu] [sR o0]) (fun t k => by
    refine XS.aloadN X0.here hx rfl (hb hby d3_0) rfl rfl ?_
    exact k)
  obtain ⟨T2, X2, e2, st2⟩ := getF X0 hx hZ hown (host := "") (Or.inl (wD hw 25 rfl)) Via.refl e0 F_size_o0 (g := (mkF m 1 #[vR o0, vI i0, vI p2, vI p3, uu, uu] [sR o0])) rfl rfl (hb hby d3_1)
  have go3 := go1.st T2 (mkF m 5 #[vR o0, vI i0, vI p2, vI p3, uu, uu] [sR o0, sI i0]) (fun t k => by
    refine st2 _ ?_
    show SP p e below T2 (mkF m 4 #[vR o0, vI i0, vI p2, vI p3, uu, uu] [sI i0]) _
    refine XS.aloadN X2.here hx rfl (hb hby d3_4) rfl rfl ?_
    exact k)
  obtain ⟨T4, X4, e4, st4⟩ := getF X2 hx hZ hown (host := "") (Or.inl (wD hw 16 rfl)) Via.refl e2 F_room_o0 (g := (mkF m 5 #[vR o0, vI i0, vI p2, vI p3, uu, uu] [sR o0, sI i0])) rfl rfl (hb hby d3_5)
  have go6 := go3.st T4 (mkF m 16 #[vR o0, vI i0, vI p2, vI p3, uu, uu] [sR o0]) (fun t k => by
    refine st4 _ ?_
    show SP p e below T4 (mkF m 8 #[vR o0, vI i0, vI p2, vI p3, uu, uu] [(sI (16 : Int32)), sI i0]) _
    refine XS.icmpYes X4.here hx rfl (pc0 := 8) (pc' := 15) rfl (hb hby d3_8) rfl (feq ((by decide) : ¬ ((0 : Int32) = (16 : Int32)))).2 (by decide) (by decide) ?_
    refine XS.aloadN X4.here hx rfl (hb hby d3_15) rfl rfl ?_
    exact k)
  obtain ⟨T7, X7, e7, st7⟩ := getF X4 hx hZ hown (host := "") (Or.inl (wD hw 14 rfl)) Via.refl e4 F_pages_o0 (g := (mkF m 16 #[vR o0, vI i0, vI p2, vI p3, uu, uu] [sR o0])) rfl rfl (hb hby d3_16)
  have go8 := go6.st T7 (mkF m 20 #[vR o0, vI i0, vI p2, vI p3, uu, uu] [sR o0, sR pg]) (fun t k => by
    refine st7 _ ?_
    show SP p e below T7 (mkF m 19 #[vR o0, vI i0, vI p2, vI p3, uu, uu] [sR pg]) _
    refine XS.aloadN X7.here hx rfl (hb hby d3_19) rfl rfl ?_
    exact k)
  obtain ⟨T9, X9, e9, st9⟩ := getF X7 hx hZ hown (host := "") (Or.inl (wD hw 25 rfl)) Via.refl e7 F_size_o0 (g := (mkF m 20 #[vR o0, vI i0, vI p2, vI p3, uu, uu] [sR o0, sR pg])) rfl rfl (hb hby d3_20)
  have go10 := go8.st T9 (mkF m 26 #[vR o0, vI i0, vI p2, vI p3, uu, uu] [sI i0, sR pg]) (fun t k => by
    refine st9 _ ?_
    show SP p e below T9 (mkF m 23 #[vR o0, vI i0, vI p2, vI p3, uu, uu] [sI i0, sR pg]) _
    refine X9.ldcInt hx hown (mvT hZ (wD hw 27 rfl)) (g := (mkF m 23 #[vR o0, vI i0, vI p2, vI p3, uu, uu] [sI i0, sR pg])) rfl (hb hby d3_23) _ ?_
    refine XS.idiv X9.here hx rfl (hb hby d3_25) rfl (by decide) ?_
    exact k)
  have Vo11 := V_pg
  obtain ⟨cl11, Ar11, qa11, Sa11, Na11, Ha11, Ga11⟩ := Vo11
  have hin11 := inb_of (j := (0 : Int32)) Sa11 ⟨by decide, by decide⟩
  have hat11 : cl11.slots[((0 : Int32)).toNatClampNeg]? = some (.ref pa) := Has.at Ha11 hin11 rfl
  have go12 := go10.st T9 (mkF m 30 #[vR o0, vI i0, vI p2, vI p3, vR pa, uu] [sR o0]) (fun t k => by
    refine X9.aaload hx (j := (0 : Int32)) (v := (.ref pa)) (by rw [e9]; exact Ar11.1) (State.isArrayOf_alike hZ.alike Ar11.2.1) rfl Ar11.2.2 hin11 hat11 (g := (mkF m 26 #[vR o0, vI i0, vI p2, vI p3, uu, uu] [sI i0, sR pg])) rfl rfl (hb hby d3_26) _ ?_
    refine XS.astore X9.here hx rfl (hb hby d3_27) rfl rfl (l' := #[vR o0, vI i0, vI p2, vI p3, vR pa, uu]) rfl ?_
    refine XS.aloadN X9.here hx rfl (hb hby d3_29) rfl rfl ?_
    exact k)
  obtain ⟨T13, X13, e13, st13⟩ := getF X9 hx hZ hown (host := "") (Or.inl (wD hw 25 rfl)) Via.refl e9 F_size_o0 (g := (mkF m 30 #[vR o0, vI i0, vI p2, vI p3, vR pa, uu] [sR o0])) rfl rfl (hb hby d3_30)
  have go14 := go12.st T13 (mkF m 45 #[vR o0, vI i0, vI p2, vI p3, vR pa, vI i0] [sI i0, sI i0, sR pa]) (fun t k => by
    refine st13 _ ?_
    show SP p e below T13 (mkF m 33 #[vR o0, vI i0, vI p2, vI p3, vR pa, uu] [sI i0]) _
    refine X13.ldcInt hx hown (mvT hZ (wD hw 27 rfl)) (g := (mkF m 33 #[vR o0, vI i0, vI p2, vI p3, vR pa, uu] [sI i0])) rfl (hb hby d3_33) _ ?_
    refine iremM X13 hx rfl (hb hby d3_35) rfl (by decide) ?_
    refine XS.iconst X13.here hx rfl (hb hby d3_36) ?_
    refine XS.imul X13.here hx rfl (hb hby d3_37) rfl ?_
    refine XS.istore X13.here hx rfl (hb hby d3_38) rfl (l' := #[vR o0, vI i0, vI p2, vI p3, vR pa, vI i0]) rfl ?_
    refine XS.aload X13.here hx rfl (hb hby d3_40) rfl rfl ?_
    refine XS.iload X13.here hx rfl (hb hby d3_42) rfl ?_
    refine XS.iloadN X13.here hx rfl (hb hby d3_44) rfl ?_
    exact k)
  have Vo15 := V_pa
  obtain ⟨cl15, Ar15, qa15, Sa15, Na15, Ha15, Ga15⟩ := Vo15
  have hin15 := inb_of (j := (0 : Int32)) Sa15 ⟨by decide, by decide⟩
  obtain ⟨T16, h16, X16, e16, W16, st16⟩ := stI X13 hx hZ e13 Ar15 (j := (0 : Int32)) hin15 (g := (mkF m 45 #[vR o0, vI i0, vI p2, vI p3, vR pa, vI i0] [sI i0, sI i0, sR pa])) rfl rfl (hb hby d3_45)
  have V16 : Arv Z h16 pa k2 .int (48 : Int32) [(.int (0 : Int32)), (.int (0 : Int32)), (.int (0 : Int32)), (.int (0 : Int32)), (.int (0 : Int32)), (.int (0 : Int32))] (.int (0 : Int32)) := Arv.set Ar15 qa15 Sa15 Na15 Ha15 Ga15 rfl W16 0 rfl (Nat.le_of_ble_eq_true rfl)
  have f17 := E_o0.wr W16
  have f18 := Fld.other W16 F_pages_o0 (Or.inl ne_o0_pa)
  have f19 := Fld.other W16 F_size_o0 (Or.inl ne_o0_pa)
  have f20 := Fld.other W16 F_room_o0 (Or.inl ne_o0_pa)
  have f21 := Fld.other W16 F_ofSubject_o0 (Or.inl ne_o0_pa)
  have f22 := Arv.other V_pg W16 ne_pg_pa
  have f24 := Arv.other V_sb W16 (Ne.symm ne_pa_sb)
  have Z16 : n0 ≤ h16.size := Nat.le_trans Z0 (Nat.le_of_eq W16.size.symm)
  have K16 := K0.wr W16 (Or.inl (List.mem_of_getElem? (i := 0) rfl))
  have N16 := Fr.snoc X16 N0 g_pa
  have go25 := go14.st T16 (mkF m 53 #[vR o0, vI i0, vI p2, vI p3, vR pa, vI i0] [sI p2, sI i1, sR pa]) (fun t k => by
    refine st16 _ ?_
    show SP p e below T16 (mkF m 46 #[vR o0, vI i0, vI p2, vI p3, vR pa, vI i0] []) _
    refine XS.aload X16.here hx rfl (hb hby d3_46) rfl rfl ?_
    refine XS.iload X16.here hx rfl (hb hby d3_48) rfl ?_
    refine XS.iconst X16.here hx rfl (hb hby d3_50) ?_
    refine XS.iadd X16.here hx rfl (hb hby d3_51) rfl ?_
    refine XS.iloadN X16.here hx rfl (hb hby d3_52) rfl ?_
    exact k)
  have Vo26 := V16
  obtain ⟨cl26, Ar26, qa26, Sa26, Na26, Ha26, Ga26⟩ := Vo26
  have hin26 := inb_of (j := (1 : Int32)) Sa26 ⟨by decide, by decide⟩
  obtain ⟨T27, h27, X27, e27, W27, st27⟩ := stI X16 hx hZ e16 Ar26 (j := (1 : Int32)) hin26 (g := (mkF m 53 #[vR o0, vI i0, vI p2, vI p3, vR pa, vI i0] [sI p2, sI i1, sR pa])) rfl rfl (hb hby d3_53)
  have V27 : Arv Z h27 pa k2 .int (48 : Int32) [(.int (0 : Int32)), (.int p2), (.int (0 : Int32)), (.int (0 : Int32)), (.int (0 : Int32)), (.int (0 : Int32))] (.int (0 : Int32)) := Arv.set Ar26 qa26 Sa26 Na26 Ha26 Ga26 rfl W27 1 rfl (Nat.le_of_ble_eq_true rfl)
  have f28 := f17.wr W27
  have f29 := Fld.other W27 f18 (Or.inl ne_o0_pa)
  have f30 := Fld.other W27 f19 (Or.inl ne_o0_pa)
  have f31 := Fld.other W27 f20 (Or.inl ne_o0_pa)
  have f32 := Fld.other W27 f21 (Or.inl ne_o0_pa)
  have f33 := Arv.other f22 W27 ne_pg_pa
  have f34 := Arv.other f24 W27 (Ne.symm ne_pa_sb)
  have Z27 : n0 ≤ h27.size := Nat.le_trans Z16 (Nat.le_of_eq W27.size.symm)
  have K27 := K16.wr W27 (Or.inl (List.mem_of_getElem? (i := 0) rfl))
  have N27 := Fr.snoc X27 N16 g_pa
  have go36 := go25.st T27 (mkF m 61 #[vR o0, vI i0, vI p2, vI p3, vR pa, vI i0] [sI p3, sI i2, sR pa]) (fun t k => by
    refine st27 _ ?_
    show SP p e below T27 (mkF m 54 #[vR o0, vI i0, vI p2, vI p3, vR pa, vI i0] []) _
    refine XS.aload X27.here hx rfl (hb hby d3_54) rfl rfl ?_
    refine XS.iload X27.here hx rfl (hb hby d3_56) rfl ?_
    refine XS.iconst X27.here hx rfl (hb hby d3_58) ?_
    refine XS.iadd X27.here hx rfl (hb hby d3_59) rfl ?_
    refine XS.iloadN X27.here hx rfl (hb hby d3_60) rfl ?_
    exact k)
  have Vo37 := V27
  obtain ⟨cl37, Ar37, qa37, Sa37, Na37, Ha37, Ga37⟩ := Vo37
  have hin37 := inb_of (j := (2 : Int32)) Sa37 ⟨by decide, by decide⟩
  obtain ⟨T38, h38, X38, e38, W38, st38⟩ := stI X27 hx hZ e27 Ar37 (j := (2 : Int32)) hin37 (g := (mkF m 61 #[vR o0, vI i0, vI p2, vI p3, vR pa, vI i0] [sI p3, sI i2, sR pa])) rfl rfl (hb hby d3_61)
  have V38 : Arv Z h38 pa k2 .int (48 : Int32) [(.int (0 : Int32)), (.int p2), (.int p3), (.int (0 : Int32)), (.int (0 : Int32)), (.int (0 : Int32))] (.int (0 : Int32)) := Arv.set Ar37 qa37 Sa37 Na37 Ha37 Ga37 rfl W38 2 rfl (Nat.le_of_ble_eq_true rfl)
  have f39 := f28.wr W38
  have f40 := Fld.other W38 f29 (Or.inl ne_o0_pa)
  have f41 := Fld.other W38 f30 (Or.inl ne_o0_pa)
  have f42 := Fld.other W38 f31 (Or.inl ne_o0_pa)
  have f43 := Fld.other W38 f32 (Or.inl ne_o0_pa)
  have f44 := Arv.other f33 W38 ne_pg_pa
  have f45 := Arv.other f34 W38 (Ne.symm ne_pa_sb)
  have Z38 : n0 ≤ h38.size := Nat.le_trans Z27 (Nat.le_of_eq W38.size.symm)
  have K38 := K27.wr W38 (Or.inl (List.mem_of_getElem? (i := 0) rfl))
  have N38 := Fr.snoc X38 N27 g_pa
  have go47 := go36.st T38 (mkF m 64 #[vR o0, vI i0, vI p2, vI p3, vR pa, vI i0] [sR o0, sR o0]) (fun t k => by
    refine st38 _ ?_
    show SP p e below T38 (mkF m 62 #[vR o0, vI i0, vI p2, vI p3, vR pa, vI i0] []) _
    refine XS.aloadN X38.here hx rfl (hb hby d3_62) rfl rfl ?_
    refine XS.dup X38.here hx rfl (hb hby d3_63) rfl rfl ?_
    exact k)
  obtain ⟨T48, X48, e48, st48⟩ := getF X38 hx hZ hown (host := "") (Or.inl (wD hw 25 rfl)) Via.refl e38 f41 (g := (mkF m 64 #[vR o0, vI i0, vI p2, vI p3, vR pa, vI i0] [sR o0, sR o0])) rfl rfl (hb hby d3_64)
  have go49 := go47.st T48 (mkF m 69 #[vR o0, vI i0, vI p2, vI p3, vR pa, vI i0] [sI i1, sR o0]) (fun t k => by
    refine st48 _ ?_
    show SP p e below T48 (mkF m 67 #[vR o0, vI i0, vI p2, vI p3, vR pa, vI i0] [sI i0, sR o0]) _
    refine XS.iconst X48.here hx rfl (hb hby d3_67) ?_
    refine XS.iadd X48.here hx rfl (hb hby d3_68) rfl ?_
    exact k)
  obtain ⟨T50, h50, X50, e50, W50, st50⟩ := putF X48 hx hZ hown (host := "") (Or.inl (wD hw 25 rfl)) Via.refl e48 f41 f39 (Or.inl (wD hw 26 rfl)) (wD hw 2 rfl) (ty := .int) (by decide) rfl rfl (g := (mkF m 69 #[vR o0, vI i0, vI p2, vI p3, vR pa, vI i0] [sI i1, sR o0])) rfl rfl (hb hby d3_69)
  have f51 := f39.wr W50
  have f52 := Fld.other W50 f40 (Or.inr (slot_ne (Or.inl (wD hw 15 rfl)) (Or.inl (wD hw 26 rfl)) (by decide) (t := (.array (.array .int))) (t' := .int) (by decide) (by decide)))
  have f53 := Fld.same W50 f41
  have f54 := Fld.other W50 f42 (Or.inr (slot_ne (Or.inl (wD hw 17 rfl)) (Or.inl (wD hw 26 rfl)) (by decide) (t := .int) (t' := .int) (by decide) (by decide)))
  have f55 := Fld.other W50 f43 (Or.inr (slot_ne (Or.inl (wD hw 19 rfl)) (Or.inl (wD hw 26 rfl)) (by decide) (t := (.array .int)) (t' := .int) (by decide) (by decide)))
  have f56 := Arv.other f44 W50 (Ne.symm ne_o0_pg)
  have f57 := Arv.other f45 W50 (Ne.symm ne_o0_sb)
  have f58 := Arv.other V38 W50 (Ne.symm ne_o0_pa)
  have Z50 : n0 ≤ h50.size := Nat.le_trans Z38 (Nat.le_of_eq W50.size.symm)
  have K50 := K38.wr W50 (Or.inl (List.mem_of_getElem? (i := 1) rfl))
  have N50 := Fr.snoc X50 N38 g_o0
  have go59 := go49.st T50 (mkF m 74 #[vR o0, vI i0, vI p2, vI p3, vR pa, vI i0] [sR o0, sI i0]) (fun t k => by
    refine st50 _ ?_
    show SP p e below T50 (mkF m 72 #[vR o0, vI i0, vI p2, vI p3, vR pa, vI i0] []) _
    refine XS.iloadN X50.here hx rfl (hb hby d3_72) rfl ?_
    refine XS.aloadN X50.here hx rfl (hb hby d3_73) rfl rfl ?_
    exact k)
  obtain ⟨T60, X60, e60, st60⟩ := getF X50 hx hZ hown (host := "") (Or.inl (wD hw 18 rfl)) Via.refl e50 f55 (g := (mkF m 74 #[vR o0, vI i0, vI p2, vI p3, vR pa, vI i0] [sR o0, sI i0])) rfl rfl (hb hby d3_74)
  have go61 := go59.st T60 (mkF m 77 #[vR o0, vI i0, vI p2, vI p3, vR pa, vI i0] [sR sb, sI i0]) (fun t k => by
    refine st60 _ ?_
    exact k)
  have Vo62 := f57
  obtain ⟨cl62, Ar62, qa62, Sa62, Na62, Ha62, Ga62⟩ := Vo62
  have go64 := go61.st T60 (mkF m 87 #[vR o0, vI i0, vI p2, vI p3, vR pa, vI i0] [sR o0]) (fun t k => by
    refine X60.arraylength hx (by rw [e60]; exact Ar62.1) (State.isArrayOf_alike hZ.alike Ar62.2.1) (g := (mkF m 77 #[vR o0, vI i0, vI p2, vI p3, vR pa, vI i0] [sR sb, sI i0])) rfl rfl (hb hby d3_77) _ ?_
    rw [len_of Sa62 Na62]
    refine XS.icmpYes X60.here hx rfl (pc0 := 78) (pc' := 86) rfl (hb hby d3_78) rfl (tlt ((by decide) : (0 : Int32) < (16 : Int32))).1 (by decide) (by decide) ?_
    refine XS.aloadN X60.here hx rfl (hb hby d3_86) rfl rfl ?_
    exact k)
  obtain ⟨T65, X65, e65, st65⟩ := getF X60 hx hZ hown (host := "") (Or.inl (wD hw 18 rfl)) Via.refl e60 f55 (g := (mkF m 87 #[vR o0, vI i0, vI p2, vI p3, vR pa, vI i0] [sR o0])) rfl rfl (hb hby d3_87)
  have go66 := go64.st T65 (mkF m 92 #[vR o0, vI i0, vI p2, vI p3, vR pa, vI i0] [sI i0, sR sb, sI i0, sR sb]) (fun t k => by
    refine st65 _ ?_
    show SP p e below T65 (mkF m 90 #[vR o0, vI i0, vI p2, vI p3, vR pa, vI i0] [sR sb]) _
    refine XS.iloadN X65.here hx rfl (hb hby d3_90) rfl ?_
    show SP p e below T65 (mkF m 91 #[vR o0, vI i0, vI p2, vI p3, vR pa, vI i0] [sI i0, sR sb]) _
    jvm_step X65.here [X65.here.top, hx, (hb hby d3_91), Value.category]
    exact k)
  have Vo67 := f57
  obtain ⟨cl67, Ar67, qa67, Sa67, Na67, Ha67, Ga67⟩ := Vo67
  have hin67 := inb_of (j := (0 : Int32)) Sa67 ⟨by decide, by decide⟩
  have hat67 : cl67.slots[((0 : Int32)).toNatClampNeg]? = some (.int x0) := Has.at Ha67 hin67 rfl
  have go68 := go66.st T65 (mkF m 95 #[vR o0, vI i0, vI p2, vI p3, vR pa, vI i0] [(sI (x0 + i1)), sI i0, sR sb]) (fun t k => by
    refine X65.iaload hx (j := (0 : Int32)) (v := (.int x0)) (by rw [e65]; exact Ar67.1) (State.isArrayOf_alike hZ.alike Ar67.2.1) Ar67.2.2 hin67 hat67 (g := (mkF m 92 #[vR o0, vI i0, vI p2, vI p3, vR pa, vI i0] [sI i0, sR sb, sI i0, sR sb])) rfl rfl (hb hby d3_92) _ ?_
    refine XS.iconst X65.here hx rfl (hb hby d3_93) ?_
    refine XS.iadd X65.here hx rfl (hb hby d3_94) rfl ?_
    exact k)
  have Vo69 := f57
  obtain ⟨cl69, Ar69, qa69, Sa69, Na69, Ha69, Ga69⟩ := Vo69
  have hin69 := inb_of (j := (0 : Int32)) Sa69 ⟨by decide, by decide⟩
  obtain ⟨T70, h70, X70, e70, W70, st70⟩ := stI X65 hx hZ e65 Ar69 (j := (0 : Int32)) hin69 (g := (mkF m 95 #[vR o0, vI i0, vI p2, vI p3, vR pa, vI i0] [(sI (x0 + i1)), sI i0, sR sb])) rfl rfl (hb hby d3_95)
  have V70 : Arv Z h70 sb k3 .int (16 : Int32) [(.int (x0 + (1 : Int32))), (.int x1)] (.int (0 : Int32)) := Arv.set Ar69 qa69 Sa69 Na69 Ha69 Ga69 rfl W70 0 rfl (Nat.le_of_ble_eq_true rfl)
  have f71 := f51.wr W70
  have f72 := Fld.other W70 f52 (Or.inl ne_o0_sb)
  have f73 := Fld.other W70 f53 (Or.inl ne_o0_sb)
  have f74 := Fld.other W70 f54 (Or.inl ne_o0_sb)
  have f75 := Fld.other W70 f55 (Or.inl ne_o0_sb)
  have f76 := Arv.other f56 W70 ne_pg_sb
  have f78 := Arv.other f58 W70 ne_pa_sb
  have Z70 : n0 ≤ h70.size := Nat.le_trans Z50 (Nat.le_of_eq W70.size.symm)
  have K70 := K50.wr W70 (Or.inl (List.mem_of_getElem? (i := 2) rfl))
  have N70 := Fr.snoc X70 N50 g_sb
  have go79 := go68.st T70 (mkF m 96 #[vR o0, vI i0, vI p2, vI p3, vR pa, vI i0] []) (fun t k => by
    refine st70 _ ?_
    exact k)
  obtain ⟨fs, hr, hrun, hended, hW, hsame⟩ := X70.leave (v := none) (fun _ => rfl)
  refine ⟨_, _, go79 _ ?_, hrun, hended, _, _, rfl, ?_, ⟨_, rfl⟩, hW, hsame.mono (by decide) (by decide)⟩
  · exact X70.returnOut hx Bd.returns (hb hby d3_96) hr
  · show Q_rm_add1_0 Z o0 p2 p3 pg k1 pa sb k2 k3 x0 x1 h0 n0 _ T70.heap _
    rw [e70]
    exact ⟨rfl, N70, K70, f71, f75, V70, f72, f73, f74, f78⟩
theorem pn_rm_add2_0 : plainName "com/example/graphkind/graphkind/TripleList" = true := by first | (simp [plainName, overriddenIn]; done) | decide +kernel
theorem ef_rm_add2_0 (m : MethodId) (o0 : Addr) (p2 : Int32) (p3 : Int32) : entryFrame m #[(.ref o0), (.int (0 : Int32)), (.int p2), (.int p3)] 6 = mkF m 0 #[.val (.ref o0), .val (.int (0 : Int32)), .val (.int p2), .val (.int p3), uu, uu] [] := by first | (simp [entryFrame, mkF, argsToLocals, Value.category]; done) | rfl
def Q_rm_add2_0 (Z : State) (o0 : Addr) (p2 : Int32) (p3 : Int32) (pg : Addr) (k1 : ClassId) (pa : Addr) (sb : Addr) (k2 : ClassId) (k3 : ClassId) (u0 : Int32) (u1 : Int32) (u2 : Int32) (x0 : Int32) (x1 : Int32) (h0 : Heap) (n0 : Nat) (v : Option Value) (h : Heap) (L : List Loc) : Prop := v = none ∧ Fr n0 L ∧ Keep h0 h [pa, o0, sb] ∧ Exa Z h o0 "com/example/graphkind/graphkind/TripleList" ∧ Fld Z h o0 "com/example/graphkind/graphkind/TripleList" "ofSubject" "[I" (.ref sb) ∧ Arv Z h sb k3 .int (16 : Int32) [(.int (x0 + (1 : Int32))), (.int x1)] (.int (0 : Int32))
set_option maxRecDepth 65536 in
set_option maxHeartbeats 40000000 in
theorem rm_add2_0 (l : Launch) (Z : State) (a0 : Array Value) (hw : ∀ d ∈ tables_1, d.before a0 Z = true) (ws : List Jvm.Cond) (o0 : Addr) (p2 : Int32) (p3 : Int32) (pg : Addr) (k1 : ClassId) (pa : Addr) (sb : Addr) (k2 : ClassId) (k3 : ClassId) (u0 : Int32) (u1 : Int32) (u2 : Int32) (x0 : Int32) (x1 : Int32) (h0 : Heap) (n0 : Nat) (Z0 : n0 ≤ h0.size) (E_o0 : Exa Z h0 o0 "com/example/graphkind/graphkind/TripleList") (F_pages_o0 : Fld Z h0 o0 "com/example/graphkind/graphkind/TripleList" "pages" "[[I" (.ref pg)) (F_size_o0 : Fld Z h0 o0 "com/example/graphkind/graphkind/TripleList" "size" "I" (.int (1 : Int32))) (F_room_o0 : Fld Z h0 o0 "com/example/graphkind/graphkind/TripleList" "room" "I" (.int (16 : Int32))) (F_ofSubject_o0 : Fld Z h0 o0 "com/example/graphkind/graphkind/TripleList" "ofSubject" "[I" (.ref sb)) (V_pg : Arv Z h0 pg k1 (.array .int) (1 : Int32) [(.ref pa)] .null) (V_pa : Arv Z h0 pa k2 .int (48 : Int32) [(.int u0), (.int u1), (.int u2), (.int (0 : Int32)), (.int (0 : Int32)), (.int (0 : Int32))] (.int (0 : Int32))) (V_sb : Arv Z h0 sb k3 .int (16 : Int32) [(.int x0), (.int x1)] (.int (0 : Int32))) (g_o0 : n0 ≤ o0) (g_pa : n0 ≤ pa) (g_sb : n0 ≤ sb) (ne_o0_pg : o0 ≠ pg) (ne_o0_pa : o0 ≠ pa) (ne_o0_sb : o0 ≠ sb) (ne_pg_pa : pg ≠ pa) (ne_pg_sb : pg ≠ sb) (ne_pa_sb : pa ≠ sb) :
    MetFree l yN1 (head1 (Jvm.Cond.code yN1 prog_12_method_3_code 6 none :: ws) ({ frames := 0, cells := 0, slots := 0, locals := 0 } : Room)) (fun a U => a = #[(.ref o0), (.int (0 : Int32)), (.int p2), (.int p3)] ∧ Z.Warmed39 U.vm ∧ U.heap = h0) (fun _ _ _ _ _ => True) (fun _ U o U' => ∃ v L, o = .returned v ∧ Q_rm_add2_0 Z o0 p2 p3 pg k1 pa sb k2 k3 u0 u1 u2 x0 x1 h0 n0 v U'.heap L ∧ FrameEnd U o U' L ({ frames := 0, cells := 0, slots := 0, locals := 0 } : Room).cells ({ frames := 0, cells := 0, slots := 0, locals := 0 } : Room).slots) := by
  refine MetFree.of_bodySF (plainFor_of_name pn_rm_add2_0) hisR ?_
  intro p e s m args below meth c s₁ Bd hml0 hP hK
  obtain ⟨rfl, hZ, hh⟩ := hP
  have hx := Bd.exec
  have hby := Bd.bytes
  have hml : c.maxLocals = 6 := hml0
  have hown : s.vm.findClass "com/example/graphkind/graphkind/TripleList" = some m.cls := findClass_of_methodNamed Bd.named
  have hnm := (name_of_methodNamed Bd.named Bd.method).1
  have X0 : Stand p l e ({ frames := 0, cells := 0, slots := 0, locals := 0 } : Room) s m #[(.ref o0), (.int (0 : Int32)), (.int p2), (.int p3)] below meth c s₁ [] 0 0 := Stand.of_body Bd
  have e0 : s₁.heap = h0 := by rw [← hh, Bd.state]; rfl
  have N0 := Fr.nil n0
  have K0 := Keep.refl h0 [pa, o0, sb]
  have go0 : Go p e below (s₁.setTop (entryFrame m #[(.ref o0), (.int (0 : Int32)), (.int p2), (.int p3)] 6)) (s₁.setTop (mkF m 0 #[vR o0, vI i0, vI p2, vI p3, uu, uu] [])) := fun t k => castTop (ef_rm_add2_0 m o0 p2 p3) k
  have go1 := go0.st s₁ (mkF m 1 #[vR o0, vI i0, vI p2, vI p3, uu, uu] [sR o0]) (fun t k => by
    refine XS.aloadN X0.here hx rfl (hb hby d3_0) rfl rfl ?_
    exact k)
  obtain ⟨T2, X2, e2, st2⟩ := getF X0 hx hZ hown (host := "") (Or.inl (wD hw 25 rfl)) Via.refl e0 F_size_o0 (g := (mkF m 1 #[vR o0, vI i0, vI p2, vI p3, uu, uu] [sR o0])) rfl rfl (hb hby d3_1)
  have go3 := go1.st T2 (mkF m 5 #[vR o0, vI i0, vI p2, vI p3, uu, uu] [sR o0, sI i1]) (fun t k => by
    refine st2 _ ?_
    show SP p e below T2 (mkF m 4 #[vR o0, vI i0, vI p2, vI p3, uu, uu] [sI i1]) _
    refine XS.aloadN X2.here hx rfl (hb hby d3_4) rfl rfl ?_
    exact k)
  obtain ⟨T4, X4, e4, st4⟩ := getF X2 hx hZ hown (host := "") (Or.inl (wD hw 16 rfl)) Via.refl e2 F_room_o0 (g := (mkF m 5 #[vR o0, vI i0, vI p2, vI p3, uu, uu] [sR o0, sI i1])) rfl rfl (hb hby d3_5)
  have go6 := go3.st T4 (mkF m 16 #[vR o0, vI i0, vI p2, vI p3, uu, uu] [sR o0]) (fun t k => by
    refine st4 _ ?_
    show SP p e below T4 (mkF m 8 #[vR o0, vI i0, vI p2, vI p3, uu, uu] [(sI (16 : Int32)), sI i1]) _
    refine XS.icmpYes X4.here hx rfl (pc0 := 8) (pc' := 15) rfl (hb hby d3_8) rfl (feq ((by decide) : ¬ ((1 : Int32) = (16 : Int32)))).2 (by decide) (by decide) ?_
    refine XS.aloadN X4.here hx rfl (hb hby d3_15) rfl rfl ?_
    exact k)
  obtain ⟨T7, X7, e7, st7⟩ := getF X4 hx hZ hown (host := "") (Or.inl (wD hw 14 rfl)) Via.refl e4 F_pages_o0 (g := (mkF m 16 #[vR o0, vI i0, vI p2, vI p3, uu, uu] [sR o0])) rfl rfl (hb hby d3_16)
  have go8 := go6.st T7 (mkF m 20 #[vR o0, vI i0, vI p2, vI p3, uu, uu] [sR o0, sR pg]) (fun t k => by
    refine st7 _ ?_
    show SP p e below T7 (mkF m 19 #[vR o0, vI i0, vI p2, vI p3, uu, uu] [sR pg]) _
    refine XS.aloadN X7.here hx rfl (hb hby d3_19) rfl rfl ?_
    exact k)
  obtain ⟨T9, X9, e9, st9⟩ := getF X7 hx hZ hown (host := "") (Or.inl (wD hw 25 rfl)) Via.refl e7 F_size_o0 (g := (mkF m 20 #[vR o0, vI i0, vI p2, vI p3, uu, uu] [sR o0, sR pg])) rfl rfl (hb hby d3_20)
  have go10 := go8.st T9 (mkF m 26 #[vR o0, vI i0, vI p2, vI p3, uu, uu] [sI i0, sR pg]) (fun t k => by
    refine st9 _ ?_
    show SP p e below T9 (mkF m 23 #[vR o0, vI i0, vI p2, vI p3, uu, uu] [sI i1, sR pg]) _
    refine X9.ldcInt hx hown (mvT hZ (wD hw 27 rfl)) (g := (mkF m 23 #[vR o0, vI i0, vI p2, vI p3, uu, uu] [sI i1, sR pg])) rfl (hb hby d3_23) _ ?_
    refine XS.idiv X9.here hx rfl (hb hby d3_25) rfl (by decide) ?_
    exact k)
  have Vo11 := V_pg
  obtain ⟨cl11, Ar11, qa11, Sa11, Na11, Ha11, Ga11⟩ := Vo11
  have hin11 := inb_of (j := (0 : Int32)) Sa11 ⟨by decide, by decide⟩
  have hat11 : cl11.slots[((0 : Int32)).toNatClampNeg]? = some (.ref pa) := Has.at Ha11 hin11 rfl
  have go12 := go10.st T9 (mkF m 30 #[vR o0, vI i0, vI p2, vI p3, vR pa, uu] [sR o0]) (fun t k => by
    refine X9.aaload hx (j := (0 : Int32)) (v := (.ref pa)) (by rw [e9]; exact Ar11.1) (State.isArrayOf_alike hZ.alike Ar11.2.1) rfl Ar11.2.2 hin11 hat11 (g := (mkF m 26 #[vR o0, vI i0, vI p2, vI p3, uu, uu] [sI i0, sR pg])) rfl rfl (hb hby d3_26) _ ?_
    refine XS.astore X9.here hx rfl (hb hby d3_27) rfl rfl (l' := #[vR o0, vI i0, vI p2, vI p3, vR pa, uu]) rfl ?_
    refine XS.aloadN X9.here hx rfl (hb hby d3_29) rfl rfl ?_
    exact k)
  obtain ⟨T13, X13, e13, st13⟩ := getF X9 hx hZ hown (host := "") (Or.inl (wD hw 25 rfl)) Via.refl e9 F_size_o0 (g := (mkF m 30 #[vR o0, vI i0, vI p2, vI p3, vR pa, uu] [sR o0])) rfl rfl (hb hby d3_30)
  have go14 := go12.st T13 (mkF m 45 #[vR o0, vI i0, vI p2, vI p3, vR pa, vI ((3 : Int32))] [sI i0, (sI (3 : Int32)), sR pa]) (fun t k => by
    refine st13 _ ?_
    show SP p e below T13 (mkF m 33 #[vR o0, vI i0, vI p2, vI p3, vR pa, uu] [sI i1]) _
    refine X13.ldcInt hx hown (mvT hZ (wD hw 27 rfl)) (g := (mkF m 33 #[vR o0, vI i0, vI p2, vI p3, vR pa, uu] [sI i1])) rfl (hb hby d3_33) _ ?_
    refine iremM X13 hx rfl (hb hby d3_35) rfl (by decide) ?_
    refine XS.iconst X13.here hx rfl (hb hby d3_36) ?_
    refine XS.imul X13.here hx rfl (hb hby d3_37) rfl ?_
    refine XS.istore X13.here hx rfl (hb hby d3_38) rfl (l' := #[vR o0, vI i0, vI p2, vI p3, vR pa, vI ((3 : Int32))]) rfl ?_
    refine XS.aload X13.here hx rfl (hb hby d3_40) rfl rfl ?_
    refine XS.iload X13.here hx rfl (hb hby d3_42) rfl ?_
    refine XS.iloadN X13.here hx rfl (hb hby d3_44) rfl ?_
    exact k)
  have Vo15 := V_pa
  obtain ⟨cl15, Ar15, qa15, Sa15, Na15, Ha15, Ga15⟩ := Vo15
  have hin15 := inb_of (j := (3 : Int32)) Sa15 ⟨by decide, by decide⟩
  obtain ⟨T16, h16, X16, e16, W16, st16⟩ := stI X13 hx hZ e13 Ar15 (j := (3 : Int32)) hin15 (g := (mkF m 45 #[vR o0, vI i0, vI p2, vI p3, vR pa, vI ((3 : Int32))] [sI i0, (sI (3 : Int32)), sR pa])) rfl rfl (hb hby d3_45)
  have V16 : Arv Z h16 pa k2 .int (48 : Int32) [(.int u0), (.int u1), (.int u2), (.int (0 : Int32)), (.int (0 : Int32)), (.int (0 : Int32))] (.int (0 : Int32)) := Arv.set Ar15 qa15 Sa15 Na15 Ha15 Ga15 rfl W16 3 rfl (Nat.le_of_ble_eq_true rfl)
  have f17 := E_o0.wr W16
  have f18 := Fld.other W16 F_pages_o0 (Or.inl ne_o0_pa)
  have f19 := Fld.other W16 F_size_o0 (Or.inl ne_o0_pa)
  have f20 := Fld.other W16 F_room_o0 (Or.inl ne_o0_pa)
  have f21 := Fld.other W16 F_ofSubject_o0 (Or.inl ne_o0_pa)
  have f22 := Arv.other V_pg W16 ne_pg_pa
  have f24 := Arv.other V_sb W16 (Ne.symm ne_pa_sb)
  have Z16 : n0 ≤ h16.size := Nat.le_trans Z0 (Nat.le_of_eq W16.size.symm)
  have K16 := K0.wr W16 (Or.inl (List.mem_of_getElem? (i := 0) rfl))
  have N16 := Fr.snoc X16 N0 g_pa
  have go25 := go14.st T16 (mkF m 53 #[vR o0, vI i0, vI p2, vI p3, vR pa, vI ((3 : Int32))] [sI p2, (sI (4 : Int32)), sR pa]) (fun t k => by
    refine st16 _ ?_
    show SP p e below T16 (mkF m 46 #[vR o0, vI i0, vI p2, vI p3, vR pa, vI ((3 : Int32))] []) _
    refine XS.aload X16.here hx rfl (hb hby d3_46) rfl rfl ?_
    refine XS.iload X16.here hx rfl (hb hby d3_48) rfl ?_
    refine XS.iconst X16.here hx rfl (hb hby d3_50) ?_
    refine XS.iadd X16.here hx rfl (hb hby d3_51) rfl ?_
    refine XS.iloadN X16.here hx rfl (hb hby d3_52) rfl ?_
    exact k)
  have Vo26 := V16
  obtain ⟨cl26, Ar26, qa26, Sa26, Na26, Ha26, Ga26⟩ := Vo26
  have hin26 := inb_of (j := (4 : Int32)) Sa26 ⟨by decide, by decide⟩
  obtain ⟨T27, h27, X27, e27, W27, st27⟩ := stI X16 hx hZ e16 Ar26 (j := (4 : Int32)) hin26 (g := (mkF m 53 #[vR o0, vI i0, vI p2, vI p3, vR pa, vI ((3 : Int32))] [sI p2, (sI (4 : Int32)), sR pa])) rfl rfl (hb hby d3_53)
  have V27 : Arv Z h27 pa k2 .int (48 : Int32) [(.int u0), (.int u1), (.int u2), (.int (0 : Int32)), (.int p2), (.int (0 : Int32))] (.int (0 : Int32)) := Arv.set Ar26 qa26 Sa26 Na26 Ha26 Ga26 rfl W27 4 rfl (Nat.le_of_ble_eq_true rfl)
  have f28 := f17.wr W27
  have f29 := Fld.other W27 f18 (Or.inl ne_o0_pa)
  have f30 := Fld.other W27 f19 (Or.inl ne_o0_pa)
  have f31 := Fld.other W27 f20 (Or.inl ne_o0_pa)
  have f32 := Fld.other W27 f21 (Or.inl ne_o0_pa)
  have f33 := Arv.other f22 W27 ne_pg_pa
  have f34 := Arv.other f24 W27 (Ne.symm ne_pa_sb)
  have Z27 : n0 ≤ h27.size := Nat.le_trans Z16 (Nat.le_of_eq W27.size.symm)
  have K27 := K16.wr W27 (Or.inl (List.mem_of_getElem? (i := 0) rfl))
  have N27 := Fr.snoc X27 N16 g_pa
  have go36 := go25.st T27 (mkF m 61 #[vR o0, vI i0, vI p2, vI p3, vR pa, vI ((3 : Int32))] [sI p3, (sI (5 : Int32)), sR pa]) (fun t k => by
    refine st27 _ ?_
    show SP p e below T27 (mkF m 54 #[vR o0, vI i0, vI p2, vI p3, vR pa, vI ((3 : Int32))] []) _
    refine XS.aload X27.here hx rfl (hb hby d3_54) rfl rfl ?_
    refine XS.iload X27.here hx rfl (hb hby d3_56) rfl ?_
    refine XS.iconst X27.here hx rfl (hb hby d3_58) ?_
    refine XS.iadd X27.here hx rfl (hb hby d3_59) rfl ?_
    refine XS.iloadN X27.here hx rfl (hb hby d3_60) rfl ?_
    exact k)
  have Vo37 := V27
  obtain ⟨cl37, Ar37, qa37, Sa37, Na37, Ha37, Ga37⟩ := Vo37
  have hin37 := inb_of (j := (5 : Int32)) Sa37 ⟨by decide, by decide⟩
  obtain ⟨T38, h38, X38, e38, W38, st38⟩ := stI X27 hx hZ e27 Ar37 (j := (5 : Int32)) hin37 (g := (mkF m 61 #[vR o0, vI i0, vI p2, vI p3, vR pa, vI ((3 : Int32))] [sI p3, (sI (5 : Int32)), sR pa])) rfl rfl (hb hby d3_61)
  have V38 : Arv Z h38 pa k2 .int (48 : Int32) [(.int u0), (.int u1), (.int u2), (.int (0 : Int32)), (.int p2), (.int p3)] (.int (0 : Int32)) := Arv.set Ar37 qa37 Sa37 Na37 Ha37 Ga37 rfl W38 5 rfl (Nat.le_of_ble_eq_true rfl)
  have f39 := f28.wr W38
  have f40 := Fld.other W38 f29 (Or.inl ne_o0_pa)
  have f41 := Fld.other W38 f30 (Or.inl ne_o0_pa)
  have f42 := Fld.other W38 f31 (Or.inl ne_o0_pa)
  have f43 := Fld.other W38 f32 (Or.inl ne_o0_pa)
  have f44 := Arv.other f33 W38 ne_pg_pa
  have f45 := Arv.other f34 W38 (Ne.symm ne_pa_sb)
  have Z38 : n0 ≤ h38.size := Nat.le_trans Z27 (Nat.le_of_eq W38.size.symm)
  have K38 := K27.wr W38 (Or.inl (List.mem_of_getElem? (i := 0) rfl))
  have N38 := Fr.snoc X38 N27 g_pa
  have go47 := go36.st T38 (mkF m 64 #[vR o0, vI i0, vI p2, vI p3, vR pa, vI ((3 : Int32))] [sR o0, sR o0]) (fun t k => by
    refine st38 _ ?_
    show SP p e below T38 (mkF m 62 #[vR o0, vI i0, vI p2, vI p3, vR pa, vI ((3 : Int32))] []) _
    refine XS.aloadN X38.here hx rfl (hb hby d3_62) rfl rfl ?_
    refine XS.dup X38.here hx rfl (hb hby d3_63) rfl rfl ?_
    exact k)
  obtain ⟨T48, X48, e48, st48⟩ := getF X38 hx hZ hown (host := "") (Or.inl (wD hw 25 rfl)) Via.refl e38 f41 (g := (mkF m 64 #[vR o0, vI i0, vI p2, vI p3, vR pa, vI ((3 : Int32))] [sR o0, sR o0])) rfl rfl (hb hby d3_64)
  have go49 := go47.st T48 (mkF m 69 #[vR o0, vI i0, vI p2, vI p3, vR pa, vI ((3 : Int32))] [sI i2, sR o0]) (fun t k => by
    refine st48 _ ?_
    show SP p e below T48 (mkF m 67 #[vR o0, vI i0, vI p2, vI p3, vR pa, vI ((3 : Int32))] [sI i1, sR o0]) _
    refine XS.iconst X48.here hx rfl (hb hby d3_67) ?_
    refine XS.iadd X48.here hx rfl (hb hby d3_68) rfl ?_
    exact k)
  obtain ⟨T50, h50, X50, e50, W50, st50⟩ := putF X48 hx hZ hown (host := "") (Or.inl (wD hw 25 rfl)) Via.refl e48 f41 f39 (Or.inl (wD hw 26 rfl)) (wD hw 2 rfl) (ty := .int) (by decide) rfl rfl (g := (mkF m 69 #[vR o0, vI i0, vI p2, vI p3, vR pa, vI ((3 : Int32))] [sI i2, sR o0])) rfl rfl (hb hby d3_69)
  have f51 := f39.wr W50
  have f52 := Fld.other W50 f40 (Or.inr (slot_ne (Or.inl (wD hw 15 rfl)) (Or.inl (wD hw 26 rfl)) (by decide) (t := (.array (.array .int))) (t' := .int) (by decide) (by decide)))
  have f53 := Fld.same W50 f41
  have f54 := Fld.other W50 f42 (Or.inr (slot_ne (Or.inl (wD hw 17 rfl)) (Or.inl (wD hw 26 rfl)) (by decide) (t := .int) (t' := .int) (by decide) (by decide)))
  have f55 := Fld.other W50 f43 (Or.inr (slot_ne (Or.inl (wD hw 19 rfl)) (Or.inl (wD hw 26 rfl)) (by decide) (t := (.array .int)) (t' := .int) (by decide) (by decide)))
  have f56 := Arv.other f44 W50 (Ne.symm ne_o0_pg)
  have f57 := Arv.other f45 W50 (Ne.symm ne_o0_sb)
  have f58 := Arv.other V38 W50 (Ne.symm ne_o0_pa)
  have Z50 : n0 ≤ h50.size := Nat.le_trans Z38 (Nat.le_of_eq W50.size.symm)
  have K50 := K38.wr W50 (Or.inl (List.mem_of_getElem? (i := 1) rfl))
  have N50 := Fr.snoc X50 N38 g_o0
  have go59 := go49.st T50 (mkF m 74 #[vR o0, vI i0, vI p2, vI p3, vR pa, vI ((3 : Int32))] [sR o0, sI i0]) (fun t k => by
    refine st50 _ ?_
    show SP p e below T50 (mkF m 72 #[vR o0, vI i0, vI p2, vI p3, vR pa, vI ((3 : Int32))] []) _
    refine XS.iloadN X50.here hx rfl (hb hby d3_72) rfl ?_
    refine XS.aloadN X50.here hx rfl (hb hby d3_73) rfl rfl ?_
    exact k)
  obtain ⟨T60, X60, e60, st60⟩ := getF X50 hx hZ hown (host := "") (Or.inl (wD hw 18 rfl)) Via.refl e50 f55 (g := (mkF m 74 #[vR o0, vI i0, vI p2, vI p3, vR pa, vI ((3 : Int32))] [sR o0, sI i0])) rfl rfl (hb hby d3_74)
  have go61 := go59.st T60 (mkF m 77 #[vR o0, vI i0, vI p2, vI p3, vR pa, vI ((3 : Int32))] [sR sb, sI i0]) (fun t k => by
    refine st60 _ ?_
    exact k)
  have Vo62 := f57
  obtain ⟨cl62, Ar62, qa62, Sa62, Na62, Ha62, Ga62⟩ := Vo62
  have go64 := go61.st T60 (mkF m 87 #[vR o0, vI i0, vI p2, vI p3, vR pa, vI ((3 : Int32))] [sR o0]) (fun t k => by
    refine X60.arraylength hx (by rw [e60]; exact Ar62.1) (State.isArrayOf_alike hZ.alike Ar62.2.1) (g := (mkF m 77 #[vR o0, vI i0, vI p2, vI p3, vR pa, vI ((3 : Int32))] [sR sb, sI i0])) rfl rfl (hb hby d3_77) _ ?_
    rw [len_of Sa62 Na62]
    refine XS.icmpYes X60.here hx rfl (pc0 := 78) (pc' := 86) rfl (hb hby d3_78) rfl (tlt ((by decide) : (0 : Int32) < (16 : Int32))).1 (by decide) (by decide) ?_
    refine XS.aloadN X60.here hx rfl (hb hby d3_86) rfl rfl ?_
    exact k)
  obtain ⟨T65, X65, e65, st65⟩ := getF X60 hx hZ hown (host := "") (Or.inl (wD hw 18 rfl)) Via.refl e60 f55 (g := (mkF m 87 #[vR o0, vI i0, vI p2, vI p3, vR pa, vI ((3 : Int32))] [sR o0])) rfl rfl (hb hby d3_87)
  have go66 := go64.st T65 (mkF m 92 #[vR o0, vI i0, vI p2, vI p3, vR pa, vI ((3 : Int32))] [sI i0, sR sb, sI i0, sR sb]) (fun t k => by
    refine st65 _ ?_
    show SP p e below T65 (mkF m 90 #[vR o0, vI i0, vI p2, vI p3, vR pa, vI ((3 : Int32))] [sR sb]) _
    refine XS.iloadN X65.here hx rfl (hb hby d3_90) rfl ?_
    show SP p e below T65 (mkF m 91 #[vR o0, vI i0, vI p2, vI p3, vR pa, vI ((3 : Int32))] [sI i0, sR sb]) _
    jvm_step X65.here [X65.here.top, hx, (hb hby d3_91), Value.category]
    exact k)
  have Vo67 := f57
  obtain ⟨cl67, Ar67, qa67, Sa67, Na67, Ha67, Ga67⟩ := Vo67
  have hin67 := inb_of (j := (0 : Int32)) Sa67 ⟨by decide, by decide⟩
  have hat67 : cl67.slots[((0 : Int32)).toNatClampNeg]? = some (.int x0) := Has.at Ha67 hin67 rfl
  have go68 := go66.st T65 (mkF m 95 #[vR o0, vI i0, vI p2, vI p3, vR pa, vI ((3 : Int32))] [(sI (x0 + i1)), sI i0, sR sb]) (fun t k => by
    refine X65.iaload hx (j := (0 : Int32)) (v := (.int x0)) (by rw [e65]; exact Ar67.1) (State.isArrayOf_alike hZ.alike Ar67.2.1) Ar67.2.2 hin67 hat67 (g := (mkF m 92 #[vR o0, vI i0, vI p2, vI p3, vR pa, vI ((3 : Int32))] [sI i0, sR sb, sI i0, sR sb])) rfl rfl (hb hby d3_92) _ ?_
    refine XS.iconst X65.here hx rfl (hb hby d3_93) ?_
    refine XS.iadd X65.here hx rfl (hb hby d3_94) rfl ?_
    exact k)
  have Vo69 := f57
  obtain ⟨cl69, Ar69, qa69, Sa69, Na69, Ha69, Ga69⟩ := Vo69
  have hin69 := inb_of (j := (0 : Int32)) Sa69 ⟨by decide, by decide⟩
  obtain ⟨T70, h70, X70, e70, W70, st70⟩ := stI X65 hx hZ e65 Ar69 (j := (0 : Int32)) hin69 (g := (mkF m 95 #[vR o0, vI i0, vI p2, vI p3, vR pa, vI ((3 : Int32))] [(sI (x0 + i1)), sI i0, sR sb])) rfl rfl (hb hby d3_95)
  have V70 : Arv Z h70 sb k3 .int (16 : Int32) [(.int (x0 + (1 : Int32))), (.int x1)] (.int (0 : Int32)) := Arv.set Ar69 qa69 Sa69 Na69 Ha69 Ga69 rfl W70 0 rfl (Nat.le_of_ble_eq_true rfl)
  have f71 := f51.wr W70
  have f72 := Fld.other W70 f52 (Or.inl ne_o0_sb)
  have f73 := Fld.other W70 f53 (Or.inl ne_o0_sb)
  have f74 := Fld.other W70 f54 (Or.inl ne_o0_sb)
  have f75 := Fld.other W70 f55 (Or.inl ne_o0_sb)
  have f76 := Arv.other f56 W70 ne_pg_sb
  have f78 := Arv.other f58 W70 ne_pa_sb
  have Z70 : n0 ≤ h70.size := Nat.le_trans Z50 (Nat.le_of_eq W70.size.symm)
  have K70 := K50.wr W70 (Or.inl (List.mem_of_getElem? (i := 2) rfl))
  have N70 := Fr.snoc X70 N50 g_sb
  have go79 := go68.st T70 (mkF m 96 #[vR o0, vI i0, vI p2, vI p3, vR pa, vI ((3 : Int32))] []) (fun t k => by
    refine st70 _ ?_
    exact k)
  obtain ⟨fs, hr, hrun, hended, hW, hsame⟩ := X70.leave (v := none) (fun _ => rfl)
  refine ⟨_, _, go79 _ ?_, hrun, hended, _, _, rfl, ?_, ⟨_, rfl⟩, hW, hsame.mono (by decide) (by decide)⟩
  · exact X70.returnOut hx Bd.returns (hb hby d3_96) hr
  · show Q_rm_add2_0 Z o0 p2 p3 pg k1 pa sb k2 k3 u0 u1 u2 x0 x1 h0 n0 _ T70.heap _
    rw [e70]
    exact ⟨rfl, N70, K70, f71, f75, V70⟩
theorem pn_rm_add1_1 : plainName "com/example/graphkind/graphkind/TripleList" = true := by first | (simp [plainName, overriddenIn]; done) | decide +kernel
theorem ef_rm_add1_1 (m : MethodId) (o0 : Addr) (p2 : Int32) (p3 : Int32) : entryFrame m #[(.ref o0), (.int (1 : Int32)), (.int p2), (.int p3)] 6 = mkF m 0 #[.val (.ref o0), .val (.int (1 : Int32)), .val (.int p2), .val (.int p3), uu, uu] [] := by first | (simp [entryFrame, mkF, argsToLocals, Value.category]; done) | rfl
def Q_rm_add1_1 (Z : State) (o0 : Addr) (p2 : Int32) (p3 : Int32) (pg : Addr) (k1 : ClassId) (pa : Addr) (sb : Addr) (k2 : ClassId) (k3 : ClassId) (x0 : Int32) (x1 : Int32) (h0 : Heap) (n0 : Nat) (v : Option Value) (h : Heap) (L : List Loc) : Prop := v = none ∧ Fr n0 L ∧ Keep h0 h [pa, o0, sb] ∧ Exa Z h o0 "com/example/graphkind/graphkind/TripleList" ∧ Fld Z h o0 "com/example/graphkind/graphkind/TripleList" "ofSubject" "[I" (.ref sb) ∧ Arv Z h sb k3 .int (16 : Int32) [(.int x0), (.int (x1 + (1 : Int32)))] (.int (0 : Int32)) ∧ Fld Z h o0 "com/example/graphkind/graphkind/TripleList" "pages" "[[I" (.ref pg) ∧ Fld Z h o0 "com/example/graphkind/graphkind/TripleList" "size" "I" (.int (1 : Int32)) ∧ Fld Z h o0 "com/example/graphkind/graphkind/TripleList" "room" "I" (.int (16 : Int32)) ∧ Arv Z h pa k2 .int (48 : Int32) [(.int (1 : Int32)), (.int p2), (.int p3), (.int (0 : Int32)), (.int (0 : Int32)), (.int (0 : Int32))] (.int (0 : Int32))
set_option maxRecDepth 65536 in
set_option maxHeartbeats 40000000 in
theorem rm_add1_1 (l : Launch) (Z : State) (a0 : Array Value) (hw : ∀ d ∈ tables_1, d.before a0 Z = true) (ws : List Jvm.Cond) (o0 : Addr) (p2 : Int32) (p3 : Int32) (pg : Addr) (k1 : ClassId) (pa : Addr) (sb : Addr) (k2 : ClassId) (k3 : ClassId) (x0 : Int32) (x1 : Int32) (h0 : Heap) (n0 : Nat) (Z0 : n0 ≤ h0.size) (E_o0 : Exa Z h0 o0 "com/example/graphkind/graphkind/TripleList") (F_pages_o0 : Fld Z h0 o0 "com/example/graphkind/graphkind/TripleList" "pages" "[[I" (.ref pg)) (F_size_o0 : Fld Z h0 o0 "com/example/graphkind/graphkind/TripleList" "size" "I" (.int (0 : Int32))) (F_room_o0 : Fld Z h0 o0 "com/example/graphkind/graphkind/TripleList" "room" "I" (.int (16 : Int32))) (F_ofSubject_o0 : Fld Z h0 o0 "com/example/graphkind/graphkind/TripleList" "ofSubject" "[I" (.ref sb)) (V_pg : Arv Z h0 pg k1 (.array .int) (1 : Int32) [(.ref pa)] .null) (V_pa : Arv Z h0 pa k2 .int (48 : Int32) [(.int (0 : Int32)), (.int (0 : Int32)), (.int (0 : Int32)), (.int (0 : Int32)), (.int (0 : Int32)), (.int (0 : Int32))] (.int (0 : Int32))) (V_sb : Arv Z h0 sb k3 .int (16 : Int32) [(.int x0), (.int x1)] (.int (0 : Int32))) (g_o0 : n0 ≤ o0) (g_pa : n0 ≤ pa) (g_sb : n0 ≤ sb) (ne_o0_pg : o0 ≠ pg) (ne_o0_pa : o0 ≠ pa) (ne_o0_sb : o0 ≠ sb) (ne_pg_pa : pg ≠ pa) (ne_pg_sb : pg ≠ sb) (ne_pa_sb : pa ≠ sb) :
    MetFree l yN1 (head1 (Jvm.Cond.code yN1 prog_12_method_3_code 6 none :: ws) ({ frames := 0, cells := 0, slots := 0, locals := 0 } : Room)) (fun a U => a = #[(.ref o0), (.int (1 : Int32)), (.int p2), (.int p3)] ∧ Z.Warmed39 U.vm ∧ U.heap = h0) (fun _ _ _ _ _ => True) (fun _ U o U' => ∃ v L, o = .returned v ∧ Q_rm_add1_1 Z o0 p2 p3 pg k1 pa sb k2 k3 x0 x1 h0 n0 v U'.heap L ∧ FrameEnd U o U' L ({ frames := 0, cells := 0, slots := 0, locals := 0 } : Room).cells ({ frames := 0, cells := 0, slots := 0, locals := 0 } : Room).slots) := by
  refine MetFree.of_bodySF (plainFor_of_name pn_rm_add1_1) hisR ?_
  intro p e s m args below meth c s₁ Bd hml0 hP hK
  obtain ⟨rfl, hZ, hh⟩ := hP
  have hx := Bd.exec
  have hby := Bd.bytes
  have hml : c.maxLocals = 6 := hml0
  have hown : s.vm.findClass "com/example/graphkind/graphkind/TripleList" = some m.cls := findClass_of_methodNamed Bd.named
  have hnm := (name_of_methodNamed Bd.named Bd.method).1
  have X0 : Stand p l e ({ frames := 0, cells := 0, slots := 0, locals := 0 } : Room) s m #[(.ref o0), (.int (1 : Int32)), (.int p2), (.int p3)] below meth c s₁ [] 0 0 := Stand.of_body Bd
  have e0 : s₁.heap = h0 := by rw [← hh, Bd.state]; rfl
  have N0 := Fr.nil n0
  have K0 := Keep.refl h0 [pa, o0, sb]
  have go0 : Go p e below (s₁.setTop (entryFrame m #[(.ref o0), (.int (1 : Int32)), (.int p2), (.int p3)] 6)) (s₁.setTop (mkF m 0 #[vR o0, vI i1, vI p2, vI p3, uu, uu] [])) := fun t k => castTop (ef_rm_add1_1 m o0 p2 p3) k
  have go1 := go0.st s₁ (mkF m 1 #[vR o0, vI i1, vI p2, vI p3, uu, uu] [sR o0]) (fun t k => by
    refine XS.aloadN X0.here hx rfl (hb hby d3_0) rfl rfl ?_
    exact k)
  obtain ⟨T2, X2, e2, st2⟩ := getF X0 hx hZ hown (host := "") (Or.inl (wD hw 25 rfl)) Via.refl e0 F_size_o0 (g := (mkF m 1 #[vR o0, vI i1, vI p2, vI p3, uu, uu] [sR o0])) rfl rfl (hb hby d3_1)
  have go3 := go1.st T2 (mkF m 5 #[vR o0, vI i1, vI p2, vI p3, uu, uu] [sR o0, sI i0]) (fun t k => by
    refine st2 _ ?_
    show SP p e below T2 (mkF m 4 #[vR o0, vI i1, vI p2, vI p3, uu, uu] [sI i0]) _
    refine XS.aloadN X2.here hx rfl (hb hby d3_4) rfl rfl ?_
    exact k)
  obtain ⟨T4, X4, e4, st4⟩ := getF X2 hx hZ hown (host := "") (Or.inl (wD hw 16 rfl)) Via.refl e2 F_room_o0 (g := (mkF m 5 #[vR o0, vI i1, vI p2, vI p3, uu, uu] [sR o0, sI i0])) rfl rfl (hb hby d3_5)
  have go6 := go3.st T4 (mkF m 16 #[vR o0, vI i1, vI p2, vI p3, uu, uu] [sR o0]) (fun t k => by
    refine st4 _ ?_
    show SP p e below T4 (mkF m 8 #[vR o0, vI i1, vI p2, vI p3, uu, uu] [(sI (16 : Int32)), sI i0]) _
    refine XS.icmpYes X4.here hx rfl (pc0 := 8) (pc' := 15) rfl (hb hby d3_8) rfl (feq ((by decide) : ¬ ((0 : Int32) = (16 : Int32)))).2 (by decide) (by decide) ?_
    refine XS.aloadN X4.here hx rfl (hb hby d3_15) rfl rfl ?_
    exact k)
  obtain ⟨T7, X7, e7, st7⟩ := getF X4 hx hZ hown (host := "") (Or.inl (wD hw 14 rfl)) Via.refl e4 F_pages_o0 (g := (mkF m 16 #[vR o0, vI i1, vI p2, vI p3, uu, uu] [sR o0])) rfl rfl (hb hby d3_16)
  have go8 := go6.st T7 (mkF m 20 #[vR o0, vI i1, vI p2, vI p3, uu, uu] [sR o0, sR pg]) (fun t k => by
    refine st7 _ ?_
    show SP p e below T7 (mkF m 19 #[vR o0, vI i1, vI p2, vI p3, uu, uu] [sR pg]) _
    refine XS.aloadN X7.here hx rfl (hb hby d3_19) rfl rfl ?_
    exact k)
  obtain ⟨T9, X9, e9, st9⟩ := getF X7 hx hZ hown (host := "") (Or.inl (wD hw 25 rfl)) Via.refl e7 F_size_o0 (g := (mkF m 20 #[vR o0, vI i1, vI p2, vI p3, uu, uu] [sR o0, sR pg])) rfl rfl (hb hby d3_20)
  have go10 := go8.st T9 (mkF m 26 #[vR o0, vI i1, vI p2, vI p3, uu, uu] [sI i0, sR pg]) (fun t k => by
    refine st9 _ ?_
    show SP p e below T9 (mkF m 23 #[vR o0, vI i1, vI p2, vI p3, uu, uu] [sI i0, sR pg]) _
    refine X9.ldcInt hx hown (mvT hZ (wD hw 27 rfl)) (g := (mkF m 23 #[vR o0, vI i1, vI p2, vI p3, uu, uu] [sI i0, sR pg])) rfl (hb hby d3_23) _ ?_
    refine XS.idiv X9.here hx rfl (hb hby d3_25) rfl (by decide) ?_
    exact k)
  have Vo11 := V_pg
  obtain ⟨cl11, Ar11, qa11, Sa11, Na11, Ha11, Ga11⟩ := Vo11
  have hin11 := inb_of (j := (0 : Int32)) Sa11 ⟨by decide, by decide⟩
  have hat11 : cl11.slots[((0 : Int32)).toNatClampNeg]? = some (.ref pa) := Has.at Ha11 hin11 rfl
  have go12 := go10.st T9 (mkF m 30 #[vR o0, vI i1, vI p2, vI p3, vR pa, uu] [sR o0]) (fun t k => by
    refine X9.aaload hx (j := (0 : Int32)) (v := (.ref pa)) (by rw [e9]; exact Ar11.1) (State.isArrayOf_alike hZ.alike Ar11.2.1) rfl Ar11.2.2 hin11 hat11 (g := (mkF m 26 #[vR o0, vI i1, vI p2, vI p3, uu, uu] [sI i0, sR pg])) rfl rfl (hb hby d3_26) _ ?_
    refine XS.astore X9.here hx rfl (hb hby d3_27) rfl rfl (l' := #[vR o0, vI i1, vI p2, vI p3, vR pa, uu]) rfl ?_
    refine XS.aloadN X9.here hx rfl (hb hby d3_29) rfl rfl ?_
    exact k)
  obtain ⟨T13, X13, e13, st13⟩ := getF X9 hx hZ hown (host := "") (Or.inl (wD hw 25 rfl)) Via.refl e9 F_size_o0 (g := (mkF m 30 #[vR o0, vI i1, vI p2, vI p3, vR pa, uu] [sR o0])) rfl rfl (hb hby d3_30)
  have go14 := go12.st T13 (mkF m 45 #[vR o0, vI i1, vI p2, vI p3, vR pa, vI i0] [sI i1, sI i0, sR pa]) (fun t k => by
    refine st13 _ ?_
    show SP p e below T13 (mkF m 33 #[vR o0, vI i1, vI p2, vI p3, vR pa, uu] [sI i0]) _
    refine X13.ldcInt hx hown (mvT hZ (wD hw 27 rfl)) (g := (mkF m 33 #[vR o0, vI i1, vI p2, vI p3, vR pa, uu] [sI i0])) rfl (hb hby d3_33) _ ?_
    refine iremM X13 hx rfl (hb hby d3_35) rfl (by decide) ?_
    refine XS.iconst X13.here hx rfl (hb hby d3_36) ?_
    refine XS.imul X13.here hx rfl (hb hby d3_37) rfl ?_
    refine XS.istore X13.here hx rfl (hb hby d3_38) rfl (l' := #[vR o0, vI i1, vI p2, vI p3, vR pa, vI i0]) rfl ?_
    refine XS.aload X13.here hx rfl (hb hby d3_40) rfl rfl ?_
    refine XS.iload X13.here hx rfl (hb hby d3_42) rfl ?_
    refine XS.iloadN X13.here hx rfl (hb hby d3_44) rfl ?_
    exact k)
  have Vo15 := V_pa
  obtain ⟨cl15, Ar15, qa15, Sa15, Na15, Ha15, Ga15⟩ := Vo15
  have hin15 := inb_of (j := (0 : Int32)) Sa15 ⟨by decide, by decide⟩
  obtain ⟨T16, h16, X16, e16, W16, st16⟩ := stI X13 hx hZ e13 Ar15 (j := (0 : Int32)) hin15 (g := (mkF m 45 #[vR o0, vI i1, vI p2, vI p3, vR pa, vI i0] [sI i1, sI i0, sR pa])) rfl rfl (hb hby d3_45)
  have V16 : Arv Z h16 pa k2 .int (48 : Int32) [(.int (1 : Int32)), (.int (0 : Int32)), (.int (0 : Int32)), (.int (0 : Int32)), (.int (0 : Int32)), (.int (0 : Int32))] (.int (0 : Int32)) := Arv.set Ar15 qa15 Sa15 Na15 Ha15 Ga15 rfl W16 0 rfl (Nat.le_of_ble_eq_true rfl)
  have f17 := E_o0.wr W16
  have f18 := Fld.other W16 F_pages_o0 (Or.inl ne_o0_pa)
  have f19 := Fld.other W16 F_size_o0 (Or.inl ne_o0_pa)
  have f20 := Fld.other W16 F_room_o0 (Or.inl ne_o0_pa)
  have f21 := Fld.other W16 F_ofSubject_o0 (Or.inl ne_o0_pa)
  have f22 := Arv.other V_pg W16 ne_pg_pa
  have f24 := Arv.other V_sb W16 (Ne.symm ne_pa_sb)
  have Z16 : n0 ≤ h16.size := Nat.le_trans Z0 (Nat.le_of_eq W16.size.symm)
  have K16 := K0.wr W16 (Or.inl (List.mem_of_getElem? (i := 0) rfl))
  have N16 := Fr.snoc X16 N0 g_pa
  have go25 := go14.st T16 (mkF m 53 #[vR o0, vI i1, vI p2, vI p3, vR pa, vI i0] [sI p2, sI i1, sR pa]) (fun t k => by
    refine st16 _ ?_
    show SP p e below T16 (mkF m 46 #[vR o0, vI i1, vI p2, vI p3, vR pa, vI i0] []) _
    refine XS.aload X16.here hx rfl (hb hby d3_46) rfl rfl ?_
    refine XS.iload X16.here hx rfl (hb hby d3_48) rfl ?_
    refine XS.iconst X16.here hx rfl (hb hby d3_50) ?_
    refine XS.iadd X16.here hx rfl (hb hby d3_51) rfl ?_
    refine XS.iloadN X16.here hx rfl (hb hby d3_52) rfl ?_
    exact k)
  have Vo26 := V16
  obtain ⟨cl26, Ar26, qa26, Sa26, Na26, Ha26, Ga26⟩ := Vo26
  have hin26 := inb_of (j := (1 : Int32)) Sa26 ⟨by decide, by decide⟩
  obtain ⟨T27, h27, X27, e27, W27, st27⟩ := stI X16 hx hZ e16 Ar26 (j := (1 : Int32)) hin26 (g := (mkF m 53 #[vR o0, vI i1, vI p2, vI p3, vR pa, vI i0] [sI p2, sI i1, sR pa])) rfl rfl (hb hby d3_53)
  have V27 : Arv Z h27 pa k2 .int (48 : Int32) [(.int (1 : Int32)), (.int p2), (.int (0 : Int32)), (.int (0 : Int32)), (.int (0 : Int32)), (.int (0 : Int32))] (.int (0 : Int32)) := Arv.set Ar26 qa26 Sa26 Na26 Ha26 Ga26 rfl W27 1 rfl (Nat.le_of_ble_eq_true rfl)
  have f28 := f17.wr W27
  have f29 := Fld.other W27 f18 (Or.inl ne_o0_pa)
  have f30 := Fld.other W27 f19 (Or.inl ne_o0_pa)
  have f31 := Fld.other W27 f20 (Or.inl ne_o0_pa)
  have f32 := Fld.other W27 f21 (Or.inl ne_o0_pa)
  have f33 := Arv.other f22 W27 ne_pg_pa
  have f34 := Arv.other f24 W27 (Ne.symm ne_pa_sb)
  have Z27 : n0 ≤ h27.size := Nat.le_trans Z16 (Nat.le_of_eq W27.size.symm)
  have K27 := K16.wr W27 (Or.inl (List.mem_of_getElem? (i := 0) rfl))
  have N27 := Fr.snoc X27 N16 g_pa
  have go36 := go25.st T27 (mkF m 61 #[vR o0, vI i1, vI p2, vI p3, vR pa, vI i0] [sI p3, sI i2, sR pa]) (fun t k => by
    refine st27 _ ?_
    show SP p e below T27 (mkF m 54 #[vR o0, vI i1, vI p2, vI p3, vR pa, vI i0] []) _
    refine XS.aload X27.here hx rfl (hb hby d3_54) rfl rfl ?_
    refine XS.iload X27.here hx rfl (hb hby d3_56) rfl ?_
    refine XS.iconst X27.here hx rfl (hb hby d3_58) ?_
    refine XS.iadd X27.here hx rfl (hb hby d3_59) rfl ?_
    refine XS.iloadN X27.here hx rfl (hb hby d3_60) rfl ?_
    exact k)
  have Vo37 := V27
  obtain ⟨cl37, Ar37, qa37, Sa37, Na37, Ha37, Ga37⟩ := Vo37
  have hin37 := inb_of (j := (2 : Int32)) Sa37 ⟨by decide, by decide⟩
  obtain ⟨T38, h38, X38, e38, W38, st38⟩ := stI X27 hx hZ e27 Ar37 (j := (2 : Int32)) hin37 (g := (mkF m 61 #[vR o0, vI i1, vI p2, vI p3, vR pa, vI i0] [sI p3, sI i2, sR pa])) rfl rfl (hb hby d3_61)
  have V38 : Arv Z h38 pa k2 .int (48 : Int32) [(.int (1 : Int32)), (.int p2), (.int p3), (.int (0 : Int32)), (.int (0 : Int32)), (.int (0 : Int32))] (.int (0 : Int32)) := Arv.set Ar37 qa37 Sa37 Na37 Ha37 Ga37 rfl W38 2 rfl (Nat.le_of_ble_eq_true rfl)
  have f39 := f28.wr W38
  have f40 := Fld.other W38 f29 (Or.inl ne_o0_pa)
  have f41 := Fld.other W38 f30 (Or.inl ne_o0_pa)
  have f42 := Fld.other W38 f31 (Or.inl ne_o0_pa)
  have f43 := Fld.other W38 f32 (Or.inl ne_o0_pa)
  have f44 := Arv.other f33 W38 ne_pg_pa
  have f45 := Arv.other f34 W38 (Ne.symm ne_pa_sb)
  have Z38 : n0 ≤ h38.size := Nat.le_trans Z27 (Nat.le_of_eq W38.size.symm)
  have K38 := K27.wr W38 (Or.inl (List.mem_of_getElem? (i := 0) rfl))
  have N38 := Fr.snoc X38 N27 g_pa
  have go47 := go36.st T38 (mkF m 64 #[vR o0, vI i1, vI p2, vI p3, vR pa, vI i0] [sR o0, sR o0]) (fun t k => by
    refine st38 _ ?_
    show SP p e below T38 (mkF m 62 #[vR o0, vI i1, vI p2, vI p3, vR pa, vI i0] []) _
    refine XS.aloadN X38.here hx rfl (hb hby d3_62) rfl rfl ?_
    refine XS.dup X38.here hx rfl (hb hby d3_63) rfl rfl ?_
    exact k)
  obtain ⟨T48, X48, e48, st48⟩ := getF X38 hx hZ hown (host := "") (Or.inl (wD hw 25 rfl)) Via.refl e38 f41 (g := (mkF m 64 #[vR o0, vI i1, vI p2, vI p3, vR pa, vI i0] [sR o0, sR o0])) rfl rfl (hb hby d3_64)
  have go49 := go47.st T48 (mkF m 69 #[vR o0, vI i1, vI p2, vI p3, vR pa, vI i0] [sI i1, sR o0]) (fun t k => by
    refine st48 _ ?_
    show SP p e below T48 (mkF m 67 #[vR o0, vI i1, vI p2, vI p3, vR pa, vI i0] [sI i0, sR o0]) _
    refine XS.iconst X48.here hx rfl (hb hby d3_67) ?_
    refine XS.iadd X48.here hx rfl (hb hby d3_68) rfl ?_
    exact k)
  obtain ⟨T50, h50, X50, e50, W50, st50⟩ := putF X48 hx hZ hown (host := "") (Or.inl (wD hw 25 rfl)) Via.refl e48 f41 f39 (Or.inl (wD hw 26 rfl)) (wD hw 2 rfl) (ty := .int) (by decide) rfl rfl (g := (mkF m 69 #[vR o0, vI i1, vI p2, vI p3, vR pa, vI i0] [sI i1, sR o0])) rfl rfl (hb hby d3_69)
  have f51 := f39.wr W50
  have f52 := Fld.other W50 f40 (Or.inr (slot_ne (Or.inl (wD hw 15 rfl)) (Or.inl (wD hw 26 rfl)) (by decide) (t := (.array (.array .int))) (t' := .int) (by decide) (by decide)))
  have f53 := Fld.same W50 f41
  have f54 := Fld.other W50 f42 (Or.inr (slot_ne (Or.inl (wD hw 17 rfl)) (Or.inl (wD hw 26 rfl)) (by decide) (t := .int) (t' := .int) (by decide) (by decide)))
  have f55 := Fld.other W50 f43 (Or.inr (slot_ne (Or.inl (wD hw 19 rfl)) (Or.inl (wD hw 26 rfl)) (by decide) (t := (.array .int)) (t' := .int) (by decide) (by decide)))
  have f56 := Arv.other f44 W50 (Ne.symm ne_o0_pg)
  have f57 := Arv.other f45 W50 (Ne.symm ne_o0_sb)
  have f58 := Arv.other V38 W50 (Ne.symm ne_o0_pa)
  have Z50 : n0 ≤ h50.size := Nat.le_trans Z38 (Nat.le_of_eq W50.size.symm)
  have K50 := K38.wr W50 (Or.inl (List.mem_of_getElem? (i := 1) rfl))
  have N50 := Fr.snoc X50 N38 g_o0
  have go59 := go49.st T50 (mkF m 74 #[vR o0, vI i1, vI p2, vI p3, vR pa, vI i0] [sR o0, sI i1]) (fun t k => by
    refine st50 _ ?_
    show SP p e below T50 (mkF m 72 #[vR o0, vI i1, vI p2, vI p3, vR pa, vI i0] []) _
    refine XS.iloadN X50.here hx rfl (hb hby d3_72) rfl ?_
    refine XS.aloadN X50.here hx rfl (hb hby d3_73) rfl rfl ?_
    exact k)
  obtain ⟨T60, X60, e60, st60⟩ := getF X50 hx hZ hown (host := "") (Or.inl (wD hw 18 rfl)) Via.refl e50 f55 (g := (mkF m 74 #[vR o0, vI i1, vI p2, vI p3, vR pa, vI i0] [sR o0, sI i1])) rfl rfl (hb hby d3_74)
  have go61 := go59.st T60 (mkF m 77 #[vR o0, vI i1, vI p2, vI p3, vR pa, vI i0] [sR sb, sI i1]) (fun t k => by
    refine st60 _ ?_
    exact k)
  have Vo62 := f57
  obtain ⟨cl62, Ar62, qa62, Sa62, Na62, Ha62, Ga62⟩ := Vo62
  have go64 := go61.st T60 (mkF m 87 #[vR o0, vI i1, vI p2, vI p3, vR pa, vI i0] [sR o0]) (fun t k => by
    refine X60.arraylength hx (by rw [e60]; exact Ar62.1) (State.isArrayOf_alike hZ.alike Ar62.2.1) (g := (mkF m 77 #[vR o0, vI i1, vI p2, vI p3, vR pa, vI i0] [sR sb, sI i1])) rfl rfl (hb hby d3_77) _ ?_
    rw [len_of Sa62 Na62]
    refine XS.icmpYes X60.here hx rfl (pc0 := 78) (pc' := 86) rfl (hb hby d3_78) rfl (tlt ((by decide) : (1 : Int32) < (16 : Int32))).1 (by decide) (by decide) ?_
    refine XS.aloadN X60.here hx rfl (hb hby d3_86) rfl rfl ?_
    exact k)
  obtain ⟨T65, X65, e65, st65⟩ := getF X60 hx hZ hown (host := "") (Or.inl (wD hw 18 rfl)) Via.refl e60 f55 (g := (mkF m 87 #[vR o0, vI i1, vI p2, vI p3, vR pa, vI i0] [sR o0])) rfl rfl (hb hby d3_87)
  have go66 := go64.st T65 (mkF m 92 #[vR o0, vI i1, vI p2, vI p3, vR pa, vI i0] [sI i1, sR sb, sI i1, sR sb]) (fun t k => by
    refine st65 _ ?_
    show SP p e below T65 (mkF m 90 #[vR o0, vI i1, vI p2, vI p3, vR pa, vI i0] [sR sb]) _
    refine XS.iloadN X65.here hx rfl (hb hby d3_90) rfl ?_
    show SP p e below T65 (mkF m 91 #[vR o0, vI i1, vI p2, vI p3, vR pa, vI i0] [sI i1, sR sb]) _
    jvm_step X65.here [X65.here.top, hx, (hb hby d3_91), Value.category]
    exact k)
  have Vo67 := f57
  obtain ⟨cl67, Ar67, qa67, Sa67, Na67, Ha67, Ga67⟩ := Vo67
  have hin67 := inb_of (j := (1 : Int32)) Sa67 ⟨by decide, by decide⟩
  have hat67 : cl67.slots[((1 : Int32)).toNatClampNeg]? = some (.int x1) := Has.at Ha67 hin67 rfl
  have go68 := go66.st T65 (mkF m 95 #[vR o0, vI i1, vI p2, vI p3, vR pa, vI i0] [(sI (x1 + i1)), sI i1, sR sb]) (fun t k => by
    refine X65.iaload hx (j := (1 : Int32)) (v := (.int x1)) (by rw [e65]; exact Ar67.1) (State.isArrayOf_alike hZ.alike Ar67.2.1) Ar67.2.2 hin67 hat67 (g := (mkF m 92 #[vR o0, vI i1, vI p2, vI p3, vR pa, vI i0] [sI i1, sR sb, sI i1, sR sb])) rfl rfl (hb hby d3_92) _ ?_
    refine XS.iconst X65.here hx rfl (hb hby d3_93) ?_
    refine XS.iadd X65.here hx rfl (hb hby d3_94) rfl ?_
    exact k)
  have Vo69 := f57
  obtain ⟨cl69, Ar69, qa69, Sa69, Na69, Ha69, Ga69⟩ := Vo69
  have hin69 := inb_of (j := (1 : Int32)) Sa69 ⟨by decide, by decide⟩
  obtain ⟨T70, h70, X70, e70, W70, st70⟩ := stI X65 hx hZ e65 Ar69 (j := (1 : Int32)) hin69 (g := (mkF m 95 #[vR o0, vI i1, vI p2, vI p3, vR pa, vI i0] [(sI (x1 + i1)), sI i1, sR sb])) rfl rfl (hb hby d3_95)
  have V70 : Arv Z h70 sb k3 .int (16 : Int32) [(.int x0), (.int (x1 + (1 : Int32)))] (.int (0 : Int32)) := Arv.set Ar69 qa69 Sa69 Na69 Ha69 Ga69 rfl W70 1 rfl (Nat.le_of_ble_eq_true rfl)
  have f71 := f51.wr W70
  have f72 := Fld.other W70 f52 (Or.inl ne_o0_sb)
  have f73 := Fld.other W70 f53 (Or.inl ne_o0_sb)
  have f74 := Fld.other W70 f54 (Or.inl ne_o0_sb)
  have f75 := Fld.other W70 f55 (Or.inl ne_o0_sb)
  have f76 := Arv.other f56 W70 ne_pg_sb
  have f78 := Arv.other f58 W70 ne_pa_sb
  have Z70 : n0 ≤ h70.size := Nat.le_trans Z50 (Nat.le_of_eq W70.size.symm)
  have K70 := K50.wr W70 (Or.inl (List.mem_of_getElem? (i := 2) rfl))
  have N70 := Fr.snoc X70 N50 g_sb
  have go79 := go68.st T70 (mkF m 96 #[vR o0, vI i1, vI p2, vI p3, vR pa, vI i0] []) (fun t k => by
    refine st70 _ ?_
    exact k)
  obtain ⟨fs, hr, hrun, hended, hW, hsame⟩ := X70.leave (v := none) (fun _ => rfl)
  refine ⟨_, _, go79 _ ?_, hrun, hended, _, _, rfl, ?_, ⟨_, rfl⟩, hW, hsame.mono (by decide) (by decide)⟩
  · exact X70.returnOut hx Bd.returns (hb hby d3_96) hr
  · show Q_rm_add1_1 Z o0 p2 p3 pg k1 pa sb k2 k3 x0 x1 h0 n0 _ T70.heap _
    rw [e70]
    exact ⟨rfl, N70, K70, f71, f75, V70, f72, f73, f74, f78⟩
theorem pn_rm_add2_1 : plainName "com/example/graphkind/graphkind/TripleList" = true := by first | (simp [plainName, overriddenIn]; done) | decide +kernel
theorem ef_rm_add2_1 (m : MethodId) (o0 : Addr) (p2 : Int32) (p3 : Int32) : entryFrame m #[(.ref o0), (.int (1 : Int32)), (.int p2), (.int p3)] 6 = mkF m 0 #[.val (.ref o0), .val (.int (1 : Int32)), .val (.int p2), .val (.int p3), uu, uu] [] := by first | (simp [entryFrame, mkF, argsToLocals, Value.category]; done) | rfl
def Q_rm_add2_1 (Z : State) (o0 : Addr) (p2 : Int32) (p3 : Int32) (pg : Addr) (k1 : ClassId) (pa : Addr) (sb : Addr) (k2 : ClassId) (k3 : ClassId) (u0 : Int32) (u1 : Int32) (u2 : Int32) (x0 : Int32) (x1 : Int32) (h0 : Heap) (n0 : Nat) (v : Option Value) (h : Heap) (L : List Loc) : Prop := v = none ∧ Fr n0 L ∧ Keep h0 h [pa, o0, sb] ∧ Exa Z h o0 "com/example/graphkind/graphkind/TripleList" ∧ Fld Z h o0 "com/example/graphkind/graphkind/TripleList" "ofSubject" "[I" (.ref sb) ∧ Arv Z h sb k3 .int (16 : Int32) [(.int x0), (.int (x1 + (1 : Int32)))] (.int (0 : Int32))
set_option maxRecDepth 65536 in
set_option maxHeartbeats 40000000 in
theorem rm_add2_1 (l : Launch) (Z : State) (a0 : Array Value) (hw : ∀ d ∈ tables_1, d.before a0 Z = true) (ws : List Jvm.Cond) (o0 : Addr) (p2 : Int32) (p3 : Int32) (pg : Addr) (k1 : ClassId) (pa : Addr) (sb : Addr) (k2 : ClassId) (k3 : ClassId) (u0 : Int32) (u1 : Int32) (u2 : Int32) (x0 : Int32) (x1 : Int32) (h0 : Heap) (n0 : Nat) (Z0 : n0 ≤ h0.size) (E_o0 : Exa Z h0 o0 "com/example/graphkind/graphkind/TripleList") (F_pages_o0 : Fld Z h0 o0 "com/example/graphkind/graphkind/TripleList" "pages" "[[I" (.ref pg)) (F_size_o0 : Fld Z h0 o0 "com/example/graphkind/graphkind/TripleList" "size" "I" (.int (1 : Int32))) (F_room_o0 : Fld Z h0 o0 "com/example/graphkind/graphkind/TripleList" "room" "I" (.int (16 : Int32))) (F_ofSubject_o0 : Fld Z h0 o0 "com/example/graphkind/graphkind/TripleList" "ofSubject" "[I" (.ref sb)) (V_pg : Arv Z h0 pg k1 (.array .int) (1 : Int32) [(.ref pa)] .null) (V_pa : Arv Z h0 pa k2 .int (48 : Int32) [(.int u0), (.int u1), (.int u2), (.int (0 : Int32)), (.int (0 : Int32)), (.int (0 : Int32))] (.int (0 : Int32))) (V_sb : Arv Z h0 sb k3 .int (16 : Int32) [(.int x0), (.int x1)] (.int (0 : Int32))) (g_o0 : n0 ≤ o0) (g_pa : n0 ≤ pa) (g_sb : n0 ≤ sb) (ne_o0_pg : o0 ≠ pg) (ne_o0_pa : o0 ≠ pa) (ne_o0_sb : o0 ≠ sb) (ne_pg_pa : pg ≠ pa) (ne_pg_sb : pg ≠ sb) (ne_pa_sb : pa ≠ sb) :
    MetFree l yN1 (head1 (Jvm.Cond.code yN1 prog_12_method_3_code 6 none :: ws) ({ frames := 0, cells := 0, slots := 0, locals := 0 } : Room)) (fun a U => a = #[(.ref o0), (.int (1 : Int32)), (.int p2), (.int p3)] ∧ Z.Warmed39 U.vm ∧ U.heap = h0) (fun _ _ _ _ _ => True) (fun _ U o U' => ∃ v L, o = .returned v ∧ Q_rm_add2_1 Z o0 p2 p3 pg k1 pa sb k2 k3 u0 u1 u2 x0 x1 h0 n0 v U'.heap L ∧ FrameEnd U o U' L ({ frames := 0, cells := 0, slots := 0, locals := 0 } : Room).cells ({ frames := 0, cells := 0, slots := 0, locals := 0 } : Room).slots) := by
  refine MetFree.of_bodySF (plainFor_of_name pn_rm_add2_1) hisR ?_
  intro p e s m args below meth c s₁ Bd hml0 hP hK
  obtain ⟨rfl, hZ, hh⟩ := hP
  have hx := Bd.exec
  have hby := Bd.bytes
  have hml : c.maxLocals = 6 := hml0
  have hown : s.vm.findClass "com/example/graphkind/graphkind/TripleList" = some m.cls := findClass_of_methodNamed Bd.named
  have hnm := (name_of_methodNamed Bd.named Bd.method).1
  have X0 : Stand p l e ({ frames := 0, cells := 0, slots := 0, locals := 0 } : Room) s m #[(.ref o0), (.int (1 : Int32)), (.int p2), (.int p3)] below meth c s₁ [] 0 0 := Stand.of_body Bd
  have e0 : s₁.heap = h0 := by rw [← hh, Bd.state]; rfl
  have N0 := Fr.nil n0
  have K0 := Keep.refl h0 [pa, o0, sb]
  have go0 : Go p e below (s₁.setTop (entryFrame m #[(.ref o0), (.int (1 : Int32)), (.int p2), (.int p3)] 6)) (s₁.setTop (mkF m 0 #[vR o0, vI i1, vI p2, vI p3, uu, uu] [])) := fun t k => castTop (ef_rm_add2_1 m o0 p2 p3) k
  have go1 := go0.st s₁ (mkF m 1 #[vR o0, vI i1, vI p2, vI p3, uu, uu] [sR o0]) (fun t k => by
    refine XS.aloadN X0.here hx rfl (hb hby d3_0) rfl rfl ?_
    exact k)
  obtain ⟨T2, X2, e2, st2⟩ := getF X0 hx hZ hown (host := "") (Or.inl (wD hw 25 rfl)) Via.refl e0 F_size_o0 (g := (mkF m 1 #[vR o0, vI i1, vI p2, vI p3, uu, uu] [sR o0])) rfl rfl (hb hby d3_1)
  have go3 := go1.st T2 (mkF m 5 #[vR o0, vI i1, vI p2, vI p3, uu, uu] [sR o0, sI i1]) (fun t k => by
    refine st2 _ ?_
    show SP p e below T2 (mkF m 4 #[vR o0, vI i1, vI p2, vI p3, uu, uu] [sI i1]) _
    refine XS.aloadN X2.here hx rfl (hb hby d3_4) rfl rfl ?_
    exact k)
  obtain ⟨T4, X4, e4, st4⟩ := getF X2 hx hZ hown (host := "") (Or.inl (wD hw 16 rfl)) Via.refl e2 F_room_o0 (g := (mkF m 5 #[vR o0, vI i1, vI p2, vI p3, uu, uu] [sR o0, sI i1])) rfl rfl (hb hby d3_5)
  have go6 := go3.st T4 (mkF m 16 #[vR o0, vI i1, vI p2, vI p3, uu, uu] [sR o0]) (fun t k => by
    refine st4 _ ?_
    show SP p e below T4 (mkF m 8 #[vR o0, vI i1, vI p2, vI p3, uu, uu] [(sI (16 : Int32)), sI i1]) _
    refine XS.icmpYes X4.here hx rfl (pc0 := 8) (pc' := 15) rfl (hb hby d3_8) rfl (feq ((by decide) : ¬ ((1 : Int32) = (16 : Int32)))).2 (by decide) (by decide) ?_
    refine XS.aloadN X4.here hx rfl (hb hby d3_15) rfl rfl ?_
    exact k)
  obtain ⟨T7, X7, e7, st7⟩ := getF X4 hx hZ hown (host := "") (Or.inl (wD hw 14 rfl)) Via.refl e4 F_pages_o0 (g := (mkF m 16 #[vR o0, vI i1, vI p2, vI p3, uu, uu] [sR o0])) rfl rfl (hb hby d3_16)
  have go8 := go6.st T7 (mkF m 20 #[vR o0, vI i1, vI p2, vI p3, uu, uu] [sR o0, sR pg]) (fun t k => by
    refine st7 _ ?_
    show SP p e below T7 (mkF m 19 #[vR o0, vI i1, vI p2, vI p3, uu, uu] [sR pg]) _
    refine XS.aloadN X7.here hx rfl (hb hby d3_19) rfl rfl ?_
    exact k)
  obtain ⟨T9, X9, e9, st9⟩ := getF X7 hx hZ hown (host := "") (Or.inl (wD hw 25 rfl)) Via.refl e7 F_size_o0 (g := (mkF m 20 #[vR o0, vI i1, vI p2, vI p3, uu, uu] [sR o0, sR pg])) rfl rfl (hb hby d3_20)
  have go10 := go8.st T9 (mkF m 26 #[vR o0, vI i1, vI p2, vI p3, uu, uu] [sI i0, sR pg]) (fun t k => by
    refine st9 _ ?_
    show SP p e below T9 (mkF m 23 #[vR o0, vI i1, vI p2, vI p3, uu, uu] [sI i1, sR pg]) _
    refine X9.ldcInt hx hown (mvT hZ (wD hw 27 rfl)) (g := (mkF m 23 #[vR o0, vI i1, vI p2, vI p3, uu, uu] [sI i1, sR pg])) rfl (hb hby d3_23) _ ?_
    refine XS.idiv X9.here hx rfl (hb hby d3_25) rfl (by decide) ?_
    exact k)
  have Vo11 := V_pg
  obtain ⟨cl11, Ar11, qa11, Sa11, Na11, Ha11, Ga11⟩ := Vo11
  have hin11 := inb_of (j := (0 : Int32)) Sa11 ⟨by decide, by decide⟩
  have hat11 : cl11.slots[((0 : Int32)).toNatClampNeg]? = some (.ref pa) := Has.at Ha11 hin11 rfl
  have go12 := go10.st T9 (mkF m 30 #[vR o0, vI i1, vI p2, vI p3, vR pa, uu] [sR o0]) (fun t k => by
    refine X9.aaload hx (j := (0 : Int32)) (v := (.ref pa)) (by rw [e9]; exact Ar11.1) (State.isArrayOf_alike hZ.alike Ar11.2.1) rfl Ar11.2.2 hin11 hat11 (g := (mkF m 26 #[vR o0, vI i1, vI p2, vI p3, uu, uu] [sI i0, sR pg])) rfl rfl (hb hby d3_26) _ ?_
    refine XS.astore X9.here hx rfl (hb hby d3_27) rfl rfl (l' := #[vR o0, vI i1, vI p2, vI p3, vR pa, uu]) rfl ?_
    refine XS.aloadN X9.here hx rfl (hb hby d3_29) rfl rfl ?_
    exact k)
  obtain ⟨T13, X13, e13, st13⟩ := getF X9 hx hZ hown (host := "") (Or.inl (wD hw 25 rfl)) Via.refl e9 F_size_o0 (g := (mkF m 30 #[vR o0, vI i1, vI p2, vI p3, vR pa, uu] [sR o0])) rfl rfl (hb hby d3_30)
  have go14 := go12.st T13 (mkF m 45 #[vR o0, vI i1, vI p2, vI p3, vR pa, vI ((3 : Int32))] [sI i1, (sI (3 : Int32)), sR pa]) (fun t k => by
    refine st13 _ ?_
    show SP p e below T13 (mkF m 33 #[vR o0, vI i1, vI p2, vI p3, vR pa, uu] [sI i1]) _
    refine X13.ldcInt hx hown (mvT hZ (wD hw 27 rfl)) (g := (mkF m 33 #[vR o0, vI i1, vI p2, vI p3, vR pa, uu] [sI i1])) rfl (hb hby d3_33) _ ?_
    refine iremM X13 hx rfl (hb hby d3_35) rfl (by decide) ?_
    refine XS.iconst X13.here hx rfl (hb hby d3_36) ?_
    refine XS.imul X13.here hx rfl (hb hby d3_37) rfl ?_
    refine XS.istore X13.here hx rfl (hb hby d3_38) rfl (l' := #[vR o0, vI i1, vI p2, vI p3, vR pa, vI ((3 : Int32))]) rfl ?_
    refine XS.aload X13.here hx rfl (hb hby d3_40) rfl rfl ?_
    refine XS.iload X13.here hx rfl (hb hby d3_42) rfl ?_
    refine XS.iloadN X13.here hx rfl (hb hby d3_44) rfl ?_
    exact k)
  have Vo15 := V_pa
  obtain ⟨cl15, Ar15, qa15, Sa15, Na15, Ha15, Ga15⟩ := Vo15
  have hin15 := inb_of (j := (3 : Int32)) Sa15 ⟨by decide, by decide⟩
  obtain ⟨T16, h16, X16, e16, W16, st16⟩ := stI X13 hx hZ e13 Ar15 (j := (3 : Int32)) hin15 (g := (mkF m 45 #[vR o0, vI i1, vI p2, vI p3, vR pa, vI ((3 : Int32))] [sI i1, (sI (3 : Int32)), sR pa])) rfl rfl (hb hby d3_45)
  have V16 : Arv Z h16 pa k2 .int (48 : Int32) [(.int u0), (.int u1), (.int u2), (.int (1 : Int32)), (.int (0 : Int32)), (.int (0 : Int32))] (.int (0 : Int32)) := Arv.set Ar15 qa15 Sa15 Na15 Ha15 Ga15 rfl W16 3 rfl (Nat.le_of_ble_eq_true rfl)
  have f17 := E_o0.wr W16
  have f18 := Fld.other W16 F_pages_o0 (Or.inl ne_o0_pa)
  have f19 := Fld.other W16 F_size_o0 (Or.inl ne_o0_pa)
  have f20 := Fld.other W16 F_room_o0 (Or.inl ne_o0_pa)
  have f21 := Fld.other W16 F_ofSubject_o0 (Or.inl ne_o0_pa)
  have f22 := Arv.other V_pg W16 ne_pg_pa
  have f24 := Arv.other V_sb W16 (Ne.symm ne_pa_sb)
  have Z16 : n0 ≤ h16.size := Nat.le_trans Z0 (Nat.le_of_eq W16.size.symm)
  have K16 := K0.wr W16 (Or.inl (List.mem_of_getElem? (i := 0) rfl))
  have N16 := Fr.snoc X16 N0 g_pa
  have go25 := go14.st T16 (mkF m 53 #[vR o0, vI i1, vI p2, vI p3, vR pa, vI ((3 : Int32))] [sI p2, (sI (4 : Int32)), sR pa]) (fun t k => by
    refine st16 _ ?_
    show SP p e below T16 (mkF m 46 #[vR o0, vI i1, vI p2, vI p3, vR pa, vI ((3 : Int32))] []) _
    refine XS.aload X16.here hx rfl (hb hby d3_46) rfl rfl ?_
    refine XS.iload X16.here hx rfl (hb hby d3_48) rfl ?_
    refine XS.iconst X16.here hx rfl (hb hby d3_50) ?_
    refine XS.iadd X16.here hx rfl (hb hby d3_51) rfl ?_
    refine XS.iloadN X16.here hx rfl (hb hby d3_52) rfl ?_
    exact k)
  have Vo26 := V16
  obtain ⟨cl26, Ar26, qa26, Sa26, Na26, Ha26, Ga26⟩ := Vo26
  have hin26 := inb_of (j := (4 : Int32)) Sa26 ⟨by decide, by decide⟩
  obtain ⟨T27, h27, X27, e27, W27, st27⟩ := stI X16 hx hZ e16 Ar26 (j := (4 : Int32)) hin26 (g := (mkF m 53 #[vR o0, vI i1, vI p2, vI p3, vR pa, vI ((3 : Int32))] [sI p2, (sI (4 : Int32)), sR pa])) rfl rfl (hb hby d3_53)
  have V27 : Arv Z h27 pa k2 .int (48 : Int32) [(.int u0), (.int u1), (.int u2), (.int (1 : Int32)), (.int p2), (.int (0 : Int32))] (.int (0 : Int32)) := Arv.set Ar26 qa26 Sa26 Na26 Ha26 Ga26 rfl W27 4 rfl (Nat.le_of_ble_eq_true rfl)
  have f28 := f17.wr W27
  have f29 := Fld.other W27 f18 (Or.inl ne_o0_pa)
  have f30 := Fld.other W27 f19 (Or.inl ne_o0_pa)
  have f31 := Fld.other W27 f20 (Or.inl ne_o0_pa)
  have f32 := Fld.other W27 f21 (Or.inl ne_o0_pa)
  have f33 := Arv.other f22 W27 ne_pg_pa
  have f34 := Arv.other f24 W27 (Ne.symm ne_pa_sb)
  have Z27 : n0 ≤ h27.size := Nat.le_trans Z16 (Nat.le_of_eq W27.size.symm)
  have K27 := K16.wr W27 (Or.inl (List.mem_of_getElem? (i := 0) rfl))
  have N27 := Fr.snoc X27 N16 g_pa
  have go36 := go25.st T27 (mkF m 61 #[vR o0, vI i1, vI p2, vI p3, vR pa, vI ((3 : Int32))] [sI p3, (sI (5 : Int32)), sR pa]) (fun t k => by
    refine st27 _ ?_
    show SP p e below T27 (mkF m 54 #[vR o0, vI i1, vI p2, vI p3, vR pa, vI ((3 : Int32))] []) _
    refine XS.aload X27.here hx rfl (hb hby d3_54) rfl rfl ?_
    refine XS.iload X27.here hx rfl (hb hby d3_56) rfl ?_
    refine XS.iconst X27.here hx rfl (hb hby d3_58) ?_
    refine XS.iadd X27.here hx rfl (hb hby d3_59) rfl ?_
    refine XS.iloadN X27.here hx rfl (hb hby d3_60) rfl ?_
    exact k)
  have Vo37 := V27
  obtain ⟨cl37, Ar37, qa37, Sa37, Na37, Ha37, Ga37⟩ := Vo37
  have hin37 := inb_of (j := (5 : Int32)) Sa37 ⟨by decide, by decide⟩
  obtain ⟨T38, h38, X38, e38, W38, st38⟩ := stI X27 hx hZ e27 Ar37 (j := (5 : Int32)) hin37 (g := (mkF m 61 #[vR o0, vI i1, vI p2, vI p3, vR pa, vI ((3 : Int32))] [sI p3, (sI (5 : Int32)), sR pa])) rfl rfl (hb hby d3_61)
  have V38 : Arv Z h38 pa k2 .int (48 : Int32) [(.int u0), (.int u1), (.int u2), (.int (1 : Int32)), (.int p2), (.int p3)] (.int (0 : Int32)) := Arv.set Ar37 qa37 Sa37 Na37 Ha37 Ga37 rfl W38 5 rfl (Nat.le_of_ble_eq_true rfl)
  have f39 := f28.wr W38
  have f40 := Fld.other W38 f29 (Or.inl ne_o0_pa)
  have f41 := Fld.other W38 f30 (Or.inl ne_o0_pa)
  have f42 := Fld.other W38 f31 (Or.inl ne_o0_pa)
  have f43 := Fld.other W38 f32 (Or.inl ne_o0_pa)
  have f44 := Arv.other f33 W38 ne_pg_pa
  have f45 := Arv.other f34 W38 (Ne.symm ne_pa_sb)
  have Z38 : n0 ≤ h38.size := Nat.le_trans Z27 (Nat.le_of_eq W38.size.symm)
  have K38 := K27.wr W38 (Or.inl (List.mem_of_getElem? (i := 0) rfl))
  have N38 := Fr.snoc X38 N27 g_pa
  have go47 := go36.st T38 (mkF m 64 #[vR o0, vI i1, vI p2, vI p3, vR pa, vI ((3 : Int32))] [sR o0, sR o0]) (fun t k => by
    refine st38 _ ?_
    show SP p e below T38 (mkF m 62 #[vR o0, vI i1, vI p2, vI p3, vR pa, vI ((3 : Int32))] []) _
    refine XS.aloadN X38.here hx rfl (hb hby d3_62) rfl rfl ?_
    refine XS.dup X38.here hx rfl (hb hby d3_63) rfl rfl ?_
    exact k)
  obtain ⟨T48, X48, e48, st48⟩ := getF X38 hx hZ hown (host := "") (Or.inl (wD hw 25 rfl)) Via.refl e38 f41 (g := (mkF m 64 #[vR o0, vI i1, vI p2, vI p3, vR pa, vI ((3 : Int32))] [sR o0, sR o0])) rfl rfl (hb hby d3_64)
  have go49 := go47.st T48 (mkF m 69 #[vR o0, vI i1, vI p2, vI p3, vR pa, vI ((3 : Int32))] [sI i2, sR o0]) (fun t k => by
    refine st48 _ ?_
    show SP p e below T48 (mkF m 67 #[vR o0, vI i1, vI p2, vI p3, vR pa, vI ((3 : Int32))] [sI i1, sR o0]) _
    refine XS.iconst X48.here hx rfl (hb hby d3_67) ?_
    refine XS.iadd X48.here hx rfl (hb hby d3_68) rfl ?_
    exact k)
  obtain ⟨T50, h50, X50, e50, W50, st50⟩ := putF X48 hx hZ hown (host := "") (Or.inl (wD hw 25 rfl)) Via.refl e48 f41 f39 (Or.inl (wD hw 26 rfl)) (wD hw 2 rfl) (ty := .int) (by decide) rfl rfl (g := (mkF m 69 #[vR o0, vI i1, vI p2, vI p3, vR pa, vI ((3 : Int32))] [sI i2, sR o0])) rfl rfl (hb hby d3_69)
  have f51 := f39.wr W50
  have f52 := Fld.other W50 f40 (Or.inr (slot_ne (Or.inl (wD hw 15 rfl)) (Or.inl (wD hw 26 rfl)) (by decide) (t := (.array (.array .int))) (t' := .int) (by decide) (by decide)))
  have f53 := Fld.same W50 f41
  have f54 := Fld.other W50 f42 (Or.inr (slot_ne (Or.inl (wD hw 17 rfl)) (Or.inl (wD hw 26 rfl)) (by decide) (t := .int) (t' := .int) (by decide) (by decide)))
  have f55 := Fld.other W50 f43 (Or.inr (slot_ne (Or.inl (wD hw 19 rfl)) (Or.inl (wD hw 26 rfl)) (by decide) (t := (.array .int)) (t' := .int) (by decide) (by decide)))
  have f56 := Arv.other f44 W50 (Ne.symm ne_o0_pg)
  have f57 := Arv.other f45 W50 (Ne.symm ne_o0_sb)
  have f58 := Arv.other V38 W50 (Ne.symm ne_o0_pa)
  have Z50 : n0 ≤ h50.size := Nat.le_trans Z38 (Nat.le_of_eq W50.size.symm)
  have K50 := K38.wr W50 (Or.inl (List.mem_of_getElem? (i := 1) rfl))
  have N50 := Fr.snoc X50 N38 g_o0
  have go59 := go49.st T50 (mkF m 74 #[vR o0, vI i1, vI p2, vI p3, vR pa, vI ((3 : Int32))] [sR o0, sI i1]) (fun t k => by
    refine st50 _ ?_
    show SP p e below T50 (mkF m 72 #[vR o0, vI i1, vI p2, vI p3, vR pa, vI ((3 : Int32))] []) _
    refine XS.iloadN X50.here hx rfl (hb hby d3_72) rfl ?_
    refine XS.aloadN X50.here hx rfl (hb hby d3_73) rfl rfl ?_
    exact k)
  obtain ⟨T60, X60, e60, st60⟩ := getF X50 hx hZ hown (host := "") (Or.inl (wD hw 18 rfl)) Via.refl e50 f55 (g := (mkF m 74 #[vR o0, vI i1, vI p2, vI p3, vR pa, vI ((3 : Int32))] [sR o0, sI i1])) rfl rfl (hb hby d3_74)
  have go61 := go59.st T60 (mkF m 77 #[vR o0, vI i1, vI p2, vI p3, vR pa, vI ((3 : Int32))] [sR sb, sI i1]) (fun t k => by
    refine st60 _ ?_
    exact k)
  have Vo62 := f57
  obtain ⟨cl62, Ar62, qa62, Sa62, Na62, Ha62, Ga62⟩ := Vo62
  have go64 := go61.st T60 (mkF m 87 #[vR o0, vI i1, vI p2, vI p3, vR pa, vI ((3 : Int32))] [sR o0]) (fun t k => by
    refine X60.arraylength hx (by rw [e60]; exact Ar62.1) (State.isArrayOf_alike hZ.alike Ar62.2.1) (g := (mkF m 77 #[vR o0, vI i1, vI p2, vI p3, vR pa, vI ((3 : Int32))] [sR sb, sI i1])) rfl rfl (hb hby d3_77) _ ?_
    rw [len_of Sa62 Na62]
    refine XS.icmpYes X60.here hx rfl (pc0 := 78) (pc' := 86) rfl (hb hby d3_78) rfl (tlt ((by decide) : (1 : Int32) < (16 : Int32))).1 (by decide) (by decide) ?_
    refine XS.aloadN X60.here hx rfl (hb hby d3_86) rfl rfl ?_
    exact k)
  obtain ⟨T65, X65, e65, st65⟩ := getF X60 hx hZ hown (host := "") (Or.inl (wD hw 18 rfl)) Via.refl e60 f55 (g := (mkF m 87 #[vR o0, vI i1, vI p2, vI p3, vR pa, vI ((3 : Int32))] [sR o0])) rfl rfl (hb hby d3_87)
  have go66 := go64.st T65 (mkF m 92 #[vR o0, vI i1, vI p2, vI p3, vR pa, vI ((3 : Int32))] [sI i1, sR sb, sI i1, sR sb]) (fun t k => by
    refine st65 _ ?_
    show SP p e below T65 (mkF m 90 #[vR o0, vI i1, vI p2, vI p3, vR pa, vI ((3 : Int32))] [sR sb]) _
    refine XS.iloadN X65.here hx rfl (hb hby d3_90) rfl ?_
    show SP p e below T65 (mkF m 91 #[vR o0, vI i1, vI p2, vI p3, vR pa, vI ((3 : Int32))] [sI i1, sR sb]) _
    jvm_step X65.here [X65.here.top, hx, (hb hby d3_91), Value.category]
    exact k)
  have Vo67 := f57
  obtain ⟨cl67, Ar67, qa67, Sa67, Na67, Ha67, Ga67⟩ := Vo67
  have hin67 := inb_of (j := (1 : Int32)) Sa67 ⟨by decide, by decide⟩
  have hat67 : cl67.slots[((1 : Int32)).toNatClampNeg]? = some (.int x1) := Has.at Ha67 hin67 rfl
  have go68 := go66.st T65 (mkF m 95 #[vR o0, vI i1, vI p2, vI p3, vR pa, vI ((3 : Int32))] [(sI (x1 + i1)), sI i1, sR sb]) (fun t k => by
    refine X65.iaload hx (j := (1 : Int32)) (v := (.int x1)) (by rw [e65]; exact Ar67.1) (State.isArrayOf_alike hZ.alike Ar67.2.1) Ar67.2.2 hin67 hat67 (g := (mkF m 92 #[vR o0, vI i1, vI p2, vI p3, vR pa, vI ((3 : Int32))] [sI i1, sR sb, sI i1, sR sb])) rfl rfl (hb hby d3_92) _ ?_
    refine XS.iconst X65.here hx rfl (hb hby d3_93) ?_
    refine XS.iadd X65.here hx rfl (hb hby d3_94) rfl ?_
    exact k)
  have Vo69 := f57
  obtain ⟨cl69, Ar69, qa69, Sa69, Na69, Ha69, Ga69⟩ := Vo69
  have hin69 := inb_of (j := (1 : Int32)) Sa69 ⟨by decide, by decide⟩
  obtain ⟨T70, h70, X70, e70, W70, st70⟩ := stI X65 hx hZ e65 Ar69 (j := (1 : Int32)) hin69 (g := (mkF m 95 #[vR o0, vI i1, vI p2, vI p3, vR pa, vI ((3 : Int32))] [(sI (x1 + i1)), sI i1, sR sb])) rfl rfl (hb hby d3_95)
  have V70 : Arv Z h70 sb k3 .int (16 : Int32) [(.int x0), (.int (x1 + (1 : Int32)))] (.int (0 : Int32)) := Arv.set Ar69 qa69 Sa69 Na69 Ha69 Ga69 rfl W70 1 rfl (Nat.le_of_ble_eq_true rfl)
  have f71 := f51.wr W70
  have f72 := Fld.other W70 f52 (Or.inl ne_o0_sb)
  have f73 := Fld.other W70 f53 (Or.inl ne_o0_sb)
  have f74 := Fld.other W70 f54 (Or.inl ne_o0_sb)
  have f75 := Fld.other W70 f55 (Or.inl ne_o0_sb)
  have f76 := Arv.other f56 W70 ne_pg_sb
  have f78 := Arv.other f58 W70 ne_pa_sb
  have Z70 : n0 ≤ h70.size := Nat.le_trans Z50 (Nat.le_of_eq W70.size.symm)
  have K70 := K50.wr W70 (Or.inl (List.mem_of_getElem? (i := 2) rfl))
  have N70 := Fr.snoc X70 N50 g_sb
  have go79 := go68.st T70 (mkF m 96 #[vR o0, vI i1, vI p2, vI p3, vR pa, vI ((3 : Int32))] []) (fun t k => by
    refine st70 _ ?_
    exact k)
  obtain ⟨fs, hr, hrun, hended, hW, hsame⟩ := X70.leave (v := none) (fun _ => rfl)
  refine ⟨_, _, go79 _ ?_, hrun, hended, _, _, rfl, ?_, ⟨_, rfl⟩, hW, hsame.mono (by decide) (by decide)⟩
  · exact X70.returnOut hx Bd.returns (hb hby d3_96) hr
  · show Q_rm_add2_1 Z o0 p2 p3 pg k1 pa sb k2 k3 u0 u1 u2 x0 x1 h0 n0 _ T70.heap _
    rw [e70]
    exact ⟨rfl, N70, K70, f71, f75, V70⟩
theorem d4_0 : decode prog_10_method_1_code 0 = .ok (.aload_n 0, 1) := by decide +kernel
theorem d4_1 : decode prog_10_method_1_code 1 = .ok (.invokespecial 1, 3) := by decide +kernel
theorem d4_4 : decode prog_10_method_1_code 4 = .ok (.aload_n 0, 1) := by decide +kernel
theorem d4_5 : decode prog_10_method_1_code 5 = .ok (.iload_n 1, 1) := by decide +kernel
theorem d4_6 : decode prog_10_method_1_code 6 = .ok (.putfield 7, 3) := by decide +kernel
theorem d4_9 : decode prog_10_method_1_code 9 = .ok (.aload_n 0, 1) := by decide +kernel
theorem d4_10 : decode prog_10_method_1_code 10 = .ok (.iload_n 1, 1) := by decide +kernel
theorem d4_11 : decode prog_10_method_1_code 11 = .ok (.iconst 1, 1) := by decide +kernel
theorem d4_12 : decode prog_10_method_1_code 12 = .ok (.iadd, 1) := by decide +kernel
theorem d4_13 : decode prog_10_method_1_code 13 = .ok (.newarray .int, 2) := by decide +kernel
theorem d4_15 : decode prog_10_method_1_code 15 = .ok (.putfield 13, 3) := by decide +kernel
theorem d4_18 : decode prog_10_method_1_code 18 = .ok (.return_, 1) := by decide +kernel
theorem pn_rm_binit : plainName "com/example/graphkind/graphkind/Statements$Builder" = true := by first | (simp [plainName, overriddenIn]; done) | decide +kernel
theorem ef_rm_binit (m : MethodId) (o0 : Addr) : entryFrame m #[(.ref o0), (.int (2 : Int32))] 2 = mkF m 0 #[.val (.ref o0), .val (.int (2 : Int32))] [] := by first | (simp [entryFrame, mkF, argsToLocals, Value.category]; done) | rfl
def Q_rm_binit (Z : State) (o0 : Addr) (h0 : Heap) (n0 : Nat) (v : Option Value) (h : Heap) (L : List Loc) : Prop := ∃ sa : Addr, ∃ ka : ClassId, v = none ∧ Fr n0 L ∧ Keep h0 h [o0] ∧ Exa Z h o0 "com/example/graphkind/graphkind/Statements$Builder" ∧ Fld Z h o0 "com/example/graphkind/graphkind/Statements$Builder" "terms" "I" (.int (2 : Int32)) ∧ Fld Z h o0 "com/example/graphkind/graphkind/Statements$Builder" "start" "[I" (.ref sa) ∧ Fld Z h o0 "com/example/graphkind/graphkind/Statements$Builder" "next" "[I" .null ∧ Fld Z h o0 "com/example/graphkind/graphkind/Statements$Builder" "values" "[J" .null ∧ n0 ≤ sa ∧ h0.size ≤ sa ∧ Arv Z h sa ka .int (3 : Int32) [(.int (0 : Int32)), (.int (0 : Int32)), (.int (0 : Int32))] (.int (0 : Int32))
set_option maxRecDepth 65536 in
set_option maxHeartbeats 40000000 in
theorem rm_binit (l : Launch) (Z : State) (a0 : Array Value) (hw : ∀ d ∈ tables_1, d.before a0 Z = true) (ws : List Jvm.Cond) (o0 : Addr) (h0 : Heap) (n0 : Nat) (Z0 : n0 ≤ h0.size) (E_o0 : Exa Z h0 o0 "com/example/graphkind/graphkind/Statements$Builder") (g_o0 : n0 ≤ o0) (F_terms : Fld Z h0 o0 "com/example/graphkind/graphkind/Statements$Builder" "terms" "I" (.int (0 : Int32))) (F_start : Fld Z h0 o0 "com/example/graphkind/graphkind/Statements$Builder" "start" "[I" .null) (F_next : Fld Z h0 o0 "com/example/graphkind/graphkind/Statements$Builder" "next" "[I" .null) (F_values : Fld Z h0 o0 "com/example/graphkind/graphkind/Statements$Builder" "values" "[J" .null) :
    MetFree l yN2 (head1 (Jvm.Cond.code yN2 prog_10_method_1_code 2 none :: ws) ({ frames := 1, cells := 1, slots := 3, locals := 12 } : Room)) (fun a U => a = #[(.ref o0), (.int (2 : Int32))] ∧ Z.Warmed39 U.vm ∧ U.heap = h0) (fun _ _ _ _ _ => True) (fun _ U o U' => ∃ v L, o = .returned v ∧ Q_rm_binit Z o0 h0 n0 v U'.heap L ∧ FrameEnd U o U' L ({ frames := 1, cells := 1, slots := 3, locals := 12 } : Room).cells ({ frames := 1, cells := 1, slots := 3, locals := 12 } : Room).slots) := by
  refine MetFree.of_bodySF (plainFor_of_name pn_rm_binit) hisR ?_
  intro p e s m args below meth c s₁ Bd hml0 hP hK
  obtain ⟨rfl, hZ, hh⟩ := hP
  have hx := Bd.exec
  have hby := Bd.bytes
  have hml : c.maxLocals = 2 := hml0
  have hown : s.vm.findClass "com/example/graphkind/graphkind/Statements$Builder" = some m.cls := findClass_of_methodNamed Bd.named
  have hnm := (name_of_methodNamed Bd.named Bd.method).1
  have X0 : Stand p l e ({ frames := 1, cells := 1, slots := 3, locals := 12 } : Room) s m #[(.ref o0), (.int (2 : Int32))] below meth c s₁ [] 0 0 := Stand.of_body Bd
  have e0 : s₁.heap = h0 := by rw [← hh, Bd.state]; rfl
  have N0 := Fr.nil n0
  have K0 := Keep.refl h0 [o0]
  have go0 : Go p e below (s₁.setTop (entryFrame m #[(.ref o0), (.int (2 : Int32))] 2)) (s₁.setTop (mkF m 0 #[vR o0, vI i2] [])) := fun t k => castTop (ef_rm_binit m o0) k
  have go1 := go0.st s₁ (mkF m 1 #[vR o0, vI i2] [sR o0]) (fun t k => by
    refine XS.aloadN X0.here hx rfl (hb hby d4_0) rfl rfl ?_
    exact k)
  obtain ⟨T2, X2, e2, st2⟩ := initO X0 hx hZ hown (wD hw 34 rfl) (wD hw 8 rfl) (wD hw 9 rfl) e0 (g := (mkF m 1 #[vR o0, vI i2] [sR o0])) rfl (by rw [hml]; rfl) rfl (hb hby d4_1) (by decide) (W := 0) (by show 2 * 0 + _ ≤ _; exact Nat.le_of_eq rfl) (by decide)
  have go3 := go1.st T2 (mkF m 6 #[vR o0, vI i2] [sI i2, sR o0]) (fun t k => by
    refine st2 _ ?_
    show SP p e below T2 (mkF m 4 #[vR o0, vI i2] []) _
    refine XS.aloadN X2.here hx rfl (hb hby d4_4) rfl rfl ?_
    refine XS.iloadN X2.here hx rfl (hb hby d4_5) rfl ?_
    exact k)
  obtain ⟨T4, h4, X4, e4, W4, st4⟩ := putF X2 hx hZ hown (host := "") (Or.inl (wD hw 35 rfl)) Via.refl e2 F_terms E_o0 (Or.inr ⟨(wD hw 36 rfl), rfl, hnm⟩) (wD hw 29 rfl) (ty := .int) (by decide) rfl rfl (g := (mkF m 6 #[vR o0, vI i2] [sI i2, sR o0])) rfl rfl (hb hby d4_6)
  have f5 := E_o0.wr W4
  have f6 := Fld.same W4 F_terms
  have f7 := Fld.other W4 F_start (Or.inr (slot_ne (Or.inr (wD hw 38 rfl)) (Or.inr (wD hw 36 rfl)) (by decide) (t := (.array .int)) (t' := .int) (by decide) (by decide)))
  have f8 := Fld.other W4 F_next (Or.inr (slot_ne (Or.inl (wD hw 67 rfl)) (Or.inr (wD hw 36 rfl)) (by decide) (t := (.array .int)) (t' := .int) (by decide) (by decide)))
  have f9 := Fld.other W4 F_values (Or.inr (slot_ne (Or.inl (wD hw 70 rfl)) (Or.inr (wD hw 36 rfl)) (by decide) (t := (.array .long)) (t' := .int) (by decide) (by decide)))
  have Z4 : n0 ≤ h4.size := Nat.le_trans Z0 (Nat.le_of_eq W4.size.symm)
  have K4 := K0.wr W4 (Or.inl (List.mem_of_getElem? (i := 0) rfl))
  have N4 := Fr.snoc X4 N0 g_o0
  have go10 := go3.st T4 (mkF m 13 #[vR o0, vI i2] [(sI (3 : Int32)), sR o0]) (fun t k => by
    refine st4 _ ?_
    show SP p e below T4 (mkF m 9 #[vR o0, vI i2] []) _
    refine XS.aloadN X4.here hx rfl (hb hby d4_9) rfl rfl ?_
    refine XS.iloadN X4.here hx rfl (hb hby d4_10) rfl ?_
    refine XS.iconst X4.here hx rfl (hb hby d4_11) ?_
    refine XS.iadd X4.here hx rfl (hb hby d4_12) rfl ?_
    exact k)
  obtain ⟨T11, h11, k11, X11, e11, E11, A11, st11⟩ := newP X4 hx hZ (wD hw 12 rfl) e4 (g := (mkF m 13 #[vR o0, vI i2] [(sI (3 : Int32)), sR o0])) rfl (hb hby d4_13) rfl (by decide) (cap := 3) (by decide) (by decide) (by decide) (by decide)
  obtain ⟨b11, g11⟩ : ∃ z, z = h4.size := ⟨_, rfl⟩
  rw [← g11] at A11 st11
  have ne_o0_b11 : o0 ≠ b11 := Nat.ne_of_lt (Nat.lt_of_lt_of_le f5.lt (Nat.le_of_eq g11.symm))
  have g_b11 : n0 ≤ b11 := Nat.le_trans Z4 (Nat.le_of_eq g11.symm)
  have sz_b11 : h0.size ≤ b11 := Nat.le_trans K4.1 (Nat.le_of_eq g11.symm)
  have f12 := f5.ext E11
  have f13 := f6.ext E11
  have f14 := f7.ext E11
  have f15 := f8.ext E11
  have f16 := f9.ext E11
  have V11 : Arv Z h11 b11 k11 .int (3 : Int32) [(.int (0 : Int32)), (.int (0 : Int32)), (.int (0 : Int32))] (.int (0 : Int32)) := (Arv.new A11 (by decide)).pad (pad_rep [] (.int (0 : Int32)) 3)
  have Z11 : n0 ≤ h11.size := Nat.le_trans Z4 E11.1
  have K11 := K4.ext E11
  have go17 := go10.st T11 (mkF m 15 #[vR o0, vI i2] [sR b11, sR o0]) (fun t k => by
    refine st11 _ ?_
    exact k)
  obtain ⟨T18, h18, X18, e18, W18, st18⟩ := putF X11 hx hZ hown (host := "") (Or.inl (wD hw 37 rfl)) Via.refl e11 f14 f12 (Or.inr ⟨(wD hw 38 rfl), rfl, hnm⟩) (wD hw 29 rfl) (ty := (.array .int)) (by decide) rfl rfl (g := (mkF m 15 #[vR o0, vI i2] [sR b11, sR o0])) rfl rfl (hb hby d4_15)
  have f19 := f12.wr W18
  have f20 := Fld.other W18 f13 (Or.inr (slot_ne (Or.inr (wD hw 36 rfl)) (Or.inr (wD hw 38 rfl)) (by decide) (t := .int) (t' := (.array .int)) (by decide) (by decide)))
  have f21 := Fld.same W18 f14
  have f22 := Fld.other W18 f15 (Or.inr (slot_ne (Or.inl (wD hw 67 rfl)) (Or.inr (wD hw 38 rfl)) (by decide) (t := (.array .int)) (t' := (.array .int)) (by decide) (by decide)))
  have f23 := Fld.other W18 f16 (Or.inr (slot_ne (Or.inl (wD hw 70 rfl)) (Or.inr (wD hw 38 rfl)) (by decide) (t := (.array .long)) (t' := (.array .int)) (by decide) (by decide)))
  have f24 := Arv.other V11 W18 (Ne.symm ne_o0_b11)
  have Z18 : n0 ≤ h18.size := Nat.le_trans Z11 (Nat.le_of_eq W18.size.symm)
  have K18 := K11.wr W18 (Or.inl (List.mem_of_getElem? (i := 0) rfl))
  have N18 := Fr.snoc X18 N4 g_o0
  have go25 := go17.st T18 (mkF m 18 #[vR o0, vI i2] []) (fun t k => by
    refine st18 _ ?_
    exact k)
  obtain ⟨fs, hr, hrun, hended, hW, hsame⟩ := X18.leave (v := none) (fun _ => rfl)
  refine ⟨_, _, go25 _ ?_, hrun, hended, _, _, rfl, ?_, ⟨_, rfl⟩, hW, hsame.mono (by decide) (by decide)⟩
  · exact X18.returnOut hx Bd.returns (hb hby d4_18) hr
  · show Q_rm_binit Z o0 h0 n0 _ T18.heap _
    rw [e18]
    exact ⟨b11, k11, rfl, N18, K18, f19, f20, f21, f22, f23, g_b11, sz_b11, f24⟩
theorem d6_0 : decode prog_12_method_8_code 0 = .ok (.iload_n 1, 1) := by decide +kernel
theorem d6_1 : decode prog_12_method_8_code 1 = .ok (.aload_n 0, 1) := by decide +kernel
theorem d6_2 : decode prog_12_method_8_code 2 = .ok (.getfield 19, 3) := by decide +kernel
theorem d6_5 : decode prog_12_method_8_code 5 = .ok (.arraylength, 1) := by decide +kernel
theorem d6_6 : decode prog_12_method_8_code 6 = .ok (.if_icmp .ge 12, 3) := by decide +kernel
theorem d6_9 : decode prog_12_method_8_code 9 = .ok (.aload_n 0, 1) := by decide +kernel
theorem d6_10 : decode prog_12_method_8_code 10 = .ok (.getfield 19, 3) := by decide +kernel
theorem d6_13 : decode prog_12_method_8_code 13 = .ok (.iload_n 1, 1) := by decide +kernel
theorem d6_14 : decode prog_12_method_8_code 14 = .ok (.iaload, 1) := by decide +kernel
theorem d6_15 : decode prog_12_method_8_code 15 = .ok (.goto 4, 3) := by decide +kernel
theorem d6_19 : decode prog_12_method_8_code 19 = .ok (.ireturn, 1) := by decide +kernel
theorem pn_rm_of0 : plainName "com/example/graphkind/graphkind/TripleList" = true := by first | (simp [plainName, overriddenIn]; done) | decide +kernel
theorem ef_rm_of0 (m : MethodId) (o0 : Addr) : entryFrame m #[(.ref o0), (.int (0 : Int32))] 2 = mkF m 0 #[.val (.ref o0), .val (.int (0 : Int32))] [] := by first | (simp [entryFrame, mkF, argsToLocals, Value.category]; done) | rfl
def Q_rm_of0 (Z : State) (o0 : Addr) (sb : Addr) (k3 : ClassId) (x0 : Int32) (x1 : Int32) (h0 : Heap) (n0 : Nat) (v : Option Value) (h : Heap) (L : List Loc) : Prop := v = some (.int x0) ∧ Fr n0 L ∧ h = h0
set_option maxRecDepth 65536 in
set_option maxHeartbeats 40000000 in
theorem rm_of0 (l : Launch) (Z : State) (a0 : Array Value) (hw : ∀ d ∈ tables_1, d.before a0 Z = true) (ws : List Jvm.Cond) (o0 : Addr) (sb : Addr) (k3 : ClassId) (x0 : Int32) (x1 : Int32) (h0 : Heap) (n0 : Nat) (Z0 : n0 ≤ h0.size) (F_ofSubject_o0 : Fld Z h0 o0 "com/example/graphkind/graphkind/TripleList" "ofSubject" "[I" (.ref sb)) (V_sb : Arv Z h0 sb k3 .int (16 : Int32) [(.int x0), (.int x1)] (.int (0 : Int32))) :
    MetFree l yN3 (head1 (Jvm.Cond.code yN3 prog_12_method_8_code 2 (some .int) :: ws) ({ frames := 0, cells := 0, slots := 0, locals := 0 } : Room)) (fun a U => a = #[(.ref o0), (.int (0 : Int32))] ∧ Z.Warmed39 U.vm ∧ U.heap = h0) (fun _ _ _ _ _ => True) (fun _ U o U' => ∃ v L, o = .returned v ∧ Q_rm_of0 Z o0 sb k3 x0 x1 h0 n0 v U'.heap L ∧ FrameEnd U o U' L ({ frames := 0, cells := 0, slots := 0, locals := 0 } : Room).cells ({ frames := 0, cells := 0, slots := 0, locals := 0 } : Room).slots) := by
  refine MetFree.of_bodySF (plainFor_of_name pn_rm_of0) hisR ?_
  intro p e s m args below meth c s₁ Bd hml0 hP hK
  obtain ⟨rfl, hZ, hh⟩ := hP
  have hx := Bd.exec
  have hby := Bd.bytes
  have hml : c.maxLocals = 2 := hml0
  have hown : s.vm.findClass "com/example/graphkind/graphkind/TripleList" = some m.cls := findClass_of_methodNamed Bd.named
  have hnm := (name_of_methodNamed Bd.named Bd.method).1
  have X0 : Stand p l e ({ frames := 0, cells := 0, slots := 0, locals := 0 } : Room) s m #[(.ref o0), (.int (0 : Int32))] below meth c s₁ [] 0 0 := Stand.of_body Bd
  have e0 : s₁.heap = h0 := by rw [← hh, Bd.state]; rfl
  have N0 := Fr.nil n0
  have K0 := Keep.refl h0 []
  have go0 : Go p e below (s₁.setTop (entryFrame m #[(.ref o0), (.int (0 : Int32))] 2)) (s₁.setTop (mkF m 0 #[vR o0, vI i0] [])) := fun t k => castTop (ef_rm_of0 m o0) k
  have go1 := go0.st s₁ (mkF m 2 #[vR o0, vI i0] [sR o0, sI i0]) (fun t k => by
    refine XS.iloadN X0.here hx rfl (hb hby d6_0) rfl ?_
    refine XS.aloadN X0.here hx rfl (hb hby d6_1) rfl rfl ?_
    exact k)
  obtain ⟨T2, X2, e2, st2⟩ := getF X0 hx hZ hown (host := "") (Or.inl (wD hw 18 rfl)) Via.refl e0 F_ofSubject_o0 (g := (mkF m 2 #[vR o0, vI i0] [sR o0, sI i0])) rfl rfl (hb hby d6_2)
  have go3 := go1.st T2 (mkF m 5 #[vR o0, vI i0] [sR sb, sI i0]) (fun t k => by
    refine st2 _ ?_
    exact k)
  have Vo4 := V_sb
  obtain ⟨cl4, Ar4, qa4, Sa4, Na4, Ha4, Ga4⟩ := Vo4
  have go6 := go3.st T2 (mkF m 10 #[vR o0, vI i0] [sR o0]) (fun t k => by
    refine X2.arraylength hx (by rw [e2]; exact Ar4.1) (State.isArrayOf_alike hZ.alike Ar4.2.1) (g := (mkF m 5 #[vR o0, vI i0] [sR sb, sI i0])) rfl rfl (hb hby d6_5) _ ?_
    rw [len_of Sa4 Na4]
    refine XS.icmpNo X2.here hx rfl (hb hby d6_6) rfl (tlt ((by decide) : (0 : Int32) < (16 : Int32))).2.1 ?_
    refine XS.aloadN X2.here hx rfl (hb hby d6_9) rfl rfl ?_
    exact k)
  obtain ⟨T7, X7, e7, st7⟩ := getF X2 hx hZ hown (host := "") (Or.inl (wD hw 18 rfl)) Via.refl e2 F_ofSubject_o0 (g := (mkF m 10 #[vR o0, vI i0] [sR o0])) rfl rfl (hb hby d6_10)
  have go8 := go6.st T7 (mkF m 14 #[vR o0, vI i0] [sI i0, sR sb]) (fun t k => by
    refine st7 _ ?_
    show SP p e below T7 (mkF m 13 #[vR o0, vI i0] [sR sb]) _
    refine XS.iloadN X7.here hx rfl (hb hby d6_13) rfl ?_
    exact k)
  have Vo9 := V_sb
  obtain ⟨cl9, Ar9, qa9, Sa9, Na9, Ha9, Ga9⟩ := Vo9
  have hin9 := inb_of (j := (0 : Int32)) Sa9 ⟨by decide, by decide⟩
  have hat9 : cl9.slots[((0 : Int32)).toNatClampNeg]? = some (.int x0) := Has.at Ha9 hin9 rfl
  have go10 := go8.st T7 (mkF m 19 #[vR o0, vI i0] [sI x0]) (fun t k => by
    refine X7.iaload hx (j := (0 : Int32)) (v := (.int x0)) (by rw [e7]; exact Ar9.1) (State.isArrayOf_alike hZ.alike Ar9.2.1) Ar9.2.2 hin9 hat9 (g := (mkF m 14 #[vR o0, vI i0] [sI i0, sR sb])) rfl rfl (hb hby d6_14) _ ?_
    refine XS.goto X7.here hx rfl (pc0 := 15) (pc' := 19) rfl (hb hby d6_15) (by decide) (by decide) ?_
    exact k)
  obtain ⟨fs, hr, hrun, hended, hW, hsame⟩ := X7.leave (v := some (.int x0)) (fun h => by rw [Bd.returns] at h; cases h)
  refine ⟨_, _, go10 _ ?_, hrun, hended, _, _, rfl, ?_, ⟨_, rfl⟩, hW, hsame.mono (by decide) (by decide)⟩
  · exact own_retI X7 hx Bd.returns (hb hby d6_19) hr
  · show Q_rm_of0 Z o0 sb k3 x0 x1 h0 n0 _ T7.heap _
    rw [e7]
    exact ⟨rfl, N0, rfl⟩
theorem pn_rm_of1 : plainName "com/example/graphkind/graphkind/TripleList" = true := by first | (simp [plainName, overriddenIn]; done) | decide +kernel
theorem ef_rm_of1 (m : MethodId) (o0 : Addr) : entryFrame m #[(.ref o0), (.int (1 : Int32))] 2 = mkF m 0 #[.val (.ref o0), .val (.int (1 : Int32))] [] := by first | (simp [entryFrame, mkF, argsToLocals, Value.category]; done) | rfl
def Q_rm_of1 (Z : State) (o0 : Addr) (sb : Addr) (k3 : ClassId) (x0 : Int32) (x1 : Int32) (h0 : Heap) (n0 : Nat) (v : Option Value) (h : Heap) (L : List Loc) : Prop := v = some (.int x1) ∧ Fr n0 L ∧ h = h0
set_option maxRecDepth 65536 in
set_option maxHeartbeats 40000000 in
theorem rm_of1 (l : Launch) (Z : State) (a0 : Array Value) (hw : ∀ d ∈ tables_1, d.before a0 Z = true) (ws : List Jvm.Cond) (o0 : Addr) (sb : Addr) (k3 : ClassId) (x0 : Int32) (x1 : Int32) (h0 : Heap) (n0 : Nat) (Z0 : n0 ≤ h0.size) (F_ofSubject_o0 : Fld Z h0 o0 "com/example/graphkind/graphkind/TripleList" "ofSubject" "[I" (.ref sb)) (V_sb : Arv Z h0 sb k3 .int (16 : Int32) [(.int x0), (.int x1)] (.int (0 : Int32))) :
    MetFree l yN3 (head1 (Jvm.Cond.code yN3 prog_12_method_8_code 2 (some .int) :: ws) ({ frames := 0, cells := 0, slots := 0, locals := 0 } : Room)) (fun a U => a = #[(.ref o0), (.int (1 : Int32))] ∧ Z.Warmed39 U.vm ∧ U.heap = h0) (fun _ _ _ _ _ => True) (fun _ U o U' => ∃ v L, o = .returned v ∧ Q_rm_of1 Z o0 sb k3 x0 x1 h0 n0 v U'.heap L ∧ FrameEnd U o U' L ({ frames := 0, cells := 0, slots := 0, locals := 0 } : Room).cells ({ frames := 0, cells := 0, slots := 0, locals := 0 } : Room).slots) := by
  refine MetFree.of_bodySF (plainFor_of_name pn_rm_of1) hisR ?_
  intro p e s m args below meth c s₁ Bd hml0 hP hK
  obtain ⟨rfl, hZ, hh⟩ := hP
  have hx := Bd.exec
  have hby := Bd.bytes
  have hml : c.maxLocals = 2 := hml0
  have hown : s.vm.findClass "com/example/graphkind/graphkind/TripleList" = some m.cls := findClass_of_methodNamed Bd.named
  have hnm := (name_of_methodNamed Bd.named Bd.method).1
  have X0 : Stand p l e ({ frames := 0, cells := 0, slots := 0, locals := 0 } : Room) s m #[(.ref o0), (.int (1 : Int32))] below meth c s₁ [] 0 0 := Stand.of_body Bd
  have e0 : s₁.heap = h0 := by rw [← hh, Bd.state]; rfl
  have N0 := Fr.nil n0
  have K0 := Keep.refl h0 []
  have go0 : Go p e below (s₁.setTop (entryFrame m #[(.ref o0), (.int (1 : Int32))] 2)) (s₁.setTop (mkF m 0 #[vR o0, vI i1] [])) := fun t k => castTop (ef_rm_of1 m o0) k
  have go1 := go0.st s₁ (mkF m 2 #[vR o0, vI i1] [sR o0, sI i1]) (fun t k => by
    refine XS.iloadN X0.here hx rfl (hb hby d6_0) rfl ?_
    refine XS.aloadN X0.here hx rfl (hb hby d6_1) rfl rfl ?_
    exact k)
  obtain ⟨T2, X2, e2, st2⟩ := getF X0 hx hZ hown (host := "") (Or.inl (wD hw 18 rfl)) Via.refl e0 F_ofSubject_o0 (g := (mkF m 2 #[vR o0, vI i1] [sR o0, sI i1])) rfl rfl (hb hby d6_2)
  have go3 := go1.st T2 (mkF m 5 #[vR o0, vI i1] [sR sb, sI i1]) (fun t k => by
    refine st2 _ ?_
    exact k)
  have Vo4 := V_sb
  obtain ⟨cl4, Ar4, qa4, Sa4, Na4, Ha4, Ga4⟩ := Vo4
  have go6 := go3.st T2 (mkF m 10 #[vR o0, vI i1] [sR o0]) (fun t k => by
    refine X2.arraylength hx (by rw [e2]; exact Ar4.1) (State.isArrayOf_alike hZ.alike Ar4.2.1) (g := (mkF m 5 #[vR o0, vI i1] [sR sb, sI i1])) rfl rfl (hb hby d6_5) _ ?_
    rw [len_of Sa4 Na4]
    refine XS.icmpNo X2.here hx rfl (hb hby d6_6) rfl (tlt ((by decide) : (1 : Int32) < (16 : Int32))).2.1 ?_
    refine XS.aloadN X2.here hx rfl (hb hby d6_9) rfl rfl ?_
    exact k)
  obtain ⟨T7, X7, e7, st7⟩ := getF X2 hx hZ hown (host := "") (Or.inl (wD hw 18 rfl)) Via.refl e2 F_ofSubject_o0 (g := (mkF m 10 #[vR o0, vI i1] [sR o0])) rfl rfl (hb hby d6_10)
  have go8 := go6.st T7 (mkF m 14 #[vR o0, vI i1] [sI i1, sR sb]) (fun t k => by
    refine st7 _ ?_
    show SP p e below T7 (mkF m 13 #[vR o0, vI i1] [sR sb]) _
    refine XS.iloadN X7.here hx rfl (hb hby d6_13) rfl ?_
    exact k)
  have Vo9 := V_sb
  obtain ⟨cl9, Ar9, qa9, Sa9, Na9, Ha9, Ga9⟩ := Vo9
  have hin9 := inb_of (j := (1 : Int32)) Sa9 ⟨by decide, by decide⟩
  have hat9 : cl9.slots[((1 : Int32)).toNatClampNeg]? = some (.int x1) := Has.at Ha9 hin9 rfl
  have go10 := go8.st T7 (mkF m 19 #[vR o0, vI i1] [sI x1]) (fun t k => by
    refine X7.iaload hx (j := (1 : Int32)) (v := (.int x1)) (by rw [e7]; exact Ar9.1) (State.isArrayOf_alike hZ.alike Ar9.2.1) Ar9.2.2 hin9 hat9 (g := (mkF m 14 #[vR o0, vI i1] [sI i1, sR sb])) rfl rfl (hb hby d6_14) _ ?_
    refine XS.goto X7.here hx rfl (pc0 := 15) (pc' := 19) rfl (hb hby d6_15) (by decide) (by decide) ?_
    exact k)
  obtain ⟨fs, hr, hrun, hended, hW, hsame⟩ := X7.leave (v := some (.int x1)) (fun h => by rw [Bd.returns] at h; cases h)
  refine ⟨_, _, go10 _ ?_, hrun, hended, _, _, rfl, ?_, ⟨_, rfl⟩, hW, hsame.mono (by decide) (by decide)⟩
  · exact own_retI X7 hx Bd.returns (hb hby d6_19) hr
  · show Q_rm_of1 Z o0 sb k3 x0 x1 h0 n0 _ T7.heap _
    rw [e7]
    exact ⟨rfl, N0, rfl⟩
theorem d9_0 : decode jdk_29_method_69_code 0 = .ok (.iload_n 0, 1) := by decide +kernel
theorem d9_1 : decode jdk_29_method_69_code 1 = .ok (.iload_n 1, 1) := by decide +kernel
theorem d9_2 : decode jdk_29_method_69_code 2 = .ok (.if_icmp .gt 7, 3) := by decide +kernel
theorem d9_9 : decode jdk_29_method_69_code 9 = .ok (.iload_n 1, 1) := by decide +kernel
theorem d9_10 : decode jdk_29_method_69_code 10 = .ok (.ireturn, 1) := by decide +kernel
theorem ef_rm_min2 (m : MethodId) : entryFrame m #[(.int (3 : Int32)), (.int (2 : Int32))] 2 = mkF m 0 #[.val (.int (3 : Int32)), .val (.int (2 : Int32))] [] := by first | (simp [entryFrame, mkF, argsToLocals, Value.category]; done) | rfl
def Q_rm_min2 (Z : State) (h0 : Heap) (n0 : Nat) (v : Option Value) (h : Heap) (L : List Loc) : Prop := v = some (.int (2 : Int32)) ∧ Fr n0 L ∧ h = h0
set_option maxRecDepth 65536 in
set_option maxHeartbeats 40000000 in
theorem rm_min2 (l : Launch) (Z : State) (a0 : Array Value) (hw : ∀ d ∈ tables_1, d.before a0 Z = true) (ws : List Jvm.Cond) (h0 : Heap) (n0 : Nat) (Z0 : n0 ≤ h0.size) :
    MetFree l yN4 (head1 (Jvm.Cond.code yN4 jdk_29_method_69_code 2 (some .int) :: ws) ({ frames := 0, cells := 0, slots := 0, locals := 0 } : Room)) (fun a U => a = #[(.int (3 : Int32)), (.int (2 : Int32))] ∧ Z.Warmed39 U.vm ∧ U.heap = h0) (fun _ _ _ _ _ => True) (fun _ U o U' => ∃ v L, o = .returned v ∧ Q_rm_min2 Z h0 n0 v U'.heap L ∧ FrameEnd U o U' L ({ frames := 0, cells := 0, slots := 0, locals := 0 } : Room).cells ({ frames := 0, cells := 0, slots := 0, locals := 0 } : Room).slots) := by
  refine MetFree.of_bodySF (Jvm.Free.JP.mathPlain rfl (by decide +kernel)) hisR ?_
  intro p e s m args below meth c s₁ Bd hml0 hP hK
  obtain ⟨rfl, hZ, hh⟩ := hP
  have hx := Bd.exec
  have hby := Bd.bytes
  have hml : c.maxLocals = 2 := hml0
  have hown : s.vm.findClass "java/lang/Math" = some m.cls := findClass_of_methodNamed Bd.named
  have hnm := (name_of_methodNamed Bd.named Bd.method).1
  have X0 : Stand p l e ({ frames := 0, cells := 0, slots := 0, locals := 0 } : Room) s m #[(.int (3 : Int32)), (.int (2 : Int32))] below meth c s₁ [] 0 0 := Stand.of_body Bd
  have e0 : s₁.heap = h0 := by rw [← hh, Bd.state]; rfl
  have N0 := Fr.nil n0
  have K0 := Keep.refl h0 []
  have go0 : Go p e below (s₁.setTop (entryFrame m #[(.int (3 : Int32)), (.int (2 : Int32))] 2)) (s₁.setTop (mkF m 0 #[vI ((3 : Int32)), vI i2] [])) := fun t k => castTop (ef_rm_min2 m) k
  have go2 := go0.st s₁ (mkF m 10 #[vI ((3 : Int32)), vI i2] [sI i2]) (fun t k => by
    refine XS.iloadN X0.here hx rfl (hb hby d9_0) rfl ?_
    refine XS.iloadN X0.here hx rfl (hb hby d9_1) rfl ?_
    refine XS.icmpYes X0.here hx rfl (pc0 := 2) (pc' := 9) rfl (hb hby d9_2) rfl (tlt ((by decide) : (2 : Int32) < (3 : Int32))).2.2.1 (by decide) (by decide) ?_
    refine XS.iloadN X0.here hx rfl (hb hby d9_9) rfl ?_
    exact k)
  obtain ⟨fs, hr, hrun, hended, hW, hsame⟩ := X0.leave (v := some (.int (2 : Int32))) (fun h => by rw [Bd.returns] at h; cases h)
  refine ⟨_, _, go2 _ ?_, hrun, hended, _, _, rfl, ?_, ⟨_, rfl⟩, hW, hsame.mono (by decide) (by decide)⟩
  · exact own_retI X0 hx Bd.returns (hb hby d9_10) hr
  · show Q_rm_min2 Z h0 n0 _ s₁.heap _
    rw [e0]
    exact ⟨rfl, N0, rfl⟩
theorem ef_rm_min1 (m : MethodId) : entryFrame m #[(.int (2 : Int32)), (.int (1 : Int32))] 2 = mkF m 0 #[.val (.int (2 : Int32)), .val (.int (1 : Int32))] [] := by first | (simp [entryFrame, mkF, argsToLocals, Value.category]; done) | rfl
def Q_rm_min1 (Z : State) (h0 : Heap) (n0 : Nat) (v : Option Value) (h : Heap) (L : List Loc) : Prop := v = some (.int (1 : Int32)) ∧ Fr n0 L ∧ h = h0
set_option maxRecDepth 65536 in
set_option maxHeartbeats 40000000 in
theorem rm_min1 (l : Launch) (Z : State) (a0 : Array Value) (hw : ∀ d ∈ tables_1, d.before a0 Z = true) (ws : List Jvm.Cond) (h0 : Heap) (n0 : Nat) (Z0 : n0 ≤ h0.size) :
    MetFree l yN4 (head1 (Jvm.Cond.code yN4 jdk_29_method_69_code 2 (some .int) :: ws) ({ frames := 0, cells := 0, slots := 0, locals := 0 } : Room)) (fun a U => a = #[(.int (2 : Int32)), (.int (1 : Int32))] ∧ Z.Warmed39 U.vm ∧ U.heap = h0) (fun _ _ _ _ _ => True) (fun _ U o U' => ∃ v L, o = .returned v ∧ Q_rm_min1 Z h0 n0 v U'.heap L ∧ FrameEnd U o U' L ({ frames := 0, cells := 0, slots := 0, locals := 0 } : Room).cells ({ frames := 0, cells := 0, slots := 0, locals := 0 } : Room).slots) := by
  refine MetFree.of_bodySF (Jvm.Free.JP.mathPlain rfl (by decide +kernel)) hisR ?_
  intro p e s m args below meth c s₁ Bd hml0 hP hK
  obtain ⟨rfl, hZ, hh⟩ := hP
  have hx := Bd.exec
  have hby := Bd.bytes
  have hml : c.maxLocals = 2 := hml0
  have hown : s.vm.findClass "java/lang/Math" = some m.cls := findClass_of_methodNamed Bd.named
  have hnm := (name_of_methodNamed Bd.named Bd.method).1
  have X0 : Stand p l e ({ frames := 0, cells := 0, slots := 0, locals := 0 } : Room) s m #[(.int (2 : Int32)), (.int (1 : Int32))] below meth c s₁ [] 0 0 := Stand.of_body Bd
  have e0 : s₁.heap = h0 := by rw [← hh, Bd.state]; rfl
  have N0 := Fr.nil n0
  have K0 := Keep.refl h0 []
  have go0 : Go p e below (s₁.setTop (entryFrame m #[(.int (2 : Int32)), (.int (1 : Int32))] 2)) (s₁.setTop (mkF m 0 #[vI i2, vI i1] [])) := fun t k => castTop (ef_rm_min1 m) k
  have go2 := go0.st s₁ (mkF m 10 #[vI i2, vI i1] [sI i1]) (fun t k => by
    refine XS.iloadN X0.here hx rfl (hb hby d9_0) rfl ?_
    refine XS.iloadN X0.here hx rfl (hb hby d9_1) rfl ?_
    refine XS.icmpYes X0.here hx rfl (pc0 := 2) (pc' := 9) rfl (hb hby d9_2) rfl (tlt ((by decide) : (1 : Int32) < (2 : Int32))).2.2.1 (by decide) (by decide) ?_
    refine XS.iloadN X0.here hx rfl (hb hby d9_9) rfl ?_
    exact k)
  obtain ⟨fs, hr, hrun, hended, hW, hsame⟩ := X0.leave (v := some (.int (1 : Int32))) (fun h => by rw [Bd.returns] at h; cases h)
  refine ⟨_, _, go2 _ ?_, hrun, hended, _, _, rfl, ?_, ⟨_, rfl⟩, hW, hsame.mono (by decide) (by decide)⟩
  · exact own_retI X0 hx Bd.returns (hb hby d9_10) hr
  · show Q_rm_min1 Z h0 n0 _ s₁.heap _
    rw [e0]
    exact ⟨rfl, N0, rfl⟩
theorem d8_0 : decode jdk_65_method_123_code 0 = .ok (.iload_n 1, 1) := by decide +kernel
theorem d8_1 : decode jdk_65_method_123_code 1 = .ok (.aload_n 0, 1) := by decide +kernel
theorem d8_2 : decode jdk_65_method_123_code 2 = .ok (.arraylength, 1) := by decide +kernel
theorem d8_3 : decode jdk_65_method_123_code 3 = .ok (.if_icmp .ne 11, 3) := by decide +kernel
theorem d8_14 : decode jdk_65_method_123_code 14 = .ok (.iload_n 1, 1) := by decide +kernel
theorem d8_15 : decode jdk_65_method_123_code 15 = .ok (.newarray .int, 2) := by decide +kernel
theorem d8_17 : decode jdk_65_method_123_code 17 = .ok (.astore_n 2, 1) := by decide +kernel
theorem d8_18 : decode jdk_65_method_123_code 18 = .ok (.aload_n 0, 1) := by decide +kernel
theorem d8_19 : decode jdk_65_method_123_code 19 = .ok (.iconst 0, 1) := by decide +kernel
theorem d8_20 : decode jdk_65_method_123_code 20 = .ok (.aload_n 2, 1) := by decide +kernel
theorem d8_21 : decode jdk_65_method_123_code 21 = .ok (.iconst 0, 1) := by decide +kernel
theorem d8_22 : decode jdk_65_method_123_code 22 = .ok (.aload_n 0, 1) := by decide +kernel
theorem d8_23 : decode jdk_65_method_123_code 23 = .ok (.arraylength, 1) := by decide +kernel
theorem d8_24 : decode jdk_65_method_123_code 24 = .ok (.iload_n 1, 1) := by decide +kernel
theorem d8_25 : decode jdk_65_method_123_code 25 = .ok (.invokestatic 304, 3) := by decide +kernel
theorem d8_28 : decode jdk_65_method_123_code 28 = .ok (.invokestatic 150, 3) := by decide +kernel
theorem d8_31 : decode jdk_65_method_123_code 31 = .ok (.aload_n 2, 1) := by decide +kernel
theorem d8_32 : decode jdk_65_method_123_code 32 = .ok (.areturn, 1) := by decide +kernel
theorem pn_rm_cpI : plainName "java/util/Arrays" = true := by first | (simp [plainName, overriddenIn]; done) | decide +kernel
theorem pd_rm_cpI_0 : parseMethodDescriptor "(II)I" = some ⟨[.int, .int], some .int⟩ := by decide +kernel
theorem ef_rm_cpI (m : MethodId) (o0 : Addr) : entryFrame m #[(.ref o0), (.int (2 : Int32))] 3 = mkF m 0 #[.val (.ref o0), .val (.int (2 : Int32)), uu] [] := by first | (simp [entryFrame, mkF, argsToLocals, Value.category]; done) | rfl
def Q_rm_cpI (Z : State) (o0 : Addr) (k0 : ClassId) (x0 : Int32) (x1 : Int32) (x2 : Int32) (h0 : Heap) (n0 : Nat) (v : Option Value) (h : Heap) (L : List Loc) : Prop := ∃ b : Addr, ∃ kb : ClassId, v = some (.ref b) ∧ Fr n0 L ∧ Keep h0 h [] ∧ n0 ≤ b ∧ h0.size ≤ b ∧ Arv Z h b kb .int (2 : Int32) [(.int x0), (.int x1)] (.int (0 : Int32))
set_option maxRecDepth 65536 in
set_option maxHeartbeats 40000000 in
theorem rm_cpI (l : Launch) (Z : State) (a0 : Array Value) (hw : ∀ d ∈ tables_1, d.before a0 Z = true) (ws : List Jvm.Cond) (o0 : Addr) (k0 : ClassId) (x0 : Int32) (x1 : Int32) (x2 : Int32) (h0 : Heap) (n0 : Nat) (Z0 : n0 ≤ h0.size) (V_o0 : Arv Z h0 o0 k0 .int (3 : Int32) [(.int x0), (.int x1), (.int x2)] (.int (0 : Int32))) :
    MetFree l yN5 (head1 (Jvm.Cond.code yN5 jdk_65_method_123_code 3 (some (.array .int)) :: ws) ({ frames := 1, cells := 1, slots := 2, locals := 40 } : Room)) (fun a U => a = #[(.ref o0), (.int (2 : Int32))] ∧ Z.Warmed39 U.vm ∧ U.heap = h0) (fun _ _ _ _ _ => True) (fun _ U o U' => ∃ v L, o = .returned v ∧ Q_rm_cpI Z o0 k0 x0 x1 x2 h0 n0 v U'.heap L ∧ FrameEnd U o U' L ({ frames := 1, cells := 1, slots := 2, locals := 40 } : Room).cells ({ frames := 1, cells := 1, slots := 2, locals := 40 } : Room).slots) := by
  refine MetFree.of_bodySF (plainFor_of_name pn_rm_cpI) hisR ?_
  intro p e s m args below meth c s₁ Bd hml0 hP hK
  obtain ⟨rfl, hZ, hh⟩ := hP
  have hx := Bd.exec
  have hby := Bd.bytes
  have hml : c.maxLocals = 3 := hml0
  have hown : s.vm.findClass "java/util/Arrays" = some m.cls := findClass_of_methodNamed Bd.named
  have hnm := (name_of_methodNamed Bd.named Bd.method).1
  have X0 : Stand p l e ({ frames := 1, cells := 1, slots := 2, locals := 40 } : Room) s m #[(.ref o0), (.int (2 : Int32))] below meth c s₁ [] 0 0 := Stand.of_body Bd
  have e0 : s₁.heap = h0 := by rw [← hh, Bd.state]; rfl
  have N0 := Fr.nil n0
  have K0 := Keep.refl h0 []
  have go0 : Go p e below (s₁.setTop (entryFrame m #[(.ref o0), (.int (2 : Int32))] 3)) (s₁.setTop (mkF m 0 #[vR o0, vI i2, uu] [])) := fun t k => castTop (ef_rm_cpI m o0) k
  have go1 := go0.st s₁ (mkF m 2 #[vR o0, vI i2, uu] [sR o0, sI i2]) (fun t k => by
    refine XS.iloadN X0.here hx rfl (hb hby d8_0) rfl ?_
    refine XS.aloadN X0.here hx rfl (hb hby d8_1) rfl rfl ?_
    exact k)
  have Vo2 := V_o0
  obtain ⟨cl2, Ar2, qa2, Sa2, Na2, Ha2, Ga2⟩ := Vo2
  have go4 := go1.st s₁ (mkF m 15 #[vR o0, vI i2, uu] [sI i2]) (fun t k => by
    refine X0.arraylength hx (by rw [e0]; exact Ar2.1) (State.isArrayOf_alike hZ.alike Ar2.2.1) (g := (mkF m 2 #[vR o0, vI i2, uu] [sR o0, sI i2])) rfl rfl (hb hby d8_2) _ ?_
    rw [len_of Sa2 Na2]
    refine XS.icmpYes X0.here hx rfl (pc0 := 3) (pc' := 14) rfl (hb hby d8_3) rfl (feq ((by decide) : ¬ ((2 : Int32) = (3 : Int32)))).2 (by decide) (by decide) ?_
    refine XS.iloadN X0.here hx rfl (hb hby d8_14) rfl ?_
    exact k)
  obtain ⟨T5, h5, k5, X5, e5, E5, A5, st5⟩ := newP X0 hx hZ (wD hw 12 rfl) e0 (g := (mkF m 15 #[vR o0, vI i2, uu] [sI i2])) rfl (hb hby d8_15) rfl (by decide) (cap := 2) (by decide) (by decide) (by decide) (by decide)
  obtain ⟨b5, g5⟩ : ∃ z, z = h0.size := ⟨_, rfl⟩
  rw [← g5] at A5 st5
  have ne_o0_b5 : o0 ≠ b5 := Nat.ne_of_lt (Nat.lt_of_lt_of_le V_o0.lt (Nat.le_of_eq g5.symm))
  have g_b5 : n0 ≤ b5 := Nat.le_trans Z0 (Nat.le_of_eq g5.symm)
  have sz_b5 : h0.size ≤ b5 := Nat.le_trans K0.1 (Nat.le_of_eq g5.symm)
  have f6 := V_o0.ext E5
  have V5 : Arv Z h5 b5 k5 .int (2 : Int32) [(.int (0 : Int32)), (.int (0 : Int32))] (.int (0 : Int32)) := (Arv.new A5 (by decide)).pad (pad_rep [] (.int (0 : Int32)) 2)
  have Z5 : n0 ≤ h5.size := Nat.le_trans Z0 E5.1
  have K5 := K0.ext E5
  have go7 := go4.st T5 (mkF m 23 #[vR o0, vI i2, vR b5] [sR o0, sI i0, sR b5, sI i0, sR o0]) (fun t k => by
    refine st5 _ ?_
    show SP p e below T5 (mkF m 17 #[vR o0, vI i2, uu] [sR b5]) _
    refine XS.astoreN X5.here hx rfl (hb hby d8_17) rfl rfl (l' := #[vR o0, vI i2, vR b5]) rfl ?_
    refine XS.aloadN X5.here hx rfl (hb hby d8_18) rfl rfl ?_
    refine XS.iconst X5.here hx rfl (hb hby d8_19) ?_
    refine XS.aloadN X5.here hx rfl (hb hby d8_20) rfl rfl ?_
    refine XS.iconst X5.here hx rfl (hb hby d8_21) ?_
    refine XS.aloadN X5.here hx rfl (hb hby d8_22) rfl rfl ?_
    exact k)
  have Vo8 := f6
  obtain ⟨cl8, Ar8, qa8, Sa8, Na8, Ha8, Ga8⟩ := Vo8
  have go9 := go7.st T5 (mkF m 25 #[vR o0, vI i2, vR b5] [sI i2, (sI (3 : Int32)), sI i0, sR b5, sI i0, sR o0]) (fun t k => by
    refine X5.arraylength hx (by rw [e5]; exact Ar8.1) (State.isArrayOf_alike hZ.alike Ar8.2.1) (g := (mkF m 23 #[vR o0, vI i2, vR b5] [sR o0, sI i0, sR b5, sI i0, sR o0])) rfl rfl (hb hby d8_23) _ ?_
    rw [len_of Sa8 Na8]
    refine XS.iloadN X5.here hx rfl (hb hby d8_24) rfl ?_
    exact k)
  obtain ⟨_, _, ⟨T10, L10, k10, n10⟩, -, X10, ⟨Lc10, hQ10, l10, y10, z10⟩, st10⟩ := Jvm.LawKit.callS X5 hx (y := yN4) hown (mvT hZ (wD hw 58 rfl)) (mvT hZ (wD hw 59 rfl)) (mvT hZ (wD hw 60 rfl)) (mvT hZ (wD hw 61 rfl)) (by decide) (backOf (W := 4) (rm_min2 l Z a0 hw []  h5 n0 Z5 ) hZ (wD hw 61 rfl) (wD hw 60 rfl) (by decide) (by decide)) (g := (mkF m 25 #[vR o0, vI i2, vR b5] [sI i2, (sI (3 : Int32)), sI i0, sR b5, sI i0, sR o0])) rfl (by rw [hml]; rfl) (argsL := [(.int (3 : Int32)), (.int (2 : Int32))]) (rest := [(.int (0 : Int32)), (.ref b5), (.int (0 : Int32)), (.ref o0)]) (lenOf pd_rm_cpI_0 rfl) rfl (by show 2 * 0 + _ ≤ _; exact Nat.le_of_eq rfl) (hb hby d8_25) (fun _ _ => ⟨rfl, e5, (by decide : 1 + 0 ≤ _), (by decide : 2 + 0 ≤ _)⟩)
  dsimp only [Pt.U, Pt.locs, Pt.cells, Pt.slots] at X10 l10 y10 z10 st10 hQ10
  rw [l10, y10, z10] at X10
  obtain ⟨rfl, N10q, e10⟩ := hQ10
  have N10 := Fr.app N0 N10q
  have go11 := go9.st T10 (mkF m 28 #[vR o0, vI i2, vR b5] [sI i2, sI i0, sR b5, sI i0, sR o0]) (fun t k => by
    refine st10 _ ?_
    exact k)
  obtain ⟨T12, h12, Lx12, X12, e12, N12, K12, Vc12, st12⟩ := cpA X10 hx hZ hown (wD hw 62 rfl) (wD hw 65 rfl) (wD hw 63 rfl) (wD hw 64 rfl) e10 (us := [(.int x0), (.int x1)]) f6 V5 (Or.inl ⟨rfl, rfl⟩) (by decide) (by decide) (by decide) (by decide) (by decide) rfl (by decide) N10 g_b5 (g := (mkF m 28 #[vR o0, vI i2, vR b5] [sI i2, sI i0, sR b5, sI i0, sR o0])) rfl (by rw [hml]; rfl) rfl (hb hby d8_28) (by decide) (W := 0) (by show 2 * 0 + _ ≤ _; exact Nat.le_of_eq rfl) (by decide)
  have V12 : Arv Z h12 b5 k5 .int (2 : Int32) [(.int x0), (.int x1)] (.int (0 : Int32)) := Vc12
  have f13 := f6.keep K12 (ninS ne_o0_b5 nin0)
  have Z12 : n0 ≤ h12.size := Nat.le_trans Z5 K12.1
  have KK12 := K5.trans K12 (allS (Or.inr sz_b5) all0)
  have go15 := go11.st T12 (mkF m 32 #[vR o0, vI i2, vR b5] [sR b5]) (fun t k => by
    refine st12 _ ?_
    show SP p e below T12 (mkF m 31 #[vR o0, vI i2, vR b5] []) _
    refine XS.aloadN X12.here hx rfl (hb hby d8_31) rfl rfl ?_
    exact k)
  obtain ⟨fs, hr, hrun, hended, hW, hsame⟩ := X12.leave (v := some (.ref b5)) (fun h => by rw [Bd.returns] at h; cases h)
  refine ⟨_, _, go15 _ ?_, hrun, hended, _, _, rfl, ?_, ⟨_, rfl⟩, hW, hsame.mono (by decide) (by decide)⟩
  · exact own_retA X12 hx Bd.returns rfl rfl (hb hby d8_32) hr
  · show Q_rm_cpI Z o0 k0 x0 x1 x2 h0 n0 _ T12.heap _
    rw [e12]
    exact ⟨b5, k5, rfl, N12, KK12, g_b5, sz_b5, V12⟩
theorem d24_0 : decode jdk_65_method_124_code 0 = .ok (.iload_n 1, 1) := by decide +kernel
theorem d24_1 : decode jdk_65_method_124_code 1 = .ok (.aload_n 0, 1) := by decide +kernel
theorem d24_2 : decode jdk_65_method_124_code 2 = .ok (.arraylength, 1) := by decide +kernel
theorem d24_3 : decode jdk_65_method_124_code 3 = .ok (.if_icmp .ne 11, 3) := by decide +kernel
theorem d24_14 : decode jdk_65_method_124_code 14 = .ok (.iload_n 1, 1) := by decide +kernel
theorem d24_15 : decode jdk_65_method_124_code 15 = .ok (.newarray .long, 2) := by decide +kernel
theorem d24_17 : decode jdk_65_method_124_code 17 = .ok (.astore_n 2, 1) := by decide +kernel
theorem d24_18 : decode jdk_65_method_124_code 18 = .ok (.aload_n 0, 1) := by decide +kernel
theorem d24_19 : decode jdk_65_method_124_code 19 = .ok (.iconst 0, 1) := by decide +kernel
theorem d24_20 : decode jdk_65_method_124_code 20 = .ok (.aload_n 2, 1) := by decide +kernel
theorem d24_21 : decode jdk_65_method_124_code 21 = .ok (.iconst 0, 1) := by decide +kernel
theorem d24_22 : decode jdk_65_method_124_code 22 = .ok (.aload_n 0, 1) := by decide +kernel
theorem d24_23 : decode jdk_65_method_124_code 23 = .ok (.arraylength, 1) := by decide +kernel
theorem d24_24 : decode jdk_65_method_124_code 24 = .ok (.iload_n 1, 1) := by decide +kernel
theorem d24_25 : decode jdk_65_method_124_code 25 = .ok (.invokestatic 304, 3) := by decide +kernel
theorem d24_28 : decode jdk_65_method_124_code 28 = .ok (.invokestatic 150, 3) := by decide +kernel
theorem d24_31 : decode jdk_65_method_124_code 31 = .ok (.aload_n 2, 1) := by decide +kernel
theorem d24_32 : decode jdk_65_method_124_code 32 = .ok (.areturn, 1) := by decide +kernel
theorem pn_rm_cpJ : plainName "java/util/Arrays" = true := by first | (simp [plainName, overriddenIn]; done) | decide +kernel
theorem pd_rm_cpJ_0 : parseMethodDescriptor "(II)I" = some ⟨[.int, .int], some .int⟩ := by decide +kernel
theorem ef_rm_cpJ (m : MethodId) (o0 : Addr) : entryFrame m #[(.ref o0), (.int (1 : Int32))] 3 = mkF m 0 #[.val (.ref o0), .val (.int (1 : Int32)), uu] [] := by first | (simp [entryFrame, mkF, argsToLocals, Value.category]; done) | rfl
def Q_rm_cpJ (Z : State) (o0 : Addr) (k0 : ClassId) (x0 : Int64) (x1 : Int64) (h0 : Heap) (n0 : Nat) (v : Option Value) (h : Heap) (L : List Loc) : Prop := ∃ b : Addr, ∃ kb : ClassId, v = some (.ref b) ∧ Fr n0 L ∧ Keep h0 h [] ∧ n0 ≤ b ∧ h0.size ≤ b ∧ Arv Z h b kb .long (1 : Int32) [(.long x0)] (.long (0 : Int64))
set_option maxRecDepth 65536 in
set_option maxHeartbeats 40000000 in
theorem rm_cpJ (l : Launch) (Z : State) (a0 : Array Value) (hw : ∀ d ∈ tables_1, d.before a0 Z = true) (ws : List Jvm.Cond) (o0 : Addr) (k0 : ClassId) (x0 : Int64) (x1 : Int64) (h0 : Heap) (n0 : Nat) (Z0 : n0 ≤ h0.size) (V_o0 : Arv Z h0 o0 k0 .long (2 : Int32) [(.long x0), (.long x1)] (.long (0 : Int64))) :
    MetFree l yN6 (head1 (Jvm.Cond.code yN6 jdk_65_method_124_code 3 (some (.array .long)) :: ws) ({ frames := 1, cells := 1, slots := 1, locals := 40 } : Room)) (fun a U => a = #[(.ref o0), (.int (1 : Int32))] ∧ Z.Warmed39 U.vm ∧ U.heap = h0) (fun _ _ _ _ _ => True) (fun _ U o U' => ∃ v L, o = .returned v ∧ Q_rm_cpJ Z o0 k0 x0 x1 h0 n0 v U'.heap L ∧ FrameEnd U o U' L ({ frames := 1, cells := 1, slots := 1, locals := 40 } : Room).cells ({ frames := 1, cells := 1, slots := 1, locals := 40 } : Room).slots) := by
  refine MetFree.of_bodySF (plainFor_of_name pn_rm_cpJ) hisR ?_
  intro p e s m args below meth c s₁ Bd hml0 hP hK
  obtain ⟨rfl, hZ, hh⟩ := hP
  have hx := Bd.exec
  have hby := Bd.bytes
  have hml : c.maxLocals = 3 := hml0
  have hown : s.vm.findClass "java/util/Arrays" = some m.cls := findClass_of_methodNamed Bd.named
  have hnm := (name_of_methodNamed Bd.named Bd.method).1
  have X0 : Stand p l e ({ frames := 1, cells := 1, slots := 1, locals := 40 } : Room) s m #[(.ref o0), (.int (1 : Int32))] below meth c s₁ [] 0 0 := Stand.of_body Bd
  have e0 : s₁.heap = h0 := by rw [← hh, Bd.state]; rfl
  have N0 := Fr.nil n0
  have K0 := Keep.refl h0 []
  have go0 : Go p e below (s₁.setTop (entryFrame m #[(.ref o0), (.int (1 : Int32))] 3)) (s₁.setTop (mkF m 0 #[vR o0, vI i1, uu] [])) := fun t k => castTop (ef_rm_cpJ m o0) k
  have go1 := go0.st s₁ (mkF m 2 #[vR o0, vI i1, uu] [sR o0, sI i1]) (fun t k => by
    refine XS.iloadN X0.here hx rfl (hb hby d24_0) rfl ?_
    refine XS.aloadN X0.here hx rfl (hb hby d24_1) rfl rfl ?_
    exact k)
  have Vo2 := V_o0
  obtain ⟨cl2, Ar2, qa2, Sa2, Na2, Ha2, Ga2⟩ := Vo2
  have go4 := go1.st s₁ (mkF m 15 #[vR o0, vI i1, uu] [sI i1]) (fun t k => by
    refine X0.arraylength hx (by rw [e0]; exact Ar2.1) (State.isArrayOf_alike hZ.alike Ar2.2.1) (g := (mkF m 2 #[vR o0, vI i1, uu] [sR o0, sI i1])) rfl rfl (hb hby d24_2) _ ?_
    rw [len_of Sa2 Na2]
    refine XS.icmpYes X0.here hx rfl (pc0 := 3) (pc' := 14) rfl (hb hby d24_3) rfl (feq ((by decide) : ¬ ((1 : Int32) = (2 : Int32)))).2 (by decide) (by decide) ?_
    refine XS.iloadN X0.here hx rfl (hb hby d24_14) rfl ?_
    exact k)
  obtain ⟨T5, h5, k5, X5, e5, E5, A5, st5⟩ := newP X0 hx hZ (wD hw 68 rfl) e0 (g := (mkF m 15 #[vR o0, vI i1, uu] [sI i1])) rfl (hb hby d24_15) rfl (by decide) (cap := 1) (by decide) (by decide) (by decide) (by decide)
  obtain ⟨b5, g5⟩ : ∃ z, z = h0.size := ⟨_, rfl⟩
  rw [← g5] at A5 st5
  have ne_o0_b5 : o0 ≠ b5 := Nat.ne_of_lt (Nat.lt_of_lt_of_le V_o0.lt (Nat.le_of_eq g5.symm))
  have g_b5 : n0 ≤ b5 := Nat.le_trans Z0 (Nat.le_of_eq g5.symm)
  have sz_b5 : h0.size ≤ b5 := Nat.le_trans K0.1 (Nat.le_of_eq g5.symm)
  have f6 := V_o0.ext E5
  have V5 : Arv Z h5 b5 k5 .long (1 : Int32) [(.long (0 : Int64))] (.long (0 : Int64)) := (Arv.new A5 (by decide)).pad (pad_rep [] (.long (0 : Int64)) 1)
  have Z5 : n0 ≤ h5.size := Nat.le_trans Z0 E5.1
  have K5 := K0.ext E5
  have go7 := go4.st T5 (mkF m 23 #[vR o0, vI i1, vR b5] [sR o0, sI i0, sR b5, sI i0, sR o0]) (fun t k => by
    refine st5 _ ?_
    show SP p e below T5 (mkF m 17 #[vR o0, vI i1, uu] [sR b5]) _
    refine XS.astoreN X5.here hx rfl (hb hby d24_17) rfl rfl (l' := #[vR o0, vI i1, vR b5]) rfl ?_
    refine XS.aloadN X5.here hx rfl (hb hby d24_18) rfl rfl ?_
    refine XS.iconst X5.here hx rfl (hb hby d24_19) ?_
    refine XS.aloadN X5.here hx rfl (hb hby d24_20) rfl rfl ?_
    refine XS.iconst X5.here hx rfl (hb hby d24_21) ?_
    refine XS.aloadN X5.here hx rfl (hb hby d24_22) rfl rfl ?_
    exact k)
  have Vo8 := f6
  obtain ⟨cl8, Ar8, qa8, Sa8, Na8, Ha8, Ga8⟩ := Vo8
  have go9 := go7.st T5 (mkF m 25 #[vR o0, vI i1, vR b5] [sI i1, sI i2, sI i0, sR b5, sI i0, sR o0]) (fun t k => by
    refine X5.arraylength hx (by rw [e5]; exact Ar8.1) (State.isArrayOf_alike hZ.alike Ar8.2.1) (g := (mkF m 23 #[vR o0, vI i1, vR b5] [sR o0, sI i0, sR b5, sI i0, sR o0])) rfl rfl (hb hby d24_23) _ ?_
    rw [len_of Sa8 Na8]
    refine XS.iloadN X5.here hx rfl (hb hby d24_24) rfl ?_
    exact k)
  obtain ⟨_, _, ⟨T10, L10, k10, n10⟩, -, X10, ⟨Lc10, hQ10, l10, y10, z10⟩, st10⟩ := Jvm.LawKit.callS X5 hx (y := yN4) hown (mvT hZ (wD hw 58 rfl)) (mvT hZ (wD hw 59 rfl)) (mvT hZ (wD hw 60 rfl)) (mvT hZ (wD hw 61 rfl)) (by decide) (backOf (W := 4) (rm_min1 l Z a0 hw []  h5 n0 Z5 ) hZ (wD hw 61 rfl) (wD hw 60 rfl) (by decide) (by decide)) (g := (mkF m 25 #[vR o0, vI i1, vR b5] [sI i1, sI i2, sI i0, sR b5, sI i0, sR o0])) rfl (by rw [hml]; rfl) (argsL := [(.int (2 : Int32)), (.int (1 : Int32))]) (rest := [(.int (0 : Int32)), (.ref b5), (.int (0 : Int32)), (.ref o0)]) (lenOf pd_rm_cpJ_0 rfl) rfl (by show 2 * 0 + _ ≤ _; exact Nat.le_of_eq rfl) (hb hby d24_25) (fun _ _ => ⟨rfl, e5, (by decide : 1 + 0 ≤ _), (by decide : 1 + 0 ≤ _)⟩)
  dsimp only [Pt.U, Pt.locs, Pt.cells, Pt.slots] at X10 l10 y10 z10 st10 hQ10
  rw [l10, y10, z10] at X10
  obtain ⟨rfl, N10q, e10⟩ := hQ10
  have N10 := Fr.app N0 N10q
  have go11 := go9.st T10 (mkF m 28 #[vR o0, vI i1, vR b5] [sI i1, sI i0, sR b5, sI i0, sR o0]) (fun t k => by
    refine st10 _ ?_
    exact k)
  obtain ⟨T12, h12, Lx12, X12, e12, N12, K12, Vc12, st12⟩ := cpA X10 hx hZ hown (wD hw 62 rfl) (wD hw 65 rfl) (wD hw 63 rfl) (wD hw 64 rfl) e10 (us := [(.long x0)]) f6 V5 (Or.inl ⟨rfl, rfl⟩) (by decide) (by decide) (by decide) (by decide) (by decide) rfl (by decide) N10 g_b5 (g := (mkF m 28 #[vR o0, vI i1, vR b5] [sI i1, sI i0, sR b5, sI i0, sR o0])) rfl (by rw [hml]; rfl) rfl (hb hby d24_28) (by decide) (W := 0) (by show 2 * 0 + _ ≤ _; exact Nat.le_of_eq rfl) (by decide)
  have V12 : Arv Z h12 b5 k5 .long (1 : Int32) [(.long x0)] (.long (0 : Int64)) := Vc12
  have f13 := f6.keep K12 (ninS ne_o0_b5 nin0)
  have Z12 : n0 ≤ h12.size := Nat.le_trans Z5 K12.1
  have KK12 := K5.trans K12 (allS (Or.inr sz_b5) all0)
  have go15 := go11.st T12 (mkF m 32 #[vR o0, vI i1, vR b5] [sR b5]) (fun t k => by
    refine st12 _ ?_
    show SP p e below T12 (mkF m 31 #[vR o0, vI i1, vR b5] []) _
    refine XS.aloadN X12.here hx rfl (hb hby d24_31) rfl rfl ?_
    exact k)
  obtain ⟨fs, hr, hrun, hended, hW, hsame⟩ := X12.leave (v := some (.ref b5)) (fun h => by rw [Bd.returns] at h; cases h)
  refine ⟨_, _, go15 _ ?_, hrun, hended, _, _, rfl, ?_, ⟨_, rfl⟩, hW, hsame.mono (by decide) (by decide)⟩
  · exact own_retA X12 hx Bd.returns rfl rfl (hb hby d24_32) hr
  · show Q_rm_cpJ Z o0 k0 x0 x1 h0 n0 _ T12.heap _
    rw [e12]
    exact ⟨b5, k5, rfl, N12, KK12, g_b5, sz_b5, V12⟩
theorem d5_0 : decode prog_10_method_2_code 0 = .ok (.iconst 0, 1) := by decide +kernel
theorem d5_1 : decode prog_10_method_2_code 1 = .ok (.istore_n 2, 1) := by decide +kernel
theorem d5_2 : decode prog_10_method_2_code 2 = .ok (.iload_n 2, 1) := by decide +kernel
theorem d5_3 : decode prog_10_method_2_code 3 = .ok (.aload_n 0, 1) := by decide +kernel
theorem d5_4 : decode prog_10_method_2_code 4 = .ok (.getfield 7, 3) := by decide +kernel
theorem d5_7 : decode prog_10_method_2_code 7 = .ok (.if_icmp .ge 25, 3) := by decide +kernel
theorem d5_10 : decode prog_10_method_2_code 10 = .ok (.aload_n 0, 1) := by decide +kernel
theorem d5_11 : decode prog_10_method_2_code 11 = .ok (.getfield 13, 3) := by decide +kernel
theorem d5_14 : decode prog_10_method_2_code 14 = .ok (.iload_n 2, 1) := by decide +kernel
theorem d5_15 : decode prog_10_method_2_code 15 = .ok (.iconst 1, 1) := by decide +kernel
theorem d5_16 : decode prog_10_method_2_code 16 = .ok (.iadd, 1) := by decide +kernel
theorem d5_17 : decode prog_10_method_2_code 17 = .ok (.dup2, 1) := by decide +kernel
theorem d5_18 : decode prog_10_method_2_code 18 = .ok (.iaload, 1) := by decide +kernel
theorem d5_19 : decode prog_10_method_2_code 19 = .ok (.aload_n 1, 1) := by decide +kernel
theorem d5_20 : decode prog_10_method_2_code 20 = .ok (.iload_n 2, 1) := by decide +kernel
theorem d5_21 : decode prog_10_method_2_code 21 = .ok (.invokevirtual 17, 3) := by decide +kernel
theorem d5_24 : decode prog_10_method_2_code 24 = .ok (.iadd, 1) := by decide +kernel
theorem d5_25 : decode prog_10_method_2_code 25 = .ok (.iastore, 1) := by decide +kernel
theorem d5_26 : decode prog_10_method_2_code 26 = .ok (.iinc 2 1, 3) := by decide +kernel
theorem d5_29 : decode prog_10_method_2_code 29 = .ok (.goto (-27), 3) := by decide +kernel
theorem d5_32 : decode prog_10_method_2_code 32 = .ok (.return_, 1) := by decide +kernel
theorem pn_rm_count : plainName "com/example/graphkind/graphkind/Statements$Builder" = true := by first | (simp [plainName, overriddenIn]; done) | decide +kernel
theorem pd_rm_count_0 : parseMethodDescriptor "(I)I" = some ⟨[.int], some .int⟩ := by decide +kernel
theorem ef_rm_count (m : MethodId) (o0 : Addr) (o1 : Addr) : entryFrame m #[(.ref o0), (.ref o1)] 3 = mkF m 0 #[.val (.ref o0), .val (.ref o1), uu] [] := by first | (simp [entryFrame, mkF, argsToLocals, Value.category]; done) | rfl
def Q_rm_count (Z : State) (o0 : Addr) (o1 : Addr) (sa : Addr) (ka : ClassId) (sb : Addr) (k3 : ClassId) (x0 : Int32) (x1 : Int32) (h0 : Heap) (n0 : Nat) (v : Option Value) (h : Heap) (L : List Loc) : Prop := v = none ∧ Fr n0 L ∧ Keep h0 h [sa] ∧ Arv Z h sa ka .int (3 : Int32) [(.int (0 : Int32)), (.int ((0 : Int32) + x0)), (.int ((0 : Int32) + x1))] (.int (0 : Int32))
set_option maxRecDepth 65536 in
set_option maxHeartbeats 40000000 in
theorem rm_count (l : Launch) (Z : State) (a0 : Array Value) (hw : ∀ d ∈ tables_1, d.before a0 Z = true) (ws : List Jvm.Cond) (o0 : Addr) (o1 : Addr) (sa : Addr) (ka : ClassId) (sb : Addr) (k3 : ClassId) (x0 : Int32) (x1 : Int32) (h0 : Heap) (n0 : Nat) (Z0 : n0 ≤ h0.size) (F_terms_o0 : Fld Z h0 o0 "com/example/graphkind/graphkind/Statements$Builder" "terms" "I" (.int (2 : Int32))) (F_start_o0 : Fld Z h0 o0 "com/example/graphkind/graphkind/Statements$Builder" "start" "[I" (.ref sa)) (V_sa : Arv Z h0 sa ka .int (3 : Int32) [(.int (0 : Int32)), (.int (0 : Int32)), (.int (0 : Int32))] (.int (0 : Int32))) (E_o1 : Exa Z h0 o1 "com/example/graphkind/graphkind/TripleList") (F_ofSubject_o1 : Fld Z h0 o1 "com/example/graphkind/graphkind/TripleList" "ofSubject" "[I" (.ref sb)) (V_sb : Arv Z h0 sb k3 .int (16 : Int32) [(.int x0), (.int x1)] (.int (0 : Int32))) (g_sa : n0 ≤ sa) (ne_o0_sa : o0 ≠ sa) (ne_o1_sa : o1 ≠ sa) (ne_sb_sa : sb ≠ sa) :
    MetFree l yN7 (head1 (Jvm.Cond.code yN7 prog_10_method_2_code 3 none :: ws) ({ frames := 1, cells := 0, slots := 0, locals := 16 } : Room)) (fun a U => a = #[(.ref o0), (.ref o1)] ∧ Z.Warmed39 U.vm ∧ U.heap = h0) (fun _ _ _ _ _ => True) (fun _ U o U' => ∃ v L, o = .returned v ∧ Q_rm_count Z o0 o1 sa ka sb k3 x0 x1 h0 n0 v U'.heap L ∧ FrameEnd U o U' L ({ frames := 1, cells := 0, slots := 0, locals := 16 } : Room).cells ({ frames := 1, cells := 0, slots := 0, locals := 16 } : Room).slots) := by
  refine MetFree.of_bodySF (plainFor_of_name pn_rm_count) hisR ?_
  intro p e s m args below meth c s₁ Bd hml0 hP hK
  obtain ⟨rfl, hZ, hh⟩ := hP
  have hx := Bd.exec
  have hby := Bd.bytes
  have hml : c.maxLocals = 3 := hml0
  have hown : s.vm.findClass "com/example/graphkind/graphkind/Statements$Builder" = some m.cls := findClass_of_methodNamed Bd.named
  have hnm := (name_of_methodNamed Bd.named Bd.method).1
  have X0 : Stand p l e ({ frames := 1, cells := 0, slots := 0, locals := 16 } : Room) s m #[(.ref o0), (.ref o1)] below meth c s₁ [] 0 0 := Stand.of_body Bd
  have e0 : s₁.heap = h0 := by rw [← hh, Bd.state]; rfl
  have N0 := Fr.nil n0
  have K0 := Keep.refl h0 [sa]
  have go0 : Go p e below (s₁.setTop (entryFrame m #[(.ref o0), (.ref o1)] 3)) (s₁.setTop (mkF m 0 #[vR o0, vR o1, uu] [])) := fun t k => castTop (ef_rm_count m o0 o1) k
  have go1 := go0.st s₁ (mkF m 4 #[vR o0, vR o1, vI i0] [sR o0, sI i0]) (fun t k => by
    refine XS.iconst X0.here hx rfl (hb hby d5_0) ?_
    refine XS.istoreN X0.here hx rfl (hb hby d5_1) rfl (l' := #[vR o0, vR o1, vI i0]) rfl ?_
    refine XS.iloadN X0.here hx rfl (hb hby d5_2) rfl ?_
    refine XS.aloadN X0.here hx rfl (hb hby d5_3) rfl rfl ?_
    exact k)
  obtain ⟨T2, X2, e2, st2⟩ := getF X0 hx hZ hown (host := "") (Or.inl (wD hw 35 rfl)) Via.refl e0 F_terms_o0 (g := (mkF m 4 #[vR o0, vR o1, vI i0] [sR o0, sI i0])) rfl rfl (hb hby d5_4)
  have go4 := go1.st T2 (mkF m 11 #[vR o0, vR o1, vI i0] [sR o0]) (fun t k => by
    refine st2 _ ?_
    show SP p e below T2 (mkF m 7 #[vR o0, vR o1, vI i0] [sI i2, sI i0]) _
    refine XS.icmpNo X2.here hx rfl (hb hby d5_7) rfl (tlt ((by decide) : (0 : Int32) < (2 : Int32))).2.1 ?_
    refine XS.aloadN X2.here hx rfl (hb hby d5_10) rfl rfl ?_
    exact k)
  obtain ⟨T5, X5, e5, st5⟩ := getF X2 hx hZ hown (host := "") (Or.inl (wD hw 37 rfl)) Via.refl e2 F_start_o0 (g := (mkF m 11 #[vR o0, vR o1, vI i0] [sR o0])) rfl rfl (hb hby d5_11)
  have go6 := go4.st T5 (mkF m 18 #[vR o0, vR o1, vI i0] [sI i1, sR sa, sI i1, sR sa]) (fun t k => by
    refine st5 _ ?_
    show SP p e below T5 (mkF m 14 #[vR o0, vR o1, vI i0] [sR sa]) _
    refine XS.iloadN X5.here hx rfl (hb hby d5_14) rfl ?_
    refine XS.iconst X5.here hx rfl (hb hby d5_15) ?_
    refine XS.iadd X5.here hx rfl (hb hby d5_16) rfl ?_
    show SP p e below T5 (mkF m 17 #[vR o0, vR o1, vI i0] [sI i1, sR sa]) _
    jvm_step X5.here [X5.here.top, hx, (hb hby d5_17), Value.category]
    exact k)
  have Vo7 := V_sa
  obtain ⟨cl7, Ar7, qa7, Sa7, Na7, Ha7, Ga7⟩ := Vo7
  have hin7 := inb_of (j := (1 : Int32)) Sa7 ⟨by decide, by decide⟩
  have hat7 : cl7.slots[((1 : Int32)).toNatClampNeg]? = some (.int (0 : Int32)) := Has.at Ha7 hin7 rfl
  have go8 := go6.st T5 (mkF m 21 #[vR o0, vR o1, vI i0] [sI i0, sR o1, sI i0, sI i1, sR sa]) (fun t k => by
    refine X5.iaload hx (j := (1 : Int32)) (v := (.int (0 : Int32))) (by rw [e5]; exact Ar7.1) (State.isArrayOf_alike hZ.alike Ar7.2.1) Ar7.2.2 hin7 hat7 (g := (mkF m 18 #[vR o0, vR o1, vI i0] [sI i1, sR sa, sI i1, sR sa])) rfl rfl (hb hby d5_18) _ ?_
    refine XS.aloadN X5.here hx rfl (hb hby d5_19) rfl rfl ?_
    refine XS.iloadN X5.here hx rfl (hb hby d5_20) rfl ?_
    exact k)
  obtain ⟨cq9, kq9, q9a, q9b, q9c⟩ := isOf hZ e5 E_o1
  obtain ⟨_, _, ⟨T9, L9, k9, n9⟩, -, X9, ⟨Lc9, hQ9, l9, y9, z9⟩, st9⟩ := X5.virtualBack hx (y := yN3) (z := yN3) hown (mvT hZ (wD hw 44 rfl)) (mvT hZ (wD hw 45 rfl)) (notFace_of_selects (args := #[]) (mvT hZ (wD hw 47 rfl))) (mvT hZ (wD hw 47 rfl)) (mvT hZ (wD hw 46 rfl)) (by decide) (backOf (W := 3) (rm_of0 l Z a0 hw [] o1 sb k3 x0 x1 h0 n0 Z0 F_ofSubject_o1 V_sb) hZ (wD hw 48 rfl) (wD hw 3 rfl) (by decide) (by decide)) q9a q9c (g := (mkF m 21 #[vR o0, vR o1, vI i0] [sI i0, sR o1, sI i0, sI i1, sR sa])) rfl (by rw [hml]; rfl) (Steps.refl _) (argsL := [(.int (0 : Int32))]) (rest := [(.int (0 : Int32)), (.int (1 : Int32)), (.ref sa)]) (lenOf pd_rm_count_0 rfl) rfl (by show 2 * 0 + _ ≤ _; exact Nat.le_of_eq rfl) (hb hby d5_21) (fun _ _ => ⟨rfl, e5, (by decide : 0 + 0 ≤ _), (by decide : 0 + 0 ≤ _)⟩)
  dsimp only [Pt.U, Pt.locs, Pt.cells, Pt.slots] at X9 l9 y9 z9 st9 hQ9
  rw [l9, y9, z9] at X9
  obtain ⟨rfl, N9q, e9⟩ := hQ9
  have N9 := Fr.app N0 N9q
  have go10 := go8.st T9 (mkF m 25 #[vR o0, vR o1, vI i0] [(sI (i0 + x0)), sI i1, sR sa]) (fun t k => by
    refine st9.trans ?_
    show SP p e below T9 (mkF m 24 #[vR o0, vR o1, vI i0] [sI x0, sI i0, sI i1, sR sa]) _
    refine XS.iadd X9.here hx rfl (hb hby d5_24) rfl ?_
    exact k)
  have Vo11 := V_sa
  obtain ⟨cl11, Ar11, qa11, Sa11, Na11, Ha11, Ga11⟩ := Vo11
  have hin11 := inb_of (j := (1 : Int32)) Sa11 ⟨by decide, by decide⟩
  obtain ⟨T12, h12, X12, e12, W12, st12⟩ := stI X9 hx hZ e9 Ar11 (j := (1 : Int32)) hin11 (g := (mkF m 25 #[vR o0, vR o1, vI i0] [(sI (i0 + x0)), sI i1, sR sa])) rfl rfl (hb hby d5_25)
  have V12 : Arv Z h12 sa ka .int (3 : Int32) [(.int (0 : Int32)), (.int ((0 : Int32) + x0)), (.int (0 : Int32))] (.int (0 : Int32)) := Arv.set Ar11 qa11 Sa11 Na11 Ha11 Ga11 rfl W12 1 rfl (Nat.le_of_ble_eq_true rfl)
  have f13 := Fld.other W12 F_terms_o0 (Or.inl ne_o0_sa)
  have f14 := Fld.other W12 F_start_o0 (Or.inl ne_o0_sa)
  have f16 := E_o1.wr W12
  have f17 := Fld.other W12 F_ofSubject_o1 (Or.inl ne_o1_sa)
  have f18 := Arv.other V_sb W12 ne_sb_sa
  have Z12 : n0 ≤ h12.size := Nat.le_trans Z0 (Nat.le_of_eq W12.size.symm)
  have K12 := K0.wr W12 (Or.inl (List.mem_of_getElem? (i := 0) rfl))
  have N12 := Fr.snoc X12 N9 g_sa
  have go19 := go10.st T12 (mkF m 4 #[vR o0, vR o1, vI i1] [sR o0, sI i1]) (fun t k => by
    refine st12 _ ?_
    show SP p e below T12 (mkF m 26 #[vR o0, vR o1, vI i0] []) _
    refine XS.iinc X12.here hx rfl (hb hby d5_26) rfl (l' := #[vR o0, vR o1, vI i1]) rfl ?_
    refine XS.goto X12.here hx rfl (pc0 := 29) (pc' := 2) rfl (hb hby d5_29) (by decide) (by decide) ?_
    refine XS.iloadN X12.here hx rfl (hb hby d5_2) rfl ?_
    refine XS.aloadN X12.here hx rfl (hb hby d5_3) rfl rfl ?_
    exact k)
  obtain ⟨T20, X20, e20, st20⟩ := getF X12 hx hZ hown (host := "") (Or.inl (wD hw 35 rfl)) Via.refl e12 f13 (g := (mkF m 4 #[vR o0, vR o1, vI i1] [sR o0, sI i1])) rfl rfl (hb hby d5_4)
  have go22 := go19.st T20 (mkF m 11 #[vR o0, vR o1, vI i1] [sR o0]) (fun t k => by
    refine st20 _ ?_
    show SP p e below T20 (mkF m 7 #[vR o0, vR o1, vI i1] [sI i2, sI i1]) _
    refine XS.icmpNo X20.here hx rfl (hb hby d5_7) rfl (tlt ((by decide) : (1 : Int32) < (2 : Int32))).2.1 ?_
    refine XS.aloadN X20.here hx rfl (hb hby d5_10) rfl rfl ?_
    exact k)
  obtain ⟨T23, X23, e23, st23⟩ := getF X20 hx hZ hown (host := "") (Or.inl (wD hw 37 rfl)) Via.refl e20 f14 (g := (mkF m 11 #[vR o0, vR o1, vI i1] [sR o0])) rfl rfl (hb hby d5_11)
  have go24 := go22.st T23 (mkF m 18 #[vR o0, vR o1, vI i1] [sI i2, sR sa, sI i2, sR sa]) (fun t k => by
    refine st23 _ ?_
    show SP p e below T23 (mkF m 14 #[vR o0, vR o1, vI i1] [sR sa]) _
    refine XS.iloadN X23.here hx rfl (hb hby d5_14) rfl ?_
    refine XS.iconst X23.here hx rfl (hb hby d5_15) ?_
    refine XS.iadd X23.here hx rfl (hb hby d5_16) rfl ?_
    show SP p e below T23 (mkF m 17 #[vR o0, vR o1, vI i1] [sI i2, sR sa]) _
    jvm_step X23.here [X23.here.top, hx, (hb hby d5_17), Value.category]
    exact k)
  have Vo25 := V12
  obtain ⟨cl25, Ar25, qa25, Sa25, Na25, Ha25, Ga25⟩ := Vo25
  have hin25 := inb_of (j := (2 : Int32)) Sa25 ⟨by decide, by decide⟩
  have hat25 : cl25.slots[((2 : Int32)).toNatClampNeg]? = some (.int (0 : Int32)) := Has.at Ha25 hin25 rfl
  have go26 := go24.st T23 (mkF m 21 #[vR o0, vR o1, vI i1] [sI i1, sR o1, sI i0, sI i2, sR sa]) (fun t k => by
    refine X23.iaload hx (j := (2 : Int32)) (v := (.int (0 : Int32))) (by rw [e23]; exact Ar25.1) (State.isArrayOf_alike hZ.alike Ar25.2.1) Ar25.2.2 hin25 hat25 (g := (mkF m 18 #[vR o0, vR o1, vI i1] [sI i2, sR sa, sI i2, sR sa])) rfl rfl (hb hby d5_18) _ ?_
    refine XS.aloadN X23.here hx rfl (hb hby d5_19) rfl rfl ?_
    refine XS.iloadN X23.here hx rfl (hb hby d5_20) rfl ?_
    exact k)
  obtain ⟨cq27, kq27, q27a, q27b, q27c⟩ := isOf hZ e23 f16
  obtain ⟨_, _, ⟨T27, L27, k27, n27⟩, -, X27, ⟨Lc27, hQ27, l27, y27, z27⟩, st27⟩ := X23.virtualBack hx (y := yN3) (z := yN3) hown (mvT hZ (wD hw 44 rfl)) (mvT hZ (wD hw 45 rfl)) (notFace_of_selects (args := #[]) (mvT hZ (wD hw 47 rfl))) (mvT hZ (wD hw 47 rfl)) (mvT hZ (wD hw 46 rfl)) (by decide) (backOf (W := 3) (rm_of1 l Z a0 hw [] o1 sb k3 x0 x1 h12 n0 Z12 f17 f18) hZ (wD hw 48 rfl) (wD hw 3 rfl) (by decide) (by decide)) q27a q27c (g := (mkF m 21 #[vR o0, vR o1, vI i1] [sI i1, sR o1, sI i0, sI i2, sR sa])) rfl (by rw [hml]; rfl) (Steps.refl _) (argsL := [(.int (1 : Int32))]) (rest := [(.int (0 : Int32)), (.int (2 : Int32)), (.ref sa)]) (lenOf pd_rm_count_0 rfl) rfl (by show 2 * 0 + _ ≤ _; exact Nat.le_of_eq rfl) (hb hby d5_21) (fun _ _ => ⟨rfl, e23, (by decide : 0 + 0 ≤ _), (by decide : 0 + 0 ≤ _)⟩)
  dsimp only [Pt.U, Pt.locs, Pt.cells, Pt.slots] at X27 l27 y27 z27 st27 hQ27
  rw [l27, y27, z27] at X27
  obtain ⟨rfl, N27q, e27⟩ := hQ27
  have N27 := Fr.app N12 N27q
  have go28 := go26.st T27 (mkF m 25 #[vR o0, vR o1, vI i1] [(sI (i0 + x1)), sI i2, sR sa]) (fun t k => by
    refine st27.trans ?_
    show SP p e below T27 (mkF m 24 #[vR o0, vR o1, vI i1] [sI x1, sI i0, sI i2, sR sa]) _
    refine XS.iadd X27.here hx rfl (hb hby d5_24) rfl ?_
    exact k)
  have Vo29 := V12
  obtain ⟨cl29, Ar29, qa29, Sa29, Na29, Ha29, Ga29⟩ := Vo29
  have hin29 := inb_of (j := (2 : Int32)) Sa29 ⟨by decide, by decide⟩
  obtain ⟨T30, h30, X30, e30, W30, st30⟩ := stI X27 hx hZ e27 Ar29 (j := (2 : Int32)) hin29 (g := (mkF m 25 #[vR o0, vR o1, vI i1] [(sI (i0 + x1)), sI i2, sR sa])) rfl rfl (hb hby d5_25)
  have V30 : Arv Z h30 sa ka .int (3 : Int32) [(.int (0 : Int32)), (.int ((0 : Int32) + x0)), (.int ((0 : Int32) + x1))] (.int (0 : Int32)) := Arv.set Ar29 qa29 Sa29 Na29 Ha29 Ga29 rfl W30 2 rfl (Nat.le_of_ble_eq_true rfl)
  have f31 := Fld.other W30 f13 (Or.inl ne_o0_sa)
  have f32 := Fld.other W30 f14 (Or.inl ne_o0_sa)
  have f33 := f16.wr W30
  have f34 := Fld.other W30 f17 (Or.inl ne_o1_sa)
  have f35 := Arv.other f18 W30 ne_sb_sa
  have Z30 : n0 ≤ h30.size := Nat.le_trans Z12 (Nat.le_of_eq W30.size.symm)
  have K30 := K12.wr W30 (Or.inl (List.mem_of_getElem? (i := 0) rfl))
  have N30 := Fr.snoc X30 N27 g_sa
  have go37 := go28.st T30 (mkF m 4 #[vR o0, vR o1, vI i2] [sR o0, sI i2]) (fun t k => by
    refine st30 _ ?_
    show SP p e below T30 (mkF m 26 #[vR o0, vR o1, vI i1] []) _
    refine XS.iinc X30.here hx rfl (hb hby d5_26) rfl (l' := #[vR o0, vR o1, vI i2]) rfl ?_
    refine XS.goto X30.here hx rfl (pc0 := 29) (pc' := 2) rfl (hb hby d5_29) (by decide) (by decide) ?_
    refine XS.iloadN X30.here hx rfl (hb hby d5_2) rfl ?_
    refine XS.aloadN X30.here hx rfl (hb hby d5_3) rfl rfl ?_
    exact k)
  obtain ⟨T38, X38, e38, st38⟩ := getF X30 hx hZ hown (host := "") (Or.inl (wD hw 35 rfl)) Via.refl e30 f31 (g := (mkF m 4 #[vR o0, vR o1, vI i2] [sR o0, sI i2])) rfl rfl (hb hby d5_4)
  have go40 := go37.st T38 (mkF m 32 #[vR o0, vR o1, vI i2] []) (fun t k => by
    refine st38 _ ?_
    show SP p e below T38 (mkF m 7 #[vR o0, vR o1, vI i2] [sI i2, sI i2]) _
    refine XS.icmpYes X38.here hx rfl (pc0 := 7) (pc' := 32) rfl (hb hby d5_7) rfl (flt ((by decide) : ¬ ((2 : Int32) < (2 : Int32)))).2.1 (by decide) (by decide) ?_
    exact k)
  obtain ⟨fs, hr, hrun, hended, hW, hsame⟩ := X38.leave (v := none) (fun _ => rfl)
  refine ⟨_, _, go40 _ ?_, hrun, hended, _, _, rfl, ?_, ⟨_, rfl⟩, hW, hsame.mono (by decide) (by decide)⟩
  · exact X38.returnOut hx Bd.returns (hb hby d5_32) hr
  · show Q_rm_count Z o0 o1 sa ka sb k3 x0 x1 h0 n0 _ T38.heap _
    rw [e38]
    exact ⟨rfl, N30, K30, V30⟩
theorem d7_0 : decode prog_10_method_3_code 0 = .ok (.iconst 0, 1) := by decide +kernel
theorem d7_1 : decode prog_10_method_3_code 1 = .ok (.istore_n 1, 1) := by decide +kernel
theorem d7_2 : decode prog_10_method_3_code 2 = .ok (.iload_n 1, 1) := by decide +kernel
theorem d7_3 : decode prog_10_method_3_code 3 = .ok (.aload_n 0, 1) := by decide +kernel
theorem d7_4 : decode prog_10_method_3_code 4 = .ok (.getfield 7, 3) := by decide +kernel
theorem d7_7 : decode prog_10_method_3_code 7 = .ok (.if_icmp .ge 26, 3) := by decide +kernel
theorem d7_10 : decode prog_10_method_3_code 10 = .ok (.aload_n 0, 1) := by decide +kernel
theorem d7_11 : decode prog_10_method_3_code 11 = .ok (.getfield 13, 3) := by decide +kernel
theorem d7_14 : decode prog_10_method_3_code 14 = .ok (.iload_n 1, 1) := by decide +kernel
theorem d7_15 : decode prog_10_method_3_code 15 = .ok (.iconst 1, 1) := by decide +kernel
theorem d7_16 : decode prog_10_method_3_code 16 = .ok (.iadd, 1) := by decide +kernel
theorem d7_17 : decode prog_10_method_3_code 17 = .ok (.dup2, 1) := by decide +kernel
theorem d7_18 : decode prog_10_method_3_code 18 = .ok (.iaload, 1) := by decide +kernel
theorem d7_19 : decode prog_10_method_3_code 19 = .ok (.aload_n 0, 1) := by decide +kernel
theorem d7_20 : decode prog_10_method_3_code 20 = .ok (.getfield 13, 3) := by decide +kernel
theorem d7_23 : decode prog_10_method_3_code 23 = .ok (.iload_n 1, 1) := by decide +kernel
theorem d7_24 : decode prog_10_method_3_code 24 = .ok (.iaload, 1) := by decide +kernel
theorem d7_25 : decode prog_10_method_3_code 25 = .ok (.iadd, 1) := by decide +kernel
theorem d7_26 : decode prog_10_method_3_code 26 = .ok (.iastore, 1) := by decide +kernel
theorem d7_27 : decode prog_10_method_3_code 27 = .ok (.iinc 1 1, 3) := by decide +kernel
theorem d7_30 : decode prog_10_method_3_code 30 = .ok (.goto (-28), 3) := by decide +kernel
theorem d7_33 : decode prog_10_method_3_code 33 = .ok (.aload_n 0, 1) := by decide +kernel
theorem d7_34 : decode prog_10_method_3_code 34 = .ok (.aload_n 0, 1) := by decide +kernel
theorem d7_35 : decode prog_10_method_3_code 35 = .ok (.getfield 13, 3) := by decide +kernel
theorem d7_38 : decode prog_10_method_3_code 38 = .ok (.aload_n 0, 1) := by decide +kernel
theorem d7_39 : decode prog_10_method_3_code 39 = .ok (.getfield 7, 3) := by decide +kernel
theorem d7_42 : decode prog_10_method_3_code 42 = .ok (.invokestatic 23, 3) := by decide +kernel
theorem d7_45 : decode prog_10_method_3_code 45 = .ok (.putfield 29, 3) := by decide +kernel
theorem d7_48 : decode prog_10_method_3_code 48 = .ok (.aload_n 0, 1) := by decide +kernel
theorem d7_49 : decode prog_10_method_3_code 49 = .ok (.aload_n 0, 1) := by decide +kernel
theorem d7_50 : decode prog_10_method_3_code 50 = .ok (.getfield 13, 3) := by decide +kernel
theorem d7_53 : decode prog_10_method_3_code 53 = .ok (.aload_n 0, 1) := by decide +kernel
theorem d7_54 : decode prog_10_method_3_code 54 = .ok (.getfield 7, 3) := by decide +kernel
theorem d7_57 : decode prog_10_method_3_code 57 = .ok (.iaload, 1) := by decide +kernel
theorem d7_58 : decode prog_10_method_3_code 58 = .ok (.newarray .long, 2) := by decide +kernel
theorem d7_60 : decode prog_10_method_3_code 60 = .ok (.putfield 32, 3) := by decide +kernel
theorem d7_63 : decode prog_10_method_3_code 63 = .ok (.return_, 1) := by decide +kernel
theorem pn_rm_start2 : plainName "com/example/graphkind/graphkind/Statements$Builder" = true := by first | (simp [plainName, overriddenIn]; done) | decide +kernel
theorem pd_rm_start2_0 : parseMethodDescriptor "([II)[I" = some ⟨[(.array .int), .int], some (.array .int)⟩ := by decide +kernel
theorem ef_rm_start2 (m : MethodId) (o0 : Addr) : entryFrame m #[(.ref o0)] 2 = mkF m 0 #[.val (.ref o0), uu] [] := by first | (simp [entryFrame, mkF, argsToLocals, Value.category]; done) | rfl
def Q_rm_start2 (Z : State) (o0 : Addr) (sa : Addr) (ka : ClassId) (h0 : Heap) (n0 : Nat) (v : Option Value) (h : Heap) (L : List Loc) : Prop := ∃ nx : Addr, ∃ va : Addr, ∃ kx : ClassId, ∃ kv : ClassId, v = none ∧ Fr n0 L ∧ Keep h0 h [sa, o0] ∧ n0 ≤ nx ∧ h0.size ≤ nx ∧ n0 ≤ va ∧ h0.size ≤ va ∧ Fld Z h o0 "com/example/graphkind/graphkind/Statements$Builder" "terms" "I" (.int (2 : Int32)) ∧ Fld Z h o0 "com/example/graphkind/graphkind/Statements$Builder" "start" "[I" (.ref sa) ∧ Fld Z h o0 "com/example/graphkind/graphkind/Statements$Builder" "next" "[I" (.ref nx) ∧ Fld Z h o0 "com/example/graphkind/graphkind/Statements$Builder" "values" "[J" (.ref va) ∧ Arv Z h sa ka .int (3 : Int32) [(.int (0 : Int32)), (.int (2 : Int32)), (.int (2 : Int32))] (.int (0 : Int32)) ∧ Arv Z h nx kx .int (2 : Int32) [(.int (0 : Int32)), (.int (2 : Int32))] (.int (0 : Int32)) ∧ Arv Z h va kv .long (2 : Int32) [(.long (0 : Int64)), (.long (0 : Int64))] (.long (0 : Int64)) ∧ nx ≠ va
set_option maxRecDepth 65536 in
set_option maxHeartbeats 40000000 in
theorem rm_start2 (l : Launch) (Z : State) (a0 : Array Value) (hw : ∀ d ∈ tables_1, d.before a0 Z = true) (ws : List Jvm.Cond) (o0 : Addr) (sa : Addr) (ka : ClassId) (h0 : Heap) (n0 : Nat) (Z0 : n0 ≤ h0.size) (E_o0 : Exa Z h0 o0 "com/example/graphkind/graphkind/Statements$Builder") (F_terms_o0 : Fld Z h0 o0 "com/example/graphkind/graphkind/Statements$Builder" "terms" "I" (.int (2 : Int32))) (F_start_o0 : Fld Z h0 o0 "com/example/graphkind/graphkind/Statements$Builder" "start" "[I" (.ref sa)) (F_next_o0 : Fld Z h0 o0 "com/example/graphkind/graphkind/Statements$Builder" "next" "[I" .null) (F_values_o0 : Fld Z h0 o0 "com/example/graphkind/graphkind/Statements$Builder" "values" "[J" .null) (V_sa : Arv Z h0 sa ka .int (3 : Int32) [(.int (0 : Int32)), (.int (2 : Int32)), (.int (0 : Int32))] (.int (0 : Int32))) (g_sa : n0 ≤ sa) (g_o0 : n0 ≤ o0) (ne_o0_sa : o0 ≠ sa) :
    MetFree l yN8 (head1 (Jvm.Cond.code yN8 prog_10_method_3_code 2 none :: ws) ({ frames := 2, cells := 2, slots := 4, locals := 55 } : Room)) (fun a U => a = #[(.ref o0)] ∧ Z.Warmed39 U.vm ∧ U.heap = h0) (fun _ _ _ _ _ => True) (fun _ U o U' => ∃ v L, o = .returned v ∧ Q_rm_start2 Z o0 sa ka h0 n0 v U'.heap L ∧ FrameEnd U o U' L ({ frames := 2, cells := 2, slots := 4, locals := 55 } : Room).cells ({ frames := 2, cells := 2, slots := 4, locals := 55 } : Room).slots) := by
  refine MetFree.of_bodySF (plainFor_of_name pn_rm_start2) hisR ?_
  intro p e s m args below meth c s₁ Bd hml0 hP hK
  obtain ⟨rfl, hZ, hh⟩ := hP
  have hx := Bd.exec
  have hby := Bd.bytes
  have hml : c.maxLocals = 2 := hml0
  have hown : s.vm.findClass "com/example/graphkind/graphkind/Statements$Builder" = some m.cls := findClass_of_methodNamed Bd.named
  have hnm := (name_of_methodNamed Bd.named Bd.method).1
  have X0 : Stand p l e ({ frames := 2, cells := 2, slots := 4, locals := 55 } : Room) s m #[(.ref o0)] below meth c s₁ [] 0 0 := Stand.of_body Bd
  have e0 : s₁.heap = h0 := by rw [← hh, Bd.state]; rfl
  have N0 := Fr.nil n0
  have K0 := Keep.refl h0 [sa, o0]
  have go0 : Go p e below (s₁.setTop (entryFrame m #[(.ref o0)] 2)) (s₁.setTop (mkF m 0 #[vR o0, uu] [])) := fun t k => castTop (ef_rm_start2 m o0) k
  have go1 := go0.st s₁ (mkF m 4 #[vR o0, vI i0] [sR o0, sI i0]) (fun t k => by
    refine XS.iconst X0.here hx rfl (hb hby d7_0) ?_
    refine XS.istoreN X0.here hx rfl (hb hby d7_1) rfl (l' := #[vR o0, vI i0]) rfl ?_
    refine XS.iloadN X0.here hx rfl (hb hby d7_2) rfl ?_
    refine XS.aloadN X0.here hx rfl (hb hby d7_3) rfl rfl ?_
    exact k)
  obtain ⟨T2, X2, e2, st2⟩ := getF X0 hx hZ hown (host := "") (Or.inl (wD hw 35 rfl)) Via.refl e0 F_terms_o0 (g := (mkF m 4 #[vR o0, vI i0] [sR o0, sI i0])) rfl rfl (hb hby d7_4)
  have go4 := go1.st T2 (mkF m 11 #[vR o0, vI i0] [sR o0]) (fun t k => by
    refine st2 _ ?_
    show SP p e below T2 (mkF m 7 #[vR o0, vI i0] [sI i2, sI i0]) _
    refine XS.icmpNo X2.here hx rfl (hb hby d7_7) rfl (tlt ((by decide) : (0 : Int32) < (2 : Int32))).2.1 ?_
    refine XS.aloadN X2.here hx rfl (hb hby d7_10) rfl rfl ?_
    exact k)
  obtain ⟨T5, X5, e5, st5⟩ := getF X2 hx hZ hown (host := "") (Or.inl (wD hw 37 rfl)) Via.refl e2 F_start_o0 (g := (mkF m 11 #[vR o0, vI i0] [sR o0])) rfl rfl (hb hby d7_11)
  have go6 := go4.st T5 (mkF m 18 #[vR o0, vI i0] [sI i1, sR sa, sI i1, sR sa]) (fun t k => by
    refine st5 _ ?_
    show SP p e below T5 (mkF m 14 #[vR o0, vI i0] [sR sa]) _
    refine XS.iloadN X5.here hx rfl (hb hby d7_14) rfl ?_
    refine XS.iconst X5.here hx rfl (hb hby d7_15) ?_
    refine XS.iadd X5.here hx rfl (hb hby d7_16) rfl ?_
    show SP p e below T5 (mkF m 17 #[vR o0, vI i0] [sI i1, sR sa]) _
    jvm_step X5.here [X5.here.top, hx, (hb hby d7_17), Value.category]
    exact k)
  have Vo7 := V_sa
  obtain ⟨cl7, Ar7, qa7, Sa7, Na7, Ha7, Ga7⟩ := Vo7
  have hin7 := inb_of (j := (1 : Int32)) Sa7 ⟨by decide, by decide⟩
  have hat7 : cl7.slots[((1 : Int32)).toNatClampNeg]? = some (.int (2 : Int32)) := Has.at Ha7 hin7 rfl
  have go8 := go6.st T5 (mkF m 20 #[vR o0, vI i0] [sR o0, sI i2, sI i1, sR sa]) (fun t k => by
    refine X5.iaload hx (j := (1 : Int32)) (v := (.int (2 : Int32))) (by rw [e5]; exact Ar7.1) (State.isArrayOf_alike hZ.alike Ar7.2.1) Ar7.2.2 hin7 hat7 (g := (mkF m 18 #[vR o0, vI i0] [sI i1, sR sa, sI i1, sR sa])) rfl rfl (hb hby d7_18) _ ?_
    refine XS.aloadN X5.here hx rfl (hb hby d7_19) rfl rfl ?_
    exact k)
  obtain ⟨T9, X9, e9, st9⟩ := getF X5 hx hZ hown (host := "") (Or.inl (wD hw 37 rfl)) Via.refl e5 F_start_o0 (g := (mkF m 20 #[vR o0, vI i0] [sR o0, sI i2, sI i1, sR sa])) rfl rfl (hb hby d7_20)
  have go10 := go8.st T9 (mkF m 24 #[vR o0, vI i0] [sI i0, sR sa, sI i2, sI i1, sR sa]) (fun t k => by
    refine st9 _ ?_
    show SP p e below T9 (mkF m 23 #[vR o0, vI i0] [sR sa, sI i2, sI i1, sR sa]) _
    refine XS.iloadN X9.here hx rfl (hb hby d7_23) rfl ?_
    exact k)
  have Vo11 := V_sa
  obtain ⟨cl11, Ar11, qa11, Sa11, Na11, Ha11, Ga11⟩ := Vo11
  have hin11 := inb_of (j := (0 : Int32)) Sa11 ⟨by decide, by decide⟩
  have hat11 : cl11.slots[((0 : Int32)).toNatClampNeg]? = some (.int (0 : Int32)) := Has.at Ha11 hin11 rfl
  have go12 := go10.st T9 (mkF m 26 #[vR o0, vI i0] [sI i2, sI i1, sR sa]) (fun t k => by
    refine X9.iaload hx (j := (0 : Int32)) (v := (.int (0 : Int32))) (by rw [e9]; exact Ar11.1) (State.isArrayOf_alike hZ.alike Ar11.2.1) Ar11.2.2 hin11 hat11 (g := (mkF m 24 #[vR o0, vI i0] [sI i0, sR sa, sI i2, sI i1, sR sa])) rfl rfl (hb hby d7_24) _ ?_
    refine XS.iadd X9.here hx rfl (hb hby d7_25) rfl ?_
    exact k)
  have Vo13 := V_sa
  obtain ⟨cl13, Ar13, qa13, Sa13, Na13, Ha13, Ga13⟩ := Vo13
  have hin13 := inb_of (j := (1 : Int32)) Sa13 ⟨by decide, by decide⟩
  obtain ⟨T14, h14, X14, e14, W14, st14⟩ := stI X9 hx hZ e9 Ar13 (j := (1 : Int32)) hin13 (g := (mkF m 26 #[vR o0, vI i0] [sI i2, sI i1, sR sa])) rfl rfl (hb hby d7_26)
  have V14 : Arv Z h14 sa ka .int (3 : Int32) [(.int (0 : Int32)), (.int (2 : Int32)), (.int (0 : Int32))] (.int (0 : Int32)) := Arv.set Ar13 qa13 Sa13 Na13 Ha13 Ga13 rfl W14 1 rfl (Nat.le_of_ble_eq_true rfl)
  have f15 := E_o0.wr W14
  have f16 := Fld.other W14 F_terms_o0 (Or.inl ne_o0_sa)
  have f17 := Fld.other W14 F_start_o0 (Or.inl ne_o0_sa)
  have f18 := Fld.other W14 F_next_o0 (Or.inl ne_o0_sa)
  have f19 := Fld.other W14 F_values_o0 (Or.inl ne_o0_sa)
  have Z14 : n0 ≤ h14.size := Nat.le_trans Z0 (Nat.le_of_eq W14.size.symm)
  have K14 := K0.wr W14 (Or.inl (List.mem_of_getElem? (i := 0) rfl))
  have N14 := Fr.snoc X14 N0 g_sa
  have go21 := go12.st T14 (mkF m 4 #[vR o0, vI i1] [sR o0, sI i1]) (fun t k => by
    refine st14 _ ?_
    show SP p e below T14 (mkF m 27 #[vR o0, vI i0] []) _
    refine XS.iinc X14.here hx rfl (hb hby d7_27) rfl (l' := #[vR o0, vI i1]) rfl ?_
    refine XS.goto X14.here hx rfl (pc0 := 30) (pc' := 2) rfl (hb hby d7_30) (by decide) (by decide) ?_
    refine XS.iloadN X14.here hx rfl (hb hby d7_2) rfl ?_
    refine XS.aloadN X14.here hx rfl (hb hby d7_3) rfl rfl ?_
    exact k)
  obtain ⟨T22, X22, e22, st22⟩ := getF X14 hx hZ hown (host := "") (Or.inl (wD hw 35 rfl)) Via.refl e14 f16 (g := (mkF m 4 #[vR o0, vI i1] [sR o0, sI i1])) rfl rfl (hb hby d7_4)
  have go24 := go21.st T22 (mkF m 11 #[vR o0, vI i1] [sR o0]) (fun t k => by
    refine st22 _ ?_
    show SP p e below T22 (mkF m 7 #[vR o0, vI i1] [sI i2, sI i1]) _
    refine XS.icmpNo X22.here hx rfl (hb hby d7_7) rfl (tlt ((by decide) : (1 : Int32) < (2 : Int32))).2.1 ?_
    refine XS.aloadN X22.here hx rfl (hb hby d7_10) rfl rfl ?_
    exact k)
  obtain ⟨T25, X25, e25, st25⟩ := getF X22 hx hZ hown (host := "") (Or.inl (wD hw 37 rfl)) Via.refl e22 f17 (g := (mkF m 11 #[vR o0, vI i1] [sR o0])) rfl rfl (hb hby d7_11)
  have go26 := go24.st T25 (mkF m 18 #[vR o0, vI i1] [sI i2, sR sa, sI i2, sR sa]) (fun t k => by
    refine st25 _ ?_
    show SP p e below T25 (mkF m 14 #[vR o0, vI i1] [sR sa]) _
    refine XS.iloadN X25.here hx rfl (hb hby d7_14) rfl ?_
    refine XS.iconst X25.here hx rfl (hb hby d7_15) ?_
    refine XS.iadd X25.here hx rfl (hb hby d7_16) rfl ?_
    show SP p e below T25 (mkF m 17 #[vR o0, vI i1] [sI i2, sR sa]) _
    jvm_step X25.here [X25.here.top, hx, (hb hby d7_17), Value.category]
    exact k)
  have Vo27 := V14
  obtain ⟨cl27, Ar27, qa27, Sa27, Na27, Ha27, Ga27⟩ := Vo27
  have hin27 := inb_of (j := (2 : Int32)) Sa27 ⟨by decide, by decide⟩
  have hat27 : cl27.slots[((2 : Int32)).toNatClampNeg]? = some (.int (0 : Int32)) := Has.at Ha27 hin27 rfl
  have go28 := go26.st T25 (mkF m 20 #[vR o0, vI i1] [sR o0, sI i0, sI i2, sR sa]) (fun t k => by
    refine X25.iaload hx (j := (2 : Int32)) (v := (.int (0 : Int32))) (by rw [e25]; exact Ar27.1) (State.isArrayOf_alike hZ.alike Ar27.2.1) Ar27.2.2 hin27 hat27 (g := (mkF m 18 #[vR o0, vI i1] [sI i2, sR sa, sI i2, sR sa])) rfl rfl (hb hby d7_18) _ ?_
    refine XS.aloadN X25.here hx rfl (hb hby d7_19) rfl rfl ?_
    exact k)
  obtain ⟨T29, X29, e29, st29⟩ := getF X25 hx hZ hown (host := "") (Or.inl (wD hw 37 rfl)) Via.refl e25 f17 (g := (mkF m 20 #[vR o0, vI i1] [sR o0, sI i0, sI i2, sR sa])) rfl rfl (hb hby d7_20)
  have go30 := go28.st T29 (mkF m 24 #[vR o0, vI i1] [sI i1, sR sa, sI i0, sI i2, sR sa]) (fun t k => by
    refine st29 _ ?_
    show SP p e below T29 (mkF m 23 #[vR o0, vI i1] [sR sa, sI i0, sI i2, sR sa]) _
    refine XS.iloadN X29.here hx rfl (hb hby d7_23) rfl ?_
    exact k)
  have Vo31 := V14
  obtain ⟨cl31, Ar31, qa31, Sa31, Na31, Ha31, Ga31⟩ := Vo31
  have hin31 := inb_of (j := (1 : Int32)) Sa31 ⟨by decide, by decide⟩
  have hat31 : cl31.slots[((1 : Int32)).toNatClampNeg]? = some (.int (2 : Int32)) := Has.at Ha31 hin31 rfl
  have go32 := go30.st T29 (mkF m 26 #[vR o0, vI i1] [sI i2, sI i2, sR sa]) (fun t k => by
    refine X29.iaload hx (j := (1 : Int32)) (v := (.int (2 : Int32))) (by rw [e29]; exact Ar31.1) (State.isArrayOf_alike hZ.alike Ar31.2.1) Ar31.2.2 hin31 hat31 (g := (mkF m 24 #[vR o0, vI i1] [sI i1, sR sa, sI i0, sI i2, sR sa])) rfl rfl (hb hby d7_24) _ ?_
    refine XS.iadd X29.here hx rfl (hb hby d7_25) rfl ?_
    exact k)
  have Vo33 := V14
  obtain ⟨cl33, Ar33, qa33, Sa33, Na33, Ha33, Ga33⟩ := Vo33
  have hin33 := inb_of (j := (2 : Int32)) Sa33 ⟨by decide, by decide⟩
  obtain ⟨T34, h34, X34, e34, W34, st34⟩ := stI X29 hx hZ e29 Ar33 (j := (2 : Int32)) hin33 (g := (mkF m 26 #[vR o0, vI i1] [sI i2, sI i2, sR sa])) rfl rfl (hb hby d7_26)
  have V34 : Arv Z h34 sa ka .int (3 : Int32) [(.int (0 : Int32)), (.int (2 : Int32)), (.int (2 : Int32))] (.int (0 : Int32)) := Arv.set Ar33 qa33 Sa33 Na33 Ha33 Ga33 rfl W34 2 rfl (Nat.le_of_ble_eq_true rfl)
  have f35 := f15.wr W34
  have f36 := Fld.other W34 f16 (Or.inl ne_o0_sa)
  have f37 := Fld.other W34 f17 (Or.inl ne_o0_sa)
  have f38 := Fld.other W34 f18 (Or.inl ne_o0_sa)
  have f39 := Fld.other W34 f19 (Or.inl ne_o0_sa)
  have Z34 : n0 ≤ h34.size := Nat.le_trans Z14 (Nat.le_of_eq W34.size.symm)
  have K34 := K14.wr W34 (Or.inl (List.mem_of_getElem? (i := 0) rfl))
  have N34 := Fr.snoc X34 N14 g_sa
  have go41 := go32.st T34 (mkF m 4 #[vR o0, vI i2] [sR o0, sI i2]) (fun t k => by
    refine st34 _ ?_
    show SP p e below T34 (mkF m 27 #[vR o0, vI i1] []) _
    refine XS.iinc X34.here hx rfl (hb hby d7_27) rfl (l' := #[vR o0, vI i2]) rfl ?_
    refine XS.goto X34.here hx rfl (pc0 := 30) (pc' := 2) rfl (hb hby d7_30) (by decide) (by decide) ?_
    refine XS.iloadN X34.here hx rfl (hb hby d7_2) rfl ?_
    refine XS.aloadN X34.here hx rfl (hb hby d7_3) rfl rfl ?_
    exact k)
  obtain ⟨T42, X42, e42, st42⟩ := getF X34 hx hZ hown (host := "") (Or.inl (wD hw 35 rfl)) Via.refl e34 f36 (g := (mkF m 4 #[vR o0, vI i2] [sR o0, sI i2])) rfl rfl (hb hby d7_4)
  have go44 := go41.st T42 (mkF m 35 #[vR o0, vI i2] [sR o0, sR o0]) (fun t k => by
    refine st42 _ ?_
    show SP p e below T42 (mkF m 7 #[vR o0, vI i2] [sI i2, sI i2]) _
    refine XS.icmpYes X42.here hx rfl (pc0 := 7) (pc' := 33) rfl (hb hby d7_7) rfl (flt ((by decide) : ¬ ((2 : Int32) < (2 : Int32)))).2.1 (by decide) (by decide) ?_
    refine XS.aloadN X42.here hx rfl (hb hby d7_33) rfl rfl ?_
    refine XS.aloadN X42.here hx rfl (hb hby d7_34) rfl rfl ?_
    exact k)
  obtain ⟨T45, X45, e45, st45⟩ := getF X42 hx hZ hown (host := "") (Or.inl (wD hw 37 rfl)) Via.refl e42 f37 (g := (mkF m 35 #[vR o0, vI i2] [sR o0, sR o0])) rfl rfl (hb hby d7_35)
  have go46 := go44.st T45 (mkF m 39 #[vR o0, vI i2] [sR o0, sR sa, sR o0]) (fun t k => by
    refine st45 _ ?_
    show SP p e below T45 (mkF m 38 #[vR o0, vI i2] [sR sa, sR o0]) _
    refine XS.aloadN X45.here hx rfl (hb hby d7_38) rfl rfl ?_
    exact k)
  obtain ⟨T47, X47, e47, st47⟩ := getF X45 hx hZ hown (host := "") (Or.inl (wD hw 35 rfl)) Via.refl e45 f36 (g := (mkF m 39 #[vR o0, vI i2] [sR o0, sR sa, sR o0])) rfl rfl (hb hby d7_39)
  have go48 := go46.st T47 (mkF m 42 #[vR o0, vI i2] [sI i2, sR sa, sR o0]) (fun t k => by
    refine st47 _ ?_
    exact k)
  obtain ⟨_, _, ⟨T49, L49, k49, n49⟩, -, X49, ⟨Lc49, hQ49, l49, y49, z49⟩, st49⟩ := Jvm.LawKit.callS X47 hx (y := yN5) hown (mvT hZ (wD hw 54 rfl)) (mvT hZ (wD hw 55 rfl)) (mvT hZ (wD hw 56 rfl)) (mvT hZ (wD hw 57 rfl)) (by decide) (backOf (W := 1) (rm_cpI l Z a0 hw [] sa ka (0 : Int32) (2 : Int32) (2 : Int32) h34 n0 Z34 V34) hZ (wD hw 57 rfl) (wD hw 56 rfl) (by decide) (by decide)) (g := (mkF m 42 #[vR o0, vI i2] [sI i2, sR sa, sR o0])) rfl (by rw [hml]; rfl) (argsL := [(.ref sa), (.int (2 : Int32))]) (rest := [(.ref o0)]) (lenOf pd_rm_start2_0 rfl) rfl (by show 2 * 0 + _ ≤ _; exact Nat.le_of_eq rfl) (hb hby d7_42) (fun _ _ => ⟨rfl, e47, (by decide : 0 + 1 ≤ _), (by decide : 0 + 2 ≤ _)⟩)
  dsimp only [Pt.U, Pt.locs, Pt.cells, Pt.slots] at X49 l49 y49 z49 st49 hQ49
  rw [l49, y49, z49] at X49
  obtain ⟨b_49, kb_49, rfl, N49q, K49, qp49_0, qp49_1, qp49_2⟩ := hQ49
  have N49 := Fr.app N34 N49q
  have f50 := f35.keep K49
  have f51 := f36.keep K49 nin0
  have f52 := f37.keep K49 nin0
  have f53 := f38.keep K49 nin0
  have f54 := f39.keep K49 nin0
  have f55 := V34.keep K49 nin0
  have Z49 : n0 ≤ T49.heap.size := Nat.le_trans Z34 K49.1
  have KK49 := K34.trans K49 all0
  have g_b_49 := qp49_0
  have sz_b_49 := Nat.le_trans K34.1 qp49_1
  have ne_o0_b_49 : o0 ≠ b_49 := Nat.ne_of_lt (Nat.lt_of_lt_of_le f35.lt qp49_1)
  have ne_sa_b_49 : sa ≠ b_49 := Nat.ne_of_lt (Nat.lt_of_lt_of_le V34.lt qp49_1)
  have go56 := go48.st T49 (mkF m 45 #[vR o0, vI i2] [sR b_49, sR o0]) (fun t k => by
    refine st49 _ ?_
    exact k)
  obtain ⟨T57, h57, X57, e57, W57, st57⟩ := putF X49 hx hZ hown (host := "") (Or.inl (wD hw 66 rfl)) Via.refl rfl f53 f50 (Or.inl (wD hw 67 rfl)) (wD hw 29 rfl) (ty := (.array .int)) (by decide) rfl rfl (g := (mkF m 45 #[vR o0, vI i2] [sR b_49, sR o0])) rfl rfl (hb hby d7_45)
  have f58 := f50.wr W57
  have f59 := Fld.other W57 f51 (Or.inr (slot_ne (Or.inr (wD hw 36 rfl)) (Or.inl (wD hw 67 rfl)) (by decide) (t := .int) (t' := (.array .int)) (by decide) (by decide)))
  have f60 := Fld.other W57 f52 (Or.inr (slot_ne (Or.inr (wD hw 38 rfl)) (Or.inl (wD hw 67 rfl)) (by decide) (t := (.array .int)) (t' := (.array .int)) (by decide) (by decide)))
  have f61 := Fld.same W57 f53
  have f62 := Fld.other W57 f54 (Or.inr (slot_ne (Or.inl (wD hw 70 rfl)) (Or.inl (wD hw 67 rfl)) (by decide) (t := (.array .long)) (t' := (.array .int)) (by decide) (by decide)))
  have f63 := Arv.other f55 W57 (Ne.symm ne_o0_sa)
  have f64 := Arv.other qp49_2 W57 (Ne.symm ne_o0_b_49)
  have Z57 : n0 ≤ h57.size := Nat.le_trans Z49 (Nat.le_of_eq W57.size.symm)
  have K57 := KK49.wr W57 (Or.inl (List.mem_of_getElem? (i := 1) rfl))
  have N57 := Fr.snoc X57 N49 g_o0
  have go65 := go56.st T57 (mkF m 50 #[vR o0, vI i2] [sR o0, sR o0]) (fun t k => by
    refine st57 _ ?_
    show SP p e below T57 (mkF m 48 #[vR o0, vI i2] []) _
    refine XS.aloadN X57.here hx rfl (hb hby d7_48) rfl rfl ?_
    refine XS.aloadN X57.here hx rfl (hb hby d7_49) rfl rfl ?_
    exact k)
  obtain ⟨T66, X66, e66, st66⟩ := getF X57 hx hZ hown (host := "") (Or.inl (wD hw 37 rfl)) Via.refl e57 f60 (g := (mkF m 50 #[vR o0, vI i2] [sR o0, sR o0])) rfl rfl (hb hby d7_50)
  have go67 := go65.st T66 (mkF m 54 #[vR o0, vI i2] [sR o0, sR sa, sR o0]) (fun t k => by
    refine st66 _ ?_
    show SP p e below T66 (mkF m 53 #[vR o0, vI i2] [sR sa, sR o0]) _
    refine XS.aloadN X66.here hx rfl (hb hby d7_53) rfl rfl ?_
    exact k)
  obtain ⟨T68, X68, e68, st68⟩ := getF X66 hx hZ hown (host := "") (Or.inl (wD hw 35 rfl)) Via.refl e66 f59 (g := (mkF m 54 #[vR o0, vI i2] [sR o0, sR sa, sR o0])) rfl rfl (hb hby d7_54)
  have go69 := go67.st T68 (mkF m 57 #[vR o0, vI i2] [sI i2, sR sa, sR o0]) (fun t k => by
    refine st68 _ ?_
    exact k)
  have Vo70 := f63
  obtain ⟨cl70, Ar70, qa70, Sa70, Na70, Ha70, Ga70⟩ := Vo70
  have hin70 := inb_of (j := (2 : Int32)) Sa70 ⟨by decide, by decide⟩
  have hat70 : cl70.slots[((2 : Int32)).toNatClampNeg]? = some (.int (2 : Int32)) := Has.at Ha70 hin70 rfl
  have go71 := go69.st T68 (mkF m 58 #[vR o0, vI i2] [sI i2, sR o0]) (fun t k => by
    refine X68.iaload hx (j := (2 : Int32)) (v := (.int (2 : Int32))) (by rw [e68]; exact Ar70.1) (State.isArrayOf_alike hZ.alike Ar70.2.1) Ar70.2.2 hin70 hat70 (g := (mkF m 57 #[vR o0, vI i2] [sI i2, sR sa, sR o0])) rfl rfl (hb hby d7_57) _ ?_
    exact k)
  obtain ⟨T72, h72, k72, X72, e72, E72, A72, st72⟩ := newP X68 hx hZ (wD hw 68 rfl) e68 (g := (mkF m 58 #[vR o0, vI i2] [sI i2, sR o0])) rfl (hb hby d7_58) rfl (by decide) (cap := 2) (by decide) (by decide) (by decide) (by decide)
  obtain ⟨b72, g72⟩ : ∃ z, z = h57.size := ⟨_, rfl⟩
  rw [← g72] at A72 st72
  have ne_o0_b72 : o0 ≠ b72 := Nat.ne_of_lt (Nat.lt_of_lt_of_le f58.lt (Nat.le_of_eq g72.symm))
  have ne_sa_b72 : sa ≠ b72 := Nat.ne_of_lt (Nat.lt_of_lt_of_le f63.lt (Nat.le_of_eq g72.symm))
  have ne_b_49_b72 : b_49 ≠ b72 := Nat.ne_of_lt (Nat.lt_of_lt_of_le f64.lt (Nat.le_of_eq g72.symm))
  have g_b72 : n0 ≤ b72 := Nat.le_trans Z57 (Nat.le_of_eq g72.symm)
  have sz_b72 : h0.size ≤ b72 := Nat.le_trans K57.1 (Nat.le_of_eq g72.symm)
  have f73 := f58.ext E72
  have f74 := f59.ext E72
  have f75 := f60.ext E72
  have f76 := f61.ext E72
  have f77 := f62.ext E72
  have f78 := f63.ext E72
  have f79 := f64.ext E72
  have V72 : Arv Z h72 b72 k72 .long (2 : Int32) [(.long (0 : Int64)), (.long (0 : Int64))] (.long (0 : Int64)) := (Arv.new A72 (by decide)).pad (pad_rep [] (.long (0 : Int64)) 2)
  have Z72 : n0 ≤ h72.size := Nat.le_trans Z57 E72.1
  have K72 := K57.ext E72
  have go80 := go71.st T72 (mkF m 60 #[vR o0, vI i2] [sR b72, sR o0]) (fun t k => by
    refine st72 _ ?_
    exact k)
  obtain ⟨T81, h81, X81, e81, W81, st81⟩ := putF X72 hx hZ hown (host := "") (Or.inl (wD hw 69 rfl)) Via.refl e72 f77 f73 (Or.inl (wD hw 70 rfl)) (wD hw 29 rfl) (ty := (.array .long)) (by decide) rfl rfl (g := (mkF m 60 #[vR o0, vI i2] [sR b72, sR o0])) rfl rfl (hb hby d7_60)
  have f82 := f73.wr W81
  have f83 := Fld.other W81 f74 (Or.inr (slot_ne (Or.inr (wD hw 36 rfl)) (Or.inl (wD hw 70 rfl)) (by decide) (t := .int) (t' := (.array .long)) (by decide) (by decide)))
  have f84 := Fld.other W81 f75 (Or.inr (slot_ne (Or.inr (wD hw 38 rfl)) (Or.inl (wD hw 70 rfl)) (by decide) (t := (.array .int)) (t' := (.array .long)) (by decide) (by decide)))
  have f85 := Fld.other W81 f76 (Or.inr (slot_ne (Or.inl (wD hw 67 rfl)) (Or.inl (wD hw 70 rfl)) (by decide) (t := (.array .int)) (t' := (.array .long)) (by decide) (by decide)))
  have f86 := Fld.same W81 f77
  have f87 := Arv.other f78 W81 (Ne.symm ne_o0_sa)
  have f88 := Arv.other f79 W81 (Ne.symm ne_o0_b_49)
  have f89 := Arv.other V72 W81 (Ne.symm ne_o0_b72)
  have Z81 : n0 ≤ h81.size := Nat.le_trans Z72 (Nat.le_of_eq W81.size.symm)
  have K81 := K72.wr W81 (Or.inl (List.mem_of_getElem? (i := 1) rfl))
  have N81 := Fr.snoc X81 N57 g_o0
  have go90 := go80.st T81 (mkF m 63 #[vR o0, vI i2] []) (fun t k => by
    refine st81 _ ?_
    exact k)
  obtain ⟨fs, hr, hrun, hended, hW, hsame⟩ := X81.leave (v := none) (fun _ => rfl)
  refine ⟨_, _, go90 _ ?_, hrun, hended, _, _, rfl, ?_, ⟨_, rfl⟩, hW, hsame.mono (by decide) (by decide)⟩
  · exact X81.returnOut hx Bd.returns (hb hby d7_63) hr
  · show Q_rm_start2 Z o0 sa ka h0 n0 _ T81.heap _
    rw [e81]
    exact ⟨b_49, b72, kb_49, k72, rfl, N81, K81, g_b_49, sz_b_49, g_b72, sz_b72, f83, f84, f85, f86, f87, f88, f89, ne_b_49_b72⟩
theorem pn_rm_start1 : plainName "com/example/graphkind/graphkind/Statements$Builder" = true := by first | (simp [plainName, overriddenIn]; done) | decide +kernel
theorem pd_rm_start1_0 : parseMethodDescriptor "([II)[I" = some ⟨[(.array .int), .int], some (.array .int)⟩ := by decide +kernel
theorem ef_rm_start1 (m : MethodId) (o0 : Addr) : entryFrame m #[(.ref o0)] 2 = mkF m 0 #[.val (.ref o0), uu] [] := by first | (simp [entryFrame, mkF, argsToLocals, Value.category]; done) | rfl
def Q_rm_start1 (Z : State) (o0 : Addr) (sa : Addr) (ka : ClassId) (h0 : Heap) (n0 : Nat) (v : Option Value) (h : Heap) (L : List Loc) : Prop := ∃ nx : Addr, ∃ va : Addr, ∃ kx : ClassId, ∃ kv : ClassId, v = none ∧ Fr n0 L ∧ Keep h0 h [sa, o0] ∧ n0 ≤ nx ∧ h0.size ≤ nx ∧ n0 ≤ va ∧ h0.size ≤ va ∧ Fld Z h o0 "com/example/graphkind/graphkind/Statements$Builder" "terms" "I" (.int (2 : Int32)) ∧ Fld Z h o0 "com/example/graphkind/graphkind/Statements$Builder" "start" "[I" (.ref sa) ∧ Fld Z h o0 "com/example/graphkind/graphkind/Statements$Builder" "next" "[I" (.ref nx) ∧ Fld Z h o0 "com/example/graphkind/graphkind/Statements$Builder" "values" "[J" (.ref va) ∧ Arv Z h sa ka .int (3 : Int32) [(.int (0 : Int32)), (.int (1 : Int32)), (.int (2 : Int32))] (.int (0 : Int32)) ∧ Arv Z h nx kx .int (2 : Int32) [(.int (0 : Int32)), (.int (1 : Int32))] (.int (0 : Int32)) ∧ Arv Z h va kv .long (2 : Int32) [(.long (0 : Int64)), (.long (0 : Int64))] (.long (0 : Int64)) ∧ nx ≠ va
set_option maxRecDepth 65536 in
set_option maxHeartbeats 40000000 in
theorem rm_start1 (l : Launch) (Z : State) (a0 : Array Value) (hw : ∀ d ∈ tables_1, d.before a0 Z = true) (ws : List Jvm.Cond) (o0 : Addr) (sa : Addr) (ka : ClassId) (h0 : Heap) (n0 : Nat) (Z0 : n0 ≤ h0.size) (E_o0 : Exa Z h0 o0 "com/example/graphkind/graphkind/Statements$Builder") (F_terms_o0 : Fld Z h0 o0 "com/example/graphkind/graphkind/Statements$Builder" "terms" "I" (.int (2 : Int32))) (F_start_o0 : Fld Z h0 o0 "com/example/graphkind/graphkind/Statements$Builder" "start" "[I" (.ref sa)) (F_next_o0 : Fld Z h0 o0 "com/example/graphkind/graphkind/Statements$Builder" "next" "[I" .null) (F_values_o0 : Fld Z h0 o0 "com/example/graphkind/graphkind/Statements$Builder" "values" "[J" .null) (V_sa : Arv Z h0 sa ka .int (3 : Int32) [(.int (0 : Int32)), (.int (1 : Int32)), (.int (1 : Int32))] (.int (0 : Int32))) (g_sa : n0 ≤ sa) (g_o0 : n0 ≤ o0) (ne_o0_sa : o0 ≠ sa) :
    MetFree l yN8 (head1 (Jvm.Cond.code yN8 prog_10_method_3_code 2 none :: ws) ({ frames := 2, cells := 2, slots := 4, locals := 55 } : Room)) (fun a U => a = #[(.ref o0)] ∧ Z.Warmed39 U.vm ∧ U.heap = h0) (fun _ _ _ _ _ => True) (fun _ U o U' => ∃ v L, o = .returned v ∧ Q_rm_start1 Z o0 sa ka h0 n0 v U'.heap L ∧ FrameEnd U o U' L ({ frames := 2, cells := 2, slots := 4, locals := 55 } : Room).cells ({ frames := 2, cells := 2, slots := 4, locals := 55 } : Room).slots) := by
  refine MetFree.of_bodySF (plainFor_of_name pn_rm_start1) hisR ?_
  intro p e s m args below meth c s₁ Bd hml0 hP hK
  obtain ⟨rfl, hZ, hh⟩ := hP
  have hx := Bd.exec
  have hby := Bd.bytes
  have hml : c.maxLocals = 2 := hml0
  have hown : s.vm.findClass "com/example/graphkind/graphkind/Statements$Builder" = some m.cls := findClass_of_methodNamed Bd.named
  have hnm := (name_of_methodNamed Bd.named Bd.method).1
  have X0 : Stand p l e ({ frames := 2, cells := 2, slots := 4, locals := 55 } : Room) s m #[(.ref o0)] below meth c s₁ [] 0 0 := Stand.of_body Bd
  have e0 : s₁.heap = h0 := by rw [← hh, Bd.state]; rfl
  have N0 := Fr.nil n0
  have K0 := Keep.refl h0 [sa, o0]
  have go0 : Go p e below (s₁.setTop (entryFrame m #[(.ref o0)] 2)) (s₁.setTop (mkF m 0 #[vR o0, uu] [])) := fun t k => castTop (ef_rm_start1 m o0) k
  have go1 := go0.st s₁ (mkF m 4 #[vR o0, vI i0] [sR o0, sI i0]) (fun t k => by
    refine XS.iconst X0.here hx rfl (hb hby d7_0) ?_
    refine XS.istoreN X0.here hx rfl (hb hby d7_1) rfl (l' := #[vR o0, vI i0]) rfl ?_
    refine XS.iloadN X0.here hx rfl (hb hby d7_2) rfl ?_
    refine XS.aloadN X0.here hx rfl (hb hby d7_3) rfl rfl ?_
    exact k)
  obtain ⟨T2, X2, e2, st2⟩ := getF X0 hx hZ hown (host := "") (Or.inl (wD hw 35 rfl)) Via.refl e0 F_terms_o0 (g := (mkF m 4 #[vR o0, vI i0] [sR o0, sI i0])) rfl rfl (hb hby d7_4)
  have go4 := go1.st T2 (mkF m 11 #[vR o0, vI i0] [sR o0]) (fun t k => by
    refine st2 _ ?_
    show SP p e below T2 (mkF m 7 #[vR o0, vI i0] [sI i2, sI i0]) _
    refine XS.icmpNo X2.here hx rfl (hb hby d7_7) rfl (tlt ((by decide) : (0 : Int32) < (2 : Int32))).2.1 ?_
    refine XS.aloadN X2.here hx rfl (hb hby d7_10) rfl rfl ?_
    exact k)
  obtain ⟨T5, X5, e5, st5⟩ := getF X2 hx hZ hown (host := "") (Or.inl (wD hw 37 rfl)) Via.refl e2 F_start_o0 (g := (mkF m 11 #[vR o0, vI i0] [sR o0])) rfl rfl (hb hby d7_11)
  have go6 := go4.st T5 (mkF m 18 #[vR o0, vI i0] [sI i1, sR sa, sI i1, sR sa]) (fun t k => by
    refine st5 _ ?_
    show SP p e below T5 (mkF m 14 #[vR o0, vI i0] [sR sa]) _
    refine XS.iloadN X5.here hx rfl (hb hby d7_14) rfl ?_
    refine XS.iconst X5.here hx rfl (hb hby d7_15) ?_
    refine XS.iadd X5.here hx rfl (hb hby d7_16) rfl ?_
    show SP p e below T5 (mkF m 17 #[vR o0, vI i0] [sI i1, sR sa]) _
    jvm_step X5.here [X5.here.top, hx, (hb hby d7_17), Value.category]
    exact k)
  have Vo7 := V_sa
  obtain ⟨cl7, Ar7, qa7, Sa7, Na7, Ha7, Ga7⟩ := Vo7
  have hin7 := inb_of (j := (1 : Int32)) Sa7 ⟨by decide, by decide⟩
  have hat7 : cl7.slots[((1 : Int32)).toNatClampNeg]? = some (.int (1 : Int32)) := Has.at Ha7 hin7 rfl
  have go8 := go6.st T5 (mkF m 20 #[vR o0, vI i0] [sR o0, sI i1, sI i1, sR sa]) (fun t k => by
    refine X5.iaload hx (j := (1 : Int32)) (v := (.int (1 : Int32))) (by rw [e5]; exact Ar7.1) (State.isArrayOf_alike hZ.alike Ar7.2.1) Ar7.2.2 hin7 hat7 (g := (mkF m 18 #[vR o0, vI i0] [sI i1, sR sa, sI i1, sR sa])) rfl rfl (hb hby d7_18) _ ?_
    refine XS.aloadN X5.here hx rfl (hb hby d7_19) rfl rfl ?_
    exact k)
  obtain ⟨T9, X9, e9, st9⟩ := getF X5 hx hZ hown (host := "") (Or.inl (wD hw 37 rfl)) Via.refl e5 F_start_o0 (g := (mkF m 20 #[vR o0, vI i0] [sR o0, sI i1, sI i1, sR sa])) rfl rfl (hb hby d7_20)
  have go10 := go8.st T9 (mkF m 24 #[vR o0, vI i0] [sI i0, sR sa, sI i1, sI i1, sR sa]) (fun t k => by
    refine st9 _ ?_
    show SP p e below T9 (mkF m 23 #[vR o0, vI i0] [sR sa, sI i1, sI i1, sR sa]) _
    refine XS.iloadN X9.here hx rfl (hb hby d7_23) rfl ?_
    exact k)
  have Vo11 := V_sa
  obtain ⟨cl11, Ar11, qa11, Sa11, Na11, Ha11, Ga11⟩ := Vo11
  have hin11 := inb_of (j := (0 : Int32)) Sa11 ⟨by decide, by decide⟩
  have hat11 : cl11.slots[((0 : Int32)).toNatClampNeg]? = some (.int (0 : Int32)) := Has.at Ha11 hin11 rfl
  have go12 := go10.st T9 (mkF m 26 #[vR o0, vI i0] [sI i1, sI i1, sR sa]) (fun t k => by
    refine X9.iaload hx (j := (0 : Int32)) (v := (.int (0 : Int32))) (by rw [e9]; exact Ar11.1) (State.isArrayOf_alike hZ.alike Ar11.2.1) Ar11.2.2 hin11 hat11 (g := (mkF m 24 #[vR o0, vI i0] [sI i0, sR sa, sI i1, sI i1, sR sa])) rfl rfl (hb hby d7_24) _ ?_
    refine XS.iadd X9.here hx rfl (hb hby d7_25) rfl ?_
    exact k)
  have Vo13 := V_sa
  obtain ⟨cl13, Ar13, qa13, Sa13, Na13, Ha13, Ga13⟩ := Vo13
  have hin13 := inb_of (j := (1 : Int32)) Sa13 ⟨by decide, by decide⟩
  obtain ⟨T14, h14, X14, e14, W14, st14⟩ := stI X9 hx hZ e9 Ar13 (j := (1 : Int32)) hin13 (g := (mkF m 26 #[vR o0, vI i0] [sI i1, sI i1, sR sa])) rfl rfl (hb hby d7_26)
  have V14 : Arv Z h14 sa ka .int (3 : Int32) [(.int (0 : Int32)), (.int (1 : Int32)), (.int (1 : Int32))] (.int (0 : Int32)) := Arv.set Ar13 qa13 Sa13 Na13 Ha13 Ga13 rfl W14 1 rfl (Nat.le_of_ble_eq_true rfl)
  have f15 := E_o0.wr W14
  have f16 := Fld.other W14 F_terms_o0 (Or.inl ne_o0_sa)
  have f17 := Fld.other W14 F_start_o0 (Or.inl ne_o0_sa)
  have f18 := Fld.other W14 F_next_o0 (Or.inl ne_o0_sa)
  have f19 := Fld.other W14 F_values_o0 (Or.inl ne_o0_sa)
  have Z14 : n0 ≤ h14.size := Nat.le_trans Z0 (Nat.le_of_eq W14.size.symm)
  have K14 := K0.wr W14 (Or.inl (List.mem_of_getElem? (i := 0) rfl))
  have N14 := Fr.snoc X14 N0 g_sa
  have go21 := go12.st T14 (mkF m 4 #[vR o0, vI i1] [sR o0, sI i1]) (fun t k => by
    refine st14 _ ?_
    show SP p e below T14 (mkF m 27 #[vR o0, vI i0] []) _
    refine XS.iinc X14.here hx rfl (hb hby d7_27) rfl (l' := #[vR o0, vI i1]) rfl ?_
    refine XS.goto X14.here hx rfl (pc0 := 30) (pc' := 2) rfl (hb hby d7_30) (by decide) (by decide) ?_
    refine XS.iloadN X14.here hx rfl (hb hby d7_2) rfl ?_
    refine XS.aloadN X14.here hx rfl (hb hby d7_3) rfl rfl ?_
    exact k)
  obtain ⟨T22, X22, e22, st22⟩ := getF X14 hx hZ hown (host := "") (Or.inl (wD hw 35 rfl)) Via.refl e14 f16 (g := (mkF m 4 #[vR o0, vI i1] [sR o0, sI i1])) rfl rfl (hb hby d7_4)
  have go24 := go21.st T22 (mkF m 11 #[vR o0, vI i1] [sR o0]) (fun t k => by
    refine st22 _ ?_
    show SP p e below T22 (mkF m 7 #[vR o0, vI i1] [sI i2, sI i1]) _
    refine XS.icmpNo X22.here hx rfl (hb hby d7_7) rfl (tlt ((by decide) : (1 : Int32) < (2 : Int32))).2.1 ?_
    refine XS.aloadN X22.here hx rfl (hb hby d7_10) rfl rfl ?_
    exact k)
  obtain ⟨T25, X25, e25, st25⟩ := getF X22 hx hZ hown (host := "") (Or.inl (wD hw 37 rfl)) Via.refl e22 f17 (g := (mkF m 11 #[vR o0, vI i1] [sR o0])) rfl rfl (hb hby d7_11)
  have go26 := go24.st T25 (mkF m 18 #[vR o0, vI i1] [sI i2, sR sa, sI i2, sR sa]) (fun t k => by
    refine st25 _ ?_
    show SP p e below T25 (mkF m 14 #[vR o0, vI i1] [sR sa]) _
    refine XS.iloadN X25.here hx rfl (hb hby d7_14) rfl ?_
    refine XS.iconst X25.here hx rfl (hb hby d7_15) ?_
    refine XS.iadd X25.here hx rfl (hb hby d7_16) rfl ?_
    show SP p e below T25 (mkF m 17 #[vR o0, vI i1] [sI i2, sR sa]) _
    jvm_step X25.here [X25.here.top, hx, (hb hby d7_17), Value.category]
    exact k)
  have Vo27 := V14
  obtain ⟨cl27, Ar27, qa27, Sa27, Na27, Ha27, Ga27⟩ := Vo27
  have hin27 := inb_of (j := (2 : Int32)) Sa27 ⟨by decide, by decide⟩
  have hat27 : cl27.slots[((2 : Int32)).toNatClampNeg]? = some (.int (1 : Int32)) := Has.at Ha27 hin27 rfl
  have go28 := go26.st T25 (mkF m 20 #[vR o0, vI i1] [sR o0, sI i1, sI i2, sR sa]) (fun t k => by
    refine X25.iaload hx (j := (2 : Int32)) (v := (.int (1 : Int32))) (by rw [e25]; exact Ar27.1) (State.isArrayOf_alike hZ.alike Ar27.2.1) Ar27.2.2 hin27 hat27 (g := (mkF m 18 #[vR o0, vI i1] [sI i2, sR sa, sI i2, sR sa])) rfl rfl (hb hby d7_18) _ ?_
    refine XS.aloadN X25.here hx rfl (hb hby d7_19) rfl rfl ?_
    exact k)
  obtain ⟨T29, X29, e29, st29⟩ := getF X25 hx hZ hown (host := "") (Or.inl (wD hw 37 rfl)) Via.refl e25 f17 (g := (mkF m 20 #[vR o0, vI i1] [sR o0, sI i1, sI i2, sR sa])) rfl rfl (hb hby d7_20)
  have go30 := go28.st T29 (mkF m 24 #[vR o0, vI i1] [sI i1, sR sa, sI i1, sI i2, sR sa]) (fun t k => by
    refine st29 _ ?_
    show SP p e below T29 (mkF m 23 #[vR o0, vI i1] [sR sa, sI i1, sI i2, sR sa]) _
    refine XS.iloadN X29.here hx rfl (hb hby d7_23) rfl ?_
    exact k)
  have Vo31 := V14
  obtain ⟨cl31, Ar31, qa31, Sa31, Na31, Ha31, Ga31⟩ := Vo31
  have hin31 := inb_of (j := (1 : Int32)) Sa31 ⟨by decide, by decide⟩
  have hat31 : cl31.slots[((1 : Int32)).toNatClampNeg]? = some (.int (1 : Int32)) := Has.at Ha31 hin31 rfl
  have go32 := go30.st T29 (mkF m 26 #[vR o0, vI i1] [sI i2, sI i2, sR sa]) (fun t k => by
    refine X29.iaload hx (j := (1 : Int32)) (v := (.int (1 : Int32))) (by rw [e29]; exact Ar31.1) (State.isArrayOf_alike hZ.alike Ar31.2.1) Ar31.2.2 hin31 hat31 (g := (mkF m 24 #[vR o0, vI i1] [sI i1, sR sa, sI i1, sI i2, sR sa])) rfl rfl (hb hby d7_24) _ ?_
    refine XS.iadd X29.here hx rfl (hb hby d7_25) rfl ?_
    exact k)
  have Vo33 := V14
  obtain ⟨cl33, Ar33, qa33, Sa33, Na33, Ha33, Ga33⟩ := Vo33
  have hin33 := inb_of (j := (2 : Int32)) Sa33 ⟨by decide, by decide⟩
  obtain ⟨T34, h34, X34, e34, W34, st34⟩ := stI X29 hx hZ e29 Ar33 (j := (2 : Int32)) hin33 (g := (mkF m 26 #[vR o0, vI i1] [sI i2, sI i2, sR sa])) rfl rfl (hb hby d7_26)
  have V34 : Arv Z h34 sa ka .int (3 : Int32) [(.int (0 : Int32)), (.int (1 : Int32)), (.int (2 : Int32))] (.int (0 : Int32)) := Arv.set Ar33 qa33 Sa33 Na33 Ha33 Ga33 rfl W34 2 rfl (Nat.le_of_ble_eq_true rfl)
  have f35 := f15.wr W34
  have f36 := Fld.other W34 f16 (Or.inl ne_o0_sa)
  have f37 := Fld.other W34 f17 (Or.inl ne_o0_sa)
  have f38 := Fld.other W34 f18 (Or.inl ne_o0_sa)
  have f39 := Fld.other W34 f19 (Or.inl ne_o0_sa)
  have Z34 : n0 ≤ h34.size := Nat.le_trans Z14 (Nat.le_of_eq W34.size.symm)
  have K34 := K14.wr W34 (Or.inl (List.mem_of_getElem? (i := 0) rfl))
  have N34 := Fr.snoc X34 N14 g_sa
  have go41 := go32.st T34 (mkF m 4 #[vR o0, vI i2] [sR o0, sI i2]) (fun t k => by
    refine st34 _ ?_
    show SP p e below T34 (mkF m 27 #[vR o0, vI i1] []) _
    refine XS.iinc X34.here hx rfl (hb hby d7_27) rfl (l' := #[vR o0, vI i2]) rfl ?_
    refine XS.goto X34.here hx rfl (pc0 := 30) (pc' := 2) rfl (hb hby d7_30) (by decide) (by decide) ?_
    refine XS.iloadN X34.here hx rfl (hb hby d7_2) rfl ?_
    refine XS.aloadN X34.here hx rfl (hb hby d7_3) rfl rfl ?_
    exact k)
  obtain ⟨T42, X42, e42, st42⟩ := getF X34 hx hZ hown (host := "") (Or.inl (wD hw 35 rfl)) Via.refl e34 f36 (g := (mkF m 4 #[vR o0, vI i2] [sR o0, sI i2])) rfl rfl (hb hby d7_4)
  have go44 := go41.st T42 (mkF m 35 #[vR o0, vI i2] [sR o0, sR o0]) (fun t k => by
    refine st42 _ ?_
    show SP p e below T42 (mkF m 7 #[vR o0, vI i2] [sI i2, sI i2]) _
    refine XS.icmpYes X42.here hx rfl (pc0 := 7) (pc' := 33) rfl (hb hby d7_7) rfl (flt ((by decide) : ¬ ((2 : Int32) < (2 : Int32)))).2.1 (by decide) (by decide) ?_
    refine XS.aloadN X42.here hx rfl (hb hby d7_33) rfl rfl ?_
    refine XS.aloadN X42.here hx rfl (hb hby d7_34) rfl rfl ?_
    exact k)
  obtain ⟨T45, X45, e45, st45⟩ := getF X42 hx hZ hown (host := "") (Or.inl (wD hw 37 rfl)) Via.refl e42 f37 (g := (mkF m 35 #[vR o0, vI i2] [sR o0, sR o0])) rfl rfl (hb hby d7_35)
  have go46 := go44.st T45 (mkF m 39 #[vR o0, vI i2] [sR o0, sR sa, sR o0]) (fun t k => by
    refine st45 _ ?_
    show SP p e below T45 (mkF m 38 #[vR o0, vI i2] [sR sa, sR o0]) _
    refine XS.aloadN X45.here hx rfl (hb hby d7_38) rfl rfl ?_
    exact k)
  obtain ⟨T47, X47, e47, st47⟩ := getF X45 hx hZ hown (host := "") (Or.inl (wD hw 35 rfl)) Via.refl e45 f36 (g := (mkF m 39 #[vR o0, vI i2] [sR o0, sR sa, sR o0])) rfl rfl (hb hby d7_39)
  have go48 := go46.st T47 (mkF m 42 #[vR o0, vI i2] [sI i2, sR sa, sR o0]) (fun t k => by
    refine st47 _ ?_
    exact k)
  obtain ⟨_, _, ⟨T49, L49, k49, n49⟩, -, X49, ⟨Lc49, hQ49, l49, y49, z49⟩, st49⟩ := Jvm.LawKit.callS X47 hx (y := yN5) hown (mvT hZ (wD hw 54 rfl)) (mvT hZ (wD hw 55 rfl)) (mvT hZ (wD hw 56 rfl)) (mvT hZ (wD hw 57 rfl)) (by decide) (backOf (W := 1) (rm_cpI l Z a0 hw [] sa ka (0 : Int32) (1 : Int32) (2 : Int32) h34 n0 Z34 V34) hZ (wD hw 57 rfl) (wD hw 56 rfl) (by decide) (by decide)) (g := (mkF m 42 #[vR o0, vI i2] [sI i2, sR sa, sR o0])) rfl (by rw [hml]; rfl) (argsL := [(.ref sa), (.int (2 : Int32))]) (rest := [(.ref o0)]) (lenOf pd_rm_start1_0 rfl) rfl (by show 2 * 0 + _ ≤ _; exact Nat.le_of_eq rfl) (hb hby d7_42) (fun _ _ => ⟨rfl, e47, (by decide : 0 + 1 ≤ _), (by decide : 0 + 2 ≤ _)⟩)
  dsimp only [Pt.U, Pt.locs, Pt.cells, Pt.slots] at X49 l49 y49 z49 st49 hQ49
  rw [l49, y49, z49] at X49
  obtain ⟨b_49, kb_49, rfl, N49q, K49, qp49_0, qp49_1, qp49_2⟩ := hQ49
  have N49 := Fr.app N34 N49q
  have f50 := f35.keep K49
  have f51 := f36.keep K49 nin0
  have f52 := f37.keep K49 nin0
  have f53 := f38.keep K49 nin0
  have f54 := f39.keep K49 nin0
  have f55 := V34.keep K49 nin0
  have Z49 : n0 ≤ T49.heap.size := Nat.le_trans Z34 K49.1
  have KK49 := K34.trans K49 all0
  have g_b_49 := qp49_0
  have sz_b_49 := Nat.le_trans K34.1 qp49_1
  have ne_o0_b_49 : o0 ≠ b_49 := Nat.ne_of_lt (Nat.lt_of_lt_of_le f35.lt qp49_1)
  have ne_sa_b_49 : sa ≠ b_49 := Nat.ne_of_lt (Nat.lt_of_lt_of_le V34.lt qp49_1)
  have go56 := go48.st T49 (mkF m 45 #[vR o0, vI i2] [sR b_49, sR o0]) (fun t k => by
    refine st49 _ ?_
    exact k)
  obtain ⟨T57, h57, X57, e57, W57, st57⟩ := putF X49 hx hZ hown (host := "") (Or.inl (wD hw 66 rfl)) Via.refl rfl f53 f50 (Or.inl (wD hw 67 rfl)) (wD hw 29 rfl) (ty := (.array .int)) (by decide) rfl rfl (g := (mkF m 45 #[vR o0, vI i2] [sR b_49, sR o0])) rfl rfl (hb hby d7_45)
  have f58 := f50.wr W57
  have f59 := Fld.other W57 f51 (Or.inr (slot_ne (Or.inr (wD hw 36 rfl)) (Or.inl (wD hw 67 rfl)) (by decide) (t := .int) (t' := (.array .int)) (by decide) (by decide)))
  have f60 := Fld.other W57 f52 (Or.inr (slot_ne (Or.inr (wD hw 38 rfl)) (Or.inl (wD hw 67 rfl)) (by decide) (t := (.array .int)) (t' := (.array .int)) (by decide) (by decide)))
  have f61 := Fld.same W57 f53
  have f62 := Fld.other W57 f54 (Or.inr (slot_ne (Or.inl (wD hw 70 rfl)) (Or.inl (wD hw 67 rfl)) (by decide) (t := (.array .long)) (t' := (.array .int)) (by decide) (by decide)))
  have f63 := Arv.other f55 W57 (Ne.symm ne_o0_sa)
  have f64 := Arv.other qp49_2 W57 (Ne.symm ne_o0_b_49)
  have Z57 : n0 ≤ h57.size := Nat.le_trans Z49 (Nat.le_of_eq W57.size.symm)
  have K57 := KK49.wr W57 (Or.inl (List.mem_of_getElem? (i := 1) rfl))
  have N57 := Fr.snoc X57 N49 g_o0
  have go65 := go56.st T57 (mkF m 50 #[vR o0, vI i2] [sR o0, sR o0]) (fun t k => by
    refine st57 _ ?_
    show SP p e below T57 (mkF m 48 #[vR o0, vI i2] []) _
    refine XS.aloadN X57.here hx rfl (hb hby d7_48) rfl rfl ?_
    refine XS.aloadN X57.here hx rfl (hb hby d7_49) rfl rfl ?_
    exact k)
  obtain ⟨T66, X66, e66, st66⟩ := getF X57 hx hZ hown (host := "") (Or.inl (wD hw 37 rfl)) Via.refl e57 f60 (g := (mkF m 50 #[vR o0, vI i2] [sR o0, sR o0])) rfl rfl (hb hby d7_50)
  have go67 := go65.st T66 (mkF m 54 #[vR o0, vI i2] [sR o0, sR sa, sR o0]) (fun t k => by
    refine st66 _ ?_
    show SP p e below T66 (mkF m 53 #[vR o0, vI i2] [sR sa, sR o0]) _
    refine XS.aloadN X66.here hx rfl (hb hby d7_53) rfl rfl ?_
    exact k)
  obtain ⟨T68, X68, e68, st68⟩ := getF X66 hx hZ hown (host := "") (Or.inl (wD hw 35 rfl)) Via.refl e66 f59 (g := (mkF m 54 #[vR o0, vI i2] [sR o0, sR sa, sR o0])) rfl rfl (hb hby d7_54)
  have go69 := go67.st T68 (mkF m 57 #[vR o0, vI i2] [sI i2, sR sa, sR o0]) (fun t k => by
    refine st68 _ ?_
    exact k)
  have Vo70 := f63
  obtain ⟨cl70, Ar70, qa70, Sa70, Na70, Ha70, Ga70⟩ := Vo70
  have hin70 := inb_of (j := (2 : Int32)) Sa70 ⟨by decide, by decide⟩
  have hat70 : cl70.slots[((2 : Int32)).toNatClampNeg]? = some (.int (2 : Int32)) := Has.at Ha70 hin70 rfl
  have go71 := go69.st T68 (mkF m 58 #[vR o0, vI i2] [sI i2, sR o0]) (fun t k => by
    refine X68.iaload hx (j := (2 : Int32)) (v := (.int (2 : Int32))) (by rw [e68]; exact Ar70.1) (State.isArrayOf_alike hZ.alike Ar70.2.1) Ar70.2.2 hin70 hat70 (g := (mkF m 57 #[vR o0, vI i2] [sI i2, sR sa, sR o0])) rfl rfl (hb hby d7_57) _ ?_
    exact k)
  obtain ⟨T72, h72, k72, X72, e72, E72, A72, st72⟩ := newP X68 hx hZ (wD hw 68 rfl) e68 (g := (mkF m 58 #[vR o0, vI i2] [sI i2, sR o0])) rfl (hb hby d7_58) rfl (by decide) (cap := 2) (by decide) (by decide) (by decide) (by decide)
  obtain ⟨b72, g72⟩ : ∃ z, z = h57.size := ⟨_, rfl⟩
  rw [← g72] at A72 st72
  have ne_o0_b72 : o0 ≠ b72 := Nat.ne_of_lt (Nat.lt_of_lt_of_le f58.lt (Nat.le_of_eq g72.symm))
  have ne_sa_b72 : sa ≠ b72 := Nat.ne_of_lt (Nat.lt_of_lt_of_le f63.lt (Nat.le_of_eq g72.symm))
  have ne_b_49_b72 : b_49 ≠ b72 := Nat.ne_of_lt (Nat.lt_of_lt_of_le f64.lt (Nat.le_of_eq g72.symm))
  have g_b72 : n0 ≤ b72 := Nat.le_trans Z57 (Nat.le_of_eq g72.symm)
  have sz_b72 : h0.size ≤ b72 := Nat.le_trans K57.1 (Nat.le_of_eq g72.symm)
  have f73 := f58.ext E72
  have f74 := f59.ext E72
  have f75 := f60.ext E72
  have f76 := f61.ext E72
  have f77 := f62.ext E72
  have f78 := f63.ext E72
  have f79 := f64.ext E72
  have V72 : Arv Z h72 b72 k72 .long (2 : Int32) [(.long (0 : Int64)), (.long (0 : Int64))] (.long (0 : Int64)) := (Arv.new A72 (by decide)).pad (pad_rep [] (.long (0 : Int64)) 2)
  have Z72 : n0 ≤ h72.size := Nat.le_trans Z57 E72.1
  have K72 := K57.ext E72
  have go80 := go71.st T72 (mkF m 60 #[vR o0, vI i2] [sR b72, sR o0]) (fun t k => by
    refine st72 _ ?_
    exact k)
  obtain ⟨T81, h81, X81, e81, W81, st81⟩ := putF X72 hx hZ hown (host := "") (Or.inl (wD hw 69 rfl)) Via.refl e72 f77 f73 (Or.inl (wD hw 70 rfl)) (wD hw 29 rfl) (ty := (.array .long)) (by decide) rfl rfl (g := (mkF m 60 #[vR o0, vI i2] [sR b72, sR o0])) rfl rfl (hb hby d7_60)
  have f82 := f73.wr W81
  have f83 := Fld.other W81 f74 (Or.inr (slot_ne (Or.inr (wD hw 36 rfl)) (Or.inl (wD hw 70 rfl)) (by decide) (t := .int) (t' := (.array .long)) (by decide) (by decide)))
  have f84 := Fld.other W81 f75 (Or.inr (slot_ne (Or.inr (wD hw 38 rfl)) (Or.inl (wD hw 70 rfl)) (by decide) (t := (.array .int)) (t' := (.array .long)) (by decide) (by decide)))
  have f85 := Fld.other W81 f76 (Or.inr (slot_ne (Or.inl (wD hw 67 rfl)) (Or.inl (wD hw 70 rfl)) (by decide) (t := (.array .int)) (t' := (.array .long)) (by decide) (by decide)))
  have f86 := Fld.same W81 f77
  have f87 := Arv.other f78 W81 (Ne.symm ne_o0_sa)
  have f88 := Arv.other f79 W81 (Ne.symm ne_o0_b_49)
  have f89 := Arv.other V72 W81 (Ne.symm ne_o0_b72)
  have Z81 : n0 ≤ h81.size := Nat.le_trans Z72 (Nat.le_of_eq W81.size.symm)
  have K81 := K72.wr W81 (Or.inl (List.mem_of_getElem? (i := 1) rfl))
  have N81 := Fr.snoc X81 N57 g_o0
  have go90 := go80.st T81 (mkF m 63 #[vR o0, vI i2] []) (fun t k => by
    refine st81 _ ?_
    exact k)
  obtain ⟨fs, hr, hrun, hended, hW, hsame⟩ := X81.leave (v := none) (fun _ => rfl)
  refine ⟨_, _, go90 _ ?_, hrun, hended, _, _, rfl, ?_, ⟨_, rfl⟩, hW, hsame.mono (by decide) (by decide)⟩
  · exact X81.returnOut hx Bd.returns (hb hby d7_63) hr
  · show Q_rm_start1 Z o0 sa ka h0 n0 _ T81.heap _
    rw [e81]
    exact ⟨b_49, b72, kb_49, k72, rfl, N81, K81, g_b_49, sz_b_49, g_b72, sz_b72, f83, f84, f85, f86, f87, f88, f89, ne_b_49_b72⟩
theorem pn_rm_start0 : plainName "com/example/graphkind/graphkind/Statements$Builder" = true := by first | (simp [plainName, overriddenIn]; done) | decide +kernel
theorem pd_rm_start0_0 : parseMethodDescriptor "([II)[I" = some ⟨[(.array .int), .int], some (.array .int)⟩ := by decide +kernel
theorem ef_rm_start0 (m : MethodId) (o0 : Addr) : entryFrame m #[(.ref o0)] 2 = mkF m 0 #[.val (.ref o0), uu] [] := by first | (simp [entryFrame, mkF, argsToLocals, Value.category]; done) | rfl
def Q_rm_start0 (Z : State) (o0 : Addr) (sa : Addr) (ka : ClassId) (h0 : Heap) (n0 : Nat) (v : Option Value) (h : Heap) (L : List Loc) : Prop := ∃ nx : Addr, ∃ va : Addr, ∃ kx : ClassId, ∃ kv : ClassId, v = none ∧ Fr n0 L ∧ Keep h0 h [sa, o0] ∧ n0 ≤ nx ∧ h0.size ≤ nx ∧ n0 ≤ va ∧ h0.size ≤ va ∧ Fld Z h o0 "com/example/graphkind/graphkind/Statements$Builder" "terms" "I" (.int (2 : Int32)) ∧ Fld Z h o0 "com/example/graphkind/graphkind/Statements$Builder" "start" "[I" (.ref sa) ∧ Fld Z h o0 "com/example/graphkind/graphkind/Statements$Builder" "next" "[I" (.ref nx) ∧ Fld Z h o0 "com/example/graphkind/graphkind/Statements$Builder" "values" "[J" (.ref va) ∧ Arv Z h sa ka .int (3 : Int32) [(.int (0 : Int32)), (.int (0 : Int32)), (.int (2 : Int32))] (.int (0 : Int32)) ∧ Arv Z h nx kx .int (2 : Int32) [(.int (0 : Int32)), (.int (0 : Int32))] (.int (0 : Int32)) ∧ Arv Z h va kv .long (2 : Int32) [(.long (0 : Int64)), (.long (0 : Int64))] (.long (0 : Int64)) ∧ nx ≠ va
set_option maxRecDepth 65536 in
set_option maxHeartbeats 40000000 in
theorem rm_start0 (l : Launch) (Z : State) (a0 : Array Value) (hw : ∀ d ∈ tables_1, d.before a0 Z = true) (ws : List Jvm.Cond) (o0 : Addr) (sa : Addr) (ka : ClassId) (h0 : Heap) (n0 : Nat) (Z0 : n0 ≤ h0.size) (E_o0 : Exa Z h0 o0 "com/example/graphkind/graphkind/Statements$Builder") (F_terms_o0 : Fld Z h0 o0 "com/example/graphkind/graphkind/Statements$Builder" "terms" "I" (.int (2 : Int32))) (F_start_o0 : Fld Z h0 o0 "com/example/graphkind/graphkind/Statements$Builder" "start" "[I" (.ref sa)) (F_next_o0 : Fld Z h0 o0 "com/example/graphkind/graphkind/Statements$Builder" "next" "[I" .null) (F_values_o0 : Fld Z h0 o0 "com/example/graphkind/graphkind/Statements$Builder" "values" "[J" .null) (V_sa : Arv Z h0 sa ka .int (3 : Int32) [(.int (0 : Int32)), (.int (0 : Int32)), (.int (2 : Int32))] (.int (0 : Int32))) (g_sa : n0 ≤ sa) (g_o0 : n0 ≤ o0) (ne_o0_sa : o0 ≠ sa) :
    MetFree l yN8 (head1 (Jvm.Cond.code yN8 prog_10_method_3_code 2 none :: ws) ({ frames := 2, cells := 2, slots := 4, locals := 55 } : Room)) (fun a U => a = #[(.ref o0)] ∧ Z.Warmed39 U.vm ∧ U.heap = h0) (fun _ _ _ _ _ => True) (fun _ U o U' => ∃ v L, o = .returned v ∧ Q_rm_start0 Z o0 sa ka h0 n0 v U'.heap L ∧ FrameEnd U o U' L ({ frames := 2, cells := 2, slots := 4, locals := 55 } : Room).cells ({ frames := 2, cells := 2, slots := 4, locals := 55 } : Room).slots) := by
  refine MetFree.of_bodySF (plainFor_of_name pn_rm_start0) hisR ?_
  intro p e s m args below meth c s₁ Bd hml0 hP hK
  obtain ⟨rfl, hZ, hh⟩ := hP
  have hx := Bd.exec
  have hby := Bd.bytes
  have hml : c.maxLocals = 2 := hml0
  have hown : s.vm.findClass "com/example/graphkind/graphkind/Statements$Builder" = some m.cls := findClass_of_methodNamed Bd.named
  have hnm := (name_of_methodNamed Bd.named Bd.method).1
  have X0 : Stand p l e ({ frames := 2, cells := 2, slots := 4, locals := 55 } : Room) s m #[(.ref o0)] below meth c s₁ [] 0 0 := Stand.of_body Bd
  have e0 : s₁.heap = h0 := by rw [← hh, Bd.state]; rfl
  have N0 := Fr.nil n0
  have K0 := Keep.refl h0 [sa, o0]
  have go0 : Go p e below (s₁.setTop (entryFrame m #[(.ref o0)] 2)) (s₁.setTop (mkF m 0 #[vR o0, uu] [])) := fun t k => castTop (ef_rm_start0 m o0) k
  have go1 := go0.st s₁ (mkF m 4 #[vR o0, vI i0] [sR o0, sI i0]) (fun t k => by
    refine XS.iconst X0.here hx rfl (hb hby d7_0) ?_
    refine XS.istoreN X0.here hx rfl (hb hby d7_1) rfl (l' := #[vR o0, vI i0]) rfl ?_
    refine XS.iloadN X0.here hx rfl (hb hby d7_2) rfl ?_
    refine XS.aloadN X0.here hx rfl (hb hby d7_3) rfl rfl ?_
    exact k)
  obtain ⟨T2, X2, e2, st2⟩ := getF X0 hx hZ hown (host := "") (Or.inl (wD hw 35 rfl)) Via.refl e0 F_terms_o0 (g := (mkF m 4 #[vR o0, vI i0] [sR o0, sI i0])) rfl rfl (hb hby d7_4)
  have go4 := go1.st T2 (mkF m 11 #[vR o0, vI i0] [sR o0]) (fun t k => by
    refine st2 _ ?_
    show SP p e below T2 (mkF m 7 #[vR o0, vI i0] [sI i2, sI i0]) _
    refine XS.icmpNo X2.here hx rfl (hb hby d7_7) rfl (tlt ((by decide) : (0 : Int32) < (2 : Int32))).2.1 ?_
    refine XS.aloadN X2.here hx rfl (hb hby d7_10) rfl rfl ?_
    exact k)
  obtain ⟨T5, X5, e5, st5⟩ := getF X2 hx hZ hown (host := "") (Or.inl (wD hw 37 rfl)) Via.refl e2 F_start_o0 (g := (mkF m 11 #[vR o0, vI i0] [sR o0])) rfl rfl (hb hby d7_11)
  have go6 := go4.st T5 (mkF m 18 #[vR o0, vI i0] [sI i1, sR sa, sI i1, sR sa]) (fun t k => by
    refine st5 _ ?_
    show SP p e below T5 (mkF m 14 #[vR o0, vI i0] [sR sa]) _
    refine XS.iloadN X5.here hx rfl (hb hby d7_14) rfl ?_
    refine XS.iconst X5.here hx rfl (hb hby d7_15) ?_
    refine XS.iadd X5.here hx rfl (hb hby d7_16) rfl ?_
    show SP p e below T5 (mkF m 17 #[vR o0, vI i0] [sI i1, sR sa]) _
    jvm_step X5.here [X5.here.top, hx, (hb hby d7_17), Value.category]
    exact k)
  have Vo7 := V_sa
  obtain ⟨cl7, Ar7, qa7, Sa7, Na7, Ha7, Ga7⟩ := Vo7
  have hin7 := inb_of (j := (1 : Int32)) Sa7 ⟨by decide, by decide⟩
  have hat7 : cl7.slots[((1 : Int32)).toNatClampNeg]? = some (.int (0 : Int32)) := Has.at Ha7 hin7 rfl
  have go8 := go6.st T5 (mkF m 20 #[vR o0, vI i0] [sR o0, sI i0, sI i1, sR sa]) (fun t k => by
    refine X5.iaload hx (j := (1 : Int32)) (v := (.int (0 : Int32))) (by rw [e5]; exact Ar7.1) (State.isArrayOf_alike hZ.alike Ar7.2.1) Ar7.2.2 hin7 hat7 (g := (mkF m 18 #[vR o0, vI i0] [sI i1, sR sa, sI i1, sR sa])) rfl rfl (hb hby d7_18) _ ?_
    refine XS.aloadN X5.here hx rfl (hb hby d7_19) rfl rfl ?_
    exact k)
  obtain ⟨T9, X9, e9, st9⟩ := getF X5 hx hZ hown (host := "") (Or.inl (wD hw 37 rfl)) Via.refl e5 F_start_o0 (g := (mkF m 20 #[vR o0, vI i0] [sR o0, sI i0, sI i1, sR sa])) rfl rfl (hb hby d7_20)
  have go10 := go8.st T9 (mkF m 24 #[vR o0, vI i0] [sI i0, sR sa, sI i0, sI i1, sR sa]) (fun t k => by
    refine st9 _ ?_
    show SP p e below T9 (mkF m 23 #[vR o0, vI i0] [sR sa, sI i0, sI i1, sR sa]) _
    refine XS.iloadN X9.here hx rfl (hb hby d7_23) rfl ?_
    exact k)
  have Vo11 := V_sa
  obtain ⟨cl11, Ar11, qa11, Sa11, Na11, Ha11, Ga11⟩ := Vo11
  have hin11 := inb_of (j := (0 : Int32)) Sa11 ⟨by decide, by decide⟩
  have hat11 : cl11.slots[((0 : Int32)).toNatClampNeg]? = some (.int (0 : Int32)) := Has.at Ha11 hin11 rfl
  have go12 := go10.st T9 (mkF m 26 #[vR o0, vI i0] [sI i0, sI i1, sR sa]) (fun t k => by
    refine X9.iaload hx (j := (0 : Int32)) (v := (.int (0 : Int32))) (by rw [e9]; exact Ar11.1) (State.isArrayOf_alike hZ.alike Ar11.2.1) Ar11.2.2 hin11 hat11 (g := (mkF m 24 #[vR o0, vI i0] [sI i0, sR sa, sI i0, sI i1, sR sa])) rfl rfl (hb hby d7_24) _ ?_
    refine XS.iadd X9.here hx rfl (hb hby d7_25) rfl ?_
    exact k)
  have Vo13 := V_sa
  obtain ⟨cl13, Ar13, qa13, Sa13, Na13, Ha13, Ga13⟩ := Vo13
  have hin13 := inb_of (j := (1 : Int32)) Sa13 ⟨by decide, by decide⟩
  obtain ⟨T14, h14, X14, e14, W14, st14⟩ := stI X9 hx hZ e9 Ar13 (j := (1 : Int32)) hin13 (g := (mkF m 26 #[vR o0, vI i0] [sI i0, sI i1, sR sa])) rfl rfl (hb hby d7_26)
  have V14 : Arv Z h14 sa ka .int (3 : Int32) [(.int (0 : Int32)), (.int (0 : Int32)), (.int (2 : Int32))] (.int (0 : Int32)) := Arv.set Ar13 qa13 Sa13 Na13 Ha13 Ga13 rfl W14 1 rfl (Nat.le_of_ble_eq_true rfl)
  have f15 := E_o0.wr W14
  have f16 := Fld.other W14 F_terms_o0 (Or.inl ne_o0_sa)
  have f17 := Fld.other W14 F_start_o0 (Or.inl ne_o0_sa)
  have f18 := Fld.other W14 F_next_o0 (Or.inl ne_o0_sa)
  have f19 := Fld.other W14 F_values_o0 (Or.inl ne_o0_sa)
  have Z14 : n0 ≤ h14.size := Nat.le_trans Z0 (Nat.le_of_eq W14.size.symm)
  have K14 := K0.wr W14 (Or.inl (List.mem_of_getElem? (i := 0) rfl))
  have N14 := Fr.snoc X14 N0 g_sa
  have go21 := go12.st T14 (mkF m 4 #[vR o0, vI i1] [sR o0, sI i1]) (fun t k => by
    refine st14 _ ?_
    show SP p e below T14 (mkF m 27 #[vR o0, vI i0] []) _
    refine XS.iinc X14.here hx rfl (hb hby d7_27) rfl (l' := #[vR o0, vI i1]) rfl ?_
    refine XS.goto X14.here hx rfl (pc0 := 30) (pc' := 2) rfl (hb hby d7_30) (by decide) (by decide) ?_
    refine XS.iloadN X14.here hx rfl (hb hby d7_2) rfl ?_
    refine XS.aloadN X14.here hx rfl (hb hby d7_3) rfl rfl ?_
    exact k)
  obtain ⟨T22, X22, e22, st22⟩ := getF X14 hx hZ hown (host := "") (Or.inl (wD hw 35 rfl)) Via.refl e14 f16 (g := (mkF m 4 #[vR o0, vI i1] [sR o0, sI i1])) rfl rfl (hb hby d7_4)
  have go24 := go21.st T22 (mkF m 11 #[vR o0, vI i1] [sR o0]) (fun t k => by
    refine st22 _ ?_
    show SP p e below T22 (mkF m 7 #[vR o0, vI i1] [sI i2, sI i1]) _
    refine XS.icmpNo X22.here hx rfl (hb hby d7_7) rfl (tlt ((by decide) : (1 : Int32) < (2 : Int32))).2.1 ?_
    refine XS.aloadN X22.here hx rfl (hb hby d7_10) rfl rfl ?_
    exact k)
  obtain ⟨T25, X25, e25, st25⟩ := getF X22 hx hZ hown (host := "") (Or.inl (wD hw 37 rfl)) Via.refl e22 f17 (g := (mkF m 11 #[vR o0, vI i1] [sR o0])) rfl rfl (hb hby d7_11)
  have go26 := go24.st T25 (mkF m 18 #[vR o0, vI i1] [sI i2, sR sa, sI i2, sR sa]) (fun t k => by
    refine st25 _ ?_
    show SP p e below T25 (mkF m 14 #[vR o0, vI i1] [sR sa]) _
    refine XS.iloadN X25.here hx rfl (hb hby d7_14) rfl ?_
    refine XS.iconst X25.here hx rfl (hb hby d7_15) ?_
    refine XS.iadd X25.here hx rfl (hb hby d7_16) rfl ?_
    show SP p e below T25 (mkF m 17 #[vR o0, vI i1] [sI i2, sR sa]) _
    jvm_step X25.here [X25.here.top, hx, (hb hby d7_17), Value.category]
    exact k)
  have Vo27 := V14
  obtain ⟨cl27, Ar27, qa27, Sa27, Na27, Ha27, Ga27⟩ := Vo27
  have hin27 := inb_of (j := (2 : Int32)) Sa27 ⟨by decide, by decide⟩
  have hat27 : cl27.slots[((2 : Int32)).toNatClampNeg]? = some (.int (2 : Int32)) := Has.at Ha27 hin27 rfl
  have go28 := go26.st T25 (mkF m 20 #[vR o0, vI i1] [sR o0, sI i2, sI i2, sR sa]) (fun t k => by
    refine X25.iaload hx (j := (2 : Int32)) (v := (.int (2 : Int32))) (by rw [e25]; exact Ar27.1) (State.isArrayOf_alike hZ.alike Ar27.2.1) Ar27.2.2 hin27 hat27 (g := (mkF m 18 #[vR o0, vI i1] [sI i2, sR sa, sI i2, sR sa])) rfl rfl (hb hby d7_18) _ ?_
    refine XS.aloadN X25.here hx rfl (hb hby d7_19) rfl rfl ?_
    exact k)
  obtain ⟨T29, X29, e29, st29⟩ := getF X25 hx hZ hown (host := "") (Or.inl (wD hw 37 rfl)) Via.refl e25 f17 (g := (mkF m 20 #[vR o0, vI i1] [sR o0, sI i2, sI i2, sR sa])) rfl rfl (hb hby d7_20)
  have go30 := go28.st T29 (mkF m 24 #[vR o0, vI i1] [sI i1, sR sa, sI i2, sI i2, sR sa]) (fun t k => by
    refine st29 _ ?_
    show SP p e below T29 (mkF m 23 #[vR o0, vI i1] [sR sa, sI i2, sI i2, sR sa]) _
    refine XS.iloadN X29.here hx rfl (hb hby d7_23) rfl ?_
    exact k)
  have Vo31 := V14
  obtain ⟨cl31, Ar31, qa31, Sa31, Na31, Ha31, Ga31⟩ := Vo31
  have hin31 := inb_of (j := (1 : Int32)) Sa31 ⟨by decide, by decide⟩
  have hat31 : cl31.slots[((1 : Int32)).toNatClampNeg]? = some (.int (0 : Int32)) := Has.at Ha31 hin31 rfl
  have go32 := go30.st T29 (mkF m 26 #[vR o0, vI i1] [sI i2, sI i2, sR sa]) (fun t k => by
    refine X29.iaload hx (j := (1 : Int32)) (v := (.int (0 : Int32))) (by rw [e29]; exact Ar31.1) (State.isArrayOf_alike hZ.alike Ar31.2.1) Ar31.2.2 hin31 hat31 (g := (mkF m 24 #[vR o0, vI i1] [sI i1, sR sa, sI i2, sI i2, sR sa])) rfl rfl (hb hby d7_24) _ ?_
    refine XS.iadd X29.here hx rfl (hb hby d7_25) rfl ?_
    exact k)
  have Vo33 := V14
  obtain ⟨cl33, Ar33, qa33, Sa33, Na33, Ha33, Ga33⟩ := Vo33
  have hin33 := inb_of (j := (2 : Int32)) Sa33 ⟨by decide, by decide⟩
  obtain ⟨T34, h34, X34, e34, W34, st34⟩ := stI X29 hx hZ e29 Ar33 (j := (2 : Int32)) hin33 (g := (mkF m 26 #[vR o0, vI i1] [sI i2, sI i2, sR sa])) rfl rfl (hb hby d7_26)
  have V34 : Arv Z h34 sa ka .int (3 : Int32) [(.int (0 : Int32)), (.int (0 : Int32)), (.int (2 : Int32))] (.int (0 : Int32)) := Arv.set Ar33 qa33 Sa33 Na33 Ha33 Ga33 rfl W34 2 rfl (Nat.le_of_ble_eq_true rfl)
  have f35 := f15.wr W34
  have f36 := Fld.other W34 f16 (Or.inl ne_o0_sa)
  have f37 := Fld.other W34 f17 (Or.inl ne_o0_sa)
  have f38 := Fld.other W34 f18 (Or.inl ne_o0_sa)
  have f39 := Fld.other W34 f19 (Or.inl ne_o0_sa)
  have Z34 : n0 ≤ h34.size := Nat.le_trans Z14 (Nat.le_of_eq W34.size.symm)
  have K34 := K14.wr W34 (Or.inl (List.mem_of_getElem? (i := 0) rfl))
  have N34 := Fr.snoc X34 N14 g_sa
  have go41 := go32.st T34 (mkF m 4 #[vR o0, vI i2] [sR o0, sI i2]) (fun t k => by
    refine st34 _ ?_
    show SP p e below T34 (mkF m 27 #[vR o0, vI i1] []) _
    refine XS.iinc X34.here hx rfl (hb hby d7_27) rfl (l' := #[vR o0, vI i2]) rfl ?_
    refine XS.goto X34.here hx rfl (pc0 := 30) (pc' := 2) rfl (hb hby d7_30) (by decide) (by decide) ?_
    refine XS.iloadN X34.here hx rfl (hb hby d7_2) rfl ?_
    refine XS.aloadN X34.here hx rfl (hb hby d7_3) rfl rfl ?_
    exact k)
  obtain ⟨T42, X42, e42, st42⟩ := getF X34 hx hZ hown (host := "") (Or.inl (wD hw 35 rfl)) Via.refl e34 f36 (g := (mkF m 4 #[vR o0, vI i2] [sR o0, sI i2])) rfl rfl (hb hby d7_4)
  have go44 := go41.st T42 (mkF m 35 #[vR o0, vI i2] [sR o0, sR o0]) (fun t k => by
    refine st42 _ ?_
    show SP p e below T42 (mkF m 7 #[vR o0, vI i2] [sI i2, sI i2]) _
    refine XS.icmpYes X42.here hx rfl (pc0 := 7) (pc' := 33) rfl (hb hby d7_7) rfl (flt ((by decide) : ¬ ((2 : Int32) < (2 : Int32)))).2.1 (by decide) (by decide) ?_
    refine XS.aloadN X42.here hx rfl (hb hby d7_33) rfl rfl ?_
    refine XS.aloadN X42.here hx rfl (hb hby d7_34) rfl rfl ?_
    exact k)
  obtain ⟨T45, X45, e45, st45⟩ := getF X42 hx hZ hown (host := "") (Or.inl (wD hw 37 rfl)) Via.refl e42 f37 (g := (mkF m 35 #[vR o0, vI i2] [sR o0, sR o0])) rfl rfl (hb hby d7_35)
  have go46 := go44.st T45 (mkF m 39 #[vR o0, vI i2] [sR o0, sR sa, sR o0]) (fun t k => by
    refine st45 _ ?_
    show SP p e below T45 (mkF m 38 #[vR o0, vI i2] [sR sa, sR o0]) _
    refine XS.aloadN X45.here hx rfl (hb hby d7_38) rfl rfl ?_
    exact k)
  obtain ⟨T47, X47, e47, st47⟩ := getF X45 hx hZ hown (host := "") (Or.inl (wD hw 35 rfl)) Via.refl e45 f36 (g := (mkF m 39 #[vR o0, vI i2] [sR o0, sR sa, sR o0])) rfl rfl (hb hby d7_39)
  have go48 := go46.st T47 (mkF m 42 #[vR o0, vI i2] [sI i2, sR sa, sR o0]) (fun t k => by
    refine st47 _ ?_
    exact k)
  obtain ⟨_, _, ⟨T49, L49, k49, n49⟩, -, X49, ⟨Lc49, hQ49, l49, y49, z49⟩, st49⟩ := Jvm.LawKit.callS X47 hx (y := yN5) hown (mvT hZ (wD hw 54 rfl)) (mvT hZ (wD hw 55 rfl)) (mvT hZ (wD hw 56 rfl)) (mvT hZ (wD hw 57 rfl)) (by decide) (backOf (W := 1) (rm_cpI l Z a0 hw [] sa ka (0 : Int32) (0 : Int32) (2 : Int32) h34 n0 Z34 V34) hZ (wD hw 57 rfl) (wD hw 56 rfl) (by decide) (by decide)) (g := (mkF m 42 #[vR o0, vI i2] [sI i2, sR sa, sR o0])) rfl (by rw [hml]; rfl) (argsL := [(.ref sa), (.int (2 : Int32))]) (rest := [(.ref o0)]) (lenOf pd_rm_start0_0 rfl) rfl (by show 2 * 0 + _ ≤ _; exact Nat.le_of_eq rfl) (hb hby d7_42) (fun _ _ => ⟨rfl, e47, (by decide : 0 + 1 ≤ _), (by decide : 0 + 2 ≤ _)⟩)
  dsimp only [Pt.U, Pt.locs, Pt.cells, Pt.slots] at X49 l49 y49 z49 st49 hQ49
  rw [l49, y49, z49] at X49
  obtain ⟨b_49, kb_49, rfl, N49q, K49, qp49_0, qp49_1, qp49_2⟩ := hQ49
  have N49 := Fr.app N34 N49q
  have f50 := f35.keep K49
  have f51 := f36.keep K49 nin0
  have f52 := f37.keep K49 nin0
  have f53 := f38.keep K49 nin0
  have f54 := f39.keep K49 nin0
  have f55 := V34.keep K49 nin0
  have Z49 : n0 ≤ T49.heap.size := Nat.le_trans Z34 K49.1
  have KK49 := K34.trans K49 all0
  have g_b_49 := qp49_0
  have sz_b_49 := Nat.le_trans K34.1 qp49_1
  have ne_o0_b_49 : o0 ≠ b_49 := Nat.ne_of_lt (Nat.lt_of_lt_of_le f35.lt qp49_1)
  have ne_sa_b_49 : sa ≠ b_49 := Nat.ne_of_lt (Nat.lt_of_lt_of_le V34.lt qp49_1)
  have go56 := go48.st T49 (mkF m 45 #[vR o0, vI i2] [sR b_49, sR o0]) (fun t k => by
    refine st49 _ ?_
    exact k)
  obtain ⟨T57, h57, X57, e57, W57, st57⟩ := putF X49 hx hZ hown (host := "") (Or.inl (wD hw 66 rfl)) Via.refl rfl f53 f50 (Or.inl (wD hw 67 rfl)) (wD hw 29 rfl) (ty := (.array .int)) (by decide) rfl rfl (g := (mkF m 45 #[vR o0, vI i2] [sR b_49, sR o0])) rfl rfl (hb hby d7_45)
  have f58 := f50.wr W57
  have f59 := Fld.other W57 f51 (Or.inr (slot_ne (Or.inr (wD hw 36 rfl)) (Or.inl (wD hw 67 rfl)) (by decide) (t := .int) (t' := (.array .int)) (by decide) (by decide)))
  have f60 := Fld.other W57 f52 (Or.inr (slot_ne (Or.inr (wD hw 38 rfl)) (Or.inl (wD hw 67 rfl)) (by decide) (t := (.array .int)) (t' := (.array .int)) (by decide) (by decide)))
  have f61 := Fld.same W57 f53
  have f62 := Fld.other W57 f54 (Or.inr (slot_ne (Or.inl (wD hw 70 rfl)) (Or.inl (wD hw 67 rfl)) (by decide) (t := (.array .long)) (t' := (.array .int)) (by decide) (by decide)))
  have f63 := Arv.other f55 W57 (Ne.symm ne_o0_sa)
  have f64 := Arv.other qp49_2 W57 (Ne.symm ne_o0_b_49)
  have Z57 : n0 ≤ h57.size := Nat.le_trans Z49 (Nat.le_of_eq W57.size.symm)
  have K57 := KK49.wr W57 (Or.inl (List.mem_of_getElem? (i := 1) rfl))
  have N57 := Fr.snoc X57 N49 g_o0
  have go65 := go56.st T57 (mkF m 50 #[vR o0, vI i2] [sR o0, sR o0]) (fun t k => by
    refine st57 _ ?_
    show SP p e below T57 (mkF m 48 #[vR o0, vI i2] []) _
    refine XS.aloadN X57.here hx rfl (hb hby d7_48) rfl rfl ?_
    refine XS.aloadN X57.here hx rfl (hb hby d7_49) rfl rfl ?_
    exact k)
  obtain ⟨T66, X66, e66, st66⟩ := getF X57 hx hZ hown (host := "") (Or.inl (wD hw 37 rfl)) Via.refl e57 f60 (g := (mkF m 50 #[vR o0, vI i2] [sR o0, sR o0])) rfl rfl (hb hby d7_50)
  have go67 := go65.st T66 (mkF m 54 #[vR o0, vI i2] [sR o0, sR sa, sR o0]) (fun t k => by
    refine st66 _ ?_
    show SP p e below T66 (mkF m 53 #[vR o0, vI i2] [sR sa, sR o0]) _
    refine XS.aloadN X66.here hx rfl (hb hby d7_53) rfl rfl ?_
    exact k)
  obtain ⟨T68, X68, e68, st68⟩ := getF X66 hx hZ hown (host := "") (Or.inl (wD hw 35 rfl)) Via.refl e66 f59 (g := (mkF m 54 #[vR o0, vI i2] [sR o0, sR sa, sR o0])) rfl rfl (hb hby d7_54)
  have go69 := go67.st T68 (mkF m 57 #[vR o0, vI i2] [sI i2, sR sa, sR o0]) (fun t k => by
    refine st68 _ ?_
    exact k)
  have Vo70 := f63
  obtain ⟨cl70, Ar70, qa70, Sa70, Na70, Ha70, Ga70⟩ := Vo70
  have hin70 := inb_of (j := (2 : Int32)) Sa70 ⟨by decide, by decide⟩
  have hat70 : cl70.slots[((2 : Int32)).toNatClampNeg]? = some (.int (2 : Int32)) := Has.at Ha70 hin70 rfl
  have go71 := go69.st T68 (mkF m 58 #[vR o0, vI i2] [sI i2, sR o0]) (fun t k => by
    refine X68.iaload hx (j := (2 : Int32)) (v := (.int (2 : Int32))) (by rw [e68]; exact Ar70.1) (State.isArrayOf_alike hZ.alike Ar70.2.1) Ar70.2.2 hin70 hat70 (g := (mkF m 57 #[vR o0, vI i2] [sI i2, sR sa, sR o0])) rfl rfl (hb hby d7_57) _ ?_
    exact k)
  obtain ⟨T72, h72, k72, X72, e72, E72, A72, st72⟩ := newP X68 hx hZ (wD hw 68 rfl) e68 (g := (mkF m 58 #[vR o0, vI i2] [sI i2, sR o0])) rfl (hb hby d7_58) rfl (by decide) (cap := 2) (by decide) (by decide) (by decide) (by decide)
  obtain ⟨b72, g72⟩ : ∃ z, z = h57.size := ⟨_, rfl⟩
  rw [← g72] at A72 st72
  have ne_o0_b72 : o0 ≠ b72 := Nat.ne_of_lt (Nat.lt_of_lt_of_le f58.lt (Nat.le_of_eq g72.symm))
  have ne_sa_b72 : sa ≠ b72 := Nat.ne_of_lt (Nat.lt_of_lt_of_le f63.lt (Nat.le_of_eq g72.symm))
  have ne_b_49_b72 : b_49 ≠ b72 := Nat.ne_of_lt (Nat.lt_of_lt_of_le f64.lt (Nat.le_of_eq g72.symm))
  have g_b72 : n0 ≤ b72 := Nat.le_trans Z57 (Nat.le_of_eq g72.symm)
  have sz_b72 : h0.size ≤ b72 := Nat.le_trans K57.1 (Nat.le_of_eq g72.symm)
  have f73 := f58.ext E72
  have f74 := f59.ext E72
  have f75 := f60.ext E72
  have f76 := f61.ext E72
  have f77 := f62.ext E72
  have f78 := f63.ext E72
  have f79 := f64.ext E72
  have V72 : Arv Z h72 b72 k72 .long (2 : Int32) [(.long (0 : Int64)), (.long (0 : Int64))] (.long (0 : Int64)) := (Arv.new A72 (by decide)).pad (pad_rep [] (.long (0 : Int64)) 2)
  have Z72 : n0 ≤ h72.size := Nat.le_trans Z57 E72.1
  have K72 := K57.ext E72
  have go80 := go71.st T72 (mkF m 60 #[vR o0, vI i2] [sR b72, sR o0]) (fun t k => by
    refine st72 _ ?_
    exact k)
  obtain ⟨T81, h81, X81, e81, W81, st81⟩ := putF X72 hx hZ hown (host := "") (Or.inl (wD hw 69 rfl)) Via.refl e72 f77 f73 (Or.inl (wD hw 70 rfl)) (wD hw 29 rfl) (ty := (.array .long)) (by decide) rfl rfl (g := (mkF m 60 #[vR o0, vI i2] [sR b72, sR o0])) rfl rfl (hb hby d7_60)
  have f82 := f73.wr W81
  have f83 := Fld.other W81 f74 (Or.inr (slot_ne (Or.inr (wD hw 36 rfl)) (Or.inl (wD hw 70 rfl)) (by decide) (t := .int) (t' := (.array .long)) (by decide) (by decide)))
  have f84 := Fld.other W81 f75 (Or.inr (slot_ne (Or.inr (wD hw 38 rfl)) (Or.inl (wD hw 70 rfl)) (by decide) (t := (.array .int)) (t' := (.array .long)) (by decide) (by decide)))
  have f85 := Fld.other W81 f76 (Or.inr (slot_ne (Or.inl (wD hw 67 rfl)) (Or.inl (wD hw 70 rfl)) (by decide) (t := (.array .int)) (t' := (.array .long)) (by decide) (by decide)))
  have f86 := Fld.same W81 f77
  have f87 := Arv.other f78 W81 (Ne.symm ne_o0_sa)
  have f88 := Arv.other f79 W81 (Ne.symm ne_o0_b_49)
  have f89 := Arv.other V72 W81 (Ne.symm ne_o0_b72)
  have Z81 : n0 ≤ h81.size := Nat.le_trans Z72 (Nat.le_of_eq W81.size.symm)
  have K81 := K72.wr W81 (Or.inl (List.mem_of_getElem? (i := 1) rfl))
  have N81 := Fr.snoc X81 N57 g_o0
  have go90 := go80.st T81 (mkF m 63 #[vR o0, vI i2] []) (fun t k => by
    refine st81 _ ?_
    exact k)
  obtain ⟨fs, hr, hrun, hended, hW, hsame⟩ := X81.leave (v := none) (fun _ => rfl)
  refine ⟨_, _, go90 _ ?_, hrun, hended, _, _, rfl, ?_, ⟨_, rfl⟩, hW, hsame.mono (by decide) (by decide)⟩
  · exact X81.returnOut hx Bd.returns (hb hby d7_63) hr
  · show Q_rm_start0 Z o0 sa ka h0 n0 _ T81.heap _
    rw [e81]
    exact ⟨b_49, b72, kb_49, k72, rfl, N81, K81, g_b_49, sz_b_49, g_b72, sz_b72, f83, f84, f85, f86, f87, f88, f89, ne_b_49_b72⟩
def own_pack (p2 p3 p4 : Int32) : Int64 := ((((p2.toInt64) <<< ((32 : Int32) &&& 0x3f).toInt64) ||| ((p3.toInt64) <<< ((1 : Int32) &&& 0x3f).toInt64)) ||| ((if p4 = (0 : Int32) then (0 : Int32) else (1 : Int32)).toInt64))
theorem d10_0 : decode prog_10_method_4_code 0 = .ok (.aload_n 0, 1) := by decide +kernel
theorem d10_1 : decode prog_10_method_4_code 1 = .ok (.getfield 32, 3) := by decide +kernel
theorem d10_4 : decode prog_10_method_4_code 4 = .ok (.aload_n 0, 1) := by decide +kernel
theorem d10_5 : decode prog_10_method_4_code 5 = .ok (.getfield 29, 3) := by decide +kernel
theorem d10_8 : decode prog_10_method_4_code 8 = .ok (.iload_n 1, 1) := by decide +kernel
theorem d10_9 : decode prog_10_method_4_code 9 = .ok (.dup2, 1) := by decide +kernel
theorem d10_10 : decode prog_10_method_4_code 10 = .ok (.iaload, 1) := by decide +kernel
theorem d10_11 : decode prog_10_method_4_code 11 = .ok (.dup_x2, 1) := by decide +kernel
theorem d10_12 : decode prog_10_method_4_code 12 = .ok (.iconst 1, 1) := by decide +kernel
theorem d10_13 : decode prog_10_method_4_code 13 = .ok (.iadd, 1) := by decide +kernel
theorem d10_14 : decode prog_10_method_4_code 14 = .ok (.iastore, 1) := by decide +kernel
theorem d10_15 : decode prog_10_method_4_code 15 = .ok (.iload_n 2, 1) := by decide +kernel
theorem d10_16 : decode prog_10_method_4_code 16 = .ok (.i2l, 1) := by decide +kernel
theorem d10_17 : decode prog_10_method_4_code 17 = .ok (.bipush 32, 2) := by decide +kernel
theorem d10_19 : decode prog_10_method_4_code 19 = .ok (.lshl, 1) := by decide +kernel
theorem d10_20 : decode prog_10_method_4_code 20 = .ok (.iload_n 3, 1) := by decide +kernel
theorem d10_21 : decode prog_10_method_4_code 21 = .ok (.i2l, 1) := by decide +kernel
theorem d10_22 : decode prog_10_method_4_code 22 = .ok (.iconst 1, 1) := by decide +kernel
theorem d10_23 : decode prog_10_method_4_code 23 = .ok (.lshl, 1) := by decide +kernel
theorem d10_24 : decode prog_10_method_4_code 24 = .ok (.lor, 1) := by decide +kernel
theorem d10_25 : decode prog_10_method_4_code 25 = .ok (.iload 4, 2) := by decide +kernel
theorem d10_27 : decode prog_10_method_4_code 27 = .ok (.ifCond .eq 7, 3) := by decide +kernel
theorem d10_30 : decode prog_10_method_4_code 30 = .ok (.iconst 1, 1) := by decide +kernel
theorem d10_31 : decode prog_10_method_4_code 31 = .ok (.goto 4, 3) := by decide +kernel
theorem d10_34 : decode prog_10_method_4_code 34 = .ok (.iconst 0, 1) := by decide +kernel
theorem d10_35 : decode prog_10_method_4_code 35 = .ok (.i2l, 1) := by decide +kernel
theorem d10_36 : decode prog_10_method_4_code 36 = .ok (.lor, 1) := by decide +kernel
theorem d10_37 : decode prog_10_method_4_code 37 = .ok (.lastore, 1) := by decide +kernel
theorem d10_38 : decode prog_10_method_4_code 38 = .ok (.return_, 1) := by decide +kernel
theorem pn_rm_put0_02 : plainName "com/example/graphkind/graphkind/Statements$Builder" = true := by first | (simp [plainName, overriddenIn]; done) | decide +kernel
theorem ef_rm_put0_02 (m : MethodId) (o0 : Addr) (p2 : Int32) (p3 : Int32) (p4 : Int32) : entryFrame m #[(.ref o0), (.int (0 : Int32)), (.int p2), (.int p3), (.int p4)] 5 = mkF m 0 #[.val (.ref o0), .val (.int (0 : Int32)), .val (.int p2), .val (.int p3), .val (.int p4)] [] := by first | (simp [entryFrame, mkF, argsToLocals, Value.category]; done) | rfl
def Q_rm_put0_02 (Z : State) (o0 : Addr) (p2 : Int32) (p3 : Int32) (p4 : Int32) (nx : Addr) (va : Addr) (kx : ClassId) (kv : ClassId) (v0 : Int64) (v1 : Int64) (h0 : Heap) (n0 : Nat) (v : Option Value) (h : Heap) (L : List Loc) : Prop := v = none ∧ Fr n0 L ∧ Keep h0 h [nx, va] ∧ Arv Z h nx kx .int (2 : Int32) [(.int (1 : Int32)), (.int (2 : Int32))] (.int (0 : Int32)) ∧ Arv Z h va kv .long (2 : Int32) [(.long (own_pack p2 p3 p4)), (.long v1)] (.long (0 : Int64))
set_option maxRecDepth 65536 in
set_option maxHeartbeats 40000000 in
theorem rm_put0_02 (l : Launch) (Z : State) (a0 : Array Value) (hw : ∀ d ∈ tables_1, d.before a0 Z = true) (ws : List Jvm.Cond) (o0 : Addr) (p2 : Int32) (p3 : Int32) (p4 : Int32) (nx : Addr) (va : Addr) (kx : ClassId) (kv : ClassId) (v0 : Int64) (v1 : Int64) (h0 : Heap) (n0 : Nat) (Z0 : n0 ≤ h0.size) (F_next_o0 : Fld Z h0 o0 "com/example/graphkind/graphkind/Statements$Builder" "next" "[I" (.ref nx)) (F_values_o0 : Fld Z h0 o0 "com/example/graphkind/graphkind/Statements$Builder" "values" "[J" (.ref va)) (V_nx : Arv Z h0 nx kx .int (2 : Int32) [(.int (0 : Int32)), (.int (2 : Int32))] (.int (0 : Int32))) (V_va : Arv Z h0 va kv .long (2 : Int32) [(.long v0), (.long v1)] (.long (0 : Int64))) (g_nx : n0 ≤ nx) (g_va : n0 ≤ va) (ne_o0_nx : o0 ≠ nx) (ne_o0_va : o0 ≠ va) (ne_nx_va : nx ≠ va) :
    MetFree l yN9 (head1 (Jvm.Cond.code yN9 prog_10_method_4_code 5 none :: ws) ({ frames := 0, cells := 0, slots := 0, locals := 0 } : Room)) (fun a U => a = #[(.ref o0), (.int (0 : Int32)), (.int p2), (.int p3), (.int p4)] ∧ Z.Warmed39 U.vm ∧ U.heap = h0) (fun _ _ _ _ _ => True) (fun _ U o U' => ∃ v L, o = .returned v ∧ Q_rm_put0_02 Z o0 p2 p3 p4 nx va kx kv v0 v1 h0 n0 v U'.heap L ∧ FrameEnd U o U' L ({ frames := 0, cells := 0, slots := 0, locals := 0 } : Room).cells ({ frames := 0, cells := 0, slots := 0, locals := 0 } : Room).slots) := by
  refine MetFree.of_bodySF (plainFor_of_name pn_rm_put0_02) hisR ?_
  intro p e s m args below meth c s₁ Bd hml0 hP hK
  obtain ⟨rfl, hZ, hh⟩ := hP
  have hx := Bd.exec
  have hby := Bd.bytes
  have hml : c.maxLocals = 5 := hml0
  have hown : s.vm.findClass "com/example/graphkind/graphkind/Statements$Builder" = some m.cls := findClass_of_methodNamed Bd.named
  have hnm := (name_of_methodNamed Bd.named Bd.method).1
  have X0 : Stand p l e ({ frames := 0, cells := 0, slots := 0, locals := 0 } : Room) s m #[(.ref o0), (.int (0 : Int32)), (.int p2), (.int p3), (.int p4)] below meth c s₁ [] 0 0 := Stand.of_body Bd
  have e0 : s₁.heap = h0 := by rw [← hh, Bd.state]; rfl
  have N0 := Fr.nil n0
  have K0 := Keep.refl h0 [nx, va]
  have go0 : Go p e below (s₁.setTop (entryFrame m #[(.ref o0), (.int (0 : Int32)), (.int p2), (.int p3), (.int p4)] 5)) (s₁.setTop (mkF m 0 #[vR o0, vI i0, vI p2, vI p3, vI p4] [])) := fun t k => castTop (ef_rm_put0_02 m o0 p2 p3 p4) k
  have go1 := go0.st s₁ (mkF m 1 #[vR o0, vI i0, vI p2, vI p3, vI p4] [sR o0]) (fun t k => by
    refine XS.aloadN X0.here hx rfl (hb hby d10_0) rfl rfl ?_
    exact k)
  obtain ⟨T2, X2, e2, st2⟩ := getF X0 hx hZ hown (host := "") (Or.inl (wD hw 69 rfl)) Via.refl e0 F_values_o0 (g := (mkF m 1 #[vR o0, vI i0, vI p2, vI p3, vI p4] [sR o0])) rfl rfl (hb hby d10_1)
  have go3 := go1.st T2 (mkF m 5 #[vR o0, vI i0, vI p2, vI p3, vI p4] [sR o0, sR va]) (fun t k => by
    refine st2 _ ?_
    show SP p e below T2 (mkF m 4 #[vR o0, vI i0, vI p2, vI p3, vI p4] [sR va]) _
    refine XS.aloadN X2.here hx rfl (hb hby d10_4) rfl rfl ?_
    exact k)
  obtain ⟨T4, X4, e4, st4⟩ := getF X2 hx hZ hown (host := "") (Or.inl (wD hw 66 rfl)) Via.refl e2 F_next_o0 (g := (mkF m 5 #[vR o0, vI i0, vI p2, vI p3, vI p4] [sR o0, sR va])) rfl rfl (hb hby d10_5)
  have go5 := go3.st T4 (mkF m 10 #[vR o0, vI i0, vI p2, vI p3, vI p4] [sI i0, sR nx, sI i0, sR nx, sR va]) (fun t k => by
    refine st4 _ ?_
    show SP p e below T4 (mkF m 8 #[vR o0, vI i0, vI p2, vI p3, vI p4] [sR nx, sR va]) _
    refine XS.iloadN X4.here hx rfl (hb hby d10_8) rfl ?_
    show SP p e below T4 (mkF m 9 #[vR o0, vI i0, vI p2, vI p3, vI p4] [sI i0, sR nx, sR va]) _
    jvm_step X4.here [X4.here.top, hx, (hb hby d10_9), Value.category]
    exact k)
  have Vo6 := V_nx
  obtain ⟨cl6, Ar6, qa6, Sa6, Na6, Ha6, Ga6⟩ := Vo6
  have hin6 := inb_of (j := (0 : Int32)) Sa6 ⟨by decide, by decide⟩
  have hat6 : cl6.slots[((0 : Int32)).toNatClampNeg]? = some (.int (0 : Int32)) := Has.at Ha6 hin6 rfl
  have go7 := go5.st T4 (mkF m 14 #[vR o0, vI i0, vI p2, vI p3, vI p4] [sI i1, sI i0, sR nx, sI i0, sR va]) (fun t k => by
    refine X4.iaload hx (j := (0 : Int32)) (v := (.int (0 : Int32))) (by rw [e4]; exact Ar6.1) (State.isArrayOf_alike hZ.alike Ar6.2.1) Ar6.2.2 hin6 hat6 (g := (mkF m 10 #[vR o0, vI i0, vI p2, vI p3, vI p4] [sI i0, sR nx, sI i0, sR nx, sR va])) rfl rfl (hb hby d10_10) _ ?_
    show SP p e below T4 (mkF m 11 #[vR o0, vI i0, vI p2, vI p3, vI p4] [sI i0, sI i0, sR nx, sR va]) _
    jvm_step X4.here [X4.here.top, hx, (hb hby d10_11), Value.category]
    show SP p e below T4 (mkF m 12 #[vR o0, vI i0, vI p2, vI p3, vI p4] [sI i0, sI i0, sR nx, sI i0, sR va]) _
    refine XS.iconst X4.here hx rfl (hb hby d10_12) ?_
    refine XS.iadd X4.here hx rfl (hb hby d10_13) rfl ?_
    exact k)
  have Vo8 := V_nx
  obtain ⟨cl8, Ar8, qa8, Sa8, Na8, Ha8, Ga8⟩ := Vo8
  have hin8 := inb_of (j := (0 : Int32)) Sa8 ⟨by decide, by decide⟩
  obtain ⟨T9, h9, X9, e9, W9, st9⟩ := stI X4 hx hZ e4 Ar8 (j := (0 : Int32)) hin8 (g := (mkF m 14 #[vR o0, vI i0, vI p2, vI p3, vI p4] [sI i1, sI i0, sR nx, sI i0, sR va])) rfl rfl (hb hby d10_14)
  have V9 : Arv Z h9 nx kx .int (2 : Int32) [(.int (1 : Int32)), (.int (2 : Int32))] (.int (0 : Int32)) := Arv.set Ar8 qa8 Sa8 Na8 Ha8 Ga8 rfl W9 0 rfl (Nat.le_of_ble_eq_true rfl)
  have f10 := Fld.other W9 F_next_o0 (Or.inl ne_o0_nx)
  have f11 := Fld.other W9 F_values_o0 (Or.inl ne_o0_nx)
  have f13 := Arv.other V_va W9 (Ne.symm ne_nx_va)
  have Z9 : n0 ≤ h9.size := Nat.le_trans Z0 (Nat.le_of_eq W9.size.symm)
  have K9 := K0.wr W9 (Or.inl (List.mem_of_getElem? (i := 0) rfl))
  have N9 := Fr.snoc X9 N0 g_nx
  have go14 := go7.st T9 (mkF m 25 #[vR o0, vI i0, vI p2, vI p3, vI p4] [(sJ (((p2.toInt64) <<< ((32 : Int32) &&& 0x3f).toInt64) ||| ((p3.toInt64) <<< (i1 &&& 0x3f).toInt64))), sI i0, sR va]) (fun t k => by
    refine st9 _ ?_
    show SP p e below T9 (mkF m 15 #[vR o0, vI i0, vI p2, vI p3, vI p4] [sI i0, sR va]) _
    refine XS.iloadN X9.here hx rfl (hb hby d10_15) rfl ?_
    refine XS.i2l X9.here hx rfl (hb hby d10_16) rfl ?_
    refine XS.bipush X9.here hx rfl (hb hby d10_17) ?_
    refine XS.lshl X9.here hx rfl (hb hby d10_19) rfl ?_
    refine XS.iloadN X9.here hx rfl (hb hby d10_20) rfl ?_
    refine XS.i2l X9.here hx rfl (hb hby d10_21) rfl ?_
    refine XS.iconst X9.here hx rfl (hb hby d10_22) ?_
    refine XS.lshl X9.here hx rfl (hb hby d10_23) rfl ?_
    refine XS.lor X9.here hx rfl (hb hby d10_24) rfl ?_
    exact k)
  have go16 := go14.st T9 (mkF m 35 #[vR o0, vI i0, vI p2, vI p3, vI p4] [(sI (if p4 = i0 then i0 else i1)), (sJ (((p2.toInt64) <<< ((32 : Int32) &&& 0x3f).toInt64) ||| ((p3.toInt64) <<< (i1 &&& 0x3f).toInt64))), sI i0, sR va]) (fun t k => by
    by_cases hc15 : p4 = (0 : Int32)
    · skip
      try simp only [if_pos hc15] at k
      refine XS.iload X9.here hx rfl (hb hby d10_25) rfl ?_
      refine XS.ifYes X9.here hx rfl (pc0 := 27) (pc' := 34) rfl (hb hby d10_27) rfl ((if0 _ _).trans (teq hc15).1) (by decide) (by decide) ?_
      refine XS.iconst X9.here hx rfl (hb hby d10_34) ?_
      exact k
    · skip
      try simp only [if_neg hc15] at k
      refine XS.iload X9.here hx rfl (hb hby d10_25) rfl ?_
      refine XS.ifNo X9.here hx rfl (hb hby d10_27) rfl ((if0 _ _).trans (feq hc15).1) ?_
      refine XS.iconst X9.here hx rfl (hb hby d10_30) ?_
      refine XS.goto X9.here hx rfl (pc0 := 31) (pc' := 35) rfl (hb hby d10_31) (by decide) (by decide) ?_
      exact k
    )
  have go17 := go16.st T9 (mkF m 37 #[vR o0, vI i0, vI p2, vI p3, vI p4] [(sJ ((((p2.toInt64) <<< ((32 : Int32) &&& 0x3f).toInt64) ||| ((p3.toInt64) <<< (i1 &&& 0x3f).toInt64)) ||| ((if p4 = i0 then i0 else i1).toInt64))), sI i0, sR va]) (fun t k => by
    refine XS.i2l X9.here hx rfl (hb hby d10_35) rfl ?_
    refine XS.lor X9.here hx rfl (hb hby d10_36) rfl ?_
    exact k)
  have Vo18 := f13
  obtain ⟨cl18, Ar18, qa18, Sa18, Na18, Ha18, Ga18⟩ := Vo18
  have hin18 := inb_of (j := (0 : Int32)) Sa18 ⟨by decide, by decide⟩
  obtain ⟨T19, h19, X19, e19, W19, st19⟩ := stJ X9 hx hZ e9 Ar18 (j := (0 : Int32)) hin18 (g := (mkF m 37 #[vR o0, vI i0, vI p2, vI p3, vI p4] [(sJ ((((p2.toInt64) <<< ((32 : Int32) &&& 0x3f).toInt64) ||| ((p3.toInt64) <<< (i1 &&& 0x3f).toInt64)) ||| ((if p4 = i0 then i0 else i1).toInt64))), sI i0, sR va])) rfl rfl (hb hby d10_37)
  have V19 : Arv Z h19 va kv .long (2 : Int32) [(.long ((((p2.toInt64) <<< ((32 : Int32) &&& 0x3f).toInt64) ||| ((p3.toInt64) <<< ((1 : Int32) &&& 0x3f).toInt64)) ||| ((if p4 = (0 : Int32) then (0 : Int32) else (1 : Int32)).toInt64))), (.long v1)] (.long (0 : Int64)) := Arv.set Ar18 qa18 Sa18 Na18 Ha18 Ga18 rfl W19 0 rfl (Nat.le_of_ble_eq_true rfl)
  have f20 := Fld.other W19 f10 (Or.inl ne_o0_va)
  have f21 := Fld.other W19 f11 (Or.inl ne_o0_va)
  have f23 := Arv.other V9 W19 ne_nx_va
  have Z19 : n0 ≤ h19.size := Nat.le_trans Z9 (Nat.le_of_eq W19.size.symm)
  have K19 := K9.wr W19 (Or.inl (List.mem_of_getElem? (i := 1) rfl))
  have N19 := Fr.snoc X19 N9 g_va
  have go24 := go17.st T19 (mkF m 38 #[vR o0, vI i0, vI p2, vI p3, vI p4] []) (fun t k => by
    refine st19 _ ?_
    exact k)
  obtain ⟨fs, hr, hrun, hended, hW, hsame⟩ := X19.leave (v := none) (fun _ => rfl)
  refine ⟨_, _, go24 _ ?_, hrun, hended, _, _, rfl, ?_, ⟨_, rfl⟩, hW, hsame.mono (by decide) (by decide)⟩
  · exact X19.returnOut hx Bd.returns (hb hby d10_38) hr
  · show Q_rm_put0_02 Z o0 p2 p3 p4 nx va kx kv v0 v1 h0 n0 _ T19.heap _
    rw [e19]
    exact ⟨rfl, N19, K19, f23, V19⟩
theorem pn_rm_put0_12 : plainName "com/example/graphkind/graphkind/Statements$Builder" = true := by first | (simp [plainName, overriddenIn]; done) | decide +kernel
theorem ef_rm_put0_12 (m : MethodId) (o0 : Addr) (p2 : Int32) (p3 : Int32) (p4 : Int32) : entryFrame m #[(.ref o0), (.int (0 : Int32)), (.int p2), (.int p3), (.int p4)] 5 = mkF m 0 #[.val (.ref o0), .val (.int (0 : Int32)), .val (.int p2), .val (.int p3), .val (.int p4)] [] := by first | (simp [entryFrame, mkF, argsToLocals, Value.category]; done) | rfl
def Q_rm_put0_12 (Z : State) (o0 : Addr) (p2 : Int32) (p3 : Int32) (p4 : Int32) (nx : Addr) (va : Addr) (kx : ClassId) (kv : ClassId) (v0 : Int64) (v1 : Int64) (h0 : Heap) (n0 : Nat) (v : Option Value) (h : Heap) (L : List Loc) : Prop := v = none ∧ Fr n0 L ∧ Keep h0 h [nx, va] ∧ Arv Z h nx kx .int (2 : Int32) [(.int (2 : Int32)), (.int (2 : Int32))] (.int (0 : Int32)) ∧ Arv Z h va kv .long (2 : Int32) [(.long v0), (.long (own_pack p2 p3 p4))] (.long (0 : Int64))
set_option maxRecDepth 65536 in
set_option maxHeartbeats 40000000 in
theorem rm_put0_12 (l : Launch) (Z : State) (a0 : Array Value) (hw : ∀ d ∈ tables_1, d.before a0 Z = true) (ws : List Jvm.Cond) (o0 : Addr) (p2 : Int32) (p3 : Int32) (p4 : Int32) (nx : Addr) (va : Addr) (kx : ClassId) (kv : ClassId) (v0 : Int64) (v1 : Int64) (h0 : Heap) (n0 : Nat) (Z0 : n0 ≤ h0.size) (F_next_o0 : Fld Z h0 o0 "com/example/graphkind/graphkind/Statements$Builder" "next" "[I" (.ref nx)) (F_values_o0 : Fld Z h0 o0 "com/example/graphkind/graphkind/Statements$Builder" "values" "[J" (.ref va)) (V_nx : Arv Z h0 nx kx .int (2 : Int32) [(.int (1 : Int32)), (.int (2 : Int32))] (.int (0 : Int32))) (V_va : Arv Z h0 va kv .long (2 : Int32) [(.long v0), (.long v1)] (.long (0 : Int64))) (g_nx : n0 ≤ nx) (g_va : n0 ≤ va) (ne_o0_nx : o0 ≠ nx) (ne_o0_va : o0 ≠ va) (ne_nx_va : nx ≠ va) :
    MetFree l yN9 (head1 (Jvm.Cond.code yN9 prog_10_method_4_code 5 none :: ws) ({ frames := 0, cells := 0, slots := 0, locals := 0 } : Room)) (fun a U => a = #[(.ref o0), (.int (0 : Int32)), (.int p2), (.int p3), (.int p4)] ∧ Z.Warmed39 U.vm ∧ U.heap = h0) (fun _ _ _ _ _ => True) (fun _ U o U' => ∃ v L, o = .returned v ∧ Q_rm_put0_12 Z o0 p2 p3 p4 nx va kx kv v0 v1 h0 n0 v U'.heap L ∧ FrameEnd U o U' L ({ frames := 0, cells := 0, slots := 0, locals := 0 } : Room).cells ({ frames := 0, cells := 0, slots := 0, locals := 0 } : Room).slots) := by
  refine MetFree.of_bodySF (plainFor_of_name pn_rm_put0_12) hisR ?_
  intro p e s m args below meth c s₁ Bd hml0 hP hK
  obtain ⟨rfl, hZ, hh⟩ := hP
  have hx := Bd.exec
  have hby := Bd.bytes
  have hml : c.maxLocals = 5 := hml0
  have hown : s.vm.findClass "com/example/graphkind/graphkind/Statements$Builder" = some m.cls := findClass_of_methodNamed Bd.named
  have hnm := (name_of_methodNamed Bd.named Bd.method).1
  have X0 : Stand p l e ({ frames := 0, cells := 0, slots := 0, locals := 0 } : Room) s m #[(.ref o0), (.int (0 : Int32)), (.int p2), (.int p3), (.int p4)] below meth c s₁ [] 0 0 := Stand.of_body Bd
  have e0 : s₁.heap = h0 := by rw [← hh, Bd.state]; rfl
  have N0 := Fr.nil n0
  have K0 := Keep.refl h0 [nx, va]
  have go0 : Go p e below (s₁.setTop (entryFrame m #[(.ref o0), (.int (0 : Int32)), (.int p2), (.int p3), (.int p4)] 5)) (s₁.setTop (mkF m 0 #[vR o0, vI i0, vI p2, vI p3, vI p4] [])) := fun t k => castTop (ef_rm_put0_12 m o0 p2 p3 p4) k
  have go1 := go0.st s₁ (mkF m 1 #[vR o0, vI i0, vI p2, vI p3, vI p4] [sR o0]) (fun t k => by
    refine XS.aloadN X0.here hx rfl (hb hby d10_0) rfl rfl ?_
    exact k)
  obtain ⟨T2, X2, e2, st2⟩ := getF X0 hx hZ hown (host := "") (Or.inl (wD hw 69 rfl)) Via.refl e0 F_values_o0 (g := (mkF m 1 #[vR o0, vI i0, vI p2, vI p3, vI p4] [sR o0])) rfl rfl (hb hby d10_1)
  have go3 := go1.st T2 (mkF m 5 #[vR o0, vI i0, vI p2, vI p3, vI p4] [sR o0, sR va]) (fun t k => by
    refine st2 _ ?_
    show SP p e below T2 (mkF m 4 #[vR o0, vI i0, vI p2, vI p3, vI p4] [sR va]) _
    refine XS.aloadN X2.here hx rfl (hb hby d10_4) rfl rfl ?_
    exact k)
  obtain ⟨T4, X4, e4, st4⟩ := getF X2 hx hZ hown (host := "") (Or.inl (wD hw 66 rfl)) Via.refl e2 F_next_o0 (g := (mkF m 5 #[vR o0, vI i0, vI p2, vI p3, vI p4] [sR o0, sR va])) rfl rfl (hb hby d10_5)
  have go5 := go3.st T4 (mkF m 10 #[vR o0, vI i0, vI p2, vI p3, vI p4] [sI i0, sR nx, sI i0, sR nx, sR va]) (fun t k => by
    refine st4 _ ?_
    show SP p e below T4 (mkF m 8 #[vR o0, vI i0, vI p2, vI p3, vI p4] [sR nx, sR va]) _
    refine XS.iloadN X4.here hx rfl (hb hby d10_8) rfl ?_
    show SP p e below T4 (mkF m 9 #[vR o0, vI i0, vI p2, vI p3, vI p4] [sI i0, sR nx, sR va]) _
    jvm_step X4.here [X4.here.top, hx, (hb hby d10_9), Value.category]
    exact k)
  have Vo6 := V_nx
  obtain ⟨cl6, Ar6, qa6, Sa6, Na6, Ha6, Ga6⟩ := Vo6
  have hin6 := inb_of (j := (0 : Int32)) Sa6 ⟨by decide, by decide⟩
  have hat6 : cl6.slots[((0 : Int32)).toNatClampNeg]? = some (.int (1 : Int32)) := Has.at Ha6 hin6 rfl
  have go7 := go5.st T4 (mkF m 14 #[vR o0, vI i0, vI p2, vI p3, vI p4] [sI i2, sI i0, sR nx, sI i1, sR va]) (fun t k => by
    refine X4.iaload hx (j := (0 : Int32)) (v := (.int (1 : Int32))) (by rw [e4]; exact Ar6.1) (State.isArrayOf_alike hZ.alike Ar6.2.1) Ar6.2.2 hin6 hat6 (g := (mkF m 10 #[vR o0, vI i0, vI p2, vI p3, vI p4] [sI i0, sR nx, sI i0, sR nx, sR va])) rfl rfl (hb hby d10_10) _ ?_
    show SP p e below T4 (mkF m 11 #[vR o0, vI i0, vI p2, vI p3, vI p4] [sI i1, sI i0, sR nx, sR va]) _
    jvm_step X4.here [X4.here.top, hx, (hb hby d10_11), Value.category]
    show SP p e below T4 (mkF m 12 #[vR o0, vI i0, vI p2, vI p3, vI p4] [sI i1, sI i0, sR nx, sI i1, sR va]) _
    refine XS.iconst X4.here hx rfl (hb hby d10_12) ?_
    refine XS.iadd X4.here hx rfl (hb hby d10_13) rfl ?_
    exact k)
  have Vo8 := V_nx
  obtain ⟨cl8, Ar8, qa8, Sa8, Na8, Ha8, Ga8⟩ := Vo8
  have hin8 := inb_of (j := (0 : Int32)) Sa8 ⟨by decide, by decide⟩
  obtain ⟨T9, h9, X9, e9, W9, st9⟩ := stI X4 hx hZ e4 Ar8 (j := (0 : Int32)) hin8 (g := (mkF m 14 #[vR o0, vI i0, vI p2, vI p3, vI p4] [sI i2, sI i0, sR nx, sI i1, sR va])) rfl rfl (hb hby d10_14)
  have V9 : Arv Z h9 nx kx .int (2 : Int32) [(.int (2 : Int32)), (.int (2 : Int32))] (.int (0 : Int32)) := Arv.set Ar8 qa8 Sa8 Na8 Ha8 Ga8 rfl W9 0 rfl (Nat.le_of_ble_eq_true rfl)
  have f10 := Fld.other W9 F_next_o0 (Or.inl ne_o0_nx)
  have f11 := Fld.other W9 F_values_o0 (Or.inl ne_o0_nx)
  have f13 := Arv.other V_va W9 (Ne.symm ne_nx_va)
  have Z9 : n0 ≤ h9.size := Nat.le_trans Z0 (Nat.le_of_eq W9.size.symm)
  have K9 := K0.wr W9 (Or.inl (List.mem_of_getElem? (i := 0) rfl))
  have N9 := Fr.snoc X9 N0 g_nx
  have go14 := go7.st T9 (mkF m 25 #[vR o0, vI i0, vI p2, vI p3, vI p4] [(sJ (((p2.toInt64) <<< ((32 : Int32) &&& 0x3f).toInt64) ||| ((p3.toInt64) <<< (i1 &&& 0x3f).toInt64))), sI i1, sR va]) (fun t k => by
    refine st9 _ ?_
    show SP p e below T9 (mkF m 15 #[vR o0, vI i0, vI p2, vI p3, vI p4] [sI i1, sR va]) _
    refine XS.iloadN X9.here hx rfl (hb hby d10_15) rfl ?_
    refine XS.i2l X9.here hx rfl (hb hby d10_16) rfl ?_
    refine XS.bipush X9.here hx rfl (hb hby d10_17) ?_
    refine XS.lshl X9.here hx rfl (hb hby d10_19) rfl ?_
    refine XS.iloadN X9.here hx rfl (hb hby d10_20) rfl ?_
    refine XS.i2l X9.here hx rfl (hb hby d10_21) rfl ?_
    refine XS.iconst X9.here hx rfl (hb hby d10_22) ?_
    refine XS.lshl X9.here hx rfl (hb hby d10_23) rfl ?_
    refine XS.lor X9.here hx rfl (hb hby d10_24) rfl ?_
    exact k)
  have go16 := go14.st T9 (mkF m 35 #[vR o0, vI i0, vI p2, vI p3, vI p4] [(sI (if p4 = i0 then i0 else i1)), (sJ (((p2.toInt64) <<< ((32 : Int32) &&& 0x3f).toInt64) ||| ((p3.toInt64) <<< (i1 &&& 0x3f).toInt64))), sI i1, sR va]) (fun t k => by
    by_cases hc15 : p4 = (0 : Int32)
    · skip
      try simp only [if_pos hc15] at k
      refine XS.iload X9.here hx rfl (hb hby d10_25) rfl ?_
      refine XS.ifYes X9.here hx rfl (pc0 := 27) (pc' := 34) rfl (hb hby d10_27) rfl ((if0 _ _).trans (teq hc15).1) (by decide) (by decide) ?_
      refine XS.iconst X9.here hx rfl (hb hby d10_34) ?_
      exact k
    · skip
      try simp only [if_neg hc15] at k
      refine XS.iload X9.here hx rfl (hb hby d10_25) rfl ?_
      refine XS.ifNo X9.here hx rfl (hb hby d10_27) rfl ((if0 _ _).trans (feq hc15).1) ?_
      refine XS.iconst X9.here hx rfl (hb hby d10_30) ?_
      refine XS.goto X9.here hx rfl (pc0 := 31) (pc' := 35) rfl (hb hby d10_31) (by decide) (by decide) ?_
      exact k
    )
  have go17 := go16.st T9 (mkF m 37 #[vR o0, vI i0, vI p2, vI p3, vI p4] [(sJ ((((p2.toInt64) <<< ((32 : Int32) &&& 0x3f).toInt64) ||| ((p3.toInt64) <<< (i1 &&& 0x3f).toInt64)) ||| ((if p4 = i0 then i0 else i1).toInt64))), sI i1, sR va]) (fun t k => by
    refine XS.i2l X9.here hx rfl (hb hby d10_35) rfl ?_
    refine XS.lor X9.here hx rfl (hb hby d10_36) rfl ?_
    exact k)
  have Vo18 := f13
  obtain ⟨cl18, Ar18, qa18, Sa18, Na18, Ha18, Ga18⟩ := Vo18
  have hin18 := inb_of (j := (1 : Int32)) Sa18 ⟨by decide, by decide⟩
  obtain ⟨T19, h19, X19, e19, W19, st19⟩ := stJ X9 hx hZ e9 Ar18 (j := (1 : Int32)) hin18 (g := (mkF m 37 #[vR o0, vI i0, vI p2, vI p3, vI p4] [(sJ ((((p2.toInt64) <<< ((32 : Int32) &&& 0x3f).toInt64) ||| ((p3.toInt64) <<< (i1 &&& 0x3f).toInt64)) ||| ((if p4 = i0 then i0 else i1).toInt64))), sI i1, sR va])) rfl rfl (hb hby d10_37)
  have V19 : Arv Z h19 va kv .long (2 : Int32) [(.long v0), (.long ((((p2.toInt64) <<< ((32 : Int32) &&& 0x3f).toInt64) ||| ((p3.toInt64) <<< ((1 : Int32) &&& 0x3f).toInt64)) ||| ((if p4 = (0 : Int32) then (0 : Int32) else (1 : Int32)).toInt64)))] (.long (0 : Int64)) := Arv.set Ar18 qa18 Sa18 Na18 Ha18 Ga18 rfl W19 1 rfl (Nat.le_of_ble_eq_true rfl)
  have f20 := Fld.other W19 f10 (Or.inl ne_o0_va)
  have f21 := Fld.other W19 f11 (Or.inl ne_o0_va)
  have f23 := Arv.other V9 W19 ne_nx_va
  have Z19 : n0 ≤ h19.size := Nat.le_trans Z9 (Nat.le_of_eq W19.size.symm)
  have K19 := K9.wr W19 (Or.inl (List.mem_of_getElem? (i := 1) rfl))
  have N19 := Fr.snoc X19 N9 g_va
  have go24 := go17.st T19 (mkF m 38 #[vR o0, vI i0, vI p2, vI p3, vI p4] []) (fun t k => by
    refine st19 _ ?_
    exact k)
  obtain ⟨fs, hr, hrun, hended, hW, hsame⟩ := X19.leave (v := none) (fun _ => rfl)
  refine ⟨_, _, go24 _ ?_, hrun, hended, _, _, rfl, ?_, ⟨_, rfl⟩, hW, hsame.mono (by decide) (by decide)⟩
  · exact X19.returnOut hx Bd.returns (hb hby d10_38) hr
  · show Q_rm_put0_12 Z o0 p2 p3 p4 nx va kx kv v0 v1 h0 n0 _ T19.heap _
    rw [e19]
    exact ⟨rfl, N19, K19, f23, V19⟩
theorem pn_rm_put0_01 : plainName "com/example/graphkind/graphkind/Statements$Builder" = true := by first | (simp [plainName, overriddenIn]; done) | decide +kernel
theorem ef_rm_put0_01 (m : MethodId) (o0 : Addr) (p2 : Int32) (p3 : Int32) (p4 : Int32) : entryFrame m #[(.ref o0), (.int (0 : Int32)), (.int p2), (.int p3), (.int p4)] 5 = mkF m 0 #[.val (.ref o0), .val (.int (0 : Int32)), .val (.int p2), .val (.int p3), .val (.int p4)] [] := by first | (simp [entryFrame, mkF, argsToLocals, Value.category]; done) | rfl
def Q_rm_put0_01 (Z : State) (o0 : Addr) (p2 : Int32) (p3 : Int32) (p4 : Int32) (nx : Addr) (va : Addr) (kx : ClassId) (kv : ClassId) (v0 : Int64) (v1 : Int64) (h0 : Heap) (n0 : Nat) (v : Option Value) (h : Heap) (L : List Loc) : Prop := v = none ∧ Fr n0 L ∧ Keep h0 h [nx, va] ∧ Arv Z h nx kx .int (2 : Int32) [(.int (1 : Int32)), (.int (1 : Int32))] (.int (0 : Int32)) ∧ Arv Z h va kv .long (2 : Int32) [(.long (own_pack p2 p3 p4)), (.long v1)] (.long (0 : Int64))
set_option maxRecDepth 65536 in
set_option maxHeartbeats 40000000 in
theorem rm_put0_01 (l : Launch) (Z : State) (a0 : Array Value) (hw : ∀ d ∈ tables_1, d.before a0 Z = true) (ws : List Jvm.Cond) (o0 : Addr) (p2 : Int32) (p3 : Int32) (p4 : Int32) (nx : Addr) (va : Addr) (kx : ClassId) (kv : ClassId) (v0 : Int64) (v1 : Int64) (h0 : Heap) (n0 : Nat) (Z0 : n0 ≤ h0.size) (F_next_o0 : Fld Z h0 o0 "com/example/graphkind/graphkind/Statements$Builder" "next" "[I" (.ref nx)) (F_values_o0 : Fld Z h0 o0 "com/example/graphkind/graphkind/Statements$Builder" "values" "[J" (.ref va)) (V_nx : Arv Z h0 nx kx .int (2 : Int32) [(.int (0 : Int32)), (.int (1 : Int32))] (.int (0 : Int32))) (V_va : Arv Z h0 va kv .long (2 : Int32) [(.long v0), (.long v1)] (.long (0 : Int64))) (g_nx : n0 ≤ nx) (g_va : n0 ≤ va) (ne_o0_nx : o0 ≠ nx) (ne_o0_va : o0 ≠ va) (ne_nx_va : nx ≠ va) :
    MetFree l yN9 (head1 (Jvm.Cond.code yN9 prog_10_method_4_code 5 none :: ws) ({ frames := 0, cells := 0, slots := 0, locals := 0 } : Room)) (fun a U => a = #[(.ref o0), (.int (0 : Int32)), (.int p2), (.int p3), (.int p4)] ∧ Z.Warmed39 U.vm ∧ U.heap = h0) (fun _ _ _ _ _ => True) (fun _ U o U' => ∃ v L, o = .returned v ∧ Q_rm_put0_01 Z o0 p2 p3 p4 nx va kx kv v0 v1 h0 n0 v U'.heap L ∧ FrameEnd U o U' L ({ frames := 0, cells := 0, slots := 0, locals := 0 } : Room).cells ({ frames := 0, cells := 0, slots := 0, locals := 0 } : Room).slots) := by
  refine MetFree.of_bodySF (plainFor_of_name pn_rm_put0_01) hisR ?_
  intro p e s m args below meth c s₁ Bd hml0 hP hK
  obtain ⟨rfl, hZ, hh⟩ := hP
  have hx := Bd.exec
  have hby := Bd.bytes
  have hml : c.maxLocals = 5 := hml0
  have hown : s.vm.findClass "com/example/graphkind/graphkind/Statements$Builder" = some m.cls := findClass_of_methodNamed Bd.named
  have hnm := (name_of_methodNamed Bd.named Bd.method).1
  have X0 : Stand p l e ({ frames := 0, cells := 0, slots := 0, locals := 0 } : Room) s m #[(.ref o0), (.int (0 : Int32)), (.int p2), (.int p3), (.int p4)] below meth c s₁ [] 0 0 := Stand.of_body Bd
  have e0 : s₁.heap = h0 := by rw [← hh, Bd.state]; rfl
  have N0 := Fr.nil n0
  have K0 := Keep.refl h0 [nx, va]
  have go0 : Go p e below (s₁.setTop (entryFrame m #[(.ref o0), (.int (0 : Int32)), (.int p2), (.int p3), (.int p4)] 5)) (s₁.setTop (mkF m 0 #[vR o0, vI i0, vI p2, vI p3, vI p4] [])) := fun t k => castTop (ef_rm_put0_01 m o0 p2 p3 p4) k
  have go1 := go0.st s₁ (mkF m 1 #[vR o0, vI i0, vI p2, vI p3, vI p4] [sR o0]) (fun t k => by
    refine XS.aloadN X0.here hx rfl (hb hby d10_0) rfl rfl ?_
    exact k)
  obtain ⟨T2, X2, e2, st2⟩ := getF X0 hx hZ hown (host := "") (Or.inl (wD hw 69 rfl)) Via.refl e0 F_values_o0 (g := (mkF m 1 #[vR o0, vI i0, vI p2, vI p3, vI p4] [sR o0])) rfl rfl (hb hby d10_1)
  have go3 := go1.st T2 (mkF m 5 #[vR o0, vI i0, vI p2, vI p3, vI p4] [sR o0, sR va]) (fun t k => by
    refine st2 _ ?_
    show SP p e below T2 (mkF m 4 #[vR o0, vI i0, vI p2, vI p3, vI p4] [sR va]) _
    refine XS.aloadN X2.here hx rfl (hb hby d10_4) rfl rfl ?_
    exact k)
  obtain ⟨T4, X4, e4, st4⟩ := getF X2 hx hZ hown (host := "") (Or.inl (wD hw 66 rfl)) Via.refl e2 F_next_o0 (g := (mkF m 5 #[vR o0, vI i0, vI p2, vI p3, vI p4] [sR o0, sR va])) rfl rfl (hb hby d10_5)
  have go5 := go3.st T4 (mkF m 10 #[vR o0, vI i0, vI p2, vI p3, vI p4] [sI i0, sR nx, sI i0, sR nx, sR va]) (fun t k => by
    refine st4 _ ?_
    show SP p e below T4 (mkF m 8 #[vR o0, vI i0, vI p2, vI p3, vI p4] [sR nx, sR va]) _
    refine XS.iloadN X4.here hx rfl (hb hby d10_8) rfl ?_
    show SP p e below T4 (mkF m 9 #[vR o0, vI i0, vI p2, vI p3, vI p4] [sI i0, sR nx, sR va]) _
    jvm_step X4.here [X4.here.top, hx, (hb hby d10_9), Value.category]
    exact k)
  have Vo6 := V_nx
  obtain ⟨cl6, Ar6, qa6, Sa6, Na6, Ha6, Ga6⟩ := Vo6
  have hin6 := inb_of (j := (0 : Int32)) Sa6 ⟨by decide, by decide⟩
  have hat6 : cl6.slots[((0 : Int32)).toNatClampNeg]? = some (.int (0 : Int32)) := Has.at Ha6 hin6 rfl
  have go7 := go5.st T4 (mkF m 14 #[vR o0, vI i0, vI p2, vI p3, vI p4] [sI i1, sI i0, sR nx, sI i0, sR va]) (fun t k => by
    refine X4.iaload hx (j := (0 : Int32)) (v := (.int (0 : Int32))) (by rw [e4]; exact Ar6.1) (State.isArrayOf_alike hZ.alike Ar6.2.1) Ar6.2.2 hin6 hat6 (g := (mkF m 10 #[vR o0, vI i0, vI p2, vI p3, vI p4] [sI i0, sR nx, sI i0, sR nx, sR va])) rfl rfl (hb hby d10_10) _ ?_
    show SP p e below T4 (mkF m 11 #[vR o0, vI i0, vI p2, vI p3, vI p4] [sI i0, sI i0, sR nx, sR va]) _
    jvm_step X4.here [X4.here.top, hx, (hb hby d10_11), Value.category]
    show SP p e below T4 (mkF m 12 #[vR o0, vI i0, vI p2, vI p3, vI p4] [sI i0, sI i0, sR nx, sI i0, sR va]) _
    refine XS.iconst X4.here hx rfl (hb hby d10_12) ?_
    refine XS.iadd X4.here hx rfl (hb hby d10_13) rfl ?_
    exact k)
  have Vo8 := V_nx
  obtain ⟨cl8, Ar8, qa8, Sa8, Na8, Ha8, Ga8⟩ := Vo8
  have hin8 := inb_of (j := (0 : Int32)) Sa8 ⟨by decide, by decide⟩
  obtain ⟨T9, h9, X9, e9, W9, st9⟩ := stI X4 hx hZ e4 Ar8 (j := (0 : Int32)) hin8 (g := (mkF m 14 #[vR o0, vI i0, vI p2, vI p3, vI p4] [sI i1, sI i0, sR nx, sI i0, sR va])) rfl rfl (hb hby d10_14)
  have V9 : Arv Z h9 nx kx .int (2 : Int32) [(.int (1 : Int32)), (.int (1 : Int32))] (.int (0 : Int32)) := Arv.set Ar8 qa8 Sa8 Na8 Ha8 Ga8 rfl W9 0 rfl (Nat.le_of_ble_eq_true rfl)
  have f10 := Fld.other W9 F_next_o0 (Or.inl ne_o0_nx)
  have f11 := Fld.other W9 F_values_o0 (Or.inl ne_o0_nx)
  have f13 := Arv.other V_va W9 (Ne.symm ne_nx_va)
  have Z9 : n0 ≤ h9.size := Nat.le_trans Z0 (Nat.le_of_eq W9.size.symm)
  have K9 := K0.wr W9 (Or.inl (List.mem_of_getElem? (i := 0) rfl))
  have N9 := Fr.snoc X9 N0 g_nx
  have go14 := go7.st T9 (mkF m 25 #[vR o0, vI i0, vI p2, vI p3, vI p4] [(sJ (((p2.toInt64) <<< ((32 : Int32) &&& 0x3f).toInt64) ||| ((p3.toInt64) <<< (i1 &&& 0x3f).toInt64))), sI i0, sR va]) (fun t k => by
    refine st9 _ ?_
    show SP p e below T9 (mkF m 15 #[vR o0, vI i0, vI p2, vI p3, vI p4] [sI i0, sR va]) _
    refine XS.iloadN X9.here hx rfl (hb hby d10_15) rfl ?_
    refine XS.i2l X9.here hx rfl (hb hby d10_16) rfl ?_
    refine XS.bipush X9.here hx rfl (hb hby d10_17) ?_
    refine XS.lshl X9.here hx rfl (hb hby d10_19) rfl ?_
    refine XS.iloadN X9.here hx rfl (hb hby d10_20) rfl ?_
    refine XS.i2l X9.here hx rfl (hb hby d10_21) rfl ?_
    refine XS.iconst X9.here hx rfl (hb hby d10_22) ?_
    refine XS.lshl X9.here hx rfl (hb hby d10_23) rfl ?_
    refine XS.lor X9.here hx rfl (hb hby d10_24) rfl ?_
    exact k)
  have go16 := go14.st T9 (mkF m 35 #[vR o0, vI i0, vI p2, vI p3, vI p4] [(sI (if p4 = i0 then i0 else i1)), (sJ (((p2.toInt64) <<< ((32 : Int32) &&& 0x3f).toInt64) ||| ((p3.toInt64) <<< (i1 &&& 0x3f).toInt64))), sI i0, sR va]) (fun t k => by
    by_cases hc15 : p4 = (0 : Int32)
    · skip
      try simp only [if_pos hc15] at k
      refine XS.iload X9.here hx rfl (hb hby d10_25) rfl ?_
      refine XS.ifYes X9.here hx rfl (pc0 := 27) (pc' := 34) rfl (hb hby d10_27) rfl ((if0 _ _).trans (teq hc15).1) (by decide) (by decide) ?_
      refine XS.iconst X9.here hx rfl (hb hby d10_34) ?_
      exact k
    · skip
      try simp only [if_neg hc15] at k
      refine XS.iload X9.here hx rfl (hb hby d10_25) rfl ?_
      refine XS.ifNo X9.here hx rfl (hb hby d10_27) rfl ((if0 _ _).trans (feq hc15).1) ?_
      refine XS.iconst X9.here hx rfl (hb hby d10_30) ?_
      refine XS.goto X9.here hx rfl (pc0 := 31) (pc' := 35) rfl (hb hby d10_31) (by decide) (by decide) ?_
      exact k
    )
  have go17 := go16.st T9 (mkF m 37 #[vR o0, vI i0, vI p2, vI p3, vI p4] [(sJ ((((p2.toInt64) <<< ((32 : Int32) &&& 0x3f).toInt64) ||| ((p3.toInt64) <<< (i1 &&& 0x3f).toInt64)) ||| ((if p4 = i0 then i0 else i1).toInt64))), sI i0, sR va]) (fun t k => by
    refine XS.i2l X9.here hx rfl (hb hby d10_35) rfl ?_
    refine XS.lor X9.here hx rfl (hb hby d10_36) rfl ?_
    exact k)
  have Vo18 := f13
  obtain ⟨cl18, Ar18, qa18, Sa18, Na18, Ha18, Ga18⟩ := Vo18
  have hin18 := inb_of (j := (0 : Int32)) Sa18 ⟨by decide, by decide⟩
  obtain ⟨T19, h19, X19, e19, W19, st19⟩ := stJ X9 hx hZ e9 Ar18 (j := (0 : Int32)) hin18 (g := (mkF m 37 #[vR o0, vI i0, vI p2, vI p3, vI p4] [(sJ ((((p2.toInt64) <<< ((32 : Int32) &&& 0x3f).toInt64) ||| ((p3.toInt64) <<< (i1 &&& 0x3f).toInt64)) ||| ((if p4 = i0 then i0 else i1).toInt64))), sI i0, sR va])) rfl rfl (hb hby d10_37)
  have V19 : Arv Z h19 va kv .long (2 : Int32) [(.long ((((p2.toInt64) <<< ((32 : Int32) &&& 0x3f).toInt64) ||| ((p3.toInt64) <<< ((1 : Int32) &&& 0x3f).toInt64)) ||| ((if p4 = (0 : Int32) then (0 : Int32) else (1 : Int32)).toInt64))), (.long v1)] (.long (0 : Int64)) := Arv.set Ar18 qa18 Sa18 Na18 Ha18 Ga18 rfl W19 0 rfl (Nat.le_of_ble_eq_true rfl)
  have f20 := Fld.other W19 f10 (Or.inl ne_o0_va)
  have f21 := Fld.other W19 f11 (Or.inl ne_o0_va)
  have f23 := Arv.other V9 W19 ne_nx_va
  have Z19 : n0 ≤ h19.size := Nat.le_trans Z9 (Nat.le_of_eq W19.size.symm)
  have K19 := K9.wr W19 (Or.inl (List.mem_of_getElem? (i := 1) rfl))
  have N19 := Fr.snoc X19 N9 g_va
  have go24 := go17.st T19 (mkF m 38 #[vR o0, vI i0, vI p2, vI p3, vI p4] []) (fun t k => by
    refine st19 _ ?_
    exact k)
  obtain ⟨fs, hr, hrun, hended, hW, hsame⟩ := X19.leave (v := none) (fun _ => rfl)
  refine ⟨_, _, go24 _ ?_, hrun, hended, _, _, rfl, ?_, ⟨_, rfl⟩, hW, hsame.mono (by decide) (by decide)⟩
  · exact X19.returnOut hx Bd.returns (hb hby d10_38) hr
  · show Q_rm_put0_01 Z o0 p2 p3 p4 nx va kx kv v0 v1 h0 n0 _ T19.heap _
    rw [e19]
    exact ⟨rfl, N19, K19, f23, V19⟩
theorem pn_rm_put1_11 : plainName "com/example/graphkind/graphkind/Statements$Builder" = true := by first | (simp [plainName, overriddenIn]; done) | decide +kernel
theorem ef_rm_put1_11 (m : MethodId) (o0 : Addr) (p2 : Int32) (p3 : Int32) (p4 : Int32) : entryFrame m #[(.ref o0), (.int (1 : Int32)), (.int p2), (.int p3), (.int p4)] 5 = mkF m 0 #[.val (.ref o0), .val (.int (1 : Int32)), .val (.int p2), .val (.int p3), .val (.int p4)] [] := by first | (simp [entryFrame, mkF, argsToLocals, Value.category]; done) | rfl
def Q_rm_put1_11 (Z : State) (o0 : Addr) (p2 : Int32) (p3 : Int32) (p4 : Int32) (nx : Addr) (va : Addr) (kx : ClassId) (kv : ClassId) (v0 : Int64) (v1 : Int64) (h0 : Heap) (n0 : Nat) (v : Option Value) (h : Heap) (L : List Loc) : Prop := v = none ∧ Fr n0 L ∧ Keep h0 h [nx, va] ∧ Arv Z h nx kx .int (2 : Int32) [(.int (1 : Int32)), (.int (2 : Int32))] (.int (0 : Int32)) ∧ Arv Z h va kv .long (2 : Int32) [(.long v0), (.long (own_pack p2 p3 p4))] (.long (0 : Int64))
set_option maxRecDepth 65536 in
set_option maxHeartbeats 40000000 in
theorem rm_put1_11 (l : Launch) (Z : State) (a0 : Array Value) (hw : ∀ d ∈ tables_1, d.before a0 Z = true) (ws : List Jvm.Cond) (o0 : Addr) (p2 : Int32) (p3 : Int32) (p4 : Int32) (nx : Addr) (va : Addr) (kx : ClassId) (kv : ClassId) (v0 : Int64) (v1 : Int64) (h0 : Heap) (n0 : Nat) (Z0 : n0 ≤ h0.size) (F_next_o0 : Fld Z h0 o0 "com/example/graphkind/graphkind/Statements$Builder" "next" "[I" (.ref nx)) (F_values_o0 : Fld Z h0 o0 "com/example/graphkind/graphkind/Statements$Builder" "values" "[J" (.ref va)) (V_nx : Arv Z h0 nx kx .int (2 : Int32) [(.int (1 : Int32)), (.int (1 : Int32))] (.int (0 : Int32))) (V_va : Arv Z h0 va kv .long (2 : Int32) [(.long v0), (.long v1)] (.long (0 : Int64))) (g_nx : n0 ≤ nx) (g_va : n0 ≤ va) (ne_o0_nx : o0 ≠ nx) (ne_o0_va : o0 ≠ va) (ne_nx_va : nx ≠ va) :
    MetFree l yN9 (head1 (Jvm.Cond.code yN9 prog_10_method_4_code 5 none :: ws) ({ frames := 0, cells := 0, slots := 0, locals := 0 } : Room)) (fun a U => a = #[(.ref o0), (.int (1 : Int32)), (.int p2), (.int p3), (.int p4)] ∧ Z.Warmed39 U.vm ∧ U.heap = h0) (fun _ _ _ _ _ => True) (fun _ U o U' => ∃ v L, o = .returned v ∧ Q_rm_put1_11 Z o0 p2 p3 p4 nx va kx kv v0 v1 h0 n0 v U'.heap L ∧ FrameEnd U o U' L ({ frames := 0, cells := 0, slots := 0, locals := 0 } : Room).cells ({ frames := 0, cells := 0, slots := 0, locals := 0 } : Room).slots) := by
  refine MetFree.of_bodySF (plainFor_of_name pn_rm_put1_11) hisR ?_
  intro p e s m args below meth c s₁ Bd hml0 hP hK
  obtain ⟨rfl, hZ, hh⟩ := hP
  have hx := Bd.exec
  have hby := Bd.bytes
  have hml : c.maxLocals = 5 := hml0
  have hown : s.vm.findClass "com/example/graphkind/graphkind/Statements$Builder" = some m.cls := findClass_of_methodNamed Bd.named
  have hnm := (name_of_methodNamed Bd.named Bd.method).1
  have X0 : Stand p l e ({ frames := 0, cells := 0, slots := 0, locals := 0 } : Room) s m #[(.ref o0), (.int (1 : Int32)), (.int p2), (.int p3), (.int p4)] below meth c s₁ [] 0 0 := Stand.of_body Bd
  have e0 : s₁.heap = h0 := by rw [← hh, Bd.state]; rfl
  have N0 := Fr.nil n0
  have K0 := Keep.refl h0 [nx, va]
  have go0 : Go p e below (s₁.setTop (entryFrame m #[(.ref o0), (.int (1 : Int32)), (.int p2), (.int p3), (.int p4)] 5)) (s₁.setTop (mkF m 0 #[vR o0, vI i1, vI p2, vI p3, vI p4] [])) := fun t k => castTop (ef_rm_put1_11 m o0 p2 p3 p4) k
  have go1 := go0.st s₁ (mkF m 1 #[vR o0, vI i1, vI p2, vI p3, vI p4] [sR o0]) (fun t k => by
    refine XS.aloadN X0.here hx rfl (hb hby d10_0) rfl rfl ?_
    exact k)
  obtain ⟨T2, X2, e2, st2⟩ := getF X0 hx hZ hown (host := "") (Or.inl (wD hw 69 rfl)) Via.refl e0 F_values_o0 (g := (mkF m 1 #[vR o0, vI i1, vI p2, vI p3, vI p4] [sR o0])) rfl rfl (hb hby d10_1)
  have go3 := go1.st T2 (mkF m 5 #[vR o0, vI i1, vI p2, vI p3, vI p4] [sR o0, sR va]) (fun t k => by
    refine st2 _ ?_
    show SP p e below T2 (mkF m 4 #[vR o0, vI i1, vI p2, vI p3, vI p4] [sR va]) _
    refine XS.aloadN X2.here hx rfl (hb hby d10_4) rfl rfl ?_
    exact k)
  obtain ⟨T4, X4, e4, st4⟩ := getF X2 hx hZ hown (host := "") (Or.inl (wD hw 66 rfl)) Via.refl e2 F_next_o0 (g := (mkF m 5 #[vR o0, vI i1, vI p2, vI p3, vI p4] [sR o0, sR va])) rfl rfl (hb hby d10_5)
  have go5 := go3.st T4 (mkF m 10 #[vR o0, vI i1, vI p2, vI p3, vI p4] [sI i1, sR nx, sI i1, sR nx, sR va]) (fun t k => by
    refine st4 _ ?_
    show SP p e below T4 (mkF m 8 #[vR o0, vI i1, vI p2, vI p3, vI p4] [sR nx, sR va]) _
    refine XS.iloadN X4.here hx rfl (hb hby d10_8) rfl ?_
    show SP p e below T4 (mkF m 9 #[vR o0, vI i1, vI p2, vI p3, vI p4] [sI i1, sR nx, sR va]) _
    jvm_step X4.here [X4.here.top, hx, (hb hby d10_9), Value.category]
    exact k)
  have Vo6 := V_nx
  obtain ⟨cl6, Ar6, qa6, Sa6, Na6, Ha6, Ga6⟩ := Vo6
  have hin6 := inb_of (j := (1 : Int32)) Sa6 ⟨by decide, by decide⟩
  have hat6 : cl6.slots[((1 : Int32)).toNatClampNeg]? = some (.int (1 : Int32)) := Has.at Ha6 hin6 rfl
  have go7 := go5.st T4 (mkF m 14 #[vR o0, vI i1, vI p2, vI p3, vI p4] [sI i2, sI i1, sR nx, sI i1, sR va]) (fun t k => by
    refine X4.iaload hx (j := (1 : Int32)) (v := (.int (1 : Int32))) (by rw [e4]; exact Ar6.1) (State.isArrayOf_alike hZ.alike Ar6.2.1) Ar6.2.2 hin6 hat6 (g := (mkF m 10 #[vR o0, vI i1, vI p2, vI p3, vI p4] [sI i1, sR nx, sI i1, sR nx, sR va])) rfl rfl (hb hby d10_10) _ ?_
    show SP p e below T4 (mkF m 11 #[vR o0, vI i1, vI p2, vI p3, vI p4] [sI i1, sI i1, sR nx, sR va]) _
    jvm_step X4.here [X4.here.top, hx, (hb hby d10_11), Value.category]
    show SP p e below T4 (mkF m 12 #[vR o0, vI i1, vI p2, vI p3, vI p4] [sI i1, sI i1, sR nx, sI i1, sR va]) _
    refine XS.iconst X4.here hx rfl (hb hby d10_12) ?_
    refine XS.iadd X4.here hx rfl (hb hby d10_13) rfl ?_
    exact k)
  have Vo8 := V_nx
  obtain ⟨cl8, Ar8, qa8, Sa8, Na8, Ha8, Ga8⟩ := Vo8
  have hin8 := inb_of (j := (1 : Int32)) Sa8 ⟨by decide, by decide⟩
  obtain ⟨T9, h9, X9, e9, W9, st9⟩ := stI X4 hx hZ e4 Ar8 (j := (1 : Int32)) hin8 (g := (mkF m 14 #[vR o0, vI i1, vI p2, vI p3, vI p4] [sI i2, sI i1, sR nx, sI i1, sR va])) rfl rfl (hb hby d10_14)
  have V9 : Arv Z h9 nx kx .int (2 : Int32) [(.int (1 : Int32)), (.int (2 : Int32))] (.int (0 : Int32)) := Arv.set Ar8 qa8 Sa8 Na8 Ha8 Ga8 rfl W9 1 rfl (Nat.le_of_ble_eq_true rfl)
  have f10 := Fld.other W9 F_next_o0 (Or.inl ne_o0_nx)
  have f11 := Fld.other W9 F_values_o0 (Or.inl ne_o0_nx)
  have f13 := Arv.other V_va W9 (Ne.symm ne_nx_va)
  have Z9 : n0 ≤ h9.size := Nat.le_trans Z0 (Nat.le_of_eq W9.size.symm)
  have K9 := K0.wr W9 (Or.inl (List.mem_of_getElem? (i := 0) rfl))
  have N9 := Fr.snoc X9 N0 g_nx
  have go14 := go7.st T9 (mkF m 25 #[vR o0, vI i1, vI p2, vI p3, vI p4] [(sJ (((p2.toInt64) <<< ((32 : Int32) &&& 0x3f).toInt64) ||| ((p3.toInt64) <<< (i1 &&& 0x3f).toInt64))), sI i1, sR va]) (fun t k => by
    refine st9 _ ?_
    show SP p e below T9 (mkF m 15 #[vR o0, vI i1, vI p2, vI p3, vI p4] [sI i1, sR va]) _
    refine XS.iloadN X9.here hx rfl (hb hby d10_15) rfl ?_
    refine XS.i2l X9.here hx rfl (hb hby d10_16) rfl ?_
    refine XS.bipush X9.here hx rfl (hb hby d10_17) ?_
    refine XS.lshl X9.here hx rfl (hb hby d10_19) rfl ?_
    refine XS.iloadN X9.here hx rfl (hb hby d10_20) rfl ?_
    refine XS.i2l X9.here hx rfl (hb hby d10_21) rfl ?_
    refine XS.iconst X9.here hx rfl (hb hby d10_22) ?_
    refine XS.lshl X9.here hx rfl (hb hby d10_23) rfl ?_
    refine XS.lor X9.here hx rfl (hb hby d10_24) rfl ?_
    exact k)
  have go16 := go14.st T9 (mkF m 35 #[vR o0, vI i1, vI p2, vI p3, vI p4] [(sI (if p4 = i0 then i0 else i1)), (sJ (((p2.toInt64) <<< ((32 : Int32) &&& 0x3f).toInt64) ||| ((p3.toInt64) <<< (i1 &&& 0x3f).toInt64))), sI i1, sR va]) (fun t k => by
    by_cases hc15 : p4 = (0 : Int32)
    · skip
      try simp only [if_pos hc15] at k
      refine XS.iload X9.here hx rfl (hb hby d10_25) rfl ?_
      refine XS.ifYes X9.here hx rfl (pc0 := 27) (pc' := 34) rfl (hb hby d10_27) rfl ((if0 _ _).trans (teq hc15).1) (by decide) (by decide) ?_
      refine XS.iconst X9.here hx rfl (hb hby d10_34) ?_
      exact k
    · skip
      try simp only [if_neg hc15] at k
      refine XS.iload X9.here hx rfl (hb hby d10_25) rfl ?_
      refine XS.ifNo X9.here hx rfl (hb hby d10_27) rfl ((if0 _ _).trans (feq hc15).1) ?_
      refine XS.iconst X9.here hx rfl (hb hby d10_30) ?_
      refine XS.goto X9.here hx rfl (pc0 := 31) (pc' := 35) rfl (hb hby d10_31) (by decide) (by decide) ?_
      exact k
    )
  have go17 := go16.st T9 (mkF m 37 #[vR o0, vI i1, vI p2, vI p3, vI p4] [(sJ ((((p2.toInt64) <<< ((32 : Int32) &&& 0x3f).toInt64) ||| ((p3.toInt64) <<< (i1 &&& 0x3f).toInt64)) ||| ((if p4 = i0 then i0 else i1).toInt64))), sI i1, sR va]) (fun t k => by
    refine XS.i2l X9.here hx rfl (hb hby d10_35) rfl ?_
    refine XS.lor X9.here hx rfl (hb hby d10_36) rfl ?_
    exact k)
  have Vo18 := f13
  obtain ⟨cl18, Ar18, qa18, Sa18, Na18, Ha18, Ga18⟩ := Vo18
  have hin18 := inb_of (j := (1 : Int32)) Sa18 ⟨by decide, by decide⟩
  obtain ⟨T19, h19, X19, e19, W19, st19⟩ := stJ X9 hx hZ e9 Ar18 (j := (1 : Int32)) hin18 (g := (mkF m 37 #[vR o0, vI i1, vI p2, vI p3, vI p4] [(sJ ((((p2.toInt64) <<< ((32 : Int32) &&& 0x3f).toInt64) ||| ((p3.toInt64) <<< (i1 &&& 0x3f).toInt64)) ||| ((if p4 = i0 then i0 else i1).toInt64))), sI i1, sR va])) rfl rfl (hb hby d10_37)
  have V19 : Arv Z h19 va kv .long (2 : Int32) [(.long v0), (.long ((((p2.toInt64) <<< ((32 : Int32) &&& 0x3f).toInt64) ||| ((p3.toInt64) <<< ((1 : Int32) &&& 0x3f).toInt64)) ||| ((if p4 = (0 : Int32) then (0 : Int32) else (1 : Int32)).toInt64)))] (.long (0 : Int64)) := Arv.set Ar18 qa18 Sa18 Na18 Ha18 Ga18 rfl W19 1 rfl (Nat.le_of_ble_eq_true rfl)
  have f20 := Fld.other W19 f10 (Or.inl ne_o0_va)
  have f21 := Fld.other W19 f11 (Or.inl ne_o0_va)
  have f23 := Arv.other V9 W19 ne_nx_va
  have Z19 : n0 ≤ h19.size := Nat.le_trans Z9 (Nat.le_of_eq W19.size.symm)
  have K19 := K9.wr W19 (Or.inl (List.mem_of_getElem? (i := 1) rfl))
  have N19 := Fr.snoc X19 N9 g_va
  have go24 := go17.st T19 (mkF m 38 #[vR o0, vI i1, vI p2, vI p3, vI p4] []) (fun t k => by
    refine st19 _ ?_
    exact k)
  obtain ⟨fs, hr, hrun, hended, hW, hsame⟩ := X19.leave (v := none) (fun _ => rfl)
  refine ⟨_, _, go24 _ ?_, hrun, hended, _, _, rfl, ?_, ⟨_, rfl⟩, hW, hsame.mono (by decide) (by decide)⟩
  · exact X19.returnOut hx Bd.returns (hb hby d10_38) hr
  · show Q_rm_put1_11 Z o0 p2 p3 p4 nx va kx kv v0 v1 h0 n0 _ T19.heap _
    rw [e19]
    exact ⟨rfl, N19, K19, f23, V19⟩
theorem pn_rm_put1_01 : plainName "com/example/graphkind/graphkind/Statements$Builder" = true := by first | (simp [plainName, overriddenIn]; done) | decide +kernel
theorem ef_rm_put1_01 (m : MethodId) (o0 : Addr) (p2 : Int32) (p3 : Int32) (p4 : Int32) : entryFrame m #[(.ref o0), (.int (1 : Int32)), (.int p2), (.int p3), (.int p4)] 5 = mkF m 0 #[.val (.ref o0), .val (.int (1 : Int32)), .val (.int p2), .val (.int p3), .val (.int p4)] [] := by first | (simp [entryFrame, mkF, argsToLocals, Value.category]; done) | rfl
def Q_rm_put1_01 (Z : State) (o0 : Addr) (p2 : Int32) (p3 : Int32) (p4 : Int32) (nx : Addr) (va : Addr) (kx : ClassId) (kv : ClassId) (v0 : Int64) (v1 : Int64) (h0 : Heap) (n0 : Nat) (v : Option Value) (h : Heap) (L : List Loc) : Prop := v = none ∧ Fr n0 L ∧ Keep h0 h [nx, va] ∧ Arv Z h nx kx .int (2 : Int32) [(.int (0 : Int32)), (.int (2 : Int32))] (.int (0 : Int32)) ∧ Arv Z h va kv .long (2 : Int32) [(.long v0), (.long (own_pack p2 p3 p4))] (.long (0 : Int64))
set_option maxRecDepth 65536 in
set_option maxHeartbeats 40000000 in
theorem rm_put1_01 (l : Launch) (Z : State) (a0 : Array Value) (hw : ∀ d ∈ tables_1, d.before a0 Z = true) (ws : List Jvm.Cond) (o0 : Addr) (p2 : Int32) (p3 : Int32) (p4 : Int32) (nx : Addr) (va : Addr) (kx : ClassId) (kv : ClassId) (v0 : Int64) (v1 : Int64) (h0 : Heap) (n0 : Nat) (Z0 : n0 ≤ h0.size) (F_next_o0 : Fld Z h0 o0 "com/example/graphkind/graphkind/Statements$Builder" "next" "[I" (.ref nx)) (F_values_o0 : Fld Z h0 o0 "com/example/graphkind/graphkind/Statements$Builder" "values" "[J" (.ref va)) (V_nx : Arv Z h0 nx kx .int (2 : Int32) [(.int (0 : Int32)), (.int (1 : Int32))] (.int (0 : Int32))) (V_va : Arv Z h0 va kv .long (2 : Int32) [(.long v0), (.long v1)] (.long (0 : Int64))) (g_nx : n0 ≤ nx) (g_va : n0 ≤ va) (ne_o0_nx : o0 ≠ nx) (ne_o0_va : o0 ≠ va) (ne_nx_va : nx ≠ va) :
    MetFree l yN9 (head1 (Jvm.Cond.code yN9 prog_10_method_4_code 5 none :: ws) ({ frames := 0, cells := 0, slots := 0, locals := 0 } : Room)) (fun a U => a = #[(.ref o0), (.int (1 : Int32)), (.int p2), (.int p3), (.int p4)] ∧ Z.Warmed39 U.vm ∧ U.heap = h0) (fun _ _ _ _ _ => True) (fun _ U o U' => ∃ v L, o = .returned v ∧ Q_rm_put1_01 Z o0 p2 p3 p4 nx va kx kv v0 v1 h0 n0 v U'.heap L ∧ FrameEnd U o U' L ({ frames := 0, cells := 0, slots := 0, locals := 0 } : Room).cells ({ frames := 0, cells := 0, slots := 0, locals := 0 } : Room).slots) := by
  refine MetFree.of_bodySF (plainFor_of_name pn_rm_put1_01) hisR ?_
  intro p e s m args below meth c s₁ Bd hml0 hP hK
  obtain ⟨rfl, hZ, hh⟩ := hP
  have hx := Bd.exec
  have hby := Bd.bytes
  have hml : c.maxLocals = 5 := hml0
  have hown : s.vm.findClass "com/example/graphkind/graphkind/Statements$Builder" = some m.cls := findClass_of_methodNamed Bd.named
  have hnm := (name_of_methodNamed Bd.named Bd.method).1
  have X0 : Stand p l e ({ frames := 0, cells := 0, slots := 0, locals := 0 } : Room) s m #[(.ref o0), (.int (1 : Int32)), (.int p2), (.int p3), (.int p4)] below meth c s₁ [] 0 0 := Stand.of_body Bd
  have e0 : s₁.heap = h0 := by rw [← hh, Bd.state]; rfl
  have N0 := Fr.nil n0
  have K0 := Keep.refl h0 [nx, va]
  have go0 : Go p e below (s₁.setTop (entryFrame m #[(.ref o0), (.int (1 : Int32)), (.int p2), (.int p3), (.int p4)] 5)) (s₁.setTop (mkF m 0 #[vR o0, vI i1, vI p2, vI p3, vI p4] [])) := fun t k => castTop (ef_rm_put1_01 m o0 p2 p3 p4) k
  have go1 := go0.st s₁ (mkF m 1 #[vR o0, vI i1, vI p2, vI p3, vI p4] [sR o0]) (fun t k => by
    refine XS.aloadN X0.here hx rfl (hb hby d10_0) rfl rfl ?_
    exact k)
  obtain ⟨T2, X2, e2, st2⟩ := getF X0 hx hZ hown (host := "") (Or.inl (wD hw 69 rfl)) Via.refl e0 F_values_o0 (g := (mkF m 1 #[vR o0, vI i1, vI p2, vI p3, vI p4] [sR o0])) rfl rfl (hb hby d10_1)
  have go3 := go1.st T2 (mkF m 5 #[vR o0, vI i1, vI p2, vI p3, vI p4] [sR o0, sR va]) (fun t k => by
    refine st2 _ ?_
    show SP p e below T2 (mkF m 4 #[vR o0, vI i1, vI p2, vI p3, vI p4] [sR va]) _
    refine XS.aloadN X2.here hx rfl (hb hby d10_4) rfl rfl ?_
    exact k)
  obtain ⟨T4, X4, e4, st4⟩ := getF X2 hx hZ hown (host := "") (Or.inl (wD hw 66 rfl)) Via.refl e2 F_next_o0 (g := (mkF m 5 #[vR o0, vI i1, vI p2, vI p3, vI p4] [sR o0, sR va])) rfl rfl (hb hby d10_5)
  have go5 := go3.st T4 (mkF m 10 #[vR o0, vI i1, vI p2, vI p3, vI p4] [sI i1, sR nx, sI i1, sR nx, sR va]) (fun t k => by
    refine st4 _ ?_
    show SP p e below T4 (mkF m 8 #[vR o0, vI i1, vI p2, vI p3, vI p4] [sR nx, sR va]) _
    refine XS.iloadN X4.here hx rfl (hb hby d10_8) rfl ?_
    show SP p e below T4 (mkF m 9 #[vR o0, vI i1, vI p2, vI p3, vI p4] [sI i1, sR nx, sR va]) _
    jvm_step X4.here [X4.here.top, hx, (hb hby d10_9), Value.category]
    exact k)
  have Vo6 := V_nx
  obtain ⟨cl6, Ar6, qa6, Sa6, Na6, Ha6, Ga6⟩ := Vo6
  have hin6 := inb_of (j := (1 : Int32)) Sa6 ⟨by decide, by decide⟩
  have hat6 : cl6.slots[((1 : Int32)).toNatClampNeg]? = some (.int (1 : Int32)) := Has.at Ha6 hin6 rfl
  have go7 := go5.st T4 (mkF m 14 #[vR o0, vI i1, vI p2, vI p3, vI p4] [sI i2, sI i1, sR nx, sI i1, sR va]) (fun t k => by
    refine X4.iaload hx (j := (1 : Int32)) (v := (.int (1 : Int32))) (by rw [e4]; exact Ar6.1) (State.isArrayOf_alike hZ.alike Ar6.2.1) Ar6.2.2 hin6 hat6 (g := (mkF m 10 #[vR o0, vI i1, vI p2, vI p3, vI p4] [sI i1, sR nx, sI i1, sR nx, sR va])) rfl rfl (hb hby d10_10) _ ?_
    show SP p e below T4 (mkF m 11 #[vR o0, vI i1, vI p2, vI p3, vI p4] [sI i1, sI i1, sR nx, sR va]) _
    jvm_step X4.here [X4.here.top, hx, (hb hby d10_11), Value.category]
    show SP p e below T4 (mkF m 12 #[vR o0, vI i1, vI p2, vI p3, vI p4] [sI i1, sI i1, sR nx, sI i1, sR va]) _
    refine XS.iconst X4.here hx rfl (hb hby d10_12) ?_
    refine XS.iadd X4.here hx rfl (hb hby d10_13) rfl ?_
    exact k)
  have Vo8 := V_nx
  obtain ⟨cl8, Ar8, qa8, Sa8, Na8, Ha8, Ga8⟩ := Vo8
  have hin8 := inb_of (j := (1 : Int32)) Sa8 ⟨by decide, by decide⟩
  obtain ⟨T9, h9, X9, e9, W9, st9⟩ := stI X4 hx hZ e4 Ar8 (j := (1 : Int32)) hin8 (g := (mkF m 14 #[vR o0, vI i1, vI p2, vI p3, vI p4] [sI i2, sI i1, sR nx, sI i1, sR va])) rfl rfl (hb hby d10_14)
  have V9 : Arv Z h9 nx kx .int (2 : Int32) [(.int (0 : Int32)), (.int (2 : Int32))] (.int (0 : Int32)) := Arv.set Ar8 qa8 Sa8 Na8 Ha8 Ga8 rfl W9 1 rfl (Nat.le_of_ble_eq_true rfl)
  have f10 := Fld.other W9 F_next_o0 (Or.inl ne_o0_nx)
  have f11 := Fld.other W9 F_values_o0 (Or.inl ne_o0_nx)
  have f13 := Arv.other V_va W9 (Ne.symm ne_nx_va)
  have Z9 : n0 ≤ h9.size := Nat.le_trans Z0 (Nat.le_of_eq W9.size.symm)
  have K9 := K0.wr W9 (Or.inl (List.mem_of_getElem? (i := 0) rfl))
  have N9 := Fr.snoc X9 N0 g_nx
  have go14 := go7.st T9 (mkF m 25 #[vR o0, vI i1, vI p2, vI p3, vI p4] [(sJ (((p2.toInt64) <<< ((32 : Int32) &&& 0x3f).toInt64) ||| ((p3.toInt64) <<< (i1 &&& 0x3f).toInt64))), sI i1, sR va]) (fun t k => by
    refine st9 _ ?_
    show SP p e below T9 (mkF m 15 #[vR o0, vI i1, vI p2, vI p3, vI p4] [sI i1, sR va]) _
    refine XS.iloadN X9.here hx rfl (hb hby d10_15) rfl ?_
    refine XS.i2l X9.here hx rfl (hb hby d10_16) rfl ?_
    refine XS.bipush X9.here hx rfl (hb hby d10_17) ?_
    refine XS.lshl X9.here hx rfl (hb hby d10_19) rfl ?_
    refine XS.iloadN X9.here hx rfl (hb hby d10_20) rfl ?_
    refine XS.i2l X9.here hx rfl (hb hby d10_21) rfl ?_
    refine XS.iconst X9.here hx rfl (hb hby d10_22) ?_
    refine XS.lshl X9.here hx rfl (hb hby d10_23) rfl ?_
    refine XS.lor X9.here hx rfl (hb hby d10_24) rfl ?_
    exact k)
  have go16 := go14.st T9 (mkF m 35 #[vR o0, vI i1, vI p2, vI p3, vI p4] [(sI (if p4 = i0 then i0 else i1)), (sJ (((p2.toInt64) <<< ((32 : Int32) &&& 0x3f).toInt64) ||| ((p3.toInt64) <<< (i1 &&& 0x3f).toInt64))), sI i1, sR va]) (fun t k => by
    by_cases hc15 : p4 = (0 : Int32)
    · skip
      try simp only [if_pos hc15] at k
      refine XS.iload X9.here hx rfl (hb hby d10_25) rfl ?_
      refine XS.ifYes X9.here hx rfl (pc0 := 27) (pc' := 34) rfl (hb hby d10_27) rfl ((if0 _ _).trans (teq hc15).1) (by decide) (by decide) ?_
      refine XS.iconst X9.here hx rfl (hb hby d10_34) ?_
      exact k
    · skip
      try simp only [if_neg hc15] at k
      refine XS.iload X9.here hx rfl (hb hby d10_25) rfl ?_
      refine XS.ifNo X9.here hx rfl (hb hby d10_27) rfl ((if0 _ _).trans (feq hc15).1) ?_
      refine XS.iconst X9.here hx rfl (hb hby d10_30) ?_
      refine XS.goto X9.here hx rfl (pc0 := 31) (pc' := 35) rfl (hb hby d10_31) (by decide) (by decide) ?_
      exact k
    )
  have go17 := go16.st T9 (mkF m 37 #[vR o0, vI i1, vI p2, vI p3, vI p4] [(sJ ((((p2.toInt64) <<< ((32 : Int32) &&& 0x3f).toInt64) ||| ((p3.toInt64) <<< (i1 &&& 0x3f).toInt64)) ||| ((if p4 = i0 then i0 else i1).toInt64))), sI i1, sR va]) (fun t k => by
    refine XS.i2l X9.here hx rfl (hb hby d10_35) rfl ?_
    refine XS.lor X9.here hx rfl (hb hby d10_36) rfl ?_
    exact k)
  have Vo18 := f13
  obtain ⟨cl18, Ar18, qa18, Sa18, Na18, Ha18, Ga18⟩ := Vo18
  have hin18 := inb_of (j := (1 : Int32)) Sa18 ⟨by decide, by decide⟩
  obtain ⟨T19, h19, X19, e19, W19, st19⟩ := stJ X9 hx hZ e9 Ar18 (j := (1 : Int32)) hin18 (g := (mkF m 37 #[vR o0, vI i1, vI p2, vI p3, vI p4] [(sJ ((((p2.toInt64) <<< ((32 : Int32) &&& 0x3f).toInt64) ||| ((p3.toInt64) <<< (i1 &&& 0x3f).toInt64)) ||| ((if p4 = i0 then i0 else i1).toInt64))), sI i1, sR va])) rfl rfl (hb hby d10_37)
  have V19 : Arv Z h19 va kv .long (2 : Int32) [(.long v0), (.long ((((p2.toInt64) <<< ((32 : Int32) &&& 0x3f).toInt64) ||| ((p3.toInt64) <<< ((1 : Int32) &&& 0x3f).toInt64)) ||| ((if p4 = (0 : Int32) then (0 : Int32) else (1 : Int32)).toInt64)))] (.long (0 : Int64)) := Arv.set Ar18 qa18 Sa18 Na18 Ha18 Ga18 rfl W19 1 rfl (Nat.le_of_ble_eq_true rfl)
  have f20 := Fld.other W19 f10 (Or.inl ne_o0_va)
  have f21 := Fld.other W19 f11 (Or.inl ne_o0_va)
  have f23 := Arv.other V9 W19 ne_nx_va
  have Z19 : n0 ≤ h19.size := Nat.le_trans Z9 (Nat.le_of_eq W19.size.symm)
  have K19 := K9.wr W19 (Or.inl (List.mem_of_getElem? (i := 1) rfl))
  have N19 := Fr.snoc X19 N9 g_va
  have go24 := go17.st T19 (mkF m 38 #[vR o0, vI i1, vI p2, vI p3, vI p4] []) (fun t k => by
    refine st19 _ ?_
    exact k)
  obtain ⟨fs, hr, hrun, hended, hW, hsame⟩ := X19.leave (v := none) (fun _ => rfl)
  refine ⟨_, _, go24 _ ?_, hrun, hended, _, _, rfl, ?_, ⟨_, rfl⟩, hW, hsame.mono (by decide) (by decide)⟩
  · exact X19.returnOut hx Bd.returns (hb hby d10_38) hr
  · show Q_rm_put1_01 Z o0 p2 p3 p4 nx va kx kv v0 v1 h0 n0 _ T19.heap _
    rw [e19]
    exact ⟨rfl, N19, K19, f23, V19⟩
theorem pn_rm_put1_00 : plainName "com/example/graphkind/graphkind/Statements$Builder" = true := by first | (simp [plainName, overriddenIn]; done) | decide +kernel
theorem ef_rm_put1_00 (m : MethodId) (o0 : Addr) (p2 : Int32) (p3 : Int32) (p4 : Int32) : entryFrame m #[(.ref o0), (.int (1 : Int32)), (.int p2), (.int p3), (.int p4)] 5 = mkF m 0 #[.val (.ref o0), .val (.int (1 : Int32)), .val (.int p2), .val (.int p3), .val (.int p4)] [] := by first | (simp [entryFrame, mkF, argsToLocals, Value.category]; done) | rfl
def Q_rm_put1_00 (Z : State) (o0 : Addr) (p2 : Int32) (p3 : Int32) (p4 : Int32) (nx : Addr) (va : Addr) (kx : ClassId) (kv : ClassId) (v0 : Int64) (v1 : Int64) (h0 : Heap) (n0 : Nat) (v : Option Value) (h : Heap) (L : List Loc) : Prop := v = none ∧ Fr n0 L ∧ Keep h0 h [nx, va] ∧ Arv Z h nx kx .int (2 : Int32) [(.int (0 : Int32)), (.int (1 : Int32))] (.int (0 : Int32)) ∧ Arv Z h va kv .long (2 : Int32) [(.long (own_pack p2 p3 p4)), (.long v1)] (.long (0 : Int64))
set_option maxRecDepth 65536 in
set_option maxHeartbeats 40000000 in
theorem rm_put1_00 (l : Launch) (Z : State) (a0 : Array Value) (hw : ∀ d ∈ tables_1, d.before a0 Z = true) (ws : List Jvm.Cond) (o0 : Addr) (p2 : Int32) (p3 : Int32) (p4 : Int32) (nx : Addr) (va : Addr) (kx : ClassId) (kv : ClassId) (v0 : Int64) (v1 : Int64) (h0 : Heap) (n0 : Nat) (Z0 : n0 ≤ h0.size) (F_next_o0 : Fld Z h0 o0 "com/example/graphkind/graphkind/Statements$Builder" "next" "[I" (.ref nx)) (F_values_o0 : Fld Z h0 o0 "com/example/graphkind/graphkind/Statements$Builder" "values" "[J" (.ref va)) (V_nx : Arv Z h0 nx kx .int (2 : Int32) [(.int (0 : Int32)), (.int (0 : Int32))] (.int (0 : Int32))) (V_va : Arv Z h0 va kv .long (2 : Int32) [(.long v0), (.long v1)] (.long (0 : Int64))) (g_nx : n0 ≤ nx) (g_va : n0 ≤ va) (ne_o0_nx : o0 ≠ nx) (ne_o0_va : o0 ≠ va) (ne_nx_va : nx ≠ va) :
    MetFree l yN9 (head1 (Jvm.Cond.code yN9 prog_10_method_4_code 5 none :: ws) ({ frames := 0, cells := 0, slots := 0, locals := 0 } : Room)) (fun a U => a = #[(.ref o0), (.int (1 : Int32)), (.int p2), (.int p3), (.int p4)] ∧ Z.Warmed39 U.vm ∧ U.heap = h0) (fun _ _ _ _ _ => True) (fun _ U o U' => ∃ v L, o = .returned v ∧ Q_rm_put1_00 Z o0 p2 p3 p4 nx va kx kv v0 v1 h0 n0 v U'.heap L ∧ FrameEnd U o U' L ({ frames := 0, cells := 0, slots := 0, locals := 0 } : Room).cells ({ frames := 0, cells := 0, slots := 0, locals := 0 } : Room).slots) := by
  refine MetFree.of_bodySF (plainFor_of_name pn_rm_put1_00) hisR ?_
  intro p e s m args below meth c s₁ Bd hml0 hP hK
  obtain ⟨rfl, hZ, hh⟩ := hP
  have hx := Bd.exec
  have hby := Bd.bytes
  have hml : c.maxLocals = 5 := hml0
  have hown : s.vm.findClass "com/example/graphkind/graphkind/Statements$Builder" = some m.cls := findClass_of_methodNamed Bd.named
  have hnm := (name_of_methodNamed Bd.named Bd.method).1
  have X0 : Stand p l e ({ frames := 0, cells := 0, slots := 0, locals := 0 } : Room) s m #[(.ref o0), (.int (1 : Int32)), (.int p2), (.int p3), (.int p4)] below meth c s₁ [] 0 0 := Stand.of_body Bd
  have e0 : s₁.heap = h0 := by rw [← hh, Bd.state]; rfl
  have N0 := Fr.nil n0
  have K0 := Keep.refl h0 [nx, va]
  have go0 : Go p e below (s₁.setTop (entryFrame m #[(.ref o0), (.int (1 : Int32)), (.int p2), (.int p3), (.int p4)] 5)) (s₁.setTop (mkF m 0 #[vR o0, vI i1, vI p2, vI p3, vI p4] [])) := fun t k => castTop (ef_rm_put1_00 m o0 p2 p3 p4) k
  have go1 := go0.st s₁ (mkF m 1 #[vR o0, vI i1, vI p2, vI p3, vI p4] [sR o0]) (fun t k => by
    refine XS.aloadN X0.here hx rfl (hb hby d10_0) rfl rfl ?_
    exact k)
  obtain ⟨T2, X2, e2, st2⟩ := getF X0 hx hZ hown (host := "") (Or.inl (wD hw 69 rfl)) Via.refl e0 F_values_o0 (g := (mkF m 1 #[vR o0, vI i1, vI p2, vI p3, vI p4] [sR o0])) rfl rfl (hb hby d10_1)
  have go3 := go1.st T2 (mkF m 5 #[vR o0, vI i1, vI p2, vI p3, vI p4] [sR o0, sR va]) (fun t k => by
    refine st2 _ ?_
    show SP p e below T2 (mkF m 4 #[vR o0, vI i1, vI p2, vI p3, vI p4] [sR va]) _
    refine XS.aloadN X2.here hx rfl (hb hby d10_4) rfl rfl ?_
    exact k)
  obtain ⟨T4, X4, e4, st4⟩ := getF X2 hx hZ hown (host := "") (Or.inl (wD hw 66 rfl)) Via.refl e2 F_next_o0 (g := (mkF m 5 #[vR o0, vI i1, vI p2, vI p3, vI p4] [sR o0, sR va])) rfl rfl (hb hby d10_5)
  have go5 := go3.st T4 (mkF m 10 #[vR o0, vI i1, vI p2, vI p3, vI p4] [sI i1, sR nx, sI i1, sR nx, sR va]) (fun t k => by
    refine st4 _ ?_
    show SP p e below T4 (mkF m 8 #[vR o0, vI i1, vI p2, vI p3, vI p4] [sR nx, sR va]) _
    refine XS.iloadN X4.here hx rfl (hb hby d10_8) rfl ?_
    show SP p e below T4 (mkF m 9 #[vR o0, vI i1, vI p2, vI p3, vI p4] [sI i1, sR nx, sR va]) _
    jvm_step X4.here [X4.here.top, hx, (hb hby d10_9), Value.category]
    exact k)
  have Vo6 := V_nx
  obtain ⟨cl6, Ar6, qa6, Sa6, Na6, Ha6, Ga6⟩ := Vo6
  have hin6 := inb_of (j := (1 : Int32)) Sa6 ⟨by decide, by decide⟩
  have hat6 : cl6.slots[((1 : Int32)).toNatClampNeg]? = some (.int (0 : Int32)) := Has.at Ha6 hin6 rfl
  have go7 := go5.st T4 (mkF m 14 #[vR o0, vI i1, vI p2, vI p3, vI p4] [sI i1, sI i1, sR nx, sI i0, sR va]) (fun t k => by
    refine X4.iaload hx (j := (1 : Int32)) (v := (.int (0 : Int32))) (by rw [e4]; exact Ar6.1) (State.isArrayOf_alike hZ.alike Ar6.2.1) Ar6.2.2 hin6 hat6 (g := (mkF m 10 #[vR o0, vI i1, vI p2, vI p3, vI p4] [sI i1, sR nx, sI i1, sR nx, sR va])) rfl rfl (hb hby d10_10) _ ?_
    show SP p e below T4 (mkF m 11 #[vR o0, vI i1, vI p2, vI p3, vI p4] [sI i0, sI i1, sR nx, sR va]) _
    jvm_step X4.here [X4.here.top, hx, (hb hby d10_11), Value.category]
    show SP p e below T4 (mkF m 12 #[vR o0, vI i1, vI p2, vI p3, vI p4] [sI i0, sI i1, sR nx, sI i0, sR va]) _
    refine XS.iconst X4.here hx rfl (hb hby d10_12) ?_
    refine XS.iadd X4.here hx rfl (hb hby d10_13) rfl ?_
    exact k)
  have Vo8 := V_nx
  obtain ⟨cl8, Ar8, qa8, Sa8, Na8, Ha8, Ga8⟩ := Vo8
  have hin8 := inb_of (j := (1 : Int32)) Sa8 ⟨by decide, by decide⟩
  obtain ⟨T9, h9, X9, e9, W9, st9⟩ := stI X4 hx hZ e4 Ar8 (j := (1 : Int32)) hin8 (g := (mkF m 14 #[vR o0, vI i1, vI p2, vI p3, vI p4] [sI i1, sI i1, sR nx, sI i0, sR va])) rfl rfl (hb hby d10_14)
  have V9 : Arv Z h9 nx kx .int (2 : Int32) [(.int (0 : Int32)), (.int (1 : Int32))] (.int (0 : Int32)) := Arv.set Ar8 qa8 Sa8 Na8 Ha8 Ga8 rfl W9 1 rfl (Nat.le_of_ble_eq_true rfl)
  have f10 := Fld.other W9 F_next_o0 (Or.inl ne_o0_nx)
  have f11 := Fld.other W9 F_values_o0 (Or.inl ne_o0_nx)
  have f13 := Arv.other V_va W9 (Ne.symm ne_nx_va)
  have Z9 : n0 ≤ h9.size := Nat.le_trans Z0 (Nat.le_of_eq W9.size.symm)
  have K9 := K0.wr W9 (Or.inl (List.mem_of_getElem? (i := 0) rfl))
  have N9 := Fr.snoc X9 N0 g_nx
  have go14 := go7.st T9 (mkF m 25 #[vR o0, vI i1, vI p2, vI p3, vI p4] [(sJ (((p2.toInt64) <<< ((32 : Int32) &&& 0x3f).toInt64) ||| ((p3.toInt64) <<< (i1 &&& 0x3f).toInt64))), sI i0, sR va]) (fun t k => by
    refine st9 _ ?_
    show SP p e below T9 (mkF m 15 #[vR o0, vI i1, vI p2, vI p3, vI p4] [sI i0, sR va]) _
    refine XS.iloadN X9.here hx rfl (hb hby d10_15) rfl ?_
    refine XS.i2l X9.here hx rfl (hb hby d10_16) rfl ?_
    refine XS.bipush X9.here hx rfl (hb hby d10_17) ?_
    refine XS.lshl X9.here hx rfl (hb hby d10_19) rfl ?_
    refine XS.iloadN X9.here hx rfl (hb hby d10_20) rfl ?_
    refine XS.i2l X9.here hx rfl (hb hby d10_21) rfl ?_
    refine XS.iconst X9.here hx rfl (hb hby d10_22) ?_
    refine XS.lshl X9.here hx rfl (hb hby d10_23) rfl ?_
    refine XS.lor X9.here hx rfl (hb hby d10_24) rfl ?_
    exact k)
  have go16 := go14.st T9 (mkF m 35 #[vR o0, vI i1, vI p2, vI p3, vI p4] [(sI (if p4 = i0 then i0 else i1)), (sJ (((p2.toInt64) <<< ((32 : Int32) &&& 0x3f).toInt64) ||| ((p3.toInt64) <<< (i1 &&& 0x3f).toInt64))), sI i0, sR va]) (fun t k => by
    by_cases hc15 : p4 = (0 : Int32)
    · skip
      try simp only [if_pos hc15] at k
      refine XS.iload X9.here hx rfl (hb hby d10_25) rfl ?_
      refine XS.ifYes X9.here hx rfl (pc0 := 27) (pc' := 34) rfl (hb hby d10_27) rfl ((if0 _ _).trans (teq hc15).1) (by decide) (by decide) ?_
      refine XS.iconst X9.here hx rfl (hb hby d10_34) ?_
      exact k
    · skip
      try simp only [if_neg hc15] at k
      refine XS.iload X9.here hx rfl (hb hby d10_25) rfl ?_
      refine XS.ifNo X9.here hx rfl (hb hby d10_27) rfl ((if0 _ _).trans (feq hc15).1) ?_
      refine XS.iconst X9.here hx rfl (hb hby d10_30) ?_
      refine XS.goto X9.here hx rfl (pc0 := 31) (pc' := 35) rfl (hb hby d10_31) (by decide) (by decide) ?_
      exact k
    )
  have go17 := go16.st T9 (mkF m 37 #[vR o0, vI i1, vI p2, vI p3, vI p4] [(sJ ((((p2.toInt64) <<< ((32 : Int32) &&& 0x3f).toInt64) ||| ((p3.toInt64) <<< (i1 &&& 0x3f).toInt64)) ||| ((if p4 = i0 then i0 else i1).toInt64))), sI i0, sR va]) (fun t k => by
    refine XS.i2l X9.here hx rfl (hb hby d10_35) rfl ?_
    refine XS.lor X9.here hx rfl (hb hby d10_36) rfl ?_
    exact k)
  have Vo18 := f13
  obtain ⟨cl18, Ar18, qa18, Sa18, Na18, Ha18, Ga18⟩ := Vo18
  have hin18 := inb_of (j := (0 : Int32)) Sa18 ⟨by decide, by decide⟩
  obtain ⟨T19, h19, X19, e19, W19, st19⟩ := stJ X9 hx hZ e9 Ar18 (j := (0 : Int32)) hin18 (g := (mkF m 37 #[vR o0, vI i1, vI p2, vI p3, vI p4] [(sJ ((((p2.toInt64) <<< ((32 : Int32) &&& 0x3f).toInt64) ||| ((p3.toInt64) <<< (i1 &&& 0x3f).toInt64)) ||| ((if p4 = i0 then i0 else i1).toInt64))), sI i0, sR va])) rfl rfl (hb hby d10_37)
  have V19 : Arv Z h19 va kv .long (2 : Int32) [(.long ((((p2.toInt64) <<< ((32 : Int32) &&& 0x3f).toInt64) ||| ((p3.toInt64) <<< ((1 : Int32) &&& 0x3f).toInt64)) ||| ((if p4 = (0 : Int32) then (0 : Int32) else (1 : Int32)).toInt64))), (.long v1)] (.long (0 : Int64)) := Arv.set Ar18 qa18 Sa18 Na18 Ha18 Ga18 rfl W19 0 rfl (Nat.le_of_ble_eq_true rfl)
  have f20 := Fld.other W19 f10 (Or.inl ne_o0_va)
  have f21 := Fld.other W19 f11 (Or.inl ne_o0_va)
  have f23 := Arv.other V9 W19 ne_nx_va
  have Z19 : n0 ≤ h19.size := Nat.le_trans Z9 (Nat.le_of_eq W19.size.symm)
  have K19 := K9.wr W19 (Or.inl (List.mem_of_getElem? (i := 1) rfl))
  have N19 := Fr.snoc X19 N9 g_va
  have go24 := go17.st T19 (mkF m 38 #[vR o0, vI i1, vI p2, vI p3, vI p4] []) (fun t k => by
    refine st19 _ ?_
    exact k)
  obtain ⟨fs, hr, hrun, hended, hW, hsame⟩ := X19.leave (v := none) (fun _ => rfl)
  refine ⟨_, _, go24 _ ?_, hrun, hended, _, _, rfl, ?_, ⟨_, rfl⟩, hW, hsame.mono (by decide) (by decide)⟩
  · exact X19.returnOut hx Bd.returns (hb hby d10_38) hr
  · show Q_rm_put1_00 Z o0 p2 p3 p4 nx va kx kv v0 v1 h0 n0 _ T19.heap _
    rw [e19]
    exact ⟨rfl, N19, K19, f23, V19⟩
theorem d14_0 : decode jdk_65_method_30_code 0 = .ok (.iload_n 1, 1) := by decide +kernel
theorem d14_1 : decode jdk_65_method_30_code 1 = .ok (.iload_n 2, 1) := by decide +kernel
theorem d14_2 : decode jdk_65_method_30_code 2 = .ok (.if_icmp .le 44, 3) := by decide +kernel
theorem d14_46 : decode jdk_65_method_30_code 46 = .ok (.iload_n 1, 1) := by decide +kernel
theorem d14_47 : decode jdk_65_method_30_code 47 = .ok (.ifCond .ge 12, 3) := by decide +kernel
theorem d14_59 : decode jdk_65_method_30_code 59 = .ok (.iload_n 2, 1) := by decide +kernel
theorem d14_60 : decode jdk_65_method_30_code 60 = .ok (.iload_n 0, 1) := by decide +kernel
theorem d14_61 : decode jdk_65_method_30_code 61 = .ok (.if_icmp .le 12, 3) := by decide +kernel
theorem d14_73 : decode jdk_65_method_30_code 73 = .ok (.return_, 1) := by decide +kernel
theorem pn_rm_range : plainName "java/util/Arrays" = true := by first | (simp [plainName, overriddenIn]; done) | decide +kernel
theorem ef_rm_range (m : MethodId) : entryFrame m #[(.int (2 : Int32)), (.int (0 : Int32)), (.int (2 : Int32))] 3 = mkF m 0 #[.val (.int (2 : Int32)), .val (.int (0 : Int32)), .val (.int (2 : Int32))] [] := by first | (simp [entryFrame, mkF, argsToLocals, Value.category]; done) | rfl
def Q_rm_range (Z : State) (h0 : Heap) (n0 : Nat) (v : Option Value) (h : Heap) (L : List Loc) : Prop := v = none ∧ Fr n0 L ∧ h = h0
set_option maxRecDepth 65536 in
set_option maxHeartbeats 40000000 in
theorem rm_range (l : Launch) (Z : State) (a0 : Array Value) (hw : ∀ d ∈ tables_1, d.before a0 Z = true) (ws : List Jvm.Cond) (h0 : Heap) (n0 : Nat) (Z0 : n0 ≤ h0.size) :
    MetFree l yN10 (head1 (Jvm.Cond.code yN10 jdk_65_method_30_code 3 none :: ws) ({ frames := 0, cells := 0, slots := 0, locals := 0 } : Room)) (fun a U => a = #[(.int (2 : Int32)), (.int (0 : Int32)), (.int (2 : Int32))] ∧ Z.Warmed39 U.vm ∧ U.heap = h0) (fun _ _ _ _ _ => True) (fun _ U o U' => ∃ v L, o = .returned v ∧ Q_rm_range Z h0 n0 v U'.heap L ∧ FrameEnd U o U' L ({ frames := 0, cells := 0, slots := 0, locals := 0 } : Room).cells ({ frames := 0, cells := 0, slots := 0, locals := 0 } : Room).slots) := by
  refine MetFree.of_bodySF (plainFor_of_name pn_rm_range) hisR ?_
  intro p e s m args below meth c s₁ Bd hml0 hP hK
  obtain ⟨rfl, hZ, hh⟩ := hP
  have hx := Bd.exec
  have hby := Bd.bytes
  have hml : c.maxLocals = 3 := hml0
  have hown : s.vm.findClass "java/util/Arrays" = some m.cls := findClass_of_methodNamed Bd.named
  have hnm := (name_of_methodNamed Bd.named Bd.method).1
  have X0 : Stand p l e ({ frames := 0, cells := 0, slots := 0, locals := 0 } : Room) s m #[(.int (2 : Int32)), (.int (0 : Int32)), (.int (2 : Int32))] below meth c s₁ [] 0 0 := Stand.of_body Bd
  have e0 : s₁.heap = h0 := by rw [← hh, Bd.state]; rfl
  have N0 := Fr.nil n0
  have K0 := Keep.refl h0 []
  have go0 : Go p e below (s₁.setTop (entryFrame m #[(.int (2 : Int32)), (.int (0 : Int32)), (.int (2 : Int32))] 3)) (s₁.setTop (mkF m 0 #[vI i2, vI i0, vI i2] [])) := fun t k => castTop (ef_rm_range m) k
  have go4 := go0.st s₁ (mkF m 73 #[vI i2, vI i0, vI i2] []) (fun t k => by
    refine XS.iloadN X0.here hx rfl (hb hby d14_0) rfl ?_
    refine XS.iloadN X0.here hx rfl (hb hby d14_1) rfl ?_
    refine XS.icmpYes X0.here hx rfl (pc0 := 2) (pc' := 46) rfl (hb hby d14_2) rfl (flt ((by decide) : ¬ ((2 : Int32) < (0 : Int32)))).2.2.2 (by decide) (by decide) ?_
    refine XS.iloadN X0.here hx rfl (hb hby d14_46) rfl ?_
    refine XS.ifYes X0.here hx rfl (pc0 := 47) (pc' := 59) rfl (hb hby d14_47) rfl ((if0 _ _).trans (flt ((by decide) : ¬ ((0 : Int32) < (0 : Int32)))).2.1) (by decide) (by decide) ?_
    refine XS.iloadN X0.here hx rfl (hb hby d14_59) rfl ?_
    refine XS.iloadN X0.here hx rfl (hb hby d14_60) rfl ?_
    refine XS.icmpYes X0.here hx rfl (pc0 := 61) (pc' := 73) rfl (hb hby d14_61) rfl (flt ((by decide) : ¬ ((2 : Int32) < (2 : Int32)))).2.2.2 (by decide) (by decide) ?_
    exact k)
  obtain ⟨fs, hr, hrun, hended, hW, hsame⟩ := X0.leave (v := none) (fun _ => rfl)
  refine ⟨_, _, go4 _ ?_, hrun, hended, _, _, rfl, ?_, ⟨_, rfl⟩, hW, hsame.mono (by decide) (by decide)⟩
  · exact X0.returnOut hx Bd.returns (hb hby d14_73) hr
  · show Q_rm_range Z h0 n0 _ s₁.heap _
    rw [e0]
    exact ⟨rfl, N0, rfl⟩
theorem d17_0 : decode jdk_2529_method_15_code 0 = .ok (.iload_n 1, 1) := by decide +kernel
theorem d17_1 : decode jdk_2529_method_15_code 1 = .ok (.istore 4, 2) := by decide +kernel
theorem d17_3 : decode jdk_2529_method_15_code 3 = .ok (.iinc 4 1, 3) := by decide +kernel
theorem d17_6 : decode jdk_2529_method_15_code 6 = .ok (.iload 4, 2) := by decide +kernel
theorem d17_8 : decode jdk_2529_method_15_code 8 = .ok (.iload_n 2, 1) := by decide +kernel
theorem d17_9 : decode jdk_2529_method_15_code 9 = .ok (.if_icmp .ge 60, 3) := by decide +kernel
theorem d17_12 : decode jdk_2529_method_15_code 12 = .ok (.aload_n 0, 1) := by decide +kernel
theorem d17_13 : decode jdk_2529_method_15_code 13 = .ok (.iload 4, 2) := by decide +kernel
theorem d17_15 : decode jdk_2529_method_15_code 15 = .ok (.dup, 1) := by decide +kernel
theorem d17_16 : decode jdk_2529_method_15_code 16 = .ok (.istore_n 3, 1) := by decide +kernel
theorem d17_17 : decode jdk_2529_method_15_code 17 = .ok (.laload, 1) := by decide +kernel
theorem d17_18 : decode jdk_2529_method_15_code 18 = .ok (.lstore 5, 2) := by decide +kernel
theorem d17_20 : decode jdk_2529_method_15_code 20 = .ok (.lload 5, 2) := by decide +kernel
theorem d17_22 : decode jdk_2529_method_15_code 22 = .ok (.aload_n 0, 1) := by decide +kernel
theorem d17_23 : decode jdk_2529_method_15_code 23 = .ok (.iload_n 3, 1) := by decide +kernel
theorem d17_24 : decode jdk_2529_method_15_code 24 = .ok (.iconst 1, 1) := by decide +kernel
theorem d17_25 : decode jdk_2529_method_15_code 25 = .ok (.isub, 1) := by decide +kernel
theorem d17_26 : decode jdk_2529_method_15_code 26 = .ok (.laload, 1) := by decide +kernel
theorem d17_27 : decode jdk_2529_method_15_code 27 = .ok (.lcmp, 1) := by decide +kernel
theorem d17_28 : decode jdk_2529_method_15_code 28 = .ok (.ifCond .ge 38, 3) := by decide +kernel
theorem d17_31 : decode jdk_2529_method_15_code 31 = .ok (.iinc 3 (-1), 3) := by decide +kernel
theorem d17_34 : decode jdk_2529_method_15_code 34 = .ok (.iload_n 3, 1) := by decide +kernel
theorem d17_35 : decode jdk_2529_method_15_code 35 = .ok (.iload_n 1, 1) := by decide +kernel
theorem d17_36 : decode jdk_2529_method_15_code 36 = .ok (.if_icmp .lt 23, 3) := by decide +kernel
theorem d17_39 : decode jdk_2529_method_15_code 39 = .ok (.lload 5, 2) := by decide +kernel
theorem d17_41 : decode jdk_2529_method_15_code 41 = .ok (.aload_n 0, 1) := by decide +kernel
theorem d17_42 : decode jdk_2529_method_15_code 42 = .ok (.iload_n 3, 1) := by decide +kernel
theorem d17_43 : decode jdk_2529_method_15_code 43 = .ok (.laload, 1) := by decide +kernel
theorem d17_44 : decode jdk_2529_method_15_code 44 = .ok (.lcmp, 1) := by decide +kernel
theorem d17_45 : decode jdk_2529_method_15_code 45 = .ok (.ifCond .ge 14, 3) := by decide +kernel
theorem d17_48 : decode jdk_2529_method_15_code 48 = .ok (.aload_n 0, 1) := by decide +kernel
theorem d17_49 : decode jdk_2529_method_15_code 49 = .ok (.iload_n 3, 1) := by decide +kernel
theorem d17_50 : decode jdk_2529_method_15_code 50 = .ok (.iconst 1, 1) := by decide +kernel
theorem d17_51 : decode jdk_2529_method_15_code 51 = .ok (.iadd, 1) := by decide +kernel
theorem d17_52 : decode jdk_2529_method_15_code 52 = .ok (.aload_n 0, 1) := by decide +kernel
theorem d17_53 : decode jdk_2529_method_15_code 53 = .ok (.iload_n 3, 1) := by decide +kernel
theorem d17_54 : decode jdk_2529_method_15_code 54 = .ok (.laload, 1) := by decide +kernel
theorem d17_55 : decode jdk_2529_method_15_code 55 = .ok (.lastore, 1) := by decide +kernel
theorem d17_56 : decode jdk_2529_method_15_code 56 = .ok (.goto (-25), 3) := by decide +kernel
theorem d17_59 : decode jdk_2529_method_15_code 59 = .ok (.aload_n 0, 1) := by decide +kernel
theorem d17_60 : decode jdk_2529_method_15_code 60 = .ok (.iload_n 3, 1) := by decide +kernel
theorem d17_61 : decode jdk_2529_method_15_code 61 = .ok (.iconst 1, 1) := by decide +kernel
theorem d17_62 : decode jdk_2529_method_15_code 62 = .ok (.iadd, 1) := by decide +kernel
theorem d17_63 : decode jdk_2529_method_15_code 63 = .ok (.lload 5, 2) := by decide +kernel
theorem d17_65 : decode jdk_2529_method_15_code 65 = .ok (.lastore, 1) := by decide +kernel
theorem d17_66 : decode jdk_2529_method_15_code 66 = .ok (.goto (-63), 3) := by decide +kernel
theorem d17_69 : decode jdk_2529_method_15_code 69 = .ok (.return_, 1) := by decide +kernel
theorem pn_rm_ins : plainName "java/util/DualPivotQuicksort" = true := by first | (simp [plainName, overriddenIn]; done) | decide +kernel
theorem ef_rm_ins (m : MethodId) (o0 : Addr) : entryFrame m #[(.ref o0), (.int (0 : Int32)), (.int (2 : Int32))] 7 = mkF m 0 #[.val (.ref o0), .val (.int (0 : Int32)), .val (.int (2 : Int32)), uu, uu, uu, uu] [] := by first | (simp [entryFrame, mkF, argsToLocals, Value.category]; done) | rfl
def Q_rm_ins (Z : State) (o0 : Addr) (k0 : ClassId) (v0 : Int64) (v1 : Int64) (m0 : Int64) (m1 : Int64) (h0 : Heap) (n0 : Nat) (v : Option Value) (h : Heap) (L : List Loc) : Prop := v = none ∧ Fr n0 L ∧ Keep h0 h [o0] ∧ Arv Z h o0 k0 .long (2 : Int32) [(.long m0), (.long m1)] (.long (0 : Int64))
set_option maxRecDepth 65536 in
set_option maxHeartbeats 40000000 in
theorem rm_ins (l : Launch) (Z : State) (a0 : Array Value) (hw : ∀ d ∈ tables_1, d.before a0 Z = true) (ws : List Jvm.Cond) (o0 : Addr) (k0 : ClassId) (v0 : Int64) (v1 : Int64) (m0 : Int64) (m1 : Int64) (h0 : Heap) (n0 : Nat) (Z0 : n0 ≤ h0.size) (V_o0 : Arv Z h0 o0 k0 .long (2 : Int32) [(.long v0), (.long v1)] (.long (0 : Int64))) (g_o0 : n0 ≤ o0) (hl : (v1 < v0 ∧ m0 = v1 ∧ m1 = v0) ∨ (¬ v1 < v0 ∧ m0 = v0 ∧ m1 = v1)) :
    MetFree l yN11 (head1 (Jvm.Cond.code yN11 jdk_2529_method_15_code 7 none :: ws) ({ frames := 0, cells := 0, slots := 0, locals := 0 } : Room)) (fun a U => a = #[(.ref o0), (.int (0 : Int32)), (.int (2 : Int32))] ∧ Z.Warmed39 U.vm ∧ U.heap = h0) (fun _ _ _ _ _ => True) (fun _ U o U' => ∃ v L, o = .returned v ∧ Q_rm_ins Z o0 k0 v0 v1 m0 m1 h0 n0 v U'.heap L ∧ FrameEnd U o U' L ({ frames := 0, cells := 0, slots := 0, locals := 0 } : Room).cells ({ frames := 0, cells := 0, slots := 0, locals := 0 } : Room).slots) := by
  refine MetFree.of_bodySF (plainFor_of_name pn_rm_ins) hisR ?_
  intro p e s m args below meth c s₁ Bd hml0 hP hK
  obtain ⟨rfl, hZ, hh⟩ := hP
  have hx := Bd.exec
  have hby := Bd.bytes
  have hml : c.maxLocals = 7 := hml0
  have hown : s.vm.findClass "java/util/DualPivotQuicksort" = some m.cls := findClass_of_methodNamed Bd.named
  have hnm := (name_of_methodNamed Bd.named Bd.method).1
  have X0 : Stand p l e ({ frames := 0, cells := 0, slots := 0, locals := 0 } : Room) s m #[(.ref o0), (.int (0 : Int32)), (.int (2 : Int32))] below meth c s₁ [] 0 0 := Stand.of_body Bd
  have e0 : s₁.heap = h0 := by rw [← hh, Bd.state]; rfl
  have N0 := Fr.nil n0
  have K0 := Keep.refl h0 [o0]
  have go0 : Go p e below (s₁.setTop (entryFrame m #[(.ref o0), (.int (0 : Int32)), (.int (2 : Int32))] 7)) (s₁.setTop (mkF m 0 #[vR o0, vI i0, vI i2, uu, uu, uu, uu] [])) := fun t k => castTop (ef_rm_ins m o0) k
  rcases hl with ⟨hl, q1, q2⟩ | ⟨hl, q1, q2⟩
  · skip
    have go2 := go0.st s₁ (mkF m 17 #[vR o0, vI i0, vI i2, vI i1, vI i1, uu, uu] [sI i1, sR o0]) (fun t k => by
      refine XS.iloadN X0.here hx rfl (hb hby d17_0) rfl ?_
      refine XS.istore X0.here hx rfl (hb hby d17_1) rfl (l' := #[vR o0, vI i0, vI i2, uu, vI i0, uu, uu]) rfl ?_
      refine XS.iinc X0.here hx rfl (hb hby d17_3) rfl (l' := #[vR o0, vI i0, vI i2, uu, vI i1, uu, uu]) rfl ?_
      refine XS.iload X0.here hx rfl (hb hby d17_6) rfl ?_
      refine XS.iloadN X0.here hx rfl (hb hby d17_8) rfl ?_
      refine XS.icmpNo X0.here hx rfl (hb hby d17_9) rfl (tlt ((by decide) : (1 : Int32) < (2 : Int32))).2.1 ?_
      refine XS.aloadN X0.here hx rfl (hb hby d17_12) rfl rfl ?_
      refine XS.iload X0.here hx rfl (hb hby d17_13) rfl ?_
      show SP p e below s₁ (mkF m 15 #[vR o0, vI i0, vI i2, uu, vI i1, uu, uu] [sI i1, sR o0]) _
      refine XS.dup X0.here hx rfl (hb hby d17_15) rfl rfl ?_
      refine XS.istoreN X0.here hx rfl (hb hby d17_16) rfl (l' := #[vR o0, vI i0, vI i2, vI i1, vI i1, uu, uu]) rfl ?_
      exact k)
    have Vo3 := V_o0
    obtain ⟨cl3, Ar3, qa3, Sa3, Na3, Ha3, Ga3⟩ := Vo3
    have hin3 := inb_of (j := (1 : Int32)) Sa3 ⟨by decide, by decide⟩
    have hat3 : cl3.slots[((1 : Int32)).toNatClampNeg]? = some (.long v1) := Has.at Ha3 hin3 rfl
    have go4 := go2.st s₁ (mkF m 26 #[vR o0, vI i0, vI i2, vI i1, vI i1, vJ v1, .second] [sI i0, sR o0, sJ v1]) (fun t k => by
      refine X0.laload hx (j := (1 : Int32)) (v := (.long v1)) (by rw [e0]; exact Ar3.1) (State.isArrayOf_alike hZ.alike Ar3.2.1) Ar3.2.2 hin3 hat3 (g := (mkF m 17 #[vR o0, vI i0, vI i2, vI i1, vI i1, uu, uu] [sI i1, sR o0])) rfl rfl (hb hby d17_17) _ ?_
      refine XS.lstore X0.here hx rfl (hb hby d17_18) rfl (l' := #[vR o0, vI i0, vI i2, vI i1, vI i1, vJ v1, .second]) rfl ?_
      refine XS.lload X0.here hx rfl (hb hby d17_20) rfl ?_
      refine XS.aloadN X0.here hx rfl (hb hby d17_22) rfl rfl ?_
      refine XS.iloadN X0.here hx rfl (hb hby d17_23) rfl ?_
      refine XS.iconst X0.here hx rfl (hb hby d17_24) ?_
      refine XS.isub X0.here hx rfl (hb hby d17_25) rfl ?_
      exact k)
    have Vo5 := V_o0
    obtain ⟨cl5, Ar5, qa5, Sa5, Na5, Ha5, Ga5⟩ := Vo5
    have hin5 := inb_of (j := (0 : Int32)) Sa5 ⟨by decide, by decide⟩
    have hat5 : cl5.slots[((0 : Int32)).toNatClampNeg]? = some (.long v0) := Has.at Ha5 hin5 rfl
    have go8 := go4.st s₁ (mkF m 43 #[vR o0, vI i0, vI i2, vI i0, vI i1, vJ v1, .second] [sI i0, sR o0, sJ v1]) (fun t k => by
      refine X0.laload hx (j := (0 : Int32)) (v := (.long v0)) (by rw [e0]; exact Ar5.1) (State.isArrayOf_alike hZ.alike Ar5.2.1) Ar5.2.2 hin5 hat5 (g := (mkF m 26 #[vR o0, vI i0, vI i2, vI i1, vI i1, vJ v1, .second] [sI i0, sR o0, sJ v1])) rfl rfl (hb hby d17_26) _ ?_
      refine XS.lcmp X0.here hx rfl (hb hby d17_27) rfl ?_
      refine XS.ifNo X0.here hx rfl (hb hby d17_28) rfl ((if0 _ _).trans (tlt ((lw_lt _ _).mpr (hl : v1 < v0))).2.1) ?_
      refine XS.iinc X0.here hx rfl (hb hby d17_31) rfl (l' := #[vR o0, vI i0, vI i2, vI i0, vI i1, vJ v1, .second]) rfl ?_
      refine XS.iloadN X0.here hx rfl (hb hby d17_34) rfl ?_
      refine XS.iloadN X0.here hx rfl (hb hby d17_35) rfl ?_
      refine XS.icmpNo X0.here hx rfl (hb hby d17_36) rfl (flt ((by decide) : ¬ ((0 : Int32) < (0 : Int32)))).1 ?_
      refine XS.lload X0.here hx rfl (hb hby d17_39) rfl ?_
      show SP p e below s₁ (mkF m 41 #[vR o0, vI i0, vI i2, vI i0, vI i1, vJ v1, .second] [sJ v1]) _
      refine XS.aloadN X0.here hx rfl (hb hby d17_41) rfl rfl ?_
      refine XS.iloadN X0.here hx rfl (hb hby d17_42) rfl ?_
      exact k)
    have Vo9 := V_o0
    obtain ⟨cl9, Ar9, qa9, Sa9, Na9, Ha9, Ga9⟩ := Vo9
    have hin9 := inb_of (j := (0 : Int32)) Sa9 ⟨by decide, by decide⟩
    have hat9 : cl9.slots[((0 : Int32)).toNatClampNeg]? = some (.long v0) := Has.at Ha9 hin9 rfl
    have go11 := go8.st s₁ (mkF m 54 #[vR o0, vI i0, vI i2, vI i0, vI i1, vJ v1, .second] [sI i0, sR o0, sI i1, sR o0]) (fun t k => by
      refine X0.laload hx (j := (0 : Int32)) (v := (.long v0)) (by rw [e0]; exact Ar9.1) (State.isArrayOf_alike hZ.alike Ar9.2.1) Ar9.2.2 hin9 hat9 (g := (mkF m 43 #[vR o0, vI i0, vI i2, vI i0, vI i1, vJ v1, .second] [sI i0, sR o0, sJ v1])) rfl rfl (hb hby d17_43) _ ?_
      refine XS.lcmp X0.here hx rfl (hb hby d17_44) rfl ?_
      refine XS.ifNo X0.here hx rfl (hb hby d17_45) rfl ((if0 _ _).trans (tlt ((lw_lt _ _).mpr (hl : v1 < v0))).2.1) ?_
      refine XS.aloadN X0.here hx rfl (hb hby d17_48) rfl rfl ?_
      refine XS.iloadN X0.here hx rfl (hb hby d17_49) rfl ?_
      refine XS.iconst X0.here hx rfl (hb hby d17_50) ?_
      refine XS.iadd X0.here hx rfl (hb hby d17_51) rfl ?_
      refine XS.aloadN X0.here hx rfl (hb hby d17_52) rfl rfl ?_
      show SP p e below s₁ (mkF m 53 #[vR o0, vI i0, vI i2, vI i0, vI i1, vJ v1, .second] [sR o0, sI i1, sR o0]) _
      refine XS.iloadN X0.here hx rfl (hb hby d17_53) rfl ?_
      exact k)
    have Vo12 := V_o0
    obtain ⟨cl12, Ar12, qa12, Sa12, Na12, Ha12, Ga12⟩ := Vo12
    have hin12 := inb_of (j := (0 : Int32)) Sa12 ⟨by decide, by decide⟩
    have hat12 : cl12.slots[((0 : Int32)).toNatClampNeg]? = some (.long v0) := Has.at Ha12 hin12 rfl
    have go13 := go11.st s₁ (mkF m 55 #[vR o0, vI i0, vI i2, vI i0, vI i1, vJ v1, .second] [sJ v0, sI i1, sR o0]) (fun t k => by
      refine X0.laload hx (j := (0 : Int32)) (v := (.long v0)) (by rw [e0]; exact Ar12.1) (State.isArrayOf_alike hZ.alike Ar12.2.1) Ar12.2.2 hin12 hat12 (g := (mkF m 54 #[vR o0, vI i0, vI i2, vI i0, vI i1, vJ v1, .second] [sI i0, sR o0, sI i1, sR o0])) rfl rfl (hb hby d17_54) _ ?_
      exact k)
    have Vo14 := V_o0
    obtain ⟨cl14, Ar14, qa14, Sa14, Na14, Ha14, Ga14⟩ := Vo14
    have hin14 := inb_of (j := (1 : Int32)) Sa14 ⟨by decide, by decide⟩
    obtain ⟨T15, h15, X15, e15, W15, st15⟩ := stJ X0 hx hZ e0 Ar14 (j := (1 : Int32)) hin14 (g := (mkF m 55 #[vR o0, vI i0, vI i2, vI i0, vI i1, vJ v1, .second] [sJ v0, sI i1, sR o0])) rfl rfl (hb hby d17_55)
    have V15 : Arv Z h15 o0 k0 .long (2 : Int32) [(.long v0), (.long v0)] (.long (0 : Int64)) := Arv.set Ar14 qa14 Sa14 Na14 Ha14 Ga14 rfl W15 1 rfl (Nat.le_of_ble_eq_true rfl)
    have Z15 : n0 ≤ h15.size := Nat.le_trans Z0 (Nat.le_of_eq W15.size.symm)
    have K15 := K0.wr W15 (Or.inl (List.mem_of_getElem? (i := 0) rfl))
    have N15 := Fr.snoc X15 N0 g_o0
    have go18 := go13.st T15 (mkF m 65 #[vR o0, vI i0, vI i2, vI ((-1 : Int32)), vI i1, vJ v1, .second] [sJ v1, sI i0, sR o0]) (fun t k => by
      refine st15 _ ?_
      show SP p e below T15 (mkF m 56 #[vR o0, vI i0, vI i2, vI i0, vI i1, vJ v1, .second] []) _
      refine XS.goto X15.here hx rfl (pc0 := 56) (pc' := 31) rfl (hb hby d17_56) (by decide) (by decide) ?_
      refine XS.iinc X15.here hx rfl (hb hby d17_31) rfl (l' := #[vR o0, vI i0, vI i2, vI ((-1 : Int32)), vI i1, vJ v1, .second]) rfl ?_
      refine XS.iloadN X15.here hx rfl (hb hby d17_34) rfl ?_
      refine XS.iloadN X15.here hx rfl (hb hby d17_35) rfl ?_
      refine XS.icmpYes X15.here hx rfl (pc0 := 36) (pc' := 59) rfl (hb hby d17_36) rfl (tlt ((by decide) : (-1 : Int32) < (0 : Int32))).1 (by decide) (by decide) ?_
      refine XS.aloadN X15.here hx rfl (hb hby d17_59) rfl rfl ?_
      refine XS.iloadN X15.here hx rfl (hb hby d17_60) rfl ?_
      refine XS.iconst X15.here hx rfl (hb hby d17_61) ?_
      refine XS.iadd X15.here hx rfl (hb hby d17_62) rfl ?_
      show SP p e below T15 (mkF m 63 #[vR o0, vI i0, vI i2, vI ((-1 : Int32)), vI i1, vJ v1, .second] [sI i0, sR o0]) _
      refine XS.lload X15.here hx rfl (hb hby d17_63) rfl ?_
      exact k)
    have Vo19 := V15
    obtain ⟨cl19, Ar19, qa19, Sa19, Na19, Ha19, Ga19⟩ := Vo19
    have hin19 := inb_of (j := (0 : Int32)) Sa19 ⟨by decide, by decide⟩
    obtain ⟨T20, h20, X20, e20, W20, st20⟩ := stJ X15 hx hZ e15 Ar19 (j := (0 : Int32)) hin19 (g := (mkF m 65 #[vR o0, vI i0, vI i2, vI ((-1 : Int32)), vI i1, vJ v1, .second] [sJ v1, sI i0, sR o0])) rfl rfl (hb hby d17_65)
    have V20 : Arv Z h20 o0 k0 .long (2 : Int32) [(.long v1), (.long v0)] (.long (0 : Int64)) := Arv.set Ar19 qa19 Sa19 Na19 Ha19 Ga19 rfl W20 0 rfl (Nat.le_of_ble_eq_true rfl)
    have Z20 : n0 ≤ h20.size := Nat.le_trans Z15 (Nat.le_of_eq W20.size.symm)
    have K20 := K15.wr W20 (Or.inl (List.mem_of_getElem? (i := 0) rfl))
    have N20 := Fr.snoc X20 N15 g_o0
    have go23 := go18.st T20 (mkF m 69 #[vR o0, vI i0, vI i2, vI ((-1 : Int32)), vI i2, vJ v1, .second] []) (fun t k => by
      refine st20 _ ?_
      show SP p e below T20 (mkF m 66 #[vR o0, vI i0, vI i2, vI ((-1 : Int32)), vI i1, vJ v1, .second] []) _
      refine XS.goto X20.here hx rfl (pc0 := 66) (pc' := 3) rfl (hb hby d17_66) (by decide) (by decide) ?_
      refine XS.iinc X20.here hx rfl (hb hby d17_3) rfl (l' := #[vR o0, vI i0, vI i2, vI ((-1 : Int32)), vI i2, vJ v1, .second]) rfl ?_
      refine XS.iload X20.here hx rfl (hb hby d17_6) rfl ?_
      refine XS.iloadN X20.here hx rfl (hb hby d17_8) rfl ?_
      refine XS.icmpYes X20.here hx rfl (pc0 := 9) (pc' := 69) rfl (hb hby d17_9) rfl (flt ((by decide) : ¬ ((2 : Int32) < (2 : Int32)))).2.1 (by decide) (by decide) ?_
      exact k)
    obtain ⟨fs, hr, hrun, hended, hW, hsame⟩ := X20.leave (v := none) (fun _ => rfl)
    refine ⟨_, _, go23 _ ?_, hrun, hended, _, _, rfl, ?_, ⟨_, rfl⟩, hW, hsame.mono (by decide) (by decide)⟩
    · exact X20.returnOut hx Bd.returns (hb hby d17_69) hr
    · show Q_rm_ins Z o0 k0 v0 v1 m0 m1 h0 n0 _ T20.heap _
      rw [e20]
      exact ⟨rfl, N20, K20, by rw [q1, q2]; exact V20⟩
  · skip
    have go25 := go0.st s₁ (mkF m 17 #[vR o0, vI i0, vI i2, vI i1, vI i1, uu, uu] [sI i1, sR o0]) (fun t k => by
      refine XS.iloadN X0.here hx rfl (hb hby d17_0) rfl ?_
      refine XS.istore X0.here hx rfl (hb hby d17_1) rfl (l' := #[vR o0, vI i0, vI i2, uu, vI i0, uu, uu]) rfl ?_
      refine XS.iinc X0.here hx rfl (hb hby d17_3) rfl (l' := #[vR o0, vI i0, vI i2, uu, vI i1, uu, uu]) rfl ?_
      refine XS.iload X0.here hx rfl (hb hby d17_6) rfl ?_
      refine XS.iloadN X0.here hx rfl (hb hby d17_8) rfl ?_
      refine XS.icmpNo X0.here hx rfl (hb hby d17_9) rfl (tlt ((by decide) : (1 : Int32) < (2 : Int32))).2.1 ?_
      refine XS.aloadN X0.here hx rfl (hb hby d17_12) rfl rfl ?_
      refine XS.iload X0.here hx rfl (hb hby d17_13) rfl ?_
      show SP p e below s₁ (mkF m 15 #[vR o0, vI i0, vI i2, uu, vI i1, uu, uu] [sI i1, sR o0]) _
      refine XS.dup X0.here hx rfl (hb hby d17_15) rfl rfl ?_
      refine XS.istoreN X0.here hx rfl (hb hby d17_16) rfl (l' := #[vR o0, vI i0, vI i2, vI i1, vI i1, uu, uu]) rfl ?_
      exact k)
    have Vo26 := V_o0
    obtain ⟨cl26, Ar26, qa26, Sa26, Na26, Ha26, Ga26⟩ := Vo26
    have hin26 := inb_of (j := (1 : Int32)) Sa26 ⟨by decide, by decide⟩
    have hat26 : cl26.slots[((1 : Int32)).toNatClampNeg]? = some (.long v1) := Has.at Ha26 hin26 rfl
    have go27 := go25.st s₁ (mkF m 26 #[vR o0, vI i0, vI i2, vI i1, vI i1, vJ v1, .second] [sI i0, sR o0, sJ v1]) (fun t k => by
      refine X0.laload hx (j := (1 : Int32)) (v := (.long v1)) (by rw [e0]; exact Ar26.1) (State.isArrayOf_alike hZ.alike Ar26.2.1) Ar26.2.2 hin26 hat26 (g := (mkF m 17 #[vR o0, vI i0, vI i2, vI i1, vI i1, uu, uu] [sI i1, sR o0])) rfl rfl (hb hby d17_17) _ ?_
      refine XS.lstore X0.here hx rfl (hb hby d17_18) rfl (l' := #[vR o0, vI i0, vI i2, vI i1, vI i1, vJ v1, .second]) rfl ?_
      refine XS.lload X0.here hx rfl (hb hby d17_20) rfl ?_
      refine XS.aloadN X0.here hx rfl (hb hby d17_22) rfl rfl ?_
      refine XS.iloadN X0.here hx rfl (hb hby d17_23) rfl ?_
      refine XS.iconst X0.here hx rfl (hb hby d17_24) ?_
      refine XS.isub X0.here hx rfl (hb hby d17_25) rfl ?_
      exact k)
    have Vo28 := V_o0
    obtain ⟨cl28, Ar28, qa28, Sa28, Na28, Ha28, Ga28⟩ := Vo28
    have hin28 := inb_of (j := (0 : Int32)) Sa28 ⟨by decide, by decide⟩
    have hat28 : cl28.slots[((0 : Int32)).toNatClampNeg]? = some (.long v0) := Has.at Ha28 hin28 rfl
    have go31 := go27.st s₁ (mkF m 69 #[vR o0, vI i0, vI i2, vI i1, vI i2, vJ v1, .second] []) (fun t k => by
      refine X0.laload hx (j := (0 : Int32)) (v := (.long v0)) (by rw [e0]; exact Ar28.1) (State.isArrayOf_alike hZ.alike Ar28.2.1) Ar28.2.2 hin28 hat28 (g := (mkF m 26 #[vR o0, vI i0, vI i2, vI i1, vI i1, vJ v1, .second] [sI i0, sR o0, sJ v1])) rfl rfl (hb hby d17_26) _ ?_
      refine XS.lcmp X0.here hx rfl (hb hby d17_27) rfl ?_
      refine XS.ifYes X0.here hx rfl (pc0 := 28) (pc' := 66) rfl (hb hby d17_28) rfl ((if0 _ _).trans (flt (fun q => (hl : ¬ (v1 < v0)) ((lw_lt _ _).mp q))).2.1) (by decide) (by decide) ?_
      refine XS.goto X0.here hx rfl (pc0 := 66) (pc' := 3) rfl (hb hby d17_66) (by decide) (by decide) ?_
      refine XS.iinc X0.here hx rfl (hb hby d17_3) rfl (l' := #[vR o0, vI i0, vI i2, vI i1, vI i2, vJ v1, .second]) rfl ?_
      refine XS.iload X0.here hx rfl (hb hby d17_6) rfl ?_
      refine XS.iloadN X0.here hx rfl (hb hby d17_8) rfl ?_
      refine XS.icmpYes X0.here hx rfl (pc0 := 9) (pc' := 69) rfl (hb hby d17_9) rfl (flt ((by decide) : ¬ ((2 : Int32) < (2 : Int32)))).2.1 (by decide) (by decide) ?_
      exact k)
    obtain ⟨fs, hr, hrun, hended, hW, hsame⟩ := X0.leave (v := none) (fun _ => rfl)
    refine ⟨_, _, go31 _ ?_, hrun, hended, _, _, rfl, ?_, ⟨_, rfl⟩, hW, hsame.mono (by decide) (by decide)⟩
    · exact X0.returnOut hx Bd.returns (hb hby d17_69) hr
    · show Q_rm_ins Z o0 k0 v0 v1 m0 m1 h0 n0 _ s₁.heap _
      rw [e0]
      exact ⟨rfl, N0, K0, by rw [q1, q2]; exact V_o0⟩
theorem d16_0 : decode jdk_2529_method_13_code 0 = .ok (.iload 4, 2) := by decide +kernel
theorem d16_2 : decode jdk_2529_method_13_code 2 = .ok (.iconst 1, 1) := by decide +kernel
theorem d16_3 : decode jdk_2529_method_13_code 3 = .ok (.isub, 1) := by decide +kernel
theorem d16_4 : decode jdk_2529_method_13_code 4 = .ok (.istore 5, 2) := by decide +kernel
theorem d16_6 : decode jdk_2529_method_13_code 6 = .ok (.iload 4, 2) := by decide +kernel
theorem d16_8 : decode jdk_2529_method_13_code 8 = .ok (.iload_n 3, 1) := by decide +kernel
theorem d16_9 : decode jdk_2529_method_13_code 9 = .ok (.isub, 1) := by decide +kernel
theorem d16_10 : decode jdk_2529_method_13_code 10 = .ok (.istore 6, 2) := by decide +kernel
theorem d16_12 : decode jdk_2529_method_13_code 12 = .ok (.iload 6, 2) := by decide +kernel
theorem d16_14 : decode jdk_2529_method_13_code 14 = .ok (.bipush 65, 2) := by decide +kernel
theorem d16_16 : decode jdk_2529_method_13_code 16 = .ok (.iload_n 2, 1) := by decide +kernel
theorem d16_17 : decode jdk_2529_method_13_code 17 = .ok (.iadd, 1) := by decide +kernel
theorem d16_18 : decode jdk_2529_method_13_code 18 = .ok (.if_icmp .ge 28, 3) := by decide +kernel
theorem d16_21 : decode jdk_2529_method_13_code 21 = .ok (.iload_n 2, 1) := by decide +kernel
theorem d16_22 : decode jdk_2529_method_13_code 22 = .ok (.iconst 1, 1) := by decide +kernel
theorem d16_23 : decode jdk_2529_method_13_code 23 = .ok (.iand, 1) := by decide +kernel
theorem d16_24 : decode jdk_2529_method_13_code 24 = .ok (.ifCond .le 22, 3) := by decide +kernel
theorem d16_46 : decode jdk_2529_method_13_code 46 = .ok (.iload 6, 2) := by decide +kernel
theorem d16_48 : decode jdk_2529_method_13_code 48 = .ok (.bipush 44, 2) := by decide +kernel
theorem d16_50 : decode jdk_2529_method_13_code 50 = .ok (.if_icmp .ge 11, 3) := by decide +kernel
theorem d16_53 : decode jdk_2529_method_13_code 53 = .ok (.aload_n 1, 1) := by decide +kernel
theorem d16_54 : decode jdk_2529_method_13_code 54 = .ok (.iload_n 3, 1) := by decide +kernel
theorem d16_55 : decode jdk_2529_method_13_code 55 = .ok (.iload 4, 2) := by decide +kernel
theorem d16_57 : decode jdk_2529_method_13_code 57 = .ok (.invokestatic 105, 3) := by decide +kernel
theorem d16_60 : decode jdk_2529_method_13_code 60 = .ok (.return_, 1) := by decide +kernel
theorem pn_rm_dp5 : plainName "java/util/DualPivotQuicksort" = true := by first | (simp [plainName, overriddenIn]; done) | decide +kernel
theorem pd_rm_dp5_0 : parseMethodDescriptor "([JII)V" = some ⟨[(.array .long), .int, .int], none⟩ := by decide +kernel
theorem ef_rm_dp5 (m : MethodId) (o1 : Addr) : entryFrame m #[.null, (.ref o1), (.int (0 : Int32)), (.int (0 : Int32)), (.int (2 : Int32))] 25 = mkF m 0 #[.val .null, .val (.ref o1), .val (.int (0 : Int32)), .val (.int (0 : Int32)), .val (.int (2 : Int32)), uu, uu, uu, uu, uu, uu, uu, uu, uu, uu, uu, uu, uu, uu, uu, uu, uu, uu, uu, uu] [] := by first | (simp [entryFrame, mkF, argsToLocals, Value.category]; done) | rfl
def Q_rm_dp5 (Z : State) (o1 : Addr) (k0 : ClassId) (v0 : Int64) (v1 : Int64) (m0 : Int64) (m1 : Int64) (h0 : Heap) (n0 : Nat) (v : Option Value) (h : Heap) (L : List Loc) : Prop := v = none ∧ Fr n0 L ∧ Keep h0 h [o1] ∧ Arv Z h o1 k0 .long (2 : Int32) [(.long m0), (.long m1)] (.long (0 : Int64))
set_option maxRecDepth 65536 in
set_option maxHeartbeats 40000000 in
theorem rm_dp5 (l : Launch) (Z : State) (a0 : Array Value) (hw : ∀ d ∈ tables_1, d.before a0 Z = true) (ws : List Jvm.Cond) (o1 : Addr) (k0 : ClassId) (v0 : Int64) (v1 : Int64) (m0 : Int64) (m1 : Int64) (h0 : Heap) (n0 : Nat) (Z0 : n0 ≤ h0.size) (V_o1 : Arv Z h0 o1 k0 .long (2 : Int32) [(.long v0), (.long v1)] (.long (0 : Int64))) (g_o1 : n0 ≤ o1) (hl : (v1 < v0 ∧ m0 = v1 ∧ m1 = v0) ∨ (¬ v1 < v0 ∧ m0 = v0 ∧ m1 = v1)) :
    MetFree l yN12 (head1 (Jvm.Cond.code yN12 jdk_2529_method_13_code 25 none :: ws) ({ frames := 1, cells := 0, slots := 0, locals := 18 } : Room)) (fun a U => a = #[.null, (.ref o1), (.int (0 : Int32)), (.int (0 : Int32)), (.int (2 : Int32))] ∧ Z.Warmed39 U.vm ∧ U.heap = h0) (fun _ _ _ _ _ => True) (fun _ U o U' => ∃ v L, o = .returned v ∧ Q_rm_dp5 Z o1 k0 v0 v1 m0 m1 h0 n0 v U'.heap L ∧ FrameEnd U o U' L ({ frames := 1, cells := 0, slots := 0, locals := 18 } : Room).cells ({ frames := 1, cells := 0, slots := 0, locals := 18 } : Room).slots) := by
  refine MetFree.of_bodySF (plainFor_of_name pn_rm_dp5) hisR ?_
  intro p e s m args below meth c s₁ Bd hml0 hP hK
  obtain ⟨rfl, hZ, hh⟩ := hP
  have hx := Bd.exec
  have hby := Bd.bytes
  have hml : c.maxLocals = 25 := hml0
  have hown : s.vm.findClass "java/util/DualPivotQuicksort" = some m.cls := findClass_of_methodNamed Bd.named
  have hnm := (name_of_methodNamed Bd.named Bd.method).1
  have X0 : Stand p l e ({ frames := 1, cells := 0, slots := 0, locals := 18 } : Room) s m #[.null, (.ref o1), (.int (0 : Int32)), (.int (0 : Int32)), (.int (2 : Int32))] below meth c s₁ [] 0 0 := Stand.of_body Bd
  have e0 : s₁.heap = h0 := by rw [← hh, Bd.state]; rfl
  have N0 := Fr.nil n0
  have K0 := Keep.refl h0 [o1]
  have go0 : Go p e below (s₁.setTop (entryFrame m #[.null, (.ref o1), (.int (0 : Int32)), (.int (0 : Int32)), (.int (2 : Int32))] 25)) (s₁.setTop (mkF m 0 #[.val .null, vR o1, vI i0, vI i0, vI i2, uu, uu, uu, uu, uu, uu, uu, uu, uu, uu, uu, uu, uu, uu, uu, uu, uu, uu, uu, uu] [])) := fun t k => castTop (ef_rm_dp5 m o1) k
  have go4 := go0.st s₁ (mkF m 57 #[.val .null, vR o1, vI i0, vI i0, vI i2, vI i1, vI i2, uu, uu, uu, uu, uu, uu, uu, uu, uu, uu, uu, uu, uu, uu, uu, uu, uu, uu] [sI i2, sI i0, sR o1]) (fun t k => by
    refine XS.iload X0.here hx rfl (hb hby d16_0) rfl ?_
    refine XS.iconst X0.here hx rfl (hb hby d16_2) ?_
    refine XS.isub X0.here hx rfl (hb hby d16_3) rfl ?_
    refine XS.istore X0.here hx rfl (hb hby d16_4) rfl (l' := #[.val .null, vR o1, vI i0, vI i0, vI i2, vI i1, uu, uu, uu, uu, uu, uu, uu, uu, uu, uu, uu, uu, uu, uu, uu, uu, uu, uu, uu]) rfl ?_
    refine XS.iload X0.here hx rfl (hb hby d16_6) rfl ?_
    refine XS.iloadN X0.here hx rfl (hb hby d16_8) rfl ?_
    refine XS.isub X0.here hx rfl (hb hby d16_9) rfl ?_
    refine XS.istore X0.here hx rfl (hb hby d16_10) rfl (l' := #[.val .null, vR o1, vI i0, vI i0, vI i2, vI i1, vI i2, uu, uu, uu, uu, uu, uu, uu, uu, uu, uu, uu, uu, uu, uu, uu, uu, uu, uu]) rfl ?_
    show SP p e below s₁ (mkF m 12 #[.val .null, vR o1, vI i0, vI i0, vI i2, vI i1, vI i2, uu, uu, uu, uu, uu, uu, uu, uu, uu, uu, uu, uu, uu, uu, uu, uu, uu, uu] []) _
    refine XS.iload X0.here hx rfl (hb hby d16_12) rfl ?_
    refine XS.bipush X0.here hx rfl (hb hby d16_14) ?_
    refine XS.iloadN X0.here hx rfl (hb hby d16_16) rfl ?_
    refine XS.iadd X0.here hx rfl (hb hby d16_17) rfl ?_
    refine XS.icmpNo X0.here hx rfl (hb hby d16_18) rfl (tlt ((by decide) : (2 : Int32) < (65 : Int32))).2.1 ?_
    refine XS.iloadN X0.here hx rfl (hb hby d16_21) rfl ?_
    refine XS.iconst X0.here hx rfl (hb hby d16_22) ?_
    refine XS.iand X0.here hx rfl (hb hby d16_23) rfl ?_
    refine XS.ifYes X0.here hx rfl (pc0 := 24) (pc' := 46) rfl (hb hby d16_24) rfl ((if0 _ _).trans (flt ((by decide) : ¬ ((0 : Int32) < (0 : Int32)))).2.2.2) (by decide) (by decide) ?_
    show SP p e below s₁ (mkF m 46 #[.val .null, vR o1, vI i0, vI i0, vI i2, vI i1, vI i2, uu, uu, uu, uu, uu, uu, uu, uu, uu, uu, uu, uu, uu, uu, uu, uu, uu, uu] []) _
    refine XS.iload X0.here hx rfl (hb hby d16_46) rfl ?_
    refine XS.bipush X0.here hx rfl (hb hby d16_48) ?_
    refine XS.icmpNo X0.here hx rfl (hb hby d16_50) rfl (tlt ((by decide) : (2 : Int32) < (44 : Int32))).2.1 ?_
    refine XS.aloadN X0.here hx rfl (hb hby d16_53) rfl rfl ?_
    refine XS.iloadN X0.here hx rfl (hb hby d16_54) rfl ?_
    refine XS.iload X0.here hx rfl (hb hby d16_55) rfl ?_
    exact k)
  obtain ⟨_, _, ⟨T5, L5, k5, n5⟩, -, X5, ⟨Lc5, hQ5, l5, y5, z5⟩, st5⟩ := Jvm.LawKit.callS X0 hx (y := yN11) hown (mvT hZ (wD hw 98 rfl)) (mvT hZ (wD hw 99 rfl)) (mvT hZ (wD hw 93 rfl)) (mvT hZ (wD hw 100 rfl)) (by decide) (backOf (W := 0) (rm_ins l Z a0 hw [] o1 k0 v0 v1 m0 m1 h0 n0 Z0 V_o1 g_o1 hl) hZ (wD hw 100 rfl) (wD hw 93 rfl) (by decide) (by decide)) (g := (mkF m 57 #[.val .null, vR o1, vI i0, vI i0, vI i2, vI i1, vI i2, uu, uu, uu, uu, uu, uu, uu, uu, uu, uu, uu, uu, uu, uu, uu, uu, uu, uu] [sI i2, sI i0, sR o1])) rfl (by rw [hml]; rfl) (argsL := [(.ref o1), (.int (0 : Int32)), (.int (2 : Int32))]) (rest := []) (lenOf pd_rm_dp5_0 rfl) rfl (by show 2 * 0 + _ ≤ _; exact Nat.le_of_eq rfl) (hb hby d16_57) (fun _ _ => ⟨rfl, e0, (by decide : 0 + 0 ≤ _), (by decide : 0 + 0 ≤ _)⟩)
  dsimp only [Pt.U, Pt.locs, Pt.cells, Pt.slots] at X5 l5 y5 z5 st5 hQ5
  rw [l5, y5, z5] at X5
  obtain ⟨rfl, N5q, K5, qp5_0⟩ := hQ5
  have N5 := Fr.app N0 N5q
  have Z5 : n0 ≤ T5.heap.size := Nat.le_trans Z0 K5.1
  have KK5 := K0.trans K5 (allS (Or.inl (List.mem_of_getElem? (i := 0) rfl)) all0)
  have go7 := go4.st T5 (mkF m 60 #[.val .null, vR o1, vI i0, vI i0, vI i2, vI i1, vI i2, uu, uu, uu, uu, uu, uu, uu, uu, uu, uu, uu, uu, uu, uu, uu, uu, uu, uu] []) (fun t k => by
    refine st5 _ ?_
    exact k)
  obtain ⟨fs, hr, hrun, hended, hW, hsame⟩ := X5.leave (v := none) (fun _ => rfl)
  refine ⟨_, _, go7 _ ?_, hrun, hended, _, _, rfl, ?_, ⟨_, rfl⟩, hW, hsame.mono (by decide) (by decide)⟩
  · exact X5.returnOut hx Bd.returns (hb hby d16_60) hr
  · show Q_rm_dp5 Z o1 k0 v0 v1 m0 m1 h0 n0 _ T5.heap _
    exact ⟨rfl, N5, KK5, qp5_0⟩
theorem d15_0 : decode jdk_2529_method_12_code 0 = .ok (.iload_n 3, 1) := by decide +kernel
theorem d15_1 : decode jdk_2529_method_12_code 1 = .ok (.iload_n 2, 1) := by decide +kernel
theorem d15_2 : decode jdk_2529_method_12_code 2 = .ok (.isub, 1) := by decide +kernel
theorem d15_3 : decode jdk_2529_method_12_code 3 = .ok (.istore 4, 2) := by decide +kernel
theorem d15_5 : decode jdk_2529_method_12_code 5 = .ok (.iload_n 1, 1) := by decide +kernel
theorem d15_6 : decode jdk_2529_method_12_code 6 = .ok (.iconst 1, 1) := by decide +kernel
theorem d15_7 : decode jdk_2529_method_12_code 7 = .ok (.if_icmp .le 61, 3) := by decide +kernel
theorem d15_68 : decode jdk_2529_method_12_code 68 = .ok (.aconst_null, 1) := by decide +kernel
theorem d15_69 : decode jdk_2529_method_12_code 69 = .ok (.aload_n 0, 1) := by decide +kernel
theorem d15_70 : decode jdk_2529_method_12_code 70 = .ok (.iconst 0, 1) := by decide +kernel
theorem d15_71 : decode jdk_2529_method_12_code 71 = .ok (.iload_n 2, 1) := by decide +kernel
theorem d15_72 : decode jdk_2529_method_12_code 72 = .ok (.iload_n 3, 1) := by decide +kernel
theorem d15_73 : decode jdk_2529_method_12_code 73 = .ok (.invokestatic 99, 3) := by decide +kernel
theorem d15_76 : decode jdk_2529_method_12_code 76 = .ok (.return_, 1) := by decide +kernel
theorem pn_rm_dp4 : plainName "java/util/DualPivotQuicksort" = true := by first | (simp [plainName, overriddenIn]; done) | decide +kernel
theorem pd_rm_dp4_0 : parseMethodDescriptor "(Ljava/util/DualPivotQuicksort$Sorter;[JIII)V" = some ⟨[(.object "java/util/DualPivotQuicksort$Sorter"), (.array .long), .int, .int, .int], none⟩ := by decide +kernel
theorem ef_rm_dp4 (m : MethodId) (o0 : Addr) : entryFrame m #[(.ref o0), (.int (0 : Int32)), (.int (0 : Int32)), (.int (2 : Int32))] 7 = mkF m 0 #[.val (.ref o0), .val (.int (0 : Int32)), .val (.int (0 : Int32)), .val (.int (2 : Int32)), uu, uu, uu] [] := by first | (simp [entryFrame, mkF, argsToLocals, Value.category]; done) | rfl
def Q_rm_dp4 (Z : State) (o0 : Addr) (k0 : ClassId) (v0 : Int64) (v1 : Int64) (m0 : Int64) (m1 : Int64) (h0 : Heap) (n0 : Nat) (v : Option Value) (h : Heap) (L : List Loc) : Prop := v = none ∧ Fr n0 L ∧ Keep h0 h [o0] ∧ Arv Z h o0 k0 .long (2 : Int32) [(.long m0), (.long m1)] (.long (0 : Int64))
set_option maxRecDepth 65536 in
set_option maxHeartbeats 40000000 in
theorem rm_dp4 (l : Launch) (Z : State) (a0 : Array Value) (hw : ∀ d ∈ tables_1, d.before a0 Z = true) (ws : List Jvm.Cond) (o0 : Addr) (k0 : ClassId) (v0 : Int64) (v1 : Int64) (m0 : Int64) (m1 : Int64) (h0 : Heap) (n0 : Nat) (Z0 : n0 ≤ h0.size) (V_o0 : Arv Z h0 o0 k0 .long (2 : Int32) [(.long v0), (.long v1)] (.long (0 : Int64))) (g_o0 : n0 ≤ o0) (hl : (v1 < v0 ∧ m0 = v1 ∧ m1 = v0) ∨ (¬ v1 < v0 ∧ m0 = v0 ∧ m1 = v1)) :
    MetFree l yN13 (head1 (Jvm.Cond.code yN13 jdk_2529_method_12_code 7 none :: ws) ({ frames := 2, cells := 0, slots := 0, locals := 54 } : Room)) (fun a U => a = #[(.ref o0), (.int (0 : Int32)), (.int (0 : Int32)), (.int (2 : Int32))] ∧ Z.Warmed39 U.vm ∧ U.heap = h0) (fun _ _ _ _ _ => True) (fun _ U o U' => ∃ v L, o = .returned v ∧ Q_rm_dp4 Z o0 k0 v0 v1 m0 m1 h0 n0 v U'.heap L ∧ FrameEnd U o U' L ({ frames := 2, cells := 0, slots := 0, locals := 54 } : Room).cells ({ frames := 2, cells := 0, slots := 0, locals := 54 } : Room).slots) := by
  refine MetFree.of_bodySF (plainFor_of_name pn_rm_dp4) hisR ?_
  intro p e s m args below meth c s₁ Bd hml0 hP hK
  obtain ⟨rfl, hZ, hh⟩ := hP
  have hx := Bd.exec
  have hby := Bd.bytes
  have hml : c.maxLocals = 7 := hml0
  have hown : s.vm.findClass "java/util/DualPivotQuicksort" = some m.cls := findClass_of_methodNamed Bd.named
  have hnm := (name_of_methodNamed Bd.named Bd.method).1
  have X0 : Stand p l e ({ frames := 2, cells := 0, slots := 0, locals := 54 } : Room) s m #[(.ref o0), (.int (0 : Int32)), (.int (0 : Int32)), (.int (2 : Int32))] below meth c s₁ [] 0 0 := Stand.of_body Bd
  have e0 : s₁.heap = h0 := by rw [← hh, Bd.state]; rfl
  have N0 := Fr.nil n0
  have K0 := Keep.refl h0 [o0]
  have go0 : Go p e below (s₁.setTop (entryFrame m #[(.ref o0), (.int (0 : Int32)), (.int (0 : Int32)), (.int (2 : Int32))] 7)) (s₁.setTop (mkF m 0 #[vR o0, vI i0, vI i0, vI i2, uu, uu, uu] [])) := fun t k => castTop (ef_rm_dp4 m o0) k
  have go2 := go0.st s₁ (mkF m 73 #[vR o0, vI i0, vI i0, vI i2, vI i2, uu, uu] [sI i2, sI i0, sI i0, sR o0, .null]) (fun t k => by
    refine XS.iloadN X0.here hx rfl (hb hby d15_0) rfl ?_
    refine XS.iloadN X0.here hx rfl (hb hby d15_1) rfl ?_
    refine XS.isub X0.here hx rfl (hb hby d15_2) rfl ?_
    refine XS.istore X0.here hx rfl (hb hby d15_3) rfl (l' := #[vR o0, vI i0, vI i0, vI i2, vI i2, uu, uu]) rfl ?_
    refine XS.iloadN X0.here hx rfl (hb hby d15_5) rfl ?_
    refine XS.iconst X0.here hx rfl (hb hby d15_6) ?_
    refine XS.icmpYes X0.here hx rfl (pc0 := 7) (pc' := 68) rfl (hb hby d15_7) rfl (flt ((by decide) : ¬ ((1 : Int32) < (0 : Int32)))).2.2.2 (by decide) (by decide) ?_
    refine XS.aconstNull X0.here hx rfl (hb hby d15_68) ?_
    show SP p e below s₁ (mkF m 69 #[vR o0, vI i0, vI i0, vI i2, vI i2, uu, uu] [.null]) _
    refine XS.aloadN X0.here hx rfl (hb hby d15_69) rfl rfl ?_
    refine XS.iconst X0.here hx rfl (hb hby d15_70) ?_
    refine XS.iloadN X0.here hx rfl (hb hby d15_71) rfl ?_
    refine XS.iloadN X0.here hx rfl (hb hby d15_72) rfl ?_
    exact k)
  obtain ⟨_, _, ⟨T3, L3, k3, n3⟩, -, X3, ⟨Lc3, hQ3, l3, y3, z3⟩, st3⟩ := Jvm.LawKit.callS X0 hx (y := yN12) hown (mvT hZ (wD hw 95 rfl)) (mvT hZ (wD hw 96 rfl)) (mvT hZ (wD hw 93 rfl)) (mvT hZ (wD hw 97 rfl)) (by decide) (backOf (W := 0) (rm_dp5 l Z a0 hw [] o0 k0 v0 v1 m0 m1 h0 n0 Z0 V_o0 g_o0 hl) hZ (wD hw 97 rfl) (wD hw 93 rfl) (by decide) (by decide)) (g := (mkF m 73 #[vR o0, vI i0, vI i0, vI i2, vI i2, uu, uu] [sI i2, sI i0, sI i0, sR o0, .null])) rfl (by rw [hml]; rfl) (argsL := [.null, (.ref o0), (.int (0 : Int32)), (.int (0 : Int32)), (.int (2 : Int32))]) (rest := []) (lenOf pd_rm_dp4_0 rfl) rfl (by show 2 * 0 + _ ≤ _; exact Nat.le_of_eq rfl) (hb hby d15_73) (fun _ _ => ⟨rfl, e0, (by decide : 0 + 0 ≤ _), (by decide : 0 + 0 ≤ _)⟩)
  dsimp only [Pt.U, Pt.locs, Pt.cells, Pt.slots] at X3 l3 y3 z3 st3 hQ3
  rw [l3, y3, z3] at X3
  obtain ⟨rfl, N3q, K3, qp3_0⟩ := hQ3
  have N3 := Fr.app N0 N3q
  have Z3 : n0 ≤ T3.heap.size := Nat.le_trans Z0 K3.1
  have KK3 := K0.trans K3 (allS (Or.inl (List.mem_of_getElem? (i := 0) rfl)) all0)
  have go5 := go2.st T3 (mkF m 76 #[vR o0, vI i0, vI i0, vI i2, vI i2, uu, uu] []) (fun t k => by
    refine st3 _ ?_
    exact k)
  obtain ⟨fs, hr, hrun, hended, hW, hsame⟩ := X3.leave (v := none) (fun _ => rfl)
  refine ⟨_, _, go5 _ ?_, hrun, hended, _, _, rfl, ?_, ⟨_, rfl⟩, hW, hsame.mono (by decide) (by decide)⟩
  · exact X3.returnOut hx Bd.returns (hb hby d15_76) hr
  · show Q_rm_dp4 Z o0 k0 v0 v1 m0 m1 h0 n0 _ T3.heap _
    exact ⟨rfl, N3, KK3, qp3_0⟩
theorem d13_0 : decode jdk_65_method_5_code 0 = .ok (.aload_n 0, 1) := by decide +kernel
theorem d13_1 : decode jdk_65_method_5_code 1 = .ok (.arraylength, 1) := by decide +kernel
theorem d13_2 : decode jdk_65_method_5_code 2 = .ok (.iload_n 1, 1) := by decide +kernel
theorem d13_3 : decode jdk_65_method_5_code 3 = .ok (.iload_n 2, 1) := by decide +kernel
theorem d13_4 : decode jdk_65_method_5_code 4 = .ok (.invokestatic 13, 3) := by decide +kernel
theorem d13_7 : decode jdk_65_method_5_code 7 = .ok (.aload_n 0, 1) := by decide +kernel
theorem d13_8 : decode jdk_65_method_5_code 8 = .ok (.iconst 0, 1) := by decide +kernel
theorem d13_9 : decode jdk_65_method_5_code 9 = .ok (.iload_n 1, 1) := by decide +kernel
theorem d13_10 : decode jdk_65_method_5_code 10 = .ok (.iload_n 2, 1) := by decide +kernel
theorem d13_11 : decode jdk_65_method_5_code 11 = .ok (.invokestatic 19, 3) := by decide +kernel
theorem d13_14 : decode jdk_65_method_5_code 14 = .ok (.return_, 1) := by decide +kernel
theorem pn_rm_sort : plainName "java/util/Arrays" = true := by first | (simp [plainName, overriddenIn]; done) | decide +kernel
theorem pd_rm_sort_0 : parseMethodDescriptor "(III)V" = some ⟨[.int, .int, .int], none⟩ := by decide +kernel
theorem pd_rm_sort_1 : parseMethodDescriptor "([JIII)V" = some ⟨[(.array .long), .int, .int, .int], none⟩ := by decide +kernel
theorem ef_rm_sort (m : MethodId) (o0 : Addr) : entryFrame m #[(.ref o0), (.int (0 : Int32)), (.int (2 : Int32))] 3 = mkF m 0 #[.val (.ref o0), .val (.int (0 : Int32)), .val (.int (2 : Int32))] [] := by first | (simp [entryFrame, mkF, argsToLocals, Value.category]; done) | rfl
def Q_rm_sort (Z : State) (o0 : Addr) (k0 : ClassId) (v0 : Int64) (v1 : Int64) (m0 : Int64) (m1 : Int64) (h0 : Heap) (n0 : Nat) (v : Option Value) (h : Heap) (L : List Loc) : Prop := v = none ∧ Fr n0 L ∧ Keep h0 h [o0] ∧ Arv Z h o0 k0 .long (2 : Int32) [(.long m0), (.long m1)] (.long (0 : Int64))
set_option maxRecDepth 65536 in
set_option maxHeartbeats 40000000 in
theorem rm_sort (l : Launch) (Z : State) (a0 : Array Value) (hw : ∀ d ∈ tables_1, d.before a0 Z = true) (ws : List Jvm.Cond) (o0 : Addr) (k0 : ClassId) (v0 : Int64) (v1 : Int64) (m0 : Int64) (m1 : Int64) (h0 : Heap) (n0 : Nat) (Z0 : n0 ≤ h0.size) (V_o0 : Arv Z h0 o0 k0 .long (2 : Int32) [(.long v0), (.long v1)] (.long (0 : Int64))) (g_o0 : n0 ≤ o0) (hl : (v1 < v0 ∧ m0 = v1 ∧ m1 = v0) ∨ (¬ v1 < v0 ∧ m0 = v0 ∧ m1 = v1)) :
    MetFree l yN14 (head1 (Jvm.Cond.code yN14 jdk_65_method_5_code 3 none :: ws) ({ frames := 3, cells := 0, slots := 0, locals := 72 } : Room)) (fun a U => a = #[(.ref o0), (.int (0 : Int32)), (.int (2 : Int32))] ∧ Z.Warmed39 U.vm ∧ U.heap = h0) (fun _ _ _ _ _ => True) (fun _ U o U' => ∃ v L, o = .returned v ∧ Q_rm_sort Z o0 k0 v0 v1 m0 m1 h0 n0 v U'.heap L ∧ FrameEnd U o U' L ({ frames := 3, cells := 0, slots := 0, locals := 72 } : Room).cells ({ frames := 3, cells := 0, slots := 0, locals := 72 } : Room).slots) := by
  refine MetFree.of_bodySF (plainFor_of_name pn_rm_sort) hisR ?_
  intro p e s m args below meth c s₁ Bd hml0 hP hK
  obtain ⟨rfl, hZ, hh⟩ := hP
  have hx := Bd.exec
  have hby := Bd.bytes
  have hml : c.maxLocals = 3 := hml0
  have hown : s.vm.findClass "java/util/Arrays" = some m.cls := findClass_of_methodNamed Bd.named
  have hnm := (name_of_methodNamed Bd.named Bd.method).1
  have X0 : Stand p l e ({ frames := 3, cells := 0, slots := 0, locals := 72 } : Room) s m #[(.ref o0), (.int (0 : Int32)), (.int (2 : Int32))] below meth c s₁ [] 0 0 := Stand.of_body Bd
  have e0 : s₁.heap = h0 := by rw [← hh, Bd.state]; rfl
  have N0 := Fr.nil n0
  have K0 := Keep.refl h0 [o0]
  have go0 : Go p e below (s₁.setTop (entryFrame m #[(.ref o0), (.int (0 : Int32)), (.int (2 : Int32))] 3)) (s₁.setTop (mkF m 0 #[vR o0, vI i0, vI i2] [])) := fun t k => castTop (ef_rm_sort m o0) k
  have go1 := go0.st s₁ (mkF m 1 #[vR o0, vI i0, vI i2] [sR o0]) (fun t k => by
    refine XS.aloadN X0.here hx rfl (hb hby d13_0) rfl rfl ?_
    exact k)
  have Vo2 := V_o0
  obtain ⟨cl2, Ar2, qa2, Sa2, Na2, Ha2, Ga2⟩ := Vo2
  have go3 := go1.st s₁ (mkF m 4 #[vR o0, vI i0, vI i2] [sI i2, sI i0, sI i2]) (fun t k => by
    refine X0.arraylength hx (by rw [e0]; exact Ar2.1) (State.isArrayOf_alike hZ.alike Ar2.2.1) (g := (mkF m 1 #[vR o0, vI i0, vI i2] [sR o0])) rfl rfl (hb hby d13_1) _ ?_
    rw [len_of Sa2 Na2]
    refine XS.iloadN X0.here hx rfl (hb hby d13_2) rfl ?_
    refine XS.iloadN X0.here hx rfl (hb hby d13_3) rfl ?_
    exact k)
  obtain ⟨_, _, ⟨T4, L4, k4, n4⟩, -, X4, ⟨Lc4, hQ4, l4, y4, z4⟩, st4⟩ := Jvm.LawKit.callS X0 hx (y := yN10) hown (mvT hZ (wD hw 88 rfl)) (mvT hZ (wD hw 89 rfl)) (mvT hZ (wD hw 56 rfl)) (mvT hZ (wD hw 90 rfl)) (by decide) (backOf (W := 0) (rm_range l Z a0 hw []  h0 n0 Z0 ) hZ (wD hw 90 rfl) (wD hw 56 rfl) (by decide) (by decide)) (g := (mkF m 4 #[vR o0, vI i0, vI i2] [sI i2, sI i0, sI i2])) rfl (by rw [hml]; rfl) (argsL := [(.int (2 : Int32)), (.int (0 : Int32)), (.int (2 : Int32))]) (rest := []) (lenOf pd_rm_sort_0 rfl) rfl (by show 2 * 0 + _ ≤ _; exact Nat.le_of_eq rfl) (hb hby d13_4) (fun _ _ => ⟨rfl, e0, (by decide : 0 + 0 ≤ _), (by decide : 0 + 0 ≤ _)⟩)
  dsimp only [Pt.U, Pt.locs, Pt.cells, Pt.slots] at X4 l4 y4 z4 st4 hQ4
  rw [l4, y4, z4] at X4
  obtain ⟨rfl, N4q, e4⟩ := hQ4
  have N4 := Fr.app N0 N4q
  have go5 := go3.st T4 (mkF m 11 #[vR o0, vI i0, vI i2] [sI i2, sI i0, sI i0, sR o0]) (fun t k => by
    refine st4 _ ?_
    show SP p e below T4 (mkF m 7 #[vR o0, vI i0, vI i2] []) _
    refine XS.aloadN X4.here hx rfl (hb hby d13_7) rfl rfl ?_
    refine XS.iconst X4.here hx rfl (hb hby d13_8) ?_
    refine XS.iloadN X4.here hx rfl (hb hby d13_9) rfl ?_
    refine XS.iloadN X4.here hx rfl (hb hby d13_10) rfl ?_
    exact k)
  obtain ⟨_, _, ⟨T6, L6, k6, n6⟩, -, X6, ⟨Lc6, hQ6, l6, y6, z6⟩, st6⟩ := Jvm.LawKit.callS X4 hx (y := yN13) hown (mvT hZ (wD hw 91 rfl)) (mvT hZ (wD hw 92 rfl)) (mvT hZ (wD hw 93 rfl)) (mvT hZ (wD hw 94 rfl)) (by decide) (backOf (W := 0) (rm_dp4 l Z a0 hw [] o0 k0 v0 v1 m0 m1 h0 n0 Z0 V_o0 g_o0 hl) hZ (wD hw 94 rfl) (wD hw 93 rfl) (by decide) (by decide)) (g := (mkF m 11 #[vR o0, vI i0, vI i2] [sI i2, sI i0, sI i0, sR o0])) rfl (by rw [hml]; rfl) (argsL := [(.ref o0), (.int (0 : Int32)), (.int (0 : Int32)), (.int (2 : Int32))]) (rest := []) (lenOf pd_rm_sort_1 rfl) rfl (by show 2 * 0 + _ ≤ _; exact Nat.le_of_eq rfl) (hb hby d13_11) (fun _ _ => ⟨rfl, e4, (by decide : 0 + 0 ≤ _), (by decide : 0 + 0 ≤ _)⟩)
  dsimp only [Pt.U, Pt.locs, Pt.cells, Pt.slots] at X6 l6 y6 z6 st6 hQ6
  rw [l6, y6, z6] at X6
  obtain ⟨rfl, N6q, K6, qp6_0⟩ := hQ6
  have N6 := Fr.app N4 N6q
  have Z6 : n0 ≤ T6.heap.size := Nat.le_trans Z0 K6.1
  have KK6 := K0.trans K6 (allS (Or.inl (List.mem_of_getElem? (i := 0) rfl)) all0)
  have go8 := go5.st T6 (mkF m 14 #[vR o0, vI i0, vI i2] []) (fun t k => by
    refine st6 _ ?_
    exact k)
  obtain ⟨fs, hr, hrun, hended, hW, hsame⟩ := X6.leave (v := none) (fun _ => rfl)
  refine ⟨_, _, go8 _ ?_, hrun, hended, _, _, rfl, ?_, ⟨_, rfl⟩, hW, hsame.mono (by decide) (by decide)⟩
  · exact X6.returnOut hx Bd.returns (hb hby d13_14) hr
  · show Q_rm_sort Z o0 k0 v0 v1 m0 m1 h0 n0 _ T6.heap _
    exact ⟨rfl, N6, KK6, qp6_0⟩
theorem d18_0 : decode prog_9_method_1_code 0 = .ok (.aload_n 0, 1) := by decide +kernel
theorem d18_1 : decode prog_9_method_1_code 1 = .ok (.invokespecial 1, 3) := by decide +kernel
theorem d18_4 : decode prog_9_method_1_code 4 = .ok (.aload_n 0, 1) := by decide +kernel
theorem d18_5 : decode prog_9_method_1_code 5 = .ok (.aload_n 1, 1) := by decide +kernel
theorem d18_6 : decode prog_9_method_1_code 6 = .ok (.putfield 7, 3) := by decide +kernel
theorem d18_9 : decode prog_9_method_1_code 9 = .ok (.aload_n 0, 1) := by decide +kernel
theorem d18_10 : decode prog_9_method_1_code 10 = .ok (.aload_n 2, 1) := by decide +kernel
theorem d18_11 : decode prog_9_method_1_code 11 = .ok (.putfield 13, 3) := by decide +kernel
theorem d18_14 : decode prog_9_method_1_code 14 = .ok (.return_, 1) := by decide +kernel
theorem pn_rm_sinit : plainName "com/example/graphkind/graphkind/Statements" = true := by first | (simp [plainName, overriddenIn]; done) | decide +kernel
theorem ef_rm_sinit (m : MethodId) (o0 : Addr) (o1 : Addr) (o2 : Addr) : entryFrame m #[(.ref o0), (.ref o1), (.ref o2)] 3 = mkF m 0 #[.val (.ref o0), .val (.ref o1), .val (.ref o2)] [] := by first | (simp [entryFrame, mkF, argsToLocals, Value.category]; done) | rfl
def Q_rm_sinit (Z : State) (o0 : Addr) (o1 : Addr) (o2 : Addr) (h0 : Heap) (n0 : Nat) (v : Option Value) (h : Heap) (L : List Loc) : Prop := v = none ∧ Fr n0 L ∧ Keep h0 h [o0] ∧ Exa Z h o0 "com/example/graphkind/graphkind/Statements" ∧ Fld Z h o0 "com/example/graphkind/graphkind/Statements" "start" "[I" (.ref o1) ∧ Fld Z h o0 "com/example/graphkind/graphkind/Statements" "values" "[J" (.ref o2)
set_option maxRecDepth 65536 in
set_option maxHeartbeats 40000000 in
theorem rm_sinit (l : Launch) (Z : State) (a0 : Array Value) (hw : ∀ d ∈ tables_1, d.before a0 Z = true) (ws : List Jvm.Cond) (o0 : Addr) (o1 : Addr) (o2 : Addr) (h0 : Heap) (n0 : Nat) (Z0 : n0 ≤ h0.size) (E_o0 : Exa Z h0 o0 "com/example/graphkind/graphkind/Statements") (g_o0 : n0 ≤ o0) (F_start : Fld Z h0 o0 "com/example/graphkind/graphkind/Statements" "start" "[I" .null) (F_values : Fld Z h0 o0 "com/example/graphkind/graphkind/Statements" "values" "[J" .null) :
    MetFree l yN15 (head1 (Jvm.Cond.code yN15 prog_9_method_1_code 3 none :: ws) ({ frames := 1, cells := 0, slots := 0, locals := 12 } : Room)) (fun a U => a = #[(.ref o0), (.ref o1), (.ref o2)] ∧ Z.Warmed39 U.vm ∧ U.heap = h0) (fun _ _ _ _ _ => True) (fun _ U o U' => ∃ v L, o = .returned v ∧ Q_rm_sinit Z o0 o1 o2 h0 n0 v U'.heap L ∧ FrameEnd U o U' L ({ frames := 1, cells := 0, slots := 0, locals := 12 } : Room).cells ({ frames := 1, cells := 0, slots := 0, locals := 12 } : Room).slots) := by
  refine MetFree.of_bodySF (plainFor_of_name pn_rm_sinit) hisR ?_
  intro p e s m args below meth c s₁ Bd hml0 hP hK
  obtain ⟨rfl, hZ, hh⟩ := hP
  have hx := Bd.exec
  have hby := Bd.bytes
  have hml : c.maxLocals = 3 := hml0
  have hown : s.vm.findClass "com/example/graphkind/graphkind/Statements" = some m.cls := findClass_of_methodNamed Bd.named
  have hnm := (name_of_methodNamed Bd.named Bd.method).1
  have X0 : Stand p l e ({ frames := 1, cells := 0, slots := 0, locals := 12 } : Room) s m #[(.ref o0), (.ref o1), (.ref o2)] below meth c s₁ [] 0 0 := Stand.of_body Bd
  have e0 : s₁.heap = h0 := by rw [← hh, Bd.state]; rfl
  have N0 := Fr.nil n0
  have K0 := Keep.refl h0 [o0]
  have go0 : Go p e below (s₁.setTop (entryFrame m #[(.ref o0), (.ref o1), (.ref o2)] 3)) (s₁.setTop (mkF m 0 #[vR o0, vR o1, vR o2] [])) := fun t k => castTop (ef_rm_sinit m o0 o1 o2) k
  have go1 := go0.st s₁ (mkF m 1 #[vR o0, vR o1, vR o2] [sR o0]) (fun t k => by
    refine XS.aloadN X0.here hx rfl (hb hby d18_0) rfl rfl ?_
    exact k)
  obtain ⟨T2, X2, e2, st2⟩ := initO X0 hx hZ hown (wD hw 107 rfl) (wD hw 8 rfl) (wD hw 9 rfl) e0 (g := (mkF m 1 #[vR o0, vR o1, vR o2] [sR o0])) rfl (by rw [hml]; rfl) rfl (hb hby d18_1) (by decide) (W := 0) (by show 2 * 0 + _ ≤ _; exact Nat.le_of_eq rfl) (by decide)
  have go3 := go1.st T2 (mkF m 6 #[vR o0, vR o1, vR o2] [sR o1, sR o0]) (fun t k => by
    refine st2 _ ?_
    show SP p e below T2 (mkF m 4 #[vR o0, vR o1, vR o2] []) _
    refine XS.aloadN X2.here hx rfl (hb hby d18_4) rfl rfl ?_
    refine XS.aloadN X2.here hx rfl (hb hby d18_5) rfl rfl ?_
    exact k)
  obtain ⟨T4, h4, X4, e4, W4, st4⟩ := putF X2 hx hZ hown (host := "") (Or.inl (wD hw 108 rfl)) Via.refl e2 F_start E_o0 (Or.inr ⟨(wD hw 109 rfl), rfl, hnm⟩) (wD hw 102 rfl) (ty := (.array .int)) (by decide) rfl rfl (g := (mkF m 6 #[vR o0, vR o1, vR o2] [sR o1, sR o0])) rfl rfl (hb hby d18_6)
  have f5 := E_o0.wr W4
  have f6 := Fld.same W4 F_start
  have f7 := Fld.other W4 F_values (Or.inr (slot_ne (Or.inr (wD hw 111 rfl)) (Or.inr (wD hw 109 rfl)) (by decide) (t := (.array .long)) (t' := (.array .int)) (by decide) (by decide)))
  have Z4 : n0 ≤ h4.size := Nat.le_trans Z0 (Nat.le_of_eq W4.size.symm)
  have K4 := K0.wr W4 (Or.inl (List.mem_of_getElem? (i := 0) rfl))
  have N4 := Fr.snoc X4 N0 g_o0
  have go8 := go3.st T4 (mkF m 11 #[vR o0, vR o1, vR o2] [sR o2, sR o0]) (fun t k => by
    refine st4 _ ?_
    show SP p e below T4 (mkF m 9 #[vR o0, vR o1, vR o2] []) _
    refine XS.aloadN X4.here hx rfl (hb hby d18_9) rfl rfl ?_
    refine XS.aloadN X4.here hx rfl (hb hby d18_10) rfl rfl ?_
    exact k)
  obtain ⟨T9, h9, X9, e9, W9, st9⟩ := putF X4 hx hZ hown (host := "") (Or.inl (wD hw 110 rfl)) Via.refl e4 f7 f5 (Or.inr ⟨(wD hw 111 rfl), rfl, hnm⟩) (wD hw 102 rfl) (ty := (.array .long)) (by decide) rfl rfl (g := (mkF m 11 #[vR o0, vR o1, vR o2] [sR o2, sR o0])) rfl rfl (hb hby d18_11)
  have f10 := f5.wr W9
  have f11 := Fld.other W9 f6 (Or.inr (slot_ne (Or.inr (wD hw 109 rfl)) (Or.inr (wD hw 111 rfl)) (by decide) (t := (.array .int)) (t' := (.array .long)) (by decide) (by decide)))
  have f12 := Fld.same W9 f7
  have Z9 : n0 ≤ h9.size := Nat.le_trans Z4 (Nat.le_of_eq W9.size.symm)
  have K9 := K4.wr W9 (Or.inl (List.mem_of_getElem? (i := 0) rfl))
  have N9 := Fr.snoc X9 N4 g_o0
  have go13 := go8.st T9 (mkF m 14 #[vR o0, vR o1, vR o2] []) (fun t k => by
    refine st9 _ ?_
    exact k)
  obtain ⟨fs, hr, hrun, hended, hW, hsame⟩ := X9.leave (v := none) (fun _ => rfl)
  refine ⟨_, _, go13 _ ?_, hrun, hended, _, _, rfl, ?_, ⟨_, rfl⟩, hW, hsame.mono (by decide) (by decide)⟩
  · exact X9.returnOut hx Bd.returns (hb hby d18_14) hr
  · show Q_rm_sinit Z o0 o1 o2 h0 n0 _ T9.heap _
    rw [e9]
    exact ⟨rfl, N9, K9, f10, f11, f12⟩
theorem d12_0 : decode prog_10_method_6_code 0 = .ok (.aload_n 0, 1) := by decide +kernel
theorem d12_1 : decode prog_10_method_6_code 1 = .ok (.getfield 13, 3) := by decide +kernel
theorem d12_4 : decode prog_10_method_6_code 4 = .ok (.iload_n 1, 1) := by decide +kernel
theorem d12_5 : decode prog_10_method_6_code 5 = .ok (.iaload, 1) := by decide +kernel
theorem d12_6 : decode prog_10_method_6_code 6 = .ok (.istore_n 3, 1) := by decide +kernel
theorem d12_7 : decode prog_10_method_6_code 7 = .ok (.aload_n 0, 1) := by decide +kernel
theorem d12_8 : decode prog_10_method_6_code 8 = .ok (.getfield 29, 3) := by decide +kernel
theorem d12_11 : decode prog_10_method_6_code 11 = .ok (.iload_n 1, 1) := by decide +kernel
theorem d12_12 : decode prog_10_method_6_code 12 = .ok (.iaload, 1) := by decide +kernel
theorem d12_13 : decode prog_10_method_6_code 13 = .ok (.istore 4, 2) := by decide +kernel
theorem d12_15 : decode prog_10_method_6_code 15 = .ok (.iload 4, 2) := by decide +kernel
theorem d12_17 : decode prog_10_method_6_code 17 = .ok (.iload_n 3, 1) := by decide +kernel
theorem d12_18 : decode prog_10_method_6_code 18 = .ok (.isub, 1) := by decide +kernel
theorem d12_19 : decode prog_10_method_6_code 19 = .ok (.iconst 1, 1) := by decide +kernel
theorem d12_20 : decode prog_10_method_6_code 20 = .ok (.if_icmp .le 13, 3) := by decide +kernel
theorem d12_23 : decode prog_10_method_6_code 23 = .ok (.aload_n 0, 1) := by decide +kernel
theorem d12_24 : decode prog_10_method_6_code 24 = .ok (.getfield 32, 3) := by decide +kernel
theorem d12_27 : decode prog_10_method_6_code 27 = .ok (.iload_n 3, 1) := by decide +kernel
theorem d12_28 : decode prog_10_method_6_code 28 = .ok (.iload 4, 2) := by decide +kernel
theorem d12_30 : decode prog_10_method_6_code 30 = .ok (.invokestatic 48, 3) := by decide +kernel
theorem d12_33 : decode prog_10_method_6_code 33 = .ok (.iload_n 2, 1) := by decide +kernel
theorem d12_34 : decode prog_10_method_6_code 34 = .ok (.istore 5, 2) := by decide +kernel
theorem d12_36 : decode prog_10_method_6_code 36 = .ok (.aload_n 0, 1) := by decide +kernel
theorem d12_37 : decode prog_10_method_6_code 37 = .ok (.getfield 13, 3) := by decide +kernel
theorem d12_40 : decode prog_10_method_6_code 40 = .ok (.iload_n 1, 1) := by decide +kernel
theorem d12_41 : decode prog_10_method_6_code 41 = .ok (.iload 5, 2) := by decide +kernel
theorem d12_43 : decode prog_10_method_6_code 43 = .ok (.iastore, 1) := by decide +kernel
theorem d12_44 : decode prog_10_method_6_code 44 = .ok (.iload_n 3, 1) := by decide +kernel
theorem d12_45 : decode prog_10_method_6_code 45 = .ok (.istore 6, 2) := by decide +kernel
theorem d12_47 : decode prog_10_method_6_code 47 = .ok (.iload 6, 2) := by decide +kernel
theorem d12_49 : decode prog_10_method_6_code 49 = .ok (.iload 4, 2) := by decide +kernel
theorem d12_51 : decode prog_10_method_6_code 51 = .ok (.if_icmp .ge 78, 3) := by decide +kernel
theorem d12_54 : decode prog_10_method_6_code 54 = .ok (.iload 6, 2) := by decide +kernel
theorem d12_56 : decode prog_10_method_6_code 56 = .ok (.iload_n 3, 1) := by decide +kernel
theorem d12_57 : decode prog_10_method_6_code 57 = .ok (.if_icmp .le 49, 3) := by decide +kernel
theorem d12_60 : decode prog_10_method_6_code 60 = .ok (.aload_n 0, 1) := by decide +kernel
theorem d12_61 : decode prog_10_method_6_code 61 = .ok (.getfield 32, 3) := by decide +kernel
theorem d12_64 : decode prog_10_method_6_code 64 = .ok (.iload 6, 2) := by decide +kernel
theorem d12_66 : decode prog_10_method_6_code 66 = .ok (.laload, 1) := by decide +kernel
theorem d12_67 : decode prog_10_method_6_code 67 = .ok (.iconst 1, 1) := by decide +kernel
theorem d12_68 : decode prog_10_method_6_code 68 = .ok (.lushr, 1) := by decide +kernel
theorem d12_69 : decode prog_10_method_6_code 69 = .ok (.aload_n 0, 1) := by decide +kernel
theorem d12_70 : decode prog_10_method_6_code 70 = .ok (.getfield 32, 3) := by decide +kernel
theorem d12_73 : decode prog_10_method_6_code 73 = .ok (.iload 6, 2) := by decide +kernel
theorem d12_75 : decode prog_10_method_6_code 75 = .ok (.iconst 1, 1) := by decide +kernel
theorem d12_76 : decode prog_10_method_6_code 76 = .ok (.isub, 1) := by decide +kernel
theorem d12_77 : decode prog_10_method_6_code 77 = .ok (.laload, 1) := by decide +kernel
theorem d12_78 : decode prog_10_method_6_code 78 = .ok (.iconst 1, 1) := by decide +kernel
theorem d12_79 : decode prog_10_method_6_code 79 = .ok (.lushr, 1) := by decide +kernel
theorem d12_80 : decode prog_10_method_6_code 80 = .ok (.lcmp, 1) := by decide +kernel
theorem d12_81 : decode prog_10_method_6_code 81 = .ok (.ifCond .ne 25, 3) := by decide +kernel
theorem d12_84 : decode prog_10_method_6_code 84 = .ok (.aload_n 0, 1) := by decide +kernel
theorem d12_85 : decode prog_10_method_6_code 85 = .ok (.getfield 32, 3) := by decide +kernel
theorem d12_88 : decode prog_10_method_6_code 88 = .ok (.iload 5, 2) := by decide +kernel
theorem d12_90 : decode prog_10_method_6_code 90 = .ok (.iconst 1, 1) := by decide +kernel
theorem d12_91 : decode prog_10_method_6_code 91 = .ok (.isub, 1) := by decide +kernel
theorem d12_92 : decode prog_10_method_6_code 92 = .ok (.dup2, 1) := by decide +kernel
theorem d12_93 : decode prog_10_method_6_code 93 = .ok (.laload, 1) := by decide +kernel
theorem d12_94 : decode prog_10_method_6_code 94 = .ok (.aload_n 0, 1) := by decide +kernel
theorem d12_95 : decode prog_10_method_6_code 95 = .ok (.getfield 32, 3) := by decide +kernel
theorem d12_98 : decode prog_10_method_6_code 98 = .ok (.iload 6, 2) := by decide +kernel
theorem d12_100 : decode prog_10_method_6_code 100 = .ok (.laload, 1) := by decide +kernel
theorem d12_101 : decode prog_10_method_6_code 101 = .ok (.lor, 1) := by decide +kernel
theorem d12_102 : decode prog_10_method_6_code 102 = .ok (.lastore, 1) := by decide +kernel
theorem d12_103 : decode prog_10_method_6_code 103 = .ok (.goto 20, 3) := by decide +kernel
theorem d12_106 : decode prog_10_method_6_code 106 = .ok (.aload_n 0, 1) := by decide +kernel
theorem d12_107 : decode prog_10_method_6_code 107 = .ok (.getfield 32, 3) := by decide +kernel
theorem d12_110 : decode prog_10_method_6_code 110 = .ok (.iload 5, 2) := by decide +kernel
theorem d12_112 : decode prog_10_method_6_code 112 = .ok (.iinc 5 1, 3) := by decide +kernel
theorem d12_115 : decode prog_10_method_6_code 115 = .ok (.aload_n 0, 1) := by decide +kernel
theorem d12_116 : decode prog_10_method_6_code 116 = .ok (.getfield 32, 3) := by decide +kernel
theorem d12_119 : decode prog_10_method_6_code 119 = .ok (.iload 6, 2) := by decide +kernel
theorem d12_121 : decode prog_10_method_6_code 121 = .ok (.laload, 1) := by decide +kernel
theorem d12_122 : decode prog_10_method_6_code 122 = .ok (.lastore, 1) := by decide +kernel
theorem d12_123 : decode prog_10_method_6_code 123 = .ok (.iinc 6 1, 3) := by decide +kernel
theorem d12_126 : decode prog_10_method_6_code 126 = .ok (.goto (-79), 3) := by decide +kernel
theorem d12_129 : decode prog_10_method_6_code 129 = .ok (.iload 5, 2) := by decide +kernel
theorem d12_131 : decode prog_10_method_6_code 131 = .ok (.ireturn, 1) := by decide +kernel
theorem pn_rm_keepA0_0_1 : plainName "com/example/graphkind/graphkind/Statements$Builder" = true := by first | (simp [plainName, overriddenIn]; done) | decide +kernel
theorem pd_rm_keepA0_0_1_0 : parseMethodDescriptor "([JII)V" = some ⟨[(.array .long), .int, .int], none⟩ := by decide +kernel
theorem ef_rm_keepA0_0_1 (m : MethodId) (o0 : Addr) : entryFrame m #[(.ref o0), (.int (0 : Int32)), (.int (0 : Int32))] 7 = mkF m 0 #[.val (.ref o0), .val (.int (0 : Int32)), .val (.int (0 : Int32)), uu, uu, uu, uu] [] := by first | (simp [entryFrame, mkF, argsToLocals, Value.category]; done) | rfl
def Q_rm_keepA0_0_1 (Z : State) (o0 : Addr) (sa : Addr) (ka : ClassId) (nx : Addr) (kx : ClassId) (va : Addr) (kv : ClassId) (v0 : Int64) (v1 : Int64) (m0 : Int64) (m1 : Int64) (h0 : Heap) (n0 : Nat) (v : Option Value) (h : Heap) (L : List Loc) : Prop := v = some (.int (1 : Int32)) ∧ Fr n0 L ∧ Keep h0 h [va, sa] ∧ Arv Z h sa ka .int (3 : Int32) [(.int (0 : Int32)), (.int (2 : Int32)), (.int (2 : Int32))] (.int (0 : Int32)) ∧ Arv Z h va kv .long (2 : Int32) [(.long (m0 ||| m1)), (.long m1)] (.long (0 : Int64))
set_option maxRecDepth 65536 in
set_option maxHeartbeats 40000000 in
theorem rm_keepA0_0_1 (l : Launch) (Z : State) (a0 : Array Value) (hw : ∀ d ∈ tables_1, d.before a0 Z = true) (ws : List Jvm.Cond) (o0 : Addr) (sa : Addr) (ka : ClassId) (nx : Addr) (kx : ClassId) (va : Addr) (kv : ClassId) (v0 : Int64) (v1 : Int64) (m0 : Int64) (m1 : Int64) (h0 : Heap) (n0 : Nat) (Z0 : n0 ≤ h0.size) (F_start_o0 : Fld Z h0 o0 "com/example/graphkind/graphkind/Statements$Builder" "start" "[I" (.ref sa)) (F_next_o0 : Fld Z h0 o0 "com/example/graphkind/graphkind/Statements$Builder" "next" "[I" (.ref nx)) (V_sa : Arv Z h0 sa ka .int (3 : Int32) [(.int (0 : Int32)), (.int (2 : Int32)), (.int (2 : Int32))] (.int (0 : Int32))) (V_nx : Arv Z h0 nx kx .int (2 : Int32) [(.int (2 : Int32)), (.int (2 : Int32))] (.int (0 : Int32))) (g_sa : n0 ≤ sa) (F_values_o0 : Fld Z h0 o0 "com/example/graphkind/graphkind/Statements$Builder" "values" "[J" (.ref va)) (V_va : Arv Z h0 va kv .long (2 : Int32) [(.long v0), (.long v1)] (.long (0 : Int64))) (g_va : n0 ≤ va) (ne_o0_sa : o0 ≠ sa) (ne_o0_nx : o0 ≠ nx) (ne_o0_va : o0 ≠ va) (ne_sa_nx : sa ≠ nx) (ne_sa_va : sa ≠ va) (ne_nx_va : nx ≠ va) (hl : (v1 < v0 ∧ m0 = v1 ∧ m1 = v0) ∨ (¬ v1 < v0 ∧ m0 = v0 ∧ m1 = v1)) (hm : (own_usrL m1 (1 : Int32)) = (own_usrL m0 (1 : Int32))) :
    MetFree l yN16 (head1 (Jvm.Cond.code yN16 prog_10_method_6_code 7 (some .int) :: ws) ({ frames := 4, cells := 0, slots := 0, locals := 86 } : Room)) (fun a U => a = #[(.ref o0), (.int (0 : Int32)), (.int (0 : Int32))] ∧ Z.Warmed39 U.vm ∧ U.heap = h0) (fun _ _ _ _ _ => True) (fun _ U o U' => ∃ v L, o = .returned v ∧ Q_rm_keepA0_0_1 Z o0 sa ka nx kx va kv v0 v1 m0 m1 h0 n0 v U'.heap L ∧ FrameEnd U o U' L ({ frames := 4, cells := 0, slots := 0, locals := 86 } : Room).cells ({ frames := 4, cells := 0, slots := 0, locals := 86 } : Room).slots) := by
  refine MetFree.of_bodySF (plainFor_of_name pn_rm_keepA0_0_1) hisR ?_
  intro p e s m args below meth c s₁ Bd hml0 hP hK
  obtain ⟨rfl, hZ, hh⟩ := hP
  have hx := Bd.exec
  have hby := Bd.bytes
  have hml : c.maxLocals = 7 := hml0
  have hown : s.vm.findClass "com/example/graphkind/graphkind/Statements$Builder" = some m.cls := findClass_of_methodNamed Bd.named
  have hnm := (name_of_methodNamed Bd.named Bd.method).1
  have X0 : Stand p l e ({ frames := 4, cells := 0, slots := 0, locals := 86 } : Room) s m #[(.ref o0), (.int (0 : Int32)), (.int (0 : Int32))] below meth c s₁ [] 0 0 := Stand.of_body Bd
  have e0 : s₁.heap = h0 := by rw [← hh, Bd.state]; rfl
  have N0 := Fr.nil n0
  have K0 := Keep.refl h0 [va, sa]
  have go0 : Go p e below (s₁.setTop (entryFrame m #[(.ref o0), (.int (0 : Int32)), (.int (0 : Int32))] 7)) (s₁.setTop (mkF m 0 #[vR o0, vI i0, vI i0, uu, uu, uu, uu] [])) := fun t k => castTop (ef_rm_keepA0_0_1 m o0) k
  have go1 := go0.st s₁ (mkF m 1 #[vR o0, vI i0, vI i0, uu, uu, uu, uu] [sR o0]) (fun t k => by
    refine XS.aloadN X0.here hx rfl (hb hby d12_0) rfl rfl ?_
    exact k)
  obtain ⟨T2, X2, e2, st2⟩ := getF X0 hx hZ hown (host := "") (Or.inl (wD hw 37 rfl)) Via.refl e0 F_start_o0 (g := (mkF m 1 #[vR o0, vI i0, vI i0, uu, uu, uu, uu] [sR o0])) rfl rfl (hb hby d12_1)
  have go3 := go1.st T2 (mkF m 5 #[vR o0, vI i0, vI i0, uu, uu, uu, uu] [sI i0, sR sa]) (fun t k => by
    refine st2 _ ?_
    show SP p e below T2 (mkF m 4 #[vR o0, vI i0, vI i0, uu, uu, uu, uu] [sR sa]) _
    refine XS.iloadN X2.here hx rfl (hb hby d12_4) rfl ?_
    exact k)
  have Vo4 := V_sa
  obtain ⟨cl4, Ar4, qa4, Sa4, Na4, Ha4, Ga4⟩ := Vo4
  have hin4 := inb_of (j := (0 : Int32)) Sa4 ⟨by decide, by decide⟩
  have hat4 : cl4.slots[((0 : Int32)).toNatClampNeg]? = some (.int (0 : Int32)) := Has.at Ha4 hin4 rfl
  have go5 := go3.st T2 (mkF m 8 #[vR o0, vI i0, vI i0, vI i0, uu, uu, uu] [sR o0]) (fun t k => by
    refine X2.iaload hx (j := (0 : Int32)) (v := (.int (0 : Int32))) (by rw [e2]; exact Ar4.1) (State.isArrayOf_alike hZ.alike Ar4.2.1) Ar4.2.2 hin4 hat4 (g := (mkF m 5 #[vR o0, vI i0, vI i0, uu, uu, uu, uu] [sI i0, sR sa])) rfl rfl (hb hby d12_5) _ ?_
    refine XS.istoreN X2.here hx rfl (hb hby d12_6) rfl (l' := #[vR o0, vI i0, vI i0, vI i0, uu, uu, uu]) rfl ?_
    refine XS.aloadN X2.here hx rfl (hb hby d12_7) rfl rfl ?_
    exact k)
  obtain ⟨T6, X6, e6, st6⟩ := getF X2 hx hZ hown (host := "") (Or.inl (wD hw 66 rfl)) Via.refl e2 F_next_o0 (g := (mkF m 8 #[vR o0, vI i0, vI i0, vI i0, uu, uu, uu] [sR o0])) rfl rfl (hb hby d12_8)
  have go7 := go5.st T6 (mkF m 12 #[vR o0, vI i0, vI i0, vI i0, uu, uu, uu] [sI i0, sR nx]) (fun t k => by
    refine st6 _ ?_
    show SP p e below T6 (mkF m 11 #[vR o0, vI i0, vI i0, vI i0, uu, uu, uu] [sR nx]) _
    refine XS.iloadN X6.here hx rfl (hb hby d12_11) rfl ?_
    exact k)
  have Vo8 := V_nx
  obtain ⟨cl8, Ar8, qa8, Sa8, Na8, Ha8, Ga8⟩ := Vo8
  have hin8 := inb_of (j := (0 : Int32)) Sa8 ⟨by decide, by decide⟩
  have hat8 : cl8.slots[((0 : Int32)).toNatClampNeg]? = some (.int (2 : Int32)) := Has.at Ha8 hin8 rfl
  have go10 := go7.st T6 (mkF m 24 #[vR o0, vI i0, vI i0, vI i0, vI i2, uu, uu] [sR o0]) (fun t k => by
    refine X6.iaload hx (j := (0 : Int32)) (v := (.int (2 : Int32))) (by rw [e6]; exact Ar8.1) (State.isArrayOf_alike hZ.alike Ar8.2.1) Ar8.2.2 hin8 hat8 (g := (mkF m 12 #[vR o0, vI i0, vI i0, vI i0, uu, uu, uu] [sI i0, sR nx])) rfl rfl (hb hby d12_12) _ ?_
    refine XS.istore X6.here hx rfl (hb hby d12_13) rfl (l' := #[vR o0, vI i0, vI i0, vI i0, vI i2, uu, uu]) rfl ?_
    refine XS.iload X6.here hx rfl (hb hby d12_15) rfl ?_
    refine XS.iloadN X6.here hx rfl (hb hby d12_17) rfl ?_
    refine XS.isub X6.here hx rfl (hb hby d12_18) rfl ?_
    refine XS.iconst X6.here hx rfl (hb hby d12_19) ?_
    refine XS.icmpNo X6.here hx rfl (hb hby d12_20) rfl (tlt ((by decide) : (1 : Int32) < (2 : Int32))).2.2.2 ?_
    refine XS.aloadN X6.here hx rfl (hb hby d12_23) rfl rfl ?_
    exact k)
  obtain ⟨T11, X11, e11, st11⟩ := getF X6 hx hZ hown (host := "") (Or.inl (wD hw 69 rfl)) Via.refl e6 F_values_o0 (g := (mkF m 24 #[vR o0, vI i0, vI i0, vI i0, vI i2, uu, uu] [sR o0])) rfl rfl (hb hby d12_24)
  have go12 := go10.st T11 (mkF m 30 #[vR o0, vI i0, vI i0, vI i0, vI i2, uu, uu] [sI i2, sI i0, sR va]) (fun t k => by
    refine st11 _ ?_
    show SP p e below T11 (mkF m 27 #[vR o0, vI i0, vI i0, vI i0, vI i2, uu, uu] [sR va]) _
    refine XS.iloadN X11.here hx rfl (hb hby d12_27) rfl ?_
    refine XS.iload X11.here hx rfl (hb hby d12_28) rfl ?_
    exact k)
  obtain ⟨_, _, ⟨T13, L13, k13, n13⟩, -, X13, ⟨Lc13, hQ13, l13, y13, z13⟩, st13⟩ := Jvm.LawKit.callS X11 hx (y := yN14) hown (mvT hZ (wD hw 85 rfl)) (mvT hZ (wD hw 86 rfl)) (mvT hZ (wD hw 56 rfl)) (mvT hZ (wD hw 87 rfl)) (by decide) (backOf (W := 0) (rm_sort l Z a0 hw [] va kv v0 v1 m0 m1 h0 n0 Z0 V_va g_va hl) hZ (wD hw 87 rfl) (wD hw 56 rfl) (by decide) (by decide)) (g := (mkF m 30 #[vR o0, vI i0, vI i0, vI i0, vI i2, uu, uu] [sI i2, sI i0, sR va])) rfl (by rw [hml]; rfl) (argsL := [(.ref va), (.int (0 : Int32)), (.int (2 : Int32))]) (rest := []) (lenOf pd_rm_keepA0_0_1_0 rfl) rfl (by show 2 * 0 + _ ≤ _; exact Nat.le_of_eq rfl) (hb hby d12_30) (fun _ _ => ⟨rfl, e11, (by decide : 0 + 0 ≤ _), (by decide : 0 + 0 ≤ _)⟩)
  dsimp only [Pt.U, Pt.locs, Pt.cells, Pt.slots] at X13 l13 y13 z13 st13 hQ13
  rw [l13, y13, z13] at X13
  obtain ⟨rfl, N13q, K13, qp13_0⟩ := hQ13
  have N13 := Fr.app N0 N13q
  have f14 := F_start_o0.keep K13 (ninS ne_o0_va nin0)
  have f15 := F_next_o0.keep K13 (ninS ne_o0_va nin0)
  have f16 := V_sa.keep K13 (ninS ne_sa_va nin0)
  have f17 := V_nx.keep K13 (ninS ne_nx_va nin0)
  have f18 := F_values_o0.keep K13 (ninS ne_o0_va nin0)
  have Z13 : n0 ≤ T13.heap.size := Nat.le_trans Z0 K13.1
  have KK13 := K0.trans K13 (allS (Or.inl (List.mem_of_getElem? (i := 0) rfl)) all0)
  have go20 := go12.st T13 (mkF m 37 #[vR o0, vI i0, vI i0, vI i0, vI i2, vI i0, uu] [sR o0]) (fun t k => by
    refine st13 _ ?_
    show SP p e below T13 (mkF m 33 #[vR o0, vI i0, vI i0, vI i0, vI i2, uu, uu] []) _
    refine XS.iloadN X13.here hx rfl (hb hby d12_33) rfl ?_
    refine XS.istore X13.here hx rfl (hb hby d12_34) rfl (l' := #[vR o0, vI i0, vI i0, vI i0, vI i2, vI i0, uu]) rfl ?_
    refine XS.aloadN X13.here hx rfl (hb hby d12_36) rfl rfl ?_
    exact k)
  obtain ⟨T21, X21, e21, st21⟩ := getF X13 hx hZ hown (host := "") (Or.inl (wD hw 37 rfl)) Via.refl rfl f14 (g := (mkF m 37 #[vR o0, vI i0, vI i0, vI i0, vI i2, vI i0, uu] [sR o0])) rfl rfl (hb hby d12_37)
  have go22 := go20.st T21 (mkF m 43 #[vR o0, vI i0, vI i0, vI i0, vI i2, vI i0, uu] [sI i0, sI i0, sR sa]) (fun t k => by
    refine st21 _ ?_
    show SP p e below T21 (mkF m 40 #[vR o0, vI i0, vI i0, vI i0, vI i2, vI i0, uu] [sR sa]) _
    refine XS.iloadN X21.here hx rfl (hb hby d12_40) rfl ?_
    refine XS.iload X21.here hx rfl (hb hby d12_41) rfl ?_
    exact k)
  have Vo23 := f16
  obtain ⟨cl23, Ar23, qa23, Sa23, Na23, Ha23, Ga23⟩ := Vo23
  have hin23 := inb_of (j := (0 : Int32)) Sa23 ⟨by decide, by decide⟩
  obtain ⟨T24, h24, X24, e24, W24, st24⟩ := stI X21 hx hZ e21 Ar23 (j := (0 : Int32)) hin23 (g := (mkF m 43 #[vR o0, vI i0, vI i0, vI i0, vI i2, vI i0, uu] [sI i0, sI i0, sR sa])) rfl rfl (hb hby d12_43)
  have V24 : Arv Z h24 sa ka .int (3 : Int32) [(.int (0 : Int32)), (.int (2 : Int32)), (.int (2 : Int32))] (.int (0 : Int32)) := Arv.set Ar23 qa23 Sa23 Na23 Ha23 Ga23 rfl W24 0 rfl (Nat.le_of_ble_eq_true rfl)
  have f25 := Fld.other W24 f14 (Or.inl ne_o0_sa)
  have f26 := Fld.other W24 f15 (Or.inl ne_o0_sa)
  have f28 := Arv.other f17 W24 (Ne.symm ne_sa_nx)
  have f29 := Fld.other W24 f18 (Or.inl ne_o0_sa)
  have f30 := Arv.other qp13_0 W24 (Ne.symm ne_sa_va)
  have Z24 : n0 ≤ h24.size := Nat.le_trans Z13 (Nat.le_of_eq W24.size.symm)
  have K24 := KK13.wr W24 (Or.inl (List.mem_of_getElem? (i := 1) rfl))
  have N24 := Fr.snoc X24 N13 g_sa
  have go33 := go22.st T24 (mkF m 107 #[vR o0, vI i0, vI i0, vI i0, vI i2, vI i0, vI i0] [sR o0]) (fun t k => by
    refine st24 _ ?_
    show SP p e below T24 (mkF m 44 #[vR o0, vI i0, vI i0, vI i0, vI i2, vI i0, uu] []) _
    refine XS.iloadN X24.here hx rfl (hb hby d12_44) rfl ?_
    refine XS.istore X24.here hx rfl (hb hby d12_45) rfl (l' := #[vR o0, vI i0, vI i0, vI i0, vI i2, vI i0, vI i0]) rfl ?_
    refine XS.iload X24.here hx rfl (hb hby d12_47) rfl ?_
    refine XS.iload X24.here hx rfl (hb hby d12_49) rfl ?_
    refine XS.icmpNo X24.here hx rfl (hb hby d12_51) rfl (tlt ((by decide) : (0 : Int32) < (2 : Int32))).2.1 ?_
    refine XS.iload X24.here hx rfl (hb hby d12_54) rfl ?_
    refine XS.iloadN X24.here hx rfl (hb hby d12_56) rfl ?_
    refine XS.icmpYes X24.here hx rfl (pc0 := 57) (pc' := 106) rfl (hb hby d12_57) rfl (flt ((by decide) : ¬ ((0 : Int32) < (0 : Int32)))).2.2.2 (by decide) (by decide) ?_
    refine XS.aloadN X24.here hx rfl (hb hby d12_106) rfl rfl ?_
    exact k)
  obtain ⟨T34, X34, e34, st34⟩ := getF X24 hx hZ hown (host := "") (Or.inl (wD hw 69 rfl)) Via.refl e24 f29 (g := (mkF m 107 #[vR o0, vI i0, vI i0, vI i0, vI i2, vI i0, vI i0] [sR o0])) rfl rfl (hb hby d12_107)
  have go35 := go33.st T34 (mkF m 116 #[vR o0, vI i0, vI i0, vI i0, vI i2, vI i1, vI i0] [sR o0, sI i0, sR va]) (fun t k => by
    refine st34 _ ?_
    show SP p e below T34 (mkF m 110 #[vR o0, vI i0, vI i0, vI i0, vI i2, vI i0, vI i0] [sR va]) _
    refine XS.iload X34.here hx rfl (hb hby d12_110) rfl ?_
    refine XS.iinc X34.here hx rfl (hb hby d12_112) rfl (l' := #[vR o0, vI i0, vI i0, vI i0, vI i2, vI i1, vI i0]) rfl ?_
    refine XS.aloadN X34.here hx rfl (hb hby d12_115) rfl rfl ?_
    exact k)
  obtain ⟨T36, X36, e36, st36⟩ := getF X34 hx hZ hown (host := "") (Or.inl (wD hw 69 rfl)) Via.refl e34 f29 (g := (mkF m 116 #[vR o0, vI i0, vI i0, vI i0, vI i2, vI i1, vI i0] [sR o0, sI i0, sR va])) rfl rfl (hb hby d12_116)
  have go37 := go35.st T36 (mkF m 121 #[vR o0, vI i0, vI i0, vI i0, vI i2, vI i1, vI i0] [sI i0, sR va, sI i0, sR va]) (fun t k => by
    refine st36 _ ?_
    show SP p e below T36 (mkF m 119 #[vR o0, vI i0, vI i0, vI i0, vI i2, vI i1, vI i0] [sR va, sI i0, sR va]) _
    refine XS.iload X36.here hx rfl (hb hby d12_119) rfl ?_
    exact k)
  have Vo38 := f30
  obtain ⟨cl38, Ar38, qa38, Sa38, Na38, Ha38, Ga38⟩ := Vo38
  have hin38 := inb_of (j := (0 : Int32)) Sa38 ⟨by decide, by decide⟩
  have hat38 : cl38.slots[((0 : Int32)).toNatClampNeg]? = some (.long m0) := Has.at Ha38 hin38 rfl
  have go39 := go37.st T36 (mkF m 122 #[vR o0, vI i0, vI i0, vI i0, vI i2, vI i1, vI i0] [sJ m0, sI i0, sR va]) (fun t k => by
    refine X36.laload hx (j := (0 : Int32)) (v := (.long m0)) (by rw [e36]; exact Ar38.1) (State.isArrayOf_alike hZ.alike Ar38.2.1) Ar38.2.2 hin38 hat38 (g := (mkF m 121 #[vR o0, vI i0, vI i0, vI i0, vI i2, vI i1, vI i0] [sI i0, sR va, sI i0, sR va])) rfl rfl (hb hby d12_121) _ ?_
    exact k)
  have Vo40 := f30
  obtain ⟨cl40, Ar40, qa40, Sa40, Na40, Ha40, Ga40⟩ := Vo40
  have hin40 := inb_of (j := (0 : Int32)) Sa40 ⟨by decide, by decide⟩
  obtain ⟨T41, h41, X41, e41, W41, st41⟩ := stJ X36 hx hZ e36 Ar40 (j := (0 : Int32)) hin40 (g := (mkF m 122 #[vR o0, vI i0, vI i0, vI i0, vI i2, vI i1, vI i0] [sJ m0, sI i0, sR va])) rfl rfl (hb hby d12_122)
  have V41 : Arv Z h41 va kv .long (2 : Int32) [(.long m0), (.long m1)] (.long (0 : Int64)) := Arv.set Ar40 qa40 Sa40 Na40 Ha40 Ga40 rfl W41 0 rfl (Nat.le_of_ble_eq_true rfl)
  have f42 := Fld.other W41 f25 (Or.inl ne_o0_va)
  have f43 := Fld.other W41 f26 (Or.inl ne_o0_va)
  have f44 := Arv.other f28 W41 ne_nx_va
  have f45 := Fld.other W41 f29 (Or.inl ne_o0_va)
  have f47 := Arv.other V24 W41 ne_sa_va
  have Z41 : n0 ≤ h41.size := Nat.le_trans Z24 (Nat.le_of_eq W41.size.symm)
  have K41 := K24.wr W41 (Or.inl (List.mem_of_getElem? (i := 0) rfl))
  have N41 := Fr.snoc X41 N24 g_va
  have go50 := go39.st T41 (mkF m 61 #[vR o0, vI i0, vI i0, vI i0, vI i2, vI i1, vI i1] [sR o0]) (fun t k => by
    refine st41 _ ?_
    show SP p e below T41 (mkF m 123 #[vR o0, vI i0, vI i0, vI i0, vI i2, vI i1, vI i0] []) _
    refine XS.iinc X41.here hx rfl (hb hby d12_123) rfl (l' := #[vR o0, vI i0, vI i0, vI i0, vI i2, vI i1, vI i1]) rfl ?_
    refine XS.goto X41.here hx rfl (pc0 := 126) (pc' := 47) rfl (hb hby d12_126) (by decide) (by decide) ?_
    refine XS.iload X41.here hx rfl (hb hby d12_47) rfl ?_
    refine XS.iload X41.here hx rfl (hb hby d12_49) rfl ?_
    refine XS.icmpNo X41.here hx rfl (hb hby d12_51) rfl (tlt ((by decide) : (1 : Int32) < (2 : Int32))).2.1 ?_
    refine XS.iload X41.here hx rfl (hb hby d12_54) rfl ?_
    refine XS.iloadN X41.here hx rfl (hb hby d12_56) rfl ?_
    refine XS.icmpNo X41.here hx rfl (hb hby d12_57) rfl (tlt ((by decide) : (0 : Int32) < (1 : Int32))).2.2.2 ?_
    refine XS.aloadN X41.here hx rfl (hb hby d12_60) rfl rfl ?_
    exact k)
  obtain ⟨T51, X51, e51, st51⟩ := getF X41 hx hZ hown (host := "") (Or.inl (wD hw 69 rfl)) Via.refl e41 f45 (g := (mkF m 61 #[vR o0, vI i0, vI i0, vI i0, vI i2, vI i1, vI i1] [sR o0])) rfl rfl (hb hby d12_61)
  have go52 := go50.st T51 (mkF m 66 #[vR o0, vI i0, vI i0, vI i0, vI i2, vI i1, vI i1] [sI i1, sR va]) (fun t k => by
    refine st51 _ ?_
    show SP p e below T51 (mkF m 64 #[vR o0, vI i0, vI i0, vI i0, vI i2, vI i1, vI i1] [sR va]) _
    refine XS.iload X51.here hx rfl (hb hby d12_64) rfl ?_
    exact k)
  have Vo53 := V41
  obtain ⟨cl53, Ar53, qa53, Sa53, Na53, Ha53, Ga53⟩ := Vo53
  have hin53 := inb_of (j := (1 : Int32)) Sa53 ⟨by decide, by decide⟩
  have hat53 : cl53.slots[((1 : Int32)).toNatClampNeg]? = some (.long m1) := Has.at Ha53 hin53 rfl
  have go54 := go52.st T51 (mkF m 70 #[vR o0, vI i0, vI i0, vI i0, vI i2, vI i1, vI i1] [sR o0, (sJ (own_usrL m1 i1))]) (fun t k => by
    refine X51.laload hx (j := (1 : Int32)) (v := (.long m1)) (by rw [e51]; exact Ar53.1) (State.isArrayOf_alike hZ.alike Ar53.2.1) Ar53.2.2 hin53 hat53 (g := (mkF m 66 #[vR o0, vI i0, vI i0, vI i0, vI i2, vI i1, vI i1] [sI i1, sR va])) rfl rfl (hb hby d12_66) _ ?_
    refine XS.iconst X51.here hx rfl (hb hby d12_67) ?_
    refine XS.lushr X51.here hx rfl (hb hby d12_68) rfl ?_
    refine XS.aloadN X51.here hx rfl (hb hby d12_69) rfl rfl ?_
    exact k)
  obtain ⟨T55, X55, e55, st55⟩ := getF X51 hx hZ hown (host := "") (Or.inl (wD hw 69 rfl)) Via.refl e51 f45 (g := (mkF m 70 #[vR o0, vI i0, vI i0, vI i0, vI i2, vI i1, vI i1] [sR o0, (sJ (own_usrL m1 i1))])) rfl rfl (hb hby d12_70)
  have go56 := go54.st T55 (mkF m 77 #[vR o0, vI i0, vI i0, vI i0, vI i2, vI i1, vI i1] [sI i0, sR va, (sJ (own_usrL m1 i1))]) (fun t k => by
    refine st55 _ ?_
    show SP p e below T55 (mkF m 73 #[vR o0, vI i0, vI i0, vI i0, vI i2, vI i1, vI i1] [sR va, (sJ (own_usrL m1 i1))]) _
    refine XS.iload X55.here hx rfl (hb hby d12_73) rfl ?_
    refine XS.iconst X55.here hx rfl (hb hby d12_75) ?_
    refine XS.isub X55.here hx rfl (hb hby d12_76) rfl ?_
    exact k)
  have Vo57 := V41
  obtain ⟨cl57, Ar57, qa57, Sa57, Na57, Ha57, Ga57⟩ := Vo57
  have hin57 := inb_of (j := (0 : Int32)) Sa57 ⟨by decide, by decide⟩
  have hat57 : cl57.slots[((0 : Int32)).toNatClampNeg]? = some (.long m0) := Has.at Ha57 hin57 rfl
  have go59 := go56.st T55 (mkF m 85 #[vR o0, vI i0, vI i0, vI i0, vI i2, vI i1, vI i1] [sR o0]) (fun t k => by
    refine X55.laload hx (j := (0 : Int32)) (v := (.long m0)) (by rw [e55]; exact Ar57.1) (State.isArrayOf_alike hZ.alike Ar57.2.1) Ar57.2.2 hin57 hat57 (g := (mkF m 77 #[vR o0, vI i0, vI i0, vI i0, vI i2, vI i1, vI i1] [sI i0, sR va, (sJ (own_usrL m1 i1))])) rfl rfl (hb hby d12_77) _ ?_
    refine XS.iconst X55.here hx rfl (hb hby d12_78) ?_
    refine XS.lushr X55.here hx rfl (hb hby d12_79) rfl ?_
    refine XS.lcmp X55.here hx rfl (hb hby d12_80) rfl ?_
    refine XS.ifNo X55.here hx rfl (hb hby d12_81) rfl ((if0 _ _).trans (teq ((lw_eq _ _).mpr (hm : (own_usrL m1 (1 : Int32)) = (own_usrL m0 (1 : Int32))))).2) ?_
    refine XS.aloadN X55.here hx rfl (hb hby d12_84) rfl rfl ?_
    exact k)
  obtain ⟨T60, X60, e60, st60⟩ := getF X55 hx hZ hown (host := "") (Or.inl (wD hw 69 rfl)) Via.refl e55 f45 (g := (mkF m 85 #[vR o0, vI i0, vI i0, vI i0, vI i2, vI i1, vI i1] [sR o0])) rfl rfl (hb hby d12_85)
  have go61 := go59.st T60 (mkF m 93 #[vR o0, vI i0, vI i0, vI i0, vI i2, vI i1, vI i1] [sI i0, sR va, sI i0, sR va]) (fun t k => by
    refine st60 _ ?_
    show SP p e below T60 (mkF m 88 #[vR o0, vI i0, vI i0, vI i0, vI i2, vI i1, vI i1] [sR va]) _
    refine XS.iload X60.here hx rfl (hb hby d12_88) rfl ?_
    refine XS.iconst X60.here hx rfl (hb hby d12_90) ?_
    refine XS.isub X60.here hx rfl (hb hby d12_91) rfl ?_
    show SP p e below T60 (mkF m 92 #[vR o0, vI i0, vI i0, vI i0, vI i2, vI i1, vI i1] [sI i0, sR va]) _
    jvm_step X60.here [X60.here.top, hx, (hb hby d12_92), Value.category]
    exact k)
  have Vo62 := V41
  obtain ⟨cl62, Ar62, qa62, Sa62, Na62, Ha62, Ga62⟩ := Vo62
  have hin62 := inb_of (j := (0 : Int32)) Sa62 ⟨by decide, by decide⟩
  have hat62 : cl62.slots[((0 : Int32)).toNatClampNeg]? = some (.long m0) := Has.at Ha62 hin62 rfl
  have go63 := go61.st T60 (mkF m 95 #[vR o0, vI i0, vI i0, vI i0, vI i2, vI i1, vI i1] [sR o0, sJ m0, sI i0, sR va]) (fun t k => by
    refine X60.laload hx (j := (0 : Int32)) (v := (.long m0)) (by rw [e60]; exact Ar62.1) (State.isArrayOf_alike hZ.alike Ar62.2.1) Ar62.2.2 hin62 hat62 (g := (mkF m 93 #[vR o0, vI i0, vI i0, vI i0, vI i2, vI i1, vI i1] [sI i0, sR va, sI i0, sR va])) rfl rfl (hb hby d12_93) _ ?_
    refine XS.aloadN X60.here hx rfl (hb hby d12_94) rfl rfl ?_
    exact k)
  obtain ⟨T64, X64, e64, st64⟩ := getF X60 hx hZ hown (host := "") (Or.inl (wD hw 69 rfl)) Via.refl e60 f45 (g := (mkF m 95 #[vR o0, vI i0, vI i0, vI i0, vI i2, vI i1, vI i1] [sR o0, sJ m0, sI i0, sR va])) rfl rfl (hb hby d12_95)
  have go65 := go63.st T64 (mkF m 100 #[vR o0, vI i0, vI i0, vI i0, vI i2, vI i1, vI i1] [sI i1, sR va, sJ m0, sI i0, sR va]) (fun t k => by
    refine st64 _ ?_
    show SP p e below T64 (mkF m 98 #[vR o0, vI i0, vI i0, vI i0, vI i2, vI i1, vI i1] [sR va, sJ m0, sI i0, sR va]) _
    refine XS.iload X64.here hx rfl (hb hby d12_98) rfl ?_
    exact k)
  have Vo66 := V41
  obtain ⟨cl66, Ar66, qa66, Sa66, Na66, Ha66, Ga66⟩ := Vo66
  have hin66 := inb_of (j := (1 : Int32)) Sa66 ⟨by decide, by decide⟩
  have hat66 : cl66.slots[((1 : Int32)).toNatClampNeg]? = some (.long m1) := Has.at Ha66 hin66 rfl
  have go67 := go65.st T64 (mkF m 102 #[vR o0, vI i0, vI i0, vI i0, vI i2, vI i1, vI i1] [(sJ (m0 ||| m1)), sI i0, sR va]) (fun t k => by
    refine X64.laload hx (j := (1 : Int32)) (v := (.long m1)) (by rw [e64]; exact Ar66.1) (State.isArrayOf_alike hZ.alike Ar66.2.1) Ar66.2.2 hin66 hat66 (g := (mkF m 100 #[vR o0, vI i0, vI i0, vI i0, vI i2, vI i1, vI i1] [sI i1, sR va, sJ m0, sI i0, sR va])) rfl rfl (hb hby d12_100) _ ?_
    refine XS.lor X64.here hx rfl (hb hby d12_101) rfl ?_
    exact k)
  have Vo68 := V41
  obtain ⟨cl68, Ar68, qa68, Sa68, Na68, Ha68, Ga68⟩ := Vo68
  have hin68 := inb_of (j := (0 : Int32)) Sa68 ⟨by decide, by decide⟩
  obtain ⟨T69, h69, X69, e69, W69, st69⟩ := stJ X64 hx hZ e64 Ar68 (j := (0 : Int32)) hin68 (g := (mkF m 102 #[vR o0, vI i0, vI i0, vI i0, vI i2, vI i1, vI i1] [(sJ (m0 ||| m1)), sI i0, sR va])) rfl rfl (hb hby d12_102)
  have V69 : Arv Z h69 va kv .long (2 : Int32) [(.long (m0 ||| m1)), (.long m1)] (.long (0 : Int64)) := Arv.set Ar68 qa68 Sa68 Na68 Ha68 Ga68 rfl W69 0 rfl (Nat.le_of_ble_eq_true rfl)
  have f70 := Fld.other W69 f42 (Or.inl ne_o0_va)
  have f71 := Fld.other W69 f43 (Or.inl ne_o0_va)
  have f72 := Arv.other f44 W69 ne_nx_va
  have f73 := Fld.other W69 f45 (Or.inl ne_o0_va)
  have f74 := Arv.other f47 W69 ne_sa_va
  have Z69 : n0 ≤ h69.size := Nat.le_trans Z41 (Nat.le_of_eq W69.size.symm)
  have K69 := K41.wr W69 (Or.inl (List.mem_of_getElem? (i := 0) rfl))
  have N69 := Fr.snoc X69 N41 g_va
  have go77 := go67.st T69 (mkF m 131 #[vR o0, vI i0, vI i0, vI i0, vI i2, vI i1, vI i2] [sI i1]) (fun t k => by
    refine st69 _ ?_
    show SP p e below T69 (mkF m 103 #[vR o0, vI i0, vI i0, vI i0, vI i2, vI i1, vI i1] []) _
    refine XS.goto X69.here hx rfl (pc0 := 103) (pc' := 123) rfl (hb hby d12_103) (by decide) (by decide) ?_
    refine XS.iinc X69.here hx rfl (hb hby d12_123) rfl (l' := #[vR o0, vI i0, vI i0, vI i0, vI i2, vI i1, vI i2]) rfl ?_
    refine XS.goto X69.here hx rfl (pc0 := 126) (pc' := 47) rfl (hb hby d12_126) (by decide) (by decide) ?_
    refine XS.iload X69.here hx rfl (hb hby d12_47) rfl ?_
    refine XS.iload X69.here hx rfl (hb hby d12_49) rfl ?_
    refine XS.icmpYes X69.here hx rfl (pc0 := 51) (pc' := 129) rfl (hb hby d12_51) rfl (flt ((by decide) : ¬ ((2 : Int32) < (2 : Int32)))).2.1 (by decide) (by decide) ?_
    refine XS.iload X69.here hx rfl (hb hby d12_129) rfl ?_
    exact k)
  obtain ⟨fs, hr, hrun, hended, hW, hsame⟩ := X69.leave (v := some (.int (1 : Int32))) (fun h => by rw [Bd.returns] at h; cases h)
  refine ⟨_, _, go77 _ ?_, hrun, hended, _, _, rfl, ?_, ⟨_, rfl⟩, hW, hsame.mono (by decide) (by decide)⟩
  · exact own_retI X69 hx Bd.returns (hb hby d12_131) hr
  · show Q_rm_keepA0_0_1 Z o0 sa ka nx kx va kv v0 v1 m0 m1 h0 n0 _ T69.heap _
    rw [e69]
    exact ⟨rfl, N69, K69, f74, V69⟩
theorem pn_rm_keepA1_p : plainName "com/example/graphkind/graphkind/Statements$Builder" = true := by first | (simp [plainName, overriddenIn]; done) | decide +kernel
theorem ef_rm_keepA1_p (m : MethodId) (o0 : Addr) (p2 : Int32) : entryFrame m #[(.ref o0), (.int (1 : Int32)), (.int p2)] 7 = mkF m 0 #[.val (.ref o0), .val (.int (1 : Int32)), .val (.int p2), uu, uu, uu, uu] [] := by first | (simp [entryFrame, mkF, argsToLocals, Value.category]; done) | rfl
def Q_rm_keepA1_p (Z : State) (o0 : Addr) (p2 : Int32) (sa : Addr) (ka : ClassId) (nx : Addr) (kx : ClassId) (h0 : Heap) (n0 : Nat) (v : Option Value) (h : Heap) (L : List Loc) : Prop := v = some (.int p2) ∧ Fr n0 L ∧ Keep h0 h [sa] ∧ Arv Z h sa ka .int (3 : Int32) [(.int (0 : Int32)), (.int p2), (.int (2 : Int32))] (.int (0 : Int32))
set_option maxRecDepth 65536 in
set_option maxHeartbeats 40000000 in
theorem rm_keepA1_p (l : Launch) (Z : State) (a0 : Array Value) (hw : ∀ d ∈ tables_1, d.before a0 Z = true) (ws : List Jvm.Cond) (o0 : Addr) (p2 : Int32) (sa : Addr) (ka : ClassId) (nx : Addr) (kx : ClassId) (h0 : Heap) (n0 : Nat) (Z0 : n0 ≤ h0.size) (F_start_o0 : Fld Z h0 o0 "com/example/graphkind/graphkind/Statements$Builder" "start" "[I" (.ref sa)) (F_next_o0 : Fld Z h0 o0 "com/example/graphkind/graphkind/Statements$Builder" "next" "[I" (.ref nx)) (V_sa : Arv Z h0 sa ka .int (3 : Int32) [(.int (0 : Int32)), (.int (2 : Int32)), (.int (2 : Int32))] (.int (0 : Int32))) (V_nx : Arv Z h0 nx kx .int (2 : Int32) [(.int (2 : Int32)), (.int (2 : Int32))] (.int (0 : Int32))) (g_sa : n0 ≤ sa) (ne_o0_sa : o0 ≠ sa) (ne_o0_nx : o0 ≠ nx) (ne_sa_nx : sa ≠ nx) :
    MetFree l yN16 (head1 (Jvm.Cond.code yN16 prog_10_method_6_code 7 (some .int) :: ws) ({ frames := 0, cells := 0, slots := 0, locals := 0 } : Room)) (fun a U => a = #[(.ref o0), (.int (1 : Int32)), (.int p2)] ∧ Z.Warmed39 U.vm ∧ U.heap = h0) (fun _ _ _ _ _ => True) (fun _ U o U' => ∃ v L, o = .returned v ∧ Q_rm_keepA1_p Z o0 p2 sa ka nx kx h0 n0 v U'.heap L ∧ FrameEnd U o U' L ({ frames := 0, cells := 0, slots := 0, locals := 0 } : Room).cells ({ frames := 0, cells := 0, slots := 0, locals := 0 } : Room).slots) := by
  refine MetFree.of_bodySF (plainFor_of_name pn_rm_keepA1_p) hisR ?_
  intro p e s m args below meth c s₁ Bd hml0 hP hK
  obtain ⟨rfl, hZ, hh⟩ := hP
  have hx := Bd.exec
  have hby := Bd.bytes
  have hml : c.maxLocals = 7 := hml0
  have hown : s.vm.findClass "com/example/graphkind/graphkind/Statements$Builder" = some m.cls := findClass_of_methodNamed Bd.named
  have hnm := (name_of_methodNamed Bd.named Bd.method).1
  have X0 : Stand p l e ({ frames := 0, cells := 0, slots := 0, locals := 0 } : Room) s m #[(.ref o0), (.int (1 : Int32)), (.int p2)] below meth c s₁ [] 0 0 := Stand.of_body Bd
  have e0 : s₁.heap = h0 := by rw [← hh, Bd.state]; rfl
  have N0 := Fr.nil n0
  have K0 := Keep.refl h0 [sa]
  have go0 : Go p e below (s₁.setTop (entryFrame m #[(.ref o0), (.int (1 : Int32)), (.int p2)] 7)) (s₁.setTop (mkF m 0 #[vR o0, vI i1, vI p2, uu, uu, uu, uu] [])) := fun t k => castTop (ef_rm_keepA1_p m o0 p2) k
  have go1 := go0.st s₁ (mkF m 1 #[vR o0, vI i1, vI p2, uu, uu, uu, uu] [sR o0]) (fun t k => by
    refine XS.aloadN X0.here hx rfl (hb hby d12_0) rfl rfl ?_
    exact k)
  obtain ⟨T2, X2, e2, st2⟩ := getF X0 hx hZ hown (host := "") (Or.inl (wD hw 37 rfl)) Via.refl e0 F_start_o0 (g := (mkF m 1 #[vR o0, vI i1, vI p2, uu, uu, uu, uu] [sR o0])) rfl rfl (hb hby d12_1)
  have go3 := go1.st T2 (mkF m 5 #[vR o0, vI i1, vI p2, uu, uu, uu, uu] [sI i1, sR sa]) (fun t k => by
    refine st2 _ ?_
    show SP p e below T2 (mkF m 4 #[vR o0, vI i1, vI p2, uu, uu, uu, uu] [sR sa]) _
    refine XS.iloadN X2.here hx rfl (hb hby d12_4) rfl ?_
    exact k)
  have Vo4 := V_sa
  obtain ⟨cl4, Ar4, qa4, Sa4, Na4, Ha4, Ga4⟩ := Vo4
  have hin4 := inb_of (j := (1 : Int32)) Sa4 ⟨by decide, by decide⟩
  have hat4 : cl4.slots[((1 : Int32)).toNatClampNeg]? = some (.int (2 : Int32)) := Has.at Ha4 hin4 rfl
  have go5 := go3.st T2 (mkF m 8 #[vR o0, vI i1, vI p2, vI i2, uu, uu, uu] [sR o0]) (fun t k => by
    refine X2.iaload hx (j := (1 : Int32)) (v := (.int (2 : Int32))) (by rw [e2]; exact Ar4.1) (State.isArrayOf_alike hZ.alike Ar4.2.1) Ar4.2.2 hin4 hat4 (g := (mkF m 5 #[vR o0, vI i1, vI p2, uu, uu, uu, uu] [sI i1, sR sa])) rfl rfl (hb hby d12_5) _ ?_
    refine XS.istoreN X2.here hx rfl (hb hby d12_6) rfl (l' := #[vR o0, vI i1, vI p2, vI i2, uu, uu, uu]) rfl ?_
    refine XS.aloadN X2.here hx rfl (hb hby d12_7) rfl rfl ?_
    exact k)
  obtain ⟨T6, X6, e6, st6⟩ := getF X2 hx hZ hown (host := "") (Or.inl (wD hw 66 rfl)) Via.refl e2 F_next_o0 (g := (mkF m 8 #[vR o0, vI i1, vI p2, vI i2, uu, uu, uu] [sR o0])) rfl rfl (hb hby d12_8)
  have go7 := go5.st T6 (mkF m 12 #[vR o0, vI i1, vI p2, vI i2, uu, uu, uu] [sI i1, sR nx]) (fun t k => by
    refine st6 _ ?_
    show SP p e below T6 (mkF m 11 #[vR o0, vI i1, vI p2, vI i2, uu, uu, uu] [sR nx]) _
    refine XS.iloadN X6.here hx rfl (hb hby d12_11) rfl ?_
    exact k)
  have Vo8 := V_nx
  obtain ⟨cl8, Ar8, qa8, Sa8, Na8, Ha8, Ga8⟩ := Vo8
  have hin8 := inb_of (j := (1 : Int32)) Sa8 ⟨by decide, by decide⟩
  have hat8 : cl8.slots[((1 : Int32)).toNatClampNeg]? = some (.int (2 : Int32)) := Has.at Ha8 hin8 rfl
  have go10 := go7.st T6 (mkF m 37 #[vR o0, vI i1, vI p2, vI i2, vI i2, vI p2, uu] [sR o0]) (fun t k => by
    refine X6.iaload hx (j := (1 : Int32)) (v := (.int (2 : Int32))) (by rw [e6]; exact Ar8.1) (State.isArrayOf_alike hZ.alike Ar8.2.1) Ar8.2.2 hin8 hat8 (g := (mkF m 12 #[vR o0, vI i1, vI p2, vI i2, uu, uu, uu] [sI i1, sR nx])) rfl rfl (hb hby d12_12) _ ?_
    refine XS.istore X6.here hx rfl (hb hby d12_13) rfl (l' := #[vR o0, vI i1, vI p2, vI i2, vI i2, uu, uu]) rfl ?_
    refine XS.iload X6.here hx rfl (hb hby d12_15) rfl ?_
    refine XS.iloadN X6.here hx rfl (hb hby d12_17) rfl ?_
    refine XS.isub X6.here hx rfl (hb hby d12_18) rfl ?_
    refine XS.iconst X6.here hx rfl (hb hby d12_19) ?_
    refine XS.icmpYes X6.here hx rfl (pc0 := 20) (pc' := 33) rfl (hb hby d12_20) rfl (flt ((by decide) : ¬ ((1 : Int32) < (0 : Int32)))).2.2.2 (by decide) (by decide) ?_
    refine XS.iloadN X6.here hx rfl (hb hby d12_33) rfl ?_
    show SP p e below T6 (mkF m 34 #[vR o0, vI i1, vI p2, vI i2, vI i2, uu, uu] [sI p2]) _
    refine XS.istore X6.here hx rfl (hb hby d12_34) rfl (l' := #[vR o0, vI i1, vI p2, vI i2, vI i2, vI p2, uu]) rfl ?_
    refine XS.aloadN X6.here hx rfl (hb hby d12_36) rfl rfl ?_
    exact k)
  obtain ⟨T11, X11, e11, st11⟩ := getF X6 hx hZ hown (host := "") (Or.inl (wD hw 37 rfl)) Via.refl e6 F_start_o0 (g := (mkF m 37 #[vR o0, vI i1, vI p2, vI i2, vI i2, vI p2, uu] [sR o0])) rfl rfl (hb hby d12_37)
  have go12 := go10.st T11 (mkF m 43 #[vR o0, vI i1, vI p2, vI i2, vI i2, vI p2, uu] [sI p2, sI i1, sR sa]) (fun t k => by
    refine st11 _ ?_
    show SP p e below T11 (mkF m 40 #[vR o0, vI i1, vI p2, vI i2, vI i2, vI p2, uu] [sR sa]) _
    refine XS.iloadN X11.here hx rfl (hb hby d12_40) rfl ?_
    refine XS.iload X11.here hx rfl (hb hby d12_41) rfl ?_
    exact k)
  have Vo13 := V_sa
  obtain ⟨cl13, Ar13, qa13, Sa13, Na13, Ha13, Ga13⟩ := Vo13
  have hin13 := inb_of (j := (1 : Int32)) Sa13 ⟨by decide, by decide⟩
  obtain ⟨T14, h14, X14, e14, W14, st14⟩ := stI X11 hx hZ e11 Ar13 (j := (1 : Int32)) hin13 (g := (mkF m 43 #[vR o0, vI i1, vI p2, vI i2, vI i2, vI p2, uu] [sI p2, sI i1, sR sa])) rfl rfl (hb hby d12_43)
  have V14 : Arv Z h14 sa ka .int (3 : Int32) [(.int (0 : Int32)), (.int p2), (.int (2 : Int32))] (.int (0 : Int32)) := Arv.set Ar13 qa13 Sa13 Na13 Ha13 Ga13 rfl W14 1 rfl (Nat.le_of_ble_eq_true rfl)
  have f15 := Fld.other W14 F_start_o0 (Or.inl ne_o0_sa)
  have f16 := Fld.other W14 F_next_o0 (Or.inl ne_o0_sa)
  have f18 := Arv.other V_nx W14 (Ne.symm ne_sa_nx)
  have Z14 : n0 ≤ h14.size := Nat.le_trans Z0 (Nat.le_of_eq W14.size.symm)
  have K14 := K0.wr W14 (Or.inl (List.mem_of_getElem? (i := 0) rfl))
  have N14 := Fr.snoc X14 N0 g_sa
  have go20 := go12.st T14 (mkF m 131 #[vR o0, vI i1, vI p2, vI i2, vI i2, vI p2, vI i2] [sI p2]) (fun t k => by
    refine st14 _ ?_
    show SP p e below T14 (mkF m 44 #[vR o0, vI i1, vI p2, vI i2, vI i2, vI p2, uu] []) _
    refine XS.iloadN X14.here hx rfl (hb hby d12_44) rfl ?_
    refine XS.istore X14.here hx rfl (hb hby d12_45) rfl (l' := #[vR o0, vI i1, vI p2, vI i2, vI i2, vI p2, vI i2]) rfl ?_
    refine XS.iload X14.here hx rfl (hb hby d12_47) rfl ?_
    refine XS.iload X14.here hx rfl (hb hby d12_49) rfl ?_
    refine XS.icmpYes X14.here hx rfl (pc0 := 51) (pc' := 129) rfl (hb hby d12_51) rfl (flt ((by decide) : ¬ ((2 : Int32) < (2 : Int32)))).2.1 (by decide) (by decide) ?_
    refine XS.iload X14.here hx rfl (hb hby d12_129) rfl ?_
    exact k)
  obtain ⟨fs, hr, hrun, hended, hW, hsame⟩ := X14.leave (v := some (.int p2)) (fun h => by rw [Bd.returns] at h; cases h)
  refine ⟨_, _, go20 _ ?_, hrun, hended, _, _, rfl, ?_, ⟨_, rfl⟩, hW, hsame.mono (by decide) (by decide)⟩
  · exact own_retI X14 hx Bd.returns (hb hby d12_131) hr
  · show Q_rm_keepA1_p Z o0 p2 sa ka nx kx h0 n0 _ T14.heap _
    rw [e14]
    exact ⟨rfl, N14, K14, V14⟩
theorem d11_0 : decode prog_10_method_5_code 0 = .ok (.iconst 0, 1) := by decide +kernel
theorem d11_1 : decode prog_10_method_5_code 1 = .ok (.istore_n 1, 1) := by decide +kernel
theorem d11_2 : decode prog_10_method_5_code 2 = .ok (.iconst 0, 1) := by decide +kernel
theorem d11_3 : decode prog_10_method_5_code 3 = .ok (.istore_n 2, 1) := by decide +kernel
theorem d11_4 : decode prog_10_method_5_code 4 = .ok (.iload_n 2, 1) := by decide +kernel
theorem d11_5 : decode prog_10_method_5_code 5 = .ok (.aload_n 0, 1) := by decide +kernel
theorem d11_6 : decode prog_10_method_5_code 6 = .ok (.getfield 7, 3) := by decide +kernel
theorem d11_9 : decode prog_10_method_5_code 9 = .ok (.if_icmp .ge 16, 3) := by decide +kernel
theorem d11_12 : decode prog_10_method_5_code 12 = .ok (.aload_n 0, 1) := by decide +kernel
theorem d11_13 : decode prog_10_method_5_code 13 = .ok (.iload_n 2, 1) := by decide +kernel
theorem d11_14 : decode prog_10_method_5_code 14 = .ok (.iload_n 1, 1) := by decide +kernel
theorem d11_15 : decode prog_10_method_5_code 15 = .ok (.invokevirtual 36, 3) := by decide +kernel
theorem d11_18 : decode prog_10_method_5_code 18 = .ok (.istore_n 1, 1) := by decide +kernel
theorem d11_19 : decode prog_10_method_5_code 19 = .ok (.iinc 2 1, 3) := by decide +kernel
theorem d11_22 : decode prog_10_method_5_code 22 = .ok (.goto (-18), 3) := by decide +kernel
theorem d11_25 : decode prog_10_method_5_code 25 = .ok (.aload_n 0, 1) := by decide +kernel
theorem d11_26 : decode prog_10_method_5_code 26 = .ok (.getfield 13, 3) := by decide +kernel
theorem d11_29 : decode prog_10_method_5_code 29 = .ok (.aload_n 0, 1) := by decide +kernel
theorem d11_30 : decode prog_10_method_5_code 30 = .ok (.getfield 7, 3) := by decide +kernel
theorem d11_33 : decode prog_10_method_5_code 33 = .ok (.iload_n 1, 1) := by decide +kernel
theorem d11_34 : decode prog_10_method_5_code 34 = .ok (.iastore, 1) := by decide +kernel
theorem d11_35 : decode prog_10_method_5_code 35 = .ok (.aload_n 0, 1) := by decide +kernel
theorem d11_36 : decode prog_10_method_5_code 36 = .ok (.aconst_null, 1) := by decide +kernel
theorem d11_37 : decode prog_10_method_5_code 37 = .ok (.putfield 29, 3) := by decide +kernel
theorem d11_40 : decode prog_10_method_5_code 40 = .ok (.new 40, 3) := by decide +kernel
theorem d11_43 : decode prog_10_method_5_code 43 = .ok (.dup, 1) := by decide +kernel
theorem d11_44 : decode prog_10_method_5_code 44 = .ok (.aload_n 0, 1) := by decide +kernel
theorem d11_45 : decode prog_10_method_5_code 45 = .ok (.getfield 13, 3) := by decide +kernel
theorem d11_48 : decode prog_10_method_5_code 48 = .ok (.iload_n 1, 1) := by decide +kernel
theorem d11_49 : decode prog_10_method_5_code 49 = .ok (.aload_n 0, 1) := by decide +kernel
theorem d11_50 : decode prog_10_method_5_code 50 = .ok (.getfield 32, 3) := by decide +kernel
theorem d11_53 : decode prog_10_method_5_code 53 = .ok (.arraylength, 1) := by decide +kernel
theorem d11_54 : decode prog_10_method_5_code 54 = .ok (.if_icmp .ne 10, 3) := by decide +kernel
theorem d11_64 : decode prog_10_method_5_code 64 = .ok (.aload_n 0, 1) := by decide +kernel
theorem d11_65 : decode prog_10_method_5_code 65 = .ok (.getfield 32, 3) := by decide +kernel
theorem d11_68 : decode prog_10_method_5_code 68 = .ok (.iload_n 1, 1) := by decide +kernel
theorem d11_69 : decode prog_10_method_5_code 69 = .ok (.invokestatic 42, 3) := by decide +kernel
theorem d11_72 : decode prog_10_method_5_code 72 = .ok (.invokespecial 45, 3) := by decide +kernel
theorem d11_75 : decode prog_10_method_5_code 75 = .ok (.areturn, 1) := by decide +kernel
theorem pn_rm_buildA_1 : plainName "com/example/graphkind/graphkind/Statements$Builder" = true := by first | (simp [plainName, overriddenIn]; done) | decide +kernel
theorem pd_rm_buildA_1_0 : parseMethodDescriptor "(II)I" = some ⟨[.int, .int], some .int⟩ := by decide +kernel
theorem pd_rm_buildA_1_1 : parseMethodDescriptor "([JI)[J" = some ⟨[(.array .long), .int], some (.array .long)⟩ := by decide +kernel
theorem pd_rm_buildA_1_2 : parseMethodDescriptor "([I[J)V" = some ⟨[(.array .int), (.array .long)], none⟩ := by decide +kernel
theorem ef_rm_buildA_1 (m : MethodId) (o0 : Addr) : entryFrame m #[(.ref o0)] 3 = mkF m 0 #[.val (.ref o0), uu, uu] [] := by first | (simp [entryFrame, mkF, argsToLocals, Value.category]; done) | rfl
def Q_rm_buildA_1 (Z : State) (o0 : Addr) (sa : Addr) (ka : ClassId) (nx : Addr) (kx : ClassId) (va : Addr) (kv : ClassId) (v0 : Int64) (v1 : Int64) (m0 : Int64) (m1 : Int64) (h0 : Heap) (n0 : Nat) (v : Option Value) (h : Heap) (L : List Loc) : Prop := ∃ b : Addr, ∃ vb : Addr, ∃ kb : ClassId, v = some (.ref b) ∧ Fr n0 L ∧ Keep h0 h [va, sa, o0] ∧ n0 ≤ b ∧ h0.size ≤ b ∧ Exa Z h b "com/example/graphkind/graphkind/Statements" ∧ Fld Z h b "com/example/graphkind/graphkind/Statements" "start" "[I" (.ref sa) ∧ Fld Z h b "com/example/graphkind/graphkind/Statements" "values" "[J" (.ref vb) ∧ Arv Z h sa ka .int (3 : Int32) [(.int (0 : Int32)), (.int (1 : Int32)), (.int (1 : Int32))] (.int (0 : Int32)) ∧ Arv Z h vb kb .long (1 : Int32) [(.long (m0 ||| m1))] (.long (0 : Int64))
set_option maxRecDepth 65536 in
set_option maxHeartbeats 40000000 in
theorem rm_buildA_1 (l : Launch) (Z : State) (a0 : Array Value) (hw : ∀ d ∈ tables_1, d.before a0 Z = true) (ws : List Jvm.Cond) (o0 : Addr) (sa : Addr) (ka : ClassId) (nx : Addr) (kx : ClassId) (va : Addr) (kv : ClassId) (v0 : Int64) (v1 : Int64) (m0 : Int64) (m1 : Int64) (h0 : Heap) (n0 : Nat) (Z0 : n0 ≤ h0.size) (E_o0 : Exa Z h0 o0 "com/example/graphkind/graphkind/Statements$Builder") (F_terms_o0 : Fld Z h0 o0 "com/example/graphkind/graphkind/Statements$Builder" "terms" "I" (.int (2 : Int32))) (F_start_o0 : Fld Z h0 o0 "com/example/graphkind/graphkind/Statements$Builder" "start" "[I" (.ref sa)) (F_next_o0 : Fld Z h0 o0 "com/example/graphkind/graphkind/Statements$Builder" "next" "[I" (.ref nx)) (F_values_o0 : Fld Z h0 o0 "com/example/graphkind/graphkind/Statements$Builder" "values" "[J" (.ref va)) (V_sa : Arv Z h0 sa ka .int (3 : Int32) [(.int (0 : Int32)), (.int (2 : Int32)), (.int (2 : Int32))] (.int (0 : Int32))) (V_nx : Arv Z h0 nx kx .int (2 : Int32) [(.int (2 : Int32)), (.int (2 : Int32))] (.int (0 : Int32))) (V_va : Arv Z h0 va kv .long (2 : Int32) [(.long v0), (.long v1)] (.long (0 : Int64))) (g_sa : n0 ≤ sa) (g_va : n0 ≤ va) (g_o0 : n0 ≤ o0) (ne_o0_sa : o0 ≠ sa) (ne_o0_nx : o0 ≠ nx) (ne_o0_va : o0 ≠ va) (ne_sa_nx : sa ≠ nx) (ne_sa_va : sa ≠ va) (ne_nx_va : nx ≠ va) (hl : (v1 < v0 ∧ m0 = v1 ∧ m1 = v0) ∨ (¬ v1 < v0 ∧ m0 = v0 ∧ m1 = v1)) (hm : (own_usrL m1 (1 : Int32)) = (own_usrL m0 (1 : Int32))) :
    MetFree l yN17 (head1 (Jvm.Cond.code yN17 prog_10_method_5_code 3 (some (.object "com/example/graphkind/graphkind/Statements")) :: ws) ({ frames := 5, cells := 2, slots := 3, locals := 104 } : Room)) (fun a U => a = #[(.ref o0)] ∧ Z.Warmed39 U.vm ∧ U.heap = h0) (fun _ _ _ _ _ => True) (fun _ U o U' => ∃ v L, o = .returned v ∧ Q_rm_buildA_1 Z o0 sa ka nx kx va kv v0 v1 m0 m1 h0 n0 v U'.heap L ∧ FrameEnd U o U' L ({ frames := 5, cells := 2, slots := 3, locals := 104 } : Room).cells ({ frames := 5, cells := 2, slots := 3, locals := 104 } : Room).slots) := by
  refine MetFree.of_bodySF (plainFor_of_name pn_rm_buildA_1) hisR ?_
  intro p e s m args below meth c s₁ Bd hml0 hP hK
  obtain ⟨rfl, hZ, hh⟩ := hP
  have hx := Bd.exec
  have hby := Bd.bytes
  have hml : c.maxLocals = 3 := hml0
  have hown : s.vm.findClass "com/example/graphkind/graphkind/Statements$Builder" = some m.cls := findClass_of_methodNamed Bd.named
  have hnm := (name_of_methodNamed Bd.named Bd.method).1
  have X0 : Stand p l e ({ frames := 5, cells := 2, slots := 3, locals := 104 } : Room) s m #[(.ref o0)] below meth c s₁ [] 0 0 := Stand.of_body Bd
  have e0 : s₁.heap = h0 := by rw [← hh, Bd.state]; rfl
  have N0 := Fr.nil n0
  have K0 := Keep.refl h0 [va, sa, o0]
  have go0 : Go p e below (s₁.setTop (entryFrame m #[(.ref o0)] 3)) (s₁.setTop (mkF m 0 #[vR o0, uu, uu] [])) := fun t k => castTop (ef_rm_buildA_1 m o0) k
  have go1 := go0.st s₁ (mkF m 6 #[vR o0, vI i0, vI i0] [sR o0, sI i0]) (fun t k => by
    refine XS.iconst X0.here hx rfl (hb hby d11_0) ?_
    refine XS.istoreN X0.here hx rfl (hb hby d11_1) rfl (l' := #[vR o0, vI i0, uu]) rfl ?_
    refine XS.iconst X0.here hx rfl (hb hby d11_2) ?_
    refine XS.istoreN X0.here hx rfl (hb hby d11_3) rfl (l' := #[vR o0, vI i0, vI i0]) rfl ?_
    refine XS.iloadN X0.here hx rfl (hb hby d11_4) rfl ?_
    refine XS.aloadN X0.here hx rfl (hb hby d11_5) rfl rfl ?_
    exact k)
  obtain ⟨T2, X2, e2, st2⟩ := getF X0 hx hZ hown (host := "") (Or.inl (wD hw 35 rfl)) Via.refl e0 F_terms_o0 (g := (mkF m 6 #[vR o0, vI i0, vI i0] [sR o0, sI i0])) rfl rfl (hb hby d11_6)
  have go4 := go1.st T2 (mkF m 15 #[vR o0, vI i0, vI i0] [sI i0, sI i0, sR o0]) (fun t k => by
    refine st2 _ ?_
    show SP p e below T2 (mkF m 9 #[vR o0, vI i0, vI i0] [sI i2, sI i0]) _
    refine XS.icmpNo X2.here hx rfl (hb hby d11_9) rfl (tlt ((by decide) : (0 : Int32) < (2 : Int32))).2.1 ?_
    refine XS.aloadN X2.here hx rfl (hb hby d11_12) rfl rfl ?_
    refine XS.iloadN X2.here hx rfl (hb hby d11_13) rfl ?_
    refine XS.iloadN X2.here hx rfl (hb hby d11_14) rfl ?_
    exact k)
  obtain ⟨cq5, q5, q5'⟩ := E_o0.cell
  obtain ⟨_, _, ⟨T5, L5, k5, n5⟩, -, X5, ⟨Lc5, hQ5, l5, y5, z5⟩, st5⟩ := X2.privateBack hx (y := yN16) hown (mvT hZ (wD hw 81 rfl)) (mvT hZ (wD hw 82 rfl)) (mvT hZ (own_selpriv (y := yN16) (by decide) (wD hw 29 rfl) (wD hw 83 rfl) (wD hw 82 rfl))) (Cond.privateMethod_at (mvP hZ (wD hw 83 rfl) (args := #[]))) (mvT hZ (wD hw 84 rfl)) (by decide) (backOf (W := 0) (rm_keepA0_0_1 l Z a0 hw [] o0 sa ka nx kx va kv v0 v1 m0 m1 h0 n0 Z0 F_start_o0 F_next_o0 V_sa V_nx g_sa F_values_o0 V_va g_va ne_o0_sa ne_o0_nx ne_o0_va ne_sa_nx ne_sa_va ne_nx_va hl hm) hZ (wD hw 84 rfl) (wD hw 30 rfl) (by decide) (by decide)) (g := (mkF m 15 #[vR o0, vI i0, vI i0] [sI i0, sI i0, sR o0])) rfl (by rw [hml]; rfl) (Steps.refl _) (a := o0) (by rw [e2]; exact q5) q5' (argsL := [(.int (0 : Int32)), (.int (0 : Int32))]) (rest := []) (lenOf pd_rm_buildA_1_0 rfl) rfl (by show 2 * 0 + _ ≤ _; exact Nat.le_of_eq rfl) (hb hby d11_15) (fun _ _ => ⟨rfl, e2, (by decide : 0 + 0 ≤ _), (by decide : 0 + 0 ≤ _)⟩)
  dsimp only [Pt.U, Pt.locs, Pt.cells, Pt.slots] at X5 l5 y5 z5 st5 hQ5
  rw [l5, y5, z5] at X5
  obtain ⟨rfl, N5q, K5, qp5_0, qp5_1⟩ := hQ5
  have N5 := Fr.app N0 N5q
  have f6 := E_o0.keep K5
  have f7 := F_terms_o0.keep K5 (ninS ne_o0_va (ninS ne_o0_sa nin0))
  have f8 := F_start_o0.keep K5 (ninS ne_o0_va (ninS ne_o0_sa nin0))
  have f9 := F_next_o0.keep K5 (ninS ne_o0_va (ninS ne_o0_sa nin0))
  have f10 := F_values_o0.keep K5 (ninS ne_o0_va (ninS ne_o0_sa nin0))
  have f12 := V_nx.keep K5 (ninS ne_nx_va (ninS (Ne.symm ne_sa_nx) nin0))
  have Z5 : n0 ≤ T5.heap.size := Nat.le_trans Z0 K5.1
  have KK5 := K0.trans K5 (allS (Or.inl (List.mem_of_getElem? (i := 0) rfl)) (allS (Or.inl (List.mem_of_getElem? (i := 1) rfl)) all0))
  have go14 := go4.st T5 (mkF m 6 #[vR o0, vI i1, vI i1] [sR o0, sI i1]) (fun t k => by
    refine st5.trans ?_
    show SP p e below T5 (mkF m 18 #[vR o0, vI i0, vI i0] [sI i1]) _
    refine XS.istoreN X5.here hx rfl (hb hby d11_18) rfl (l' := #[vR o0, vI i1, vI i0]) rfl ?_
    refine XS.iinc X5.here hx rfl (hb hby d11_19) rfl (l' := #[vR o0, vI i1, vI i1]) rfl ?_
    refine XS.goto X5.here hx rfl (pc0 := 22) (pc' := 4) rfl (hb hby d11_22) (by decide) (by decide) ?_
    refine XS.iloadN X5.here hx rfl (hb hby d11_4) rfl ?_
    refine XS.aloadN X5.here hx rfl (hb hby d11_5) rfl rfl ?_
    exact k)
  obtain ⟨T15, X15, e15, st15⟩ := getF X5 hx hZ hown (host := "") (Or.inl (wD hw 35 rfl)) Via.refl rfl f7 (g := (mkF m 6 #[vR o0, vI i1, vI i1] [sR o0, sI i1])) rfl rfl (hb hby d11_6)
  have go17 := go14.st T15 (mkF m 15 #[vR o0, vI i1, vI i1] [sI i1, sI i1, sR o0]) (fun t k => by
    refine st15 _ ?_
    show SP p e below T15 (mkF m 9 #[vR o0, vI i1, vI i1] [sI i2, sI i1]) _
    refine XS.icmpNo X15.here hx rfl (hb hby d11_9) rfl (tlt ((by decide) : (1 : Int32) < (2 : Int32))).2.1 ?_
    refine XS.aloadN X15.here hx rfl (hb hby d11_12) rfl rfl ?_
    refine XS.iloadN X15.here hx rfl (hb hby d11_13) rfl ?_
    refine XS.iloadN X15.here hx rfl (hb hby d11_14) rfl ?_
    exact k)
  obtain ⟨cq18, q18, q18'⟩ := f6.cell
  obtain ⟨_, _, ⟨T18, L18, k18, n18⟩, -, X18, ⟨Lc18, hQ18, l18, y18, z18⟩, st18⟩ := X15.privateBack hx (y := yN16) hown (mvT hZ (wD hw 81 rfl)) (mvT hZ (wD hw 82 rfl)) (mvT hZ (own_selpriv (y := yN16) (by decide) (wD hw 29 rfl) (wD hw 83 rfl) (wD hw 82 rfl))) (Cond.privateMethod_at (mvP hZ (wD hw 83 rfl) (args := #[]))) (mvT hZ (wD hw 84 rfl)) (by decide) (backOf (W := 0) (rm_keepA1_p l Z a0 hw [] o0 (1 : Int32) sa ka nx kx T5.heap n0 Z5 f8 f9 qp5_0 f12 g_sa ne_o0_sa ne_o0_nx ne_sa_nx) hZ (wD hw 84 rfl) (wD hw 30 rfl) (by decide) (by decide)) (g := (mkF m 15 #[vR o0, vI i1, vI i1] [sI i1, sI i1, sR o0])) rfl (by rw [hml]; rfl) (Steps.refl _) (a := o0) (by rw [e15]; exact q18) q18' (argsL := [(.int (1 : Int32)), (.int (1 : Int32))]) (rest := []) (lenOf pd_rm_buildA_1_0 rfl) rfl (by show 2 * 0 + _ ≤ _; exact Nat.le_of_eq rfl) (hb hby d11_15) (fun _ _ => ⟨rfl, e15, (by decide : 0 + 0 ≤ _), (by decide : 0 + 0 ≤ _)⟩)
  dsimp only [Pt.U, Pt.locs, Pt.cells, Pt.slots] at X18 l18 y18 z18 st18 hQ18
  rw [l18, y18, z18] at X18
  obtain ⟨rfl, N18q, K18, qp18_0⟩ := hQ18
  have N18 := Fr.app N5 N18q
  have f19 := f6.keep K18
  have f20 := f7.keep K18 (ninS ne_o0_sa nin0)
  have f21 := f8.keep K18 (ninS ne_o0_sa nin0)
  have f22 := f9.keep K18 (ninS ne_o0_sa nin0)
  have f23 := f10.keep K18 (ninS ne_o0_sa nin0)
  have f24 := f12.keep K18 (ninS (Ne.symm ne_sa_nx) nin0)
  have f26 := qp5_1.keep K18 (ninS (Ne.symm ne_sa_va) nin0)
  have Z18 : n0 ≤ T18.heap.size := Nat.le_trans Z5 K18.1
  have KK18 := KK5.trans K18 (allS (Or.inl (List.mem_of_getElem? (i := 1) rfl)) all0)
  have go27 := go17.st T18 (mkF m 6 #[vR o0, vI i1, vI i2] [sR o0, sI i2]) (fun t k => by
    refine st18.trans ?_
    show SP p e below T18 (mkF m 18 #[vR o0, vI i1, vI i1] [sI i1]) _
    refine XS.istoreN X18.here hx rfl (hb hby d11_18) rfl (l' := #[vR o0, vI i1, vI i1]) rfl ?_
    refine XS.iinc X18.here hx rfl (hb hby d11_19) rfl (l' := #[vR o0, vI i1, vI i2]) rfl ?_
    refine XS.goto X18.here hx rfl (pc0 := 22) (pc' := 4) rfl (hb hby d11_22) (by decide) (by decide) ?_
    refine XS.iloadN X18.here hx rfl (hb hby d11_4) rfl ?_
    refine XS.aloadN X18.here hx rfl (hb hby d11_5) rfl rfl ?_
    exact k)
  obtain ⟨T28, X28, e28, st28⟩ := getF X18 hx hZ hown (host := "") (Or.inl (wD hw 35 rfl)) Via.refl rfl f20 (g := (mkF m 6 #[vR o0, vI i1, vI i2] [sR o0, sI i2])) rfl rfl (hb hby d11_6)
  have go30 := go27.st T28 (mkF m 26 #[vR o0, vI i1, vI i2] [sR o0]) (fun t k => by
    refine st28 _ ?_
    show SP p e below T28 (mkF m 9 #[vR o0, vI i1, vI i2] [sI i2, sI i2]) _
    refine XS.icmpYes X28.here hx rfl (pc0 := 9) (pc' := 25) rfl (hb hby d11_9) rfl (flt ((by decide) : ¬ ((2 : Int32) < (2 : Int32)))).2.1 (by decide) (by decide) ?_
    refine XS.aloadN X28.here hx rfl (hb hby d11_25) rfl rfl ?_
    exact k)
  obtain ⟨T31, X31, e31, st31⟩ := getF X28 hx hZ hown (host := "") (Or.inl (wD hw 37 rfl)) Via.refl e28 f21 (g := (mkF m 26 #[vR o0, vI i1, vI i2] [sR o0])) rfl rfl (hb hby d11_26)
  have go32 := go30.st T31 (mkF m 30 #[vR o0, vI i1, vI i2] [sR o0, sR sa]) (fun t k => by
    refine st31 _ ?_
    show SP p e below T31 (mkF m 29 #[vR o0, vI i1, vI i2] [sR sa]) _
    refine XS.aloadN X31.here hx rfl (hb hby d11_29) rfl rfl ?_
    exact k)
  obtain ⟨T33, X33, e33, st33⟩ := getF X31 hx hZ hown (host := "") (Or.inl (wD hw 35 rfl)) Via.refl e31 f20 (g := (mkF m 30 #[vR o0, vI i1, vI i2] [sR o0, sR sa])) rfl rfl (hb hby d11_30)
  have go34 := go32.st T33 (mkF m 34 #[vR o0, vI i1, vI i2] [sI i1, sI i2, sR sa]) (fun t k => by
    refine st33 _ ?_
    show SP p e below T33 (mkF m 33 #[vR o0, vI i1, vI i2] [sI i2, sR sa]) _
    refine XS.iloadN X33.here hx rfl (hb hby d11_33) rfl ?_
    exact k)
  have Vo35 := qp18_0
  obtain ⟨cl35, Ar35, qa35, Sa35, Na35, Ha35, Ga35⟩ := Vo35
  have hin35 := inb_of (j := (2 : Int32)) Sa35 ⟨by decide, by decide⟩
  obtain ⟨T36, h36, X36, e36, W36, st36⟩ := stI X33 hx hZ e33 Ar35 (j := (2 : Int32)) hin35 (g := (mkF m 34 #[vR o0, vI i1, vI i2] [sI i1, sI i2, sR sa])) rfl rfl (hb hby d11_34)
  have V36 : Arv Z h36 sa ka .int (3 : Int32) [(.int (0 : Int32)), (.int (1 : Int32)), (.int (1 : Int32))] (.int (0 : Int32)) := Arv.set Ar35 qa35 Sa35 Na35 Ha35 Ga35 rfl W36 2 rfl (Nat.le_of_ble_eq_true rfl)
  have f37 := f19.wr W36
  have f38 := Fld.other W36 f20 (Or.inl ne_o0_sa)
  have f39 := Fld.other W36 f21 (Or.inl ne_o0_sa)
  have f40 := Fld.other W36 f22 (Or.inl ne_o0_sa)
  have f41 := Fld.other W36 f23 (Or.inl ne_o0_sa)
  have f42 := Arv.other f24 W36 (Ne.symm ne_sa_nx)
  have f43 := Arv.other f26 W36 (Ne.symm ne_sa_va)
  have Z36 : n0 ≤ h36.size := Nat.le_trans Z18 (Nat.le_of_eq W36.size.symm)
  have K36 := KK18.wr W36 (Or.inl (List.mem_of_getElem? (i := 1) rfl))
  have N36 := Fr.snoc X36 N18 g_sa
  have go45 := go34.st T36 (mkF m 37 #[vR o0, vI i1, vI i2] [.null, sR o0]) (fun t k => by
    refine st36 _ ?_
    show SP p e below T36 (mkF m 35 #[vR o0, vI i1, vI i2] []) _
    refine XS.aloadN X36.here hx rfl (hb hby d11_35) rfl rfl ?_
    refine XS.aconstNull X36.here hx rfl (hb hby d11_36) ?_
    exact k)
  obtain ⟨T46, h46, X46, e46, W46, st46⟩ := putF X36 hx hZ hown (host := "") (Or.inl (wD hw 66 rfl)) Via.refl e36 f40 f37 (Or.inl (wD hw 67 rfl)) (wD hw 29 rfl) (ty := (.array .int)) (by decide) rfl rfl (g := (mkF m 37 #[vR o0, vI i1, vI i2] [.null, sR o0])) rfl rfl (hb hby d11_37)
  have f47 := f37.wr W46
  have f48 := Fld.other W46 f38 (Or.inr (slot_ne (Or.inr (wD hw 36 rfl)) (Or.inl (wD hw 67 rfl)) (by decide) (t := .int) (t' := (.array .int)) (by decide) (by decide)))
  have f49 := Fld.other W46 f39 (Or.inr (slot_ne (Or.inr (wD hw 38 rfl)) (Or.inl (wD hw 67 rfl)) (by decide) (t := (.array .int)) (t' := (.array .int)) (by decide) (by decide)))
  have f50 := Fld.same W46 f40
  have f51 := Fld.other W46 f41 (Or.inr (slot_ne (Or.inl (wD hw 70 rfl)) (Or.inl (wD hw 67 rfl)) (by decide) (t := (.array .long)) (t' := (.array .int)) (by decide) (by decide)))
  have f52 := Arv.other f42 W46 (Ne.symm ne_o0_nx)
  have f53 := Arv.other f43 W46 (Ne.symm ne_o0_va)
  have f54 := Arv.other V36 W46 (Ne.symm ne_o0_sa)
  have Z46 : n0 ≤ h46.size := Nat.le_trans Z36 (Nat.le_of_eq W46.size.symm)
  have K46 := K36.wr W46 (Or.inl (List.mem_of_getElem? (i := 2) rfl))
  have N46 := Fr.snoc X46 N36 g_o0
  have go55 := go45.st T46 (mkF m 40 #[vR o0, vI i1, vI i2] []) (fun t k => by
    refine st46 _ ?_
    exact k)
  obtain ⟨T56, h56, X56, e56, E56, A56, D56, -, st56⟩ := newO X46 hx hZ hown (wD hw 101 rfl) (wD hw 102 rfl) (wD hw 103 rfl) e46 (g := (mkF m 40 #[vR o0, vI i1, vI i2] [])) rfl (hb hby d11_40) (by decide) (by decide)
  obtain ⟨b56, g56⟩ : ∃ z, z = h46.size := ⟨_, rfl⟩
  rw [← g56] at A56 D56 st56
  have ne_o0_b56 : o0 ≠ b56 := Nat.ne_of_lt (Nat.lt_of_lt_of_le f47.lt (Nat.le_of_eq g56.symm))
  have ne_sa_b56 : sa ≠ b56 := Nat.ne_of_lt (Nat.lt_of_lt_of_le f54.lt (Nat.le_of_eq g56.symm))
  have ne_nx_b56 : nx ≠ b56 := Nat.ne_of_lt (Nat.lt_of_lt_of_le f52.lt (Nat.le_of_eq g56.symm))
  have ne_va_b56 : va ≠ b56 := Nat.ne_of_lt (Nat.lt_of_lt_of_le f53.lt (Nat.le_of_eq g56.symm))
  have g_b56 : n0 ≤ b56 := Nat.le_trans Z46 (Nat.le_of_eq g56.symm)
  have sz_b56 : h0.size ≤ b56 := Nat.le_trans K46.1 (Nat.le_of_eq g56.symm)
  have f57 := f47.ext E56
  have f58 := f48.ext E56
  have f59 := f49.ext E56
  have f60 := f50.ext E56
  have f61 := f51.ext E56
  have f62 := f52.ext E56
  have f63 := f53.ext E56
  have f64 := f54.ext E56
  have F56_start : Fld Z h56 b56 "com/example/graphkind/graphkind/Statements" "start" "[I" .null := D56 (Or.inr (wD hw 109 rfl)) (ty := (.array .int)) (by decide)
  have F56_values : Fld Z h56 b56 "com/example/graphkind/graphkind/Statements" "values" "[J" .null := D56 (Or.inr (wD hw 111 rfl)) (ty := (.array .long)) (by decide)
  have Z56 : n0 ≤ h56.size := Nat.le_trans Z46 E56.1
  have K56 := K46.ext E56
  have go65 := go55.st T56 (mkF m 45 #[vR o0, vI i1, vI i2] [sR o0, sR b56, sR b56]) (fun t k => by
    refine st56 _ ?_
    show SP p e below T56 (mkF m 43 #[vR o0, vI i1, vI i2] [sR b56]) _
    refine XS.dup X56.here hx rfl (hb hby d11_43) rfl rfl ?_
    refine XS.aloadN X56.here hx rfl (hb hby d11_44) rfl rfl ?_
    exact k)
  obtain ⟨T66, X66, e66, st66⟩ := getF X56 hx hZ hown (host := "") (Or.inl (wD hw 37 rfl)) Via.refl e56 f59 (g := (mkF m 45 #[vR o0, vI i1, vI i2] [sR o0, sR b56, sR b56])) rfl rfl (hb hby d11_45)
  have go67 := go65.st T66 (mkF m 50 #[vR o0, vI i1, vI i2] [sR o0, sI i1, sR sa, sR b56, sR b56]) (fun t k => by
    refine st66 _ ?_
    show SP p e below T66 (mkF m 48 #[vR o0, vI i1, vI i2] [sR sa, sR b56, sR b56]) _
    refine XS.iloadN X66.here hx rfl (hb hby d11_48) rfl ?_
    refine XS.aloadN X66.here hx rfl (hb hby d11_49) rfl rfl ?_
    exact k)
  obtain ⟨T68, X68, e68, st68⟩ := getF X66 hx hZ hown (host := "") (Or.inl (wD hw 69 rfl)) Via.refl e66 f61 (g := (mkF m 50 #[vR o0, vI i1, vI i2] [sR o0, sI i1, sR sa, sR b56, sR b56])) rfl rfl (hb hby d11_50)
  have go69 := go67.st T68 (mkF m 53 #[vR o0, vI i1, vI i2] [sR va, sI i1, sR sa, sR b56, sR b56]) (fun t k => by
    refine st68 _ ?_
    exact k)
  have Vo70 := f63
  obtain ⟨cl70, Ar70, qa70, Sa70, Na70, Ha70, Ga70⟩ := Vo70
  have go72 := go69.st T68 (mkF m 65 #[vR o0, vI i1, vI i2] [sR o0, sR sa, sR b56, sR b56]) (fun t k => by
    refine X68.arraylength hx (by rw [e68]; exact Ar70.1) (State.isArrayOf_alike hZ.alike Ar70.2.1) (g := (mkF m 53 #[vR o0, vI i1, vI i2] [sR va, sI i1, sR sa, sR b56, sR b56])) rfl rfl (hb hby d11_53) _ ?_
    rw [len_of Sa70 Na70]
    refine XS.icmpYes X68.here hx rfl (pc0 := 54) (pc' := 64) rfl (hb hby d11_54) rfl (feq ((by decide) : ¬ ((1 : Int32) = (2 : Int32)))).2 (by decide) (by decide) ?_
    refine XS.aloadN X68.here hx rfl (hb hby d11_64) rfl rfl ?_
    exact k)
  obtain ⟨T73, X73, e73, st73⟩ := getF X68 hx hZ hown (host := "") (Or.inl (wD hw 69 rfl)) Via.refl e68 f61 (g := (mkF m 65 #[vR o0, vI i1, vI i2] [sR o0, sR sa, sR b56, sR b56])) rfl rfl (hb hby d11_65)
  have go74 := go72.st T73 (mkF m 69 #[vR o0, vI i1, vI i2] [sI i1, sR va, sR sa, sR b56, sR b56]) (fun t k => by
    refine st73 _ ?_
    show SP p e below T73 (mkF m 68 #[vR o0, vI i1, vI i2] [sR va, sR sa, sR b56, sR b56]) _
    refine XS.iloadN X73.here hx rfl (hb hby d11_68) rfl ?_
    exact k)
  obtain ⟨_, _, ⟨T75, L75, k75, n75⟩, -, X75, ⟨Lc75, hQ75, l75, y75, z75⟩, st75⟩ := Jvm.LawKit.callS X73 hx (y := yN6) hown (mvT hZ (wD hw 136 rfl)) (mvT hZ (wD hw 137 rfl)) (mvT hZ (wD hw 56 rfl)) (mvT hZ (wD hw 138 rfl)) (by decide) (backOf (W := 3) (rm_cpJ l Z a0 hw [] va kv (m0 ||| m1) m1 h56 n0 Z56 f63) hZ (wD hw 138 rfl) (wD hw 56 rfl) (by decide) (by decide)) (g := (mkF m 69 #[vR o0, vI i1, vI i2] [sI i1, sR va, sR sa, sR b56, sR b56])) rfl (by rw [hml]; rfl) (argsL := [(.ref va), (.int (1 : Int32))]) (rest := [(.ref sa), (.ref b56), (.ref b56)]) (lenOf pd_rm_buildA_1_1 rfl) rfl (by show 2 * 0 + _ ≤ _; exact Nat.le_of_eq rfl) (hb hby d11_69) (fun _ _ => ⟨rfl, e73, (by decide : 1 + 1 ≤ _), (by decide : 2 + 1 ≤ _)⟩)
  dsimp only [Pt.U, Pt.locs, Pt.cells, Pt.slots] at X75 l75 y75 z75 st75 hQ75
  rw [l75, y75, z75] at X75
  obtain ⟨b_75, kb_75, rfl, N75q, K75, qp75_0, qp75_1, qp75_2⟩ := hQ75
  have N75 := Fr.app N46 N75q
  have f76 := f57.keep K75
  have f77 := f58.keep K75 nin0
  have f78 := f59.keep K75 nin0
  have f79 := f60.keep K75 nin0
  have f80 := f61.keep K75 nin0
  have f81 := f62.keep K75 nin0
  have f82 := f63.keep K75 nin0
  have f83 := f64.keep K75 nin0
  have f84 := A56.keep K75
  have f85 := F56_start.keep K75 nin0
  have f86 := F56_values.keep K75 nin0
  have Z75 : n0 ≤ T75.heap.size := Nat.le_trans Z56 K75.1
  have KK75 := K56.trans K75 all0
  have g_b_75 := qp75_0
  have sz_b_75 := Nat.le_trans K56.1 qp75_1
  have ne_o0_b_75 : o0 ≠ b_75 := Nat.ne_of_lt (Nat.lt_of_lt_of_le f57.lt qp75_1)
  have ne_nx_b_75 : nx ≠ b_75 := Nat.ne_of_lt (Nat.lt_of_lt_of_le f62.lt qp75_1)
  have ne_va_b_75 : va ≠ b_75 := Nat.ne_of_lt (Nat.lt_of_lt_of_le f63.lt qp75_1)
  have ne_sa_b_75 : sa ≠ b_75 := Nat.ne_of_lt (Nat.lt_of_lt_of_le f64.lt qp75_1)
  have ne_b56_b_75 : b56 ≠ b_75 := Nat.ne_of_lt (Nat.lt_of_lt_of_le A56.lt qp75_1)
  have go87 := go74.st T75 (mkF m 72 #[vR o0, vI i1, vI i2] [sR b_75, sR sa, sR b56, sR b56]) (fun t k => by
    refine st75 _ ?_
    exact k)
  obtain ⟨_, _, ⟨T88, L88, k88, n88⟩, -, X88, ⟨Lc88, hQ88, l88, y88, z88⟩, st88⟩ := X75.specialBackNest hx (y := yN15) rfl hown (own_mvM hZ (wD hw 104 rfl)) (mvT hZ (wD hw 105 rfl)) (mvT hZ (wD hw 106 rfl)) (by decide) (backOf (W := 1) (rm_sinit l Z a0 hw [] b56 sa b_75 T75.heap n0 Z75 f84 g_b56 f85 f86) hZ (wD hw 106 rfl) (wD hw 103 rfl) (by decide) (by decide)) (g := (mkF m 72 #[vR o0, vI i1, vI i2] [sR b_75, sR sa, sR b56, sR b56])) rfl (by rw [hml]; rfl) (Steps.refl _) (a := b56) (argsL := [(.ref sa), (.ref b_75)]) (rest := [(.ref b56)]) (lenOf pd_rm_buildA_1_2 rfl) rfl (by show 2 * 0 + _ ≤ _; exact Nat.le_of_eq rfl) (hb hby d11_72) (fun _ _ => ⟨rfl, rfl, (by decide : 2 + 0 ≤ _), (by decide : 3 + 0 ≤ _)⟩)
  dsimp only [Pt.U, Pt.locs, Pt.cells, Pt.slots] at X88 l88 y88 z88 st88 hQ88
  rw [l88, y88, z88] at X88
  obtain ⟨rfl, N88q, K88, qp88_0, qp88_1, qp88_2⟩ := hQ88
  have N88 := Fr.app N75 N88q
  have f89 := f76.keep K88
  have f90 := f77.keep K88 (ninS ne_o0_b56 nin0)
  have f91 := f78.keep K88 (ninS ne_o0_b56 nin0)
  have f92 := f79.keep K88 (ninS ne_o0_b56 nin0)
  have f93 := f80.keep K88 (ninS ne_o0_b56 nin0)
  have f94 := f81.keep K88 (ninS ne_nx_b56 nin0)
  have f95 := f82.keep K88 (ninS ne_va_b56 nin0)
  have f96 := f83.keep K88 (ninS ne_sa_b56 nin0)
  have f97 := f84.keep K88
  have f100 := qp75_2.keep K88 (ninS (Ne.symm ne_b56_b_75) nin0)
  have Z88 : n0 ≤ T88.heap.size := Nat.le_trans Z75 K88.1
  have KK88 := KK75.trans K88 (allS (Or.inr sz_b56) all0)
  have go101 := go87.st T88 (mkF m 75 #[vR o0, vI i1, vI i2] [sR b56]) (fun t k => by
    refine st88.trans ?_
    exact k)
  obtain ⟨fs, hr, hrun, hended, hW, hsame⟩ := X88.leave (v := some (.ref b56)) (fun h => by rw [Bd.returns] at h; cases h)
  refine ⟨_, _, go101 _ ?_, hrun, hended, _, _, rfl, ?_, ⟨_, rfl⟩, hW, hsame.mono (by decide) (by decide)⟩
  · exact own_retA X88 hx Bd.returns rfl rfl (hb hby d11_75) hr
  · show Q_rm_buildA_1 Z o0 sa ka nx kx va kv v0 v1 m0 m1 h0 n0 _ T88.heap _
    exact ⟨b56, b_75, kb_75, rfl, N88, KK88, g_b56, sz_b56, qp88_0, qp88_1, qp88_2, f96, f100⟩
theorem pn_rm_keepA0_0_0 : plainName "com/example/graphkind/graphkind/Statements$Builder" = true := by first | (simp [plainName, overriddenIn]; done) | decide +kernel
theorem pd_rm_keepA0_0_0_0 : parseMethodDescriptor "([JII)V" = some ⟨[(.array .long), .int, .int], none⟩ := by decide +kernel
theorem ef_rm_keepA0_0_0 (m : MethodId) (o0 : Addr) : entryFrame m #[(.ref o0), (.int (0 : Int32)), (.int (0 : Int32))] 7 = mkF m 0 #[.val (.ref o0), .val (.int (0 : Int32)), .val (.int (0 : Int32)), uu, uu, uu, uu] [] := by first | (simp [entryFrame, mkF, argsToLocals, Value.category]; done) | rfl
def Q_rm_keepA0_0_0 (Z : State) (o0 : Addr) (sa : Addr) (ka : ClassId) (nx : Addr) (kx : ClassId) (va : Addr) (kv : ClassId) (v0 : Int64) (v1 : Int64) (m0 : Int64) (m1 : Int64) (h0 : Heap) (n0 : Nat) (v : Option Value) (h : Heap) (L : List Loc) : Prop := v = some (.int (2 : Int32)) ∧ Fr n0 L ∧ Keep h0 h [va, sa] ∧ Arv Z h sa ka .int (3 : Int32) [(.int (0 : Int32)), (.int (2 : Int32)), (.int (2 : Int32))] (.int (0 : Int32)) ∧ Arv Z h va kv .long (2 : Int32) [(.long m0), (.long m1)] (.long (0 : Int64))
set_option maxRecDepth 65536 in
set_option maxHeartbeats 40000000 in
theorem rm_keepA0_0_0 (l : Launch) (Z : State) (a0 : Array Value) (hw : ∀ d ∈ tables_1, d.before a0 Z = true) (ws : List Jvm.Cond) (o0 : Addr) (sa : Addr) (ka : ClassId) (nx : Addr) (kx : ClassId) (va : Addr) (kv : ClassId) (v0 : Int64) (v1 : Int64) (m0 : Int64) (m1 : Int64) (h0 : Heap) (n0 : Nat) (Z0 : n0 ≤ h0.size) (F_start_o0 : Fld Z h0 o0 "com/example/graphkind/graphkind/Statements$Builder" "start" "[I" (.ref sa)) (F_next_o0 : Fld Z h0 o0 "com/example/graphkind/graphkind/Statements$Builder" "next" "[I" (.ref nx)) (V_sa : Arv Z h0 sa ka .int (3 : Int32) [(.int (0 : Int32)), (.int (2 : Int32)), (.int (2 : Int32))] (.int (0 : Int32))) (V_nx : Arv Z h0 nx kx .int (2 : Int32) [(.int (2 : Int32)), (.int (2 : Int32))] (.int (0 : Int32))) (g_sa : n0 ≤ sa) (F_values_o0 : Fld Z h0 o0 "com/example/graphkind/graphkind/Statements$Builder" "values" "[J" (.ref va)) (V_va : Arv Z h0 va kv .long (2 : Int32) [(.long v0), (.long v1)] (.long (0 : Int64))) (g_va : n0 ≤ va) (ne_o0_sa : o0 ≠ sa) (ne_o0_nx : o0 ≠ nx) (ne_o0_va : o0 ≠ va) (ne_sa_nx : sa ≠ nx) (ne_sa_va : sa ≠ va) (ne_nx_va : nx ≠ va) (hl : (v1 < v0 ∧ m0 = v1 ∧ m1 = v0) ∨ (¬ v1 < v0 ∧ m0 = v0 ∧ m1 = v1)) (hm : ¬ ((own_usrL m1 (1 : Int32)) = (own_usrL m0 (1 : Int32)))) :
    MetFree l yN16 (head1 (Jvm.Cond.code yN16 prog_10_method_6_code 7 (some .int) :: ws) ({ frames := 4, cells := 0, slots := 0, locals := 86 } : Room)) (fun a U => a = #[(.ref o0), (.int (0 : Int32)), (.int (0 : Int32))] ∧ Z.Warmed39 U.vm ∧ U.heap = h0) (fun _ _ _ _ _ => True) (fun _ U o U' => ∃ v L, o = .returned v ∧ Q_rm_keepA0_0_0 Z o0 sa ka nx kx va kv v0 v1 m0 m1 h0 n0 v U'.heap L ∧ FrameEnd U o U' L ({ frames := 4, cells := 0, slots := 0, locals := 86 } : Room).cells ({ frames := 4, cells := 0, slots := 0, locals := 86 } : Room).slots) := by
  refine MetFree.of_bodySF (plainFor_of_name pn_rm_keepA0_0_0) hisR ?_
  intro p e s m args below meth c s₁ Bd hml0 hP hK
  obtain ⟨rfl, hZ, hh⟩ := hP
  have hx := Bd.exec
  have hby := Bd.bytes
  have hml : c.maxLocals = 7 := hml0
  have hown : s.vm.findClass "com/example/graphkind/graphkind/Statements$Builder" = some m.cls := findClass_of_methodNamed Bd.named
  have hnm := (name_of_methodNamed Bd.named Bd.method).1
  have X0 : Stand p l e ({ frames := 4, cells := 0, slots := 0, locals := 86 } : Room) s m #[(.ref o0), (.int (0 : Int32)), (.int (0 : Int32))] below meth c s₁ [] 0 0 := Stand.of_body Bd
  have e0 : s₁.heap = h0 := by rw [← hh, Bd.state]; rfl
  have N0 := Fr.nil n0
  have K0 := Keep.refl h0 [va, sa]
  have go0 : Go p e below (s₁.setTop (entryFrame m #[(.ref o0), (.int (0 : Int32)), (.int (0 : Int32))] 7)) (s₁.setTop (mkF m 0 #[vR o0, vI i0, vI i0, uu, uu, uu, uu] [])) := fun t k => castTop (ef_rm_keepA0_0_0 m o0) k
  have go1 := go0.st s₁ (mkF m 1 #[vR o0, vI i0, vI i0, uu, uu, uu, uu] [sR o0]) (fun t k => by
    refine XS.aloadN X0.here hx rfl (hb hby d12_0) rfl rfl ?_
    exact k)
  obtain ⟨T2, X2, e2, st2⟩ := getF X0 hx hZ hown (host := "") (Or.inl (wD hw 37 rfl)) Via.refl e0 F_start_o0 (g := (mkF m 1 #[vR o0, vI i0, vI i0, uu, uu, uu, uu] [sR o0])) rfl rfl (hb hby d12_1)
  have go3 := go1.st T2 (mkF m 5 #[vR o0, vI i0, vI i0, uu, uu, uu, uu] [sI i0, sR sa]) (fun t k => by
    refine st2 _ ?_
    show SP p e below T2 (mkF m 4 #[vR o0, vI i0, vI i0, uu, uu, uu, uu] [sR sa]) _
    refine XS.iloadN X2.here hx rfl (hb hby d12_4) rfl ?_
    exact k)
  have Vo4 := V_sa
  obtain ⟨cl4, Ar4, qa4, Sa4, Na4, Ha4, Ga4⟩ := Vo4
  have hin4 := inb_of (j := (0 : Int32)) Sa4 ⟨by decide, by decide⟩
  have hat4 : cl4.slots[((0 : Int32)).toNatClampNeg]? = some (.int (0 : Int32)) := Has.at Ha4 hin4 rfl
  have go5 := go3.st T2 (mkF m 8 #[vR o0, vI i0, vI i0, vI i0, uu, uu, uu] [sR o0]) (fun t k => by
    refine X2.iaload hx (j := (0 : Int32)) (v := (.int (0 : Int32))) (by rw [e2]; exact Ar4.1) (State.isArrayOf_alike hZ.alike Ar4.2.1) Ar4.2.2 hin4 hat4 (g := (mkF m 5 #[vR o0, vI i0, vI i0, uu, uu, uu, uu] [sI i0, sR sa])) rfl rfl (hb hby d12_5) _ ?_
    refine XS.istoreN X2.here hx rfl (hb hby d12_6) rfl (l' := #[vR o0, vI i0, vI i0, vI i0, uu, uu, uu]) rfl ?_
    refine XS.aloadN X2.here hx rfl (hb hby d12_7) rfl rfl ?_
    exact k)
  obtain ⟨T6, X6, e6, st6⟩ := getF X2 hx hZ hown (host := "") (Or.inl (wD hw 66 rfl)) Via.refl e2 F_next_o0 (g := (mkF m 8 #[vR o0, vI i0, vI i0, vI i0, uu, uu, uu] [sR o0])) rfl rfl (hb hby d12_8)
  have go7 := go5.st T6 (mkF m 12 #[vR o0, vI i0, vI i0, vI i0, uu, uu, uu] [sI i0, sR nx]) (fun t k => by
    refine st6 _ ?_
    show SP p e below T6 (mkF m 11 #[vR o0, vI i0, vI i0, vI i0, uu, uu, uu] [sR nx]) _
    refine XS.iloadN X6.here hx rfl (hb hby d12_11) rfl ?_
    exact k)
  have Vo8 := V_nx
  obtain ⟨cl8, Ar8, qa8, Sa8, Na8, Ha8, Ga8⟩ := Vo8
  have hin8 := inb_of (j := (0 : Int32)) Sa8 ⟨by decide, by decide⟩
  have hat8 : cl8.slots[((0 : Int32)).toNatClampNeg]? = some (.int (2 : Int32)) := Has.at Ha8 hin8 rfl
  have go10 := go7.st T6 (mkF m 24 #[vR o0, vI i0, vI i0, vI i0, vI i2, uu, uu] [sR o0]) (fun t k => by
    refine X6.iaload hx (j := (0 : Int32)) (v := (.int (2 : Int32))) (by rw [e6]; exact Ar8.1) (State.isArrayOf_alike hZ.alike Ar8.2.1) Ar8.2.2 hin8 hat8 (g := (mkF m 12 #[vR o0, vI i0, vI i0, vI i0, uu, uu, uu] [sI i0, sR nx])) rfl rfl (hb hby d12_12) _ ?_
    refine XS.istore X6.here hx rfl (hb hby d12_13) rfl (l' := #[vR o0, vI i0, vI i0, vI i0, vI i2, uu, uu]) rfl ?_
    refine XS.iload X6.here hx rfl (hb hby d12_15) rfl ?_
    refine XS.iloadN X6.here hx rfl (hb hby d12_17) rfl ?_
    refine XS.isub X6.here hx rfl (hb hby d12_18) rfl ?_
    refine XS.iconst X6.here hx rfl (hb hby d12_19) ?_
    refine XS.icmpNo X6.here hx rfl (hb hby d12_20) rfl (tlt ((by decide) : (1 : Int32) < (2 : Int32))).2.2.2 ?_
    refine XS.aloadN X6.here hx rfl (hb hby d12_23) rfl rfl ?_
    exact k)
  obtain ⟨T11, X11, e11, st11⟩ := getF X6 hx hZ hown (host := "") (Or.inl (wD hw 69 rfl)) Via.refl e6 F_values_o0 (g := (mkF m 24 #[vR o0, vI i0, vI i0, vI i0, vI i2, uu, uu] [sR o0])) rfl rfl (hb hby d12_24)
  have go12 := go10.st T11 (mkF m 30 #[vR o0, vI i0, vI i0, vI i0, vI i2, uu, uu] [sI i2, sI i0, sR va]) (fun t k => by
    refine st11 _ ?_
    show SP p e below T11 (mkF m 27 #[vR o0, vI i0, vI i0, vI i0, vI i2, uu, uu] [sR va]) _
    refine XS.iloadN X11.here hx rfl (hb hby d12_27) rfl ?_
    refine XS.iload X11.here hx rfl (hb hby d12_28) rfl ?_
    exact k)
  obtain ⟨_, _, ⟨T13, L13, k13, n13⟩, -, X13, ⟨Lc13, hQ13, l13, y13, z13⟩, st13⟩ := Jvm.LawKit.callS X11 hx (y := yN14) hown (mvT hZ (wD hw 85 rfl)) (mvT hZ (wD hw 86 rfl)) (mvT hZ (wD hw 56 rfl)) (mvT hZ (wD hw 87 rfl)) (by decide) (backOf (W := 0) (rm_sort l Z a0 hw [] va kv v0 v1 m0 m1 h0 n0 Z0 V_va g_va hl) hZ (wD hw 87 rfl) (wD hw 56 rfl) (by decide) (by decide)) (g := (mkF m 30 #[vR o0, vI i0, vI i0, vI i0, vI i2, uu, uu] [sI i2, sI i0, sR va])) rfl (by rw [hml]; rfl) (argsL := [(.ref va), (.int (0 : Int32)), (.int (2 : Int32))]) (rest := []) (lenOf pd_rm_keepA0_0_0_0 rfl) rfl (by show 2 * 0 + _ ≤ _; exact Nat.le_of_eq rfl) (hb hby d12_30) (fun _ _ => ⟨rfl, e11, (by decide : 0 + 0 ≤ _), (by decide : 0 + 0 ≤ _)⟩)
  dsimp only [Pt.U, Pt.locs, Pt.cells, Pt.slots] at X13 l13 y13 z13 st13 hQ13
  rw [l13, y13, z13] at X13
  obtain ⟨rfl, N13q, K13, qp13_0⟩ := hQ13
  have N13 := Fr.app N0 N13q
  have f14 := F_start_o0.keep K13 (ninS ne_o0_va nin0)
  have f15 := F_next_o0.keep K13 (ninS ne_o0_va nin0)
  have f16 := V_sa.keep K13 (ninS ne_sa_va nin0)
  have f17 := V_nx.keep K13 (ninS ne_nx_va nin0)
  have f18 := F_values_o0.keep K13 (ninS ne_o0_va nin0)
  have Z13 : n0 ≤ T13.heap.size := Nat.le_trans Z0 K13.1
  have KK13 := K0.trans K13 (allS (Or.inl (List.mem_of_getElem? (i := 0) rfl)) all0)
  have go20 := go12.st T13 (mkF m 37 #[vR o0, vI i0, vI i0, vI i0, vI i2, vI i0, uu] [sR o0]) (fun t k => by
    refine st13 _ ?_
    show SP p e below T13 (mkF m 33 #[vR o0, vI i0, vI i0, vI i0, vI i2, uu, uu] []) _
    refine XS.iloadN X13.here hx rfl (hb hby d12_33) rfl ?_
    refine XS.istore X13.here hx rfl (hb hby d12_34) rfl (l' := #[vR o0, vI i0, vI i0, vI i0, vI i2, vI i0, uu]) rfl ?_
    refine XS.aloadN X13.here hx rfl (hb hby d12_36) rfl rfl ?_
    exact k)
  obtain ⟨T21, X21, e21, st21⟩ := getF X13 hx hZ hown (host := "") (Or.inl (wD hw 37 rfl)) Via.refl rfl f14 (g := (mkF m 37 #[vR o0, vI i0, vI i0, vI i0, vI i2, vI i0, uu] [sR o0])) rfl rfl (hb hby d12_37)
  have go22 := go20.st T21 (mkF m 43 #[vR o0, vI i0, vI i0, vI i0, vI i2, vI i0, uu] [sI i0, sI i0, sR sa]) (fun t k => by
    refine st21 _ ?_
    show SP p e below T21 (mkF m 40 #[vR o0, vI i0, vI i0, vI i0, vI i2, vI i0, uu] [sR sa]) _
    refine XS.iloadN X21.here hx rfl (hb hby d12_40) rfl ?_
    refine XS.iload X21.here hx rfl (hb hby d12_41) rfl ?_
    exact k)
  have Vo23 := f16
  obtain ⟨cl23, Ar23, qa23, Sa23, Na23, Ha23, Ga23⟩ := Vo23
  have hin23 := inb_of (j := (0 : Int32)) Sa23 ⟨by decide, by decide⟩
  obtain ⟨T24, h24, X24, e24, W24, st24⟩ := stI X21 hx hZ e21 Ar23 (j := (0 : Int32)) hin23 (g := (mkF m 43 #[vR o0, vI i0, vI i0, vI i0, vI i2, vI i0, uu] [sI i0, sI i0, sR sa])) rfl rfl (hb hby d12_43)
  have V24 : Arv Z h24 sa ka .int (3 : Int32) [(.int (0 : Int32)), (.int (2 : Int32)), (.int (2 : Int32))] (.int (0 : Int32)) := Arv.set Ar23 qa23 Sa23 Na23 Ha23 Ga23 rfl W24 0 rfl (Nat.le_of_ble_eq_true rfl)
  have f25 := Fld.other W24 f14 (Or.inl ne_o0_sa)
  have f26 := Fld.other W24 f15 (Or.inl ne_o0_sa)
  have f28 := Arv.other f17 W24 (Ne.symm ne_sa_nx)
  have f29 := Fld.other W24 f18 (Or.inl ne_o0_sa)
  have f30 := Arv.other qp13_0 W24 (Ne.symm ne_sa_va)
  have Z24 : n0 ≤ h24.size := Nat.le_trans Z13 (Nat.le_of_eq W24.size.symm)
  have K24 := KK13.wr W24 (Or.inl (List.mem_of_getElem? (i := 1) rfl))
  have N24 := Fr.snoc X24 N13 g_sa
  have go33 := go22.st T24 (mkF m 107 #[vR o0, vI i0, vI i0, vI i0, vI i2, vI i0, vI i0] [sR o0]) (fun t k => by
    refine st24 _ ?_
    show SP p e below T24 (mkF m 44 #[vR o0, vI i0, vI i0, vI i0, vI i2, vI i0, uu] []) _
    refine XS.iloadN X24.here hx rfl (hb hby d12_44) rfl ?_
    refine XS.istore X24.here hx rfl (hb hby d12_45) rfl (l' := #[vR o0, vI i0, vI i0, vI i0, vI i2, vI i0, vI i0]) rfl ?_
    refine XS.iload X24.here hx rfl (hb hby d12_47) rfl ?_
    refine XS.iload X24.here hx rfl (hb hby d12_49) rfl ?_
    refine XS.icmpNo X24.here hx rfl (hb hby d12_51) rfl (tlt ((by decide) : (0 : Int32) < (2 : Int32))).2.1 ?_
    refine XS.iload X24.here hx rfl (hb hby d12_54) rfl ?_
    refine XS.iloadN X24.here hx rfl (hb hby d12_56) rfl ?_
    refine XS.icmpYes X24.here hx rfl (pc0 := 57) (pc' := 106) rfl (hb hby d12_57) rfl (flt ((by decide) : ¬ ((0 : Int32) < (0 : Int32)))).2.2.2 (by decide) (by decide) ?_
    refine XS.aloadN X24.here hx rfl (hb hby d12_106) rfl rfl ?_
    exact k)
  obtain ⟨T34, X34, e34, st34⟩ := getF X24 hx hZ hown (host := "") (Or.inl (wD hw 69 rfl)) Via.refl e24 f29 (g := (mkF m 107 #[vR o0, vI i0, vI i0, vI i0, vI i2, vI i0, vI i0] [sR o0])) rfl rfl (hb hby d12_107)
  have go35 := go33.st T34 (mkF m 116 #[vR o0, vI i0, vI i0, vI i0, vI i2, vI i1, vI i0] [sR o0, sI i0, sR va]) (fun t k => by
    refine st34 _ ?_
    show SP p e below T34 (mkF m 110 #[vR o0, vI i0, vI i0, vI i0, vI i2, vI i0, vI i0] [sR va]) _
    refine XS.iload X34.here hx rfl (hb hby d12_110) rfl ?_
    refine XS.iinc X34.here hx rfl (hb hby d12_112) rfl (l' := #[vR o0, vI i0, vI i0, vI i0, vI i2, vI i1, vI i0]) rfl ?_
    refine XS.aloadN X34.here hx rfl (hb hby d12_115) rfl rfl ?_
    exact k)
  obtain ⟨T36, X36, e36, st36⟩ := getF X34 hx hZ hown (host := "") (Or.inl (wD hw 69 rfl)) Via.refl e34 f29 (g := (mkF m 116 #[vR o0, vI i0, vI i0, vI i0, vI i2, vI i1, vI i0] [sR o0, sI i0, sR va])) rfl rfl (hb hby d12_116)
  have go37 := go35.st T36 (mkF m 121 #[vR o0, vI i0, vI i0, vI i0, vI i2, vI i1, vI i0] [sI i0, sR va, sI i0, sR va]) (fun t k => by
    refine st36 _ ?_
    show SP p e below T36 (mkF m 119 #[vR o0, vI i0, vI i0, vI i0, vI i2, vI i1, vI i0] [sR va, sI i0, sR va]) _
    refine XS.iload X36.here hx rfl (hb hby d12_119) rfl ?_
    exact k)
  have Vo38 := f30
  obtain ⟨cl38, Ar38, qa38, Sa38, Na38, Ha38, Ga38⟩ := Vo38
  have hin38 := inb_of (j := (0 : Int32)) Sa38 ⟨by decide, by decide⟩
  have hat38 : cl38.slots[((0 : Int32)).toNatClampNeg]? = some (.long m0) := Has.at Ha38 hin38 rfl
  have go39 := go37.st T36 (mkF m 122 #[vR o0, vI i0, vI i0, vI i0, vI i2, vI i1, vI i0] [sJ m0, sI i0, sR va]) (fun t k => by
    refine X36.laload hx (j := (0 : Int32)) (v := (.long m0)) (by rw [e36]; exact Ar38.1) (State.isArrayOf_alike hZ.alike Ar38.2.1) Ar38.2.2 hin38 hat38 (g := (mkF m 121 #[vR o0, vI i0, vI i0, vI i0, vI i2, vI i1, vI i0] [sI i0, sR va, sI i0, sR va])) rfl rfl (hb hby d12_121) _ ?_
    exact k)
  have Vo40 := f30
  obtain ⟨cl40, Ar40, qa40, Sa40, Na40, Ha40, Ga40⟩ := Vo40
  have hin40 := inb_of (j := (0 : Int32)) Sa40 ⟨by decide, by decide⟩
  obtain ⟨T41, h41, X41, e41, W41, st41⟩ := stJ X36 hx hZ e36 Ar40 (j := (0 : Int32)) hin40 (g := (mkF m 122 #[vR o0, vI i0, vI i0, vI i0, vI i2, vI i1, vI i0] [sJ m0, sI i0, sR va])) rfl rfl (hb hby d12_122)
  have V41 : Arv Z h41 va kv .long (2 : Int32) [(.long m0), (.long m1)] (.long (0 : Int64)) := Arv.set Ar40 qa40 Sa40 Na40 Ha40 Ga40 rfl W41 0 rfl (Nat.le_of_ble_eq_true rfl)
  have f42 := Fld.other W41 f25 (Or.inl ne_o0_va)
  have f43 := Fld.other W41 f26 (Or.inl ne_o0_va)
  have f44 := Arv.other f28 W41 ne_nx_va
  have f45 := Fld.other W41 f29 (Or.inl ne_o0_va)
  have f47 := Arv.other V24 W41 ne_sa_va
  have Z41 : n0 ≤ h41.size := Nat.le_trans Z24 (Nat.le_of_eq W41.size.symm)
  have K41 := K24.wr W41 (Or.inl (List.mem_of_getElem? (i := 0) rfl))
  have N41 := Fr.snoc X41 N24 g_va
  have go50 := go39.st T41 (mkF m 61 #[vR o0, vI i0, vI i0, vI i0, vI i2, vI i1, vI i1] [sR o0]) (fun t k => by
    refine st41 _ ?_
    show SP p e below T41 (mkF m 123 #[vR o0, vI i0, vI i0, vI i0, vI i2, vI i1, vI i0] []) _
    refine XS.iinc X41.here hx rfl (hb hby d12_123) rfl (l' := #[vR o0, vI i0, vI i0, vI i0, vI i2, vI i1, vI i1]) rfl ?_
    refine XS.goto X41.here hx rfl (pc0 := 126) (pc' := 47) rfl (hb hby d12_126) (by decide) (by decide) ?_
    refine XS.iload X41.here hx rfl (hb hby d12_47) rfl ?_
    refine XS.iload X41.here hx rfl (hb hby d12_49) rfl ?_
    refine XS.icmpNo X41.here hx rfl (hb hby d12_51) rfl (tlt ((by decide) : (1 : Int32) < (2 : Int32))).2.1 ?_
    refine XS.iload X41.here hx rfl (hb hby d12_54) rfl ?_
    refine XS.iloadN X41.here hx rfl (hb hby d12_56) rfl ?_
    refine XS.icmpNo X41.here hx rfl (hb hby d12_57) rfl (tlt ((by decide) : (0 : Int32) < (1 : Int32))).2.2.2 ?_
    refine XS.aloadN X41.here hx rfl (hb hby d12_60) rfl rfl ?_
    exact k)
  obtain ⟨T51, X51, e51, st51⟩ := getF X41 hx hZ hown (host := "") (Or.inl (wD hw 69 rfl)) Via.refl e41 f45 (g := (mkF m 61 #[vR o0, vI i0, vI i0, vI i0, vI i2, vI i1, vI i1] [sR o0])) rfl rfl (hb hby d12_61)
  have go52 := go50.st T51 (mkF m 66 #[vR o0, vI i0, vI i0, vI i0, vI i2, vI i1, vI i1] [sI i1, sR va]) (fun t k => by
    refine st51 _ ?_
    show SP p e below T51 (mkF m 64 #[vR o0, vI i0, vI i0, vI i0, vI i2, vI i1, vI i1] [sR va]) _
    refine XS.iload X51.here hx rfl (hb hby d12_64) rfl ?_
    exact k)
  have Vo53 := V41
  obtain ⟨cl53, Ar53, qa53, Sa53, Na53, Ha53, Ga53⟩ := Vo53
  have hin53 := inb_of (j := (1 : Int32)) Sa53 ⟨by decide, by decide⟩
  have hat53 : cl53.slots[((1 : Int32)).toNatClampNeg]? = some (.long m1) := Has.at Ha53 hin53 rfl
  have go54 := go52.st T51 (mkF m 70 #[vR o0, vI i0, vI i0, vI i0, vI i2, vI i1, vI i1] [sR o0, (sJ (own_usrL m1 i1))]) (fun t k => by
    refine X51.laload hx (j := (1 : Int32)) (v := (.long m1)) (by rw [e51]; exact Ar53.1) (State.isArrayOf_alike hZ.alike Ar53.2.1) Ar53.2.2 hin53 hat53 (g := (mkF m 66 #[vR o0, vI i0, vI i0, vI i0, vI i2, vI i1, vI i1] [sI i1, sR va])) rfl rfl (hb hby d12_66) _ ?_
    refine XS.iconst X51.here hx rfl (hb hby d12_67) ?_
    refine XS.lushr X51.here hx rfl (hb hby d12_68) rfl ?_
    refine XS.aloadN X51.here hx rfl (hb hby d12_69) rfl rfl ?_
    exact k)
  obtain ⟨T55, X55, e55, st55⟩ := getF X51 hx hZ hown (host := "") (Or.inl (wD hw 69 rfl)) Via.refl e51 f45 (g := (mkF m 70 #[vR o0, vI i0, vI i0, vI i0, vI i2, vI i1, vI i1] [sR o0, (sJ (own_usrL m1 i1))])) rfl rfl (hb hby d12_70)
  have go56 := go54.st T55 (mkF m 77 #[vR o0, vI i0, vI i0, vI i0, vI i2, vI i1, vI i1] [sI i0, sR va, (sJ (own_usrL m1 i1))]) (fun t k => by
    refine st55 _ ?_
    show SP p e below T55 (mkF m 73 #[vR o0, vI i0, vI i0, vI i0, vI i2, vI i1, vI i1] [sR va, (sJ (own_usrL m1 i1))]) _
    refine XS.iload X55.here hx rfl (hb hby d12_73) rfl ?_
    refine XS.iconst X55.here hx rfl (hb hby d12_75) ?_
    refine XS.isub X55.here hx rfl (hb hby d12_76) rfl ?_
    exact k)
  have Vo57 := V41
  obtain ⟨cl57, Ar57, qa57, Sa57, Na57, Ha57, Ga57⟩ := Vo57
  have hin57 := inb_of (j := (0 : Int32)) Sa57 ⟨by decide, by decide⟩
  have hat57 : cl57.slots[((0 : Int32)).toNatClampNeg]? = some (.long m0) := Has.at Ha57 hin57 rfl
  have go59 := go56.st T55 (mkF m 107 #[vR o0, vI i0, vI i0, vI i0, vI i2, vI i1, vI i1] [sR o0]) (fun t k => by
    refine X55.laload hx (j := (0 : Int32)) (v := (.long m0)) (by rw [e55]; exact Ar57.1) (State.isArrayOf_alike hZ.alike Ar57.2.1) Ar57.2.2 hin57 hat57 (g := (mkF m 77 #[vR o0, vI i0, vI i0, vI i0, vI i2, vI i1, vI i1] [sI i0, sR va, (sJ (own_usrL m1 i1))])) rfl rfl (hb hby d12_77) _ ?_
    refine XS.iconst X55.here hx rfl (hb hby d12_78) ?_
    refine XS.lushr X55.here hx rfl (hb hby d12_79) rfl ?_
    refine XS.lcmp X55.here hx rfl (hb hby d12_80) rfl ?_
    refine XS.ifYes X55.here hx rfl (pc0 := 81) (pc' := 106) rfl (hb hby d12_81) rfl ((if0 _ _).trans (feq (fun q => (hm : ¬ ((own_usrL m1 (1 : Int32)) = (own_usrL m0 (1 : Int32)))) ((lw_eq _ _).mp q))).2) (by decide) (by decide) ?_
    refine XS.aloadN X55.here hx rfl (hb hby d12_106) rfl rfl ?_
    exact k)
  obtain ⟨T60, X60, e60, st60⟩ := getF X55 hx hZ hown (host := "") (Or.inl (wD hw 69 rfl)) Via.refl e55 f45 (g := (mkF m 107 #[vR o0, vI i0, vI i0, vI i0, vI i2, vI i1, vI i1] [sR o0])) rfl rfl (hb hby d12_107)
  have go61 := go59.st T60 (mkF m 116 #[vR o0, vI i0, vI i0, vI i0, vI i2, vI i2, vI i1] [sR o0, sI i1, sR va]) (fun t k => by
    refine st60 _ ?_
    show SP p e below T60 (mkF m 110 #[vR o0, vI i0, vI i0, vI i0, vI i2, vI i1, vI i1] [sR va]) _
    refine XS.iload X60.here hx rfl (hb hby d12_110) rfl ?_
    refine XS.iinc X60.here hx rfl (hb hby d12_112) rfl (l' := #[vR o0, vI i0, vI i0, vI i0, vI i2, vI i2, vI i1]) rfl ?_
    refine XS.aloadN X60.here hx rfl (hb hby d12_115) rfl rfl ?_
    exact k)
  obtain ⟨T62, X62, e62, st62⟩ := getF X60 hx hZ hown (host := "") (Or.inl (wD hw 69 rfl)) Via.refl e60 f45 (g := (mkF m 116 #[vR o0, vI i0, vI i0, vI i0, vI i2, vI i2, vI i1] [sR o0, sI i1, sR va])) rfl rfl (hb hby d12_116)
  have go63 := go61.st T62 (mkF m 121 #[vR o0, vI i0, vI i0, vI i0, vI i2, vI i2, vI i1] [sI i1, sR va, sI i1, sR va]) (fun t k => by
    refine st62 _ ?_
    show SP p e below T62 (mkF m 119 #[vR o0, vI i0, vI i0, vI i0, vI i2, vI i2, vI i1] [sR va, sI i1, sR va]) _
    refine XS.iload X62.here hx rfl (hb hby d12_119) rfl ?_
    exact k)
  have Vo64 := V41
  obtain ⟨cl64, Ar64, qa64, Sa64, Na64, Ha64, Ga64⟩ := Vo64
  have hin64 := inb_of (j := (1 : Int32)) Sa64 ⟨by decide, by decide⟩
  have hat64 : cl64.slots[((1 : Int32)).toNatClampNeg]? = some (.long m1) := Has.at Ha64 hin64 rfl
  have go65 := go63.st T62 (mkF m 122 #[vR o0, vI i0, vI i0, vI i0, vI i2, vI i2, vI i1] [sJ m1, sI i1, sR va]) (fun t k => by
    refine X62.laload hx (j := (1 : Int32)) (v := (.long m1)) (by rw [e62]; exact Ar64.1) (State.isArrayOf_alike hZ.alike Ar64.2.1) Ar64.2.2 hin64 hat64 (g := (mkF m 121 #[vR o0, vI i0, vI i0, vI i0, vI i2, vI i2, vI i1] [sI i1, sR va, sI i1, sR va])) rfl rfl (hb hby d12_121) _ ?_
    exact k)
  have Vo66 := V41
  obtain ⟨cl66, Ar66, qa66, Sa66, Na66, Ha66, Ga66⟩ := Vo66
  have hin66 := inb_of (j := (1 : Int32)) Sa66 ⟨by decide, by decide⟩
  obtain ⟨T67, h67, X67, e67, W67, st67⟩ := stJ X62 hx hZ e62 Ar66 (j := (1 : Int32)) hin66 (g := (mkF m 122 #[vR o0, vI i0, vI i0, vI i0, vI i2, vI i2, vI i1] [sJ m1, sI i1, sR va])) rfl rfl (hb hby d12_122)
  have V67 : Arv Z h67 va kv .long (2 : Int32) [(.long m0), (.long m1)] (.long (0 : Int64)) := Arv.set Ar66 qa66 Sa66 Na66 Ha66 Ga66 rfl W67 1 rfl (Nat.le_of_ble_eq_true rfl)
  have f68 := Fld.other W67 f42 (Or.inl ne_o0_va)
  have f69 := Fld.other W67 f43 (Or.inl ne_o0_va)
  have f70 := Arv.other f44 W67 ne_nx_va
  have f71 := Fld.other W67 f45 (Or.inl ne_o0_va)
  have f72 := Arv.other f47 W67 ne_sa_va
  have Z67 : n0 ≤ h67.size := Nat.le_trans Z41 (Nat.le_of_eq W67.size.symm)
  have K67 := K41.wr W67 (Or.inl (List.mem_of_getElem? (i := 0) rfl))
  have N67 := Fr.snoc X67 N41 g_va
  have go75 := go65.st T67 (mkF m 131 #[vR o0, vI i0, vI i0, vI i0, vI i2, vI i2, vI i2] [sI i2]) (fun t k => by
    refine st67 _ ?_
    show SP p e below T67 (mkF m 123 #[vR o0, vI i0, vI i0, vI i0, vI i2, vI i2, vI i1] []) _
    refine XS.iinc X67.here hx rfl (hb hby d12_123) rfl (l' := #[vR o0, vI i0, vI i0, vI i0, vI i2, vI i2, vI i2]) rfl ?_
    refine XS.goto X67.here hx rfl (pc0 := 126) (pc' := 47) rfl (hb hby d12_126) (by decide) (by decide) ?_
    refine XS.iload X67.here hx rfl (hb hby d12_47) rfl ?_
    refine XS.iload X67.here hx rfl (hb hby d12_49) rfl ?_
    refine XS.icmpYes X67.here hx rfl (pc0 := 51) (pc' := 129) rfl (hb hby d12_51) rfl (flt ((by decide) : ¬ ((2 : Int32) < (2 : Int32)))).2.1 (by decide) (by decide) ?_
    refine XS.iload X67.here hx rfl (hb hby d12_129) rfl ?_
    exact k)
  obtain ⟨fs, hr, hrun, hended, hW, hsame⟩ := X67.leave (v := some (.int (2 : Int32))) (fun h => by rw [Bd.returns] at h; cases h)
  refine ⟨_, _, go75 _ ?_, hrun, hended, _, _, rfl, ?_, ⟨_, rfl⟩, hW, hsame.mono (by decide) (by decide)⟩
  · exact own_retI X67 hx Bd.returns (hb hby d12_131) hr
  · show Q_rm_keepA0_0_0 Z o0 sa ka nx kx va kv v0 v1 m0 m1 h0 n0 _ T67.heap _
    rw [e67]
    exact ⟨rfl, N67, K67, f72, V67⟩
theorem d11_57 : decode prog_10_method_5_code 57 = .ok (.aload_n 0, 1) := by decide +kernel
theorem d11_58 : decode prog_10_method_5_code 58 = .ok (.getfield 32, 3) := by decide +kernel
theorem d11_61 : decode prog_10_method_5_code 61 = .ok (.goto 11, 3) := by decide +kernel
theorem pn_rm_buildA_0 : plainName "com/example/graphkind/graphkind/Statements$Builder" = true := by first | (simp [plainName, overriddenIn]; done) | decide +kernel
theorem pd_rm_buildA_0_0 : parseMethodDescriptor "(II)I" = some ⟨[.int, .int], some .int⟩ := by decide +kernel
theorem pd_rm_buildA_0_1 : parseMethodDescriptor "([I[J)V" = some ⟨[(.array .int), (.array .long)], none⟩ := by decide +kernel
theorem ef_rm_buildA_0 (m : MethodId) (o0 : Addr) : entryFrame m #[(.ref o0)] 3 = mkF m 0 #[.val (.ref o0), uu, uu] [] := by first | (simp [entryFrame, mkF, argsToLocals, Value.category]; done) | rfl
def Q_rm_buildA_0 (Z : State) (o0 : Addr) (sa : Addr) (ka : ClassId) (nx : Addr) (kx : ClassId) (va : Addr) (kv : ClassId) (v0 : Int64) (v1 : Int64) (m0 : Int64) (m1 : Int64) (h0 : Heap) (n0 : Nat) (v : Option Value) (h : Heap) (L : List Loc) : Prop := ∃ b : Addr, v = some (.ref b) ∧ Fr n0 L ∧ Keep h0 h [va, sa, o0] ∧ n0 ≤ b ∧ h0.size ≤ b ∧ Exa Z h b "com/example/graphkind/graphkind/Statements" ∧ Fld Z h b "com/example/graphkind/graphkind/Statements" "start" "[I" (.ref sa) ∧ Fld Z h b "com/example/graphkind/graphkind/Statements" "values" "[J" (.ref va) ∧ Arv Z h sa ka .int (3 : Int32) [(.int (0 : Int32)), (.int (2 : Int32)), (.int (2 : Int32))] (.int (0 : Int32)) ∧ Arv Z h va kv .long (2 : Int32) [(.long m0), (.long m1)] (.long (0 : Int64))
set_option maxRecDepth 65536 in
set_option maxHeartbeats 40000000 in
theorem rm_buildA_0 (l : Launch) (Z : State) (a0 : Array Value) (hw : ∀ d ∈ tables_1, d.before a0 Z = true) (ws : List Jvm.Cond) (o0 : Addr) (sa : Addr) (ka : ClassId) (nx : Addr) (kx : ClassId) (va : Addr) (kv : ClassId) (v0 : Int64) (v1 : Int64) (m0 : Int64) (m1 : Int64) (h0 : Heap) (n0 : Nat) (Z0 : n0 ≤ h0.size) (E_o0 : Exa Z h0 o0 "com/example/graphkind/graphkind/Statements$Builder") (F_terms_o0 : Fld Z h0 o0 "com/example/graphkind/graphkind/Statements$Builder" "terms" "I" (.int (2 : Int32))) (F_start_o0 : Fld Z h0 o0 "com/example/graphkind/graphkind/Statements$Builder" "start" "[I" (.ref sa)) (F_next_o0 : Fld Z h0 o0 "com/example/graphkind/graphkind/Statements$Builder" "next" "[I" (.ref nx)) (F_values_o0 : Fld Z h0 o0 "com/example/graphkind/graphkind/Statements$Builder" "values" "[J" (.ref va)) (V_sa : Arv Z h0 sa ka .int (3 : Int32) [(.int (0 : Int32)), (.int (2 : Int32)), (.int (2 : Int32))] (.int (0 : Int32))) (V_nx : Arv Z h0 nx kx .int (2 : Int32) [(.int (2 : Int32)), (.int (2 : Int32))] (.int (0 : Int32))) (V_va : Arv Z h0 va kv .long (2 : Int32) [(.long v0), (.long v1)] (.long (0 : Int64))) (g_sa : n0 ≤ sa) (g_va : n0 ≤ va) (g_o0 : n0 ≤ o0) (ne_o0_sa : o0 ≠ sa) (ne_o0_nx : o0 ≠ nx) (ne_o0_va : o0 ≠ va) (ne_sa_nx : sa ≠ nx) (ne_sa_va : sa ≠ va) (ne_nx_va : nx ≠ va) (hl : (v1 < v0 ∧ m0 = v1 ∧ m1 = v0) ∨ (¬ v1 < v0 ∧ m0 = v0 ∧ m1 = v1)) (hm : ¬ ((own_usrL m1 (1 : Int32)) = (own_usrL m0 (1 : Int32)))) :
    MetFree l yN17 (head1 (Jvm.Cond.code yN17 prog_10_method_5_code 3 (some (.object "com/example/graphkind/graphkind/Statements")) :: ws) ({ frames := 5, cells := 1, slots := 2, locals := 104 } : Room)) (fun a U => a = #[(.ref o0)] ∧ Z.Warmed39 U.vm ∧ U.heap = h0) (fun _ _ _ _ _ => True) (fun _ U o U' => ∃ v L, o = .returned v ∧ Q_rm_buildA_0 Z o0 sa ka nx kx va kv v0 v1 m0 m1 h0 n0 v U'.heap L ∧ FrameEnd U o U' L ({ frames := 5, cells := 1, slots := 2, locals := 104 } : Room).cells ({ frames := 5, cells := 1, slots := 2, locals := 104 } : Room).slots) := by
  refine MetFree.of_bodySF (plainFor_of_name pn_rm_buildA_0) hisR ?_
  intro p e s m args below meth c s₁ Bd hml0 hP hK
  obtain ⟨rfl, hZ, hh⟩ := hP
  have hx := Bd.exec
  have hby := Bd.bytes
  have hml : c.maxLocals = 3 := hml0
  have hown : s.vm.findClass "com/example/graphkind/graphkind/Statements$Builder" = some m.cls := findClass_of_methodNamed Bd.named
  have hnm := (name_of_methodNamed Bd.named Bd.method).1
  have X0 : Stand p l e ({ frames := 5, cells := 1, slots := 2, locals := 104 } : Room) s m #[(.ref o0)] below meth c s₁ [] 0 0 := Stand.of_body Bd
  have e0 : s₁.heap = h0 := by rw [← hh, Bd.state]; rfl
  have N0 := Fr.nil n0
  have K0 := Keep.refl h0 [va, sa, o0]
  have go0 : Go p e below (s₁.setTop (entryFrame m #[(.ref o0)] 3)) (s₁.setTop (mkF m 0 #[vR o0, uu, uu] [])) := fun t k => castTop (ef_rm_buildA_0 m o0) k
  have go1 := go0.st s₁ (mkF m 6 #[vR o0, vI i0, vI i0] [sR o0, sI i0]) (fun t k => by
    refine XS.iconst X0.here hx rfl (hb hby d11_0) ?_
    refine XS.istoreN X0.here hx rfl (hb hby d11_1) rfl (l' := #[vR o0, vI i0, uu]) rfl ?_
    refine XS.iconst X0.here hx rfl (hb hby d11_2) ?_
    refine XS.istoreN X0.here hx rfl (hb hby d11_3) rfl (l' := #[vR o0, vI i0, vI i0]) rfl ?_
    refine XS.iloadN X0.here hx rfl (hb hby d11_4) rfl ?_
    refine XS.aloadN X0.here hx rfl (hb hby d11_5) rfl rfl ?_
    exact k)
  obtain ⟨T2, X2, e2, st2⟩ := getF X0 hx hZ hown (host := "") (Or.inl (wD hw 35 rfl)) Via.refl e0 F_terms_o0 (g := (mkF m 6 #[vR o0, vI i0, vI i0] [sR o0, sI i0])) rfl rfl (hb hby d11_6)
  have go4 := go1.st T2 (mkF m 15 #[vR o0, vI i0, vI i0] [sI i0, sI i0, sR o0]) (fun t k => by
    refine st2 _ ?_
    show SP p e below T2 (mkF m 9 #[vR o0, vI i0, vI i0] [sI i2, sI i0]) _
    refine XS.icmpNo X2.here hx rfl (hb hby d11_9) rfl (tlt ((by decide) : (0 : Int32) < (2 : Int32))).2.1 ?_
    refine XS.aloadN X2.here hx rfl (hb hby d11_12) rfl rfl ?_
    refine XS.iloadN X2.here hx rfl (hb hby d11_13) rfl ?_
    refine XS.iloadN X2.here hx rfl (hb hby d11_14) rfl ?_
    exact k)
  obtain ⟨cq5, q5, q5'⟩ := E_o0.cell
  obtain ⟨_, _, ⟨T5, L5, k5, n5⟩, -, X5, ⟨Lc5, hQ5, l5, y5, z5⟩, st5⟩ := X2.privateBack hx (y := yN16) hown (mvT hZ (wD hw 81 rfl)) (mvT hZ (wD hw 82 rfl)) (mvT hZ (own_selpriv (y := yN16) (by decide) (wD hw 29 rfl) (wD hw 83 rfl) (wD hw 82 rfl))) (Cond.privateMethod_at (mvP hZ (wD hw 83 rfl) (args := #[]))) (mvT hZ (wD hw 84 rfl)) (by decide) (backOf (W := 0) (rm_keepA0_0_0 l Z a0 hw [] o0 sa ka nx kx va kv v0 v1 m0 m1 h0 n0 Z0 F_start_o0 F_next_o0 V_sa V_nx g_sa F_values_o0 V_va g_va ne_o0_sa ne_o0_nx ne_o0_va ne_sa_nx ne_sa_va ne_nx_va hl hm) hZ (wD hw 84 rfl) (wD hw 30 rfl) (by decide) (by decide)) (g := (mkF m 15 #[vR o0, vI i0, vI i0] [sI i0, sI i0, sR o0])) rfl (by rw [hml]; rfl) (Steps.refl _) (a := o0) (by rw [e2]; exact q5) q5' (argsL := [(.int (0 : Int32)), (.int (0 : Int32))]) (rest := []) (lenOf pd_rm_buildA_0_0 rfl) rfl (by show 2 * 0 + _ ≤ _; exact Nat.le_of_eq rfl) (hb hby d11_15) (fun _ _ => ⟨rfl, e2, (by decide : 0 + 0 ≤ _), (by decide : 0 + 0 ≤ _)⟩)
  dsimp only [Pt.U, Pt.locs, Pt.cells, Pt.slots] at X5 l5 y5 z5 st5 hQ5
  rw [l5, y5, z5] at X5
  obtain ⟨rfl, N5q, K5, qp5_0, qp5_1⟩ := hQ5
  have N5 := Fr.app N0 N5q
  have f6 := E_o0.keep K5
  have f7 := F_terms_o0.keep K5 (ninS ne_o0_va (ninS ne_o0_sa nin0))
  have f8 := F_start_o0.keep K5 (ninS ne_o0_va (ninS ne_o0_sa nin0))
  have f9 := F_next_o0.keep K5 (ninS ne_o0_va (ninS ne_o0_sa nin0))
  have f10 := F_values_o0.keep K5 (ninS ne_o0_va (ninS ne_o0_sa nin0))
  have f12 := V_nx.keep K5 (ninS ne_nx_va (ninS (Ne.symm ne_sa_nx) nin0))
  have Z5 : n0 ≤ T5.heap.size := Nat.le_trans Z0 K5.1
  have KK5 := K0.trans K5 (allS (Or.inl (List.mem_of_getElem? (i := 0) rfl)) (allS (Or.inl (List.mem_of_getElem? (i := 1) rfl)) all0))
  have go14 := go4.st T5 (mkF m 6 #[vR o0, vI i2, vI i1] [sR o0, sI i1]) (fun t k => by
    refine st5.trans ?_
    show SP p e below T5 (mkF m 18 #[vR o0, vI i0, vI i0] [sI i2]) _
    refine XS.istoreN X5.here hx rfl (hb hby d11_18) rfl (l' := #[vR o0, vI i2, vI i0]) rfl ?_
    refine XS.iinc X5.here hx rfl (hb hby d11_19) rfl (l' := #[vR o0, vI i2, vI i1]) rfl ?_
    refine XS.goto X5.here hx rfl (pc0 := 22) (pc' := 4) rfl (hb hby d11_22) (by decide) (by decide) ?_
    refine XS.iloadN X5.here hx rfl (hb hby d11_4) rfl ?_
    refine XS.aloadN X5.here hx rfl (hb hby d11_5) rfl rfl ?_
    exact k)
  obtain ⟨T15, X15, e15, st15⟩ := getF X5 hx hZ hown (host := "") (Or.inl (wD hw 35 rfl)) Via.refl rfl f7 (g := (mkF m 6 #[vR o0, vI i2, vI i1] [sR o0, sI i1])) rfl rfl (hb hby d11_6)
  have go17 := go14.st T15 (mkF m 15 #[vR o0, vI i2, vI i1] [sI i2, sI i1, sR o0]) (fun t k => by
    refine st15 _ ?_
    show SP p e below T15 (mkF m 9 #[vR o0, vI i2, vI i1] [sI i2, sI i1]) _
    refine XS.icmpNo X15.here hx rfl (hb hby d11_9) rfl (tlt ((by decide) : (1 : Int32) < (2 : Int32))).2.1 ?_
    refine XS.aloadN X15.here hx rfl (hb hby d11_12) rfl rfl ?_
    refine XS.iloadN X15.here hx rfl (hb hby d11_13) rfl ?_
    refine XS.iloadN X15.here hx rfl (hb hby d11_14) rfl ?_
    exact k)
  obtain ⟨cq18, q18, q18'⟩ := f6.cell
  obtain ⟨_, _, ⟨T18, L18, k18, n18⟩, -, X18, ⟨Lc18, hQ18, l18, y18, z18⟩, st18⟩ := X15.privateBack hx (y := yN16) hown (mvT hZ (wD hw 81 rfl)) (mvT hZ (wD hw 82 rfl)) (mvT hZ (own_selpriv (y := yN16) (by decide) (wD hw 29 rfl) (wD hw 83 rfl) (wD hw 82 rfl))) (Cond.privateMethod_at (mvP hZ (wD hw 83 rfl) (args := #[]))) (mvT hZ (wD hw 84 rfl)) (by decide) (backOf (W := 0) (rm_keepA1_p l Z a0 hw [] o0 (2 : Int32) sa ka nx kx T5.heap n0 Z5 f8 f9 qp5_0 f12 g_sa ne_o0_sa ne_o0_nx ne_sa_nx) hZ (wD hw 84 rfl) (wD hw 30 rfl) (by decide) (by decide)) (g := (mkF m 15 #[vR o0, vI i2, vI i1] [sI i2, sI i1, sR o0])) rfl (by rw [hml]; rfl) (Steps.refl _) (a := o0) (by rw [e15]; exact q18) q18' (argsL := [(.int (1 : Int32)), (.int (2 : Int32))]) (rest := []) (lenOf pd_rm_buildA_0_0 rfl) rfl (by show 2 * 0 + _ ≤ _; exact Nat.le_of_eq rfl) (hb hby d11_15) (fun _ _ => ⟨rfl, e15, (by decide : 0 + 0 ≤ _), (by decide : 0 + 0 ≤ _)⟩)
  dsimp only [Pt.U, Pt.locs, Pt.cells, Pt.slots] at X18 l18 y18 z18 st18 hQ18
  rw [l18, y18, z18] at X18
  obtain ⟨rfl, N18q, K18, qp18_0⟩ := hQ18
  have N18 := Fr.app N5 N18q
  have f19 := f6.keep K18
  have f20 := f7.keep K18 (ninS ne_o0_sa nin0)
  have f21 := f8.keep K18 (ninS ne_o0_sa nin0)
  have f22 := f9.keep K18 (ninS ne_o0_sa nin0)
  have f23 := f10.keep K18 (ninS ne_o0_sa nin0)
  have f24 := f12.keep K18 (ninS (Ne.symm ne_sa_nx) nin0)
  have f26 := qp5_1.keep K18 (ninS (Ne.symm ne_sa_va) nin0)
  have Z18 : n0 ≤ T18.heap.size := Nat.le_trans Z5 K18.1
  have KK18 := KK5.trans K18 (allS (Or.inl (List.mem_of_getElem? (i := 1) rfl)) all0)
  have go27 := go17.st T18 (mkF m 6 #[vR o0, vI i2, vI i2] [sR o0, sI i2]) (fun t k => by
    refine st18.trans ?_
    show SP p e below T18 (mkF m 18 #[vR o0, vI i2, vI i1] [sI i2]) _
    refine XS.istoreN X18.here hx rfl (hb hby d11_18) rfl (l' := #[vR o0, vI i2, vI i1]) rfl ?_
    refine XS.iinc X18.here hx rfl (hb hby d11_19) rfl (l' := #[vR o0, vI i2, vI i2]) rfl ?_
    refine XS.goto X18.here hx rfl (pc0 := 22) (pc' := 4) rfl (hb hby d11_22) (by decide) (by decide) ?_
    refine XS.iloadN X18.here hx rfl (hb hby d11_4) rfl ?_
    refine XS.aloadN X18.here hx rfl (hb hby d11_5) rfl rfl ?_
    exact k)
  obtain ⟨T28, X28, e28, st28⟩ := getF X18 hx hZ hown (host := "") (Or.inl (wD hw 35 rfl)) Via.refl rfl f20 (g := (mkF m 6 #[vR o0, vI i2, vI i2] [sR o0, sI i2])) rfl rfl (hb hby d11_6)
  have go30 := go27.st T28 (mkF m 26 #[vR o0, vI i2, vI i2] [sR o0]) (fun t k => by
    refine st28 _ ?_
    show SP p e below T28 (mkF m 9 #[vR o0, vI i2, vI i2] [sI i2, sI i2]) _
    refine XS.icmpYes X28.here hx rfl (pc0 := 9) (pc' := 25) rfl (hb hby d11_9) rfl (flt ((by decide) : ¬ ((2 : Int32) < (2 : Int32)))).2.1 (by decide) (by decide) ?_
    refine XS.aloadN X28.here hx rfl (hb hby d11_25) rfl rfl ?_
    exact k)
  obtain ⟨T31, X31, e31, st31⟩ := getF X28 hx hZ hown (host := "") (Or.inl (wD hw 37 rfl)) Via.refl e28 f21 (g := (mkF m 26 #[vR o0, vI i2, vI i2] [sR o0])) rfl rfl (hb hby d11_26)
  have go32 := go30.st T31 (mkF m 30 #[vR o0, vI i2, vI i2] [sR o0, sR sa]) (fun t k => by
    refine st31 _ ?_
    show SP p e below T31 (mkF m 29 #[vR o0, vI i2, vI i2] [sR sa]) _
    refine XS.aloadN X31.here hx rfl (hb hby d11_29) rfl rfl ?_
    exact k)
  obtain ⟨T33, X33, e33, st33⟩ := getF X31 hx hZ hown (host := "") (Or.inl (wD hw 35 rfl)) Via.refl e31 f20 (g := (mkF m 30 #[vR o0, vI i2, vI i2] [sR o0, sR sa])) rfl rfl (hb hby d11_30)
  have go34 := go32.st T33 (mkF m 34 #[vR o0, vI i2, vI i2] [sI i2, sI i2, sR sa]) (fun t k => by
    refine st33 _ ?_
    show SP p e below T33 (mkF m 33 #[vR o0, vI i2, vI i2] [sI i2, sR sa]) _
    refine XS.iloadN X33.here hx rfl (hb hby d11_33) rfl ?_
    exact k)
  have Vo35 := qp18_0
  obtain ⟨cl35, Ar35, qa35, Sa35, Na35, Ha35, Ga35⟩ := Vo35
  have hin35 := inb_of (j := (2 : Int32)) Sa35 ⟨by decide, by decide⟩
  obtain ⟨T36, h36, X36, e36, W36, st36⟩ := stI X33 hx hZ e33 Ar35 (j := (2 : Int32)) hin35 (g := (mkF m 34 #[vR o0, vI i2, vI i2] [sI i2, sI i2, sR sa])) rfl rfl (hb hby d11_34)
  have V36 : Arv Z h36 sa ka .int (3 : Int32) [(.int (0 : Int32)), (.int (2 : Int32)), (.int (2 : Int32))] (.int (0 : Int32)) := Arv.set Ar35 qa35 Sa35 Na35 Ha35 Ga35 rfl W36 2 rfl (Nat.le_of_ble_eq_true rfl)
  have f37 := f19.wr W36
  have f38 := Fld.other W36 f20 (Or.inl ne_o0_sa)
  have f39 := Fld.other W36 f21 (Or.inl ne_o0_sa)
  have f40 := Fld.other W36 f22 (Or.inl ne_o0_sa)
  have f41 := Fld.other W36 f23 (Or.inl ne_o0_sa)
  have f42 := Arv.other f24 W36 (Ne.symm ne_sa_nx)
  have f43 := Arv.other f26 W36 (Ne.symm ne_sa_va)
  have Z36 : n0 ≤ h36.size := Nat.le_trans Z18 (Nat.le_of_eq W36.size.symm)
  have K36 := KK18.wr W36 (Or.inl (List.mem_of_getElem? (i := 1) rfl))
  have N36 := Fr.snoc X36 N18 g_sa
  have go45 := go34.st T36 (mkF m 37 #[vR o0, vI i2, vI i2] [.null, sR o0]) (fun t k => by
    refine st36 _ ?_
    show SP p e below T36 (mkF m 35 #[vR o0, vI i2, vI i2] []) _
    refine XS.aloadN X36.here hx rfl (hb hby d11_35) rfl rfl ?_
    refine XS.aconstNull X36.here hx rfl (hb hby d11_36) ?_
    exact k)
  obtain ⟨T46, h46, X46, e46, W46, st46⟩ := putF X36 hx hZ hown (host := "") (Or.inl (wD hw 66 rfl)) Via.refl e36 f40 f37 (Or.inl (wD hw 67 rfl)) (wD hw 29 rfl) (ty := (.array .int)) (by decide) rfl rfl (g := (mkF m 37 #[vR o0, vI i2, vI i2] [.null, sR o0])) rfl rfl (hb hby d11_37)
  have f47 := f37.wr W46
  have f48 := Fld.other W46 f38 (Or.inr (slot_ne (Or.inr (wD hw 36 rfl)) (Or.inl (wD hw 67 rfl)) (by decide) (t := .int) (t' := (.array .int)) (by decide) (by decide)))
  have f49 := Fld.other W46 f39 (Or.inr (slot_ne (Or.inr (wD hw 38 rfl)) (Or.inl (wD hw 67 rfl)) (by decide) (t := (.array .int)) (t' := (.array .int)) (by decide) (by decide)))
  have f50 := Fld.same W46 f40
  have f51 := Fld.other W46 f41 (Or.inr (slot_ne (Or.inl (wD hw 70 rfl)) (Or.inl (wD hw 67 rfl)) (by decide) (t := (.array .long)) (t' := (.array .int)) (by decide) (by decide)))
  have f52 := Arv.other f42 W46 (Ne.symm ne_o0_nx)
  have f53 := Arv.other f43 W46 (Ne.symm ne_o0_va)
  have f54 := Arv.other V36 W46 (Ne.symm ne_o0_sa)
  have Z46 : n0 ≤ h46.size := Nat.le_trans Z36 (Nat.le_of_eq W46.size.symm)
  have K46 := K36.wr W46 (Or.inl (List.mem_of_getElem? (i := 2) rfl))
  have N46 := Fr.snoc X46 N36 g_o0
  have go55 := go45.st T46 (mkF m 40 #[vR o0, vI i2, vI i2] []) (fun t k => by
    refine st46 _ ?_
    exact k)
  obtain ⟨T56, h56, X56, e56, E56, A56, D56, -, st56⟩ := newO X46 hx hZ hown (wD hw 101 rfl) (wD hw 102 rfl) (wD hw 103 rfl) e46 (g := (mkF m 40 #[vR o0, vI i2, vI i2] [])) rfl (hb hby d11_40) (by decide) (by decide)
  obtain ⟨b56, g56⟩ : ∃ z, z = h46.size := ⟨_, rfl⟩
  rw [← g56] at A56 D56 st56
  have ne_o0_b56 : o0 ≠ b56 := Nat.ne_of_lt (Nat.lt_of_lt_of_le f47.lt (Nat.le_of_eq g56.symm))
  have ne_sa_b56 : sa ≠ b56 := Nat.ne_of_lt (Nat.lt_of_lt_of_le f54.lt (Nat.le_of_eq g56.symm))
  have ne_nx_b56 : nx ≠ b56 := Nat.ne_of_lt (Nat.lt_of_lt_of_le f52.lt (Nat.le_of_eq g56.symm))
  have ne_va_b56 : va ≠ b56 := Nat.ne_of_lt (Nat.lt_of_lt_of_le f53.lt (Nat.le_of_eq g56.symm))
  have g_b56 : n0 ≤ b56 := Nat.le_trans Z46 (Nat.le_of_eq g56.symm)
  have sz_b56 : h0.size ≤ b56 := Nat.le_trans K46.1 (Nat.le_of_eq g56.symm)
  have f57 := f47.ext E56
  have f58 := f48.ext E56
  have f59 := f49.ext E56
  have f60 := f50.ext E56
  have f61 := f51.ext E56
  have f62 := f52.ext E56
  have f63 := f53.ext E56
  have f64 := f54.ext E56
  have F56_start : Fld Z h56 b56 "com/example/graphkind/graphkind/Statements" "start" "[I" .null := D56 (Or.inr (wD hw 109 rfl)) (ty := (.array .int)) (by decide)
  have F56_values : Fld Z h56 b56 "com/example/graphkind/graphkind/Statements" "values" "[J" .null := D56 (Or.inr (wD hw 111 rfl)) (ty := (.array .long)) (by decide)
  have Z56 : n0 ≤ h56.size := Nat.le_trans Z46 E56.1
  have K56 := K46.ext E56
  have go65 := go55.st T56 (mkF m 45 #[vR o0, vI i2, vI i2] [sR o0, sR b56, sR b56]) (fun t k => by
    refine st56 _ ?_
    show SP p e below T56 (mkF m 43 #[vR o0, vI i2, vI i2] [sR b56]) _
    refine XS.dup X56.here hx rfl (hb hby d11_43) rfl rfl ?_
    refine XS.aloadN X56.here hx rfl (hb hby d11_44) rfl rfl ?_
    exact k)
  obtain ⟨T66, X66, e66, st66⟩ := getF X56 hx hZ hown (host := "") (Or.inl (wD hw 37 rfl)) Via.refl e56 f59 (g := (mkF m 45 #[vR o0, vI i2, vI i2] [sR o0, sR b56, sR b56])) rfl rfl (hb hby d11_45)
  have go67 := go65.st T66 (mkF m 50 #[vR o0, vI i2, vI i2] [sR o0, sI i2, sR sa, sR b56, sR b56]) (fun t k => by
    refine st66 _ ?_
    show SP p e below T66 (mkF m 48 #[vR o0, vI i2, vI i2] [sR sa, sR b56, sR b56]) _
    refine XS.iloadN X66.here hx rfl (hb hby d11_48) rfl ?_
    refine XS.aloadN X66.here hx rfl (hb hby d11_49) rfl rfl ?_
    exact k)
  obtain ⟨T68, X68, e68, st68⟩ := getF X66 hx hZ hown (host := "") (Or.inl (wD hw 69 rfl)) Via.refl e66 f61 (g := (mkF m 50 #[vR o0, vI i2, vI i2] [sR o0, sI i2, sR sa, sR b56, sR b56])) rfl rfl (hb hby d11_50)
  have go69 := go67.st T68 (mkF m 53 #[vR o0, vI i2, vI i2] [sR va, sI i2, sR sa, sR b56, sR b56]) (fun t k => by
    refine st68 _ ?_
    exact k)
  have Vo70 := f63
  obtain ⟨cl70, Ar70, qa70, Sa70, Na70, Ha70, Ga70⟩ := Vo70
  have go72 := go69.st T68 (mkF m 58 #[vR o0, vI i2, vI i2] [sR o0, sR sa, sR b56, sR b56]) (fun t k => by
    refine X68.arraylength hx (by rw [e68]; exact Ar70.1) (State.isArrayOf_alike hZ.alike Ar70.2.1) (g := (mkF m 53 #[vR o0, vI i2, vI i2] [sR va, sI i2, sR sa, sR b56, sR b56])) rfl rfl (hb hby d11_53) _ ?_
    rw [len_of Sa70 Na70]
    refine XS.icmpNo X68.here hx rfl (hb hby d11_54) rfl (teq ((by decide) : (2 : Int32) = (2 : Int32))).2 ?_
    refine XS.aloadN X68.here hx rfl (hb hby d11_57) rfl rfl ?_
    exact k)
  obtain ⟨T73, X73, e73, st73⟩ := getF X68 hx hZ hown (host := "") (Or.inl (wD hw 69 rfl)) Via.refl e68 f61 (g := (mkF m 58 #[vR o0, vI i2, vI i2] [sR o0, sR sa, sR b56, sR b56])) rfl rfl (hb hby d11_58)
  have go74 := go72.st T73 (mkF m 72 #[vR o0, vI i2, vI i2] [sR va, sR sa, sR b56, sR b56]) (fun t k => by
    refine st73 _ ?_
    show SP p e below T73 (mkF m 61 #[vR o0, vI i2, vI i2] [sR va, sR sa, sR b56, sR b56]) _
    refine XS.goto X73.here hx rfl (pc0 := 61) (pc' := 72) rfl (hb hby d11_61) (by decide) (by decide) ?_
    exact k)
  obtain ⟨_, _, ⟨T75, L75, k75, n75⟩, -, X75, ⟨Lc75, hQ75, l75, y75, z75⟩, st75⟩ := X73.specialBackNest hx (y := yN15) rfl hown (own_mvM hZ (wD hw 104 rfl)) (mvT hZ (wD hw 105 rfl)) (mvT hZ (wD hw 106 rfl)) (by decide) (backOf (W := 1) (rm_sinit l Z a0 hw [] b56 sa va h56 n0 Z56 A56 g_b56 F56_start F56_values) hZ (wD hw 106 rfl) (wD hw 103 rfl) (by decide) (by decide)) (g := (mkF m 72 #[vR o0, vI i2, vI i2] [sR va, sR sa, sR b56, sR b56])) rfl (by rw [hml]; rfl) (Steps.refl _) (a := b56) (argsL := [(.ref sa), (.ref va)]) (rest := [(.ref b56)]) (lenOf pd_rm_buildA_0_1 rfl) rfl (by show 2 * 0 + _ ≤ _; exact Nat.le_of_eq rfl) (hb hby d11_72) (fun _ _ => ⟨rfl, e73, (by decide : 1 + 0 ≤ _), (by decide : 2 + 0 ≤ _)⟩)
  dsimp only [Pt.U, Pt.locs, Pt.cells, Pt.slots] at X75 l75 y75 z75 st75 hQ75
  rw [l75, y75, z75] at X75
  obtain ⟨rfl, N75q, K75, qp75_0, qp75_1, qp75_2⟩ := hQ75
  have N75 := Fr.app N46 N75q
  have f76 := f57.keep K75
  have f77 := f58.keep K75 (ninS ne_o0_b56 nin0)
  have f78 := f59.keep K75 (ninS ne_o0_b56 nin0)
  have f79 := f60.keep K75 (ninS ne_o0_b56 nin0)
  have f80 := f61.keep K75 (ninS ne_o0_b56 nin0)
  have f81 := f62.keep K75 (ninS ne_nx_b56 nin0)
  have f82 := f63.keep K75 (ninS ne_va_b56 nin0)
  have f83 := f64.keep K75 (ninS ne_sa_b56 nin0)
  have f84 := A56.keep K75
  have Z75 : n0 ≤ T75.heap.size := Nat.le_trans Z56 K75.1
  have KK75 := K56.trans K75 (allS (Or.inr sz_b56) all0)
  have go87 := go74.st T75 (mkF m 75 #[vR o0, vI i2, vI i2] [sR b56]) (fun t k => by
    refine st75.trans ?_
    exact k)
  obtain ⟨fs, hr, hrun, hended, hW, hsame⟩ := X75.leave (v := some (.ref b56)) (fun h => by rw [Bd.returns] at h; cases h)
  refine ⟨_, _, go87 _ ?_, hrun, hended, _, _, rfl, ?_, ⟨_, rfl⟩, hW, hsame.mono (by decide) (by decide)⟩
  · exact own_retA X75 hx Bd.returns rfl rfl (hb hby d11_75) hr
  · show Q_rm_buildA_0 Z o0 sa ka nx kx va kv v0 v1 m0 m1 h0 n0 _ T75.heap _
    exact ⟨b56, rfl, N75, KK75, g_b56, sz_b56, qp75_0, qp75_1, qp75_2, f83, f82⟩
theorem pn_rm_keepB0_0 : plainName "com/example/graphkind/graphkind/Statements$Builder" = true := by first | (simp [plainName, overriddenIn]; done) | decide +kernel
theorem ef_rm_keepB0_0 (m : MethodId) (o0 : Addr) : entryFrame m #[(.ref o0), (.int (0 : Int32)), (.int (0 : Int32))] 7 = mkF m 0 #[.val (.ref o0), .val (.int (0 : Int32)), .val (.int (0 : Int32)), uu, uu, uu, uu] [] := by first | (simp [entryFrame, mkF, argsToLocals, Value.category]; done) | rfl
def Q_rm_keepB0_0 (Z : State) (o0 : Addr) (sa : Addr) (ka : ClassId) (nx : Addr) (kx : ClassId) (va : Addr) (kv : ClassId) (v0 : Int64) (v1 : Int64) (h0 : Heap) (n0 : Nat) (v : Option Value) (h : Heap) (L : List Loc) : Prop := v = some (.int (1 : Int32)) ∧ Fr n0 L ∧ Keep h0 h [va, sa] ∧ Arv Z h sa ka .int (3 : Int32) [(.int (0 : Int32)), (.int (1 : Int32)), (.int (2 : Int32))] (.int (0 : Int32)) ∧ Arv Z h va kv .long (2 : Int32) [(.long v0), (.long v1)] (.long (0 : Int64))
set_option maxRecDepth 65536 in
set_option maxHeartbeats 40000000 in
theorem rm_keepB0_0 (l : Launch) (Z : State) (a0 : Array Value) (hw : ∀ d ∈ tables_1, d.before a0 Z = true) (ws : List Jvm.Cond) (o0 : Addr) (sa : Addr) (ka : ClassId) (nx : Addr) (kx : ClassId) (va : Addr) (kv : ClassId) (v0 : Int64) (v1 : Int64) (h0 : Heap) (n0 : Nat) (Z0 : n0 ≤ h0.size) (F_start_o0 : Fld Z h0 o0 "com/example/graphkind/graphkind/Statements$Builder" "start" "[I" (.ref sa)) (F_next_o0 : Fld Z h0 o0 "com/example/graphkind/graphkind/Statements$Builder" "next" "[I" (.ref nx)) (V_sa : Arv Z h0 sa ka .int (3 : Int32) [(.int (0 : Int32)), (.int (1 : Int32)), (.int (2 : Int32))] (.int (0 : Int32))) (V_nx : Arv Z h0 nx kx .int (2 : Int32) [(.int (1 : Int32)), (.int (2 : Int32))] (.int (0 : Int32))) (g_sa : n0 ≤ sa) (F_values_o0 : Fld Z h0 o0 "com/example/graphkind/graphkind/Statements$Builder" "values" "[J" (.ref va)) (V_va : Arv Z h0 va kv .long (2 : Int32) [(.long v0), (.long v1)] (.long (0 : Int64))) (g_va : n0 ≤ va) (ne_o0_sa : o0 ≠ sa) (ne_o0_nx : o0 ≠ nx) (ne_o0_va : o0 ≠ va) (ne_sa_nx : sa ≠ nx) (ne_sa_va : sa ≠ va) (ne_nx_va : nx ≠ va) :
    MetFree l yN16 (head1 (Jvm.Cond.code yN16 prog_10_method_6_code 7 (some .int) :: ws) ({ frames := 0, cells := 0, slots := 0, locals := 0 } : Room)) (fun a U => a = #[(.ref o0), (.int (0 : Int32)), (.int (0 : Int32))] ∧ Z.Warmed39 U.vm ∧ U.heap = h0) (fun _ _ _ _ _ => True) (fun _ U o U' => ∃ v L, o = .returned v ∧ Q_rm_keepB0_0 Z o0 sa ka nx kx va kv v0 v1 h0 n0 v U'.heap L ∧ FrameEnd U o U' L ({ frames := 0, cells := 0, slots := 0, locals := 0 } : Room).cells ({ frames := 0, cells := 0, slots := 0, locals := 0 } : Room).slots) := by
  refine MetFree.of_bodySF (plainFor_of_name pn_rm_keepB0_0) hisR ?_
  intro p e s m args below meth c s₁ Bd hml0 hP hK
  obtain ⟨rfl, hZ, hh⟩ := hP
  have hx := Bd.exec
  have hby := Bd.bytes
  have hml : c.maxLocals = 7 := hml0
  have hown : s.vm.findClass "com/example/graphkind/graphkind/Statements$Builder" = some m.cls := findClass_of_methodNamed Bd.named
  have hnm := (name_of_methodNamed Bd.named Bd.method).1
  have X0 : Stand p l e ({ frames := 0, cells := 0, slots := 0, locals := 0 } : Room) s m #[(.ref o0), (.int (0 : Int32)), (.int (0 : Int32))] below meth c s₁ [] 0 0 := Stand.of_body Bd
  have e0 : s₁.heap = h0 := by rw [← hh, Bd.state]; rfl
  have N0 := Fr.nil n0
  have K0 := Keep.refl h0 [va, sa]
  have go0 : Go p e below (s₁.setTop (entryFrame m #[(.ref o0), (.int (0 : Int32)), (.int (0 : Int32))] 7)) (s₁.setTop (mkF m 0 #[vR o0, vI i0, vI i0, uu, uu, uu, uu] [])) := fun t k => castTop (ef_rm_keepB0_0 m o0) k
  have go1 := go0.st s₁ (mkF m 1 #[vR o0, vI i0, vI i0, uu, uu, uu, uu] [sR o0]) (fun t k => by
    refine XS.aloadN X0.here hx rfl (hb hby d12_0) rfl rfl ?_
    exact k)
  obtain ⟨T2, X2, e2, st2⟩ := getF X0 hx hZ hown (host := "") (Or.inl (wD hw 37 rfl)) Via.refl e0 F_start_o0 (g := (mkF m 1 #[vR o0, vI i0, vI i0, uu, uu, uu, uu] [sR o0])) rfl rfl (hb hby d12_1)
  have go3 := go1.st T2 (mkF m 5 #[vR o0, vI i0, vI i0, uu, uu, uu, uu] [sI i0, sR sa]) (fun t k => by
    refine st2 _ ?_
    show SP p e below T2 (mkF m 4 #[vR o0, vI i0, vI i0, uu, uu, uu, uu] [sR sa]) _
    refine XS.iloadN X2.here hx rfl (hb hby d12_4) rfl ?_
    exact k)
  have Vo4 := V_sa
  obtain ⟨cl4, Ar4, qa4, Sa4, Na4, Ha4, Ga4⟩ := Vo4
  have hin4 := inb_of (j := (0 : Int32)) Sa4 ⟨by decide, by decide⟩
  have hat4 : cl4.slots[((0 : Int32)).toNatClampNeg]? = some (.int (0 : Int32)) := Has.at Ha4 hin4 rfl
  have go5 := go3.st T2 (mkF m 8 #[vR o0, vI i0, vI i0, vI i0, uu, uu, uu] [sR o0]) (fun t k => by
    refine X2.iaload hx (j := (0 : Int32)) (v := (.int (0 : Int32))) (by rw [e2]; exact Ar4.1) (State.isArrayOf_alike hZ.alike Ar4.2.1) Ar4.2.2 hin4 hat4 (g := (mkF m 5 #[vR o0, vI i0, vI i0, uu, uu, uu, uu] [sI i0, sR sa])) rfl rfl (hb hby d12_5) _ ?_
    refine XS.istoreN X2.here hx rfl (hb hby d12_6) rfl (l' := #[vR o0, vI i0, vI i0, vI i0, uu, uu, uu]) rfl ?_
    refine XS.aloadN X2.here hx rfl (hb hby d12_7) rfl rfl ?_
    exact k)
  obtain ⟨T6, X6, e6, st6⟩ := getF X2 hx hZ hown (host := "") (Or.inl (wD hw 66 rfl)) Via.refl e2 F_next_o0 (g := (mkF m 8 #[vR o0, vI i0, vI i0, vI i0, uu, uu, uu] [sR o0])) rfl rfl (hb hby d12_8)
  have go7 := go5.st T6 (mkF m 12 #[vR o0, vI i0, vI i0, vI i0, uu, uu, uu] [sI i0, sR nx]) (fun t k => by
    refine st6 _ ?_
    show SP p e below T6 (mkF m 11 #[vR o0, vI i0, vI i0, vI i0, uu, uu, uu] [sR nx]) _
    refine XS.iloadN X6.here hx rfl (hb hby d12_11) rfl ?_
    exact k)
  have Vo8 := V_nx
  obtain ⟨cl8, Ar8, qa8, Sa8, Na8, Ha8, Ga8⟩ := Vo8
  have hin8 := inb_of (j := (0 : Int32)) Sa8 ⟨by decide, by decide⟩
  have hat8 : cl8.slots[((0 : Int32)).toNatClampNeg]? = some (.int (1 : Int32)) := Has.at Ha8 hin8 rfl
  have go10 := go7.st T6 (mkF m 37 #[vR o0, vI i0, vI i0, vI i0, vI i1, vI i0, uu] [sR o0]) (fun t k => by
    refine X6.iaload hx (j := (0 : Int32)) (v := (.int (1 : Int32))) (by rw [e6]; exact Ar8.1) (State.isArrayOf_alike hZ.alike Ar8.2.1) Ar8.2.2 hin8 hat8 (g := (mkF m 12 #[vR o0, vI i0, vI i0, vI i0, uu, uu, uu] [sI i0, sR nx])) rfl rfl (hb hby d12_12) _ ?_
    refine XS.istore X6.here hx rfl (hb hby d12_13) rfl (l' := #[vR o0, vI i0, vI i0, vI i0, vI i1, uu, uu]) rfl ?_
    refine XS.iload X6.here hx rfl (hb hby d12_15) rfl ?_
    refine XS.iloadN X6.here hx rfl (hb hby d12_17) rfl ?_
    refine XS.isub X6.here hx rfl (hb hby d12_18) rfl ?_
    refine XS.iconst X6.here hx rfl (hb hby d12_19) ?_
    refine XS.icmpYes X6.here hx rfl (pc0 := 20) (pc' := 33) rfl (hb hby d12_20) rfl (flt ((by decide) : ¬ ((1 : Int32) < (1 : Int32)))).2.2.2 (by decide) (by decide) ?_
    refine XS.iloadN X6.here hx rfl (hb hby d12_33) rfl ?_
    show SP p e below T6 (mkF m 34 #[vR o0, vI i0, vI i0, vI i0, vI i1, uu, uu] [sI i0]) _
    refine XS.istore X6.here hx rfl (hb hby d12_34) rfl (l' := #[vR o0, vI i0, vI i0, vI i0, vI i1, vI i0, uu]) rfl ?_
    refine XS.aloadN X6.here hx rfl (hb hby d12_36) rfl rfl ?_
    exact k)
  obtain ⟨T11, X11, e11, st11⟩ := getF X6 hx hZ hown (host := "") (Or.inl (wD hw 37 rfl)) Via.refl e6 F_start_o0 (g := (mkF m 37 #[vR o0, vI i0, vI i0, vI i0, vI i1, vI i0, uu] [sR o0])) rfl rfl (hb hby d12_37)
  have go12 := go10.st T11 (mkF m 43 #[vR o0, vI i0, vI i0, vI i0, vI i1, vI i0, uu] [sI i0, sI i0, sR sa]) (fun t k => by
    refine st11 _ ?_
    show SP p e below T11 (mkF m 40 #[vR o0, vI i0, vI i0, vI i0, vI i1, vI i0, uu] [sR sa]) _
    refine XS.iloadN X11.here hx rfl (hb hby d12_40) rfl ?_
    refine XS.iload X11.here hx rfl (hb hby d12_41) rfl ?_
    exact k)
  have Vo13 := V_sa
  obtain ⟨cl13, Ar13, qa13, Sa13, Na13, Ha13, Ga13⟩ := Vo13
  have hin13 := inb_of (j := (0 : Int32)) Sa13 ⟨by decide, by decide⟩
  obtain ⟨T14, h14, X14, e14, W14, st14⟩ := stI X11 hx hZ e11 Ar13 (j := (0 : Int32)) hin13 (g := (mkF m 43 #[vR o0, vI i0, vI i0, vI i0, vI i1, vI i0, uu] [sI i0, sI i0, sR sa])) rfl rfl (hb hby d12_43)
  have V14 : Arv Z h14 sa ka .int (3 : Int32) [(.int (0 : Int32)), (.int (1 : Int32)), (.int (2 : Int32))] (.int (0 : Int32)) := Arv.set Ar13 qa13 Sa13 Na13 Ha13 Ga13 rfl W14 0 rfl (Nat.le_of_ble_eq_true rfl)
  have f15 := Fld.other W14 F_start_o0 (Or.inl ne_o0_sa)
  have f16 := Fld.other W14 F_next_o0 (Or.inl ne_o0_sa)
  have f18 := Arv.other V_nx W14 (Ne.symm ne_sa_nx)
  have f19 := Fld.other W14 F_values_o0 (Or.inl ne_o0_sa)
  have f20 := Arv.other V_va W14 (Ne.symm ne_sa_va)
  have Z14 : n0 ≤ h14.size := Nat.le_trans Z0 (Nat.le_of_eq W14.size.symm)
  have K14 := K0.wr W14 (Or.inl (List.mem_of_getElem? (i := 1) rfl))
  have N14 := Fr.snoc X14 N0 g_sa
  have go23 := go12.st T14 (mkF m 107 #[vR o0, vI i0, vI i0, vI i0, vI i1, vI i0, vI i0] [sR o0]) (fun t k => by
    refine st14 _ ?_
    show SP p e below T14 (mkF m 44 #[vR o0, vI i0, vI i0, vI i0, vI i1, vI i0, uu] []) _
    refine XS.iloadN X14.here hx rfl (hb hby d12_44) rfl ?_
    refine XS.istore X14.here hx rfl (hb hby d12_45) rfl (l' := #[vR o0, vI i0, vI i0, vI i0, vI i1, vI i0, vI i0]) rfl ?_
    refine XS.iload X14.here hx rfl (hb hby d12_47) rfl ?_
    refine XS.iload X14.here hx rfl (hb hby d12_49) rfl ?_
    refine XS.icmpNo X14.here hx rfl (hb hby d12_51) rfl (tlt ((by decide) : (0 : Int32) < (1 : Int32))).2.1 ?_
    refine XS.iload X14.here hx rfl (hb hby d12_54) rfl ?_
    refine XS.iloadN X14.here hx rfl (hb hby d12_56) rfl ?_
    refine XS.icmpYes X14.here hx rfl (pc0 := 57) (pc' := 106) rfl (hb hby d12_57) rfl (flt ((by decide) : ¬ ((0 : Int32) < (0 : Int32)))).2.2.2 (by decide) (by decide) ?_
    refine XS.aloadN X14.here hx rfl (hb hby d12_106) rfl rfl ?_
    exact k)
  obtain ⟨T24, X24, e24, st24⟩ := getF X14 hx hZ hown (host := "") (Or.inl (wD hw 69 rfl)) Via.refl e14 f19 (g := (mkF m 107 #[vR o0, vI i0, vI i0, vI i0, vI i1, vI i0, vI i0] [sR o0])) rfl rfl (hb hby d12_107)
  have go25 := go23.st T24 (mkF m 116 #[vR o0, vI i0, vI i0, vI i0, vI i1, vI i1, vI i0] [sR o0, sI i0, sR va]) (fun t k => by
    refine st24 _ ?_
    show SP p e below T24 (mkF m 110 #[vR o0, vI i0, vI i0, vI i0, vI i1, vI i0, vI i0] [sR va]) _
    refine XS.iload X24.here hx rfl (hb hby d12_110) rfl ?_
    refine XS.iinc X24.here hx rfl (hb hby d12_112) rfl (l' := #[vR o0, vI i0, vI i0, vI i0, vI i1, vI i1, vI i0]) rfl ?_
    refine XS.aloadN X24.here hx rfl (hb hby d12_115) rfl rfl ?_
    exact k)
  obtain ⟨T26, X26, e26, st26⟩ := getF X24 hx hZ hown (host := "") (Or.inl (wD hw 69 rfl)) Via.refl e24 f19 (g := (mkF m 116 #[vR o0, vI i0, vI i0, vI i0, vI i1, vI i1, vI i0] [sR o0, sI i0, sR va])) rfl rfl (hb hby d12_116)
  have go27 := go25.st T26 (mkF m 121 #[vR o0, vI i0, vI i0, vI i0, vI i1, vI i1, vI i0] [sI i0, sR va, sI i0, sR va]) (fun t k => by
    refine st26 _ ?_
    show SP p e below T26 (mkF m 119 #[vR o0, vI i0, vI i0, vI i0, vI i1, vI i1, vI i0] [sR va, sI i0, sR va]) _
    refine XS.iload X26.here hx rfl (hb hby d12_119) rfl ?_
    exact k)
  have Vo28 := f20
  obtain ⟨cl28, Ar28, qa28, Sa28, Na28, Ha28, Ga28⟩ := Vo28
  have hin28 := inb_of (j := (0 : Int32)) Sa28 ⟨by decide, by decide⟩
  have hat28 : cl28.slots[((0 : Int32)).toNatClampNeg]? = some (.long v0) := Has.at Ha28 hin28 rfl
  have go29 := go27.st T26 (mkF m 122 #[vR o0, vI i0, vI i0, vI i0, vI i1, vI i1, vI i0] [sJ v0, sI i0, sR va]) (fun t k => by
    refine X26.laload hx (j := (0 : Int32)) (v := (.long v0)) (by rw [e26]; exact Ar28.1) (State.isArrayOf_alike hZ.alike Ar28.2.1) Ar28.2.2 hin28 hat28 (g := (mkF m 121 #[vR o0, vI i0, vI i0, vI i0, vI i1, vI i1, vI i0] [sI i0, sR va, sI i0, sR va])) rfl rfl (hb hby d12_121) _ ?_
    exact k)
  have Vo30 := f20
  obtain ⟨cl30, Ar30, qa30, Sa30, Na30, Ha30, Ga30⟩ := Vo30
  have hin30 := inb_of (j := (0 : Int32)) Sa30 ⟨by decide, by decide⟩
  obtain ⟨T31, h31, X31, e31, W31, st31⟩ := stJ X26 hx hZ e26 Ar30 (j := (0 : Int32)) hin30 (g := (mkF m 122 #[vR o0, vI i0, vI i0, vI i0, vI i1, vI i1, vI i0] [sJ v0, sI i0, sR va])) rfl rfl (hb hby d12_122)
  have V31 : Arv Z h31 va kv .long (2 : Int32) [(.long v0), (.long v1)] (.long (0 : Int64)) := Arv.set Ar30 qa30 Sa30 Na30 Ha30 Ga30 rfl W31 0 rfl (Nat.le_of_ble_eq_true rfl)
  have f32 := Fld.other W31 f15 (Or.inl ne_o0_va)
  have f33 := Fld.other W31 f16 (Or.inl ne_o0_va)
  have f34 := Arv.other f18 W31 ne_nx_va
  have f35 := Fld.other W31 f19 (Or.inl ne_o0_va)
  have f37 := Arv.other V14 W31 ne_sa_va
  have Z31 : n0 ≤ h31.size := Nat.le_trans Z14 (Nat.le_of_eq W31.size.symm)
  have K31 := K14.wr W31 (Or.inl (List.mem_of_getElem? (i := 0) rfl))
  have N31 := Fr.snoc X31 N14 g_va
  have go39 := go29.st T31 (mkF m 131 #[vR o0, vI i0, vI i0, vI i0, vI i1, vI i1, vI i1] [sI i1]) (fun t k => by
    refine st31 _ ?_
    show SP p e below T31 (mkF m 123 #[vR o0, vI i0, vI i0, vI i0, vI i1, vI i1, vI i0] []) _
    refine XS.iinc X31.here hx rfl (hb hby d12_123) rfl (l' := #[vR o0, vI i0, vI i0, vI i0, vI i1, vI i1, vI i1]) rfl ?_
    refine XS.goto X31.here hx rfl (pc0 := 126) (pc' := 47) rfl (hb hby d12_126) (by decide) (by decide) ?_
    refine XS.iload X31.here hx rfl (hb hby d12_47) rfl ?_
    refine XS.iload X31.here hx rfl (hb hby d12_49) rfl ?_
    refine XS.icmpYes X31.here hx rfl (pc0 := 51) (pc' := 129) rfl (hb hby d12_51) rfl (flt ((by decide) : ¬ ((1 : Int32) < (1 : Int32)))).2.1 (by decide) (by decide) ?_
    refine XS.iload X31.here hx rfl (hb hby d12_129) rfl ?_
    exact k)
  obtain ⟨fs, hr, hrun, hended, hW, hsame⟩ := X31.leave (v := some (.int (1 : Int32))) (fun h => by rw [Bd.returns] at h; cases h)
  refine ⟨_, _, go39 _ ?_, hrun, hended, _, _, rfl, ?_, ⟨_, rfl⟩, hW, hsame.mono (by decide) (by decide)⟩
  · exact own_retI X31 hx Bd.returns (hb hby d12_131) hr
  · show Q_rm_keepB0_0 Z o0 sa ka nx kx va kv v0 v1 h0 n0 _ T31.heap _
    rw [e31]
    exact ⟨rfl, N31, K31, f37, V31⟩
theorem pn_rm_keepB1_1 : plainName "com/example/graphkind/graphkind/Statements$Builder" = true := by first | (simp [plainName, overriddenIn]; done) | decide +kernel
theorem ef_rm_keepB1_1 (m : MethodId) (o0 : Addr) : entryFrame m #[(.ref o0), (.int (1 : Int32)), (.int (1 : Int32))] 7 = mkF m 0 #[.val (.ref o0), .val (.int (1 : Int32)), .val (.int (1 : Int32)), uu, uu, uu, uu] [] := by first | (simp [entryFrame, mkF, argsToLocals, Value.category]; done) | rfl
def Q_rm_keepB1_1 (Z : State) (o0 : Addr) (sa : Addr) (ka : ClassId) (nx : Addr) (kx : ClassId) (va : Addr) (kv : ClassId) (v0 : Int64) (v1 : Int64) (h0 : Heap) (n0 : Nat) (v : Option Value) (h : Heap) (L : List Loc) : Prop := v = some (.int (2 : Int32)) ∧ Fr n0 L ∧ Keep h0 h [va, sa] ∧ Arv Z h sa ka .int (3 : Int32) [(.int (0 : Int32)), (.int (1 : Int32)), (.int (2 : Int32))] (.int (0 : Int32)) ∧ Arv Z h va kv .long (2 : Int32) [(.long v0), (.long v1)] (.long (0 : Int64))
set_option maxRecDepth 65536 in
set_option maxHeartbeats 40000000 in
theorem rm_keepB1_1 (l : Launch) (Z : State) (a0 : Array Value) (hw : ∀ d ∈ tables_1, d.before a0 Z = true) (ws : List Jvm.Cond) (o0 : Addr) (sa : Addr) (ka : ClassId) (nx : Addr) (kx : ClassId) (va : Addr) (kv : ClassId) (v0 : Int64) (v1 : Int64) (h0 : Heap) (n0 : Nat) (Z0 : n0 ≤ h0.size) (F_start_o0 : Fld Z h0 o0 "com/example/graphkind/graphkind/Statements$Builder" "start" "[I" (.ref sa)) (F_next_o0 : Fld Z h0 o0 "com/example/graphkind/graphkind/Statements$Builder" "next" "[I" (.ref nx)) (V_sa : Arv Z h0 sa ka .int (3 : Int32) [(.int (0 : Int32)), (.int (1 : Int32)), (.int (2 : Int32))] (.int (0 : Int32))) (V_nx : Arv Z h0 nx kx .int (2 : Int32) [(.int (1 : Int32)), (.int (2 : Int32))] (.int (0 : Int32))) (g_sa : n0 ≤ sa) (F_values_o0 : Fld Z h0 o0 "com/example/graphkind/graphkind/Statements$Builder" "values" "[J" (.ref va)) (V_va : Arv Z h0 va kv .long (2 : Int32) [(.long v0), (.long v1)] (.long (0 : Int64))) (g_va : n0 ≤ va) (ne_o0_sa : o0 ≠ sa) (ne_o0_nx : o0 ≠ nx) (ne_o0_va : o0 ≠ va) (ne_sa_nx : sa ≠ nx) (ne_sa_va : sa ≠ va) (ne_nx_va : nx ≠ va) :
    MetFree l yN16 (head1 (Jvm.Cond.code yN16 prog_10_method_6_code 7 (some .int) :: ws) ({ frames := 0, cells := 0, slots := 0, locals := 0 } : Room)) (fun a U => a = #[(.ref o0), (.int (1 : Int32)), (.int (1 : Int32))] ∧ Z.Warmed39 U.vm ∧ U.heap = h0) (fun _ _ _ _ _ => True) (fun _ U o U' => ∃ v L, o = .returned v ∧ Q_rm_keepB1_1 Z o0 sa ka nx kx va kv v0 v1 h0 n0 v U'.heap L ∧ FrameEnd U o U' L ({ frames := 0, cells := 0, slots := 0, locals := 0 } : Room).cells ({ frames := 0, cells := 0, slots := 0, locals := 0 } : Room).slots) := by
  refine MetFree.of_bodySF (plainFor_of_name pn_rm_keepB1_1) hisR ?_
  intro p e s m args below meth c s₁ Bd hml0 hP hK
  obtain ⟨rfl, hZ, hh⟩ := hP
  have hx := Bd.exec
  have hby := Bd.bytes
  have hml : c.maxLocals = 7 := hml0
  have hown : s.vm.findClass "com/example/graphkind/graphkind/Statements$Builder" = some m.cls := findClass_of_methodNamed Bd.named
  have hnm := (name_of_methodNamed Bd.named Bd.method).1
  have X0 : Stand p l e ({ frames := 0, cells := 0, slots := 0, locals := 0 } : Room) s m #[(.ref o0), (.int (1 : Int32)), (.int (1 : Int32))] below meth c s₁ [] 0 0 := Stand.of_body Bd
  have e0 : s₁.heap = h0 := by rw [← hh, Bd.state]; rfl
  have N0 := Fr.nil n0
  have K0 := Keep.refl h0 [va, sa]
  have go0 : Go p e below (s₁.setTop (entryFrame m #[(.ref o0), (.int (1 : Int32)), (.int (1 : Int32))] 7)) (s₁.setTop (mkF m 0 #[vR o0, vI i1, vI i1, uu, uu, uu, uu] [])) := fun t k => castTop (ef_rm_keepB1_1 m o0) k
  have go1 := go0.st s₁ (mkF m 1 #[vR o0, vI i1, vI i1, uu, uu, uu, uu] [sR o0]) (fun t k => by
    refine XS.aloadN X0.here hx rfl (hb hby d12_0) rfl rfl ?_
    exact k)
  obtain ⟨T2, X2, e2, st2⟩ := getF X0 hx hZ hown (host := "") (Or.inl (wD hw 37 rfl)) Via.refl e0 F_start_o0 (g := (mkF m 1 #[vR o0, vI i1, vI i1, uu, uu, uu, uu] [sR o0])) rfl rfl (hb hby d12_1)
  have go3 := go1.st T2 (mkF m 5 #[vR o0, vI i1, vI i1, uu, uu, uu, uu] [sI i1, sR sa]) (fun t k => by
    refine st2 _ ?_
    show SP p e below T2 (mkF m 4 #[vR o0, vI i1, vI i1, uu, uu, uu, uu] [sR sa]) _
    refine XS.iloadN X2.here hx rfl (hb hby d12_4) rfl ?_
    exact k)
  have Vo4 := V_sa
  obtain ⟨cl4, Ar4, qa4, Sa4, Na4, Ha4, Ga4⟩ := Vo4
  have hin4 := inb_of (j := (1 : Int32)) Sa4 ⟨by decide, by decide⟩
  have hat4 : cl4.slots[((1 : Int32)).toNatClampNeg]? = some (.int (1 : Int32)) := Has.at Ha4 hin4 rfl
  have go5 := go3.st T2 (mkF m 8 #[vR o0, vI i1, vI i1, vI i1, uu, uu, uu] [sR o0]) (fun t k => by
    refine X2.iaload hx (j := (1 : Int32)) (v := (.int (1 : Int32))) (by rw [e2]; exact Ar4.1) (State.isArrayOf_alike hZ.alike Ar4.2.1) Ar4.2.2 hin4 hat4 (g := (mkF m 5 #[vR o0, vI i1, vI i1, uu, uu, uu, uu] [sI i1, sR sa])) rfl rfl (hb hby d12_5) _ ?_
    refine XS.istoreN X2.here hx rfl (hb hby d12_6) rfl (l' := #[vR o0, vI i1, vI i1, vI i1, uu, uu, uu]) rfl ?_
    refine XS.aloadN X2.here hx rfl (hb hby d12_7) rfl rfl ?_
    exact k)
  obtain ⟨T6, X6, e6, st6⟩ := getF X2 hx hZ hown (host := "") (Or.inl (wD hw 66 rfl)) Via.refl e2 F_next_o0 (g := (mkF m 8 #[vR o0, vI i1, vI i1, vI i1, uu, uu, uu] [sR o0])) rfl rfl (hb hby d12_8)
  have go7 := go5.st T6 (mkF m 12 #[vR o0, vI i1, vI i1, vI i1, uu, uu, uu] [sI i1, sR nx]) (fun t k => by
    refine st6 _ ?_
    show SP p e below T6 (mkF m 11 #[vR o0, vI i1, vI i1, vI i1, uu, uu, uu] [sR nx]) _
    refine XS.iloadN X6.here hx rfl (hb hby d12_11) rfl ?_
    exact k)
  have Vo8 := V_nx
  obtain ⟨cl8, Ar8, qa8, Sa8, Na8, Ha8, Ga8⟩ := Vo8
  have hin8 := inb_of (j := (1 : Int32)) Sa8 ⟨by decide, by decide⟩
  have hat8 : cl8.slots[((1 : Int32)).toNatClampNeg]? = some (.int (2 : Int32)) := Has.at Ha8 hin8 rfl
  have go10 := go7.st T6 (mkF m 37 #[vR o0, vI i1, vI i1, vI i1, vI i2, vI i1, uu] [sR o0]) (fun t k => by
    refine X6.iaload hx (j := (1 : Int32)) (v := (.int (2 : Int32))) (by rw [e6]; exact Ar8.1) (State.isArrayOf_alike hZ.alike Ar8.2.1) Ar8.2.2 hin8 hat8 (g := (mkF m 12 #[vR o0, vI i1, vI i1, vI i1, uu, uu, uu] [sI i1, sR nx])) rfl rfl (hb hby d12_12) _ ?_
    refine XS.istore X6.here hx rfl (hb hby d12_13) rfl (l' := #[vR o0, vI i1, vI i1, vI i1, vI i2, uu, uu]) rfl ?_
    refine XS.iload X6.here hx rfl (hb hby d12_15) rfl ?_
    refine XS.iloadN X6.here hx rfl (hb hby d12_17) rfl ?_
    refine XS.isub X6.here hx rfl (hb hby d12_18) rfl ?_
    refine XS.iconst X6.here hx rfl (hb hby d12_19) ?_
    refine XS.icmpYes X6.here hx rfl (pc0 := 20) (pc' := 33) rfl (hb hby d12_20) rfl (flt ((by decide) : ¬ ((1 : Int32) < (1 : Int32)))).2.2.2 (by decide) (by decide) ?_
    refine XS.iloadN X6.here hx rfl (hb hby d12_33) rfl ?_
    show SP p e below T6 (mkF m 34 #[vR o0, vI i1, vI i1, vI i1, vI i2, uu, uu] [sI i1]) _
    refine XS.istore X6.here hx rfl (hb hby d12_34) rfl (l' := #[vR o0, vI i1, vI i1, vI i1, vI i2, vI i1, uu]) rfl ?_
    refine XS.aloadN X6.here hx rfl (hb hby d12_36) rfl rfl ?_
    exact k)
  obtain ⟨T11, X11, e11, st11⟩ := getF X6 hx hZ hown (host := "") (Or.inl (wD hw 37 rfl)) Via.refl e6 F_start_o0 (g := (mkF m 37 #[vR o0, vI i1, vI i1, vI i1, vI i2, vI i1, uu] [sR o0])) rfl rfl (hb hby d12_37)
  have go12 := go10.st T11 (mkF m 43 #[vR o0, vI i1, vI i1, vI i1, vI i2, vI i1, uu] [sI i1, sI i1, sR sa]) (fun t k => by
    refine st11 _ ?_
    show SP p e below T11 (mkF m 40 #[vR o0, vI i1, vI i1, vI i1, vI i2, vI i1, uu] [sR sa]) _
    refine XS.iloadN X11.here hx rfl (hb hby d12_40) rfl ?_
    refine XS.iload X11.here hx rfl (hb hby d12_41) rfl ?_
    exact k)
  have Vo13 := V_sa
  obtain ⟨cl13, Ar13, qa13, Sa13, Na13, Ha13, Ga13⟩ := Vo13
  have hin13 := inb_of (j := (1 : Int32)) Sa13 ⟨by decide, by decide⟩
  obtain ⟨T14, h14, X14, e14, W14, st14⟩ := stI X11 hx hZ e11 Ar13 (j := (1 : Int32)) hin13 (g := (mkF m 43 #[vR o0, vI i1, vI i1, vI i1, vI i2, vI i1, uu] [sI i1, sI i1, sR sa])) rfl rfl (hb hby d12_43)
  have V14 : Arv Z h14 sa ka .int (3 : Int32) [(.int (0 : Int32)), (.int (1 : Int32)), (.int (2 : Int32))] (.int (0 : Int32)) := Arv.set Ar13 qa13 Sa13 Na13 Ha13 Ga13 rfl W14 1 rfl (Nat.le_of_ble_eq_true rfl)
  have f15 := Fld.other W14 F_start_o0 (Or.inl ne_o0_sa)
  have f16 := Fld.other W14 F_next_o0 (Or.inl ne_o0_sa)
  have f18 := Arv.other V_nx W14 (Ne.symm ne_sa_nx)
  have f19 := Fld.other W14 F_values_o0 (Or.inl ne_o0_sa)
  have f20 := Arv.other V_va W14 (Ne.symm ne_sa_va)
  have Z14 : n0 ≤ h14.size := Nat.le_trans Z0 (Nat.le_of_eq W14.size.symm)
  have K14 := K0.wr W14 (Or.inl (List.mem_of_getElem? (i := 1) rfl))
  have N14 := Fr.snoc X14 N0 g_sa
  have go23 := go12.st T14 (mkF m 107 #[vR o0, vI i1, vI i1, vI i1, vI i2, vI i1, vI i1] [sR o0]) (fun t k => by
    refine st14 _ ?_
    show SP p e below T14 (mkF m 44 #[vR o0, vI i1, vI i1, vI i1, vI i2, vI i1, uu] []) _
    refine XS.iloadN X14.here hx rfl (hb hby d12_44) rfl ?_
    refine XS.istore X14.here hx rfl (hb hby d12_45) rfl (l' := #[vR o0, vI i1, vI i1, vI i1, vI i2, vI i1, vI i1]) rfl ?_
    refine XS.iload X14.here hx rfl (hb hby d12_47) rfl ?_
    refine XS.iload X14.here hx rfl (hb hby d12_49) rfl ?_
    refine XS.icmpNo X14.here hx rfl (hb hby d12_51) rfl (tlt ((by decide) : (1 : Int32) < (2 : Int32))).2.1 ?_
    refine XS.iload X14.here hx rfl (hb hby d12_54) rfl ?_
    refine XS.iloadN X14.here hx rfl (hb hby d12_56) rfl ?_
    refine XS.icmpYes X14.here hx rfl (pc0 := 57) (pc' := 106) rfl (hb hby d12_57) rfl (flt ((by decide) : ¬ ((1 : Int32) < (1 : Int32)))).2.2.2 (by decide) (by decide) ?_
    refine XS.aloadN X14.here hx rfl (hb hby d12_106) rfl rfl ?_
    exact k)
  obtain ⟨T24, X24, e24, st24⟩ := getF X14 hx hZ hown (host := "") (Or.inl (wD hw 69 rfl)) Via.refl e14 f19 (g := (mkF m 107 #[vR o0, vI i1, vI i1, vI i1, vI i2, vI i1, vI i1] [sR o0])) rfl rfl (hb hby d12_107)
  have go25 := go23.st T24 (mkF m 116 #[vR o0, vI i1, vI i1, vI i1, vI i2, vI i2, vI i1] [sR o0, sI i1, sR va]) (fun t k => by
    refine st24 _ ?_
    show SP p e below T24 (mkF m 110 #[vR o0, vI i1, vI i1, vI i1, vI i2, vI i1, vI i1] [sR va]) _
    refine XS.iload X24.here hx rfl (hb hby d12_110) rfl ?_
    refine XS.iinc X24.here hx rfl (hb hby d12_112) rfl (l' := #[vR o0, vI i1, vI i1, vI i1, vI i2, vI i2, vI i1]) rfl ?_
    refine XS.aloadN X24.here hx rfl (hb hby d12_115) rfl rfl ?_
    exact k)
  obtain ⟨T26, X26, e26, st26⟩ := getF X24 hx hZ hown (host := "") (Or.inl (wD hw 69 rfl)) Via.refl e24 f19 (g := (mkF m 116 #[vR o0, vI i1, vI i1, vI i1, vI i2, vI i2, vI i1] [sR o0, sI i1, sR va])) rfl rfl (hb hby d12_116)
  have go27 := go25.st T26 (mkF m 121 #[vR o0, vI i1, vI i1, vI i1, vI i2, vI i2, vI i1] [sI i1, sR va, sI i1, sR va]) (fun t k => by
    refine st26 _ ?_
    show SP p e below T26 (mkF m 119 #[vR o0, vI i1, vI i1, vI i1, vI i2, vI i2, vI i1] [sR va, sI i1, sR va]) _
    refine XS.iload X26.here hx rfl (hb hby d12_119) rfl ?_
    exact k)
  have Vo28 := f20
  obtain ⟨cl28, Ar28, qa28, Sa28, Na28, Ha28, Ga28⟩ := Vo28
  have hin28 := inb_of (j := (1 : Int32)) Sa28 ⟨by decide, by decide⟩
  have hat28 : cl28.slots[((1 : Int32)).toNatClampNeg]? = some (.long v1) := Has.at Ha28 hin28 rfl
  have go29 := go27.st T26 (mkF m 122 #[vR o0, vI i1, vI i1, vI i1, vI i2, vI i2, vI i1] [sJ v1, sI i1, sR va]) (fun t k => by
    refine X26.laload hx (j := (1 : Int32)) (v := (.long v1)) (by rw [e26]; exact Ar28.1) (State.isArrayOf_alike hZ.alike Ar28.2.1) Ar28.2.2 hin28 hat28 (g := (mkF m 121 #[vR o0, vI i1, vI i1, vI i1, vI i2, vI i2, vI i1] [sI i1, sR va, sI i1, sR va])) rfl rfl (hb hby d12_121) _ ?_
    exact k)
  have Vo30 := f20
  obtain ⟨cl30, Ar30, qa30, Sa30, Na30, Ha30, Ga30⟩ := Vo30
  have hin30 := inb_of (j := (1 : Int32)) Sa30 ⟨by decide, by decide⟩
  obtain ⟨T31, h31, X31, e31, W31, st31⟩ := stJ X26 hx hZ e26 Ar30 (j := (1 : Int32)) hin30 (g := (mkF m 122 #[vR o0, vI i1, vI i1, vI i1, vI i2, vI i2, vI i1] [sJ v1, sI i1, sR va])) rfl rfl (hb hby d12_122)
  have V31 : Arv Z h31 va kv .long (2 : Int32) [(.long v0), (.long v1)] (.long (0 : Int64)) := Arv.set Ar30 qa30 Sa30 Na30 Ha30 Ga30 rfl W31 1 rfl (Nat.le_of_ble_eq_true rfl)
  have f32 := Fld.other W31 f15 (Or.inl ne_o0_va)
  have f33 := Fld.other W31 f16 (Or.inl ne_o0_va)
  have f34 := Arv.other f18 W31 ne_nx_va
  have f35 := Fld.other W31 f19 (Or.inl ne_o0_va)
  have f37 := Arv.other V14 W31 ne_sa_va
  have Z31 : n0 ≤ h31.size := Nat.le_trans Z14 (Nat.le_of_eq W31.size.symm)
  have K31 := K14.wr W31 (Or.inl (List.mem_of_getElem? (i := 0) rfl))
  have N31 := Fr.snoc X31 N14 g_va
  have go39 := go29.st T31 (mkF m 131 #[vR o0, vI i1, vI i1, vI i1, vI i2, vI i2, vI i2] [sI i2]) (fun t k => by
    refine st31 _ ?_
    show SP p e below T31 (mkF m 123 #[vR o0, vI i1, vI i1, vI i1, vI i2, vI i2, vI i1] []) _
    refine XS.iinc X31.here hx rfl (hb hby d12_123) rfl (l' := #[vR o0, vI i1, vI i1, vI i1, vI i2, vI i2, vI i2]) rfl ?_
    refine XS.goto X31.here hx rfl (pc0 := 126) (pc' := 47) rfl (hb hby d12_126) (by decide) (by decide) ?_
    refine XS.iload X31.here hx rfl (hb hby d12_47) rfl ?_
    refine XS.iload X31.here hx rfl (hb hby d12_49) rfl ?_
    refine XS.icmpYes X31.here hx rfl (pc0 := 51) (pc' := 129) rfl (hb hby d12_51) rfl (flt ((by decide) : ¬ ((2 : Int32) < (2 : Int32)))).2.1 (by decide) (by decide) ?_
    refine XS.iload X31.here hx rfl (hb hby d12_129) rfl ?_
    exact k)
  obtain ⟨fs, hr, hrun, hended, hW, hsame⟩ := X31.leave (v := some (.int (2 : Int32))) (fun h => by rw [Bd.returns] at h; cases h)
  refine ⟨_, _, go39 _ ?_, hrun, hended, _, _, rfl, ?_, ⟨_, rfl⟩, hW, hsame.mono (by decide) (by decide)⟩
  · exact own_retI X31 hx Bd.returns (hb hby d12_131) hr
  · show Q_rm_keepB1_1 Z o0 sa ka nx kx va kv v0 v1 h0 n0 _ T31.heap _
    rw [e31]
    exact ⟨rfl, N31, K31, f37, V31⟩
theorem pn_rm_buildB : plainName "com/example/graphkind/graphkind/Statements$Builder" = true := by first | (simp [plainName, overriddenIn]; done) | decide +kernel
theorem pd_rm_buildB_0 : parseMethodDescriptor "(II)I" = some ⟨[.int, .int], some .int⟩ := by decide +kernel
theorem pd_rm_buildB_1 : parseMethodDescriptor "([I[J)V" = some ⟨[(.array .int), (.array .long)], none⟩ := by decide +kernel
theorem ef_rm_buildB (m : MethodId) (o0 : Addr) : entryFrame m #[(.ref o0)] 3 = mkF m 0 #[.val (.ref o0), uu, uu] [] := by first | (simp [entryFrame, mkF, argsToLocals, Value.category]; done) | rfl
def Q_rm_buildB (Z : State) (o0 : Addr) (sa : Addr) (ka : ClassId) (nx : Addr) (kx : ClassId) (va : Addr) (kv : ClassId) (v0 : Int64) (v1 : Int64) (h0 : Heap) (n0 : Nat) (v : Option Value) (h : Heap) (L : List Loc) : Prop := ∃ b : Addr, v = some (.ref b) ∧ Fr n0 L ∧ Keep h0 h [va, sa, o0] ∧ n0 ≤ b ∧ h0.size ≤ b ∧ Exa Z h b "com/example/graphkind/graphkind/Statements" ∧ Fld Z h b "com/example/graphkind/graphkind/Statements" "start" "[I" (.ref sa) ∧ Fld Z h b "com/example/graphkind/graphkind/Statements" "values" "[J" (.ref va) ∧ Arv Z h sa ka .int (3 : Int32) [(.int (0 : Int32)), (.int (1 : Int32)), (.int (2 : Int32))] (.int (0 : Int32)) ∧ Arv Z h va kv .long (2 : Int32) [(.long v0), (.long v1)] (.long (0 : Int64))
set_option maxRecDepth 65536 in
set_option maxHeartbeats 40000000 in
theorem rm_buildB (l : Launch) (Z : State) (a0 : Array Value) (hw : ∀ d ∈ tables_1, d.before a0 Z = true) (ws : List Jvm.Cond) (o0 : Addr) (sa : Addr) (ka : ClassId) (nx : Addr) (kx : ClassId) (va : Addr) (kv : ClassId) (v0 : Int64) (v1 : Int64) (h0 : Heap) (n0 : Nat) (Z0 : n0 ≤ h0.size) (E_o0 : Exa Z h0 o0 "com/example/graphkind/graphkind/Statements$Builder") (F_terms_o0 : Fld Z h0 o0 "com/example/graphkind/graphkind/Statements$Builder" "terms" "I" (.int (2 : Int32))) (F_start_o0 : Fld Z h0 o0 "com/example/graphkind/graphkind/Statements$Builder" "start" "[I" (.ref sa)) (F_next_o0 : Fld Z h0 o0 "com/example/graphkind/graphkind/Statements$Builder" "next" "[I" (.ref nx)) (F_values_o0 : Fld Z h0 o0 "com/example/graphkind/graphkind/Statements$Builder" "values" "[J" (.ref va)) (V_sa : Arv Z h0 sa ka .int (3 : Int32) [(.int (0 : Int32)), (.int (1 : Int32)), (.int (2 : Int32))] (.int (0 : Int32))) (V_nx : Arv Z h0 nx kx .int (2 : Int32) [(.int (1 : Int32)), (.int (2 : Int32))] (.int (0 : Int32))) (V_va : Arv Z h0 va kv .long (2 : Int32) [(.long v0), (.long v1)] (.long (0 : Int64))) (g_sa : n0 ≤ sa) (g_va : n0 ≤ va) (g_o0 : n0 ≤ o0) (ne_o0_sa : o0 ≠ sa) (ne_o0_nx : o0 ≠ nx) (ne_o0_va : o0 ≠ va) (ne_sa_nx : sa ≠ nx) (ne_sa_va : sa ≠ va) (ne_nx_va : nx ≠ va) :
    MetFree l yN17 (head1 (Jvm.Cond.code yN17 prog_10_method_5_code 3 (some (.object "com/example/graphkind/graphkind/Statements")) :: ws) ({ frames := 2, cells := 1, slots := 2, locals := 27 } : Room)) (fun a U => a = #[(.ref o0)] ∧ Z.Warmed39 U.vm ∧ U.heap = h0) (fun _ _ _ _ _ => True) (fun _ U o U' => ∃ v L, o = .returned v ∧ Q_rm_buildB Z o0 sa ka nx kx va kv v0 v1 h0 n0 v U'.heap L ∧ FrameEnd U o U' L ({ frames := 2, cells := 1, slots := 2, locals := 27 } : Room).cells ({ frames := 2, cells := 1, slots := 2, locals := 27 } : Room).slots) := by
  refine MetFree.of_bodySF (plainFor_of_name pn_rm_buildB) hisR ?_
  intro p e s m args below meth c s₁ Bd hml0 hP hK
  obtain ⟨rfl, hZ, hh⟩ := hP
  have hx := Bd.exec
  have hby := Bd.bytes
  have hml : c.maxLocals = 3 := hml0
  have hown : s.vm.findClass "com/example/graphkind/graphkind/Statements$Builder" = some m.cls := findClass_of_methodNamed Bd.named
  have hnm := (name_of_methodNamed Bd.named Bd.method).1
  have X0 : Stand p l e ({ frames := 2, cells := 1, slots := 2, locals := 27 } : Room) s m #[(.ref o0)] below meth c s₁ [] 0 0 := Stand.of_body Bd
  have e0 : s₁.heap = h0 := by rw [← hh, Bd.state]; rfl
  have N0 := Fr.nil n0
  have K0 := Keep.refl h0 [va, sa, o0]
  have go0 : Go p e below (s₁.setTop (entryFrame m #[(.ref o0)] 3)) (s₁.setTop (mkF m 0 #[vR o0, uu, uu] [])) := fun t k => castTop (ef_rm_buildB m o0) k
  have go1 := go0.st s₁ (mkF m 6 #[vR o0, vI i0, vI i0] [sR o0, sI i0]) (fun t k => by
    refine XS.iconst X0.here hx rfl (hb hby d11_0) ?_
    refine XS.istoreN X0.here hx rfl (hb hby d11_1) rfl (l' := #[vR o0, vI i0, uu]) rfl ?_
    refine XS.iconst X0.here hx rfl (hb hby d11_2) ?_
    refine XS.istoreN X0.here hx rfl (hb hby d11_3) rfl (l' := #[vR o0, vI i0, vI i0]) rfl ?_
    refine XS.iloadN X0.here hx rfl (hb hby d11_4) rfl ?_
    refine XS.aloadN X0.here hx rfl (hb hby d11_5) rfl rfl ?_
    exact k)
  obtain ⟨T2, X2, e2, st2⟩ := getF X0 hx hZ hown (host := "") (Or.inl (wD hw 35 rfl)) Via.refl e0 F_terms_o0 (g := (mkF m 6 #[vR o0, vI i0, vI i0] [sR o0, sI i0])) rfl rfl (hb hby d11_6)
  have go4 := go1.st T2 (mkF m 15 #[vR o0, vI i0, vI i0] [sI i0, sI i0, sR o0]) (fun t k => by
    refine st2 _ ?_
    show SP p e below T2 (mkF m 9 #[vR o0, vI i0, vI i0] [sI i2, sI i0]) _
    refine XS.icmpNo X2.here hx rfl (hb hby d11_9) rfl (tlt ((by decide) : (0 : Int32) < (2 : Int32))).2.1 ?_
    refine XS.aloadN X2.here hx rfl (hb hby d11_12) rfl rfl ?_
    refine XS.iloadN X2.here hx rfl (hb hby d11_13) rfl ?_
    refine XS.iloadN X2.here hx rfl (hb hby d11_14) rfl ?_
    exact k)
  obtain ⟨cq5, q5, q5'⟩ := E_o0.cell
  obtain ⟨_, _, ⟨T5, L5, k5, n5⟩, -, X5, ⟨Lc5, hQ5, l5, y5, z5⟩, st5⟩ := X2.privateBack hx (y := yN16) hown (mvT hZ (wD hw 81 rfl)) (mvT hZ (wD hw 82 rfl)) (mvT hZ (own_selpriv (y := yN16) (by decide) (wD hw 29 rfl) (wD hw 83 rfl) (wD hw 82 rfl))) (Cond.privateMethod_at (mvP hZ (wD hw 83 rfl) (args := #[]))) (mvT hZ (wD hw 84 rfl)) (by decide) (backOf (W := 0) (rm_keepB0_0 l Z a0 hw [] o0 sa ka nx kx va kv v0 v1 h0 n0 Z0 F_start_o0 F_next_o0 V_sa V_nx g_sa F_values_o0 V_va g_va ne_o0_sa ne_o0_nx ne_o0_va ne_sa_nx ne_sa_va ne_nx_va) hZ (wD hw 84 rfl) (wD hw 30 rfl) (by decide) (by decide)) (g := (mkF m 15 #[vR o0, vI i0, vI i0] [sI i0, sI i0, sR o0])) rfl (by rw [hml]; rfl) (Steps.refl _) (a := o0) (by rw [e2]; exact q5) q5' (argsL := [(.int (0 : Int32)), (.int (0 : Int32))]) (rest := []) (lenOf pd_rm_buildB_0 rfl) rfl (by show 2 * 0 + _ ≤ _; exact Nat.le_of_eq rfl) (hb hby d11_15) (fun _ _ => ⟨rfl, e2, (by decide : 0 + 0 ≤ _), (by decide : 0 + 0 ≤ _)⟩)
  dsimp only [Pt.U, Pt.locs, Pt.cells, Pt.slots] at X5 l5 y5 z5 st5 hQ5
  rw [l5, y5, z5] at X5
  obtain ⟨rfl, N5q, K5, qp5_0, qp5_1⟩ := hQ5
  have N5 := Fr.app N0 N5q
  have f6 := E_o0.keep K5
  have f7 := F_terms_o0.keep K5 (ninS ne_o0_va (ninS ne_o0_sa nin0))
  have f8 := F_start_o0.keep K5 (ninS ne_o0_va (ninS ne_o0_sa nin0))
  have f9 := F_next_o0.keep K5 (ninS ne_o0_va (ninS ne_o0_sa nin0))
  have f10 := F_values_o0.keep K5 (ninS ne_o0_va (ninS ne_o0_sa nin0))
  have f12 := V_nx.keep K5 (ninS ne_nx_va (ninS (Ne.symm ne_sa_nx) nin0))
  have Z5 : n0 ≤ T5.heap.size := Nat.le_trans Z0 K5.1
  have KK5 := K0.trans K5 (allS (Or.inl (List.mem_of_getElem? (i := 0) rfl)) (allS (Or.inl (List.mem_of_getElem? (i := 1) rfl)) all0))
  have go14 := go4.st T5 (mkF m 6 #[vR o0, vI i1, vI i1] [sR o0, sI i1]) (fun t k => by
    refine st5.trans ?_
    show SP p e below T5 (mkF m 18 #[vR o0, vI i0, vI i0] [sI i1]) _
    refine XS.istoreN X5.here hx rfl (hb hby d11_18) rfl (l' := #[vR o0, vI i1, vI i0]) rfl ?_
    refine XS.iinc X5.here hx rfl (hb hby d11_19) rfl (l' := #[vR o0, vI i1, vI i1]) rfl ?_
    refine XS.goto X5.here hx rfl (pc0 := 22) (pc' := 4) rfl (hb hby d11_22) (by decide) (by decide) ?_
    refine XS.iloadN X5.here hx rfl (hb hby d11_4) rfl ?_
    refine XS.aloadN X5.here hx rfl (hb hby d11_5) rfl rfl ?_
    exact k)
  obtain ⟨T15, X15, e15, st15⟩ := getF X5 hx hZ hown (host := "") (Or.inl (wD hw 35 rfl)) Via.refl rfl f7 (g := (mkF m 6 #[vR o0, vI i1, vI i1] [sR o0, sI i1])) rfl rfl (hb hby d11_6)
  have go17 := go14.st T15 (mkF m 15 #[vR o0, vI i1, vI i1] [sI i1, sI i1, sR o0]) (fun t k => by
    refine st15 _ ?_
    show SP p e below T15 (mkF m 9 #[vR o0, vI i1, vI i1] [sI i2, sI i1]) _
    refine XS.icmpNo X15.here hx rfl (hb hby d11_9) rfl (tlt ((by decide) : (1 : Int32) < (2 : Int32))).2.1 ?_
    refine XS.aloadN X15.here hx rfl (hb hby d11_12) rfl rfl ?_
    refine XS.iloadN X15.here hx rfl (hb hby d11_13) rfl ?_
    refine XS.iloadN X15.here hx rfl (hb hby d11_14) rfl ?_
    exact k)
  obtain ⟨cq18, q18, q18'⟩ := f6.cell
  obtain ⟨_, _, ⟨T18, L18, k18, n18⟩, -, X18, ⟨Lc18, hQ18, l18, y18, z18⟩, st18⟩ := X15.privateBack hx (y := yN16) hown (mvT hZ (wD hw 81 rfl)) (mvT hZ (wD hw 82 rfl)) (mvT hZ (own_selpriv (y := yN16) (by decide) (wD hw 29 rfl) (wD hw 83 rfl) (wD hw 82 rfl))) (Cond.privateMethod_at (mvP hZ (wD hw 83 rfl) (args := #[]))) (mvT hZ (wD hw 84 rfl)) (by decide) (backOf (W := 0) (rm_keepB1_1 l Z a0 hw [] o0 sa ka nx kx va kv v0 v1 T5.heap n0 Z5 f8 f9 qp5_0 f12 g_sa f10 qp5_1 g_va ne_o0_sa ne_o0_nx ne_o0_va ne_sa_nx ne_sa_va ne_nx_va) hZ (wD hw 84 rfl) (wD hw 30 rfl) (by decide) (by decide)) (g := (mkF m 15 #[vR o0, vI i1, vI i1] [sI i1, sI i1, sR o0])) rfl (by rw [hml]; rfl) (Steps.refl _) (a := o0) (by rw [e15]; exact q18) q18' (argsL := [(.int (1 : Int32)), (.int (1 : Int32))]) (rest := []) (lenOf pd_rm_buildB_0 rfl) rfl (by show 2 * 0 + _ ≤ _; exact Nat.le_of_eq rfl) (hb hby d11_15) (fun _ _ => ⟨rfl, e15, (by decide : 0 + 0 ≤ _), (by decide : 0 + 0 ≤ _)⟩)
  dsimp only [Pt.U, Pt.locs, Pt.cells, Pt.slots] at X18 l18 y18 z18 st18 hQ18
  rw [l18, y18, z18] at X18
  obtain ⟨rfl, N18q, K18, qp18_0, qp18_1⟩ := hQ18
  have N18 := Fr.app N5 N18q
  have f19 := f6.keep K18
  have f20 := f7.keep K18 (ninS ne_o0_va (ninS ne_o0_sa nin0))
  have f21 := f8.keep K18 (ninS ne_o0_va (ninS ne_o0_sa nin0))
  have f22 := f9.keep K18 (ninS ne_o0_va (ninS ne_o0_sa nin0))
  have f23 := f10.keep K18 (ninS ne_o0_va (ninS ne_o0_sa nin0))
  have f24 := f12.keep K18 (ninS ne_nx_va (ninS (Ne.symm ne_sa_nx) nin0))
  have Z18 : n0 ≤ T18.heap.size := Nat.le_trans Z5 K18.1
  have KK18 := KK5.trans K18 (allS (Or.inl (List.mem_of_getElem? (i := 0) rfl)) (allS (Or.inl (List.mem_of_getElem? (i := 1) rfl)) all0))
  have go27 := go17.st T18 (mkF m 6 #[vR o0, vI i2, vI i2] [sR o0, sI i2]) (fun t k => by
    refine st18.trans ?_
    show SP p e below T18 (mkF m 18 #[vR o0, vI i1, vI i1] [sI i2]) _
    refine XS.istoreN X18.here hx rfl (hb hby d11_18) rfl (l' := #[vR o0, vI i2, vI i1]) rfl ?_
    refine XS.iinc X18.here hx rfl (hb hby d11_19) rfl (l' := #[vR o0, vI i2, vI i2]) rfl ?_
    refine XS.goto X18.here hx rfl (pc0 := 22) (pc' := 4) rfl (hb hby d11_22) (by decide) (by decide) ?_
    refine XS.iloadN X18.here hx rfl (hb hby d11_4) rfl ?_
    refine XS.aloadN X18.here hx rfl (hb hby d11_5) rfl rfl ?_
    exact k)
  obtain ⟨T28, X28, e28, st28⟩ := getF X18 hx hZ hown (host := "") (Or.inl (wD hw 35 rfl)) Via.refl rfl f20 (g := (mkF m 6 #[vR o0, vI i2, vI i2] [sR o0, sI i2])) rfl rfl (hb hby d11_6)
  have go30 := go27.st T28 (mkF m 26 #[vR o0, vI i2, vI i2] [sR o0]) (fun t k => by
    refine st28 _ ?_
    show SP p e below T28 (mkF m 9 #[vR o0, vI i2, vI i2] [sI i2, sI i2]) _
    refine XS.icmpYes X28.here hx rfl (pc0 := 9) (pc' := 25) rfl (hb hby d11_9) rfl (flt ((by decide) : ¬ ((2 : Int32) < (2 : Int32)))).2.1 (by decide) (by decide) ?_
    refine XS.aloadN X28.here hx rfl (hb hby d11_25) rfl rfl ?_
    exact k)
  obtain ⟨T31, X31, e31, st31⟩ := getF X28 hx hZ hown (host := "") (Or.inl (wD hw 37 rfl)) Via.refl e28 f21 (g := (mkF m 26 #[vR o0, vI i2, vI i2] [sR o0])) rfl rfl (hb hby d11_26)
  have go32 := go30.st T31 (mkF m 30 #[vR o0, vI i2, vI i2] [sR o0, sR sa]) (fun t k => by
    refine st31 _ ?_
    show SP p e below T31 (mkF m 29 #[vR o0, vI i2, vI i2] [sR sa]) _
    refine XS.aloadN X31.here hx rfl (hb hby d11_29) rfl rfl ?_
    exact k)
  obtain ⟨T33, X33, e33, st33⟩ := getF X31 hx hZ hown (host := "") (Or.inl (wD hw 35 rfl)) Via.refl e31 f20 (g := (mkF m 30 #[vR o0, vI i2, vI i2] [sR o0, sR sa])) rfl rfl (hb hby d11_30)
  have go34 := go32.st T33 (mkF m 34 #[vR o0, vI i2, vI i2] [sI i2, sI i2, sR sa]) (fun t k => by
    refine st33 _ ?_
    show SP p e below T33 (mkF m 33 #[vR o0, vI i2, vI i2] [sI i2, sR sa]) _
    refine XS.iloadN X33.here hx rfl (hb hby d11_33) rfl ?_
    exact k)
  have Vo35 := qp18_0
  obtain ⟨cl35, Ar35, qa35, Sa35, Na35, Ha35, Ga35⟩ := Vo35
  have hin35 := inb_of (j := (2 : Int32)) Sa35 ⟨by decide, by decide⟩
  obtain ⟨T36, h36, X36, e36, W36, st36⟩ := stI X33 hx hZ e33 Ar35 (j := (2 : Int32)) hin35 (g := (mkF m 34 #[vR o0, vI i2, vI i2] [sI i2, sI i2, sR sa])) rfl rfl (hb hby d11_34)
  have V36 : Arv Z h36 sa ka .int (3 : Int32) [(.int (0 : Int32)), (.int (1 : Int32)), (.int (2 : Int32))] (.int (0 : Int32)) := Arv.set Ar35 qa35 Sa35 Na35 Ha35 Ga35 rfl W36 2 rfl (Nat.le_of_ble_eq_true rfl)
  have f37 := f19.wr W36
  have f38 := Fld.other W36 f20 (Or.inl ne_o0_sa)
  have f39 := Fld.other W36 f21 (Or.inl ne_o0_sa)
  have f40 := Fld.other W36 f22 (Or.inl ne_o0_sa)
  have f41 := Fld.other W36 f23 (Or.inl ne_o0_sa)
  have f42 := Arv.other f24 W36 (Ne.symm ne_sa_nx)
  have f44 := Arv.other qp18_1 W36 (Ne.symm ne_sa_va)
  have Z36 : n0 ≤ h36.size := Nat.le_trans Z18 (Nat.le_of_eq W36.size.symm)
  have K36 := KK18.wr W36 (Or.inl (List.mem_of_getElem? (i := 1) rfl))
  have N36 := Fr.snoc X36 N18 g_sa
  have go45 := go34.st T36 (mkF m 37 #[vR o0, vI i2, vI i2] [.null, sR o0]) (fun t k => by
    refine st36 _ ?_
    show SP p e below T36 (mkF m 35 #[vR o0, vI i2, vI i2] []) _
    refine XS.aloadN X36.here hx rfl (hb hby d11_35) rfl rfl ?_
    refine XS.aconstNull X36.here hx rfl (hb hby d11_36) ?_
    exact k)
  obtain ⟨T46, h46, X46, e46, W46, st46⟩ := putF X36 hx hZ hown (host := "") (Or.inl (wD hw 66 rfl)) Via.refl e36 f40 f37 (Or.inl (wD hw 67 rfl)) (wD hw 29 rfl) (ty := (.array .int)) (by decide) rfl rfl (g := (mkF m 37 #[vR o0, vI i2, vI i2] [.null, sR o0])) rfl rfl (hb hby d11_37)
  have f47 := f37.wr W46
  have f48 := Fld.other W46 f38 (Or.inr (slot_ne (Or.inr (wD hw 36 rfl)) (Or.inl (wD hw 67 rfl)) (by decide) (t := .int) (t' := (.array .int)) (by decide) (by decide)))
  have f49 := Fld.other W46 f39 (Or.inr (slot_ne (Or.inr (wD hw 38 rfl)) (Or.inl (wD hw 67 rfl)) (by decide) (t := (.array .int)) (t' := (.array .int)) (by decide) (by decide)))
  have f50 := Fld.same W46 f40
  have f51 := Fld.other W46 f41 (Or.inr (slot_ne (Or.inl (wD hw 70 rfl)) (Or.inl (wD hw 67 rfl)) (by decide) (t := (.array .long)) (t' := (.array .int)) (by decide) (by decide)))
  have f52 := Arv.other f42 W46 (Ne.symm ne_o0_nx)
  have f53 := Arv.other f44 W46 (Ne.symm ne_o0_va)
  have f54 := Arv.other V36 W46 (Ne.symm ne_o0_sa)
  have Z46 : n0 ≤ h46.size := Nat.le_trans Z36 (Nat.le_of_eq W46.size.symm)
  have K46 := K36.wr W46 (Or.inl (List.mem_of_getElem? (i := 2) rfl))
  have N46 := Fr.snoc X46 N36 g_o0
  have go55 := go45.st T46 (mkF m 40 #[vR o0, vI i2, vI i2] []) (fun t k => by
    refine st46 _ ?_
    exact k)
  obtain ⟨T56, h56, X56, e56, E56, A56, D56, -, st56⟩ := newO X46 hx hZ hown (wD hw 101 rfl) (wD hw 102 rfl) (wD hw 103 rfl) e46 (g := (mkF m 40 #[vR o0, vI i2, vI i2] [])) rfl (hb hby d11_40) (by decide) (by decide)
  obtain ⟨b56, g56⟩ : ∃ z, z = h46.size := ⟨_, rfl⟩
  rw [← g56] at A56 D56 st56
  have ne_o0_b56 : o0 ≠ b56 := Nat.ne_of_lt (Nat.lt_of_lt_of_le f47.lt (Nat.le_of_eq g56.symm))
  have ne_sa_b56 : sa ≠ b56 := Nat.ne_of_lt (Nat.lt_of_lt_of_le f54.lt (Nat.le_of_eq g56.symm))
  have ne_nx_b56 : nx ≠ b56 := Nat.ne_of_lt (Nat.lt_of_lt_of_le f52.lt (Nat.le_of_eq g56.symm))
  have ne_va_b56 : va ≠ b56 := Nat.ne_of_lt (Nat.lt_of_lt_of_le f53.lt (Nat.le_of_eq g56.symm))
  have g_b56 : n0 ≤ b56 := Nat.le_trans Z46 (Nat.le_of_eq g56.symm)
  have sz_b56 : h0.size ≤ b56 := Nat.le_trans K46.1 (Nat.le_of_eq g56.symm)
  have f57 := f47.ext E56
  have f58 := f48.ext E56
  have f59 := f49.ext E56
  have f60 := f50.ext E56
  have f61 := f51.ext E56
  have f62 := f52.ext E56
  have f63 := f53.ext E56
  have f64 := f54.ext E56
  have F56_start : Fld Z h56 b56 "com/example/graphkind/graphkind/Statements" "start" "[I" .null := D56 (Or.inr (wD hw 109 rfl)) (ty := (.array .int)) (by decide)
  have F56_values : Fld Z h56 b56 "com/example/graphkind/graphkind/Statements" "values" "[J" .null := D56 (Or.inr (wD hw 111 rfl)) (ty := (.array .long)) (by decide)
  have Z56 : n0 ≤ h56.size := Nat.le_trans Z46 E56.1
  have K56 := K46.ext E56
  have go65 := go55.st T56 (mkF m 45 #[vR o0, vI i2, vI i2] [sR o0, sR b56, sR b56]) (fun t k => by
    refine st56 _ ?_
    show SP p e below T56 (mkF m 43 #[vR o0, vI i2, vI i2] [sR b56]) _
    refine XS.dup X56.here hx rfl (hb hby d11_43) rfl rfl ?_
    refine XS.aloadN X56.here hx rfl (hb hby d11_44) rfl rfl ?_
    exact k)
  obtain ⟨T66, X66, e66, st66⟩ := getF X56 hx hZ hown (host := "") (Or.inl (wD hw 37 rfl)) Via.refl e56 f59 (g := (mkF m 45 #[vR o0, vI i2, vI i2] [sR o0, sR b56, sR b56])) rfl rfl (hb hby d11_45)
  have go67 := go65.st T66 (mkF m 50 #[vR o0, vI i2, vI i2] [sR o0, sI i2, sR sa, sR b56, sR b56]) (fun t k => by
    refine st66 _ ?_
    show SP p e below T66 (mkF m 48 #[vR o0, vI i2, vI i2] [sR sa, sR b56, sR b56]) _
    refine XS.iloadN X66.here hx rfl (hb hby d11_48) rfl ?_
    refine XS.aloadN X66.here hx rfl (hb hby d11_49) rfl rfl ?_
    exact k)
  obtain ⟨T68, X68, e68, st68⟩ := getF X66 hx hZ hown (host := "") (Or.inl (wD hw 69 rfl)) Via.refl e66 f61 (g := (mkF m 50 #[vR o0, vI i2, vI i2] [sR o0, sI i2, sR sa, sR b56, sR b56])) rfl rfl (hb hby d11_50)
  have go69 := go67.st T68 (mkF m 53 #[vR o0, vI i2, vI i2] [sR va, sI i2, sR sa, sR b56, sR b56]) (fun t k => by
    refine st68 _ ?_
    exact k)
  have Vo70 := f63
  obtain ⟨cl70, Ar70, qa70, Sa70, Na70, Ha70, Ga70⟩ := Vo70
  have go72 := go69.st T68 (mkF m 58 #[vR o0, vI i2, vI i2] [sR o0, sR sa, sR b56, sR b56]) (fun t k => by
    refine X68.arraylength hx (by rw [e68]; exact Ar70.1) (State.isArrayOf_alike hZ.alike Ar70.2.1) (g := (mkF m 53 #[vR o0, vI i2, vI i2] [sR va, sI i2, sR sa, sR b56, sR b56])) rfl rfl (hb hby d11_53) _ ?_
    rw [len_of Sa70 Na70]
    refine XS.icmpNo X68.here hx rfl (hb hby d11_54) rfl (teq ((by decide) : (2 : Int32) = (2 : Int32))).2 ?_
    refine XS.aloadN X68.here hx rfl (hb hby d11_57) rfl rfl ?_
    exact k)
  obtain ⟨T73, X73, e73, st73⟩ := getF X68 hx hZ hown (host := "") (Or.inl (wD hw 69 rfl)) Via.refl e68 f61 (g := (mkF m 58 #[vR o0, vI i2, vI i2] [sR o0, sR sa, sR b56, sR b56])) rfl rfl (hb hby d11_58)
  have go74 := go72.st T73 (mkF m 72 #[vR o0, vI i2, vI i2] [sR va, sR sa, sR b56, sR b56]) (fun t k => by
    refine st73 _ ?_
    show SP p e below T73 (mkF m 61 #[vR o0, vI i2, vI i2] [sR va, sR sa, sR b56, sR b56]) _
    refine XS.goto X73.here hx rfl (pc0 := 61) (pc' := 72) rfl (hb hby d11_61) (by decide) (by decide) ?_
    exact k)
  obtain ⟨_, _, ⟨T75, L75, k75, n75⟩, -, X75, ⟨Lc75, hQ75, l75, y75, z75⟩, st75⟩ := X73.specialBackNest hx (y := yN15) rfl hown (own_mvM hZ (wD hw 104 rfl)) (mvT hZ (wD hw 105 rfl)) (mvT hZ (wD hw 106 rfl)) (by decide) (backOf (W := 1) (rm_sinit l Z a0 hw [] b56 sa va h56 n0 Z56 A56 g_b56 F56_start F56_values) hZ (wD hw 106 rfl) (wD hw 103 rfl) (by decide) (by decide)) (g := (mkF m 72 #[vR o0, vI i2, vI i2] [sR va, sR sa, sR b56, sR b56])) rfl (by rw [hml]; rfl) (Steps.refl _) (a := b56) (argsL := [(.ref sa), (.ref va)]) (rest := [(.ref b56)]) (lenOf pd_rm_buildB_1 rfl) rfl (by show 2 * 0 + _ ≤ _; exact Nat.le_of_eq rfl) (hb hby d11_72) (fun _ _ => ⟨rfl, e73, (by decide : 1 + 0 ≤ _), (by decide : 2 + 0 ≤ _)⟩)
  dsimp only [Pt.U, Pt.locs, Pt.cells, Pt.slots] at X75 l75 y75 z75 st75 hQ75
  rw [l75, y75, z75] at X75
  obtain ⟨rfl, N75q, K75, qp75_0, qp75_1, qp75_2⟩ := hQ75
  have N75 := Fr.app N46 N75q
  have f76 := f57.keep K75
  have f77 := f58.keep K75 (ninS ne_o0_b56 nin0)
  have f78 := f59.keep K75 (ninS ne_o0_b56 nin0)
  have f79 := f60.keep K75 (ninS ne_o0_b56 nin0)
  have f80 := f61.keep K75 (ninS ne_o0_b56 nin0)
  have f81 := f62.keep K75 (ninS ne_nx_b56 nin0)
  have f82 := f63.keep K75 (ninS ne_va_b56 nin0)
  have f83 := f64.keep K75 (ninS ne_sa_b56 nin0)
  have f84 := A56.keep K75
  have Z75 : n0 ≤ T75.heap.size := Nat.le_trans Z56 K75.1
  have KK75 := K56.trans K75 (allS (Or.inr sz_b56) all0)
  have go87 := go74.st T75 (mkF m 75 #[vR o0, vI i2, vI i2] [sR b56]) (fun t k => by
    refine st75.trans ?_
    exact k)
  obtain ⟨fs, hr, hrun, hended, hW, hsame⟩ := X75.leave (v := some (.ref b56)) (fun h => by rw [Bd.returns] at h; cases h)
  refine ⟨_, _, go87 _ ?_, hrun, hended, _, _, rfl, ?_, ⟨_, rfl⟩, hW, hsame.mono (by decide) (by decide)⟩
  · exact own_retA X75 hx Bd.returns rfl rfl (hb hby d11_75) hr
  · show Q_rm_buildB Z o0 sa ka nx kx va kv v0 v1 h0 n0 _ T75.heap _
    exact ⟨b56, rfl, N75, KK75, g_b56, sz_b56, qp75_0, qp75_1, qp75_2, f83, f82⟩
theorem pn_rm_keepC0_p : plainName "com/example/graphkind/graphkind/Statements$Builder" = true := by first | (simp [plainName, overriddenIn]; done) | decide +kernel
theorem ef_rm_keepC0_p (m : MethodId) (o0 : Addr) (p2 : Int32) : entryFrame m #[(.ref o0), (.int (0 : Int32)), (.int p2)] 7 = mkF m 0 #[.val (.ref o0), .val (.int (0 : Int32)), .val (.int p2), uu, uu, uu, uu] [] := by first | (simp [entryFrame, mkF, argsToLocals, Value.category]; done) | rfl
def Q_rm_keepC0_p (Z : State) (o0 : Addr) (p2 : Int32) (sa : Addr) (ka : ClassId) (nx : Addr) (kx : ClassId) (h0 : Heap) (n0 : Nat) (v : Option Value) (h : Heap) (L : List Loc) : Prop := v = some (.int p2) ∧ Fr n0 L ∧ Keep h0 h [sa] ∧ Arv Z h sa ka .int (3 : Int32) [(.int p2), (.int (0 : Int32)), (.int (2 : Int32))] (.int (0 : Int32))
set_option maxRecDepth 65536 in
set_option maxHeartbeats 40000000 in
theorem rm_keepC0_p (l : Launch) (Z : State) (a0 : Array Value) (hw : ∀ d ∈ tables_1, d.before a0 Z = true) (ws : List Jvm.Cond) (o0 : Addr) (p2 : Int32) (sa : Addr) (ka : ClassId) (nx : Addr) (kx : ClassId) (h0 : Heap) (n0 : Nat) (Z0 : n0 ≤ h0.size) (F_start_o0 : Fld Z h0 o0 "com/example/graphkind/graphkind/Statements$Builder" "start" "[I" (.ref sa)) (F_next_o0 : Fld Z h0 o0 "com/example/graphkind/graphkind/Statements$Builder" "next" "[I" (.ref nx)) (V_sa : Arv Z h0 sa ka .int (3 : Int32) [(.int (0 : Int32)), (.int (0 : Int32)), (.int (2 : Int32))] (.int (0 : Int32))) (V_nx : Arv Z h0 nx kx .int (2 : Int32) [(.int (0 : Int32)), (.int (2 : Int32))] (.int (0 : Int32))) (g_sa : n0 ≤ sa) (ne_o0_sa : o0 ≠ sa) (ne_o0_nx : o0 ≠ nx) (ne_sa_nx : sa ≠ nx) :
    MetFree l yN16 (head1 (Jvm.Cond.code yN16 prog_10_method_6_code 7 (some .int) :: ws) ({ frames := 0, cells := 0, slots := 0, locals := 0 } : Room)) (fun a U => a = #[(.ref o0), (.int (0 : Int32)), (.int p2)] ∧ Z.Warmed39 U.vm ∧ U.heap = h0) (fun _ _ _ _ _ => True) (fun _ U o U' => ∃ v L, o = .returned v ∧ Q_rm_keepC0_p Z o0 p2 sa ka nx kx h0 n0 v U'.heap L ∧ FrameEnd U o U' L ({ frames := 0, cells := 0, slots := 0, locals := 0 } : Room).cells ({ frames := 0, cells := 0, slots := 0, locals := 0 } : Room).slots) := by
  refine MetFree.of_bodySF (plainFor_of_name pn_rm_keepC0_p) hisR ?_
  intro p e s m args below meth c s₁ Bd hml0 hP hK
  obtain ⟨rfl, hZ, hh⟩ := hP
  have hx := Bd.exec
  have hby := Bd.bytes
  have hml : c.maxLocals = 7 := hml0
  have hown : s.vm.findClass "com/example/graphkind/graphkind/Statements$Builder" = some m.cls := findClass_of_methodNamed Bd.named
  have hnm := (name_of_methodNamed Bd.named Bd.method).1
  have X0 : Stand p l e ({ frames := 0, cells := 0, slots := 0, locals := 0 } : Room) s m #[(.ref o0), (.int (0 : Int32)), (.int p2)] below meth c s₁ [] 0 0 := Stand.of_body Bd
  have e0 : s₁.heap = h0 := by rw [← hh, Bd.state]; rfl
  have N0 := Fr.nil n0
  have K0 := Keep.refl h0 [sa]
  have go0 : Go p e below (s₁.setTop (entryFrame m #[(.ref o0), (.int (0 : Int32)), (.int p2)] 7)) (s₁.setTop (mkF m 0 #[vR o0, vI i0, vI p2, uu, uu, uu, uu] [])) := fun t k => castTop (ef_rm_keepC0_p m o0 p2) k
  have go1 := go0.st s₁ (mkF m 1 #[vR o0, vI i0, vI p2, uu, uu, uu, uu] [sR o0]) (fun t k => by
    refine XS.aloadN X0.here hx rfl (hb hby d12_0) rfl rfl ?_
    exact k)
  obtain ⟨T2, X2, e2, st2⟩ := getF X0 hx hZ hown (host := "") (Or.inl (wD hw 37 rfl)) Via.refl e0 F_start_o0 (g := (mkF m 1 #[vR o0, vI i0, vI p2, uu, uu, uu, uu] [sR o0])) rfl rfl (hb hby d12_1)
  have go3 := go1.st T2 (mkF m 5 #[vR o0, vI i0, vI p2, uu, uu, uu, uu] [sI i0, sR sa]) (fun t k => by
    refine st2 _ ?_
    show SP p e below T2 (mkF m 4 #[vR o0, vI i0, vI p2, uu, uu, uu, uu] [sR sa]) _
    refine XS.iloadN X2.here hx rfl (hb hby d12_4) rfl ?_
    exact k)
  have Vo4 := V_sa
  obtain ⟨cl4, Ar4, qa4, Sa4, Na4, Ha4, Ga4⟩ := Vo4
  have hin4 := inb_of (j := (0 : Int32)) Sa4 ⟨by decide, by decide⟩
  have hat4 : cl4.slots[((0 : Int32)).toNatClampNeg]? = some (.int (0 : Int32)) := Has.at Ha4 hin4 rfl
  have go5 := go3.st T2 (mkF m 8 #[vR o0, vI i0, vI p2, vI i0, uu, uu, uu] [sR o0]) (fun t k => by
    refine X2.iaload hx (j := (0 : Int32)) (v := (.int (0 : Int32))) (by rw [e2]; exact Ar4.1) (State.isArrayOf_alike hZ.alike Ar4.2.1) Ar4.2.2 hin4 hat4 (g := (mkF m 5 #[vR o0, vI i0, vI p2, uu, uu, uu, uu] [sI i0, sR sa])) rfl rfl (hb hby d12_5) _ ?_
    refine XS.istoreN X2.here hx rfl (hb hby d12_6) rfl (l' := #[vR o0, vI i0, vI p2, vI i0, uu, uu, uu]) rfl ?_
    refine XS.aloadN X2.here hx rfl (hb hby d12_7) rfl rfl ?_
    exact k)
  obtain ⟨T6, X6, e6, st6⟩ := getF X2 hx hZ hown (host := "") (Or.inl (wD hw 66 rfl)) Via.refl e2 F_next_o0 (g := (mkF m 8 #[vR o0, vI i0, vI p2, vI i0, uu, uu, uu] [sR o0])) rfl rfl (hb hby d12_8)
  have go7 := go5.st T6 (mkF m 12 #[vR o0, vI i0, vI p2, vI i0, uu, uu, uu] [sI i0, sR nx]) (fun t k => by
    refine st6 _ ?_
    show SP p e below T6 (mkF m 11 #[vR o0, vI i0, vI p2, vI i0, uu, uu, uu] [sR nx]) _
    refine XS.iloadN X6.here hx rfl (hb hby d12_11) rfl ?_
    exact k)
  have Vo8 := V_nx
  obtain ⟨cl8, Ar8, qa8, Sa8, Na8, Ha8, Ga8⟩ := Vo8
  have hin8 := inb_of (j := (0 : Int32)) Sa8 ⟨by decide, by decide⟩
  have hat8 : cl8.slots[((0 : Int32)).toNatClampNeg]? = some (.int (0 : Int32)) := Has.at Ha8 hin8 rfl
  have go10 := go7.st T6 (mkF m 37 #[vR o0, vI i0, vI p2, vI i0, vI i0, vI p2, uu] [sR o0]) (fun t k => by
    refine X6.iaload hx (j := (0 : Int32)) (v := (.int (0 : Int32))) (by rw [e6]; exact Ar8.1) (State.isArrayOf_alike hZ.alike Ar8.2.1) Ar8.2.2 hin8 hat8 (g := (mkF m 12 #[vR o0, vI i0, vI p2, vI i0, uu, uu, uu] [sI i0, sR nx])) rfl rfl (hb hby d12_12) _ ?_
    refine XS.istore X6.here hx rfl (hb hby d12_13) rfl (l' := #[vR o0, vI i0, vI p2, vI i0, vI i0, uu, uu]) rfl ?_
    refine XS.iload X6.here hx rfl (hb hby d12_15) rfl ?_
    refine XS.iloadN X6.here hx rfl (hb hby d12_17) rfl ?_
    refine XS.isub X6.here hx rfl (hb hby d12_18) rfl ?_
    refine XS.iconst X6.here hx rfl (hb hby d12_19) ?_
    refine XS.icmpYes X6.here hx rfl (pc0 := 20) (pc' := 33) rfl (hb hby d12_20) rfl (flt ((by decide) : ¬ ((1 : Int32) < (0 : Int32)))).2.2.2 (by decide) (by decide) ?_
    refine XS.iloadN X6.here hx rfl (hb hby d12_33) rfl ?_
    show SP p e below T6 (mkF m 34 #[vR o0, vI i0, vI p2, vI i0, vI i0, uu, uu] [sI p2]) _
    refine XS.istore X6.here hx rfl (hb hby d12_34) rfl (l' := #[vR o0, vI i0, vI p2, vI i0, vI i0, vI p2, uu]) rfl ?_
    refine XS.aloadN X6.here hx rfl (hb hby d12_36) rfl rfl ?_
    exact k)
  obtain ⟨T11, X11, e11, st11⟩ := getF X6 hx hZ hown (host := "") (Or.inl (wD hw 37 rfl)) Via.refl e6 F_start_o0 (g := (mkF m 37 #[vR o0, vI i0, vI p2, vI i0, vI i0, vI p2, uu] [sR o0])) rfl rfl (hb hby d12_37)
  have go12 := go10.st T11 (mkF m 43 #[vR o0, vI i0, vI p2, vI i0, vI i0, vI p2, uu] [sI p2, sI i0, sR sa]) (fun t k => by
    refine st11 _ ?_
    show SP p e below T11 (mkF m 40 #[vR o0, vI i0, vI p2, vI i0, vI i0, vI p2, uu] [sR sa]) _
    refine XS.iloadN X11.here hx rfl (hb hby d12_40) rfl ?_
    refine XS.iload X11.here hx rfl (hb hby d12_41) rfl ?_
    exact k)
  have Vo13 := V_sa
  obtain ⟨cl13, Ar13, qa13, Sa13, Na13, Ha13, Ga13⟩ := Vo13
  have hin13 := inb_of (j := (0 : Int32)) Sa13 ⟨by decide, by decide⟩
  obtain ⟨T14, h14, X14, e14, W14, st14⟩ := stI X11 hx hZ e11 Ar13 (j := (0 : Int32)) hin13 (g := (mkF m 43 #[vR o0, vI i0, vI p2, vI i0, vI i0, vI p2, uu] [sI p2, sI i0, sR sa])) rfl rfl (hb hby d12_43)
  have V14 : Arv Z h14 sa ka .int (3 : Int32) [(.int p2), (.int (0 : Int32)), (.int (2 : Int32))] (.int (0 : Int32)) := Arv.set Ar13 qa13 Sa13 Na13 Ha13 Ga13 rfl W14 0 rfl (Nat.le_of_ble_eq_true rfl)
  have f15 := Fld.other W14 F_start_o0 (Or.inl ne_o0_sa)
  have f16 := Fld.other W14 F_next_o0 (Or.inl ne_o0_sa)
  have f18 := Arv.other V_nx W14 (Ne.symm ne_sa_nx)
  have Z14 : n0 ≤ h14.size := Nat.le_trans Z0 (Nat.le_of_eq W14.size.symm)
  have K14 := K0.wr W14 (Or.inl (List.mem_of_getElem? (i := 0) rfl))
  have N14 := Fr.snoc X14 N0 g_sa
  have go20 := go12.st T14 (mkF m 131 #[vR o0, vI i0, vI p2, vI i0, vI i0, vI p2, vI i0] [sI p2]) (fun t k => by
    refine st14 _ ?_
    show SP p e below T14 (mkF m 44 #[vR o0, vI i0, vI p2, vI i0, vI i0, vI p2, uu] []) _
    refine XS.iloadN X14.here hx rfl (hb hby d12_44) rfl ?_
    refine XS.istore X14.here hx rfl (hb hby d12_45) rfl (l' := #[vR o0, vI i0, vI p2, vI i0, vI i0, vI p2, vI i0]) rfl ?_
    refine XS.iload X14.here hx rfl (hb hby d12_47) rfl ?_
    refine XS.iload X14.here hx rfl (hb hby d12_49) rfl ?_
    refine XS.icmpYes X14.here hx rfl (pc0 := 51) (pc' := 129) rfl (hb hby d12_51) rfl (flt ((by decide) : ¬ ((0 : Int32) < (0 : Int32)))).2.1 (by decide) (by decide) ?_
    refine XS.iload X14.here hx rfl (hb hby d12_129) rfl ?_
    exact k)
  obtain ⟨fs, hr, hrun, hended, hW, hsame⟩ := X14.leave (v := some (.int p2)) (fun h => by rw [Bd.returns] at h; cases h)
  refine ⟨_, _, go20 _ ?_, hrun, hended, _, _, rfl, ?_, ⟨_, rfl⟩, hW, hsame.mono (by decide) (by decide)⟩
  · exact own_retI X14 hx Bd.returns (hb hby d12_131) hr
  · show Q_rm_keepC0_p Z o0 p2 sa ka nx kx h0 n0 _ T14.heap _
    rw [e14]
    exact ⟨rfl, N14, K14, V14⟩
theorem pn_rm_keepC1_0_1 : plainName "com/example/graphkind/graphkind/Statements$Builder" = true := by first | (simp [plainName, overriddenIn]; done) | decide +kernel
theorem pd_rm_keepC1_0_1_0 : parseMethodDescriptor "([JII)V" = some ⟨[(.array .long), .int, .int], none⟩ := by decide +kernel
theorem ef_rm_keepC1_0_1 (m : MethodId) (o0 : Addr) : entryFrame m #[(.ref o0), (.int (1 : Int32)), (.int (0 : Int32))] 7 = mkF m 0 #[.val (.ref o0), .val (.int (1 : Int32)), .val (.int (0 : Int32)), uu, uu, uu, uu] [] := by first | (simp [entryFrame, mkF, argsToLocals, Value.category]; done) | rfl
def Q_rm_keepC1_0_1 (Z : State) (o0 : Addr) (sa : Addr) (ka : ClassId) (nx : Addr) (kx : ClassId) (va : Addr) (kv : ClassId) (v0 : Int64) (v1 : Int64) (m0 : Int64) (m1 : Int64) (h0 : Heap) (n0 : Nat) (v : Option Value) (h : Heap) (L : List Loc) : Prop := v = some (.int (1 : Int32)) ∧ Fr n0 L ∧ Keep h0 h [va, sa] ∧ Arv Z h sa ka .int (3 : Int32) [(.int (0 : Int32)), (.int (0 : Int32)), (.int (2 : Int32))] (.int (0 : Int32)) ∧ Arv Z h va kv .long (2 : Int32) [(.long (m0 ||| m1)), (.long m1)] (.long (0 : Int64))
set_option maxRecDepth 65536 in
set_option maxHeartbeats 40000000 in
theorem rm_keepC1_0_1 (l : Launch) (Z : State) (a0 : Array Value) (hw : ∀ d ∈ tables_1, d.before a0 Z = true) (ws : List Jvm.Cond) (o0 : Addr) (sa : Addr) (ka : ClassId) (nx : Addr) (kx : ClassId) (va : Addr) (kv : ClassId) (v0 : Int64) (v1 : Int64) (m0 : Int64) (m1 : Int64) (h0 : Heap) (n0 : Nat) (Z0 : n0 ≤ h0.size) (F_start_o0 : Fld Z h0 o0 "com/example/graphkind/graphkind/Statements$Builder" "start" "[I" (.ref sa)) (F_next_o0 : Fld Z h0 o0 "com/example/graphkind/graphkind/Statements$Builder" "next" "[I" (.ref nx)) (V_sa : Arv Z h0 sa ka .int (3 : Int32) [(.int (0 : Int32)), (.int (0 : Int32)), (.int (2 : Int32))] (.int (0 : Int32))) (V_nx : Arv Z h0 nx kx .int (2 : Int32) [(.int (0 : Int32)), (.int (2 : Int32))] (.int (0 : Int32))) (g_sa : n0 ≤ sa) (F_values_o0 : Fld Z h0 o0 "com/example/graphkind/graphkind/Statements$Builder" "values" "[J" (.ref va)) (V_va : Arv Z h0 va kv .long (2 : Int32) [(.long v0), (.long v1)] (.long (0 : Int64))) (g_va : n0 ≤ va) (ne_o0_sa : o0 ≠ sa) (ne_o0_nx : o0 ≠ nx) (ne_o0_va : o0 ≠ va) (ne_sa_nx : sa ≠ nx) (ne_sa_va : sa ≠ va) (ne_nx_va : nx ≠ va) (hl : (v1 < v0 ∧ m0 = v1 ∧ m1 = v0) ∨ (¬ v1 < v0 ∧ m0 = v0 ∧ m1 = v1)) (hm : (own_usrL m1 (1 : Int32)) = (own_usrL m0 (1 : Int32))) :
    MetFree l yN16 (head1 (Jvm.Cond.code yN16 prog_10_method_6_code 7 (some .int) :: ws) ({ frames := 4, cells := 0, slots := 0, locals := 86 } : Room)) (fun a U => a = #[(.ref o0), (.int (1 : Int32)), (.int (0 : Int32))] ∧ Z.Warmed39 U.vm ∧ U.heap = h0) (fun _ _ _ _ _ => True) (fun _ U o U' => ∃ v L, o = .returned v ∧ Q_rm_keepC1_0_1 Z o0 sa ka nx kx va kv v0 v1 m0 m1 h0 n0 v U'.heap L ∧ FrameEnd U o U' L ({ frames := 4, cells := 0, slots := 0, locals := 86 } : Room).cells ({ frames := 4, cells := 0, slots := 0, locals := 86 } : Room).slots) := by
  refine MetFree.of_bodySF (plainFor_of_name pn_rm_keepC1_0_1) hisR ?_
  intro p e s m args below meth c s₁ Bd hml0 hP hK
  obtain ⟨rfl, hZ, hh⟩ := hP
  have hx := Bd.exec
  have hby := Bd.bytes
  have hml : c.maxLocals = 7 := hml0
  have hown : s.vm.findClass "com/example/graphkind/graphkind/Statements$Builder" = some m.cls := findClass_of_methodNamed Bd.named
  have hnm := (name_of_methodNamed Bd.named Bd.method).1
  have X0 : Stand p l e ({ frames := 4, cells := 0, slots := 0, locals := 86 } : Room) s m #[(.ref o0), (.int (1 : Int32)), (.int (0 : Int32))] below meth c s₁ [] 0 0 := Stand.of_body Bd
  have e0 : s₁.heap = h0 := by rw [← hh, Bd.state]; rfl
  have N0 := Fr.nil n0
  have K0 := Keep.refl h0 [va, sa]
  have go0 : Go p e below (s₁.setTop (entryFrame m #[(.ref o0), (.int (1 : Int32)), (.int (0 : Int32))] 7)) (s₁.setTop (mkF m 0 #[vR o0, vI i1, vI i0, uu, uu, uu, uu] [])) := fun t k => castTop (ef_rm_keepC1_0_1 m o0) k
  have go1 := go0.st s₁ (mkF m 1 #[vR o0, vI i1, vI i0, uu, uu, uu, uu] [sR o0]) (fun t k => by
    refine XS.aloadN X0.here hx rfl (hb hby d12_0) rfl rfl ?_
    exact k)
  obtain ⟨T2, X2, e2, st2⟩ := getF X0 hx hZ hown (host := "") (Or.inl (wD hw 37 rfl)) Via.refl e0 F_start_o0 (g := (mkF m 1 #[vR o0, vI i1, vI i0, uu, uu, uu, uu] [sR o0])) rfl rfl (hb hby d12_1)
  have go3 := go1.st T2 (mkF m 5 #[vR o0, vI i1, vI i0, uu, uu, uu, uu] [sI i1, sR sa]) (fun t k => by
    refine st2 _ ?_
    show SP p e below T2 (mkF m 4 #[vR o0, vI i1, vI i0, uu, uu, uu, uu] [sR sa]) _
    refine XS.iloadN X2.here hx rfl (hb hby d12_4) rfl ?_
    exact k)
  have Vo4 := V_sa
  obtain ⟨cl4, Ar4, qa4, Sa4, Na4, Ha4, Ga4⟩ := Vo4
  have hin4 := inb_of (j := (1 : Int32)) Sa4 ⟨by decide, by decide⟩
  have hat4 : cl4.slots[((1 : Int32)).toNatClampNeg]? = some (.int (0 : Int32)) := Has.at Ha4 hin4 rfl
  have go5 := go3.st T2 (mkF m 8 #[vR o0, vI i1, vI i0, vI i0, uu, uu, uu] [sR o0]) (fun t k => by
    refine X2.iaload hx (j := (1 : Int32)) (v := (.int (0 : Int32))) (by rw [e2]; exact Ar4.1) (State.isArrayOf_alike hZ.alike Ar4.2.1) Ar4.2.2 hin4 hat4 (g := (mkF m 5 #[vR o0, vI i1, vI i0, uu, uu, uu, uu] [sI i1, sR sa])) rfl rfl (hb hby d12_5) _ ?_
    refine XS.istoreN X2.here hx rfl (hb hby d12_6) rfl (l' := #[vR o0, vI i1, vI i0, vI i0, uu, uu, uu]) rfl ?_
    refine XS.aloadN X2.here hx rfl (hb hby d12_7) rfl rfl ?_
    exact k)
  obtain ⟨T6, X6, e6, st6⟩ := getF X2 hx hZ hown (host := "") (Or.inl (wD hw 66 rfl)) Via.refl e2 F_next_o0 (g := (mkF m 8 #[vR o0, vI i1, vI i0, vI i0, uu, uu, uu] [sR o0])) rfl rfl (hb hby d12_8)
  have go7 := go5.st T6 (mkF m 12 #[vR o0, vI i1, vI i0, vI i0, uu, uu, uu] [sI i1, sR nx]) (fun t k => by
    refine st6 _ ?_
    show SP p e below T6 (mkF m 11 #[vR o0, vI i1, vI i0, vI i0, uu, uu, uu] [sR nx]) _
    refine XS.iloadN X6.here hx rfl (hb hby d12_11) rfl ?_
    exact k)
  have Vo8 := V_nx
  obtain ⟨cl8, Ar8, qa8, Sa8, Na8, Ha8, Ga8⟩ := Vo8
  have hin8 := inb_of (j := (1 : Int32)) Sa8 ⟨by decide, by decide⟩
  have hat8 : cl8.slots[((1 : Int32)).toNatClampNeg]? = some (.int (2 : Int32)) := Has.at Ha8 hin8 rfl
  have go10 := go7.st T6 (mkF m 24 #[vR o0, vI i1, vI i0, vI i0, vI i2, uu, uu] [sR o0]) (fun t k => by
    refine X6.iaload hx (j := (1 : Int32)) (v := (.int (2 : Int32))) (by rw [e6]; exact Ar8.1) (State.isArrayOf_alike hZ.alike Ar8.2.1) Ar8.2.2 hin8 hat8 (g := (mkF m 12 #[vR o0, vI i1, vI i0, vI i0, uu, uu, uu] [sI i1, sR nx])) rfl rfl (hb hby d12_12) _ ?_
    refine XS.istore X6.here hx rfl (hb hby d12_13) rfl (l' := #[vR o0, vI i1, vI i0, vI i0, vI i2, uu, uu]) rfl ?_
    refine XS.iload X6.here hx rfl (hb hby d12_15) rfl ?_
    refine XS.iloadN X6.here hx rfl (hb hby d12_17) rfl ?_
    refine XS.isub X6.here hx rfl (hb hby d12_18) rfl ?_
    refine XS.iconst X6.here hx rfl (hb hby d12_19) ?_
    refine XS.icmpNo X6.here hx rfl (hb hby d12_20) rfl (tlt ((by decide) : (1 : Int32) < (2 : Int32))).2.2.2 ?_
    refine XS.aloadN X6.here hx rfl (hb hby d12_23) rfl rfl ?_
    exact k)
  obtain ⟨T11, X11, e11, st11⟩ := getF X6 hx hZ hown (host := "") (Or.inl (wD hw 69 rfl)) Via.refl e6 F_values_o0 (g := (mkF m 24 #[vR o0, vI i1, vI i0, vI i0, vI i2, uu, uu] [sR o0])) rfl rfl (hb hby d12_24)
  have go12 := go10.st T11 (mkF m 30 #[vR o0, vI i1, vI i0, vI i0, vI i2, uu, uu] [sI i2, sI i0, sR va]) (fun t k => by
    refine st11 _ ?_
    show SP p e below T11 (mkF m 27 #[vR o0, vI i1, vI i0, vI i0, vI i2, uu, uu] [sR va]) _
    refine XS.iloadN X11.here hx rfl (hb hby d12_27) rfl ?_
    refine XS.iload X11.here hx rfl (hb hby d12_28) rfl ?_
    exact k)
  obtain ⟨_, _, ⟨T13, L13, k13, n13⟩, -, X13, ⟨Lc13, hQ13, l13, y13, z13⟩, st13⟩ := Jvm.LawKit.callS X11 hx (y := yN14) hown (mvT hZ (wD hw 85 rfl)) (mvT hZ (wD hw 86 rfl)) (mvT hZ (wD hw 56 rfl)) (mvT hZ (wD hw 87 rfl)) (by decide) (backOf (W := 0) (rm_sort l Z a0 hw [] va kv v0 v1 m0 m1 h0 n0 Z0 V_va g_va hl) hZ (wD hw 87 rfl) (wD hw 56 rfl) (by decide) (by decide)) (g := (mkF m 30 #[vR o0, vI i1, vI i0, vI i0, vI i2, uu, uu] [sI i2, sI i0, sR va])) rfl (by rw [hml]; rfl) (argsL := [(.ref va), (.int (0 : Int32)), (.int (2 : Int32))]) (rest := []) (lenOf pd_rm_keepC1_0_1_0 rfl) rfl (by show 2 * 0 + _ ≤ _; exact Nat.le_of_eq rfl) (hb hby d12_30) (fun _ _ => ⟨rfl, e11, (by decide : 0 + 0 ≤ _), (by decide : 0 + 0 ≤ _)⟩)
  dsimp only [Pt.U, Pt.locs, Pt.cells, Pt.slots] at X13 l13 y13 z13 st13 hQ13
  rw [l13, y13, z13] at X13
  obtain ⟨rfl, N13q, K13, qp13_0⟩ := hQ13
  have N13 := Fr.app N0 N13q
  have f14 := F_start_o0.keep K13 (ninS ne_o0_va nin0)
  have f15 := F_next_o0.keep K13 (ninS ne_o0_va nin0)
  have f16 := V_sa.keep K13 (ninS ne_sa_va nin0)
  have f17 := V_nx.keep K13 (ninS ne_nx_va nin0)
  have f18 := F_values_o0.keep K13 (ninS ne_o0_va nin0)
  have Z13 : n0 ≤ T13.heap.size := Nat.le_trans Z0 K13.1
  have KK13 := K0.trans K13 (allS (Or.inl (List.mem_of_getElem? (i := 0) rfl)) all0)
  have go20 := go12.st T13 (mkF m 37 #[vR o0, vI i1, vI i0, vI i0, vI i2, vI i0, uu] [sR o0]) (fun t k => by
    refine st13 _ ?_
    show SP p e below T13 (mkF m 33 #[vR o0, vI i1, vI i0, vI i0, vI i2, uu, uu] []) _
    refine XS.iloadN X13.here hx rfl (hb hby d12_33) rfl ?_
    refine XS.istore X13.here hx rfl (hb hby d12_34) rfl (l' := #[vR o0, vI i1, vI i0, vI i0, vI i2, vI i0, uu]) rfl ?_
    refine XS.aloadN X13.here hx rfl (hb hby d12_36) rfl rfl ?_
    exact k)
  obtain ⟨T21, X21, e21, st21⟩ := getF X13 hx hZ hown (host := "") (Or.inl (wD hw 37 rfl)) Via.refl rfl f14 (g := (mkF m 37 #[vR o0, vI i1, vI i0, vI i0, vI i2, vI i0, uu] [sR o0])) rfl rfl (hb hby d12_37)
  have go22 := go20.st T21 (mkF m 43 #[vR o0, vI i1, vI i0, vI i0, vI i2, vI i0, uu] [sI i0, sI i1, sR sa]) (fun t k => by
    refine st21 _ ?_
    show SP p e below T21 (mkF m 40 #[vR o0, vI i1, vI i0, vI i0, vI i2, vI i0, uu] [sR sa]) _
    refine XS.iloadN X21.here hx rfl (hb hby d12_40) rfl ?_
    refine XS.iload X21.here hx rfl (hb hby d12_41) rfl ?_
    exact k)
  have Vo23 := f16
  obtain ⟨cl23, Ar23, qa23, Sa23, Na23, Ha23, Ga23⟩ := Vo23
  have hin23 := inb_of (j := (1 : Int32)) Sa23 ⟨by decide, by decide⟩
  obtain ⟨T24, h24, X24, e24, W24, st24⟩ := stI X21 hx hZ e21 Ar23 (j := (1 : Int32)) hin23 (g := (mkF m 43 #[vR o0, vI i1, vI i0, vI i0, vI i2, vI i0, uu] [sI i0, sI i1, sR sa])) rfl rfl (hb hby d12_43)
  have V24 : Arv Z h24 sa ka .int (3 : Int32) [(.int (0 : Int32)), (.int (0 : Int32)), (.int (2 : Int32))] (.int (0 : Int32)) := Arv.set Ar23 qa23 Sa23 Na23 Ha23 Ga23 rfl W24 1 rfl (Nat.le_of_ble_eq_true rfl)
  have f25 := Fld.other W24 f14 (Or.inl ne_o0_sa)
  have f26 := Fld.other W24 f15 (Or.inl ne_o0_sa)
  have f28 := Arv.other f17 W24 (Ne.symm ne_sa_nx)
  have f29 := Fld.other W24 f18 (Or.inl ne_o0_sa)
  have f30 := Arv.other qp13_0 W24 (Ne.symm ne_sa_va)
  have Z24 : n0 ≤ h24.size := Nat.le_trans Z13 (Nat.le_of_eq W24.size.symm)
  have K24 := KK13.wr W24 (Or.inl (List.mem_of_getElem? (i := 1) rfl))
  have N24 := Fr.snoc X24 N13 g_sa
  have go33 := go22.st T24 (mkF m 107 #[vR o0, vI i1, vI i0, vI i0, vI i2, vI i0, vI i0] [sR o0]) (fun t k => by
    refine st24 _ ?_
    show SP p e below T24 (mkF m 44 #[vR o0, vI i1, vI i0, vI i0, vI i2, vI i0, uu] []) _
    refine XS.iloadN X24.here hx rfl (hb hby d12_44) rfl ?_
    refine XS.istore X24.here hx rfl (hb hby d12_45) rfl (l' := #[vR o0, vI i1, vI i0, vI i0, vI i2, vI i0, vI i0]) rfl ?_
    refine XS.iload X24.here hx rfl (hb hby d12_47) rfl ?_
    refine XS.iload X24.here hx rfl (hb hby d12_49) rfl ?_
    refine XS.icmpNo X24.here hx rfl (hb hby d12_51) rfl (tlt ((by decide) : (0 : Int32) < (2 : Int32))).2.1 ?_
    refine XS.iload X24.here hx rfl (hb hby d12_54) rfl ?_
    refine XS.iloadN X24.here hx rfl (hb hby d12_56) rfl ?_
    refine XS.icmpYes X24.here hx rfl (pc0 := 57) (pc' := 106) rfl (hb hby d12_57) rfl (flt ((by decide) : ¬ ((0 : Int32) < (0 : Int32)))).2.2.2 (by decide) (by decide) ?_
    refine XS.aloadN X24.here hx rfl (hb hby d12_106) rfl rfl ?_
    exact k)
  obtain ⟨T34, X34, e34, st34⟩ := getF X24 hx hZ hown (host := "") (Or.inl (wD hw 69 rfl)) Via.refl e24 f29 (g := (mkF m 107 #[vR o0, vI i1, vI i0, vI i0, vI i2, vI i0, vI i0] [sR o0])) rfl rfl (hb hby d12_107)
  have go35 := go33.st T34 (mkF m 116 #[vR o0, vI i1, vI i0, vI i0, vI i2, vI i1, vI i0] [sR o0, sI i0, sR va]) (fun t k => by
    refine st34 _ ?_
    show SP p e below T34 (mkF m 110 #[vR o0, vI i1, vI i0, vI i0, vI i2, vI i0, vI i0] [sR va]) _
    refine XS.iload X34.here hx rfl (hb hby d12_110) rfl ?_
    refine XS.iinc X34.here hx rfl (hb hby d12_112) rfl (l' := #[vR o0, vI i1, vI i0, vI i0, vI i2, vI i1, vI i0]) rfl ?_
    refine XS.aloadN X34.here hx rfl (hb hby d12_115) rfl rfl ?_
    exact k)
  obtain ⟨T36, X36, e36, st36⟩ := getF X34 hx hZ hown (host := "") (Or.inl (wD hw 69 rfl)) Via.refl e34 f29 (g := (mkF m 116 #[vR o0, vI i1, vI i0, vI i0, vI i2, vI i1, vI i0] [sR o0, sI i0, sR va])) rfl rfl (hb hby d12_116)
  have go37 := go35.st T36 (mkF m 121 #[vR o0, vI i1, vI i0, vI i0, vI i2, vI i1, vI i0] [sI i0, sR va, sI i0, sR va]) (fun t k => by
    refine st36 _ ?_
    show SP p e below T36 (mkF m 119 #[vR o0, vI i1, vI i0, vI i0, vI i2, vI i1, vI i0] [sR va, sI i0, sR va]) _
    refine XS.iload X36.here hx rfl (hb hby d12_119) rfl ?_
    exact k)
  have Vo38 := f30
  obtain ⟨cl38, Ar38, qa38, Sa38, Na38, Ha38, Ga38⟩ := Vo38
  have hin38 := inb_of (j := (0 : Int32)) Sa38 ⟨by decide, by decide⟩
  have hat38 : cl38.slots[((0 : Int32)).toNatClampNeg]? = some (.long m0) := Has.at Ha38 hin38 rfl
  have go39 := go37.st T36 (mkF m 122 #[vR o0, vI i1, vI i0, vI i0, vI i2, vI i1, vI i0] [sJ m0, sI i0, sR va]) (fun t k => by
    refine X36.laload hx (j := (0 : Int32)) (v := (.long m0)) (by rw [e36]; exact Ar38.1) (State.isArrayOf_alike hZ.alike Ar38.2.1) Ar38.2.2 hin38 hat38 (g := (mkF m 121 #[vR o0, vI i1, vI i0, vI i0, vI i2, vI i1, vI i0] [sI i0, sR va, sI i0, sR va])) rfl rfl (hb hby d12_121) _ ?_
    exact k)
  have Vo40 := f30
  obtain ⟨cl40, Ar40, qa40, Sa40, Na40, Ha40, Ga40⟩ := Vo40
  have hin40 := inb_of (j := (0 : Int32)) Sa40 ⟨by decide, by decide⟩
  obtain ⟨T41, h41, X41, e41, W41, st41⟩ := stJ X36 hx hZ e36 Ar40 (j := (0 : Int32)) hin40 (g := (mkF m 122 #[vR o0, vI i1, vI i0, vI i0, vI i2, vI i1, vI i0] [sJ m0, sI i0, sR va])) rfl rfl (hb hby d12_122)
  have V41 : Arv Z h41 va kv .long (2 : Int32) [(.long m0), (.long m1)] (.long (0 : Int64)) := Arv.set Ar40 qa40 Sa40 Na40 Ha40 Ga40 rfl W41 0 rfl (Nat.le_of_ble_eq_true rfl)
  have f42 := Fld.other W41 f25 (Or.inl ne_o0_va)
  have f43 := Fld.other W41 f26 (Or.inl ne_o0_va)
  have f44 := Arv.other f28 W41 ne_nx_va
  have f45 := Fld.other W41 f29 (Or.inl ne_o0_va)
  have f47 := Arv.other V24 W41 ne_sa_va
  have Z41 : n0 ≤ h41.size := Nat.le_trans Z24 (Nat.le_of_eq W41.size.symm)
  have K41 := K24.wr W41 (Or.inl (List.mem_of_getElem? (i := 0) rfl))
  have N41 := Fr.snoc X41 N24 g_va
  have go50 := go39.st T41 (mkF m 61 #[vR o0, vI i1, vI i0, vI i0, vI i2, vI i1, vI i1] [sR o0]) (fun t k => by
    refine st41 _ ?_
    show SP p e below T41 (mkF m 123 #[vR o0, vI i1, vI i0, vI i0, vI i2, vI i1, vI i0] []) _
    refine XS.iinc X41.here hx rfl (hb hby d12_123) rfl (l' := #[vR o0, vI i1, vI i0, vI i0, vI i2, vI i1, vI i1]) rfl ?_
    refine XS.goto X41.here hx rfl (pc0 := 126) (pc' := 47) rfl (hb hby d12_126) (by decide) (by decide) ?_
    refine XS.iload X41.here hx rfl (hb hby d12_47) rfl ?_
    refine XS.iload X41.here hx rfl (hb hby d12_49) rfl ?_
    refine XS.icmpNo X41.here hx rfl (hb hby d12_51) rfl (tlt ((by decide) : (1 : Int32) < (2 : Int32))).2.1 ?_
    refine XS.iload X41.here hx rfl (hb hby d12_54) rfl ?_
    refine XS.iloadN X41.here hx rfl (hb hby d12_56) rfl ?_
    refine XS.icmpNo X41.here hx rfl (hb hby d12_57) rfl (tlt ((by decide) : (0 : Int32) < (1 : Int32))).2.2.2 ?_
    refine XS.aloadN X41.here hx rfl (hb hby d12_60) rfl rfl ?_
    exact k)
  obtain ⟨T51, X51, e51, st51⟩ := getF X41 hx hZ hown (host := "") (Or.inl (wD hw 69 rfl)) Via.refl e41 f45 (g := (mkF m 61 #[vR o0, vI i1, vI i0, vI i0, vI i2, vI i1, vI i1] [sR o0])) rfl rfl (hb hby d12_61)
  have go52 := go50.st T51 (mkF m 66 #[vR o0, vI i1, vI i0, vI i0, vI i2, vI i1, vI i1] [sI i1, sR va]) (fun t k => by
    refine st51 _ ?_
    show SP p e below T51 (mkF m 64 #[vR o0, vI i1, vI i0, vI i0, vI i2, vI i1, vI i1] [sR va]) _
    refine XS.iload X51.here hx rfl (hb hby d12_64) rfl ?_
    exact k)
  have Vo53 := V41
  obtain ⟨cl53, Ar53, qa53, Sa53, Na53, Ha53, Ga53⟩ := Vo53
  have hin53 := inb_of (j := (1 : Int32)) Sa53 ⟨by decide, by decide⟩
  have hat53 : cl53.slots[((1 : Int32)).toNatClampNeg]? = some (.long m1) := Has.at Ha53 hin53 rfl
  have go54 := go52.st T51 (mkF m 70 #[vR o0, vI i1, vI i0, vI i0, vI i2, vI i1, vI i1] [sR o0, (sJ (own_usrL m1 i1))]) (fun t k => by
    refine X51.laload hx (j := (1 : Int32)) (v := (.long m1)) (by rw [e51]; exact Ar53.1) (State.isArrayOf_alike hZ.alike Ar53.2.1) Ar53.2.2 hin53 hat53 (g := (mkF m 66 #[vR o0, vI i1, vI i0, vI i0, vI i2, vI i1, vI i1] [sI i1, sR va])) rfl rfl (hb hby d12_66) _ ?_
    refine XS.iconst X51.here hx rfl (hb hby d12_67) ?_
    refine XS.lushr X51.here hx rfl (hb hby d12_68) rfl ?_
    refine XS.aloadN X51.here hx rfl (hb hby d12_69) rfl rfl ?_
    exact k)
  obtain ⟨T55, X55, e55, st55⟩ := getF X51 hx hZ hown (host := "") (Or.inl (wD hw 69 rfl)) Via.refl e51 f45 (g := (mkF m 70 #[vR o0, vI i1, vI i0, vI i0, vI i2, vI i1, vI i1] [sR o0, (sJ (own_usrL m1 i1))])) rfl rfl (hb hby d12_70)
  have go56 := go54.st T55 (mkF m 77 #[vR o0, vI i1, vI i0, vI i0, vI i2, vI i1, vI i1] [sI i0, sR va, (sJ (own_usrL m1 i1))]) (fun t k => by
    refine st55 _ ?_
    show SP p e below T55 (mkF m 73 #[vR o0, vI i1, vI i0, vI i0, vI i2, vI i1, vI i1] [sR va, (sJ (own_usrL m1 i1))]) _
    refine XS.iload X55.here hx rfl (hb hby d12_73) rfl ?_
    refine XS.iconst X55.here hx rfl (hb hby d12_75) ?_
    refine XS.isub X55.here hx rfl (hb hby d12_76) rfl ?_
    exact k)
  have Vo57 := V41
  obtain ⟨cl57, Ar57, qa57, Sa57, Na57, Ha57, Ga57⟩ := Vo57
  have hin57 := inb_of (j := (0 : Int32)) Sa57 ⟨by decide, by decide⟩
  have hat57 : cl57.slots[((0 : Int32)).toNatClampNeg]? = some (.long m0) := Has.at Ha57 hin57 rfl
  have go59 := go56.st T55 (mkF m 85 #[vR o0, vI i1, vI i0, vI i0, vI i2, vI i1, vI i1] [sR o0]) (fun t k => by
    refine X55.laload hx (j := (0 : Int32)) (v := (.long m0)) (by rw [e55]; exact Ar57.1) (State.isArrayOf_alike hZ.alike Ar57.2.1) Ar57.2.2 hin57 hat57 (g := (mkF m 77 #[vR o0, vI i1, vI i0, vI i0, vI i2, vI i1, vI i1] [sI i0, sR va, (sJ (own_usrL m1 i1))])) rfl rfl (hb hby d12_77) _ ?_
    refine XS.iconst X55.here hx rfl (hb hby d12_78) ?_
    refine XS.lushr X55.here hx rfl (hb hby d12_79) rfl ?_
    refine XS.lcmp X55.here hx rfl (hb hby d12_80) rfl ?_
    refine XS.ifNo X55.here hx rfl (hb hby d12_81) rfl ((if0 _ _).trans (teq ((lw_eq _ _).mpr (hm : (own_usrL m1 (1 : Int32)) = (own_usrL m0 (1 : Int32))))).2) ?_
    refine XS.aloadN X55.here hx rfl (hb hby d12_84) rfl rfl ?_
    exact k)
  obtain ⟨T60, X60, e60, st60⟩ := getF X55 hx hZ hown (host := "") (Or.inl (wD hw 69 rfl)) Via.refl e55 f45 (g := (mkF m 85 #[vR o0, vI i1, vI i0, vI i0, vI i2, vI i1, vI i1] [sR o0])) rfl rfl (hb hby d12_85)
  have go61 := go59.st T60 (mkF m 93 #[vR o0, vI i1, vI i0, vI i0, vI i2, vI i1, vI i1] [sI i0, sR va, sI i0, sR va]) (fun t k => by
    refine st60 _ ?_
    show SP p e below T60 (mkF m 88 #[vR o0, vI i1, vI i0, vI i0, vI i2, vI i1, vI i1] [sR va]) _
    refine XS.iload X60.here hx rfl (hb hby d12_88) rfl ?_
    refine XS.iconst X60.here hx rfl (hb hby d12_90) ?_
    refine XS.isub X60.here hx rfl (hb hby d12_91) rfl ?_
    show SP p e below T60 (mkF m 92 #[vR o0, vI i1, vI i0, vI i0, vI i2, vI i1, vI i1] [sI i0, sR va]) _
    jvm_step X60.here [X60.here.top, hx, (hb hby d12_92), Value.category]
    exact k)
  have Vo62 := V41
  obtain ⟨cl62, Ar62, qa62, Sa62, Na62, Ha62, Ga62⟩ := Vo62
  have hin62 := inb_of (j := (0 : Int32)) Sa62 ⟨by decide, by decide⟩
  have hat62 : cl62.slots[((0 : Int32)).toNatClampNeg]? = some (.long m0) := Has.at Ha62 hin62 rfl
  have go63 := go61.st T60 (mkF m 95 #[vR o0, vI i1, vI i0, vI i0, vI i2, vI i1, vI i1] [sR o0, sJ m0, sI i0, sR va]) (fun t k => by
    refine X60.laload hx (j := (0 : Int32)) (v := (.long m0)) (by rw [e60]; exact Ar62.1) (State.isArrayOf_alike hZ.alike Ar62.2.1) Ar62.2.2 hin62 hat62 (g := (mkF m 93 #[vR o0, vI i1, vI i0, vI i0, vI i2, vI i1, vI i1] [sI i0, sR va, sI i0, sR va])) rfl rfl (hb hby d12_93) _ ?_
    refine XS.aloadN X60.here hx rfl (hb hby d12_94) rfl rfl ?_
    exact k)
  obtain ⟨T64, X64, e64, st64⟩ := getF X60 hx hZ hown (host := "") (Or.inl (wD hw 69 rfl)) Via.refl e60 f45 (g := (mkF m 95 #[vR o0, vI i1, vI i0, vI i0, vI i2, vI i1, vI i1] [sR o0, sJ m0, sI i0, sR va])) rfl rfl (hb hby d12_95)
  have go65 := go63.st T64 (mkF m 100 #[vR o0, vI i1, vI i0, vI i0, vI i2, vI i1, vI i1] [sI i1, sR va, sJ m0, sI i0, sR va]) (fun t k => by
    refine st64 _ ?_
    show SP p e below T64 (mkF m 98 #[vR o0, vI i1, vI i0, vI i0, vI i2, vI i1, vI i1] [sR va, sJ m0, sI i0, sR va]) _
    refine XS.iload X64.here hx rfl (hb hby d12_98) rfl ?_
    exact k)
  have Vo66 := V41
  obtain ⟨cl66, Ar66, qa66, Sa66, Na66, Ha66, Ga66⟩ := Vo66
  have hin66 := inb_of (j := (1 : Int32)) Sa66 ⟨by decide, by decide⟩
  have hat66 : cl66.slots[((1 : Int32)).toNatClampNeg]? = some (.long m1) := Has.at Ha66 hin66 rfl
  have go67 := go65.st T64 (mkF m 102 #[vR o0, vI i1, vI i0, vI i0, vI i2, vI i1, vI i1] [(sJ (m0 ||| m1)), sI i0, sR va]) (fun t k => by
    refine X64.laload hx (j := (1 : Int32)) (v := (.long m1)) (by rw [e64]; exact Ar66.1) (State.isArrayOf_alike hZ.alike Ar66.2.1) Ar66.2.2 hin66 hat66 (g := (mkF m 100 #[vR o0, vI i1, vI i0, vI i0, vI i2, vI i1, vI i1] [sI i1, sR va, sJ m0, sI i0, sR va])) rfl rfl (hb hby d12_100) _ ?_
    refine XS.lor X64.here hx rfl (hb hby d12_101) rfl ?_
    exact k)
  have Vo68 := V41
  obtain ⟨cl68, Ar68, qa68, Sa68, Na68, Ha68, Ga68⟩ := Vo68
  have hin68 := inb_of (j := (0 : Int32)) Sa68 ⟨by decide, by decide⟩
  obtain ⟨T69, h69, X69, e69, W69, st69⟩ := stJ X64 hx hZ e64 Ar68 (j := (0 : Int32)) hin68 (g := (mkF m 102 #[vR o0, vI i1, vI i0, vI i0, vI i2, vI i1, vI i1] [(sJ (m0 ||| m1)), sI i0, sR va])) rfl rfl (hb hby d12_102)
  have V69 : Arv Z h69 va kv .long (2 : Int32) [(.long (m0 ||| m1)), (.long m1)] (.long (0 : Int64)) := Arv.set Ar68 qa68 Sa68 Na68 Ha68 Ga68 rfl W69 0 rfl (Nat.le_of_ble_eq_true rfl)
  have f70 := Fld.other W69 f42 (Or.inl ne_o0_va)
  have f71 := Fld.other W69 f43 (Or.inl ne_o0_va)
  have f72 := Arv.other f44 W69 ne_nx_va
  have f73 := Fld.other W69 f45 (Or.inl ne_o0_va)
  have f74 := Arv.other f47 W69 ne_sa_va
  have Z69 : n0 ≤ h69.size := Nat.le_trans Z41 (Nat.le_of_eq W69.size.symm)
  have K69 := K41.wr W69 (Or.inl (List.mem_of_getElem? (i := 0) rfl))
  have N69 := Fr.snoc X69 N41 g_va
  have go77 := go67.st T69 (mkF m 131 #[vR o0, vI i1, vI i0, vI i0, vI i2, vI i1, vI i2] [sI i1]) (fun t k => by
    refine st69 _ ?_
    show SP p e below T69 (mkF m 103 #[vR o0, vI i1, vI i0, vI i0, vI i2, vI i1, vI i1] []) _
    refine XS.goto X69.here hx rfl (pc0 := 103) (pc' := 123) rfl (hb hby d12_103) (by decide) (by decide) ?_
    refine XS.iinc X69.here hx rfl (hb hby d12_123) rfl (l' := #[vR o0, vI i1, vI i0, vI i0, vI i2, vI i1, vI i2]) rfl ?_
    refine XS.goto X69.here hx rfl (pc0 := 126) (pc' := 47) rfl (hb hby d12_126) (by decide) (by decide) ?_
    refine XS.iload X69.here hx rfl (hb hby d12_47) rfl ?_
    refine XS.iload X69.here hx rfl (hb hby d12_49) rfl ?_
    refine XS.icmpYes X69.here hx rfl (pc0 := 51) (pc' := 129) rfl (hb hby d12_51) rfl (flt ((by decide) : ¬ ((2 : Int32) < (2 : Int32)))).2.1 (by decide) (by decide) ?_
    refine XS.iload X69.here hx rfl (hb hby d12_129) rfl ?_
    exact k)
  obtain ⟨fs, hr, hrun, hended, hW, hsame⟩ := X69.leave (v := some (.int (1 : Int32))) (fun h => by rw [Bd.returns] at h; cases h)
  refine ⟨_, _, go77 _ ?_, hrun, hended, _, _, rfl, ?_, ⟨_, rfl⟩, hW, hsame.mono (by decide) (by decide)⟩
  · exact own_retI X69 hx Bd.returns (hb hby d12_131) hr
  · show Q_rm_keepC1_0_1 Z o0 sa ka nx kx va kv v0 v1 m0 m1 h0 n0 _ T69.heap _
    rw [e69]
    exact ⟨rfl, N69, K69, f74, V69⟩
theorem pn_rm_buildC_1 : plainName "com/example/graphkind/graphkind/Statements$Builder" = true := by first | (simp [plainName, overriddenIn]; done) | decide +kernel
theorem pd_rm_buildC_1_0 : parseMethodDescriptor "(II)I" = some ⟨[.int, .int], some .int⟩ := by decide +kernel
theorem pd_rm_buildC_1_1 : parseMethodDescriptor "([JI)[J" = some ⟨[(.array .long), .int], some (.array .long)⟩ := by decide +kernel
theorem pd_rm_buildC_1_2 : parseMethodDescriptor "([I[J)V" = some ⟨[(.array .int), (.array .long)], none⟩ := by decide +kernel
theorem ef_rm_buildC_1 (m : MethodId) (o0 : Addr) : entryFrame m #[(.ref o0)] 3 = mkF m 0 #[.val (.ref o0), uu, uu] [] := by first | (simp [entryFrame, mkF, argsToLocals, Value.category]; done) | rfl
def Q_rm_buildC_1 (Z : State) (o0 : Addr) (sa : Addr) (ka : ClassId) (nx : Addr) (kx : ClassId) (va : Addr) (kv : ClassId) (v0 : Int64) (v1 : Int64) (m0 : Int64) (m1 : Int64) (h0 : Heap) (n0 : Nat) (v : Option Value) (h : Heap) (L : List Loc) : Prop := ∃ b : Addr, ∃ vb : Addr, ∃ kb : ClassId, v = some (.ref b) ∧ Fr n0 L ∧ Keep h0 h [va, sa, o0] ∧ n0 ≤ b ∧ h0.size ≤ b ∧ Exa Z h b "com/example/graphkind/graphkind/Statements" ∧ Fld Z h b "com/example/graphkind/graphkind/Statements" "start" "[I" (.ref sa) ∧ Fld Z h b "com/example/graphkind/graphkind/Statements" "values" "[J" (.ref vb) ∧ Arv Z h sa ka .int (3 : Int32) [(.int (0 : Int32)), (.int (0 : Int32)), (.int (1 : Int32))] (.int (0 : Int32)) ∧ Arv Z h vb kb .long (1 : Int32) [(.long (m0 ||| m1))] (.long (0 : Int64))
set_option maxRecDepth 65536 in
set_option maxHeartbeats 40000000 in
theorem rm_buildC_1 (l : Launch) (Z : State) (a0 : Array Value) (hw : ∀ d ∈ tables_1, d.before a0 Z = true) (ws : List Jvm.Cond) (o0 : Addr) (sa : Addr) (ka : ClassId) (nx : Addr) (kx : ClassId) (va : Addr) (kv : ClassId) (v0 : Int64) (v1 : Int64) (m0 : Int64) (m1 : Int64) (h0 : Heap) (n0 : Nat) (Z0 : n0 ≤ h0.size) (E_o0 : Exa Z h0 o0 "com/example/graphkind/graphkind/Statements$Builder") (F_terms_o0 : Fld Z h0 o0 "com/example/graphkind/graphkind/Statements$Builder" "terms" "I" (.int (2 : Int32))) (F_start_o0 : Fld Z h0 o0 "com/example/graphkind/graphkind/Statements$Builder" "start" "[I" (.ref sa)) (F_next_o0 : Fld Z h0 o0 "com/example/graphkind/graphkind/Statements$Builder" "next" "[I" (.ref nx)) (F_values_o0 : Fld Z h0 o0 "com/example/graphkind/graphkind/Statements$Builder" "values" "[J" (.ref va)) (V_sa : Arv Z h0 sa ka .int (3 : Int32) [(.int (0 : Int32)), (.int (0 : Int32)), (.int (2 : Int32))] (.int (0 : Int32))) (V_nx : Arv Z h0 nx kx .int (2 : Int32) [(.int (0 : Int32)), (.int (2 : Int32))] (.int (0 : Int32))) (V_va : Arv Z h0 va kv .long (2 : Int32) [(.long v0), (.long v1)] (.long (0 : Int64))) (g_sa : n0 ≤ sa) (g_va : n0 ≤ va) (g_o0 : n0 ≤ o0) (ne_o0_sa : o0 ≠ sa) (ne_o0_nx : o0 ≠ nx) (ne_o0_va : o0 ≠ va) (ne_sa_nx : sa ≠ nx) (ne_sa_va : sa ≠ va) (ne_nx_va : nx ≠ va) (hl : (v1 < v0 ∧ m0 = v1 ∧ m1 = v0) ∨ (¬ v1 < v0 ∧ m0 = v0 ∧ m1 = v1)) (hm : (own_usrL m1 (1 : Int32)) = (own_usrL m0 (1 : Int32))) :
    MetFree l yN17 (head1 (Jvm.Cond.code yN17 prog_10_method_5_code 3 (some (.object "com/example/graphkind/graphkind/Statements")) :: ws) ({ frames := 5, cells := 2, slots := 3, locals := 104 } : Room)) (fun a U => a = #[(.ref o0)] ∧ Z.Warmed39 U.vm ∧ U.heap = h0) (fun _ _ _ _ _ => True) (fun _ U o U' => ∃ v L, o = .returned v ∧ Q_rm_buildC_1 Z o0 sa ka nx kx va kv v0 v1 m0 m1 h0 n0 v U'.heap L ∧ FrameEnd U o U' L ({ frames := 5, cells := 2, slots := 3, locals := 104 } : Room).cells ({ frames := 5, cells := 2, slots := 3, locals := 104 } : Room).slots) := by
  refine MetFree.of_bodySF (plainFor_of_name pn_rm_buildC_1) hisR ?_
  intro p e s m args below meth c s₁ Bd hml0 hP hK
  obtain ⟨rfl, hZ, hh⟩ := hP
  have hx := Bd.exec
  have hby := Bd.bytes
  have hml : c.maxLocals = 3 := hml0
  have hown : s.vm.findClass "com/example/graphkind/graphkind/Statements$Builder" = some m.cls := findClass_of_methodNamed Bd.named
  have hnm := (name_of_methodNamed Bd.named Bd.method).1
  have X0 : Stand p l e ({ frames := 5, cells := 2, slots := 3, locals := 104 } : Room) s m #[(.ref o0)] below meth c s₁ [] 0 0 := Stand.of_body Bd
  have e0 : s₁.heap = h0 := by rw [← hh, Bd.state]; rfl
  have N0 := Fr.nil n0
  have K0 := Keep.refl h0 [va, sa, o0]
  have go0 : Go p e below (s₁.setTop (entryFrame m #[(.ref o0)] 3)) (s₁.setTop (mkF m 0 #[vR o0, uu, uu] [])) := fun t k => castTop (ef_rm_buildC_1 m o0) k
  have go1 := go0.st s₁ (mkF m 6 #[vR o0, vI i0, vI i0] [sR o0, sI i0]) (fun t k => by
    refine XS.iconst X0.here hx rfl (hb hby d11_0) ?_
    refine XS.istoreN X0.here hx rfl (hb hby d11_1) rfl (l' := #[vR o0, vI i0, uu]) rfl ?_
    refine XS.iconst X0.here hx rfl (hb hby d11_2) ?_
    refine XS.istoreN X0.here hx rfl (hb hby d11_3) rfl (l' := #[vR o0, vI i0, vI i0]) rfl ?_
    refine XS.iloadN X0.here hx rfl (hb hby d11_4) rfl ?_
    refine XS.aloadN X0.here hx rfl (hb hby d11_5) rfl rfl ?_
    exact k)
  obtain ⟨T2, X2, e2, st2⟩ := getF X0 hx hZ hown (host := "") (Or.inl (wD hw 35 rfl)) Via.refl e0 F_terms_o0 (g := (mkF m 6 #[vR o0, vI i0, vI i0] [sR o0, sI i0])) rfl rfl (hb hby d11_6)
  have go4 := go1.st T2 (mkF m 15 #[vR o0, vI i0, vI i0] [sI i0, sI i0, sR o0]) (fun t k => by
    refine st2 _ ?_
    show SP p e below T2 (mkF m 9 #[vR o0, vI i0, vI i0] [sI i2, sI i0]) _
    refine XS.icmpNo X2.here hx rfl (hb hby d11_9) rfl (tlt ((by decide) : (0 : Int32) < (2 : Int32))).2.1 ?_
    refine XS.aloadN X2.here hx rfl (hb hby d11_12) rfl rfl ?_
    refine XS.iloadN X2.here hx rfl (hb hby d11_13) rfl ?_
    refine XS.iloadN X2.here hx rfl (hb hby d11_14) rfl ?_
    exact k)
  obtain ⟨cq5, q5, q5'⟩ := E_o0.cell
  obtain ⟨_, _, ⟨T5, L5, k5, n5⟩, -, X5, ⟨Lc5, hQ5, l5, y5, z5⟩, st5⟩ := X2.privateBack hx (y := yN16) hown (mvT hZ (wD hw 81 rfl)) (mvT hZ (wD hw 82 rfl)) (mvT hZ (own_selpriv (y := yN16) (by decide) (wD hw 29 rfl) (wD hw 83 rfl) (wD hw 82 rfl))) (Cond.privateMethod_at (mvP hZ (wD hw 83 rfl) (args := #[]))) (mvT hZ (wD hw 84 rfl)) (by decide) (backOf (W := 0) (rm_keepC0_p l Z a0 hw [] o0 (0 : Int32) sa ka nx kx h0 n0 Z0 F_start_o0 F_next_o0 V_sa V_nx g_sa ne_o0_sa ne_o0_nx ne_sa_nx) hZ (wD hw 84 rfl) (wD hw 30 rfl) (by decide) (by decide)) (g := (mkF m 15 #[vR o0, vI i0, vI i0] [sI i0, sI i0, sR o0])) rfl (by rw [hml]; rfl) (Steps.refl _) (a := o0) (by rw [e2]; exact q5) q5' (argsL := [(.int (0 : Int32)), (.int (0 : Int32))]) (rest := []) (lenOf pd_rm_buildC_1_0 rfl) rfl (by show 2 * 0 + _ ≤ _; exact Nat.le_of_eq rfl) (hb hby d11_15) (fun _ _ => ⟨rfl, e2, (by decide : 0 + 0 ≤ _), (by decide : 0 + 0 ≤ _)⟩)
  dsimp only [Pt.U, Pt.locs, Pt.cells, Pt.slots] at X5 l5 y5 z5 st5 hQ5
  rw [l5, y5, z5] at X5
  obtain ⟨rfl, N5q, K5, qp5_0⟩ := hQ5
  have N5 := Fr.app N0 N5q
  have f6 := E_o0.keep K5
  have f7 := F_terms_o0.keep K5 (ninS ne_o0_sa nin0)
  have f8 := F_start_o0.keep K5 (ninS ne_o0_sa nin0)
  have f9 := F_next_o0.keep K5 (ninS ne_o0_sa nin0)
  have f10 := F_values_o0.keep K5 (ninS ne_o0_sa nin0)
  have f12 := V_nx.keep K5 (ninS (Ne.symm ne_sa_nx) nin0)
  have f13 := V_va.keep K5 (ninS (Ne.symm ne_sa_va) nin0)
  have Z5 : n0 ≤ T5.heap.size := Nat.le_trans Z0 K5.1
  have KK5 := K0.trans K5 (allS (Or.inl (List.mem_of_getElem? (i := 1) rfl)) all0)
  have go14 := go4.st T5 (mkF m 6 #[vR o0, vI i0, vI i1] [sR o0, sI i1]) (fun t k => by
    refine st5.trans ?_
    show SP p e below T5 (mkF m 18 #[vR o0, vI i0, vI i0] [sI i0]) _
    refine XS.istoreN X5.here hx rfl (hb hby d11_18) rfl (l' := #[vR o0, vI i0, vI i0]) rfl ?_
    refine XS.iinc X5.here hx rfl (hb hby d11_19) rfl (l' := #[vR o0, vI i0, vI i1]) rfl ?_
    refine XS.goto X5.here hx rfl (pc0 := 22) (pc' := 4) rfl (hb hby d11_22) (by decide) (by decide) ?_
    refine XS.iloadN X5.here hx rfl (hb hby d11_4) rfl ?_
    refine XS.aloadN X5.here hx rfl (hb hby d11_5) rfl rfl ?_
    exact k)
  obtain ⟨T15, X15, e15, st15⟩ := getF X5 hx hZ hown (host := "") (Or.inl (wD hw 35 rfl)) Via.refl rfl f7 (g := (mkF m 6 #[vR o0, vI i0, vI i1] [sR o0, sI i1])) rfl rfl (hb hby d11_6)
  have go17 := go14.st T15 (mkF m 15 #[vR o0, vI i0, vI i1] [sI i0, sI i1, sR o0]) (fun t k => by
    refine st15 _ ?_
    show SP p e below T15 (mkF m 9 #[vR o0, vI i0, vI i1] [sI i2, sI i1]) _
    refine XS.icmpNo X15.here hx rfl (hb hby d11_9) rfl (tlt ((by decide) : (1 : Int32) < (2 : Int32))).2.1 ?_
    refine XS.aloadN X15.here hx rfl (hb hby d11_12) rfl rfl ?_
    refine XS.iloadN X15.here hx rfl (hb hby d11_13) rfl ?_
    refine XS.iloadN X15.here hx rfl (hb hby d11_14) rfl ?_
    exact k)
  obtain ⟨cq18, q18, q18'⟩ := f6.cell
  obtain ⟨_, _, ⟨T18, L18, k18, n18⟩, -, X18, ⟨Lc18, hQ18, l18, y18, z18⟩, st18⟩ := X15.privateBack hx (y := yN16) hown (mvT hZ (wD hw 81 rfl)) (mvT hZ (wD hw 82 rfl)) (mvT hZ (own_selpriv (y := yN16) (by decide) (wD hw 29 rfl) (wD hw 83 rfl) (wD hw 82 rfl))) (Cond.privateMethod_at (mvP hZ (wD hw 83 rfl) (args := #[]))) (mvT hZ (wD hw 84 rfl)) (by decide) (backOf (W := 0) (rm_keepC1_0_1 l Z a0 hw [] o0 sa ka nx kx va kv v0 v1 m0 m1 T5.heap n0 Z5 f8 f9 qp5_0 f12 g_sa f10 f13 g_va ne_o0_sa ne_o0_nx ne_o0_va ne_sa_nx ne_sa_va ne_nx_va hl hm) hZ (wD hw 84 rfl) (wD hw 30 rfl) (by decide) (by decide)) (g := (mkF m 15 #[vR o0, vI i0, vI i1] [sI i0, sI i1, sR o0])) rfl (by rw [hml]; rfl) (Steps.refl _) (a := o0) (by rw [e15]; exact q18) q18' (argsL := [(.int (1 : Int32)), (.int (0 : Int32))]) (rest := []) (lenOf pd_rm_buildC_1_0 rfl) rfl (by show 2 * 0 + _ ≤ _; exact Nat.le_of_eq rfl) (hb hby d11_15) (fun _ _ => ⟨rfl, e15, (by decide : 0 + 0 ≤ _), (by decide : 0 + 0 ≤ _)⟩)
  dsimp only [Pt.U, Pt.locs, Pt.cells, Pt.slots] at X18 l18 y18 z18 st18 hQ18
  rw [l18, y18, z18] at X18
  obtain ⟨rfl, N18q, K18, qp18_0, qp18_1⟩ := hQ18
  have N18 := Fr.app N5 N18q
  have f19 := f6.keep K18
  have f20 := f7.keep K18 (ninS ne_o0_va (ninS ne_o0_sa nin0))
  have f21 := f8.keep K18 (ninS ne_o0_va (ninS ne_o0_sa nin0))
  have f22 := f9.keep K18 (ninS ne_o0_va (ninS ne_o0_sa nin0))
  have f23 := f10.keep K18 (ninS ne_o0_va (ninS ne_o0_sa nin0))
  have f24 := f12.keep K18 (ninS ne_nx_va (ninS (Ne.symm ne_sa_nx) nin0))
  have Z18 : n0 ≤ T18.heap.size := Nat.le_trans Z5 K18.1
  have KK18 := KK5.trans K18 (allS (Or.inl (List.mem_of_getElem? (i := 0) rfl)) (allS (Or.inl (List.mem_of_getElem? (i := 1) rfl)) all0))
  have go27 := go17.st T18 (mkF m 6 #[vR o0, vI i1, vI i2] [sR o0, sI i2]) (fun t k => by
    refine st18.trans ?_
    show SP p e below T18 (mkF m 18 #[vR o0, vI i0, vI i1] [sI i1]) _
    refine XS.istoreN X18.here hx rfl (hb hby d11_18) rfl (l' := #[vR o0, vI i1, vI i1]) rfl ?_
    refine XS.iinc X18.here hx rfl (hb hby d11_19) rfl (l' := #[vR o0, vI i1, vI i2]) rfl ?_
    refine XS.goto X18.here hx rfl (pc0 := 22) (pc' := 4) rfl (hb hby d11_22) (by decide) (by decide) ?_
    refine XS.iloadN X18.here hx rfl (hb hby d11_4) rfl ?_
    refine XS.aloadN X18.here hx rfl (hb hby d11_5) rfl rfl ?_
    exact k)
  obtain ⟨T28, X28, e28, st28⟩ := getF X18 hx hZ hown (host := "") (Or.inl (wD hw 35 rfl)) Via.refl rfl f20 (g := (mkF m 6 #[vR o0, vI i1, vI i2] [sR o0, sI i2])) rfl rfl (hb hby d11_6)
  have go30 := go27.st T28 (mkF m 26 #[vR o0, vI i1, vI i2] [sR o0]) (fun t k => by
    refine st28 _ ?_
    show SP p e below T28 (mkF m 9 #[vR o0, vI i1, vI i2] [sI i2, sI i2]) _
    refine XS.icmpYes X28.here hx rfl (pc0 := 9) (pc' := 25) rfl (hb hby d11_9) rfl (flt ((by decide) : ¬ ((2 : Int32) < (2 : Int32)))).2.1 (by decide) (by decide) ?_
    refine XS.aloadN X28.here hx rfl (hb hby d11_25) rfl rfl ?_
    exact k)
  obtain ⟨T31, X31, e31, st31⟩ := getF X28 hx hZ hown (host := "") (Or.inl (wD hw 37 rfl)) Via.refl e28 f21 (g := (mkF m 26 #[vR o0, vI i1, vI i2] [sR o0])) rfl rfl (hb hby d11_26)
  have go32 := go30.st T31 (mkF m 30 #[vR o0, vI i1, vI i2] [sR o0, sR sa]) (fun t k => by
    refine st31 _ ?_
    show SP p e below T31 (mkF m 29 #[vR o0, vI i1, vI i2] [sR sa]) _
    refine XS.aloadN X31.here hx rfl (hb hby d11_29) rfl rfl ?_
    exact k)
  obtain ⟨T33, X33, e33, st33⟩ := getF X31 hx hZ hown (host := "") (Or.inl (wD hw 35 rfl)) Via.refl e31 f20 (g := (mkF m 30 #[vR o0, vI i1, vI i2] [sR o0, sR sa])) rfl rfl (hb hby d11_30)
  have go34 := go32.st T33 (mkF m 34 #[vR o0, vI i1, vI i2] [sI i1, sI i2, sR sa]) (fun t k => by
    refine st33 _ ?_
    show SP p e below T33 (mkF m 33 #[vR o0, vI i1, vI i2] [sI i2, sR sa]) _
    refine XS.iloadN X33.here hx rfl (hb hby d11_33) rfl ?_
    exact k)
  have Vo35 := qp18_0
  obtain ⟨cl35, Ar35, qa35, Sa35, Na35, Ha35, Ga35⟩ := Vo35
  have hin35 := inb_of (j := (2 : Int32)) Sa35 ⟨by decide, by decide⟩
  obtain ⟨T36, h36, X36, e36, W36, st36⟩ := stI X33 hx hZ e33 Ar35 (j := (2 : Int32)) hin35 (g := (mkF m 34 #[vR o0, vI i1, vI i2] [sI i1, sI i2, sR sa])) rfl rfl (hb hby d11_34)
  have V36 : Arv Z h36 sa ka .int (3 : Int32) [(.int (0 : Int32)), (.int (0 : Int32)), (.int (1 : Int32))] (.int (0 : Int32)) := Arv.set Ar35 qa35 Sa35 Na35 Ha35 Ga35 rfl W36 2 rfl (Nat.le_of_ble_eq_true rfl)
  have f37 := f19.wr W36
  have f38 := Fld.other W36 f20 (Or.inl ne_o0_sa)
  have f39 := Fld.other W36 f21 (Or.inl ne_o0_sa)
  have f40 := Fld.other W36 f22 (Or.inl ne_o0_sa)
  have f41 := Fld.other W36 f23 (Or.inl ne_o0_sa)
  have f42 := Arv.other f24 W36 (Ne.symm ne_sa_nx)
  have f44 := Arv.other qp18_1 W36 (Ne.symm ne_sa_va)
  have Z36 : n0 ≤ h36.size := Nat.le_trans Z18 (Nat.le_of_eq W36.size.symm)
  have K36 := KK18.wr W36 (Or.inl (List.mem_of_getElem? (i := 1) rfl))
  have N36 := Fr.snoc X36 N18 g_sa
  have go45 := go34.st T36 (mkF m 37 #[vR o0, vI i1, vI i2] [.null, sR o0]) (fun t k => by
    refine st36 _ ?_
    show SP p e below T36 (mkF m 35 #[vR o0, vI i1, vI i2] []) _
    refine XS.aloadN X36.here hx rfl (hb hby d11_35) rfl rfl ?_
    refine XS.aconstNull X36.here hx rfl (hb hby d11_36) ?_
    exact k)
  obtain ⟨T46, h46, X46, e46, W46, st46⟩ := putF X36 hx hZ hown (host := "") (Or.inl (wD hw 66 rfl)) Via.refl e36 f40 f37 (Or.inl (wD hw 67 rfl)) (wD hw 29 rfl) (ty := (.array .int)) (by decide) rfl rfl (g := (mkF m 37 #[vR o0, vI i1, vI i2] [.null, sR o0])) rfl rfl (hb hby d11_37)
  have f47 := f37.wr W46
  have f48 := Fld.other W46 f38 (Or.inr (slot_ne (Or.inr (wD hw 36 rfl)) (Or.inl (wD hw 67 rfl)) (by decide) (t := .int) (t' := (.array .int)) (by decide) (by decide)))
  have f49 := Fld.other W46 f39 (Or.inr (slot_ne (Or.inr (wD hw 38 rfl)) (Or.inl (wD hw 67 rfl)) (by decide) (t := (.array .int)) (t' := (.array .int)) (by decide) (by decide)))
  have f50 := Fld.same W46 f40
  have f51 := Fld.other W46 f41 (Or.inr (slot_ne (Or.inl (wD hw 70 rfl)) (Or.inl (wD hw 67 rfl)) (by decide) (t := (.array .long)) (t' := (.array .int)) (by decide) (by decide)))
  have f52 := Arv.other f42 W46 (Ne.symm ne_o0_nx)
  have f53 := Arv.other f44 W46 (Ne.symm ne_o0_va)
  have f54 := Arv.other V36 W46 (Ne.symm ne_o0_sa)
  have Z46 : n0 ≤ h46.size := Nat.le_trans Z36 (Nat.le_of_eq W46.size.symm)
  have K46 := K36.wr W46 (Or.inl (List.mem_of_getElem? (i := 2) rfl))
  have N46 := Fr.snoc X46 N36 g_o0
  have go55 := go45.st T46 (mkF m 40 #[vR o0, vI i1, vI i2] []) (fun t k => by
    refine st46 _ ?_
    exact k)
  obtain ⟨T56, h56, X56, e56, E56, A56, D56, -, st56⟩ := newO X46 hx hZ hown (wD hw 101 rfl) (wD hw 102 rfl) (wD hw 103 rfl) e46 (g := (mkF m 40 #[vR o0, vI i1, vI i2] [])) rfl (hb hby d11_40) (by decide) (by decide)
  obtain ⟨b56, g56⟩ : ∃ z, z = h46.size := ⟨_, rfl⟩
  rw [← g56] at A56 D56 st56
  have ne_o0_b56 : o0 ≠ b56 := Nat.ne_of_lt (Nat.lt_of_lt_of_le f47.lt (Nat.le_of_eq g56.symm))
  have ne_sa_b56 : sa ≠ b56 := Nat.ne_of_lt (Nat.lt_of_lt_of_le f54.lt (Nat.le_of_eq g56.symm))
  have ne_nx_b56 : nx ≠ b56 := Nat.ne_of_lt (Nat.lt_of_lt_of_le f52.lt (Nat.le_of_eq g56.symm))
  have ne_va_b56 : va ≠ b56 := Nat.ne_of_lt (Nat.lt_of_lt_of_le f53.lt (Nat.le_of_eq g56.symm))
  have g_b56 : n0 ≤ b56 := Nat.le_trans Z46 (Nat.le_of_eq g56.symm)
  have sz_b56 : h0.size ≤ b56 := Nat.le_trans K46.1 (Nat.le_of_eq g56.symm)
  have f57 := f47.ext E56
  have f58 := f48.ext E56
  have f59 := f49.ext E56
  have f60 := f50.ext E56
  have f61 := f51.ext E56
  have f62 := f52.ext E56
  have f63 := f53.ext E56
  have f64 := f54.ext E56
  have F56_start : Fld Z h56 b56 "com/example/graphkind/graphkind/Statements" "start" "[I" .null := D56 (Or.inr (wD hw 109 rfl)) (ty := (.array .int)) (by decide)
  have F56_values : Fld Z h56 b56 "com/example/graphkind/graphkind/Statements" "values" "[J" .null := D56 (Or.inr (wD hw 111 rfl)) (ty := (.array .long)) (by decide)
  have Z56 : n0 ≤ h56.size := Nat.le_trans Z46 E56.1
  have K56 := K46.ext E56
  have go65 := go55.st T56 (mkF m 45 #[vR o0, vI i1, vI i2] [sR o0, sR b56, sR b56]) (fun t k => by
    refine st56 _ ?_
    show SP p e below T56 (mkF m 43 #[vR o0, vI i1, vI i2] [sR b56]) _
    refine XS.dup X56.here hx rfl (hb hby d11_43) rfl rfl ?_
    refine XS.aloadN X56.here hx rfl (hb hby d11_44) rfl rfl ?_
    exact k)
  obtain ⟨T66, X66, e66, st66⟩ := getF X56 hx hZ hown (host := "") (Or.inl (wD hw 37 rfl)) Via.refl e56 f59 (g := (mkF m 45 #[vR o0, vI i1, vI i2] [sR o0, sR b56, sR b56])) rfl rfl (hb hby d11_45)
  have go67 := go65.st T66 (mkF m 50 #[vR o0, vI i1, vI i2] [sR o0, sI i1, sR sa, sR b56, sR b56]) (fun t k => by
    refine st66 _ ?_
    show SP p e below T66 (mkF m 48 #[vR o0, vI i1, vI i2] [sR sa, sR b56, sR b56]) _
    refine XS.iloadN X66.here hx rfl (hb hby d11_48) rfl ?_
    refine XS.aloadN X66.here hx rfl (hb hby d11_49) rfl rfl ?_
    exact k)
  obtain ⟨T68, X68, e68, st68⟩ := getF X66 hx hZ hown (host := "") (Or.inl (wD hw 69 rfl)) Via.refl e66 f61 (g := (mkF m 50 #[vR o0, vI i1, vI i2] [sR o0, sI i1, sR sa, sR b56, sR b56])) rfl rfl (hb hby d11_50)
  have go69 := go67.st T68 (mkF m 53 #[vR o0, vI i1, vI i2] [sR va, sI i1, sR sa, sR b56, sR b56]) (fun t k => by
    refine st68 _ ?_
    exact k)
  have Vo70 := f63
  obtain ⟨cl70, Ar70, qa70, Sa70, Na70, Ha70, Ga70⟩ := Vo70
  have go72 := go69.st T68 (mkF m 65 #[vR o0, vI i1, vI i2] [sR o0, sR sa, sR b56, sR b56]) (fun t k => by
    refine X68.arraylength hx (by rw [e68]; exact Ar70.1) (State.isArrayOf_alike hZ.alike Ar70.2.1) (g := (mkF m 53 #[vR o0, vI i1, vI i2] [sR va, sI i1, sR sa, sR b56, sR b56])) rfl rfl (hb hby d11_53) _ ?_
    rw [len_of Sa70 Na70]
    refine XS.icmpYes X68.here hx rfl (pc0 := 54) (pc' := 64) rfl (hb hby d11_54) rfl (feq ((by decide) : ¬ ((1 : Int32) = (2 : Int32)))).2 (by decide) (by decide) ?_
    refine XS.aloadN X68.here hx rfl (hb hby d11_64) rfl rfl ?_
    exact k)
  obtain ⟨T73, X73, e73, st73⟩ := getF X68 hx hZ hown (host := "") (Or.inl (wD hw 69 rfl)) Via.refl e68 f61 (g := (mkF m 65 #[vR o0, vI i1, vI i2] [sR o0, sR sa, sR b56, sR b56])) rfl rfl (hb hby d11_65)
  have go74 := go72.st T73 (mkF m 69 #[vR o0, vI i1, vI i2] [sI i1, sR va, sR sa, sR b56, sR b56]) (fun t k => by
    refine st73 _ ?_
    show SP p e below T73 (mkF m 68 #[vR o0, vI i1, vI i2] [sR va, sR sa, sR b56, sR b56]) _
    refine XS.iloadN X73.here hx rfl (hb hby d11_68) rfl ?_
    exact k)
  obtain ⟨_, _, ⟨T75, L75, k75, n75⟩, -, X75, ⟨Lc75, hQ75, l75, y75, z75⟩, st75⟩ := Jvm.LawKit.callS X73 hx (y := yN6) hown (mvT hZ (wD hw 136 rfl)) (mvT hZ (wD hw 137 rfl)) (mvT hZ (wD hw 56 rfl)) (mvT hZ (wD hw 138 rfl)) (by decide) (backOf (W := 3) (rm_cpJ l Z a0 hw [] va kv (m0 ||| m1) m1 h56 n0 Z56 f63) hZ (wD hw 138 rfl) (wD hw 56 rfl) (by decide) (by decide)) (g := (mkF m 69 #[vR o0, vI i1, vI i2] [sI i1, sR va, sR sa, sR b56, sR b56])) rfl (by rw [hml]; rfl) (argsL := [(.ref va), (.int (1 : Int32))]) (rest := [(.ref sa), (.ref b56), (.ref b56)]) (lenOf pd_rm_buildC_1_1 rfl) rfl (by show 2 * 0 + _ ≤ _; exact Nat.le_of_eq rfl) (hb hby d11_69) (fun _ _ => ⟨rfl, e73, (by decide : 1 + 1 ≤ _), (by decide : 2 + 1 ≤ _)⟩)
  dsimp only [Pt.U, Pt.locs, Pt.cells, Pt.slots] at X75 l75 y75 z75 st75 hQ75
  rw [l75, y75, z75] at X75
  obtain ⟨b_75, kb_75, rfl, N75q, K75, qp75_0, qp75_1, qp75_2⟩ := hQ75
  have N75 := Fr.app N46 N75q
  have f76 := f57.keep K75
  have f77 := f58.keep K75 nin0
  have f78 := f59.keep K75 nin0
  have f79 := f60.keep K75 nin0
  have f80 := f61.keep K75 nin0
  have f81 := f62.keep K75 nin0
  have f82 := f63.keep K75 nin0
  have f83 := f64.keep K75 nin0
  have f84 := A56.keep K75
  have f85 := F56_start.keep K75 nin0
  have f86 := F56_values.keep K75 nin0
  have Z75 : n0 ≤ T75.heap.size := Nat.le_trans Z56 K75.1
  have KK75 := K56.trans K75 all0
  have g_b_75 := qp75_0
  have sz_b_75 := Nat.le_trans K56.1 qp75_1
  have ne_o0_b_75 : o0 ≠ b_75 := Nat.ne_of_lt (Nat.lt_of_lt_of_le f57.lt qp75_1)
  have ne_nx_b_75 : nx ≠ b_75 := Nat.ne_of_lt (Nat.lt_of_lt_of_le f62.lt qp75_1)
  have ne_va_b_75 : va ≠ b_75 := Nat.ne_of_lt (Nat.lt_of_lt_of_le f63.lt qp75_1)
  have ne_sa_b_75 : sa ≠ b_75 := Nat.ne_of_lt (Nat.lt_of_lt_of_le f64.lt qp75_1)
  have ne_b56_b_75 : b56 ≠ b_75 := Nat.ne_of_lt (Nat.lt_of_lt_of_le A56.lt qp75_1)
  have go87 := go74.st T75 (mkF m 72 #[vR o0, vI i1, vI i2] [sR b_75, sR sa, sR b56, sR b56]) (fun t k => by
    refine st75 _ ?_
    exact k)
  obtain ⟨_, _, ⟨T88, L88, k88, n88⟩, -, X88, ⟨Lc88, hQ88, l88, y88, z88⟩, st88⟩ := X75.specialBackNest hx (y := yN15) rfl hown (own_mvM hZ (wD hw 104 rfl)) (mvT hZ (wD hw 105 rfl)) (mvT hZ (wD hw 106 rfl)) (by decide) (backOf (W := 1) (rm_sinit l Z a0 hw [] b56 sa b_75 T75.heap n0 Z75 f84 g_b56 f85 f86) hZ (wD hw 106 rfl) (wD hw 103 rfl) (by decide) (by decide)) (g := (mkF m 72 #[vR o0, vI i1, vI i2] [sR b_75, sR sa, sR b56, sR b56])) rfl (by rw [hml]; rfl) (Steps.refl _) (a := b56) (argsL := [(.ref sa), (.ref b_75)]) (rest := [(.ref b56)]) (lenOf pd_rm_buildC_1_2 rfl) rfl (by show 2 * 0 + _ ≤ _; exact Nat.le_of_eq rfl) (hb hby d11_72) (fun _ _ => ⟨rfl, rfl, (by decide : 2 + 0 ≤ _), (by decide : 3 + 0 ≤ _)⟩)
  dsimp only [Pt.U, Pt.locs, Pt.cells, Pt.slots] at X88 l88 y88 z88 st88 hQ88
  rw [l88, y88, z88] at X88
  obtain ⟨rfl, N88q, K88, qp88_0, qp88_1, qp88_2⟩ := hQ88
  have N88 := Fr.app N75 N88q
  have f89 := f76.keep K88
  have f90 := f77.keep K88 (ninS ne_o0_b56 nin0)
  have f91 := f78.keep K88 (ninS ne_o0_b56 nin0)
  have f92 := f79.keep K88 (ninS ne_o0_b56 nin0)
  have f93 := f80.keep K88 (ninS ne_o0_b56 nin0)
  have f94 := f81.keep K88 (ninS ne_nx_b56 nin0)
  have f95 := f82.keep K88 (ninS ne_va_b56 nin0)
  have f96 := f83.keep K88 (ninS ne_sa_b56 nin0)
  have f97 := f84.keep K88
  have f100 := qp75_2.keep K88 (ninS (Ne.symm ne_b56_b_75) nin0)
  have Z88 : n0 ≤ T88.heap.size := Nat.le_trans Z75 K88.1
  have KK88 := KK75.trans K88 (allS (Or.inr sz_b56) all0)
  have go101 := go87.st T88 (mkF m 75 #[vR o0, vI i1, vI i2] [sR b56]) (fun t k => by
    refine st88.trans ?_
    exact k)
  obtain ⟨fs, hr, hrun, hended, hW, hsame⟩ := X88.leave (v := some (.ref b56)) (fun h => by rw [Bd.returns] at h; cases h)
  refine ⟨_, _, go101 _ ?_, hrun, hended, _, _, rfl, ?_, ⟨_, rfl⟩, hW, hsame.mono (by decide) (by decide)⟩
  · exact own_retA X88 hx Bd.returns rfl rfl (hb hby d11_75) hr
  · show Q_rm_buildC_1 Z o0 sa ka nx kx va kv v0 v1 m0 m1 h0 n0 _ T88.heap _
    exact ⟨b56, b_75, kb_75, rfl, N88, KK88, g_b56, sz_b56, qp88_0, qp88_1, qp88_2, f96, f100⟩
theorem pn_rm_keepC1_0_0 : plainName "com/example/graphkind/graphkind/Statements$Builder" = true := by first | (simp [plainName, overriddenIn]; done) | decide +kernel
theorem pd_rm_keepC1_0_0_0 : parseMethodDescriptor "([JII)V" = some ⟨[(.array .long), .int, .int], none⟩ := by decide +kernel
theorem ef_rm_keepC1_0_0 (m : MethodId) (o0 : Addr) : entryFrame m #[(.ref o0), (.int (1 : Int32)), (.int (0 : Int32))] 7 = mkF m 0 #[.val (.ref o0), .val (.int (1 : Int32)), .val (.int (0 : Int32)), uu, uu, uu, uu] [] := by first | (simp [entryFrame, mkF, argsToLocals, Value.category]; done) | rfl
def Q_rm_keepC1_0_0 (Z : State) (o0 : Addr) (sa : Addr) (ka : ClassId) (nx : Addr) (kx : ClassId) (va : Addr) (kv : ClassId) (v0 : Int64) (v1 : Int64) (m0 : Int64) (m1 : Int64) (h0 : Heap) (n0 : Nat) (v : Option Value) (h : Heap) (L : List Loc) : Prop := v = some (.int (2 : Int32)) ∧ Fr n0 L ∧ Keep h0 h [va, sa] ∧ Arv Z h sa ka .int (3 : Int32) [(.int (0 : Int32)), (.int (0 : Int32)), (.int (2 : Int32))] (.int (0 : Int32)) ∧ Arv Z h va kv .long (2 : Int32) [(.long m0), (.long m1)] (.long (0 : Int64))
set_option maxRecDepth 65536 in
set_option maxHeartbeats 40000000 in
theorem rm_keepC1_0_0 (l : Launch) (Z : State) (a0 : Array Value) (hw : ∀ d ∈ tables_1, d.before a0 Z = true) (ws : List Jvm.Cond) (o0 : Addr) (sa : Addr) (ka : ClassId) (nx : Addr) (kx : ClassId) (va : Addr) (kv : ClassId) (v0 : Int64) (v1 : Int64) (m0 : Int64) (m1 : Int64) (h0 : Heap) (n0 : Nat) (Z0 : n0 ≤ h0.size) (F_start_o0 : Fld Z h0 o0 "com/example/graphkind/graphkind/Statements$Builder" "start" "[I" (.ref sa)) (F_next_o0 : Fld Z h0 o0 "com/example/graphkind/graphkind/Statements$Builder" "next" "[I" (.ref nx)) (V_sa : Arv Z h0 sa ka .int (3 : Int32) [(.int (0 : Int32)), (.int (0 : Int32)), (.int (2 : Int32))] (.int (0 : Int32))) (V_nx : Arv Z h0 nx kx .int (2 : Int32) [(.int (0 : Int32)), (.int (2 : Int32))] (.int (0 : Int32))) (g_sa : n0 ≤ sa) (F_values_o0 : Fld Z h0 o0 "com/example/graphkind/graphkind/Statements$Builder" "values" "[J" (.ref va)) (V_va : Arv Z h0 va kv .long (2 : Int32) [(.long v0), (.long v1)] (.long (0 : Int64))) (g_va : n0 ≤ va) (ne_o0_sa : o0 ≠ sa) (ne_o0_nx : o0 ≠ nx) (ne_o0_va : o0 ≠ va) (ne_sa_nx : sa ≠ nx) (ne_sa_va : sa ≠ va) (ne_nx_va : nx ≠ va) (hl : (v1 < v0 ∧ m0 = v1 ∧ m1 = v0) ∨ (¬ v1 < v0 ∧ m0 = v0 ∧ m1 = v1)) (hm : ¬ ((own_usrL m1 (1 : Int32)) = (own_usrL m0 (1 : Int32)))) :
    MetFree l yN16 (head1 (Jvm.Cond.code yN16 prog_10_method_6_code 7 (some .int) :: ws) ({ frames := 4, cells := 0, slots := 0, locals := 86 } : Room)) (fun a U => a = #[(.ref o0), (.int (1 : Int32)), (.int (0 : Int32))] ∧ Z.Warmed39 U.vm ∧ U.heap = h0) (fun _ _ _ _ _ => True) (fun _ U o U' => ∃ v L, o = .returned v ∧ Q_rm_keepC1_0_0 Z o0 sa ka nx kx va kv v0 v1 m0 m1 h0 n0 v U'.heap L ∧ FrameEnd U o U' L ({ frames := 4, cells := 0, slots := 0, locals := 86 } : Room).cells ({ frames := 4, cells := 0, slots := 0, locals := 86 } : Room).slots) := by
  refine MetFree.of_bodySF (plainFor_of_name pn_rm_keepC1_0_0) hisR ?_
  intro p e s m args below meth c s₁ Bd hml0 hP hK
  obtain ⟨rfl, hZ, hh⟩ := hP
  have hx := Bd.exec
  have hby := Bd.bytes
  have hml : c.maxLocals = 7 := hml0
  have hown : s.vm.findClass "com/example/graphkind/graphkind/Statements$Builder" = some m.cls := findClass_of_methodNamed Bd.named
  have hnm := (name_of_methodNamed Bd.named Bd.method).1
  have X0 : Stand p l e ({ frames := 4, cells := 0, slots := 0, locals := 86 } : Room) s m #[(.ref o0), (.int (1 : Int32)), (.int (0 : Int32))] below meth c s₁ [] 0 0 := Stand.of_body Bd
  have e0 : s₁.heap = h0 := by rw [← hh, Bd.state]; rfl
  have N0 := Fr.nil n0
  have K0 := Keep.refl h0 [va, sa]
  have go0 : Go p e below (s₁.setTop (entryFrame m #[(.ref o0), (.int (1 : Int32)), (.int (0 : Int32))] 7)) (s₁.setTop (mkF m 0 #[vR o0, vI i1, vI i0, uu, uu, uu, uu] [])) := fun t k => castTop (ef_rm_keepC1_0_0 m o0) k
  have go1 := go0.st s₁ (mkF m 1 #[vR o0, vI i1, vI i0, uu, uu, uu, uu] [sR o0]) (fun t k => by
    refine XS.aloadN X0.here hx rfl (hb hby d12_0) rfl rfl ?_
    exact k)
  obtain ⟨T2, X2, e2, st2⟩ := getF X0 hx hZ hown (host := "") (Or.inl (wD hw 37 rfl)) Via.refl e0 F_start_o0 (g := (mkF m 1 #[vR o0, vI i1, vI i0, uu, uu, uu, uu] [sR o0])) rfl rfl (hb hby d12_1)
  have go3 := go1.st T2 (mkF m 5 #[vR o0, vI i1, vI i0, uu, uu, uu, uu] [sI i1, sR sa]) (fun t k => by
    refine st2 _ ?_
    show SP p e below T2 (mkF m 4 #[vR o0, vI i1, vI i0, uu, uu, uu, uu] [sR sa]) _
    refine XS.iloadN X2.here hx rfl (hb hby d12_4) rfl ?_
    exact k)
  have Vo4 := V_sa
  obtain ⟨cl4, Ar4, qa4, Sa4, Na4, Ha4, Ga4⟩ := Vo4
  have hin4 := inb_of (j := (1 : Int32)) Sa4 ⟨by decide, by decide⟩
  have hat4 : cl4.slots[((1 : Int32)).toNatClampNeg]? = some (.int (0 : Int32)) := Has.at Ha4 hin4 rfl
  have go5 := go3.st T2 (mkF m 8 #[vR o0, vI i1, vI i0, vI i0, uu, uu, uu] [sR o0]) (fun t k => by
    refine X2.iaload hx (j := (1 : Int32)) (v := (.int (0 : Int32))) (by rw [e2]; exact Ar4.1) (State.isArrayOf_alike hZ.alike Ar4.2.1) Ar4.2.2 hin4 hat4 (g := (mkF m 5 #[vR o0, vI i1, vI i0, uu, uu, uu, uu] [sI i1, sR sa])) rfl rfl (hb hby d12_5) _ ?_
    refine XS.istoreN X2.here hx rfl (hb hby d12_6) rfl (l' := #[vR o0, vI i1, vI i0, vI i0, uu, uu, uu]) rfl ?_
    refine XS.aloadN X2.here hx rfl (hb hby d12_7) rfl rfl ?_
    exact k)
  obtain ⟨T6, X6, e6, st6⟩ := getF X2 hx hZ hown (host := "") (Or.inl (wD hw 66 rfl)) Via.refl e2 F_next_o0 (g := (mkF m 8 #[vR o0, vI i1, vI i0, vI i0, uu, uu, uu] [sR o0])) rfl rfl (hb hby d12_8)
  have go7 := go5.st T6 (mkF m 12 #[vR o0, vI i1, vI i0, vI i0, uu, uu, uu] [sI i1, sR nx]) (fun t k => by
    refine st6 _ ?_
    show SP p e below T6 (mkF m 11 #[vR o0, vI i1, vI i0, vI i0, uu, uu, uu] [sR nx]) _
    refine XS.iloadN X6.here hx rfl (hb hby d12_11) rfl ?_
    exact k)
  have Vo8 := V_nx
  obtain ⟨cl8, Ar8, qa8, Sa8, Na8, Ha8, Ga8⟩ := Vo8
  have hin8 := inb_of (j := (1 : Int32)) Sa8 ⟨by decide, by decide⟩
  have hat8 : cl8.slots[((1 : Int32)).toNatClampNeg]? = some (.int (2 : Int32)) := Has.at Ha8 hin8 rfl
  have go10 := go7.st T6 (mkF m 24 #[vR o0, vI i1, vI i0, vI i0, vI i2, uu, uu] [sR o0]) (fun t k => by
    refine X6.iaload hx (j := (1 : Int32)) (v := (.int (2 : Int32))) (by rw [e6]; exact Ar8.1) (State.isArrayOf_alike hZ.alike Ar8.2.1) Ar8.2.2 hin8 hat8 (g := (mkF m 12 #[vR o0, vI i1, vI i0, vI i0, uu, uu, uu] [sI i1, sR nx])) rfl rfl (hb hby d12_12) _ ?_
    refine XS.istore X6.here hx rfl (hb hby d12_13) rfl (l' := #[vR o0, vI i1, vI i0, vI i0, vI i2, uu, uu]) rfl ?_
    refine XS.iload X6.here hx rfl (hb hby d12_15) rfl ?_
    refine XS.iloadN X6.here hx rfl (hb hby d12_17) rfl ?_
    refine XS.isub X6.here hx rfl (hb hby d12_18) rfl ?_
    refine XS.iconst X6.here hx rfl (hb hby d12_19) ?_
    refine XS.icmpNo X6.here hx rfl (hb hby d12_20) rfl (tlt ((by decide) : (1 : Int32) < (2 : Int32))).2.2.2 ?_
    refine XS.aloadN X6.here hx rfl (hb hby d12_23) rfl rfl ?_
    exact k)
  obtain ⟨T11, X11, e11, st11⟩ := getF X6 hx hZ hown (host := "") (Or.inl (wD hw 69 rfl)) Via.refl e6 F_values_o0 (g := (mkF m 24 #[vR o0, vI i1, vI i0, vI i0, vI i2, uu, uu] [sR o0])) rfl rfl (hb hby d12_24)
  have go12 := go10.st T11 (mkF m 30 #[vR o0, vI i1, vI i0, vI i0, vI i2, uu, uu] [sI i2, sI i0, sR va]) (fun t k => by
    refine st11 _ ?_
    show SP p e below T11 (mkF m 27 #[vR o0, vI i1, vI i0, vI i0, vI i2, uu, uu] [sR va]) _
    refine XS.iloadN X11.here hx rfl (hb hby d12_27) rfl ?_
    refine XS.iload X11.here hx rfl (hb hby d12_28) rfl ?_
    exact k)
  obtain ⟨_, _, ⟨T13, L13, k13, n13⟩, -, X13, ⟨Lc13, hQ13, l13, y13, z13⟩, st13⟩ := Jvm.LawKit.callS X11 hx (y := yN14) hown (mvT hZ (wD hw 85 rfl)) (mvT hZ (wD hw 86 rfl)) (mvT hZ (wD hw 56 rfl)) (mvT hZ (wD hw 87 rfl)) (by decide) (backOf (W := 0) (rm_sort l Z a0 hw [] va kv v0 v1 m0 m1 h0 n0 Z0 V_va g_va hl) hZ (wD hw 87 rfl) (wD hw 56 rfl) (by decide) (by decide)) (g := (mkF m 30 #[vR o0, vI i1, vI i0, vI i0, vI i2, uu, uu] [sI i2, sI i0, sR va])) rfl (by rw [hml]; rfl) (argsL := [(.ref va), (.int (0 : Int32)), (.int (2 : Int32))]) (rest := []) (lenOf pd_rm_keepC1_0_0_0 rfl) rfl (by show 2 * 0 + _ ≤ _; exact Nat.le_of_eq rfl) (hb hby d12_30) (fun _ _ => ⟨rfl, e11, (by decide : 0 + 0 ≤ _), (by decide : 0 + 0 ≤ _)⟩)
  dsimp only [Pt.U, Pt.locs, Pt.cells, Pt.slots] at X13 l13 y13 z13 st13 hQ13
  rw [l13, y13, z13] at X13
  obtain ⟨rfl, N13q, K13, qp13_0⟩ := hQ13
  have N13 := Fr.app N0 N13q
  have f14 := F_start_o0.keep K13 (ninS ne_o0_va nin0)
  have f15 := F_next_o0.keep K13 (ninS ne_o0_va nin0)
  have f16 := V_sa.keep K13 (ninS ne_sa_va nin0)
  have f17 := V_nx.keep K13 (ninS ne_nx_va nin0)
  have f18 := F_values_o0.keep K13 (ninS ne_o0_va nin0)
  have Z13 : n0 ≤ T13.heap.size := Nat.le_trans Z0 K13.1
  have KK13 := K0.trans K13 (allS (Or.inl (List.mem_of_getElem? (i := 0) rfl)) all0)
  have go20 := go12.st T13 (mkF m 37 #[vR o0, vI i1, vI i0, vI i0, vI i2, vI i0, uu] [sR o0]) (fun t k => by
    refine st13 _ ?_
    show SP p e below T13 (mkF m 33 #[vR o0, vI i1, vI i0, vI i0, vI i2, uu, uu] []) _
    refine XS.iloadN X13.here hx rfl (hb hby d12_33) rfl ?_
    refine XS.istore X13.here hx rfl (hb hby d12_34) rfl (l' := #[vR o0, vI i1, vI i0, vI i0, vI i2, vI i0, uu]) rfl ?_
    refine XS.aloadN X13.here hx rfl (hb hby d12_36) rfl rfl ?_
    exact k)
  obtain ⟨T21, X21, e21, st21⟩ := getF X13 hx hZ hown (host := "") (Or.inl (wD hw 37 rfl)) Via.refl rfl f14 (g := (mkF m 37 #[vR o0, vI i1, vI i0, vI i0, vI i2, vI i0, uu] [sR o0])) rfl rfl (hb hby d12_37)
  have go22 := go20.st T21 (mkF m 43 #[vR o0, vI i1, vI i0, vI i0, vI i2, vI i0, uu] [sI i0, sI i1, sR sa]) (fun t k => by
    refine st21 _ ?_
    show SP p e below T21 (mkF m 40 #[vR o0, vI i1, vI i0, vI i0, vI i2, vI i0, uu] [sR sa]) _
    refine XS.iloadN X21.here hx rfl (hb hby d12_40) rfl ?_
    refine XS.iload X21.here hx rfl (hb hby d12_41) rfl ?_
    exact k)
  have Vo23 := f16
  obtain ⟨cl23, Ar23, qa23, Sa23, Na23, Ha23, Ga23⟩ := Vo23
  have hin23 := inb_of (j := (1 : Int32)) Sa23 ⟨by decide, by decide⟩
  obtain ⟨T24, h24, X24, e24, W24, st24⟩ := stI X21 hx hZ e21 Ar23 (j := (1 : Int32)) hin23 (g := (mkF m 43 #[vR o0, vI i1, vI i0, vI i0, vI i2, vI i0, uu] [sI i0, sI i1, sR sa])) rfl rfl (hb hby d12_43)
  have V24 : Arv Z h24 sa ka .int (3 : Int32) [(.int (0 : Int32)), (.int (0 : Int32)), (.int (2 : Int32))] (.int (0 : Int32)) := Arv.set Ar23 qa23 Sa23 Na23 Ha23 Ga23 rfl W24 1 rfl (Nat.le_of_ble_eq_true rfl)
  have f25 := Fld.other W24 f14 (Or.inl ne_o0_sa)
  have f26 := Fld.other W24 f15 (Or.inl ne_o0_sa)
  have f28 := Arv.other f17 W24 (Ne.symm ne_sa_nx)
  have f29 := Fld.other W24 f18 (Or.inl ne_o0_sa)
  have f30 := Arv.other qp13_0 W24 (Ne.symm ne_sa_va)
  have Z24 : n0 ≤ h24.size := Nat.le_trans Z13 (Nat.le_of_eq W24.size.symm)
  have K24 := KK13.wr W24 (Or.inl (List.mem_of_getElem? (i := 1) rfl))
  have N24 := Fr.snoc X24 N13 g_sa
  have go33 := go22.st T24 (mkF m 107 #[vR o0, vI i1, vI i0, vI i0, vI i2, vI i0, vI i0] [sR o0]) (fun t k => by
    refine st24 _ ?_
    show SP p e below T24 (mkF m 44 #[vR o0, vI i1, vI i0, vI i0, vI i2, vI i0, uu] []) _
    refine XS.iloadN X24.here hx rfl (hb hby d12_44) rfl ?_
    refine XS.istore X24.here hx rfl (hb hby d12_45) rfl (l' := #[vR o0, vI i1, vI i0, vI i0, vI i2, vI i0, vI i0]) rfl ?_
    refine XS.iload X24.here hx rfl (hb hby d12_47) rfl ?_
    refine XS.iload X24.here hx rfl (hb hby d12_49) rfl ?_
    refine XS.icmpNo X24.here hx rfl (hb hby d12_51) rfl (tlt ((by decide) : (0 : Int32) < (2 : Int32))).2.1 ?_
    refine XS.iload X24.here hx rfl (hb hby d12_54) rfl ?_
    refine XS.iloadN X24.here hx rfl (hb hby d12_56) rfl ?_
    refine XS.icmpYes X24.here hx rfl (pc0 := 57) (pc' := 106) rfl (hb hby d12_57) rfl (flt ((by decide) : ¬ ((0 : Int32) < (0 : Int32)))).2.2.2 (by decide) (by decide) ?_
    refine XS.aloadN X24.here hx rfl (hb hby d12_106) rfl rfl ?_
    exact k)
  obtain ⟨T34, X34, e34, st34⟩ := getF X24 hx hZ hown (host := "") (Or.inl (wD hw 69 rfl)) Via.refl e24 f29 (g := (mkF m 107 #[vR o0, vI i1, vI i0, vI i0, vI i2, vI i0, vI i0] [sR o0])) rfl rfl (hb hby d12_107)
  have go35 := go33.st T34 (mkF m 116 #[vR o0, vI i1, vI i0, vI i0, vI i2, vI i1, vI i0] [sR o0, sI i0, sR va]) (fun t k => by
    refine st34 _ ?_
    show SP p e below T34 (mkF m 110 #[vR o0, vI i1, vI i0, vI i0, vI i2, vI i0, vI i0] [sR va]) _
    refine XS.iload X34.here hx rfl (hb hby d12_110) rfl ?_
    refine XS.iinc X34.here hx rfl (hb hby d12_112) rfl (l' := #[vR o0, vI i1, vI i0, vI i0, vI i2, vI i1, vI i0]) rfl ?_
    refine XS.aloadN X34.here hx rfl (hb hby d12_115) rfl rfl ?_
    exact k)
  obtain ⟨T36, X36, e36, st36⟩ := getF X34 hx hZ hown (host := "") (Or.inl (wD hw 69 rfl)) Via.refl e34 f29 (g := (mkF m 116 #[vR o0, vI i1, vI i0, vI i0, vI i2, vI i1, vI i0] [sR o0, sI i0, sR va])) rfl rfl (hb hby d12_116)
  have go37 := go35.st T36 (mkF m 121 #[vR o0, vI i1, vI i0, vI i0, vI i2, vI i1, vI i0] [sI i0, sR va, sI i0, sR va]) (fun t k => by
    refine st36 _ ?_
    show SP p e below T36 (mkF m 119 #[vR o0, vI i1, vI i0, vI i0, vI i2, vI i1, vI i0] [sR va, sI i0, sR va]) _
    refine XS.iload X36.here hx rfl (hb hby d12_119) rfl ?_
    exact k)
  have Vo38 := f30
  obtain ⟨cl38, Ar38, qa38, Sa38, Na38, Ha38, Ga38⟩ := Vo38
  have hin38 := inb_of (j := (0 : Int32)) Sa38 ⟨by decide, by decide⟩
  have hat38 : cl38.slots[((0 : Int32)).toNatClampNeg]? = some (.long m0) := Has.at Ha38 hin38 rfl
  have go39 := go37.st T36 (mkF m 122 #[vR o0, vI i1, vI i0, vI i0, vI i2, vI i1, vI i0] [sJ m0, sI i0, sR va]) (fun t k => by
    refine X36.laload hx (j := (0 : Int32)) (v := (.long m0)) (by rw [e36]; exact Ar38.1) (State.isArrayOf_alike hZ.alike Ar38.2.1) Ar38.2.2 hin38 hat38 (g := (mkF m 121 #[vR o0, vI i1, vI i0, vI i0, vI i2, vI i1, vI i0] [sI i0, sR va, sI i0, sR va])) rfl rfl (hb hby d12_121) _ ?_
    exact k)
  have Vo40 := f30
  obtain ⟨cl40, Ar40, qa40, Sa40, Na40, Ha40, Ga40⟩ := Vo40
  have hin40 := inb_of (j := (0 : Int32)) Sa40 ⟨by decide, by decide⟩
  obtain ⟨T41, h41, X41, e41, W41, st41⟩ := stJ X36 hx hZ e36 Ar40 (j := (0 : Int32)) hin40 (g := (mkF m 122 #[vR o0, vI i1, vI i0, vI i0, vI i2, vI i1, vI i0] [sJ m0, sI i0, sR va])) rfl rfl (hb hby d12_122)
  have V41 : Arv Z h41 va kv .long (2 : Int32) [(.long m0), (.long m1)] (.long (0 : Int64)) := Arv.set Ar40 qa40 Sa40 Na40 Ha40 Ga40 rfl W41 0 rfl (Nat.le_of_ble_eq_true rfl)
  have f42 := Fld.other W41 f25 (Or.inl ne_o0_va)
  have f43 := Fld.other W41 f26 (Or.inl ne_o0_va)
  have f44 := Arv.other f28 W41 ne_nx_va
  have f45 := Fld.other W41 f29 (Or.inl ne_o0_va)
  have f47 := Arv.other V24 W41 ne_sa_va
  have Z41 : n0 ≤ h41.size := Nat.le_trans Z24 (Nat.le_of_eq W41.size.symm)
  have K41 := K24.wr W41 (Or.inl (List.mem_of_getElem? (i := 0) rfl))
  have N41 := Fr.snoc X41 N24 g_va
  have go50 := go39.st T41 (mkF m 61 #[vR o0, vI i1, vI i0, vI i0, vI i2, vI i1, vI i1] [sR o0]) (fun t k => by
    refine st41 _ ?_
    show SP p e below T41 (mkF m 123 #[vR o0, vI i1, vI i0, vI i0, vI i2, vI i1, vI i0] []) _
    refine XS.iinc X41.here hx rfl (hb hby d12_123) rfl (l' := #[vR o0, vI i1, vI i0, vI i0, vI i2, vI i1, vI i1]) rfl ?_
    refine XS.goto X41.here hx rfl (pc0 := 126) (pc' := 47) rfl (hb hby d12_126) (by decide) (by decide) ?_
    refine XS.iload X41.here hx rfl (hb hby d12_47) rfl ?_
    refine XS.iload X41.here hx rfl (hb hby d12_49) rfl ?_
    refine XS.icmpNo X41.here hx rfl (hb hby d12_51) rfl (tlt ((by decide) : (1 : Int32) < (2 : Int32))).2.1 ?_
    refine XS.iload X41.here hx rfl (hb hby d12_54) rfl ?_
    refine XS.iloadN X41.here hx rfl (hb hby d12_56) rfl ?_
    refine XS.icmpNo X41.here hx rfl (hb hby d12_57) rfl (tlt ((by decide) : (0 : Int32) < (1 : Int32))).2.2.2 ?_
    refine XS.aloadN X41.here hx rfl (hb hby d12_60) rfl rfl ?_
    exact k)
  obtain ⟨T51, X51, e51, st51⟩ := getF X41 hx hZ hown (host := "") (Or.inl (wD hw 69 rfl)) Via.refl e41 f45 (g := (mkF m 61 #[vR o0, vI i1, vI i0, vI i0, vI i2, vI i1, vI i1] [sR o0])) rfl rfl (hb hby d12_61)
  have go52 := go50.st T51 (mkF m 66 #[vR o0, vI i1, vI i0, vI i0, vI i2, vI i1, vI i1] [sI i1, sR va]) (fun t k => by
    refine st51 _ ?_
    show SP p e below T51 (mkF m 64 #[vR o0, vI i1, vI i0, vI i0, vI i2, vI i1, vI i1] [sR va]) _
    refine XS.iload X51.here hx rfl (hb hby d12_64) rfl ?_
    exact k)
  have Vo53 := V41
  obtain ⟨cl53, Ar53, qa53, Sa53, Na53, Ha53, Ga53⟩ := Vo53
  have hin53 := inb_of (j := (1 : Int32)) Sa53 ⟨by decide, by decide⟩
  have hat53 : cl53.slots[((1 : Int32)).toNatClampNeg]? = some (.long m1) := Has.at Ha53 hin53 rfl
  have go54 := go52.st T51 (mkF m 70 #[vR o0, vI i1, vI i0, vI i0, vI i2, vI i1, vI i1] [sR o0, (sJ (own_usrL m1 i1))]) (fun t k => by
    refine X51.laload hx (j := (1 : Int32)) (v := (.long m1)) (by rw [e51]; exact Ar53.1) (State.isArrayOf_alike hZ.alike Ar53.2.1) Ar53.2.2 hin53 hat53 (g := (mkF m 66 #[vR o0, vI i1, vI i0, vI i0, vI i2, vI i1, vI i1] [sI i1, sR va])) rfl rfl (hb hby d12_66) _ ?_
    refine XS.iconst X51.here hx rfl (hb hby d12_67) ?_
    refine XS.lushr X51.here hx rfl (hb hby d12_68) rfl ?_
    refine XS.aloadN X51.here hx rfl (hb hby d12_69) rfl rfl ?_
    exact k)
  obtain ⟨T55, X55, e55, st55⟩ := getF X51 hx hZ hown (host := "") (Or.inl (wD hw 69 rfl)) Via.refl e51 f45 (g := (mkF m 70 #[vR o0, vI i1, vI i0, vI i0, vI i2, vI i1, vI i1] [sR o0, (sJ (own_usrL m1 i1))])) rfl rfl (hb hby d12_70)
  have go56 := go54.st T55 (mkF m 77 #[vR o0, vI i1, vI i0, vI i0, vI i2, vI i1, vI i1] [sI i0, sR va, (sJ (own_usrL m1 i1))]) (fun t k => by
    refine st55 _ ?_
    show SP p e below T55 (mkF m 73 #[vR o0, vI i1, vI i0, vI i0, vI i2, vI i1, vI i1] [sR va, (sJ (own_usrL m1 i1))]) _
    refine XS.iload X55.here hx rfl (hb hby d12_73) rfl ?_
    refine XS.iconst X55.here hx rfl (hb hby d12_75) ?_
    refine XS.isub X55.here hx rfl (hb hby d12_76) rfl ?_
    exact k)
  have Vo57 := V41
  obtain ⟨cl57, Ar57, qa57, Sa57, Na57, Ha57, Ga57⟩ := Vo57
  have hin57 := inb_of (j := (0 : Int32)) Sa57 ⟨by decide, by decide⟩
  have hat57 : cl57.slots[((0 : Int32)).toNatClampNeg]? = some (.long m0) := Has.at Ha57 hin57 rfl
  have go59 := go56.st T55 (mkF m 107 #[vR o0, vI i1, vI i0, vI i0, vI i2, vI i1, vI i1] [sR o0]) (fun t k => by
    refine X55.laload hx (j := (0 : Int32)) (v := (.long m0)) (by rw [e55]; exact Ar57.1) (State.isArrayOf_alike hZ.alike Ar57.2.1) Ar57.2.2 hin57 hat57 (g := (mkF m 77 #[vR o0, vI i1, vI i0, vI i0, vI i2, vI i1, vI i1] [sI i0, sR va, (sJ (own_usrL m1 i1))])) rfl rfl (hb hby d12_77) _ ?_
    refine XS.iconst X55.here hx rfl (hb hby d12_78) ?_
    refine XS.lushr X55.here hx rfl (hb hby d12_79) rfl ?_
    refine XS.lcmp X55.here hx rfl (hb hby d12_80) rfl ?_
    refine XS.ifYes X55.here hx rfl (pc0 := 81) (pc' := 106) rfl (hb hby d12_81) rfl ((if0 _ _).trans (feq (fun q => (hm : ¬ ((own_usrL m1 (1 : Int32)) = (own_usrL m0 (1 : Int32)))) ((lw_eq _ _).mp q))).2) (by decide) (by decide) ?_
    refine XS.aloadN X55.here hx rfl (hb hby d12_106) rfl rfl ?_
    exact k)
  obtain ⟨T60, X60, e60, st60⟩ := getF X55 hx hZ hown (host := "") (Or.inl (wD hw 69 rfl)) Via.refl e55 f45 (g := (mkF m 107 #[vR o0, vI i1, vI i0, vI i0, vI i2, vI i1, vI i1] [sR o0])) rfl rfl (hb hby d12_107)
  have go61 := go59.st T60 (mkF m 116 #[vR o0, vI i1, vI i0, vI i0, vI i2, vI i2, vI i1] [sR o0, sI i1, sR va]) (fun t k => by
    refine st60 _ ?_
    show SP p e below T60 (mkF m 110 #[vR o0, vI i1, vI i0, vI i0, vI i2, vI i1, vI i1] [sR va]) _
    refine XS.iload X60.here hx rfl (hb hby d12_110) rfl ?_
    refine XS.iinc X60.here hx rfl (hb hby d12_112) rfl (l' := #[vR o0, vI i1, vI i0, vI i0, vI i2, vI i2, vI i1]) rfl ?_
    refine XS.aloadN X60.here hx rfl (hb hby d12_115) rfl rfl ?_
    exact k)
  obtain ⟨T62, X62, e62, st62⟩ := getF X60 hx hZ hown (host := "") (Or.inl (wD hw 69 rfl)) Via.refl e60 f45 (g := (mkF m 116 #[vR o0, vI i1, vI i0, vI i0, vI i2, vI i2, vI i1] [sR o0, sI i1, sR va])) rfl rfl (hb hby d12_116)
  have go63 := go61.st T62 (mkF m 121 #[vR o0, vI i1, vI i0, vI i0, vI i2, vI i2, vI i1] [sI i1, sR va, sI i1, sR va]) (fun t k => by
    refine st62 _ ?_
    show SP p e below T62 (mkF m 119 #[vR o0, vI i1, vI i0, vI i0, vI i2, vI i2, vI i1] [sR va, sI i1, sR va]) _
    refine XS.iload X62.here hx rfl (hb hby d12_119) rfl ?_
    exact k)
  have Vo64 := V41
  obtain ⟨cl64, Ar64, qa64, Sa64, Na64, Ha64, Ga64⟩ := Vo64
  have hin64 := inb_of (j := (1 : Int32)) Sa64 ⟨by decide, by decide⟩
  have hat64 : cl64.slots[((1 : Int32)).toNatClampNeg]? = some (.long m1) := Has.at Ha64 hin64 rfl
  have go65 := go63.st T62 (mkF m 122 #[vR o0, vI i1, vI i0, vI i0, vI i2, vI i2, vI i1] [sJ m1, sI i1, sR va]) (fun t k => by
    refine X62.laload hx (j := (1 : Int32)) (v := (.long m1)) (by rw [e62]; exact Ar64.1) (State.isArrayOf_alike hZ.alike Ar64.2.1) Ar64.2.2 hin64 hat64 (g := (mkF m 121 #[vR o0, vI i1, vI i0, vI i0, vI i2, vI i2, vI i1] [sI i1, sR va, sI i1, sR va])) rfl rfl (hb hby d12_121) _ ?_
    exact k)
  have Vo66 := V41
  obtain ⟨cl66, Ar66, qa66, Sa66, Na66, Ha66, Ga66⟩ := Vo66
  have hin66 := inb_of (j := (1 : Int32)) Sa66 ⟨by decide, by decide⟩
  obtain ⟨T67, h67, X67, e67, W67, st67⟩ := stJ X62 hx hZ e62 Ar66 (j := (1 : Int32)) hin66 (g := (mkF m 122 #[vR o0, vI i1, vI i0, vI i0, vI i2, vI i2, vI i1] [sJ m1, sI i1, sR va])) rfl rfl (hb hby d12_122)
  have V67 : Arv Z h67 va kv .long (2 : Int32) [(.long m0), (.long m1)] (.long (0 : Int64)) := Arv.set Ar66 qa66 Sa66 Na66 Ha66 Ga66 rfl W67 1 rfl (Nat.le_of_ble_eq_true rfl)
  have f68 := Fld.other W67 f42 (Or.inl ne_o0_va)
  have f69 := Fld.other W67 f43 (Or.inl ne_o0_va)
  have f70 := Arv.other f44 W67 ne_nx_va
  have f71 := Fld.other W67 f45 (Or.inl ne_o0_va)
  have f72 := Arv.other f47 W67 ne_sa_va
  have Z67 : n0 ≤ h67.size := Nat.le_trans Z41 (Nat.le_of_eq W67.size.symm)
  have K67 := K41.wr W67 (Or.inl (List.mem_of_getElem? (i := 0) rfl))
  have N67 := Fr.snoc X67 N41 g_va
  have go75 := go65.st T67 (mkF m 131 #[vR o0, vI i1, vI i0, vI i0, vI i2, vI i2, vI i2] [sI i2]) (fun t k => by
    refine st67 _ ?_
    show SP p e below T67 (mkF m 123 #[vR o0, vI i1, vI i0, vI i0, vI i2, vI i2, vI i1] []) _
    refine XS.iinc X67.here hx rfl (hb hby d12_123) rfl (l' := #[vR o0, vI i1, vI i0, vI i0, vI i2, vI i2, vI i2]) rfl ?_
    refine XS.goto X67.here hx rfl (pc0 := 126) (pc' := 47) rfl (hb hby d12_126) (by decide) (by decide) ?_
    refine XS.iload X67.here hx rfl (hb hby d12_47) rfl ?_
    refine XS.iload X67.here hx rfl (hb hby d12_49) rfl ?_
    refine XS.icmpYes X67.here hx rfl (pc0 := 51) (pc' := 129) rfl (hb hby d12_51) rfl (flt ((by decide) : ¬ ((2 : Int32) < (2 : Int32)))).2.1 (by decide) (by decide) ?_
    refine XS.iload X67.here hx rfl (hb hby d12_129) rfl ?_
    exact k)
  obtain ⟨fs, hr, hrun, hended, hW, hsame⟩ := X67.leave (v := some (.int (2 : Int32))) (fun h => by rw [Bd.returns] at h; cases h)
  refine ⟨_, _, go75 _ ?_, hrun, hended, _, _, rfl, ?_, ⟨_, rfl⟩, hW, hsame.mono (by decide) (by decide)⟩
  · exact own_retI X67 hx Bd.returns (hb hby d12_131) hr
  · show Q_rm_keepC1_0_0 Z o0 sa ka nx kx va kv v0 v1 m0 m1 h0 n0 _ T67.heap _
    rw [e67]
    exact ⟨rfl, N67, K67, f72, V67⟩
theorem pn_rm_buildC_0 : plainName "com/example/graphkind/graphkind/Statements$Builder" = true := by first | (simp [plainName, overriddenIn]; done) | decide +kernel
theorem pd_rm_buildC_0_0 : parseMethodDescriptor "(II)I" = some ⟨[.int, .int], some .int⟩ := by decide +kernel
theorem pd_rm_buildC_0_1 : parseMethodDescriptor "([I[J)V" = some ⟨[(.array .int), (.array .long)], none⟩ := by decide +kernel
theorem ef_rm_buildC_0 (m : MethodId) (o0 : Addr) : entryFrame m #[(.ref o0)] 3 = mkF m 0 #[.val (.ref o0), uu, uu] [] := by first | (simp [entryFrame, mkF, argsToLocals, Value.category]; done) | rfl
def Q_rm_buildC_0 (Z : State) (o0 : Addr) (sa : Addr) (ka : ClassId) (nx : Addr) (kx : ClassId) (va : Addr) (kv : ClassId) (v0 : Int64) (v1 : Int64) (m0 : Int64) (m1 : Int64) (h0 : Heap) (n0 : Nat) (v : Option Value) (h : Heap) (L : List Loc) : Prop := ∃ b : Addr, v = some (.ref b) ∧ Fr n0 L ∧ Keep h0 h [va, sa, o0] ∧ n0 ≤ b ∧ h0.size ≤ b ∧ Exa Z h b "com/example/graphkind/graphkind/Statements" ∧ Fld Z h b "com/example/graphkind/graphkind/Statements" "start" "[I" (.ref sa) ∧ Fld Z h b "com/example/graphkind/graphkind/Statements" "values" "[J" (.ref va) ∧ Arv Z h sa ka .int (3 : Int32) [(.int (0 : Int32)), (.int (0 : Int32)), (.int (2 : Int32))] (.int (0 : Int32)) ∧ Arv Z h va kv .long (2 : Int32) [(.long m0), (.long m1)] (.long (0 : Int64))
set_option maxRecDepth 65536 in
set_option maxHeartbeats 40000000 in
theorem rm_buildC_0 (l : Launch) (Z : State) (a0 : Array Value) (hw : ∀ d ∈ tables_1, d.before a0 Z = true) (ws : List Jvm.Cond) (o0 : Addr) (sa : Addr) (ka : ClassId) (nx : Addr) (kx : ClassId) (va : Addr) (kv : ClassId) (v0 : Int64) (v1 : Int64) (m0 : Int64) (m1 : Int64) (h0 : Heap) (n0 : Nat) (Z0 : n0 ≤ h0.size) (E_o0 : Exa Z h0 o0 "com/example/graphkind/graphkind/Statements$Builder") (F_terms_o0 : Fld Z h0 o0 "com/example/graphkind/graphkind/Statements$Builder" "terms" "I" (.int (2 : Int32))) (F_start_o0 : Fld Z h0 o0 "com/example/graphkind/graphkind/Statements$Builder" "start" "[I" (.ref sa)) (F_next_o0 : Fld Z h0 o0 "com/example/graphkind/graphkind/Statements$Builder" "next" "[I" (.ref nx)) (F_values_o0 : Fld Z h0 o0 "com/example/graphkind/graphkind/Statements$Builder" "values" "[J" (.ref va)) (V_sa : Arv Z h0 sa ka .int (3 : Int32) [(.int (0 : Int32)), (.int (0 : Int32)), (.int (2 : Int32))] (.int (0 : Int32))) (V_nx : Arv Z h0 nx kx .int (2 : Int32) [(.int (0 : Int32)), (.int (2 : Int32))] (.int (0 : Int32))) (V_va : Arv Z h0 va kv .long (2 : Int32) [(.long v0), (.long v1)] (.long (0 : Int64))) (g_sa : n0 ≤ sa) (g_va : n0 ≤ va) (g_o0 : n0 ≤ o0) (ne_o0_sa : o0 ≠ sa) (ne_o0_nx : o0 ≠ nx) (ne_o0_va : o0 ≠ va) (ne_sa_nx : sa ≠ nx) (ne_sa_va : sa ≠ va) (ne_nx_va : nx ≠ va) (hl : (v1 < v0 ∧ m0 = v1 ∧ m1 = v0) ∨ (¬ v1 < v0 ∧ m0 = v0 ∧ m1 = v1)) (hm : ¬ ((own_usrL m1 (1 : Int32)) = (own_usrL m0 (1 : Int32)))) :
    MetFree l yN17 (head1 (Jvm.Cond.code yN17 prog_10_method_5_code 3 (some (.object "com/example/graphkind/graphkind/Statements")) :: ws) ({ frames := 5, cells := 1, slots := 2, locals := 104 } : Room)) (fun a U => a = #[(.ref o0)] ∧ Z.Warmed39 U.vm ∧ U.heap = h0) (fun _ _ _ _ _ => True) (fun _ U o U' => ∃ v L, o = .returned v ∧ Q_rm_buildC_0 Z o0 sa ka nx kx va kv v0 v1 m0 m1 h0 n0 v U'.heap L ∧ FrameEnd U o U' L ({ frames := 5, cells := 1, slots := 2, locals := 104 } : Room).cells ({ frames := 5, cells := 1, slots := 2, locals := 104 } : Room).slots) := by
  refine MetFree.of_bodySF (plainFor_of_name pn_rm_buildC_0) hisR ?_
  intro p e s m args below meth c s₁ Bd hml0 hP hK
  obtain ⟨rfl, hZ, hh⟩ := hP
  have hx := Bd.exec
  have hby := Bd.bytes
  have hml : c.maxLocals = 3 := hml0
  have hown : s.vm.findClass "com/example/graphkind/graphkind/Statements$Builder" = some m.cls := findClass_of_methodNamed Bd.named
  have hnm := (name_of_methodNamed Bd.named Bd.method).1
  have X0 : Stand p l e ({ frames := 5, cells := 1, slots := 2, locals := 104 } : Room) s m #[(.ref o0)] below meth c s₁ [] 0 0 := Stand.of_body Bd
  have e0 : s₁.heap = h0 := by rw [← hh, Bd.state]; rfl
  have N0 := Fr.nil n0
  have K0 := Keep.refl h0 [va, sa, o0]
  have go0 : Go p e below (s₁.setTop (entryFrame m #[(.ref o0)] 3)) (s₁.setTop (mkF m 0 #[vR o0, uu, uu] [])) := fun t k => castTop (ef_rm_buildC_0 m o0) k
  have go1 := go0.st s₁ (mkF m 6 #[vR o0, vI i0, vI i0] [sR o0, sI i0]) (fun t k => by
    refine XS.iconst X0.here hx rfl (hb hby d11_0) ?_
    refine XS.istoreN X0.here hx rfl (hb hby d11_1) rfl (l' := #[vR o0, vI i0, uu]) rfl ?_
    refine XS.iconst X0.here hx rfl (hb hby d11_2) ?_
    refine XS.istoreN X0.here hx rfl (hb hby d11_3) rfl (l' := #[vR o0, vI i0, vI i0]) rfl ?_
    refine XS.iloadN X0.here hx rfl (hb hby d11_4) rfl ?_
    refine XS.aloadN X0.here hx rfl (hb hby d11_5) rfl rfl ?_
    exact k)
  obtain ⟨T2, X2, e2, st2⟩ := getF X0 hx hZ hown (host := "") (Or.inl (wD hw 35 rfl)) Via.refl e0 F_terms_o0 (g := (mkF m 6 #[vR o0, vI i0, vI i0] [sR o0, sI i0])) rfl rfl (hb hby d11_6)
  have go4 := go1.st T2 (mkF m 15 #[vR o0, vI i0, vI i0] [sI i0, sI i0, sR o0]) (fun t k => by
    refine st2 _ ?_
    show SP p e below T2 (mkF m 9 #[vR o0, vI i0, vI i0] [sI i2, sI i0]) _
    refine XS.icmpNo X2.here hx rfl (hb hby d11_9) rfl (tlt ((by decide) : (0 : Int32) < (2 : Int32))).2.1 ?_
    refine XS.aloadN X2.here hx rfl (hb hby d11_12) rfl rfl ?_
    refine XS.iloadN X2.here hx rfl (hb hby d11_13) rfl ?_
    refine XS.iloadN X2.here hx rfl (hb hby d11_14) rfl ?_
    exact k)
  obtain ⟨cq5, q5, q5'⟩ := E_o0.cell
  obtain ⟨_, _, ⟨T5, L5, k5, n5⟩, -, X5, ⟨Lc5, hQ5, l5, y5, z5⟩, st5⟩ := X2.privateBack hx (y := yN16) hown (mvT hZ (wD hw 81 rfl)) (mvT hZ (wD hw 82 rfl)) (mvT hZ (own_selpriv (y := yN16) (by decide) (wD hw 29 rfl) (wD hw 83 rfl) (wD hw 82 rfl))) (Cond.privateMethod_at (mvP hZ (wD hw 83 rfl) (args := #[]))) (mvT hZ (wD hw 84 rfl)) (by decide) (backOf (W := 0) (rm_keepC0_p l Z a0 hw [] o0 (0 : Int32) sa ka nx kx h0 n0 Z0 F_start_o0 F_next_o0 V_sa V_nx g_sa ne_o0_sa ne_o0_nx ne_sa_nx) hZ (wD hw 84 rfl) (wD hw 30 rfl) (by decide) (by decide)) (g := (mkF m 15 #[vR o0, vI i0, vI i0] [sI i0, sI i0, sR o0])) rfl (by rw [hml]; rfl) (Steps.refl _) (a := o0) (by rw [e2]; exact q5) q5' (argsL := [(.int (0 : Int32)), (.int (0 : Int32))]) (rest := []) (lenOf pd_rm_buildC_0_0 rfl) rfl (by show 2 * 0 + _ ≤ _; exact Nat.le_of_eq rfl) (hb hby d11_15) (fun _ _ => ⟨rfl, e2, (by decide : 0 + 0 ≤ _), (by decide : 0 + 0 ≤ _)⟩)
  dsimp only [Pt.U, Pt.locs, Pt.cells, Pt.slots] at X5 l5 y5 z5 st5 hQ5
  rw [l5, y5, z5] at X5
  obtain ⟨rfl, N5q, K5, qp5_0⟩ := hQ5
  have N5 := Fr.app N0 N5q
  have f6 := E_o0.keep K5
  have f7 := F_terms_o0.keep K5 (ninS ne_o0_sa nin0)
  have f8 := F_start_o0.keep K5 (ninS ne_o0_sa nin0)
  have f9 := F_next_o0.keep K5 (ninS ne_o0_sa nin0)
  have f10 := F_values_o0.keep K5 (ninS ne_o0_sa nin0)
  have f12 := V_nx.keep K5 (ninS (Ne.symm ne_sa_nx) nin0)
  have f13 := V_va.keep K5 (ninS (Ne.symm ne_sa_va) nin0)
  have Z5 : n0 ≤ T5.heap.size := Nat.le_trans Z0 K5.1
  have KK5 := K0.trans K5 (allS (Or.inl (List.mem_of_getElem? (i := 1) rfl)) all0)
  have go14 := go4.st T5 (mkF m 6 #[vR o0, vI i0, vI i1] [sR o0, sI i1]) (fun t k => by
    refine st5.trans ?_
    show SP p e below T5 (mkF m 18 #[vR o0, vI i0, vI i0] [sI i0]) _
    refine XS.istoreN X5.here hx rfl (hb hby d11_18) rfl (l' := #[vR o0, vI i0, vI i0]) rfl ?_
    refine XS.iinc X5.here hx rfl (hb hby d11_19) rfl (l' := #[vR o0, vI i0, vI i1]) rfl ?_
    refine XS.goto X5.here hx rfl (pc0 := 22) (pc' := 4) rfl (hb hby d11_22) (by decide) (by decide) ?_
    refine XS.iloadN X5.here hx rfl (hb hby d11_4) rfl ?_
    refine XS.aloadN X5.here hx rfl (hb hby d11_5) rfl rfl ?_
    exact k)
  obtain ⟨T15, X15, e15, st15⟩ := getF X5 hx hZ hown (host := "") (Or.inl (wD hw 35 rfl)) Via.refl rfl f7 (g := (mkF m 6 #[vR o0, vI i0, vI i1] [sR o0, sI i1])) rfl rfl (hb hby d11_6)
  have go17 := go14.st T15 (mkF m 15 #[vR o0, vI i0, vI i1] [sI i0, sI i1, sR o0]) (fun t k => by
    refine st15 _ ?_
    show SP p e below T15 (mkF m 9 #[vR o0, vI i0, vI i1] [sI i2, sI i1]) _
    refine XS.icmpNo X15.here hx rfl (hb hby d11_9) rfl (tlt ((by decide) : (1 : Int32) < (2 : Int32))).2.1 ?_
    refine XS.aloadN X15.here hx rfl (hb hby d11_12) rfl rfl ?_
    refine XS.iloadN X15.here hx rfl (hb hby d11_13) rfl ?_
    refine XS.iloadN X15.here hx rfl (hb hby d11_14) rfl ?_
    exact k)
  obtain ⟨cq18, q18, q18'⟩ := f6.cell
  obtain ⟨_, _, ⟨T18, L18, k18, n18⟩, -, X18, ⟨Lc18, hQ18, l18, y18, z18⟩, st18⟩ := X15.privateBack hx (y := yN16) hown (mvT hZ (wD hw 81 rfl)) (mvT hZ (wD hw 82 rfl)) (mvT hZ (own_selpriv (y := yN16) (by decide) (wD hw 29 rfl) (wD hw 83 rfl) (wD hw 82 rfl))) (Cond.privateMethod_at (mvP hZ (wD hw 83 rfl) (args := #[]))) (mvT hZ (wD hw 84 rfl)) (by decide) (backOf (W := 0) (rm_keepC1_0_0 l Z a0 hw [] o0 sa ka nx kx va kv v0 v1 m0 m1 T5.heap n0 Z5 f8 f9 qp5_0 f12 g_sa f10 f13 g_va ne_o0_sa ne_o0_nx ne_o0_va ne_sa_nx ne_sa_va ne_nx_va hl hm) hZ (wD hw 84 rfl) (wD hw 30 rfl) (by decide) (by decide)) (g := (mkF m 15 #[vR o0, vI i0, vI i1] [sI i0, sI i1, sR o0])) rfl (by rw [hml]; rfl) (Steps.refl _) (a := o0) (by rw [e15]; exact q18) q18' (argsL := [(.int (1 : Int32)), (.int (0 : Int32))]) (rest := []) (lenOf pd_rm_buildC_0_0 rfl) rfl (by show 2 * 0 + _ ≤ _; exact Nat.le_of_eq rfl) (hb hby d11_15) (fun _ _ => ⟨rfl, e15, (by decide : 0 + 0 ≤ _), (by decide : 0 + 0 ≤ _)⟩)
  dsimp only [Pt.U, Pt.locs, Pt.cells, Pt.slots] at X18 l18 y18 z18 st18 hQ18
  rw [l18, y18, z18] at X18
  obtain ⟨rfl, N18q, K18, qp18_0, qp18_1⟩ := hQ18
  have N18 := Fr.app N5 N18q
  have f19 := f6.keep K18
  have f20 := f7.keep K18 (ninS ne_o0_va (ninS ne_o0_sa nin0))
  have f21 := f8.keep K18 (ninS ne_o0_va (ninS ne_o0_sa nin0))
  have f22 := f9.keep K18 (ninS ne_o0_va (ninS ne_o0_sa nin0))
  have f23 := f10.keep K18 (ninS ne_o0_va (ninS ne_o0_sa nin0))
  have f24 := f12.keep K18 (ninS ne_nx_va (ninS (Ne.symm ne_sa_nx) nin0))
  have Z18 : n0 ≤ T18.heap.size := Nat.le_trans Z5 K18.1
  have KK18 := KK5.trans K18 (allS (Or.inl (List.mem_of_getElem? (i := 0) rfl)) (allS (Or.inl (List.mem_of_getElem? (i := 1) rfl)) all0))
  have go27 := go17.st T18 (mkF m 6 #[vR o0, vI i2, vI i2] [sR o0, sI i2]) (fun t k => by
    refine st18.trans ?_
    show SP p e below T18 (mkF m 18 #[vR o0, vI i0, vI i1] [sI i2]) _
    refine XS.istoreN X18.here hx rfl (hb hby d11_18) rfl (l' := #[vR o0, vI i2, vI i1]) rfl ?_
    refine XS.iinc X18.here hx rfl (hb hby d11_19) rfl (l' := #[vR o0, vI i2, vI i2]) rfl ?_
    refine XS.goto X18.here hx rfl (pc0 := 22) (pc' := 4) rfl (hb hby d11_22) (by decide) (by decide) ?_
    refine XS.iloadN X18.here hx rfl (hb hby d11_4) rfl ?_
    refine XS.aloadN X18.here hx rfl (hb hby d11_5) rfl rfl ?_
    exact k)
  obtain ⟨T28, X28, e28, st28⟩ := getF X18 hx hZ hown (host := "") (Or.inl (wD hw 35 rfl)) Via.refl rfl f20 (g := (mkF m 6 #[vR o0, vI i2, vI i2] [sR o0, sI i2])) rfl rfl (hb hby d11_6)
  have go30 := go27.st T28 (mkF m 26 #[vR o0, vI i2, vI i2] [sR o0]) (fun t k => by
    refine st28 _ ?_
    show SP p e below T28 (mkF m 9 #[vR o0, vI i2, vI i2] [sI i2, sI i2]) _
    refine XS.icmpYes X28.here hx rfl (pc0 := 9) (pc' := 25) rfl (hb hby d11_9) rfl (flt ((by decide) : ¬ ((2 : Int32) < (2 : Int32)))).2.1 (by decide) (by decide) ?_
    refine XS.aloadN X28.here hx rfl (hb hby d11_25) rfl rfl ?_
    exact k)
  obtain ⟨T31, X31, e31, st31⟩ := getF X28 hx hZ hown (host := "") (Or.inl (wD hw 37 rfl)) Via.refl e28 f21 (g := (mkF m 26 #[vR o0, vI i2, vI i2] [sR o0])) rfl rfl (hb hby d11_26)
  have go32 := go30.st T31 (mkF m 30 #[vR o0, vI i2, vI i2] [sR o0, sR sa]) (fun t k => by
    refine st31 _ ?_
    show SP p e below T31 (mkF m 29 #[vR o0, vI i2, vI i2] [sR sa]) _
    refine XS.aloadN X31.here hx rfl (hb hby d11_29) rfl rfl ?_
    exact k)
  obtain ⟨T33, X33, e33, st33⟩ := getF X31 hx hZ hown (host := "") (Or.inl (wD hw 35 rfl)) Via.refl e31 f20 (g := (mkF m 30 #[vR o0, vI i2, vI i2] [sR o0, sR sa])) rfl rfl (hb hby d11_30)
  have go34 := go32.st T33 (mkF m 34 #[vR o0, vI i2, vI i2] [sI i2, sI i2, sR sa]) (fun t k => by
    refine st33 _ ?_
    show SP p e below T33 (mkF m 33 #[vR o0, vI i2, vI i2] [sI i2, sR sa]) _
    refine XS.iloadN X33.here hx rfl (hb hby d11_33) rfl ?_
    exact k)
  have Vo35 := qp18_0
  obtain ⟨cl35, Ar35, qa35, Sa35, Na35, Ha35, Ga35⟩ := Vo35
  have hin35 := inb_of (j := (2 : Int32)) Sa35 ⟨by decide, by decide⟩
  obtain ⟨T36, h36, X36, e36, W36, st36⟩ := stI X33 hx hZ e33 Ar35 (j := (2 : Int32)) hin35 (g := (mkF m 34 #[vR o0, vI i2, vI i2] [sI i2, sI i2, sR sa])) rfl rfl (hb hby d11_34)
  have V36 : Arv Z h36 sa ka .int (3 : Int32) [(.int (0 : Int32)), (.int (0 : Int32)), (.int (2 : Int32))] (.int (0 : Int32)) := Arv.set Ar35 qa35 Sa35 Na35 Ha35 Ga35 rfl W36 2 rfl (Nat.le_of_ble_eq_true rfl)
  have f37 := f19.wr W36
  have f38 := Fld.other W36 f20 (Or.inl ne_o0_sa)
  have f39 := Fld.other W36 f21 (Or.inl ne_o0_sa)
  have f40 := Fld.other W36 f22 (Or.inl ne_o0_sa)
  have f41 := Fld.other W36 f23 (Or.inl ne_o0_sa)
  have f42 := Arv.other f24 W36 (Ne.symm ne_sa_nx)
  have f44 := Arv.other qp18_1 W36 (Ne.symm ne_sa_va)
  have Z36 : n0 ≤ h36.size := Nat.le_trans Z18 (Nat.le_of_eq W36.size.symm)
  have K36 := KK18.wr W36 (Or.inl (List.mem_of_getElem? (i := 1) rfl))
  have N36 := Fr.snoc X36 N18 g_sa
  have go45 := go34.st T36 (mkF m 37 #[vR o0, vI i2, vI i2] [.null, sR o0]) (fun t k => by
    refine st36 _ ?_
    show SP p e below T36 (mkF m 35 #[vR o0, vI i2, vI i2] []) _
    refine XS.aloadN X36.here hx rfl (hb hby d11_35) rfl rfl ?_
    refine XS.aconstNull X36.here hx rfl (hb hby d11_36) ?_
    exact k)
  obtain ⟨T46, h46, X46, e46, W46, st46⟩ := putF X36 hx hZ hown (host := "") (Or.inl (wD hw 66 rfl)) Via.refl e36 f40 f37 (Or.inl (wD hw 67 rfl)) (wD hw 29 rfl) (ty := (.array .int)) (by decide) rfl rfl (g := (mkF m 37 #[vR o0, vI i2, vI i2] [.null, sR o0])) rfl rfl (hb hby d11_37)
  have f47 := f37.wr W46
  have f48 := Fld.other W46 f38 (Or.inr (slot_ne (Or.inr (wD hw 36 rfl)) (Or.inl (wD hw 67 rfl)) (by decide) (t := .int) (t' := (.array .int)) (by decide) (by decide)))
  have f49 := Fld.other W46 f39 (Or.inr (slot_ne (Or.inr (wD hw 38 rfl)) (Or.inl (wD hw 67 rfl)) (by decide) (t := (.array .int)) (t' := (.array .int)) (by decide) (by decide)))
  have f50 := Fld.same W46 f40
  have f51 := Fld.other W46 f41 (Or.inr (slot_ne (Or.inl (wD hw 70 rfl)) (Or.inl (wD hw 67 rfl)) (by decide) (t := (.array .long)) (t' := (.array .int)) (by decide) (by decide)))
  have f52 := Arv.other f42 W46 (Ne.symm ne_o0_nx)
  have f53 := Arv.other f44 W46 (Ne.symm ne_o0_va)
  have f54 := Arv.other V36 W46 (Ne.symm ne_o0_sa)
  have Z46 : n0 ≤ h46.size := Nat.le_trans Z36 (Nat.le_of_eq W46.size.symm)
  have K46 := K36.wr W46 (Or.inl (List.mem_of_getElem? (i := 2) rfl))
  have N46 := Fr.snoc X46 N36 g_o0
  have go55 := go45.st T46 (mkF m 40 #[vR o0, vI i2, vI i2] []) (fun t k => by
    refine st46 _ ?_
    exact k)
  obtain ⟨T56, h56, X56, e56, E56, A56, D56, -, st56⟩ := newO X46 hx hZ hown (wD hw 101 rfl) (wD hw 102 rfl) (wD hw 103 rfl) e46 (g := (mkF m 40 #[vR o0, vI i2, vI i2] [])) rfl (hb hby d11_40) (by decide) (by decide)
  obtain ⟨b56, g56⟩ : ∃ z, z = h46.size := ⟨_, rfl⟩
  rw [← g56] at A56 D56 st56
  have ne_o0_b56 : o0 ≠ b56 := Nat.ne_of_lt (Nat.lt_of_lt_of_le f47.lt (Nat.le_of_eq g56.symm))
  have ne_sa_b56 : sa ≠ b56 := Nat.ne_of_lt (Nat.lt_of_lt_of_le f54.lt (Nat.le_of_eq g56.symm))
  have ne_nx_b56 : nx ≠ b56 := Nat.ne_of_lt (Nat.lt_of_lt_of_le f52.lt (Nat.le_of_eq g56.symm))
  have ne_va_b56 : va ≠ b56 := Nat.ne_of_lt (Nat.lt_of_lt_of_le f53.lt (Nat.le_of_eq g56.symm))
  have g_b56 : n0 ≤ b56 := Nat.le_trans Z46 (Nat.le_of_eq g56.symm)
  have sz_b56 : h0.size ≤ b56 := Nat.le_trans K46.1 (Nat.le_of_eq g56.symm)
  have f57 := f47.ext E56
  have f58 := f48.ext E56
  have f59 := f49.ext E56
  have f60 := f50.ext E56
  have f61 := f51.ext E56
  have f62 := f52.ext E56
  have f63 := f53.ext E56
  have f64 := f54.ext E56
  have F56_start : Fld Z h56 b56 "com/example/graphkind/graphkind/Statements" "start" "[I" .null := D56 (Or.inr (wD hw 109 rfl)) (ty := (.array .int)) (by decide)
  have F56_values : Fld Z h56 b56 "com/example/graphkind/graphkind/Statements" "values" "[J" .null := D56 (Or.inr (wD hw 111 rfl)) (ty := (.array .long)) (by decide)
  have Z56 : n0 ≤ h56.size := Nat.le_trans Z46 E56.1
  have K56 := K46.ext E56
  have go65 := go55.st T56 (mkF m 45 #[vR o0, vI i2, vI i2] [sR o0, sR b56, sR b56]) (fun t k => by
    refine st56 _ ?_
    show SP p e below T56 (mkF m 43 #[vR o0, vI i2, vI i2] [sR b56]) _
    refine XS.dup X56.here hx rfl (hb hby d11_43) rfl rfl ?_
    refine XS.aloadN X56.here hx rfl (hb hby d11_44) rfl rfl ?_
    exact k)
  obtain ⟨T66, X66, e66, st66⟩ := getF X56 hx hZ hown (host := "") (Or.inl (wD hw 37 rfl)) Via.refl e56 f59 (g := (mkF m 45 #[vR o0, vI i2, vI i2] [sR o0, sR b56, sR b56])) rfl rfl (hb hby d11_45)
  have go67 := go65.st T66 (mkF m 50 #[vR o0, vI i2, vI i2] [sR o0, sI i2, sR sa, sR b56, sR b56]) (fun t k => by
    refine st66 _ ?_
    show SP p e below T66 (mkF m 48 #[vR o0, vI i2, vI i2] [sR sa, sR b56, sR b56]) _
    refine XS.iloadN X66.here hx rfl (hb hby d11_48) rfl ?_
    refine XS.aloadN X66.here hx rfl (hb hby d11_49) rfl rfl ?_
    exact k)
  obtain ⟨T68, X68, e68, st68⟩ := getF X66 hx hZ hown (host := "") (Or.inl (wD hw 69 rfl)) Via.refl e66 f61 (g := (mkF m 50 #[vR o0, vI i2, vI i2] [sR o0, sI i2, sR sa, sR b56, sR b56])) rfl rfl (hb hby d11_50)
  have go69 := go67.st T68 (mkF m 53 #[vR o0, vI i2, vI i2] [sR va, sI i2, sR sa, sR b56, sR b56]) (fun t k => by
    refine st68 _ ?_
    exact k)
  have Vo70 := f63
  obtain ⟨cl70, Ar70, qa70, Sa70, Na70, Ha70, Ga70⟩ := Vo70
  have go72 := go69.st T68 (mkF m 58 #[vR o0, vI i2, vI i2] [sR o0, sR sa, sR b56, sR b56]) (fun t k => by
    refine X68.arraylength hx (by rw [e68]; exact Ar70.1) (State.isArrayOf_alike hZ.alike Ar70.2.1) (g := (mkF m 53 #[vR o0, vI i2, vI i2] [sR va, sI i2, sR sa, sR b56, sR b56])) rfl rfl (hb hby d11_53) _ ?_
    rw [len_of Sa70 Na70]
    refine XS.icmpNo X68.here hx rfl (hb hby d11_54) rfl (teq ((by decide) : (2 : Int32) = (2 : Int32))).2 ?_
    refine XS.aloadN X68.here hx rfl (hb hby d11_57) rfl rfl ?_
    exact k)
  obtain ⟨T73, X73, e73, st73⟩ := getF X68 hx hZ hown (host := "") (Or.inl (wD hw 69 rfl)) Via.refl e68 f61 (g := (mkF m 58 #[vR o0, vI i2, vI i2] [sR o0, sR sa, sR b56, sR b56])) rfl rfl (hb hby d11_58)
  have go74 := go72.st T73 (mkF m 72 #[vR o0, vI i2, vI i2] [sR va, sR sa, sR b56, sR b56]) (fun t k => by
    refine st73 _ ?_
    show SP p e below T73 (mkF m 61 #[vR o0, vI i2, vI i2] [sR va, sR sa, sR b56, sR b56]) _
    refine XS.goto X73.here hx rfl (pc0 := 61) (pc' := 72) rfl (hb hby d11_61) (by decide) (by decide) ?_
    exact k)
  obtain ⟨_, _, ⟨T75, L75, k75, n75⟩, -, X75, ⟨Lc75, hQ75, l75, y75, z75⟩, st75⟩ := X73.specialBackNest hx (y := yN15) rfl hown (own_mvM hZ (wD hw 104 rfl)) (mvT hZ (wD hw 105 rfl)) (mvT hZ (wD hw 106 rfl)) (by decide) (backOf (W := 1) (rm_sinit l Z a0 hw [] b56 sa va h56 n0 Z56 A56 g_b56 F56_start F56_values) hZ (wD hw 106 rfl) (wD hw 103 rfl) (by decide) (by decide)) (g := (mkF m 72 #[vR o0, vI i2, vI i2] [sR va, sR sa, sR b56, sR b56])) rfl (by rw [hml]; rfl) (Steps.refl _) (a := b56) (argsL := [(.ref sa), (.ref va)]) (rest := [(.ref b56)]) (lenOf pd_rm_buildC_0_1 rfl) rfl (by show 2 * 0 + _ ≤ _; exact Nat.le_of_eq rfl) (hb hby d11_72) (fun _ _ => ⟨rfl, e73, (by decide : 1 + 0 ≤ _), (by decide : 2 + 0 ≤ _)⟩)
  dsimp only [Pt.U, Pt.locs, Pt.cells, Pt.slots] at X75 l75 y75 z75 st75 hQ75
  rw [l75, y75, z75] at X75
  obtain ⟨rfl, N75q, K75, qp75_0, qp75_1, qp75_2⟩ := hQ75
  have N75 := Fr.app N46 N75q
  have f76 := f57.keep K75
  have f77 := f58.keep K75 (ninS ne_o0_b56 nin0)
  have f78 := f59.keep K75 (ninS ne_o0_b56 nin0)
  have f79 := f60.keep K75 (ninS ne_o0_b56 nin0)
  have f80 := f61.keep K75 (ninS ne_o0_b56 nin0)
  have f81 := f62.keep K75 (ninS ne_nx_b56 nin0)
  have f82 := f63.keep K75 (ninS ne_va_b56 nin0)
  have f83 := f64.keep K75 (ninS ne_sa_b56 nin0)
  have f84 := A56.keep K75
  have Z75 : n0 ≤ T75.heap.size := Nat.le_trans Z56 K75.1
  have KK75 := K56.trans K75 (allS (Or.inr sz_b56) all0)
  have go87 := go74.st T75 (mkF m 75 #[vR o0, vI i2, vI i2] [sR b56]) (fun t k => by
    refine st75.trans ?_
    exact k)
  obtain ⟨fs, hr, hrun, hended, hW, hsame⟩ := X75.leave (v := some (.ref b56)) (fun h => by rw [Bd.returns] at h; cases h)
  refine ⟨_, _, go87 _ ?_, hrun, hended, _, _, rfl, ?_, ⟨_, rfl⟩, hW, hsame.mono (by decide) (by decide)⟩
  · exact own_retA X75 hx Bd.returns rfl rfl (hb hby d11_75) hr
  · show Q_rm_buildC_0 Z o0 sa ka nx kx va kv v0 v1 m0 m1 h0 n0 _ T75.heap _
    exact ⟨b56, rfl, N75, KK75, g_b56, sz_b56, qp75_0, qp75_1, qp75_2, f83, f82⟩
theorem d19_0 : decode prog_9_method_4_code 0 = .ok (.iload_n 1, 1) := by decide +kernel
theorem d19_1 : decode prog_9_method_4_code 1 = .ok (.ifCond .lt 14, 3) := by decide +kernel
theorem d19_4 : decode prog_9_method_4_code 4 = .ok (.iload_n 1, 1) := by decide +kernel
theorem d19_5 : decode prog_9_method_4_code 5 = .ok (.iconst 1, 1) := by decide +kernel
theorem d19_6 : decode prog_9_method_4_code 6 = .ok (.iadd, 1) := by decide +kernel
theorem d19_7 : decode prog_9_method_4_code 7 = .ok (.aload_n 0, 1) := by decide +kernel
theorem d19_8 : decode prog_9_method_4_code 8 = .ok (.getfield 7, 3) := by decide +kernel
theorem d19_11 : decode prog_9_method_4_code 11 = .ok (.arraylength, 1) := by decide +kernel
theorem d19_12 : decode prog_9_method_4_code 12 = .ok (.if_icmp .lt 7, 3) := by decide +kernel
theorem d19_19 : decode prog_9_method_4_code 19 = .ok (.aload_n 0, 1) := by decide +kernel
theorem d19_20 : decode prog_9_method_4_code 20 = .ok (.getfield 7, 3) := by decide +kernel
theorem d19_23 : decode prog_9_method_4_code 23 = .ok (.iload_n 1, 1) := by decide +kernel
theorem d19_24 : decode prog_9_method_4_code 24 = .ok (.iconst 1, 1) := by decide +kernel
theorem d19_25 : decode prog_9_method_4_code 25 = .ok (.iadd, 1) := by decide +kernel
theorem d19_26 : decode prog_9_method_4_code 26 = .ok (.iaload, 1) := by decide +kernel
theorem d19_27 : decode prog_9_method_4_code 27 = .ok (.ireturn, 1) := by decide +kernel
theorem pn_rm_end0 : plainName "com/example/graphkind/graphkind/Statements" = true := by first | (simp [plainName, overriddenIn]; done) | decide +kernel
theorem ef_rm_end0 (m : MethodId) (o0 : Addr) : entryFrame m #[(.ref o0), (.int (0 : Int32))] 2 = mkF m 0 #[.val (.ref o0), .val (.int (0 : Int32))] [] := by first | (simp [entryFrame, mkF, argsToLocals, Value.category]; done) | rfl
def Q_rm_end0 (Z : State) (o0 : Addr) (sa : Addr) (ka : ClassId) (x0 : Int32) (x1 : Int32) (x2 : Int32) (h0 : Heap) (n0 : Nat) (v : Option Value) (h : Heap) (L : List Loc) : Prop := v = some (.int x1) ∧ Fr n0 L ∧ h = h0
set_option maxRecDepth 65536 in
set_option maxHeartbeats 40000000 in
theorem rm_end0 (l : Launch) (Z : State) (a0 : Array Value) (hw : ∀ d ∈ tables_1, d.before a0 Z = true) (ws : List Jvm.Cond) (o0 : Addr) (sa : Addr) (ka : ClassId) (x0 : Int32) (x1 : Int32) (x2 : Int32) (h0 : Heap) (n0 : Nat) (Z0 : n0 ≤ h0.size) (F_start_o0 : Fld Z h0 o0 "com/example/graphkind/graphkind/Statements" "start" "[I" (.ref sa)) (V_sa : Arv Z h0 sa ka .int (3 : Int32) [(.int x0), (.int x1), (.int x2)] (.int (0 : Int32))) :
    MetFree l yN18 (head1 (Jvm.Cond.code yN18 prog_9_method_4_code 2 (some .int) :: ws) ({ frames := 0, cells := 0, slots := 0, locals := 0 } : Room)) (fun a U => a = #[(.ref o0), (.int (0 : Int32))] ∧ Z.Warmed39 U.vm ∧ U.heap = h0) (fun _ _ _ _ _ => True) (fun _ U o U' => ∃ v L, o = .returned v ∧ Q_rm_end0 Z o0 sa ka x0 x1 x2 h0 n0 v U'.heap L ∧ FrameEnd U o U' L ({ frames := 0, cells := 0, slots := 0, locals := 0 } : Room).cells ({ frames := 0, cells := 0, slots := 0, locals := 0 } : Room).slots) := by
  refine MetFree.of_bodySF (plainFor_of_name pn_rm_end0) hisR ?_
  intro p e s m args below meth c s₁ Bd hml0 hP hK
  obtain ⟨rfl, hZ, hh⟩ := hP
  have hx := Bd.exec
  have hby := Bd.bytes
  have hml : c.maxLocals = 2 := hml0
  have hown : s.vm.findClass "com/example/graphkind/graphkind/Statements" = some m.cls := findClass_of_methodNamed Bd.named
  have hnm := (name_of_methodNamed Bd.named Bd.method).1
  have X0 : Stand p l e ({ frames := 0, cells := 0, slots := 0, locals := 0 } : Room) s m #[(.ref o0), (.int (0 : Int32))] below meth c s₁ [] 0 0 := Stand.of_body Bd
  have e0 : s₁.heap = h0 := by rw [← hh, Bd.state]; rfl
  have N0 := Fr.nil n0
  have K0 := Keep.refl h0 []
  have go0 : Go p e below (s₁.setTop (entryFrame m #[(.ref o0), (.int (0 : Int32))] 2)) (s₁.setTop (mkF m 0 #[vR o0, vI i0] [])) := fun t k => castTop (ef_rm_end0 m o0) k
  have go2 := go0.st s₁ (mkF m 8 #[vR o0, vI i0] [sR o0, sI i1]) (fun t k => by
    refine XS.iloadN X0.here hx rfl (hb hby d19_0) rfl ?_
    refine XS.ifNo X0.here hx rfl (hb hby d19_1) rfl ((if0 _ _).trans (flt ((by decide) : ¬ ((0 : Int32) < (0 : Int32)))).1) ?_
    refine XS.iloadN X0.here hx rfl (hb hby d19_4) rfl ?_
    refine XS.iconst X0.here hx rfl (hb hby d19_5) ?_
    refine XS.iadd X0.here hx rfl (hb hby d19_6) rfl ?_
    refine XS.aloadN X0.here hx rfl (hb hby d19_7) rfl rfl ?_
    exact k)
  obtain ⟨T3, X3, e3, st3⟩ := getF X0 hx hZ hown (host := "") (Or.inl (wD hw 108 rfl)) Via.refl e0 F_start_o0 (g := (mkF m 8 #[vR o0, vI i0] [sR o0, sI i1])) rfl rfl (hb hby d19_8)
  have go4 := go2.st T3 (mkF m 11 #[vR o0, vI i0] [sR sa, sI i1]) (fun t k => by
    refine st3 _ ?_
    exact k)
  have Vo5 := V_sa
  obtain ⟨cl5, Ar5, qa5, Sa5, Na5, Ha5, Ga5⟩ := Vo5
  have go7 := go4.st T3 (mkF m 20 #[vR o0, vI i0] [sR o0]) (fun t k => by
    refine X3.arraylength hx (by rw [e3]; exact Ar5.1) (State.isArrayOf_alike hZ.alike Ar5.2.1) (g := (mkF m 11 #[vR o0, vI i0] [sR sa, sI i1])) rfl rfl (hb hby d19_11) _ ?_
    rw [len_of Sa5 Na5]
    refine XS.icmpYes X3.here hx rfl (pc0 := 12) (pc' := 19) rfl (hb hby d19_12) rfl (tlt ((by decide) : (1 : Int32) < (3 : Int32))).1 (by decide) (by decide) ?_
    refine XS.aloadN X3.here hx rfl (hb hby d19_19) rfl rfl ?_
    exact k)
  obtain ⟨T8, X8, e8, st8⟩ := getF X3 hx hZ hown (host := "") (Or.inl (wD hw 108 rfl)) Via.refl e3 F_start_o0 (g := (mkF m 20 #[vR o0, vI i0] [sR o0])) rfl rfl (hb hby d19_20)
  have go9 := go7.st T8 (mkF m 26 #[vR o0, vI i0] [sI i1, sR sa]) (fun t k => by
    refine st8 _ ?_
    show SP p e below T8 (mkF m 23 #[vR o0, vI i0] [sR sa]) _
    refine XS.iloadN X8.here hx rfl (hb hby d19_23) rfl ?_
    refine XS.iconst X8.here hx rfl (hb hby d19_24) ?_
    refine XS.iadd X8.here hx rfl (hb hby d19_25) rfl ?_
    exact k)
  have Vo10 := V_sa
  obtain ⟨cl10, Ar10, qa10, Sa10, Na10, Ha10, Ga10⟩ := Vo10
  have hin10 := inb_of (j := (1 : Int32)) Sa10 ⟨by decide, by decide⟩
  have hat10 : cl10.slots[((1 : Int32)).toNatClampNeg]? = some (.int x1) := Has.at Ha10 hin10 rfl
  have go11 := go9.st T8 (mkF m 27 #[vR o0, vI i0] [sI x1]) (fun t k => by
    refine X8.iaload hx (j := (1 : Int32)) (v := (.int x1)) (by rw [e8]; exact Ar10.1) (State.isArrayOf_alike hZ.alike Ar10.2.1) Ar10.2.2 hin10 hat10 (g := (mkF m 26 #[vR o0, vI i0] [sI i1, sR sa])) rfl rfl (hb hby d19_26) _ ?_
    exact k)
  obtain ⟨fs, hr, hrun, hended, hW, hsame⟩ := X8.leave (v := some (.int x1)) (fun h => by rw [Bd.returns] at h; cases h)
  refine ⟨_, _, go11 _ ?_, hrun, hended, _, _, rfl, ?_, ⟨_, rfl⟩, hW, hsame.mono (by decide) (by decide)⟩
  · exact own_retI X8 hx Bd.returns (hb hby d19_27) hr
  · show Q_rm_end0 Z o0 sa ka x0 x1 x2 h0 n0 _ T8.heap _
    rw [e8]
    exact ⟨rfl, N0, rfl⟩
theorem pn_rm_end1 : plainName "com/example/graphkind/graphkind/Statements" = true := by first | (simp [plainName, overriddenIn]; done) | decide +kernel
theorem ef_rm_end1 (m : MethodId) (o0 : Addr) : entryFrame m #[(.ref o0), (.int (1 : Int32))] 2 = mkF m 0 #[.val (.ref o0), .val (.int (1 : Int32))] [] := by first | (simp [entryFrame, mkF, argsToLocals, Value.category]; done) | rfl
def Q_rm_end1 (Z : State) (o0 : Addr) (sa : Addr) (ka : ClassId) (x0 : Int32) (x1 : Int32) (x2 : Int32) (h0 : Heap) (n0 : Nat) (v : Option Value) (h : Heap) (L : List Loc) : Prop := v = some (.int x2) ∧ Fr n0 L ∧ h = h0
set_option maxRecDepth 65536 in
set_option maxHeartbeats 40000000 in
theorem rm_end1 (l : Launch) (Z : State) (a0 : Array Value) (hw : ∀ d ∈ tables_1, d.before a0 Z = true) (ws : List Jvm.Cond) (o0 : Addr) (sa : Addr) (ka : ClassId) (x0 : Int32) (x1 : Int32) (x2 : Int32) (h0 : Heap) (n0 : Nat) (Z0 : n0 ≤ h0.size) (F_start_o0 : Fld Z h0 o0 "com/example/graphkind/graphkind/Statements" "start" "[I" (.ref sa)) (V_sa : Arv Z h0 sa ka .int (3 : Int32) [(.int x0), (.int x1), (.int x2)] (.int (0 : Int32))) :
    MetFree l yN18 (head1 (Jvm.Cond.code yN18 prog_9_method_4_code 2 (some .int) :: ws) ({ frames := 0, cells := 0, slots := 0, locals := 0 } : Room)) (fun a U => a = #[(.ref o0), (.int (1 : Int32))] ∧ Z.Warmed39 U.vm ∧ U.heap = h0) (fun _ _ _ _ _ => True) (fun _ U o U' => ∃ v L, o = .returned v ∧ Q_rm_end1 Z o0 sa ka x0 x1 x2 h0 n0 v U'.heap L ∧ FrameEnd U o U' L ({ frames := 0, cells := 0, slots := 0, locals := 0 } : Room).cells ({ frames := 0, cells := 0, slots := 0, locals := 0 } : Room).slots) := by
  refine MetFree.of_bodySF (plainFor_of_name pn_rm_end1) hisR ?_
  intro p e s m args below meth c s₁ Bd hml0 hP hK
  obtain ⟨rfl, hZ, hh⟩ := hP
  have hx := Bd.exec
  have hby := Bd.bytes
  have hml : c.maxLocals = 2 := hml0
  have hown : s.vm.findClass "com/example/graphkind/graphkind/Statements" = some m.cls := findClass_of_methodNamed Bd.named
  have hnm := (name_of_methodNamed Bd.named Bd.method).1
  have X0 : Stand p l e ({ frames := 0, cells := 0, slots := 0, locals := 0 } : Room) s m #[(.ref o0), (.int (1 : Int32))] below meth c s₁ [] 0 0 := Stand.of_body Bd
  have e0 : s₁.heap = h0 := by rw [← hh, Bd.state]; rfl
  have N0 := Fr.nil n0
  have K0 := Keep.refl h0 []
  have go0 : Go p e below (s₁.setTop (entryFrame m #[(.ref o0), (.int (1 : Int32))] 2)) (s₁.setTop (mkF m 0 #[vR o0, vI i1] [])) := fun t k => castTop (ef_rm_end1 m o0) k
  have go2 := go0.st s₁ (mkF m 8 #[vR o0, vI i1] [sR o0, sI i2]) (fun t k => by
    refine XS.iloadN X0.here hx rfl (hb hby d19_0) rfl ?_
    refine XS.ifNo X0.here hx rfl (hb hby d19_1) rfl ((if0 _ _).trans (flt ((by decide) : ¬ ((1 : Int32) < (0 : Int32)))).1) ?_
    refine XS.iloadN X0.here hx rfl (hb hby d19_4) rfl ?_
    refine XS.iconst X0.here hx rfl (hb hby d19_5) ?_
    refine XS.iadd X0.here hx rfl (hb hby d19_6) rfl ?_
    refine XS.aloadN X0.here hx rfl (hb hby d19_7) rfl rfl ?_
    exact k)
  obtain ⟨T3, X3, e3, st3⟩ := getF X0 hx hZ hown (host := "") (Or.inl (wD hw 108 rfl)) Via.refl e0 F_start_o0 (g := (mkF m 8 #[vR o0, vI i1] [sR o0, sI i2])) rfl rfl (hb hby d19_8)
  have go4 := go2.st T3 (mkF m 11 #[vR o0, vI i1] [sR sa, sI i2]) (fun t k => by
    refine st3 _ ?_
    exact k)
  have Vo5 := V_sa
  obtain ⟨cl5, Ar5, qa5, Sa5, Na5, Ha5, Ga5⟩ := Vo5
  have go7 := go4.st T3 (mkF m 20 #[vR o0, vI i1] [sR o0]) (fun t k => by
    refine X3.arraylength hx (by rw [e3]; exact Ar5.1) (State.isArrayOf_alike hZ.alike Ar5.2.1) (g := (mkF m 11 #[vR o0, vI i1] [sR sa, sI i2])) rfl rfl (hb hby d19_11) _ ?_
    rw [len_of Sa5 Na5]
    refine XS.icmpYes X3.here hx rfl (pc0 := 12) (pc' := 19) rfl (hb hby d19_12) rfl (tlt ((by decide) : (2 : Int32) < (3 : Int32))).1 (by decide) (by decide) ?_
    refine XS.aloadN X3.here hx rfl (hb hby d19_19) rfl rfl ?_
    exact k)
  obtain ⟨T8, X8, e8, st8⟩ := getF X3 hx hZ hown (host := "") (Or.inl (wD hw 108 rfl)) Via.refl e3 F_start_o0 (g := (mkF m 20 #[vR o0, vI i1] [sR o0])) rfl rfl (hb hby d19_20)
  have go9 := go7.st T8 (mkF m 26 #[vR o0, vI i1] [sI i2, sR sa]) (fun t k => by
    refine st8 _ ?_
    show SP p e below T8 (mkF m 23 #[vR o0, vI i1] [sR sa]) _
    refine XS.iloadN X8.here hx rfl (hb hby d19_23) rfl ?_
    refine XS.iconst X8.here hx rfl (hb hby d19_24) ?_
    refine XS.iadd X8.here hx rfl (hb hby d19_25) rfl ?_
    exact k)
  have Vo10 := V_sa
  obtain ⟨cl10, Ar10, qa10, Sa10, Na10, Ha10, Ga10⟩ := Vo10
  have hin10 := inb_of (j := (2 : Int32)) Sa10 ⟨by decide, by decide⟩
  have hat10 : cl10.slots[((2 : Int32)).toNatClampNeg]? = some (.int x2) := Has.at Ha10 hin10 rfl
  have go11 := go9.st T8 (mkF m 27 #[vR o0, vI i1] [sI x2]) (fun t k => by
    refine X8.iaload hx (j := (2 : Int32)) (v := (.int x2)) (by rw [e8]; exact Ar10.1) (State.isArrayOf_alike hZ.alike Ar10.2.1) Ar10.2.2 hin10 hat10 (g := (mkF m 26 #[vR o0, vI i1] [sI i2, sR sa])) rfl rfl (hb hby d19_26) _ ?_
    exact k)
  obtain ⟨fs, hr, hrun, hended, hW, hsame⟩ := X8.leave (v := some (.int x2)) (fun h => by rw [Bd.returns] at h; cases h)
  refine ⟨_, _, go11 _ ?_, hrun, hended, _, _, rfl, ?_, ⟨_, rfl⟩, hW, hsame.mono (by decide) (by decide)⟩
  · exact own_retI X8 hx Bd.returns (hb hby d19_27) hr
  · show Q_rm_end1 Z o0 sa ka x0 x1 x2 h0 n0 _ T8.heap _
    rw [e8]
    exact ⟨rfl, N0, rfl⟩
def own_pred (w : Int64) : Int32 := ((own_usrL w (32 : Int32)).toInt32)
theorem d21_0 : decode prog_9_method_7_code 0 = .ok (.aload_n 0, 1) := by decide +kernel
theorem d21_1 : decode prog_9_method_7_code 1 = .ok (.getfield 13, 3) := by decide +kernel
theorem d21_4 : decode prog_9_method_7_code 4 = .ok (.iload_n 1, 1) := by decide +kernel
theorem d21_5 : decode prog_9_method_7_code 5 = .ok (.laload, 1) := by decide +kernel
theorem d21_6 : decode prog_9_method_7_code 6 = .ok (.bipush 32, 2) := by decide +kernel
theorem d21_8 : decode prog_9_method_7_code 8 = .ok (.lushr, 1) := by decide +kernel
theorem d21_9 : decode prog_9_method_7_code 9 = .ok (.l2i, 1) := by decide +kernel
theorem d21_10 : decode prog_9_method_7_code 10 = .ok (.ireturn, 1) := by decide +kernel
theorem pn_rm21 : plainName "com/example/graphkind/graphkind/Statements" = true := by first | (simp [plainName, overriddenIn]; done) | decide +kernel
theorem ef_rm21 (m : MethodId) (o0 : Addr) (p1 : Int32) : entryFrame m #[(.ref o0), (.int p1)] 2 = mkF m 0 #[.val (.ref o0), .val (.int p1)] [] := by first | (simp [entryFrame, mkF, argsToLocals, Value.category]; done) | rfl
def Q_rm21 (Z : State) (o0 : Addr) (p1 : Int32) (va : Addr) (kv : ClassId) (nn : Int32) (vs : List Value) (w : Int64) (h0 : Heap) (n0 : Nat) (v : Option Value) (h : Heap) (L : List Loc) : Prop := v = some (.int (own_pred w)) ∧ Fr n0 L ∧ h = h0
set_option maxRecDepth 65536 in
set_option maxHeartbeats 40000000 in
theorem rm21 (l : Launch) (Z : State) (a0 : Array Value) (hw : ∀ d ∈ tables_1, d.before a0 Z = true) (ws : List Jvm.Cond) (o0 : Addr) (p1 : Int32) (va : Addr) (kv : ClassId) (nn : Int32) (vs : List Value) (w : Int64) (h0 : Heap) (n0 : Nat) (Z0 : n0 ≤ h0.size) (F_values_o0 : Fld Z h0 o0 "com/example/graphkind/graphkind/Statements" "values" "[J" (.ref va)) (V_va : Arv Z h0 va kv .long nn vs (.long (0 : Int64))) (hin : ¬ p1 < 0 ∧ p1 < nn) (hget : vs.getD (p1).toNatClampNeg (.long (0 : Int64)) = .long w) :
    MetFree l yN19 (head1 (Jvm.Cond.code yN19 prog_9_method_7_code 2 (some .int) :: ws) ({ frames := 0, cells := 0, slots := 0, locals := 0 } : Room)) (fun a U => a = #[(.ref o0), (.int p1)] ∧ Z.Warmed39 U.vm ∧ U.heap = h0) (fun _ _ _ _ _ => True) (fun _ U o U' => ∃ v L, o = .returned v ∧ Q_rm21 Z o0 p1 va kv nn vs w h0 n0 v U'.heap L ∧ FrameEnd U o U' L ({ frames := 0, cells := 0, slots := 0, locals := 0 } : Room).cells ({ frames := 0, cells := 0, slots := 0, locals := 0 } : Room).slots) := by
  refine MetFree.of_bodySF (plainFor_of_name pn_rm21) hisR ?_
  intro p e s m args below meth c s₁ Bd hml0 hP hK
  obtain ⟨rfl, hZ, hh⟩ := hP
  have hx := Bd.exec
  have hby := Bd.bytes
  have hml : c.maxLocals = 2 := hml0
  have hown : s.vm.findClass "com/example/graphkind/graphkind/Statements" = some m.cls := findClass_of_methodNamed Bd.named
  have hnm := (name_of_methodNamed Bd.named Bd.method).1
  have X0 : Stand p l e ({ frames := 0, cells := 0, slots := 0, locals := 0 } : Room) s m #[(.ref o0), (.int p1)] below meth c s₁ [] 0 0 := Stand.of_body Bd
  have e0 : s₁.heap = h0 := by rw [← hh, Bd.state]; rfl
  have N0 := Fr.nil n0
  have K0 := Keep.refl h0 []
  have go0 : Go p e below (s₁.setTop (entryFrame m #[(.ref o0), (.int p1)] 2)) (s₁.setTop (mkF m 0 #[vR o0, vI p1] [])) := fun t k => castTop (ef_rm21 m o0 p1) k
  have go1 := go0.st s₁ (mkF m 1 #[vR o0, vI p1] [sR o0]) (fun t k => by
    refine XS.aloadN X0.here hx rfl (hb hby d21_0) rfl rfl ?_
    exact k)
  obtain ⟨T2, X2, e2, st2⟩ := getF X0 hx hZ hown (host := "") (Or.inl (wD hw 110 rfl)) Via.refl e0 F_values_o0 (g := (mkF m 1 #[vR o0, vI p1] [sR o0])) rfl rfl (hb hby d21_1)
  have go3 := go1.st T2 (mkF m 5 #[vR o0, vI p1] [sI p1, sR va]) (fun t k => by
    refine st2 _ ?_
    show SP p e below T2 (mkF m 4 #[vR o0, vI p1] [sR va]) _
    refine XS.iloadN X2.here hx rfl (hb hby d21_4) rfl ?_
    exact k)
  have Vo4 := V_va
  obtain ⟨cl4, Ar4, qa4, Sa4, Na4, Ha4, Ga4⟩ := Vo4
  have hin4 := inb_of (j := p1) Sa4 hin
  have hat4 : cl4.slots[(p1).toNatClampNeg]? = some (.long w) := Has.at Ha4 hin4 hget
  have go5 := go3.st T2 (mkF m 10 #[vR o0, vI p1] [(sI ((own_usrL w (32 : Int32)).toInt32))]) (fun t k => by
    refine X2.laload hx (j := p1) (v := (.long w)) (by rw [e2]; exact Ar4.1) (State.isArrayOf_alike hZ.alike Ar4.2.1) Ar4.2.2 hin4 hat4 (g := (mkF m 5 #[vR o0, vI p1] [sI p1, sR va])) rfl rfl (hb hby d21_5) _ ?_
    refine XS.bipush X2.here hx rfl (hb hby d21_6) ?_
    refine XS.lushr X2.here hx rfl (hb hby d21_8) rfl ?_
    refine XS.l2i X2.here hx rfl (hb hby d21_9) rfl ?_
    exact k)
  obtain ⟨fs, hr, hrun, hended, hW, hsame⟩ := X2.leave (v := some (.int ((own_usrL w (32 : Int32)).toInt32))) (fun h => by rw [Bd.returns] at h; cases h)
  refine ⟨_, _, go5 _ ?_, hrun, hended, _, _, rfl, ?_, ⟨_, rfl⟩, hW, hsame.mono (by decide) (by decide)⟩
  · exact own_retI X2 hx Bd.returns (hb hby d21_10) hr
  · show Q_rm21 Z o0 p1 va kv nn vs w h0 n0 _ T2.heap _
    rw [e2]
    exact ⟨rfl, N0, rfl⟩
def own_obj (w : Int64) : Int32 := (own_usr (w.toInt32) (1 : Int32))
theorem d22_0 : decode prog_9_method_8_code 0 = .ok (.aload_n 0, 1) := by decide +kernel
theorem d22_1 : decode prog_9_method_8_code 1 = .ok (.getfield 13, 3) := by decide +kernel
theorem d22_4 : decode prog_9_method_8_code 4 = .ok (.iload_n 1, 1) := by decide +kernel
theorem d22_5 : decode prog_9_method_8_code 5 = .ok (.laload, 1) := by decide +kernel
theorem d22_6 : decode prog_9_method_8_code 6 = .ok (.l2i, 1) := by decide +kernel
theorem d22_7 : decode prog_9_method_8_code 7 = .ok (.iconst 1, 1) := by decide +kernel
theorem d22_8 : decode prog_9_method_8_code 8 = .ok (.iushr, 1) := by decide +kernel
theorem d22_9 : decode prog_9_method_8_code 9 = .ok (.ireturn, 1) := by decide +kernel
theorem pn_rm22 : plainName "com/example/graphkind/graphkind/Statements" = true := by first | (simp [plainName, overriddenIn]; done) | decide +kernel
theorem ef_rm22 (m : MethodId) (o0 : Addr) (p1 : Int32) : entryFrame m #[(.ref o0), (.int p1)] 2 = mkF m 0 #[.val (.ref o0), .val (.int p1)] [] := by first | (simp [entryFrame, mkF, argsToLocals, Value.category]; done) | rfl
def Q_rm22 (Z : State) (o0 : Addr) (p1 : Int32) (va : Addr) (kv : ClassId) (nn : Int32) (vs : List Value) (w : Int64) (h0 : Heap) (n0 : Nat) (v : Option Value) (h : Heap) (L : List Loc) : Prop := v = some (.int (own_obj w)) ∧ Fr n0 L ∧ h = h0
set_option maxRecDepth 65536 in
set_option maxHeartbeats 40000000 in
theorem rm22 (l : Launch) (Z : State) (a0 : Array Value) (hw : ∀ d ∈ tables_1, d.before a0 Z = true) (ws : List Jvm.Cond) (o0 : Addr) (p1 : Int32) (va : Addr) (kv : ClassId) (nn : Int32) (vs : List Value) (w : Int64) (h0 : Heap) (n0 : Nat) (Z0 : n0 ≤ h0.size) (F_values_o0 : Fld Z h0 o0 "com/example/graphkind/graphkind/Statements" "values" "[J" (.ref va)) (V_va : Arv Z h0 va kv .long nn vs (.long (0 : Int64))) (hin : ¬ p1 < 0 ∧ p1 < nn) (hget : vs.getD (p1).toNatClampNeg (.long (0 : Int64)) = .long w) :
    MetFree l yN20 (head1 (Jvm.Cond.code yN20 prog_9_method_8_code 2 (some .int) :: ws) ({ frames := 0, cells := 0, slots := 0, locals := 0 } : Room)) (fun a U => a = #[(.ref o0), (.int p1)] ∧ Z.Warmed39 U.vm ∧ U.heap = h0) (fun _ _ _ _ _ => True) (fun _ U o U' => ∃ v L, o = .returned v ∧ Q_rm22 Z o0 p1 va kv nn vs w h0 n0 v U'.heap L ∧ FrameEnd U o U' L ({ frames := 0, cells := 0, slots := 0, locals := 0 } : Room).cells ({ frames := 0, cells := 0, slots := 0, locals := 0 } : Room).slots) := by
  refine MetFree.of_bodySF (plainFor_of_name pn_rm22) hisR ?_
  intro p e s m args below meth c s₁ Bd hml0 hP hK
  obtain ⟨rfl, hZ, hh⟩ := hP
  have hx := Bd.exec
  have hby := Bd.bytes
  have hml : c.maxLocals = 2 := hml0
  have hown : s.vm.findClass "com/example/graphkind/graphkind/Statements" = some m.cls := findClass_of_methodNamed Bd.named
  have hnm := (name_of_methodNamed Bd.named Bd.method).1
  have X0 : Stand p l e ({ frames := 0, cells := 0, slots := 0, locals := 0 } : Room) s m #[(.ref o0), (.int p1)] below meth c s₁ [] 0 0 := Stand.of_body Bd
  have e0 : s₁.heap = h0 := by rw [← hh, Bd.state]; rfl
  have N0 := Fr.nil n0
  have K0 := Keep.refl h0 []
  have go0 : Go p e below (s₁.setTop (entryFrame m #[(.ref o0), (.int p1)] 2)) (s₁.setTop (mkF m 0 #[vR o0, vI p1] [])) := fun t k => castTop (ef_rm22 m o0 p1) k
  have go1 := go0.st s₁ (mkF m 1 #[vR o0, vI p1] [sR o0]) (fun t k => by
    refine XS.aloadN X0.here hx rfl (hb hby d22_0) rfl rfl ?_
    exact k)
  obtain ⟨T2, X2, e2, st2⟩ := getF X0 hx hZ hown (host := "") (Or.inl (wD hw 110 rfl)) Via.refl e0 F_values_o0 (g := (mkF m 1 #[vR o0, vI p1] [sR o0])) rfl rfl (hb hby d22_1)
  have go3 := go1.st T2 (mkF m 5 #[vR o0, vI p1] [sI p1, sR va]) (fun t k => by
    refine st2 _ ?_
    show SP p e below T2 (mkF m 4 #[vR o0, vI p1] [sR va]) _
    refine XS.iloadN X2.here hx rfl (hb hby d22_4) rfl ?_
    exact k)
  have Vo4 := V_va
  obtain ⟨cl4, Ar4, qa4, Sa4, Na4, Ha4, Ga4⟩ := Vo4
  have hin4 := inb_of (j := p1) Sa4 hin
  have hat4 : cl4.slots[(p1).toNatClampNeg]? = some (.long w) := Has.at Ha4 hin4 hget
  have go5 := go3.st T2 (mkF m 9 #[vR o0, vI p1] [(sI (own_usr (w.toInt32) i1))]) (fun t k => by
    refine X2.laload hx (j := p1) (v := (.long w)) (by rw [e2]; exact Ar4.1) (State.isArrayOf_alike hZ.alike Ar4.2.1) Ar4.2.2 hin4 hat4 (g := (mkF m 5 #[vR o0, vI p1] [sI p1, sR va])) rfl rfl (hb hby d22_5) _ ?_
    refine XS.l2i X2.here hx rfl (hb hby d22_6) rfl ?_
    refine XS.iconst X2.here hx rfl (hb hby d22_7) ?_
    refine XS.iushr X2.here hx rfl (hb hby d22_8) rfl ?_
    exact k)
  obtain ⟨fs, hr, hrun, hended, hW, hsame⟩ := X2.leave (v := some (.int (own_usr (w.toInt32) (1 : Int32)))) (fun h => by rw [Bd.returns] at h; cases h)
  refine ⟨_, _, go5 _ ?_, hrun, hended, _, _, rfl, ?_, ⟨_, rfl⟩, hW, hsame.mono (by decide) (by decide)⟩
  · exact own_retI X2 hx Bd.returns (hb hby d22_9) hr
  · show Q_rm22 Z o0 p1 va kv nn vs w h0 n0 _ T2.heap _
    rw [e2]
    exact ⟨rfl, N0, rfl⟩
def own_isd (w : Int64) : Int32 := (if (w &&& (1 : Int64)) = (0 : Int64) then (0 : Int32) else (1 : Int32))
theorem d23_0 : decode prog_9_method_9_code 0 = .ok (.aload_n 0, 1) := by decide +kernel
theorem d23_1 : decode prog_9_method_9_code 1 = .ok (.getfield 13, 3) := by decide +kernel
theorem d23_4 : decode prog_9_method_9_code 4 = .ok (.iload_n 1, 1) := by decide +kernel
theorem d23_5 : decode prog_9_method_9_code 5 = .ok (.laload, 1) := by decide +kernel
theorem d23_6 : decode prog_9_method_9_code 6 = .ok (.lconst 1, 1) := by decide +kernel
theorem d23_7 : decode prog_9_method_9_code 7 = .ok (.land, 1) := by decide +kernel
theorem d23_8 : decode prog_9_method_9_code 8 = .ok (.lconst 0, 1) := by decide +kernel
theorem d23_9 : decode prog_9_method_9_code 9 = .ok (.lcmp, 1) := by decide +kernel
theorem d23_10 : decode prog_9_method_9_code 10 = .ok (.ifCond .eq 7, 3) := by decide +kernel
theorem d23_13 : decode prog_9_method_9_code 13 = .ok (.iconst 1, 1) := by decide +kernel
theorem d23_14 : decode prog_9_method_9_code 14 = .ok (.goto 4, 3) := by decide +kernel
theorem d23_17 : decode prog_9_method_9_code 17 = .ok (.iconst 0, 1) := by decide +kernel
theorem d23_18 : decode prog_9_method_9_code 18 = .ok (.ireturn, 1) := by decide +kernel
theorem pn_rm23 : plainName "com/example/graphkind/graphkind/Statements" = true := by first | (simp [plainName, overriddenIn]; done) | decide +kernel
theorem ef_rm23 (m : MethodId) (o0 : Addr) (p1 : Int32) : entryFrame m #[(.ref o0), (.int p1)] 2 = mkF m 0 #[.val (.ref o0), .val (.int p1)] [] := by first | (simp [entryFrame, mkF, argsToLocals, Value.category]; done) | rfl
def Q_rm23 (Z : State) (o0 : Addr) (p1 : Int32) (va : Addr) (kv : ClassId) (nn : Int32) (vs : List Value) (w : Int64) (h0 : Heap) (n0 : Nat) (v : Option Value) (h : Heap) (L : List Loc) : Prop := v = some (.int (own_isd w)) ∧ Fr n0 L ∧ h = h0
set_option maxRecDepth 65536 in
set_option maxHeartbeats 40000000 in
theorem rm23 (l : Launch) (Z : State) (a0 : Array Value) (hw : ∀ d ∈ tables_1, d.before a0 Z = true) (ws : List Jvm.Cond) (o0 : Addr) (p1 : Int32) (va : Addr) (kv : ClassId) (nn : Int32) (vs : List Value) (w : Int64) (h0 : Heap) (n0 : Nat) (Z0 : n0 ≤ h0.size) (F_values_o0 : Fld Z h0 o0 "com/example/graphkind/graphkind/Statements" "values" "[J" (.ref va)) (V_va : Arv Z h0 va kv .long nn vs (.long (0 : Int64))) (hin : ¬ p1 < 0 ∧ p1 < nn) (hget : vs.getD (p1).toNatClampNeg (.long (0 : Int64)) = .long w) :
    MetFree l yN21 (head1 (Jvm.Cond.code yN21 prog_9_method_9_code 2 (some .boolean) :: ws) ({ frames := 0, cells := 0, slots := 0, locals := 0 } : Room)) (fun a U => a = #[(.ref o0), (.int p1)] ∧ Z.Warmed39 U.vm ∧ U.heap = h0) (fun _ _ _ _ _ => True) (fun _ U o U' => ∃ v L, o = .returned v ∧ Q_rm23 Z o0 p1 va kv nn vs w h0 n0 v U'.heap L ∧ FrameEnd U o U' L ({ frames := 0, cells := 0, slots := 0, locals := 0 } : Room).cells ({ frames := 0, cells := 0, slots := 0, locals := 0 } : Room).slots) := by
  refine MetFree.of_bodySF (plainFor_of_name pn_rm23) hisR ?_
  intro p e s m args below meth c s₁ Bd hml0 hP hK
  obtain ⟨rfl, hZ, hh⟩ := hP
  have hx := Bd.exec
  have hby := Bd.bytes
  have hml : c.maxLocals = 2 := hml0
  have hown : s.vm.findClass "com/example/graphkind/graphkind/Statements" = some m.cls := findClass_of_methodNamed Bd.named
  have hnm := (name_of_methodNamed Bd.named Bd.method).1
  have X0 : Stand p l e ({ frames := 0, cells := 0, slots := 0, locals := 0 } : Room) s m #[(.ref o0), (.int p1)] below meth c s₁ [] 0 0 := Stand.of_body Bd
  have e0 : s₁.heap = h0 := by rw [← hh, Bd.state]; rfl
  have N0 := Fr.nil n0
  have K0 := Keep.refl h0 []
  have go0 : Go p e below (s₁.setTop (entryFrame m #[(.ref o0), (.int p1)] 2)) (s₁.setTop (mkF m 0 #[vR o0, vI p1] [])) := fun t k => castTop (ef_rm23 m o0 p1) k
  have go1 := go0.st s₁ (mkF m 1 #[vR o0, vI p1] [sR o0]) (fun t k => by
    refine XS.aloadN X0.here hx rfl (hb hby d23_0) rfl rfl ?_
    exact k)
  obtain ⟨T2, X2, e2, st2⟩ := getF X0 hx hZ hown (host := "") (Or.inl (wD hw 110 rfl)) Via.refl e0 F_values_o0 (g := (mkF m 1 #[vR o0, vI p1] [sR o0])) rfl rfl (hb hby d23_1)
  have go3 := go1.st T2 (mkF m 5 #[vR o0, vI p1] [sI p1, sR va]) (fun t k => by
    refine st2 _ ?_
    show SP p e below T2 (mkF m 4 #[vR o0, vI p1] [sR va]) _
    refine XS.iloadN X2.here hx rfl (hb hby d23_4) rfl ?_
    exact k)
  have Vo4 := V_va
  obtain ⟨cl4, Ar4, qa4, Sa4, Na4, Ha4, Ga4⟩ := Vo4
  have hin4 := inb_of (j := p1) Sa4 hin
  have hat4 : cl4.slots[(p1).toNatClampNeg]? = some (.long w) := Has.at Ha4 hin4 hget
  have go6 := go3.st T2 (mkF m 10 #[vR o0, vI p1] [(sI (lcmpW (w &&& (1 : Int64)) (0 : Int64)))]) (fun t k => by
    refine X2.laload hx (j := p1) (v := (.long w)) (by rw [e2]; exact Ar4.1) (State.isArrayOf_alike hZ.alike Ar4.2.1) Ar4.2.2 hin4 hat4 (g := (mkF m 5 #[vR o0, vI p1] [sI p1, sR va])) rfl rfl (hb hby d23_5) _ ?_
    refine XS.lconst X2.here hx rfl (hb hby d23_6) ?_
    refine XS.land X2.here hx rfl (hb hby d23_7) rfl ?_
    refine XS.lconst X2.here hx rfl (hb hby d23_8) ?_
    refine XS.lcmp X2.here hx rfl (hb hby d23_9) rfl ?_
    exact k)
  by_cases hc5 : (w &&& (1 : Int64)) = (0 : Int64)
  · skip
    have go7 := go6.st T2 (mkF m 18 #[vR o0, vI p1] [sI i0]) (fun t k => by
      refine XS.ifYes X2.here hx rfl (pc0 := 10) (pc' := 17) rfl (hb hby d23_10) rfl ((if0 _ _).trans (teq ((lw_eq _ _).mpr hc5)).1) (by decide) (by decide) ?_
      refine XS.iconst X2.here hx rfl (hb hby d23_17) ?_
      exact k)
    obtain ⟨fs, hr, hrun, hended, hW, hsame⟩ := X2.leave (v := some (.int (0 : Int32))) (fun h => by rw [Bd.returns] at h; cases h)
    refine ⟨_, _, go7 _ ?_, hrun, hended, _, _, rfl, ?_, ⟨_, rfl⟩, hW, hsame.mono (by decide) (by decide)⟩
    · exact retN X2 hx (t := .boolean) Bd.returns (by simp) (hb hby d23_18) hr
    · show Q_rm23 Z o0 p1 va kv nn vs w h0 n0 _ T2.heap _
      rw [e2]
      exact ⟨by unfold own_isd; simp only [if_pos hc5], N0, rfl⟩
  · skip
    have go8 := go6.st T2 (mkF m 18 #[vR o0, vI p1] [sI i1]) (fun t k => by
      refine XS.ifNo X2.here hx rfl (hb hby d23_10) rfl ((if0 _ _).trans (feq (fun q => hc5 ((lw_eq _ _).mp q))).1) ?_
      refine XS.iconst X2.here hx rfl (hb hby d23_13) ?_
      refine XS.goto X2.here hx rfl (pc0 := 14) (pc' := 18) rfl (hb hby d23_14) (by decide) (by decide) ?_
      exact k)
    obtain ⟨fs, hr, hrun, hended, hW, hsame⟩ := X2.leave (v := some (.int (1 : Int32))) (fun h => by rw [Bd.returns] at h; cases h)
    refine ⟨_, _, go8 _ ?_, hrun, hended, _, _, rfl, ?_, ⟨_, rfl⟩, hW, hsame.mono (by decide) (by decide)⟩
    · exact retN X2 hx (t := .boolean) Bd.returns (by simp) (hb hby d23_18) hr
    · show Q_rm23 Z o0 p1 va kv nn vs w h0 n0 _ T2.heap _
      rw [e2]
      exact ⟨by unfold own_isd; simp only [if_neg hc5], N0, rfl⟩
def own_at (p2 : Int32) (p3 : Int32) (p4 : Int32) (w : Int64) : Int32 := (if (own_pred w) = p2 then (if (own_obj w) = p3 then (if (own_isd w) = p4 then (1 : Int32) else (0 : Int32)) else (0 : Int32)) else (0 : Int32))
theorem d20_0 : decode method_2_code 0 = .ok (.aload_n 0, 1) := by decide +kernel
theorem d20_1 : decode method_2_code 1 = .ok (.iload_n 1, 1) := by decide +kernel
theorem d20_2 : decode method_2_code 2 = .ok (.invokevirtual 7, 3) := by decide +kernel
theorem d20_5 : decode method_2_code 5 = .ok (.iload_n 2, 1) := by decide +kernel
theorem d20_6 : decode method_2_code 6 = .ok (.if_icmp .ne 26, 3) := by decide +kernel
theorem d20_9 : decode method_2_code 9 = .ok (.aload_n 0, 1) := by decide +kernel
theorem d20_10 : decode method_2_code 10 = .ok (.iload_n 1, 1) := by decide +kernel
theorem d20_11 : decode method_2_code 11 = .ok (.invokevirtual 13, 3) := by decide +kernel
theorem d20_14 : decode method_2_code 14 = .ok (.iload_n 3, 1) := by decide +kernel
theorem d20_15 : decode method_2_code 15 = .ok (.if_icmp .ne 17, 3) := by decide +kernel
theorem d20_18 : decode method_2_code 18 = .ok (.aload_n 0, 1) := by decide +kernel
theorem d20_19 : decode method_2_code 19 = .ok (.iload_n 1, 1) := by decide +kernel
theorem d20_20 : decode method_2_code 20 = .ok (.invokevirtual 16, 3) := by decide +kernel
theorem d20_23 : decode method_2_code 23 = .ok (.iload 4, 2) := by decide +kernel
theorem d20_25 : decode method_2_code 25 = .ok (.if_icmp .ne 7, 3) := by decide +kernel
theorem d20_28 : decode method_2_code 28 = .ok (.iconst 1, 1) := by decide +kernel
theorem d20_29 : decode method_2_code 29 = .ok (.goto 4, 3) := by decide +kernel
theorem d20_32 : decode method_2_code 32 = .ok (.iconst 0, 1) := by decide +kernel
theorem d20_33 : decode method_2_code 33 = .ok (.ireturn, 1) := by decide +kernel
theorem pn_rm20 : plainName "com/example/graphkind/graphkind/BuilderPutPinLaw" = true := by first | (simp [plainName, overriddenIn]; done) | decide +kernel
theorem pd_rm20_0 : parseMethodDescriptor "(I)I" = some ⟨[.int], some .int⟩ := by decide +kernel
theorem pd_rm20_1 : parseMethodDescriptor "(I)Z" = some ⟨[.int], some .boolean⟩ := by decide +kernel
theorem ef_rm20 (m : MethodId) (o0 : Addr) (p1 : Int32) (p2 : Int32) (p3 : Int32) (p4 : Int32) : entryFrame m #[(.ref o0), (.int p1), (.int p2), (.int p3), (.int p4)] 5 = mkF m 0 #[.val (.ref o0), .val (.int p1), .val (.int p2), .val (.int p3), .val (.int p4)] [] := by first | (simp [entryFrame, mkF, argsToLocals, Value.category]; done) | rfl
def Q_rm20 (Z : State) (o0 : Addr) (p1 : Int32) (p2 : Int32) (p3 : Int32) (p4 : Int32) (va : Addr) (kv : ClassId) (nn : Int32) (vs : List Value) (w : Int64) (h0 : Heap) (n0 : Nat) (v : Option Value) (h : Heap) (L : List Loc) : Prop := v = some (.int (own_at p2 p3 p4 w)) ∧ Fr n0 L ∧ h = h0
set_option maxRecDepth 65536 in
set_option maxHeartbeats 40000000 in
theorem rm20 (l : Launch) (Z : State) (a0 : Array Value) (hw : ∀ d ∈ tables_1, d.before a0 Z = true) (ws : List Jvm.Cond) (o0 : Addr) (p1 : Int32) (p2 : Int32) (p3 : Int32) (p4 : Int32) (va : Addr) (kv : ClassId) (nn : Int32) (vs : List Value) (w : Int64) (h0 : Heap) (n0 : Nat) (Z0 : n0 ≤ h0.size) (E_o0 : Exa Z h0 o0 "com/example/graphkind/graphkind/Statements") (F_values_o0 : Fld Z h0 o0 "com/example/graphkind/graphkind/Statements" "values" "[J" (.ref va)) (V_va : Arv Z h0 va kv .long nn vs (.long (0 : Int64))) (hin : ¬ p1 < 0 ∧ p1 < nn) (hget : vs.getD (p1).toNatClampNeg (.long (0 : Int64)) = .long w) :
    MetFree l yN22 (head1 (Jvm.Cond.code yN22 method_2_code 5 (some .boolean) :: ws) ({ frames := 1, cells := 0, slots := 0, locals := 13 } : Room)) (fun a U => a = #[(.ref o0), (.int p1), (.int p2), (.int p3), (.int p4)] ∧ Z.Warmed39 U.vm ∧ U.heap = h0) (fun _ _ _ _ _ => True) (fun _ U o U' => ∃ v L, o = .returned v ∧ Q_rm20 Z o0 p1 p2 p3 p4 va kv nn vs w h0 n0 v U'.heap L ∧ FrameEnd U o U' L ({ frames := 1, cells := 0, slots := 0, locals := 13 } : Room).cells ({ frames := 1, cells := 0, slots := 0, locals := 13 } : Room).slots) := by
  refine MetFree.of_bodySF (plainFor_of_name pn_rm20) hisR ?_
  intro p e s m args below meth c s₁ Bd hml0 hP hK
  obtain ⟨rfl, hZ, hh⟩ := hP
  have hx := Bd.exec
  have hby := Bd.bytes
  have hml : c.maxLocals = 5 := hml0
  have hown : s.vm.findClass "com/example/graphkind/graphkind/BuilderPutPinLaw" = some m.cls := findClass_of_methodNamed Bd.named
  have hnm := (name_of_methodNamed Bd.named Bd.method).1
  have X0 : Stand p l e ({ frames := 1, cells := 0, slots := 0, locals := 13 } : Room) s m #[(.ref o0), (.int p1), (.int p2), (.int p3), (.int p4)] below meth c s₁ [] 0 0 := Stand.of_body Bd
  have e0 : s₁.heap = h0 := by rw [← hh, Bd.state]; rfl
  have N0 := Fr.nil n0
  have K0 := Keep.refl h0 []
  have go0 : Go p e below (s₁.setTop (entryFrame m #[(.ref o0), (.int p1), (.int p2), (.int p3), (.int p4)] 5)) (s₁.setTop (mkF m 0 #[vR o0, vI p1, vI p2, vI p3, vI p4] [])) := fun t k => castTop (ef_rm20 m o0 p1 p2 p3 p4) k
  have go1 := go0.st s₁ (mkF m 2 #[vR o0, vI p1, vI p2, vI p3, vI p4] [sI p1, sR o0]) (fun t k => by
    refine XS.aloadN X0.here hx rfl (hb hby d20_0) rfl rfl ?_
    refine XS.iloadN X0.here hx rfl (hb hby d20_1) rfl ?_
    exact k)
  obtain ⟨cq2, kq2, q2a, q2b, q2c⟩ := isOf hZ e0 E_o0
  obtain ⟨_, _, ⟨T2, L2, k2, n2⟩, -, X2, ⟨Lc2, hQ2, l2, y2, z2⟩, st2⟩ := X0.virtualBack hx (y := yN19) (z := yN19) hown (mvT hZ (wD hw 121 rfl)) (mvT hZ (wD hw 122 rfl)) (notFace_of_selects (args := #[]) (mvT hZ (wD hw 124 rfl))) (mvT hZ (wD hw 124 rfl)) (mvT hZ (wD hw 123 rfl)) (by decide) (backOf (W := 0) (rm21 l Z a0 hw [] o0 p1 va kv nn vs w h0 n0 Z0 F_values_o0 V_va hin hget) hZ (wD hw 125 rfl) (wD hw 103 rfl) (by decide) (by decide)) q2a q2c (g := (mkF m 2 #[vR o0, vI p1, vI p2, vI p3, vI p4] [sI p1, sR o0])) rfl (by rw [hml]; rfl) (Steps.refl _) (argsL := [(.int p1)]) (rest := []) (lenOf pd_rm20_0 rfl) rfl (by show 2 * 0 + _ ≤ _; exact Nat.le_of_eq rfl) (hb hby d20_2) (fun _ _ => ⟨rfl, e0, (by decide : 0 + 0 ≤ _), (by decide : 0 + 0 ≤ _)⟩)
  dsimp only [Pt.U, Pt.locs, Pt.cells, Pt.slots] at X2 l2 y2 z2 st2 hQ2
  rw [l2, y2, z2] at X2
  obtain ⟨rfl, N2q, e2⟩ := hQ2
  have N2 := Fr.app N0 N2q
  have go4 := go1.st T2 (mkF m 6 #[vR o0, vI p1, vI p2, vI p3, vI p4] [sI p2, (sI (own_pred w))]) (fun t k => by
    refine st2.trans ?_
    show SP p e below T2 (mkF m 5 #[vR o0, vI p1, vI p2, vI p3, vI p4] [(sI (own_pred w))]) _
    refine XS.iloadN X2.here hx rfl (hb hby d20_5) rfl ?_
    exact k)
  by_cases hc3 : (own_pred w) = p2
  · skip
    have go5 := go4.st T2 (mkF m 11 #[vR o0, vI p1, vI p2, vI p3, vI p4] [sI p1, sR o0]) (fun t k => by
      refine XS.icmpNo X2.here hx rfl (hb hby d20_6) rfl (teq hc3).2 ?_
      refine XS.aloadN X2.here hx rfl (hb hby d20_9) rfl rfl ?_
      refine XS.iloadN X2.here hx rfl (hb hby d20_10) rfl ?_
      exact k)
    obtain ⟨cq6, kq6, q6a, q6b, q6c⟩ := isOf hZ e2 E_o0
    obtain ⟨_, _, ⟨T6, L6, k6, n6⟩, -, X6, ⟨Lc6, hQ6, l6, y6, z6⟩, st6⟩ := X2.virtualBack hx (y := yN20) (z := yN20) hown (mvT hZ (wD hw 126 rfl)) (mvT hZ (wD hw 127 rfl)) (notFace_of_selects (args := #[]) (mvT hZ (wD hw 129 rfl))) (mvT hZ (wD hw 129 rfl)) (mvT hZ (wD hw 128 rfl)) (by decide) (backOf (W := 0) (rm22 l Z a0 hw [] o0 p1 va kv nn vs w h0 n0 Z0 F_values_o0 V_va hin hget) hZ (wD hw 130 rfl) (wD hw 103 rfl) (by decide) (by decide)) q6a q6c (g := (mkF m 11 #[vR o0, vI p1, vI p2, vI p3, vI p4] [sI p1, sR o0])) rfl (by rw [hml]; rfl) (Steps.refl _) (argsL := [(.int p1)]) (rest := []) (lenOf pd_rm20_0 rfl) rfl (by show 2 * 0 + _ ≤ _; exact Nat.le_of_eq rfl) (hb hby d20_11) (fun _ _ => ⟨rfl, e2, (by decide : 0 + 0 ≤ _), (by decide : 0 + 0 ≤ _)⟩)
    dsimp only [Pt.U, Pt.locs, Pt.cells, Pt.slots] at X6 l6 y6 z6 st6 hQ6
    rw [l6, y6, z6] at X6
    obtain ⟨rfl, N6q, e6⟩ := hQ6
    have N6 := Fr.app N2 N6q
    have go8 := go5.st T6 (mkF m 15 #[vR o0, vI p1, vI p2, vI p3, vI p4] [sI p3, (sI (own_obj w))]) (fun t k => by
      refine st6.trans ?_
      show SP p e below T6 (mkF m 14 #[vR o0, vI p1, vI p2, vI p3, vI p4] [(sI (own_obj w))]) _
      refine XS.iloadN X6.here hx rfl (hb hby d20_14) rfl ?_
      exact k)
    by_cases hc7 : (own_obj w) = p3
    · skip
      have go9 := go8.st T6 (mkF m 20 #[vR o0, vI p1, vI p2, vI p3, vI p4] [sI p1, sR o0]) (fun t k => by
        refine XS.icmpNo X6.here hx rfl (hb hby d20_15) rfl (teq hc7).2 ?_
        refine XS.aloadN X6.here hx rfl (hb hby d20_18) rfl rfl ?_
        refine XS.iloadN X6.here hx rfl (hb hby d20_19) rfl ?_
        exact k)
      obtain ⟨cq10, kq10, q10a, q10b, q10c⟩ := isOf hZ e6 E_o0
      obtain ⟨_, _, ⟨T10, L10, k10, n10⟩, -, X10, ⟨Lc10, hQ10, l10, y10, z10⟩, st10⟩ := X6.virtualBack hx (y := yN21) (z := yN21) hown (mvT hZ (wD hw 131 rfl)) (mvT hZ (wD hw 132 rfl)) (notFace_of_selects (args := #[]) (mvT hZ (wD hw 134 rfl))) (mvT hZ (wD hw 134 rfl)) (mvT hZ (wD hw 133 rfl)) (by decide) (backOf (W := 0) (rm23 l Z a0 hw [] o0 p1 va kv nn vs w h0 n0 Z0 F_values_o0 V_va hin hget) hZ (wD hw 135 rfl) (wD hw 103 rfl) (by decide) (by decide)) q10a q10c (g := (mkF m 20 #[vR o0, vI p1, vI p2, vI p3, vI p4] [sI p1, sR o0])) rfl (by rw [hml]; rfl) (Steps.refl _) (argsL := [(.int p1)]) (rest := []) (lenOf pd_rm20_1 rfl) rfl (by show 2 * 0 + _ ≤ _; exact Nat.le_of_eq rfl) (hb hby d20_20) (fun _ _ => ⟨rfl, e6, (by decide : 0 + 0 ≤ _), (by decide : 0 + 0 ≤ _)⟩)
      dsimp only [Pt.U, Pt.locs, Pt.cells, Pt.slots] at X10 l10 y10 z10 st10 hQ10
      rw [l10, y10, z10] at X10
      obtain ⟨rfl, N10q, e10⟩ := hQ10
      have N10 := Fr.app N6 N10q
      have go12 := go9.st T10 (mkF m 25 #[vR o0, vI p1, vI p2, vI p3, vI p4] [sI p4, (sI (own_isd w))]) (fun t k => by
        refine st10.trans ?_
        show SP p e below T10 (mkF m 23 #[vR o0, vI p1, vI p2, vI p3, vI p4] [(sI (own_isd w))]) _
        refine XS.iload X10.here hx rfl (hb hby d20_23) rfl ?_
        exact k)
      by_cases hc11 : (own_isd w) = p4
      · skip
        have go13 := go12.st T10 (mkF m 33 #[vR o0, vI p1, vI p2, vI p3, vI p4] [sI i1]) (fun t k => by
          refine XS.icmpNo X10.here hx rfl (hb hby d20_25) rfl (teq hc11).2 ?_
          refine XS.iconst X10.here hx rfl (hb hby d20_28) ?_
          refine XS.goto X10.here hx rfl (pc0 := 29) (pc' := 33) rfl (hb hby d20_29) (by decide) (by decide) ?_
          exact k)
        obtain ⟨fs, hr, hrun, hended, hW, hsame⟩ := X10.leave (v := some (.int (1 : Int32))) (fun h => by rw [Bd.returns] at h; cases h)
        refine ⟨_, _, go13 _ ?_, hrun, hended, _, _, rfl, ?_, ⟨_, rfl⟩, hW, hsame.mono (by decide) (by decide)⟩
        · exact retN X10 hx (t := .boolean) Bd.returns (by simp) (hb hby d20_33) hr
        · show Q_rm20 Z o0 p1 p2 p3 p4 va kv nn vs w h0 n0 _ T10.heap _
          rw [e10]
          exact ⟨by unfold own_at; simp only [if_pos hc3, if_pos hc7, if_pos hc11], N10, rfl⟩
      · skip
        have go14 := go12.st T10 (mkF m 33 #[vR o0, vI p1, vI p2, vI p3, vI p4] [sI i0]) (fun t k => by
          refine XS.icmpYes X10.here hx rfl (pc0 := 25) (pc' := 32) rfl (hb hby d20_25) rfl (feq hc11).2 (by decide) (by decide) ?_
          refine XS.iconst X10.here hx rfl (hb hby d20_32) ?_
          exact k)
        obtain ⟨fs, hr, hrun, hended, hW, hsame⟩ := X10.leave (v := some (.int (0 : Int32))) (fun h => by rw [Bd.returns] at h; cases h)
        refine ⟨_, _, go14 _ ?_, hrun, hended, _, _, rfl, ?_, ⟨_, rfl⟩, hW, hsame.mono (by decide) (by decide)⟩
        · exact retN X10 hx (t := .boolean) Bd.returns (by simp) (hb hby d20_33) hr
        · show Q_rm20 Z o0 p1 p2 p3 p4 va kv nn vs w h0 n0 _ T10.heap _
          rw [e10]
          exact ⟨by unfold own_at; simp only [if_pos hc3, if_pos hc7, if_neg hc11], N10, rfl⟩
    · skip
      have go15 := go8.st T6 (mkF m 33 #[vR o0, vI p1, vI p2, vI p3, vI p4] [sI i0]) (fun t k => by
        refine XS.icmpYes X6.here hx rfl (pc0 := 15) (pc' := 32) rfl (hb hby d20_15) rfl (feq hc7).2 (by decide) (by decide) ?_
        refine XS.iconst X6.here hx rfl (hb hby d20_32) ?_
        exact k)
      obtain ⟨fs, hr, hrun, hended, hW, hsame⟩ := X6.leave (v := some (.int (0 : Int32))) (fun h => by rw [Bd.returns] at h; cases h)
      refine ⟨_, _, go15 _ ?_, hrun, hended, _, _, rfl, ?_, ⟨_, rfl⟩, hW, hsame.mono (by decide) (by decide)⟩
      · exact retN X6 hx (t := .boolean) Bd.returns (by simp) (hb hby d20_33) hr
      · show Q_rm20 Z o0 p1 p2 p3 p4 va kv nn vs w h0 n0 _ T6.heap _
        rw [e6]
        exact ⟨by unfold own_at; simp only [if_pos hc3, if_neg hc7], N6, rfl⟩
  · skip
    have go16 := go4.st T2 (mkF m 33 #[vR o0, vI p1, vI p2, vI p3, vI p4] [sI i0]) (fun t k => by
      refine XS.icmpYes X2.here hx rfl (pc0 := 6) (pc' := 32) rfl (hb hby d20_6) rfl (feq hc3).2 (by decide) (by decide) ?_
      refine XS.iconst X2.here hx rfl (hb hby d20_32) ?_
      exact k)
    obtain ⟨fs, hr, hrun, hended, hW, hsame⟩ := X2.leave (v := some (.int (0 : Int32))) (fun h => by rw [Bd.returns] at h; cases h)
    refine ⟨_, _, go16 _ ?_, hrun, hended, _, _, rfl, ?_, ⟨_, rfl⟩, hW, hsame.mono (by decide) (by decide)⟩
    · exact retN X2 hx (t := .boolean) Bd.returns (by simp) (hb hby d20_33) hr
    · show Q_rm20 Z o0 p1 p2 p3 p4 va kv nn vs w h0 n0 _ T2.heap _
      rw [e2]
      exact ⟨by unfold own_at; simp only [if_neg hc3], N2, rfl⟩
theorem own_packI {p j d : Int32} (h : 0 ≤ j.toInt) : (own_pack p j d).toInt = p.toInt * 4294967296 + j.toInt * 2 + (if d = 0 then 0 else 1) := by
  unfold own_pack
  have h1 := c_lshl p.toInt64 32 32 (by decide)
  have h2 := c_lshl j.toInt64 1 1 (by decide)
  rw [c_i2l] at h1 h2
  have rp := rng32 p; have rj := rng32 j
  have r1 := rng64 ((p.toInt64) <<< ((32 : Int32) &&& 0x3f).toInt64)
  have r2 := rng64 ((j.toInt64) <<< ((1 : Int32) &&& 0x3f).toInt64)
  have h3 : ((if d = (0 : Int32) then (0 : Int32) else (1 : Int32)).toInt64).toInt = (if d = 0 then 0 else 1) := by rw [c_i2l]; split <;> rfl
  have h4 : (0 : Int) ≤ (if d = 0 then 0 else 1) ∧ (if d = 0 then (0 : Int) else 1) < 2 := by split <;> decide
  rw [← h3] at h4 ⊢
  generalize (if d = (0 : Int32) then (0 : Int32) else (1 : Int32)).toInt64 = D at *
  generalize (p.toInt64) <<< ((32 : Int32) &&& 0x3f).toInt64 = P at *
  generalize (j.toInt64) <<< ((1 : Int32) &&& 0x3f).toInt64 = Q at *
  have e1 : P.toInt = p.toInt * 4294967296 := by omega
  have e2 : Q.toInt = j.toInt * 2 := by omega
  have h5 := c_orL P Q 32 (by decide) 4294967296 (by decide) (by omega) (by omega) (by omega)
  have r5 := rng64 (P ||| Q)
  have h6 := c_orL (P ||| Q) D 1 (by decide) 2 (by decide) (by omega) (by omega) (by omega)
  have r6 := rng64 (P ||| Q ||| D)
  omega
theorem own_bit2 (d : Int32) : (0 : Int) ≤ (if d = 0 then 0 else 1) ∧ (if d = 0 then (0 : Int) else 1) < 2 := by split <;> decide
theorem own_halfI (w : Int64) : (own_usrL w (1 : Int32)).toInt = (w.toInt % 18446744073709551616) / 2 := c_lushr w 1 1 (by decide) (by decide)
theorem own_half_eq {p j d r k e : Int32} (hj : 0 ≤ j.toInt) (hk : 0 ≤ k.toInt) (q1 : p = r) (q2 : j = k) : own_usrL (own_pack p j d) (1 : Int32) = own_usrL (own_pack r k e) (1 : Int32) := by
  subst q1 q2
  apply Int64.toInt_inj.mp
  rw [own_halfI, own_halfI, own_packI hj, own_packI hj]
  have := own_bit2 d; have := own_bit2 e; have := rng32 p; have := rng32 j
  generalize (if d = 0 then (0 : Int) else 1) = a at *
  generalize (if e = 0 then (0 : Int) else 1) = b at *
  omega
theorem own_half_ne {p j d r k e : Int32} (hj : 0 ≤ j.toInt) (hk : 0 ≤ k.toInt) (q : ¬ (p = r ∧ j = k)) : ¬ own_usrL (own_pack p j d) (1 : Int32) = own_usrL (own_pack r k e) (1 : Int32) := by
  intro z; apply q
  have z := congrArg Int64.toInt z
  rw [own_halfI, own_halfI, own_packI hj, own_packI hk] at z
  rw [← Int32.toInt_inj, ← Int32.toInt_inj]
  have := own_bit2 d; have := own_bit2 e; have := rng32 p; have := rng32 j; have := rng32 r; have := rng32 k
  generalize (if d = 0 then (0 : Int) else 1) = a at *
  generalize (if e = 0 then (0 : Int) else 1) = b at *
  omega
theorem own_lt {p j d r k e : Int32} (hj : 0 ≤ j.toInt) (hk : 0 ≤ k.toInt) (q : p < r ∨ (p = r ∧ j < k)) : own_pack p j d < own_pack r k e := by
  rw [Int64.lt_iff_toInt_lt, own_packI hj, own_packI hk]
  rw [Int32.lt_iff_toInt_lt, Int32.lt_iff_toInt_lt, ← Int32.toInt_inj] at q
  have := own_bit2 d; have := own_bit2 e; have := rng32 p; have := rng32 j; have := rng32 r; have := rng32 k
  generalize (if d = 0 then (0 : Int) else 1) = a at *
  generalize (if e = 0 then (0 : Int) else 1) = b at *
  omega
theorem own_nlt {p j d r k e : Int32} (hj : 0 ≤ j.toInt) (hk : 0 ≤ k.toInt) (q : p < r ∨ (p = r ∧ j < k)) : ¬ own_pack r k e < own_pack p j d := by
  have := own_lt (d := d) (e := e) hj hk q
  rw [Int64.lt_iff_toInt_lt] at *; omega
theorem own_at_ok {p j d : Int32} (hj : 0 ≤ j.toInt) (hd : d = 0 ∨ d = 1) : ¬ own_at p j d (own_pack p j d) = (0 : Int32) := by
  have e := own_packI (p := p) (d := d) hj
  have := own_bit2 d; have rp := rng32 p; have rj := rng32 j
  have h1 : own_pred (own_pack p j d) = p := by
    unfold own_pred; apply Int32.toInt_inj.mp
    have a := c_lushr (own_pack p j d) 32 32 (by decide) (by decide)
    have b := c_l2i (own_usrL (own_pack p j d) (32 : Int32))
    have c := rng32 ((own_usrL (own_pack p j d) (32 : Int32)).toInt32)
    change (own_usrL (own_pack p j d) (32 : Int32)).toInt = _ at a
    generalize (if d = 0 then (0 : Int) else 1) = x at *
    omega
  have h2 : own_obj (own_pack p j d) = j := by
    unfold own_obj; apply Int32.toInt_inj.mp
    have a := c_l2i (own_pack p j d)
    have b := c_iushr ((own_pack p j d).toInt32) 1 1 (by decide) (by decide)
    change (own_usr ((own_pack p j d).toInt32) (1 : Int32)).toInt = _ at b
    generalize (if d = 0 then (0 : Int) else 1) = x at *
    omega
  have h3 : own_isd (own_pack p j d) = d := by
    unfold own_isd
    have a := c_maskL (own_pack p j d) 1 1 (by decide) (by decide)
    rcases hd with rfl | rfl
    · rw [if_pos]; apply Int64.toInt_inj.mp; rw [a, e]; show _ = 0; simp; omega
    · rw [if_neg]; intro z; have z := congrArg Int64.toInt z; rw [a, e] at z; have z : _ = (0 : Int) := z; simp at z; omega
  unfold own_at
  rw [if_pos h1, if_pos h2, if_pos h3]; decide
theorem own_orp (p j d e : Int32) : own_pack p j d ||| own_pack p j e = own_pack p j (if d = (0 : Int32) then (if e = (0 : Int32) then (0 : Int32) else (1 : Int32)) else (1 : Int32)) := by
  unfold own_pack
  generalize ((p.toInt64) <<< ((32 : Int32) &&& 0x3f).toInt64) ||| ((j.toInt64) <<< ((1 : Int32) &&& 0x3f).toInt64) = X
  have o (a b c : Int64) (h : a ||| b = c) : (X ||| a) ||| (X ||| b) = X ||| c := by
    subst h
    apply Int64.toBitVec_inj.mp
    show (X.toBitVec ||| a.toBitVec) ||| (X.toBitVec ||| b.toBitVec) = X.toBitVec ||| (a.toBitVec ||| b.toBitVec)
    ext i hi; simp only [BitVec.getElem_or]
    cases X.toBitVec[i] <;> cases a.toBitVec[i] <;> cases b.toBitVec[i] <;> rfl
  by_cases h1 : d = 0 <;> by_cases h2 : e = 0 <;> simp only [h1, h2, if_true, if_false] <;> exact o _ _ _ (by decide)
theorem own_dd (d e : Int32) : (if d = (0 : Int32) then (if e = (0 : Int32) then (0 : Int32) else (1 : Int32)) else (1 : Int32)) = 0 ∨ (if d = (0 : Int32) then (if e = (0 : Int32) then (0 : Int32) else (1 : Int32)) else (1 : Int32)) = 1 := by
  split
  · split <;> simp
  · simp
theorem own_at_or1 {p j d r k e : Int32} (hj : 0 ≤ j.toInt) (q1 : p = r) (q2 : j = k) : ¬ own_at p j (if d = (0 : Int32) then (if e = (0 : Int32) then (0 : Int32) else (1 : Int32)) else (1 : Int32)) (own_pack p j d ||| own_pack r k e) = (0 : Int32) := by
  subst q1 q2; rw [own_orp]; exact own_at_ok hj (own_dd _ _)
theorem own_at_or2 {p j d r k e : Int32} (hj : 0 ≤ j.toInt) (q1 : p = r) (q2 : j = k) : ¬ own_at p j (if d = (0 : Int32) then (if e = (0 : Int32) then (0 : Int32) else (1 : Int32)) else (1 : Int32)) (own_pack r k e ||| own_pack p j d) = (0 : Int32) := by
  rw [Int64.or_comm]; exact own_at_or1 hj q1 q2
theorem own_cases (p r j k : Int32) : (p = r ∧ j = k) ∨ (p = r ∧ ¬ j = k ∧ ¬ p < r ∧ j < k) ∨ (p = r ∧ ¬ j = k ∧ ¬ p < r ∧ ¬ j < k ∧ k < j) ∨ (¬ p = r ∧ p < r) ∨ (¬ p = r ∧ ¬ p < r ∧ r < p) := by
  simp only [Int32.lt_iff_toInt_lt, ← Int32.toInt_inj]; omega
theorem own_cases3 (p r j k : Int32) : (p = r ∧ j = k) ∨ (¬ (p = r ∧ j = k) ∧ (p < r ∨ (p = r ∧ j < k))) ∨ (¬ (p = r ∧ j = k) ∧ (r < p ∨ (r = p ∧ k < j))) := by
  simp only [Int32.lt_iff_toInt_lt, ← Int32.toInt_inj]; omega
theorem own_srt (v0 v1 : Int64) : ∃ m0 m1 : Int64, (v1 < v0 ∧ m0 = v1 ∧ m1 = v0) ∨ (¬ v1 < v0 ∧ m0 = v0 ∧ m1 = v1) := by
  by_cases h : v1 < v0
  · exact ⟨v1, v0, Or.inl ⟨h, rfl, rfl⟩⟩
  · exact ⟨v0, v1, Or.inr ⟨h, rfl, rfl⟩⟩
theorem own_hm_eq {v0 v1 m0 m1 : Int64} (h : (v1 < v0 ∧ m0 = v1 ∧ m1 = v0) ∨ (¬ v1 < v0 ∧ m0 = v0 ∧ m1 = v1)) (q : own_usrL v0 (1 : Int32) = own_usrL v1 (1 : Int32)) : own_usrL m1 (1 : Int32) = own_usrL m0 (1 : Int32) := by
  rcases h with ⟨-, rfl, rfl⟩ | ⟨-, rfl, rfl⟩
  · exact q
  · exact q.symm
theorem own_at_or {p j d r k e : Int32} {m0 m1 : Int64} (h : (own_pack r k e < own_pack p j d ∧ m0 = own_pack r k e ∧ m1 = own_pack p j d) ∨ (¬ own_pack r k e < own_pack p j d ∧ m0 = own_pack p j d ∧ m1 = own_pack r k e)) (hj : 0 ≤ j.toInt) (q1 : p = r) (q2 : j = k) : ¬ own_at p j (if d = (0 : Int32) then (if e = (0 : Int32) then (0 : Int32) else (1 : Int32)) else (1 : Int32)) (m0 ||| m1) = (0 : Int32) := by
  rcases h with ⟨-, e1, e2⟩ | ⟨-, e1, e2⟩ <;> rw [e1, e2]
  · exact own_at_or2 hj q1 q2
  · exact own_at_or1 hj q1 q2
theorem own_fi1 {p r j k f : Int32} (h : f = (if p < r then (1 : Int32) else (if p = r then (if j < k then (1 : Int32) else (0 : Int32)) else (0 : Int32)))) (q : p < r ∨ (p = r ∧ j < k)) : ¬ f = (0 : Int32) := by
  rw [h]; rcases q with q | ⟨q1, q2⟩
  · rw [if_pos q]; decide
  · by_cases z : p < r
    · rw [if_pos z]; decide
    · rw [if_neg z, if_pos q1, if_pos q2]; decide
theorem own_fi0 {p r j k f : Int32} (h : f = (if p < r then (1 : Int32) else (if p = r then (if j < k then (1 : Int32) else (0 : Int32)) else (0 : Int32)))) (q : r < p ∨ (r = p ∧ k < j)) : f = (0 : Int32) := by
  rw [h]
  have z : ¬ p < r := by rw [Int32.lt_iff_toInt_lt] at *; rcases q with q | q; omega; rw [q.1]; omega
  rw [if_neg z]
  rcases q with q | ⟨q1, q2⟩
  · rw [if_neg]; intro w; rw [w, Int32.lt_iff_toInt_lt] at q; omega
  · rw [if_pos q1.symm, if_neg]; rw [Int32.lt_iff_toInt_lt] at *; omega
theorem own_bit {x s : Int32} (h : s = x &&& (1 : Int32)) : s = 0 ∨ s = 1 := by
  have a := c_mask x 1 1 (by decide) (by decide)
  rw [← h] at a
  rw [← Int32.toInt_inj, ← Int32.toInt_inj]
  show s.toInt = 0 ∨ s.toInt = 1
  omega
theorem own_nn {x j : Int32} (h : j = x &&& (2147483647 : Int32)) : 0 ≤ j.toInt := by
  have a := c_mask x 2147483647 31 (by decide) (by decide)
  rw [h]; omega
theorem own_d01 {c : Prop} [Decidable c] {d : Int32} (h : d = if c then (0 : Int32) else (1 : Int32)) : d = 0 ∨ d = 1 := by rw [h]; split <;> simp
theorem pn_rm0 : plainName "com/example/graphkind/graphkind/BuilderPutPinLaw" = true := by first | (simp [plainName, overriddenIn]; done) | decide +kernel
theorem pd_rm0_0 : parseMethodDescriptor "()V" = some ⟨[], none⟩ := by decide +kernel
theorem pd_rm0_1 : parseMethodDescriptor "(III)V" = some ⟨[.int, .int, .int], none⟩ := by decide +kernel
theorem pd_rm0_2 : parseMethodDescriptor "(I)V" = some ⟨[.int], none⟩ := by decide +kernel
theorem pd_rm0_3 : parseMethodDescriptor "(Lcom/example/graphkind/graphkind/TripleList;)V" = some ⟨[(.object "com/example/graphkind/graphkind/TripleList")], none⟩ := by decide +kernel
theorem pd_rm0_4 : parseMethodDescriptor "(IIIZ)V" = some ⟨[.int, .int, .int, .boolean], none⟩ := by decide +kernel
theorem pd_rm0_5 : parseMethodDescriptor "()Lcom/example/graphkind/graphkind/Statements;" = some ⟨[], some (.object "com/example/graphkind/graphkind/Statements")⟩ := by decide +kernel
theorem pd_rm0_6 : parseMethodDescriptor "(I)I" = some ⟨[.int], some .int⟩ := by decide +kernel
theorem pd_rm0_7 : parseMethodDescriptor "(Lcom/example/graphkind/graphkind/Statements;IIIZ)Z" = some ⟨[(.object "com/example/graphkind/graphkind/Statements"), .int, .int, .int, .boolean], some .boolean⟩ := by decide +kernel
theorem ef_rm0 (m : MethodId) (p0 : Int32) (p1 : Int32) (p2 : Int32) (p3 : Int32) (p4 : Int32) : entryFrame m #[(.int p0), (.int p1), (.int p2), (.int p3), (.int p4)] maxLocals = mkF m 0 #[.val (.int p0), .val (.int p1), .val (.int p2), .val (.int p3), .val (.int p4), uu, uu, uu, uu, uu, uu, uu, uu, uu, uu, uu, uu, uu, uu] [] := by first | (simp [entryFrame, mkF, argsToLocals, Value.category, maxLocals]; done) | rfl
def Q_rm0 (Z : State) (p0 : Int32) (p1 : Int32) (p2 : Int32) (p3 : Int32) (p4 : Int32) (h0 : Heap) (n0 : Nat) (v : Option Value) (h : Heap) (L : List Loc) : Prop := v = some (.int (1 : Int32)) ∧ Fr n0 L
set_option maxRecDepth 65536 in
set_option maxHeartbeats 40000000 in
theorem rm0 (l : Launch) (Z : State) (a0 : Array Value) (hw : ∀ d ∈ tables_1, d.before a0 Z = true) (ws : List Jvm.Cond) (p0 : Int32) (p1 : Int32) (p2 : Int32) (p3 : Int32) (p4 : Int32) (h0 : Heap) (n0 : Nat) (Z0 : n0 ≤ h0.size) :
    MetFree l x (head1 (Jvm.Cond.code x code maxLocals ret :: ws) room_1) (fun a U => a = #[(.int p0), (.int p1), (.int p2), (.int p3), (.int p4)] ∧ Z.Warmed39 U.vm ∧ U.heap = h0) (fun _ _ _ _ _ => True) (fun _ U o U' => ∃ v L, o = .returned v ∧ Q_rm0 Z p0 p1 p2 p3 p4 h0 n0 v U'.heap L ∧ FrameEnd U o U' L room_1.cells room_1.slots) := by
  refine MetFree.of_bodySF (plainFor_of_name pn_rm0) hisR ?_
  intro p e s m args below meth c s₁ Bd hml0 hP hK
  obtain ⟨rfl, hZ, hh⟩ := hP
  have hx := Bd.exec
  have hby := Bd.bytes
  have hml : c.maxLocals = 19 := hml0
  have hown : s.vm.findClass "com/example/graphkind/graphkind/BuilderPutPinLaw" = some m.cls := findClass_of_methodNamed Bd.named
  have hnm := (name_of_methodNamed Bd.named Bd.method).1
  have X0 : Stand p l e room_1 s m #[(.int p0), (.int p1), (.int p2), (.int p3), (.int p4)] below meth c s₁ [] 0 0 := Stand.of_body Bd
  have e0 : s₁.heap = h0 := by rw [← hh, Bd.state]; rfl
  have N0 := Fr.nil n0
  have K0 := Keep.refl h0 []
  have go0 : Go p e below (s₁.setTop (entryFrame m #[(.int p0), (.int p1), (.int p2), (.int p3), (.int p4)] maxLocals)) (s₁.setTop (mkF m 0 #[vI p0, vI p1, vI p2, vI p3, vI p4, uu, uu, uu, uu, uu, uu, uu, uu, uu, uu, uu, uu, uu, uu] [])) := fun t k => castTop (ef_rm0 m p0 p1 p2 p3 p4) k
  have go1 := go0.st s₁ (mkF m 4 #[vI p0, vI p1, vI p2, vI p3, vI p4, uu, uu, uu, uu, uu, uu, uu, uu, uu, uu, uu, uu, uu, uu] [(sI (p1 &&& (2147483647 : Int32)))]) (fun t k => by
    refine XS.iloadN X0.here hx rfl (hb hby at_0) rfl ?_
    refine X0.ldcInt hx hown (mvT hZ (wD hw 0 rfl)) (g := (mkF m 1 #[vI p0, vI p1, vI p2, vI p3, vI p4, uu, uu, uu, uu, uu, uu, uu, uu, uu, uu, uu, uu, uu, uu] [sI p1])) rfl (hb hby at_1) _ ?_
    refine XS.iand X0.here hx rfl (hb hby at_3) rfl ?_
    exact k)
  obtain ⟨j1, hj1⟩ : ∃ z : Int32, z = (p1 &&& (2147483647 : Int32)) := ⟨_, rfl⟩
  rw [← hj1] at go1
  have go2 := go1.st s₁ (mkF m 10 #[vI p0, vI p1, vI p2, vI p3, vI p4, vI j1, uu, uu, uu, uu, uu, uu, uu, uu, uu, uu, uu, uu, uu] [(sI (p3 &&& (2147483647 : Int32)))]) (fun t k => by
    refine XS.istore X0.here hx rfl (hb hby at_4) rfl (l' := #[vI p0, vI p1, vI p2, vI p3, vI p4, vI j1, uu, uu, uu, uu, uu, uu, uu, uu, uu, uu, uu, uu, uu]) rfl ?_
    refine XS.iloadN X0.here hx rfl (hb hby at_6) rfl ?_
    refine X0.ldcInt hx hown (mvT hZ (wD hw 0 rfl)) (g := (mkF m 7 #[vI p0, vI p1, vI p2, vI p3, vI p4, vI j1, uu, uu, uu, uu, uu, uu, uu, uu, uu, uu, uu, uu, uu] [sI p3])) rfl (hb hby at_7) _ ?_
    refine XS.iand X0.here hx rfl (hb hby at_9) rfl ?_
    exact k)
  obtain ⟨jj, hjj⟩ : ∃ z : Int32, z = (p3 &&& (2147483647 : Int32)) := ⟨_, rfl⟩
  rw [← hjj] at go2
  have go3 := go2.st s₁ (mkF m 15 #[vI p0, vI p1, vI p2, vI p3, vI p4, vI j1, vI jj, vI p2, uu, uu, uu, uu, uu, uu, uu, uu, uu, uu, uu] []) (fun t k => by
    refine XS.istore X0.here hx rfl (hb hby at_10) rfl (l' := #[vI p0, vI p1, vI p2, vI p3, vI p4, vI j1, vI jj, uu, uu, uu, uu, uu, uu, uu, uu, uu, uu, uu, uu]) rfl ?_
    refine XS.iloadN X0.here hx rfl (hb hby at_12) rfl ?_
    refine XS.istore X0.here hx rfl (hb hby at_13) rfl (l' := #[vI p0, vI p1, vI p2, vI p3, vI p4, vI j1, vI jj, vI p2, uu, uu, uu, uu, uu, uu, uu, uu, uu, uu, uu]) rfl ?_
    exact k)
  have go6 := go3.st s₁ (mkF m 44 #[vI p0, vI p1, vI p2, vI p3, vI p4, vI j1, vI ((if (p4 &&& (16 : Int32)) = i0 then jj else j1)), vI ((if (p4 &&& (16 : Int32)) = i0 then (if (p4 &&& (32 : Int32)) = i0 then p2 else p0) else p0)), uu, uu, uu, uu, uu, uu, uu, uu, uu, uu, uu] []) (fun t k => by
    by_cases hc4 : (p4 &&& (16 : Int32)) = (0 : Int32)
    · skip
      by_cases hc5 : (p4 &&& (32 : Int32)) = (0 : Int32)
      · skip
        try simp only [if_pos hc4, if_pos hc5] at k
        refine XS.iload X0.here hx rfl (hb hby at_15) rfl ?_
        refine XS.bipush X0.here hx rfl (hb hby at_17) ?_
        refine XS.iand X0.here hx rfl (hb hby at_19) rfl ?_
        refine XS.ifYes X0.here hx rfl (pc0 := 20) (pc' := 33) rfl (hb hby at_20) rfl ((if0 _ _).trans (teq hc4).1) (by decide) (by decide) ?_
        refine XS.iload X0.here hx rfl (hb hby at_33) rfl ?_
        refine XS.bipush X0.here hx rfl (hb hby at_35) ?_
        refine XS.iand X0.here hx rfl (hb hby at_37) rfl ?_
        refine XS.ifYes X0.here hx rfl (pc0 := 38) (pc' := 44) rfl (hb hby at_38) rfl ((if0 _ _).trans (teq hc5).1) (by decide) (by decide) ?_
        exact k
      · skip
        try simp only [if_pos hc4, if_neg hc5] at k
        refine XS.iload X0.here hx rfl (hb hby at_15) rfl ?_
        refine XS.bipush X0.here hx rfl (hb hby at_17) ?_
        refine XS.iand X0.here hx rfl (hb hby at_19) rfl ?_
        refine XS.ifYes X0.here hx rfl (pc0 := 20) (pc' := 33) rfl (hb hby at_20) rfl ((if0 _ _).trans (teq hc4).1) (by decide) (by decide) ?_
        refine XS.iload X0.here hx rfl (hb hby at_33) rfl ?_
        refine XS.bipush X0.here hx rfl (hb hby at_35) ?_
        refine XS.iand X0.here hx rfl (hb hby at_37) rfl ?_
        refine XS.ifNo X0.here hx rfl (hb hby at_38) rfl ((if0 _ _).trans (feq hc5).1) ?_
        show SP p e below s₁ (mkF m 41 #[vI p0, vI p1, vI p2, vI p3, vI p4, vI j1, vI jj, vI p2, uu, uu, uu, uu, uu, uu, uu, uu, uu, uu, uu] []) _
        refine XS.iloadN X0.here hx rfl (hb hby at_41) rfl ?_
        refine XS.istore X0.here hx rfl (hb hby at_42) rfl (l' := #[vI p0, vI p1, vI p2, vI p3, vI p4, vI j1, vI jj, vI p0, uu, uu, uu, uu, uu, uu, uu, uu, uu, uu, uu]) rfl ?_
        exact k
    · skip
      try simp only [if_neg hc4] at k
      refine XS.iload X0.here hx rfl (hb hby at_15) rfl ?_
      refine XS.bipush X0.here hx rfl (hb hby at_17) ?_
      refine XS.iand X0.here hx rfl (hb hby at_19) rfl ?_
      refine XS.ifNo X0.here hx rfl (hb hby at_20) rfl ((if0 _ _).trans (feq hc4).1) ?_
      refine XS.iloadN X0.here hx rfl (hb hby at_23) rfl ?_
      refine XS.istore X0.here hx rfl (hb hby at_24) rfl (l' := #[vI p0, vI p1, vI p2, vI p3, vI p4, vI j1, vI jj, vI p0, uu, uu, uu, uu, uu, uu, uu, uu, uu, uu, uu]) rfl ?_
      refine XS.iload X0.here hx rfl (hb hby at_26) rfl ?_
      refine XS.istore X0.here hx rfl (hb hby at_28) rfl (l' := #[vI p0, vI p1, vI p2, vI p3, vI p4, vI j1, vI j1, vI p0, uu, uu, uu, uu, uu, uu, uu, uu, uu, uu, uu]) rfl ?_
      show SP p e below s₁ (mkF m 30 #[vI p0, vI p1, vI p2, vI p3, vI p4, vI j1, vI j1, vI p0, uu, uu, uu, uu, uu, uu, uu, uu, uu, uu, uu] []) _
      refine XS.goto X0.here hx rfl (pc0 := 30) (pc' := 44) rfl (hb hby at_30) (by decide) (by decide) ?_
      exact k
    )
  obtain ⟨j2, hj2⟩ : ∃ z : Int32, z = (if (p4 &&& (16 : Int32)) = (0 : Int32) then jj else j1) := ⟨_, rfl⟩
  rw [← hj2] at go6
  obtain ⟨r2, hr2⟩ : ∃ z : Int32, z = (if (p4 &&& (16 : Int32)) = (0 : Int32) then (if (p4 &&& (32 : Int32)) = (0 : Int32) then p2 else p0) else p0) := ⟨_, rfl⟩
  rw [← hr2] at go6
  have go7 := go6.st s₁ (mkF m 48 #[vI p0, vI p1, vI p2, vI p3, vI p4, vI j1, vI j2, vI r2, uu, uu, uu, uu, uu, uu, uu, uu, uu, uu, uu] [(sI (p4 &&& i1))]) (fun t k => by
    refine XS.iload X0.here hx rfl (hb hby at_44) rfl ?_
    refine XS.iconst X0.here hx rfl (hb hby at_46) ?_
    refine XS.iand X0.here hx rfl (hb hby at_47) rfl ?_
    exact k)
  obtain ⟨s1, hs1⟩ : ∃ z : Int32, z = (p4 &&& (1 : Int32)) := ⟨_, rfl⟩
  rw [← hs1] at go7
  have go8 := go7.st s₁ (mkF m 56 #[vI p0, vI p1, vI p2, vI p3, vI p4, vI j1, vI j2, vI r2, vI s1, uu, uu, uu, uu, uu, uu, uu, uu, uu, uu] [(sI ((own_usr p4 (3 : Int32)) &&& i1))]) (fun t k => by
    refine XS.istore X0.here hx rfl (hb hby at_48) rfl (l' := #[vI p0, vI p1, vI p2, vI p3, vI p4, vI j1, vI j2, vI r2, vI s1, uu, uu, uu, uu, uu, uu, uu, uu, uu, uu]) rfl ?_
    refine XS.iload X0.here hx rfl (hb hby at_50) rfl ?_
    refine XS.iconst X0.here hx rfl (hb hby at_52) ?_
    refine XS.iushr X0.here hx rfl (hb hby at_53) rfl ?_
    refine XS.iconst X0.here hx rfl (hb hby at_54) ?_
    refine XS.iand X0.here hx rfl (hb hby at_55) rfl ?_
    exact k)
  obtain ⟨s2, hs2⟩ : ∃ z : Int32, z = ((own_usr p4 (3 : Int32)) &&& (1 : Int32)) := ⟨_, rfl⟩
  rw [← hs2] at go8
  have go9 := go8.st s₁ (mkF m 58 #[vI p0, vI p1, vI p2, vI p3, vI p4, vI j1, vI j2, vI r2, vI s1, vI s2, uu, uu, uu, uu, uu, uu, uu, uu, uu] []) (fun t k => by
    refine XS.istore X0.here hx rfl (hb hby at_56) rfl (l' := #[vI p0, vI p1, vI p2, vI p3, vI p4, vI j1, vI j2, vI r2, vI s1, vI s2, uu, uu, uu, uu, uu, uu, uu, uu, uu]) rfl ?_
    exact k)
  have go11 := go9.st s₁ (mkF m 70 #[vI p0, vI p1, vI p2, vI p3, vI p4, vI j1, vI j2, vI r2, vI s1, vI s2, uu, uu, uu, uu, uu, uu, uu, uu, uu] [(sI (if (p4 &&& i2) = i0 then i0 else i1))]) (fun t k => by
    by_cases hc10 : (p4 &&& (2 : Int32)) = (0 : Int32)
    · skip
      try simp only [if_pos hc10] at k
      refine XS.iload X0.here hx rfl (hb hby at_58) rfl ?_
      refine XS.iconst X0.here hx rfl (hb hby at_60) ?_
      refine XS.iand X0.here hx rfl (hb hby at_61) rfl ?_
      refine XS.ifYes X0.here hx rfl (pc0 := 62) (pc' := 69) rfl (hb hby at_62) rfl ((if0 _ _).trans (teq hc10).1) (by decide) (by decide) ?_
      refine XS.iconst X0.here hx rfl (hb hby at_69) ?_
      exact k
    · skip
      try simp only [if_neg hc10] at k
      refine XS.iload X0.here hx rfl (hb hby at_58) rfl ?_
      refine XS.iconst X0.here hx rfl (hb hby at_60) ?_
      refine XS.iand X0.here hx rfl (hb hby at_61) rfl ?_
      refine XS.ifNo X0.here hx rfl (hb hby at_62) rfl ((if0 _ _).trans (feq hc10).1) ?_
      refine XS.iconst X0.here hx rfl (hb hby at_65) ?_
      refine XS.goto X0.here hx rfl (pc0 := 66) (pc' := 70) rfl (hb hby at_66) (by decide) (by decide) ?_
      exact k
    )
  obtain ⟨d1, hd1⟩ : ∃ z : Int32, z = (if (p4 &&& (2 : Int32)) = (0 : Int32) then (0 : Int32) else (1 : Int32)) := ⟨_, rfl⟩
  rw [← hd1] at go11
  have go12 := go11.st s₁ (mkF m 72 #[vI p0, vI p1, vI p2, vI p3, vI p4, vI j1, vI j2, vI r2, vI s1, vI s2, vI d1, uu, uu, uu, uu, uu, uu, uu, uu] []) (fun t k => by
    refine XS.istore X0.here hx rfl (hb hby at_70) rfl (l' := #[vI p0, vI p1, vI p2, vI p3, vI p4, vI j1, vI j2, vI r2, vI s1, vI s2, vI d1, uu, uu, uu, uu, uu, uu, uu, uu]) rfl ?_
    exact k)
  have go14 := go12.st s₁ (mkF m 84 #[vI p0, vI p1, vI p2, vI p3, vI p4, vI j1, vI j2, vI r2, vI s1, vI s2, vI d1, uu, uu, uu, uu, uu, uu, uu, uu] [(sI (if (p4 &&& (4 : Int32)) = i0 then i0 else i1))]) (fun t k => by
    by_cases hc13 : (p4 &&& (4 : Int32)) = (0 : Int32)
    · skip
      try simp only [if_pos hc13] at k
      refine XS.iload X0.here hx rfl (hb hby at_72) rfl ?_
      refine XS.iconst X0.here hx rfl (hb hby at_74) ?_
      refine XS.iand X0.here hx rfl (hb hby at_75) rfl ?_
      refine XS.ifYes X0.here hx rfl (pc0 := 76) (pc' := 83) rfl (hb hby at_76) rfl ((if0 _ _).trans (teq hc13).1) (by decide) (by decide) ?_
      refine XS.iconst X0.here hx rfl (hb hby at_83) ?_
      exact k
    · skip
      try simp only [if_neg hc13] at k
      refine XS.iload X0.here hx rfl (hb hby at_72) rfl ?_
      refine XS.iconst X0.here hx rfl (hb hby at_74) ?_
      refine XS.iand X0.here hx rfl (hb hby at_75) rfl ?_
      refine XS.ifNo X0.here hx rfl (hb hby at_76) rfl ((if0 _ _).trans (feq hc13).1) ?_
      refine XS.iconst X0.here hx rfl (hb hby at_79) ?_
      refine XS.goto X0.here hx rfl (pc0 := 80) (pc' := 84) rfl (hb hby at_80) (by decide) (by decide) ?_
      exact k
    )
  obtain ⟨d2, hd2⟩ : ∃ z : Int32, z = (if (p4 &&& (4 : Int32)) = (0 : Int32) then (0 : Int32) else (1 : Int32)) := ⟨_, rfl⟩
  rw [← hd2] at go14
  have go15 := go14.st s₁ (mkF m 86 #[vI p0, vI p1, vI p2, vI p3, vI p4, vI j1, vI j2, vI r2, vI s1, vI s2, vI d1, vI d2, uu, uu, uu, uu, uu, uu, uu] []) (fun t k => by
    refine XS.istore X0.here hx rfl (hb hby at_84) rfl (l' := #[vI p0, vI p1, vI p2, vI p3, vI p4, vI j1, vI j2, vI r2, vI s1, vI s2, vI d1, vI d2, uu, uu, uu, uu, uu, uu, uu]) rfl ?_
    exact k)
  have hn1 : 0 ≤ j1.toInt := own_nn hj1
  have hn2 : 0 ≤ j2.toInt := by rw [hj2]; (repeat' split) <;> first | exact own_nn hjj | exact hn1
  have hb1 := own_d01 hd1
  have hb2 := own_d01 hd2
  rcases own_bit hs1 with q | q
  · subst q
    rcases own_bit hs2 with q | q
    · subst q
      obtain ⟨T16, h16, X16, e16, E16, A16, D16, -, st16⟩ := newO X0 hx hZ hown (wD hw 1 rfl) (wD hw 2 rfl) (wD hw 3 rfl) e0 (g := (mkF m 86 #[vI p0, vI p1, vI p2, vI p3, vI p4, vI j1, vI j2, vI r2, vI i0, vI i0, vI d1, vI d2, uu, uu, uu, uu, uu, uu, uu] [])) rfl (hb hby at_86) (by decide) (by decide)
      obtain ⟨b16, g16⟩ : ∃ z, z = h0.size := ⟨_, rfl⟩
      rw [← g16] at A16 D16 st16
      have g_b16 : n0 ≤ b16 := Nat.le_trans Z0 (Nat.le_of_eq g16.symm)
      have sz_b16 : h0.size ≤ b16 := Nat.le_trans K0.1 (Nat.le_of_eq g16.symm)
      have F16_pages : Fld Z h16 b16 "com/example/graphkind/graphkind/TripleList" "pages" "[[I" .null := D16 (Or.inl (wD hw 15 rfl)) (ty := (.array (.array .int))) (by decide)
      have F16_room : Fld Z h16 b16 "com/example/graphkind/graphkind/TripleList" "room" "I" (.int (0 : Int32)) := D16 (Or.inl (wD hw 17 rfl)) (ty := .int) (by decide)
      have F16_ofSubject : Fld Z h16 b16 "com/example/graphkind/graphkind/TripleList" "ofSubject" "[I" .null := D16 (Or.inl (wD hw 19 rfl)) (ty := (.array .int)) (by decide)
      have F16_size : Fld Z h16 b16 "com/example/graphkind/graphkind/TripleList" "size" "I" (.int (0 : Int32)) := D16 (Or.inl (wD hw 26 rfl)) (ty := .int) (by decide)
      have Z16 : n0 ≤ h16.size := Nat.le_trans Z0 E16.1
      have K16 := K0.ext E16
      have go17 := go15.st T16 (mkF m 90 #[vI p0, vI p1, vI p2, vI p3, vI p4, vI j1, vI j2, vI r2, vI i0, vI i0, vI d1, vI d2, uu, uu, uu, uu, uu, uu, uu] [sR b16, sR b16]) (fun t k => by
        refine st16 _ ?_
        show SP p e below T16 (mkF m 89 #[vI p0, vI p1, vI p2, vI p3, vI p4, vI j1, vI j2, vI r2, vI i0, vI i0, vI d1, vI d2, uu, uu, uu, uu, uu, uu, uu] [sR b16]) _
        refine XS.dup X16.here hx rfl (hb hby at_89) rfl rfl ?_
        exact k)
      obtain ⟨_, _, ⟨T18, L18, k18, n18⟩, -, X18, ⟨Lc18, hQ18, l18, y18, z18⟩, st18⟩ := X16.specialBack hx (y := yN0) rfl hown (mvT hZ (wD hw 4 rfl)) (mvT hZ (wD hw 5 rfl)) (mvT hZ (wD hw 6 rfl)) (by decide) (backOf (W := 1) (rm_tinit l Z a0 hw [] b16 h16 n0 Z16 A16 g_b16 F16_pages F16_size F16_room F16_ofSubject) hZ (wD hw 6 rfl) (wD hw 3 rfl) (by decide) (by decide)) (g := (mkF m 90 #[vI p0, vI p1, vI p2, vI p3, vI p4, vI j1, vI j2, vI r2, vI i0, vI i0, vI d1, vI d2, uu, uu, uu, uu, uu, uu, uu] [sR b16, sR b16])) rfl (by rw [hml]; rfl) (Steps.refl _) (a := b16) (argsL := []) (rest := [(.ref b16)]) (lenOf pd_rm0_0 rfl) rfl (by show 2 * 0 + _ ≤ _; exact Nat.le_of_eq rfl) (hb hby at_90) (fun _ _ => ⟨rfl, e16, (by decide : 1 + 3 ≤ _), (by decide : 4 + 65 ≤ _)⟩)
      dsimp only [Pt.U, Pt.locs, Pt.cells, Pt.slots] at X18 l18 y18 z18 st18 hQ18
      rw [l18, y18, z18] at X18
      obtain ⟨pg_18, pa_18, sb_18, k1_18, k2_18, k3_18, rfl, N18q, K18, qp18_0, qp18_1, qp18_2, qp18_3, qp18_4, qp18_5, qp18_6, qp18_7, qp18_8, qp18_9, qp18_10, qp18_11, qp18_12, qp18_13, qp18_14, qp18_15, qp18_16⟩ := hQ18
      have N18 := Fr.app N0 N18q
      have f19 := A16.keep K18
      have Z18 : n0 ≤ T18.heap.size := Nat.le_trans Z16 K18.1
      have KK18 := K16.trans K18 (allS (Or.inr sz_b16) all0)
      have g_pg_18 := qp18_5
      have sz_pg_18 := Nat.le_trans K16.1 qp18_6
      have ne_b16_pg_18 : b16 ≠ pg_18 := Nat.ne_of_lt (Nat.lt_of_lt_of_le A16.lt qp18_6)
      have g_pa_18 := qp18_7
      have sz_pa_18 := Nat.le_trans K16.1 qp18_8
      have ne_b16_pa_18 : b16 ≠ pa_18 := Nat.ne_of_lt (Nat.lt_of_lt_of_le A16.lt qp18_8)
      have g_sb_18 := qp18_9
      have sz_sb_18 := Nat.le_trans K16.1 qp18_10
      have ne_b16_sb_18 : b16 ≠ sb_18 := Nat.ne_of_lt (Nat.lt_of_lt_of_le A16.lt qp18_10)
      have go24 := go17.st T18 (mkF m 102 #[vI p0, vI p1, vI p2, vI p3, vI p4, vI j1, vI j2, vI r2, vI i0, vI i0, vI d1, vI d2, vR b16, uu, uu, uu, uu, uu, uu] [sI j1, sI p0, sI i0, sR b16]) (fun t k => by
        refine st18.trans ?_
        show SP p e below T18 (mkF m 93 #[vI p0, vI p1, vI p2, vI p3, vI p4, vI j1, vI j2, vI r2, vI i0, vI i0, vI d1, vI d2, uu, uu, uu, uu, uu, uu, uu] [sR b16]) _
        refine XS.astore X18.here hx rfl (hb hby at_93) rfl rfl (l' := #[vI p0, vI p1, vI p2, vI p3, vI p4, vI j1, vI j2, vI r2, vI i0, vI i0, vI d1, vI d2, vR b16, uu, uu, uu, uu, uu, uu]) rfl ?_
        refine XS.aload X18.here hx rfl (hb hby at_95) rfl rfl ?_
        refine XS.iload X18.here hx rfl (hb hby at_97) rfl ?_
        refine XS.iloadN X18.here hx rfl (hb hby at_99) rfl ?_
        refine XS.iload X18.here hx rfl (hb hby at_100) rfl ?_
        exact k)
      obtain ⟨cq25, kq25, q25a, q25b, q25c⟩ := isOf hZ rfl qp18_0
      obtain ⟨_, _, ⟨T25, L25, k25, n25⟩, -, X25, ⟨Lc25, hQ25, l25, y25, z25⟩, st25⟩ := X18.virtualBack hx (y := yN1) (z := yN1) hown (mvT hZ (wD hw 20 rfl)) (mvT hZ (wD hw 21 rfl)) (notFace_of_selects (args := #[]) (mvT hZ (wD hw 23 rfl))) (mvT hZ (wD hw 23 rfl)) (mvT hZ (wD hw 22 rfl)) (by decide) (backOf (W := 0) (rm_add1_0 l Z a0 hw [] b16 p0 j1 pg_18 k1_18 pa_18 sb_18 k2_18 k3_18 (0 : Int32) (0 : Int32) T18.heap n0 Z18 qp18_0 qp18_1 qp18_2 qp18_3 qp18_4 qp18_11 qp18_12 qp18_13 g_b16 g_pa_18 g_sb_18 ne_b16_pg_18 ne_b16_pa_18 ne_b16_sb_18 qp18_14 qp18_15 qp18_16) hZ (wD hw 24 rfl) (wD hw 3 rfl) (by decide) (by decide)) q25a q25c (g := (mkF m 102 #[vI p0, vI p1, vI p2, vI p3, vI p4, vI j1, vI j2, vI r2, vI i0, vI i0, vI d1, vI d2, vR b16, uu, uu, uu, uu, uu, uu] [sI j1, sI p0, sI i0, sR b16])) rfl (by rw [hml]; rfl) (Steps.refl _) (argsL := [(.int (0 : Int32)), (.int p0), (.int j1)]) (rest := []) (lenOf pd_rm0_1 rfl) rfl (by show 2 * 0 + _ ≤ _; exact Nat.le_of_eq rfl) (hb hby at_102) (fun _ _ => ⟨rfl, rfl, (by decide : 4 + 0 ≤ _), (by decide : 69 + 0 ≤ _)⟩)
      dsimp only [Pt.U, Pt.locs, Pt.cells, Pt.slots] at X25 l25 y25 z25 st25 hQ25
      rw [l25, y25, z25] at X25
      obtain ⟨rfl, N25q, K25, qp25_0, qp25_1, qp25_2, qp25_3, qp25_4, qp25_5, qp25_6⟩ := hQ25
      have N25 := Fr.app N18 N25q
      have f26 := qp18_0.keep K25
      have f31 := qp18_11.keep K25 (ninS qp18_14 (ninS (Ne.symm ne_b16_pg_18) (ninS qp18_15 nin0)))
      have Z25 : n0 ≤ T25.heap.size := Nat.le_trans Z18 K25.1
      have KK25 := KK18.trans K25 (allS (Or.inr sz_pa_18) (allS (Or.inr sz_b16) (allS (Or.inr sz_sb_18) all0)))
      have go34 := go24.st T25 (mkF m 113 #[vI p0, vI p1, vI p2, vI p3, vI p4, vI j1, vI j2, vI r2, vI i0, vI i0, vI d1, vI d2, vR b16, uu, uu, uu, uu, uu, uu] [sI j2, sI r2, sI i0, sR b16]) (fun t k => by
        refine st25.trans ?_
        show SP p e below T25 (mkF m 105 #[vI p0, vI p1, vI p2, vI p3, vI p4, vI j1, vI j2, vI r2, vI i0, vI i0, vI d1, vI d2, vR b16, uu, uu, uu, uu, uu, uu] []) _
        refine XS.aload X25.here hx rfl (hb hby at_105) rfl rfl ?_
        refine XS.iload X25.here hx rfl (hb hby at_107) rfl ?_
        refine XS.iload X25.here hx rfl (hb hby at_109) rfl ?_
        refine XS.iload X25.here hx rfl (hb hby at_111) rfl ?_
        exact k)
      obtain ⟨cq35, kq35, q35a, q35b, q35c⟩ := isOf hZ rfl qp25_0
      obtain ⟨_, _, ⟨T35, L35, k35, n35⟩, -, X35, ⟨Lc35, hQ35, l35, y35, z35⟩, st35⟩ := X25.virtualBack hx (y := yN1) (z := yN1) hown (mvT hZ (wD hw 20 rfl)) (mvT hZ (wD hw 21 rfl)) (notFace_of_selects (args := #[]) (mvT hZ (wD hw 23 rfl))) (mvT hZ (wD hw 23 rfl)) (mvT hZ (wD hw 22 rfl)) (by decide) (backOf (W := 0) (rm_add2_0 l Z a0 hw [] b16 r2 j2 pg_18 k1_18 pa_18 sb_18 k2_18 k3_18 (0 : Int32) p0 j1 (1 : Int32) (0 : Int32) T25.heap n0 Z25 qp25_0 qp25_3 qp25_4 qp25_5 qp25_1 f31 qp25_6 qp25_2 g_b16 g_pa_18 g_sb_18 ne_b16_pg_18 ne_b16_pa_18 ne_b16_sb_18 qp18_14 qp18_15 qp18_16) hZ (wD hw 24 rfl) (wD hw 3 rfl) (by decide) (by decide)) q35a q35c (g := (mkF m 113 #[vI p0, vI p1, vI p2, vI p3, vI p4, vI j1, vI j2, vI r2, vI i0, vI i0, vI d1, vI d2, vR b16, uu, uu, uu, uu, uu, uu] [sI j2, sI r2, sI i0, sR b16])) rfl (by rw [hml]; rfl) (Steps.refl _) (argsL := [(.int (0 : Int32)), (.int r2), (.int j2)]) (rest := []) (lenOf pd_rm0_1 rfl) rfl (by show 2 * 0 + _ ≤ _; exact Nat.le_of_eq rfl) (hb hby at_113) (fun _ _ => ⟨rfl, rfl, (by decide : 4 + 0 ≤ _), (by decide : 69 + 0 ≤ _)⟩)
      dsimp only [Pt.U, Pt.locs, Pt.cells, Pt.slots] at X35 l35 y35 z35 st35 hQ35
      rw [l35, y35, z35] at X35
      obtain ⟨rfl, N35q, K35, qp35_0, qp35_1, qp35_2⟩ := hQ35
      have N35 := Fr.app N25 N35q
      have f36 := qp25_0.keep K35
      have f37 := f31.keep K35 (ninS qp18_14 (ninS (Ne.symm ne_b16_pg_18) (ninS qp18_15 nin0)))
      have Z35 : n0 ≤ T35.heap.size := Nat.le_trans Z25 K35.1
      have KK35 := KK25.trans K35 (allS (Or.inr sz_pa_18) (allS (Or.inr sz_b16) (allS (Or.inr sz_sb_18) all0)))
      have go44 := go34.st T35 (mkF m 116 #[vI p0, vI p1, vI p2, vI p3, vI p4, vI j1, vI j2, vI r2, vI i0, vI i0, vI d1, vI d2, vR b16, uu, uu, uu, uu, uu, uu] []) (fun t k => by
        refine st35.trans ?_
        exact k)
      obtain ⟨T45, h45, X45, e45, E45, A45, D45, -, st45⟩ := newO X35 hx hZ hown (wD hw 28 rfl) (wD hw 29 rfl) (wD hw 30 rfl) rfl (g := (mkF m 116 #[vI p0, vI p1, vI p2, vI p3, vI p4, vI j1, vI j2, vI r2, vI i0, vI i0, vI d1, vI d2, vR b16, uu, uu, uu, uu, uu, uu] [])) rfl (hb hby at_116) (by decide) (by decide)
      obtain ⟨b45, g45⟩ : ∃ z, z = T35.heap.size := ⟨_, rfl⟩
      rw [← g45] at A45 D45 st45
      have ne_b16_b45 : b16 ≠ b45 := Nat.ne_of_lt (Nat.lt_of_lt_of_le qp35_0.lt (Nat.le_of_eq g45.symm))
      have ne_sb_18_b45 : sb_18 ≠ b45 := Nat.ne_of_lt (Nat.lt_of_lt_of_le qp35_2.lt (Nat.le_of_eq g45.symm))
      have g_b45 : n0 ≤ b45 := Nat.le_trans Z35 (Nat.le_of_eq g45.symm)
      have sz_b45 : h0.size ≤ b45 := Nat.le_trans KK35.1 (Nat.le_of_eq g45.symm)
      have f46 := qp35_0.ext E45
      have f47 := qp35_1.ext E45
      have f48 := qp35_2.ext E45
      have F45_terms : Fld Z h45 b45 "com/example/graphkind/graphkind/Statements$Builder" "terms" "I" (.int (0 : Int32)) := D45 (Or.inr (wD hw 36 rfl)) (ty := .int) (by decide)
      have F45_start : Fld Z h45 b45 "com/example/graphkind/graphkind/Statements$Builder" "start" "[I" .null := D45 (Or.inr (wD hw 38 rfl)) (ty := (.array .int)) (by decide)
      have F45_next : Fld Z h45 b45 "com/example/graphkind/graphkind/Statements$Builder" "next" "[I" .null := D45 (Or.inl (wD hw 67 rfl)) (ty := (.array .int)) (by decide)
      have F45_values : Fld Z h45 b45 "com/example/graphkind/graphkind/Statements$Builder" "values" "[J" .null := D45 (Or.inl (wD hw 70 rfl)) (ty := (.array .long)) (by decide)
      have Z45 : n0 ≤ h45.size := Nat.le_trans Z35 E45.1
      have K45 := KK35.ext E45
      have go49 := go44.st T45 (mkF m 121 #[vI p0, vI p1, vI p2, vI p3, vI p4, vI j1, vI j2, vI r2, vI i0, vI i0, vI d1, vI d2, vR b16, uu, uu, uu, uu, uu, uu] [sI i2, sR b45, sR b45]) (fun t k => by
        refine st45 _ ?_
        show SP p e below T45 (mkF m 119 #[vI p0, vI p1, vI p2, vI p3, vI p4, vI j1, vI j2, vI r2, vI i0, vI i0, vI d1, vI d2, vR b16, uu, uu, uu, uu, uu, uu] [sR b45]) _
        refine XS.dup X45.here hx rfl (hb hby at_119) rfl rfl ?_
        refine XS.iconst X45.here hx rfl (hb hby at_120) ?_
        exact k)
      obtain ⟨_, _, ⟨T50, L50, k50, n50⟩, -, X50, ⟨Lc50, hQ50, l50, y50, z50⟩, st50⟩ := X45.specialBack hx (y := yN2) rfl hown (mvT hZ (wD hw 31 rfl)) (mvT hZ (wD hw 32 rfl)) (mvT hZ (wD hw 33 rfl)) (by decide) (backOf (W := 1) (rm_binit l Z a0 hw [] b45 h45 n0 Z45 A45 g_b45 F45_terms F45_start F45_next F45_values) hZ (wD hw 33 rfl) (wD hw 30 rfl) (by decide) (by decide)) (g := (mkF m 121 #[vI p0, vI p1, vI p2, vI p3, vI p4, vI j1, vI j2, vI r2, vI i0, vI i0, vI d1, vI d2, vR b16, uu, uu, uu, uu, uu, uu] [sI i2, sR b45, sR b45])) rfl (by rw [hml]; rfl) (Steps.refl _) (a := b45) (argsL := [(.int (2 : Int32))]) (rest := [(.ref b45)]) (lenOf pd_rm0_2 rfl) rfl (by show 2 * 0 + _ ≤ _; exact Nat.le_of_eq rfl) (hb hby at_121) (fun _ _ => ⟨rfl, e45, (by decide : 5 + 1 ≤ _), (by decide : 73 + 3 ≤ _)⟩)
      dsimp only [Pt.U, Pt.locs, Pt.cells, Pt.slots] at X50 l50 y50 z50 st50 hQ50
      rw [l50, y50, z50] at X50
      obtain ⟨sa_50, ka_50, rfl, N50q, K50, qp50_0, qp50_1, qp50_2, qp50_3, qp50_4, qp50_5, qp50_6, qp50_7⟩ := hQ50
      have N50 := Fr.app N35 N50q
      have f51 := f46.keep K50
      have f52 := f47.keep K50 (ninS ne_b16_b45 nin0)
      have f53 := f48.keep K50 (ninS ne_sb_18_b45 nin0)
      have f54 := A45.keep K50
      have Z50 : n0 ≤ T50.heap.size := Nat.le_trans Z45 K50.1
      have KK50 := K45.trans K50 (allS (Or.inr sz_b45) all0)
      have g_sa_50 := qp50_5
      have sz_sa_50 := Nat.le_trans K45.1 qp50_6
      have ne_b16_sa_50 : b16 ≠ sa_50 := Nat.ne_of_lt (Nat.lt_of_lt_of_le f46.lt qp50_6)
      have ne_sb_18_sa_50 : sb_18 ≠ sa_50 := Nat.ne_of_lt (Nat.lt_of_lt_of_le f48.lt qp50_6)
      have ne_b45_sa_50 : b45 ≠ sa_50 := Nat.ne_of_lt (Nat.lt_of_lt_of_le A45.lt qp50_6)
      have go59 := go49.st T50 (mkF m 130 #[vI p0, vI p1, vI p2, vI p3, vI p4, vI j1, vI j2, vI r2, vI i0, vI i0, vI d1, vI d2, vR b16, vR b45, uu, uu, uu, uu, uu] [sR b16, sR b45]) (fun t k => by
        refine st50.trans ?_
        show SP p e below T50 (mkF m 124 #[vI p0, vI p1, vI p2, vI p3, vI p4, vI j1, vI j2, vI r2, vI i0, vI i0, vI d1, vI d2, vR b16, uu, uu, uu, uu, uu, uu] [sR b45]) _
        refine XS.astore X50.here hx rfl (hb hby at_124) rfl rfl (l' := #[vI p0, vI p1, vI p2, vI p3, vI p4, vI j1, vI j2, vI r2, vI i0, vI i0, vI d1, vI d2, vR b16, vR b45, uu, uu, uu, uu, uu]) rfl ?_
        refine XS.aload X50.here hx rfl (hb hby at_126) rfl rfl ?_
        refine XS.aload X50.here hx rfl (hb hby at_128) rfl rfl ?_
        exact k)
      obtain ⟨cq60, kq60, q60a, q60b, q60c⟩ := isOf hZ rfl qp50_0
      obtain ⟨_, _, ⟨T60, L60, k60, n60⟩, -, X60, ⟨Lc60, hQ60, l60, y60, z60⟩, st60⟩ := X50.virtualBack hx (y := yN7) (z := yN7) hown (mvT hZ (wD hw 39 rfl)) (mvT hZ (wD hw 40 rfl)) (notFace_of_selects (args := #[]) (mvT hZ (wD hw 42 rfl))) (mvT hZ (wD hw 42 rfl)) (mvT hZ (wD hw 41 rfl)) (by decide) (backOf (W := 0) (rm_count l Z a0 hw [] b45 b16 sa_50 ka_50 sb_18 k3_18 (2 : Int32) (0 : Int32) T50.heap n0 Z50 qp50_1 qp50_2 qp50_7 f51 f52 f53 g_sa_50 ne_b45_sa_50 ne_b16_sa_50 ne_sb_18_sa_50) hZ (wD hw 43 rfl) (wD hw 30 rfl) (by decide) (by decide)) q60a q60c (g := (mkF m 130 #[vI p0, vI p1, vI p2, vI p3, vI p4, vI j1, vI j2, vI r2, vI i0, vI i0, vI d1, vI d2, vR b16, vR b45, uu, uu, uu, uu, uu] [sR b16, sR b45])) rfl (by rw [hml]; rfl) (Steps.refl _) (argsL := [(.ref b16)]) (rest := []) (lenOf pd_rm0_3 rfl) rfl (by show 2 * 0 + _ ≤ _; exact Nat.le_of_eq rfl) (hb hby at_130) (fun _ _ => ⟨rfl, rfl, (by decide : 6 + 0 ≤ _), (by decide : 76 + 0 ≤ _)⟩)
      dsimp only [Pt.U, Pt.locs, Pt.cells, Pt.slots] at X60 l60 y60 z60 st60 hQ60
      rw [l60, y60, z60] at X60
      obtain ⟨rfl, N60q, K60, qp60_0⟩ := hQ60
      have N60 := Fr.app N50 N60q
      have f61 := f51.keep K60
      have f62 := f52.keep K60 (ninS ne_b16_sa_50 nin0)
      have f63 := f53.keep K60 (ninS ne_sb_18_sa_50 nin0)
      have f64 := qp50_0.keep K60
      have f65 := qp50_1.keep K60 (ninS ne_b45_sa_50 nin0)
      have f66 := qp50_2.keep K60 (ninS ne_b45_sa_50 nin0)
      have f67 := qp50_3.keep K60 (ninS ne_b45_sa_50 nin0)
      have f68 := qp50_4.keep K60 (ninS ne_b45_sa_50 nin0)
      have Z60 : n0 ≤ T60.heap.size := Nat.le_trans Z50 K60.1
      have KK60 := KK50.trans K60 (allS (Or.inr sz_sa_50) all0)
      have go70 := go59.st T60 (mkF m 135 #[vI p0, vI p1, vI p2, vI p3, vI p4, vI j1, vI j2, vI r2, vI i0, vI i0, vI d1, vI d2, vR b16, vR b45, uu, uu, uu, uu, uu] [sR b45]) (fun t k => by
        refine st60.trans ?_
        show SP p e below T60 (mkF m 133 #[vI p0, vI p1, vI p2, vI p3, vI p4, vI j1, vI j2, vI r2, vI i0, vI i0, vI d1, vI d2, vR b16, vR b45, uu, uu, uu, uu, uu] []) _
        refine XS.aload X60.here hx rfl (hb hby at_133) rfl rfl ?_
        exact k)
      obtain ⟨cq71, kq71, q71a, q71b, q71c⟩ := isOf hZ rfl f64
      obtain ⟨_, _, ⟨T71, L71, k71, n71⟩, -, X71, ⟨Lc71, hQ71, l71, y71, z71⟩, st71⟩ := X60.virtualBack hx (y := yN8) (z := yN8) hown (mvT hZ (wD hw 49 rfl)) (mvT hZ (wD hw 50 rfl)) (notFace_of_selects (args := #[]) (mvT hZ (wD hw 52 rfl))) (mvT hZ (wD hw 52 rfl)) (mvT hZ (wD hw 51 rfl)) (by decide) (backOf (W := 0) (rm_start2 l Z a0 hw [] b45 sa_50 ka_50 T60.heap n0 Z60 f64 f65 f66 f67 f68 qp60_0 g_sa_50 g_b45 ne_b45_sa_50) hZ (wD hw 53 rfl) (wD hw 30 rfl) (by decide) (by decide)) q71a q71c (g := (mkF m 135 #[vI p0, vI p1, vI p2, vI p3, vI p4, vI j1, vI j2, vI r2, vI i0, vI i0, vI d1, vI d2, vR b16, vR b45, uu, uu, uu, uu, uu] [sR b45])) rfl (by rw [hml]; rfl) (Steps.refl _) (argsL := []) (rest := []) (lenOf pd_rm0_0 rfl) rfl (by show 2 * 0 + _ ≤ _; exact Nat.le_of_eq rfl) (hb hby at_135) (fun _ _ => ⟨rfl, rfl, (by decide : 6 + 2 ≤ _), (by decide : 76 + 4 ≤ _)⟩)
      dsimp only [Pt.U, Pt.locs, Pt.cells, Pt.slots] at X71 l71 y71 z71 st71 hQ71
      rw [l71, y71, z71] at X71
      obtain ⟨nx_71, va_71, kx_71, kv_71, rfl, N71q, K71, qp71_0, qp71_1, qp71_2, qp71_3, qp71_4, qp71_5, qp71_6, qp71_7, qp71_8, qp71_9, qp71_10, qp71_11⟩ := hQ71
      have N71 := Fr.app N60 N71q
      have f72 := f64.keep K71
      have Z71 : n0 ≤ T71.heap.size := Nat.le_trans Z60 K71.1
      have KK71 := KK60.trans K71 (allS (Or.inr sz_sa_50) (allS (Or.inr sz_b45) all0))
      have g_nx_71 := qp71_0
      have sz_nx_71 := Nat.le_trans KK60.1 qp71_1
      have ne_b45_nx_71 : b45 ≠ nx_71 := Nat.ne_of_lt (Nat.lt_of_lt_of_le f64.lt qp71_1)
      have ne_sa_50_nx_71 : sa_50 ≠ nx_71 := Nat.ne_of_lt (Nat.lt_of_lt_of_le qp60_0.lt qp71_1)
      have g_va_71 := qp71_2
      have sz_va_71 := Nat.le_trans KK60.1 qp71_3
      have ne_b45_va_71 : b45 ≠ va_71 := Nat.ne_of_lt (Nat.lt_of_lt_of_le f64.lt qp71_3)
      have ne_sa_50_va_71 : sa_50 ≠ va_71 := Nat.ne_of_lt (Nat.lt_of_lt_of_le qp60_0.lt qp71_3)
      have go78 := go70.st T71 (mkF m 147 #[vI p0, vI p1, vI p2, vI p3, vI p4, vI j1, vI j2, vI r2, vI i0, vI i0, vI d1, vI d2, vR b16, vR b45, uu, uu, uu, uu, uu] [sI d1, sI j1, sI p0, sI i0, sR b45]) (fun t k => by
        refine st71.trans ?_
        show SP p e below T71 (mkF m 138 #[vI p0, vI p1, vI p2, vI p3, vI p4, vI j1, vI j2, vI r2, vI i0, vI i0, vI d1, vI d2, vR b16, vR b45, uu, uu, uu, uu, uu] []) _
        refine XS.aload X71.here hx rfl (hb hby at_138) rfl rfl ?_
        refine XS.iload X71.here hx rfl (hb hby at_140) rfl ?_
        refine XS.iloadN X71.here hx rfl (hb hby at_142) rfl ?_
        refine XS.iload X71.here hx rfl (hb hby at_143) rfl ?_
        refine XS.iload X71.here hx rfl (hb hby at_145) rfl ?_
        exact k)
      obtain ⟨cq79, kq79, q79a, q79b, q79c⟩ := isOf hZ rfl f72
      obtain ⟨_, _, ⟨T79, L79, k79, n79⟩, -, X79, ⟨Lc79, hQ79, l79, y79, z79⟩, st79⟩ := X71.virtualBack hx (y := yN9) (z := yN9) hown (mvT hZ (wD hw 71 rfl)) (mvT hZ (wD hw 72 rfl)) (notFace_of_selects (args := #[]) (mvT hZ (wD hw 74 rfl))) (mvT hZ (wD hw 74 rfl)) (mvT hZ (wD hw 73 rfl)) (by decide) (backOf (W := 0) (rm_put0_02 l Z a0 hw [] b45 p0 j1 d1 nx_71 va_71 kx_71 kv_71 (0 : Int64) (0 : Int64) T71.heap n0 Z71 qp71_6 qp71_7 qp71_9 qp71_10 g_nx_71 g_va_71 ne_b45_nx_71 ne_b45_va_71 qp71_11) hZ (wD hw 75 rfl) (wD hw 30 rfl) (by decide) (by decide)) q79a q79c (g := (mkF m 147 #[vI p0, vI p1, vI p2, vI p3, vI p4, vI j1, vI j2, vI r2, vI i0, vI i0, vI d1, vI d2, vR b16, vR b45, uu, uu, uu, uu, uu] [sI d1, sI j1, sI p0, sI i0, sR b45])) rfl (by rw [hml]; rfl) (Steps.refl _) (argsL := [(.int (0 : Int32)), (.int p0), (.int j1), (.int d1)]) (rest := []) (lenOf pd_rm0_4 rfl) rfl (by show 2 * 0 + _ ≤ _; exact Nat.le_of_eq rfl) (hb hby at_147) (fun _ _ => ⟨rfl, rfl, (by decide : 8 + 0 ≤ _), (by decide : 80 + 0 ≤ _)⟩)
      dsimp only [Pt.U, Pt.locs, Pt.cells, Pt.slots] at X79 l79 y79 z79 st79 hQ79
      rw [l79, y79, z79] at X79
      obtain ⟨rfl, N79q, K79, qp79_0, qp79_1⟩ := hQ79
      have N79 := Fr.app N71 N79q
      have f80 := f72.keep K79
      have f81 := qp71_4.keep K79 (ninS ne_b45_nx_71 (ninS ne_b45_va_71 nin0))
      have f82 := qp71_5.keep K79 (ninS ne_b45_nx_71 (ninS ne_b45_va_71 nin0))
      have f83 := qp71_6.keep K79 (ninS ne_b45_nx_71 (ninS ne_b45_va_71 nin0))
      have f84 := qp71_7.keep K79 (ninS ne_b45_nx_71 (ninS ne_b45_va_71 nin0))
      have f85 := qp71_8.keep K79 (ninS ne_sa_50_nx_71 (ninS ne_sa_50_va_71 nin0))
      have Z79 : n0 ≤ T79.heap.size := Nat.le_trans Z71 K79.1
      have KK79 := KK71.trans K79 (allS (Or.inr sz_nx_71) (allS (Or.inr sz_va_71) all0))
      have go88 := go78.st T79 (mkF m 160 #[vI p0, vI p1, vI p2, vI p3, vI p4, vI j1, vI j2, vI r2, vI i0, vI i0, vI d1, vI d2, vR b16, vR b45, uu, uu, uu, uu, uu] [sI d2, sI j2, sI r2, sI i0, sR b45]) (fun t k => by
        refine st79.trans ?_
        show SP p e below T79 (mkF m 150 #[vI p0, vI p1, vI p2, vI p3, vI p4, vI j1, vI j2, vI r2, vI i0, vI i0, vI d1, vI d2, vR b16, vR b45, uu, uu, uu, uu, uu] []) _
        refine XS.aload X79.here hx rfl (hb hby at_150) rfl rfl ?_
        refine XS.iload X79.here hx rfl (hb hby at_152) rfl ?_
        refine XS.iload X79.here hx rfl (hb hby at_154) rfl ?_
        refine XS.iload X79.here hx rfl (hb hby at_156) rfl ?_
        refine XS.iload X79.here hx rfl (hb hby at_158) rfl ?_
        exact k)
      obtain ⟨cq89, kq89, q89a, q89b, q89c⟩ := isOf hZ rfl f80
      obtain ⟨_, _, ⟨T89, L89, k89, n89⟩, -, X89, ⟨Lc89, hQ89, l89, y89, z89⟩, st89⟩ := X79.virtualBack hx (y := yN9) (z := yN9) hown (mvT hZ (wD hw 71 rfl)) (mvT hZ (wD hw 72 rfl)) (notFace_of_selects (args := #[]) (mvT hZ (wD hw 74 rfl))) (mvT hZ (wD hw 74 rfl)) (mvT hZ (wD hw 73 rfl)) (by decide) (backOf (W := 0) (rm_put0_12 l Z a0 hw [] b45 r2 j2 d2 nx_71 va_71 kx_71 kv_71 (own_pack p0 j1 d1) (0 : Int64) T79.heap n0 Z79 f83 f84 qp79_0 qp79_1 g_nx_71 g_va_71 ne_b45_nx_71 ne_b45_va_71 qp71_11) hZ (wD hw 75 rfl) (wD hw 30 rfl) (by decide) (by decide)) q89a q89c (g := (mkF m 160 #[vI p0, vI p1, vI p2, vI p3, vI p4, vI j1, vI j2, vI r2, vI i0, vI i0, vI d1, vI d2, vR b16, vR b45, uu, uu, uu, uu, uu] [sI d2, sI j2, sI r2, sI i0, sR b45])) rfl (by rw [hml]; rfl) (Steps.refl _) (argsL := [(.int (0 : Int32)), (.int r2), (.int j2), (.int d2)]) (rest := []) (lenOf pd_rm0_4 rfl) rfl (by show 2 * 0 + _ ≤ _; exact Nat.le_of_eq rfl) (hb hby at_160) (fun _ _ => ⟨rfl, rfl, (by decide : 8 + 0 ≤ _), (by decide : 80 + 0 ≤ _)⟩)
      dsimp only [Pt.U, Pt.locs, Pt.cells, Pt.slots] at X89 l89 y89 z89 st89 hQ89
      rw [l89, y89, z89] at X89
      obtain ⟨rfl, N89q, K89, qp89_0, qp89_1⟩ := hQ89
      have N89 := Fr.app N79 N89q
      have f90 := f80.keep K89
      have f91 := f81.keep K89 (ninS ne_b45_nx_71 (ninS ne_b45_va_71 nin0))
      have f92 := f82.keep K89 (ninS ne_b45_nx_71 (ninS ne_b45_va_71 nin0))
      have f93 := f83.keep K89 (ninS ne_b45_nx_71 (ninS ne_b45_va_71 nin0))
      have f94 := f84.keep K89 (ninS ne_b45_nx_71 (ninS ne_b45_va_71 nin0))
      have f95 := f85.keep K89 (ninS ne_sa_50_nx_71 (ninS ne_sa_50_va_71 nin0))
      have Z89 : n0 ≤ T89.heap.size := Nat.le_trans Z79 K89.1
      have KK89 := KK79.trans K89 (allS (Or.inr sz_nx_71) (allS (Or.inr sz_va_71) all0))
      have go98 := go88.st T89 (mkF m 163 #[vI p0, vI p1, vI p2, vI p3, vI p4, vI j1, vI j2, vI r2, vI i0, vI i0, vI d1, vI d2, vR b16, vR b45, uu, uu, uu, uu, uu] []) (fun t k => by
        refine st89.trans ?_
        exact k)
      rcases own_cases3 p0 r2 j1 j2 with ⟨qa, qb⟩ | ⟨qn, qf⟩ | ⟨qn, qf⟩
      · obtain ⟨m0, m1, hl⟩ := own_srt (own_pack p0 j1 d1) (own_pack r2 j2 d2)
        have go99 := go98.st T89 (mkF m 165 #[vI p0, vI p1, vI p2, vI p3, vI p4, vI j1, vI j2, vI r2, vI i0, vI i0, vI d1, vI d2, vR b16, vR b45, uu, uu, uu, uu, uu] [sR b45]) (fun t k => by
          refine XS.aload X89.here hx rfl (hb hby at_163) rfl rfl ?_
          exact k)
        obtain ⟨cq100, kq100, q100a, q100b, q100c⟩ := isOf hZ rfl f90
        obtain ⟨_, _, ⟨T100, L100, k100, n100⟩, -, X100, ⟨Lc100, hQ100, l100, y100, z100⟩, st100⟩ := X89.virtualBack hx (y := yN17) (z := yN17) hown (mvT hZ (wD hw 76 rfl)) (mvT hZ (wD hw 77 rfl)) (notFace_of_selects (args := #[]) (mvT hZ (wD hw 79 rfl))) (mvT hZ (wD hw 79 rfl)) (mvT hZ (wD hw 78 rfl)) (by decide) (backOf (W := 0) (rm_buildA_1 l Z a0 hw [] b45 sa_50 ka_50 nx_71 kx_71 va_71 kv_71 (own_pack p0 j1 d1) (own_pack r2 j2 d2) m0 m1 T89.heap n0 Z89 f90 f91 f92 f93 f94 f95 qp89_0 qp89_1 g_sa_50 g_va_71 g_b45 ne_b45_sa_50 ne_b45_nx_71 ne_b45_va_71 ne_sa_50_nx_71 ne_sa_50_va_71 qp71_11 hl (own_hm_eq hl (own_half_eq hn1 hn2 qa qb))) hZ (wD hw 80 rfl) (wD hw 30 rfl) (by decide) (by decide)) q100a q100c (g := (mkF m 165 #[vI p0, vI p1, vI p2, vI p3, vI p4, vI j1, vI j2, vI r2, vI i0, vI i0, vI d1, vI d2, vR b16, vR b45, uu, uu, uu, uu, uu] [sR b45])) rfl (by rw [hml]; rfl) (Steps.refl _) (argsL := []) (rest := []) (lenOf pd_rm0_5 rfl) rfl (by show 2 * 0 + _ ≤ _; exact Nat.le_of_eq rfl) (hb hby at_165) (fun _ _ => ⟨rfl, rfl, (by decide : 8 + 2 ≤ _), (by decide : 80 + 3 ≤ _)⟩)
        dsimp only [Pt.U, Pt.locs, Pt.cells, Pt.slots] at X100 l100 y100 z100 st100 hQ100
        rw [l100, y100, z100] at X100
        obtain ⟨b_100, vb_100, kb_100, rfl, N100q, K100, qp100_0, qp100_1, qp100_2, qp100_3, qp100_4, qp100_5, qp100_6⟩ := hQ100
        have N100 := Fr.app N89 N100q
        have f101 := f90.keep K100
        have f107 := qp89_0.keep K100 (ninS qp71_11 (ninS (Ne.symm ne_sa_50_nx_71) (ninS (Ne.symm ne_b45_nx_71) nin0)))
        have Z100 : n0 ≤ T100.heap.size := Nat.le_trans Z89 K100.1
        have KK100 := KK89.trans K100 (allS (Or.inr sz_va_71) (allS (Or.inr sz_sa_50) (allS (Or.inr sz_b45) all0)))
        have g_b_100 := qp100_0
        have sz_b_100 := Nat.le_trans KK89.1 qp100_1
        have ne_b45_b_100 : b45 ≠ b_100 := Nat.ne_of_lt (Nat.lt_of_lt_of_le f90.lt qp100_1)
        have ne_sa_50_b_100 : sa_50 ≠ b_100 := Nat.ne_of_lt (Nat.lt_of_lt_of_le f95.lt qp100_1)
        have ne_nx_71_b_100 : nx_71 ≠ b_100 := Nat.ne_of_lt (Nat.lt_of_lt_of_le qp89_0.lt qp100_1)
        have ne_va_71_b_100 : va_71 ≠ b_100 := Nat.ne_of_lt (Nat.lt_of_lt_of_le qp89_1.lt qp100_1)
        have go109 := go99.st T100 (mkF m 173 #[vI p0, vI p1, vI p2, vI p3, vI p4, vI j1, vI j2, vI r2, vI i0, vI i0, vI d1, vI d2, vR b16, vR b45, vR b_100, uu, uu, uu, uu] [sI i0, sR b_100]) (fun t k => by
          refine st100.trans ?_
          show SP p e below T100 (mkF m 168 #[vI p0, vI p1, vI p2, vI p3, vI p4, vI j1, vI j2, vI r2, vI i0, vI i0, vI d1, vI d2, vR b16, vR b45, uu, uu, uu, uu, uu] [sR b_100]) _
          refine XS.astore X100.here hx rfl (hb hby at_168) rfl rfl (l' := #[vI p0, vI p1, vI p2, vI p3, vI p4, vI j1, vI j2, vI r2, vI i0, vI i0, vI d1, vI d2, vR b16, vR b45, vR b_100, uu, uu, uu, uu]) rfl ?_
          refine XS.aload X100.here hx rfl (hb hby at_170) rfl rfl ?_
          refine XS.iconst X100.here hx rfl (hb hby at_172) ?_
          exact k)
        obtain ⟨cq110, kq110, q110a, q110b, q110c⟩ := isOf hZ rfl qp100_2
        obtain ⟨_, _, ⟨T110, L110, k110, n110⟩, -, X110, ⟨Lc110, hQ110, l110, y110, z110⟩, st110⟩ := X100.virtualBack hx (y := yN18) (z := yN18) hown (mvT hZ (wD hw 112 rfl)) (mvT hZ (wD hw 113 rfl)) (notFace_of_selects (args := #[]) (mvT hZ (wD hw 115 rfl))) (mvT hZ (wD hw 115 rfl)) (mvT hZ (wD hw 114 rfl)) (by decide) (backOf (W := 0) (rm_end0 l Z a0 hw [] b_100 sa_50 ka_50 (0 : Int32) (1 : Int32) (1 : Int32) T100.heap n0 Z100 qp100_3 qp100_5) hZ (wD hw 116 rfl) (wD hw 103 rfl) (by decide) (by decide)) q110a q110c (g := (mkF m 173 #[vI p0, vI p1, vI p2, vI p3, vI p4, vI j1, vI j2, vI r2, vI i0, vI i0, vI d1, vI d2, vR b16, vR b45, vR b_100, uu, uu, uu, uu] [sI i0, sR b_100])) rfl (by rw [hml]; rfl) (Steps.refl _) (argsL := [(.int (0 : Int32))]) (rest := []) (lenOf pd_rm0_6 rfl) rfl (by show 2 * 0 + _ ≤ _; exact Nat.le_of_eq rfl) (hb hby at_173) (fun _ _ => ⟨rfl, rfl, (by decide : 10 + 0 ≤ _), (by decide : 83 + 0 ≤ _)⟩)
        dsimp only [Pt.U, Pt.locs, Pt.cells, Pt.slots] at X110 l110 y110 z110 st110 hQ110
        rw [l110, y110, z110] at X110
        obtain ⟨rfl, N110q, e110⟩ := hQ110
        have N110 := Fr.app N100 N110q
        have go111 := go109.st T110 (mkF m 181 #[vI p0, vI p1, vI p2, vI p3, vI p4, vI j1, vI j2, vI r2, vI i0, vI i0, vI d1, vI d2, vR b16, vR b45, vR b_100, vI i1, uu, uu, uu] [sI i1, sR b_100]) (fun t k => by
          refine st110.trans ?_
          show SP p e below T110 (mkF m 176 #[vI p0, vI p1, vI p2, vI p3, vI p4, vI j1, vI j2, vI r2, vI i0, vI i0, vI d1, vI d2, vR b16, vR b45, vR b_100, uu, uu, uu, uu] [sI i1]) _
          refine XS.istore X110.here hx rfl (hb hby at_176) rfl (l' := #[vI p0, vI p1, vI p2, vI p3, vI p4, vI j1, vI j2, vI r2, vI i0, vI i0, vI d1, vI d2, vR b16, vR b45, vR b_100, vI i1, uu, uu, uu]) rfl ?_
          refine XS.aload X110.here hx rfl (hb hby at_178) rfl rfl ?_
          refine XS.iconst X110.here hx rfl (hb hby at_180) ?_
          exact k)
        obtain ⟨cq112, kq112, q112a, q112b, q112c⟩ := isOf hZ e110 qp100_2
        obtain ⟨_, _, ⟨T112, L112, k112, n112⟩, -, X112, ⟨Lc112, hQ112, l112, y112, z112⟩, st112⟩ := X110.virtualBack hx (y := yN18) (z := yN18) hown (mvT hZ (wD hw 112 rfl)) (mvT hZ (wD hw 113 rfl)) (notFace_of_selects (args := #[]) (mvT hZ (wD hw 115 rfl))) (mvT hZ (wD hw 115 rfl)) (mvT hZ (wD hw 114 rfl)) (by decide) (backOf (W := 0) (rm_end1 l Z a0 hw [] b_100 sa_50 ka_50 (0 : Int32) (1 : Int32) (1 : Int32) T100.heap n0 Z100 qp100_3 qp100_5) hZ (wD hw 116 rfl) (wD hw 103 rfl) (by decide) (by decide)) q112a q112c (g := (mkF m 181 #[vI p0, vI p1, vI p2, vI p3, vI p4, vI j1, vI j2, vI r2, vI i0, vI i0, vI d1, vI d2, vR b16, vR b45, vR b_100, vI i1, uu, uu, uu] [sI i1, sR b_100])) rfl (by rw [hml]; rfl) (Steps.refl _) (argsL := [(.int (1 : Int32))]) (rest := []) (lenOf pd_rm0_6 rfl) rfl (by show 2 * 0 + _ ≤ _; exact Nat.le_of_eq rfl) (hb hby at_181) (fun _ _ => ⟨rfl, e110, (by decide : 10 + 0 ≤ _), (by decide : 83 + 0 ≤ _)⟩)
        dsimp only [Pt.U, Pt.locs, Pt.cells, Pt.slots] at X112 l112 y112 z112 st112 hQ112
        rw [l112, y112, z112] at X112
        obtain ⟨rfl, N112q, e112⟩ := hQ112
        have N112 := Fr.app N110 N112q
        have go120 := go111.st T112 (mkF m 309 #[vI p0, vI p1, vI p2, vI p3, vI p4, vI j1, vI j2, vI r2, vI i0, vI i0, vI d1, vI d2, vR b16, vR b45, vR b_100, vI i1, vI i1, vI i1, uu] [sI j1, sI p0, sI i0, sR b_100]) (fun t k => by
          refine st112.trans ?_
          show SP p e below T112 (mkF m 184 #[vI p0, vI p1, vI p2, vI p3, vI p4, vI j1, vI j2, vI r2, vI i0, vI i0, vI d1, vI d2, vR b16, vR b45, vR b_100, vI i1, uu, uu, uu] [sI i1]) _
          refine XS.istore X112.here hx rfl (hb hby at_184) rfl (l' := #[vI p0, vI p1, vI p2, vI p3, vI p4, vI j1, vI j2, vI r2, vI i0, vI i0, vI d1, vI d2, vR b16, vR b45, vR b_100, vI i1, vI i1, uu, uu]) rfl ?_
          refine XS.iload X112.here hx rfl (hb hby at_186) rfl ?_
          refine XS.iload X112.here hx rfl (hb hby at_188) rfl ?_
          refine XS.icmpYes X112.here hx rfl (pc0 := 190) (pc' := 242) rfl (hb hby at_190) rfl (teq ((by decide) : (0 : Int32) = (0 : Int32))).1 (by decide) (by decide) ?_
          refine XS.iloadN X112.here hx rfl (hb hby at_242) rfl ?_
          refine XS.iload X112.here hx rfl (hb hby at_243) rfl ?_
          refine XS.icmpNo X112.here hx rfl (hb hby at_245) rfl (teq (qa : p0 = r2)).2 ?_
          refine XS.iload X112.here hx rfl (hb hby at_248) rfl ?_
          refine XS.iload X112.here hx rfl (hb hby at_250) rfl ?_
          show SP p e below T112 (mkF m 252 #[vI p0, vI p1, vI p2, vI p3, vI p4, vI j1, vI j2, vI r2, vI i0, vI i0, vI d1, vI d2, vR b16, vR b45, vR b_100, vI i1, vI i1, uu, uu] [sI j2, sI j1]) _
          refine XS.icmpNo X112.here hx rfl (hb hby at_252) rfl (teq (qb : j1 = j2)).2 ?_
          refine XS.iload X112.here hx rfl (hb hby at_255) rfl ?_
          refine XS.ifNo X112.here hx rfl (hb hby at_257) rfl ((if0 _ _).trans (teq ((by decide) : (0 : Int32) = (0 : Int32))).2) ?_
          refine XS.iload X112.here hx rfl (hb hby at_260) rfl ?_
          refine XS.iconst X112.here hx rfl (hb hby at_262) ?_
          refine XS.icmpNo X112.here hx rfl (hb hby at_263) rfl (teq ((by decide) : (1 : Int32) = (1 : Int32))).2 ?_
          refine XS.iload X112.here hx rfl (hb hby at_266) rfl ?_
          refine XS.iconst X112.here hx rfl (hb hby at_268) ?_
          refine XS.icmpNo X112.here hx rfl (hb hby at_269) rfl (teq ((by decide) : (1 : Int32) = (1 : Int32))).2 ?_
          show SP p e below T112 (mkF m 272 #[vI p0, vI p1, vI p2, vI p3, vI p4, vI j1, vI j2, vI r2, vI i0, vI i0, vI d1, vI d2, vR b16, vR b45, vR b_100, vI i1, vI i1, uu, uu] []) _
          refine XS.iconst X112.here hx rfl (hb hby at_272) ?_
          refine XS.goto X112.here hx rfl (pc0 := 273) (pc' := 296) rfl (hb hby at_273) (by decide) (by decide) ?_
          refine XS.istore X112.here hx rfl (hb hby at_296) rfl (l' := #[vI p0, vI p1, vI p2, vI p3, vI p4, vI j1, vI j2, vI r2, vI i0, vI i0, vI d1, vI d2, vR b16, vR b45, vR b_100, vI i1, vI i1, vI i1, uu]) rfl ?_
          refine XS.iload X112.here hx rfl (hb hby at_298) rfl ?_
          refine XS.ifNo X112.here hx rfl (hb hby at_300) rfl ((if0 _ _).trans (feq ((by decide) : ¬ ((1 : Int32) = (0 : Int32)))).1) ?_
          refine XS.aload X112.here hx rfl (hb hby at_303) rfl rfl ?_
          refine XS.iconst X112.here hx rfl (hb hby at_305) ?_
          refine XS.iloadN X112.here hx rfl (hb hby at_306) rfl ?_
          refine XS.iload X112.here hx rfl (hb hby at_307) rfl ?_
          exact k)
        have go123 := go120.st T112 (mkF m 324 #[vI p0, vI p1, vI p2, vI p3, vI p4, vI j1, vI j2, vI r2, vI i0, vI i0, vI d1, vI d2, vR b16, vR b45, vR b_100, vI i1, vI i1, vI i1, uu] [(sI (if d1 = i0 then (if d2 = i0 then i0 else i1) else i1)), sI j1, sI p0, sI i0, sR b_100]) (fun t k => by
          by_cases hc121 : d1 = (0 : Int32)
          · skip
            by_cases hc122 : d2 = (0 : Int32)
            · skip
              try simp only [if_pos hc121, if_pos hc122] at k
              refine XS.iload X112.here hx rfl (hb hby at_309) rfl ?_
              refine XS.ifNo X112.here hx rfl (hb hby at_311) rfl ((if0 _ _).trans (teq hc121).2) ?_
              refine XS.iload X112.here hx rfl (hb hby at_314) rfl ?_
              refine XS.ifYes X112.here hx rfl (pc0 := 316) (pc' := 323) rfl (hb hby at_316) rfl ((if0 _ _).trans (teq hc122).1) (by decide) (by decide) ?_
              refine XS.iconst X112.here hx rfl (hb hby at_323) ?_
              exact k
            · skip
              try simp only [if_pos hc121, if_neg hc122] at k
              refine XS.iload X112.here hx rfl (hb hby at_309) rfl ?_
              refine XS.ifNo X112.here hx rfl (hb hby at_311) rfl ((if0 _ _).trans (teq hc121).2) ?_
              refine XS.iload X112.here hx rfl (hb hby at_314) rfl ?_
              refine XS.ifNo X112.here hx rfl (hb hby at_316) rfl ((if0 _ _).trans (feq hc122).1) ?_
              refine XS.iconst X112.here hx rfl (hb hby at_319) ?_
              refine XS.goto X112.here hx rfl (pc0 := 320) (pc' := 324) rfl (hb hby at_320) (by decide) (by decide) ?_
              exact k
          · skip
            try simp only [if_neg hc121] at k
            refine XS.iload X112.here hx rfl (hb hby at_309) rfl ?_
            refine XS.ifYes X112.here hx rfl (pc0 := 311) (pc' := 319) rfl (hb hby at_311) rfl ((if0 _ _).trans (feq hc121).2) (by decide) (by decide) ?_
            refine XS.iconst X112.here hx rfl (hb hby at_319) ?_
            refine XS.goto X112.here hx rfl (pc0 := 320) (pc' := 324) rfl (hb hby at_320) (by decide) (by decide) ?_
            exact k
          )
        obtain ⟨_, _, ⟨T124, L124, k124, n124⟩, -, X124, ⟨Lc124, hQ124, l124, y124, z124⟩, st124⟩ := Jvm.LawKit.callS X112 hx (y := yN22) hown (mvT hZ (wD hw 117 rfl)) (mvT hZ (wD hw 118 rfl)) (mvT hZ (wD hw 119 rfl)) (mvT hZ (wD hw 120 rfl)) (by decide) (backOf (W := 0) (rm20 l Z a0 hw [] b_100 (0 : Int32) p0 j1 (if d1 = (0 : Int32) then (if d2 = (0 : Int32) then (0 : Int32) else (1 : Int32)) else (1 : Int32)) vb_100 kb_100 (1 : Int32) [(.long (m0 ||| m1))] (m0 ||| m1) T100.heap n0 Z100 qp100_2 qp100_4 qp100_6 ⟨by decide, by decide⟩ rfl) hZ (wD hw 120 rfl) (wD hw 119 rfl) (by decide) (by decide)) (g := (mkF m 324 #[vI p0, vI p1, vI p2, vI p3, vI p4, vI j1, vI j2, vI r2, vI i0, vI i0, vI d1, vI d2, vR b16, vR b45, vR b_100, vI i1, vI i1, vI i1, uu] [(sI (if d1 = i0 then (if d2 = i0 then i0 else i1) else i1)), sI j1, sI p0, sI i0, sR b_100])) rfl (by rw [hml]; rfl) (argsL := [(.ref b_100), (.int (0 : Int32)), (.int p0), (.int j1), (.int (if d1 = (0 : Int32) then (if d2 = (0 : Int32) then (0 : Int32) else (1 : Int32)) else (1 : Int32)))]) (rest := []) (lenOf pd_rm0_7 rfl) rfl (by show 2 * 0 + _ ≤ _; exact Nat.le_of_eq rfl) (hb hby at_324) (fun _ _ => ⟨rfl, e112, (by decide : 10 + 0 ≤ _), (by decide : 83 + 0 ≤ _)⟩)
        dsimp only [Pt.U, Pt.locs, Pt.cells, Pt.slots] at X124 l124 y124 z124 st124 hQ124
        rw [l124, y124, z124] at X124
        obtain ⟨rfl, N124q, e124⟩ := hQ124
        have N124 := Fr.app N112 N124q
        have go126 := go123.st T124 (mkF m 335 #[vI p0, vI p1, vI p2, vI p3, vI p4, vI j1, vI j2, vI r2, vI i0, vI i0, vI d1, vI d2, vR b16, vR b45, vR b_100, vI i1, vI i1, vI i1, uu] [sI i1]) (fun t k => by
          refine st124 _ ?_
          show SP p e below T124 (mkF m 327 #[vI p0, vI p1, vI p2, vI p3, vI p4, vI j1, vI j2, vI r2, vI i0, vI i0, vI d1, vI d2, vR b16, vR b45, vR b_100, vI i1, vI i1, vI i1, uu] [(sI (own_at p0 j1 (if d1 = i0 then (if d2 = i0 then i0 else i1) else i1) (m0 ||| m1)))]) _
          refine XS.ifNo X124.here hx rfl (hb hby at_327) rfl ((if0 _ _).trans (feq (own_at_or hl hn1 qa qb : ¬ ((own_at p0 j1 (if d1 = (0 : Int32) then (if d2 = (0 : Int32) then (0 : Int32) else (1 : Int32)) else (1 : Int32)) (m0 ||| m1)) = (0 : Int32)))).1) ?_
          refine XS.iconst X124.here hx rfl (hb hby at_330) ?_
          refine XS.goto X124.here hx rfl (pc0 := 331) (pc' := 335) rfl (hb hby at_331) (by decide) (by decide) ?_
          exact k)
        obtain ⟨fs, hr, hrun, hended, hW, hsame⟩ := X124.leave (v := some (.int (1 : Int32))) (fun h => by rw [Bd.returns] at h; cases h)
        refine ⟨_, _, go126 _ ?_, hrun, hended, _, _, rfl, ?_, ⟨_, rfl⟩, hW, hsame.mono (by decide) (by decide)⟩
        · exact retN X124 hx (t := .boolean) Bd.returns (by simp) (hb hby at_335) hr
        · show Q_rm0 Z p0 p1 p2 p3 p4 h0 n0 _ T124.heap _
          rw [e124]
          exact ⟨rfl, N124⟩
      · skip
        have go127 := go98.st T89 (mkF m 165 #[vI p0, vI p1, vI p2, vI p3, vI p4, vI j1, vI j2, vI r2, vI i0, vI i0, vI d1, vI d2, vR b16, vR b45, uu, uu, uu, uu, uu] [sR b45]) (fun t k => by
          refine XS.aload X89.here hx rfl (hb hby at_163) rfl rfl ?_
          exact k)
        obtain ⟨cq128, kq128, q128a, q128b, q128c⟩ := isOf hZ rfl f90
        obtain ⟨_, _, ⟨T128, L128, k128, n128⟩, -, X128, ⟨Lc128, hQ128, l128, y128, z128⟩, st128⟩ := X89.virtualBack hx (y := yN17) (z := yN17) hown (mvT hZ (wD hw 76 rfl)) (mvT hZ (wD hw 77 rfl)) (notFace_of_selects (args := #[]) (mvT hZ (wD hw 79 rfl))) (mvT hZ (wD hw 79 rfl)) (mvT hZ (wD hw 78 rfl)) (by decide) (backOf (W := 0) (rm_buildA_0 l Z a0 hw [] b45 sa_50 ka_50 nx_71 kx_71 va_71 kv_71 (own_pack p0 j1 d1) (own_pack r2 j2 d2) (own_pack p0 j1 d1) (own_pack r2 j2 d2) T89.heap n0 Z89 f90 f91 f92 f93 f94 f95 qp89_0 qp89_1 g_sa_50 g_va_71 g_b45 ne_b45_sa_50 ne_b45_nx_71 ne_b45_va_71 ne_sa_50_nx_71 ne_sa_50_va_71 qp71_11 (Or.inr ⟨own_nlt hn1 hn2 qf, rfl, rfl⟩) (own_half_ne hn2 hn1 (fun z => qn ⟨z.1.symm, z.2.symm⟩))) hZ (wD hw 80 rfl) (wD hw 30 rfl) (by decide) (by decide)) q128a q128c (g := (mkF m 165 #[vI p0, vI p1, vI p2, vI p3, vI p4, vI j1, vI j2, vI r2, vI i0, vI i0, vI d1, vI d2, vR b16, vR b45, uu, uu, uu, uu, uu] [sR b45])) rfl (by rw [hml]; rfl) (Steps.refl _) (argsL := []) (rest := []) (lenOf pd_rm0_5 rfl) rfl (by show 2 * 0 + _ ≤ _; exact Nat.le_of_eq rfl) (hb hby at_165) (fun _ _ => ⟨rfl, rfl, (by decide : 8 + 1 ≤ _), (by decide : 80 + 2 ≤ _)⟩)
        dsimp only [Pt.U, Pt.locs, Pt.cells, Pt.slots] at X128 l128 y128 z128 st128 hQ128
        rw [l128, y128, z128] at X128
        obtain ⟨b_128, rfl, N128q, K128, qp128_0, qp128_1, qp128_2, qp128_3, qp128_4, qp128_5, qp128_6⟩ := hQ128
        have N128 := Fr.app N89 N128q
        have f129 := f90.keep K128
        have f135 := qp89_0.keep K128 (ninS qp71_11 (ninS (Ne.symm ne_sa_50_nx_71) (ninS (Ne.symm ne_b45_nx_71) nin0)))
        have Z128 : n0 ≤ T128.heap.size := Nat.le_trans Z89 K128.1
        have KK128 := KK89.trans K128 (allS (Or.inr sz_va_71) (allS (Or.inr sz_sa_50) (allS (Or.inr sz_b45) all0)))
        have g_b_128 := qp128_0
        have sz_b_128 := Nat.le_trans KK89.1 qp128_1
        have ne_b45_b_128 : b45 ≠ b_128 := Nat.ne_of_lt (Nat.lt_of_lt_of_le f90.lt qp128_1)
        have ne_sa_50_b_128 : sa_50 ≠ b_128 := Nat.ne_of_lt (Nat.lt_of_lt_of_le f95.lt qp128_1)
        have ne_nx_71_b_128 : nx_71 ≠ b_128 := Nat.ne_of_lt (Nat.lt_of_lt_of_le qp89_0.lt qp128_1)
        have ne_va_71_b_128 : va_71 ≠ b_128 := Nat.ne_of_lt (Nat.lt_of_lt_of_le qp89_1.lt qp128_1)
        have go137 := go127.st T128 (mkF m 173 #[vI p0, vI p1, vI p2, vI p3, vI p4, vI j1, vI j2, vI r2, vI i0, vI i0, vI d1, vI d2, vR b16, vR b45, vR b_128, uu, uu, uu, uu] [sI i0, sR b_128]) (fun t k => by
          refine st128.trans ?_
          show SP p e below T128 (mkF m 168 #[vI p0, vI p1, vI p2, vI p3, vI p4, vI j1, vI j2, vI r2, vI i0, vI i0, vI d1, vI d2, vR b16, vR b45, uu, uu, uu, uu, uu] [sR b_128]) _
          refine XS.astore X128.here hx rfl (hb hby at_168) rfl rfl (l' := #[vI p0, vI p1, vI p2, vI p3, vI p4, vI j1, vI j2, vI r2, vI i0, vI i0, vI d1, vI d2, vR b16, vR b45, vR b_128, uu, uu, uu, uu]) rfl ?_
          refine XS.aload X128.here hx rfl (hb hby at_170) rfl rfl ?_
          refine XS.iconst X128.here hx rfl (hb hby at_172) ?_
          exact k)
        obtain ⟨cq138, kq138, q138a, q138b, q138c⟩ := isOf hZ rfl qp128_2
        obtain ⟨_, _, ⟨T138, L138, k138, n138⟩, -, X138, ⟨Lc138, hQ138, l138, y138, z138⟩, st138⟩ := X128.virtualBack hx (y := yN18) (z := yN18) hown (mvT hZ (wD hw 112 rfl)) (mvT hZ (wD hw 113 rfl)) (notFace_of_selects (args := #[]) (mvT hZ (wD hw 115 rfl))) (mvT hZ (wD hw 115 rfl)) (mvT hZ (wD hw 114 rfl)) (by decide) (backOf (W := 0) (rm_end0 l Z a0 hw [] b_128 sa_50 ka_50 (0 : Int32) (2 : Int32) (2 : Int32) T128.heap n0 Z128 qp128_3 qp128_5) hZ (wD hw 116 rfl) (wD hw 103 rfl) (by decide) (by decide)) q138a q138c (g := (mkF m 173 #[vI p0, vI p1, vI p2, vI p3, vI p4, vI j1, vI j2, vI r2, vI i0, vI i0, vI d1, vI d2, vR b16, vR b45, vR b_128, uu, uu, uu, uu] [sI i0, sR b_128])) rfl (by rw [hml]; rfl) (Steps.refl _) (argsL := [(.int (0 : Int32))]) (rest := []) (lenOf pd_rm0_6 rfl) rfl (by show 2 * 0 + _ ≤ _; exact Nat.le_of_eq rfl) (hb hby at_173) (fun _ _ => ⟨rfl, rfl, (by decide : 9 + 0 ≤ _), (by decide : 82 + 0 ≤ _)⟩)
        dsimp only [Pt.U, Pt.locs, Pt.cells, Pt.slots] at X138 l138 y138 z138 st138 hQ138
        rw [l138, y138, z138] at X138
        obtain ⟨rfl, N138q, e138⟩ := hQ138
        have N138 := Fr.app N128 N138q
        have go139 := go137.st T138 (mkF m 181 #[vI p0, vI p1, vI p2, vI p3, vI p4, vI j1, vI j2, vI r2, vI i0, vI i0, vI d1, vI d2, vR b16, vR b45, vR b_128, vI i2, uu, uu, uu] [sI i1, sR b_128]) (fun t k => by
          refine st138.trans ?_
          show SP p e below T138 (mkF m 176 #[vI p0, vI p1, vI p2, vI p3, vI p4, vI j1, vI j2, vI r2, vI i0, vI i0, vI d1, vI d2, vR b16, vR b45, vR b_128, uu, uu, uu, uu] [sI i2]) _
          refine XS.istore X138.here hx rfl (hb hby at_176) rfl (l' := #[vI p0, vI p1, vI p2, vI p3, vI p4, vI j1, vI j2, vI r2, vI i0, vI i0, vI d1, vI d2, vR b16, vR b45, vR b_128, vI i2, uu, uu, uu]) rfl ?_
          refine XS.aload X138.here hx rfl (hb hby at_178) rfl rfl ?_
          refine XS.iconst X138.here hx rfl (hb hby at_180) ?_
          exact k)
        obtain ⟨cq140, kq140, q140a, q140b, q140c⟩ := isOf hZ e138 qp128_2
        obtain ⟨_, _, ⟨T140, L140, k140, n140⟩, -, X140, ⟨Lc140, hQ140, l140, y140, z140⟩, st140⟩ := X138.virtualBack hx (y := yN18) (z := yN18) hown (mvT hZ (wD hw 112 rfl)) (mvT hZ (wD hw 113 rfl)) (notFace_of_selects (args := #[]) (mvT hZ (wD hw 115 rfl))) (mvT hZ (wD hw 115 rfl)) (mvT hZ (wD hw 114 rfl)) (by decide) (backOf (W := 0) (rm_end1 l Z a0 hw [] b_128 sa_50 ka_50 (0 : Int32) (2 : Int32) (2 : Int32) T128.heap n0 Z128 qp128_3 qp128_5) hZ (wD hw 116 rfl) (wD hw 103 rfl) (by decide) (by decide)) q140a q140c (g := (mkF m 181 #[vI p0, vI p1, vI p2, vI p3, vI p4, vI j1, vI j2, vI r2, vI i0, vI i0, vI d1, vI d2, vR b16, vR b45, vR b_128, vI i2, uu, uu, uu] [sI i1, sR b_128])) rfl (by rw [hml]; rfl) (Steps.refl _) (argsL := [(.int (1 : Int32))]) (rest := []) (lenOf pd_rm0_6 rfl) rfl (by show 2 * 0 + _ ≤ _; exact Nat.le_of_eq rfl) (hb hby at_181) (fun _ _ => ⟨rfl, e138, (by decide : 9 + 0 ≤ _), (by decide : 82 + 0 ≤ _)⟩)
        dsimp only [Pt.U, Pt.locs, Pt.cells, Pt.slots] at X140 l140 y140 z140 st140 hQ140
        rw [l140, y140, z140] at X140
        obtain ⟨rfl, N140q, e140⟩ := hQ140
        have N140 := Fr.app N138 N140q
        have go142 := go139.st T140 (mkF m 242 #[vI p0, vI p1, vI p2, vI p3, vI p4, vI j1, vI j2, vI r2, vI i0, vI i0, vI d1, vI d2, vR b16, vR b45, vR b_128, vI i2, vI i2, uu, uu] []) (fun t k => by
          refine st140.trans ?_
          show SP p e below T140 (mkF m 184 #[vI p0, vI p1, vI p2, vI p3, vI p4, vI j1, vI j2, vI r2, vI i0, vI i0, vI d1, vI d2, vR b16, vR b45, vR b_128, vI i2, uu, uu, uu] [sI i2]) _
          refine XS.istore X140.here hx rfl (hb hby at_184) rfl (l' := #[vI p0, vI p1, vI p2, vI p3, vI p4, vI j1, vI j2, vI r2, vI i0, vI i0, vI d1, vI d2, vR b16, vR b45, vR b_128, vI i2, vI i2, uu, uu]) rfl ?_
          refine XS.iload X140.here hx rfl (hb hby at_186) rfl ?_
          refine XS.iload X140.here hx rfl (hb hby at_188) rfl ?_
          refine XS.icmpYes X140.here hx rfl (pc0 := 190) (pc' := 242) rfl (hb hby at_190) rfl (teq ((by decide) : (0 : Int32) = (0 : Int32))).1 (by decide) (by decide) ?_
          exact k)
        have go145 := go142.st T140 (mkF m 336 #[vI p0, vI p1, vI p2, vI p3, vI p4, vI j1, vI j2, vI r2, vI i0, vI i0, vI d1, vI d2, vR b16, vR b45, vR b_128, vI i2, vI i2, uu, uu] []) (fun t k => by
          by_cases hc143 : p0 = r2
          · skip
            try simp only [if_pos hc143] at k
            refine XS.iloadN X140.here hx rfl (hb hby at_242) rfl ?_
            refine XS.iload X140.here hx rfl (hb hby at_243) rfl ?_
            refine XS.icmpNo X140.here hx rfl (hb hby at_245) rfl (teq hc143).2 ?_
            refine XS.iload X140.here hx rfl (hb hby at_248) rfl ?_
            refine XS.iload X140.here hx rfl (hb hby at_250) rfl ?_
            refine XS.icmpYes X140.here hx rfl (pc0 := 252) (pc' := 336) rfl (hb hby at_252) rfl (feq ((fun z => qn ⟨hc143, z⟩) : ¬ (j1 = j2))).2 (by decide) (by decide) ?_
            exact k
          · skip
            try simp only [if_neg hc143] at k
            refine XS.iloadN X140.here hx rfl (hb hby at_242) rfl ?_
            refine XS.iload X140.here hx rfl (hb hby at_243) rfl ?_
            refine XS.icmpYes X140.here hx rfl (pc0 := 245) (pc' := 336) rfl (hb hby at_245) rfl (feq hc143).2 (by decide) (by decide) ?_
            exact k
          )
        have go149 := go145.st T140 (mkF m 379 #[vI p0, vI p1, vI p2, vI p3, vI p4, vI j1, vI j2, vI r2, vI i0, vI i0, vI d1, vI d2, vR b16, vR b45, vR b_128, vI i2, vI i2, vI i1, uu] []) (fun t k => by
          refine XS.iload X140.here hx rfl (hb hby at_336) rfl ?_
          refine XS.ifNo X140.here hx rfl (hb hby at_338) rfl ((if0 _ _).trans (teq ((by decide) : (0 : Int32) = (0 : Int32))).2) ?_
          refine XS.iload X140.here hx rfl (hb hby at_341) rfl ?_
          refine XS.iconst X140.here hx rfl (hb hby at_343) ?_
          refine XS.icmpNo X140.here hx rfl (hb hby at_344) rfl (teq ((by decide) : (2 : Int32) = (2 : Int32))).2 ?_
          refine XS.iload X140.here hx rfl (hb hby at_347) rfl ?_
          refine XS.iconst X140.here hx rfl (hb hby at_349) ?_
          refine XS.icmpNo X140.here hx rfl (hb hby at_350) rfl (teq ((by decide) : (2 : Int32) = (2 : Int32))).2 ?_
          show SP p e below T140 (mkF m 353 #[vI p0, vI p1, vI p2, vI p3, vI p4, vI j1, vI j2, vI r2, vI i0, vI i0, vI d1, vI d2, vR b16, vR b45, vR b_128, vI i2, vI i2, uu, uu] []) _
          refine XS.iconst X140.here hx rfl (hb hby at_353) ?_
          refine XS.goto X140.here hx rfl (pc0 := 354) (pc' := 377) rfl (hb hby at_354) (by decide) (by decide) ?_
          refine XS.istore X140.here hx rfl (hb hby at_377) rfl (l' := #[vI p0, vI p1, vI p2, vI p3, vI p4, vI j1, vI j2, vI r2, vI i0, vI i0, vI d1, vI d2, vR b16, vR b45, vR b_128, vI i2, vI i2, vI i1, uu]) rfl ?_
          exact k)
        have go153 := go149.st T140 (mkF m 403 #[vI p0, vI p1, vI p2, vI p3, vI p4, vI j1, vI j2, vI r2, vI i0, vI i0, vI d1, vI d2, vR b16, vR b45, vR b_128, vI i2, vI i2, vI i1, uu] [(sI (if p0 < r2 then i1 else (if p0 = r2 then (if j1 < j2 then i1 else i0) else i0)))]) (fun t k => by
          by_cases hc150 : p0 < r2
          · skip
            try simp only [if_pos hc150] at k
            refine XS.iloadN X140.here hx rfl (hb hby at_379) rfl ?_
            refine XS.iload X140.here hx rfl (hb hby at_380) rfl ?_
            refine XS.icmpYes X140.here hx rfl (pc0 := 382) (pc' := 398) rfl (hb hby at_382) rfl (tlt hc150).1 (by decide) (by decide) ?_
            refine XS.iconst X140.here hx rfl (hb hby at_398) ?_
            refine XS.goto X140.here hx rfl (pc0 := 399) (pc' := 403) rfl (hb hby at_399) (by decide) (by decide) ?_
            exact k
          · skip
            by_cases hc151 : p0 = r2
            · skip
              by_cases hc152 : j1 < j2
              · skip
                try simp only [if_neg hc150, if_pos hc151, if_pos hc152] at k
                refine XS.iloadN X140.here hx rfl (hb hby at_379) rfl ?_
                refine XS.iload X140.here hx rfl (hb hby at_380) rfl ?_
                refine XS.icmpNo X140.here hx rfl (hb hby at_382) rfl (flt hc150).1 ?_
                refine XS.iloadN X140.here hx rfl (hb hby at_385) rfl ?_
                refine XS.iload X140.here hx rfl (hb hby at_386) rfl ?_
                refine XS.icmpNo X140.here hx rfl (hb hby at_388) rfl (teq hc151).2 ?_
                refine XS.iload X140.here hx rfl (hb hby at_391) rfl ?_
                refine XS.iload X140.here hx rfl (hb hby at_393) rfl ?_
                show SP p e below T140 (mkF m 395 #[vI p0, vI p1, vI p2, vI p3, vI p4, vI j1, vI j2, vI r2, vI i0, vI i0, vI d1, vI d2, vR b16, vR b45, vR b_128, vI i2, vI i2, vI i1, uu] [sI j2, sI j1]) _
                refine XS.icmpNo X140.here hx rfl (hb hby at_395) rfl (tlt hc152).2.1 ?_
                refine XS.iconst X140.here hx rfl (hb hby at_398) ?_
                refine XS.goto X140.here hx rfl (pc0 := 399) (pc' := 403) rfl (hb hby at_399) (by decide) (by decide) ?_
                exact k
              · skip
                try simp only [if_neg hc150, if_pos hc151, if_neg hc152] at k
                refine XS.iloadN X140.here hx rfl (hb hby at_379) rfl ?_
                refine XS.iload X140.here hx rfl (hb hby at_380) rfl ?_
                refine XS.icmpNo X140.here hx rfl (hb hby at_382) rfl (flt hc150).1 ?_
                refine XS.iloadN X140.here hx rfl (hb hby at_385) rfl ?_
                refine XS.iload X140.here hx rfl (hb hby at_386) rfl ?_
                refine XS.icmpNo X140.here hx rfl (hb hby at_388) rfl (teq hc151).2 ?_
                refine XS.iload X140.here hx rfl (hb hby at_391) rfl ?_
                refine XS.iload X140.here hx rfl (hb hby at_393) rfl ?_
                show SP p e below T140 (mkF m 395 #[vI p0, vI p1, vI p2, vI p3, vI p4, vI j1, vI j2, vI r2, vI i0, vI i0, vI d1, vI d2, vR b16, vR b45, vR b_128, vI i2, vI i2, vI i1, uu] [sI j2, sI j1]) _
                refine XS.icmpYes X140.here hx rfl (pc0 := 395) (pc' := 402) rfl (hb hby at_395) rfl (flt hc152).2.1 (by decide) (by decide) ?_
                refine XS.iconst X140.here hx rfl (hb hby at_402) ?_
                exact k
            · skip
              try simp only [if_neg hc150, if_neg hc151] at k
              refine XS.iloadN X140.here hx rfl (hb hby at_379) rfl ?_
              refine XS.iload X140.here hx rfl (hb hby at_380) rfl ?_
              refine XS.icmpNo X140.here hx rfl (hb hby at_382) rfl (flt hc150).1 ?_
              refine XS.iloadN X140.here hx rfl (hb hby at_385) rfl ?_
              refine XS.iload X140.here hx rfl (hb hby at_386) rfl ?_
              refine XS.icmpYes X140.here hx rfl (pc0 := 388) (pc' := 402) rfl (hb hby at_388) rfl (feq hc151).2 (by decide) (by decide) ?_
              refine XS.iconst X140.here hx rfl (hb hby at_402) ?_
              exact k
          )
        obtain ⟨fi, hfi⟩ : ∃ z : Int32, z = (if p0 < r2 then (1 : Int32) else (if p0 = r2 then (if j1 < j2 then (1 : Int32) else (0 : Int32)) else (0 : Int32))) := ⟨_, rfl⟩
        rw [← hfi] at go153
        have go156 := go153.st T140 (mkF m 423 #[vI p0, vI p1, vI p2, vI p3, vI p4, vI j1, vI j2, vI r2, vI i0, vI i0, vI d1, vI d2, vR b16, vR b45, vR b_128, vI i2, vI i2, vI i1, vI fi] [sI d1, sI j1, sI p0, sI i0, sR b_128]) (fun t k => by
          refine XS.istore X140.here hx rfl (hb hby at_403) rfl (l' := #[vI p0, vI p1, vI p2, vI p3, vI p4, vI j1, vI j2, vI r2, vI i0, vI i0, vI d1, vI d2, vR b16, vR b45, vR b_128, vI i2, vI i2, vI i1, vI fi]) rfl ?_
          refine XS.iload X140.here hx rfl (hb hby at_405) rfl ?_
          refine XS.ifNo X140.here hx rfl (hb hby at_407) rfl ((if0 _ _).trans (feq (own_fi1 hfi qf : ¬ (fi = (0 : Int32)))).1) ?_
          refine XS.iload X140.here hx rfl (hb hby at_410) rfl ?_
          refine XS.ifNo X140.here hx rfl (hb hby at_412) rfl ((if0 _ _).trans (feq ((by decide) : ¬ ((1 : Int32) = (0 : Int32)))).1) ?_
          refine XS.aload X140.here hx rfl (hb hby at_415) rfl rfl ?_
          refine XS.iconst X140.here hx rfl (hb hby at_417) ?_
          refine XS.iloadN X140.here hx rfl (hb hby at_418) rfl ?_
          show SP p e below T140 (mkF m 419 #[vI p0, vI p1, vI p2, vI p3, vI p4, vI j1, vI j2, vI r2, vI i0, vI i0, vI d1, vI d2, vR b16, vR b45, vR b_128, vI i2, vI i2, vI i1, vI fi] [sI p0, sI i0, sR b_128]) _
          refine XS.iload X140.here hx rfl (hb hby at_419) rfl ?_
          refine XS.iload X140.here hx rfl (hb hby at_421) rfl ?_
          exact k)
        obtain ⟨_, _, ⟨T157, L157, k157, n157⟩, -, X157, ⟨Lc157, hQ157, l157, y157, z157⟩, st157⟩ := Jvm.LawKit.callS X140 hx (y := yN22) hown (mvT hZ (wD hw 117 rfl)) (mvT hZ (wD hw 118 rfl)) (mvT hZ (wD hw 119 rfl)) (mvT hZ (wD hw 120 rfl)) (by decide) (backOf (W := 0) (rm20 l Z a0 hw [] b_128 (0 : Int32) p0 j1 d1 va_71 kv_71 (2 : Int32) [(.long (own_pack p0 j1 d1)), (.long (own_pack r2 j2 d2))] (own_pack p0 j1 d1) T128.heap n0 Z128 qp128_2 qp128_4 qp128_6 ⟨by decide, by decide⟩ rfl) hZ (wD hw 120 rfl) (wD hw 119 rfl) (by decide) (by decide)) (g := (mkF m 423 #[vI p0, vI p1, vI p2, vI p3, vI p4, vI j1, vI j2, vI r2, vI i0, vI i0, vI d1, vI d2, vR b16, vR b45, vR b_128, vI i2, vI i2, vI i1, vI fi] [sI d1, sI j1, sI p0, sI i0, sR b_128])) rfl (by rw [hml]; rfl) (argsL := [(.ref b_128), (.int (0 : Int32)), (.int p0), (.int j1), (.int d1)]) (rest := []) (lenOf pd_rm0_7 rfl) rfl (by show 2 * 0 + _ ≤ _; exact Nat.le_of_eq rfl) (hb hby at_423) (fun _ _ => ⟨rfl, e140, (by decide : 9 + 0 ≤ _), (by decide : 82 + 0 ≤ _)⟩)
        dsimp only [Pt.U, Pt.locs, Pt.cells, Pt.slots] at X157 l157 y157 z157 st157 hQ157
        rw [l157, y157, z157] at X157
        obtain ⟨rfl, N157q, e157⟩ := hQ157
        have N157 := Fr.app N140 N157q
        have go159 := go156.st T157 (mkF m 438 #[vI p0, vI p1, vI p2, vI p3, vI p4, vI j1, vI j2, vI r2, vI i0, vI i0, vI d1, vI d2, vR b16, vR b45, vR b_128, vI i2, vI i2, vI i1, vI fi] [sI d2, sI j2, sI r2, sI i1, sR b_128]) (fun t k => by
          refine st157 _ ?_
          show SP p e below T157 (mkF m 426 #[vI p0, vI p1, vI p2, vI p3, vI p4, vI j1, vI j2, vI r2, vI i0, vI i0, vI d1, vI d2, vR b16, vR b45, vR b_128, vI i2, vI i2, vI i1, vI fi] [(sI (own_at p0 j1 d1 (own_pack p0 j1 d1)))]) _
          refine XS.ifNo X157.here hx rfl (hb hby at_426) rfl ((if0 _ _).trans (feq (own_at_ok hn1 hb1 : ¬ ((own_at p0 j1 d1 (own_pack p0 j1 d1)) = (0 : Int32)))).1) ?_
          refine XS.aload X157.here hx rfl (hb hby at_429) rfl rfl ?_
          refine XS.iconst X157.here hx rfl (hb hby at_431) ?_
          refine XS.iload X157.here hx rfl (hb hby at_432) rfl ?_
          refine XS.iload X157.here hx rfl (hb hby at_434) rfl ?_
          refine XS.iload X157.here hx rfl (hb hby at_436) rfl ?_
          exact k)
        obtain ⟨_, _, ⟨T160, L160, k160, n160⟩, -, X160, ⟨Lc160, hQ160, l160, y160, z160⟩, st160⟩ := Jvm.LawKit.callS X157 hx (y := yN22) hown (mvT hZ (wD hw 117 rfl)) (mvT hZ (wD hw 118 rfl)) (mvT hZ (wD hw 119 rfl)) (mvT hZ (wD hw 120 rfl)) (by decide) (backOf (W := 0) (rm20 l Z a0 hw [] b_128 (1 : Int32) r2 j2 d2 va_71 kv_71 (2 : Int32) [(.long (own_pack p0 j1 d1)), (.long (own_pack r2 j2 d2))] (own_pack r2 j2 d2) T128.heap n0 Z128 qp128_2 qp128_4 qp128_6 ⟨by decide, by decide⟩ rfl) hZ (wD hw 120 rfl) (wD hw 119 rfl) (by decide) (by decide)) (g := (mkF m 438 #[vI p0, vI p1, vI p2, vI p3, vI p4, vI j1, vI j2, vI r2, vI i0, vI i0, vI d1, vI d2, vR b16, vR b45, vR b_128, vI i2, vI i2, vI i1, vI fi] [sI d2, sI j2, sI r2, sI i1, sR b_128])) rfl (by rw [hml]; rfl) (argsL := [(.ref b_128), (.int (1 : Int32)), (.int r2), (.int j2), (.int d2)]) (rest := []) (lenOf pd_rm0_7 rfl) rfl (by show 2 * 0 + _ ≤ _; exact Nat.le_of_eq rfl) (hb hby at_438) (fun _ _ => ⟨rfl, e157, (by decide : 9 + 0 ≤ _), (by decide : 82 + 0 ≤ _)⟩)
        dsimp only [Pt.U, Pt.locs, Pt.cells, Pt.slots] at X160 l160 y160 z160 st160 hQ160
        rw [l160, y160, z160] at X160
        obtain ⟨rfl, N160q, e160⟩ := hQ160
        have N160 := Fr.app N157 N160q
        have go162 := go159.st T160 (mkF m 449 #[vI p0, vI p1, vI p2, vI p3, vI p4, vI j1, vI j2, vI r2, vI i0, vI i0, vI d1, vI d2, vR b16, vR b45, vR b_128, vI i2, vI i2, vI i1, vI fi] [sI i1]) (fun t k => by
          refine st160 _ ?_
          show SP p e below T160 (mkF m 441 #[vI p0, vI p1, vI p2, vI p3, vI p4, vI j1, vI j2, vI r2, vI i0, vI i0, vI d1, vI d2, vR b16, vR b45, vR b_128, vI i2, vI i2, vI i1, vI fi] [(sI (own_at r2 j2 d2 (own_pack r2 j2 d2)))]) _
          refine XS.ifNo X160.here hx rfl (hb hby at_441) rfl ((if0 _ _).trans (feq (own_at_ok hn2 hb2 : ¬ ((own_at r2 j2 d2 (own_pack r2 j2 d2)) = (0 : Int32)))).1) ?_
          refine XS.iconst X160.here hx rfl (hb hby at_444) ?_
          refine XS.goto X160.here hx rfl (pc0 := 445) (pc' := 449) rfl (hb hby at_445) (by decide) (by decide) ?_
          exact k)
        obtain ⟨fs, hr, hrun, hended, hW, hsame⟩ := X160.leave (v := some (.int (1 : Int32))) (fun h => by rw [Bd.returns] at h; cases h)
        refine ⟨_, _, go162 _ ?_, hrun, hended, _, _, rfl, ?_, ⟨_, rfl⟩, hW, hsame.mono (by decide) (by decide)⟩
        · exact retN X160 hx (t := .boolean) Bd.returns (by simp) (hb hby at_449) hr
        · show Q_rm0 Z p0 p1 p2 p3 p4 h0 n0 _ T160.heap _
          rw [e160]
          exact ⟨rfl, N160⟩
      · skip
        have go163 := go98.st T89 (mkF m 165 #[vI p0, vI p1, vI p2, vI p3, vI p4, vI j1, vI j2, vI r2, vI i0, vI i0, vI d1, vI d2, vR b16, vR b45, uu, uu, uu, uu, uu] [sR b45]) (fun t k => by
          refine XS.aload X89.here hx rfl (hb hby at_163) rfl rfl ?_
          exact k)
        obtain ⟨cq164, kq164, q164a, q164b, q164c⟩ := isOf hZ rfl f90
        obtain ⟨_, _, ⟨T164, L164, k164, n164⟩, -, X164, ⟨Lc164, hQ164, l164, y164, z164⟩, st164⟩ := X89.virtualBack hx (y := yN17) (z := yN17) hown (mvT hZ (wD hw 76 rfl)) (mvT hZ (wD hw 77 rfl)) (notFace_of_selects (args := #[]) (mvT hZ (wD hw 79 rfl))) (mvT hZ (wD hw 79 rfl)) (mvT hZ (wD hw 78 rfl)) (by decide) (backOf (W := 0) (rm_buildA_0 l Z a0 hw [] b45 sa_50 ka_50 nx_71 kx_71 va_71 kv_71 (own_pack p0 j1 d1) (own_pack r2 j2 d2) (own_pack r2 j2 d2) (own_pack p0 j1 d1) T89.heap n0 Z89 f90 f91 f92 f93 f94 f95 qp89_0 qp89_1 g_sa_50 g_va_71 g_b45 ne_b45_sa_50 ne_b45_nx_71 ne_b45_va_71 ne_sa_50_nx_71 ne_sa_50_va_71 qp71_11 (Or.inl ⟨own_lt hn2 hn1 qf, rfl, rfl⟩) (own_half_ne hn1 hn2 qn)) hZ (wD hw 80 rfl) (wD hw 30 rfl) (by decide) (by decide)) q164a q164c (g := (mkF m 165 #[vI p0, vI p1, vI p2, vI p3, vI p4, vI j1, vI j2, vI r2, vI i0, vI i0, vI d1, vI d2, vR b16, vR b45, uu, uu, uu, uu, uu] [sR b45])) rfl (by rw [hml]; rfl) (Steps.refl _) (argsL := []) (rest := []) (lenOf pd_rm0_5 rfl) rfl (by show 2 * 0 + _ ≤ _; exact Nat.le_of_eq rfl) (hb hby at_165) (fun _ _ => ⟨rfl, rfl, (by decide : 8 + 1 ≤ _), (by decide : 80 + 2 ≤ _)⟩)
        dsimp only [Pt.U, Pt.locs, Pt.cells, Pt.slots] at X164 l164 y164 z164 st164 hQ164
        rw [l164, y164, z164] at X164
        obtain ⟨b_164, rfl, N164q, K164, qp164_0, qp164_1, qp164_2, qp164_3, qp164_4, qp164_5, qp164_6⟩ := hQ164
        have N164 := Fr.app N89 N164q
        have f165 := f90.keep K164
        have f171 := qp89_0.keep K164 (ninS qp71_11 (ninS (Ne.symm ne_sa_50_nx_71) (ninS (Ne.symm ne_b45_nx_71) nin0)))
        have Z164 : n0 ≤ T164.heap.size := Nat.le_trans Z89 K164.1
        have KK164 := KK89.trans K164 (allS (Or.inr sz_va_71) (allS (Or.inr sz_sa_50) (allS (Or.inr sz_b45) all0)))
        have g_b_164 := qp164_0
        have sz_b_164 := Nat.le_trans KK89.1 qp164_1
        have ne_b45_b_164 : b45 ≠ b_164 := Nat.ne_of_lt (Nat.lt_of_lt_of_le f90.lt qp164_1)
        have ne_sa_50_b_164 : sa_50 ≠ b_164 := Nat.ne_of_lt (Nat.lt_of_lt_of_le f95.lt qp164_1)
        have ne_nx_71_b_164 : nx_71 ≠ b_164 := Nat.ne_of_lt (Nat.lt_of_lt_of_le qp89_0.lt qp164_1)
        have ne_va_71_b_164 : va_71 ≠ b_164 := Nat.ne_of_lt (Nat.lt_of_lt_of_le qp89_1.lt qp164_1)
        have go173 := go163.st T164 (mkF m 173 #[vI p0, vI p1, vI p2, vI p3, vI p4, vI j1, vI j2, vI r2, vI i0, vI i0, vI d1, vI d2, vR b16, vR b45, vR b_164, uu, uu, uu, uu] [sI i0, sR b_164]) (fun t k => by
          refine st164.trans ?_
          show SP p e below T164 (mkF m 168 #[vI p0, vI p1, vI p2, vI p3, vI p4, vI j1, vI j2, vI r2, vI i0, vI i0, vI d1, vI d2, vR b16, vR b45, uu, uu, uu, uu, uu] [sR b_164]) _
          refine XS.astore X164.here hx rfl (hb hby at_168) rfl rfl (l' := #[vI p0, vI p1, vI p2, vI p3, vI p4, vI j1, vI j2, vI r2, vI i0, vI i0, vI d1, vI d2, vR b16, vR b45, vR b_164, uu, uu, uu, uu]) rfl ?_
          refine XS.aload X164.here hx rfl (hb hby at_170) rfl rfl ?_
          refine XS.iconst X164.here hx rfl (hb hby at_172) ?_
          exact k)
        obtain ⟨cq174, kq174, q174a, q174b, q174c⟩ := isOf hZ rfl qp164_2
        obtain ⟨_, _, ⟨T174, L174, k174, n174⟩, -, X174, ⟨Lc174, hQ174, l174, y174, z174⟩, st174⟩ := X164.virtualBack hx (y := yN18) (z := yN18) hown (mvT hZ (wD hw 112 rfl)) (mvT hZ (wD hw 113 rfl)) (notFace_of_selects (args := #[]) (mvT hZ (wD hw 115 rfl))) (mvT hZ (wD hw 115 rfl)) (mvT hZ (wD hw 114 rfl)) (by decide) (backOf (W := 0) (rm_end0 l Z a0 hw [] b_164 sa_50 ka_50 (0 : Int32) (2 : Int32) (2 : Int32) T164.heap n0 Z164 qp164_3 qp164_5) hZ (wD hw 116 rfl) (wD hw 103 rfl) (by decide) (by decide)) q174a q174c (g := (mkF m 173 #[vI p0, vI p1, vI p2, vI p3, vI p4, vI j1, vI j2, vI r2, vI i0, vI i0, vI d1, vI d2, vR b16, vR b45, vR b_164, uu, uu, uu, uu] [sI i0, sR b_164])) rfl (by rw [hml]; rfl) (Steps.refl _) (argsL := [(.int (0 : Int32))]) (rest := []) (lenOf pd_rm0_6 rfl) rfl (by show 2 * 0 + _ ≤ _; exact Nat.le_of_eq rfl) (hb hby at_173) (fun _ _ => ⟨rfl, rfl, (by decide : 9 + 0 ≤ _), (by decide : 82 + 0 ≤ _)⟩)
        dsimp only [Pt.U, Pt.locs, Pt.cells, Pt.slots] at X174 l174 y174 z174 st174 hQ174
        rw [l174, y174, z174] at X174
        obtain ⟨rfl, N174q, e174⟩ := hQ174
        have N174 := Fr.app N164 N174q
        have go175 := go173.st T174 (mkF m 181 #[vI p0, vI p1, vI p2, vI p3, vI p4, vI j1, vI j2, vI r2, vI i0, vI i0, vI d1, vI d2, vR b16, vR b45, vR b_164, vI i2, uu, uu, uu] [sI i1, sR b_164]) (fun t k => by
          refine st174.trans ?_
          show SP p e below T174 (mkF m 176 #[vI p0, vI p1, vI p2, vI p3, vI p4, vI j1, vI j2, vI r2, vI i0, vI i0, vI d1, vI d2, vR b16, vR b45, vR b_164, uu, uu, uu, uu] [sI i2]) _
          refine XS.istore X174.here hx rfl (hb hby at_176) rfl (l' := #[vI p0, vI p1, vI p2, vI p3, vI p4, vI j1, vI j2, vI r2, vI i0, vI i0, vI d1, vI d2, vR b16, vR b45, vR b_164, vI i2, uu, uu, uu]) rfl ?_
          refine XS.aload X174.here hx rfl (hb hby at_178) rfl rfl ?_
          refine XS.iconst X174.here hx rfl (hb hby at_180) ?_
          exact k)
        obtain ⟨cq176, kq176, q176a, q176b, q176c⟩ := isOf hZ e174 qp164_2
        obtain ⟨_, _, ⟨T176, L176, k176, n176⟩, -, X176, ⟨Lc176, hQ176, l176, y176, z176⟩, st176⟩ := X174.virtualBack hx (y := yN18) (z := yN18) hown (mvT hZ (wD hw 112 rfl)) (mvT hZ (wD hw 113 rfl)) (notFace_of_selects (args := #[]) (mvT hZ (wD hw 115 rfl))) (mvT hZ (wD hw 115 rfl)) (mvT hZ (wD hw 114 rfl)) (by decide) (backOf (W := 0) (rm_end1 l Z a0 hw [] b_164 sa_50 ka_50 (0 : Int32) (2 : Int32) (2 : Int32) T164.heap n0 Z164 qp164_3 qp164_5) hZ (wD hw 116 rfl) (wD hw 103 rfl) (by decide) (by decide)) q176a q176c (g := (mkF m 181 #[vI p0, vI p1, vI p2, vI p3, vI p4, vI j1, vI j2, vI r2, vI i0, vI i0, vI d1, vI d2, vR b16, vR b45, vR b_164, vI i2, uu, uu, uu] [sI i1, sR b_164])) rfl (by rw [hml]; rfl) (Steps.refl _) (argsL := [(.int (1 : Int32))]) (rest := []) (lenOf pd_rm0_6 rfl) rfl (by show 2 * 0 + _ ≤ _; exact Nat.le_of_eq rfl) (hb hby at_181) (fun _ _ => ⟨rfl, e174, (by decide : 9 + 0 ≤ _), (by decide : 82 + 0 ≤ _)⟩)
        dsimp only [Pt.U, Pt.locs, Pt.cells, Pt.slots] at X176 l176 y176 z176 st176 hQ176
        rw [l176, y176, z176] at X176
        obtain ⟨rfl, N176q, e176⟩ := hQ176
        have N176 := Fr.app N174 N176q
        have go178 := go175.st T176 (mkF m 242 #[vI p0, vI p1, vI p2, vI p3, vI p4, vI j1, vI j2, vI r2, vI i0, vI i0, vI d1, vI d2, vR b16, vR b45, vR b_164, vI i2, vI i2, uu, uu] []) (fun t k => by
          refine st176.trans ?_
          show SP p e below T176 (mkF m 184 #[vI p0, vI p1, vI p2, vI p3, vI p4, vI j1, vI j2, vI r2, vI i0, vI i0, vI d1, vI d2, vR b16, vR b45, vR b_164, vI i2, uu, uu, uu] [sI i2]) _
          refine XS.istore X176.here hx rfl (hb hby at_184) rfl (l' := #[vI p0, vI p1, vI p2, vI p3, vI p4, vI j1, vI j2, vI r2, vI i0, vI i0, vI d1, vI d2, vR b16, vR b45, vR b_164, vI i2, vI i2, uu, uu]) rfl ?_
          refine XS.iload X176.here hx rfl (hb hby at_186) rfl ?_
          refine XS.iload X176.here hx rfl (hb hby at_188) rfl ?_
          refine XS.icmpYes X176.here hx rfl (pc0 := 190) (pc' := 242) rfl (hb hby at_190) rfl (teq ((by decide) : (0 : Int32) = (0 : Int32))).1 (by decide) (by decide) ?_
          exact k)
        have go181 := go178.st T176 (mkF m 336 #[vI p0, vI p1, vI p2, vI p3, vI p4, vI j1, vI j2, vI r2, vI i0, vI i0, vI d1, vI d2, vR b16, vR b45, vR b_164, vI i2, vI i2, uu, uu] []) (fun t k => by
          by_cases hc179 : p0 = r2
          · skip
            try simp only [if_pos hc179] at k
            refine XS.iloadN X176.here hx rfl (hb hby at_242) rfl ?_
            refine XS.iload X176.here hx rfl (hb hby at_243) rfl ?_
            refine XS.icmpNo X176.here hx rfl (hb hby at_245) rfl (teq hc179).2 ?_
            refine XS.iload X176.here hx rfl (hb hby at_248) rfl ?_
            refine XS.iload X176.here hx rfl (hb hby at_250) rfl ?_
            refine XS.icmpYes X176.here hx rfl (pc0 := 252) (pc' := 336) rfl (hb hby at_252) rfl (feq ((fun z => qn ⟨hc179, z⟩) : ¬ (j1 = j2))).2 (by decide) (by decide) ?_
            exact k
          · skip
            try simp only [if_neg hc179] at k
            refine XS.iloadN X176.here hx rfl (hb hby at_242) rfl ?_
            refine XS.iload X176.here hx rfl (hb hby at_243) rfl ?_
            refine XS.icmpYes X176.here hx rfl (pc0 := 245) (pc' := 336) rfl (hb hby at_245) rfl (feq hc179).2 (by decide) (by decide) ?_
            exact k
          )
        have go185 := go181.st T176 (mkF m 379 #[vI p0, vI p1, vI p2, vI p3, vI p4, vI j1, vI j2, vI r2, vI i0, vI i0, vI d1, vI d2, vR b16, vR b45, vR b_164, vI i2, vI i2, vI i1, uu] []) (fun t k => by
          refine XS.iload X176.here hx rfl (hb hby at_336) rfl ?_
          refine XS.ifNo X176.here hx rfl (hb hby at_338) rfl ((if0 _ _).trans (teq ((by decide) : (0 : Int32) = (0 : Int32))).2) ?_
          refine XS.iload X176.here hx rfl (hb hby at_341) rfl ?_
          refine XS.iconst X176.here hx rfl (hb hby at_343) ?_
          refine XS.icmpNo X176.here hx rfl (hb hby at_344) rfl (teq ((by decide) : (2 : Int32) = (2 : Int32))).2 ?_
          refine XS.iload X176.here hx rfl (hb hby at_347) rfl ?_
          refine XS.iconst X176.here hx rfl (hb hby at_349) ?_
          refine XS.icmpNo X176.here hx rfl (hb hby at_350) rfl (teq ((by decide) : (2 : Int32) = (2 : Int32))).2 ?_
          show SP p e below T176 (mkF m 353 #[vI p0, vI p1, vI p2, vI p3, vI p4, vI j1, vI j2, vI r2, vI i0, vI i0, vI d1, vI d2, vR b16, vR b45, vR b_164, vI i2, vI i2, uu, uu] []) _
          refine XS.iconst X176.here hx rfl (hb hby at_353) ?_
          refine XS.goto X176.here hx rfl (pc0 := 354) (pc' := 377) rfl (hb hby at_354) (by decide) (by decide) ?_
          refine XS.istore X176.here hx rfl (hb hby at_377) rfl (l' := #[vI p0, vI p1, vI p2, vI p3, vI p4, vI j1, vI j2, vI r2, vI i0, vI i0, vI d1, vI d2, vR b16, vR b45, vR b_164, vI i2, vI i2, vI i1, uu]) rfl ?_
          exact k)
        have go189 := go185.st T176 (mkF m 403 #[vI p0, vI p1, vI p2, vI p3, vI p4, vI j1, vI j2, vI r2, vI i0, vI i0, vI d1, vI d2, vR b16, vR b45, vR b_164, vI i2, vI i2, vI i1, uu] [(sI (if p0 < r2 then i1 else (if p0 = r2 then (if j1 < j2 then i1 else i0) else i0)))]) (fun t k => by
          by_cases hc186 : p0 < r2
          · skip
            try simp only [if_pos hc186] at k
            refine XS.iloadN X176.here hx rfl (hb hby at_379) rfl ?_
            refine XS.iload X176.here hx rfl (hb hby at_380) rfl ?_
            refine XS.icmpYes X176.here hx rfl (pc0 := 382) (pc' := 398) rfl (hb hby at_382) rfl (tlt hc186).1 (by decide) (by decide) ?_
            refine XS.iconst X176.here hx rfl (hb hby at_398) ?_
            refine XS.goto X176.here hx rfl (pc0 := 399) (pc' := 403) rfl (hb hby at_399) (by decide) (by decide) ?_
            exact k
          · skip
            by_cases hc187 : p0 = r2
            · skip
              by_cases hc188 : j1 < j2
              · skip
                try simp only [if_neg hc186, if_pos hc187, if_pos hc188] at k
                refine XS.iloadN X176.here hx rfl (hb hby at_379) rfl ?_
                refine XS.iload X176.here hx rfl (hb hby at_380) rfl ?_
                refine XS.icmpNo X176.here hx rfl (hb hby at_382) rfl (flt hc186).1 ?_
                refine XS.iloadN X176.here hx rfl (hb hby at_385) rfl ?_
                refine XS.iload X176.here hx rfl (hb hby at_386) rfl ?_
                refine XS.icmpNo X176.here hx rfl (hb hby at_388) rfl (teq hc187).2 ?_
                refine XS.iload X176.here hx rfl (hb hby at_391) rfl ?_
                refine XS.iload X176.here hx rfl (hb hby at_393) rfl ?_
                show SP p e below T176 (mkF m 395 #[vI p0, vI p1, vI p2, vI p3, vI p4, vI j1, vI j2, vI r2, vI i0, vI i0, vI d1, vI d2, vR b16, vR b45, vR b_164, vI i2, vI i2, vI i1, uu] [sI j2, sI j1]) _
                refine XS.icmpNo X176.here hx rfl (hb hby at_395) rfl (tlt hc188).2.1 ?_
                refine XS.iconst X176.here hx rfl (hb hby at_398) ?_
                refine XS.goto X176.here hx rfl (pc0 := 399) (pc' := 403) rfl (hb hby at_399) (by decide) (by decide) ?_
                exact k
              · skip
                try simp only [if_neg hc186, if_pos hc187, if_neg hc188] at k
                refine XS.iloadN X176.here hx rfl (hb hby at_379) rfl ?_
                refine XS.iload X176.here hx rfl (hb hby at_380) rfl ?_
                refine XS.icmpNo X176.here hx rfl (hb hby at_382) rfl (flt hc186).1 ?_
                refine XS.iloadN X176.here hx rfl (hb hby at_385) rfl ?_
                refine XS.iload X176.here hx rfl (hb hby at_386) rfl ?_
                refine XS.icmpNo X176.here hx rfl (hb hby at_388) rfl (teq hc187).2 ?_
                refine XS.iload X176.here hx rfl (hb hby at_391) rfl ?_
                refine XS.iload X176.here hx rfl (hb hby at_393) rfl ?_
                show SP p e below T176 (mkF m 395 #[vI p0, vI p1, vI p2, vI p3, vI p4, vI j1, vI j2, vI r2, vI i0, vI i0, vI d1, vI d2, vR b16, vR b45, vR b_164, vI i2, vI i2, vI i1, uu] [sI j2, sI j1]) _
                refine XS.icmpYes X176.here hx rfl (pc0 := 395) (pc' := 402) rfl (hb hby at_395) rfl (flt hc188).2.1 (by decide) (by decide) ?_
                refine XS.iconst X176.here hx rfl (hb hby at_402) ?_
                exact k
            · skip
              try simp only [if_neg hc186, if_neg hc187] at k
              refine XS.iloadN X176.here hx rfl (hb hby at_379) rfl ?_
              refine XS.iload X176.here hx rfl (hb hby at_380) rfl ?_
              refine XS.icmpNo X176.here hx rfl (hb hby at_382) rfl (flt hc186).1 ?_
              refine XS.iloadN X176.here hx rfl (hb hby at_385) rfl ?_
              refine XS.iload X176.here hx rfl (hb hby at_386) rfl ?_
              refine XS.icmpYes X176.here hx rfl (pc0 := 388) (pc' := 402) rfl (hb hby at_388) rfl (feq hc187).2 (by decide) (by decide) ?_
              refine XS.iconst X176.here hx rfl (hb hby at_402) ?_
              exact k
          )
        obtain ⟨fi, hfi⟩ : ∃ z : Int32, z = (if p0 < r2 then (1 : Int32) else (if p0 = r2 then (if j1 < j2 then (1 : Int32) else (0 : Int32)) else (0 : Int32))) := ⟨_, rfl⟩
        rw [← hfi] at go189
        have go192 := go189.st T176 (mkF m 464 #[vI p0, vI p1, vI p2, vI p3, vI p4, vI j1, vI j2, vI r2, vI i0, vI i0, vI d1, vI d2, vR b16, vR b45, vR b_164, vI i2, vI i2, vI i1, vI fi] [sI d2, sI j2, sI r2, sI i0, sR b_164]) (fun t k => by
          refine XS.istore X176.here hx rfl (hb hby at_403) rfl (l' := #[vI p0, vI p1, vI p2, vI p3, vI p4, vI j1, vI j2, vI r2, vI i0, vI i0, vI d1, vI d2, vR b16, vR b45, vR b_164, vI i2, vI i2, vI i1, vI fi]) rfl ?_
          refine XS.iload X176.here hx rfl (hb hby at_405) rfl ?_
          refine XS.ifYes X176.here hx rfl (pc0 := 407) (pc' := 450) rfl (hb hby at_407) rfl ((if0 _ _).trans (teq (own_fi0 hfi qf : fi = (0 : Int32))).1) (by decide) (by decide) ?_
          refine XS.iload X176.here hx rfl (hb hby at_450) rfl ?_
          refine XS.ifNo X176.here hx rfl (hb hby at_452) rfl ((if0 _ _).trans (feq ((by decide) : ¬ ((1 : Int32) = (0 : Int32)))).1) ?_
          refine XS.aload X176.here hx rfl (hb hby at_455) rfl rfl ?_
          refine XS.iconst X176.here hx rfl (hb hby at_457) ?_
          refine XS.iload X176.here hx rfl (hb hby at_458) rfl ?_
          show SP p e below T176 (mkF m 460 #[vI p0, vI p1, vI p2, vI p3, vI p4, vI j1, vI j2, vI r2, vI i0, vI i0, vI d1, vI d2, vR b16, vR b45, vR b_164, vI i2, vI i2, vI i1, vI fi] [sI r2, sI i0, sR b_164]) _
          refine XS.iload X176.here hx rfl (hb hby at_460) rfl ?_
          refine XS.iload X176.here hx rfl (hb hby at_462) rfl ?_
          exact k)
        obtain ⟨_, _, ⟨T193, L193, k193, n193⟩, -, X193, ⟨Lc193, hQ193, l193, y193, z193⟩, st193⟩ := Jvm.LawKit.callS X176 hx (y := yN22) hown (mvT hZ (wD hw 117 rfl)) (mvT hZ (wD hw 118 rfl)) (mvT hZ (wD hw 119 rfl)) (mvT hZ (wD hw 120 rfl)) (by decide) (backOf (W := 0) (rm20 l Z a0 hw [] b_164 (0 : Int32) r2 j2 d2 va_71 kv_71 (2 : Int32) [(.long (own_pack r2 j2 d2)), (.long (own_pack p0 j1 d1))] (own_pack r2 j2 d2) T164.heap n0 Z164 qp164_2 qp164_4 qp164_6 ⟨by decide, by decide⟩ rfl) hZ (wD hw 120 rfl) (wD hw 119 rfl) (by decide) (by decide)) (g := (mkF m 464 #[vI p0, vI p1, vI p2, vI p3, vI p4, vI j1, vI j2, vI r2, vI i0, vI i0, vI d1, vI d2, vR b16, vR b45, vR b_164, vI i2, vI i2, vI i1, vI fi] [sI d2, sI j2, sI r2, sI i0, sR b_164])) rfl (by rw [hml]; rfl) (argsL := [(.ref b_164), (.int (0 : Int32)), (.int r2), (.int j2), (.int d2)]) (rest := []) (lenOf pd_rm0_7 rfl) rfl (by show 2 * 0 + _ ≤ _; exact Nat.le_of_eq rfl) (hb hby at_464) (fun _ _ => ⟨rfl, e176, (by decide : 9 + 0 ≤ _), (by decide : 82 + 0 ≤ _)⟩)
        dsimp only [Pt.U, Pt.locs, Pt.cells, Pt.slots] at X193 l193 y193 z193 st193 hQ193
        rw [l193, y193, z193] at X193
        obtain ⟨rfl, N193q, e193⟩ := hQ193
        have N193 := Fr.app N176 N193q
        have go195 := go192.st T193 (mkF m 478 #[vI p0, vI p1, vI p2, vI p3, vI p4, vI j1, vI j2, vI r2, vI i0, vI i0, vI d1, vI d2, vR b16, vR b45, vR b_164, vI i2, vI i2, vI i1, vI fi] [sI d1, sI j1, sI p0, sI i1, sR b_164]) (fun t k => by
          refine st193 _ ?_
          show SP p e below T193 (mkF m 467 #[vI p0, vI p1, vI p2, vI p3, vI p4, vI j1, vI j2, vI r2, vI i0, vI i0, vI d1, vI d2, vR b16, vR b45, vR b_164, vI i2, vI i2, vI i1, vI fi] [(sI (own_at r2 j2 d2 (own_pack r2 j2 d2)))]) _
          refine XS.ifNo X193.here hx rfl (hb hby at_467) rfl ((if0 _ _).trans (feq (own_at_ok hn2 hb2 : ¬ ((own_at r2 j2 d2 (own_pack r2 j2 d2)) = (0 : Int32)))).1) ?_
          refine XS.aload X193.here hx rfl (hb hby at_470) rfl rfl ?_
          refine XS.iconst X193.here hx rfl (hb hby at_472) ?_
          refine XS.iloadN X193.here hx rfl (hb hby at_473) rfl ?_
          refine XS.iload X193.here hx rfl (hb hby at_474) rfl ?_
          refine XS.iload X193.here hx rfl (hb hby at_476) rfl ?_
          exact k)
        obtain ⟨_, _, ⟨T196, L196, k196, n196⟩, -, X196, ⟨Lc196, hQ196, l196, y196, z196⟩, st196⟩ := Jvm.LawKit.callS X193 hx (y := yN22) hown (mvT hZ (wD hw 117 rfl)) (mvT hZ (wD hw 118 rfl)) (mvT hZ (wD hw 119 rfl)) (mvT hZ (wD hw 120 rfl)) (by decide) (backOf (W := 0) (rm20 l Z a0 hw [] b_164 (1 : Int32) p0 j1 d1 va_71 kv_71 (2 : Int32) [(.long (own_pack r2 j2 d2)), (.long (own_pack p0 j1 d1))] (own_pack p0 j1 d1) T164.heap n0 Z164 qp164_2 qp164_4 qp164_6 ⟨by decide, by decide⟩ rfl) hZ (wD hw 120 rfl) (wD hw 119 rfl) (by decide) (by decide)) (g := (mkF m 478 #[vI p0, vI p1, vI p2, vI p3, vI p4, vI j1, vI j2, vI r2, vI i0, vI i0, vI d1, vI d2, vR b16, vR b45, vR b_164, vI i2, vI i2, vI i1, vI fi] [sI d1, sI j1, sI p0, sI i1, sR b_164])) rfl (by rw [hml]; rfl) (argsL := [(.ref b_164), (.int (1 : Int32)), (.int p0), (.int j1), (.int d1)]) (rest := []) (lenOf pd_rm0_7 rfl) rfl (by show 2 * 0 + _ ≤ _; exact Nat.le_of_eq rfl) (hb hby at_478) (fun _ _ => ⟨rfl, e193, (by decide : 9 + 0 ≤ _), (by decide : 82 + 0 ≤ _)⟩)
        dsimp only [Pt.U, Pt.locs, Pt.cells, Pt.slots] at X196 l196 y196 z196 st196 hQ196
        rw [l196, y196, z196] at X196
        obtain ⟨rfl, N196q, e196⟩ := hQ196
        have N196 := Fr.app N193 N196q
        have go198 := go195.st T196 (mkF m 489 #[vI p0, vI p1, vI p2, vI p3, vI p4, vI j1, vI j2, vI r2, vI i0, vI i0, vI d1, vI d2, vR b16, vR b45, vR b_164, vI i2, vI i2, vI i1, vI fi] [sI i1]) (fun t k => by
          refine st196 _ ?_
          show SP p e below T196 (mkF m 481 #[vI p0, vI p1, vI p2, vI p3, vI p4, vI j1, vI j2, vI r2, vI i0, vI i0, vI d1, vI d2, vR b16, vR b45, vR b_164, vI i2, vI i2, vI i1, vI fi] [(sI (own_at p0 j1 d1 (own_pack p0 j1 d1)))]) _
          refine XS.ifNo X196.here hx rfl (hb hby at_481) rfl ((if0 _ _).trans (feq (own_at_ok hn1 hb1 : ¬ ((own_at p0 j1 d1 (own_pack p0 j1 d1)) = (0 : Int32)))).1) ?_
          refine XS.iconst X196.here hx rfl (hb hby at_484) ?_
          refine XS.goto X196.here hx rfl (pc0 := 485) (pc' := 489) rfl (hb hby at_485) (by decide) (by decide) ?_
          exact k)
        obtain ⟨fs, hr, hrun, hended, hW, hsame⟩ := X196.leave (v := some (.int (1 : Int32))) (fun h => by rw [Bd.returns] at h; cases h)
        refine ⟨_, _, go198 _ ?_, hrun, hended, _, _, rfl, ?_, ⟨_, rfl⟩, hW, hsame.mono (by decide) (by decide)⟩
        · exact retN X196 hx (t := .boolean) Bd.returns (by simp) (hb hby at_489) hr
        · show Q_rm0 Z p0 p1 p2 p3 p4 h0 n0 _ T196.heap _
          rw [e196]
          exact ⟨rfl, N196⟩
    · subst q
      obtain ⟨T199, h199, X199, e199, E199, A199, D199, -, st199⟩ := newO X0 hx hZ hown (wD hw 1 rfl) (wD hw 2 rfl) (wD hw 3 rfl) e0 (g := (mkF m 86 #[vI p0, vI p1, vI p2, vI p3, vI p4, vI j1, vI j2, vI r2, vI i0, vI i1, vI d1, vI d2, uu, uu, uu, uu, uu, uu, uu] [])) rfl (hb hby at_86) (by decide) (by decide)
      obtain ⟨b199, g199⟩ : ∃ z, z = h0.size := ⟨_, rfl⟩
      rw [← g199] at A199 D199 st199
      have g_b199 : n0 ≤ b199 := Nat.le_trans Z0 (Nat.le_of_eq g199.symm)
      have sz_b199 : h0.size ≤ b199 := Nat.le_trans K0.1 (Nat.le_of_eq g199.symm)
      have F199_pages : Fld Z h199 b199 "com/example/graphkind/graphkind/TripleList" "pages" "[[I" .null := D199 (Or.inl (wD hw 15 rfl)) (ty := (.array (.array .int))) (by decide)
      have F199_room : Fld Z h199 b199 "com/example/graphkind/graphkind/TripleList" "room" "I" (.int (0 : Int32)) := D199 (Or.inl (wD hw 17 rfl)) (ty := .int) (by decide)
      have F199_ofSubject : Fld Z h199 b199 "com/example/graphkind/graphkind/TripleList" "ofSubject" "[I" .null := D199 (Or.inl (wD hw 19 rfl)) (ty := (.array .int)) (by decide)
      have F199_size : Fld Z h199 b199 "com/example/graphkind/graphkind/TripleList" "size" "I" (.int (0 : Int32)) := D199 (Or.inl (wD hw 26 rfl)) (ty := .int) (by decide)
      have Z199 : n0 ≤ h199.size := Nat.le_trans Z0 E199.1
      have K199 := K0.ext E199
      have go200 := go15.st T199 (mkF m 90 #[vI p0, vI p1, vI p2, vI p3, vI p4, vI j1, vI j2, vI r2, vI i0, vI i1, vI d1, vI d2, uu, uu, uu, uu, uu, uu, uu] [sR b199, sR b199]) (fun t k => by
        refine st199 _ ?_
        show SP p e below T199 (mkF m 89 #[vI p0, vI p1, vI p2, vI p3, vI p4, vI j1, vI j2, vI r2, vI i0, vI i1, vI d1, vI d2, uu, uu, uu, uu, uu, uu, uu] [sR b199]) _
        refine XS.dup X199.here hx rfl (hb hby at_89) rfl rfl ?_
        exact k)
      obtain ⟨_, _, ⟨T201, L201, k201, n201⟩, -, X201, ⟨Lc201, hQ201, l201, y201, z201⟩, st201⟩ := X199.specialBack hx (y := yN0) rfl hown (mvT hZ (wD hw 4 rfl)) (mvT hZ (wD hw 5 rfl)) (mvT hZ (wD hw 6 rfl)) (by decide) (backOf (W := 1) (rm_tinit l Z a0 hw [] b199 h199 n0 Z199 A199 g_b199 F199_pages F199_size F199_room F199_ofSubject) hZ (wD hw 6 rfl) (wD hw 3 rfl) (by decide) (by decide)) (g := (mkF m 90 #[vI p0, vI p1, vI p2, vI p3, vI p4, vI j1, vI j2, vI r2, vI i0, vI i1, vI d1, vI d2, uu, uu, uu, uu, uu, uu, uu] [sR b199, sR b199])) rfl (by rw [hml]; rfl) (Steps.refl _) (a := b199) (argsL := []) (rest := [(.ref b199)]) (lenOf pd_rm0_0 rfl) rfl (by show 2 * 0 + _ ≤ _; exact Nat.le_of_eq rfl) (hb hby at_90) (fun _ _ => ⟨rfl, e199, (by decide : 1 + 3 ≤ _), (by decide : 4 + 65 ≤ _)⟩)
      dsimp only [Pt.U, Pt.locs, Pt.cells, Pt.slots] at X201 l201 y201 z201 st201 hQ201
      rw [l201, y201, z201] at X201
      obtain ⟨pg_201, pa_201, sb_201, k1_201, k2_201, k3_201, rfl, N201q, K201, qp201_0, qp201_1, qp201_2, qp201_3, qp201_4, qp201_5, qp201_6, qp201_7, qp201_8, qp201_9, qp201_10, qp201_11, qp201_12, qp201_13, qp201_14, qp201_15, qp201_16⟩ := hQ201
      have N201 := Fr.app N0 N201q
      have f202 := A199.keep K201
      have Z201 : n0 ≤ T201.heap.size := Nat.le_trans Z199 K201.1
      have KK201 := K199.trans K201 (allS (Or.inr sz_b199) all0)
      have g_pg_201 := qp201_5
      have sz_pg_201 := Nat.le_trans K199.1 qp201_6
      have ne_b199_pg_201 : b199 ≠ pg_201 := Nat.ne_of_lt (Nat.lt_of_lt_of_le A199.lt qp201_6)
      have g_pa_201 := qp201_7
      have sz_pa_201 := Nat.le_trans K199.1 qp201_8
      have ne_b199_pa_201 : b199 ≠ pa_201 := Nat.ne_of_lt (Nat.lt_of_lt_of_le A199.lt qp201_8)
      have g_sb_201 := qp201_9
      have sz_sb_201 := Nat.le_trans K199.1 qp201_10
      have ne_b199_sb_201 : b199 ≠ sb_201 := Nat.ne_of_lt (Nat.lt_of_lt_of_le A199.lt qp201_10)
      have go207 := go200.st T201 (mkF m 102 #[vI p0, vI p1, vI p2, vI p3, vI p4, vI j1, vI j2, vI r2, vI i0, vI i1, vI d1, vI d2, vR b199, uu, uu, uu, uu, uu, uu] [sI j1, sI p0, sI i0, sR b199]) (fun t k => by
        refine st201.trans ?_
        show SP p e below T201 (mkF m 93 #[vI p0, vI p1, vI p2, vI p3, vI p4, vI j1, vI j2, vI r2, vI i0, vI i1, vI d1, vI d2, uu, uu, uu, uu, uu, uu, uu] [sR b199]) _
        refine XS.astore X201.here hx rfl (hb hby at_93) rfl rfl (l' := #[vI p0, vI p1, vI p2, vI p3, vI p4, vI j1, vI j2, vI r2, vI i0, vI i1, vI d1, vI d2, vR b199, uu, uu, uu, uu, uu, uu]) rfl ?_
        refine XS.aload X201.here hx rfl (hb hby at_95) rfl rfl ?_
        refine XS.iload X201.here hx rfl (hb hby at_97) rfl ?_
        refine XS.iloadN X201.here hx rfl (hb hby at_99) rfl ?_
        refine XS.iload X201.here hx rfl (hb hby at_100) rfl ?_
        exact k)
      obtain ⟨cq208, kq208, q208a, q208b, q208c⟩ := isOf hZ rfl qp201_0
      obtain ⟨_, _, ⟨T208, L208, k208, n208⟩, -, X208, ⟨Lc208, hQ208, l208, y208, z208⟩, st208⟩ := X201.virtualBack hx (y := yN1) (z := yN1) hown (mvT hZ (wD hw 20 rfl)) (mvT hZ (wD hw 21 rfl)) (notFace_of_selects (args := #[]) (mvT hZ (wD hw 23 rfl))) (mvT hZ (wD hw 23 rfl)) (mvT hZ (wD hw 22 rfl)) (by decide) (backOf (W := 0) (rm_add1_0 l Z a0 hw [] b199 p0 j1 pg_201 k1_201 pa_201 sb_201 k2_201 k3_201 (0 : Int32) (0 : Int32) T201.heap n0 Z201 qp201_0 qp201_1 qp201_2 qp201_3 qp201_4 qp201_11 qp201_12 qp201_13 g_b199 g_pa_201 g_sb_201 ne_b199_pg_201 ne_b199_pa_201 ne_b199_sb_201 qp201_14 qp201_15 qp201_16) hZ (wD hw 24 rfl) (wD hw 3 rfl) (by decide) (by decide)) q208a q208c (g := (mkF m 102 #[vI p0, vI p1, vI p2, vI p3, vI p4, vI j1, vI j2, vI r2, vI i0, vI i1, vI d1, vI d2, vR b199, uu, uu, uu, uu, uu, uu] [sI j1, sI p0, sI i0, sR b199])) rfl (by rw [hml]; rfl) (Steps.refl _) (argsL := [(.int (0 : Int32)), (.int p0), (.int j1)]) (rest := []) (lenOf pd_rm0_1 rfl) rfl (by show 2 * 0 + _ ≤ _; exact Nat.le_of_eq rfl) (hb hby at_102) (fun _ _ => ⟨rfl, rfl, (by decide : 4 + 0 ≤ _), (by decide : 69 + 0 ≤ _)⟩)
      dsimp only [Pt.U, Pt.locs, Pt.cells, Pt.slots] at X208 l208 y208 z208 st208 hQ208
      rw [l208, y208, z208] at X208
      obtain ⟨rfl, N208q, K208, qp208_0, qp208_1, qp208_2, qp208_3, qp208_4, qp208_5, qp208_6⟩ := hQ208
      have N208 := Fr.app N201 N208q
      have f209 := qp201_0.keep K208
      have f214 := qp201_11.keep K208 (ninS qp201_14 (ninS (Ne.symm ne_b199_pg_201) (ninS qp201_15 nin0)))
      have Z208 : n0 ≤ T208.heap.size := Nat.le_trans Z201 K208.1
      have KK208 := KK201.trans K208 (allS (Or.inr sz_pa_201) (allS (Or.inr sz_b199) (allS (Or.inr sz_sb_201) all0)))
      have go217 := go207.st T208 (mkF m 113 #[vI p0, vI p1, vI p2, vI p3, vI p4, vI j1, vI j2, vI r2, vI i0, vI i1, vI d1, vI d2, vR b199, uu, uu, uu, uu, uu, uu] [sI j2, sI r2, sI i1, sR b199]) (fun t k => by
        refine st208.trans ?_
        show SP p e below T208 (mkF m 105 #[vI p0, vI p1, vI p2, vI p3, vI p4, vI j1, vI j2, vI r2, vI i0, vI i1, vI d1, vI d2, vR b199, uu, uu, uu, uu, uu, uu] []) _
        refine XS.aload X208.here hx rfl (hb hby at_105) rfl rfl ?_
        refine XS.iload X208.here hx rfl (hb hby at_107) rfl ?_
        refine XS.iload X208.here hx rfl (hb hby at_109) rfl ?_
        refine XS.iload X208.here hx rfl (hb hby at_111) rfl ?_
        exact k)
      obtain ⟨cq218, kq218, q218a, q218b, q218c⟩ := isOf hZ rfl qp208_0
      obtain ⟨_, _, ⟨T218, L218, k218, n218⟩, -, X218, ⟨Lc218, hQ218, l218, y218, z218⟩, st218⟩ := X208.virtualBack hx (y := yN1) (z := yN1) hown (mvT hZ (wD hw 20 rfl)) (mvT hZ (wD hw 21 rfl)) (notFace_of_selects (args := #[]) (mvT hZ (wD hw 23 rfl))) (mvT hZ (wD hw 23 rfl)) (mvT hZ (wD hw 22 rfl)) (by decide) (backOf (W := 0) (rm_add2_1 l Z a0 hw [] b199 r2 j2 pg_201 k1_201 pa_201 sb_201 k2_201 k3_201 (0 : Int32) p0 j1 (1 : Int32) (0 : Int32) T208.heap n0 Z208 qp208_0 qp208_3 qp208_4 qp208_5 qp208_1 f214 qp208_6 qp208_2 g_b199 g_pa_201 g_sb_201 ne_b199_pg_201 ne_b199_pa_201 ne_b199_sb_201 qp201_14 qp201_15 qp201_16) hZ (wD hw 24 rfl) (wD hw 3 rfl) (by decide) (by decide)) q218a q218c (g := (mkF m 113 #[vI p0, vI p1, vI p2, vI p3, vI p4, vI j1, vI j2, vI r2, vI i0, vI i1, vI d1, vI d2, vR b199, uu, uu, uu, uu, uu, uu] [sI j2, sI r2, sI i1, sR b199])) rfl (by rw [hml]; rfl) (Steps.refl _) (argsL := [(.int (1 : Int32)), (.int r2), (.int j2)]) (rest := []) (lenOf pd_rm0_1 rfl) rfl (by show 2 * 0 + _ ≤ _; exact Nat.le_of_eq rfl) (hb hby at_113) (fun _ _ => ⟨rfl, rfl, (by decide : 4 + 0 ≤ _), (by decide : 69 + 0 ≤ _)⟩)
      dsimp only [Pt.U, Pt.locs, Pt.cells, Pt.slots] at X218 l218 y218 z218 st218 hQ218
      rw [l218, y218, z218] at X218
      obtain ⟨rfl, N218q, K218, qp218_0, qp218_1, qp218_2⟩ := hQ218
      have N218 := Fr.app N208 N218q
      have f219 := qp208_0.keep K218
      have f220 := f214.keep K218 (ninS qp201_14 (ninS (Ne.symm ne_b199_pg_201) (ninS qp201_15 nin0)))
      have Z218 : n0 ≤ T218.heap.size := Nat.le_trans Z208 K218.1
      have KK218 := KK208.trans K218 (allS (Or.inr sz_pa_201) (allS (Or.inr sz_b199) (allS (Or.inr sz_sb_201) all0)))
      have go227 := go217.st T218 (mkF m 116 #[vI p0, vI p1, vI p2, vI p3, vI p4, vI j1, vI j2, vI r2, vI i0, vI i1, vI d1, vI d2, vR b199, uu, uu, uu, uu, uu, uu] []) (fun t k => by
        refine st218.trans ?_
        exact k)
      obtain ⟨T228, h228, X228, e228, E228, A228, D228, -, st228⟩ := newO X218 hx hZ hown (wD hw 28 rfl) (wD hw 29 rfl) (wD hw 30 rfl) rfl (g := (mkF m 116 #[vI p0, vI p1, vI p2, vI p3, vI p4, vI j1, vI j2, vI r2, vI i0, vI i1, vI d1, vI d2, vR b199, uu, uu, uu, uu, uu, uu] [])) rfl (hb hby at_116) (by decide) (by decide)
      obtain ⟨b228, g228⟩ : ∃ z, z = T218.heap.size := ⟨_, rfl⟩
      rw [← g228] at A228 D228 st228
      have ne_b199_b228 : b199 ≠ b228 := Nat.ne_of_lt (Nat.lt_of_lt_of_le qp218_0.lt (Nat.le_of_eq g228.symm))
      have ne_sb_201_b228 : sb_201 ≠ b228 := Nat.ne_of_lt (Nat.lt_of_lt_of_le qp218_2.lt (Nat.le_of_eq g228.symm))
      have g_b228 : n0 ≤ b228 := Nat.le_trans Z218 (Nat.le_of_eq g228.symm)
      have sz_b228 : h0.size ≤ b228 := Nat.le_trans KK218.1 (Nat.le_of_eq g228.symm)
      have f229 := qp218_0.ext E228
      have f230 := qp218_1.ext E228
      have f231 := qp218_2.ext E228
      have F228_terms : Fld Z h228 b228 "com/example/graphkind/graphkind/Statements$Builder" "terms" "I" (.int (0 : Int32)) := D228 (Or.inr (wD hw 36 rfl)) (ty := .int) (by decide)
      have F228_start : Fld Z h228 b228 "com/example/graphkind/graphkind/Statements$Builder" "start" "[I" .null := D228 (Or.inr (wD hw 38 rfl)) (ty := (.array .int)) (by decide)
      have F228_next : Fld Z h228 b228 "com/example/graphkind/graphkind/Statements$Builder" "next" "[I" .null := D228 (Or.inl (wD hw 67 rfl)) (ty := (.array .int)) (by decide)
      have F228_values : Fld Z h228 b228 "com/example/graphkind/graphkind/Statements$Builder" "values" "[J" .null := D228 (Or.inl (wD hw 70 rfl)) (ty := (.array .long)) (by decide)
      have Z228 : n0 ≤ h228.size := Nat.le_trans Z218 E228.1
      have K228 := KK218.ext E228
      have go232 := go227.st T228 (mkF m 121 #[vI p0, vI p1, vI p2, vI p3, vI p4, vI j1, vI j2, vI r2, vI i0, vI i1, vI d1, vI d2, vR b199, uu, uu, uu, uu, uu, uu] [sI i2, sR b228, sR b228]) (fun t k => by
        refine st228 _ ?_
        show SP p e below T228 (mkF m 119 #[vI p0, vI p1, vI p2, vI p3, vI p4, vI j1, vI j2, vI r2, vI i0, vI i1, vI d1, vI d2, vR b199, uu, uu, uu, uu, uu, uu] [sR b228]) _
        refine XS.dup X228.here hx rfl (hb hby at_119) rfl rfl ?_
        refine XS.iconst X228.here hx rfl (hb hby at_120) ?_
        exact k)
      obtain ⟨_, _, ⟨T233, L233, k233, n233⟩, -, X233, ⟨Lc233, hQ233, l233, y233, z233⟩, st233⟩ := X228.specialBack hx (y := yN2) rfl hown (mvT hZ (wD hw 31 rfl)) (mvT hZ (wD hw 32 rfl)) (mvT hZ (wD hw 33 rfl)) (by decide) (backOf (W := 1) (rm_binit l Z a0 hw [] b228 h228 n0 Z228 A228 g_b228 F228_terms F228_start F228_next F228_values) hZ (wD hw 33 rfl) (wD hw 30 rfl) (by decide) (by decide)) (g := (mkF m 121 #[vI p0, vI p1, vI p2, vI p3, vI p4, vI j1, vI j2, vI r2, vI i0, vI i1, vI d1, vI d2, vR b199, uu, uu, uu, uu, uu, uu] [sI i2, sR b228, sR b228])) rfl (by rw [hml]; rfl) (Steps.refl _) (a := b228) (argsL := [(.int (2 : Int32))]) (rest := [(.ref b228)]) (lenOf pd_rm0_2 rfl) rfl (by show 2 * 0 + _ ≤ _; exact Nat.le_of_eq rfl) (hb hby at_121) (fun _ _ => ⟨rfl, e228, (by decide : 5 + 1 ≤ _), (by decide : 73 + 3 ≤ _)⟩)
      dsimp only [Pt.U, Pt.locs, Pt.cells, Pt.slots] at X233 l233 y233 z233 st233 hQ233
      rw [l233, y233, z233] at X233
      obtain ⟨sa_233, ka_233, rfl, N233q, K233, qp233_0, qp233_1, qp233_2, qp233_3, qp233_4, qp233_5, qp233_6, qp233_7⟩ := hQ233
      have N233 := Fr.app N218 N233q
      have f234 := f229.keep K233
      have f235 := f230.keep K233 (ninS ne_b199_b228 nin0)
      have f236 := f231.keep K233 (ninS ne_sb_201_b228 nin0)
      have f237 := A228.keep K233
      have Z233 : n0 ≤ T233.heap.size := Nat.le_trans Z228 K233.1
      have KK233 := K228.trans K233 (allS (Or.inr sz_b228) all0)
      have g_sa_233 := qp233_5
      have sz_sa_233 := Nat.le_trans K228.1 qp233_6
      have ne_b199_sa_233 : b199 ≠ sa_233 := Nat.ne_of_lt (Nat.lt_of_lt_of_le f229.lt qp233_6)
      have ne_sb_201_sa_233 : sb_201 ≠ sa_233 := Nat.ne_of_lt (Nat.lt_of_lt_of_le f231.lt qp233_6)
      have ne_b228_sa_233 : b228 ≠ sa_233 := Nat.ne_of_lt (Nat.lt_of_lt_of_le A228.lt qp233_6)
      have go242 := go232.st T233 (mkF m 130 #[vI p0, vI p1, vI p2, vI p3, vI p4, vI j1, vI j2, vI r2, vI i0, vI i1, vI d1, vI d2, vR b199, vR b228, uu, uu, uu, uu, uu] [sR b199, sR b228]) (fun t k => by
        refine st233.trans ?_
        show SP p e below T233 (mkF m 124 #[vI p0, vI p1, vI p2, vI p3, vI p4, vI j1, vI j2, vI r2, vI i0, vI i1, vI d1, vI d2, vR b199, uu, uu, uu, uu, uu, uu] [sR b228]) _
        refine XS.astore X233.here hx rfl (hb hby at_124) rfl rfl (l' := #[vI p0, vI p1, vI p2, vI p3, vI p4, vI j1, vI j2, vI r2, vI i0, vI i1, vI d1, vI d2, vR b199, vR b228, uu, uu, uu, uu, uu]) rfl ?_
        refine XS.aload X233.here hx rfl (hb hby at_126) rfl rfl ?_
        refine XS.aload X233.here hx rfl (hb hby at_128) rfl rfl ?_
        exact k)
      obtain ⟨cq243, kq243, q243a, q243b, q243c⟩ := isOf hZ rfl qp233_0
      obtain ⟨_, _, ⟨T243, L243, k243, n243⟩, -, X243, ⟨Lc243, hQ243, l243, y243, z243⟩, st243⟩ := X233.virtualBack hx (y := yN7) (z := yN7) hown (mvT hZ (wD hw 39 rfl)) (mvT hZ (wD hw 40 rfl)) (notFace_of_selects (args := #[]) (mvT hZ (wD hw 42 rfl))) (mvT hZ (wD hw 42 rfl)) (mvT hZ (wD hw 41 rfl)) (by decide) (backOf (W := 0) (rm_count l Z a0 hw [] b228 b199 sa_233 ka_233 sb_201 k3_201 (1 : Int32) (1 : Int32) T233.heap n0 Z233 qp233_1 qp233_2 qp233_7 f234 f235 f236 g_sa_233 ne_b228_sa_233 ne_b199_sa_233 ne_sb_201_sa_233) hZ (wD hw 43 rfl) (wD hw 30 rfl) (by decide) (by decide)) q243a q243c (g := (mkF m 130 #[vI p0, vI p1, vI p2, vI p3, vI p4, vI j1, vI j2, vI r2, vI i0, vI i1, vI d1, vI d2, vR b199, vR b228, uu, uu, uu, uu, uu] [sR b199, sR b228])) rfl (by rw [hml]; rfl) (Steps.refl _) (argsL := [(.ref b199)]) (rest := []) (lenOf pd_rm0_3 rfl) rfl (by show 2 * 0 + _ ≤ _; exact Nat.le_of_eq rfl) (hb hby at_130) (fun _ _ => ⟨rfl, rfl, (by decide : 6 + 0 ≤ _), (by decide : 76 + 0 ≤ _)⟩)
      dsimp only [Pt.U, Pt.locs, Pt.cells, Pt.slots] at X243 l243 y243 z243 st243 hQ243
      rw [l243, y243, z243] at X243
      obtain ⟨rfl, N243q, K243, qp243_0⟩ := hQ243
      have N243 := Fr.app N233 N243q
      have f244 := f234.keep K243
      have f245 := f235.keep K243 (ninS ne_b199_sa_233 nin0)
      have f246 := f236.keep K243 (ninS ne_sb_201_sa_233 nin0)
      have f247 := qp233_0.keep K243
      have f248 := qp233_1.keep K243 (ninS ne_b228_sa_233 nin0)
      have f249 := qp233_2.keep K243 (ninS ne_b228_sa_233 nin0)
      have f250 := qp233_3.keep K243 (ninS ne_b228_sa_233 nin0)
      have f251 := qp233_4.keep K243 (ninS ne_b228_sa_233 nin0)
      have Z243 : n0 ≤ T243.heap.size := Nat.le_trans Z233 K243.1
      have KK243 := KK233.trans K243 (allS (Or.inr sz_sa_233) all0)
      have go253 := go242.st T243 (mkF m 135 #[vI p0, vI p1, vI p2, vI p3, vI p4, vI j1, vI j2, vI r2, vI i0, vI i1, vI d1, vI d2, vR b199, vR b228, uu, uu, uu, uu, uu] [sR b228]) (fun t k => by
        refine st243.trans ?_
        show SP p e below T243 (mkF m 133 #[vI p0, vI p1, vI p2, vI p3, vI p4, vI j1, vI j2, vI r2, vI i0, vI i1, vI d1, vI d2, vR b199, vR b228, uu, uu, uu, uu, uu] []) _
        refine XS.aload X243.here hx rfl (hb hby at_133) rfl rfl ?_
        exact k)
      obtain ⟨cq254, kq254, q254a, q254b, q254c⟩ := isOf hZ rfl f247
      obtain ⟨_, _, ⟨T254, L254, k254, n254⟩, -, X254, ⟨Lc254, hQ254, l254, y254, z254⟩, st254⟩ := X243.virtualBack hx (y := yN8) (z := yN8) hown (mvT hZ (wD hw 49 rfl)) (mvT hZ (wD hw 50 rfl)) (notFace_of_selects (args := #[]) (mvT hZ (wD hw 52 rfl))) (mvT hZ (wD hw 52 rfl)) (mvT hZ (wD hw 51 rfl)) (by decide) (backOf (W := 0) (rm_start1 l Z a0 hw [] b228 sa_233 ka_233 T243.heap n0 Z243 f247 f248 f249 f250 f251 qp243_0 g_sa_233 g_b228 ne_b228_sa_233) hZ (wD hw 53 rfl) (wD hw 30 rfl) (by decide) (by decide)) q254a q254c (g := (mkF m 135 #[vI p0, vI p1, vI p2, vI p3, vI p4, vI j1, vI j2, vI r2, vI i0, vI i1, vI d1, vI d2, vR b199, vR b228, uu, uu, uu, uu, uu] [sR b228])) rfl (by rw [hml]; rfl) (Steps.refl _) (argsL := []) (rest := []) (lenOf pd_rm0_0 rfl) rfl (by show 2 * 0 + _ ≤ _; exact Nat.le_of_eq rfl) (hb hby at_135) (fun _ _ => ⟨rfl, rfl, (by decide : 6 + 2 ≤ _), (by decide : 76 + 4 ≤ _)⟩)
      dsimp only [Pt.U, Pt.locs, Pt.cells, Pt.slots] at X254 l254 y254 z254 st254 hQ254
      rw [l254, y254, z254] at X254
      obtain ⟨nx_254, va_254, kx_254, kv_254, rfl, N254q, K254, qp254_0, qp254_1, qp254_2, qp254_3, qp254_4, qp254_5, qp254_6, qp254_7, qp254_8, qp254_9, qp254_10, qp254_11⟩ := hQ254
      have N254 := Fr.app N243 N254q
      have f255 := f247.keep K254
      have Z254 : n0 ≤ T254.heap.size := Nat.le_trans Z243 K254.1
      have KK254 := KK243.trans K254 (allS (Or.inr sz_sa_233) (allS (Or.inr sz_b228) all0))
      have g_nx_254 := qp254_0
      have sz_nx_254 := Nat.le_trans KK243.1 qp254_1
      have ne_b228_nx_254 : b228 ≠ nx_254 := Nat.ne_of_lt (Nat.lt_of_lt_of_le f247.lt qp254_1)
      have ne_sa_233_nx_254 : sa_233 ≠ nx_254 := Nat.ne_of_lt (Nat.lt_of_lt_of_le qp243_0.lt qp254_1)
      have g_va_254 := qp254_2
      have sz_va_254 := Nat.le_trans KK243.1 qp254_3
      have ne_b228_va_254 : b228 ≠ va_254 := Nat.ne_of_lt (Nat.lt_of_lt_of_le f247.lt qp254_3)
      have ne_sa_233_va_254 : sa_233 ≠ va_254 := Nat.ne_of_lt (Nat.lt_of_lt_of_le qp243_0.lt qp254_3)
      have go261 := go253.st T254 (mkF m 147 #[vI p0, vI p1, vI p2, vI p3, vI p4, vI j1, vI j2, vI r2, vI i0, vI i1, vI d1, vI d2, vR b199, vR b228, uu, uu, uu, uu, uu] [sI d1, sI j1, sI p0, sI i0, sR b228]) (fun t k => by
        refine st254.trans ?_
        show SP p e below T254 (mkF m 138 #[vI p0, vI p1, vI p2, vI p3, vI p4, vI j1, vI j2, vI r2, vI i0, vI i1, vI d1, vI d2, vR b199, vR b228, uu, uu, uu, uu, uu] []) _
        refine XS.aload X254.here hx rfl (hb hby at_138) rfl rfl ?_
        refine XS.iload X254.here hx rfl (hb hby at_140) rfl ?_
        refine XS.iloadN X254.here hx rfl (hb hby at_142) rfl ?_
        refine XS.iload X254.here hx rfl (hb hby at_143) rfl ?_
        refine XS.iload X254.here hx rfl (hb hby at_145) rfl ?_
        exact k)
      obtain ⟨cq262, kq262, q262a, q262b, q262c⟩ := isOf hZ rfl f255
      obtain ⟨_, _, ⟨T262, L262, k262, n262⟩, -, X262, ⟨Lc262, hQ262, l262, y262, z262⟩, st262⟩ := X254.virtualBack hx (y := yN9) (z := yN9) hown (mvT hZ (wD hw 71 rfl)) (mvT hZ (wD hw 72 rfl)) (notFace_of_selects (args := #[]) (mvT hZ (wD hw 74 rfl))) (mvT hZ (wD hw 74 rfl)) (mvT hZ (wD hw 73 rfl)) (by decide) (backOf (W := 0) (rm_put0_01 l Z a0 hw [] b228 p0 j1 d1 nx_254 va_254 kx_254 kv_254 (0 : Int64) (0 : Int64) T254.heap n0 Z254 qp254_6 qp254_7 qp254_9 qp254_10 g_nx_254 g_va_254 ne_b228_nx_254 ne_b228_va_254 qp254_11) hZ (wD hw 75 rfl) (wD hw 30 rfl) (by decide) (by decide)) q262a q262c (g := (mkF m 147 #[vI p0, vI p1, vI p2, vI p3, vI p4, vI j1, vI j2, vI r2, vI i0, vI i1, vI d1, vI d2, vR b199, vR b228, uu, uu, uu, uu, uu] [sI d1, sI j1, sI p0, sI i0, sR b228])) rfl (by rw [hml]; rfl) (Steps.refl _) (argsL := [(.int (0 : Int32)), (.int p0), (.int j1), (.int d1)]) (rest := []) (lenOf pd_rm0_4 rfl) rfl (by show 2 * 0 + _ ≤ _; exact Nat.le_of_eq rfl) (hb hby at_147) (fun _ _ => ⟨rfl, rfl, (by decide : 8 + 0 ≤ _), (by decide : 80 + 0 ≤ _)⟩)
      dsimp only [Pt.U, Pt.locs, Pt.cells, Pt.slots] at X262 l262 y262 z262 st262 hQ262
      rw [l262, y262, z262] at X262
      obtain ⟨rfl, N262q, K262, qp262_0, qp262_1⟩ := hQ262
      have N262 := Fr.app N254 N262q
      have f263 := f255.keep K262
      have f264 := qp254_4.keep K262 (ninS ne_b228_nx_254 (ninS ne_b228_va_254 nin0))
      have f265 := qp254_5.keep K262 (ninS ne_b228_nx_254 (ninS ne_b228_va_254 nin0))
      have f266 := qp254_6.keep K262 (ninS ne_b228_nx_254 (ninS ne_b228_va_254 nin0))
      have f267 := qp254_7.keep K262 (ninS ne_b228_nx_254 (ninS ne_b228_va_254 nin0))
      have f268 := qp254_8.keep K262 (ninS ne_sa_233_nx_254 (ninS ne_sa_233_va_254 nin0))
      have Z262 : n0 ≤ T262.heap.size := Nat.le_trans Z254 K262.1
      have KK262 := KK254.trans K262 (allS (Or.inr sz_nx_254) (allS (Or.inr sz_va_254) all0))
      have go271 := go261.st T262 (mkF m 160 #[vI p0, vI p1, vI p2, vI p3, vI p4, vI j1, vI j2, vI r2, vI i0, vI i1, vI d1, vI d2, vR b199, vR b228, uu, uu, uu, uu, uu] [sI d2, sI j2, sI r2, sI i1, sR b228]) (fun t k => by
        refine st262.trans ?_
        show SP p e below T262 (mkF m 150 #[vI p0, vI p1, vI p2, vI p3, vI p4, vI j1, vI j2, vI r2, vI i0, vI i1, vI d1, vI d2, vR b199, vR b228, uu, uu, uu, uu, uu] []) _
        refine XS.aload X262.here hx rfl (hb hby at_150) rfl rfl ?_
        refine XS.iload X262.here hx rfl (hb hby at_152) rfl ?_
        refine XS.iload X262.here hx rfl (hb hby at_154) rfl ?_
        refine XS.iload X262.here hx rfl (hb hby at_156) rfl ?_
        refine XS.iload X262.here hx rfl (hb hby at_158) rfl ?_
        exact k)
      obtain ⟨cq272, kq272, q272a, q272b, q272c⟩ := isOf hZ rfl f263
      obtain ⟨_, _, ⟨T272, L272, k272, n272⟩, -, X272, ⟨Lc272, hQ272, l272, y272, z272⟩, st272⟩ := X262.virtualBack hx (y := yN9) (z := yN9) hown (mvT hZ (wD hw 71 rfl)) (mvT hZ (wD hw 72 rfl)) (notFace_of_selects (args := #[]) (mvT hZ (wD hw 74 rfl))) (mvT hZ (wD hw 74 rfl)) (mvT hZ (wD hw 73 rfl)) (by decide) (backOf (W := 0) (rm_put1_11 l Z a0 hw [] b228 r2 j2 d2 nx_254 va_254 kx_254 kv_254 (own_pack p0 j1 d1) (0 : Int64) T262.heap n0 Z262 f266 f267 qp262_0 qp262_1 g_nx_254 g_va_254 ne_b228_nx_254 ne_b228_va_254 qp254_11) hZ (wD hw 75 rfl) (wD hw 30 rfl) (by decide) (by decide)) q272a q272c (g := (mkF m 160 #[vI p0, vI p1, vI p2, vI p3, vI p4, vI j1, vI j2, vI r2, vI i0, vI i1, vI d1, vI d2, vR b199, vR b228, uu, uu, uu, uu, uu] [sI d2, sI j2, sI r2, sI i1, sR b228])) rfl (by rw [hml]; rfl) (Steps.refl _) (argsL := [(.int (1 : Int32)), (.int r2), (.int j2), (.int d2)]) (rest := []) (lenOf pd_rm0_4 rfl) rfl (by show 2 * 0 + _ ≤ _; exact Nat.le_of_eq rfl) (hb hby at_160) (fun _ _ => ⟨rfl, rfl, (by decide : 8 + 0 ≤ _), (by decide : 80 + 0 ≤ _)⟩)
      dsimp only [Pt.U, Pt.locs, Pt.cells, Pt.slots] at X272 l272 y272 z272 st272 hQ272
      rw [l272, y272, z272] at X272
      obtain ⟨rfl, N272q, K272, qp272_0, qp272_1⟩ := hQ272
      have N272 := Fr.app N262 N272q
      have f273 := f263.keep K272
      have f274 := f264.keep K272 (ninS ne_b228_nx_254 (ninS ne_b228_va_254 nin0))
      have f275 := f265.keep K272 (ninS ne_b228_nx_254 (ninS ne_b228_va_254 nin0))
      have f276 := f266.keep K272 (ninS ne_b228_nx_254 (ninS ne_b228_va_254 nin0))
      have f277 := f267.keep K272 (ninS ne_b228_nx_254 (ninS ne_b228_va_254 nin0))
      have f278 := f268.keep K272 (ninS ne_sa_233_nx_254 (ninS ne_sa_233_va_254 nin0))
      have Z272 : n0 ≤ T272.heap.size := Nat.le_trans Z262 K272.1
      have KK272 := KK262.trans K272 (allS (Or.inr sz_nx_254) (allS (Or.inr sz_va_254) all0))
      have go281 := go271.st T272 (mkF m 165 #[vI p0, vI p1, vI p2, vI p3, vI p4, vI j1, vI j2, vI r2, vI i0, vI i1, vI d1, vI d2, vR b199, vR b228, uu, uu, uu, uu, uu] [sR b228]) (fun t k => by
        refine st272.trans ?_
        show SP p e below T272 (mkF m 163 #[vI p0, vI p1, vI p2, vI p3, vI p4, vI j1, vI j2, vI r2, vI i0, vI i1, vI d1, vI d2, vR b199, vR b228, uu, uu, uu, uu, uu] []) _
        refine XS.aload X272.here hx rfl (hb hby at_163) rfl rfl ?_
        exact k)
      obtain ⟨cq282, kq282, q282a, q282b, q282c⟩ := isOf hZ rfl f273
      obtain ⟨_, _, ⟨T282, L282, k282, n282⟩, -, X282, ⟨Lc282, hQ282, l282, y282, z282⟩, st282⟩ := X272.virtualBack hx (y := yN17) (z := yN17) hown (mvT hZ (wD hw 76 rfl)) (mvT hZ (wD hw 77 rfl)) (notFace_of_selects (args := #[]) (mvT hZ (wD hw 79 rfl))) (mvT hZ (wD hw 79 rfl)) (mvT hZ (wD hw 78 rfl)) (by decide) (backOf (W := 0) (rm_buildB l Z a0 hw [] b228 sa_233 ka_233 nx_254 kx_254 va_254 kv_254 (own_pack p0 j1 d1) (own_pack r2 j2 d2) T272.heap n0 Z272 f273 f274 f275 f276 f277 f278 qp272_0 qp272_1 g_sa_233 g_va_254 g_b228 ne_b228_sa_233 ne_b228_nx_254 ne_b228_va_254 ne_sa_233_nx_254 ne_sa_233_va_254 qp254_11) hZ (wD hw 80 rfl) (wD hw 30 rfl) (by decide) (by decide)) q282a q282c (g := (mkF m 165 #[vI p0, vI p1, vI p2, vI p3, vI p4, vI j1, vI j2, vI r2, vI i0, vI i1, vI d1, vI d2, vR b199, vR b228, uu, uu, uu, uu, uu] [sR b228])) rfl (by rw [hml]; rfl) (Steps.refl _) (argsL := []) (rest := []) (lenOf pd_rm0_5 rfl) rfl (by show 2 * 0 + _ ≤ _; exact Nat.le_of_eq rfl) (hb hby at_165) (fun _ _ => ⟨rfl, rfl, (by decide : 8 + 1 ≤ _), (by decide : 80 + 2 ≤ _)⟩)
      dsimp only [Pt.U, Pt.locs, Pt.cells, Pt.slots] at X282 l282 y282 z282 st282 hQ282
      rw [l282, y282, z282] at X282
      obtain ⟨b_282, rfl, N282q, K282, qp282_0, qp282_1, qp282_2, qp282_3, qp282_4, qp282_5, qp282_6⟩ := hQ282
      have N282 := Fr.app N272 N282q
      have f283 := f273.keep K282
      have f289 := qp272_0.keep K282 (ninS qp254_11 (ninS (Ne.symm ne_sa_233_nx_254) (ninS (Ne.symm ne_b228_nx_254) nin0)))
      have Z282 : n0 ≤ T282.heap.size := Nat.le_trans Z272 K282.1
      have KK282 := KK272.trans K282 (allS (Or.inr sz_va_254) (allS (Or.inr sz_sa_233) (allS (Or.inr sz_b228) all0)))
      have g_b_282 := qp282_0
      have sz_b_282 := Nat.le_trans KK272.1 qp282_1
      have ne_b228_b_282 : b228 ≠ b_282 := Nat.ne_of_lt (Nat.lt_of_lt_of_le f273.lt qp282_1)
      have ne_sa_233_b_282 : sa_233 ≠ b_282 := Nat.ne_of_lt (Nat.lt_of_lt_of_le f278.lt qp282_1)
      have ne_nx_254_b_282 : nx_254 ≠ b_282 := Nat.ne_of_lt (Nat.lt_of_lt_of_le qp272_0.lt qp282_1)
      have ne_va_254_b_282 : va_254 ≠ b_282 := Nat.ne_of_lt (Nat.lt_of_lt_of_le qp272_1.lt qp282_1)
      have go291 := go281.st T282 (mkF m 173 #[vI p0, vI p1, vI p2, vI p3, vI p4, vI j1, vI j2, vI r2, vI i0, vI i1, vI d1, vI d2, vR b199, vR b228, vR b_282, uu, uu, uu, uu] [sI i0, sR b_282]) (fun t k => by
        refine st282.trans ?_
        show SP p e below T282 (mkF m 168 #[vI p0, vI p1, vI p2, vI p3, vI p4, vI j1, vI j2, vI r2, vI i0, vI i1, vI d1, vI d2, vR b199, vR b228, uu, uu, uu, uu, uu] [sR b_282]) _
        refine XS.astore X282.here hx rfl (hb hby at_168) rfl rfl (l' := #[vI p0, vI p1, vI p2, vI p3, vI p4, vI j1, vI j2, vI r2, vI i0, vI i1, vI d1, vI d2, vR b199, vR b228, vR b_282, uu, uu, uu, uu]) rfl ?_
        refine XS.aload X282.here hx rfl (hb hby at_170) rfl rfl ?_
        refine XS.iconst X282.here hx rfl (hb hby at_172) ?_
        exact k)
      obtain ⟨cq292, kq292, q292a, q292b, q292c⟩ := isOf hZ rfl qp282_2
      obtain ⟨_, _, ⟨T292, L292, k292, n292⟩, -, X292, ⟨Lc292, hQ292, l292, y292, z292⟩, st292⟩ := X282.virtualBack hx (y := yN18) (z := yN18) hown (mvT hZ (wD hw 112 rfl)) (mvT hZ (wD hw 113 rfl)) (notFace_of_selects (args := #[]) (mvT hZ (wD hw 115 rfl))) (mvT hZ (wD hw 115 rfl)) (mvT hZ (wD hw 114 rfl)) (by decide) (backOf (W := 0) (rm_end0 l Z a0 hw [] b_282 sa_233 ka_233 (0 : Int32) (1 : Int32) (2 : Int32) T282.heap n0 Z282 qp282_3 qp282_5) hZ (wD hw 116 rfl) (wD hw 103 rfl) (by decide) (by decide)) q292a q292c (g := (mkF m 173 #[vI p0, vI p1, vI p2, vI p3, vI p4, vI j1, vI j2, vI r2, vI i0, vI i1, vI d1, vI d2, vR b199, vR b228, vR b_282, uu, uu, uu, uu] [sI i0, sR b_282])) rfl (by rw [hml]; rfl) (Steps.refl _) (argsL := [(.int (0 : Int32))]) (rest := []) (lenOf pd_rm0_6 rfl) rfl (by show 2 * 0 + _ ≤ _; exact Nat.le_of_eq rfl) (hb hby at_173) (fun _ _ => ⟨rfl, rfl, (by decide : 9 + 0 ≤ _), (by decide : 82 + 0 ≤ _)⟩)
      dsimp only [Pt.U, Pt.locs, Pt.cells, Pt.slots] at X292 l292 y292 z292 st292 hQ292
      rw [l292, y292, z292] at X292
      obtain ⟨rfl, N292q, e292⟩ := hQ292
      have N292 := Fr.app N282 N292q
      have go293 := go291.st T292 (mkF m 181 #[vI p0, vI p1, vI p2, vI p3, vI p4, vI j1, vI j2, vI r2, vI i0, vI i1, vI d1, vI d2, vR b199, vR b228, vR b_282, vI i1, uu, uu, uu] [sI i1, sR b_282]) (fun t k => by
        refine st292.trans ?_
        show SP p e below T292 (mkF m 176 #[vI p0, vI p1, vI p2, vI p3, vI p4, vI j1, vI j2, vI r2, vI i0, vI i1, vI d1, vI d2, vR b199, vR b228, vR b_282, uu, uu, uu, uu] [sI i1]) _
        refine XS.istore X292.here hx rfl (hb hby at_176) rfl (l' := #[vI p0, vI p1, vI p2, vI p3, vI p4, vI j1, vI j2, vI r2, vI i0, vI i1, vI d1, vI d2, vR b199, vR b228, vR b_282, vI i1, uu, uu, uu]) rfl ?_
        refine XS.aload X292.here hx rfl (hb hby at_178) rfl rfl ?_
        refine XS.iconst X292.here hx rfl (hb hby at_180) ?_
        exact k)
      obtain ⟨cq294, kq294, q294a, q294b, q294c⟩ := isOf hZ e292 qp282_2
      obtain ⟨_, _, ⟨T294, L294, k294, n294⟩, -, X294, ⟨Lc294, hQ294, l294, y294, z294⟩, st294⟩ := X292.virtualBack hx (y := yN18) (z := yN18) hown (mvT hZ (wD hw 112 rfl)) (mvT hZ (wD hw 113 rfl)) (notFace_of_selects (args := #[]) (mvT hZ (wD hw 115 rfl))) (mvT hZ (wD hw 115 rfl)) (mvT hZ (wD hw 114 rfl)) (by decide) (backOf (W := 0) (rm_end1 l Z a0 hw [] b_282 sa_233 ka_233 (0 : Int32) (1 : Int32) (2 : Int32) T282.heap n0 Z282 qp282_3 qp282_5) hZ (wD hw 116 rfl) (wD hw 103 rfl) (by decide) (by decide)) q294a q294c (g := (mkF m 181 #[vI p0, vI p1, vI p2, vI p3, vI p4, vI j1, vI j2, vI r2, vI i0, vI i1, vI d1, vI d2, vR b199, vR b228, vR b_282, vI i1, uu, uu, uu] [sI i1, sR b_282])) rfl (by rw [hml]; rfl) (Steps.refl _) (argsL := [(.int (1 : Int32))]) (rest := []) (lenOf pd_rm0_6 rfl) rfl (by show 2 * 0 + _ ≤ _; exact Nat.le_of_eq rfl) (hb hby at_181) (fun _ _ => ⟨rfl, e292, (by decide : 9 + 0 ≤ _), (by decide : 82 + 0 ≤ _)⟩)
      dsimp only [Pt.U, Pt.locs, Pt.cells, Pt.slots] at X294 l294 y294 z294 st294 hQ294
      rw [l294, y294, z294] at X294
      obtain ⟨rfl, N294q, e294⟩ := hQ294
      have N294 := Fr.app N292 N294q
      have go298 := go293.st T294 (mkF m 214 #[vI p0, vI p1, vI p2, vI p3, vI p4, vI j1, vI j2, vI r2, vI i0, vI i1, vI d1, vI d2, vR b199, vR b228, vR b_282, vI i1, vI i2, uu, uu] [sI d1, sI j1, sI p0, sI i0, sR b_282]) (fun t k => by
        refine st294.trans ?_
        show SP p e below T294 (mkF m 184 #[vI p0, vI p1, vI p2, vI p3, vI p4, vI j1, vI j2, vI r2, vI i0, vI i1, vI d1, vI d2, vR b199, vR b228, vR b_282, vI i1, uu, uu, uu] [sI i2]) _
        refine XS.istore X294.here hx rfl (hb hby at_184) rfl (l' := #[vI p0, vI p1, vI p2, vI p3, vI p4, vI j1, vI j2, vI r2, vI i0, vI i1, vI d1, vI d2, vR b199, vR b228, vR b_282, vI i1, vI i2, uu, uu]) rfl ?_
        refine XS.iload X294.here hx rfl (hb hby at_186) rfl ?_
        refine XS.iload X294.here hx rfl (hb hby at_188) rfl ?_
        refine XS.icmpNo X294.here hx rfl (hb hby at_190) rfl (feq ((by decide) : ¬ ((0 : Int32) = (1 : Int32)))).1 ?_
        refine XS.iload X294.here hx rfl (hb hby at_193) rfl ?_
        refine XS.iconst X294.here hx rfl (hb hby at_195) ?_
        refine XS.icmpNo X294.here hx rfl (hb hby at_196) rfl (teq ((by decide) : (1 : Int32) = (1 : Int32))).2 ?_
        refine XS.iload X294.here hx rfl (hb hby at_199) rfl ?_
        refine XS.iconst X294.here hx rfl (hb hby at_201) ?_
        show SP p e below T294 (mkF m 202 #[vI p0, vI p1, vI p2, vI p3, vI p4, vI j1, vI j2, vI r2, vI i0, vI i1, vI d1, vI d2, vR b199, vR b228, vR b_282, vI i1, vI i2, uu, uu] [sI i2, sI i2]) _
        refine XS.icmpNo X294.here hx rfl (hb hby at_202) rfl (teq ((by decide) : (2 : Int32) = (2 : Int32))).2 ?_
        refine XS.aload X294.here hx rfl (hb hby at_205) rfl rfl ?_
        refine XS.iload X294.here hx rfl (hb hby at_207) rfl ?_
        refine XS.iloadN X294.here hx rfl (hb hby at_209) rfl ?_
        refine XS.iload X294.here hx rfl (hb hby at_210) rfl ?_
        refine XS.iload X294.here hx rfl (hb hby at_212) rfl ?_
        exact k)
      obtain ⟨_, _, ⟨T299, L299, k299, n299⟩, -, X299, ⟨Lc299, hQ299, l299, y299, z299⟩, st299⟩ := Jvm.LawKit.callS X294 hx (y := yN22) hown (mvT hZ (wD hw 117 rfl)) (mvT hZ (wD hw 118 rfl)) (mvT hZ (wD hw 119 rfl)) (mvT hZ (wD hw 120 rfl)) (by decide) (backOf (W := 0) (rm20 l Z a0 hw [] b_282 (0 : Int32) p0 j1 d1 va_254 kv_254 (2 : Int32) [(.long (own_pack p0 j1 d1)), (.long (own_pack r2 j2 d2))] (own_pack p0 j1 d1) T282.heap n0 Z282 qp282_2 qp282_4 qp282_6 ⟨by decide, by decide⟩ rfl) hZ (wD hw 120 rfl) (wD hw 119 rfl) (by decide) (by decide)) (g := (mkF m 214 #[vI p0, vI p1, vI p2, vI p3, vI p4, vI j1, vI j2, vI r2, vI i0, vI i1, vI d1, vI d2, vR b199, vR b228, vR b_282, vI i1, vI i2, uu, uu] [sI d1, sI j1, sI p0, sI i0, sR b_282])) rfl (by rw [hml]; rfl) (argsL := [(.ref b_282), (.int (0 : Int32)), (.int p0), (.int j1), (.int d1)]) (rest := []) (lenOf pd_rm0_7 rfl) rfl (by show 2 * 0 + _ ≤ _; exact Nat.le_of_eq rfl) (hb hby at_214) (fun _ _ => ⟨rfl, e294, (by decide : 9 + 0 ≤ _), (by decide : 82 + 0 ≤ _)⟩)
      dsimp only [Pt.U, Pt.locs, Pt.cells, Pt.slots] at X299 l299 y299 z299 st299 hQ299
      rw [l299, y299, z299] at X299
      obtain ⟨rfl, N299q, e299⟩ := hQ299
      have N299 := Fr.app N294 N299q
      have go301 := go298.st T299 (mkF m 230 #[vI p0, vI p1, vI p2, vI p3, vI p4, vI j1, vI j2, vI r2, vI i0, vI i1, vI d1, vI d2, vR b199, vR b228, vR b_282, vI i1, vI i2, uu, uu] [sI d2, sI j2, sI r2, sI i1, sR b_282]) (fun t k => by
        refine st299 _ ?_
        show SP p e below T299 (mkF m 217 #[vI p0, vI p1, vI p2, vI p3, vI p4, vI j1, vI j2, vI r2, vI i0, vI i1, vI d1, vI d2, vR b199, vR b228, vR b_282, vI i1, vI i2, uu, uu] [(sI (own_at p0 j1 d1 (own_pack p0 j1 d1)))]) _
        refine XS.ifNo X299.here hx rfl (hb hby at_217) rfl ((if0 _ _).trans (feq (own_at_ok hn1 hb1 : ¬ ((own_at p0 j1 d1 (own_pack p0 j1 d1)) = (0 : Int32)))).1) ?_
        refine XS.aload X299.here hx rfl (hb hby at_220) rfl rfl ?_
        refine XS.iload X299.here hx rfl (hb hby at_222) rfl ?_
        refine XS.iload X299.here hx rfl (hb hby at_224) rfl ?_
        refine XS.iload X299.here hx rfl (hb hby at_226) rfl ?_
        refine XS.iload X299.here hx rfl (hb hby at_228) rfl ?_
        exact k)
      obtain ⟨_, _, ⟨T302, L302, k302, n302⟩, -, X302, ⟨Lc302, hQ302, l302, y302, z302⟩, st302⟩ := Jvm.LawKit.callS X299 hx (y := yN22) hown (mvT hZ (wD hw 117 rfl)) (mvT hZ (wD hw 118 rfl)) (mvT hZ (wD hw 119 rfl)) (mvT hZ (wD hw 120 rfl)) (by decide) (backOf (W := 0) (rm20 l Z a0 hw [] b_282 (1 : Int32) r2 j2 d2 va_254 kv_254 (2 : Int32) [(.long (own_pack p0 j1 d1)), (.long (own_pack r2 j2 d2))] (own_pack r2 j2 d2) T282.heap n0 Z282 qp282_2 qp282_4 qp282_6 ⟨by decide, by decide⟩ rfl) hZ (wD hw 120 rfl) (wD hw 119 rfl) (by decide) (by decide)) (g := (mkF m 230 #[vI p0, vI p1, vI p2, vI p3, vI p4, vI j1, vI j2, vI r2, vI i0, vI i1, vI d1, vI d2, vR b199, vR b228, vR b_282, vI i1, vI i2, uu, uu] [sI d2, sI j2, sI r2, sI i1, sR b_282])) rfl (by rw [hml]; rfl) (argsL := [(.ref b_282), (.int (1 : Int32)), (.int r2), (.int j2), (.int d2)]) (rest := []) (lenOf pd_rm0_7 rfl) rfl (by show 2 * 0 + _ ≤ _; exact Nat.le_of_eq rfl) (hb hby at_230) (fun _ _ => ⟨rfl, e299, (by decide : 9 + 0 ≤ _), (by decide : 82 + 0 ≤ _)⟩)
      dsimp only [Pt.U, Pt.locs, Pt.cells, Pt.slots] at X302 l302 y302 z302 st302 hQ302
      rw [l302, y302, z302] at X302
      obtain ⟨rfl, N302q, e302⟩ := hQ302
      have N302 := Fr.app N299 N302q
      have go304 := go301.st T302 (mkF m 241 #[vI p0, vI p1, vI p2, vI p3, vI p4, vI j1, vI j2, vI r2, vI i0, vI i1, vI d1, vI d2, vR b199, vR b228, vR b_282, vI i1, vI i2, uu, uu] [sI i1]) (fun t k => by
        refine st302 _ ?_
        show SP p e below T302 (mkF m 233 #[vI p0, vI p1, vI p2, vI p3, vI p4, vI j1, vI j2, vI r2, vI i0, vI i1, vI d1, vI d2, vR b199, vR b228, vR b_282, vI i1, vI i2, uu, uu] [(sI (own_at r2 j2 d2 (own_pack r2 j2 d2)))]) _
        refine XS.ifNo X302.here hx rfl (hb hby at_233) rfl ((if0 _ _).trans (feq (own_at_ok hn2 hb2 : ¬ ((own_at r2 j2 d2 (own_pack r2 j2 d2)) = (0 : Int32)))).1) ?_
        refine XS.iconst X302.here hx rfl (hb hby at_236) ?_
        refine XS.goto X302.here hx rfl (pc0 := 237) (pc' := 241) rfl (hb hby at_237) (by decide) (by decide) ?_
        exact k)
      obtain ⟨fs, hr, hrun, hended, hW, hsame⟩ := X302.leave (v := some (.int (1 : Int32))) (fun h => by rw [Bd.returns] at h; cases h)
      refine ⟨_, _, go304 _ ?_, hrun, hended, _, _, rfl, ?_, ⟨_, rfl⟩, hW, hsame.mono (by decide) (by decide)⟩
      · exact retN X302 hx (t := .boolean) Bd.returns (by simp) (hb hby at_241) hr
      · show Q_rm0 Z p0 p1 p2 p3 p4 h0 n0 _ T302.heap _
        rw [e302]
        exact ⟨rfl, N302⟩
  · subst q
    rcases own_bit hs2 with q | q
    · subst q
      obtain ⟨T305, h305, X305, e305, E305, A305, D305, -, st305⟩ := newO X0 hx hZ hown (wD hw 1 rfl) (wD hw 2 rfl) (wD hw 3 rfl) e0 (g := (mkF m 86 #[vI p0, vI p1, vI p2, vI p3, vI p4, vI j1, vI j2, vI r2, vI i1, vI i0, vI d1, vI d2, uu, uu, uu, uu, uu, uu, uu] [])) rfl (hb hby at_86) (by decide) (by decide)
      obtain ⟨b305, g305⟩ : ∃ z, z = h0.size := ⟨_, rfl⟩
      rw [← g305] at A305 D305 st305
      have g_b305 : n0 ≤ b305 := Nat.le_trans Z0 (Nat.le_of_eq g305.symm)
      have sz_b305 : h0.size ≤ b305 := Nat.le_trans K0.1 (Nat.le_of_eq g305.symm)
      have F305_pages : Fld Z h305 b305 "com/example/graphkind/graphkind/TripleList" "pages" "[[I" .null := D305 (Or.inl (wD hw 15 rfl)) (ty := (.array (.array .int))) (by decide)
      have F305_room : Fld Z h305 b305 "com/example/graphkind/graphkind/TripleList" "room" "I" (.int (0 : Int32)) := D305 (Or.inl (wD hw 17 rfl)) (ty := .int) (by decide)
      have F305_ofSubject : Fld Z h305 b305 "com/example/graphkind/graphkind/TripleList" "ofSubject" "[I" .null := D305 (Or.inl (wD hw 19 rfl)) (ty := (.array .int)) (by decide)
      have F305_size : Fld Z h305 b305 "com/example/graphkind/graphkind/TripleList" "size" "I" (.int (0 : Int32)) := D305 (Or.inl (wD hw 26 rfl)) (ty := .int) (by decide)
      have Z305 : n0 ≤ h305.size := Nat.le_trans Z0 E305.1
      have K305 := K0.ext E305
      have go306 := go15.st T305 (mkF m 90 #[vI p0, vI p1, vI p2, vI p3, vI p4, vI j1, vI j2, vI r2, vI i1, vI i0, vI d1, vI d2, uu, uu, uu, uu, uu, uu, uu] [sR b305, sR b305]) (fun t k => by
        refine st305 _ ?_
        show SP p e below T305 (mkF m 89 #[vI p0, vI p1, vI p2, vI p3, vI p4, vI j1, vI j2, vI r2, vI i1, vI i0, vI d1, vI d2, uu, uu, uu, uu, uu, uu, uu] [sR b305]) _
        refine XS.dup X305.here hx rfl (hb hby at_89) rfl rfl ?_
        exact k)
      obtain ⟨_, _, ⟨T307, L307, k307, n307⟩, -, X307, ⟨Lc307, hQ307, l307, y307, z307⟩, st307⟩ := X305.specialBack hx (y := yN0) rfl hown (mvT hZ (wD hw 4 rfl)) (mvT hZ (wD hw 5 rfl)) (mvT hZ (wD hw 6 rfl)) (by decide) (backOf (W := 1) (rm_tinit l Z a0 hw [] b305 h305 n0 Z305 A305 g_b305 F305_pages F305_size F305_room F305_ofSubject) hZ (wD hw 6 rfl) (wD hw 3 rfl) (by decide) (by decide)) (g := (mkF m 90 #[vI p0, vI p1, vI p2, vI p3, vI p4, vI j1, vI j2, vI r2, vI i1, vI i0, vI d1, vI d2, uu, uu, uu, uu, uu, uu, uu] [sR b305, sR b305])) rfl (by rw [hml]; rfl) (Steps.refl _) (a := b305) (argsL := []) (rest := [(.ref b305)]) (lenOf pd_rm0_0 rfl) rfl (by show 2 * 0 + _ ≤ _; exact Nat.le_of_eq rfl) (hb hby at_90) (fun _ _ => ⟨rfl, e305, (by decide : 1 + 3 ≤ _), (by decide : 4 + 65 ≤ _)⟩)
      dsimp only [Pt.U, Pt.locs, Pt.cells, Pt.slots] at X307 l307 y307 z307 st307 hQ307
      rw [l307, y307, z307] at X307
      obtain ⟨pg_307, pa_307, sb_307, k1_307, k2_307, k3_307, rfl, N307q, K307, qp307_0, qp307_1, qp307_2, qp307_3, qp307_4, qp307_5, qp307_6, qp307_7, qp307_8, qp307_9, qp307_10, qp307_11, qp307_12, qp307_13, qp307_14, qp307_15, qp307_16⟩ := hQ307
      have N307 := Fr.app N0 N307q
      have f308 := A305.keep K307
      have Z307 : n0 ≤ T307.heap.size := Nat.le_trans Z305 K307.1
      have KK307 := K305.trans K307 (allS (Or.inr sz_b305) all0)
      have g_pg_307 := qp307_5
      have sz_pg_307 := Nat.le_trans K305.1 qp307_6
      have ne_b305_pg_307 : b305 ≠ pg_307 := Nat.ne_of_lt (Nat.lt_of_lt_of_le A305.lt qp307_6)
      have g_pa_307 := qp307_7
      have sz_pa_307 := Nat.le_trans K305.1 qp307_8
      have ne_b305_pa_307 : b305 ≠ pa_307 := Nat.ne_of_lt (Nat.lt_of_lt_of_le A305.lt qp307_8)
      have g_sb_307 := qp307_9
      have sz_sb_307 := Nat.le_trans K305.1 qp307_10
      have ne_b305_sb_307 : b305 ≠ sb_307 := Nat.ne_of_lt (Nat.lt_of_lt_of_le A305.lt qp307_10)
      have go313 := go306.st T307 (mkF m 102 #[vI p0, vI p1, vI p2, vI p3, vI p4, vI j1, vI j2, vI r2, vI i1, vI i0, vI d1, vI d2, vR b305, uu, uu, uu, uu, uu, uu] [sI j1, sI p0, sI i1, sR b305]) (fun t k => by
        refine st307.trans ?_
        show SP p e below T307 (mkF m 93 #[vI p0, vI p1, vI p2, vI p3, vI p4, vI j1, vI j2, vI r2, vI i1, vI i0, vI d1, vI d2, uu, uu, uu, uu, uu, uu, uu] [sR b305]) _
        refine XS.astore X307.here hx rfl (hb hby at_93) rfl rfl (l' := #[vI p0, vI p1, vI p2, vI p3, vI p4, vI j1, vI j2, vI r2, vI i1, vI i0, vI d1, vI d2, vR b305, uu, uu, uu, uu, uu, uu]) rfl ?_
        refine XS.aload X307.here hx rfl (hb hby at_95) rfl rfl ?_
        refine XS.iload X307.here hx rfl (hb hby at_97) rfl ?_
        refine XS.iloadN X307.here hx rfl (hb hby at_99) rfl ?_
        refine XS.iload X307.here hx rfl (hb hby at_100) rfl ?_
        exact k)
      obtain ⟨cq314, kq314, q314a, q314b, q314c⟩ := isOf hZ rfl qp307_0
      obtain ⟨_, _, ⟨T314, L314, k314, n314⟩, -, X314, ⟨Lc314, hQ314, l314, y314, z314⟩, st314⟩ := X307.virtualBack hx (y := yN1) (z := yN1) hown (mvT hZ (wD hw 20 rfl)) (mvT hZ (wD hw 21 rfl)) (notFace_of_selects (args := #[]) (mvT hZ (wD hw 23 rfl))) (mvT hZ (wD hw 23 rfl)) (mvT hZ (wD hw 22 rfl)) (by decide) (backOf (W := 0) (rm_add1_1 l Z a0 hw [] b305 p0 j1 pg_307 k1_307 pa_307 sb_307 k2_307 k3_307 (0 : Int32) (0 : Int32) T307.heap n0 Z307 qp307_0 qp307_1 qp307_2 qp307_3 qp307_4 qp307_11 qp307_12 qp307_13 g_b305 g_pa_307 g_sb_307 ne_b305_pg_307 ne_b305_pa_307 ne_b305_sb_307 qp307_14 qp307_15 qp307_16) hZ (wD hw 24 rfl) (wD hw 3 rfl) (by decide) (by decide)) q314a q314c (g := (mkF m 102 #[vI p0, vI p1, vI p2, vI p3, vI p4, vI j1, vI j2, vI r2, vI i1, vI i0, vI d1, vI d2, vR b305, uu, uu, uu, uu, uu, uu] [sI j1, sI p0, sI i1, sR b305])) rfl (by rw [hml]; rfl) (Steps.refl _) (argsL := [(.int (1 : Int32)), (.int p0), (.int j1)]) (rest := []) (lenOf pd_rm0_1 rfl) rfl (by show 2 * 0 + _ ≤ _; exact Nat.le_of_eq rfl) (hb hby at_102) (fun _ _ => ⟨rfl, rfl, (by decide : 4 + 0 ≤ _), (by decide : 69 + 0 ≤ _)⟩)
      dsimp only [Pt.U, Pt.locs, Pt.cells, Pt.slots] at X314 l314 y314 z314 st314 hQ314
      rw [l314, y314, z314] at X314
      obtain ⟨rfl, N314q, K314, qp314_0, qp314_1, qp314_2, qp314_3, qp314_4, qp314_5, qp314_6⟩ := hQ314
      have N314 := Fr.app N307 N314q
      have f315 := qp307_0.keep K314
      have f320 := qp307_11.keep K314 (ninS qp307_14 (ninS (Ne.symm ne_b305_pg_307) (ninS qp307_15 nin0)))
      have Z314 : n0 ≤ T314.heap.size := Nat.le_trans Z307 K314.1
      have KK314 := KK307.trans K314 (allS (Or.inr sz_pa_307) (allS (Or.inr sz_b305) (allS (Or.inr sz_sb_307) all0)))
      have go323 := go313.st T314 (mkF m 113 #[vI p0, vI p1, vI p2, vI p3, vI p4, vI j1, vI j2, vI r2, vI i1, vI i0, vI d1, vI d2, vR b305, uu, uu, uu, uu, uu, uu] [sI j2, sI r2, sI i0, sR b305]) (fun t k => by
        refine st314.trans ?_
        show SP p e below T314 (mkF m 105 #[vI p0, vI p1, vI p2, vI p3, vI p4, vI j1, vI j2, vI r2, vI i1, vI i0, vI d1, vI d2, vR b305, uu, uu, uu, uu, uu, uu] []) _
        refine XS.aload X314.here hx rfl (hb hby at_105) rfl rfl ?_
        refine XS.iload X314.here hx rfl (hb hby at_107) rfl ?_
        refine XS.iload X314.here hx rfl (hb hby at_109) rfl ?_
        refine XS.iload X314.here hx rfl (hb hby at_111) rfl ?_
        exact k)
      obtain ⟨cq324, kq324, q324a, q324b, q324c⟩ := isOf hZ rfl qp314_0
      obtain ⟨_, _, ⟨T324, L324, k324, n324⟩, -, X324, ⟨Lc324, hQ324, l324, y324, z324⟩, st324⟩ := X314.virtualBack hx (y := yN1) (z := yN1) hown (mvT hZ (wD hw 20 rfl)) (mvT hZ (wD hw 21 rfl)) (notFace_of_selects (args := #[]) (mvT hZ (wD hw 23 rfl))) (mvT hZ (wD hw 23 rfl)) (mvT hZ (wD hw 22 rfl)) (by decide) (backOf (W := 0) (rm_add2_0 l Z a0 hw [] b305 r2 j2 pg_307 k1_307 pa_307 sb_307 k2_307 k3_307 (1 : Int32) p0 j1 (0 : Int32) (1 : Int32) T314.heap n0 Z314 qp314_0 qp314_3 qp314_4 qp314_5 qp314_1 f320 qp314_6 qp314_2 g_b305 g_pa_307 g_sb_307 ne_b305_pg_307 ne_b305_pa_307 ne_b305_sb_307 qp307_14 qp307_15 qp307_16) hZ (wD hw 24 rfl) (wD hw 3 rfl) (by decide) (by decide)) q324a q324c (g := (mkF m 113 #[vI p0, vI p1, vI p2, vI p3, vI p4, vI j1, vI j2, vI r2, vI i1, vI i0, vI d1, vI d2, vR b305, uu, uu, uu, uu, uu, uu] [sI j2, sI r2, sI i0, sR b305])) rfl (by rw [hml]; rfl) (Steps.refl _) (argsL := [(.int (0 : Int32)), (.int r2), (.int j2)]) (rest := []) (lenOf pd_rm0_1 rfl) rfl (by show 2 * 0 + _ ≤ _; exact Nat.le_of_eq rfl) (hb hby at_113) (fun _ _ => ⟨rfl, rfl, (by decide : 4 + 0 ≤ _), (by decide : 69 + 0 ≤ _)⟩)
      dsimp only [Pt.U, Pt.locs, Pt.cells, Pt.slots] at X324 l324 y324 z324 st324 hQ324
      rw [l324, y324, z324] at X324
      obtain ⟨rfl, N324q, K324, qp324_0, qp324_1, qp324_2⟩ := hQ324
      have N324 := Fr.app N314 N324q
      have f325 := qp314_0.keep K324
      have f326 := f320.keep K324 (ninS qp307_14 (ninS (Ne.symm ne_b305_pg_307) (ninS qp307_15 nin0)))
      have Z324 : n0 ≤ T324.heap.size := Nat.le_trans Z314 K324.1
      have KK324 := KK314.trans K324 (allS (Or.inr sz_pa_307) (allS (Or.inr sz_b305) (allS (Or.inr sz_sb_307) all0)))
      have go333 := go323.st T324 (mkF m 116 #[vI p0, vI p1, vI p2, vI p3, vI p4, vI j1, vI j2, vI r2, vI i1, vI i0, vI d1, vI d2, vR b305, uu, uu, uu, uu, uu, uu] []) (fun t k => by
        refine st324.trans ?_
        exact k)
      obtain ⟨T334, h334, X334, e334, E334, A334, D334, -, st334⟩ := newO X324 hx hZ hown (wD hw 28 rfl) (wD hw 29 rfl) (wD hw 30 rfl) rfl (g := (mkF m 116 #[vI p0, vI p1, vI p2, vI p3, vI p4, vI j1, vI j2, vI r2, vI i1, vI i0, vI d1, vI d2, vR b305, uu, uu, uu, uu, uu, uu] [])) rfl (hb hby at_116) (by decide) (by decide)
      obtain ⟨b334, g334⟩ : ∃ z, z = T324.heap.size := ⟨_, rfl⟩
      rw [← g334] at A334 D334 st334
      have ne_b305_b334 : b305 ≠ b334 := Nat.ne_of_lt (Nat.lt_of_lt_of_le qp324_0.lt (Nat.le_of_eq g334.symm))
      have ne_sb_307_b334 : sb_307 ≠ b334 := Nat.ne_of_lt (Nat.lt_of_lt_of_le qp324_2.lt (Nat.le_of_eq g334.symm))
      have g_b334 : n0 ≤ b334 := Nat.le_trans Z324 (Nat.le_of_eq g334.symm)
      have sz_b334 : h0.size ≤ b334 := Nat.le_trans KK324.1 (Nat.le_of_eq g334.symm)
      have f335 := qp324_0.ext E334
      have f336 := qp324_1.ext E334
      have f337 := qp324_2.ext E334
      have F334_terms : Fld Z h334 b334 "com/example/graphkind/graphkind/Statements$Builder" "terms" "I" (.int (0 : Int32)) := D334 (Or.inr (wD hw 36 rfl)) (ty := .int) (by decide)
      have F334_start : Fld Z h334 b334 "com/example/graphkind/graphkind/Statements$Builder" "start" "[I" .null := D334 (Or.inr (wD hw 38 rfl)) (ty := (.array .int)) (by decide)
      have F334_next : Fld Z h334 b334 "com/example/graphkind/graphkind/Statements$Builder" "next" "[I" .null := D334 (Or.inl (wD hw 67 rfl)) (ty := (.array .int)) (by decide)
      have F334_values : Fld Z h334 b334 "com/example/graphkind/graphkind/Statements$Builder" "values" "[J" .null := D334 (Or.inl (wD hw 70 rfl)) (ty := (.array .long)) (by decide)
      have Z334 : n0 ≤ h334.size := Nat.le_trans Z324 E334.1
      have K334 := KK324.ext E334
      have go338 := go333.st T334 (mkF m 121 #[vI p0, vI p1, vI p2, vI p3, vI p4, vI j1, vI j2, vI r2, vI i1, vI i0, vI d1, vI d2, vR b305, uu, uu, uu, uu, uu, uu] [sI i2, sR b334, sR b334]) (fun t k => by
        refine st334 _ ?_
        show SP p e below T334 (mkF m 119 #[vI p0, vI p1, vI p2, vI p3, vI p4, vI j1, vI j2, vI r2, vI i1, vI i0, vI d1, vI d2, vR b305, uu, uu, uu, uu, uu, uu] [sR b334]) _
        refine XS.dup X334.here hx rfl (hb hby at_119) rfl rfl ?_
        refine XS.iconst X334.here hx rfl (hb hby at_120) ?_
        exact k)
      obtain ⟨_, _, ⟨T339, L339, k339, n339⟩, -, X339, ⟨Lc339, hQ339, l339, y339, z339⟩, st339⟩ := X334.specialBack hx (y := yN2) rfl hown (mvT hZ (wD hw 31 rfl)) (mvT hZ (wD hw 32 rfl)) (mvT hZ (wD hw 33 rfl)) (by decide) (backOf (W := 1) (rm_binit l Z a0 hw [] b334 h334 n0 Z334 A334 g_b334 F334_terms F334_start F334_next F334_values) hZ (wD hw 33 rfl) (wD hw 30 rfl) (by decide) (by decide)) (g := (mkF m 121 #[vI p0, vI p1, vI p2, vI p3, vI p4, vI j1, vI j2, vI r2, vI i1, vI i0, vI d1, vI d2, vR b305, uu, uu, uu, uu, uu, uu] [sI i2, sR b334, sR b334])) rfl (by rw [hml]; rfl) (Steps.refl _) (a := b334) (argsL := [(.int (2 : Int32))]) (rest := [(.ref b334)]) (lenOf pd_rm0_2 rfl) rfl (by show 2 * 0 + _ ≤ _; exact Nat.le_of_eq rfl) (hb hby at_121) (fun _ _ => ⟨rfl, e334, (by decide : 5 + 1 ≤ _), (by decide : 73 + 3 ≤ _)⟩)
      dsimp only [Pt.U, Pt.locs, Pt.cells, Pt.slots] at X339 l339 y339 z339 st339 hQ339
      rw [l339, y339, z339] at X339
      obtain ⟨sa_339, ka_339, rfl, N339q, K339, qp339_0, qp339_1, qp339_2, qp339_3, qp339_4, qp339_5, qp339_6, qp339_7⟩ := hQ339
      have N339 := Fr.app N324 N339q
      have f340 := f335.keep K339
      have f341 := f336.keep K339 (ninS ne_b305_b334 nin0)
      have f342 := f337.keep K339 (ninS ne_sb_307_b334 nin0)
      have f343 := A334.keep K339
      have Z339 : n0 ≤ T339.heap.size := Nat.le_trans Z334 K339.1
      have KK339 := K334.trans K339 (allS (Or.inr sz_b334) all0)
      have g_sa_339 := qp339_5
      have sz_sa_339 := Nat.le_trans K334.1 qp339_6
      have ne_b305_sa_339 : b305 ≠ sa_339 := Nat.ne_of_lt (Nat.lt_of_lt_of_le f335.lt qp339_6)
      have ne_sb_307_sa_339 : sb_307 ≠ sa_339 := Nat.ne_of_lt (Nat.lt_of_lt_of_le f337.lt qp339_6)
      have ne_b334_sa_339 : b334 ≠ sa_339 := Nat.ne_of_lt (Nat.lt_of_lt_of_le A334.lt qp339_6)
      have go348 := go338.st T339 (mkF m 130 #[vI p0, vI p1, vI p2, vI p3, vI p4, vI j1, vI j2, vI r2, vI i1, vI i0, vI d1, vI d2, vR b305, vR b334, uu, uu, uu, uu, uu] [sR b305, sR b334]) (fun t k => by
        refine st339.trans ?_
        show SP p e below T339 (mkF m 124 #[vI p0, vI p1, vI p2, vI p3, vI p4, vI j1, vI j2, vI r2, vI i1, vI i0, vI d1, vI d2, vR b305, uu, uu, uu, uu, uu, uu] [sR b334]) _
        refine XS.astore X339.here hx rfl (hb hby at_124) rfl rfl (l' := #[vI p0, vI p1, vI p2, vI p3, vI p4, vI j1, vI j2, vI r2, vI i1, vI i0, vI d1, vI d2, vR b305, vR b334, uu, uu, uu, uu, uu]) rfl ?_
        refine XS.aload X339.here hx rfl (hb hby at_126) rfl rfl ?_
        refine XS.aload X339.here hx rfl (hb hby at_128) rfl rfl ?_
        exact k)
      obtain ⟨cq349, kq349, q349a, q349b, q349c⟩ := isOf hZ rfl qp339_0
      obtain ⟨_, _, ⟨T349, L349, k349, n349⟩, -, X349, ⟨Lc349, hQ349, l349, y349, z349⟩, st349⟩ := X339.virtualBack hx (y := yN7) (z := yN7) hown (mvT hZ (wD hw 39 rfl)) (mvT hZ (wD hw 40 rfl)) (notFace_of_selects (args := #[]) (mvT hZ (wD hw 42 rfl))) (mvT hZ (wD hw 42 rfl)) (mvT hZ (wD hw 41 rfl)) (by decide) (backOf (W := 0) (rm_count l Z a0 hw [] b334 b305 sa_339 ka_339 sb_307 k3_307 (1 : Int32) (1 : Int32) T339.heap n0 Z339 qp339_1 qp339_2 qp339_7 f340 f341 f342 g_sa_339 ne_b334_sa_339 ne_b305_sa_339 ne_sb_307_sa_339) hZ (wD hw 43 rfl) (wD hw 30 rfl) (by decide) (by decide)) q349a q349c (g := (mkF m 130 #[vI p0, vI p1, vI p2, vI p3, vI p4, vI j1, vI j2, vI r2, vI i1, vI i0, vI d1, vI d2, vR b305, vR b334, uu, uu, uu, uu, uu] [sR b305, sR b334])) rfl (by rw [hml]; rfl) (Steps.refl _) (argsL := [(.ref b305)]) (rest := []) (lenOf pd_rm0_3 rfl) rfl (by show 2 * 0 + _ ≤ _; exact Nat.le_of_eq rfl) (hb hby at_130) (fun _ _ => ⟨rfl, rfl, (by decide : 6 + 0 ≤ _), (by decide : 76 + 0 ≤ _)⟩)
      dsimp only [Pt.U, Pt.locs, Pt.cells, Pt.slots] at X349 l349 y349 z349 st349 hQ349
      rw [l349, y349, z349] at X349
      obtain ⟨rfl, N349q, K349, qp349_0⟩ := hQ349
      have N349 := Fr.app N339 N349q
      have f350 := f340.keep K349
      have f351 := f341.keep K349 (ninS ne_b305_sa_339 nin0)
      have f352 := f342.keep K349 (ninS ne_sb_307_sa_339 nin0)
      have f353 := qp339_0.keep K349
      have f354 := qp339_1.keep K349 (ninS ne_b334_sa_339 nin0)
      have f355 := qp339_2.keep K349 (ninS ne_b334_sa_339 nin0)
      have f356 := qp339_3.keep K349 (ninS ne_b334_sa_339 nin0)
      have f357 := qp339_4.keep K349 (ninS ne_b334_sa_339 nin0)
      have Z349 : n0 ≤ T349.heap.size := Nat.le_trans Z339 K349.1
      have KK349 := KK339.trans K349 (allS (Or.inr sz_sa_339) all0)
      have go359 := go348.st T349 (mkF m 135 #[vI p0, vI p1, vI p2, vI p3, vI p4, vI j1, vI j2, vI r2, vI i1, vI i0, vI d1, vI d2, vR b305, vR b334, uu, uu, uu, uu, uu] [sR b334]) (fun t k => by
        refine st349.trans ?_
        show SP p e below T349 (mkF m 133 #[vI p0, vI p1, vI p2, vI p3, vI p4, vI j1, vI j2, vI r2, vI i1, vI i0, vI d1, vI d2, vR b305, vR b334, uu, uu, uu, uu, uu] []) _
        refine XS.aload X349.here hx rfl (hb hby at_133) rfl rfl ?_
        exact k)
      obtain ⟨cq360, kq360, q360a, q360b, q360c⟩ := isOf hZ rfl f353
      obtain ⟨_, _, ⟨T360, L360, k360, n360⟩, -, X360, ⟨Lc360, hQ360, l360, y360, z360⟩, st360⟩ := X349.virtualBack hx (y := yN8) (z := yN8) hown (mvT hZ (wD hw 49 rfl)) (mvT hZ (wD hw 50 rfl)) (notFace_of_selects (args := #[]) (mvT hZ (wD hw 52 rfl))) (mvT hZ (wD hw 52 rfl)) (mvT hZ (wD hw 51 rfl)) (by decide) (backOf (W := 0) (rm_start1 l Z a0 hw [] b334 sa_339 ka_339 T349.heap n0 Z349 f353 f354 f355 f356 f357 qp349_0 g_sa_339 g_b334 ne_b334_sa_339) hZ (wD hw 53 rfl) (wD hw 30 rfl) (by decide) (by decide)) q360a q360c (g := (mkF m 135 #[vI p0, vI p1, vI p2, vI p3, vI p4, vI j1, vI j2, vI r2, vI i1, vI i0, vI d1, vI d2, vR b305, vR b334, uu, uu, uu, uu, uu] [sR b334])) rfl (by rw [hml]; rfl) (Steps.refl _) (argsL := []) (rest := []) (lenOf pd_rm0_0 rfl) rfl (by show 2 * 0 + _ ≤ _; exact Nat.le_of_eq rfl) (hb hby at_135) (fun _ _ => ⟨rfl, rfl, (by decide : 6 + 2 ≤ _), (by decide : 76 + 4 ≤ _)⟩)
      dsimp only [Pt.U, Pt.locs, Pt.cells, Pt.slots] at X360 l360 y360 z360 st360 hQ360
      rw [l360, y360, z360] at X360
      obtain ⟨nx_360, va_360, kx_360, kv_360, rfl, N360q, K360, qp360_0, qp360_1, qp360_2, qp360_3, qp360_4, qp360_5, qp360_6, qp360_7, qp360_8, qp360_9, qp360_10, qp360_11⟩ := hQ360
      have N360 := Fr.app N349 N360q
      have f361 := f353.keep K360
      have Z360 : n0 ≤ T360.heap.size := Nat.le_trans Z349 K360.1
      have KK360 := KK349.trans K360 (allS (Or.inr sz_sa_339) (allS (Or.inr sz_b334) all0))
      have g_nx_360 := qp360_0
      have sz_nx_360 := Nat.le_trans KK349.1 qp360_1
      have ne_b334_nx_360 : b334 ≠ nx_360 := Nat.ne_of_lt (Nat.lt_of_lt_of_le f353.lt qp360_1)
      have ne_sa_339_nx_360 : sa_339 ≠ nx_360 := Nat.ne_of_lt (Nat.lt_of_lt_of_le qp349_0.lt qp360_1)
      have g_va_360 := qp360_2
      have sz_va_360 := Nat.le_trans KK349.1 qp360_3
      have ne_b334_va_360 : b334 ≠ va_360 := Nat.ne_of_lt (Nat.lt_of_lt_of_le f353.lt qp360_3)
      have ne_sa_339_va_360 : sa_339 ≠ va_360 := Nat.ne_of_lt (Nat.lt_of_lt_of_le qp349_0.lt qp360_3)
      have go367 := go359.st T360 (mkF m 147 #[vI p0, vI p1, vI p2, vI p3, vI p4, vI j1, vI j2, vI r2, vI i1, vI i0, vI d1, vI d2, vR b305, vR b334, uu, uu, uu, uu, uu] [sI d1, sI j1, sI p0, sI i1, sR b334]) (fun t k => by
        refine st360.trans ?_
        show SP p e below T360 (mkF m 138 #[vI p0, vI p1, vI p2, vI p3, vI p4, vI j1, vI j2, vI r2, vI i1, vI i0, vI d1, vI d2, vR b305, vR b334, uu, uu, uu, uu, uu] []) _
        refine XS.aload X360.here hx rfl (hb hby at_138) rfl rfl ?_
        refine XS.iload X360.here hx rfl (hb hby at_140) rfl ?_
        refine XS.iloadN X360.here hx rfl (hb hby at_142) rfl ?_
        refine XS.iload X360.here hx rfl (hb hby at_143) rfl ?_
        refine XS.iload X360.here hx rfl (hb hby at_145) rfl ?_
        exact k)
      obtain ⟨cq368, kq368, q368a, q368b, q368c⟩ := isOf hZ rfl f361
      obtain ⟨_, _, ⟨T368, L368, k368, n368⟩, -, X368, ⟨Lc368, hQ368, l368, y368, z368⟩, st368⟩ := X360.virtualBack hx (y := yN9) (z := yN9) hown (mvT hZ (wD hw 71 rfl)) (mvT hZ (wD hw 72 rfl)) (notFace_of_selects (args := #[]) (mvT hZ (wD hw 74 rfl))) (mvT hZ (wD hw 74 rfl)) (mvT hZ (wD hw 73 rfl)) (by decide) (backOf (W := 0) (rm_put1_01 l Z a0 hw [] b334 p0 j1 d1 nx_360 va_360 kx_360 kv_360 (0 : Int64) (0 : Int64) T360.heap n0 Z360 qp360_6 qp360_7 qp360_9 qp360_10 g_nx_360 g_va_360 ne_b334_nx_360 ne_b334_va_360 qp360_11) hZ (wD hw 75 rfl) (wD hw 30 rfl) (by decide) (by decide)) q368a q368c (g := (mkF m 147 #[vI p0, vI p1, vI p2, vI p3, vI p4, vI j1, vI j2, vI r2, vI i1, vI i0, vI d1, vI d2, vR b305, vR b334, uu, uu, uu, uu, uu] [sI d1, sI j1, sI p0, sI i1, sR b334])) rfl (by rw [hml]; rfl) (Steps.refl _) (argsL := [(.int (1 : Int32)), (.int p0), (.int j1), (.int d1)]) (rest := []) (lenOf pd_rm0_4 rfl) rfl (by show 2 * 0 + _ ≤ _; exact Nat.le_of_eq rfl) (hb hby at_147) (fun _ _ => ⟨rfl, rfl, (by decide : 8 + 0 ≤ _), (by decide : 80 + 0 ≤ _)⟩)
      dsimp only [Pt.U, Pt.locs, Pt.cells, Pt.slots] at X368 l368 y368 z368 st368 hQ368
      rw [l368, y368, z368] at X368
      obtain ⟨rfl, N368q, K368, qp368_0, qp368_1⟩ := hQ368
      have N368 := Fr.app N360 N368q
      have f369 := f361.keep K368
      have f370 := qp360_4.keep K368 (ninS ne_b334_nx_360 (ninS ne_b334_va_360 nin0))
      have f371 := qp360_5.keep K368 (ninS ne_b334_nx_360 (ninS ne_b334_va_360 nin0))
      have f372 := qp360_6.keep K368 (ninS ne_b334_nx_360 (ninS ne_b334_va_360 nin0))
      have f373 := qp360_7.keep K368 (ninS ne_b334_nx_360 (ninS ne_b334_va_360 nin0))
      have f374 := qp360_8.keep K368 (ninS ne_sa_339_nx_360 (ninS ne_sa_339_va_360 nin0))
      have Z368 : n0 ≤ T368.heap.size := Nat.le_trans Z360 K368.1
      have KK368 := KK360.trans K368 (allS (Or.inr sz_nx_360) (allS (Or.inr sz_va_360) all0))
      have go377 := go367.st T368 (mkF m 160 #[vI p0, vI p1, vI p2, vI p3, vI p4, vI j1, vI j2, vI r2, vI i1, vI i0, vI d1, vI d2, vR b305, vR b334, uu, uu, uu, uu, uu] [sI d2, sI j2, sI r2, sI i0, sR b334]) (fun t k => by
        refine st368.trans ?_
        show SP p e below T368 (mkF m 150 #[vI p0, vI p1, vI p2, vI p3, vI p4, vI j1, vI j2, vI r2, vI i1, vI i0, vI d1, vI d2, vR b305, vR b334, uu, uu, uu, uu, uu] []) _
        refine XS.aload X368.here hx rfl (hb hby at_150) rfl rfl ?_
        refine XS.iload X368.here hx rfl (hb hby at_152) rfl ?_
        refine XS.iload X368.here hx rfl (hb hby at_154) rfl ?_
        refine XS.iload X368.here hx rfl (hb hby at_156) rfl ?_
        refine XS.iload X368.here hx rfl (hb hby at_158) rfl ?_
        exact k)
      obtain ⟨cq378, kq378, q378a, q378b, q378c⟩ := isOf hZ rfl f369
      obtain ⟨_, _, ⟨T378, L378, k378, n378⟩, -, X378, ⟨Lc378, hQ378, l378, y378, z378⟩, st378⟩ := X368.virtualBack hx (y := yN9) (z := yN9) hown (mvT hZ (wD hw 71 rfl)) (mvT hZ (wD hw 72 rfl)) (notFace_of_selects (args := #[]) (mvT hZ (wD hw 74 rfl))) (mvT hZ (wD hw 74 rfl)) (mvT hZ (wD hw 73 rfl)) (by decide) (backOf (W := 0) (rm_put0_02 l Z a0 hw [] b334 r2 j2 d2 nx_360 va_360 kx_360 kv_360 (0 : Int64) (own_pack p0 j1 d1) T368.heap n0 Z368 f372 f373 qp368_0 qp368_1 g_nx_360 g_va_360 ne_b334_nx_360 ne_b334_va_360 qp360_11) hZ (wD hw 75 rfl) (wD hw 30 rfl) (by decide) (by decide)) q378a q378c (g := (mkF m 160 #[vI p0, vI p1, vI p2, vI p3, vI p4, vI j1, vI j2, vI r2, vI i1, vI i0, vI d1, vI d2, vR b305, vR b334, uu, uu, uu, uu, uu] [sI d2, sI j2, sI r2, sI i0, sR b334])) rfl (by rw [hml]; rfl) (Steps.refl _) (argsL := [(.int (0 : Int32)), (.int r2), (.int j2), (.int d2)]) (rest := []) (lenOf pd_rm0_4 rfl) rfl (by show 2 * 0 + _ ≤ _; exact Nat.le_of_eq rfl) (hb hby at_160) (fun _ _ => ⟨rfl, rfl, (by decide : 8 + 0 ≤ _), (by decide : 80 + 0 ≤ _)⟩)
      dsimp only [Pt.U, Pt.locs, Pt.cells, Pt.slots] at X378 l378 y378 z378 st378 hQ378
      rw [l378, y378, z378] at X378
      obtain ⟨rfl, N378q, K378, qp378_0, qp378_1⟩ := hQ378
      have N378 := Fr.app N368 N378q
      have f379 := f369.keep K378
      have f380 := f370.keep K378 (ninS ne_b334_nx_360 (ninS ne_b334_va_360 nin0))
      have f381 := f371.keep K378 (ninS ne_b334_nx_360 (ninS ne_b334_va_360 nin0))
      have f382 := f372.keep K378 (ninS ne_b334_nx_360 (ninS ne_b334_va_360 nin0))
      have f383 := f373.keep K378 (ninS ne_b334_nx_360 (ninS ne_b334_va_360 nin0))
      have f384 := f374.keep K378 (ninS ne_sa_339_nx_360 (ninS ne_sa_339_va_360 nin0))
      have Z378 : n0 ≤ T378.heap.size := Nat.le_trans Z368 K378.1
      have KK378 := KK368.trans K378 (allS (Or.inr sz_nx_360) (allS (Or.inr sz_va_360) all0))
      have go387 := go377.st T378 (mkF m 165 #[vI p0, vI p1, vI p2, vI p3, vI p4, vI j1, vI j2, vI r2, vI i1, vI i0, vI d1, vI d2, vR b305, vR b334, uu, uu, uu, uu, uu] [sR b334]) (fun t k => by
        refine st378.trans ?_
        show SP p e below T378 (mkF m 163 #[vI p0, vI p1, vI p2, vI p3, vI p4, vI j1, vI j2, vI r2, vI i1, vI i0, vI d1, vI d2, vR b305, vR b334, uu, uu, uu, uu, uu] []) _
        refine XS.aload X378.here hx rfl (hb hby at_163) rfl rfl ?_
        exact k)
      obtain ⟨cq388, kq388, q388a, q388b, q388c⟩ := isOf hZ rfl f379
      obtain ⟨_, _, ⟨T388, L388, k388, n388⟩, -, X388, ⟨Lc388, hQ388, l388, y388, z388⟩, st388⟩ := X378.virtualBack hx (y := yN17) (z := yN17) hown (mvT hZ (wD hw 76 rfl)) (mvT hZ (wD hw 77 rfl)) (notFace_of_selects (args := #[]) (mvT hZ (wD hw 79 rfl))) (mvT hZ (wD hw 79 rfl)) (mvT hZ (wD hw 78 rfl)) (by decide) (backOf (W := 0) (rm_buildB l Z a0 hw [] b334 sa_339 ka_339 nx_360 kx_360 va_360 kv_360 (own_pack r2 j2 d2) (own_pack p0 j1 d1) T378.heap n0 Z378 f379 f380 f381 f382 f383 f384 qp378_0 qp378_1 g_sa_339 g_va_360 g_b334 ne_b334_sa_339 ne_b334_nx_360 ne_b334_va_360 ne_sa_339_nx_360 ne_sa_339_va_360 qp360_11) hZ (wD hw 80 rfl) (wD hw 30 rfl) (by decide) (by decide)) q388a q388c (g := (mkF m 165 #[vI p0, vI p1, vI p2, vI p3, vI p4, vI j1, vI j2, vI r2, vI i1, vI i0, vI d1, vI d2, vR b305, vR b334, uu, uu, uu, uu, uu] [sR b334])) rfl (by rw [hml]; rfl) (Steps.refl _) (argsL := []) (rest := []) (lenOf pd_rm0_5 rfl) rfl (by show 2 * 0 + _ ≤ _; exact Nat.le_of_eq rfl) (hb hby at_165) (fun _ _ => ⟨rfl, rfl, (by decide : 8 + 1 ≤ _), (by decide : 80 + 2 ≤ _)⟩)
      dsimp only [Pt.U, Pt.locs, Pt.cells, Pt.slots] at X388 l388 y388 z388 st388 hQ388
      rw [l388, y388, z388] at X388
      obtain ⟨b_388, rfl, N388q, K388, qp388_0, qp388_1, qp388_2, qp388_3, qp388_4, qp388_5, qp388_6⟩ := hQ388
      have N388 := Fr.app N378 N388q
      have f389 := f379.keep K388
      have f395 := qp378_0.keep K388 (ninS qp360_11 (ninS (Ne.symm ne_sa_339_nx_360) (ninS (Ne.symm ne_b334_nx_360) nin0)))
      have Z388 : n0 ≤ T388.heap.size := Nat.le_trans Z378 K388.1
      have KK388 := KK378.trans K388 (allS (Or.inr sz_va_360) (allS (Or.inr sz_sa_339) (allS (Or.inr sz_b334) all0)))
      have g_b_388 := qp388_0
      have sz_b_388 := Nat.le_trans KK378.1 qp388_1
      have ne_b334_b_388 : b334 ≠ b_388 := Nat.ne_of_lt (Nat.lt_of_lt_of_le f379.lt qp388_1)
      have ne_sa_339_b_388 : sa_339 ≠ b_388 := Nat.ne_of_lt (Nat.lt_of_lt_of_le f384.lt qp388_1)
      have ne_nx_360_b_388 : nx_360 ≠ b_388 := Nat.ne_of_lt (Nat.lt_of_lt_of_le qp378_0.lt qp388_1)
      have ne_va_360_b_388 : va_360 ≠ b_388 := Nat.ne_of_lt (Nat.lt_of_lt_of_le qp378_1.lt qp388_1)
      have go397 := go387.st T388 (mkF m 173 #[vI p0, vI p1, vI p2, vI p3, vI p4, vI j1, vI j2, vI r2, vI i1, vI i0, vI d1, vI d2, vR b305, vR b334, vR b_388, uu, uu, uu, uu] [sI i0, sR b_388]) (fun t k => by
        refine st388.trans ?_
        show SP p e below T388 (mkF m 168 #[vI p0, vI p1, vI p2, vI p3, vI p4, vI j1, vI j2, vI r2, vI i1, vI i0, vI d1, vI d2, vR b305, vR b334, uu, uu, uu, uu, uu] [sR b_388]) _
        refine XS.astore X388.here hx rfl (hb hby at_168) rfl rfl (l' := #[vI p0, vI p1, vI p2, vI p3, vI p4, vI j1, vI j2, vI r2, vI i1, vI i0, vI d1, vI d2, vR b305, vR b334, vR b_388, uu, uu, uu, uu]) rfl ?_
        refine XS.aload X388.here hx rfl (hb hby at_170) rfl rfl ?_
        refine XS.iconst X388.here hx rfl (hb hby at_172) ?_
        exact k)
      obtain ⟨cq398, kq398, q398a, q398b, q398c⟩ := isOf hZ rfl qp388_2
      obtain ⟨_, _, ⟨T398, L398, k398, n398⟩, -, X398, ⟨Lc398, hQ398, l398, y398, z398⟩, st398⟩ := X388.virtualBack hx (y := yN18) (z := yN18) hown (mvT hZ (wD hw 112 rfl)) (mvT hZ (wD hw 113 rfl)) (notFace_of_selects (args := #[]) (mvT hZ (wD hw 115 rfl))) (mvT hZ (wD hw 115 rfl)) (mvT hZ (wD hw 114 rfl)) (by decide) (backOf (W := 0) (rm_end0 l Z a0 hw [] b_388 sa_339 ka_339 (0 : Int32) (1 : Int32) (2 : Int32) T388.heap n0 Z388 qp388_3 qp388_5) hZ (wD hw 116 rfl) (wD hw 103 rfl) (by decide) (by decide)) q398a q398c (g := (mkF m 173 #[vI p0, vI p1, vI p2, vI p3, vI p4, vI j1, vI j2, vI r2, vI i1, vI i0, vI d1, vI d2, vR b305, vR b334, vR b_388, uu, uu, uu, uu] [sI i0, sR b_388])) rfl (by rw [hml]; rfl) (Steps.refl _) (argsL := [(.int (0 : Int32))]) (rest := []) (lenOf pd_rm0_6 rfl) rfl (by show 2 * 0 + _ ≤ _; exact Nat.le_of_eq rfl) (hb hby at_173) (fun _ _ => ⟨rfl, rfl, (by decide : 9 + 0 ≤ _), (by decide : 82 + 0 ≤ _)⟩)
      dsimp only [Pt.U, Pt.locs, Pt.cells, Pt.slots] at X398 l398 y398 z398 st398 hQ398
      rw [l398, y398, z398] at X398
      obtain ⟨rfl, N398q, e398⟩ := hQ398
      have N398 := Fr.app N388 N398q
      have go399 := go397.st T398 (mkF m 181 #[vI p0, vI p1, vI p2, vI p3, vI p4, vI j1, vI j2, vI r2, vI i1, vI i0, vI d1, vI d2, vR b305, vR b334, vR b_388, vI i1, uu, uu, uu] [sI i1, sR b_388]) (fun t k => by
        refine st398.trans ?_
        show SP p e below T398 (mkF m 176 #[vI p0, vI p1, vI p2, vI p3, vI p4, vI j1, vI j2, vI r2, vI i1, vI i0, vI d1, vI d2, vR b305, vR b334, vR b_388, uu, uu, uu, uu] [sI i1]) _
        refine XS.istore X398.here hx rfl (hb hby at_176) rfl (l' := #[vI p0, vI p1, vI p2, vI p3, vI p4, vI j1, vI j2, vI r2, vI i1, vI i0, vI d1, vI d2, vR b305, vR b334, vR b_388, vI i1, uu, uu, uu]) rfl ?_
        refine XS.aload X398.here hx rfl (hb hby at_178) rfl rfl ?_
        refine XS.iconst X398.here hx rfl (hb hby at_180) ?_
        exact k)
      obtain ⟨cq400, kq400, q400a, q400b, q400c⟩ := isOf hZ e398 qp388_2
      obtain ⟨_, _, ⟨T400, L400, k400, n400⟩, -, X400, ⟨Lc400, hQ400, l400, y400, z400⟩, st400⟩ := X398.virtualBack hx (y := yN18) (z := yN18) hown (mvT hZ (wD hw 112 rfl)) (mvT hZ (wD hw 113 rfl)) (notFace_of_selects (args := #[]) (mvT hZ (wD hw 115 rfl))) (mvT hZ (wD hw 115 rfl)) (mvT hZ (wD hw 114 rfl)) (by decide) (backOf (W := 0) (rm_end1 l Z a0 hw [] b_388 sa_339 ka_339 (0 : Int32) (1 : Int32) (2 : Int32) T388.heap n0 Z388 qp388_3 qp388_5) hZ (wD hw 116 rfl) (wD hw 103 rfl) (by decide) (by decide)) q400a q400c (g := (mkF m 181 #[vI p0, vI p1, vI p2, vI p3, vI p4, vI j1, vI j2, vI r2, vI i1, vI i0, vI d1, vI d2, vR b305, vR b334, vR b_388, vI i1, uu, uu, uu] [sI i1, sR b_388])) rfl (by rw [hml]; rfl) (Steps.refl _) (argsL := [(.int (1 : Int32))]) (rest := []) (lenOf pd_rm0_6 rfl) rfl (by show 2 * 0 + _ ≤ _; exact Nat.le_of_eq rfl) (hb hby at_181) (fun _ _ => ⟨rfl, e398, (by decide : 9 + 0 ≤ _), (by decide : 82 + 0 ≤ _)⟩)
      dsimp only [Pt.U, Pt.locs, Pt.cells, Pt.slots] at X400 l400 y400 z400 st400 hQ400
      rw [l400, y400, z400] at X400
      obtain ⟨rfl, N400q, e400⟩ := hQ400
      have N400 := Fr.app N398 N400q
      have go404 := go399.st T400 (mkF m 214 #[vI p0, vI p1, vI p2, vI p3, vI p4, vI j1, vI j2, vI r2, vI i1, vI i0, vI d1, vI d2, vR b305, vR b334, vR b_388, vI i1, vI i2, uu, uu] [sI d1, sI j1, sI p0, sI i1, sR b_388]) (fun t k => by
        refine st400.trans ?_
        show SP p e below T400 (mkF m 184 #[vI p0, vI p1, vI p2, vI p3, vI p4, vI j1, vI j2, vI r2, vI i1, vI i0, vI d1, vI d2, vR b305, vR b334, vR b_388, vI i1, uu, uu, uu] [sI i2]) _
        refine XS.istore X400.here hx rfl (hb hby at_184) rfl (l' := #[vI p0, vI p1, vI p2, vI p3, vI p4, vI j1, vI j2, vI r2, vI i1, vI i0, vI d1, vI d2, vR b305, vR b334, vR b_388, vI i1, vI i2, uu, uu]) rfl ?_
        refine XS.iload X400.here hx rfl (hb hby at_186) rfl ?_
        refine XS.iload X400.here hx rfl (hb hby at_188) rfl ?_
        refine XS.icmpNo X400.here hx rfl (hb hby at_190) rfl (feq ((by decide) : ¬ ((1 : Int32) = (0 : Int32)))).1 ?_
        refine XS.iload X400.here hx rfl (hb hby at_193) rfl ?_
        refine XS.iconst X400.here hx rfl (hb hby at_195) ?_
        refine XS.icmpNo X400.here hx rfl (hb hby at_196) rfl (teq ((by decide) : (1 : Int32) = (1 : Int32))).2 ?_
        refine XS.iload X400.here hx rfl (hb hby at_199) rfl ?_
        refine XS.iconst X400.here hx rfl (hb hby at_201) ?_
        show SP p e below T400 (mkF m 202 #[vI p0, vI p1, vI p2, vI p3, vI p4, vI j1, vI j2, vI r2, vI i1, vI i0, vI d1, vI d2, vR b305, vR b334, vR b_388, vI i1, vI i2, uu, uu] [sI i2, sI i2]) _
        refine XS.icmpNo X400.here hx rfl (hb hby at_202) rfl (teq ((by decide) : (2 : Int32) = (2 : Int32))).2 ?_
        refine XS.aload X400.here hx rfl (hb hby at_205) rfl rfl ?_
        refine XS.iload X400.here hx rfl (hb hby at_207) rfl ?_
        refine XS.iloadN X400.here hx rfl (hb hby at_209) rfl ?_
        refine XS.iload X400.here hx rfl (hb hby at_210) rfl ?_
        refine XS.iload X400.here hx rfl (hb hby at_212) rfl ?_
        exact k)
      obtain ⟨_, _, ⟨T405, L405, k405, n405⟩, -, X405, ⟨Lc405, hQ405, l405, y405, z405⟩, st405⟩ := Jvm.LawKit.callS X400 hx (y := yN22) hown (mvT hZ (wD hw 117 rfl)) (mvT hZ (wD hw 118 rfl)) (mvT hZ (wD hw 119 rfl)) (mvT hZ (wD hw 120 rfl)) (by decide) (backOf (W := 0) (rm20 l Z a0 hw [] b_388 (1 : Int32) p0 j1 d1 va_360 kv_360 (2 : Int32) [(.long (own_pack r2 j2 d2)), (.long (own_pack p0 j1 d1))] (own_pack p0 j1 d1) T388.heap n0 Z388 qp388_2 qp388_4 qp388_6 ⟨by decide, by decide⟩ rfl) hZ (wD hw 120 rfl) (wD hw 119 rfl) (by decide) (by decide)) (g := (mkF m 214 #[vI p0, vI p1, vI p2, vI p3, vI p4, vI j1, vI j2, vI r2, vI i1, vI i0, vI d1, vI d2, vR b305, vR b334, vR b_388, vI i1, vI i2, uu, uu] [sI d1, sI j1, sI p0, sI i1, sR b_388])) rfl (by rw [hml]; rfl) (argsL := [(.ref b_388), (.int (1 : Int32)), (.int p0), (.int j1), (.int d1)]) (rest := []) (lenOf pd_rm0_7 rfl) rfl (by show 2 * 0 + _ ≤ _; exact Nat.le_of_eq rfl) (hb hby at_214) (fun _ _ => ⟨rfl, e400, (by decide : 9 + 0 ≤ _), (by decide : 82 + 0 ≤ _)⟩)
      dsimp only [Pt.U, Pt.locs, Pt.cells, Pt.slots] at X405 l405 y405 z405 st405 hQ405
      rw [l405, y405, z405] at X405
      obtain ⟨rfl, N405q, e405⟩ := hQ405
      have N405 := Fr.app N400 N405q
      have go407 := go404.st T405 (mkF m 230 #[vI p0, vI p1, vI p2, vI p3, vI p4, vI j1, vI j2, vI r2, vI i1, vI i0, vI d1, vI d2, vR b305, vR b334, vR b_388, vI i1, vI i2, uu, uu] [sI d2, sI j2, sI r2, sI i0, sR b_388]) (fun t k => by
        refine st405 _ ?_
        show SP p e below T405 (mkF m 217 #[vI p0, vI p1, vI p2, vI p3, vI p4, vI j1, vI j2, vI r2, vI i1, vI i0, vI d1, vI d2, vR b305, vR b334, vR b_388, vI i1, vI i2, uu, uu] [(sI (own_at p0 j1 d1 (own_pack p0 j1 d1)))]) _
        refine XS.ifNo X405.here hx rfl (hb hby at_217) rfl ((if0 _ _).trans (feq (own_at_ok hn1 hb1 : ¬ ((own_at p0 j1 d1 (own_pack p0 j1 d1)) = (0 : Int32)))).1) ?_
        refine XS.aload X405.here hx rfl (hb hby at_220) rfl rfl ?_
        refine XS.iload X405.here hx rfl (hb hby at_222) rfl ?_
        refine XS.iload X405.here hx rfl (hb hby at_224) rfl ?_
        refine XS.iload X405.here hx rfl (hb hby at_226) rfl ?_
        refine XS.iload X405.here hx rfl (hb hby at_228) rfl ?_
        exact k)
      obtain ⟨_, _, ⟨T408, L408, k408, n408⟩, -, X408, ⟨Lc408, hQ408, l408, y408, z408⟩, st408⟩ := Jvm.LawKit.callS X405 hx (y := yN22) hown (mvT hZ (wD hw 117 rfl)) (mvT hZ (wD hw 118 rfl)) (mvT hZ (wD hw 119 rfl)) (mvT hZ (wD hw 120 rfl)) (by decide) (backOf (W := 0) (rm20 l Z a0 hw [] b_388 (0 : Int32) r2 j2 d2 va_360 kv_360 (2 : Int32) [(.long (own_pack r2 j2 d2)), (.long (own_pack p0 j1 d1))] (own_pack r2 j2 d2) T388.heap n0 Z388 qp388_2 qp388_4 qp388_6 ⟨by decide, by decide⟩ rfl) hZ (wD hw 120 rfl) (wD hw 119 rfl) (by decide) (by decide)) (g := (mkF m 230 #[vI p0, vI p1, vI p2, vI p3, vI p4, vI j1, vI j2, vI r2, vI i1, vI i0, vI d1, vI d2, vR b305, vR b334, vR b_388, vI i1, vI i2, uu, uu] [sI d2, sI j2, sI r2, sI i0, sR b_388])) rfl (by rw [hml]; rfl) (argsL := [(.ref b_388), (.int (0 : Int32)), (.int r2), (.int j2), (.int d2)]) (rest := []) (lenOf pd_rm0_7 rfl) rfl (by show 2 * 0 + _ ≤ _; exact Nat.le_of_eq rfl) (hb hby at_230) (fun _ _ => ⟨rfl, e405, (by decide : 9 + 0 ≤ _), (by decide : 82 + 0 ≤ _)⟩)
      dsimp only [Pt.U, Pt.locs, Pt.cells, Pt.slots] at X408 l408 y408 z408 st408 hQ408
      rw [l408, y408, z408] at X408
      obtain ⟨rfl, N408q, e408⟩ := hQ408
      have N408 := Fr.app N405 N408q
      have go410 := go407.st T408 (mkF m 241 #[vI p0, vI p1, vI p2, vI p3, vI p4, vI j1, vI j2, vI r2, vI i1, vI i0, vI d1, vI d2, vR b305, vR b334, vR b_388, vI i1, vI i2, uu, uu] [sI i1]) (fun t k => by
        refine st408 _ ?_
        show SP p e below T408 (mkF m 233 #[vI p0, vI p1, vI p2, vI p3, vI p4, vI j1, vI j2, vI r2, vI i1, vI i0, vI d1, vI d2, vR b305, vR b334, vR b_388, vI i1, vI i2, uu, uu] [(sI (own_at r2 j2 d2 (own_pack r2 j2 d2)))]) _
        refine XS.ifNo X408.here hx rfl (hb hby at_233) rfl ((if0 _ _).trans (feq (own_at_ok hn2 hb2 : ¬ ((own_at r2 j2 d2 (own_pack r2 j2 d2)) = (0 : Int32)))).1) ?_
        refine XS.iconst X408.here hx rfl (hb hby at_236) ?_
        refine XS.goto X408.here hx rfl (pc0 := 237) (pc' := 241) rfl (hb hby at_237) (by decide) (by decide) ?_
        exact k)
      obtain ⟨fs, hr, hrun, hended, hW, hsame⟩ := X408.leave (v := some (.int (1 : Int32))) (fun h => by rw [Bd.returns] at h; cases h)
      refine ⟨_, _, go410 _ ?_, hrun, hended, _, _, rfl, ?_, ⟨_, rfl⟩, hW, hsame.mono (by decide) (by decide)⟩
      · exact retN X408 hx (t := .boolean) Bd.returns (by simp) (hb hby at_241) hr
      · show Q_rm0 Z p0 p1 p2 p3 p4 h0 n0 _ T408.heap _
        rw [e408]
        exact ⟨rfl, N408⟩
    · subst q
      obtain ⟨T411, h411, X411, e411, E411, A411, D411, -, st411⟩ := newO X0 hx hZ hown (wD hw 1 rfl) (wD hw 2 rfl) (wD hw 3 rfl) e0 (g := (mkF m 86 #[vI p0, vI p1, vI p2, vI p3, vI p4, vI j1, vI j2, vI r2, vI i1, vI i1, vI d1, vI d2, uu, uu, uu, uu, uu, uu, uu] [])) rfl (hb hby at_86) (by decide) (by decide)
      obtain ⟨b411, g411⟩ : ∃ z, z = h0.size := ⟨_, rfl⟩
      rw [← g411] at A411 D411 st411
      have g_b411 : n0 ≤ b411 := Nat.le_trans Z0 (Nat.le_of_eq g411.symm)
      have sz_b411 : h0.size ≤ b411 := Nat.le_trans K0.1 (Nat.le_of_eq g411.symm)
      have F411_pages : Fld Z h411 b411 "com/example/graphkind/graphkind/TripleList" "pages" "[[I" .null := D411 (Or.inl (wD hw 15 rfl)) (ty := (.array (.array .int))) (by decide)
      have F411_room : Fld Z h411 b411 "com/example/graphkind/graphkind/TripleList" "room" "I" (.int (0 : Int32)) := D411 (Or.inl (wD hw 17 rfl)) (ty := .int) (by decide)
      have F411_ofSubject : Fld Z h411 b411 "com/example/graphkind/graphkind/TripleList" "ofSubject" "[I" .null := D411 (Or.inl (wD hw 19 rfl)) (ty := (.array .int)) (by decide)
      have F411_size : Fld Z h411 b411 "com/example/graphkind/graphkind/TripleList" "size" "I" (.int (0 : Int32)) := D411 (Or.inl (wD hw 26 rfl)) (ty := .int) (by decide)
      have Z411 : n0 ≤ h411.size := Nat.le_trans Z0 E411.1
      have K411 := K0.ext E411
      have go412 := go15.st T411 (mkF m 90 #[vI p0, vI p1, vI p2, vI p3, vI p4, vI j1, vI j2, vI r2, vI i1, vI i1, vI d1, vI d2, uu, uu, uu, uu, uu, uu, uu] [sR b411, sR b411]) (fun t k => by
        refine st411 _ ?_
        show SP p e below T411 (mkF m 89 #[vI p0, vI p1, vI p2, vI p3, vI p4, vI j1, vI j2, vI r2, vI i1, vI i1, vI d1, vI d2, uu, uu, uu, uu, uu, uu, uu] [sR b411]) _
        refine XS.dup X411.here hx rfl (hb hby at_89) rfl rfl ?_
        exact k)
      obtain ⟨_, _, ⟨T413, L413, k413, n413⟩, -, X413, ⟨Lc413, hQ413, l413, y413, z413⟩, st413⟩ := X411.specialBack hx (y := yN0) rfl hown (mvT hZ (wD hw 4 rfl)) (mvT hZ (wD hw 5 rfl)) (mvT hZ (wD hw 6 rfl)) (by decide) (backOf (W := 1) (rm_tinit l Z a0 hw [] b411 h411 n0 Z411 A411 g_b411 F411_pages F411_size F411_room F411_ofSubject) hZ (wD hw 6 rfl) (wD hw 3 rfl) (by decide) (by decide)) (g := (mkF m 90 #[vI p0, vI p1, vI p2, vI p3, vI p4, vI j1, vI j2, vI r2, vI i1, vI i1, vI d1, vI d2, uu, uu, uu, uu, uu, uu, uu] [sR b411, sR b411])) rfl (by rw [hml]; rfl) (Steps.refl _) (a := b411) (argsL := []) (rest := [(.ref b411)]) (lenOf pd_rm0_0 rfl) rfl (by show 2 * 0 + _ ≤ _; exact Nat.le_of_eq rfl) (hb hby at_90) (fun _ _ => ⟨rfl, e411, (by decide : 1 + 3 ≤ _), (by decide : 4 + 65 ≤ _)⟩)
      dsimp only [Pt.U, Pt.locs, Pt.cells, Pt.slots] at X413 l413 y413 z413 st413 hQ413
      rw [l413, y413, z413] at X413
      obtain ⟨pg_413, pa_413, sb_413, k1_413, k2_413, k3_413, rfl, N413q, K413, qp413_0, qp413_1, qp413_2, qp413_3, qp413_4, qp413_5, qp413_6, qp413_7, qp413_8, qp413_9, qp413_10, qp413_11, qp413_12, qp413_13, qp413_14, qp413_15, qp413_16⟩ := hQ413
      have N413 := Fr.app N0 N413q
      have f414 := A411.keep K413
      have Z413 : n0 ≤ T413.heap.size := Nat.le_trans Z411 K413.1
      have KK413 := K411.trans K413 (allS (Or.inr sz_b411) all0)
      have g_pg_413 := qp413_5
      have sz_pg_413 := Nat.le_trans K411.1 qp413_6
      have ne_b411_pg_413 : b411 ≠ pg_413 := Nat.ne_of_lt (Nat.lt_of_lt_of_le A411.lt qp413_6)
      have g_pa_413 := qp413_7
      have sz_pa_413 := Nat.le_trans K411.1 qp413_8
      have ne_b411_pa_413 : b411 ≠ pa_413 := Nat.ne_of_lt (Nat.lt_of_lt_of_le A411.lt qp413_8)
      have g_sb_413 := qp413_9
      have sz_sb_413 := Nat.le_trans K411.1 qp413_10
      have ne_b411_sb_413 : b411 ≠ sb_413 := Nat.ne_of_lt (Nat.lt_of_lt_of_le A411.lt qp413_10)
      have go419 := go412.st T413 (mkF m 102 #[vI p0, vI p1, vI p2, vI p3, vI p4, vI j1, vI j2, vI r2, vI i1, vI i1, vI d1, vI d2, vR b411, uu, uu, uu, uu, uu, uu] [sI j1, sI p0, sI i1, sR b411]) (fun t k => by
        refine st413.trans ?_
        show SP p e below T413 (mkF m 93 #[vI p0, vI p1, vI p2, vI p3, vI p4, vI j1, vI j2, vI r2, vI i1, vI i1, vI d1, vI d2, uu, uu, uu, uu, uu, uu, uu] [sR b411]) _
        refine XS.astore X413.here hx rfl (hb hby at_93) rfl rfl (l' := #[vI p0, vI p1, vI p2, vI p3, vI p4, vI j1, vI j2, vI r2, vI i1, vI i1, vI d1, vI d2, vR b411, uu, uu, uu, uu, uu, uu]) rfl ?_
        refine XS.aload X413.here hx rfl (hb hby at_95) rfl rfl ?_
        refine XS.iload X413.here hx rfl (hb hby at_97) rfl ?_
        refine XS.iloadN X413.here hx rfl (hb hby at_99) rfl ?_
        refine XS.iload X413.here hx rfl (hb hby at_100) rfl ?_
        exact k)
      obtain ⟨cq420, kq420, q420a, q420b, q420c⟩ := isOf hZ rfl qp413_0
      obtain ⟨_, _, ⟨T420, L420, k420, n420⟩, -, X420, ⟨Lc420, hQ420, l420, y420, z420⟩, st420⟩ := X413.virtualBack hx (y := yN1) (z := yN1) hown (mvT hZ (wD hw 20 rfl)) (mvT hZ (wD hw 21 rfl)) (notFace_of_selects (args := #[]) (mvT hZ (wD hw 23 rfl))) (mvT hZ (wD hw 23 rfl)) (mvT hZ (wD hw 22 rfl)) (by decide) (backOf (W := 0) (rm_add1_1 l Z a0 hw [] b411 p0 j1 pg_413 k1_413 pa_413 sb_413 k2_413 k3_413 (0 : Int32) (0 : Int32) T413.heap n0 Z413 qp413_0 qp413_1 qp413_2 qp413_3 qp413_4 qp413_11 qp413_12 qp413_13 g_b411 g_pa_413 g_sb_413 ne_b411_pg_413 ne_b411_pa_413 ne_b411_sb_413 qp413_14 qp413_15 qp413_16) hZ (wD hw 24 rfl) (wD hw 3 rfl) (by decide) (by decide)) q420a q420c (g := (mkF m 102 #[vI p0, vI p1, vI p2, vI p3, vI p4, vI j1, vI j2, vI r2, vI i1, vI i1, vI d1, vI d2, vR b411, uu, uu, uu, uu, uu, uu] [sI j1, sI p0, sI i1, sR b411])) rfl (by rw [hml]; rfl) (Steps.refl _) (argsL := [(.int (1 : Int32)), (.int p0), (.int j1)]) (rest := []) (lenOf pd_rm0_1 rfl) rfl (by show 2 * 0 + _ ≤ _; exact Nat.le_of_eq rfl) (hb hby at_102) (fun _ _ => ⟨rfl, rfl, (by decide : 4 + 0 ≤ _), (by decide : 69 + 0 ≤ _)⟩)
      dsimp only [Pt.U, Pt.locs, Pt.cells, Pt.slots] at X420 l420 y420 z420 st420 hQ420
      rw [l420, y420, z420] at X420
      obtain ⟨rfl, N420q, K420, qp420_0, qp420_1, qp420_2, qp420_3, qp420_4, qp420_5, qp420_6⟩ := hQ420
      have N420 := Fr.app N413 N420q
      have f421 := qp413_0.keep K420
      have f426 := qp413_11.keep K420 (ninS qp413_14 (ninS (Ne.symm ne_b411_pg_413) (ninS qp413_15 nin0)))
      have Z420 : n0 ≤ T420.heap.size := Nat.le_trans Z413 K420.1
      have KK420 := KK413.trans K420 (allS (Or.inr sz_pa_413) (allS (Or.inr sz_b411) (allS (Or.inr sz_sb_413) all0)))
      have go429 := go419.st T420 (mkF m 113 #[vI p0, vI p1, vI p2, vI p3, vI p4, vI j1, vI j2, vI r2, vI i1, vI i1, vI d1, vI d2, vR b411, uu, uu, uu, uu, uu, uu] [sI j2, sI r2, sI i1, sR b411]) (fun t k => by
        refine st420.trans ?_
        show SP p e below T420 (mkF m 105 #[vI p0, vI p1, vI p2, vI p3, vI p4, vI j1, vI j2, vI r2, vI i1, vI i1, vI d1, vI d2, vR b411, uu, uu, uu, uu, uu, uu] []) _
        refine XS.aload X420.here hx rfl (hb hby at_105) rfl rfl ?_
        refine XS.iload X420.here hx rfl (hb hby at_107) rfl ?_
        refine XS.iload X420.here hx rfl (hb hby at_109) rfl ?_
        refine XS.iload X420.here hx rfl (hb hby at_111) rfl ?_
        exact k)
      obtain ⟨cq430, kq430, q430a, q430b, q430c⟩ := isOf hZ rfl qp420_0
      obtain ⟨_, _, ⟨T430, L430, k430, n430⟩, -, X430, ⟨Lc430, hQ430, l430, y430, z430⟩, st430⟩ := X420.virtualBack hx (y := yN1) (z := yN1) hown (mvT hZ (wD hw 20 rfl)) (mvT hZ (wD hw 21 rfl)) (notFace_of_selects (args := #[]) (mvT hZ (wD hw 23 rfl))) (mvT hZ (wD hw 23 rfl)) (mvT hZ (wD hw 22 rfl)) (by decide) (backOf (W := 0) (rm_add2_1 l Z a0 hw [] b411 r2 j2 pg_413 k1_413 pa_413 sb_413 k2_413 k3_413 (1 : Int32) p0 j1 (0 : Int32) (1 : Int32) T420.heap n0 Z420 qp420_0 qp420_3 qp420_4 qp420_5 qp420_1 f426 qp420_6 qp420_2 g_b411 g_pa_413 g_sb_413 ne_b411_pg_413 ne_b411_pa_413 ne_b411_sb_413 qp413_14 qp413_15 qp413_16) hZ (wD hw 24 rfl) (wD hw 3 rfl) (by decide) (by decide)) q430a q430c (g := (mkF m 113 #[vI p0, vI p1, vI p2, vI p3, vI p4, vI j1, vI j2, vI r2, vI i1, vI i1, vI d1, vI d2, vR b411, uu, uu, uu, uu, uu, uu] [sI j2, sI r2, sI i1, sR b411])) rfl (by rw [hml]; rfl) (Steps.refl _) (argsL := [(.int (1 : Int32)), (.int r2), (.int j2)]) (rest := []) (lenOf pd_rm0_1 rfl) rfl (by show 2 * 0 + _ ≤ _; exact Nat.le_of_eq rfl) (hb hby at_113) (fun _ _ => ⟨rfl, rfl, (by decide : 4 + 0 ≤ _), (by decide : 69 + 0 ≤ _)⟩)
      dsimp only [Pt.U, Pt.locs, Pt.cells, Pt.slots] at X430 l430 y430 z430 st430 hQ430
      rw [l430, y430, z430] at X430
      obtain ⟨rfl, N430q, K430, qp430_0, qp430_1, qp430_2⟩ := hQ430
      have N430 := Fr.app N420 N430q
      have f431 := qp420_0.keep K430
      have f432 := f426.keep K430 (ninS qp413_14 (ninS (Ne.symm ne_b411_pg_413) (ninS qp413_15 nin0)))
      have Z430 : n0 ≤ T430.heap.size := Nat.le_trans Z420 K430.1
      have KK430 := KK420.trans K430 (allS (Or.inr sz_pa_413) (allS (Or.inr sz_b411) (allS (Or.inr sz_sb_413) all0)))
      have go439 := go429.st T430 (mkF m 116 #[vI p0, vI p1, vI p2, vI p3, vI p4, vI j1, vI j2, vI r2, vI i1, vI i1, vI d1, vI d2, vR b411, uu, uu, uu, uu, uu, uu] []) (fun t k => by
        refine st430.trans ?_
        exact k)
      obtain ⟨T440, h440, X440, e440, E440, A440, D440, -, st440⟩ := newO X430 hx hZ hown (wD hw 28 rfl) (wD hw 29 rfl) (wD hw 30 rfl) rfl (g := (mkF m 116 #[vI p0, vI p1, vI p2, vI p3, vI p4, vI j1, vI j2, vI r2, vI i1, vI i1, vI d1, vI d2, vR b411, uu, uu, uu, uu, uu, uu] [])) rfl (hb hby at_116) (by decide) (by decide)
      obtain ⟨b440, g440⟩ : ∃ z, z = T430.heap.size := ⟨_, rfl⟩
      rw [← g440] at A440 D440 st440
      have ne_b411_b440 : b411 ≠ b440 := Nat.ne_of_lt (Nat.lt_of_lt_of_le qp430_0.lt (Nat.le_of_eq g440.symm))
      have ne_sb_413_b440 : sb_413 ≠ b440 := Nat.ne_of_lt (Nat.lt_of_lt_of_le qp430_2.lt (Nat.le_of_eq g440.symm))
      have g_b440 : n0 ≤ b440 := Nat.le_trans Z430 (Nat.le_of_eq g440.symm)
      have sz_b440 : h0.size ≤ b440 := Nat.le_trans KK430.1 (Nat.le_of_eq g440.symm)
      have f441 := qp430_0.ext E440
      have f442 := qp430_1.ext E440
      have f443 := qp430_2.ext E440
      have F440_terms : Fld Z h440 b440 "com/example/graphkind/graphkind/Statements$Builder" "terms" "I" (.int (0 : Int32)) := D440 (Or.inr (wD hw 36 rfl)) (ty := .int) (by decide)
      have F440_start : Fld Z h440 b440 "com/example/graphkind/graphkind/Statements$Builder" "start" "[I" .null := D440 (Or.inr (wD hw 38 rfl)) (ty := (.array .int)) (by decide)
      have F440_next : Fld Z h440 b440 "com/example/graphkind/graphkind/Statements$Builder" "next" "[I" .null := D440 (Or.inl (wD hw 67 rfl)) (ty := (.array .int)) (by decide)
      have F440_values : Fld Z h440 b440 "com/example/graphkind/graphkind/Statements$Builder" "values" "[J" .null := D440 (Or.inl (wD hw 70 rfl)) (ty := (.array .long)) (by decide)
      have Z440 : n0 ≤ h440.size := Nat.le_trans Z430 E440.1
      have K440 := KK430.ext E440
      have go444 := go439.st T440 (mkF m 121 #[vI p0, vI p1, vI p2, vI p3, vI p4, vI j1, vI j2, vI r2, vI i1, vI i1, vI d1, vI d2, vR b411, uu, uu, uu, uu, uu, uu] [sI i2, sR b440, sR b440]) (fun t k => by
        refine st440 _ ?_
        show SP p e below T440 (mkF m 119 #[vI p0, vI p1, vI p2, vI p3, vI p4, vI j1, vI j2, vI r2, vI i1, vI i1, vI d1, vI d2, vR b411, uu, uu, uu, uu, uu, uu] [sR b440]) _
        refine XS.dup X440.here hx rfl (hb hby at_119) rfl rfl ?_
        refine XS.iconst X440.here hx rfl (hb hby at_120) ?_
        exact k)
      obtain ⟨_, _, ⟨T445, L445, k445, n445⟩, -, X445, ⟨Lc445, hQ445, l445, y445, z445⟩, st445⟩ := X440.specialBack hx (y := yN2) rfl hown (mvT hZ (wD hw 31 rfl)) (mvT hZ (wD hw 32 rfl)) (mvT hZ (wD hw 33 rfl)) (by decide) (backOf (W := 1) (rm_binit l Z a0 hw [] b440 h440 n0 Z440 A440 g_b440 F440_terms F440_start F440_next F440_values) hZ (wD hw 33 rfl) (wD hw 30 rfl) (by decide) (by decide)) (g := (mkF m 121 #[vI p0, vI p1, vI p2, vI p3, vI p4, vI j1, vI j2, vI r2, vI i1, vI i1, vI d1, vI d2, vR b411, uu, uu, uu, uu, uu, uu] [sI i2, sR b440, sR b440])) rfl (by rw [hml]; rfl) (Steps.refl _) (a := b440) (argsL := [(.int (2 : Int32))]) (rest := [(.ref b440)]) (lenOf pd_rm0_2 rfl) rfl (by show 2 * 0 + _ ≤ _; exact Nat.le_of_eq rfl) (hb hby at_121) (fun _ _ => ⟨rfl, e440, (by decide : 5 + 1 ≤ _), (by decide : 73 + 3 ≤ _)⟩)
      dsimp only [Pt.U, Pt.locs, Pt.cells, Pt.slots] at X445 l445 y445 z445 st445 hQ445
      rw [l445, y445, z445] at X445
      obtain ⟨sa_445, ka_445, rfl, N445q, K445, qp445_0, qp445_1, qp445_2, qp445_3, qp445_4, qp445_5, qp445_6, qp445_7⟩ := hQ445
      have N445 := Fr.app N430 N445q
      have f446 := f441.keep K445
      have f447 := f442.keep K445 (ninS ne_b411_b440 nin0)
      have f448 := f443.keep K445 (ninS ne_sb_413_b440 nin0)
      have f449 := A440.keep K445
      have Z445 : n0 ≤ T445.heap.size := Nat.le_trans Z440 K445.1
      have KK445 := K440.trans K445 (allS (Or.inr sz_b440) all0)
      have g_sa_445 := qp445_5
      have sz_sa_445 := Nat.le_trans K440.1 qp445_6
      have ne_b411_sa_445 : b411 ≠ sa_445 := Nat.ne_of_lt (Nat.lt_of_lt_of_le f441.lt qp445_6)
      have ne_sb_413_sa_445 : sb_413 ≠ sa_445 := Nat.ne_of_lt (Nat.lt_of_lt_of_le f443.lt qp445_6)
      have ne_b440_sa_445 : b440 ≠ sa_445 := Nat.ne_of_lt (Nat.lt_of_lt_of_le A440.lt qp445_6)
      have go454 := go444.st T445 (mkF m 130 #[vI p0, vI p1, vI p2, vI p3, vI p4, vI j1, vI j2, vI r2, vI i1, vI i1, vI d1, vI d2, vR b411, vR b440, uu, uu, uu, uu, uu] [sR b411, sR b440]) (fun t k => by
        refine st445.trans ?_
        show SP p e below T445 (mkF m 124 #[vI p0, vI p1, vI p2, vI p3, vI p4, vI j1, vI j2, vI r2, vI i1, vI i1, vI d1, vI d2, vR b411, uu, uu, uu, uu, uu, uu] [sR b440]) _
        refine XS.astore X445.here hx rfl (hb hby at_124) rfl rfl (l' := #[vI p0, vI p1, vI p2, vI p3, vI p4, vI j1, vI j2, vI r2, vI i1, vI i1, vI d1, vI d2, vR b411, vR b440, uu, uu, uu, uu, uu]) rfl ?_
        refine XS.aload X445.here hx rfl (hb hby at_126) rfl rfl ?_
        refine XS.aload X445.here hx rfl (hb hby at_128) rfl rfl ?_
        exact k)
      obtain ⟨cq455, kq455, q455a, q455b, q455c⟩ := isOf hZ rfl qp445_0
      obtain ⟨_, _, ⟨T455, L455, k455, n455⟩, -, X455, ⟨Lc455, hQ455, l455, y455, z455⟩, st455⟩ := X445.virtualBack hx (y := yN7) (z := yN7) hown (mvT hZ (wD hw 39 rfl)) (mvT hZ (wD hw 40 rfl)) (notFace_of_selects (args := #[]) (mvT hZ (wD hw 42 rfl))) (mvT hZ (wD hw 42 rfl)) (mvT hZ (wD hw 41 rfl)) (by decide) (backOf (W := 0) (rm_count l Z a0 hw [] b440 b411 sa_445 ka_445 sb_413 k3_413 (0 : Int32) (2 : Int32) T445.heap n0 Z445 qp445_1 qp445_2 qp445_7 f446 f447 f448 g_sa_445 ne_b440_sa_445 ne_b411_sa_445 ne_sb_413_sa_445) hZ (wD hw 43 rfl) (wD hw 30 rfl) (by decide) (by decide)) q455a q455c (g := (mkF m 130 #[vI p0, vI p1, vI p2, vI p3, vI p4, vI j1, vI j2, vI r2, vI i1, vI i1, vI d1, vI d2, vR b411, vR b440, uu, uu, uu, uu, uu] [sR b411, sR b440])) rfl (by rw [hml]; rfl) (Steps.refl _) (argsL := [(.ref b411)]) (rest := []) (lenOf pd_rm0_3 rfl) rfl (by show 2 * 0 + _ ≤ _; exact Nat.le_of_eq rfl) (hb hby at_130) (fun _ _ => ⟨rfl, rfl, (by decide : 6 + 0 ≤ _), (by decide : 76 + 0 ≤ _)⟩)
      dsimp only [Pt.U, Pt.locs, Pt.cells, Pt.slots] at X455 l455 y455 z455 st455 hQ455
      rw [l455, y455, z455] at X455
      obtain ⟨rfl, N455q, K455, qp455_0⟩ := hQ455
      have N455 := Fr.app N445 N455q
      have f456 := f446.keep K455
      have f457 := f447.keep K455 (ninS ne_b411_sa_445 nin0)
      have f458 := f448.keep K455 (ninS ne_sb_413_sa_445 nin0)
      have f459 := qp445_0.keep K455
      have f460 := qp445_1.keep K455 (ninS ne_b440_sa_445 nin0)
      have f461 := qp445_2.keep K455 (ninS ne_b440_sa_445 nin0)
      have f462 := qp445_3.keep K455 (ninS ne_b440_sa_445 nin0)
      have f463 := qp445_4.keep K455 (ninS ne_b440_sa_445 nin0)
      have Z455 : n0 ≤ T455.heap.size := Nat.le_trans Z445 K455.1
      have KK455 := KK445.trans K455 (allS (Or.inr sz_sa_445) all0)
      have go465 := go454.st T455 (mkF m 135 #[vI p0, vI p1, vI p2, vI p3, vI p4, vI j1, vI j2, vI r2, vI i1, vI i1, vI d1, vI d2, vR b411, vR b440, uu, uu, uu, uu, uu] [sR b440]) (fun t k => by
        refine st455.trans ?_
        show SP p e below T455 (mkF m 133 #[vI p0, vI p1, vI p2, vI p3, vI p4, vI j1, vI j2, vI r2, vI i1, vI i1, vI d1, vI d2, vR b411, vR b440, uu, uu, uu, uu, uu] []) _
        refine XS.aload X455.here hx rfl (hb hby at_133) rfl rfl ?_
        exact k)
      obtain ⟨cq466, kq466, q466a, q466b, q466c⟩ := isOf hZ rfl f459
      obtain ⟨_, _, ⟨T466, L466, k466, n466⟩, -, X466, ⟨Lc466, hQ466, l466, y466, z466⟩, st466⟩ := X455.virtualBack hx (y := yN8) (z := yN8) hown (mvT hZ (wD hw 49 rfl)) (mvT hZ (wD hw 50 rfl)) (notFace_of_selects (args := #[]) (mvT hZ (wD hw 52 rfl))) (mvT hZ (wD hw 52 rfl)) (mvT hZ (wD hw 51 rfl)) (by decide) (backOf (W := 0) (rm_start0 l Z a0 hw [] b440 sa_445 ka_445 T455.heap n0 Z455 f459 f460 f461 f462 f463 qp455_0 g_sa_445 g_b440 ne_b440_sa_445) hZ (wD hw 53 rfl) (wD hw 30 rfl) (by decide) (by decide)) q466a q466c (g := (mkF m 135 #[vI p0, vI p1, vI p2, vI p3, vI p4, vI j1, vI j2, vI r2, vI i1, vI i1, vI d1, vI d2, vR b411, vR b440, uu, uu, uu, uu, uu] [sR b440])) rfl (by rw [hml]; rfl) (Steps.refl _) (argsL := []) (rest := []) (lenOf pd_rm0_0 rfl) rfl (by show 2 * 0 + _ ≤ _; exact Nat.le_of_eq rfl) (hb hby at_135) (fun _ _ => ⟨rfl, rfl, (by decide : 6 + 2 ≤ _), (by decide : 76 + 4 ≤ _)⟩)
      dsimp only [Pt.U, Pt.locs, Pt.cells, Pt.slots] at X466 l466 y466 z466 st466 hQ466
      rw [l466, y466, z466] at X466
      obtain ⟨nx_466, va_466, kx_466, kv_466, rfl, N466q, K466, qp466_0, qp466_1, qp466_2, qp466_3, qp466_4, qp466_5, qp466_6, qp466_7, qp466_8, qp466_9, qp466_10, qp466_11⟩ := hQ466
      have N466 := Fr.app N455 N466q
      have f467 := f459.keep K466
      have Z466 : n0 ≤ T466.heap.size := Nat.le_trans Z455 K466.1
      have KK466 := KK455.trans K466 (allS (Or.inr sz_sa_445) (allS (Or.inr sz_b440) all0))
      have g_nx_466 := qp466_0
      have sz_nx_466 := Nat.le_trans KK455.1 qp466_1
      have ne_b440_nx_466 : b440 ≠ nx_466 := Nat.ne_of_lt (Nat.lt_of_lt_of_le f459.lt qp466_1)
      have ne_sa_445_nx_466 : sa_445 ≠ nx_466 := Nat.ne_of_lt (Nat.lt_of_lt_of_le qp455_0.lt qp466_1)
      have g_va_466 := qp466_2
      have sz_va_466 := Nat.le_trans KK455.1 qp466_3
      have ne_b440_va_466 : b440 ≠ va_466 := Nat.ne_of_lt (Nat.lt_of_lt_of_le f459.lt qp466_3)
      have ne_sa_445_va_466 : sa_445 ≠ va_466 := Nat.ne_of_lt (Nat.lt_of_lt_of_le qp455_0.lt qp466_3)
      have go473 := go465.st T466 (mkF m 147 #[vI p0, vI p1, vI p2, vI p3, vI p4, vI j1, vI j2, vI r2, vI i1, vI i1, vI d1, vI d2, vR b411, vR b440, uu, uu, uu, uu, uu] [sI d1, sI j1, sI p0, sI i1, sR b440]) (fun t k => by
        refine st466.trans ?_
        show SP p e below T466 (mkF m 138 #[vI p0, vI p1, vI p2, vI p3, vI p4, vI j1, vI j2, vI r2, vI i1, vI i1, vI d1, vI d2, vR b411, vR b440, uu, uu, uu, uu, uu] []) _
        refine XS.aload X466.here hx rfl (hb hby at_138) rfl rfl ?_
        refine XS.iload X466.here hx rfl (hb hby at_140) rfl ?_
        refine XS.iloadN X466.here hx rfl (hb hby at_142) rfl ?_
        refine XS.iload X466.here hx rfl (hb hby at_143) rfl ?_
        refine XS.iload X466.here hx rfl (hb hby at_145) rfl ?_
        exact k)
      obtain ⟨cq474, kq474, q474a, q474b, q474c⟩ := isOf hZ rfl f467
      obtain ⟨_, _, ⟨T474, L474, k474, n474⟩, -, X474, ⟨Lc474, hQ474, l474, y474, z474⟩, st474⟩ := X466.virtualBack hx (y := yN9) (z := yN9) hown (mvT hZ (wD hw 71 rfl)) (mvT hZ (wD hw 72 rfl)) (notFace_of_selects (args := #[]) (mvT hZ (wD hw 74 rfl))) (mvT hZ (wD hw 74 rfl)) (mvT hZ (wD hw 73 rfl)) (by decide) (backOf (W := 0) (rm_put1_00 l Z a0 hw [] b440 p0 j1 d1 nx_466 va_466 kx_466 kv_466 (0 : Int64) (0 : Int64) T466.heap n0 Z466 qp466_6 qp466_7 qp466_9 qp466_10 g_nx_466 g_va_466 ne_b440_nx_466 ne_b440_va_466 qp466_11) hZ (wD hw 75 rfl) (wD hw 30 rfl) (by decide) (by decide)) q474a q474c (g := (mkF m 147 #[vI p0, vI p1, vI p2, vI p3, vI p4, vI j1, vI j2, vI r2, vI i1, vI i1, vI d1, vI d2, vR b411, vR b440, uu, uu, uu, uu, uu] [sI d1, sI j1, sI p0, sI i1, sR b440])) rfl (by rw [hml]; rfl) (Steps.refl _) (argsL := [(.int (1 : Int32)), (.int p0), (.int j1), (.int d1)]) (rest := []) (lenOf pd_rm0_4 rfl) rfl (by show 2 * 0 + _ ≤ _; exact Nat.le_of_eq rfl) (hb hby at_147) (fun _ _ => ⟨rfl, rfl, (by decide : 8 + 0 ≤ _), (by decide : 80 + 0 ≤ _)⟩)
      dsimp only [Pt.U, Pt.locs, Pt.cells, Pt.slots] at X474 l474 y474 z474 st474 hQ474
      rw [l474, y474, z474] at X474
      obtain ⟨rfl, N474q, K474, qp474_0, qp474_1⟩ := hQ474
      have N474 := Fr.app N466 N474q
      have f475 := f467.keep K474
      have f476 := qp466_4.keep K474 (ninS ne_b440_nx_466 (ninS ne_b440_va_466 nin0))
      have f477 := qp466_5.keep K474 (ninS ne_b440_nx_466 (ninS ne_b440_va_466 nin0))
      have f478 := qp466_6.keep K474 (ninS ne_b440_nx_466 (ninS ne_b440_va_466 nin0))
      have f479 := qp466_7.keep K474 (ninS ne_b440_nx_466 (ninS ne_b440_va_466 nin0))
      have f480 := qp466_8.keep K474 (ninS ne_sa_445_nx_466 (ninS ne_sa_445_va_466 nin0))
      have Z474 : n0 ≤ T474.heap.size := Nat.le_trans Z466 K474.1
      have KK474 := KK466.trans K474 (allS (Or.inr sz_nx_466) (allS (Or.inr sz_va_466) all0))
      have go483 := go473.st T474 (mkF m 160 #[vI p0, vI p1, vI p2, vI p3, vI p4, vI j1, vI j2, vI r2, vI i1, vI i1, vI d1, vI d2, vR b411, vR b440, uu, uu, uu, uu, uu] [sI d2, sI j2, sI r2, sI i1, sR b440]) (fun t k => by
        refine st474.trans ?_
        show SP p e below T474 (mkF m 150 #[vI p0, vI p1, vI p2, vI p3, vI p4, vI j1, vI j2, vI r2, vI i1, vI i1, vI d1, vI d2, vR b411, vR b440, uu, uu, uu, uu, uu] []) _
        refine XS.aload X474.here hx rfl (hb hby at_150) rfl rfl ?_
        refine XS.iload X474.here hx rfl (hb hby at_152) rfl ?_
        refine XS.iload X474.here hx rfl (hb hby at_154) rfl ?_
        refine XS.iload X474.here hx rfl (hb hby at_156) rfl ?_
        refine XS.iload X474.here hx rfl (hb hby at_158) rfl ?_
        exact k)
      obtain ⟨cq484, kq484, q484a, q484b, q484c⟩ := isOf hZ rfl f475
      obtain ⟨_, _, ⟨T484, L484, k484, n484⟩, -, X484, ⟨Lc484, hQ484, l484, y484, z484⟩, st484⟩ := X474.virtualBack hx (y := yN9) (z := yN9) hown (mvT hZ (wD hw 71 rfl)) (mvT hZ (wD hw 72 rfl)) (notFace_of_selects (args := #[]) (mvT hZ (wD hw 74 rfl))) (mvT hZ (wD hw 74 rfl)) (mvT hZ (wD hw 73 rfl)) (by decide) (backOf (W := 0) (rm_put1_01 l Z a0 hw [] b440 r2 j2 d2 nx_466 va_466 kx_466 kv_466 (own_pack p0 j1 d1) (0 : Int64) T474.heap n0 Z474 f478 f479 qp474_0 qp474_1 g_nx_466 g_va_466 ne_b440_nx_466 ne_b440_va_466 qp466_11) hZ (wD hw 75 rfl) (wD hw 30 rfl) (by decide) (by decide)) q484a q484c (g := (mkF m 160 #[vI p0, vI p1, vI p2, vI p3, vI p4, vI j1, vI j2, vI r2, vI i1, vI i1, vI d1, vI d2, vR b411, vR b440, uu, uu, uu, uu, uu] [sI d2, sI j2, sI r2, sI i1, sR b440])) rfl (by rw [hml]; rfl) (Steps.refl _) (argsL := [(.int (1 : Int32)), (.int r2), (.int j2), (.int d2)]) (rest := []) (lenOf pd_rm0_4 rfl) rfl (by show 2 * 0 + _ ≤ _; exact Nat.le_of_eq rfl) (hb hby at_160) (fun _ _ => ⟨rfl, rfl, (by decide : 8 + 0 ≤ _), (by decide : 80 + 0 ≤ _)⟩)
      dsimp only [Pt.U, Pt.locs, Pt.cells, Pt.slots] at X484 l484 y484 z484 st484 hQ484
      rw [l484, y484, z484] at X484
      obtain ⟨rfl, N484q, K484, qp484_0, qp484_1⟩ := hQ484
      have N484 := Fr.app N474 N484q
      have f485 := f475.keep K484
      have f486 := f476.keep K484 (ninS ne_b440_nx_466 (ninS ne_b440_va_466 nin0))
      have f487 := f477.keep K484 (ninS ne_b440_nx_466 (ninS ne_b440_va_466 nin0))
      have f488 := f478.keep K484 (ninS ne_b440_nx_466 (ninS ne_b440_va_466 nin0))
      have f489 := f479.keep K484 (ninS ne_b440_nx_466 (ninS ne_b440_va_466 nin0))
      have f490 := f480.keep K484 (ninS ne_sa_445_nx_466 (ninS ne_sa_445_va_466 nin0))
      have Z484 : n0 ≤ T484.heap.size := Nat.le_trans Z474 K484.1
      have KK484 := KK474.trans K484 (allS (Or.inr sz_nx_466) (allS (Or.inr sz_va_466) all0))
      have go493 := go483.st T484 (mkF m 163 #[vI p0, vI p1, vI p2, vI p3, vI p4, vI j1, vI j2, vI r2, vI i1, vI i1, vI d1, vI d2, vR b411, vR b440, uu, uu, uu, uu, uu] []) (fun t k => by
        refine st484.trans ?_
        exact k)
      rcases own_cases3 p0 r2 j1 j2 with ⟨qa, qb⟩ | ⟨qn, qf⟩ | ⟨qn, qf⟩
      · obtain ⟨m0, m1, hl⟩ := own_srt (own_pack p0 j1 d1) (own_pack r2 j2 d2)
        have go494 := go493.st T484 (mkF m 165 #[vI p0, vI p1, vI p2, vI p3, vI p4, vI j1, vI j2, vI r2, vI i1, vI i1, vI d1, vI d2, vR b411, vR b440, uu, uu, uu, uu, uu] [sR b440]) (fun t k => by
          refine XS.aload X484.here hx rfl (hb hby at_163) rfl rfl ?_
          exact k)
        obtain ⟨cq495, kq495, q495a, q495b, q495c⟩ := isOf hZ rfl f485
        obtain ⟨_, _, ⟨T495, L495, k495, n495⟩, -, X495, ⟨Lc495, hQ495, l495, y495, z495⟩, st495⟩ := X484.virtualBack hx (y := yN17) (z := yN17) hown (mvT hZ (wD hw 76 rfl)) (mvT hZ (wD hw 77 rfl)) (notFace_of_selects (args := #[]) (mvT hZ (wD hw 79 rfl))) (mvT hZ (wD hw 79 rfl)) (mvT hZ (wD hw 78 rfl)) (by decide) (backOf (W := 0) (rm_buildC_1 l Z a0 hw [] b440 sa_445 ka_445 nx_466 kx_466 va_466 kv_466 (own_pack p0 j1 d1) (own_pack r2 j2 d2) m0 m1 T484.heap n0 Z484 f485 f486 f487 f488 f489 f490 qp484_0 qp484_1 g_sa_445 g_va_466 g_b440 ne_b440_sa_445 ne_b440_nx_466 ne_b440_va_466 ne_sa_445_nx_466 ne_sa_445_va_466 qp466_11 hl (own_hm_eq hl (own_half_eq hn1 hn2 qa qb))) hZ (wD hw 80 rfl) (wD hw 30 rfl) (by decide) (by decide)) q495a q495c (g := (mkF m 165 #[vI p0, vI p1, vI p2, vI p3, vI p4, vI j1, vI j2, vI r2, vI i1, vI i1, vI d1, vI d2, vR b411, vR b440, uu, uu, uu, uu, uu] [sR b440])) rfl (by rw [hml]; rfl) (Steps.refl _) (argsL := []) (rest := []) (lenOf pd_rm0_5 rfl) rfl (by show 2 * 0 + _ ≤ _; exact Nat.le_of_eq rfl) (hb hby at_165) (fun _ _ => ⟨rfl, rfl, (by decide : 8 + 2 ≤ _), (by decide : 80 + 3 ≤ _)⟩)
        dsimp only [Pt.U, Pt.locs, Pt.cells, Pt.slots] at X495 l495 y495 z495 st495 hQ495
        rw [l495, y495, z495] at X495
        obtain ⟨b_495, vb_495, kb_495, rfl, N495q, K495, qp495_0, qp495_1, qp495_2, qp495_3, qp495_4, qp495_5, qp495_6⟩ := hQ495
        have N495 := Fr.app N484 N495q
        have f496 := f485.keep K495
        have f502 := qp484_0.keep K495 (ninS qp466_11 (ninS (Ne.symm ne_sa_445_nx_466) (ninS (Ne.symm ne_b440_nx_466) nin0)))
        have Z495 : n0 ≤ T495.heap.size := Nat.le_trans Z484 K495.1
        have KK495 := KK484.trans K495 (allS (Or.inr sz_va_466) (allS (Or.inr sz_sa_445) (allS (Or.inr sz_b440) all0)))
        have g_b_495 := qp495_0
        have sz_b_495 := Nat.le_trans KK484.1 qp495_1
        have ne_b440_b_495 : b440 ≠ b_495 := Nat.ne_of_lt (Nat.lt_of_lt_of_le f485.lt qp495_1)
        have ne_sa_445_b_495 : sa_445 ≠ b_495 := Nat.ne_of_lt (Nat.lt_of_lt_of_le f490.lt qp495_1)
        have ne_nx_466_b_495 : nx_466 ≠ b_495 := Nat.ne_of_lt (Nat.lt_of_lt_of_le qp484_0.lt qp495_1)
        have ne_va_466_b_495 : va_466 ≠ b_495 := Nat.ne_of_lt (Nat.lt_of_lt_of_le qp484_1.lt qp495_1)
        have go504 := go494.st T495 (mkF m 173 #[vI p0, vI p1, vI p2, vI p3, vI p4, vI j1, vI j2, vI r2, vI i1, vI i1, vI d1, vI d2, vR b411, vR b440, vR b_495, uu, uu, uu, uu] [sI i0, sR b_495]) (fun t k => by
          refine st495.trans ?_
          show SP p e below T495 (mkF m 168 #[vI p0, vI p1, vI p2, vI p3, vI p4, vI j1, vI j2, vI r2, vI i1, vI i1, vI d1, vI d2, vR b411, vR b440, uu, uu, uu, uu, uu] [sR b_495]) _
          refine XS.astore X495.here hx rfl (hb hby at_168) rfl rfl (l' := #[vI p0, vI p1, vI p2, vI p3, vI p4, vI j1, vI j2, vI r2, vI i1, vI i1, vI d1, vI d2, vR b411, vR b440, vR b_495, uu, uu, uu, uu]) rfl ?_
          refine XS.aload X495.here hx rfl (hb hby at_170) rfl rfl ?_
          refine XS.iconst X495.here hx rfl (hb hby at_172) ?_
          exact k)
        obtain ⟨cq505, kq505, q505a, q505b, q505c⟩ := isOf hZ rfl qp495_2
        obtain ⟨_, _, ⟨T505, L505, k505, n505⟩, -, X505, ⟨Lc505, hQ505, l505, y505, z505⟩, st505⟩ := X495.virtualBack hx (y := yN18) (z := yN18) hown (mvT hZ (wD hw 112 rfl)) (mvT hZ (wD hw 113 rfl)) (notFace_of_selects (args := #[]) (mvT hZ (wD hw 115 rfl))) (mvT hZ (wD hw 115 rfl)) (mvT hZ (wD hw 114 rfl)) (by decide) (backOf (W := 0) (rm_end0 l Z a0 hw [] b_495 sa_445 ka_445 (0 : Int32) (0 : Int32) (1 : Int32) T495.heap n0 Z495 qp495_3 qp495_5) hZ (wD hw 116 rfl) (wD hw 103 rfl) (by decide) (by decide)) q505a q505c (g := (mkF m 173 #[vI p0, vI p1, vI p2, vI p3, vI p4, vI j1, vI j2, vI r2, vI i1, vI i1, vI d1, vI d2, vR b411, vR b440, vR b_495, uu, uu, uu, uu] [sI i0, sR b_495])) rfl (by rw [hml]; rfl) (Steps.refl _) (argsL := [(.int (0 : Int32))]) (rest := []) (lenOf pd_rm0_6 rfl) rfl (by show 2 * 0 + _ ≤ _; exact Nat.le_of_eq rfl) (hb hby at_173) (fun _ _ => ⟨rfl, rfl, (by decide : 10 + 0 ≤ _), (by decide : 83 + 0 ≤ _)⟩)
        dsimp only [Pt.U, Pt.locs, Pt.cells, Pt.slots] at X505 l505 y505 z505 st505 hQ505
        rw [l505, y505, z505] at X505
        obtain ⟨rfl, N505q, e505⟩ := hQ505
        have N505 := Fr.app N495 N505q
        have go506 := go504.st T505 (mkF m 181 #[vI p0, vI p1, vI p2, vI p3, vI p4, vI j1, vI j2, vI r2, vI i1, vI i1, vI d1, vI d2, vR b411, vR b440, vR b_495, vI i0, uu, uu, uu] [sI i1, sR b_495]) (fun t k => by
          refine st505.trans ?_
          show SP p e below T505 (mkF m 176 #[vI p0, vI p1, vI p2, vI p3, vI p4, vI j1, vI j2, vI r2, vI i1, vI i1, vI d1, vI d2, vR b411, vR b440, vR b_495, uu, uu, uu, uu] [sI i0]) _
          refine XS.istore X505.here hx rfl (hb hby at_176) rfl (l' := #[vI p0, vI p1, vI p2, vI p3, vI p4, vI j1, vI j2, vI r2, vI i1, vI i1, vI d1, vI d2, vR b411, vR b440, vR b_495, vI i0, uu, uu, uu]) rfl ?_
          refine XS.aload X505.here hx rfl (hb hby at_178) rfl rfl ?_
          refine XS.iconst X505.here hx rfl (hb hby at_180) ?_
          exact k)
        obtain ⟨cq507, kq507, q507a, q507b, q507c⟩ := isOf hZ e505 qp495_2
        obtain ⟨_, _, ⟨T507, L507, k507, n507⟩, -, X507, ⟨Lc507, hQ507, l507, y507, z507⟩, st507⟩ := X505.virtualBack hx (y := yN18) (z := yN18) hown (mvT hZ (wD hw 112 rfl)) (mvT hZ (wD hw 113 rfl)) (notFace_of_selects (args := #[]) (mvT hZ (wD hw 115 rfl))) (mvT hZ (wD hw 115 rfl)) (mvT hZ (wD hw 114 rfl)) (by decide) (backOf (W := 0) (rm_end1 l Z a0 hw [] b_495 sa_445 ka_445 (0 : Int32) (0 : Int32) (1 : Int32) T495.heap n0 Z495 qp495_3 qp495_5) hZ (wD hw 116 rfl) (wD hw 103 rfl) (by decide) (by decide)) q507a q507c (g := (mkF m 181 #[vI p0, vI p1, vI p2, vI p3, vI p4, vI j1, vI j2, vI r2, vI i1, vI i1, vI d1, vI d2, vR b411, vR b440, vR b_495, vI i0, uu, uu, uu] [sI i1, sR b_495])) rfl (by rw [hml]; rfl) (Steps.refl _) (argsL := [(.int (1 : Int32))]) (rest := []) (lenOf pd_rm0_6 rfl) rfl (by show 2 * 0 + _ ≤ _; exact Nat.le_of_eq rfl) (hb hby at_181) (fun _ _ => ⟨rfl, e505, (by decide : 10 + 0 ≤ _), (by decide : 83 + 0 ≤ _)⟩)
        dsimp only [Pt.U, Pt.locs, Pt.cells, Pt.slots] at X507 l507 y507 z507 st507 hQ507
        rw [l507, y507, z507] at X507
        obtain ⟨rfl, N507q, e507⟩ := hQ507
        have N507 := Fr.app N505 N507q
        have go515 := go506.st T507 (mkF m 309 #[vI p0, vI p1, vI p2, vI p3, vI p4, vI j1, vI j2, vI r2, vI i1, vI i1, vI d1, vI d2, vR b411, vR b440, vR b_495, vI i0, vI i1, vI i1, uu] [sI j1, sI p0, sI i0, sR b_495]) (fun t k => by
          refine st507.trans ?_
          show SP p e below T507 (mkF m 184 #[vI p0, vI p1, vI p2, vI p3, vI p4, vI j1, vI j2, vI r2, vI i1, vI i1, vI d1, vI d2, vR b411, vR b440, vR b_495, vI i0, uu, uu, uu] [sI i1]) _
          refine XS.istore X507.here hx rfl (hb hby at_184) rfl (l' := #[vI p0, vI p1, vI p2, vI p3, vI p4, vI j1, vI j2, vI r2, vI i1, vI i1, vI d1, vI d2, vR b411, vR b440, vR b_495, vI i0, vI i1, uu, uu]) rfl ?_
          refine XS.iload X507.here hx rfl (hb hby at_186) rfl ?_
          refine XS.iload X507.here hx rfl (hb hby at_188) rfl ?_
          refine XS.icmpYes X507.here hx rfl (pc0 := 190) (pc' := 242) rfl (hb hby at_190) rfl (teq ((by decide) : (1 : Int32) = (1 : Int32))).1 (by decide) (by decide) ?_
          refine XS.iloadN X507.here hx rfl (hb hby at_242) rfl ?_
          refine XS.iload X507.here hx rfl (hb hby at_243) rfl ?_
          refine XS.icmpNo X507.here hx rfl (hb hby at_245) rfl (teq (qa : p0 = r2)).2 ?_
          refine XS.iload X507.here hx rfl (hb hby at_248) rfl ?_
          refine XS.iload X507.here hx rfl (hb hby at_250) rfl ?_
          show SP p e below T507 (mkF m 252 #[vI p0, vI p1, vI p2, vI p3, vI p4, vI j1, vI j2, vI r2, vI i1, vI i1, vI d1, vI d2, vR b411, vR b440, vR b_495, vI i0, vI i1, uu, uu] [sI j2, sI j1]) _
          refine XS.icmpNo X507.here hx rfl (hb hby at_252) rfl (teq (qb : j1 = j2)).2 ?_
          refine XS.iload X507.here hx rfl (hb hby at_255) rfl ?_
          refine XS.ifYes X507.here hx rfl (pc0 := 257) (pc' := 280) rfl (hb hby at_257) rfl ((if0 _ _).trans (feq ((by decide) : ¬ ((1 : Int32) = (0 : Int32)))).2) (by decide) (by decide) ?_
          refine XS.iload X507.here hx rfl (hb hby at_280) rfl ?_
          refine XS.ifNo X507.here hx rfl (hb hby at_282) rfl ((if0 _ _).trans (teq ((by decide) : (0 : Int32) = (0 : Int32))).2) ?_
          refine XS.iload X507.here hx rfl (hb hby at_285) rfl ?_
          refine XS.iconst X507.here hx rfl (hb hby at_287) ?_
          refine XS.icmpNo X507.here hx rfl (hb hby at_288) rfl (teq ((by decide) : (1 : Int32) = (1 : Int32))).2 ?_
          refine XS.iconst X507.here hx rfl (hb hby at_291) ?_
          show SP p e below T507 (mkF m 292 #[vI p0, vI p1, vI p2, vI p3, vI p4, vI j1, vI j2, vI r2, vI i1, vI i1, vI d1, vI d2, vR b411, vR b440, vR b_495, vI i0, vI i1, uu, uu] [sI i1]) _
          refine XS.goto X507.here hx rfl (pc0 := 292) (pc' := 296) rfl (hb hby at_292) (by decide) (by decide) ?_
          refine XS.istore X507.here hx rfl (hb hby at_296) rfl (l' := #[vI p0, vI p1, vI p2, vI p3, vI p4, vI j1, vI j2, vI r2, vI i1, vI i1, vI d1, vI d2, vR b411, vR b440, vR b_495, vI i0, vI i1, vI i1, uu]) rfl ?_
          refine XS.iload X507.here hx rfl (hb hby at_298) rfl ?_
          refine XS.ifNo X507.here hx rfl (hb hby at_300) rfl ((if0 _ _).trans (feq ((by decide) : ¬ ((1 : Int32) = (0 : Int32)))).1) ?_
          refine XS.aload X507.here hx rfl (hb hby at_303) rfl rfl ?_
          refine XS.iconst X507.here hx rfl (hb hby at_305) ?_
          refine XS.iloadN X507.here hx rfl (hb hby at_306) rfl ?_
          refine XS.iload X507.here hx rfl (hb hby at_307) rfl ?_
          exact k)
        have go518 := go515.st T507 (mkF m 324 #[vI p0, vI p1, vI p2, vI p3, vI p4, vI j1, vI j2, vI r2, vI i1, vI i1, vI d1, vI d2, vR b411, vR b440, vR b_495, vI i0, vI i1, vI i1, uu] [(sI (if d1 = i0 then (if d2 = i0 then i0 else i1) else i1)), sI j1, sI p0, sI i0, sR b_495]) (fun t k => by
          by_cases hc516 : d1 = (0 : Int32)
          · skip
            by_cases hc517 : d2 = (0 : Int32)
            · skip
              try simp only [if_pos hc516, if_pos hc517] at k
              refine XS.iload X507.here hx rfl (hb hby at_309) rfl ?_
              refine XS.ifNo X507.here hx rfl (hb hby at_311) rfl ((if0 _ _).trans (teq hc516).2) ?_
              refine XS.iload X507.here hx rfl (hb hby at_314) rfl ?_
              refine XS.ifYes X507.here hx rfl (pc0 := 316) (pc' := 323) rfl (hb hby at_316) rfl ((if0 _ _).trans (teq hc517).1) (by decide) (by decide) ?_
              refine XS.iconst X507.here hx rfl (hb hby at_323) ?_
              exact k
            · skip
              try simp only [if_pos hc516, if_neg hc517] at k
              refine XS.iload X507.here hx rfl (hb hby at_309) rfl ?_
              refine XS.ifNo X507.here hx rfl (hb hby at_311) rfl ((if0 _ _).trans (teq hc516).2) ?_
              refine XS.iload X507.here hx rfl (hb hby at_314) rfl ?_
              refine XS.ifNo X507.here hx rfl (hb hby at_316) rfl ((if0 _ _).trans (feq hc517).1) ?_
              refine XS.iconst X507.here hx rfl (hb hby at_319) ?_
              refine XS.goto X507.here hx rfl (pc0 := 320) (pc' := 324) rfl (hb hby at_320) (by decide) (by decide) ?_
              exact k
          · skip
            try simp only [if_neg hc516] at k
            refine XS.iload X507.here hx rfl (hb hby at_309) rfl ?_
            refine XS.ifYes X507.here hx rfl (pc0 := 311) (pc' := 319) rfl (hb hby at_311) rfl ((if0 _ _).trans (feq hc516).2) (by decide) (by decide) ?_
            refine XS.iconst X507.here hx rfl (hb hby at_319) ?_
            refine XS.goto X507.here hx rfl (pc0 := 320) (pc' := 324) rfl (hb hby at_320) (by decide) (by decide) ?_
            exact k
          )
        obtain ⟨_, _, ⟨T519, L519, k519, n519⟩, -, X519, ⟨Lc519, hQ519, l519, y519, z519⟩, st519⟩ := Jvm.LawKit.callS X507 hx (y := yN22) hown (mvT hZ (wD hw 117 rfl)) (mvT hZ (wD hw 118 rfl)) (mvT hZ (wD hw 119 rfl)) (mvT hZ (wD hw 120 rfl)) (by decide) (backOf (W := 0) (rm20 l Z a0 hw [] b_495 (0 : Int32) p0 j1 (if d1 = (0 : Int32) then (if d2 = (0 : Int32) then (0 : Int32) else (1 : Int32)) else (1 : Int32)) vb_495 kb_495 (1 : Int32) [(.long (m0 ||| m1))] (m0 ||| m1) T495.heap n0 Z495 qp495_2 qp495_4 qp495_6 ⟨by decide, by decide⟩ rfl) hZ (wD hw 120 rfl) (wD hw 119 rfl) (by decide) (by decide)) (g := (mkF m 324 #[vI p0, vI p1, vI p2, vI p3, vI p4, vI j1, vI j2, vI r2, vI i1, vI i1, vI d1, vI d2, vR b411, vR b440, vR b_495, vI i0, vI i1, vI i1, uu] [(sI (if d1 = i0 then (if d2 = i0 then i0 else i1) else i1)), sI j1, sI p0, sI i0, sR b_495])) rfl (by rw [hml]; rfl) (argsL := [(.ref b_495), (.int (0 : Int32)), (.int p0), (.int j1), (.int (if d1 = (0 : Int32) then (if d2 = (0 : Int32) then (0 : Int32) else (1 : Int32)) else (1 : Int32)))]) (rest := []) (lenOf pd_rm0_7 rfl) rfl (by show 2 * 0 + _ ≤ _; exact Nat.le_of_eq rfl) (hb hby at_324) (fun _ _ => ⟨rfl, e507, (by decide : 10 + 0 ≤ _), (by decide : 83 + 0 ≤ _)⟩)
        dsimp only [Pt.U, Pt.locs, Pt.cells, Pt.slots] at X519 l519 y519 z519 st519 hQ519
        rw [l519, y519, z519] at X519
        obtain ⟨rfl, N519q, e519⟩ := hQ519
        have N519 := Fr.app N507 N519q
        have go521 := go518.st T519 (mkF m 335 #[vI p0, vI p1, vI p2, vI p3, vI p4, vI j1, vI j2, vI r2, vI i1, vI i1, vI d1, vI d2, vR b411, vR b440, vR b_495, vI i0, vI i1, vI i1, uu] [sI i1]) (fun t k => by
          refine st519 _ ?_
          show SP p e below T519 (mkF m 327 #[vI p0, vI p1, vI p2, vI p3, vI p4, vI j1, vI j2, vI r2, vI i1, vI i1, vI d1, vI d2, vR b411, vR b440, vR b_495, vI i0, vI i1, vI i1, uu] [(sI (own_at p0 j1 (if d1 = i0 then (if d2 = i0 then i0 else i1) else i1) (m0 ||| m1)))]) _
          refine XS.ifNo X519.here hx rfl (hb hby at_327) rfl ((if0 _ _).trans (feq (own_at_or hl hn1 qa qb : ¬ ((own_at p0 j1 (if d1 = (0 : Int32) then (if d2 = (0 : Int32) then (0 : Int32) else (1 : Int32)) else (1 : Int32)) (m0 ||| m1)) = (0 : Int32)))).1) ?_
          refine XS.iconst X519.here hx rfl (hb hby at_330) ?_
          refine XS.goto X519.here hx rfl (pc0 := 331) (pc' := 335) rfl (hb hby at_331) (by decide) (by decide) ?_
          exact k)
        obtain ⟨fs, hr, hrun, hended, hW, hsame⟩ := X519.leave (v := some (.int (1 : Int32))) (fun h => by rw [Bd.returns] at h; cases h)
        refine ⟨_, _, go521 _ ?_, hrun, hended, _, _, rfl, ?_, ⟨_, rfl⟩, hW, hsame.mono (by decide) (by decide)⟩
        · exact retN X519 hx (t := .boolean) Bd.returns (by simp) (hb hby at_335) hr
        · show Q_rm0 Z p0 p1 p2 p3 p4 h0 n0 _ T519.heap _
          rw [e519]
          exact ⟨rfl, N519⟩
      · skip
        have go522 := go493.st T484 (mkF m 165 #[vI p0, vI p1, vI p2, vI p3, vI p4, vI j1, vI j2, vI r2, vI i1, vI i1, vI d1, vI d2, vR b411, vR b440, uu, uu, uu, uu, uu] [sR b440]) (fun t k => by
          refine XS.aload X484.here hx rfl (hb hby at_163) rfl rfl ?_
          exact k)
        obtain ⟨cq523, kq523, q523a, q523b, q523c⟩ := isOf hZ rfl f485
        obtain ⟨_, _, ⟨T523, L523, k523, n523⟩, -, X523, ⟨Lc523, hQ523, l523, y523, z523⟩, st523⟩ := X484.virtualBack hx (y := yN17) (z := yN17) hown (mvT hZ (wD hw 76 rfl)) (mvT hZ (wD hw 77 rfl)) (notFace_of_selects (args := #[]) (mvT hZ (wD hw 79 rfl))) (mvT hZ (wD hw 79 rfl)) (mvT hZ (wD hw 78 rfl)) (by decide) (backOf (W := 0) (rm_buildC_0 l Z a0 hw [] b440 sa_445 ka_445 nx_466 kx_466 va_466 kv_466 (own_pack p0 j1 d1) (own_pack r2 j2 d2) (own_pack p0 j1 d1) (own_pack r2 j2 d2) T484.heap n0 Z484 f485 f486 f487 f488 f489 f490 qp484_0 qp484_1 g_sa_445 g_va_466 g_b440 ne_b440_sa_445 ne_b440_nx_466 ne_b440_va_466 ne_sa_445_nx_466 ne_sa_445_va_466 qp466_11 (Or.inr ⟨own_nlt hn1 hn2 qf, rfl, rfl⟩) (own_half_ne hn2 hn1 (fun z => qn ⟨z.1.symm, z.2.symm⟩))) hZ (wD hw 80 rfl) (wD hw 30 rfl) (by decide) (by decide)) q523a q523c (g := (mkF m 165 #[vI p0, vI p1, vI p2, vI p3, vI p4, vI j1, vI j2, vI r2, vI i1, vI i1, vI d1, vI d2, vR b411, vR b440, uu, uu, uu, uu, uu] [sR b440])) rfl (by rw [hml]; rfl) (Steps.refl _) (argsL := []) (rest := []) (lenOf pd_rm0_5 rfl) rfl (by show 2 * 0 + _ ≤ _; exact Nat.le_of_eq rfl) (hb hby at_165) (fun _ _ => ⟨rfl, rfl, (by decide : 8 + 1 ≤ _), (by decide : 80 + 2 ≤ _)⟩)
        dsimp only [Pt.U, Pt.locs, Pt.cells, Pt.slots] at X523 l523 y523 z523 st523 hQ523
        rw [l523, y523, z523] at X523
        obtain ⟨b_523, rfl, N523q, K523, qp523_0, qp523_1, qp523_2, qp523_3, qp523_4, qp523_5, qp523_6⟩ := hQ523
        have N523 := Fr.app N484 N523q
        have f524 := f485.keep K523
        have f530 := qp484_0.keep K523 (ninS qp466_11 (ninS (Ne.symm ne_sa_445_nx_466) (ninS (Ne.symm ne_b440_nx_466) nin0)))
        have Z523 : n0 ≤ T523.heap.size := Nat.le_trans Z484 K523.1
        have KK523 := KK484.trans K523 (allS (Or.inr sz_va_466) (allS (Or.inr sz_sa_445) (allS (Or.inr sz_b440) all0)))
        have g_b_523 := qp523_0
        have sz_b_523 := Nat.le_trans KK484.1 qp523_1
        have ne_b440_b_523 : b440 ≠ b_523 := Nat.ne_of_lt (Nat.lt_of_lt_of_le f485.lt qp523_1)
        have ne_sa_445_b_523 : sa_445 ≠ b_523 := Nat.ne_of_lt (Nat.lt_of_lt_of_le f490.lt qp523_1)
        have ne_nx_466_b_523 : nx_466 ≠ b_523 := Nat.ne_of_lt (Nat.lt_of_lt_of_le qp484_0.lt qp523_1)
        have ne_va_466_b_523 : va_466 ≠ b_523 := Nat.ne_of_lt (Nat.lt_of_lt_of_le qp484_1.lt qp523_1)
        have go532 := go522.st T523 (mkF m 173 #[vI p0, vI p1, vI p2, vI p3, vI p4, vI j1, vI j2, vI r2, vI i1, vI i1, vI d1, vI d2, vR b411, vR b440, vR b_523, uu, uu, uu, uu] [sI i0, sR b_523]) (fun t k => by
          refine st523.trans ?_
          show SP p e below T523 (mkF m 168 #[vI p0, vI p1, vI p2, vI p3, vI p4, vI j1, vI j2, vI r2, vI i1, vI i1, vI d1, vI d2, vR b411, vR b440, uu, uu, uu, uu, uu] [sR b_523]) _
          refine XS.astore X523.here hx rfl (hb hby at_168) rfl rfl (l' := #[vI p0, vI p1, vI p2, vI p3, vI p4, vI j1, vI j2, vI r2, vI i1, vI i1, vI d1, vI d2, vR b411, vR b440, vR b_523, uu, uu, uu, uu]) rfl ?_
          refine XS.aload X523.here hx rfl (hb hby at_170) rfl rfl ?_
          refine XS.iconst X523.here hx rfl (hb hby at_172) ?_
          exact k)
        obtain ⟨cq533, kq533, q533a, q533b, q533c⟩ := isOf hZ rfl qp523_2
        obtain ⟨_, _, ⟨T533, L533, k533, n533⟩, -, X533, ⟨Lc533, hQ533, l533, y533, z533⟩, st533⟩ := X523.virtualBack hx (y := yN18) (z := yN18) hown (mvT hZ (wD hw 112 rfl)) (mvT hZ (wD hw 113 rfl)) (notFace_of_selects (args := #[]) (mvT hZ (wD hw 115 rfl))) (mvT hZ (wD hw 115 rfl)) (mvT hZ (wD hw 114 rfl)) (by decide) (backOf (W := 0) (rm_end0 l Z a0 hw [] b_523 sa_445 ka_445 (0 : Int32) (0 : Int32) (2 : Int32) T523.heap n0 Z523 qp523_3 qp523_5) hZ (wD hw 116 rfl) (wD hw 103 rfl) (by decide) (by decide)) q533a q533c (g := (mkF m 173 #[vI p0, vI p1, vI p2, vI p3, vI p4, vI j1, vI j2, vI r2, vI i1, vI i1, vI d1, vI d2, vR b411, vR b440, vR b_523, uu, uu, uu, uu] [sI i0, sR b_523])) rfl (by rw [hml]; rfl) (Steps.refl _) (argsL := [(.int (0 : Int32))]) (rest := []) (lenOf pd_rm0_6 rfl) rfl (by show 2 * 0 + _ ≤ _; exact Nat.le_of_eq rfl) (hb hby at_173) (fun _ _ => ⟨rfl, rfl, (by decide : 9 + 0 ≤ _), (by decide : 82 + 0 ≤ _)⟩)
        dsimp only [Pt.U, Pt.locs, Pt.cells, Pt.slots] at X533 l533 y533 z533 st533 hQ533
        rw [l533, y533, z533] at X533
        obtain ⟨rfl, N533q, e533⟩ := hQ533
        have N533 := Fr.app N523 N533q
        have go534 := go532.st T533 (mkF m 181 #[vI p0, vI p1, vI p2, vI p3, vI p4, vI j1, vI j2, vI r2, vI i1, vI i1, vI d1, vI d2, vR b411, vR b440, vR b_523, vI i0, uu, uu, uu] [sI i1, sR b_523]) (fun t k => by
          refine st533.trans ?_
          show SP p e below T533 (mkF m 176 #[vI p0, vI p1, vI p2, vI p3, vI p4, vI j1, vI j2, vI r2, vI i1, vI i1, vI d1, vI d2, vR b411, vR b440, vR b_523, uu, uu, uu, uu] [sI i0]) _
          refine XS.istore X533.here hx rfl (hb hby at_176) rfl (l' := #[vI p0, vI p1, vI p2, vI p3, vI p4, vI j1, vI j2, vI r2, vI i1, vI i1, vI d1, vI d2, vR b411, vR b440, vR b_523, vI i0, uu, uu, uu]) rfl ?_
          refine XS.aload X533.here hx rfl (hb hby at_178) rfl rfl ?_
          refine XS.iconst X533.here hx rfl (hb hby at_180) ?_
          exact k)
        obtain ⟨cq535, kq535, q535a, q535b, q535c⟩ := isOf hZ e533 qp523_2
        obtain ⟨_, _, ⟨T535, L535, k535, n535⟩, -, X535, ⟨Lc535, hQ535, l535, y535, z535⟩, st535⟩ := X533.virtualBack hx (y := yN18) (z := yN18) hown (mvT hZ (wD hw 112 rfl)) (mvT hZ (wD hw 113 rfl)) (notFace_of_selects (args := #[]) (mvT hZ (wD hw 115 rfl))) (mvT hZ (wD hw 115 rfl)) (mvT hZ (wD hw 114 rfl)) (by decide) (backOf (W := 0) (rm_end1 l Z a0 hw [] b_523 sa_445 ka_445 (0 : Int32) (0 : Int32) (2 : Int32) T523.heap n0 Z523 qp523_3 qp523_5) hZ (wD hw 116 rfl) (wD hw 103 rfl) (by decide) (by decide)) q535a q535c (g := (mkF m 181 #[vI p0, vI p1, vI p2, vI p3, vI p4, vI j1, vI j2, vI r2, vI i1, vI i1, vI d1, vI d2, vR b411, vR b440, vR b_523, vI i0, uu, uu, uu] [sI i1, sR b_523])) rfl (by rw [hml]; rfl) (Steps.refl _) (argsL := [(.int (1 : Int32))]) (rest := []) (lenOf pd_rm0_6 rfl) rfl (by show 2 * 0 + _ ≤ _; exact Nat.le_of_eq rfl) (hb hby at_181) (fun _ _ => ⟨rfl, e533, (by decide : 9 + 0 ≤ _), (by decide : 82 + 0 ≤ _)⟩)
        dsimp only [Pt.U, Pt.locs, Pt.cells, Pt.slots] at X535 l535 y535 z535 st535 hQ535
        rw [l535, y535, z535] at X535
        obtain ⟨rfl, N535q, e535⟩ := hQ535
        have N535 := Fr.app N533 N535q
        have go537 := go534.st T535 (mkF m 242 #[vI p0, vI p1, vI p2, vI p3, vI p4, vI j1, vI j2, vI r2, vI i1, vI i1, vI d1, vI d2, vR b411, vR b440, vR b_523, vI i0, vI i2, uu, uu] []) (fun t k => by
          refine st535.trans ?_
          show SP p e below T535 (mkF m 184 #[vI p0, vI p1, vI p2, vI p3, vI p4, vI j1, vI j2, vI r2, vI i1, vI i1, vI d1, vI d2, vR b411, vR b440, vR b_523, vI i0, uu, uu, uu] [sI i2]) _
          refine XS.istore X535.here hx rfl (hb hby at_184) rfl (l' := #[vI p0, vI p1, vI p2, vI p3, vI p4, vI j1, vI j2, vI r2, vI i1, vI i1, vI d1, vI d2, vR b411, vR b440, vR b_523, vI i0, vI i2, uu, uu]) rfl ?_
          refine XS.iload X535.here hx rfl (hb hby at_186) rfl ?_
          refine XS.iload X535.here hx rfl (hb hby at_188) rfl ?_
          refine XS.icmpYes X535.here hx rfl (pc0 := 190) (pc' := 242) rfl (hb hby at_190) rfl (teq ((by decide) : (1 : Int32) = (1 : Int32))).1 (by decide) (by decide) ?_
          exact k)
        have go540 := go537.st T535 (mkF m 336 #[vI p0, vI p1, vI p2, vI p3, vI p4, vI j1, vI j2, vI r2, vI i1, vI i1, vI d1, vI d2, vR b411, vR b440, vR b_523, vI i0, vI i2, uu, uu] []) (fun t k => by
          by_cases hc538 : p0 = r2
          · skip
            try simp only [if_pos hc538] at k
            refine XS.iloadN X535.here hx rfl (hb hby at_242) rfl ?_
            refine XS.iload X535.here hx rfl (hb hby at_243) rfl ?_
            refine XS.icmpNo X535.here hx rfl (hb hby at_245) rfl (teq hc538).2 ?_
            refine XS.iload X535.here hx rfl (hb hby at_248) rfl ?_
            refine XS.iload X535.here hx rfl (hb hby at_250) rfl ?_
            refine XS.icmpYes X535.here hx rfl (pc0 := 252) (pc' := 336) rfl (hb hby at_252) rfl (feq ((fun z => qn ⟨hc538, z⟩) : ¬ (j1 = j2))).2 (by decide) (by decide) ?_
            exact k
          · skip
            try simp only [if_neg hc538] at k
            refine XS.iloadN X535.here hx rfl (hb hby at_242) rfl ?_
            refine XS.iload X535.here hx rfl (hb hby at_243) rfl ?_
            refine XS.icmpYes X535.here hx rfl (pc0 := 245) (pc' := 336) rfl (hb hby at_245) rfl (feq hc538).2 (by decide) (by decide) ?_
            exact k
          )
        have go544 := go540.st T535 (mkF m 379 #[vI p0, vI p1, vI p2, vI p3, vI p4, vI j1, vI j2, vI r2, vI i1, vI i1, vI d1, vI d2, vR b411, vR b440, vR b_523, vI i0, vI i2, vI i1, uu] []) (fun t k => by
          refine XS.iload X535.here hx rfl (hb hby at_336) rfl ?_
          refine XS.ifYes X535.here hx rfl (pc0 := 338) (pc' := 361) rfl (hb hby at_338) rfl ((if0 _ _).trans (feq ((by decide) : ¬ ((1 : Int32) = (0 : Int32)))).2) (by decide) (by decide) ?_
          refine XS.iload X535.here hx rfl (hb hby at_361) rfl ?_
          refine XS.ifNo X535.here hx rfl (hb hby at_363) rfl ((if0 _ _).trans (teq ((by decide) : (0 : Int32) = (0 : Int32))).2) ?_
          refine XS.iload X535.here hx rfl (hb hby at_366) rfl ?_
          refine XS.iconst X535.here hx rfl (hb hby at_368) ?_
          refine XS.icmpNo X535.here hx rfl (hb hby at_369) rfl (teq ((by decide) : (2 : Int32) = (2 : Int32))).2 ?_
          refine XS.iconst X535.here hx rfl (hb hby at_372) ?_
          show SP p e below T535 (mkF m 373 #[vI p0, vI p1, vI p2, vI p3, vI p4, vI j1, vI j2, vI r2, vI i1, vI i1, vI d1, vI d2, vR b411, vR b440, vR b_523, vI i0, vI i2, uu, uu] [sI i1]) _
          refine XS.goto X535.here hx rfl (pc0 := 373) (pc' := 377) rfl (hb hby at_373) (by decide) (by decide) ?_
          refine XS.istore X535.here hx rfl (hb hby at_377) rfl (l' := #[vI p0, vI p1, vI p2, vI p3, vI p4, vI j1, vI j2, vI r2, vI i1, vI i1, vI d1, vI d2, vR b411, vR b440, vR b_523, vI i0, vI i2, vI i1, uu]) rfl ?_
          exact k)
        have go548 := go544.st T535 (mkF m 403 #[vI p0, vI p1, vI p2, vI p3, vI p4, vI j1, vI j2, vI r2, vI i1, vI i1, vI d1, vI d2, vR b411, vR b440, vR b_523, vI i0, vI i2, vI i1, uu] [(sI (if p0 < r2 then i1 else (if p0 = r2 then (if j1 < j2 then i1 else i0) else i0)))]) (fun t k => by
          by_cases hc545 : p0 < r2
          · skip
            try simp only [if_pos hc545] at k
            refine XS.iloadN X535.here hx rfl (hb hby at_379) rfl ?_
            refine XS.iload X535.here hx rfl (hb hby at_380) rfl ?_
            refine XS.icmpYes X535.here hx rfl (pc0 := 382) (pc' := 398) rfl (hb hby at_382) rfl (tlt hc545).1 (by decide) (by decide) ?_
            refine XS.iconst X535.here hx rfl (hb hby at_398) ?_
            refine XS.goto X535.here hx rfl (pc0 := 399) (pc' := 403) rfl (hb hby at_399) (by decide) (by decide) ?_
            exact k
          · skip
            by_cases hc546 : p0 = r2
            · skip
              by_cases hc547 : j1 < j2
              · skip
                try simp only [if_neg hc545, if_pos hc546, if_pos hc547] at k
                refine XS.iloadN X535.here hx rfl (hb hby at_379) rfl ?_
                refine XS.iload X535.here hx rfl (hb hby at_380) rfl ?_
                refine XS.icmpNo X535.here hx rfl (hb hby at_382) rfl (flt hc545).1 ?_
                refine XS.iloadN X535.here hx rfl (hb hby at_385) rfl ?_
                refine XS.iload X535.here hx rfl (hb hby at_386) rfl ?_
                refine XS.icmpNo X535.here hx rfl (hb hby at_388) rfl (teq hc546).2 ?_
                refine XS.iload X535.here hx rfl (hb hby at_391) rfl ?_
                refine XS.iload X535.here hx rfl (hb hby at_393) rfl ?_
                show SP p e below T535 (mkF m 395 #[vI p0, vI p1, vI p2, vI p3, vI p4, vI j1, vI j2, vI r2, vI i1, vI i1, vI d1, vI d2, vR b411, vR b440, vR b_523, vI i0, vI i2, vI i1, uu] [sI j2, sI j1]) _
                refine XS.icmpNo X535.here hx rfl (hb hby at_395) rfl (tlt hc547).2.1 ?_
                refine XS.iconst X535.here hx rfl (hb hby at_398) ?_
                refine XS.goto X535.here hx rfl (pc0 := 399) (pc' := 403) rfl (hb hby at_399) (by decide) (by decide) ?_
                exact k
              · skip
                try simp only [if_neg hc545, if_pos hc546, if_neg hc547] at k
                refine XS.iloadN X535.here hx rfl (hb hby at_379) rfl ?_
                refine XS.iload X535.here hx rfl (hb hby at_380) rfl ?_
                refine XS.icmpNo X535.here hx rfl (hb hby at_382) rfl (flt hc545).1 ?_
                refine XS.iloadN X535.here hx rfl (hb hby at_385) rfl ?_
                refine XS.iload X535.here hx rfl (hb hby at_386) rfl ?_
                refine XS.icmpNo X535.here hx rfl (hb hby at_388) rfl (teq hc546).2 ?_
                refine XS.iload X535.here hx rfl (hb hby at_391) rfl ?_
                refine XS.iload X535.here hx rfl (hb hby at_393) rfl ?_
                show SP p e below T535 (mkF m 395 #[vI p0, vI p1, vI p2, vI p3, vI p4, vI j1, vI j2, vI r2, vI i1, vI i1, vI d1, vI d2, vR b411, vR b440, vR b_523, vI i0, vI i2, vI i1, uu] [sI j2, sI j1]) _
                refine XS.icmpYes X535.here hx rfl (pc0 := 395) (pc' := 402) rfl (hb hby at_395) rfl (flt hc547).2.1 (by decide) (by decide) ?_
                refine XS.iconst X535.here hx rfl (hb hby at_402) ?_
                exact k
            · skip
              try simp only [if_neg hc545, if_neg hc546] at k
              refine XS.iloadN X535.here hx rfl (hb hby at_379) rfl ?_
              refine XS.iload X535.here hx rfl (hb hby at_380) rfl ?_
              refine XS.icmpNo X535.here hx rfl (hb hby at_382) rfl (flt hc545).1 ?_
              refine XS.iloadN X535.here hx rfl (hb hby at_385) rfl ?_
              refine XS.iload X535.here hx rfl (hb hby at_386) rfl ?_
              refine XS.icmpYes X535.here hx rfl (pc0 := 388) (pc' := 402) rfl (hb hby at_388) rfl (feq hc546).2 (by decide) (by decide) ?_
              refine XS.iconst X535.here hx rfl (hb hby at_402) ?_
              exact k
          )
        obtain ⟨fi, hfi⟩ : ∃ z : Int32, z = (if p0 < r2 then (1 : Int32) else (if p0 = r2 then (if j1 < j2 then (1 : Int32) else (0 : Int32)) else (0 : Int32))) := ⟨_, rfl⟩
        rw [← hfi] at go548
        have go551 := go548.st T535 (mkF m 423 #[vI p0, vI p1, vI p2, vI p3, vI p4, vI j1, vI j2, vI r2, vI i1, vI i1, vI d1, vI d2, vR b411, vR b440, vR b_523, vI i0, vI i2, vI i1, vI fi] [sI d1, sI j1, sI p0, sI i0, sR b_523]) (fun t k => by
          refine XS.istore X535.here hx rfl (hb hby at_403) rfl (l' := #[vI p0, vI p1, vI p2, vI p3, vI p4, vI j1, vI j2, vI r2, vI i1, vI i1, vI d1, vI d2, vR b411, vR b440, vR b_523, vI i0, vI i2, vI i1, vI fi]) rfl ?_
          refine XS.iload X535.here hx rfl (hb hby at_405) rfl ?_
          refine XS.ifNo X535.here hx rfl (hb hby at_407) rfl ((if0 _ _).trans (feq (own_fi1 hfi qf : ¬ (fi = (0 : Int32)))).1) ?_
          refine XS.iload X535.here hx rfl (hb hby at_410) rfl ?_
          refine XS.ifNo X535.here hx rfl (hb hby at_412) rfl ((if0 _ _).trans (feq ((by decide) : ¬ ((1 : Int32) = (0 : Int32)))).1) ?_
          refine XS.aload X535.here hx rfl (hb hby at_415) rfl rfl ?_
          refine XS.iconst X535.here hx rfl (hb hby at_417) ?_
          refine XS.iloadN X535.here hx rfl (hb hby at_418) rfl ?_
          show SP p e below T535 (mkF m 419 #[vI p0, vI p1, vI p2, vI p3, vI p4, vI j1, vI j2, vI r2, vI i1, vI i1, vI d1, vI d2, vR b411, vR b440, vR b_523, vI i0, vI i2, vI i1, vI fi] [sI p0, sI i0, sR b_523]) _
          refine XS.iload X535.here hx rfl (hb hby at_419) rfl ?_
          refine XS.iload X535.here hx rfl (hb hby at_421) rfl ?_
          exact k)
        obtain ⟨_, _, ⟨T552, L552, k552, n552⟩, -, X552, ⟨Lc552, hQ552, l552, y552, z552⟩, st552⟩ := Jvm.LawKit.callS X535 hx (y := yN22) hown (mvT hZ (wD hw 117 rfl)) (mvT hZ (wD hw 118 rfl)) (mvT hZ (wD hw 119 rfl)) (mvT hZ (wD hw 120 rfl)) (by decide) (backOf (W := 0) (rm20 l Z a0 hw [] b_523 (0 : Int32) p0 j1 d1 va_466 kv_466 (2 : Int32) [(.long (own_pack p0 j1 d1)), (.long (own_pack r2 j2 d2))] (own_pack p0 j1 d1) T523.heap n0 Z523 qp523_2 qp523_4 qp523_6 ⟨by decide, by decide⟩ rfl) hZ (wD hw 120 rfl) (wD hw 119 rfl) (by decide) (by decide)) (g := (mkF m 423 #[vI p0, vI p1, vI p2, vI p3, vI p4, vI j1, vI j2, vI r2, vI i1, vI i1, vI d1, vI d2, vR b411, vR b440, vR b_523, vI i0, vI i2, vI i1, vI fi] [sI d1, sI j1, sI p0, sI i0, sR b_523])) rfl (by rw [hml]; rfl) (argsL := [(.ref b_523), (.int (0 : Int32)), (.int p0), (.int j1), (.int d1)]) (rest := []) (lenOf pd_rm0_7 rfl) rfl (by show 2 * 0 + _ ≤ _; exact Nat.le_of_eq rfl) (hb hby at_423) (fun _ _ => ⟨rfl, e535, (by decide : 9 + 0 ≤ _), (by decide : 82 + 0 ≤ _)⟩)
        dsimp only [Pt.U, Pt.locs, Pt.cells, Pt.slots] at X552 l552 y552 z552 st552 hQ552
        rw [l552, y552, z552] at X552
        obtain ⟨rfl, N552q, e552⟩ := hQ552
        have N552 := Fr.app N535 N552q
        have go554 := go551.st T552 (mkF m 438 #[vI p0, vI p1, vI p2, vI p3, vI p4, vI j1, vI j2, vI r2, vI i1, vI i1, vI d1, vI d2, vR b411, vR b440, vR b_523, vI i0, vI i2, vI i1, vI fi] [sI d2, sI j2, sI r2, sI i1, sR b_523]) (fun t k => by
          refine st552 _ ?_
          show SP p e below T552 (mkF m 426 #[vI p0, vI p1, vI p2, vI p3, vI p4, vI j1, vI j2, vI r2, vI i1, vI i1, vI d1, vI d2, vR b411, vR b440, vR b_523, vI i0, vI i2, vI i1, vI fi] [(sI (own_at p0 j1 d1 (own_pack p0 j1 d1)))]) _
          refine XS.ifNo X552.here hx rfl (hb hby at_426) rfl ((if0 _ _).trans (feq (own_at_ok hn1 hb1 : ¬ ((own_at p0 j1 d1 (own_pack p0 j1 d1)) = (0 : Int32)))).1) ?_
          refine XS.aload X552.here hx rfl (hb hby at_429) rfl rfl ?_
          refine XS.iconst X552.here hx rfl (hb hby at_431) ?_
          refine XS.iload X552.here hx rfl (hb hby at_432) rfl ?_
          refine XS.iload X552.here hx rfl (hb hby at_434) rfl ?_
          refine XS.iload X552.here hx rfl (hb hby at_436) rfl ?_
          exact k)
        obtain ⟨_, _, ⟨T555, L555, k555, n555⟩, -, X555, ⟨Lc555, hQ555, l555, y555, z555⟩, st555⟩ := Jvm.LawKit.callS X552 hx (y := yN22) hown (mvT hZ (wD hw 117 rfl)) (mvT hZ (wD hw 118 rfl)) (mvT hZ (wD hw 119 rfl)) (mvT hZ (wD hw 120 rfl)) (by decide) (backOf (W := 0) (rm20 l Z a0 hw [] b_523 (1 : Int32) r2 j2 d2 va_466 kv_466 (2 : Int32) [(.long (own_pack p0 j1 d1)), (.long (own_pack r2 j2 d2))] (own_pack r2 j2 d2) T523.heap n0 Z523 qp523_2 qp523_4 qp523_6 ⟨by decide, by decide⟩ rfl) hZ (wD hw 120 rfl) (wD hw 119 rfl) (by decide) (by decide)) (g := (mkF m 438 #[vI p0, vI p1, vI p2, vI p3, vI p4, vI j1, vI j2, vI r2, vI i1, vI i1, vI d1, vI d2, vR b411, vR b440, vR b_523, vI i0, vI i2, vI i1, vI fi] [sI d2, sI j2, sI r2, sI i1, sR b_523])) rfl (by rw [hml]; rfl) (argsL := [(.ref b_523), (.int (1 : Int32)), (.int r2), (.int j2), (.int d2)]) (rest := []) (lenOf pd_rm0_7 rfl) rfl (by show 2 * 0 + _ ≤ _; exact Nat.le_of_eq rfl) (hb hby at_438) (fun _ _ => ⟨rfl, e552, (by decide : 9 + 0 ≤ _), (by decide : 82 + 0 ≤ _)⟩)
        dsimp only [Pt.U, Pt.locs, Pt.cells, Pt.slots] at X555 l555 y555 z555 st555 hQ555
        rw [l555, y555, z555] at X555
        obtain ⟨rfl, N555q, e555⟩ := hQ555
        have N555 := Fr.app N552 N555q
        have go557 := go554.st T555 (mkF m 449 #[vI p0, vI p1, vI p2, vI p3, vI p4, vI j1, vI j2, vI r2, vI i1, vI i1, vI d1, vI d2, vR b411, vR b440, vR b_523, vI i0, vI i2, vI i1, vI fi] [sI i1]) (fun t k => by
          refine st555 _ ?_
          show SP p e below T555 (mkF m 441 #[vI p0, vI p1, vI p2, vI p3, vI p4, vI j1, vI j2, vI r2, vI i1, vI i1, vI d1, vI d2, vR b411, vR b440, vR b_523, vI i0, vI i2, vI i1, vI fi] [(sI (own_at r2 j2 d2 (own_pack r2 j2 d2)))]) _
          refine XS.ifNo X555.here hx rfl (hb hby at_441) rfl ((if0 _ _).trans (feq (own_at_ok hn2 hb2 : ¬ ((own_at r2 j2 d2 (own_pack r2 j2 d2)) = (0 : Int32)))).1) ?_
          refine XS.iconst X555.here hx rfl (hb hby at_444) ?_
          refine XS.goto X555.here hx rfl (pc0 := 445) (pc' := 449) rfl (hb hby at_445) (by decide) (by decide) ?_
          exact k)
        obtain ⟨fs, hr, hrun, hended, hW, hsame⟩ := X555.leave (v := some (.int (1 : Int32))) (fun h => by rw [Bd.returns] at h; cases h)
        refine ⟨_, _, go557 _ ?_, hrun, hended, _, _, rfl, ?_, ⟨_, rfl⟩, hW, hsame.mono (by decide) (by decide)⟩
        · exact retN X555 hx (t := .boolean) Bd.returns (by simp) (hb hby at_449) hr
        · show Q_rm0 Z p0 p1 p2 p3 p4 h0 n0 _ T555.heap _
          rw [e555]
          exact ⟨rfl, N555⟩
      · skip
        have go558 := go493.st T484 (mkF m 165 #[vI p0, vI p1, vI p2, vI p3, vI p4, vI j1, vI j2, vI r2, vI i1, vI i1, vI d1, vI d2, vR b411, vR b440, uu, uu, uu, uu, uu] [sR b440]) (fun t k => by
          refine XS.aload X484.here hx rfl (hb hby at_163) rfl rfl ?_
          exact k)
        obtain ⟨cq559, kq559, q559a, q559b, q559c⟩ := isOf hZ rfl f485
        obtain ⟨_, _, ⟨T559, L559, k559, n559⟩, -, X559, ⟨Lc559, hQ559, l559, y559, z559⟩, st559⟩ := X484.virtualBack hx (y := yN17) (z := yN17) hown (mvT hZ (wD hw 76 rfl)) (mvT hZ (wD hw 77 rfl)) (notFace_of_selects (args := #[]) (mvT hZ (wD hw 79 rfl))) (mvT hZ (wD hw 79 rfl)) (mvT hZ (wD hw 78 rfl)) (by decide) (backOf (W := 0) (rm_buildC_0 l Z a0 hw [] b440 sa_445 ka_445 nx_466 kx_466 va_466 kv_466 (own_pack p0 j1 d1) (own_pack r2 j2 d2) (own_pack r2 j2 d2) (own_pack p0 j1 d1) T484.heap n0 Z484 f485 f486 f487 f488 f489 f490 qp484_0 qp484_1 g_sa_445 g_va_466 g_b440 ne_b440_sa_445 ne_b440_nx_466 ne_b440_va_466 ne_sa_445_nx_466 ne_sa_445_va_466 qp466_11 (Or.inl ⟨own_lt hn2 hn1 qf, rfl, rfl⟩) (own_half_ne hn1 hn2 qn)) hZ (wD hw 80 rfl) (wD hw 30 rfl) (by decide) (by decide)) q559a q559c (g := (mkF m 165 #[vI p0, vI p1, vI p2, vI p3, vI p4, vI j1, vI j2, vI r2, vI i1, vI i1, vI d1, vI d2, vR b411, vR b440, uu, uu, uu, uu, uu] [sR b440])) rfl (by rw [hml]; rfl) (Steps.refl _) (argsL := []) (rest := []) (lenOf pd_rm0_5 rfl) rfl (by show 2 * 0 + _ ≤ _; exact Nat.le_of_eq rfl) (hb hby at_165) (fun _ _ => ⟨rfl, rfl, (by decide : 8 + 1 ≤ _), (by decide : 80 + 2 ≤ _)⟩)
        dsimp only [Pt.U, Pt.locs, Pt.cells, Pt.slots] at X559 l559 y559 z559 st559 hQ559
        rw [l559, y559, z559] at X559
        obtain ⟨b_559, rfl, N559q, K559, qp559_0, qp559_1, qp559_2, qp559_3, qp559_4, qp559_5, qp559_6⟩ := hQ559
        have N559 := Fr.app N484 N559q
        have f560 := f485.keep K559
        have f566 := qp484_0.keep K559 (ninS qp466_11 (ninS (Ne.symm ne_sa_445_nx_466) (ninS (Ne.symm ne_b440_nx_466) nin0)))
        have Z559 : n0 ≤ T559.heap.size := Nat.le_trans Z484 K559.1
        have KK559 := KK484.trans K559 (allS (Or.inr sz_va_466) (allS (Or.inr sz_sa_445) (allS (Or.inr sz_b440) all0)))
        have g_b_559 := qp559_0
        have sz_b_559 := Nat.le_trans KK484.1 qp559_1
        have ne_b440_b_559 : b440 ≠ b_559 := Nat.ne_of_lt (Nat.lt_of_lt_of_le f485.lt qp559_1)
        have ne_sa_445_b_559 : sa_445 ≠ b_559 := Nat.ne_of_lt (Nat.lt_of_lt_of_le f490.lt qp559_1)
        have ne_nx_466_b_559 : nx_466 ≠ b_559 := Nat.ne_of_lt (Nat.lt_of_lt_of_le qp484_0.lt qp559_1)
        have ne_va_466_b_559 : va_466 ≠ b_559 := Nat.ne_of_lt (Nat.lt_of_lt_of_le qp484_1.lt qp559_1)
        have go568 := go558.st T559 (mkF m 173 #[vI p0, vI p1, vI p2, vI p3, vI p4, vI j1, vI j2, vI r2, vI i1, vI i1, vI d1, vI d2, vR b411, vR b440, vR b_559, uu, uu, uu, uu] [sI i0, sR b_559]) (fun t k => by
          refine st559.trans ?_
          show SP p e below T559 (mkF m 168 #[vI p0, vI p1, vI p2, vI p3, vI p4, vI j1, vI j2, vI r2, vI i1, vI i1, vI d1, vI d2, vR b411, vR b440, uu, uu, uu, uu, uu] [sR b_559]) _
          refine XS.astore X559.here hx rfl (hb hby at_168) rfl rfl (l' := #[vI p0, vI p1, vI p2, vI p3, vI p4, vI j1, vI j2, vI r2, vI i1, vI i1, vI d1, vI d2, vR b411, vR b440, vR b_559, uu, uu, uu, uu]) rfl ?_
          refine XS.aload X559.here hx rfl (hb hby at_170) rfl rfl ?_
          refine XS.iconst X559.here hx rfl (hb hby at_172) ?_
          exact k)
        obtain ⟨cq569, kq569, q569a, q569b, q569c⟩ := isOf hZ rfl qp559_2
        obtain ⟨_, _, ⟨T569, L569, k569, n569⟩, -, X569, ⟨Lc569, hQ569, l569, y569, z569⟩, st569⟩ := X559.virtualBack hx (y := yN18) (z := yN18) hown (mvT hZ (wD hw 112 rfl)) (mvT hZ (wD hw 113 rfl)) (notFace_of_selects (args := #[]) (mvT hZ (wD hw 115 rfl))) (mvT hZ (wD hw 115 rfl)) (mvT hZ (wD hw 114 rfl)) (by decide) (backOf (W := 0) (rm_end0 l Z a0 hw [] b_559 sa_445 ka_445 (0 : Int32) (0 : Int32) (2 : Int32) T559.heap n0 Z559 qp559_3 qp559_5) hZ (wD hw 116 rfl) (wD hw 103 rfl) (by decide) (by decide)) q569a q569c (g := (mkF m 173 #[vI p0, vI p1, vI p2, vI p3, vI p4, vI j1, vI j2, vI r2, vI i1, vI i1, vI d1, vI d2, vR b411, vR b440, vR b_559, uu, uu, uu, uu] [sI i0, sR b_559])) rfl (by rw [hml]; rfl) (Steps.refl _) (argsL := [(.int (0 : Int32))]) (rest := []) (lenOf pd_rm0_6 rfl) rfl (by show 2 * 0 + _ ≤ _; exact Nat.le_of_eq rfl) (hb hby at_173) (fun _ _ => ⟨rfl, rfl, (by decide : 9 + 0 ≤ _), (by decide : 82 + 0 ≤ _)⟩)
        dsimp only [Pt.U, Pt.locs, Pt.cells, Pt.slots] at X569 l569 y569 z569 st569 hQ569
        rw [l569, y569, z569] at X569
        obtain ⟨rfl, N569q, e569⟩ := hQ569
        have N569 := Fr.app N559 N569q
        have go570 := go568.st T569 (mkF m 181 #[vI p0, vI p1, vI p2, vI p3, vI p4, vI j1, vI j2, vI r2, vI i1, vI i1, vI d1, vI d2, vR b411, vR b440, vR b_559, vI i0, uu, uu, uu] [sI i1, sR b_559]) (fun t k => by
          refine st569.trans ?_
          show SP p e below T569 (mkF m 176 #[vI p0, vI p1, vI p2, vI p3, vI p4, vI j1, vI j2, vI r2, vI i1, vI i1, vI d1, vI d2, vR b411, vR b440, vR b_559, uu, uu, uu, uu] [sI i0]) _
          refine XS.istore X569.here hx rfl (hb hby at_176) rfl (l' := #[vI p0, vI p1, vI p2, vI p3, vI p4, vI j1, vI j2, vI r2, vI i1, vI i1, vI d1, vI d2, vR b411, vR b440, vR b_559, vI i0, uu, uu, uu]) rfl ?_
          refine XS.aload X569.here hx rfl (hb hby at_178) rfl rfl ?_
          refine XS.iconst X569.here hx rfl (hb hby at_180) ?_
          exact k)
        obtain ⟨cq571, kq571, q571a, q571b, q571c⟩ := isOf hZ e569 qp559_2
        obtain ⟨_, _, ⟨T571, L571, k571, n571⟩, -, X571, ⟨Lc571, hQ571, l571, y571, z571⟩, st571⟩ := X569.virtualBack hx (y := yN18) (z := yN18) hown (mvT hZ (wD hw 112 rfl)) (mvT hZ (wD hw 113 rfl)) (notFace_of_selects (args := #[]) (mvT hZ (wD hw 115 rfl))) (mvT hZ (wD hw 115 rfl)) (mvT hZ (wD hw 114 rfl)) (by decide) (backOf (W := 0) (rm_end1 l Z a0 hw [] b_559 sa_445 ka_445 (0 : Int32) (0 : Int32) (2 : Int32) T559.heap n0 Z559 qp559_3 qp559_5) hZ (wD hw 116 rfl) (wD hw 103 rfl) (by decide) (by decide)) q571a q571c (g := (mkF m 181 #[vI p0, vI p1, vI p2, vI p3, vI p4, vI j1, vI j2, vI r2, vI i1, vI i1, vI d1, vI d2, vR b411, vR b440, vR b_559, vI i0, uu, uu, uu] [sI i1, sR b_559])) rfl (by rw [hml]; rfl) (Steps.refl _) (argsL := [(.int (1 : Int32))]) (rest := []) (lenOf pd_rm0_6 rfl) rfl (by show 2 * 0 + _ ≤ _; exact Nat.le_of_eq rfl) (hb hby at_181) (fun _ _ => ⟨rfl, e569, (by decide : 9 + 0 ≤ _), (by decide : 82 + 0 ≤ _)⟩)
        dsimp only [Pt.U, Pt.locs, Pt.cells, Pt.slots] at X571 l571 y571 z571 st571 hQ571
        rw [l571, y571, z571] at X571
        obtain ⟨rfl, N571q, e571⟩ := hQ571
        have N571 := Fr.app N569 N571q
        have go573 := go570.st T571 (mkF m 242 #[vI p0, vI p1, vI p2, vI p3, vI p4, vI j1, vI j2, vI r2, vI i1, vI i1, vI d1, vI d2, vR b411, vR b440, vR b_559, vI i0, vI i2, uu, uu] []) (fun t k => by
          refine st571.trans ?_
          show SP p e below T571 (mkF m 184 #[vI p0, vI p1, vI p2, vI p3, vI p4, vI j1, vI j2, vI r2, vI i1, vI i1, vI d1, vI d2, vR b411, vR b440, vR b_559, vI i0, uu, uu, uu] [sI i2]) _
          refine XS.istore X571.here hx rfl (hb hby at_184) rfl (l' := #[vI p0, vI p1, vI p2, vI p3, vI p4, vI j1, vI j2, vI r2, vI i1, vI i1, vI d1, vI d2, vR b411, vR b440, vR b_559, vI i0, vI i2, uu, uu]) rfl ?_
          refine XS.iload X571.here hx rfl (hb hby at_186) rfl ?_
          refine XS.iload X571.here hx rfl (hb hby at_188) rfl ?_
          refine XS.icmpYes X571.here hx rfl (pc0 := 190) (pc' := 242) rfl (hb hby at_190) rfl (teq ((by decide) : (1 : Int32) = (1 : Int32))).1 (by decide) (by decide) ?_
          exact k)
        have go576 := go573.st T571 (mkF m 336 #[vI p0, vI p1, vI p2, vI p3, vI p4, vI j1, vI j2, vI r2, vI i1, vI i1, vI d1, vI d2, vR b411, vR b440, vR b_559, vI i0, vI i2, uu, uu] []) (fun t k => by
          by_cases hc574 : p0 = r2
          · skip
            try simp only [if_pos hc574] at k
            refine XS.iloadN X571.here hx rfl (hb hby at_242) rfl ?_
            refine XS.iload X571.here hx rfl (hb hby at_243) rfl ?_
            refine XS.icmpNo X571.here hx rfl (hb hby at_245) rfl (teq hc574).2 ?_
            refine XS.iload X571.here hx rfl (hb hby at_248) rfl ?_
            refine XS.iload X571.here hx rfl (hb hby at_250) rfl ?_
            refine XS.icmpYes X571.here hx rfl (pc0 := 252) (pc' := 336) rfl (hb hby at_252) rfl (feq ((fun z => qn ⟨hc574, z⟩) : ¬ (j1 = j2))).2 (by decide) (by decide) ?_
            exact k
          · skip
            try simp only [if_neg hc574] at k
            refine XS.iloadN X571.here hx rfl (hb hby at_242) rfl ?_
            refine XS.iload X571.here hx rfl (hb hby at_243) rfl ?_
            refine XS.icmpYes X571.here hx rfl (pc0 := 245) (pc' := 336) rfl (hb hby at_245) rfl (feq hc574).2 (by decide) (by decide) ?_
            exact k
          )
        have go580 := go576.st T571 (mkF m 379 #[vI p0, vI p1, vI p2, vI p3, vI p4, vI j1, vI j2, vI r2, vI i1, vI i1, vI d1, vI d2, vR b411, vR b440, vR b_559, vI i0, vI i2, vI i1, uu] []) (fun t k => by
          refine XS.iload X571.here hx rfl (hb hby at_336) rfl ?_
          refine XS.ifYes X571.here hx rfl (pc0 := 338) (pc' := 361) rfl (hb hby at_338) rfl ((if0 _ _).trans (feq ((by decide) : ¬ ((1 : Int32) = (0 : Int32)))).2) (by decide) (by decide) ?_
          refine XS.iload X571.here hx rfl (hb hby at_361) rfl ?_
          refine XS.ifNo X571.here hx rfl (hb hby at_363) rfl ((if0 _ _).trans (teq ((by decide) : (0 : Int32) = (0 : Int32))).2) ?_
          refine XS.iload X571.here hx rfl (hb hby at_366) rfl ?_
          refine XS.iconst X571.here hx rfl (hb hby at_368) ?_
          refine XS.icmpNo X571.here hx rfl (hb hby at_369) rfl (teq ((by decide) : (2 : Int32) = (2 : Int32))).2 ?_
          refine XS.iconst X571.here hx rfl (hb hby at_372) ?_
          show SP p e below T571 (mkF m 373 #[vI p0, vI p1, vI p2, vI p3, vI p4, vI j1, vI j2, vI r2, vI i1, vI i1, vI d1, vI d2, vR b411, vR b440, vR b_559, vI i0, vI i2, uu, uu] [sI i1]) _
          refine XS.goto X571.here hx rfl (pc0 := 373) (pc' := 377) rfl (hb hby at_373) (by decide) (by decide) ?_
          refine XS.istore X571.here hx rfl (hb hby at_377) rfl (l' := #[vI p0, vI p1, vI p2, vI p3, vI p4, vI j1, vI j2, vI r2, vI i1, vI i1, vI d1, vI d2, vR b411, vR b440, vR b_559, vI i0, vI i2, vI i1, uu]) rfl ?_
          exact k)
        have go584 := go580.st T571 (mkF m 403 #[vI p0, vI p1, vI p2, vI p3, vI p4, vI j1, vI j2, vI r2, vI i1, vI i1, vI d1, vI d2, vR b411, vR b440, vR b_559, vI i0, vI i2, vI i1, uu] [(sI (if p0 < r2 then i1 else (if p0 = r2 then (if j1 < j2 then i1 else i0) else i0)))]) (fun t k => by
          by_cases hc581 : p0 < r2
          · skip
            try simp only [if_pos hc581] at k
            refine XS.iloadN X571.here hx rfl (hb hby at_379) rfl ?_
            refine XS.iload X571.here hx rfl (hb hby at_380) rfl ?_
            refine XS.icmpYes X571.here hx rfl (pc0 := 382) (pc' := 398) rfl (hb hby at_382) rfl (tlt hc581).1 (by decide) (by decide) ?_
            refine XS.iconst X571.here hx rfl (hb hby at_398) ?_
            refine XS.goto X571.here hx rfl (pc0 := 399) (pc' := 403) rfl (hb hby at_399) (by decide) (by decide) ?_
            exact k
          · skip
            by_cases hc582 : p0 = r2
            · skip
              by_cases hc583 : j1 < j2
              · skip
                try simp only [if_neg hc581, if_pos hc582, if_pos hc583] at k
                refine XS.iloadN X571.here hx rfl (hb hby at_379) rfl ?_
                refine XS.iload X571.here hx rfl (hb hby at_380) rfl ?_
                refine XS.icmpNo X571.here hx rfl (hb hby at_382) rfl (flt hc581).1 ?_
                refine XS.iloadN X571.here hx rfl (hb hby at_385) rfl ?_
                refine XS.iload X571.here hx rfl (hb hby at_386) rfl ?_
                refine XS.icmpNo X571.here hx rfl (hb hby at_388) rfl (teq hc582).2 ?_
                refine XS.iload X571.here hx rfl (hb hby at_391) rfl ?_
                refine XS.iload X571.here hx rfl (hb hby at_393) rfl ?_
                show SP p e below T571 (mkF m 395 #[vI p0, vI p1, vI p2, vI p3, vI p4, vI j1, vI j2, vI r2, vI i1, vI i1, vI d1, vI d2, vR b411, vR b440, vR b_559, vI i0, vI i2, vI i1, uu] [sI j2, sI j1]) _
                refine XS.icmpNo X571.here hx rfl (hb hby at_395) rfl (tlt hc583).2.1 ?_
                refine XS.iconst X571.here hx rfl (hb hby at_398) ?_
                refine XS.goto X571.here hx rfl (pc0 := 399) (pc' := 403) rfl (hb hby at_399) (by decide) (by decide) ?_
                exact k
              · skip
                try simp only [if_neg hc581, if_pos hc582, if_neg hc583] at k
                refine XS.iloadN X571.here hx rfl (hb hby at_379) rfl ?_
                refine XS.iload X571.here hx rfl (hb hby at_380) rfl ?_
                refine XS.icmpNo X571.here hx rfl (hb hby at_382) rfl (flt hc581).1 ?_
                refine XS.iloadN X571.here hx rfl (hb hby at_385) rfl ?_
                refine XS.iload X571.here hx rfl (hb hby at_386) rfl ?_
                refine XS.icmpNo X571.here hx rfl (hb hby at_388) rfl (teq hc582).2 ?_
                refine XS.iload X571.here hx rfl (hb hby at_391) rfl ?_
                refine XS.iload X571.here hx rfl (hb hby at_393) rfl ?_
                show SP p e below T571 (mkF m 395 #[vI p0, vI p1, vI p2, vI p3, vI p4, vI j1, vI j2, vI r2, vI i1, vI i1, vI d1, vI d2, vR b411, vR b440, vR b_559, vI i0, vI i2, vI i1, uu] [sI j2, sI j1]) _
                refine XS.icmpYes X571.here hx rfl (pc0 := 395) (pc' := 402) rfl (hb hby at_395) rfl (flt hc583).2.1 (by decide) (by decide) ?_
                refine XS.iconst X571.here hx rfl (hb hby at_402) ?_
                exact k
            · skip
              try simp only [if_neg hc581, if_neg hc582] at k
              refine XS.iloadN X571.here hx rfl (hb hby at_379) rfl ?_
              refine XS.iload X571.here hx rfl (hb hby at_380) rfl ?_
              refine XS.icmpNo X571.here hx rfl (hb hby at_382) rfl (flt hc581).1 ?_
              refine XS.iloadN X571.here hx rfl (hb hby at_385) rfl ?_
              refine XS.iload X571.here hx rfl (hb hby at_386) rfl ?_
              refine XS.icmpYes X571.here hx rfl (pc0 := 388) (pc' := 402) rfl (hb hby at_388) rfl (feq hc582).2 (by decide) (by decide) ?_
              refine XS.iconst X571.here hx rfl (hb hby at_402) ?_
              exact k
          )
        obtain ⟨fi, hfi⟩ : ∃ z : Int32, z = (if p0 < r2 then (1 : Int32) else (if p0 = r2 then (if j1 < j2 then (1 : Int32) else (0 : Int32)) else (0 : Int32))) := ⟨_, rfl⟩
        rw [← hfi] at go584
        have go587 := go584.st T571 (mkF m 464 #[vI p0, vI p1, vI p2, vI p3, vI p4, vI j1, vI j2, vI r2, vI i1, vI i1, vI d1, vI d2, vR b411, vR b440, vR b_559, vI i0, vI i2, vI i1, vI fi] [sI d2, sI j2, sI r2, sI i0, sR b_559]) (fun t k => by
          refine XS.istore X571.here hx rfl (hb hby at_403) rfl (l' := #[vI p0, vI p1, vI p2, vI p3, vI p4, vI j1, vI j2, vI r2, vI i1, vI i1, vI d1, vI d2, vR b411, vR b440, vR b_559, vI i0, vI i2, vI i1, vI fi]) rfl ?_
          refine XS.iload X571.here hx rfl (hb hby at_405) rfl ?_
          refine XS.ifYes X571.here hx rfl (pc0 := 407) (pc' := 450) rfl (hb hby at_407) rfl ((if0 _ _).trans (teq (own_fi0 hfi qf : fi = (0 : Int32))).1) (by decide) (by decide) ?_
          refine XS.iload X571.here hx rfl (hb hby at_450) rfl ?_
          refine XS.ifNo X571.here hx rfl (hb hby at_452) rfl ((if0 _ _).trans (feq ((by decide) : ¬ ((1 : Int32) = (0 : Int32)))).1) ?_
          refine XS.aload X571.here hx rfl (hb hby at_455) rfl rfl ?_
          refine XS.iconst X571.here hx rfl (hb hby at_457) ?_
          refine XS.iload X571.here hx rfl (hb hby at_458) rfl ?_
          show SP p e below T571 (mkF m 460 #[vI p0, vI p1, vI p2, vI p3, vI p4, vI j1, vI j2, vI r2, vI i1, vI i1, vI d1, vI d2, vR b411, vR b440, vR b_559, vI i0, vI i2, vI i1, vI fi] [sI r2, sI i0, sR b_559]) _
          refine XS.iload X571.here hx rfl (hb hby at_460) rfl ?_
          refine XS.iload X571.here hx rfl (hb hby at_462) rfl ?_
          exact k)
        obtain ⟨_, _, ⟨T588, L588, k588, n588⟩, -, X588, ⟨Lc588, hQ588, l588, y588, z588⟩, st588⟩ := Jvm.LawKit.callS X571 hx (y := yN22) hown (mvT hZ (wD hw 117 rfl)) (mvT hZ (wD hw 118 rfl)) (mvT hZ (wD hw 119 rfl)) (mvT hZ (wD hw 120 rfl)) (by decide) (backOf (W := 0) (rm20 l Z a0 hw [] b_559 (0 : Int32) r2 j2 d2 va_466 kv_466 (2 : Int32) [(.long (own_pack r2 j2 d2)), (.long (own_pack p0 j1 d1))] (own_pack r2 j2 d2) T559.heap n0 Z559 qp559_2 qp559_4 qp559_6 ⟨by decide, by decide⟩ rfl) hZ (wD hw 120 rfl) (wD hw 119 rfl) (by decide) (by decide)) (g := (mkF m 464 #[vI p0, vI p1, vI p2, vI p3, vI p4, vI j1, vI j2, vI r2, vI i1, vI i1, vI d1, vI d2, vR b411, vR b440, vR b_559, vI i0, vI i2, vI i1, vI fi] [sI d2, sI j2, sI r2, sI i0, sR b_559])) rfl (by rw [hml]; rfl) (argsL := [(.ref b_559), (.int (0 : Int32)), (.int r2), (.int j2), (.int d2)]) (rest := []) (lenOf pd_rm0_7 rfl) rfl (by show 2 * 0 + _ ≤ _; exact Nat.le_of_eq rfl) (hb hby at_464) (fun _ _ => ⟨rfl, e571, (by decide : 9 + 0 ≤ _), (by decide : 82 + 0 ≤ _)⟩)
        dsimp only [Pt.U, Pt.locs, Pt.cells, Pt.slots] at X588 l588 y588 z588 st588 hQ588
        rw [l588, y588, z588] at X588
        obtain ⟨rfl, N588q, e588⟩ := hQ588
        have N588 := Fr.app N571 N588q
        have go590 := go587.st T588 (mkF m 478 #[vI p0, vI p1, vI p2, vI p3, vI p4, vI j1, vI j2, vI r2, vI i1, vI i1, vI d1, vI d2, vR b411, vR b440, vR b_559, vI i0, vI i2, vI i1, vI fi] [sI d1, sI j1, sI p0, sI i1, sR b_559]) (fun t k => by
          refine st588 _ ?_
          show SP p e below T588 (mkF m 467 #[vI p0, vI p1, vI p2, vI p3, vI p4, vI j1, vI j2, vI r2, vI i1, vI i1, vI d1, vI d2, vR b411, vR b440, vR b_559, vI i0, vI i2, vI i1, vI fi] [(sI (own_at r2 j2 d2 (own_pack r2 j2 d2)))]) _
          refine XS.ifNo X588.here hx rfl (hb hby at_467) rfl ((if0 _ _).trans (feq (own_at_ok hn2 hb2 : ¬ ((own_at r2 j2 d2 (own_pack r2 j2 d2)) = (0 : Int32)))).1) ?_
          refine XS.aload X588.here hx rfl (hb hby at_470) rfl rfl ?_
          refine XS.iconst X588.here hx rfl (hb hby at_472) ?_
          refine XS.iloadN X588.here hx rfl (hb hby at_473) rfl ?_
          refine XS.iload X588.here hx rfl (hb hby at_474) rfl ?_
          refine XS.iload X588.here hx rfl (hb hby at_476) rfl ?_
          exact k)
        obtain ⟨_, _, ⟨T591, L591, k591, n591⟩, -, X591, ⟨Lc591, hQ591, l591, y591, z591⟩, st591⟩ := Jvm.LawKit.callS X588 hx (y := yN22) hown (mvT hZ (wD hw 117 rfl)) (mvT hZ (wD hw 118 rfl)) (mvT hZ (wD hw 119 rfl)) (mvT hZ (wD hw 120 rfl)) (by decide) (backOf (W := 0) (rm20 l Z a0 hw [] b_559 (1 : Int32) p0 j1 d1 va_466 kv_466 (2 : Int32) [(.long (own_pack r2 j2 d2)), (.long (own_pack p0 j1 d1))] (own_pack p0 j1 d1) T559.heap n0 Z559 qp559_2 qp559_4 qp559_6 ⟨by decide, by decide⟩ rfl) hZ (wD hw 120 rfl) (wD hw 119 rfl) (by decide) (by decide)) (g := (mkF m 478 #[vI p0, vI p1, vI p2, vI p3, vI p4, vI j1, vI j2, vI r2, vI i1, vI i1, vI d1, vI d2, vR b411, vR b440, vR b_559, vI i0, vI i2, vI i1, vI fi] [sI d1, sI j1, sI p0, sI i1, sR b_559])) rfl (by rw [hml]; rfl) (argsL := [(.ref b_559), (.int (1 : Int32)), (.int p0), (.int j1), (.int d1)]) (rest := []) (lenOf pd_rm0_7 rfl) rfl (by show 2 * 0 + _ ≤ _; exact Nat.le_of_eq rfl) (hb hby at_478) (fun _ _ => ⟨rfl, e588, (by decide : 9 + 0 ≤ _), (by decide : 82 + 0 ≤ _)⟩)
        dsimp only [Pt.U, Pt.locs, Pt.cells, Pt.slots] at X591 l591 y591 z591 st591 hQ591
        rw [l591, y591, z591] at X591
        obtain ⟨rfl, N591q, e591⟩ := hQ591
        have N591 := Fr.app N588 N591q
        have go593 := go590.st T591 (mkF m 489 #[vI p0, vI p1, vI p2, vI p3, vI p4, vI j1, vI j2, vI r2, vI i1, vI i1, vI d1, vI d2, vR b411, vR b440, vR b_559, vI i0, vI i2, vI i1, vI fi] [sI i1]) (fun t k => by
          refine st591 _ ?_
          show SP p e below T591 (mkF m 481 #[vI p0, vI p1, vI p2, vI p3, vI p4, vI j1, vI j2, vI r2, vI i1, vI i1, vI d1, vI d2, vR b411, vR b440, vR b_559, vI i0, vI i2, vI i1, vI fi] [(sI (own_at p0 j1 d1 (own_pack p0 j1 d1)))]) _
          refine XS.ifNo X591.here hx rfl (hb hby at_481) rfl ((if0 _ _).trans (feq (own_at_ok hn1 hb1 : ¬ ((own_at p0 j1 d1 (own_pack p0 j1 d1)) = (0 : Int32)))).1) ?_
          refine XS.iconst X591.here hx rfl (hb hby at_484) ?_
          refine XS.goto X591.here hx rfl (pc0 := 485) (pc' := 489) rfl (hb hby at_485) (by decide) (by decide) ?_
          exact k)
        obtain ⟨fs, hr, hrun, hended, hW, hsame⟩ := X591.leave (v := some (.int (1 : Int32))) (fun h => by rw [Bd.returns] at h; cases h)
        refine ⟨_, _, go593 _ ?_, hrun, hended, _, _, rfl, ?_, ⟨_, rfl⟩, hW, hsame.mono (by decide) (by decide)⟩
        · exact retN X591 hx (t := .boolean) Bd.returns (by simp) (hb hby at_489) hr
        · show Q_rm0 Z p0 p1 p2 p3 p4 h0 n0 _ T591.heap _
          rw [e591]
          exact ⟨rfl, N591⟩
set_option maxRecDepth 65536 in
set_option maxHeartbeats 40000000 in
theorem comes_1 {Post : Tables → Env → Array Value → State → Outcome → State → Prop} (hpost : ∀ tb e args s v u, (limb_1_1.after args s (.returned v) u = true ∧ limb_1_2.after args s (.returned v) u = true ∧ True) → FrameEnd s (.returned v) u (Jvm.fieldLocs frame_1_writes args s ++ Jvm.arrayLocs frame_1_arrays args s ++ Jvm.staticLocs frame_1_statics s) 32 256 → Post tb e args s (.returned v) u) :
    ArmFor flags0 classFile x code maxLocals ret World_1 tables_1 room_1 Calls_1 rest_1 Pre_1 Post := by
  intro l hfl _ _ p e ha hc hk s m args below hf hA hF happ hP
  obtain ⟨hcalls, hrest, hpre⟩ := hP
  obtain ⟨-, -, -, hnamed, -, -, -, hat⟩ := (Spec.applies_iff hf).mp happ
  obtain ⟨hg, hn⟩ := and_e (Cond.before_iff.mp (show (Jvm.Cond.and given_1 narrow_1).before args s = true from hpre))
  obtain ⟨gg0, gr0⟩ := and_e hg
  obtain ⟨gg1, gr1⟩ := and_e gr0
  obtain ⟨gg2, gr2⟩ := and_e gr1
  obtain ⟨gg3, gr3⟩ := and_e gr2
  obtain ⟨gg4, gr4⟩ := and_e gr3
  obtain ⟨w0, w1, w2, w3, w4, rfl⟩ : ∃ w0 w1 w2 w3 w4 : Value, args = #[w0, w1, w2, w3, w4] := by
    have hs : args.size = 5 := by simpa [Cond.value, given_1] using gg0
    obtain ⟨L⟩ := args
    match L, hs with
    | [w0, w1, w2, w3, w4], _ => exact ⟨w0, w1, w2, w3, w4, rfl⟩
  have hw := fun d (hd : d ∈ tables_1) => atoms_spec (ws := Jvm.Cond.code x code maxLocals ret :: tables_1) hat d (List.mem_cons_of_mem _ hd)
  have hfit : Fit s := fun {y c} hc i hi => by
    obtain ⟨ha, rfl⟩ := Array.getElem?_eq_some_iff.mp hc
    have q := List.all_eq_true.mp ((Array.all_eq_true_iff_forall_mem.mp hF) _ (Array.getElem_mem ha)) i (List.mem_range.mpr hi)
    simpa [Array.getElem?_eq_getElem hi] using q
  obtain ⟨i0, ei0⟩ := is_v gg1
  obtain rfl : w0 = (.int i0) := Option.some.inj ei0
  obtain ⟨i1, ei1⟩ := is_v gg2
  obtain rfl : w1 = (.int i1) := Option.some.inj ei1
  obtain ⟨i2, ei2⟩ := is_v gg3
  obtain rfl : w2 = (.int i2) := Option.some.inj ei2
  obtain ⟨i3, ei3⟩ := is_v gg4
  obtain rfl : w3 = (.int i3) := Option.some.inj ei3
  obtain ⟨i4, ei4⟩ := is_v gr4
  obtain rfl : w4 = (.int i4) := Option.some.inj ei4
  obtain ⟨n, o, h1, h2, h3, _, L, rfl, ⟨rfl, N⟩, hq⟩ := rm0 l s _ hw tables_1 i0 i1 i2 i3 i4  s.heap s.heap.size (Nat.le_refl _)  p e ha hc hk s m _ below hf ((Spec.applies_iff_loose hf).mp happ).1 ⟨rfl, State.Warmed39.refl s, rfl⟩ trivial
  refine ⟨n, _, h1, h2, h3, hpost _ _ _ _ _ _ ⟨Cond.after_iff.mpr rfl, Cond.after_iff.mpr (eq_i res_at (Term.int_eval (1)) rfl), trivial⟩ ⟨hq.1, hq.2.1, (hq.2.2.sift fun y hy => Or.inr (N y hy)).mono (by decide) (by decide)⟩⟩
theorem main_1_1 : Claimed_1_1 := comes_1 fun _ _ _ _ _ _ h hF => ⟨h.1, hF⟩
theorem main_1_2 : Claimed_1_2 := comes_1 fun _ _ _ _ _ _ h hF => ⟨h.2.1, hF⟩
end Jvm.Pilot.@@N@@
namespace Jvm.Pilot.@@N@@
open Jvm Jvm.ClassFile Sem Op Lib Jvm.Free Jvm.Stand Jvm.Pilot.@@N@@.Jvm.D
/-! MADE BY PROGRAM (witnessworld.py) out of the Statement's table words and the real class files: 17 classes; the members and pool entries that the words name. The judged class is class 1, her method 2. -/
namespace start1
open Jvm.ClassFile
def u (s : String) : CpInfo := .utf8 (stringToUtf16 s)
/-- a pool by its gaps: so many unusable entries, then the entry; so many at the end -/
def gap : Nat → List CpInfo → List CpInfo
  | 0, r => r
  | n + 1, r => .unusable :: gap n r
def poolList (es : List (Nat × CpInfo)) (last : Nat) : List CpInfo := es.foldr (fun e r => gap e.1 (e.2 :: r)) (gap last [])
def pool (es : List (Nat × CpInfo)) (last : Nat) : Array CpInfo := ⟨poolList es last⟩
def fileOf (pool : Array CpInfo) (this : Nat) (attrs : Array Attribute := #[]) (ms : Array MethodInfo := #[]) (fl : Nat := 33) (sup : Nat := 0) (ifs : Array Nat := #[]) (fds : Array FieldInfo := #[]) : ClassFile where
  minorVersion := 0
  majorVersion := 65
  constantPool := pool
  accessFlags := fl
  thisClass := this
  superClass := sup
  interfaces := ifs
  fields := fds
  methods := ms
  attributes := attrs
def plain (name : String) (sup : Option ClassId) : Class where
  name := name
  kind := .ordinary
  loader := none
  accessFlags := 33
  super := sup
  interfaces := #[]
  cf := none
  fields := #[]
  methods := #[]
  instanceTypes := #[]
  staticTypes := #[]
  resolved := #[]
  callSites := []
  init := .initialized
  statics := none
  mirror := none

def pool0 : Array CpInfo := pool [(5, u "<init>"), (0, u "()V"), (1, .class_ 10), (1, u "java/lang/Object")] 113

def k0c0 : Code := { maxStack := 0, maxLocals := 1, code := object_method_1_code, exceptionTable := #[], attributes := #[] }
def k0m0 : Method := { name := "<init>", desc := "()V", sig := { parameters := [], returnType := none }, accessFlags := 1, code := some k0c0 }
/-- java/lang/Object -/
def k0 : Class := { plain "java/lang/Object" none with
  accessFlags := 33
  interfaces := #[]
  cf := some (fileOf pool0 8 #[] #[{ accessFlags := 1, nameIndex := 5, descriptorIndex := 6, attributes := #[] }] 33 0 #[] #[])
  fields := #[]
  methods := #[k0m0]
  instanceTypes := #[]
  staticTypes := #[]
  resolved := Array.replicate 124 none
  statics := none }

def pool1 : Array CpInfo := pool [(2, .class_ 4), (0, .nameAndType 5 6), (0, u "java/lang/Object"), (0, u "<init>"), (0, u "()V"), (0, .methodref 8 9), (0, .class_ 10), (0, .nameAndType 11 12), (0, u "com/example/graphkind/graphkind/Statements"), (0, u "predicate"), (0, u "(I)I"), (0, .methodref 8 14), (0, .nameAndType 15 12), (0, u "object"), (0, .methodref 8 17), (0, .nameAndType 18 19), (0, u "isData"), (0, u "(I)Z"), (0, .integer 2147483647), (0, .class_ 22), (0, u "com/example/graphkind/graphkind/TripleList"), (0, .methodref 21 3), (0, .methodref 21 25), (0, .nameAndType 26 27), (0, u "add"), (0, u "(III)V"), (0, .class_ 29), (0, u "com/example/graphkind/graphkind/Statements$Builder"), (0, .methodref 28 31), (0, .nameAndType 5 32), (0, u "(I)V"), (0, .methodref 28 34), (0, .nameAndType 35 36), (0, u "count"), (0, u "(Lcom/example/graphkind/graphkind/TripleList;)V"), (0, .methodref 28 38), (0, .nameAndType 39 6), (0, u "startPutting"), (0, .methodref 28 41), (0, .nameAndType 42 43), (0, u "put"), (0, u "(IIIZ)V"), (0, .methodref 28 45), (0, .nameAndType 46 47), (0, u "build"), (0, u "()Lcom/example/graphkind/graphkind/Statements;"), (0, .methodref 8 49), (0, .nameAndType 50 12), (0, u "end"), (0, .methodref 52 53), (0, .class_ 54), (0, .nameAndType 55 56), (0, u "com/example/graphkind/graphkind/BuilderPutPinLaw"), (0, u "at"), (0, u "(Lcom/example/graphkind/graphkind/Statements;IIIZ)Z"), (3, u "law"), (0, u "(IIIII)Z")] 4

def k1m0 : Method := { name := "<init>", desc := "()V", sig := { parameters := [], returnType := none }, accessFlags := 1, code := none }
def k1c1 : Code := { maxStack := 2, maxLocals := 5, code := method_2_code, exceptionTable := #[], attributes := #[] }
def k1m1 : Method := { name := "at", desc := "(Lcom/example/graphkind/graphkind/Statements;IIIZ)Z", sig := { parameters := [(.object "com/example/graphkind/graphkind/Statements"), .int, .int, .int, .boolean], returnType := some .boolean }, accessFlags := 10, code := some k1c1 }
def k1c2 : Code := { maxStack := 5, maxLocals := 19, code := code, exceptionTable := #[], attributes := #[] }
def k1m2 : Method := { name := "law", desc := "(IIIII)Z", sig := { parameters := [.int, .int, .int, .int, .int], returnType := some .boolean }, accessFlags := 9, code := some k1c2 }
/-- com/example/graphkind/graphkind/BuilderPutPinLaw -/
def k1 : Class := { plain "com/example/graphkind/graphkind/BuilderPutPinLaw" (some 0) with
  accessFlags := 49
  interfaces := #[]
  cf := some (fileOf pool1 52 #[] #[{ accessFlags := 1, nameIndex := 5, descriptorIndex := 6, attributes := #[] }, { accessFlags := 10, nameIndex := 55, descriptorIndex := 56, attributes := #[] }, { accessFlags := 9, nameIndex := 60, descriptorIndex := 61, attributes := #[] }] 49 2 #[] #[])
  fields := #[]
  methods := #[k1m0, k1m1, k1m2]
  instanceTypes := #[]
  staticTypes := #[]
  resolved := Array.replicate 66 none
  statics := none }

def pool2 : Array CpInfo := pool [(1, .methodref 2 3), (0, .class_ 4), (0, .nameAndType 5 6), (0, u "java/lang/Object"), (0, u "<init>"), (0, u "()V"), (0, .class_ 8), (0, u "[I"), (0, .fieldref 10 11), (0, .class_ 12), (0, .nameAndType 13 14), (0, u "com/example/graphkind/graphkind/TripleList"), (0, u "pages"), (0, u "[[I"), (0, .fieldref 10 16), (0, .nameAndType 17 18), (0, u "room"), (0, u "I"), (0, .fieldref 10 20), (0, .nameAndType 21 8), (0, u "ofSubject"), (0, .fieldref 10 23), (0, .nameAndType 24 18), (0, u "size"), (3, .integer 349524), (34, u "(III)V"), (0, u "PAGE_SIZE"), (4, u "add"), (4, u "(I)I")] 2

def k2c0 : Code := { maxStack := 5, maxLocals := 1, code := prog_12_method_1_code, exceptionTable := #[], attributes := #[] }
def k2m0 : Method := { name := "<init>", desc := "()V", sig := { parameters := [], returnType := none }, accessFlags := 0, code := some k2c0 }
def k2c1 : Code := { maxStack := 4, maxLocals := 6, code := prog_12_method_3_code, exceptionTable := #[], attributes := #[] }
def k2m1 : Method := { name := "add", desc := "(III)V", sig := { parameters := [.int, .int, .int], returnType := none }, accessFlags := 0, code := some k2c1 }
def k2c2 : Code := { maxStack := 2, maxLocals := 2, code := prog_12_method_8_code, exceptionTable := #[], attributes := #[] }
def k2m2 : Method := { name := "ofSubject", desc := "(I)I", sig := { parameters := [.int], returnType := some .int }, accessFlags := 0, code := some k2c2 }
/-- com/example/graphkind/graphkind/TripleList -/
def k2 : Class := { plain "com/example/graphkind/graphkind/TripleList" (some 0) with
  accessFlags := 48
  interfaces := #[]
  cf := some (fileOf pool2 10 #[] #[{ accessFlags := 0, nameIndex := 5, descriptorIndex := 6, attributes := #[] }, { accessFlags := 0, nameIndex := 69, descriptorIndex := 63, attributes := #[] }, { accessFlags := 0, nameIndex := 21, descriptorIndex := 74, attributes := #[] }] 48 2 #[] #[{ accessFlags := 26, nameIndex := 64, descriptorIndex := 18, attributes := #[] }, { accessFlags := 2, nameIndex := 13, descriptorIndex := 14, attributes := #[] }, { accessFlags := 2, nameIndex := 24, descriptorIndex := 18, attributes := #[] }, { accessFlags := 2, nameIndex := 17, descriptorIndex := 18, attributes := #[] }, { accessFlags := 2, nameIndex := 21, descriptorIndex := 8, attributes := #[] }])
  fields := #[{ name := "PAGE_SIZE", type := .int, accessFlags := 26, slot := 0, constantValue := 0 }, { name := "pages", type := (.array (.array .int)), accessFlags := 2, slot := 0, constantValue := 0 }, { name := "size", type := .int, accessFlags := 2, slot := 1, constantValue := 0 }, { name := "room", type := .int, accessFlags := 2, slot := 2, constantValue := 0 }, { name := "ofSubject", type := (.array .int), accessFlags := 2, slot := 3, constantValue := 0 }]
  methods := #[k2m0, k2m1, k2m2]
  instanceTypes := #[(.array (.array .int)), .int, .int, (.array .int)]
  staticTypes := #[.int]
  resolved := Array.replicate 77 none
  statics := none }

def pool3 : Array CpInfo := pool [(1, .methodref 2 3), (0, .class_ 4), (0, .nameAndType 5 6), (0, u "java/lang/Object"), (0, u "<init>"), (0, u "()V"), (0, .fieldref 8 9), (0, .class_ 10), (0, .nameAndType 11 12), (0, u "com/example/graphkind/graphkind/Statements$Builder"), (0, u "terms"), (0, u "I"), (0, .fieldref 8 14), (0, .nameAndType 15 16), (0, u "start"), (0, u "[I"), (0, .methodref 18 19), (0, .class_ 20), (0, .nameAndType 21 22), (0, u "com/example/graphkind/graphkind/TripleList"), (0, u "ofSubject"), (0, u "(I)I"), (0, .methodref 24 25), (0, .class_ 26), (0, .nameAndType 27 28), (0, u "java/util/Arrays"), (0, u "copyOf"), (0, u "([II)[I"), (0, .fieldref 8 30), (0, .nameAndType 31 16), (0, u "next"), (0, .fieldref 8 33), (0, .nameAndType 34 35), (0, u "values"), (0, u "[J"), (0, .methodref 8 37), (0, .nameAndType 38 39), (0, u "keep"), (0, u "(II)I"), (0, .class_ 41), (0, u "com/example/graphkind/graphkind/Statements"), (0, .methodref 24 43), (0, .nameAndType 27 44), (0, u "([JI)[J"), (0, .methodref 40 46), (0, .nameAndType 5 47), (0, u "([I[J)V"), (0, .methodref 24 49), (0, .nameAndType 50 51), (0, u "sort"), (0, u "([JII)V"), (0, u "(I)V"), (2, u "count"), (0, u "(Lcom/example/graphkind/graphkind/TripleList;)V"), (1, u "startPutting"), (0, u "put"), (0, u "(IIIZ)V"), (1, u "build"), (0, u "()Lcom/example/graphkind/graphkind/Statements;")] 6

def k3c0 : Code := { maxStack := 3, maxLocals := 2, code := prog_10_method_1_code, exceptionTable := #[], attributes := #[] }
def k3m0 : Method := { name := "<init>", desc := "(I)V", sig := { parameters := [.int], returnType := none }, accessFlags := 0, code := some k3c0 }
def k3c1 : Code := { maxStack := 5, maxLocals := 3, code := prog_10_method_2_code, exceptionTable := #[], attributes := #[] }
def k3m1 : Method := { name := "count", desc := "(Lcom/example/graphkind/graphkind/TripleList;)V", sig := { parameters := [(.object "com/example/graphkind/graphkind/TripleList")], returnType := none }, accessFlags := 0, code := some k3c1 }
def k3c2 : Code := { maxStack := 5, maxLocals := 2, code := prog_10_method_3_code, exceptionTable := #[], attributes := #[] }
def k3m2 : Method := { name := "startPutting", desc := "()V", sig := { parameters := [], returnType := none }, accessFlags := 0, code := some k3c2 }
def k3c3 : Code := { maxStack := 7, maxLocals := 5, code := prog_10_method_4_code, exceptionTable := #[], attributes := #[] }
def k3m3 : Method := { name := "put", desc := "(IIIZ)V", sig := { parameters := [.int, .int, .int, .boolean], returnType := none }, accessFlags := 0, code := some k3c3 }
def k3c4 : Code := { maxStack := 5, maxLocals := 3, code := prog_10_method_5_code, exceptionTable := #[], attributes := #[] }
def k3m4 : Method := { name := "build", desc := "()Lcom/example/graphkind/graphkind/Statements;", sig := { parameters := [], returnType := some (.object "com/example/graphkind/graphkind/Statements") }, accessFlags := 0, code := some k3c4 }
def k3c5 : Code := { maxStack := 6, maxLocals := 7, code := prog_10_method_6_code, exceptionTable := #[], attributes := #[] }
def k3m5 : Method := { name := "keep", desc := "(II)I", sig := { parameters := [.int, .int], returnType := some .int }, accessFlags := 2, code := some k3c5 }
/-- com/example/graphkind/graphkind/Statements$Builder -/
def k3 : Class := { plain "com/example/graphkind/graphkind/Statements$Builder" (some 0) with
  accessFlags := 48
  interfaces := #[]
  cf := some (fileOf pool3 8 #[.nestHost 40] #[{ accessFlags := 0, nameIndex := 5, descriptorIndex := 52, attributes := #[] }, { accessFlags := 0, nameIndex := 55, descriptorIndex := 56, attributes := #[] }, { accessFlags := 0, nameIndex := 58, descriptorIndex := 6, attributes := #[] }, { accessFlags := 0, nameIndex := 59, descriptorIndex := 60, attributes := #[] }, { accessFlags := 0, nameIndex := 62, descriptorIndex := 63, attributes := #[] }, { accessFlags := 2, nameIndex := 38, descriptorIndex := 39, attributes := #[] }] 48 2 #[] #[{ accessFlags := 18, nameIndex := 11, descriptorIndex := 12, attributes := #[] }, { accessFlags := 18, nameIndex := 15, descriptorIndex := 16, attributes := #[] }, { accessFlags := 2, nameIndex := 31, descriptorIndex := 16, attributes := #[] }, { accessFlags := 2, nameIndex := 34, descriptorIndex := 35, attributes := #[] }])
  fields := #[{ name := "terms", type := .int, accessFlags := 18, slot := 0, constantValue := 0 }, { name := "start", type := (.array .int), accessFlags := 18, slot := 1, constantValue := 0 }, { name := "next", type := (.array .int), accessFlags := 2, slot := 2, constantValue := 0 }, { name := "values", type := (.array .long), accessFlags := 2, slot := 3, constantValue := 0 }]
  methods := #[k3m0, k3m1, k3m2, k3m3, k3m4, k3m5]
  instanceTypes := #[.int, (.array .int), (.array .int), (.array .long)]
  staticTypes := #[]
  resolved := Array.replicate 70 none
  statics := none }

def pool4 : Array CpInfo := pool [(2, .class_ 4), (1, u "java/lang/Object"), (0, u "<init>"), (0, u "()V"), (1, .class_ 10), (1, u "java/util/DualPivotQuicksort"), (0, u "sort"), (1, .methodref 14 15), (0, .class_ 16), (0, .nameAndType 17 18), (0, u "java/util/Arrays"), (0, u "rangeCheck"), (0, u "(III)V"), (0, .methodref 8 20), (0, .nameAndType 11 21), (0, u "([JIII)V"), (52, .class_ 76), (1, u "java/util/Arrays$NaturalOrder"), (36, .class_ 115), (1, u "java/util/Arrays$LegacyMergeSort"), (1, u "Z"), (32, .methodref 151 152), (0, .class_ 153), (0, .nameAndType 154 155), (0, u "java/lang/System"), (0, u "arraycopy"), (0, u "(Ljava/lang/Object;ILjava/lang/Object;II)V"), (146, u "copyOf"), (1, .methodref 305 306), (0, .class_ 307), (0, .nameAndType 308 309), (0, u "java/lang/Math"), (0, u "min"), (0, u "(II)I"), (65, .class_ 376), (0, u "java/util/Arrays$ArrayList"), (68, u "$assertionsDisabled"), (269, u "MIN_ARRAY_SORT_GRAN"), (0, u "I"), (2, u "INSERTIONSORT_THRESHOLD"), (12, u "([JII)V"), (138, u "([II)[I"), (0, u "([JI)[J"), (102, .class_ 976), (0, u "java/util/Arrays$ArrayItr")] 52

def k4m0 : Method := { name := "<init>", desc := "()V", sig := { parameters := [], returnType := none }, accessFlags := 2, code := none }
def k4c1 : Code := { maxStack := 4, maxLocals := 3, code := jdk_65_method_5_code, exceptionTable := #[], attributes := #[] }
def k4m1 : Method := { name := "sort", desc := "([JII)V", sig := { parameters := [(.array .long), .int, .int], returnType := none }, accessFlags := 9, code := some k4c1 }
def k4c2 : Code := { maxStack := 4, maxLocals := 3, code := jdk_65_method_30_code, exceptionTable := #[], attributes := #[] }
def k4m2 : Method := { name := "rangeCheck", desc := "(III)V", sig := { parameters := [.int, .int, .int], returnType := none }, accessFlags := 8, code := some k4c2 }
def k4c3 : Code := { maxStack := 6, maxLocals := 3, code := jdk_65_method_123_code, exceptionTable := #[], attributes := #[] }
def k4m3 : Method := { name := "copyOf", desc := "([II)[I", sig := { parameters := [(.array .int), .int], returnType := some (.array .int) }, accessFlags := 9, code := some k4c3 }
def k4c4 : Code := { maxStack := 6, maxLocals := 3, code := jdk_65_method_124_code, exceptionTable := #[], attributes := #[] }
def k4m4 : Method := { name := "copyOf", desc := "([JI)[J", sig := { parameters := [(.array .long), .int], returnType := some (.array .long) }, accessFlags := 9, code := some k4c4 }
/-- java/util/Arrays -/
def k4 : Class := { plain "java/util/Arrays" (some 0) with
  accessFlags := 49
  interfaces := #[]
  cf := some (fileOf pool4 14 #[.nestMembers #[975, 375, 113, 74]] #[{ accessFlags := 2, nameIndex := 5, descriptorIndex := 6, attributes := #[] }, { accessFlags := 9, nameIndex := 11, descriptorIndex := 732, attributes := #[] }, { accessFlags := 8, nameIndex := 17, descriptorIndex := 18, attributes := #[] }, { accessFlags := 9, nameIndex := 302, descriptorIndex := 871, attributes := #[] }, { accessFlags := 9, nameIndex := 302, descriptorIndex := 872, attributes := #[] }] 49 2 #[] #[{ accessFlags := 26, nameIndex := 715, descriptorIndex := 716, attributes := #[] }, { accessFlags := 26, nameIndex := 719, descriptorIndex := 716, attributes := #[] }, { accessFlags := 4120, nameIndex := 445, descriptorIndex := 117, attributes := #[] }])
  fields := #[{ name := "MIN_ARRAY_SORT_GRAN", type := .int, accessFlags := 26, slot := 0, constantValue := 0 }, { name := "INSERTIONSORT_THRESHOLD", type := .int, accessFlags := 26, slot := 1, constantValue := 0 }, { name := "$assertionsDisabled", type := .boolean, accessFlags := 4120, slot := 2, constantValue := 0 }]
  methods := #[k4m0, k4m1, k4m2, k4m3, k4m4]
  instanceTypes := #[]
  staticTypes := #[.int, .int, .boolean]
  resolved := Array.replicate 1029 none
  statics := none }

def pool5 : Array CpInfo := pool [(1, .class_ 2), (0, u "java/lang/Math"), (1, .class_ 6), (1, u "java/lang/Object"), (0, u "<init>"), (0, u "()V"), (89, .class_ 100), (1, u "java/lang/Math$RandomNumberGeneratorHolder"), (71, u "negativeZeroFloatBits"), (0, u "J"), (2, u "negativeZeroDoubleBits"), (24, u "min"), (43, u "$assertionsDisabled"), (0, u "Z"), (88, u "(II)I"), (2, u "twoToTheDoubleScaleDown"), (0, u "D"), (4, u "twoToTheDoubleScaleUp"), (9, u "E"), (3, u "PI"), (2, u "TAU"), (2, u "DEGREES_TO_RADIANS"), (0, u "RADIANS_TO_DEGREES")] 94

def k5m0 : Method := { name := "<init>", desc := "()V", sig := { parameters := [], returnType := none }, accessFlags := 2, code := none }
def k5c1 : Code := { maxStack := 2, maxLocals := 2, code := jdk_29_method_69_code, exceptionTable := #[], attributes := #[] }
def k5m1 : Method := { name := "min", desc := "(II)I", sig := { parameters := [.int, .int], returnType := some .int }, accessFlags := 9, code := some k5c1 }
/-- java/lang/Math -/
def k5 : Class := { plain "java/lang/Math" (some 0) with
  accessFlags := 49
  interfaces := #[]
  cf := some (fileOf pool5 1 #[.nestMembers #[98]] #[{ accessFlags := 2, nameIndex := 7, descriptorIndex := 8, attributes := #[] }, { accessFlags := 9, nameIndex := 201, descriptorIndex := 335, attributes := #[] }] 49 4 #[] #[{ accessFlags := 25, nameIndex := 354, descriptorIndex := 339, attributes := #[] }, { accessFlags := 25, nameIndex := 358, descriptorIndex := 339, attributes := #[] }, { accessFlags := 25, nameIndex := 361, descriptorIndex := 339, attributes := #[] }, { accessFlags := 26, nameIndex := 364, descriptorIndex := 339, attributes := #[] }, { accessFlags := 26, nameIndex := 365, descriptorIndex := 339, attributes := #[] }, { accessFlags := 26, nameIndex := 172, descriptorIndex := 173, attributes := #[] }, { accessFlags := 26, nameIndex := 176, descriptorIndex := 173, attributes := #[] }, { accessFlags := 8, nameIndex := 344, descriptorIndex := 339, attributes := #[] }, { accessFlags := 8, nameIndex := 338, descriptorIndex := 339, attributes := #[] }, { accessFlags := 4120, nameIndex := 245, descriptorIndex := 246, attributes := #[] }])
  fields := #[{ name := "E", type := .double, accessFlags := 25, slot := 0, constantValue := 0 }, { name := "PI", type := .double, accessFlags := 25, slot := 1, constantValue := 0 }, { name := "TAU", type := .double, accessFlags := 25, slot := 2, constantValue := 0 }, { name := "DEGREES_TO_RADIANS", type := .double, accessFlags := 26, slot := 3, constantValue := 0 }, { name := "RADIANS_TO_DEGREES", type := .double, accessFlags := 26, slot := 4, constantValue := 0 }, { name := "negativeZeroFloatBits", type := .long, accessFlags := 26, slot := 5, constantValue := 0 }, { name := "negativeZeroDoubleBits", type := .long, accessFlags := 26, slot := 6, constantValue := 0 }, { name := "twoToTheDoubleScaleUp", type := .double, accessFlags := 8, slot := 7, constantValue := 0 }, { name := "twoToTheDoubleScaleDown", type := .double, accessFlags := 8, slot := 8, constantValue := 0 }, { name := "$assertionsDisabled", type := .boolean, accessFlags := 4120, slot := 9, constantValue := 0 }]
  methods := #[k5m0, k5m1]
  instanceTypes := #[]
  staticTypes := #[.double, .double, .double, .double, .double, .long, .long, .double, .double, .boolean]
  resolved := Array.replicate 460 none
  statics := none }

def pool6 : Array CpInfo := pool [(2, .class_ 4), (1, u "java/lang/Object"), (0, u "<init>"), (0, u "()V"), (1, .class_ 10), (1, u "java/lang/System"), (0, u "allowSecurityManager"), (0, u "I"), (16, u "cons"), (0, u "Ljava/io/Console;"), (77, .class_ 110), (1, u "java/lang/System$CallersHolder"), (43, u "initialErrStream"), (0, u "Ljava/io/PrintStream;"), (19, u "security"), (0, u "Ljava/lang/SecurityManager;"), (31, .class_ 209), (0, u "java/lang/System$1"), (7, u "props"), (0, u "Ljava/util/Properties;"), (2, u "lineSeparator"), (0, u "Ljava/lang/String;"), (96, .class_ 321), (1, u "java/lang/System$LoggerFinder"), (5, .class_ 328), (0, u "java/lang/System$Logger"), (67, u "err"), (2, u "out"), (91, u "notSupportedJnuEncoding"), (15, u "in"), (17, u "initialIn"), (0, u "Ljava/io/InputStream;"), (35, u "bootLayer"), (0, u "Ljava/lang/ModuleLayer;"), (99, .class_ 664), (0, u "java/lang/System$2"), (9, u "NEVER"), (2, u "MAYBE"), (49, u "arraycopy"), (0, u "(Ljava/lang/Object;ILjava/lang/Object;II)V"), (72, .class_ 802), (0, u "java/lang/System$Logger$Level")] 31

def k6m0 : Method := { name := "<init>", desc := "()V", sig := { parameters := [], returnType := none }, accessFlags := 2, code := none }
def k6m1 : Method := { name := "arraycopy", desc := "(Ljava/lang/Object;ILjava/lang/Object;II)V", sig := { parameters := [(.object "java/lang/Object"), .int, (.object "java/lang/Object"), .int, .int], returnType := none }, accessFlags := 265, code := none }
/-- java/lang/System -/
def k6 : Class := { plain "java/lang/System" (some 0) with
  accessFlags := 49
  interfaces := #[]
  cf := some (fileOf pool6 8 #[.nestMembers #[319, 327, 801, 108, 663, 208]] #[{ accessFlags := 2, nameIndex := 5, descriptorIndex := 6, attributes := #[] }, { accessFlags := 265, nameIndex := 727, descriptorIndex := 728, attributes := #[] }] 49 2 #[] #[{ accessFlags := 25, nameIndex := 507, descriptorIndex := 526, attributes := #[] }, { accessFlags := 25, nameIndex := 399, descriptorIndex := 155, attributes := #[] }, { accessFlags := 25, nameIndex := 396, descriptorIndex := 155, attributes := #[] }, { accessFlags := 10, nameIndex := 525, descriptorIndex := 526, attributes := #[] }, { accessFlags := 26, nameIndex := 674, descriptorIndex := 12, attributes := #[] }, { accessFlags := 26, nameIndex := 677, descriptorIndex := 12, attributes := #[] }, { accessFlags := 10, nameIndex := 11, descriptorIndex := 12, attributes := #[] }, { accessFlags := 74, nameIndex := 175, descriptorIndex := 176, attributes := #[] }, { accessFlags := 10, nameIndex := 491, descriptorIndex := 222, attributes := #[] }, { accessFlags := 74, nameIndex := 29, descriptorIndex := 30, attributes := #[] }, { accessFlags := 74, nameIndex := 154, descriptorIndex := 155, attributes := #[] }, { accessFlags := 10, nameIndex := 217, descriptorIndex := 218, attributes := #[] }, { accessFlags := 10, nameIndex := 221, descriptorIndex := 222, attributes := #[] }, { accessFlags := 8, nameIndex := 562, descriptorIndex := 563, attributes := #[] }])
  fields := #[{ name := "in", type := (.object "java/io/InputStream"), accessFlags := 25, slot := 0, constantValue := 0 }, { name := "out", type := (.object "java/io/PrintStream"), accessFlags := 25, slot := 1, constantValue := 0 }, { name := "err", type := (.object "java/io/PrintStream"), accessFlags := 25, slot := 2, constantValue := 0 }, { name := "initialIn", type := (.object "java/io/InputStream"), accessFlags := 10, slot := 3, constantValue := 0 }, { name := "NEVER", type := .int, accessFlags := 26, slot := 4, constantValue := 0 }, { name := "MAYBE", type := .int, accessFlags := 26, slot := 5, constantValue := 0 }, { name := "allowSecurityManager", type := .int, accessFlags := 10, slot := 6, constantValue := 0 }, { name := "security", type := (.object "java/lang/SecurityManager"), accessFlags := 74, slot := 7, constantValue := 0 }, { name := "notSupportedJnuEncoding", type := (.object "java/lang/String"), accessFlags := 10, slot := 8, constantValue := 0 }, { name := "cons", type := (.object "java/io/Console"), accessFlags := 74, slot := 9, constantValue := 0 }, { name := "initialErrStream", type := (.object "java/io/PrintStream"), accessFlags := 74, slot := 10, constantValue := 0 }, { name := "props", type := (.object "java/util/Properties"), accessFlags := 10, slot := 11, constantValue := 0 }, { name := "lineSeparator", type := (.object "java/lang/String"), accessFlags := 10, slot := 12, constantValue := 0 }, { name := "bootLayer", type := (.object "java/lang/ModuleLayer"), accessFlags := 8, slot := 13, constantValue := 0 }]
  methods := #[k6m0, k6m1]
  instanceTypes := #[]
  staticTypes := #[(.object "java/io/InputStream"), (.object "java/io/PrintStream"), (.object "java/io/PrintStream"), (.object "java/io/InputStream"), .int, .int, .int, (.object "java/lang/SecurityManager"), (.object "java/lang/String"), (.object "java/io/Console"), (.object "java/io/PrintStream"), (.object "java/util/Properties"), (.object "java/lang/String"), (.object "java/lang/ModuleLayer")]
  resolved := Array.replicate 834 none
  statics := none }

def pool7 : Array CpInfo := pool [(1, .class_ 2), (0, u "java/util/DualPivotQuicksort"), (5, .class_ 10), (1, u "java/lang/Object"), (0, u "<init>"), (0, u "()V"), (4, .class_ 18), (0, u "java/util/DualPivotQuicksort$Sorter"), (9, u "sort"), (7, u "insertionSort"), (31, u "I"), (4, .class_ 74), (0, u "java/util/DualPivotQuicksort$RunMerger"), (10, .class_ 86), (0, u "java/util/DualPivotQuicksort$Merger"), (12, .methodref 1 100), (0, .nameAndType 28 101), (0, u "(Ljava/util/DualPivotQuicksort$Sorter;[JIII)V"), (2, u "([JIII)V"), (0, .methodref 1 106), (0, .nameAndType 36 107), (0, u "([JII)V"), (106, u "MAX_MIXED_INSERTION_SORT_SIZE"), (2, u "MAX_INSERTION_SORT_SIZE"), (1, u "MIN_PARALLEL_SORT_SIZE"), (1, u "MIN_TRY_MERGE_SIZE"), (0, u "MIN_FIRST_RUN_SIZE"), (1, u "MIN_FIRST_RUNS_FACTOR"), (1, u "MAX_RUN_CAPACITY"), (1, u "MIN_RUN_COUNT"), (1, u "MIN_PARALLEL_MERGE_PARTS_SIZE"), (0, u "MIN_BYTE_COUNTING_SORT_SIZE"), (1, u "MIN_SHORT_OR_CHAR_COUNTING_SORT_SIZE"), (1, u "DELTA"), (1, u "MAX_RECURSION_DEPTH"), (1, u "NUM_BYTE_VALUES"), (1, u "MAX_BYTE_INDEX"), (0, u "NUM_CHAR_VALUES"), (0, u "NUM_SHORT_VALUES"), (0, u "MAX_SHORT_INDEX")] 86

def k7m0 : Method := { name := "<init>", desc := "()V", sig := { parameters := [], returnType := none }, accessFlags := 2, code := none }
def k7c1 : Code := { maxStack := 9, maxLocals := 7, code := jdk_2529_method_12_code, exceptionTable := #[], attributes := #[] }
def k7m1 : Method := { name := "sort", desc := "([JIII)V", sig := { parameters := [(.array .long), .int, .int, .int], returnType := none }, accessFlags := 8, code := some k7c1 }
def k7c2 : Code := { maxStack := 6, maxLocals := 25, code := jdk_2529_method_13_code, exceptionTable := #[], attributes := #[] }
def k7m2 : Method := { name := "sort", desc := "(Ljava/util/DualPivotQuicksort$Sorter;[JIII)V", sig := { parameters := [(.object "java/util/DualPivotQuicksort$Sorter"), (.array .long), .int, .int, .int], returnType := none }, accessFlags := 8, code := some k7c2 }
def k7c3 : Code := { maxStack := 5, maxLocals := 7, code := jdk_2529_method_15_code, exceptionTable := #[], attributes := #[] }
def k7m3 : Method := { name := "insertionSort", desc := "([JII)V", sig := { parameters := [(.array .long), .int, .int], returnType := none }, accessFlags := 10, code := some k7c3 }
/-- java/util/DualPivotQuicksort -/
def k7 : Class := { plain "java/util/DualPivotQuicksort" (some 0) with
  accessFlags := 48
  interfaces := #[]
  cf := some (fileOf pool7 1 #[.nestMembers #[73, 85, 17]] #[{ accessFlags := 2, nameIndex := 11, descriptorIndex := 12, attributes := #[] }, { accessFlags := 8, nameIndex := 28, descriptorIndex := 104, attributes := #[] }, { accessFlags := 8, nameIndex := 28, descriptorIndex := 101, attributes := #[] }, { accessFlags := 10, nameIndex := 36, descriptorIndex := 107, attributes := #[] }] 48 8 #[] #[{ accessFlags := 26, nameIndex := 214, descriptorIndex := 68, attributes := #[] }, { accessFlags := 26, nameIndex := 217, descriptorIndex := 68, attributes := #[] }, { accessFlags := 26, nameIndex := 219, descriptorIndex := 68, attributes := #[] }, { accessFlags := 26, nameIndex := 221, descriptorIndex := 68, attributes := #[] }, { accessFlags := 26, nameIndex := 222, descriptorIndex := 68, attributes := #[] }, { accessFlags := 26, nameIndex := 224, descriptorIndex := 68, attributes := #[] }, { accessFlags := 26, nameIndex := 226, descriptorIndex := 68, attributes := #[] }, { accessFlags := 26, nameIndex := 228, descriptorIndex := 68, attributes := #[] }, { accessFlags := 26, nameIndex := 230, descriptorIndex := 68, attributes := #[] }, { accessFlags := 26, nameIndex := 231, descriptorIndex := 68, attributes := #[] }, { accessFlags := 26, nameIndex := 233, descriptorIndex := 68, attributes := #[] }, { accessFlags := 26, nameIndex := 235, descriptorIndex := 68, attributes := #[] }, { accessFlags := 26, nameIndex := 237, descriptorIndex := 68, attributes := #[] }, { accessFlags := 26, nameIndex := 239, descriptorIndex := 68, attributes := #[] }, { accessFlags := 26, nameIndex := 241, descriptorIndex := 68, attributes := #[] }, { accessFlags := 26, nameIndex := 242, descriptorIndex := 68, attributes := #[] }, { accessFlags := 26, nameIndex := 243, descriptorIndex := 68, attributes := #[] }, { accessFlags := 26, nameIndex := 244, descriptorIndex := 68, attributes := #[] }])
  fields := #[{ name := "MAX_MIXED_INSERTION_SORT_SIZE", type := .int, accessFlags := 26, slot := 0, constantValue := 0 }, { name := "MAX_INSERTION_SORT_SIZE", type := .int, accessFlags := 26, slot := 1, constantValue := 0 }, { name := "MIN_PARALLEL_SORT_SIZE", type := .int, accessFlags := 26, slot := 2, constantValue := 0 }, { name := "MIN_TRY_MERGE_SIZE", type := .int, accessFlags := 26, slot := 3, constantValue := 0 }, { name := "MIN_FIRST_RUN_SIZE", type := .int, accessFlags := 26, slot := 4, constantValue := 0 }, { name := "MIN_FIRST_RUNS_FACTOR", type := .int, accessFlags := 26, slot := 5, constantValue := 0 }, { name := "MAX_RUN_CAPACITY", type := .int, accessFlags := 26, slot := 6, constantValue := 0 }, { name := "MIN_RUN_COUNT", type := .int, accessFlags := 26, slot := 7, constantValue := 0 }, { name := "MIN_PARALLEL_MERGE_PARTS_SIZE", type := .int, accessFlags := 26, slot := 8, constantValue := 0 }, { name := "MIN_BYTE_COUNTING_SORT_SIZE", type := .int, accessFlags := 26, slot := 9, constantValue := 0 }, { name := "MIN_SHORT_OR_CHAR_COUNTING_SORT_SIZE", type := .int, accessFlags := 26, slot := 10, constantValue := 0 }, { name := "DELTA", type := .int, accessFlags := 26, slot := 11, constantValue := 0 }, { name := "MAX_RECURSION_DEPTH", type := .int, accessFlags := 26, slot := 12, constantValue := 0 }, { name := "NUM_BYTE_VALUES", type := .int, accessFlags := 26, slot := 13, constantValue := 0 }, { name := "MAX_BYTE_INDEX", type := .int, accessFlags := 26, slot := 14, constantValue := 0 }, { name := "NUM_CHAR_VALUES", type := .int, accessFlags := 26, slot := 15, constantValue := 0 }, { name := "NUM_SHORT_VALUES", type := .int, accessFlags := 26, slot := 16, constantValue := 0 }, { name := "MAX_SHORT_INDEX", type := .int, accessFlags := 26, slot := 17, constantValue := 0 }]
  methods := #[k7m0, k7m1, k7m2, k7m3]
  instanceTypes := #[]
  staticTypes := #[.int, .int, .int, .int, .int, .int, .int, .int, .int, .int, .int, .int, .int, .int, .int, .int, .int, .int]
  resolved := Array.replicate 331 none
  statics := none }

def pool8 : Array CpInfo := pool [(1, .methodref 2 3), (0, .class_ 4), (0, .nameAndType 5 6), (0, u "java/lang/Object"), (0, u "<init>"), (0, u "()V"), (0, .fieldref 8 9), (0, .class_ 10), (0, .nameAndType 11 12), (0, u "com/example/graphkind/graphkind/Statements"), (0, u "start"), (0, u "[I"), (0, .fieldref 8 14), (0, .nameAndType 15 16), (0, u "values"), (0, u "[J"), (2, u "(I)I"), (2, u "end"), (11, u "object"), (6, u "([I[J)V"), (5, u "predicate"), (0, u "isData"), (0, u "(I)Z"), (9, .class_ 60), (0, u "com/example/graphkind/graphkind/Statements$Builder")] 2

def k8c0 : Code := { maxStack := 2, maxLocals := 3, code := prog_9_method_1_code, exceptionTable := #[], attributes := #[] }
def k8m0 : Method := { name := "<init>", desc := "([I[J)V", sig := { parameters := [(.array .int), (.array .long)], returnType := none }, accessFlags := 2, code := some k8c0 }
def k8c1 : Code := { maxStack := 3, maxLocals := 2, code := prog_9_method_4_code, exceptionTable := #[], attributes := #[] }
def k8m1 : Method := { name := "end", desc := "(I)I", sig := { parameters := [.int], returnType := some .int }, accessFlags := 0, code := some k8c1 }
def k8c2 : Code := { maxStack := 3, maxLocals := 2, code := prog_9_method_7_code, exceptionTable := #[], attributes := #[] }
def k8m2 : Method := { name := "predicate", desc := "(I)I", sig := { parameters := [.int], returnType := some .int }, accessFlags := 0, code := some k8c2 }
def k8c3 : Code := { maxStack := 2, maxLocals := 2, code := prog_9_method_8_code, exceptionTable := #[], attributes := #[] }
def k8m3 : Method := { name := "object", desc := "(I)I", sig := { parameters := [.int], returnType := some .int }, accessFlags := 0, code := some k8c3 }
def k8c4 : Code := { maxStack := 4, maxLocals := 2, code := prog_9_method_9_code, exceptionTable := #[], attributes := #[] }
def k8m4 : Method := { name := "isData", desc := "(I)Z", sig := { parameters := [.int], returnType := some .boolean }, accessFlags := 0, code := some k8c4 }
/-- com/example/graphkind/graphkind/Statements -/
def k8 : Class := { plain "com/example/graphkind/graphkind/Statements" (some 0) with
  accessFlags := 48
  interfaces := #[]
  cf := some (fileOf pool8 8 #[.nestMembers #[59]] #[{ accessFlags := 2, nameIndex := 5, descriptorIndex := 41, attributes := #[] }, { accessFlags := 0, nameIndex := 22, descriptorIndex := 19, attributes := #[] }, { accessFlags := 0, nameIndex := 47, descriptorIndex := 19, attributes := #[] }, { accessFlags := 0, nameIndex := 34, descriptorIndex := 19, attributes := #[] }, { accessFlags := 0, nameIndex := 48, descriptorIndex := 49, attributes := #[] }] 48 2 #[] #[{ accessFlags := 18, nameIndex := 11, descriptorIndex := 12, attributes := #[] }, { accessFlags := 18, nameIndex := 15, descriptorIndex := 16, attributes := #[] }])
  fields := #[{ name := "start", type := (.array .int), accessFlags := 18, slot := 0, constantValue := 0 }, { name := "values", type := (.array .long), accessFlags := 18, slot := 1, constantValue := 0 }]
  methods := #[k8m0, k8m1, k8m2, k8m3, k8m4]
  instanceTypes := #[(.array .int), (.array .long)]
  staticTypes := #[]
  resolved := Array.replicate 63 none
  statics := none }

def pool9 : Array CpInfo := pool [(1, u "java/lang/Cloneable"), (0, .class_ 1), (0, u "java/lang/Object"), (0, .class_ 3)] 3

/-- java/lang/Cloneable -/
def k9 : Class := { plain "java/lang/Cloneable" (some 0) with
  accessFlags := 1537
  interfaces := #[]
  cf := some (fileOf pool9 2 #[] #[] 1537 4 #[] #[])
  fields := #[]
  methods := #[]
  instanceTypes := #[]
  staticTypes := #[]
  resolved := Array.replicate 8 none
  statics := none }

def pool10 : Array CpInfo := pool [(1, u "java/io/Serializable"), (0, .class_ 1), (0, u "java/lang/Object"), (0, .class_ 3)] 3

/-- java/io/Serializable -/
def k10 : Class := { plain "java/io/Serializable" (some 0) with
  accessFlags := 1537
  interfaces := #[]
  cf := some (fileOf pool10 2 #[] #[] 1537 4 #[] #[])
  fields := #[]
  methods := #[]
  instanceTypes := #[]
  staticTypes := #[]
  resolved := Array.replicate 8 none
  statics := none }

/-- the primitive byte -/
def k11 : Class := { plain "byte" none with kind := .primitive 'B', accessFlags := 0x411 }
/-- [B -/
def k12 : Class := { plain "[B" (some 0) with kind := .array 11 .byte, interfaces := #[9, 10], accessFlags := 1041 }

/-- the primitive int -/
def k13 : Class := { plain "int" none with kind := .primitive 'I', accessFlags := 0x411 }
/-- [I -/
def k14 : Class := { plain "[I" (some 0) with kind := .array 13 .int, interfaces := #[9, 10], accessFlags := 1041 }

/-- the primitive long -/
def k15 : Class := { plain "long" none with kind := .primitive 'J', accessFlags := 0x411 }
/-- [J -/
def k16 : Class := { plain "[J" (some 0) with kind := .array 15 .long, interfaces := #[9, 10], accessFlags := 1041 }

/-- [[I -/
def k17 : Class := { plain "[[I" (some 0) with kind := .array 14 (.array .int), interfaces := #[9, 10], accessFlags := 1041 }
def heap : Heap := #[]
def classes : Array Class := #[k0, k1, k2, k3, k4, k5, k6, k7, k8, k9, k10, k11, k12, k13, k14, k15, k16, k17]
def interned : List (Array UInt16 × Addr) := []
def slotsUsed : Nat := 0
def theMethod : MethodId := ⟨1, 2⟩
def args0 : Array Value := #[.int 5, .int 7, .int 3, .int 9, .int 6]
def aboutOver (below : List Frame) : State where
  vm := { classes := classes, interned := interned.toArray }
  heap := heap
  slotsUsed := slotsUsed
  threads := #[{ frames := .invoking theMethod args0 :: below }]
def below0 : List Frame := [.native { method := ⟨0, 0⟩, args := #[] }]
def about1 : State := aboutOver below0
def p0 : Program := .bare "" "" ""
def e0 : Env := launch0.env 0 0 0
theorem w_frames : about1.frames = Frame.invoking theMethod args0 :: below0 := rfl
set_option maxRecDepth 65536 in
theorem w_args : argsFit about1.vm theMethod args0 = true := by decide +kernel
set_option maxRecDepth 65536 in
theorem w_heap : heapFits about1 = true := by decide +kernel
set_option maxRecDepth 65536 in
theorem w_runnable : about1.curStatus? = some .runnable := by decide +kernel
set_option maxRecDepth 65536 in
theorem w_alone : about1.alone = true := by decide +kernel
set_option maxRecDepth 65536 in
theorem w_named : about1.methodNamed? x = some theMethod := by decide +kernel
set_option maxRecDepth 65536 in
theorem w_hears : about1.hears theMethod below0 = true := by decide +kernel
set_option maxRecDepth 65536 in
theorem w_ripe : about1.ripe theMethod args0 below0 = true := by decide +kernel
theorem w_running : about1.status = .running := rfl
set_option maxRecDepth 65536 in
theorem w_room : about1.hasRoom e0.platform room_1 = true :=
  launch0.hasRoom_least _ room_1 (by decide +kernel) (by decide +kernel) (by decide +kernel) (by decide +kernel) (by decide +kernel) (by decide +kernel)
theorem allAtoms_all (ts : List Jvm.Cond) (a : Array Jvm.Value) (st : Jvm.State) : (allAtoms ts).before a st = ts.all (fun c => c.before a st) := by
  induction ts with
  | nil => rfl
  | cons c t ih =>
    show (Jvm.Cond.and c (allAtoms t)).before a st = _
    rw [Jvm.Cond.before_and, ih, List.all_cons]
def words1 : List Jvm.Cond := Jvm.Cond.code x code maxLocals ret :: tables_1
/-- a 'code' word, met by the world's own term for the bytes: nothing is compared byte by byte -/
theorem code_word {y : MethodName} {bytes : ByteArray} {mx : Nat} {rt : Option FieldType} {a : Array Value} {s : State} {m : MethodId} {meth : Method} {c : Code} (h1 : s.methodNamed? y = some m) (h2 : s.vm.method? m = some meth) (h3 : meth.code = some c) (h4 : c.code = bytes)
    (h5 : (c.maxLocals == mx && c.exceptionTable.isEmpty && decide (c.maxStack ≤ mostOperands) && decide (meth.sig.returnType = rt) && !meth.locks && decide (parseMethodDescriptor y.desc = some meth.sig)) = true) : (Jvm.Cond.code y bytes mx rt).before a s = true := by
  simp only [Bool.and_eq_true, beq_iff_eq, Bool.not_eq_true', decide_eq_true_eq] at h5
  obtain ⟨⟨⟨⟨⟨g1, g2⟩, g3⟩, g4⟩, g5⟩, g6⟩ := h5
  simp [Cond.before, Cond.holds, Cond.value, h1, h2, h3, h4, g1, g2, g3, g4, g5, g6]
def isCode : Jvm.Cond → Bool
  | .code _ _ _ _ => true
  | _ => false
theorem all_split {L : List Jvm.Cond} {P : Jvm.Cond → Bool} (h1 : L.all (fun c => isCode c || P c) = true) (h2 : ∀ c ∈ L.filter isCode, P c = true) : L.all P = true := by
  refine List.all_eq_true.mpr fun c hc => ?_
  have h := List.all_eq_true.mp h1 c hc
  rcases Bool.eq_false_or_eq_true (isCode c) with hi | hi
  · exact h2 c (List.mem_filter.mpr ⟨hc, hi⟩)
  · simpa [hi] using h
set_option maxRecDepth 65536 in
theorem w_c0 : (Jvm.Cond.code x code maxLocals ret).before args0 about1 = true := code_word (m := ⟨1, 2⟩) (meth := k1m2) (c := k1c2) (by decide +kernel) rfl rfl rfl (by decide +kernel)
set_option maxRecDepth 65536 in
theorem w_c1 : (Jvm.Cond.code ({ cls := "com/example/graphkind/graphkind/TripleList", name := "<init>", desc := "()V" } : Jvm.MethodName) prog_12_method_1_code (1 : Nat) (Option.none : Option Jvm.ClassFile.FieldType)).before args0 about1 = true := code_word (m := ⟨2, 0⟩) (meth := k2m0) (c := k2c0) (by decide +kernel) rfl rfl rfl (by decide +kernel)
set_option maxRecDepth 65536 in
theorem w_c2 : (Jvm.Cond.code ({ cls := "java/lang/Object", name := "<init>", desc := "()V" } : Jvm.MethodName) object_method_1_code (1 : Nat) (Option.none : Option Jvm.ClassFile.FieldType)).before args0 about1 = true := code_word (m := ⟨0, 0⟩) (meth := k0m0) (c := k0c0) (by decide +kernel) rfl rfl rfl (by decide +kernel)
set_option maxRecDepth 65536 in
theorem w_c3 : (Jvm.Cond.code ({ cls := "com/example/graphkind/graphkind/TripleList", name := "add", desc := "(III)V" } : Jvm.MethodName) prog_12_method_3_code (6 : Nat) (Option.none : Option Jvm.ClassFile.FieldType)).before args0 about1 = true := code_word (m := ⟨2, 1⟩) (meth := k2m1) (c := k2c1) (by decide +kernel) rfl rfl rfl (by decide +kernel)
set_option maxRecDepth 65536 in
theorem w_c4 : (Jvm.Cond.code ({ cls := "com/example/graphkind/graphkind/Statements$Builder", name := "<init>", desc := "(I)V" } : Jvm.MethodName) prog_10_method_1_code (2 : Nat) (Option.none : Option Jvm.ClassFile.FieldType)).before args0 about1 = true := code_word (m := ⟨3, 0⟩) (meth := k3m0) (c := k3c0) (by decide +kernel) rfl rfl rfl (by decide +kernel)
set_option maxRecDepth 65536 in
theorem w_c5 : (Jvm.Cond.code ({ cls := "com/example/graphkind/graphkind/Statements$Builder", name := "count", desc := "(Lcom/example/graphkind/graphkind/TripleList;)V" } : Jvm.MethodName) prog_10_method_2_code (3 : Nat) (Option.none : Option Jvm.ClassFile.FieldType)).before args0 about1 = true := code_word (m := ⟨3, 1⟩) (meth := k3m1) (c := k3c1) (by decide +kernel) rfl rfl rfl (by decide +kernel)
set_option maxRecDepth 65536 in
theorem w_c6 : (Jvm.Cond.code ({ cls := "com/example/graphkind/graphkind/TripleList", name := "ofSubject", desc := "(I)I" } : Jvm.MethodName) prog_12_method_8_code (2 : Nat) (Option.some Jvm.ClassFile.FieldType.int)).before args0 about1 = true := code_word (m := ⟨2, 2⟩) (meth := k2m2) (c := k2c2) (by decide +kernel) rfl rfl rfl (by decide +kernel)
set_option maxRecDepth 65536 in
theorem w_c7 : (Jvm.Cond.code ({ cls := "com/example/graphkind/graphkind/Statements$Builder", name := "startPutting", desc := "()V" } : Jvm.MethodName) prog_10_method_3_code (2 : Nat) (Option.none : Option Jvm.ClassFile.FieldType)).before args0 about1 = true := code_word (m := ⟨3, 2⟩) (meth := k3m2) (c := k3c2) (by decide +kernel) rfl rfl rfl (by decide +kernel)
set_option maxRecDepth 65536 in
theorem w_c8 : (Jvm.Cond.code ({ cls := "java/util/Arrays", name := "copyOf", desc := "([II)[I" } : Jvm.MethodName) jdk_65_method_123_code (3 : Nat) (Option.some (Jvm.ClassFile.FieldType.array Jvm.ClassFile.FieldType.int))).before args0 about1 = true := code_word (m := ⟨4, 3⟩) (meth := k4m3) (c := k4c3) (by decide +kernel) rfl rfl rfl (by decide +kernel)
set_option maxRecDepth 65536 in
theorem w_c9 : (Jvm.Cond.code ({ cls := "java/lang/Math", name := "min", desc := "(II)I" } : Jvm.MethodName) jdk_29_method_69_code (2 : Nat) (Option.some Jvm.ClassFile.FieldType.int)).before args0 about1 = true := code_word (m := ⟨5, 1⟩) (meth := k5m1) (c := k5c1) (by decide +kernel) rfl rfl rfl (by decide +kernel)
set_option maxRecDepth 65536 in
theorem w_c10 : (Jvm.Cond.code ({ cls := "com/example/graphkind/graphkind/Statements$Builder", name := "put", desc := "(IIIZ)V" } : Jvm.MethodName) prog_10_method_4_code (5 : Nat) (Option.none : Option Jvm.ClassFile.FieldType)).before args0 about1 = true := code_word (m := ⟨3, 3⟩) (meth := k3m3) (c := k3c3) (by decide +kernel) rfl rfl rfl (by decide +kernel)
set_option maxRecDepth 65536 in
theorem w_c11 : (Jvm.Cond.code ({ cls := "com/example/graphkind/graphkind/Statements$Builder", name := "build", desc := "()Lcom/example/graphkind/graphkind/Statements;" } : Jvm.MethodName) prog_10_method_5_code (3 : Nat) (Option.some (Jvm.ClassFile.FieldType.object "com/example/graphkind/graphkind/Statements"))).before args0 about1 = true := code_word (m := ⟨3, 4⟩) (meth := k3m4) (c := k3c4) (by decide +kernel) rfl rfl rfl (by decide +kernel)
set_option maxRecDepth 65536 in
theorem w_c12 : (Jvm.Cond.code ({ cls := "com/example/graphkind/graphkind/Statements$Builder", name := "keep", desc := "(II)I" } : Jvm.MethodName) prog_10_method_6_code (7 : Nat) (Option.some Jvm.ClassFile.FieldType.int)).before args0 about1 = true := code_word (m := ⟨3, 5⟩) (meth := k3m5) (c := k3c5) (by decide +kernel) rfl rfl rfl (by decide +kernel)
set_option maxRecDepth 65536 in
theorem w_c13 : (Jvm.Cond.code ({ cls := "java/util/Arrays", name := "sort", desc := "([JII)V" } : Jvm.MethodName) jdk_65_method_5_code (3 : Nat) (Option.none : Option Jvm.ClassFile.FieldType)).before args0 about1 = true := code_word (m := ⟨4, 1⟩) (meth := k4m1) (c := k4c1) (by decide +kernel) rfl rfl rfl (by decide +kernel)
set_option maxRecDepth 65536 in
theorem w_c14 : (Jvm.Cond.code ({ cls := "java/util/Arrays", name := "rangeCheck", desc := "(III)V" } : Jvm.MethodName) jdk_65_method_30_code (3 : Nat) (Option.none : Option Jvm.ClassFile.FieldType)).before args0 about1 = true := code_word (m := ⟨4, 2⟩) (meth := k4m2) (c := k4c2) (by decide +kernel) rfl rfl rfl (by decide +kernel)
set_option maxRecDepth 65536 in
theorem w_c15 : (Jvm.Cond.code ({ cls := "java/util/DualPivotQuicksort", name := "sort", desc := "([JIII)V" } : Jvm.MethodName) jdk_2529_method_12_code (7 : Nat) (Option.none : Option Jvm.ClassFile.FieldType)).before args0 about1 = true := code_word (m := ⟨7, 1⟩) (meth := k7m1) (c := k7c1) (by decide +kernel) rfl rfl rfl (by decide +kernel)
set_option maxRecDepth 65536 in
theorem w_c16 : (Jvm.Cond.code ({ cls := "java/util/DualPivotQuicksort", name := "sort", desc := "(Ljava/util/DualPivotQuicksort$Sorter;[JIII)V" } : Jvm.MethodName) jdk_2529_method_13_code (25 : Nat) (Option.none : Option Jvm.ClassFile.FieldType)).before args0 about1 = true := code_word (m := ⟨7, 2⟩) (meth := k7m2) (c := k7c2) (by decide +kernel) rfl rfl rfl (by decide +kernel)
set_option maxRecDepth 65536 in
theorem w_c17 : (Jvm.Cond.code ({ cls := "java/util/DualPivotQuicksort", name := "insertionSort", desc := "([JII)V" } : Jvm.MethodName) jdk_2529_method_15_code (7 : Nat) (Option.none : Option Jvm.ClassFile.FieldType)).before args0 about1 = true := code_word (m := ⟨7, 3⟩) (meth := k7m3) (c := k7c3) (by decide +kernel) rfl rfl rfl (by decide +kernel)
set_option maxRecDepth 65536 in
theorem w_c18 : (Jvm.Cond.code ({ cls := "com/example/graphkind/graphkind/Statements", name := "<init>", desc := "([I[J)V" } : Jvm.MethodName) prog_9_method_1_code (3 : Nat) (Option.none : Option Jvm.ClassFile.FieldType)).before args0 about1 = true := code_word (m := ⟨8, 0⟩) (meth := k8m0) (c := k8c0) (by decide +kernel) rfl rfl rfl (by decide +kernel)
set_option maxRecDepth 65536 in
theorem w_c19 : (Jvm.Cond.code ({ cls := "com/example/graphkind/graphkind/Statements", name := "end", desc := "(I)I" } : Jvm.MethodName) prog_9_method_4_code (2 : Nat) (Option.some Jvm.ClassFile.FieldType.int)).before args0 about1 = true := code_word (m := ⟨8, 1⟩) (meth := k8m1) (c := k8c1) (by decide +kernel) rfl rfl rfl (by decide +kernel)
set_option maxRecDepth 65536 in
theorem w_c20 : (Jvm.Cond.code ({ cls := "com/example/graphkind/graphkind/BuilderPutPinLaw", name := "at", desc := "(Lcom/example/graphkind/graphkind/Statements;IIIZ)Z" } : Jvm.MethodName) method_2_code (5 : Nat) (Option.some Jvm.ClassFile.FieldType.boolean)).before args0 about1 = true := code_word (m := ⟨1, 1⟩) (meth := k1m1) (c := k1c1) (by decide +kernel) rfl rfl rfl (by decide +kernel)
set_option maxRecDepth 65536 in
theorem w_c21 : (Jvm.Cond.code ({ cls := "com/example/graphkind/graphkind/Statements", name := "predicate", desc := "(I)I" } : Jvm.MethodName) prog_9_method_7_code (2 : Nat) (Option.some Jvm.ClassFile.FieldType.int)).before args0 about1 = true := code_word (m := ⟨8, 2⟩) (meth := k8m2) (c := k8c2) (by decide +kernel) rfl rfl rfl (by decide +kernel)
set_option maxRecDepth 65536 in
theorem w_c22 : (Jvm.Cond.code ({ cls := "com/example/graphkind/graphkind/Statements", name := "object", desc := "(I)I" } : Jvm.MethodName) prog_9_method_8_code (2 : Nat) (Option.some Jvm.ClassFile.FieldType.int)).before args0 about1 = true := code_word (m := ⟨8, 3⟩) (meth := k8m3) (c := k8c3) (by decide +kernel) rfl rfl rfl (by decide +kernel)
set_option maxRecDepth 65536 in
theorem w_c23 : (Jvm.Cond.code ({ cls := "com/example/graphkind/graphkind/Statements", name := "isData", desc := "(I)Z" } : Jvm.MethodName) prog_9_method_9_code (2 : Nat) (Option.some Jvm.ClassFile.FieldType.boolean)).before args0 about1 = true := code_word (m := ⟨8, 4⟩) (meth := k8m4) (c := k8c4) (by decide +kernel) rfl rfl rfl (by decide +kernel)
set_option maxRecDepth 65536 in
theorem w_c24 : (Jvm.Cond.code ({ cls := "java/util/Arrays", name := "copyOf", desc := "([JI)[J" } : Jvm.MethodName) jdk_65_method_124_code (3 : Nat) (Option.some (Jvm.ClassFile.FieldType.array Jvm.ClassFile.FieldType.long))).before args0 about1 = true := code_word (m := ⟨4, 4⟩) (meth := k4m4) (c := k4c4) (by decide +kernel) rfl rfl rfl (by decide +kernel)
def codes1 : List Jvm.Cond := [Jvm.Cond.code x code maxLocals ret, Jvm.Cond.code ({ cls := "com/example/graphkind/graphkind/TripleList", name := "<init>", desc := "()V" } : Jvm.MethodName) prog_12_method_1_code (1 : Nat) (Option.none : Option Jvm.ClassFile.FieldType), Jvm.Cond.code ({ cls := "java/lang/Object", name := "<init>", desc := "()V" } : Jvm.MethodName) object_method_1_code (1 : Nat) (Option.none : Option Jvm.ClassFile.FieldType), Jvm.Cond.code ({ cls := "com/example/graphkind/graphkind/TripleList", name := "add", desc := "(III)V" } : Jvm.MethodName) prog_12_method_3_code (6 : Nat) (Option.none : Option Jvm.ClassFile.FieldType), Jvm.Cond.code ({ cls := "com/example/graphkind/graphkind/Statements$Builder", name := "<init>", desc := "(I)V" } : Jvm.MethodName) prog_10_method_1_code (2 : Nat) (Option.none : Option Jvm.ClassFile.FieldType), Jvm.Cond.code ({ cls := "com/example/graphkind/graphkind/Statements$Builder", name := "count", desc := "(Lcom/example/graphkind/graphkind/TripleList;)V" } : Jvm.MethodName) prog_10_method_2_code (3 : Nat) (Option.none : Option Jvm.ClassFile.FieldType), Jvm.Cond.code ({ cls := "com/example/graphkind/graphkind/TripleList", name := "ofSubject", desc := "(I)I" } : Jvm.MethodName) prog_12_method_8_code (2 : Nat) (Option.some Jvm.ClassFile.FieldType.int), Jvm.Cond.code ({ cls := "com/example/graphkind/graphkind/Statements$Builder", name := "startPutting", desc := "()V" } : Jvm.MethodName) prog_10_method_3_code (2 : Nat) (Option.none : Option Jvm.ClassFile.FieldType), Jvm.Cond.code ({ cls := "java/util/Arrays", name := "copyOf", desc := "([II)[I" } : Jvm.MethodName) jdk_65_method_123_code (3 : Nat) (Option.some (Jvm.ClassFile.FieldType.array Jvm.ClassFile.FieldType.int)), Jvm.Cond.code ({ cls := "java/lang/Math", name := "min", desc := "(II)I" } : Jvm.MethodName) jdk_29_method_69_code (2 : Nat) (Option.some Jvm.ClassFile.FieldType.int), Jvm.Cond.code ({ cls := "com/example/graphkind/graphkind/Statements$Builder", name := "put", desc := "(IIIZ)V" } : Jvm.MethodName) prog_10_method_4_code (5 : Nat) (Option.none : Option Jvm.ClassFile.FieldType), Jvm.Cond.code ({ cls := "com/example/graphkind/graphkind/Statements$Builder", name := "build", desc := "()Lcom/example/graphkind/graphkind/Statements;" } : Jvm.MethodName) prog_10_method_5_code (3 : Nat) (Option.some (Jvm.ClassFile.FieldType.object "com/example/graphkind/graphkind/Statements")), Jvm.Cond.code ({ cls := "com/example/graphkind/graphkind/Statements$Builder", name := "keep", desc := "(II)I" } : Jvm.MethodName) prog_10_method_6_code (7 : Nat) (Option.some Jvm.ClassFile.FieldType.int), Jvm.Cond.code ({ cls := "java/util/Arrays", name := "sort", desc := "([JII)V" } : Jvm.MethodName) jdk_65_method_5_code (3 : Nat) (Option.none : Option Jvm.ClassFile.FieldType), Jvm.Cond.code ({ cls := "java/util/Arrays", name := "rangeCheck", desc := "(III)V" } : Jvm.MethodName) jdk_65_method_30_code (3 : Nat) (Option.none : Option Jvm.ClassFile.FieldType), Jvm.Cond.code ({ cls := "java/util/DualPivotQuicksort", name := "sort", desc := "([JIII)V" } : Jvm.MethodName) jdk_2529_method_12_code (7 : Nat) (Option.none : Option Jvm.ClassFile.FieldType), Jvm.Cond.code ({ cls := "java/util/DualPivotQuicksort", name := "sort", desc := "(Ljava/util/DualPivotQuicksort$Sorter;[JIII)V" } : Jvm.MethodName) jdk_2529_method_13_code (25 : Nat) (Option.none : Option Jvm.ClassFile.FieldType), Jvm.Cond.code ({ cls := "java/util/DualPivotQuicksort", name := "insertionSort", desc := "([JII)V" } : Jvm.MethodName) jdk_2529_method_15_code (7 : Nat) (Option.none : Option Jvm.ClassFile.FieldType), Jvm.Cond.code ({ cls := "com/example/graphkind/graphkind/Statements", name := "<init>", desc := "([I[J)V" } : Jvm.MethodName) prog_9_method_1_code (3 : Nat) (Option.none : Option Jvm.ClassFile.FieldType), Jvm.Cond.code ({ cls := "com/example/graphkind/graphkind/Statements", name := "end", desc := "(I)I" } : Jvm.MethodName) prog_9_method_4_code (2 : Nat) (Option.some Jvm.ClassFile.FieldType.int), Jvm.Cond.code ({ cls := "com/example/graphkind/graphkind/BuilderPutPinLaw", name := "at", desc := "(Lcom/example/graphkind/graphkind/Statements;IIIZ)Z" } : Jvm.MethodName) method_2_code (5 : Nat) (Option.some Jvm.ClassFile.FieldType.boolean), Jvm.Cond.code ({ cls := "com/example/graphkind/graphkind/Statements", name := "predicate", desc := "(I)I" } : Jvm.MethodName) prog_9_method_7_code (2 : Nat) (Option.some Jvm.ClassFile.FieldType.int), Jvm.Cond.code ({ cls := "com/example/graphkind/graphkind/Statements", name := "object", desc := "(I)I" } : Jvm.MethodName) prog_9_method_8_code (2 : Nat) (Option.some Jvm.ClassFile.FieldType.int), Jvm.Cond.code ({ cls := "com/example/graphkind/graphkind/Statements", name := "isData", desc := "(I)Z" } : Jvm.MethodName) prog_9_method_9_code (2 : Nat) (Option.some Jvm.ClassFile.FieldType.boolean), Jvm.Cond.code ({ cls := "java/util/Arrays", name := "copyOf", desc := "([JI)[J" } : Jvm.MethodName) jdk_65_method_124_code (3 : Nat) (Option.some (Jvm.ClassFile.FieldType.array Jvm.ClassFile.FieldType.long))]
set_option maxRecDepth 65536 in
theorem codes_eq : words1.filter isCode = codes1 := rfl
theorem w_codes : ∀ c ∈ words1.filter isCode, c.before args0 about1 = true := by
  rw [codes_eq]
  intro c hc
  simp only [codes1, List.mem_cons, List.not_mem_nil, or_false] at hc
  rcases hc with rfl | rfl | rfl | rfl | rfl | rfl | rfl | rfl | rfl | rfl | rfl | rfl | rfl | rfl | rfl | rfl | rfl | rfl | rfl | rfl | rfl | rfl | rfl | rfl | rfl
  · exact w_c0
  · exact w_c1
  · exact w_c2
  · exact w_c3
  · exact w_c4
  · exact w_c5
  · exact w_c6
  · exact w_c7
  · exact w_c8
  · exact w_c9
  · exact w_c10
  · exact w_c11
  · exact w_c12
  · exact w_c13
  · exact w_c14
  · exact w_c15
  · exact w_c16
  · exact w_c17
  · exact w_c18
  · exact w_c19
  · exact w_c20
  · exact w_c21
  · exact w_c22
  · exact w_c23
  · exact w_c24
set_option maxRecDepth 65536 in
theorem w_t1 : (words1.take 24).all (fun c => isCode c || c.before args0 about1) = true := by decide +kernel
set_option maxRecDepth 65536 in
theorem w_t2 : ((words1.drop 24).take 24).all (fun c => isCode c || c.before args0 about1) = true := by decide +kernel
set_option maxRecDepth 65536 in
theorem w_t3 : (((words1.drop 24).drop 24).take 24).all (fun c => isCode c || c.before args0 about1) = true := by decide +kernel
set_option maxRecDepth 65536 in
theorem w_t4 : ((((words1.drop 24).drop 24).drop 24).take 24).all (fun c => isCode c || c.before args0 about1) = true := by decide +kernel
set_option maxRecDepth 65536 in
theorem w_t5 : (((((words1.drop 24).drop 24).drop 24).drop 24).take 24).all (fun c => isCode c || c.before args0 about1) = true := by decide +kernel
set_option maxRecDepth 65536 in
theorem w_t6 : (((((words1.drop 24).drop 24).drop 24).drop 24).drop 24).all (fun c => isCode c || c.before args0 about1) = true := by decide +kernel
theorem w_tables : (allAtoms (Jvm.Cond.code x code maxLocals ret :: tables_1)).before args0 about1 = true := by
  rw [allAtoms_all]
  show words1.all (fun c => c.before args0 about1) = true
  refine all_split ?_ w_codes
  rw [← List.take_append_drop 24 words1, List.all_append, w_t1, ← List.take_append_drop 24 (words1.drop 24), List.all_append, w_t2, ← List.take_append_drop 24 ((words1.drop 24).drop 24), List.all_append, w_t3, ← List.take_append_drop 24 (((words1.drop 24).drop 24).drop 24), List.all_append, w_t4, ← List.take_append_drop 24 ((((words1.drop 24).drop 24).drop 24).drop 24), List.all_append, w_t5, w_t6]
  rfl
set_option maxRecDepth 65536 in
theorem w_case : (Jvm.Cond.and given_1 narrow_1).before args0 about1 = true := by decide +kernel
theorem w_applies : (headSpec (Jvm.Cond.code x code maxLocals ret :: tables_1) room_1).applies x e0.platform about1 = true :=
  (Spec.applies_iff w_frames).mpr ⟨w_running, w_runnable, w_alone, w_named, w_hears, w_ripe, w_room, w_tables⟩
theorem atStart : AtStart classFile x code maxLocals ret World_1 tables_1 room_1 Calls_1 rest_1 Pre_1 launch0 p0 e0 about1 theMethod args0 below0 :=
  ⟨lists_1, trivial, launch0.admits_env _ _ _, launch0.least_env, fairChoices_fair.cas, fairChoices_fair.clock, w_frames, w_args, w_heap, w_applies, trivial, trivial, w_case⟩
end start1
theorem witness_1 : WitnessClaimed_1 := ⟨start1.p0, start1.e0, start1.about1, start1.theMethod, start1.args0, start1.below0, start1.atStart⟩
end Jvm.Pilot.@@N@@
