import JvmDerived
import JvmDerived.Pilot.@@N@@Statement
import JvmDerived.Pilot.@@N@@Code
set_option linter.unusedVariables false
set_option linter.unusedSimpArgs false
namespace Jvm.Pilot.@@N@@
open Jvm Jvm.ClassFile Sem Op Lib Jvm.Free Jvm.Stand Jvm.LawKit Jvm.RoadKit Bundle Jvm.Pilot.@@N@@.Jvm.D
def own_usr (x y : Int32) : Int32 := (x.toUInt32 >>> (y &&& 31).toUInt32).toInt32
def own_usrL (x : Int64) (y : Int32) : Int64 := (x.toUInt64 >>> (y &&& 0x3f).toInt64.toUInt64).toInt64
/-- where the run came from, where it stands -/
def Go (p : Program) (e : Env) (below : List Frame) (A B : State) : Prop := ∀ t, Steps p.tables e below B t → Steps p.tables e below A t
theorem Go.step {p : Program} {e : Env} {below : List Frame} {A B C : State} (g : Go p e below A B) (h : ∀ t, Steps p.tables e below C t → Steps p.tables e below B t) : Go p e below A C := fun t k => g t (h t k)
theorem Go.tr {p : Program} {e : Env} {below : List Frame} {A B C : State} (g : Go p e below A B) (h : Steps p.tables e below B C) : Go p e below A C := fun t k => g t (h.trans k)
section Rets
variable {p : Program} {l : Launch} {e : Env} {R : Room} {s : State} {m : MethodId} {args : Array Value} {below : List Frame} {meth : Method} {c : Code} {T : State} {locs : List Loc} {cells slots : Nat}
theorem own_retI (X : Stand p l e R s m args below meth c T locs cells slots) (hx : p.tables.exec = Jvm.exec) {pc : Nat} {Ls : Array Slot} {z : Int32} {rest : List Value} (hret : meth.sig.returnType = some .int) (hd : decode c.code pc = .ok (.ireturn, 1)) {fs : List Frame}
    (hl : ∀ (f : JFrame) (acts : List Action), f.method = m → f.locked = none → f.entered = [] → (doReturn e (T.setTop f) acts (some (.int z))).1 = T.setFrames fs) : Steps p.tables e below (T.setTop (mkF m pc Ls (.int z :: rest))) (T.setFrames fs) :=
  retOut X hx (t := .int) hret rfl (Or.inl ⟨rfl, Or.inl rfl, z, rfl⟩) hd hl
theorem own_retL (X : Stand p l e R s m args below meth c T locs cells slots) (hx : p.tables.exec = Jvm.exec) {pc : Nat} {Ls : Array Slot} {z : Int64} {rest : List Value} (hret : meth.sig.returnType = some .long) (hd : decode c.code pc = .ok (.lreturn, 1)) {fs : List Frame}
    (hl : ∀ (f : JFrame) (acts : List Action), f.method = m → f.locked = none → f.entered = [] → (doReturn e (T.setTop f) acts (some (.long z))).1 = T.setFrames fs) : Steps p.tables e below (T.setTop (mkF m pc Ls (.long z :: rest))) (T.setFrames fs) :=
  retOut X hx (t := .long) hret rfl (Or.inr (Or.inl ⟨rfl, rfl, z, rfl⟩)) hd hl
theorem own_retA (X : Stand p l e R s m args below meth c T locs cells slots) (hx : p.tables.exec = Jvm.exec) {t : FieldType} {pc : Nat} {Ls : Array Slot} {z : Addr} {rest : List Value} (hret : meth.sig.returnType = some t) (ht : t.isReference = true) (hn : narrow t (.ref z) = .ref z) (hd : decode c.code pc = .ok (.areturn, 1)) {fs : List Frame}
    (hl : ∀ (f : JFrame) (acts : List Action), f.method = m → f.locked = none → f.entered = [] → (doReturn e (T.setTop f) acts (some (.ref z))).1 = T.setFrames fs) : Steps p.tables e below (T.setTop (mkF m pc Ls (.ref z :: rest))) (T.setFrames fs) :=
  retOut X hx hret hn (Or.inr (Or.inr (Or.inr (Or.inr ⟨rfl, ht, rfl⟩)))) hd hl
end Rets
def own_Arr (p : Int32) (vs : List Value) (b0 b1 b2 b3 : Int32) : Prop := (p = (0 : Int32) ∧ ∃ f : Value, vs = [.int b0, .int b1, .int b2, .int b3, f]) ∨ (p = (1 : Int32) ∧ ∃ f : Value, vs = [f, .int b0, .int b1, .int b2, .int b3])
theorem own_Arr.p {p : Int32} {vs : List Value} {b0 b1 b2 b3 : Int32} (h : own_Arr p vs b0 b1 b2 b3) : p = 0 ∨ p = 1 := h.imp (·.1) (·.1)
theorem own_r0 {p : Int32} {vs : List Value} {b0 b1 b2 b3 : Int32} (h : own_Arr p vs b0 b1 b2 b3) : (¬ p < 0 ∧ p < (5 : Int32)) ∧ vs.getD (p).toNatClampNeg (.int (0 : Int32)) = .int b0 := by
  rcases h with ⟨rfl, f, rfl⟩ | ⟨rfl, f, rfl⟩ <;> exact ⟨⟨by decide, by decide⟩, rfl⟩
theorem own_r1 {p : Int32} {vs : List Value} {b0 b1 b2 b3 : Int32} (h : own_Arr p vs b0 b1 b2 b3) : (¬ (p + (1 : Int32)) < 0 ∧ (p + (1 : Int32)) < (5 : Int32)) ∧ vs.getD ((p + (1 : Int32))).toNatClampNeg (.int (0 : Int32)) = .int b1 := by
  rcases h with ⟨rfl, f, rfl⟩ | ⟨rfl, f, rfl⟩ <;> exact ⟨⟨by decide, by decide⟩, rfl⟩
theorem own_r2 {p : Int32} {vs : List Value} {b0 b1 b2 b3 : Int32} (h : own_Arr p vs b0 b1 b2 b3) : (¬ (p + (2 : Int32)) < 0 ∧ (p + (2 : Int32)) < (5 : Int32)) ∧ vs.getD ((p + (2 : Int32))).toNatClampNeg (.int (0 : Int32)) = .int b2 := by
  rcases h with ⟨rfl, f, rfl⟩ | ⟨rfl, f, rfl⟩ <;> exact ⟨⟨by decide, by decide⟩, rfl⟩
theorem own_r3 {p : Int32} {vs : List Value} {b0 b1 b2 b3 : Int32} (h : own_Arr p vs b0 b1 b2 b3) : (¬ ((p + (2 : Int32)) + (1 : Int32)) < 0 ∧ ((p + (2 : Int32)) + (1 : Int32)) < (5 : Int32)) ∧ vs.getD (((p + (2 : Int32)) + (1 : Int32))).toNatClampNeg (.int (0 : Int32)) = .int b3 := by
  rcases h with ⟨rfl, f, rfl⟩ | ⟨rfl, f, rfl⟩ <;> exact ⟨⟨by decide, by decide⟩, rfl⟩
theorem own_b0_2 {p : Int32} (h : p = 0 ∨ p = 1) : ¬ (p + (2 : Int32)) < (p + (2 : Int32)) := by rcases h with rfl | rfl <;> decide
theorem own_b0_3 {p : Int32} (h : p = 0 ∨ p = 1) : (p + (2 : Int32)) < (p + (3 : Int32)) := by rcases h with rfl | rfl <;> decide
theorem own_b0_4 {p : Int32} (h : p = 0 ∨ p = 1) : (p + (2 : Int32)) < (p + (4 : Int32)) := by rcases h with rfl | rfl <;> decide
theorem own_b1_3 {p : Int32} (h : p = 0 ∨ p = 1) : ¬ ((p + (2 : Int32)) + (1 : Int32)) < (p + (3 : Int32)) := by rcases h with rfl | rfl <;> decide
theorem own_b1_4 {p : Int32} (h : p = 0 ∨ p = 1) : ((p + (2 : Int32)) + (1 : Int32)) < (p + (4 : Int32)) := by rcases h with rfl | rfl <;> decide
theorem own_b2_4 {p : Int32} (h : p = 0 ∨ p = 1) : ¬ (((p + (2 : Int32)) + (1 : Int32)) + (1 : Int32)) < (p + (4 : Int32)) := by rcases h with rfl | rfl <;> decide
def own_len (p1 : Int32) (p2 : Int32) (b0 : Int32) (b1 : Int32) (b2 : Int32) (b3 : Int32) : Int32 := (if (b0 &&& (255 : Int32)) < (194 : Int32) then (if (b0 &&& (255 : Int32)) < (224 : Int32) then (if (b0 &&& (255 : Int32)) < (240 : Int32) then (-1 : Int32) else (if (244 : Int32) < (b0 &&& (255 : Int32)) then (-1 : Int32) else (if p2 < (p1 + (4 : Int32)) then (-1 : Int32) else (if (b1 &&& (255 : Int32)) < (if (b0 &&& (255 : Int32)) = (240 : Int32) then (144 : Int32) else (128 : Int32)) then (-1 : Int32) else (if (if (b0 &&& (255 : Int32)) = (244 : Int32) then (143 : Int32) else (191 : Int32)) < (b1 &&& (255 : Int32)) then (-1 : Int32) else (if (b2 &&& (192 : Int32)) = (128 : Int32) then (if (b3 &&& (192 : Int32)) = (128 : Int32) then (4 : Int32) else (-1 : Int32)) else (-1 : Int32))))))) else (if (239 : Int32) < (b0 &&& (255 : Int32)) then (if (b0 &&& (255 : Int32)) < (240 : Int32) then (-1 : Int32) else (if (244 : Int32) < (b0 &&& (255 : Int32)) then (-1 : Int32) else (if p2 < (p1 + (4 : Int32)) then (-1 : Int32) else (if (b1 &&& (255 : Int32)) < (if (b0 &&& (255 : Int32)) = (240 : Int32) then (144 : Int32) else (128 : Int32)) then (-1 : Int32) else (if (if (b0 &&& (255 : Int32)) = (244 : Int32) then (143 : Int32) else (191 : Int32)) < (b1 &&& (255 : Int32)) then (-1 : Int32) else (if (b2 &&& (192 : Int32)) = (128 : Int32) then (if (b3 &&& (192 : Int32)) = (128 : Int32) then (4 : Int32) else (-1 : Int32)) else (-1 : Int32))))))) else (if p2 < (p1 + (3 : Int32)) then (-1 : Int32) else (if (b1 &&& (255 : Int32)) < (if (b0 &&& (255 : Int32)) = (224 : Int32) then (160 : Int32) else (128 : Int32)) then (-1 : Int32) else (if (if (b0 &&& (255 : Int32)) = (237 : Int32) then (159 : Int32) else (191 : Int32)) < (b1 &&& (255 : Int32)) then (-1 : Int32) else (if (b2 &&& (192 : Int32)) = (128 : Int32) then (3 : Int32) else (-1 : Int32))))))) else (if (223 : Int32) < (b0 &&& (255 : Int32)) then (if (b0 &&& (255 : Int32)) < (224 : Int32) then (if (b0 &&& (255 : Int32)) < (240 : Int32) then (-1 : Int32) else (if (244 : Int32) < (b0 &&& (255 : Int32)) then (-1 : Int32) else (if p2 < (p1 + (4 : Int32)) then (-1 : Int32) else (if (b1 &&& (255 : Int32)) < (if (b0 &&& (255 : Int32)) = (240 : Int32) then (144 : Int32) else (128 : Int32)) then (-1 : Int32) else (if (if (b0 &&& (255 : Int32)) = (244 : Int32) then (143 : Int32) else (191 : Int32)) < (b1 &&& (255 : Int32)) then (-1 : Int32) else (if (b2 &&& (192 : Int32)) = (128 : Int32) then (if (b3 &&& (192 : Int32)) = (128 : Int32) then (4 : Int32) else (-1 : Int32)) else (-1 : Int32))))))) else (if (239 : Int32) < (b0 &&& (255 : Int32)) then (if (b0 &&& (255 : Int32)) < (240 : Int32) then (-1 : Int32) else (if (244 : Int32) < (b0 &&& (255 : Int32)) then (-1 : Int32) else (if p2 < (p1 + (4 : Int32)) then (-1 : Int32) else (if (b1 &&& (255 : Int32)) < (if (b0 &&& (255 : Int32)) = (240 : Int32) then (144 : Int32) else (128 : Int32)) then (-1 : Int32) else (if (if (b0 &&& (255 : Int32)) = (244 : Int32) then (143 : Int32) else (191 : Int32)) < (b1 &&& (255 : Int32)) then (-1 : Int32) else (if (b2 &&& (192 : Int32)) = (128 : Int32) then (if (b3 &&& (192 : Int32)) = (128 : Int32) then (4 : Int32) else (-1 : Int32)) else (-1 : Int32))))))) else (if p2 < (p1 + (3 : Int32)) then (-1 : Int32) else (if (b1 &&& (255 : Int32)) < (if (b0 &&& (255 : Int32)) = (224 : Int32) then (160 : Int32) else (128 : Int32)) then (-1 : Int32) else (if (if (b0 &&& (255 : Int32)) = (237 : Int32) then (159 : Int32) else (191 : Int32)) < (b1 &&& (255 : Int32)) then (-1 : Int32) else (if (b2 &&& (192 : Int32)) = (128 : Int32) then (3 : Int32) else (-1 : Int32))))))) else (if p2 < (p1 + (2 : Int32)) then (-1 : Int32) else (if (b1 &&& (255 : Int32)) < (128 : Int32) then (-1 : Int32) else (if (191 : Int32) < (b1 &&& (255 : Int32)) then (-1 : Int32) else (2 : Int32))))))
theorem d1_0 : decode prog_13_method_2_code 0 = .ok (.aload_n 0, 1) := by decide +kernel
theorem d1_1 : decode prog_13_method_2_code 1 = .ok (.iload_n 1, 1) := by decide +kernel
theorem d1_2 : decode prog_13_method_2_code 2 = .ok (.baload, 1) := by decide +kernel
theorem d1_3 : decode prog_13_method_2_code 3 = .ok (.sipush 255, 3) := by decide +kernel
theorem d1_6 : decode prog_13_method_2_code 6 = .ok (.iand, 1) := by decide +kernel
theorem d1_7 : decode prog_13_method_2_code 7 = .ok (.istore_n 3, 1) := by decide +kernel
theorem d1_8 : decode prog_13_method_2_code 8 = .ok (.sipush 128, 3) := by decide +kernel
theorem d1_11 : decode prog_13_method_2_code 11 = .ok (.istore 5, 2) := by decide +kernel
theorem d1_13 : decode prog_13_method_2_code 13 = .ok (.sipush 191, 3) := by decide +kernel
theorem d1_16 : decode prog_13_method_2_code 16 = .ok (.istore 6, 2) := by decide +kernel
theorem d1_18 : decode prog_13_method_2_code 18 = .ok (.iload_n 3, 1) := by decide +kernel
theorem d1_19 : decode prog_13_method_2_code 19 = .ok (.sipush 194, 3) := by decide +kernel
theorem d1_22 : decode prog_13_method_2_code 22 = .ok (.if_icmp .lt 16, 3) := by decide +kernel
theorem d1_25 : decode prog_13_method_2_code 25 = .ok (.iload_n 3, 1) := by decide +kernel
theorem d1_26 : decode prog_13_method_2_code 26 = .ok (.sipush 223, 3) := by decide +kernel
theorem d1_29 : decode prog_13_method_2_code 29 = .ok (.if_icmp .gt 9, 3) := by decide +kernel
theorem d1_32 : decode prog_13_method_2_code 32 = .ok (.iconst 2, 1) := by decide +kernel
theorem d1_33 : decode prog_13_method_2_code 33 = .ok (.istore 4, 2) := by decide +kernel
theorem d1_35 : decode prog_13_method_2_code 35 = .ok (.goto 113, 3) := by decide +kernel
theorem d1_38 : decode prog_13_method_2_code 38 = .ok (.iload_n 3, 1) := by decide +kernel
theorem d1_39 : decode prog_13_method_2_code 39 = .ok (.sipush 224, 3) := by decide +kernel
theorem d1_42 : decode prog_13_method_2_code 42 = .ok (.if_icmp .lt 50, 3) := by decide +kernel
theorem d1_45 : decode prog_13_method_2_code 45 = .ok (.iload_n 3, 1) := by decide +kernel
theorem d1_46 : decode prog_13_method_2_code 46 = .ok (.sipush 239, 3) := by decide +kernel
theorem d1_49 : decode prog_13_method_2_code 49 = .ok (.if_icmp .gt 43, 3) := by decide +kernel
theorem d1_52 : decode prog_13_method_2_code 52 = .ok (.iconst 3, 1) := by decide +kernel
theorem d1_53 : decode prog_13_method_2_code 53 = .ok (.istore 4, 2) := by decide +kernel
theorem d1_55 : decode prog_13_method_2_code 55 = .ok (.iload_n 3, 1) := by decide +kernel
theorem d1_56 : decode prog_13_method_2_code 56 = .ok (.sipush 224, 3) := by decide +kernel
theorem d1_59 : decode prog_13_method_2_code 59 = .ok (.if_icmp .ne 9, 3) := by decide +kernel
theorem d1_62 : decode prog_13_method_2_code 62 = .ok (.sipush 160, 3) := by decide +kernel
theorem d1_65 : decode prog_13_method_2_code 65 = .ok (.goto 5, 3) := by decide +kernel
theorem d1_68 : decode prog_13_method_2_code 68 = .ok (.iload 5, 2) := by decide +kernel
theorem d1_70 : decode prog_13_method_2_code 70 = .ok (.istore 5, 2) := by decide +kernel
theorem d1_72 : decode prog_13_method_2_code 72 = .ok (.iload_n 3, 1) := by decide +kernel
theorem d1_73 : decode prog_13_method_2_code 73 = .ok (.sipush 237, 3) := by decide +kernel
theorem d1_76 : decode prog_13_method_2_code 76 = .ok (.if_icmp .ne 9, 3) := by decide +kernel
theorem d1_79 : decode prog_13_method_2_code 79 = .ok (.sipush 159, 3) := by decide +kernel
theorem d1_82 : decode prog_13_method_2_code 82 = .ok (.goto 5, 3) := by decide +kernel
theorem d1_85 : decode prog_13_method_2_code 85 = .ok (.iload 6, 2) := by decide +kernel
theorem d1_87 : decode prog_13_method_2_code 87 = .ok (.istore 6, 2) := by decide +kernel
theorem d1_89 : decode prog_13_method_2_code 89 = .ok (.goto 59, 3) := by decide +kernel
theorem d1_92 : decode prog_13_method_2_code 92 = .ok (.iload_n 3, 1) := by decide +kernel
theorem d1_93 : decode prog_13_method_2_code 93 = .ok (.sipush 240, 3) := by decide +kernel
theorem d1_96 : decode prog_13_method_2_code 96 = .ok (.if_icmp .lt 50, 3) := by decide +kernel
theorem d1_99 : decode prog_13_method_2_code 99 = .ok (.iload_n 3, 1) := by decide +kernel
theorem d1_100 : decode prog_13_method_2_code 100 = .ok (.sipush 244, 3) := by decide +kernel
theorem d1_103 : decode prog_13_method_2_code 103 = .ok (.if_icmp .gt 43, 3) := by decide +kernel
theorem d1_106 : decode prog_13_method_2_code 106 = .ok (.iconst 4, 1) := by decide +kernel
theorem d1_107 : decode prog_13_method_2_code 107 = .ok (.istore 4, 2) := by decide +kernel
theorem d1_109 : decode prog_13_method_2_code 109 = .ok (.iload_n 3, 1) := by decide +kernel
theorem d1_110 : decode prog_13_method_2_code 110 = .ok (.sipush 240, 3) := by decide +kernel
theorem d1_113 : decode prog_13_method_2_code 113 = .ok (.if_icmp .ne 9, 3) := by decide +kernel
theorem d1_116 : decode prog_13_method_2_code 116 = .ok (.sipush 144, 3) := by decide +kernel
theorem d1_119 : decode prog_13_method_2_code 119 = .ok (.goto 5, 3) := by decide +kernel
theorem d1_122 : decode prog_13_method_2_code 122 = .ok (.iload 5, 2) := by decide +kernel
theorem d1_124 : decode prog_13_method_2_code 124 = .ok (.istore 5, 2) := by decide +kernel
theorem d1_126 : decode prog_13_method_2_code 126 = .ok (.iload_n 3, 1) := by decide +kernel
theorem d1_127 : decode prog_13_method_2_code 127 = .ok (.sipush 244, 3) := by decide +kernel
theorem d1_130 : decode prog_13_method_2_code 130 = .ok (.if_icmp .ne 9, 3) := by decide +kernel
theorem d1_133 : decode prog_13_method_2_code 133 = .ok (.sipush 143, 3) := by decide +kernel
theorem d1_136 : decode prog_13_method_2_code 136 = .ok (.goto 5, 3) := by decide +kernel
theorem d1_139 : decode prog_13_method_2_code 139 = .ok (.iload 6, 2) := by decide +kernel
theorem d1_141 : decode prog_13_method_2_code 141 = .ok (.istore 6, 2) := by decide +kernel
theorem d1_143 : decode prog_13_method_2_code 143 = .ok (.goto 5, 3) := by decide +kernel
theorem d1_146 : decode prog_13_method_2_code 146 = .ok (.iconst (-1), 1) := by decide +kernel
theorem d1_147 : decode prog_13_method_2_code 147 = .ok (.ireturn, 1) := by decide +kernel
theorem d1_148 : decode prog_13_method_2_code 148 = .ok (.iload_n 1, 1) := by decide +kernel
theorem d1_149 : decode prog_13_method_2_code 149 = .ok (.iload 4, 2) := by decide +kernel
theorem d1_151 : decode prog_13_method_2_code 151 = .ok (.iadd, 1) := by decide +kernel
theorem d1_152 : decode prog_13_method_2_code 152 = .ok (.iload_n 2, 1) := by decide +kernel
theorem d1_153 : decode prog_13_method_2_code 153 = .ok (.if_icmp .le 5, 3) := by decide +kernel
theorem d1_156 : decode prog_13_method_2_code 156 = .ok (.iconst (-1), 1) := by decide +kernel
theorem d1_157 : decode prog_13_method_2_code 157 = .ok (.ireturn, 1) := by decide +kernel
theorem d1_158 : decode prog_13_method_2_code 158 = .ok (.aload_n 0, 1) := by decide +kernel
theorem d1_159 : decode prog_13_method_2_code 159 = .ok (.iload_n 1, 1) := by decide +kernel
theorem d1_160 : decode prog_13_method_2_code 160 = .ok (.iconst 1, 1) := by decide +kernel
theorem d1_161 : decode prog_13_method_2_code 161 = .ok (.iadd, 1) := by decide +kernel
theorem d1_162 : decode prog_13_method_2_code 162 = .ok (.baload, 1) := by decide +kernel
theorem d1_163 : decode prog_13_method_2_code 163 = .ok (.sipush 255, 3) := by decide +kernel
theorem d1_166 : decode prog_13_method_2_code 166 = .ok (.iand, 1) := by decide +kernel
theorem d1_167 : decode prog_13_method_2_code 167 = .ok (.istore 7, 2) := by decide +kernel
theorem d1_169 : decode prog_13_method_2_code 169 = .ok (.iload 7, 2) := by decide +kernel
theorem d1_171 : decode prog_13_method_2_code 171 = .ok (.iload 5, 2) := by decide +kernel
theorem d1_173 : decode prog_13_method_2_code 173 = .ok (.if_icmp .lt 10, 3) := by decide +kernel
theorem d1_176 : decode prog_13_method_2_code 176 = .ok (.iload 7, 2) := by decide +kernel
theorem d1_178 : decode prog_13_method_2_code 178 = .ok (.iload 6, 2) := by decide +kernel
theorem d1_180 : decode prog_13_method_2_code 180 = .ok (.if_icmp .le 5, 3) := by decide +kernel
theorem d1_183 : decode prog_13_method_2_code 183 = .ok (.iconst (-1), 1) := by decide +kernel
theorem d1_184 : decode prog_13_method_2_code 184 = .ok (.ireturn, 1) := by decide +kernel
theorem d1_185 : decode prog_13_method_2_code 185 = .ok (.iload_n 1, 1) := by decide +kernel
theorem d1_186 : decode prog_13_method_2_code 186 = .ok (.iconst 2, 1) := by decide +kernel
theorem d1_187 : decode prog_13_method_2_code 187 = .ok (.iadd, 1) := by decide +kernel
theorem d1_188 : decode prog_13_method_2_code 188 = .ok (.istore 8, 2) := by decide +kernel
theorem d1_190 : decode prog_13_method_2_code 190 = .ok (.iload 8, 2) := by decide +kernel
theorem d1_192 : decode prog_13_method_2_code 192 = .ok (.iload_n 1, 1) := by decide +kernel
theorem d1_193 : decode prog_13_method_2_code 193 = .ok (.iload 4, 2) := by decide +kernel
theorem d1_195 : decode prog_13_method_2_code 195 = .ok (.iadd, 1) := by decide +kernel
theorem d1_196 : decode prog_13_method_2_code 196 = .ok (.if_icmp .ge 25, 3) := by decide +kernel
theorem d1_199 : decode prog_13_method_2_code 199 = .ok (.aload_n 0, 1) := by decide +kernel
theorem d1_200 : decode prog_13_method_2_code 200 = .ok (.iload 8, 2) := by decide +kernel
theorem d1_202 : decode prog_13_method_2_code 202 = .ok (.baload, 1) := by decide +kernel
theorem d1_203 : decode prog_13_method_2_code 203 = .ok (.sipush 192, 3) := by decide +kernel
theorem d1_206 : decode prog_13_method_2_code 206 = .ok (.iand, 1) := by decide +kernel
theorem d1_207 : decode prog_13_method_2_code 207 = .ok (.sipush 128, 3) := by decide +kernel
theorem d1_210 : decode prog_13_method_2_code 210 = .ok (.if_icmp .eq 5, 3) := by decide +kernel
theorem d1_213 : decode prog_13_method_2_code 213 = .ok (.iconst (-1), 1) := by decide +kernel
theorem d1_214 : decode prog_13_method_2_code 214 = .ok (.ireturn, 1) := by decide +kernel
theorem d1_215 : decode prog_13_method_2_code 215 = .ok (.iinc 8 1, 3) := by decide +kernel
theorem d1_218 : decode prog_13_method_2_code 218 = .ok (.goto (-28), 3) := by decide +kernel
theorem d1_221 : decode prog_13_method_2_code 221 = .ok (.iload 4, 2) := by decide +kernel
theorem d1_223 : decode prog_13_method_2_code 223 = .ok (.ireturn, 1) := by decide +kernel
theorem pn_rm1 : plainName "com/example/graphkind/graphkind/Utf8" = true := by first | (simp [plainName, overriddenIn]; done) | decide +kernel
theorem ef_rm1 (m : MethodId) (o0 : Addr) (p1 : Int32) (p2 : Int32) : entryFrame m #[(.ref o0), (.int p1), (.int p2)] 9 = mkF m 0 #[.val (.ref o0), .val (.int p1), .val (.int p2), .unset, .unset, .unset, .unset, .unset, .unset] [] := by first | (simp [entryFrame, mkF, argsToLocals, Value.category]; done) | rfl
def Q_rm1 (Z : State) (o0 : Addr) (p1 : Int32) (p2 : Int32) (ka : ClassId) (vs : List Value) (b0 : Int32) (b1 : Int32) (b2 : Int32) (b3 : Int32) (h0 : Heap) (n0 : Nat) (v : Option Value) (h : Heap) (L : List Loc) : Prop := v = some (.int (own_len p1 p2 b0 b1 b2 b3)) ∧ Fr n0 L ∧ h = h0
set_option maxRecDepth 65536 in
set_option maxHeartbeats 40000000 in
theorem rm1 (l : Launch) (Z : State) (a0 : Array Value) (hw : ∀ d ∈ tables_1, d.before a0 Z = true) (ws : List Jvm.Cond) (o0 : Addr) (p1 : Int32) (p2 : Int32) (ka : ClassId) (vs : List Value) (b0 : Int32) (b1 : Int32) (b2 : Int32) (b3 : Int32) (h0 : Heap) (n0 : Nat) (Z0 : n0 ≤ h0.size) (V0 : Arv Z h0 o0 ka .byte (5 : Int32) vs (.int (0 : Int32))) (hvs : own_Arr p1 vs b0 b1 b2 b3) :
    MetFree l (⟨"com/example/graphkind/graphkind/Utf8", "length", "([BII)I"⟩ : MethodName) (head1 (Jvm.Cond.code (⟨"com/example/graphkind/graphkind/Utf8", "length", "([BII)I"⟩ : MethodName) prog_13_method_2_code 9 (some .int) :: ws) ({ frames := 0, cells := 0, slots := 0, locals := 0 } : Room)) (fun a U => a = #[(.ref o0), (.int p1), (.int p2)] ∧ Z.Warmed39 U.vm ∧ U.heap = h0) (fun _ _ _ _ _ => True) (fun _ U o U' => ∃ v L, o = .returned v ∧ Q_rm1 Z o0 p1 p2 ka vs b0 b1 b2 b3 h0 n0 v U'.heap L ∧ FrameEnd U o U' L ({ frames := 0, cells := 0, slots := 0, locals := 0 } : Room).cells ({ frames := 0, cells := 0, slots := 0, locals := 0 } : Room).slots) := by
  refine MetFree.of_bodySF (plainFor_of_name pn_rm1) hisR ?_
  intro p e s m args below meth c s₁ Bd hml0 hP hK
  obtain ⟨rfl, hZ, hh⟩ := hP
  have hx := Bd.exec
  have hby := Bd.bytes
  have hml : c.maxLocals = 9 := hml0
  have hown : s.vm.findClass "com/example/graphkind/graphkind/Utf8" = some m.cls := findClass_of_methodNamed Bd.named
  have hnm := (name_of_methodNamed Bd.named Bd.method).1
  have X0 : Stand p l e ({ frames := 0, cells := 0, slots := 0, locals := 0 } : Room) s m #[(.ref o0), (.int p1), (.int p2)] below meth c s₁ [] 0 0 := Stand.of_body Bd
  have e0 : s₁.heap = h0 := by rw [← hh, Bd.state]; rfl
  have N0 := Fr.nil n0
  have K0 := Keep.refl h0 []
  have go0 : Go p e below (s₁.setTop (entryFrame m #[(.ref o0), (.int p1), (.int p2)] 9)) (s₁.setTop (mkF m 0 #[.val (.ref o0), .val (.int p1), .val (.int p2), .unset, .unset, .unset, .unset, .unset, .unset] [])) := fun t k => castTop (ef_rm1 m o0 p1 p2) k
  have go1 := go0.step (C := s₁.setTop (mkF m 2 #[.val (.ref o0), .val (.int p1), .val (.int p2), .unset, .unset, .unset, .unset, .unset, .unset] [(.int p1), (.ref o0)])) (fun t k => by
    show Steps p.tables e below (s₁.setTop (mkF m 0 #[.val (.ref o0), .val (.int p1), .val (.int p2), .unset, .unset, .unset, .unset, .unset, .unset] [])) _
    refine XS.aloadN X0.here hx rfl (hb hby d1_0) rfl rfl ?_
    show Steps p.tables e below (s₁.setTop (mkF m 1 #[.val (.ref o0), .val (.int p1), .val (.int p2), .unset, .unset, .unset, .unset, .unset, .unset] [(.ref o0)])) _
    refine XS.iloadN X0.here hx rfl (hb hby d1_1) rfl ?_
    exact k)
  have Vo2 := V0
  obtain ⟨cl2, Ar2, qa2, Sa2, Na2, Ha2, Ga2⟩ := Vo2
  have hin2 : ¬ (p1 < 0 ∨ cl2.slots.size ≤ (p1).toNatClampNeg) := inb_of Sa2 (own_r0 hvs).1
  have hat2 : cl2.slots[(p1).toNatClampNeg]? = some (.int b0) := Has.at Ha2 hin2 (own_r0 hvs).2
  have go4 := go1.step (C := s₁.setTop (mkF m 22 #[.val (.ref o0), .val (.int p1), .val (.int p2), .val (.int (b0 &&& (255 : Int32))), .unset, .val (.int (128 : Int32)), .val (.int (191 : Int32)), .unset, .unset] [(.int (194 : Int32)), (.int (b0 &&& (255 : Int32)))])) (fun t k => by
    show Steps p.tables e below (s₁.setTop (mkF m 2 #[.val (.ref o0), .val (.int p1), .val (.int p2), .unset, .unset, .unset, .unset, .unset, .unset] [(.int p1), (.ref o0)])) _
    refine X0.baloadBytes hx (j := p1) (v := (.int b0)) (by rw [e0]; exact Ar2.1) (State.isArrayOf_alike hZ.alike Ar2.2.1) Ar2.2.2 hin2 hat2 (g := (mkF m 2 #[.val (.ref o0), .val (.int p1), .val (.int p2), .unset, .unset, .unset, .unset, .unset, .unset] [(.int p1), (.ref o0)])) rfl rfl (hb hby d1_2) _ ?_
    show Steps p.tables e below (s₁.setTop (mkF m 3 #[.val (.ref o0), .val (.int p1), .val (.int p2), .unset, .unset, .unset, .unset, .unset, .unset] [(.int b0)])) _
    refine XS.sipush X0.here hx rfl (hb hby d1_3) ?_
    show Steps p.tables e below (s₁.setTop (mkF m 6 #[.val (.ref o0), .val (.int p1), .val (.int p2), .unset, .unset, .unset, .unset, .unset, .unset] [(.int (255 : Int32)), (.int b0)])) _
    refine XS.iand X0.here hx rfl (hb hby d1_6) rfl ?_
    show Steps p.tables e below (s₁.setTop (mkF m 7 #[.val (.ref o0), .val (.int p1), .val (.int p2), .unset, .unset, .unset, .unset, .unset, .unset] [(.int (b0 &&& (255 : Int32)))])) _
    refine XS.istoreN X0.here hx rfl (hb hby d1_7) rfl (l' := #[.val (.ref o0), .val (.int p1), .val (.int p2), .val (.int (b0 &&& (255 : Int32))), .unset, .unset, .unset, .unset, .unset]) rfl ?_
    show Steps p.tables e below (s₁.setTop (mkF m 8 #[.val (.ref o0), .val (.int p1), .val (.int p2), .val (.int (b0 &&& (255 : Int32))), .unset, .unset, .unset, .unset, .unset] [])) _
    refine XS.sipush X0.here hx rfl (hb hby d1_8) ?_
    show Steps p.tables e below (s₁.setTop (mkF m 11 #[.val (.ref o0), .val (.int p1), .val (.int p2), .val (.int (b0 &&& (255 : Int32))), .unset, .unset, .unset, .unset, .unset] [(.int (128 : Int32))])) _
    refine XS.istore X0.here hx rfl (hb hby d1_11) rfl (l' := #[.val (.ref o0), .val (.int p1), .val (.int p2), .val (.int (b0 &&& (255 : Int32))), .unset, .val (.int (128 : Int32)), .unset, .unset, .unset]) rfl ?_
    show Steps p.tables e below (s₁.setTop (mkF m 13 #[.val (.ref o0), .val (.int p1), .val (.int p2), .val (.int (b0 &&& (255 : Int32))), .unset, .val (.int (128 : Int32)), .unset, .unset, .unset] [])) _
    refine XS.sipush X0.here hx rfl (hb hby d1_13) ?_
    show Steps p.tables e below (s₁.setTop (mkF m 16 #[.val (.ref o0), .val (.int p1), .val (.int p2), .val (.int (b0 &&& (255 : Int32))), .unset, .val (.int (128 : Int32)), .unset, .unset, .unset] [(.int (191 : Int32))])) _
    refine XS.istore X0.here hx rfl (hb hby d1_16) rfl (l' := #[.val (.ref o0), .val (.int p1), .val (.int p2), .val (.int (b0 &&& (255 : Int32))), .unset, .val (.int (128 : Int32)), .val (.int (191 : Int32)), .unset, .unset]) rfl ?_
    show Steps p.tables e below (s₁.setTop (mkF m 18 #[.val (.ref o0), .val (.int p1), .val (.int p2), .val (.int (b0 &&& (255 : Int32))), .unset, .val (.int (128 : Int32)), .val (.int (191 : Int32)), .unset, .unset] [])) _
    refine XS.iloadN X0.here hx rfl (hb hby d1_18) rfl ?_
    show Steps p.tables e below (s₁.setTop (mkF m 19 #[.val (.ref o0), .val (.int p1), .val (.int p2), .val (.int (b0 &&& (255 : Int32))), .unset, .val (.int (128 : Int32)), .val (.int (191 : Int32)), .unset, .unset] [(.int (b0 &&& (255 : Int32)))])) _
    refine XS.sipush X0.here hx rfl (hb hby d1_19) ?_
    exact k)
  by_cases hc3 : (b0 &&& (255 : Int32)) < (194 : Int32)
  · skip
    have go6 := go4.step (C := s₁.setTop (mkF m 42 #[.val (.ref o0), .val (.int p1), .val (.int p2), .val (.int (b0 &&& (255 : Int32))), .unset, .val (.int (128 : Int32)), .val (.int (191 : Int32)), .unset, .unset] [(.int (224 : Int32)), (.int (b0 &&& (255 : Int32)))])) (fun t k => by
      show Steps p.tables e below (s₁.setTop (mkF m 22 #[.val (.ref o0), .val (.int p1), .val (.int p2), .val (.int (b0 &&& (255 : Int32))), .unset, .val (.int (128 : Int32)), .val (.int (191 : Int32)), .unset, .unset] [(.int (194 : Int32)), (.int (b0 &&& (255 : Int32)))])) _
      refine XS.icmpYes X0.here hx rfl (pc0 := 22) (pc' := 38) rfl (hb hby d1_22) rfl (tlt hc3).1 (by decide) (by decide) ?_
      show Steps p.tables e below (s₁.setTop (mkF m 38 #[.val (.ref o0), .val (.int p1), .val (.int p2), .val (.int (b0 &&& (255 : Int32))), .unset, .val (.int (128 : Int32)), .val (.int (191 : Int32)), .unset, .unset] [])) _
      refine XS.iloadN X0.here hx rfl (hb hby d1_38) rfl ?_
      show Steps p.tables e below (s₁.setTop (mkF m 39 #[.val (.ref o0), .val (.int p1), .val (.int p2), .val (.int (b0 &&& (255 : Int32))), .unset, .val (.int (128 : Int32)), .val (.int (191 : Int32)), .unset, .unset] [(.int (b0 &&& (255 : Int32)))])) _
      refine XS.sipush X0.here hx rfl (hb hby d1_39) ?_
      exact k)
    by_cases hc5 : (b0 &&& (255 : Int32)) < (224 : Int32)
    · skip
      have go8 := go6.step (C := s₁.setTop (mkF m 96 #[.val (.ref o0), .val (.int p1), .val (.int p2), .val (.int (b0 &&& (255 : Int32))), .unset, .val (.int (128 : Int32)), .val (.int (191 : Int32)), .unset, .unset] [(.int (240 : Int32)), (.int (b0 &&& (255 : Int32)))])) (fun t k => by
        show Steps p.tables e below (s₁.setTop (mkF m 42 #[.val (.ref o0), .val (.int p1), .val (.int p2), .val (.int (b0 &&& (255 : Int32))), .unset, .val (.int (128 : Int32)), .val (.int (191 : Int32)), .unset, .unset] [(.int (224 : Int32)), (.int (b0 &&& (255 : Int32)))])) _
        refine XS.icmpYes X0.here hx rfl (pc0 := 42) (pc' := 92) rfl (hb hby d1_42) rfl (tlt hc5).1 (by decide) (by decide) ?_
        show Steps p.tables e below (s₁.setTop (mkF m 92 #[.val (.ref o0), .val (.int p1), .val (.int p2), .val (.int (b0 &&& (255 : Int32))), .unset, .val (.int (128 : Int32)), .val (.int (191 : Int32)), .unset, .unset] [])) _
        refine XS.iloadN X0.here hx rfl (hb hby d1_92) rfl ?_
        show Steps p.tables e below (s₁.setTop (mkF m 93 #[.val (.ref o0), .val (.int p1), .val (.int p2), .val (.int (b0 &&& (255 : Int32))), .unset, .val (.int (128 : Int32)), .val (.int (191 : Int32)), .unset, .unset] [(.int (b0 &&& (255 : Int32)))])) _
        refine XS.sipush X0.here hx rfl (hb hby d1_93) ?_
        exact k)
      by_cases hc7 : (b0 &&& (255 : Int32)) < (240 : Int32)
      · skip
        have go9 := go8.step (C := s₁.setTop (mkF m 147 #[.val (.ref o0), .val (.int p1), .val (.int p2), .val (.int (b0 &&& (255 : Int32))), .unset, .val (.int (128 : Int32)), .val (.int (191 : Int32)), .unset, .unset] [(.int (-1 : Int32))])) (fun t k => by
          show Steps p.tables e below (s₁.setTop (mkF m 96 #[.val (.ref o0), .val (.int p1), .val (.int p2), .val (.int (b0 &&& (255 : Int32))), .unset, .val (.int (128 : Int32)), .val (.int (191 : Int32)), .unset, .unset] [(.int (240 : Int32)), (.int (b0 &&& (255 : Int32)))])) _
          refine XS.icmpYes X0.here hx rfl (pc0 := 96) (pc' := 146) rfl (hb hby d1_96) rfl (tlt hc7).1 (by decide) (by decide) ?_
          show Steps p.tables e below (s₁.setTop (mkF m 146 #[.val (.ref o0), .val (.int p1), .val (.int p2), .val (.int (b0 &&& (255 : Int32))), .unset, .val (.int (128 : Int32)), .val (.int (191 : Int32)), .unset, .unset] [])) _
          refine XS.iconst X0.here hx rfl (hb hby d1_146) ?_
          exact k)
        obtain ⟨fs, hr, hrun, hended, hW, hsame⟩ := X0.leave (v := some (.int (-1 : Int32))) (fun h => by rw [Bd.returns] at h; cases h)
        refine ⟨_, _, go9 _ ?_, hrun, hended, _, _, rfl, ?_, ⟨_, rfl⟩, hW, hsame.mono (by decide) (by decide)⟩
        · exact own_retI X0 hx Bd.returns (hb hby d1_147) hr
        · show Q_rm1 Z o0 p1 p2 ka vs b0 b1 b2 b3 h0 n0 _ s₁.heap _
          rw [e0]
          exact ⟨by unfold own_len; simp only [if_pos hc3, if_pos hc5, if_pos hc7], N0, rfl⟩
      · skip
        have go11 := go8.step (C := s₁.setTop (mkF m 103 #[.val (.ref o0), .val (.int p1), .val (.int p2), .val (.int (b0 &&& (255 : Int32))), .unset, .val (.int (128 : Int32)), .val (.int (191 : Int32)), .unset, .unset] [(.int (244 : Int32)), (.int (b0 &&& (255 : Int32)))])) (fun t k => by
          show Steps p.tables e below (s₁.setTop (mkF m 96 #[.val (.ref o0), .val (.int p1), .val (.int p2), .val (.int (b0 &&& (255 : Int32))), .unset, .val (.int (128 : Int32)), .val (.int (191 : Int32)), .unset, .unset] [(.int (240 : Int32)), (.int (b0 &&& (255 : Int32)))])) _
          refine XS.icmpNo X0.here hx rfl (hb hby d1_96) rfl (flt hc7).1 ?_
          show Steps p.tables e below (s₁.setTop (mkF m 99 #[.val (.ref o0), .val (.int p1), .val (.int p2), .val (.int (b0 &&& (255 : Int32))), .unset, .val (.int (128 : Int32)), .val (.int (191 : Int32)), .unset, .unset] [])) _
          refine XS.iloadN X0.here hx rfl (hb hby d1_99) rfl ?_
          show Steps p.tables e below (s₁.setTop (mkF m 100 #[.val (.ref o0), .val (.int p1), .val (.int p2), .val (.int (b0 &&& (255 : Int32))), .unset, .val (.int (128 : Int32)), .val (.int (191 : Int32)), .unset, .unset] [(.int (b0 &&& (255 : Int32)))])) _
          refine XS.sipush X0.here hx rfl (hb hby d1_100) ?_
          exact k)
        by_cases hc10 : (244 : Int32) < (b0 &&& (255 : Int32))
        · skip
          have go12 := go11.step (C := s₁.setTop (mkF m 147 #[.val (.ref o0), .val (.int p1), .val (.int p2), .val (.int (b0 &&& (255 : Int32))), .unset, .val (.int (128 : Int32)), .val (.int (191 : Int32)), .unset, .unset] [(.int (-1 : Int32))])) (fun t k => by
            show Steps p.tables e below (s₁.setTop (mkF m 103 #[.val (.ref o0), .val (.int p1), .val (.int p2), .val (.int (b0 &&& (255 : Int32))), .unset, .val (.int (128 : Int32)), .val (.int (191 : Int32)), .unset, .unset] [(.int (244 : Int32)), (.int (b0 &&& (255 : Int32)))])) _
            refine XS.icmpYes X0.here hx rfl (pc0 := 103) (pc' := 146) rfl (hb hby d1_103) rfl (tlt hc10).2.2.1 (by decide) (by decide) ?_
            show Steps p.tables e below (s₁.setTop (mkF m 146 #[.val (.ref o0), .val (.int p1), .val (.int p2), .val (.int (b0 &&& (255 : Int32))), .unset, .val (.int (128 : Int32)), .val (.int (191 : Int32)), .unset, .unset] [])) _
            refine XS.iconst X0.here hx rfl (hb hby d1_146) ?_
            exact k)
          obtain ⟨fs, hr, hrun, hended, hW, hsame⟩ := X0.leave (v := some (.int (-1 : Int32))) (fun h => by rw [Bd.returns] at h; cases h)
          refine ⟨_, _, go12 _ ?_, hrun, hended, _, _, rfl, ?_, ⟨_, rfl⟩, hW, hsame.mono (by decide) (by decide)⟩
          · exact own_retI X0 hx Bd.returns (hb hby d1_147) hr
          · show Q_rm1 Z o0 p1 p2 ka vs b0 b1 b2 b3 h0 n0 _ s₁.heap _
            rw [e0]
            exact ⟨by unfold own_len; simp only [if_pos hc3, if_pos hc5, if_neg hc7, if_pos hc10], N0, rfl⟩
        · skip
          have go13 := go11.step (C := s₁.setTop (mkF m 113 #[.val (.ref o0), .val (.int p1), .val (.int p2), .val (.int (b0 &&& (255 : Int32))), .val (.int (4 : Int32)), .val (.int (128 : Int32)), .val (.int (191 : Int32)), .unset, .unset] [(.int (240 : Int32)), (.int (b0 &&& (255 : Int32)))])) (fun t k => by
            show Steps p.tables e below (s₁.setTop (mkF m 103 #[.val (.ref o0), .val (.int p1), .val (.int p2), .val (.int (b0 &&& (255 : Int32))), .unset, .val (.int (128 : Int32)), .val (.int (191 : Int32)), .unset, .unset] [(.int (244 : Int32)), (.int (b0 &&& (255 : Int32)))])) _
            refine XS.icmpNo X0.here hx rfl (hb hby d1_103) rfl (flt hc10).2.2.1 ?_
            show Steps p.tables e below (s₁.setTop (mkF m 106 #[.val (.ref o0), .val (.int p1), .val (.int p2), .val (.int (b0 &&& (255 : Int32))), .unset, .val (.int (128 : Int32)), .val (.int (191 : Int32)), .unset, .unset] [])) _
            refine XS.iconst X0.here hx rfl (hb hby d1_106) ?_
            show Steps p.tables e below (s₁.setTop (mkF m 107 #[.val (.ref o0), .val (.int p1), .val (.int p2), .val (.int (b0 &&& (255 : Int32))), .unset, .val (.int (128 : Int32)), .val (.int (191 : Int32)), .unset, .unset] [(.int (4 : Int32))])) _
            refine XS.istore X0.here hx rfl (hb hby d1_107) rfl (l' := #[.val (.ref o0), .val (.int p1), .val (.int p2), .val (.int (b0 &&& (255 : Int32))), .val (.int (4 : Int32)), .val (.int (128 : Int32)), .val (.int (191 : Int32)), .unset, .unset]) rfl ?_
            show Steps p.tables e below (s₁.setTop (mkF m 109 #[.val (.ref o0), .val (.int p1), .val (.int p2), .val (.int (b0 &&& (255 : Int32))), .val (.int (4 : Int32)), .val (.int (128 : Int32)), .val (.int (191 : Int32)), .unset, .unset] [])) _
            refine XS.iloadN X0.here hx rfl (hb hby d1_109) rfl ?_
            show Steps p.tables e below (s₁.setTop (mkF m 110 #[.val (.ref o0), .val (.int p1), .val (.int p2), .val (.int (b0 &&& (255 : Int32))), .val (.int (4 : Int32)), .val (.int (128 : Int32)), .val (.int (191 : Int32)), .unset, .unset] [(.int (b0 &&& (255 : Int32)))])) _
            refine XS.sipush X0.here hx rfl (hb hby d1_110) ?_
            exact k)
          have go15 := go13.step (C := s₁.setTop (mkF m 124 #[.val (.ref o0), .val (.int p1), .val (.int p2), .val (.int (b0 &&& (255 : Int32))), .val (.int (4 : Int32)), .val (.int (128 : Int32)), .val (.int (191 : Int32)), .unset, .unset] [(.int (if (b0 &&& (255 : Int32)) = (240 : Int32) then (144 : Int32) else (128 : Int32)))])) (fun t k => by
            by_cases hc14 : (b0 &&& (255 : Int32)) = (240 : Int32)
            · skip
              try simp only [if_pos hc14] at k
              show Steps p.tables e below (s₁.setTop (mkF m 113 #[.val (.ref o0), .val (.int p1), .val (.int p2), .val (.int (b0 &&& (255 : Int32))), .val (.int (4 : Int32)), .val (.int (128 : Int32)), .val (.int (191 : Int32)), .unset, .unset] [(.int (240 : Int32)), (.int (b0 &&& (255 : Int32)))])) _
              refine XS.icmpNo X0.here hx rfl (hb hby d1_113) rfl (teq hc14).2 ?_
              show Steps p.tables e below (s₁.setTop (mkF m 116 #[.val (.ref o0), .val (.int p1), .val (.int p2), .val (.int (b0 &&& (255 : Int32))), .val (.int (4 : Int32)), .val (.int (128 : Int32)), .val (.int (191 : Int32)), .unset, .unset] [])) _
              refine XS.sipush X0.here hx rfl (hb hby d1_116) ?_
              show Steps p.tables e below (s₁.setTop (mkF m 119 #[.val (.ref o0), .val (.int p1), .val (.int p2), .val (.int (b0 &&& (255 : Int32))), .val (.int (4 : Int32)), .val (.int (128 : Int32)), .val (.int (191 : Int32)), .unset, .unset] [(.int (144 : Int32))])) _
              refine XS.goto X0.here hx rfl (pc0 := 119) (pc' := 124) rfl (hb hby d1_119) (by decide) (by decide) ?_
              exact k
            · skip
              try simp only [if_neg hc14] at k
              show Steps p.tables e below (s₁.setTop (mkF m 113 #[.val (.ref o0), .val (.int p1), .val (.int p2), .val (.int (b0 &&& (255 : Int32))), .val (.int (4 : Int32)), .val (.int (128 : Int32)), .val (.int (191 : Int32)), .unset, .unset] [(.int (240 : Int32)), (.int (b0 &&& (255 : Int32)))])) _
              refine XS.icmpYes X0.here hx rfl (pc0 := 113) (pc' := 122) rfl (hb hby d1_113) rfl (feq hc14).2 (by decide) (by decide) ?_
              show Steps p.tables e below (s₁.setTop (mkF m 122 #[.val (.ref o0), .val (.int p1), .val (.int p2), .val (.int (b0 &&& (255 : Int32))), .val (.int (4 : Int32)), .val (.int (128 : Int32)), .val (.int (191 : Int32)), .unset, .unset] [])) _
              refine XS.iload X0.here hx rfl (hb hby d1_122) rfl ?_
              exact k
            )
          have go16 := go15.step (C := s₁.setTop (mkF m 130 #[.val (.ref o0), .val (.int p1), .val (.int p2), .val (.int (b0 &&& (255 : Int32))), .val (.int (4 : Int32)), .val (.int (if (b0 &&& (255 : Int32)) = (240 : Int32) then (144 : Int32) else (128 : Int32))), .val (.int (191 : Int32)), .unset, .unset] [(.int (244 : Int32)), (.int (b0 &&& (255 : Int32)))])) (fun t k => by
            show Steps p.tables e below (s₁.setTop (mkF m 124 #[.val (.ref o0), .val (.int p1), .val (.int p2), .val (.int (b0 &&& (255 : Int32))), .val (.int (4 : Int32)), .val (.int (128 : Int32)), .val (.int (191 : Int32)), .unset, .unset] [(.int (if (b0 &&& (255 : Int32)) = (240 : Int32) then (144 : Int32) else (128 : Int32)))])) _
            refine XS.istore X0.here hx rfl (hb hby d1_124) rfl (l' := #[.val (.ref o0), .val (.int p1), .val (.int p2), .val (.int (b0 &&& (255 : Int32))), .val (.int (4 : Int32)), .val (.int (if (b0 &&& (255 : Int32)) = (240 : Int32) then (144 : Int32) else (128 : Int32))), .val (.int (191 : Int32)), .unset, .unset]) rfl ?_
            show Steps p.tables e below (s₁.setTop (mkF m 126 #[.val (.ref o0), .val (.int p1), .val (.int p2), .val (.int (b0 &&& (255 : Int32))), .val (.int (4 : Int32)), .val (.int (if (b0 &&& (255 : Int32)) = (240 : Int32) then (144 : Int32) else (128 : Int32))), .val (.int (191 : Int32)), .unset, .unset] [])) _
            refine XS.iloadN X0.here hx rfl (hb hby d1_126) rfl ?_
            show Steps p.tables e below (s₁.setTop (mkF m 127 #[.val (.ref o0), .val (.int p1), .val (.int p2), .val (.int (b0 &&& (255 : Int32))), .val (.int (4 : Int32)), .val (.int (if (b0 &&& (255 : Int32)) = (240 : Int32) then (144 : Int32) else (128 : Int32))), .val (.int (191 : Int32)), .unset, .unset] [(.int (b0 &&& (255 : Int32)))])) _
            refine XS.sipush X0.here hx rfl (hb hby d1_127) ?_
            exact k)
          have go18 := go16.step (C := s₁.setTop (mkF m 141 #[.val (.ref o0), .val (.int p1), .val (.int p2), .val (.int (b0 &&& (255 : Int32))), .val (.int (4 : Int32)), .val (.int (if (b0 &&& (255 : Int32)) = (240 : Int32) then (144 : Int32) else (128 : Int32))), .val (.int (191 : Int32)), .unset, .unset] [(.int (if (b0 &&& (255 : Int32)) = (244 : Int32) then (143 : Int32) else (191 : Int32)))])) (fun t k => by
            by_cases hc17 : (b0 &&& (255 : Int32)) = (244 : Int32)
            · skip
              try simp only [if_pos hc17] at k
              show Steps p.tables e below (s₁.setTop (mkF m 130 #[.val (.ref o0), .val (.int p1), .val (.int p2), .val (.int (b0 &&& (255 : Int32))), .val (.int (4 : Int32)), .val (.int (if (b0 &&& (255 : Int32)) = (240 : Int32) then (144 : Int32) else (128 : Int32))), .val (.int (191 : Int32)), .unset, .unset] [(.int (244 : Int32)), (.int (b0 &&& (255 : Int32)))])) _
              refine XS.icmpNo X0.here hx rfl (hb hby d1_130) rfl (teq hc17).2 ?_
              show Steps p.tables e below (s₁.setTop (mkF m 133 #[.val (.ref o0), .val (.int p1), .val (.int p2), .val (.int (b0 &&& (255 : Int32))), .val (.int (4 : Int32)), .val (.int (if (b0 &&& (255 : Int32)) = (240 : Int32) then (144 : Int32) else (128 : Int32))), .val (.int (191 : Int32)), .unset, .unset] [])) _
              refine XS.sipush X0.here hx rfl (hb hby d1_133) ?_
              show Steps p.tables e below (s₁.setTop (mkF m 136 #[.val (.ref o0), .val (.int p1), .val (.int p2), .val (.int (b0 &&& (255 : Int32))), .val (.int (4 : Int32)), .val (.int (if (b0 &&& (255 : Int32)) = (240 : Int32) then (144 : Int32) else (128 : Int32))), .val (.int (191 : Int32)), .unset, .unset] [(.int (143 : Int32))])) _
              refine XS.goto X0.here hx rfl (pc0 := 136) (pc' := 141) rfl (hb hby d1_136) (by decide) (by decide) ?_
              exact k
            · skip
              try simp only [if_neg hc17] at k
              show Steps p.tables e below (s₁.setTop (mkF m 130 #[.val (.ref o0), .val (.int p1), .val (.int p2), .val (.int (b0 &&& (255 : Int32))), .val (.int (4 : Int32)), .val (.int (if (b0 &&& (255 : Int32)) = (240 : Int32) then (144 : Int32) else (128 : Int32))), .val (.int (191 : Int32)), .unset, .unset] [(.int (244 : Int32)), (.int (b0 &&& (255 : Int32)))])) _
              refine XS.icmpYes X0.here hx rfl (pc0 := 130) (pc' := 139) rfl (hb hby d1_130) rfl (feq hc17).2 (by decide) (by decide) ?_
              show Steps p.tables e below (s₁.setTop (mkF m 139 #[.val (.ref o0), .val (.int p1), .val (.int p2), .val (.int (b0 &&& (255 : Int32))), .val (.int (4 : Int32)), .val (.int (if (b0 &&& (255 : Int32)) = (240 : Int32) then (144 : Int32) else (128 : Int32))), .val (.int (191 : Int32)), .unset, .unset] [])) _
              refine XS.iload X0.here hx rfl (hb hby d1_139) rfl ?_
              exact k
            )
          have go20 := go18.step (C := s₁.setTop (mkF m 153 #[.val (.ref o0), .val (.int p1), .val (.int p2), .val (.int (b0 &&& (255 : Int32))), .val (.int (4 : Int32)), .val (.int (if (b0 &&& (255 : Int32)) = (240 : Int32) then (144 : Int32) else (128 : Int32))), .val (.int (if (b0 &&& (255 : Int32)) = (244 : Int32) then (143 : Int32) else (191 : Int32))), .unset, .unset] [(.int p2), (.int (p1 + (4 : Int32)))])) (fun t k => by
            show Steps p.tables e below (s₁.setTop (mkF m 141 #[.val (.ref o0), .val (.int p1), .val (.int p2), .val (.int (b0 &&& (255 : Int32))), .val (.int (4 : Int32)), .val (.int (if (b0 &&& (255 : Int32)) = (240 : Int32) then (144 : Int32) else (128 : Int32))), .val (.int (191 : Int32)), .unset, .unset] [(.int (if (b0 &&& (255 : Int32)) = (244 : Int32) then (143 : Int32) else (191 : Int32)))])) _
            refine XS.istore X0.here hx rfl (hb hby d1_141) rfl (l' := #[.val (.ref o0), .val (.int p1), .val (.int p2), .val (.int (b0 &&& (255 : Int32))), .val (.int (4 : Int32)), .val (.int (if (b0 &&& (255 : Int32)) = (240 : Int32) then (144 : Int32) else (128 : Int32))), .val (.int (if (b0 &&& (255 : Int32)) = (244 : Int32) then (143 : Int32) else (191 : Int32))), .unset, .unset]) rfl ?_
            show Steps p.tables e below (s₁.setTop (mkF m 143 #[.val (.ref o0), .val (.int p1), .val (.int p2), .val (.int (b0 &&& (255 : Int32))), .val (.int (4 : Int32)), .val (.int (if (b0 &&& (255 : Int32)) = (240 : Int32) then (144 : Int32) else (128 : Int32))), .val (.int (if (b0 &&& (255 : Int32)) = (244 : Int32) then (143 : Int32) else (191 : Int32))), .unset, .unset] [])) _
            refine XS.goto X0.here hx rfl (pc0 := 143) (pc' := 148) rfl (hb hby d1_143) (by decide) (by decide) ?_
            show Steps p.tables e below (s₁.setTop (mkF m 148 #[.val (.ref o0), .val (.int p1), .val (.int p2), .val (.int (b0 &&& (255 : Int32))), .val (.int (4 : Int32)), .val (.int (if (b0 &&& (255 : Int32)) = (240 : Int32) then (144 : Int32) else (128 : Int32))), .val (.int (if (b0 &&& (255 : Int32)) = (244 : Int32) then (143 : Int32) else (191 : Int32))), .unset, .unset] [])) _
            refine XS.iloadN X0.here hx rfl (hb hby d1_148) rfl ?_
            show Steps p.tables e below (s₁.setTop (mkF m 149 #[.val (.ref o0), .val (.int p1), .val (.int p2), .val (.int (b0 &&& (255 : Int32))), .val (.int (4 : Int32)), .val (.int (if (b0 &&& (255 : Int32)) = (240 : Int32) then (144 : Int32) else (128 : Int32))), .val (.int (if (b0 &&& (255 : Int32)) = (244 : Int32) then (143 : Int32) else (191 : Int32))), .unset, .unset] [(.int p1)])) _
            refine XS.iload X0.here hx rfl (hb hby d1_149) rfl ?_
            show Steps p.tables e below (s₁.setTop (mkF m 151 #[.val (.ref o0), .val (.int p1), .val (.int p2), .val (.int (b0 &&& (255 : Int32))), .val (.int (4 : Int32)), .val (.int (if (b0 &&& (255 : Int32)) = (240 : Int32) then (144 : Int32) else (128 : Int32))), .val (.int (if (b0 &&& (255 : Int32)) = (244 : Int32) then (143 : Int32) else (191 : Int32))), .unset, .unset] [(.int (4 : Int32)), (.int p1)])) _
            refine XS.iadd X0.here hx rfl (hb hby d1_151) rfl ?_
            show Steps p.tables e below (s₁.setTop (mkF m 152 #[.val (.ref o0), .val (.int p1), .val (.int p2), .val (.int (b0 &&& (255 : Int32))), .val (.int (4 : Int32)), .val (.int (if (b0 &&& (255 : Int32)) = (240 : Int32) then (144 : Int32) else (128 : Int32))), .val (.int (if (b0 &&& (255 : Int32)) = (244 : Int32) then (143 : Int32) else (191 : Int32))), .unset, .unset] [(.int (p1 + (4 : Int32)))])) _
            refine XS.iloadN X0.here hx rfl (hb hby d1_152) rfl ?_
            exact k)
          by_cases hc19 : p2 < (p1 + (4 : Int32))
          · skip
            have go21 := go20.step (C := s₁.setTop (mkF m 157 #[.val (.ref o0), .val (.int p1), .val (.int p2), .val (.int (b0 &&& (255 : Int32))), .val (.int (4 : Int32)), .val (.int (if (b0 &&& (255 : Int32)) = (240 : Int32) then (144 : Int32) else (128 : Int32))), .val (.int (if (b0 &&& (255 : Int32)) = (244 : Int32) then (143 : Int32) else (191 : Int32))), .unset, .unset] [(.int (-1 : Int32))])) (fun t k => by
              show Steps p.tables e below (s₁.setTop (mkF m 153 #[.val (.ref o0), .val (.int p1), .val (.int p2), .val (.int (b0 &&& (255 : Int32))), .val (.int (4 : Int32)), .val (.int (if (b0 &&& (255 : Int32)) = (240 : Int32) then (144 : Int32) else (128 : Int32))), .val (.int (if (b0 &&& (255 : Int32)) = (244 : Int32) then (143 : Int32) else (191 : Int32))), .unset, .unset] [(.int p2), (.int (p1 + (4 : Int32)))])) _
              refine XS.icmpNo X0.here hx rfl (hb hby d1_153) rfl (tlt hc19).2.2.2 ?_
              show Steps p.tables e below (s₁.setTop (mkF m 156 #[.val (.ref o0), .val (.int p1), .val (.int p2), .val (.int (b0 &&& (255 : Int32))), .val (.int (4 : Int32)), .val (.int (if (b0 &&& (255 : Int32)) = (240 : Int32) then (144 : Int32) else (128 : Int32))), .val (.int (if (b0 &&& (255 : Int32)) = (244 : Int32) then (143 : Int32) else (191 : Int32))), .unset, .unset] [])) _
              refine XS.iconst X0.here hx rfl (hb hby d1_156) ?_
              exact k)
            obtain ⟨fs, hr, hrun, hended, hW, hsame⟩ := X0.leave (v := some (.int (-1 : Int32))) (fun h => by rw [Bd.returns] at h; cases h)
            refine ⟨_, _, go21 _ ?_, hrun, hended, _, _, rfl, ?_, ⟨_, rfl⟩, hW, hsame.mono (by decide) (by decide)⟩
            · exact own_retI X0 hx Bd.returns (hb hby d1_157) hr
            · show Q_rm1 Z o0 p1 p2 ka vs b0 b1 b2 b3 h0 n0 _ s₁.heap _
              rw [e0]
              exact ⟨by unfold own_len; simp only [if_pos hc3, if_pos hc5, if_neg hc7, if_neg hc10, if_pos hc19], N0, rfl⟩
          · skip
            have go22 := go20.step (C := s₁.setTop (mkF m 162 #[.val (.ref o0), .val (.int p1), .val (.int p2), .val (.int (b0 &&& (255 : Int32))), .val (.int (4 : Int32)), .val (.int (if (b0 &&& (255 : Int32)) = (240 : Int32) then (144 : Int32) else (128 : Int32))), .val (.int (if (b0 &&& (255 : Int32)) = (244 : Int32) then (143 : Int32) else (191 : Int32))), .unset, .unset] [(.int (p1 + (1 : Int32))), (.ref o0)])) (fun t k => by
              show Steps p.tables e below (s₁.setTop (mkF m 153 #[.val (.ref o0), .val (.int p1), .val (.int p2), .val (.int (b0 &&& (255 : Int32))), .val (.int (4 : Int32)), .val (.int (if (b0 &&& (255 : Int32)) = (240 : Int32) then (144 : Int32) else (128 : Int32))), .val (.int (if (b0 &&& (255 : Int32)) = (244 : Int32) then (143 : Int32) else (191 : Int32))), .unset, .unset] [(.int p2), (.int (p1 + (4 : Int32)))])) _
              refine XS.icmpYes X0.here hx rfl (pc0 := 153) (pc' := 158) rfl (hb hby d1_153) rfl (flt hc19).2.2.2 (by decide) (by decide) ?_
              show Steps p.tables e below (s₁.setTop (mkF m 158 #[.val (.ref o0), .val (.int p1), .val (.int p2), .val (.int (b0 &&& (255 : Int32))), .val (.int (4 : Int32)), .val (.int (if (b0 &&& (255 : Int32)) = (240 : Int32) then (144 : Int32) else (128 : Int32))), .val (.int (if (b0 &&& (255 : Int32)) = (244 : Int32) then (143 : Int32) else (191 : Int32))), .unset, .unset] [])) _
              refine XS.aloadN X0.here hx rfl (hb hby d1_158) rfl rfl ?_
              show Steps p.tables e below (s₁.setTop (mkF m 159 #[.val (.ref o0), .val (.int p1), .val (.int p2), .val (.int (b0 &&& (255 : Int32))), .val (.int (4 : Int32)), .val (.int (if (b0 &&& (255 : Int32)) = (240 : Int32) then (144 : Int32) else (128 : Int32))), .val (.int (if (b0 &&& (255 : Int32)) = (244 : Int32) then (143 : Int32) else (191 : Int32))), .unset, .unset] [(.ref o0)])) _
              refine XS.iloadN X0.here hx rfl (hb hby d1_159) rfl ?_
              show Steps p.tables e below (s₁.setTop (mkF m 160 #[.val (.ref o0), .val (.int p1), .val (.int p2), .val (.int (b0 &&& (255 : Int32))), .val (.int (4 : Int32)), .val (.int (if (b0 &&& (255 : Int32)) = (240 : Int32) then (144 : Int32) else (128 : Int32))), .val (.int (if (b0 &&& (255 : Int32)) = (244 : Int32) then (143 : Int32) else (191 : Int32))), .unset, .unset] [(.int p1), (.ref o0)])) _
              refine XS.iconst X0.here hx rfl (hb hby d1_160) ?_
              show Steps p.tables e below (s₁.setTop (mkF m 161 #[.val (.ref o0), .val (.int p1), .val (.int p2), .val (.int (b0 &&& (255 : Int32))), .val (.int (4 : Int32)), .val (.int (if (b0 &&& (255 : Int32)) = (240 : Int32) then (144 : Int32) else (128 : Int32))), .val (.int (if (b0 &&& (255 : Int32)) = (244 : Int32) then (143 : Int32) else (191 : Int32))), .unset, .unset] [(.int (1 : Int32)), (.int p1), (.ref o0)])) _
              refine XS.iadd X0.here hx rfl (hb hby d1_161) rfl ?_
              exact k)
            have Vo23 := V0
            obtain ⟨cl23, Ar23, qa23, Sa23, Na23, Ha23, Ga23⟩ := Vo23
            have hin23 : ¬ ((p1 + (1 : Int32)) < 0 ∨ cl23.slots.size ≤ ((p1 + (1 : Int32))).toNatClampNeg) := inb_of Sa23 (own_r1 hvs).1
            have hat23 : cl23.slots[((p1 + (1 : Int32))).toNatClampNeg]? = some (.int b1) := Has.at Ha23 hin23 (own_r1 hvs).2
            have go25 := go22.step (C := s₁.setTop (mkF m 173 #[.val (.ref o0), .val (.int p1), .val (.int p2), .val (.int (b0 &&& (255 : Int32))), .val (.int (4 : Int32)), .val (.int (if (b0 &&& (255 : Int32)) = (240 : Int32) then (144 : Int32) else (128 : Int32))), .val (.int (if (b0 &&& (255 : Int32)) = (244 : Int32) then (143 : Int32) else (191 : Int32))), .val (.int (b1 &&& (255 : Int32))), .unset] [(.int (if (b0 &&& (255 : Int32)) = (240 : Int32) then (144 : Int32) else (128 : Int32))), (.int (b1 &&& (255 : Int32)))])) (fun t k => by
              show Steps p.tables e below (s₁.setTop (mkF m 162 #[.val (.ref o0), .val (.int p1), .val (.int p2), .val (.int (b0 &&& (255 : Int32))), .val (.int (4 : Int32)), .val (.int (if (b0 &&& (255 : Int32)) = (240 : Int32) then (144 : Int32) else (128 : Int32))), .val (.int (if (b0 &&& (255 : Int32)) = (244 : Int32) then (143 : Int32) else (191 : Int32))), .unset, .unset] [(.int (p1 + (1 : Int32))), (.ref o0)])) _
              refine X0.baloadBytes hx (j := (p1 + (1 : Int32))) (v := (.int b1)) (by rw [e0]; exact Ar23.1) (State.isArrayOf_alike hZ.alike Ar23.2.1) Ar23.2.2 hin23 hat23 (g := (mkF m 162 #[.val (.ref o0), .val (.int p1), .val (.int p2), .val (.int (b0 &&& (255 : Int32))), .val (.int (4 : Int32)), .val (.int (if (b0 &&& (255 : Int32)) = (240 : Int32) then (144 : Int32) else (128 : Int32))), .val (.int (if (b0 &&& (255 : Int32)) = (244 : Int32) then (143 : Int32) else (191 : Int32))), .unset, .unset] [(.int (p1 + (1 : Int32))), (.ref o0)])) rfl rfl (hb hby d1_162) _ ?_
              show Steps p.tables e below (s₁.setTop (mkF m 163 #[.val (.ref o0), .val (.int p1), .val (.int p2), .val (.int (b0 &&& (255 : Int32))), .val (.int (4 : Int32)), .val (.int (if (b0 &&& (255 : Int32)) = (240 : Int32) then (144 : Int32) else (128 : Int32))), .val (.int (if (b0 &&& (255 : Int32)) = (244 : Int32) then (143 : Int32) else (191 : Int32))), .unset, .unset] [(.int b1)])) _
              refine XS.sipush X0.here hx rfl (hb hby d1_163) ?_
              show Steps p.tables e below (s₁.setTop (mkF m 166 #[.val (.ref o0), .val (.int p1), .val (.int p2), .val (.int (b0 &&& (255 : Int32))), .val (.int (4 : Int32)), .val (.int (if (b0 &&& (255 : Int32)) = (240 : Int32) then (144 : Int32) else (128 : Int32))), .val (.int (if (b0 &&& (255 : Int32)) = (244 : Int32) then (143 : Int32) else (191 : Int32))), .unset, .unset] [(.int (255 : Int32)), (.int b1)])) _
              refine XS.iand X0.here hx rfl (hb hby d1_166) rfl ?_
              show Steps p.tables e below (s₁.setTop (mkF m 167 #[.val (.ref o0), .val (.int p1), .val (.int p2), .val (.int (b0 &&& (255 : Int32))), .val (.int (4 : Int32)), .val (.int (if (b0 &&& (255 : Int32)) = (240 : Int32) then (144 : Int32) else (128 : Int32))), .val (.int (if (b0 &&& (255 : Int32)) = (244 : Int32) then (143 : Int32) else (191 : Int32))), .unset, .unset] [(.int (b1 &&& (255 : Int32)))])) _
              refine XS.istore X0.here hx rfl (hb hby d1_167) rfl (l' := #[.val (.ref o0), .val (.int p1), .val (.int p2), .val (.int (b0 &&& (255 : Int32))), .val (.int (4 : Int32)), .val (.int (if (b0 &&& (255 : Int32)) = (240 : Int32) then (144 : Int32) else (128 : Int32))), .val (.int (if (b0 &&& (255 : Int32)) = (244 : Int32) then (143 : Int32) else (191 : Int32))), .val (.int (b1 &&& (255 : Int32))), .unset]) rfl ?_
              show Steps p.tables e below (s₁.setTop (mkF m 169 #[.val (.ref o0), .val (.int p1), .val (.int p2), .val (.int (b0 &&& (255 : Int32))), .val (.int (4 : Int32)), .val (.int (if (b0 &&& (255 : Int32)) = (240 : Int32) then (144 : Int32) else (128 : Int32))), .val (.int (if (b0 &&& (255 : Int32)) = (244 : Int32) then (143 : Int32) else (191 : Int32))), .val (.int (b1 &&& (255 : Int32))), .unset] [])) _
              refine XS.iload X0.here hx rfl (hb hby d1_169) rfl ?_
              show Steps p.tables e below (s₁.setTop (mkF m 171 #[.val (.ref o0), .val (.int p1), .val (.int p2), .val (.int (b0 &&& (255 : Int32))), .val (.int (4 : Int32)), .val (.int (if (b0 &&& (255 : Int32)) = (240 : Int32) then (144 : Int32) else (128 : Int32))), .val (.int (if (b0 &&& (255 : Int32)) = (244 : Int32) then (143 : Int32) else (191 : Int32))), .val (.int (b1 &&& (255 : Int32))), .unset] [(.int (b1 &&& (255 : Int32)))])) _
              refine XS.iload X0.here hx rfl (hb hby d1_171) rfl ?_
              exact k)
            by_cases hc24 : (b1 &&& (255 : Int32)) < (if (b0 &&& (255 : Int32)) = (240 : Int32) then (144 : Int32) else (128 : Int32))
            · skip
              have go26 := go25.step (C := s₁.setTop (mkF m 184 #[.val (.ref o0), .val (.int p1), .val (.int p2), .val (.int (b0 &&& (255 : Int32))), .val (.int (4 : Int32)), .val (.int (if (b0 &&& (255 : Int32)) = (240 : Int32) then (144 : Int32) else (128 : Int32))), .val (.int (if (b0 &&& (255 : Int32)) = (244 : Int32) then (143 : Int32) else (191 : Int32))), .val (.int (b1 &&& (255 : Int32))), .unset] [(.int (-1 : Int32))])) (fun t k => by
                show Steps p.tables e below (s₁.setTop (mkF m 173 #[.val (.ref o0), .val (.int p1), .val (.int p2), .val (.int (b0 &&& (255 : Int32))), .val (.int (4 : Int32)), .val (.int (if (b0 &&& (255 : Int32)) = (240 : Int32) then (144 : Int32) else (128 : Int32))), .val (.int (if (b0 &&& (255 : Int32)) = (244 : Int32) then (143 : Int32) else (191 : Int32))), .val (.int (b1 &&& (255 : Int32))), .unset] [(.int (if (b0 &&& (255 : Int32)) = (240 : Int32) then (144 : Int32) else (128 : Int32))), (.int (b1 &&& (255 : Int32)))])) _
                refine XS.icmpYes X0.here hx rfl (pc0 := 173) (pc' := 183) rfl (hb hby d1_173) rfl (tlt hc24).1 (by decide) (by decide) ?_
                show Steps p.tables e below (s₁.setTop (mkF m 183 #[.val (.ref o0), .val (.int p1), .val (.int p2), .val (.int (b0 &&& (255 : Int32))), .val (.int (4 : Int32)), .val (.int (if (b0 &&& (255 : Int32)) = (240 : Int32) then (144 : Int32) else (128 : Int32))), .val (.int (if (b0 &&& (255 : Int32)) = (244 : Int32) then (143 : Int32) else (191 : Int32))), .val (.int (b1 &&& (255 : Int32))), .unset] [])) _
                refine XS.iconst X0.here hx rfl (hb hby d1_183) ?_
                exact k)
              obtain ⟨fs, hr, hrun, hended, hW, hsame⟩ := X0.leave (v := some (.int (-1 : Int32))) (fun h => by rw [Bd.returns] at h; cases h)
              refine ⟨_, _, go26 _ ?_, hrun, hended, _, _, rfl, ?_, ⟨_, rfl⟩, hW, hsame.mono (by decide) (by decide)⟩
              · exact own_retI X0 hx Bd.returns (hb hby d1_184) hr
              · show Q_rm1 Z o0 p1 p2 ka vs b0 b1 b2 b3 h0 n0 _ s₁.heap _
                rw [e0]
                exact ⟨by unfold own_len; simp only [if_pos hc3, if_pos hc5, if_neg hc7, if_neg hc10, if_neg hc19, if_pos hc24], N0, rfl⟩
            · skip
              have go28 := go25.step (C := s₁.setTop (mkF m 180 #[.val (.ref o0), .val (.int p1), .val (.int p2), .val (.int (b0 &&& (255 : Int32))), .val (.int (4 : Int32)), .val (.int (if (b0 &&& (255 : Int32)) = (240 : Int32) then (144 : Int32) else (128 : Int32))), .val (.int (if (b0 &&& (255 : Int32)) = (244 : Int32) then (143 : Int32) else (191 : Int32))), .val (.int (b1 &&& (255 : Int32))), .unset] [(.int (if (b0 &&& (255 : Int32)) = (244 : Int32) then (143 : Int32) else (191 : Int32))), (.int (b1 &&& (255 : Int32)))])) (fun t k => by
                show Steps p.tables e below (s₁.setTop (mkF m 173 #[.val (.ref o0), .val (.int p1), .val (.int p2), .val (.int (b0 &&& (255 : Int32))), .val (.int (4 : Int32)), .val (.int (if (b0 &&& (255 : Int32)) = (240 : Int32) then (144 : Int32) else (128 : Int32))), .val (.int (if (b0 &&& (255 : Int32)) = (244 : Int32) then (143 : Int32) else (191 : Int32))), .val (.int (b1 &&& (255 : Int32))), .unset] [(.int (if (b0 &&& (255 : Int32)) = (240 : Int32) then (144 : Int32) else (128 : Int32))), (.int (b1 &&& (255 : Int32)))])) _
                refine XS.icmpNo X0.here hx rfl (hb hby d1_173) rfl (flt hc24).1 ?_
                show Steps p.tables e below (s₁.setTop (mkF m 176 #[.val (.ref o0), .val (.int p1), .val (.int p2), .val (.int (b0 &&& (255 : Int32))), .val (.int (4 : Int32)), .val (.int (if (b0 &&& (255 : Int32)) = (240 : Int32) then (144 : Int32) else (128 : Int32))), .val (.int (if (b0 &&& (255 : Int32)) = (244 : Int32) then (143 : Int32) else (191 : Int32))), .val (.int (b1 &&& (255 : Int32))), .unset] [])) _
                refine XS.iload X0.here hx rfl (hb hby d1_176) rfl ?_
                show Steps p.tables e below (s₁.setTop (mkF m 178 #[.val (.ref o0), .val (.int p1), .val (.int p2), .val (.int (b0 &&& (255 : Int32))), .val (.int (4 : Int32)), .val (.int (if (b0 &&& (255 : Int32)) = (240 : Int32) then (144 : Int32) else (128 : Int32))), .val (.int (if (b0 &&& (255 : Int32)) = (244 : Int32) then (143 : Int32) else (191 : Int32))), .val (.int (b1 &&& (255 : Int32))), .unset] [(.int (b1 &&& (255 : Int32)))])) _
                refine XS.iload X0.here hx rfl (hb hby d1_178) rfl ?_
                exact k)
              by_cases hc27 : (if (b0 &&& (255 : Int32)) = (244 : Int32) then (143 : Int32) else (191 : Int32)) < (b1 &&& (255 : Int32))
              · skip
                have go29 := go28.step (C := s₁.setTop (mkF m 184 #[.val (.ref o0), .val (.int p1), .val (.int p2), .val (.int (b0 &&& (255 : Int32))), .val (.int (4 : Int32)), .val (.int (if (b0 &&& (255 : Int32)) = (240 : Int32) then (144 : Int32) else (128 : Int32))), .val (.int (if (b0 &&& (255 : Int32)) = (244 : Int32) then (143 : Int32) else (191 : Int32))), .val (.int (b1 &&& (255 : Int32))), .unset] [(.int (-1 : Int32))])) (fun t k => by
                  show Steps p.tables e below (s₁.setTop (mkF m 180 #[.val (.ref o0), .val (.int p1), .val (.int p2), .val (.int (b0 &&& (255 : Int32))), .val (.int (4 : Int32)), .val (.int (if (b0 &&& (255 : Int32)) = (240 : Int32) then (144 : Int32) else (128 : Int32))), .val (.int (if (b0 &&& (255 : Int32)) = (244 : Int32) then (143 : Int32) else (191 : Int32))), .val (.int (b1 &&& (255 : Int32))), .unset] [(.int (if (b0 &&& (255 : Int32)) = (244 : Int32) then (143 : Int32) else (191 : Int32))), (.int (b1 &&& (255 : Int32)))])) _
                  refine XS.icmpNo X0.here hx rfl (hb hby d1_180) rfl (tlt hc27).2.2.2 ?_
                  show Steps p.tables e below (s₁.setTop (mkF m 183 #[.val (.ref o0), .val (.int p1), .val (.int p2), .val (.int (b0 &&& (255 : Int32))), .val (.int (4 : Int32)), .val (.int (if (b0 &&& (255 : Int32)) = (240 : Int32) then (144 : Int32) else (128 : Int32))), .val (.int (if (b0 &&& (255 : Int32)) = (244 : Int32) then (143 : Int32) else (191 : Int32))), .val (.int (b1 &&& (255 : Int32))), .unset] [])) _
                  refine XS.iconst X0.here hx rfl (hb hby d1_183) ?_
                  exact k)
                obtain ⟨fs, hr, hrun, hended, hW, hsame⟩ := X0.leave (v := some (.int (-1 : Int32))) (fun h => by rw [Bd.returns] at h; cases h)
                refine ⟨_, _, go29 _ ?_, hrun, hended, _, _, rfl, ?_, ⟨_, rfl⟩, hW, hsame.mono (by decide) (by decide)⟩
                · exact own_retI X0 hx Bd.returns (hb hby d1_184) hr
                · show Q_rm1 Z o0 p1 p2 ka vs b0 b1 b2 b3 h0 n0 _ s₁.heap _
                  rw [e0]
                  exact ⟨by unfold own_len; simp only [if_pos hc3, if_pos hc5, if_neg hc7, if_neg hc10, if_neg hc19, if_neg hc24, if_pos hc27], N0, rfl⟩
              · skip
                have go31 := go28.step (C := s₁.setTop (mkF m 202 #[.val (.ref o0), .val (.int p1), .val (.int p2), .val (.int (b0 &&& (255 : Int32))), .val (.int (4 : Int32)), .val (.int (if (b0 &&& (255 : Int32)) = (240 : Int32) then (144 : Int32) else (128 : Int32))), .val (.int (if (b0 &&& (255 : Int32)) = (244 : Int32) then (143 : Int32) else (191 : Int32))), .val (.int (b1 &&& (255 : Int32))), .val (.int (p1 + (2 : Int32)))] [(.int (p1 + (2 : Int32))), (.ref o0)])) (fun t k => by
                  show Steps p.tables e below (s₁.setTop (mkF m 180 #[.val (.ref o0), .val (.int p1), .val (.int p2), .val (.int (b0 &&& (255 : Int32))), .val (.int (4 : Int32)), .val (.int (if (b0 &&& (255 : Int32)) = (240 : Int32) then (144 : Int32) else (128 : Int32))), .val (.int (if (b0 &&& (255 : Int32)) = (244 : Int32) then (143 : Int32) else (191 : Int32))), .val (.int (b1 &&& (255 : Int32))), .unset] [(.int (if (b0 &&& (255 : Int32)) = (244 : Int32) then (143 : Int32) else (191 : Int32))), (.int (b1 &&& (255 : Int32)))])) _
                  refine XS.icmpYes X0.here hx rfl (pc0 := 180) (pc' := 185) rfl (hb hby d1_180) rfl (flt hc27).2.2.2 (by decide) (by decide) ?_
                  show Steps p.tables e below (s₁.setTop (mkF m 185 #[.val (.ref o0), .val (.int p1), .val (.int p2), .val (.int (b0 &&& (255 : Int32))), .val (.int (4 : Int32)), .val (.int (if (b0 &&& (255 : Int32)) = (240 : Int32) then (144 : Int32) else (128 : Int32))), .val (.int (if (b0 &&& (255 : Int32)) = (244 : Int32) then (143 : Int32) else (191 : Int32))), .val (.int (b1 &&& (255 : Int32))), .unset] [])) _
                  refine XS.iloadN X0.here hx rfl (hb hby d1_185) rfl ?_
                  show Steps p.tables e below (s₁.setTop (mkF m 186 #[.val (.ref o0), .val (.int p1), .val (.int p2), .val (.int (b0 &&& (255 : Int32))), .val (.int (4 : Int32)), .val (.int (if (b0 &&& (255 : Int32)) = (240 : Int32) then (144 : Int32) else (128 : Int32))), .val (.int (if (b0 &&& (255 : Int32)) = (244 : Int32) then (143 : Int32) else (191 : Int32))), .val (.int (b1 &&& (255 : Int32))), .unset] [(.int p1)])) _
                  refine XS.iconst X0.here hx rfl (hb hby d1_186) ?_
                  show Steps p.tables e below (s₁.setTop (mkF m 187 #[.val (.ref o0), .val (.int p1), .val (.int p2), .val (.int (b0 &&& (255 : Int32))), .val (.int (4 : Int32)), .val (.int (if (b0 &&& (255 : Int32)) = (240 : Int32) then (144 : Int32) else (128 : Int32))), .val (.int (if (b0 &&& (255 : Int32)) = (244 : Int32) then (143 : Int32) else (191 : Int32))), .val (.int (b1 &&& (255 : Int32))), .unset] [(.int (2 : Int32)), (.int p1)])) _
                  refine XS.iadd X0.here hx rfl (hb hby d1_187) rfl ?_
                  show Steps p.tables e below (s₁.setTop (mkF m 188 #[.val (.ref o0), .val (.int p1), .val (.int p2), .val (.int (b0 &&& (255 : Int32))), .val (.int (4 : Int32)), .val (.int (if (b0 &&& (255 : Int32)) = (240 : Int32) then (144 : Int32) else (128 : Int32))), .val (.int (if (b0 &&& (255 : Int32)) = (244 : Int32) then (143 : Int32) else (191 : Int32))), .val (.int (b1 &&& (255 : Int32))), .unset] [(.int (p1 + (2 : Int32)))])) _
                  refine XS.istore X0.here hx rfl (hb hby d1_188) rfl (l' := #[.val (.ref o0), .val (.int p1), .val (.int p2), .val (.int (b0 &&& (255 : Int32))), .val (.int (4 : Int32)), .val (.int (if (b0 &&& (255 : Int32)) = (240 : Int32) then (144 : Int32) else (128 : Int32))), .val (.int (if (b0 &&& (255 : Int32)) = (244 : Int32) then (143 : Int32) else (191 : Int32))), .val (.int (b1 &&& (255 : Int32))), .val (.int (p1 + (2 : Int32)))]) rfl ?_
                  show Steps p.tables e below (s₁.setTop (mkF m 190 #[.val (.ref o0), .val (.int p1), .val (.int p2), .val (.int (b0 &&& (255 : Int32))), .val (.int (4 : Int32)), .val (.int (if (b0 &&& (255 : Int32)) = (240 : Int32) then (144 : Int32) else (128 : Int32))), .val (.int (if (b0 &&& (255 : Int32)) = (244 : Int32) then (143 : Int32) else (191 : Int32))), .val (.int (b1 &&& (255 : Int32))), .val (.int (p1 + (2 : Int32)))] [])) _
                  refine XS.iload X0.here hx rfl (hb hby d1_190) rfl ?_
                  show Steps p.tables e below (s₁.setTop (mkF m 192 #[.val (.ref o0), .val (.int p1), .val (.int p2), .val (.int (b0 &&& (255 : Int32))), .val (.int (4 : Int32)), .val (.int (if (b0 &&& (255 : Int32)) = (240 : Int32) then (144 : Int32) else (128 : Int32))), .val (.int (if (b0 &&& (255 : Int32)) = (244 : Int32) then (143 : Int32) else (191 : Int32))), .val (.int (b1 &&& (255 : Int32))), .val (.int (p1 + (2 : Int32)))] [(.int (p1 + (2 : Int32)))])) _
                  refine XS.iloadN X0.here hx rfl (hb hby d1_192) rfl ?_
                  show Steps p.tables e below (s₁.setTop (mkF m 193 #[.val (.ref o0), .val (.int p1), .val (.int p2), .val (.int (b0 &&& (255 : Int32))), .val (.int (4 : Int32)), .val (.int (if (b0 &&& (255 : Int32)) = (240 : Int32) then (144 : Int32) else (128 : Int32))), .val (.int (if (b0 &&& (255 : Int32)) = (244 : Int32) then (143 : Int32) else (191 : Int32))), .val (.int (b1 &&& (255 : Int32))), .val (.int (p1 + (2 : Int32)))] [(.int p1), (.int (p1 + (2 : Int32)))])) _
                  refine XS.iload X0.here hx rfl (hb hby d1_193) rfl ?_
                  show Steps p.tables e below (s₁.setTop (mkF m 195 #[.val (.ref o0), .val (.int p1), .val (.int p2), .val (.int (b0 &&& (255 : Int32))), .val (.int (4 : Int32)), .val (.int (if (b0 &&& (255 : Int32)) = (240 : Int32) then (144 : Int32) else (128 : Int32))), .val (.int (if (b0 &&& (255 : Int32)) = (244 : Int32) then (143 : Int32) else (191 : Int32))), .val (.int (b1 &&& (255 : Int32))), .val (.int (p1 + (2 : Int32)))] [(.int (4 : Int32)), (.int p1), (.int (p1 + (2 : Int32)))])) _
                  refine XS.iadd X0.here hx rfl (hb hby d1_195) rfl ?_
                  show Steps p.tables e below (s₁.setTop (mkF m 196 #[.val (.ref o0), .val (.int p1), .val (.int p2), .val (.int (b0 &&& (255 : Int32))), .val (.int (4 : Int32)), .val (.int (if (b0 &&& (255 : Int32)) = (240 : Int32) then (144 : Int32) else (128 : Int32))), .val (.int (if (b0 &&& (255 : Int32)) = (244 : Int32) then (143 : Int32) else (191 : Int32))), .val (.int (b1 &&& (255 : Int32))), .val (.int (p1 + (2 : Int32)))] [(.int (p1 + (4 : Int32))), (.int (p1 + (2 : Int32)))])) _
                  refine XS.icmpNo X0.here hx rfl (hb hby d1_196) rfl (tlt (own_b0_4 hvs.p : (p1 + (2 : Int32)) < (p1 + (4 : Int32)))).2.1 ?_
                  show Steps p.tables e below (s₁.setTop (mkF m 199 #[.val (.ref o0), .val (.int p1), .val (.int p2), .val (.int (b0 &&& (255 : Int32))), .val (.int (4 : Int32)), .val (.int (if (b0 &&& (255 : Int32)) = (240 : Int32) then (144 : Int32) else (128 : Int32))), .val (.int (if (b0 &&& (255 : Int32)) = (244 : Int32) then (143 : Int32) else (191 : Int32))), .val (.int (b1 &&& (255 : Int32))), .val (.int (p1 + (2 : Int32)))] [])) _
                  refine XS.aloadN X0.here hx rfl (hb hby d1_199) rfl rfl ?_
                  show Steps p.tables e below (s₁.setTop (mkF m 200 #[.val (.ref o0), .val (.int p1), .val (.int p2), .val (.int (b0 &&& (255 : Int32))), .val (.int (4 : Int32)), .val (.int (if (b0 &&& (255 : Int32)) = (240 : Int32) then (144 : Int32) else (128 : Int32))), .val (.int (if (b0 &&& (255 : Int32)) = (244 : Int32) then (143 : Int32) else (191 : Int32))), .val (.int (b1 &&& (255 : Int32))), .val (.int (p1 + (2 : Int32)))] [(.ref o0)])) _
                  refine XS.iload X0.here hx rfl (hb hby d1_200) rfl ?_
                  exact k)
                have Vo32 := V0
                obtain ⟨cl32, Ar32, qa32, Sa32, Na32, Ha32, Ga32⟩ := Vo32
                have hin32 : ¬ ((p1 + (2 : Int32)) < 0 ∨ cl32.slots.size ≤ ((p1 + (2 : Int32))).toNatClampNeg) := inb_of Sa32 (own_r2 hvs).1
                have hat32 : cl32.slots[((p1 + (2 : Int32))).toNatClampNeg]? = some (.int b2) := Has.at Ha32 hin32 (own_r2 hvs).2
                have go34 := go31.step (C := s₁.setTop (mkF m 210 #[.val (.ref o0), .val (.int p1), .val (.int p2), .val (.int (b0 &&& (255 : Int32))), .val (.int (4 : Int32)), .val (.int (if (b0 &&& (255 : Int32)) = (240 : Int32) then (144 : Int32) else (128 : Int32))), .val (.int (if (b0 &&& (255 : Int32)) = (244 : Int32) then (143 : Int32) else (191 : Int32))), .val (.int (b1 &&& (255 : Int32))), .val (.int (p1 + (2 : Int32)))] [(.int (128 : Int32)), (.int (b2 &&& (192 : Int32)))])) (fun t k => by
                  show Steps p.tables e below (s₁.setTop (mkF m 202 #[.val (.ref o0), .val (.int p1), .val (.int p2), .val (.int (b0 &&& (255 : Int32))), .val (.int (4 : Int32)), .val (.int (if (b0 &&& (255 : Int32)) = (240 : Int32) then (144 : Int32) else (128 : Int32))), .val (.int (if (b0 &&& (255 : Int32)) = (244 : Int32) then (143 : Int32) else (191 : Int32))), .val (.int (b1 &&& (255 : Int32))), .val (.int (p1 + (2 : Int32)))] [(.int (p1 + (2 : Int32))), (.ref o0)])) _
                  refine X0.baloadBytes hx (j := (p1 + (2 : Int32))) (v := (.int b2)) (by rw [e0]; exact Ar32.1) (State.isArrayOf_alike hZ.alike Ar32.2.1) Ar32.2.2 hin32 hat32 (g := (mkF m 202 #[.val (.ref o0), .val (.int p1), .val (.int p2), .val (.int (b0 &&& (255 : Int32))), .val (.int (4 : Int32)), .val (.int (if (b0 &&& (255 : Int32)) = (240 : Int32) then (144 : Int32) else (128 : Int32))), .val (.int (if (b0 &&& (255 : Int32)) = (244 : Int32) then (143 : Int32) else (191 : Int32))), .val (.int (b1 &&& (255 : Int32))), .val (.int (p1 + (2 : Int32)))] [(.int (p1 + (2 : Int32))), (.ref o0)])) rfl rfl (hb hby d1_202) _ ?_
                  show Steps p.tables e below (s₁.setTop (mkF m 203 #[.val (.ref o0), .val (.int p1), .val (.int p2), .val (.int (b0 &&& (255 : Int32))), .val (.int (4 : Int32)), .val (.int (if (b0 &&& (255 : Int32)) = (240 : Int32) then (144 : Int32) else (128 : Int32))), .val (.int (if (b0 &&& (255 : Int32)) = (244 : Int32) then (143 : Int32) else (191 : Int32))), .val (.int (b1 &&& (255 : Int32))), .val (.int (p1 + (2 : Int32)))] [(.int b2)])) _
                  refine XS.sipush X0.here hx rfl (hb hby d1_203) ?_
                  show Steps p.tables e below (s₁.setTop (mkF m 206 #[.val (.ref o0), .val (.int p1), .val (.int p2), .val (.int (b0 &&& (255 : Int32))), .val (.int (4 : Int32)), .val (.int (if (b0 &&& (255 : Int32)) = (240 : Int32) then (144 : Int32) else (128 : Int32))), .val (.int (if (b0 &&& (255 : Int32)) = (244 : Int32) then (143 : Int32) else (191 : Int32))), .val (.int (b1 &&& (255 : Int32))), .val (.int (p1 + (2 : Int32)))] [(.int (192 : Int32)), (.int b2)])) _
                  refine XS.iand X0.here hx rfl (hb hby d1_206) rfl ?_
                  show Steps p.tables e below (s₁.setTop (mkF m 207 #[.val (.ref o0), .val (.int p1), .val (.int p2), .val (.int (b0 &&& (255 : Int32))), .val (.int (4 : Int32)), .val (.int (if (b0 &&& (255 : Int32)) = (240 : Int32) then (144 : Int32) else (128 : Int32))), .val (.int (if (b0 &&& (255 : Int32)) = (244 : Int32) then (143 : Int32) else (191 : Int32))), .val (.int (b1 &&& (255 : Int32))), .val (.int (p1 + (2 : Int32)))] [(.int (b2 &&& (192 : Int32)))])) _
                  refine XS.sipush X0.here hx rfl (hb hby d1_207) ?_
                  exact k)
                by_cases hc33 : (b2 &&& (192 : Int32)) = (128 : Int32)
                · skip
                  have go36 := go34.step (C := s₁.setTop (mkF m 202 #[.val (.ref o0), .val (.int p1), .val (.int p2), .val (.int (b0 &&& (255 : Int32))), .val (.int (4 : Int32)), .val (.int (if (b0 &&& (255 : Int32)) = (240 : Int32) then (144 : Int32) else (128 : Int32))), .val (.int (if (b0 &&& (255 : Int32)) = (244 : Int32) then (143 : Int32) else (191 : Int32))), .val (.int (b1 &&& (255 : Int32))), .val (.int ((p1 + (2 : Int32)) + (1 : Int32)))] [(.int ((p1 + (2 : Int32)) + (1 : Int32))), (.ref o0)])) (fun t k => by
                    show Steps p.tables e below (s₁.setTop (mkF m 210 #[.val (.ref o0), .val (.int p1), .val (.int p2), .val (.int (b0 &&& (255 : Int32))), .val (.int (4 : Int32)), .val (.int (if (b0 &&& (255 : Int32)) = (240 : Int32) then (144 : Int32) else (128 : Int32))), .val (.int (if (b0 &&& (255 : Int32)) = (244 : Int32) then (143 : Int32) else (191 : Int32))), .val (.int (b1 &&& (255 : Int32))), .val (.int (p1 + (2 : Int32)))] [(.int (128 : Int32)), (.int (b2 &&& (192 : Int32)))])) _
                    refine XS.icmpYes X0.here hx rfl (pc0 := 210) (pc' := 215) rfl (hb hby d1_210) rfl (teq hc33).1 (by decide) (by decide) ?_
                    show Steps p.tables e below (s₁.setTop (mkF m 215 #[.val (.ref o0), .val (.int p1), .val (.int p2), .val (.int (b0 &&& (255 : Int32))), .val (.int (4 : Int32)), .val (.int (if (b0 &&& (255 : Int32)) = (240 : Int32) then (144 : Int32) else (128 : Int32))), .val (.int (if (b0 &&& (255 : Int32)) = (244 : Int32) then (143 : Int32) else (191 : Int32))), .val (.int (b1 &&& (255 : Int32))), .val (.int (p1 + (2 : Int32)))] [])) _
                    refine XS.iinc X0.here hx rfl (hb hby d1_215) rfl (l' := #[.val (.ref o0), .val (.int p1), .val (.int p2), .val (.int (b0 &&& (255 : Int32))), .val (.int (4 : Int32)), .val (.int (if (b0 &&& (255 : Int32)) = (240 : Int32) then (144 : Int32) else (128 : Int32))), .val (.int (if (b0 &&& (255 : Int32)) = (244 : Int32) then (143 : Int32) else (191 : Int32))), .val (.int (b1 &&& (255 : Int32))), .val (.int ((p1 + (2 : Int32)) + (1 : Int32)))]) rfl ?_
                    show Steps p.tables e below (s₁.setTop (mkF m 218 #[.val (.ref o0), .val (.int p1), .val (.int p2), .val (.int (b0 &&& (255 : Int32))), .val (.int (4 : Int32)), .val (.int (if (b0 &&& (255 : Int32)) = (240 : Int32) then (144 : Int32) else (128 : Int32))), .val (.int (if (b0 &&& (255 : Int32)) = (244 : Int32) then (143 : Int32) else (191 : Int32))), .val (.int (b1 &&& (255 : Int32))), .val (.int ((p1 + (2 : Int32)) + (1 : Int32)))] [])) _
                    refine XS.goto X0.here hx rfl (pc0 := 218) (pc' := 190) rfl (hb hby d1_218) (by decide) (by decide) ?_
                    show Steps p.tables e below (s₁.setTop (mkF m 190 #[.val (.ref o0), .val (.int p1), .val (.int p2), .val (.int (b0 &&& (255 : Int32))), .val (.int (4 : Int32)), .val (.int (if (b0 &&& (255 : Int32)) = (240 : Int32) then (144 : Int32) else (128 : Int32))), .val (.int (if (b0 &&& (255 : Int32)) = (244 : Int32) then (143 : Int32) else (191 : Int32))), .val (.int (b1 &&& (255 : Int32))), .val (.int ((p1 + (2 : Int32)) + (1 : Int32)))] [])) _
                    refine XS.iload X0.here hx rfl (hb hby d1_190) rfl ?_
                    show Steps p.tables e below (s₁.setTop (mkF m 192 #[.val (.ref o0), .val (.int p1), .val (.int p2), .val (.int (b0 &&& (255 : Int32))), .val (.int (4 : Int32)), .val (.int (if (b0 &&& (255 : Int32)) = (240 : Int32) then (144 : Int32) else (128 : Int32))), .val (.int (if (b0 &&& (255 : Int32)) = (244 : Int32) then (143 : Int32) else (191 : Int32))), .val (.int (b1 &&& (255 : Int32))), .val (.int ((p1 + (2 : Int32)) + (1 : Int32)))] [(.int ((p1 + (2 : Int32)) + (1 : Int32)))])) _
                    refine XS.iloadN X0.here hx rfl (hb hby d1_192) rfl ?_
                    show Steps p.tables e below (s₁.setTop (mkF m 193 #[.val (.ref o0), .val (.int p1), .val (.int p2), .val (.int (b0 &&& (255 : Int32))), .val (.int (4 : Int32)), .val (.int (if (b0 &&& (255 : Int32)) = (240 : Int32) then (144 : Int32) else (128 : Int32))), .val (.int (if (b0 &&& (255 : Int32)) = (244 : Int32) then (143 : Int32) else (191 : Int32))), .val (.int (b1 &&& (255 : Int32))), .val (.int ((p1 + (2 : Int32)) + (1 : Int32)))] [(.int p1), (.int ((p1 + (2 : Int32)) + (1 : Int32)))])) _
                    refine XS.iload X0.here hx rfl (hb hby d1_193) rfl ?_
                    show Steps p.tables e below (s₁.setTop (mkF m 195 #[.val (.ref o0), .val (.int p1), .val (.int p2), .val (.int (b0 &&& (255 : Int32))), .val (.int (4 : Int32)), .val (.int (if (b0 &&& (255 : Int32)) = (240 : Int32) then (144 : Int32) else (128 : Int32))), .val (.int (if (b0 &&& (255 : Int32)) = (244 : Int32) then (143 : Int32) else (191 : Int32))), .val (.int (b1 &&& (255 : Int32))), .val (.int ((p1 + (2 : Int32)) + (1 : Int32)))] [(.int (4 : Int32)), (.int p1), (.int ((p1 + (2 : Int32)) + (1 : Int32)))])) _
                    refine XS.iadd X0.here hx rfl (hb hby d1_195) rfl ?_
                    show Steps p.tables e below (s₁.setTop (mkF m 196 #[.val (.ref o0), .val (.int p1), .val (.int p2), .val (.int (b0 &&& (255 : Int32))), .val (.int (4 : Int32)), .val (.int (if (b0 &&& (255 : Int32)) = (240 : Int32) then (144 : Int32) else (128 : Int32))), .val (.int (if (b0 &&& (255 : Int32)) = (244 : Int32) then (143 : Int32) else (191 : Int32))), .val (.int (b1 &&& (255 : Int32))), .val (.int ((p1 + (2 : Int32)) + (1 : Int32)))] [(.int (p1 + (4 : Int32))), (.int ((p1 + (2 : Int32)) + (1 : Int32)))])) _
                    refine XS.icmpNo X0.here hx rfl (hb hby d1_196) rfl (tlt (own_b1_4 hvs.p : ((p1 + (2 : Int32)) + (1 : Int32)) < (p1 + (4 : Int32)))).2.1 ?_
                    show Steps p.tables e below (s₁.setTop (mkF m 199 #[.val (.ref o0), .val (.int p1), .val (.int p2), .val (.int (b0 &&& (255 : Int32))), .val (.int (4 : Int32)), .val (.int (if (b0 &&& (255 : Int32)) = (240 : Int32) then (144 : Int32) else (128 : Int32))), .val (.int (if (b0 &&& (255 : Int32)) = (244 : Int32) then (143 : Int32) else (191 : Int32))), .val (.int (b1 &&& (255 : Int32))), .val (.int ((p1 + (2 : Int32)) + (1 : Int32)))] [])) _
                    refine XS.aloadN X0.here hx rfl (hb hby d1_199) rfl rfl ?_
                    show Steps p.tables e below (s₁.setTop (mkF m 200 #[.val (.ref o0), .val (.int p1), .val (.int p2), .val (.int (b0 &&& (255 : Int32))), .val (.int (4 : Int32)), .val (.int (if (b0 &&& (255 : Int32)) = (240 : Int32) then (144 : Int32) else (128 : Int32))), .val (.int (if (b0 &&& (255 : Int32)) = (244 : Int32) then (143 : Int32) else (191 : Int32))), .val (.int (b1 &&& (255 : Int32))), .val (.int ((p1 + (2 : Int32)) + (1 : Int32)))] [(.ref o0)])) _
                    refine XS.iload X0.here hx rfl (hb hby d1_200) rfl ?_
                    exact k)
                  have Vo37 := V0
                  obtain ⟨cl37, Ar37, qa37, Sa37, Na37, Ha37, Ga37⟩ := Vo37
                  have hin37 : ¬ (((p1 + (2 : Int32)) + (1 : Int32)) < 0 ∨ cl37.slots.size ≤ (((p1 + (2 : Int32)) + (1 : Int32))).toNatClampNeg) := inb_of Sa37 (own_r3 hvs).1
                  have hat37 : cl37.slots[(((p1 + (2 : Int32)) + (1 : Int32))).toNatClampNeg]? = some (.int b3) := Has.at Ha37 hin37 (own_r3 hvs).2
                  have go39 := go36.step (C := s₁.setTop (mkF m 210 #[.val (.ref o0), .val (.int p1), .val (.int p2), .val (.int (b0 &&& (255 : Int32))), .val (.int (4 : Int32)), .val (.int (if (b0 &&& (255 : Int32)) = (240 : Int32) then (144 : Int32) else (128 : Int32))), .val (.int (if (b0 &&& (255 : Int32)) = (244 : Int32) then (143 : Int32) else (191 : Int32))), .val (.int (b1 &&& (255 : Int32))), .val (.int ((p1 + (2 : Int32)) + (1 : Int32)))] [(.int (128 : Int32)), (.int (b3 &&& (192 : Int32)))])) (fun t k => by
                    show Steps p.tables e below (s₁.setTop (mkF m 202 #[.val (.ref o0), .val (.int p1), .val (.int p2), .val (.int (b0 &&& (255 : Int32))), .val (.int (4 : Int32)), .val (.int (if (b0 &&& (255 : Int32)) = (240 : Int32) then (144 : Int32) else (128 : Int32))), .val (.int (if (b0 &&& (255 : Int32)) = (244 : Int32) then (143 : Int32) else (191 : Int32))), .val (.int (b1 &&& (255 : Int32))), .val (.int ((p1 + (2 : Int32)) + (1 : Int32)))] [(.int ((p1 + (2 : Int32)) + (1 : Int32))), (.ref o0)])) _
                    refine X0.baloadBytes hx (j := ((p1 + (2 : Int32)) + (1 : Int32))) (v := (.int b3)) (by rw [e0]; exact Ar37.1) (State.isArrayOf_alike hZ.alike Ar37.2.1) Ar37.2.2 hin37 hat37 (g := (mkF m 202 #[.val (.ref o0), .val (.int p1), .val (.int p2), .val (.int (b0 &&& (255 : Int32))), .val (.int (4 : Int32)), .val (.int (if (b0 &&& (255 : Int32)) = (240 : Int32) then (144 : Int32) else (128 : Int32))), .val (.int (if (b0 &&& (255 : Int32)) = (244 : Int32) then (143 : Int32) else (191 : Int32))), .val (.int (b1 &&& (255 : Int32))), .val (.int ((p1 + (2 : Int32)) + (1 : Int32)))] [(.int ((p1 + (2 : Int32)) + (1 : Int32))), (.ref o0)])) rfl rfl (hb hby d1_202) _ ?_
                    show Steps p.tables e below (s₁.setTop (mkF m 203 #[.val (.ref o0), .val (.int p1), .val (.int p2), .val (.int (b0 &&& (255 : Int32))), .val (.int (4 : Int32)), .val (.int (if (b0 &&& (255 : Int32)) = (240 : Int32) then (144 : Int32) else (128 : Int32))), .val (.int (if (b0 &&& (255 : Int32)) = (244 : Int32) then (143 : Int32) else (191 : Int32))), .val (.int (b1 &&& (255 : Int32))), .val (.int ((p1 + (2 : Int32)) + (1 : Int32)))] [(.int b3)])) _
                    refine XS.sipush X0.here hx rfl (hb hby d1_203) ?_
                    show Steps p.tables e below (s₁.setTop (mkF m 206 #[.val (.ref o0), .val (.int p1), .val (.int p2), .val (.int (b0 &&& (255 : Int32))), .val (.int (4 : Int32)), .val (.int (if (b0 &&& (255 : Int32)) = (240 : Int32) then (144 : Int32) else (128 : Int32))), .val (.int (if (b0 &&& (255 : Int32)) = (244 : Int32) then (143 : Int32) else (191 : Int32))), .val (.int (b1 &&& (255 : Int32))), .val (.int ((p1 + (2 : Int32)) + (1 : Int32)))] [(.int (192 : Int32)), (.int b3)])) _
                    refine XS.iand X0.here hx rfl (hb hby d1_206) rfl ?_
                    show Steps p.tables e below (s₁.setTop (mkF m 207 #[.val (.ref o0), .val (.int p1), .val (.int p2), .val (.int (b0 &&& (255 : Int32))), .val (.int (4 : Int32)), .val (.int (if (b0 &&& (255 : Int32)) = (240 : Int32) then (144 : Int32) else (128 : Int32))), .val (.int (if (b0 &&& (255 : Int32)) = (244 : Int32) then (143 : Int32) else (191 : Int32))), .val (.int (b1 &&& (255 : Int32))), .val (.int ((p1 + (2 : Int32)) + (1 : Int32)))] [(.int (b3 &&& (192 : Int32)))])) _
                    refine XS.sipush X0.here hx rfl (hb hby d1_207) ?_
                    exact k)
                  by_cases hc38 : (b3 &&& (192 : Int32)) = (128 : Int32)
                  · skip
                    have go41 := go39.step (C := s₁.setTop (mkF m 223 #[.val (.ref o0), .val (.int p1), .val (.int p2), .val (.int (b0 &&& (255 : Int32))), .val (.int (4 : Int32)), .val (.int (if (b0 &&& (255 : Int32)) = (240 : Int32) then (144 : Int32) else (128 : Int32))), .val (.int (if (b0 &&& (255 : Int32)) = (244 : Int32) then (143 : Int32) else (191 : Int32))), .val (.int (b1 &&& (255 : Int32))), .val (.int (((p1 + (2 : Int32)) + (1 : Int32)) + (1 : Int32)))] [(.int (4 : Int32))])) (fun t k => by
                      show Steps p.tables e below (s₁.setTop (mkF m 210 #[.val (.ref o0), .val (.int p1), .val (.int p2), .val (.int (b0 &&& (255 : Int32))), .val (.int (4 : Int32)), .val (.int (if (b0 &&& (255 : Int32)) = (240 : Int32) then (144 : Int32) else (128 : Int32))), .val (.int (if (b0 &&& (255 : Int32)) = (244 : Int32) then (143 : Int32) else (191 : Int32))), .val (.int (b1 &&& (255 : Int32))), .val (.int ((p1 + (2 : Int32)) + (1 : Int32)))] [(.int (128 : Int32)), (.int (b3 &&& (192 : Int32)))])) _
                      refine XS.icmpYes X0.here hx rfl (pc0 := 210) (pc' := 215) rfl (hb hby d1_210) rfl (teq hc38).1 (by decide) (by decide) ?_
                      show Steps p.tables e below (s₁.setTop (mkF m 215 #[.val (.ref o0), .val (.int p1), .val (.int p2), .val (.int (b0 &&& (255 : Int32))), .val (.int (4 : Int32)), .val (.int (if (b0 &&& (255 : Int32)) = (240 : Int32) then (144 : Int32) else (128 : Int32))), .val (.int (if (b0 &&& (255 : Int32)) = (244 : Int32) then (143 : Int32) else (191 : Int32))), .val (.int (b1 &&& (255 : Int32))), .val (.int ((p1 + (2 : Int32)) + (1 : Int32)))] [])) _
                      refine XS.iinc X0.here hx rfl (hb hby d1_215) rfl (l' := #[.val (.ref o0), .val (.int p1), .val (.int p2), .val (.int (b0 &&& (255 : Int32))), .val (.int (4 : Int32)), .val (.int (if (b0 &&& (255 : Int32)) = (240 : Int32) then (144 : Int32) else (128 : Int32))), .val (.int (if (b0 &&& (255 : Int32)) = (244 : Int32) then (143 : Int32) else (191 : Int32))), .val (.int (b1 &&& (255 : Int32))), .val (.int (((p1 + (2 : Int32)) + (1 : Int32)) + (1 : Int32)))]) rfl ?_
                      show Steps p.tables e below (s₁.setTop (mkF m 218 #[.val (.ref o0), .val (.int p1), .val (.int p2), .val (.int (b0 &&& (255 : Int32))), .val (.int (4 : Int32)), .val (.int (if (b0 &&& (255 : Int32)) = (240 : Int32) then (144 : Int32) else (128 : Int32))), .val (.int (if (b0 &&& (255 : Int32)) = (244 : Int32) then (143 : Int32) else (191 : Int32))), .val (.int (b1 &&& (255 : Int32))), .val (.int (((p1 + (2 : Int32)) + (1 : Int32)) + (1 : Int32)))] [])) _
                      refine XS.goto X0.here hx rfl (pc0 := 218) (pc' := 190) rfl (hb hby d1_218) (by decide) (by decide) ?_
                      show Steps p.tables e below (s₁.setTop (mkF m 190 #[.val (.ref o0), .val (.int p1), .val (.int p2), .val (.int (b0 &&& (255 : Int32))), .val (.int (4 : Int32)), .val (.int (if (b0 &&& (255 : Int32)) = (240 : Int32) then (144 : Int32) else (128 : Int32))), .val (.int (if (b0 &&& (255 : Int32)) = (244 : Int32) then (143 : Int32) else (191 : Int32))), .val (.int (b1 &&& (255 : Int32))), .val (.int (((p1 + (2 : Int32)) + (1 : Int32)) + (1 : Int32)))] [])) _
                      refine XS.iload X0.here hx rfl (hb hby d1_190) rfl ?_
                      show Steps p.tables e below (s₁.setTop (mkF m 192 #[.val (.ref o0), .val (.int p1), .val (.int p2), .val (.int (b0 &&& (255 : Int32))), .val (.int (4 : Int32)), .val (.int (if (b0 &&& (255 : Int32)) = (240 : Int32) then (144 : Int32) else (128 : Int32))), .val (.int (if (b0 &&& (255 : Int32)) = (244 : Int32) then (143 : Int32) else (191 : Int32))), .val (.int (b1 &&& (255 : Int32))), .val (.int (((p1 + (2 : Int32)) + (1 : Int32)) + (1 : Int32)))] [(.int (((p1 + (2 : Int32)) + (1 : Int32)) + (1 : Int32)))])) _
                      refine XS.iloadN X0.here hx rfl (hb hby d1_192) rfl ?_
                      show Steps p.tables e below (s₁.setTop (mkF m 193 #[.val (.ref o0), .val (.int p1), .val (.int p2), .val (.int (b0 &&& (255 : Int32))), .val (.int (4 : Int32)), .val (.int (if (b0 &&& (255 : Int32)) = (240 : Int32) then (144 : Int32) else (128 : Int32))), .val (.int (if (b0 &&& (255 : Int32)) = (244 : Int32) then (143 : Int32) else (191 : Int32))), .val (.int (b1 &&& (255 : Int32))), .val (.int (((p1 + (2 : Int32)) + (1 : Int32)) + (1 : Int32)))] [(.int p1), (.int (((p1 + (2 : Int32)) + (1 : Int32)) + (1 : Int32)))])) _
                      refine XS.iload X0.here hx rfl (hb hby d1_193) rfl ?_
                      show Steps p.tables e below (s₁.setTop (mkF m 195 #[.val (.ref o0), .val (.int p1), .val (.int p2), .val (.int (b0 &&& (255 : Int32))), .val (.int (4 : Int32)), .val (.int (if (b0 &&& (255 : Int32)) = (240 : Int32) then (144 : Int32) else (128 : Int32))), .val (.int (if (b0 &&& (255 : Int32)) = (244 : Int32) then (143 : Int32) else (191 : Int32))), .val (.int (b1 &&& (255 : Int32))), .val (.int (((p1 + (2 : Int32)) + (1 : Int32)) + (1 : Int32)))] [(.int (4 : Int32)), (.int p1), (.int (((p1 + (2 : Int32)) + (1 : Int32)) + (1 : Int32)))])) _
                      refine XS.iadd X0.here hx rfl (hb hby d1_195) rfl ?_
                      show Steps p.tables e below (s₁.setTop (mkF m 196 #[.val (.ref o0), .val (.int p1), .val (.int p2), .val (.int (b0 &&& (255 : Int32))), .val (.int (4 : Int32)), .val (.int (if (b0 &&& (255 : Int32)) = (240 : Int32) then (144 : Int32) else (128 : Int32))), .val (.int (if (b0 &&& (255 : Int32)) = (244 : Int32) then (143 : Int32) else (191 : Int32))), .val (.int (b1 &&& (255 : Int32))), .val (.int (((p1 + (2 : Int32)) + (1 : Int32)) + (1 : Int32)))] [(.int (p1 + (4 : Int32))), (.int (((p1 + (2 : Int32)) + (1 : Int32)) + (1 : Int32)))])) _
                      refine XS.icmpYes X0.here hx rfl (pc0 := 196) (pc' := 221) rfl (hb hby d1_196) rfl (flt (own_b2_4 hvs.p : ¬ ((((p1 + (2 : Int32)) + (1 : Int32)) + (1 : Int32)) < (p1 + (4 : Int32))))).2.1 (by decide) (by decide) ?_
                      show Steps p.tables e below (s₁.setTop (mkF m 221 #[.val (.ref o0), .val (.int p1), .val (.int p2), .val (.int (b0 &&& (255 : Int32))), .val (.int (4 : Int32)), .val (.int (if (b0 &&& (255 : Int32)) = (240 : Int32) then (144 : Int32) else (128 : Int32))), .val (.int (if (b0 &&& (255 : Int32)) = (244 : Int32) then (143 : Int32) else (191 : Int32))), .val (.int (b1 &&& (255 : Int32))), .val (.int (((p1 + (2 : Int32)) + (1 : Int32)) + (1 : Int32)))] [])) _
                      refine XS.iload X0.here hx rfl (hb hby d1_221) rfl ?_
                      exact k)
                    obtain ⟨fs, hr, hrun, hended, hW, hsame⟩ := X0.leave (v := some (.int (4 : Int32))) (fun h => by rw [Bd.returns] at h; cases h)
                    refine ⟨_, _, go41 _ ?_, hrun, hended, _, _, rfl, ?_, ⟨_, rfl⟩, hW, hsame.mono (by decide) (by decide)⟩
                    · exact own_retI X0 hx Bd.returns (hb hby d1_223) hr
                    · show Q_rm1 Z o0 p1 p2 ka vs b0 b1 b2 b3 h0 n0 _ s₁.heap _
                      rw [e0]
                      exact ⟨by unfold own_len; simp only [if_pos hc3, if_pos hc5, if_neg hc7, if_neg hc10, if_neg hc19, if_neg hc24, if_neg hc27, if_pos hc33, if_pos hc38], N0, rfl⟩
                  · skip
                    have go42 := go39.step (C := s₁.setTop (mkF m 214 #[.val (.ref o0), .val (.int p1), .val (.int p2), .val (.int (b0 &&& (255 : Int32))), .val (.int (4 : Int32)), .val (.int (if (b0 &&& (255 : Int32)) = (240 : Int32) then (144 : Int32) else (128 : Int32))), .val (.int (if (b0 &&& (255 : Int32)) = (244 : Int32) then (143 : Int32) else (191 : Int32))), .val (.int (b1 &&& (255 : Int32))), .val (.int ((p1 + (2 : Int32)) + (1 : Int32)))] [(.int (-1 : Int32))])) (fun t k => by
                      show Steps p.tables e below (s₁.setTop (mkF m 210 #[.val (.ref o0), .val (.int p1), .val (.int p2), .val (.int (b0 &&& (255 : Int32))), .val (.int (4 : Int32)), .val (.int (if (b0 &&& (255 : Int32)) = (240 : Int32) then (144 : Int32) else (128 : Int32))), .val (.int (if (b0 &&& (255 : Int32)) = (244 : Int32) then (143 : Int32) else (191 : Int32))), .val (.int (b1 &&& (255 : Int32))), .val (.int ((p1 + (2 : Int32)) + (1 : Int32)))] [(.int (128 : Int32)), (.int (b3 &&& (192 : Int32)))])) _
                      refine XS.icmpNo X0.here hx rfl (hb hby d1_210) rfl (feq hc38).1 ?_
                      show Steps p.tables e below (s₁.setTop (mkF m 213 #[.val (.ref o0), .val (.int p1), .val (.int p2), .val (.int (b0 &&& (255 : Int32))), .val (.int (4 : Int32)), .val (.int (if (b0 &&& (255 : Int32)) = (240 : Int32) then (144 : Int32) else (128 : Int32))), .val (.int (if (b0 &&& (255 : Int32)) = (244 : Int32) then (143 : Int32) else (191 : Int32))), .val (.int (b1 &&& (255 : Int32))), .val (.int ((p1 + (2 : Int32)) + (1 : Int32)))] [])) _
                      refine XS.iconst X0.here hx rfl (hb hby d1_213) ?_
                      exact k)
                    obtain ⟨fs, hr, hrun, hended, hW, hsame⟩ := X0.leave (v := some (.int (-1 : Int32))) (fun h => by rw [Bd.returns] at h; cases h)
                    refine ⟨_, _, go42 _ ?_, hrun, hended, _, _, rfl, ?_, ⟨_, rfl⟩, hW, hsame.mono (by decide) (by decide)⟩
                    · exact own_retI X0 hx Bd.returns (hb hby d1_214) hr
                    · show Q_rm1 Z o0 p1 p2 ka vs b0 b1 b2 b3 h0 n0 _ s₁.heap _
                      rw [e0]
                      exact ⟨by unfold own_len; simp only [if_pos hc3, if_pos hc5, if_neg hc7, if_neg hc10, if_neg hc19, if_neg hc24, if_neg hc27, if_pos hc33, if_neg hc38], N0, rfl⟩
                · skip
                  have go43 := go34.step (C := s₁.setTop (mkF m 214 #[.val (.ref o0), .val (.int p1), .val (.int p2), .val (.int (b0 &&& (255 : Int32))), .val (.int (4 : Int32)), .val (.int (if (b0 &&& (255 : Int32)) = (240 : Int32) then (144 : Int32) else (128 : Int32))), .val (.int (if (b0 &&& (255 : Int32)) = (244 : Int32) then (143 : Int32) else (191 : Int32))), .val (.int (b1 &&& (255 : Int32))), .val (.int (p1 + (2 : Int32)))] [(.int (-1 : Int32))])) (fun t k => by
                    show Steps p.tables e below (s₁.setTop (mkF m 210 #[.val (.ref o0), .val (.int p1), .val (.int p2), .val (.int (b0 &&& (255 : Int32))), .val (.int (4 : Int32)), .val (.int (if (b0 &&& (255 : Int32)) = (240 : Int32) then (144 : Int32) else (128 : Int32))), .val (.int (if (b0 &&& (255 : Int32)) = (244 : Int32) then (143 : Int32) else (191 : Int32))), .val (.int (b1 &&& (255 : Int32))), .val (.int (p1 + (2 : Int32)))] [(.int (128 : Int32)), (.int (b2 &&& (192 : Int32)))])) _
                    refine XS.icmpNo X0.here hx rfl (hb hby d1_210) rfl (feq hc33).1 ?_
                    show Steps p.tables e below (s₁.setTop (mkF m 213 #[.val (.ref o0), .val (.int p1), .val (.int p2), .val (.int (b0 &&& (255 : Int32))), .val (.int (4 : Int32)), .val (.int (if (b0 &&& (255 : Int32)) = (240 : Int32) then (144 : Int32) else (128 : Int32))), .val (.int (if (b0 &&& (255 : Int32)) = (244 : Int32) then (143 : Int32) else (191 : Int32))), .val (.int (b1 &&& (255 : Int32))), .val (.int (p1 + (2 : Int32)))] [])) _
                    refine XS.iconst X0.here hx rfl (hb hby d1_213) ?_
                    exact k)
                  obtain ⟨fs, hr, hrun, hended, hW, hsame⟩ := X0.leave (v := some (.int (-1 : Int32))) (fun h => by rw [Bd.returns] at h; cases h)
                  refine ⟨_, _, go43 _ ?_, hrun, hended, _, _, rfl, ?_, ⟨_, rfl⟩, hW, hsame.mono (by decide) (by decide)⟩
                  · exact own_retI X0 hx Bd.returns (hb hby d1_214) hr
                  · show Q_rm1 Z o0 p1 p2 ka vs b0 b1 b2 b3 h0 n0 _ s₁.heap _
                    rw [e0]
                    exact ⟨by unfold own_len; simp only [if_pos hc3, if_pos hc5, if_neg hc7, if_neg hc10, if_neg hc19, if_neg hc24, if_neg hc27, if_neg hc33], N0, rfl⟩
    · skip
      have go45 := go6.step (C := s₁.setTop (mkF m 49 #[.val (.ref o0), .val (.int p1), .val (.int p2), .val (.int (b0 &&& (255 : Int32))), .unset, .val (.int (128 : Int32)), .val (.int (191 : Int32)), .unset, .unset] [(.int (239 : Int32)), (.int (b0 &&& (255 : Int32)))])) (fun t k => by
        show Steps p.tables e below (s₁.setTop (mkF m 42 #[.val (.ref o0), .val (.int p1), .val (.int p2), .val (.int (b0 &&& (255 : Int32))), .unset, .val (.int (128 : Int32)), .val (.int (191 : Int32)), .unset, .unset] [(.int (224 : Int32)), (.int (b0 &&& (255 : Int32)))])) _
        refine XS.icmpNo X0.here hx rfl (hb hby d1_42) rfl (flt hc5).1 ?_
        show Steps p.tables e below (s₁.setTop (mkF m 45 #[.val (.ref o0), .val (.int p1), .val (.int p2), .val (.int (b0 &&& (255 : Int32))), .unset, .val (.int (128 : Int32)), .val (.int (191 : Int32)), .unset, .unset] [])) _
        refine XS.iloadN X0.here hx rfl (hb hby d1_45) rfl ?_
        show Steps p.tables e below (s₁.setTop (mkF m 46 #[.val (.ref o0), .val (.int p1), .val (.int p2), .val (.int (b0 &&& (255 : Int32))), .unset, .val (.int (128 : Int32)), .val (.int (191 : Int32)), .unset, .unset] [(.int (b0 &&& (255 : Int32)))])) _
        refine XS.sipush X0.here hx rfl (hb hby d1_46) ?_
        exact k)
      by_cases hc44 : (239 : Int32) < (b0 &&& (255 : Int32))
      · skip
        have go47 := go45.step (C := s₁.setTop (mkF m 96 #[.val (.ref o0), .val (.int p1), .val (.int p2), .val (.int (b0 &&& (255 : Int32))), .unset, .val (.int (128 : Int32)), .val (.int (191 : Int32)), .unset, .unset] [(.int (240 : Int32)), (.int (b0 &&& (255 : Int32)))])) (fun t k => by
          show Steps p.tables e below (s₁.setTop (mkF m 49 #[.val (.ref o0), .val (.int p1), .val (.int p2), .val (.int (b0 &&& (255 : Int32))), .unset, .val (.int (128 : Int32)), .val (.int (191 : Int32)), .unset, .unset] [(.int (239 : Int32)), (.int (b0 &&& (255 : Int32)))])) _
          refine XS.icmpYes X0.here hx rfl (pc0 := 49) (pc' := 92) rfl (hb hby d1_49) rfl (tlt hc44).2.2.1 (by decide) (by decide) ?_
          show Steps p.tables e below (s₁.setTop (mkF m 92 #[.val (.ref o0), .val (.int p1), .val (.int p2), .val (.int (b0 &&& (255 : Int32))), .unset, .val (.int (128 : Int32)), .val (.int (191 : Int32)), .unset, .unset] [])) _
          refine XS.iloadN X0.here hx rfl (hb hby d1_92) rfl ?_
          show Steps p.tables e below (s₁.setTop (mkF m 93 #[.val (.ref o0), .val (.int p1), .val (.int p2), .val (.int (b0 &&& (255 : Int32))), .unset, .val (.int (128 : Int32)), .val (.int (191 : Int32)), .unset, .unset] [(.int (b0 &&& (255 : Int32)))])) _
          refine XS.sipush X0.here hx rfl (hb hby d1_93) ?_
          exact k)
        by_cases hc46 : (b0 &&& (255 : Int32)) < (240 : Int32)
        · skip
          have go48 := go47.step (C := s₁.setTop (mkF m 147 #[.val (.ref o0), .val (.int p1), .val (.int p2), .val (.int (b0 &&& (255 : Int32))), .unset, .val (.int (128 : Int32)), .val (.int (191 : Int32)), .unset, .unset] [(.int (-1 : Int32))])) (fun t k => by
            show Steps p.tables e below (s₁.setTop (mkF m 96 #[.val (.ref o0), .val (.int p1), .val (.int p2), .val (.int (b0 &&& (255 : Int32))), .unset, .val (.int (128 : Int32)), .val (.int (191 : Int32)), .unset, .unset] [(.int (240 : Int32)), (.int (b0 &&& (255 : Int32)))])) _
            refine XS.icmpYes X0.here hx rfl (pc0 := 96) (pc' := 146) rfl (hb hby d1_96) rfl (tlt hc46).1 (by decide) (by decide) ?_
            show Steps p.tables e below (s₁.setTop (mkF m 146 #[.val (.ref o0), .val (.int p1), .val (.int p2), .val (.int (b0 &&& (255 : Int32))), .unset, .val (.int (128 : Int32)), .val (.int (191 : Int32)), .unset, .unset] [])) _
            refine XS.iconst X0.here hx rfl (hb hby d1_146) ?_
            exact k)
          obtain ⟨fs, hr, hrun, hended, hW, hsame⟩ := X0.leave (v := some (.int (-1 : Int32))) (fun h => by rw [Bd.returns] at h; cases h)
          refine ⟨_, _, go48 _ ?_, hrun, hended, _, _, rfl, ?_, ⟨_, rfl⟩, hW, hsame.mono (by decide) (by decide)⟩
          · exact own_retI X0 hx Bd.returns (hb hby d1_147) hr
          · show Q_rm1 Z o0 p1 p2 ka vs b0 b1 b2 b3 h0 n0 _ s₁.heap _
            rw [e0]
            exact ⟨by unfold own_len; simp only [if_pos hc3, if_neg hc5, if_pos hc44, if_pos hc46], N0, rfl⟩
        · skip
          have go50 := go47.step (C := s₁.setTop (mkF m 103 #[.val (.ref o0), .val (.int p1), .val (.int p2), .val (.int (b0 &&& (255 : Int32))), .unset, .val (.int (128 : Int32)), .val (.int (191 : Int32)), .unset, .unset] [(.int (244 : Int32)), (.int (b0 &&& (255 : Int32)))])) (fun t k => by
            show Steps p.tables e below (s₁.setTop (mkF m 96 #[.val (.ref o0), .val (.int p1), .val (.int p2), .val (.int (b0 &&& (255 : Int32))), .unset, .val (.int (128 : Int32)), .val (.int (191 : Int32)), .unset, .unset] [(.int (240 : Int32)), (.int (b0 &&& (255 : Int32)))])) _
            refine XS.icmpNo X0.here hx rfl (hb hby d1_96) rfl (flt hc46).1 ?_
            show Steps p.tables e below (s₁.setTop (mkF m 99 #[.val (.ref o0), .val (.int p1), .val (.int p2), .val (.int (b0 &&& (255 : Int32))), .unset, .val (.int (128 : Int32)), .val (.int (191 : Int32)), .unset, .unset] [])) _
            refine XS.iloadN X0.here hx rfl (hb hby d1_99) rfl ?_
            show Steps p.tables e below (s₁.setTop (mkF m 100 #[.val (.ref o0), .val (.int p1), .val (.int p2), .val (.int (b0 &&& (255 : Int32))), .unset, .val (.int (128 : Int32)), .val (.int (191 : Int32)), .unset, .unset] [(.int (b0 &&& (255 : Int32)))])) _
            refine XS.sipush X0.here hx rfl (hb hby d1_100) ?_
            exact k)
          by_cases hc49 : (244 : Int32) < (b0 &&& (255 : Int32))
          · skip
            have go51 := go50.step (C := s₁.setTop (mkF m 147 #[.val (.ref o0), .val (.int p1), .val (.int p2), .val (.int (b0 &&& (255 : Int32))), .unset, .val (.int (128 : Int32)), .val (.int (191 : Int32)), .unset, .unset] [(.int (-1 : Int32))])) (fun t k => by
              show Steps p.tables e below (s₁.setTop (mkF m 103 #[.val (.ref o0), .val (.int p1), .val (.int p2), .val (.int (b0 &&& (255 : Int32))), .unset, .val (.int (128 : Int32)), .val (.int (191 : Int32)), .unset, .unset] [(.int (244 : Int32)), (.int (b0 &&& (255 : Int32)))])) _
              refine XS.icmpYes X0.here hx rfl (pc0 := 103) (pc' := 146) rfl (hb hby d1_103) rfl (tlt hc49).2.2.1 (by decide) (by decide) ?_
              show Steps p.tables e below (s₁.setTop (mkF m 146 #[.val (.ref o0), .val (.int p1), .val (.int p2), .val (.int (b0 &&& (255 : Int32))), .unset, .val (.int (128 : Int32)), .val (.int (191 : Int32)), .unset, .unset] [])) _
              refine XS.iconst X0.here hx rfl (hb hby d1_146) ?_
              exact k)
            obtain ⟨fs, hr, hrun, hended, hW, hsame⟩ := X0.leave (v := some (.int (-1 : Int32))) (fun h => by rw [Bd.returns] at h; cases h)
            refine ⟨_, _, go51 _ ?_, hrun, hended, _, _, rfl, ?_, ⟨_, rfl⟩, hW, hsame.mono (by decide) (by decide)⟩
            · exact own_retI X0 hx Bd.returns (hb hby d1_147) hr
            · show Q_rm1 Z o0 p1 p2 ka vs b0 b1 b2 b3 h0 n0 _ s₁.heap _
              rw [e0]
              exact ⟨by unfold own_len; simp only [if_pos hc3, if_neg hc5, if_pos hc44, if_neg hc46, if_pos hc49], N0, rfl⟩
          · skip
            have go52 := go50.step (C := s₁.setTop (mkF m 113 #[.val (.ref o0), .val (.int p1), .val (.int p2), .val (.int (b0 &&& (255 : Int32))), .val (.int (4 : Int32)), .val (.int (128 : Int32)), .val (.int (191 : Int32)), .unset, .unset] [(.int (240 : Int32)), (.int (b0 &&& (255 : Int32)))])) (fun t k => by
              show Steps p.tables e below (s₁.setTop (mkF m 103 #[.val (.ref o0), .val (.int p1), .val (.int p2), .val (.int (b0 &&& (255 : Int32))), .unset, .val (.int (128 : Int32)), .val (.int (191 : Int32)), .unset, .unset] [(.int (244 : Int32)), (.int (b0 &&& (255 : Int32)))])) _
              refine XS.icmpNo X0.here hx rfl (hb hby d1_103) rfl (flt hc49).2.2.1 ?_
              show Steps p.tables e below (s₁.setTop (mkF m 106 #[.val (.ref o0), .val (.int p1), .val (.int p2), .val (.int (b0 &&& (255 : Int32))), .unset, .val (.int (128 : Int32)), .val (.int (191 : Int32)), .unset, .unset] [])) _
              refine XS.iconst X0.here hx rfl (hb hby d1_106) ?_
              show Steps p.tables e below (s₁.setTop (mkF m 107 #[.val (.ref o0), .val (.int p1), .val (.int p2), .val (.int (b0 &&& (255 : Int32))), .unset, .val (.int (128 : Int32)), .val (.int (191 : Int32)), .unset, .unset] [(.int (4 : Int32))])) _
              refine XS.istore X0.here hx rfl (hb hby d1_107) rfl (l' := #[.val (.ref o0), .val (.int p1), .val (.int p2), .val (.int (b0 &&& (255 : Int32))), .val (.int (4 : Int32)), .val (.int (128 : Int32)), .val (.int (191 : Int32)), .unset, .unset]) rfl ?_
              show Steps p.tables e below (s₁.setTop (mkF m 109 #[.val (.ref o0), .val (.int p1), .val (.int p2), .val (.int (b0 &&& (255 : Int32))), .val (.int (4 : Int32)), .val (.int (128 : Int32)), .val (.int (191 : Int32)), .unset, .unset] [])) _
              refine XS.iloadN X0.here hx rfl (hb hby d1_109) rfl ?_
              show Steps p.tables e below (s₁.setTop (mkF m 110 #[.val (.ref o0), .val (.int p1), .val (.int p2), .val (.int (b0 &&& (255 : Int32))), .val (.int (4 : Int32)), .val (.int (128 : Int32)), .val (.int (191 : Int32)), .unset, .unset] [(.int (b0 &&& (255 : Int32)))])) _
              refine XS.sipush X0.here hx rfl (hb hby d1_110) ?_
              exact k)
            have go54 := go52.step (C := s₁.setTop (mkF m 124 #[.val (.ref o0), .val (.int p1), .val (.int p2), .val (.int (b0 &&& (255 : Int32))), .val (.int (4 : Int32)), .val (.int (128 : Int32)), .val (.int (191 : Int32)), .unset, .unset] [(.int (if (b0 &&& (255 : Int32)) = (240 : Int32) then (144 : Int32) else (128 : Int32)))])) (fun t k => by
              by_cases hc53 : (b0 &&& (255 : Int32)) = (240 : Int32)
              · skip
                try simp only [if_pos hc53] at k
                show Steps p.tables e below (s₁.setTop (mkF m 113 #[.val (.ref o0), .val (.int p1), .val (.int p2), .val (.int (b0 &&& (255 : Int32))), .val (.int (4 : Int32)), .val (.int (128 : Int32)), .val (.int (191 : Int32)), .unset, .unset] [(.int (240 : Int32)), (.int (b0 &&& (255 : Int32)))])) _
                refine XS.icmpNo X0.here hx rfl (hb hby d1_113) rfl (teq hc53).2 ?_
                show Steps p.tables e below (s₁.setTop (mkF m 116 #[.val (.ref o0), .val (.int p1), .val (.int p2), .val (.int (b0 &&& (255 : Int32))), .val (.int (4 : Int32)), .val (.int (128 : Int32)), .val (.int (191 : Int32)), .unset, .unset] [])) _
                refine XS.sipush X0.here hx rfl (hb hby d1_116) ?_
                show Steps p.tables e below (s₁.setTop (mkF m 119 #[.val (.ref o0), .val (.int p1), .val (.int p2), .val (.int (b0 &&& (255 : Int32))), .val (.int (4 : Int32)), .val (.int (128 : Int32)), .val (.int (191 : Int32)), .unset, .unset] [(.int (144 : Int32))])) _
                refine XS.goto X0.here hx rfl (pc0 := 119) (pc' := 124) rfl (hb hby d1_119) (by decide) (by decide) ?_
                exact k
              · skip
                try simp only [if_neg hc53] at k
                show Steps p.tables e below (s₁.setTop (mkF m 113 #[.val (.ref o0), .val (.int p1), .val (.int p2), .val (.int (b0 &&& (255 : Int32))), .val (.int (4 : Int32)), .val (.int (128 : Int32)), .val (.int (191 : Int32)), .unset, .unset] [(.int (240 : Int32)), (.int (b0 &&& (255 : Int32)))])) _
                refine XS.icmpYes X0.here hx rfl (pc0 := 113) (pc' := 122) rfl (hb hby d1_113) rfl (feq hc53).2 (by decide) (by decide) ?_
                show Steps p.tables e below (s₁.setTop (mkF m 122 #[.val (.ref o0), .val (.int p1), .val (.int p2), .val (.int (b0 &&& (255 : Int32))), .val (.int (4 : Int32)), .val (.int (128 : Int32)), .val (.int (191 : Int32)), .unset, .unset] [])) _
                refine XS.iload X0.here hx rfl (hb hby d1_122) rfl ?_
                exact k
              )
            have go55 := go54.step (C := s₁.setTop (mkF m 130 #[.val (.ref o0), .val (.int p1), .val (.int p2), .val (.int (b0 &&& (255 : Int32))), .val (.int (4 : Int32)), .val (.int (if (b0 &&& (255 : Int32)) = (240 : Int32) then (144 : Int32) else (128 : Int32))), .val (.int (191 : Int32)), .unset, .unset] [(.int (244 : Int32)), (.int (b0 &&& (255 : Int32)))])) (fun t k => by
              show Steps p.tables e below (s₁.setTop (mkF m 124 #[.val (.ref o0), .val (.int p1), .val (.int p2), .val (.int (b0 &&& (255 : Int32))), .val (.int (4 : Int32)), .val (.int (128 : Int32)), .val (.int (191 : Int32)), .unset, .unset] [(.int (if (b0 &&& (255 : Int32)) = (240 : Int32) then (144 : Int32) else (128 : Int32)))])) _
              refine XS.istore X0.here hx rfl (hb hby d1_124) rfl (l' := #[.val (.ref o0), .val (.int p1), .val (.int p2), .val (.int (b0 &&& (255 : Int32))), .val (.int (4 : Int32)), .val (.int (if (b0 &&& (255 : Int32)) = (240 : Int32) then (144 : Int32) else (128 : Int32))), .val (.int (191 : Int32)), .unset, .unset]) rfl ?_
              show Steps p.tables e below (s₁.setTop (mkF m 126 #[.val (.ref o0), .val (.int p1), .val (.int p2), .val (.int (b0 &&& (255 : Int32))), .val (.int (4 : Int32)), .val (.int (if (b0 &&& (255 : Int32)) = (240 : Int32) then (144 : Int32) else (128 : Int32))), .val (.int (191 : Int32)), .unset, .unset] [])) _
              refine XS.iloadN X0.here hx rfl (hb hby d1_126) rfl ?_
              show Steps p.tables e below (s₁.setTop (mkF m 127 #[.val (.ref o0), .val (.int p1), .val (.int p2), .val (.int (b0 &&& (255 : Int32))), .val (.int (4 : Int32)), .val (.int (if (b0 &&& (255 : Int32)) = (240 : Int32) then (144 : Int32) else (128 : Int32))), .val (.int (191 : Int32)), .unset, .unset] [(.int (b0 &&& (255 : Int32)))])) _
              refine XS.sipush X0.here hx rfl (hb hby d1_127) ?_
              exact k)
            have go57 := go55.step (C := s₁.setTop (mkF m 141 #[.val (.ref o0), .val (.int p1), .val (.int p2), .val (.int (b0 &&& (255 : Int32))), .val (.int (4 : Int32)), .val (.int (if (b0 &&& (255 : Int32)) = (240 : Int32) then (144 : Int32) else (128 : Int32))), .val (.int (191 : Int32)), .unset, .unset] [(.int (if (b0 &&& (255 : Int32)) = (244 : Int32) then (143 : Int32) else (191 : Int32)))])) (fun t k => by
              by_cases hc56 : (b0 &&& (255 : Int32)) = (244 : Int32)
              · skip
                try simp only [if_pos hc56] at k
                show Steps p.tables e below (s₁.setTop (mkF m 130 #[.val (.ref o0), .val (.int p1), .val (.int p2), .val (.int (b0 &&& (255 : Int32))), .val (.int (4 : Int32)), .val (.int (if (b0 &&& (255 : Int32)) = (240 : Int32) then (144 : Int32) else (128 : Int32))), .val (.int (191 : Int32)), .unset, .unset] [(.int (244 : Int32)), (.int (b0 &&& (255 : Int32)))])) _
                refine XS.icmpNo X0.here hx rfl (hb hby d1_130) rfl (teq hc56).2 ?_
                show Steps p.tables e below (s₁.setTop (mkF m 133 #[.val (.ref o0), .val (.int p1), .val (.int p2), .val (.int (b0 &&& (255 : Int32))), .val (.int (4 : Int32)), .val (.int (if (b0 &&& (255 : Int32)) = (240 : Int32) then (144 : Int32) else (128 : Int32))), .val (.int (191 : Int32)), .unset, .unset] [])) _
                refine XS.sipush X0.here hx rfl (hb hby d1_133) ?_
                show Steps p.tables e below (s₁.setTop (mkF m 136 #[.val (.ref o0), .val (.int p1), .val (.int p2), .val (.int (b0 &&& (255 : Int32))), .val (.int (4 : Int32)), .val (.int (if (b0 &&& (255 : Int32)) = (240 : Int32) then (144 : Int32) else (128 : Int32))), .val (.int (191 : Int32)), .unset, .unset] [(.int (143 : Int32))])) _
                refine XS.goto X0.here hx rfl (pc0 := 136) (pc' := 141) rfl (hb hby d1_136) (by decide) (by decide) ?_
                exact k
              · skip
                try simp only [if_neg hc56] at k
                show Steps p.tables e below (s₁.setTop (mkF m 130 #[.val (.ref o0), .val (.int p1), .val (.int p2), .val (.int (b0 &&& (255 : Int32))), .val (.int (4 : Int32)), .val (.int (if (b0 &&& (255 : Int32)) = (240 : Int32) then (144 : Int32) else (128 : Int32))), .val (.int (191 : Int32)), .unset, .unset] [(.int (244 : Int32)), (.int (b0 &&& (255 : Int32)))])) _
                refine XS.icmpYes X0.here hx rfl (pc0 := 130) (pc' := 139) rfl (hb hby d1_130) rfl (feq hc56).2 (by decide) (by decide) ?_
                show Steps p.tables e below (s₁.setTop (mkF m 139 #[.val (.ref o0), .val (.int p1), .val (.int p2), .val (.int (b0 &&& (255 : Int32))), .val (.int (4 : Int32)), .val (.int (if (b0 &&& (255 : Int32)) = (240 : Int32) then (144 : Int32) else (128 : Int32))), .val (.int (191 : Int32)), .unset, .unset] [])) _
                refine XS.iload X0.here hx rfl (hb hby d1_139) rfl ?_
                exact k
              )
            have go59 := go57.step (C := s₁.setTop (mkF m 153 #[.val (.ref o0), .val (.int p1), .val (.int p2), .val (.int (b0 &&& (255 : Int32))), .val (.int (4 : Int32)), .val (.int (if (b0 &&& (255 : Int32)) = (240 : Int32) then (144 : Int32) else (128 : Int32))), .val (.int (if (b0 &&& (255 : Int32)) = (244 : Int32) then (143 : Int32) else (191 : Int32))), .unset, .unset] [(.int p2), (.int (p1 + (4 : Int32)))])) (fun t k => by
              show Steps p.tables e below (s₁.setTop (mkF m 141 #[.val (.ref o0), .val (.int p1), .val (.int p2), .val (.int (b0 &&& (255 : Int32))), .val (.int (4 : Int32)), .val (.int (if (b0 &&& (255 : Int32)) = (240 : Int32) then (144 : Int32) else (128 : Int32))), .val (.int (191 : Int32)), .unset, .unset] [(.int (if (b0 &&& (255 : Int32)) = (244 : Int32) then (143 : Int32) else (191 : Int32)))])) _
              refine XS.istore X0.here hx rfl (hb hby d1_141) rfl (l' := #[.val (.ref o0), .val (.int p1), .val (.int p2), .val (.int (b0 &&& (255 : Int32))), .val (.int (4 : Int32)), .val (.int (if (b0 &&& (255 : Int32)) = (240 : Int32) then (144 : Int32) else (128 : Int32))), .val (.int (if (b0 &&& (255 : Int32)) = (244 : Int32) then (143 : Int32) else (191 : Int32))), .unset, .unset]) rfl ?_
              show Steps p.tables e below (s₁.setTop (mkF m 143 #[.val (.ref o0), .val (.int p1), .val (.int p2), .val (.int (b0 &&& (255 : Int32))), .val (.int (4 : Int32)), .val (.int (if (b0 &&& (255 : Int32)) = (240 : Int32) then (144 : Int32) else (128 : Int32))), .val (.int (if (b0 &&& (255 : Int32)) = (244 : Int32) then (143 : Int32) else (191 : Int32))), .unset, .unset] [])) _
              refine XS.goto X0.here hx rfl (pc0 := 143) (pc' := 148) rfl (hb hby d1_143) (by decide) (by decide) ?_
              show Steps p.tables e below (s₁.setTop (mkF m 148 #[.val (.ref o0), .val (.int p1), .val (.int p2), .val (.int (b0 &&& (255 : Int32))), .val (.int (4 : Int32)), .val (.int (if (b0 &&& (255 : Int32)) = (240 : Int32) then (144 : Int32) else (128 : Int32))), .val (.int (if (b0 &&& (255 : Int32)) = (244 : Int32) then (143 : Int32) else (191 : Int32))), .unset, .unset] [])) _
              refine XS.iloadN X0.here hx rfl (hb hby d1_148) rfl ?_
              show Steps p.tables e below (s₁.setTop (mkF m 149 #[.val (.ref o0), .val (.int p1), .val (.int p2), .val (.int (b0 &&& (255 : Int32))), .val (.int (4 : Int32)), .val (.int (if (b0 &&& (255 : Int32)) = (240 : Int32) then (144 : Int32) else (128 : Int32))), .val (.int (if (b0 &&& (255 : Int32)) = (244 : Int32) then (143 : Int32) else (191 : Int32))), .unset, .unset] [(.int p1)])) _
              refine XS.iload X0.here hx rfl (hb hby d1_149) rfl ?_
              show Steps p.tables e below (s₁.setTop (mkF m 151 #[.val (.ref o0), .val (.int p1), .val (.int p2), .val (.int (b0 &&& (255 : Int32))), .val (.int (4 : Int32)), .val (.int (if (b0 &&& (255 : Int32)) = (240 : Int32) then (144 : Int32) else (128 : Int32))), .val (.int (if (b0 &&& (255 : Int32)) = (244 : Int32) then (143 : Int32) else (191 : Int32))), .unset, .unset] [(.int (4 : Int32)), (.int p1)])) _
              refine XS.iadd X0.here hx rfl (hb hby d1_151) rfl ?_
              show Steps p.tables e below (s₁.setTop (mkF m 152 #[.val (.ref o0), .val (.int p1), .val (.int p2), .val (.int (b0 &&& (255 : Int32))), .val (.int (4 : Int32)), .val (.int (if (b0 &&& (255 : Int32)) = (240 : Int32) then (144 : Int32) else (128 : Int32))), .val (.int (if (b0 &&& (255 : Int32)) = (244 : Int32) then (143 : Int32) else (191 : Int32))), .unset, .unset] [(.int (p1 + (4 : Int32)))])) _
              refine XS.iloadN X0.here hx rfl (hb hby d1_152) rfl ?_
              exact k)
            by_cases hc58 : p2 < (p1 + (4 : Int32))
            · skip
              have go60 := go59.step (C := s₁.setTop (mkF m 157 #[.val (.ref o0), .val (.int p1), .val (.int p2), .val (.int (b0 &&& (255 : Int32))), .val (.int (4 : Int32)), .val (.int (if (b0 &&& (255 : Int32)) = (240 : Int32) then (144 : Int32) else (128 : Int32))), .val (.int (if (b0 &&& (255 : Int32)) = (244 : Int32) then (143 : Int32) else (191 : Int32))), .unset, .unset] [(.int (-1 : Int32))])) (fun t k => by
                show Steps p.tables e below (s₁.setTop (mkF m 153 #[.val (.ref o0), .val (.int p1), .val (.int p2), .val (.int (b0 &&& (255 : Int32))), .val (.int (4 : Int32)), .val (.int (if (b0 &&& (255 : Int32)) = (240 : Int32) then (144 : Int32) else (128 : Int32))), .val (.int (if (b0 &&& (255 : Int32)) = (244 : Int32) then (143 : Int32) else (191 : Int32))), .unset, .unset] [(.int p2), (.int (p1 + (4 : Int32)))])) _
                refine XS.icmpNo X0.here hx rfl (hb hby d1_153) rfl (tlt hc58).2.2.2 ?_
                show Steps p.tables e below (s₁.setTop (mkF m 156 #[.val (.ref o0), .val (.int p1), .val (.int p2), .val (.int (b0 &&& (255 : Int32))), .val (.int (4 : Int32)), .val (.int (if (b0 &&& (255 : Int32)) = (240 : Int32) then (144 : Int32) else (128 : Int32))), .val (.int (if (b0 &&& (255 : Int32)) = (244 : Int32) then (143 : Int32) else (191 : Int32))), .unset, .unset] [])) _
                refine XS.iconst X0.here hx rfl (hb hby d1_156) ?_
                exact k)
              obtain ⟨fs, hr, hrun, hended, hW, hsame⟩ := X0.leave (v := some (.int (-1 : Int32))) (fun h => by rw [Bd.returns] at h; cases h)
              refine ⟨_, _, go60 _ ?_, hrun, hended, _, _, rfl, ?_, ⟨_, rfl⟩, hW, hsame.mono (by decide) (by decide)⟩
              · exact own_retI X0 hx Bd.returns (hb hby d1_157) hr
              · show Q_rm1 Z o0 p1 p2 ka vs b0 b1 b2 b3 h0 n0 _ s₁.heap _
                rw [e0]
                exact ⟨by unfold own_len; simp only [if_pos hc3, if_neg hc5, if_pos hc44, if_neg hc46, if_neg hc49, if_pos hc58], N0, rfl⟩
            · skip
              have go61 := go59.step (C := s₁.setTop (mkF m 162 #[.val (.ref o0), .val (.int p1), .val (.int p2), .val (.int (b0 &&& (255 : Int32))), .val (.int (4 : Int32)), .val (.int (if (b0 &&& (255 : Int32)) = (240 : Int32) then (144 : Int32) else (128 : Int32))), .val (.int (if (b0 &&& (255 : Int32)) = (244 : Int32) then (143 : Int32) else (191 : Int32))), .unset, .unset] [(.int (p1 + (1 : Int32))), (.ref o0)])) (fun t k => by
                show Steps p.tables e below (s₁.setTop (mkF m 153 #[.val (.ref o0), .val (.int p1), .val (.int p2), .val (.int (b0 &&& (255 : Int32))), .val (.int (4 : Int32)), .val (.int (if (b0 &&& (255 : Int32)) = (240 : Int32) then (144 : Int32) else (128 : Int32))), .val (.int (if (b0 &&& (255 : Int32)) = (244 : Int32) then (143 : Int32) else (191 : Int32))), .unset, .unset] [(.int p2), (.int (p1 + (4 : Int32)))])) _
                refine XS.icmpYes X0.here hx rfl (pc0 := 153) (pc' := 158) rfl (hb hby d1_153) rfl (flt hc58).2.2.2 (by decide) (by decide) ?_
                show Steps p.tables e below (s₁.setTop (mkF m 158 #[.val (.ref o0), .val (.int p1), .val (.int p2), .val (.int (b0 &&& (255 : Int32))), .val (.int (4 : Int32)), .val (.int (if (b0 &&& (255 : Int32)) = (240 : Int32) then (144 : Int32) else (128 : Int32))), .val (.int (if (b0 &&& (255 : Int32)) = (244 : Int32) then (143 : Int32) else (191 : Int32))), .unset, .unset] [])) _
                refine XS.aloadN X0.here hx rfl (hb hby d1_158) rfl rfl ?_
                show Steps p.tables e below (s₁.setTop (mkF m 159 #[.val (.ref o0), .val (.int p1), .val (.int p2), .val (.int (b0 &&& (255 : Int32))), .val (.int (4 : Int32)), .val (.int (if (b0 &&& (255 : Int32)) = (240 : Int32) then (144 : Int32) else (128 : Int32))), .val (.int (if (b0 &&& (255 : Int32)) = (244 : Int32) then (143 : Int32) else (191 : Int32))), .unset, .unset] [(.ref o0)])) _
                refine XS.iloadN X0.here hx rfl (hb hby d1_159) rfl ?_
                show Steps p.tables e below (s₁.setTop (mkF m 160 #[.val (.ref o0), .val (.int p1), .val (.int p2), .val (.int (b0 &&& (255 : Int32))), .val (.int (4 : Int32)), .val (.int (if (b0 &&& (255 : Int32)) = (240 : Int32) then (144 : Int32) else (128 : Int32))), .val (.int (if (b0 &&& (255 : Int32)) = (244 : Int32) then (143 : Int32) else (191 : Int32))), .unset, .unset] [(.int p1), (.ref o0)])) _
                refine XS.iconst X0.here hx rfl (hb hby d1_160) ?_
                show Steps p.tables e below (s₁.setTop (mkF m 161 #[.val (.ref o0), .val (.int p1), .val (.int p2), .val (.int (b0 &&& (255 : Int32))), .val (.int (4 : Int32)), .val (.int (if (b0 &&& (255 : Int32)) = (240 : Int32) then (144 : Int32) else (128 : Int32))), .val (.int (if (b0 &&& (255 : Int32)) = (244 : Int32) then (143 : Int32) else (191 : Int32))), .unset, .unset] [(.int (1 : Int32)), (.int p1), (.ref o0)])) _
                refine XS.iadd X0.here hx rfl (hb hby d1_161) rfl ?_
                exact k)
              have Vo62 := V0
              obtain ⟨cl62, Ar62, qa62, Sa62, Na62, Ha62, Ga62⟩ := Vo62
              have hin62 : ¬ ((p1 + (1 : Int32)) < 0 ∨ cl62.slots.size ≤ ((p1 + (1 : Int32))).toNatClampNeg) := inb_of Sa62 (own_r1 hvs).1
              have hat62 : cl62.slots[((p1 + (1 : Int32))).toNatClampNeg]? = some (.int b1) := Has.at Ha62 hin62 (own_r1 hvs).2
              have go64 := go61.step (C := s₁.setTop (mkF m 173 #[.val (.ref o0), .val (.int p1), .val (.int p2), .val (.int (b0 &&& (255 : Int32))), .val (.int (4 : Int32)), .val (.int (if (b0 &&& (255 : Int32)) = (240 : Int32) then (144 : Int32) else (128 : Int32))), .val (.int (if (b0 &&& (255 : Int32)) = (244 : Int32) then (143 : Int32) else (191 : Int32))), .val (.int (b1 &&& (255 : Int32))), .unset] [(.int (if (b0 &&& (255 : Int32)) = (240 : Int32) then (144 : Int32) else (128 : Int32))), (.int (b1 &&& (255 : Int32)))])) (fun t k => by
                show Steps p.tables e below (s₁.setTop (mkF m 162 #[.val (.ref o0), .val (.int p1), .val (.int p2), .val (.int (b0 &&& (255 : Int32))), .val (.int (4 : Int32)), .val (.int (if (b0 &&& (255 : Int32)) = (240 : Int32) then (144 : Int32) else (128 : Int32))), .val (.int (if (b0 &&& (255 : Int32)) = (244 : Int32) then (143 : Int32) else (191 : Int32))), .unset, .unset] [(.int (p1 + (1 : Int32))), (.ref o0)])) _
                refine X0.baloadBytes hx (j := (p1 + (1 : Int32))) (v := (.int b1)) (by rw [e0]; exact Ar62.1) (State.isArrayOf_alike hZ.alike Ar62.2.1) Ar62.2.2 hin62 hat62 (g := (mkF m 162 #[.val (.ref o0), .val (.int p1), .val (.int p2), .val (.int (b0 &&& (255 : Int32))), .val (.int (4 : Int32)), .val (.int (if (b0 &&& (255 : Int32)) = (240 : Int32) then (144 : Int32) else (128 : Int32))), .val (.int (if (b0 &&& (255 : Int32)) = (244 : Int32) then (143 : Int32) else (191 : Int32))), .unset, .unset] [(.int (p1 + (1 : Int32))), (.ref o0)])) rfl rfl (hb hby d1_162) _ ?_
                show Steps p.tables e below (s₁.setTop (mkF m 163 #[.val (.ref o0), .val (.int p1), .val (.int p2), .val (.int (b0 &&& (255 : Int32))), .val (.int (4 : Int32)), .val (.int (if (b0 &&& (255 : Int32)) = (240 : Int32) then (144 : Int32) else (128 : Int32))), .val (.int (if (b0 &&& (255 : Int32)) = (244 : Int32) then (143 : Int32) else (191 : Int32))), .unset, .unset] [(.int b1)])) _
                refine XS.sipush X0.here hx rfl (hb hby d1_163) ?_
                show Steps p.tables e below (s₁.setTop (mkF m 166 #[.val (.ref o0), .val (.int p1), .val (.int p2), .val (.int (b0 &&& (255 : Int32))), .val (.int (4 : Int32)), .val (.int (if (b0 &&& (255 : Int32)) = (240 : Int32) then (144 : Int32) else (128 : Int32))), .val (.int (if (b0 &&& (255 : Int32)) = (244 : Int32) then (143 : Int32) else (191 : Int32))), .unset, .unset] [(.int (255 : Int32)), (.int b1)])) _
                refine XS.iand X0.here hx rfl (hb hby d1_166) rfl ?_
                show Steps p.tables e below (s₁.setTop (mkF m 167 #[.val (.ref o0), .val (.int p1), .val (.int p2), .val (.int (b0 &&& (255 : Int32))), .val (.int (4 : Int32)), .val (.int (if (b0 &&& (255 : Int32)) = (240 : Int32) then (144 : Int32) else (128 : Int32))), .val (.int (if (b0 &&& (255 : Int32)) = (244 : Int32) then (143 : Int32) else (191 : Int32))), .unset, .unset] [(.int (b1 &&& (255 : Int32)))])) _
                refine XS.istore X0.here hx rfl (hb hby d1_167) rfl (l' := #[.val (.ref o0), .val (.int p1), .val (.int p2), .val (.int (b0 &&& (255 : Int32))), .val (.int (4 : Int32)), .val (.int (if (b0 &&& (255 : Int32)) = (240 : Int32) then (144 : Int32) else (128 : Int32))), .val (.int (if (b0 &&& (255 : Int32)) = (244 : Int32) then (143 : Int32) else (191 : Int32))), .val (.int (b1 &&& (255 : Int32))), .unset]) rfl ?_
                show Steps p.tables e below (s₁.setTop (mkF m 169 #[.val (.ref o0), .val (.int p1), .val (.int p2), .val (.int (b0 &&& (255 : Int32))), .val (.int (4 : Int32)), .val (.int (if (b0 &&& (255 : Int32)) = (240 : Int32) then (144 : Int32) else (128 : Int32))), .val (.int (if (b0 &&& (255 : Int32)) = (244 : Int32) then (143 : Int32) else (191 : Int32))), .val (.int (b1 &&& (255 : Int32))), .unset] [])) _
                refine XS.iload X0.here hx rfl (hb hby d1_169) rfl ?_
                show Steps p.tables e below (s₁.setTop (mkF m 171 #[.val (.ref o0), .val (.int p1), .val (.int p2), .val (.int (b0 &&& (255 : Int32))), .val (.int (4 : Int32)), .val (.int (if (b0 &&& (255 : Int32)) = (240 : Int32) then (144 : Int32) else (128 : Int32))), .val (.int (if (b0 &&& (255 : Int32)) = (244 : Int32) then (143 : Int32) else (191 : Int32))), .val (.int (b1 &&& (255 : Int32))), .unset] [(.int (b1 &&& (255 : Int32)))])) _
                refine XS.iload X0.here hx rfl (hb hby d1_171) rfl ?_
                exact k)
              by_cases hc63 : (b1 &&& (255 : Int32)) < (if (b0 &&& (255 : Int32)) = (240 : Int32) then (144 : Int32) else (128 : Int32))
              · skip
                have go65 := go64.step (C := s₁.setTop (mkF m 184 #[.val (.ref o0), .val (.int p1), .val (.int p2), .val (.int (b0 &&& (255 : Int32))), .val (.int (4 : Int32)), .val (.int (if (b0 &&& (255 : Int32)) = (240 : Int32) then (144 : Int32) else (128 : Int32))), .val (.int (if (b0 &&& (255 : Int32)) = (244 : Int32) then (143 : Int32) else (191 : Int32))), .val (.int (b1 &&& (255 : Int32))), .unset] [(.int (-1 : Int32))])) (fun t k => by
                  show Steps p.tables e below (s₁.setTop (mkF m 173 #[.val (.ref o0), .val (.int p1), .val (.int p2), .val (.int (b0 &&& (255 : Int32))), .val (.int (4 : Int32)), .val (.int (if (b0 &&& (255 : Int32)) = (240 : Int32) then (144 : Int32) else (128 : Int32))), .val (.int (if (b0 &&& (255 : Int32)) = (244 : Int32) then (143 : Int32) else (191 : Int32))), .val (.int (b1 &&& (255 : Int32))), .unset] [(.int (if (b0 &&& (255 : Int32)) = (240 : Int32) then (144 : Int32) else (128 : Int32))), (.int (b1 &&& (255 : Int32)))])) _
                  refine XS.icmpYes X0.here hx rfl (pc0 := 173) (pc' := 183) rfl (hb hby d1_173) rfl (tlt hc63).1 (by decide) (by decide) ?_
                  show Steps p.tables e below (s₁.setTop (mkF m 183 #[.val (.ref o0), .val (.int p1), .val (.int p2), .val (.int (b0 &&& (255 : Int32))), .val (.int (4 : Int32)), .val (.int (if (b0 &&& (255 : Int32)) = (240 : Int32) then (144 : Int32) else (128 : Int32))), .val (.int (if (b0 &&& (255 : Int32)) = (244 : Int32) then (143 : Int32) else (191 : Int32))), .val (.int (b1 &&& (255 : Int32))), .unset] [])) _
                  refine XS.iconst X0.here hx rfl (hb hby d1_183) ?_
                  exact k)
                obtain ⟨fs, hr, hrun, hended, hW, hsame⟩ := X0.leave (v := some (.int (-1 : Int32))) (fun h => by rw [Bd.returns] at h; cases h)
                refine ⟨_, _, go65 _ ?_, hrun, hended, _, _, rfl, ?_, ⟨_, rfl⟩, hW, hsame.mono (by decide) (by decide)⟩
                · exact own_retI X0 hx Bd.returns (hb hby d1_184) hr
                · show Q_rm1 Z o0 p1 p2 ka vs b0 b1 b2 b3 h0 n0 _ s₁.heap _
                  rw [e0]
                  exact ⟨by unfold own_len; simp only [if_pos hc3, if_neg hc5, if_pos hc44, if_neg hc46, if_neg hc49, if_neg hc58, if_pos hc63], N0, rfl⟩
              · skip
                have go67 := go64.step (C := s₁.setTop (mkF m 180 #[.val (.ref o0), .val (.int p1), .val (.int p2), .val (.int (b0 &&& (255 : Int32))), .val (.int (4 : Int32)), .val (.int (if (b0 &&& (255 : Int32)) = (240 : Int32) then (144 : Int32) else (128 : Int32))), .val (.int (if (b0 &&& (255 : Int32)) = (244 : Int32) then (143 : Int32) else (191 : Int32))), .val (.int (b1 &&& (255 : Int32))), .unset] [(.int (if (b0 &&& (255 : Int32)) = (244 : Int32) then (143 : Int32) else (191 : Int32))), (.int (b1 &&& (255 : Int32)))])) (fun t k => by
                  show Steps p.tables e below (s₁.setTop (mkF m 173 #[.val (.ref o0), .val (.int p1), .val (.int p2), .val (.int (b0 &&& (255 : Int32))), .val (.int (4 : Int32)), .val (.int (if (b0 &&& (255 : Int32)) = (240 : Int32) then (144 : Int32) else (128 : Int32))), .val (.int (if (b0 &&& (255 : Int32)) = (244 : Int32) then (143 : Int32) else (191 : Int32))), .val (.int (b1 &&& (255 : Int32))), .unset] [(.int (if (b0 &&& (255 : Int32)) = (240 : Int32) then (144 : Int32) else (128 : Int32))), (.int (b1 &&& (255 : Int32)))])) _
                  refine XS.icmpNo X0.here hx rfl (hb hby d1_173) rfl (flt hc63).1 ?_
                  show Steps p.tables e below (s₁.setTop (mkF m 176 #[.val (.ref o0), .val (.int p1), .val (.int p2), .val (.int (b0 &&& (255 : Int32))), .val (.int (4 : Int32)), .val (.int (if (b0 &&& (255 : Int32)) = (240 : Int32) then (144 : Int32) else (128 : Int32))), .val (.int (if (b0 &&& (255 : Int32)) = (244 : Int32) then (143 : Int32) else (191 : Int32))), .val (.int (b1 &&& (255 : Int32))), .unset] [])) _
                  refine XS.iload X0.here hx rfl (hb hby d1_176) rfl ?_
                  show Steps p.tables e below (s₁.setTop (mkF m 178 #[.val (.ref o0), .val (.int p1), .val (.int p2), .val (.int (b0 &&& (255 : Int32))), .val (.int (4 : Int32)), .val (.int (if (b0 &&& (255 : Int32)) = (240 : Int32) then (144 : Int32) else (128 : Int32))), .val (.int (if (b0 &&& (255 : Int32)) = (244 : Int32) then (143 : Int32) else (191 : Int32))), .val (.int (b1 &&& (255 : Int32))), .unset] [(.int (b1 &&& (255 : Int32)))])) _
                  refine XS.iload X0.here hx rfl (hb hby d1_178) rfl ?_
                  exact k)
                by_cases hc66 : (if (b0 &&& (255 : Int32)) = (244 : Int32) then (143 : Int32) else (191 : Int32)) < (b1 &&& (255 : Int32))
                · skip
                  have go68 := go67.step (C := s₁.setTop (mkF m 184 #[.val (.ref o0), .val (.int p1), .val (.int p2), .val (.int (b0 &&& (255 : Int32))), .val (.int (4 : Int32)), .val (.int (if (b0 &&& (255 : Int32)) = (240 : Int32) then (144 : Int32) else (128 : Int32))), .val (.int (if (b0 &&& (255 : Int32)) = (244 : Int32) then (143 : Int32) else (191 : Int32))), .val (.int (b1 &&& (255 : Int32))), .unset] [(.int (-1 : Int32))])) (fun t k => by
                    show Steps p.tables e below (s₁.setTop (mkF m 180 #[.val (.ref o0), .val (.int p1), .val (.int p2), .val (.int (b0 &&& (255 : Int32))), .val (.int (4 : Int32)), .val (.int (if (b0 &&& (255 : Int32)) = (240 : Int32) then (144 : Int32) else (128 : Int32))), .val (.int (if (b0 &&& (255 : Int32)) = (244 : Int32) then (143 : Int32) else (191 : Int32))), .val (.int (b1 &&& (255 : Int32))), .unset] [(.int (if (b0 &&& (255 : Int32)) = (244 : Int32) then (143 : Int32) else (191 : Int32))), (.int (b1 &&& (255 : Int32)))])) _
                    refine XS.icmpNo X0.here hx rfl (hb hby d1_180) rfl (tlt hc66).2.2.2 ?_
                    show Steps p.tables e below (s₁.setTop (mkF m 183 #[.val (.ref o0), .val (.int p1), .val (.int p2), .val (.int (b0 &&& (255 : Int32))), .val (.int (4 : Int32)), .val (.int (if (b0 &&& (255 : Int32)) = (240 : Int32) then (144 : Int32) else (128 : Int32))), .val (.int (if (b0 &&& (255 : Int32)) = (244 : Int32) then (143 : Int32) else (191 : Int32))), .val (.int (b1 &&& (255 : Int32))), .unset] [])) _
                    refine XS.iconst X0.here hx rfl (hb hby d1_183) ?_
                    exact k)
                  obtain ⟨fs, hr, hrun, hended, hW, hsame⟩ := X0.leave (v := some (.int (-1 : Int32))) (fun h => by rw [Bd.returns] at h; cases h)
                  refine ⟨_, _, go68 _ ?_, hrun, hended, _, _, rfl, ?_, ⟨_, rfl⟩, hW, hsame.mono (by decide) (by decide)⟩
                  · exact own_retI X0 hx Bd.returns (hb hby d1_184) hr
                  · show Q_rm1 Z o0 p1 p2 ka vs b0 b1 b2 b3 h0 n0 _ s₁.heap _
                    rw [e0]
                    exact ⟨by unfold own_len; simp only [if_pos hc3, if_neg hc5, if_pos hc44, if_neg hc46, if_neg hc49, if_neg hc58, if_neg hc63, if_pos hc66], N0, rfl⟩
                · skip
                  have go70 := go67.step (C := s₁.setTop (mkF m 202 #[.val (.ref o0), .val (.int p1), .val (.int p2), .val (.int (b0 &&& (255 : Int32))), .val (.int (4 : Int32)), .val (.int (if (b0 &&& (255 : Int32)) = (240 : Int32) then (144 : Int32) else (128 : Int32))), .val (.int (if (b0 &&& (255 : Int32)) = (244 : Int32) then (143 : Int32) else (191 : Int32))), .val (.int (b1 &&& (255 : Int32))), .val (.int (p1 + (2 : Int32)))] [(.int (p1 + (2 : Int32))), (.ref o0)])) (fun t k => by
                    show Steps p.tables e below (s₁.setTop (mkF m 180 #[.val (.ref o0), .val (.int p1), .val (.int p2), .val (.int (b0 &&& (255 : Int32))), .val (.int (4 : Int32)), .val (.int (if (b0 &&& (255 : Int32)) = (240 : Int32) then (144 : Int32) else (128 : Int32))), .val (.int (if (b0 &&& (255 : Int32)) = (244 : Int32) then (143 : Int32) else (191 : Int32))), .val (.int (b1 &&& (255 : Int32))), .unset] [(.int (if (b0 &&& (255 : Int32)) = (244 : Int32) then (143 : Int32) else (191 : Int32))), (.int (b1 &&& (255 : Int32)))])) _
                    refine XS.icmpYes X0.here hx rfl (pc0 := 180) (pc' := 185) rfl (hb hby d1_180) rfl (flt hc66).2.2.2 (by decide) (by decide) ?_
                    show Steps p.tables e below (s₁.setTop (mkF m 185 #[.val (.ref o0), .val (.int p1), .val (.int p2), .val (.int (b0 &&& (255 : Int32))), .val (.int (4 : Int32)), .val (.int (if (b0 &&& (255 : Int32)) = (240 : Int32) then (144 : Int32) else (128 : Int32))), .val (.int (if (b0 &&& (255 : Int32)) = (244 : Int32) then (143 : Int32) else (191 : Int32))), .val (.int (b1 &&& (255 : Int32))), .unset] [])) _
                    refine XS.iloadN X0.here hx rfl (hb hby d1_185) rfl ?_
                    show Steps p.tables e below (s₁.setTop (mkF m 186 #[.val (.ref o0), .val (.int p1), .val (.int p2), .val (.int (b0 &&& (255 : Int32))), .val (.int (4 : Int32)), .val (.int (if (b0 &&& (255 : Int32)) = (240 : Int32) then (144 : Int32) else (128 : Int32))), .val (.int (if (b0 &&& (255 : Int32)) = (244 : Int32) then (143 : Int32) else (191 : Int32))), .val (.int (b1 &&& (255 : Int32))), .unset] [(.int p1)])) _
                    refine XS.iconst X0.here hx rfl (hb hby d1_186) ?_
                    show Steps p.tables e below (s₁.setTop (mkF m 187 #[.val (.ref o0), .val (.int p1), .val (.int p2), .val (.int (b0 &&& (255 : Int32))), .val (.int (4 : Int32)), .val (.int (if (b0 &&& (255 : Int32)) = (240 : Int32) then (144 : Int32) else (128 : Int32))), .val (.int (if (b0 &&& (255 : Int32)) = (244 : Int32) then (143 : Int32) else (191 : Int32))), .val (.int (b1 &&& (255 : Int32))), .unset] [(.int (2 : Int32)), (.int p1)])) _
                    refine XS.iadd X0.here hx rfl (hb hby d1_187) rfl ?_
                    show Steps p.tables e below (s₁.setTop (mkF m 188 #[.val (.ref o0), .val (.int p1), .val (.int p2), .val (.int (b0 &&& (255 : Int32))), .val (.int (4 : Int32)), .val (.int (if (b0 &&& (255 : Int32)) = (240 : Int32) then (144 : Int32) else (128 : Int32))), .val (.int (if (b0 &&& (255 : Int32)) = (244 : Int32) then (143 : Int32) else (191 : Int32))), .val (.int (b1 &&& (255 : Int32))), .unset] [(.int (p1 + (2 : Int32)))])) _
                    refine XS.istore X0.here hx rfl (hb hby d1_188) rfl (l' := #[.val (.ref o0), .val (.int p1), .val (.int p2), .val (.int (b0 &&& (255 : Int32))), .val (.int (4 : Int32)), .val (.int (if (b0 &&& (255 : Int32)) = (240 : Int32) then (144 : Int32) else (128 : Int32))), .val (.int (if (b0 &&& (255 : Int32)) = (244 : Int32) then (143 : Int32) else (191 : Int32))), .val (.int (b1 &&& (255 : Int32))), .val (.int (p1 + (2 : Int32)))]) rfl ?_
                    show Steps p.tables e below (s₁.setTop (mkF m 190 #[.val (.ref o0), .val (.int p1), .val (.int p2), .val (.int (b0 &&& (255 : Int32))), .val (.int (4 : Int32)), .val (.int (if (b0 &&& (255 : Int32)) = (240 : Int32) then (144 : Int32) else (128 : Int32))), .val (.int (if (b0 &&& (255 : Int32)) = (244 : Int32) then (143 : Int32) else (191 : Int32))), .val (.int (b1 &&& (255 : Int32))), .val (.int (p1 + (2 : Int32)))] [])) _
                    refine XS.iload X0.here hx rfl (hb hby d1_190) rfl ?_
                    show Steps p.tables e below (s₁.setTop (mkF m 192 #[.val (.ref o0), .val (.int p1), .val (.int p2), .val (.int (b0 &&& (255 : Int32))), .val (.int (4 : Int32)), .val (.int (if (b0 &&& (255 : Int32)) = (240 : Int32) then (144 : Int32) else (128 : Int32))), .val (.int (if (b0 &&& (255 : Int32)) = (244 : Int32) then (143 : Int32) else (191 : Int32))), .val (.int (b1 &&& (255 : Int32))), .val (.int (p1 + (2 : Int32)))] [(.int (p1 + (2 : Int32)))])) _
                    refine XS.iloadN X0.here hx rfl (hb hby d1_192) rfl ?_
                    show Steps p.tables e below (s₁.setTop (mkF m 193 #[.val (.ref o0), .val (.int p1), .val (.int p2), .val (.int (b0 &&& (255 : Int32))), .val (.int (4 : Int32)), .val (.int (if (b0 &&& (255 : Int32)) = (240 : Int32) then (144 : Int32) else (128 : Int32))), .val (.int (if (b0 &&& (255 : Int32)) = (244 : Int32) then (143 : Int32) else (191 : Int32))), .val (.int (b1 &&& (255 : Int32))), .val (.int (p1 + (2 : Int32)))] [(.int p1), (.int (p1 + (2 : Int32)))])) _
                    refine XS.iload X0.here hx rfl (hb hby d1_193) rfl ?_
                    show Steps p.tables e below (s₁.setTop (mkF m 195 #[.val (.ref o0), .val (.int p1), .val (.int p2), .val (.int (b0 &&& (255 : Int32))), .val (.int (4 : Int32)), .val (.int (if (b0 &&& (255 : Int32)) = (240 : Int32) then (144 : Int32) else (128 : Int32))), .val (.int (if (b0 &&& (255 : Int32)) = (244 : Int32) then (143 : Int32) else (191 : Int32))), .val (.int (b1 &&& (255 : Int32))), .val (.int (p1 + (2 : Int32)))] [(.int (4 : Int32)), (.int p1), (.int (p1 + (2 : Int32)))])) _
                    refine XS.iadd X0.here hx rfl (hb hby d1_195) rfl ?_
                    show Steps p.tables e below (s₁.setTop (mkF m 196 #[.val (.ref o0), .val (.int p1), .val (.int p2), .val (.int (b0 &&& (255 : Int32))), .val (.int (4 : Int32)), .val (.int (if (b0 &&& (255 : Int32)) = (240 : Int32) then (144 : Int32) else (128 : Int32))), .val (.int (if (b0 &&& (255 : Int32)) = (244 : Int32) then (143 : Int32) else (191 : Int32))), .val (.int (b1 &&& (255 : Int32))), .val (.int (p1 + (2 : Int32)))] [(.int (p1 + (4 : Int32))), (.int (p1 + (2 : Int32)))])) _
                    refine XS.icmpNo X0.here hx rfl (hb hby d1_196) rfl (tlt (own_b0_4 hvs.p : (p1 + (2 : Int32)) < (p1 + (4 : Int32)))).2.1 ?_
                    show Steps p.tables e below (s₁.setTop (mkF m 199 #[.val (.ref o0), .val (.int p1), .val (.int p2), .val (.int (b0 &&& (255 : Int32))), .val (.int (4 : Int32)), .val (.int (if (b0 &&& (255 : Int32)) = (240 : Int32) then (144 : Int32) else (128 : Int32))), .val (.int (if (b0 &&& (255 : Int32)) = (244 : Int32) then (143 : Int32) else (191 : Int32))), .val (.int (b1 &&& (255 : Int32))), .val (.int (p1 + (2 : Int32)))] [])) _
                    refine XS.aloadN X0.here hx rfl (hb hby d1_199) rfl rfl ?_
                    show Steps p.tables e below (s₁.setTop (mkF m 200 #[.val (.ref o0), .val (.int p1), .val (.int p2), .val (.int (b0 &&& (255 : Int32))), .val (.int (4 : Int32)), .val (.int (if (b0 &&& (255 : Int32)) = (240 : Int32) then (144 : Int32) else (128 : Int32))), .val (.int (if (b0 &&& (255 : Int32)) = (244 : Int32) then (143 : Int32) else (191 : Int32))), .val (.int (b1 &&& (255 : Int32))), .val (.int (p1 + (2 : Int32)))] [(.ref o0)])) _
                    refine XS.iload X0.here hx rfl (hb hby d1_200) rfl ?_
                    exact k)
                  have Vo71 := V0
                  obtain ⟨cl71, Ar71, qa71, Sa71, Na71, Ha71, Ga71⟩ := Vo71
                  have hin71 : ¬ ((p1 + (2 : Int32)) < 0 ∨ cl71.slots.size ≤ ((p1 + (2 : Int32))).toNatClampNeg) := inb_of Sa71 (own_r2 hvs).1
                  have hat71 : cl71.slots[((p1 + (2 : Int32))).toNatClampNeg]? = some (.int b2) := Has.at Ha71 hin71 (own_r2 hvs).2
                  have go73 := go70.step (C := s₁.setTop (mkF m 210 #[.val (.ref o0), .val (.int p1), .val (.int p2), .val (.int (b0 &&& (255 : Int32))), .val (.int (4 : Int32)), .val (.int (if (b0 &&& (255 : Int32)) = (240 : Int32) then (144 : Int32) else (128 : Int32))), .val (.int (if (b0 &&& (255 : Int32)) = (244 : Int32) then (143 : Int32) else (191 : Int32))), .val (.int (b1 &&& (255 : Int32))), .val (.int (p1 + (2 : Int32)))] [(.int (128 : Int32)), (.int (b2 &&& (192 : Int32)))])) (fun t k => by
                    show Steps p.tables e below (s₁.setTop (mkF m 202 #[.val (.ref o0), .val (.int p1), .val (.int p2), .val (.int (b0 &&& (255 : Int32))), .val (.int (4 : Int32)), .val (.int (if (b0 &&& (255 : Int32)) = (240 : Int32) then (144 : Int32) else (128 : Int32))), .val (.int (if (b0 &&& (255 : Int32)) = (244 : Int32) then (143 : Int32) else (191 : Int32))), .val (.int (b1 &&& (255 : Int32))), .val (.int (p1 + (2 : Int32)))] [(.int (p1 + (2 : Int32))), (.ref o0)])) _
                    refine X0.baloadBytes hx (j := (p1 + (2 : Int32))) (v := (.int b2)) (by rw [e0]; exact Ar71.1) (State.isArrayOf_alike hZ.alike Ar71.2.1) Ar71.2.2 hin71 hat71 (g := (mkF m 202 #[.val (.ref o0), .val (.int p1), .val (.int p2), .val (.int (b0 &&& (255 : Int32))), .val (.int (4 : Int32)), .val (.int (if (b0 &&& (255 : Int32)) = (240 : Int32) then (144 : Int32) else (128 : Int32))), .val (.int (if (b0 &&& (255 : Int32)) = (244 : Int32) then (143 : Int32) else (191 : Int32))), .val (.int (b1 &&& (255 : Int32))), .val (.int (p1 + (2 : Int32)))] [(.int (p1 + (2 : Int32))), (.ref o0)])) rfl rfl (hb hby d1_202) _ ?_
                    show Steps p.tables e below (s₁.setTop (mkF m 203 #[.val (.ref o0), .val (.int p1), .val (.int p2), .val (.int (b0 &&& (255 : Int32))), .val (.int (4 : Int32)), .val (.int (if (b0 &&& (255 : Int32)) = (240 : Int32) then (144 : Int32) else (128 : Int32))), .val (.int (if (b0 &&& (255 : Int32)) = (244 : Int32) then (143 : Int32) else (191 : Int32))), .val (.int (b1 &&& (255 : Int32))), .val (.int (p1 + (2 : Int32)))] [(.int b2)])) _
                    refine XS.sipush X0.here hx rfl (hb hby d1_203) ?_
                    show Steps p.tables e below (s₁.setTop (mkF m 206 #[.val (.ref o0), .val (.int p1), .val (.int p2), .val (.int (b0 &&& (255 : Int32))), .val (.int (4 : Int32)), .val (.int (if (b0 &&& (255 : Int32)) = (240 : Int32) then (144 : Int32) else (128 : Int32))), .val (.int (if (b0 &&& (255 : Int32)) = (244 : Int32) then (143 : Int32) else (191 : Int32))), .val (.int (b1 &&& (255 : Int32))), .val (.int (p1 + (2 : Int32)))] [(.int (192 : Int32)), (.int b2)])) _
                    refine XS.iand X0.here hx rfl (hb hby d1_206) rfl ?_
                    show Steps p.tables e below (s₁.setTop (mkF m 207 #[.val (.ref o0), .val (.int p1), .val (.int p2), .val (.int (b0 &&& (255 : Int32))), .val (.int (4 : Int32)), .val (.int (if (b0 &&& (255 : Int32)) = (240 : Int32) then (144 : Int32) else (128 : Int32))), .val (.int (if (b0 &&& (255 : Int32)) = (244 : Int32) then (143 : Int32) else (191 : Int32))), .val (.int (b1 &&& (255 : Int32))), .val (.int (p1 + (2 : Int32)))] [(.int (b2 &&& (192 : Int32)))])) _
                    refine XS.sipush X0.here hx rfl (hb hby d1_207) ?_
                    exact k)
                  by_cases hc72 : (b2 &&& (192 : Int32)) = (128 : Int32)
                  · skip
                    have go75 := go73.step (C := s₁.setTop (mkF m 202 #[.val (.ref o0), .val (.int p1), .val (.int p2), .val (.int (b0 &&& (255 : Int32))), .val (.int (4 : Int32)), .val (.int (if (b0 &&& (255 : Int32)) = (240 : Int32) then (144 : Int32) else (128 : Int32))), .val (.int (if (b0 &&& (255 : Int32)) = (244 : Int32) then (143 : Int32) else (191 : Int32))), .val (.int (b1 &&& (255 : Int32))), .val (.int ((p1 + (2 : Int32)) + (1 : Int32)))] [(.int ((p1 + (2 : Int32)) + (1 : Int32))), (.ref o0)])) (fun t k => by
                      show Steps p.tables e below (s₁.setTop (mkF m 210 #[.val (.ref o0), .val (.int p1), .val (.int p2), .val (.int (b0 &&& (255 : Int32))), .val (.int (4 : Int32)), .val (.int (if (b0 &&& (255 : Int32)) = (240 : Int32) then (144 : Int32) else (128 : Int32))), .val (.int (if (b0 &&& (255 : Int32)) = (244 : Int32) then (143 : Int32) else (191 : Int32))), .val (.int (b1 &&& (255 : Int32))), .val (.int (p1 + (2 : Int32)))] [(.int (128 : Int32)), (.int (b2 &&& (192 : Int32)))])) _
                      refine XS.icmpYes X0.here hx rfl (pc0 := 210) (pc' := 215) rfl (hb hby d1_210) rfl (teq hc72).1 (by decide) (by decide) ?_
                      show Steps p.tables e below (s₁.setTop (mkF m 215 #[.val (.ref o0), .val (.int p1), .val (.int p2), .val (.int (b0 &&& (255 : Int32))), .val (.int (4 : Int32)), .val (.int (if (b0 &&& (255 : Int32)) = (240 : Int32) then (144 : Int32) else (128 : Int32))), .val (.int (if (b0 &&& (255 : Int32)) = (244 : Int32) then (143 : Int32) else (191 : Int32))), .val (.int (b1 &&& (255 : Int32))), .val (.int (p1 + (2 : Int32)))] [])) _
                      refine XS.iinc X0.here hx rfl (hb hby d1_215) rfl (l' := #[.val (.ref o0), .val (.int p1), .val (.int p2), .val (.int (b0 &&& (255 : Int32))), .val (.int (4 : Int32)), .val (.int (if (b0 &&& (255 : Int32)) = (240 : Int32) then (144 : Int32) else (128 : Int32))), .val (.int (if (b0 &&& (255 : Int32)) = (244 : Int32) then (143 : Int32) else (191 : Int32))), .val (.int (b1 &&& (255 : Int32))), .val (.int ((p1 + (2 : Int32)) + (1 : Int32)))]) rfl ?_
                      show Steps p.tables e below (s₁.setTop (mkF m 218 #[.val (.ref o0), .val (.int p1), .val (.int p2), .val (.int (b0 &&& (255 : Int32))), .val (.int (4 : Int32)), .val (.int (if (b0 &&& (255 : Int32)) = (240 : Int32) then (144 : Int32) else (128 : Int32))), .val (.int (if (b0 &&& (255 : Int32)) = (244 : Int32) then (143 : Int32) else (191 : Int32))), .val (.int (b1 &&& (255 : Int32))), .val (.int ((p1 + (2 : Int32)) + (1 : Int32)))] [])) _
                      refine XS.goto X0.here hx rfl (pc0 := 218) (pc' := 190) rfl (hb hby d1_218) (by decide) (by decide) ?_
                      show Steps p.tables e below (s₁.setTop (mkF m 190 #[.val (.ref o0), .val (.int p1), .val (.int p2), .val (.int (b0 &&& (255 : Int32))), .val (.int (4 : Int32)), .val (.int (if (b0 &&& (255 : Int32)) = (240 : Int32) then (144 : Int32) else (128 : Int32))), .val (.int (if (b0 &&& (255 : Int32)) = (244 : Int32) then (143 : Int32) else (191 : Int32))), .val (.int (b1 &&& (255 : Int32))), .val (.int ((p1 + (2 : Int32)) + (1 : Int32)))] [])) _
                      refine XS.iload X0.here hx rfl (hb hby d1_190) rfl ?_
                      show Steps p.tables e below (s₁.setTop (mkF m 192 #[.val (.ref o0), .val (.int p1), .val (.int p2), .val (.int (b0 &&& (255 : Int32))), .val (.int (4 : Int32)), .val (.int (if (b0 &&& (255 : Int32)) = (240 : Int32) then (144 : Int32) else (128 : Int32))), .val (.int (if (b0 &&& (255 : Int32)) = (244 : Int32) then (143 : Int32) else (191 : Int32))), .val (.int (b1 &&& (255 : Int32))), .val (.int ((p1 + (2 : Int32)) + (1 : Int32)))] [(.int ((p1 + (2 : Int32)) + (1 : Int32)))])) _
                      refine XS.iloadN X0.here hx rfl (hb hby d1_192) rfl ?_
                      show Steps p.tables e below (s₁.setTop (mkF m 193 #[.val (.ref o0), .val (.int p1), .val (.int p2), .val (.int (b0 &&& (255 : Int32))), .val (.int (4 : Int32)), .val (.int (if (b0 &&& (255 : Int32)) = (240 : Int32) then (144 : Int32) else (128 : Int32))), .val (.int (if (b0 &&& (255 : Int32)) = (244 : Int32) then (143 : Int32) else (191 : Int32))), .val (.int (b1 &&& (255 : Int32))), .val (.int ((p1 + (2 : Int32)) + (1 : Int32)))] [(.int p1), (.int ((p1 + (2 : Int32)) + (1 : Int32)))])) _
                      refine XS.iload X0.here hx rfl (hb hby d1_193) rfl ?_
                      show Steps p.tables e below (s₁.setTop (mkF m 195 #[.val (.ref o0), .val (.int p1), .val (.int p2), .val (.int (b0 &&& (255 : Int32))), .val (.int (4 : Int32)), .val (.int (if (b0 &&& (255 : Int32)) = (240 : Int32) then (144 : Int32) else (128 : Int32))), .val (.int (if (b0 &&& (255 : Int32)) = (244 : Int32) then (143 : Int32) else (191 : Int32))), .val (.int (b1 &&& (255 : Int32))), .val (.int ((p1 + (2 : Int32)) + (1 : Int32)))] [(.int (4 : Int32)), (.int p1), (.int ((p1 + (2 : Int32)) + (1 : Int32)))])) _
                      refine XS.iadd X0.here hx rfl (hb hby d1_195) rfl ?_
                      show Steps p.tables e below (s₁.setTop (mkF m 196 #[.val (.ref o0), .val (.int p1), .val (.int p2), .val (.int (b0 &&& (255 : Int32))), .val (.int (4 : Int32)), .val (.int (if (b0 &&& (255 : Int32)) = (240 : Int32) then (144 : Int32) else (128 : Int32))), .val (.int (if (b0 &&& (255 : Int32)) = (244 : Int32) then (143 : Int32) else (191 : Int32))), .val (.int (b1 &&& (255 : Int32))), .val (.int ((p1 + (2 : Int32)) + (1 : Int32)))] [(.int (p1 + (4 : Int32))), (.int ((p1 + (2 : Int32)) + (1 : Int32)))])) _
                      refine XS.icmpNo X0.here hx rfl (hb hby d1_196) rfl (tlt (own_b1_4 hvs.p : ((p1 + (2 : Int32)) + (1 : Int32)) < (p1 + (4 : Int32)))).2.1 ?_
                      show Steps p.tables e below (s₁.setTop (mkF m 199 #[.val (.ref o0), .val (.int p1), .val (.int p2), .val (.int (b0 &&& (255 : Int32))), .val (.int (4 : Int32)), .val (.int (if (b0 &&& (255 : Int32)) = (240 : Int32) then (144 : Int32) else (128 : Int32))), .val (.int (if (b0 &&& (255 : Int32)) = (244 : Int32) then (143 : Int32) else (191 : Int32))), .val (.int (b1 &&& (255 : Int32))), .val (.int ((p1 + (2 : Int32)) + (1 : Int32)))] [])) _
                      refine XS.aloadN X0.here hx rfl (hb hby d1_199) rfl rfl ?_
                      show Steps p.tables e below (s₁.setTop (mkF m 200 #[.val (.ref o0), .val (.int p1), .val (.int p2), .val (.int (b0 &&& (255 : Int32))), .val (.int (4 : Int32)), .val (.int (if (b0 &&& (255 : Int32)) = (240 : Int32) then (144 : Int32) else (128 : Int32))), .val (.int (if (b0 &&& (255 : Int32)) = (244 : Int32) then (143 : Int32) else (191 : Int32))), .val (.int (b1 &&& (255 : Int32))), .val (.int ((p1 + (2 : Int32)) + (1 : Int32)))] [(.ref o0)])) _
                      refine XS.iload X0.here hx rfl (hb hby d1_200) rfl ?_
                      exact k)
                    have Vo76 := V0
                    obtain ⟨cl76, Ar76, qa76, Sa76, Na76, Ha76, Ga76⟩ := Vo76
                    have hin76 : ¬ (((p1 + (2 : Int32)) + (1 : Int32)) < 0 ∨ cl76.slots.size ≤ (((p1 + (2 : Int32)) + (1 : Int32))).toNatClampNeg) := inb_of Sa76 (own_r3 hvs).1
                    have hat76 : cl76.slots[(((p1 + (2 : Int32)) + (1 : Int32))).toNatClampNeg]? = some (.int b3) := Has.at Ha76 hin76 (own_r3 hvs).2
                    have go78 := go75.step (C := s₁.setTop (mkF m 210 #[.val (.ref o0), .val (.int p1), .val (.int p2), .val (.int (b0 &&& (255 : Int32))), .val (.int (4 : Int32)), .val (.int (if (b0 &&& (255 : Int32)) = (240 : Int32) then (144 : Int32) else (128 : Int32))), .val (.int (if (b0 &&& (255 : Int32)) = (244 : Int32) then (143 : Int32) else (191 : Int32))), .val (.int (b1 &&& (255 : Int32))), .val (.int ((p1 + (2 : Int32)) + (1 : Int32)))] [(.int (128 : Int32)), (.int (b3 &&& (192 : Int32)))])) (fun t k => by
                      show Steps p.tables e below (s₁.setTop (mkF m 202 #[.val (.ref o0), .val (.int p1), .val (.int p2), .val (.int (b0 &&& (255 : Int32))), .val (.int (4 : Int32)), .val (.int (if (b0 &&& (255 : Int32)) = (240 : Int32) then (144 : Int32) else (128 : Int32))), .val (.int (if (b0 &&& (255 : Int32)) = (244 : Int32) then (143 : Int32) else (191 : Int32))), .val (.int (b1 &&& (255 : Int32))), .val (.int ((p1 + (2 : Int32)) + (1 : Int32)))] [(.int ((p1 + (2 : Int32)) + (1 : Int32))), (.ref o0)])) _
                      refine X0.baloadBytes hx (j := ((p1 + (2 : Int32)) + (1 : Int32))) (v := (.int b3)) (by rw [e0]; exact Ar76.1) (State.isArrayOf_alike hZ.alike Ar76.2.1) Ar76.2.2 hin76 hat76 (g := (mkF m 202 #[.val (.ref o0), .val (.int p1), .val (.int p2), .val (.int (b0 &&& (255 : Int32))), .val (.int (4 : Int32)), .val (.int (if (b0 &&& (255 : Int32)) = (240 : Int32) then (144 : Int32) else (128 : Int32))), .val (.int (if (b0 &&& (255 : Int32)) = (244 : Int32) then (143 : Int32) else (191 : Int32))), .val (.int (b1 &&& (255 : Int32))), .val (.int ((p1 + (2 : Int32)) + (1 : Int32)))] [(.int ((p1 + (2 : Int32)) + (1 : Int32))), (.ref o0)])) rfl rfl (hb hby d1_202) _ ?_
                      show Steps p.tables e below (s₁.setTop (mkF m 203 #[.val (.ref o0), .val (.int p1), .val (.int p2), .val (.int (b0 &&& (255 : Int32))), .val (.int (4 : Int32)), .val (.int (if (b0 &&& (255 : Int32)) = (240 : Int32) then (144 : Int32) else (128 : Int32))), .val (.int (if (b0 &&& (255 : Int32)) = (244 : Int32) then (143 : Int32) else (191 : Int32))), .val (.int (b1 &&& (255 : Int32))), .val (.int ((p1 + (2 : Int32)) + (1 : Int32)))] [(.int b3)])) _
                      refine XS.sipush X0.here hx rfl (hb hby d1_203) ?_
                      show Steps p.tables e below (s₁.setTop (mkF m 206 #[.val (.ref o0), .val (.int p1), .val (.int p2), .val (.int (b0 &&& (255 : Int32))), .val (.int (4 : Int32)), .val (.int (if (b0 &&& (255 : Int32)) = (240 : Int32) then (144 : Int32) else (128 : Int32))), .val (.int (if (b0 &&& (255 : Int32)) = (244 : Int32) then (143 : Int32) else (191 : Int32))), .val (.int (b1 &&& (255 : Int32))), .val (.int ((p1 + (2 : Int32)) + (1 : Int32)))] [(.int (192 : Int32)), (.int b3)])) _
                      refine XS.iand X0.here hx rfl (hb hby d1_206) rfl ?_
                      show Steps p.tables e below (s₁.setTop (mkF m 207 #[.val (.ref o0), .val (.int p1), .val (.int p2), .val (.int (b0 &&& (255 : Int32))), .val (.int (4 : Int32)), .val (.int (if (b0 &&& (255 : Int32)) = (240 : Int32) then (144 : Int32) else (128 : Int32))), .val (.int (if (b0 &&& (255 : Int32)) = (244 : Int32) then (143 : Int32) else (191 : Int32))), .val (.int (b1 &&& (255 : Int32))), .val (.int ((p1 + (2 : Int32)) + (1 : Int32)))] [(.int (b3 &&& (192 : Int32)))])) _
                      refine XS.sipush X0.here hx rfl (hb hby d1_207) ?_
                      exact k)
                    by_cases hc77 : (b3 &&& (192 : Int32)) = (128 : Int32)
                    · skip
                      have go80 := go78.step (C := s₁.setTop (mkF m 223 #[.val (.ref o0), .val (.int p1), .val (.int p2), .val (.int (b0 &&& (255 : Int32))), .val (.int (4 : Int32)), .val (.int (if (b0 &&& (255 : Int32)) = (240 : Int32) then (144 : Int32) else (128 : Int32))), .val (.int (if (b0 &&& (255 : Int32)) = (244 : Int32) then (143 : Int32) else (191 : Int32))), .val (.int (b1 &&& (255 : Int32))), .val (.int (((p1 + (2 : Int32)) + (1 : Int32)) + (1 : Int32)))] [(.int (4 : Int32))])) (fun t k => by
                        show Steps p.tables e below (s₁.setTop (mkF m 210 #[.val (.ref o0), .val (.int p1), .val (.int p2), .val (.int (b0 &&& (255 : Int32))), .val (.int (4 : Int32)), .val (.int (if (b0 &&& (255 : Int32)) = (240 : Int32) then (144 : Int32) else (128 : Int32))), .val (.int (if (b0 &&& (255 : Int32)) = (244 : Int32) then (143 : Int32) else (191 : Int32))), .val (.int (b1 &&& (255 : Int32))), .val (.int ((p1 + (2 : Int32)) + (1 : Int32)))] [(.int (128 : Int32)), (.int (b3 &&& (192 : Int32)))])) _
                        refine XS.icmpYes X0.here hx rfl (pc0 := 210) (pc' := 215) rfl (hb hby d1_210) rfl (teq hc77).1 (by decide) (by decide) ?_
                        show Steps p.tables e below (s₁.setTop (mkF m 215 #[.val (.ref o0), .val (.int p1), .val (.int p2), .val (.int (b0 &&& (255 : Int32))), .val (.int (4 : Int32)), .val (.int (if (b0 &&& (255 : Int32)) = (240 : Int32) then (144 : Int32) else (128 : Int32))), .val (.int (if (b0 &&& (255 : Int32)) = (244 : Int32) then (143 : Int32) else (191 : Int32))), .val (.int (b1 &&& (255 : Int32))), .val (.int ((p1 + (2 : Int32)) + (1 : Int32)))] [])) _
                        refine XS.iinc X0.here hx rfl (hb hby d1_215) rfl (l' := #[.val (.ref o0), .val (.int p1), .val (.int p2), .val (.int (b0 &&& (255 : Int32))), .val (.int (4 : Int32)), .val (.int (if (b0 &&& (255 : Int32)) = (240 : Int32) then (144 : Int32) else (128 : Int32))), .val (.int (if (b0 &&& (255 : Int32)) = (244 : Int32) then (143 : Int32) else (191 : Int32))), .val (.int (b1 &&& (255 : Int32))), .val (.int (((p1 + (2 : Int32)) + (1 : Int32)) + (1 : Int32)))]) rfl ?_
                        show Steps p.tables e below (s₁.setTop (mkF m 218 #[.val (.ref o0), .val (.int p1), .val (.int p2), .val (.int (b0 &&& (255 : Int32))), .val (.int (4 : Int32)), .val (.int (if (b0 &&& (255 : Int32)) = (240 : Int32) then (144 : Int32) else (128 : Int32))), .val (.int (if (b0 &&& (255 : Int32)) = (244 : Int32) then (143 : Int32) else (191 : Int32))), .val (.int (b1 &&& (255 : Int32))), .val (.int (((p1 + (2 : Int32)) + (1 : Int32)) + (1 : Int32)))] [])) _
                        refine XS.goto X0.here hx rfl (pc0 := 218) (pc' := 190) rfl (hb hby d1_218) (by decide) (by decide) ?_
                        show Steps p.tables e below (s₁.setTop (mkF m 190 #[.val (.ref o0), .val (.int p1), .val (.int p2), .val (.int (b0 &&& (255 : Int32))), .val (.int (4 : Int32)), .val (.int (if (b0 &&& (255 : Int32)) = (240 : Int32) then (144 : Int32) else (128 : Int32))), .val (.int (if (b0 &&& (255 : Int32)) = (244 : Int32) then (143 : Int32) else (191 : Int32))), .val (.int (b1 &&& (255 : Int32))), .val (.int (((p1 + (2 : Int32)) + (1 : Int32)) + (1 : Int32)))] [])) _
                        refine XS.iload X0.here hx rfl (hb hby d1_190) rfl ?_
                        show Steps p.tables e below (s₁.setTop (mkF m 192 #[.val (.ref o0), .val (.int p1), .val (.int p2), .val (.int (b0 &&& (255 : Int32))), .val (.int (4 : Int32)), .val (.int (if (b0 &&& (255 : Int32)) = (240 : Int32) then (144 : Int32) else (128 : Int32))), .val (.int (if (b0 &&& (255 : Int32)) = (244 : Int32) then (143 : Int32) else (191 : Int32))), .val (.int (b1 &&& (255 : Int32))), .val (.int (((p1 + (2 : Int32)) + (1 : Int32)) + (1 : Int32)))] [(.int (((p1 + (2 : Int32)) + (1 : Int32)) + (1 : Int32)))])) _
                        refine XS.iloadN X0.here hx rfl (hb hby d1_192) rfl ?_
                        show Steps p.tables e below (s₁.setTop (mkF m 193 #[.val (.ref o0), .val (.int p1), .val (.int p2), .val (.int (b0 &&& (255 : Int32))), .val (.int (4 : Int32)), .val (.int (if (b0 &&& (255 : Int32)) = (240 : Int32) then (144 : Int32) else (128 : Int32))), .val (.int (if (b0 &&& (255 : Int32)) = (244 : Int32) then (143 : Int32) else (191 : Int32))), .val (.int (b1 &&& (255 : Int32))), .val (.int (((p1 + (2 : Int32)) + (1 : Int32)) + (1 : Int32)))] [(.int p1), (.int (((p1 + (2 : Int32)) + (1 : Int32)) + (1 : Int32)))])) _
                        refine XS.iload X0.here hx rfl (hb hby d1_193) rfl ?_
                        show Steps p.tables e below (s₁.setTop (mkF m 195 #[.val (.ref o0), .val (.int p1), .val (.int p2), .val (.int (b0 &&& (255 : Int32))), .val (.int (4 : Int32)), .val (.int (if (b0 &&& (255 : Int32)) = (240 : Int32) then (144 : Int32) else (128 : Int32))), .val (.int (if (b0 &&& (255 : Int32)) = (244 : Int32) then (143 : Int32) else (191 : Int32))), .val (.int (b1 &&& (255 : Int32))), .val (.int (((p1 + (2 : Int32)) + (1 : Int32)) + (1 : Int32)))] [(.int (4 : Int32)), (.int p1), (.int (((p1 + (2 : Int32)) + (1 : Int32)) + (1 : Int32)))])) _
                        refine XS.iadd X0.here hx rfl (hb hby d1_195) rfl ?_
                        show Steps p.tables e below (s₁.setTop (mkF m 196 #[.val (.ref o0), .val (.int p1), .val (.int p2), .val (.int (b0 &&& (255 : Int32))), .val (.int (4 : Int32)), .val (.int (if (b0 &&& (255 : Int32)) = (240 : Int32) then (144 : Int32) else (128 : Int32))), .val (.int (if (b0 &&& (255 : Int32)) = (244 : Int32) then (143 : Int32) else (191 : Int32))), .val (.int (b1 &&& (255 : Int32))), .val (.int (((p1 + (2 : Int32)) + (1 : Int32)) + (1 : Int32)))] [(.int (p1 + (4 : Int32))), (.int (((p1 + (2 : Int32)) + (1 : Int32)) + (1 : Int32)))])) _
                        refine XS.icmpYes X0.here hx rfl (pc0 := 196) (pc' := 221) rfl (hb hby d1_196) rfl (flt (own_b2_4 hvs.p : ¬ ((((p1 + (2 : Int32)) + (1 : Int32)) + (1 : Int32)) < (p1 + (4 : Int32))))).2.1 (by decide) (by decide) ?_
                        show Steps p.tables e below (s₁.setTop (mkF m 221 #[.val (.ref o0), .val (.int p1), .val (.int p2), .val (.int (b0 &&& (255 : Int32))), .val (.int (4 : Int32)), .val (.int (if (b0 &&& (255 : Int32)) = (240 : Int32) then (144 : Int32) else (128 : Int32))), .val (.int (if (b0 &&& (255 : Int32)) = (244 : Int32) then (143 : Int32) else (191 : Int32))), .val (.int (b1 &&& (255 : Int32))), .val (.int (((p1 + (2 : Int32)) + (1 : Int32)) + (1 : Int32)))] [])) _
                        refine XS.iload X0.here hx rfl (hb hby d1_221) rfl ?_
                        exact k)
                      obtain ⟨fs, hr, hrun, hended, hW, hsame⟩ := X0.leave (v := some (.int (4 : Int32))) (fun h => by rw [Bd.returns] at h; cases h)
                      refine ⟨_, _, go80 _ ?_, hrun, hended, _, _, rfl, ?_, ⟨_, rfl⟩, hW, hsame.mono (by decide) (by decide)⟩
                      · exact own_retI X0 hx Bd.returns (hb hby d1_223) hr
                      · show Q_rm1 Z o0 p1 p2 ka vs b0 b1 b2 b3 h0 n0 _ s₁.heap _
                        rw [e0]
                        exact ⟨by unfold own_len; simp only [if_pos hc3, if_neg hc5, if_pos hc44, if_neg hc46, if_neg hc49, if_neg hc58, if_neg hc63, if_neg hc66, if_pos hc72, if_pos hc77], N0, rfl⟩
                    · skip
                      have go81 := go78.step (C := s₁.setTop (mkF m 214 #[.val (.ref o0), .val (.int p1), .val (.int p2), .val (.int (b0 &&& (255 : Int32))), .val (.int (4 : Int32)), .val (.int (if (b0 &&& (255 : Int32)) = (240 : Int32) then (144 : Int32) else (128 : Int32))), .val (.int (if (b0 &&& (255 : Int32)) = (244 : Int32) then (143 : Int32) else (191 : Int32))), .val (.int (b1 &&& (255 : Int32))), .val (.int ((p1 + (2 : Int32)) + (1 : Int32)))] [(.int (-1 : Int32))])) (fun t k => by
                        show Steps p.tables e below (s₁.setTop (mkF m 210 #[.val (.ref o0), .val (.int p1), .val (.int p2), .val (.int (b0 &&& (255 : Int32))), .val (.int (4 : Int32)), .val (.int (if (b0 &&& (255 : Int32)) = (240 : Int32) then (144 : Int32) else (128 : Int32))), .val (.int (if (b0 &&& (255 : Int32)) = (244 : Int32) then (143 : Int32) else (191 : Int32))), .val (.int (b1 &&& (255 : Int32))), .val (.int ((p1 + (2 : Int32)) + (1 : Int32)))] [(.int (128 : Int32)), (.int (b3 &&& (192 : Int32)))])) _
                        refine XS.icmpNo X0.here hx rfl (hb hby d1_210) rfl (feq hc77).1 ?_
                        show Steps p.tables e below (s₁.setTop (mkF m 213 #[.val (.ref o0), .val (.int p1), .val (.int p2), .val (.int (b0 &&& (255 : Int32))), .val (.int (4 : Int32)), .val (.int (if (b0 &&& (255 : Int32)) = (240 : Int32) then (144 : Int32) else (128 : Int32))), .val (.int (if (b0 &&& (255 : Int32)) = (244 : Int32) then (143 : Int32) else (191 : Int32))), .val (.int (b1 &&& (255 : Int32))), .val (.int ((p1 + (2 : Int32)) + (1 : Int32)))] [])) _
                        refine XS.iconst X0.here hx rfl (hb hby d1_213) ?_
                        exact k)
                      obtain ⟨fs, hr, hrun, hended, hW, hsame⟩ := X0.leave (v := some (.int (-1 : Int32))) (fun h => by rw [Bd.returns] at h; cases h)
                      refine ⟨_, _, go81 _ ?_, hrun, hended, _, _, rfl, ?_, ⟨_, rfl⟩, hW, hsame.mono (by decide) (by decide)⟩
                      · exact own_retI X0 hx Bd.returns (hb hby d1_214) hr
                      · show Q_rm1 Z o0 p1 p2 ka vs b0 b1 b2 b3 h0 n0 _ s₁.heap _
                        rw [e0]
                        exact ⟨by unfold own_len; simp only [if_pos hc3, if_neg hc5, if_pos hc44, if_neg hc46, if_neg hc49, if_neg hc58, if_neg hc63, if_neg hc66, if_pos hc72, if_neg hc77], N0, rfl⟩
                  · skip
                    have go82 := go73.step (C := s₁.setTop (mkF m 214 #[.val (.ref o0), .val (.int p1), .val (.int p2), .val (.int (b0 &&& (255 : Int32))), .val (.int (4 : Int32)), .val (.int (if (b0 &&& (255 : Int32)) = (240 : Int32) then (144 : Int32) else (128 : Int32))), .val (.int (if (b0 &&& (255 : Int32)) = (244 : Int32) then (143 : Int32) else (191 : Int32))), .val (.int (b1 &&& (255 : Int32))), .val (.int (p1 + (2 : Int32)))] [(.int (-1 : Int32))])) (fun t k => by
                      show Steps p.tables e below (s₁.setTop (mkF m 210 #[.val (.ref o0), .val (.int p1), .val (.int p2), .val (.int (b0 &&& (255 : Int32))), .val (.int (4 : Int32)), .val (.int (if (b0 &&& (255 : Int32)) = (240 : Int32) then (144 : Int32) else (128 : Int32))), .val (.int (if (b0 &&& (255 : Int32)) = (244 : Int32) then (143 : Int32) else (191 : Int32))), .val (.int (b1 &&& (255 : Int32))), .val (.int (p1 + (2 : Int32)))] [(.int (128 : Int32)), (.int (b2 &&& (192 : Int32)))])) _
                      refine XS.icmpNo X0.here hx rfl (hb hby d1_210) rfl (feq hc72).1 ?_
                      show Steps p.tables e below (s₁.setTop (mkF m 213 #[.val (.ref o0), .val (.int p1), .val (.int p2), .val (.int (b0 &&& (255 : Int32))), .val (.int (4 : Int32)), .val (.int (if (b0 &&& (255 : Int32)) = (240 : Int32) then (144 : Int32) else (128 : Int32))), .val (.int (if (b0 &&& (255 : Int32)) = (244 : Int32) then (143 : Int32) else (191 : Int32))), .val (.int (b1 &&& (255 : Int32))), .val (.int (p1 + (2 : Int32)))] [])) _
                      refine XS.iconst X0.here hx rfl (hb hby d1_213) ?_
                      exact k)
                    obtain ⟨fs, hr, hrun, hended, hW, hsame⟩ := X0.leave (v := some (.int (-1 : Int32))) (fun h => by rw [Bd.returns] at h; cases h)
                    refine ⟨_, _, go82 _ ?_, hrun, hended, _, _, rfl, ?_, ⟨_, rfl⟩, hW, hsame.mono (by decide) (by decide)⟩
                    · exact own_retI X0 hx Bd.returns (hb hby d1_214) hr
                    · show Q_rm1 Z o0 p1 p2 ka vs b0 b1 b2 b3 h0 n0 _ s₁.heap _
                      rw [e0]
                      exact ⟨by unfold own_len; simp only [if_pos hc3, if_neg hc5, if_pos hc44, if_neg hc46, if_neg hc49, if_neg hc58, if_neg hc63, if_neg hc66, if_neg hc72], N0, rfl⟩
      · skip
        have go83 := go45.step (C := s₁.setTop (mkF m 59 #[.val (.ref o0), .val (.int p1), .val (.int p2), .val (.int (b0 &&& (255 : Int32))), .val (.int (3 : Int32)), .val (.int (128 : Int32)), .val (.int (191 : Int32)), .unset, .unset] [(.int (224 : Int32)), (.int (b0 &&& (255 : Int32)))])) (fun t k => by
          show Steps p.tables e below (s₁.setTop (mkF m 49 #[.val (.ref o0), .val (.int p1), .val (.int p2), .val (.int (b0 &&& (255 : Int32))), .unset, .val (.int (128 : Int32)), .val (.int (191 : Int32)), .unset, .unset] [(.int (239 : Int32)), (.int (b0 &&& (255 : Int32)))])) _
          refine XS.icmpNo X0.here hx rfl (hb hby d1_49) rfl (flt hc44).2.2.1 ?_
          show Steps p.tables e below (s₁.setTop (mkF m 52 #[.val (.ref o0), .val (.int p1), .val (.int p2), .val (.int (b0 &&& (255 : Int32))), .unset, .val (.int (128 : Int32)), .val (.int (191 : Int32)), .unset, .unset] [])) _
          refine XS.iconst X0.here hx rfl (hb hby d1_52) ?_
          show Steps p.tables e below (s₁.setTop (mkF m 53 #[.val (.ref o0), .val (.int p1), .val (.int p2), .val (.int (b0 &&& (255 : Int32))), .unset, .val (.int (128 : Int32)), .val (.int (191 : Int32)), .unset, .unset] [(.int (3 : Int32))])) _
          refine XS.istore X0.here hx rfl (hb hby d1_53) rfl (l' := #[.val (.ref o0), .val (.int p1), .val (.int p2), .val (.int (b0 &&& (255 : Int32))), .val (.int (3 : Int32)), .val (.int (128 : Int32)), .val (.int (191 : Int32)), .unset, .unset]) rfl ?_
          show Steps p.tables e below (s₁.setTop (mkF m 55 #[.val (.ref o0), .val (.int p1), .val (.int p2), .val (.int (b0 &&& (255 : Int32))), .val (.int (3 : Int32)), .val (.int (128 : Int32)), .val (.int (191 : Int32)), .unset, .unset] [])) _
          refine XS.iloadN X0.here hx rfl (hb hby d1_55) rfl ?_
          show Steps p.tables e below (s₁.setTop (mkF m 56 #[.val (.ref o0), .val (.int p1), .val (.int p2), .val (.int (b0 &&& (255 : Int32))), .val (.int (3 : Int32)), .val (.int (128 : Int32)), .val (.int (191 : Int32)), .unset, .unset] [(.int (b0 &&& (255 : Int32)))])) _
          refine XS.sipush X0.here hx rfl (hb hby d1_56) ?_
          exact k)
        have go85 := go83.step (C := s₁.setTop (mkF m 70 #[.val (.ref o0), .val (.int p1), .val (.int p2), .val (.int (b0 &&& (255 : Int32))), .val (.int (3 : Int32)), .val (.int (128 : Int32)), .val (.int (191 : Int32)), .unset, .unset] [(.int (if (b0 &&& (255 : Int32)) = (224 : Int32) then (160 : Int32) else (128 : Int32)))])) (fun t k => by
          by_cases hc84 : (b0 &&& (255 : Int32)) = (224 : Int32)
          · skip
            try simp only [if_pos hc84] at k
            show Steps p.tables e below (s₁.setTop (mkF m 59 #[.val (.ref o0), .val (.int p1), .val (.int p2), .val (.int (b0 &&& (255 : Int32))), .val (.int (3 : Int32)), .val (.int (128 : Int32)), .val (.int (191 : Int32)), .unset, .unset] [(.int (224 : Int32)), (.int (b0 &&& (255 : Int32)))])) _
            refine XS.icmpNo X0.here hx rfl (hb hby d1_59) rfl (teq hc84).2 ?_
            show Steps p.tables e below (s₁.setTop (mkF m 62 #[.val (.ref o0), .val (.int p1), .val (.int p2), .val (.int (b0 &&& (255 : Int32))), .val (.int (3 : Int32)), .val (.int (128 : Int32)), .val (.int (191 : Int32)), .unset, .unset] [])) _
            refine XS.sipush X0.here hx rfl (hb hby d1_62) ?_
            show Steps p.tables e below (s₁.setTop (mkF m 65 #[.val (.ref o0), .val (.int p1), .val (.int p2), .val (.int (b0 &&& (255 : Int32))), .val (.int (3 : Int32)), .val (.int (128 : Int32)), .val (.int (191 : Int32)), .unset, .unset] [(.int (160 : Int32))])) _
            refine XS.goto X0.here hx rfl (pc0 := 65) (pc' := 70) rfl (hb hby d1_65) (by decide) (by decide) ?_
            exact k
          · skip
            try simp only [if_neg hc84] at k
            show Steps p.tables e below (s₁.setTop (mkF m 59 #[.val (.ref o0), .val (.int p1), .val (.int p2), .val (.int (b0 &&& (255 : Int32))), .val (.int (3 : Int32)), .val (.int (128 : Int32)), .val (.int (191 : Int32)), .unset, .unset] [(.int (224 : Int32)), (.int (b0 &&& (255 : Int32)))])) _
            refine XS.icmpYes X0.here hx rfl (pc0 := 59) (pc' := 68) rfl (hb hby d1_59) rfl (feq hc84).2 (by decide) (by decide) ?_
            show Steps p.tables e below (s₁.setTop (mkF m 68 #[.val (.ref o0), .val (.int p1), .val (.int p2), .val (.int (b0 &&& (255 : Int32))), .val (.int (3 : Int32)), .val (.int (128 : Int32)), .val (.int (191 : Int32)), .unset, .unset] [])) _
            refine XS.iload X0.here hx rfl (hb hby d1_68) rfl ?_
            exact k
          )
        have go86 := go85.step (C := s₁.setTop (mkF m 76 #[.val (.ref o0), .val (.int p1), .val (.int p2), .val (.int (b0 &&& (255 : Int32))), .val (.int (3 : Int32)), .val (.int (if (b0 &&& (255 : Int32)) = (224 : Int32) then (160 : Int32) else (128 : Int32))), .val (.int (191 : Int32)), .unset, .unset] [(.int (237 : Int32)), (.int (b0 &&& (255 : Int32)))])) (fun t k => by
          show Steps p.tables e below (s₁.setTop (mkF m 70 #[.val (.ref o0), .val (.int p1), .val (.int p2), .val (.int (b0 &&& (255 : Int32))), .val (.int (3 : Int32)), .val (.int (128 : Int32)), .val (.int (191 : Int32)), .unset, .unset] [(.int (if (b0 &&& (255 : Int32)) = (224 : Int32) then (160 : Int32) else (128 : Int32)))])) _
          refine XS.istore X0.here hx rfl (hb hby d1_70) rfl (l' := #[.val (.ref o0), .val (.int p1), .val (.int p2), .val (.int (b0 &&& (255 : Int32))), .val (.int (3 : Int32)), .val (.int (if (b0 &&& (255 : Int32)) = (224 : Int32) then (160 : Int32) else (128 : Int32))), .val (.int (191 : Int32)), .unset, .unset]) rfl ?_
          show Steps p.tables e below (s₁.setTop (mkF m 72 #[.val (.ref o0), .val (.int p1), .val (.int p2), .val (.int (b0 &&& (255 : Int32))), .val (.int (3 : Int32)), .val (.int (if (b0 &&& (255 : Int32)) = (224 : Int32) then (160 : Int32) else (128 : Int32))), .val (.int (191 : Int32)), .unset, .unset] [])) _
          refine XS.iloadN X0.here hx rfl (hb hby d1_72) rfl ?_
          show Steps p.tables e below (s₁.setTop (mkF m 73 #[.val (.ref o0), .val (.int p1), .val (.int p2), .val (.int (b0 &&& (255 : Int32))), .val (.int (3 : Int32)), .val (.int (if (b0 &&& (255 : Int32)) = (224 : Int32) then (160 : Int32) else (128 : Int32))), .val (.int (191 : Int32)), .unset, .unset] [(.int (b0 &&& (255 : Int32)))])) _
          refine XS.sipush X0.here hx rfl (hb hby d1_73) ?_
          exact k)
        have go88 := go86.step (C := s₁.setTop (mkF m 87 #[.val (.ref o0), .val (.int p1), .val (.int p2), .val (.int (b0 &&& (255 : Int32))), .val (.int (3 : Int32)), .val (.int (if (b0 &&& (255 : Int32)) = (224 : Int32) then (160 : Int32) else (128 : Int32))), .val (.int (191 : Int32)), .unset, .unset] [(.int (if (b0 &&& (255 : Int32)) = (237 : Int32) then (159 : Int32) else (191 : Int32)))])) (fun t k => by
          by_cases hc87 : (b0 &&& (255 : Int32)) = (237 : Int32)
          · skip
            try simp only [if_pos hc87] at k
            show Steps p.tables e below (s₁.setTop (mkF m 76 #[.val (.ref o0), .val (.int p1), .val (.int p2), .val (.int (b0 &&& (255 : Int32))), .val (.int (3 : Int32)), .val (.int (if (b0 &&& (255 : Int32)) = (224 : Int32) then (160 : Int32) else (128 : Int32))), .val (.int (191 : Int32)), .unset, .unset] [(.int (237 : Int32)), (.int (b0 &&& (255 : Int32)))])) _
            refine XS.icmpNo X0.here hx rfl (hb hby d1_76) rfl (teq hc87).2 ?_
            show Steps p.tables e below (s₁.setTop (mkF m 79 #[.val (.ref o0), .val (.int p1), .val (.int p2), .val (.int (b0 &&& (255 : Int32))), .val (.int (3 : Int32)), .val (.int (if (b0 &&& (255 : Int32)) = (224 : Int32) then (160 : Int32) else (128 : Int32))), .val (.int (191 : Int32)), .unset, .unset] [])) _
            refine XS.sipush X0.here hx rfl (hb hby d1_79) ?_
            show Steps p.tables e below (s₁.setTop (mkF m 82 #[.val (.ref o0), .val (.int p1), .val (.int p2), .val (.int (b0 &&& (255 : Int32))), .val (.int (3 : Int32)), .val (.int (if (b0 &&& (255 : Int32)) = (224 : Int32) then (160 : Int32) else (128 : Int32))), .val (.int (191 : Int32)), .unset, .unset] [(.int (159 : Int32))])) _
            refine XS.goto X0.here hx rfl (pc0 := 82) (pc' := 87) rfl (hb hby d1_82) (by decide) (by decide) ?_
            exact k
          · skip
            try simp only [if_neg hc87] at k
            show Steps p.tables e below (s₁.setTop (mkF m 76 #[.val (.ref o0), .val (.int p1), .val (.int p2), .val (.int (b0 &&& (255 : Int32))), .val (.int (3 : Int32)), .val (.int (if (b0 &&& (255 : Int32)) = (224 : Int32) then (160 : Int32) else (128 : Int32))), .val (.int (191 : Int32)), .unset, .unset] [(.int (237 : Int32)), (.int (b0 &&& (255 : Int32)))])) _
            refine XS.icmpYes X0.here hx rfl (pc0 := 76) (pc' := 85) rfl (hb hby d1_76) rfl (feq hc87).2 (by decide) (by decide) ?_
            show Steps p.tables e below (s₁.setTop (mkF m 85 #[.val (.ref o0), .val (.int p1), .val (.int p2), .val (.int (b0 &&& (255 : Int32))), .val (.int (3 : Int32)), .val (.int (if (b0 &&& (255 : Int32)) = (224 : Int32) then (160 : Int32) else (128 : Int32))), .val (.int (191 : Int32)), .unset, .unset] [])) _
            refine XS.iload X0.here hx rfl (hb hby d1_85) rfl ?_
            exact k
          )
        have go90 := go88.step (C := s₁.setTop (mkF m 153 #[.val (.ref o0), .val (.int p1), .val (.int p2), .val (.int (b0 &&& (255 : Int32))), .val (.int (3 : Int32)), .val (.int (if (b0 &&& (255 : Int32)) = (224 : Int32) then (160 : Int32) else (128 : Int32))), .val (.int (if (b0 &&& (255 : Int32)) = (237 : Int32) then (159 : Int32) else (191 : Int32))), .unset, .unset] [(.int p2), (.int (p1 + (3 : Int32)))])) (fun t k => by
          show Steps p.tables e below (s₁.setTop (mkF m 87 #[.val (.ref o0), .val (.int p1), .val (.int p2), .val (.int (b0 &&& (255 : Int32))), .val (.int (3 : Int32)), .val (.int (if (b0 &&& (255 : Int32)) = (224 : Int32) then (160 : Int32) else (128 : Int32))), .val (.int (191 : Int32)), .unset, .unset] [(.int (if (b0 &&& (255 : Int32)) = (237 : Int32) then (159 : Int32) else (191 : Int32)))])) _
          refine XS.istore X0.here hx rfl (hb hby d1_87) rfl (l' := #[.val (.ref o0), .val (.int p1), .val (.int p2), .val (.int (b0 &&& (255 : Int32))), .val (.int (3 : Int32)), .val (.int (if (b0 &&& (255 : Int32)) = (224 : Int32) then (160 : Int32) else (128 : Int32))), .val (.int (if (b0 &&& (255 : Int32)) = (237 : Int32) then (159 : Int32) else (191 : Int32))), .unset, .unset]) rfl ?_
          show Steps p.tables e below (s₁.setTop (mkF m 89 #[.val (.ref o0), .val (.int p1), .val (.int p2), .val (.int (b0 &&& (255 : Int32))), .val (.int (3 : Int32)), .val (.int (if (b0 &&& (255 : Int32)) = (224 : Int32) then (160 : Int32) else (128 : Int32))), .val (.int (if (b0 &&& (255 : Int32)) = (237 : Int32) then (159 : Int32) else (191 : Int32))), .unset, .unset] [])) _
          refine XS.goto X0.here hx rfl (pc0 := 89) (pc' := 148) rfl (hb hby d1_89) (by decide) (by decide) ?_
          show Steps p.tables e below (s₁.setTop (mkF m 148 #[.val (.ref o0), .val (.int p1), .val (.int p2), .val (.int (b0 &&& (255 : Int32))), .val (.int (3 : Int32)), .val (.int (if (b0 &&& (255 : Int32)) = (224 : Int32) then (160 : Int32) else (128 : Int32))), .val (.int (if (b0 &&& (255 : Int32)) = (237 : Int32) then (159 : Int32) else (191 : Int32))), .unset, .unset] [])) _
          refine XS.iloadN X0.here hx rfl (hb hby d1_148) rfl ?_
          show Steps p.tables e below (s₁.setTop (mkF m 149 #[.val (.ref o0), .val (.int p1), .val (.int p2), .val (.int (b0 &&& (255 : Int32))), .val (.int (3 : Int32)), .val (.int (if (b0 &&& (255 : Int32)) = (224 : Int32) then (160 : Int32) else (128 : Int32))), .val (.int (if (b0 &&& (255 : Int32)) = (237 : Int32) then (159 : Int32) else (191 : Int32))), .unset, .unset] [(.int p1)])) _
          refine XS.iload X0.here hx rfl (hb hby d1_149) rfl ?_
          show Steps p.tables e below (s₁.setTop (mkF m 151 #[.val (.ref o0), .val (.int p1), .val (.int p2), .val (.int (b0 &&& (255 : Int32))), .val (.int (3 : Int32)), .val (.int (if (b0 &&& (255 : Int32)) = (224 : Int32) then (160 : Int32) else (128 : Int32))), .val (.int (if (b0 &&& (255 : Int32)) = (237 : Int32) then (159 : Int32) else (191 : Int32))), .unset, .unset] [(.int (3 : Int32)), (.int p1)])) _
          refine XS.iadd X0.here hx rfl (hb hby d1_151) rfl ?_
          show Steps p.tables e below (s₁.setTop (mkF m 152 #[.val (.ref o0), .val (.int p1), .val (.int p2), .val (.int (b0 &&& (255 : Int32))), .val (.int (3 : Int32)), .val (.int (if (b0 &&& (255 : Int32)) = (224 : Int32) then (160 : Int32) else (128 : Int32))), .val (.int (if (b0 &&& (255 : Int32)) = (237 : Int32) then (159 : Int32) else (191 : Int32))), .unset, .unset] [(.int (p1 + (3 : Int32)))])) _
          refine XS.iloadN X0.here hx rfl (hb hby d1_152) rfl ?_
          exact k)
        by_cases hc89 : p2 < (p1 + (3 : Int32))
        · skip
          have go91 := go90.step (C := s₁.setTop (mkF m 157 #[.val (.ref o0), .val (.int p1), .val (.int p2), .val (.int (b0 &&& (255 : Int32))), .val (.int (3 : Int32)), .val (.int (if (b0 &&& (255 : Int32)) = (224 : Int32) then (160 : Int32) else (128 : Int32))), .val (.int (if (b0 &&& (255 : Int32)) = (237 : Int32) then (159 : Int32) else (191 : Int32))), .unset, .unset] [(.int (-1 : Int32))])) (fun t k => by
            show Steps p.tables e below (s₁.setTop (mkF m 153 #[.val (.ref o0), .val (.int p1), .val (.int p2), .val (.int (b0 &&& (255 : Int32))), .val (.int (3 : Int32)), .val (.int (if (b0 &&& (255 : Int32)) = (224 : Int32) then (160 : Int32) else (128 : Int32))), .val (.int (if (b0 &&& (255 : Int32)) = (237 : Int32) then (159 : Int32) else (191 : Int32))), .unset, .unset] [(.int p2), (.int (p1 + (3 : Int32)))])) _
            refine XS.icmpNo X0.here hx rfl (hb hby d1_153) rfl (tlt hc89).2.2.2 ?_
            show Steps p.tables e below (s₁.setTop (mkF m 156 #[.val (.ref o0), .val (.int p1), .val (.int p2), .val (.int (b0 &&& (255 : Int32))), .val (.int (3 : Int32)), .val (.int (if (b0 &&& (255 : Int32)) = (224 : Int32) then (160 : Int32) else (128 : Int32))), .val (.int (if (b0 &&& (255 : Int32)) = (237 : Int32) then (159 : Int32) else (191 : Int32))), .unset, .unset] [])) _
            refine XS.iconst X0.here hx rfl (hb hby d1_156) ?_
            exact k)
          obtain ⟨fs, hr, hrun, hended, hW, hsame⟩ := X0.leave (v := some (.int (-1 : Int32))) (fun h => by rw [Bd.returns] at h; cases h)
          refine ⟨_, _, go91 _ ?_, hrun, hended, _, _, rfl, ?_, ⟨_, rfl⟩, hW, hsame.mono (by decide) (by decide)⟩
          · exact own_retI X0 hx Bd.returns (hb hby d1_157) hr
          · show Q_rm1 Z o0 p1 p2 ka vs b0 b1 b2 b3 h0 n0 _ s₁.heap _
            rw [e0]
            exact ⟨by unfold own_len; simp only [if_pos hc3, if_neg hc5, if_neg hc44, if_pos hc89], N0, rfl⟩
        · skip
          have go92 := go90.step (C := s₁.setTop (mkF m 162 #[.val (.ref o0), .val (.int p1), .val (.int p2), .val (.int (b0 &&& (255 : Int32))), .val (.int (3 : Int32)), .val (.int (if (b0 &&& (255 : Int32)) = (224 : Int32) then (160 : Int32) else (128 : Int32))), .val (.int (if (b0 &&& (255 : Int32)) = (237 : Int32) then (159 : Int32) else (191 : Int32))), .unset, .unset] [(.int (p1 + (1 : Int32))), (.ref o0)])) (fun t k => by
            show Steps p.tables e below (s₁.setTop (mkF m 153 #[.val (.ref o0), .val (.int p1), .val (.int p2), .val (.int (b0 &&& (255 : Int32))), .val (.int (3 : Int32)), .val (.int (if (b0 &&& (255 : Int32)) = (224 : Int32) then (160 : Int32) else (128 : Int32))), .val (.int (if (b0 &&& (255 : Int32)) = (237 : Int32) then (159 : Int32) else (191 : Int32))), .unset, .unset] [(.int p2), (.int (p1 + (3 : Int32)))])) _
            refine XS.icmpYes X0.here hx rfl (pc0 := 153) (pc' := 158) rfl (hb hby d1_153) rfl (flt hc89).2.2.2 (by decide) (by decide) ?_
            show Steps p.tables e below (s₁.setTop (mkF m 158 #[.val (.ref o0), .val (.int p1), .val (.int p2), .val (.int (b0 &&& (255 : Int32))), .val (.int (3 : Int32)), .val (.int (if (b0 &&& (255 : Int32)) = (224 : Int32) then (160 : Int32) else (128 : Int32))), .val (.int (if (b0 &&& (255 : Int32)) = (237 : Int32) then (159 : Int32) else (191 : Int32))), .unset, .unset] [])) _
            refine XS.aloadN X0.here hx rfl (hb hby d1_158) rfl rfl ?_
            show Steps p.tables e below (s₁.setTop (mkF m 159 #[.val (.ref o0), .val (.int p1), .val (.int p2), .val (.int (b0 &&& (255 : Int32))), .val (.int (3 : Int32)), .val (.int (if (b0 &&& (255 : Int32)) = (224 : Int32) then (160 : Int32) else (128 : Int32))), .val (.int (if (b0 &&& (255 : Int32)) = (237 : Int32) then (159 : Int32) else (191 : Int32))), .unset, .unset] [(.ref o0)])) _
            refine XS.iloadN X0.here hx rfl (hb hby d1_159) rfl ?_
            show Steps p.tables e below (s₁.setTop (mkF m 160 #[.val (.ref o0), .val (.int p1), .val (.int p2), .val (.int (b0 &&& (255 : Int32))), .val (.int (3 : Int32)), .val (.int (if (b0 &&& (255 : Int32)) = (224 : Int32) then (160 : Int32) else (128 : Int32))), .val (.int (if (b0 &&& (255 : Int32)) = (237 : Int32) then (159 : Int32) else (191 : Int32))), .unset, .unset] [(.int p1), (.ref o0)])) _
            refine XS.iconst X0.here hx rfl (hb hby d1_160) ?_
            show Steps p.tables e below (s₁.setTop (mkF m 161 #[.val (.ref o0), .val (.int p1), .val (.int p2), .val (.int (b0 &&& (255 : Int32))), .val (.int (3 : Int32)), .val (.int (if (b0 &&& (255 : Int32)) = (224 : Int32) then (160 : Int32) else (128 : Int32))), .val (.int (if (b0 &&& (255 : Int32)) = (237 : Int32) then (159 : Int32) else (191 : Int32))), .unset, .unset] [(.int (1 : Int32)), (.int p1), (.ref o0)])) _
            refine XS.iadd X0.here hx rfl (hb hby d1_161) rfl ?_
            exact k)
          have Vo93 := V0
          obtain ⟨cl93, Ar93, qa93, Sa93, Na93, Ha93, Ga93⟩ := Vo93
          have hin93 : ¬ ((p1 + (1 : Int32)) < 0 ∨ cl93.slots.size ≤ ((p1 + (1 : Int32))).toNatClampNeg) := inb_of Sa93 (own_r1 hvs).1
          have hat93 : cl93.slots[((p1 + (1 : Int32))).toNatClampNeg]? = some (.int b1) := Has.at Ha93 hin93 (own_r1 hvs).2
          have go95 := go92.step (C := s₁.setTop (mkF m 173 #[.val (.ref o0), .val (.int p1), .val (.int p2), .val (.int (b0 &&& (255 : Int32))), .val (.int (3 : Int32)), .val (.int (if (b0 &&& (255 : Int32)) = (224 : Int32) then (160 : Int32) else (128 : Int32))), .val (.int (if (b0 &&& (255 : Int32)) = (237 : Int32) then (159 : Int32) else (191 : Int32))), .val (.int (b1 &&& (255 : Int32))), .unset] [(.int (if (b0 &&& (255 : Int32)) = (224 : Int32) then (160 : Int32) else (128 : Int32))), (.int (b1 &&& (255 : Int32)))])) (fun t k => by
            show Steps p.tables e below (s₁.setTop (mkF m 162 #[.val (.ref o0), .val (.int p1), .val (.int p2), .val (.int (b0 &&& (255 : Int32))), .val (.int (3 : Int32)), .val (.int (if (b0 &&& (255 : Int32)) = (224 : Int32) then (160 : Int32) else (128 : Int32))), .val (.int (if (b0 &&& (255 : Int32)) = (237 : Int32) then (159 : Int32) else (191 : Int32))), .unset, .unset] [(.int (p1 + (1 : Int32))), (.ref o0)])) _
            refine X0.baloadBytes hx (j := (p1 + (1 : Int32))) (v := (.int b1)) (by rw [e0]; exact Ar93.1) (State.isArrayOf_alike hZ.alike Ar93.2.1) Ar93.2.2 hin93 hat93 (g := (mkF m 162 #[.val (.ref o0), .val (.int p1), .val (.int p2), .val (.int (b0 &&& (255 : Int32))), .val (.int (3 : Int32)), .val (.int (if (b0 &&& (255 : Int32)) = (224 : Int32) then (160 : Int32) else (128 : Int32))), .val (.int (if (b0 &&& (255 : Int32)) = (237 : Int32) then (159 : Int32) else (191 : Int32))), .unset, .unset] [(.int (p1 + (1 : Int32))), (.ref o0)])) rfl rfl (hb hby d1_162) _ ?_
            show Steps p.tables e below (s₁.setTop (mkF m 163 #[.val (.ref o0), .val (.int p1), .val (.int p2), .val (.int (b0 &&& (255 : Int32))), .val (.int (3 : Int32)), .val (.int (if (b0 &&& (255 : Int32)) = (224 : Int32) then (160 : Int32) else (128 : Int32))), .val (.int (if (b0 &&& (255 : Int32)) = (237 : Int32) then (159 : Int32) else (191 : Int32))), .unset, .unset] [(.int b1)])) _
            refine XS.sipush X0.here hx rfl (hb hby d1_163) ?_
            show Steps p.tables e below (s₁.setTop (mkF m 166 #[.val (.ref o0), .val (.int p1), .val (.int p2), .val (.int (b0 &&& (255 : Int32))), .val (.int (3 : Int32)), .val (.int (if (b0 &&& (255 : Int32)) = (224 : Int32) then (160 : Int32) else (128 : Int32))), .val (.int (if (b0 &&& (255 : Int32)) = (237 : Int32) then (159 : Int32) else (191 : Int32))), .unset, .unset] [(.int (255 : Int32)), (.int b1)])) _
            refine XS.iand X0.here hx rfl (hb hby d1_166) rfl ?_
            show Steps p.tables e below (s₁.setTop (mkF m 167 #[.val (.ref o0), .val (.int p1), .val (.int p2), .val (.int (b0 &&& (255 : Int32))), .val (.int (3 : Int32)), .val (.int (if (b0 &&& (255 : Int32)) = (224 : Int32) then (160 : Int32) else (128 : Int32))), .val (.int (if (b0 &&& (255 : Int32)) = (237 : Int32) then (159 : Int32) else (191 : Int32))), .unset, .unset] [(.int (b1 &&& (255 : Int32)))])) _
            refine XS.istore X0.here hx rfl (hb hby d1_167) rfl (l' := #[.val (.ref o0), .val (.int p1), .val (.int p2), .val (.int (b0 &&& (255 : Int32))), .val (.int (3 : Int32)), .val (.int (if (b0 &&& (255 : Int32)) = (224 : Int32) then (160 : Int32) else (128 : Int32))), .val (.int (if (b0 &&& (255 : Int32)) = (237 : Int32) then (159 : Int32) else (191 : Int32))), .val (.int (b1 &&& (255 : Int32))), .unset]) rfl ?_
            show Steps p.tables e below (s₁.setTop (mkF m 169 #[.val (.ref o0), .val (.int p1), .val (.int p2), .val (.int (b0 &&& (255 : Int32))), .val (.int (3 : Int32)), .val (.int (if (b0 &&& (255 : Int32)) = (224 : Int32) then (160 : Int32) else (128 : Int32))), .val (.int (if (b0 &&& (255 : Int32)) = (237 : Int32) then (159 : Int32) else (191 : Int32))), .val (.int (b1 &&& (255 : Int32))), .unset] [])) _
            refine XS.iload X0.here hx rfl (hb hby d1_169) rfl ?_
            show Steps p.tables e below (s₁.setTop (mkF m 171 #[.val (.ref o0), .val (.int p1), .val (.int p2), .val (.int (b0 &&& (255 : Int32))), .val (.int (3 : Int32)), .val (.int (if (b0 &&& (255 : Int32)) = (224 : Int32) then (160 : Int32) else (128 : Int32))), .val (.int (if (b0 &&& (255 : Int32)) = (237 : Int32) then (159 : Int32) else (191 : Int32))), .val (.int (b1 &&& (255 : Int32))), .unset] [(.int (b1 &&& (255 : Int32)))])) _
            refine XS.iload X0.here hx rfl (hb hby d1_171) rfl ?_
            exact k)
          by_cases hc94 : (b1 &&& (255 : Int32)) < (if (b0 &&& (255 : Int32)) = (224 : Int32) then (160 : Int32) else (128 : Int32))
          · skip
            have go96 := go95.step (C := s₁.setTop (mkF m 184 #[.val (.ref o0), .val (.int p1), .val (.int p2), .val (.int (b0 &&& (255 : Int32))), .val (.int (3 : Int32)), .val (.int (if (b0 &&& (255 : Int32)) = (224 : Int32) then (160 : Int32) else (128 : Int32))), .val (.int (if (b0 &&& (255 : Int32)) = (237 : Int32) then (159 : Int32) else (191 : Int32))), .val (.int (b1 &&& (255 : Int32))), .unset] [(.int (-1 : Int32))])) (fun t k => by
              show Steps p.tables e below (s₁.setTop (mkF m 173 #[.val (.ref o0), .val (.int p1), .val (.int p2), .val (.int (b0 &&& (255 : Int32))), .val (.int (3 : Int32)), .val (.int (if (b0 &&& (255 : Int32)) = (224 : Int32) then (160 : Int32) else (128 : Int32))), .val (.int (if (b0 &&& (255 : Int32)) = (237 : Int32) then (159 : Int32) else (191 : Int32))), .val (.int (b1 &&& (255 : Int32))), .unset] [(.int (if (b0 &&& (255 : Int32)) = (224 : Int32) then (160 : Int32) else (128 : Int32))), (.int (b1 &&& (255 : Int32)))])) _
              refine XS.icmpYes X0.here hx rfl (pc0 := 173) (pc' := 183) rfl (hb hby d1_173) rfl (tlt hc94).1 (by decide) (by decide) ?_
              show Steps p.tables e below (s₁.setTop (mkF m 183 #[.val (.ref o0), .val (.int p1), .val (.int p2), .val (.int (b0 &&& (255 : Int32))), .val (.int (3 : Int32)), .val (.int (if (b0 &&& (255 : Int32)) = (224 : Int32) then (160 : Int32) else (128 : Int32))), .val (.int (if (b0 &&& (255 : Int32)) = (237 : Int32) then (159 : Int32) else (191 : Int32))), .val (.int (b1 &&& (255 : Int32))), .unset] [])) _
              refine XS.iconst X0.here hx rfl (hb hby d1_183) ?_
              exact k)
            obtain ⟨fs, hr, hrun, hended, hW, hsame⟩ := X0.leave (v := some (.int (-1 : Int32))) (fun h => by rw [Bd.returns] at h; cases h)
            refine ⟨_, _, go96 _ ?_, hrun, hended, _, _, rfl, ?_, ⟨_, rfl⟩, hW, hsame.mono (by decide) (by decide)⟩
            · exact own_retI X0 hx Bd.returns (hb hby d1_184) hr
            · show Q_rm1 Z o0 p1 p2 ka vs b0 b1 b2 b3 h0 n0 _ s₁.heap _
              rw [e0]
              exact ⟨by unfold own_len; simp only [if_pos hc3, if_neg hc5, if_neg hc44, if_neg hc89, if_pos hc94], N0, rfl⟩
          · skip
            have go98 := go95.step (C := s₁.setTop (mkF m 180 #[.val (.ref o0), .val (.int p1), .val (.int p2), .val (.int (b0 &&& (255 : Int32))), .val (.int (3 : Int32)), .val (.int (if (b0 &&& (255 : Int32)) = (224 : Int32) then (160 : Int32) else (128 : Int32))), .val (.int (if (b0 &&& (255 : Int32)) = (237 : Int32) then (159 : Int32) else (191 : Int32))), .val (.int (b1 &&& (255 : Int32))), .unset] [(.int (if (b0 &&& (255 : Int32)) = (237 : Int32) then (159 : Int32) else (191 : Int32))), (.int (b1 &&& (255 : Int32)))])) (fun t k => by
              show Steps p.tables e below (s₁.setTop (mkF m 173 #[.val (.ref o0), .val (.int p1), .val (.int p2), .val (.int (b0 &&& (255 : Int32))), .val (.int (3 : Int32)), .val (.int (if (b0 &&& (255 : Int32)) = (224 : Int32) then (160 : Int32) else (128 : Int32))), .val (.int (if (b0 &&& (255 : Int32)) = (237 : Int32) then (159 : Int32) else (191 : Int32))), .val (.int (b1 &&& (255 : Int32))), .unset] [(.int (if (b0 &&& (255 : Int32)) = (224 : Int32) then (160 : Int32) else (128 : Int32))), (.int (b1 &&& (255 : Int32)))])) _
              refine XS.icmpNo X0.here hx rfl (hb hby d1_173) rfl (flt hc94).1 ?_
              show Steps p.tables e below (s₁.setTop (mkF m 176 #[.val (.ref o0), .val (.int p1), .val (.int p2), .val (.int (b0 &&& (255 : Int32))), .val (.int (3 : Int32)), .val (.int (if (b0 &&& (255 : Int32)) = (224 : Int32) then (160 : Int32) else (128 : Int32))), .val (.int (if (b0 &&& (255 : Int32)) = (237 : Int32) then (159 : Int32) else (191 : Int32))), .val (.int (b1 &&& (255 : Int32))), .unset] [])) _
              refine XS.iload X0.here hx rfl (hb hby d1_176) rfl ?_
              show Steps p.tables e below (s₁.setTop (mkF m 178 #[.val (.ref o0), .val (.int p1), .val (.int p2), .val (.int (b0 &&& (255 : Int32))), .val (.int (3 : Int32)), .val (.int (if (b0 &&& (255 : Int32)) = (224 : Int32) then (160 : Int32) else (128 : Int32))), .val (.int (if (b0 &&& (255 : Int32)) = (237 : Int32) then (159 : Int32) else (191 : Int32))), .val (.int (b1 &&& (255 : Int32))), .unset] [(.int (b1 &&& (255 : Int32)))])) _
              refine XS.iload X0.here hx rfl (hb hby d1_178) rfl ?_
              exact k)
            by_cases hc97 : (if (b0 &&& (255 : Int32)) = (237 : Int32) then (159 : Int32) else (191 : Int32)) < (b1 &&& (255 : Int32))
            · skip
              have go99 := go98.step (C := s₁.setTop (mkF m 184 #[.val (.ref o0), .val (.int p1), .val (.int p2), .val (.int (b0 &&& (255 : Int32))), .val (.int (3 : Int32)), .val (.int (if (b0 &&& (255 : Int32)) = (224 : Int32) then (160 : Int32) else (128 : Int32))), .val (.int (if (b0 &&& (255 : Int32)) = (237 : Int32) then (159 : Int32) else (191 : Int32))), .val (.int (b1 &&& (255 : Int32))), .unset] [(.int (-1 : Int32))])) (fun t k => by
                show Steps p.tables e below (s₁.setTop (mkF m 180 #[.val (.ref o0), .val (.int p1), .val (.int p2), .val (.int (b0 &&& (255 : Int32))), .val (.int (3 : Int32)), .val (.int (if (b0 &&& (255 : Int32)) = (224 : Int32) then (160 : Int32) else (128 : Int32))), .val (.int (if (b0 &&& (255 : Int32)) = (237 : Int32) then (159 : Int32) else (191 : Int32))), .val (.int (b1 &&& (255 : Int32))), .unset] [(.int (if (b0 &&& (255 : Int32)) = (237 : Int32) then (159 : Int32) else (191 : Int32))), (.int (b1 &&& (255 : Int32)))])) _
                refine XS.icmpNo X0.here hx rfl (hb hby d1_180) rfl (tlt hc97).2.2.2 ?_
                show Steps p.tables e below (s₁.setTop (mkF m 183 #[.val (.ref o0), .val (.int p1), .val (.int p2), .val (.int (b0 &&& (255 : Int32))), .val (.int (3 : Int32)), .val (.int (if (b0 &&& (255 : Int32)) = (224 : Int32) then (160 : Int32) else (128 : Int32))), .val (.int (if (b0 &&& (255 : Int32)) = (237 : Int32) then (159 : Int32) else (191 : Int32))), .val (.int (b1 &&& (255 : Int32))), .unset] [])) _
                refine XS.iconst X0.here hx rfl (hb hby d1_183) ?_
                exact k)
              obtain ⟨fs, hr, hrun, hended, hW, hsame⟩ := X0.leave (v := some (.int (-1 : Int32))) (fun h => by rw [Bd.returns] at h; cases h)
              refine ⟨_, _, go99 _ ?_, hrun, hended, _, _, rfl, ?_, ⟨_, rfl⟩, hW, hsame.mono (by decide) (by decide)⟩
              · exact own_retI X0 hx Bd.returns (hb hby d1_184) hr
              · show Q_rm1 Z o0 p1 p2 ka vs b0 b1 b2 b3 h0 n0 _ s₁.heap _
                rw [e0]
                exact ⟨by unfold own_len; simp only [if_pos hc3, if_neg hc5, if_neg hc44, if_neg hc89, if_neg hc94, if_pos hc97], N0, rfl⟩
            · skip
              have go101 := go98.step (C := s₁.setTop (mkF m 202 #[.val (.ref o0), .val (.int p1), .val (.int p2), .val (.int (b0 &&& (255 : Int32))), .val (.int (3 : Int32)), .val (.int (if (b0 &&& (255 : Int32)) = (224 : Int32) then (160 : Int32) else (128 : Int32))), .val (.int (if (b0 &&& (255 : Int32)) = (237 : Int32) then (159 : Int32) else (191 : Int32))), .val (.int (b1 &&& (255 : Int32))), .val (.int (p1 + (2 : Int32)))] [(.int (p1 + (2 : Int32))), (.ref o0)])) (fun t k => by
                show Steps p.tables e below (s₁.setTop (mkF m 180 #[.val (.ref o0), .val (.int p1), .val (.int p2), .val (.int (b0 &&& (255 : Int32))), .val (.int (3 : Int32)), .val (.int (if (b0 &&& (255 : Int32)) = (224 : Int32) then (160 : Int32) else (128 : Int32))), .val (.int (if (b0 &&& (255 : Int32)) = (237 : Int32) then (159 : Int32) else (191 : Int32))), .val (.int (b1 &&& (255 : Int32))), .unset] [(.int (if (b0 &&& (255 : Int32)) = (237 : Int32) then (159 : Int32) else (191 : Int32))), (.int (b1 &&& (255 : Int32)))])) _
                refine XS.icmpYes X0.here hx rfl (pc0 := 180) (pc' := 185) rfl (hb hby d1_180) rfl (flt hc97).2.2.2 (by decide) (by decide) ?_
                show Steps p.tables e below (s₁.setTop (mkF m 185 #[.val (.ref o0), .val (.int p1), .val (.int p2), .val (.int (b0 &&& (255 : Int32))), .val (.int (3 : Int32)), .val (.int (if (b0 &&& (255 : Int32)) = (224 : Int32) then (160 : Int32) else (128 : Int32))), .val (.int (if (b0 &&& (255 : Int32)) = (237 : Int32) then (159 : Int32) else (191 : Int32))), .val (.int (b1 &&& (255 : Int32))), .unset] [])) _
                refine XS.iloadN X0.here hx rfl (hb hby d1_185) rfl ?_
                show Steps p.tables e below (s₁.setTop (mkF m 186 #[.val (.ref o0), .val (.int p1), .val (.int p2), .val (.int (b0 &&& (255 : Int32))), .val (.int (3 : Int32)), .val (.int (if (b0 &&& (255 : Int32)) = (224 : Int32) then (160 : Int32) else (128 : Int32))), .val (.int (if (b0 &&& (255 : Int32)) = (237 : Int32) then (159 : Int32) else (191 : Int32))), .val (.int (b1 &&& (255 : Int32))), .unset] [(.int p1)])) _
                refine XS.iconst X0.here hx rfl (hb hby d1_186) ?_
                show Steps p.tables e below (s₁.setTop (mkF m 187 #[.val (.ref o0), .val (.int p1), .val (.int p2), .val (.int (b0 &&& (255 : Int32))), .val (.int (3 : Int32)), .val (.int (if (b0 &&& (255 : Int32)) = (224 : Int32) then (160 : Int32) else (128 : Int32))), .val (.int (if (b0 &&& (255 : Int32)) = (237 : Int32) then (159 : Int32) else (191 : Int32))), .val (.int (b1 &&& (255 : Int32))), .unset] [(.int (2 : Int32)), (.int p1)])) _
                refine XS.iadd X0.here hx rfl (hb hby d1_187) rfl ?_
                show Steps p.tables e below (s₁.setTop (mkF m 188 #[.val (.ref o0), .val (.int p1), .val (.int p2), .val (.int (b0 &&& (255 : Int32))), .val (.int (3 : Int32)), .val (.int (if (b0 &&& (255 : Int32)) = (224 : Int32) then (160 : Int32) else (128 : Int32))), .val (.int (if (b0 &&& (255 : Int32)) = (237 : Int32) then (159 : Int32) else (191 : Int32))), .val (.int (b1 &&& (255 : Int32))), .unset] [(.int (p1 + (2 : Int32)))])) _
                refine XS.istore X0.here hx rfl (hb hby d1_188) rfl (l' := #[.val (.ref o0), .val (.int p1), .val (.int p2), .val (.int (b0 &&& (255 : Int32))), .val (.int (3 : Int32)), .val (.int (if (b0 &&& (255 : Int32)) = (224 : Int32) then (160 : Int32) else (128 : Int32))), .val (.int (if (b0 &&& (255 : Int32)) = (237 : Int32) then (159 : Int32) else (191 : Int32))), .val (.int (b1 &&& (255 : Int32))), .val (.int (p1 + (2 : Int32)))]) rfl ?_
                show Steps p.tables e below (s₁.setTop (mkF m 190 #[.val (.ref o0), .val (.int p1), .val (.int p2), .val (.int (b0 &&& (255 : Int32))), .val (.int (3 : Int32)), .val (.int (if (b0 &&& (255 : Int32)) = (224 : Int32) then (160 : Int32) else (128 : Int32))), .val (.int (if (b0 &&& (255 : Int32)) = (237 : Int32) then (159 : Int32) else (191 : Int32))), .val (.int (b1 &&& (255 : Int32))), .val (.int (p1 + (2 : Int32)))] [])) _
                refine XS.iload X0.here hx rfl (hb hby d1_190) rfl ?_
                show Steps p.tables e below (s₁.setTop (mkF m 192 #[.val (.ref o0), .val (.int p1), .val (.int p2), .val (.int (b0 &&& (255 : Int32))), .val (.int (3 : Int32)), .val (.int (if (b0 &&& (255 : Int32)) = (224 : Int32) then (160 : Int32) else (128 : Int32))), .val (.int (if (b0 &&& (255 : Int32)) = (237 : Int32) then (159 : Int32) else (191 : Int32))), .val (.int (b1 &&& (255 : Int32))), .val (.int (p1 + (2 : Int32)))] [(.int (p1 + (2 : Int32)))])) _
                refine XS.iloadN X0.here hx rfl (hb hby d1_192) rfl ?_
                show Steps p.tables e below (s₁.setTop (mkF m 193 #[.val (.ref o0), .val (.int p1), .val (.int p2), .val (.int (b0 &&& (255 : Int32))), .val (.int (3 : Int32)), .val (.int (if (b0 &&& (255 : Int32)) = (224 : Int32) then (160 : Int32) else (128 : Int32))), .val (.int (if (b0 &&& (255 : Int32)) = (237 : Int32) then (159 : Int32) else (191 : Int32))), .val (.int (b1 &&& (255 : Int32))), .val (.int (p1 + (2 : Int32)))] [(.int p1), (.int (p1 + (2 : Int32)))])) _
                refine XS.iload X0.here hx rfl (hb hby d1_193) rfl ?_
                show Steps p.tables e below (s₁.setTop (mkF m 195 #[.val (.ref o0), .val (.int p1), .val (.int p2), .val (.int (b0 &&& (255 : Int32))), .val (.int (3 : Int32)), .val (.int (if (b0 &&& (255 : Int32)) = (224 : Int32) then (160 : Int32) else (128 : Int32))), .val (.int (if (b0 &&& (255 : Int32)) = (237 : Int32) then (159 : Int32) else (191 : Int32))), .val (.int (b1 &&& (255 : Int32))), .val (.int (p1 + (2 : Int32)))] [(.int (3 : Int32)), (.int p1), (.int (p1 + (2 : Int32)))])) _
                refine XS.iadd X0.here hx rfl (hb hby d1_195) rfl ?_
                show Steps p.tables e below (s₁.setTop (mkF m 196 #[.val (.ref o0), .val (.int p1), .val (.int p2), .val (.int (b0 &&& (255 : Int32))), .val (.int (3 : Int32)), .val (.int (if (b0 &&& (255 : Int32)) = (224 : Int32) then (160 : Int32) else (128 : Int32))), .val (.int (if (b0 &&& (255 : Int32)) = (237 : Int32) then (159 : Int32) else (191 : Int32))), .val (.int (b1 &&& (255 : Int32))), .val (.int (p1 + (2 : Int32)))] [(.int (p1 + (3 : Int32))), (.int (p1 + (2 : Int32)))])) _
                refine XS.icmpNo X0.here hx rfl (hb hby d1_196) rfl (tlt (own_b0_3 hvs.p : (p1 + (2 : Int32)) < (p1 + (3 : Int32)))).2.1 ?_
                show Steps p.tables e below (s₁.setTop (mkF m 199 #[.val (.ref o0), .val (.int p1), .val (.int p2), .val (.int (b0 &&& (255 : Int32))), .val (.int (3 : Int32)), .val (.int (if (b0 &&& (255 : Int32)) = (224 : Int32) then (160 : Int32) else (128 : Int32))), .val (.int (if (b0 &&& (255 : Int32)) = (237 : Int32) then (159 : Int32) else (191 : Int32))), .val (.int (b1 &&& (255 : Int32))), .val (.int (p1 + (2 : Int32)))] [])) _
                refine XS.aloadN X0.here hx rfl (hb hby d1_199) rfl rfl ?_
                show Steps p.tables e below (s₁.setTop (mkF m 200 #[.val (.ref o0), .val (.int p1), .val (.int p2), .val (.int (b0 &&& (255 : Int32))), .val (.int (3 : Int32)), .val (.int (if (b0 &&& (255 : Int32)) = (224 : Int32) then (160 : Int32) else (128 : Int32))), .val (.int (if (b0 &&& (255 : Int32)) = (237 : Int32) then (159 : Int32) else (191 : Int32))), .val (.int (b1 &&& (255 : Int32))), .val (.int (p1 + (2 : Int32)))] [(.ref o0)])) _
                refine XS.iload X0.here hx rfl (hb hby d1_200) rfl ?_
                exact k)
              have Vo102 := V0
              obtain ⟨cl102, Ar102, qa102, Sa102, Na102, Ha102, Ga102⟩ := Vo102
              have hin102 : ¬ ((p1 + (2 : Int32)) < 0 ∨ cl102.slots.size ≤ ((p1 + (2 : Int32))).toNatClampNeg) := inb_of Sa102 (own_r2 hvs).1
              have hat102 : cl102.slots[((p1 + (2 : Int32))).toNatClampNeg]? = some (.int b2) := Has.at Ha102 hin102 (own_r2 hvs).2
              have go104 := go101.step (C := s₁.setTop (mkF m 210 #[.val (.ref o0), .val (.int p1), .val (.int p2), .val (.int (b0 &&& (255 : Int32))), .val (.int (3 : Int32)), .val (.int (if (b0 &&& (255 : Int32)) = (224 : Int32) then (160 : Int32) else (128 : Int32))), .val (.int (if (b0 &&& (255 : Int32)) = (237 : Int32) then (159 : Int32) else (191 : Int32))), .val (.int (b1 &&& (255 : Int32))), .val (.int (p1 + (2 : Int32)))] [(.int (128 : Int32)), (.int (b2 &&& (192 : Int32)))])) (fun t k => by
                show Steps p.tables e below (s₁.setTop (mkF m 202 #[.val (.ref o0), .val (.int p1), .val (.int p2), .val (.int (b0 &&& (255 : Int32))), .val (.int (3 : Int32)), .val (.int (if (b0 &&& (255 : Int32)) = (224 : Int32) then (160 : Int32) else (128 : Int32))), .val (.int (if (b0 &&& (255 : Int32)) = (237 : Int32) then (159 : Int32) else (191 : Int32))), .val (.int (b1 &&& (255 : Int32))), .val (.int (p1 + (2 : Int32)))] [(.int (p1 + (2 : Int32))), (.ref o0)])) _
                refine X0.baloadBytes hx (j := (p1 + (2 : Int32))) (v := (.int b2)) (by rw [e0]; exact Ar102.1) (State.isArrayOf_alike hZ.alike Ar102.2.1) Ar102.2.2 hin102 hat102 (g := (mkF m 202 #[.val (.ref o0), .val (.int p1), .val (.int p2), .val (.int (b0 &&& (255 : Int32))), .val (.int (3 : Int32)), .val (.int (if (b0 &&& (255 : Int32)) = (224 : Int32) then (160 : Int32) else (128 : Int32))), .val (.int (if (b0 &&& (255 : Int32)) = (237 : Int32) then (159 : Int32) else (191 : Int32))), .val (.int (b1 &&& (255 : Int32))), .val (.int (p1 + (2 : Int32)))] [(.int (p1 + (2 : Int32))), (.ref o0)])) rfl rfl (hb hby d1_202) _ ?_
                show Steps p.tables e below (s₁.setTop (mkF m 203 #[.val (.ref o0), .val (.int p1), .val (.int p2), .val (.int (b0 &&& (255 : Int32))), .val (.int (3 : Int32)), .val (.int (if (b0 &&& (255 : Int32)) = (224 : Int32) then (160 : Int32) else (128 : Int32))), .val (.int (if (b0 &&& (255 : Int32)) = (237 : Int32) then (159 : Int32) else (191 : Int32))), .val (.int (b1 &&& (255 : Int32))), .val (.int (p1 + (2 : Int32)))] [(.int b2)])) _
                refine XS.sipush X0.here hx rfl (hb hby d1_203) ?_
                show Steps p.tables e below (s₁.setTop (mkF m 206 #[.val (.ref o0), .val (.int p1), .val (.int p2), .val (.int (b0 &&& (255 : Int32))), .val (.int (3 : Int32)), .val (.int (if (b0 &&& (255 : Int32)) = (224 : Int32) then (160 : Int32) else (128 : Int32))), .val (.int (if (b0 &&& (255 : Int32)) = (237 : Int32) then (159 : Int32) else (191 : Int32))), .val (.int (b1 &&& (255 : Int32))), .val (.int (p1 + (2 : Int32)))] [(.int (192 : Int32)), (.int b2)])) _
                refine XS.iand X0.here hx rfl (hb hby d1_206) rfl ?_
                show Steps p.tables e below (s₁.setTop (mkF m 207 #[.val (.ref o0), .val (.int p1), .val (.int p2), .val (.int (b0 &&& (255 : Int32))), .val (.int (3 : Int32)), .val (.int (if (b0 &&& (255 : Int32)) = (224 : Int32) then (160 : Int32) else (128 : Int32))), .val (.int (if (b0 &&& (255 : Int32)) = (237 : Int32) then (159 : Int32) else (191 : Int32))), .val (.int (b1 &&& (255 : Int32))), .val (.int (p1 + (2 : Int32)))] [(.int (b2 &&& (192 : Int32)))])) _
                refine XS.sipush X0.here hx rfl (hb hby d1_207) ?_
                exact k)
              by_cases hc103 : (b2 &&& (192 : Int32)) = (128 : Int32)
              · skip
                have go106 := go104.step (C := s₁.setTop (mkF m 223 #[.val (.ref o0), .val (.int p1), .val (.int p2), .val (.int (b0 &&& (255 : Int32))), .val (.int (3 : Int32)), .val (.int (if (b0 &&& (255 : Int32)) = (224 : Int32) then (160 : Int32) else (128 : Int32))), .val (.int (if (b0 &&& (255 : Int32)) = (237 : Int32) then (159 : Int32) else (191 : Int32))), .val (.int (b1 &&& (255 : Int32))), .val (.int ((p1 + (2 : Int32)) + (1 : Int32)))] [(.int (3 : Int32))])) (fun t k => by
                  show Steps p.tables e below (s₁.setTop (mkF m 210 #[.val (.ref o0), .val (.int p1), .val (.int p2), .val (.int (b0 &&& (255 : Int32))), .val (.int (3 : Int32)), .val (.int (if (b0 &&& (255 : Int32)) = (224 : Int32) then (160 : Int32) else (128 : Int32))), .val (.int (if (b0 &&& (255 : Int32)) = (237 : Int32) then (159 : Int32) else (191 : Int32))), .val (.int (b1 &&& (255 : Int32))), .val (.int (p1 + (2 : Int32)))] [(.int (128 : Int32)), (.int (b2 &&& (192 : Int32)))])) _
                  refine XS.icmpYes X0.here hx rfl (pc0 := 210) (pc' := 215) rfl (hb hby d1_210) rfl (teq hc103).1 (by decide) (by decide) ?_
                  show Steps p.tables e below (s₁.setTop (mkF m 215 #[.val (.ref o0), .val (.int p1), .val (.int p2), .val (.int (b0 &&& (255 : Int32))), .val (.int (3 : Int32)), .val (.int (if (b0 &&& (255 : Int32)) = (224 : Int32) then (160 : Int32) else (128 : Int32))), .val (.int (if (b0 &&& (255 : Int32)) = (237 : Int32) then (159 : Int32) else (191 : Int32))), .val (.int (b1 &&& (255 : Int32))), .val (.int (p1 + (2 : Int32)))] [])) _
                  refine XS.iinc X0.here hx rfl (hb hby d1_215) rfl (l' := #[.val (.ref o0), .val (.int p1), .val (.int p2), .val (.int (b0 &&& (255 : Int32))), .val (.int (3 : Int32)), .val (.int (if (b0 &&& (255 : Int32)) = (224 : Int32) then (160 : Int32) else (128 : Int32))), .val (.int (if (b0 &&& (255 : Int32)) = (237 : Int32) then (159 : Int32) else (191 : Int32))), .val (.int (b1 &&& (255 : Int32))), .val (.int ((p1 + (2 : Int32)) + (1 : Int32)))]) rfl ?_
                  show Steps p.tables e below (s₁.setTop (mkF m 218 #[.val (.ref o0), .val (.int p1), .val (.int p2), .val (.int (b0 &&& (255 : Int32))), .val (.int (3 : Int32)), .val (.int (if (b0 &&& (255 : Int32)) = (224 : Int32) then (160 : Int32) else (128 : Int32))), .val (.int (if (b0 &&& (255 : Int32)) = (237 : Int32) then (159 : Int32) else (191 : Int32))), .val (.int (b1 &&& (255 : Int32))), .val (.int ((p1 + (2 : Int32)) + (1 : Int32)))] [])) _
                  refine XS.goto X0.here hx rfl (pc0 := 218) (pc' := 190) rfl (hb hby d1_218) (by decide) (by decide) ?_
                  show Steps p.tables e below (s₁.setTop (mkF m 190 #[.val (.ref o0), .val (.int p1), .val (.int p2), .val (.int (b0 &&& (255 : Int32))), .val (.int (3 : Int32)), .val (.int (if (b0 &&& (255 : Int32)) = (224 : Int32) then (160 : Int32) else (128 : Int32))), .val (.int (if (b0 &&& (255 : Int32)) = (237 : Int32) then (159 : Int32) else (191 : Int32))), .val (.int (b1 &&& (255 : Int32))), .val (.int ((p1 + (2 : Int32)) + (1 : Int32)))] [])) _
                  refine XS.iload X0.here hx rfl (hb hby d1_190) rfl ?_
                  show Steps p.tables e below (s₁.setTop (mkF m 192 #[.val (.ref o0), .val (.int p1), .val (.int p2), .val (.int (b0 &&& (255 : Int32))), .val (.int (3 : Int32)), .val (.int (if (b0 &&& (255 : Int32)) = (224 : Int32) then (160 : Int32) else (128 : Int32))), .val (.int (if (b0 &&& (255 : Int32)) = (237 : Int32) then (159 : Int32) else (191 : Int32))), .val (.int (b1 &&& (255 : Int32))), .val (.int ((p1 + (2 : Int32)) + (1 : Int32)))] [(.int ((p1 + (2 : Int32)) + (1 : Int32)))])) _
                  refine XS.iloadN X0.here hx rfl (hb hby d1_192) rfl ?_
                  show Steps p.tables e below (s₁.setTop (mkF m 193 #[.val (.ref o0), .val (.int p1), .val (.int p2), .val (.int (b0 &&& (255 : Int32))), .val (.int (3 : Int32)), .val (.int (if (b0 &&& (255 : Int32)) = (224 : Int32) then (160 : Int32) else (128 : Int32))), .val (.int (if (b0 &&& (255 : Int32)) = (237 : Int32) then (159 : Int32) else (191 : Int32))), .val (.int (b1 &&& (255 : Int32))), .val (.int ((p1 + (2 : Int32)) + (1 : Int32)))] [(.int p1), (.int ((p1 + (2 : Int32)) + (1 : Int32)))])) _
                  refine XS.iload X0.here hx rfl (hb hby d1_193) rfl ?_
                  show Steps p.tables e below (s₁.setTop (mkF m 195 #[.val (.ref o0), .val (.int p1), .val (.int p2), .val (.int (b0 &&& (255 : Int32))), .val (.int (3 : Int32)), .val (.int (if (b0 &&& (255 : Int32)) = (224 : Int32) then (160 : Int32) else (128 : Int32))), .val (.int (if (b0 &&& (255 : Int32)) = (237 : Int32) then (159 : Int32) else (191 : Int32))), .val (.int (b1 &&& (255 : Int32))), .val (.int ((p1 + (2 : Int32)) + (1 : Int32)))] [(.int (3 : Int32)), (.int p1), (.int ((p1 + (2 : Int32)) + (1 : Int32)))])) _
                  refine XS.iadd X0.here hx rfl (hb hby d1_195) rfl ?_
                  show Steps p.tables e below (s₁.setTop (mkF m 196 #[.val (.ref o0), .val (.int p1), .val (.int p2), .val (.int (b0 &&& (255 : Int32))), .val (.int (3 : Int32)), .val (.int (if (b0 &&& (255 : Int32)) = (224 : Int32) then (160 : Int32) else (128 : Int32))), .val (.int (if (b0 &&& (255 : Int32)) = (237 : Int32) then (159 : Int32) else (191 : Int32))), .val (.int (b1 &&& (255 : Int32))), .val (.int ((p1 + (2 : Int32)) + (1 : Int32)))] [(.int (p1 + (3 : Int32))), (.int ((p1 + (2 : Int32)) + (1 : Int32)))])) _
                  refine XS.icmpYes X0.here hx rfl (pc0 := 196) (pc' := 221) rfl (hb hby d1_196) rfl (flt (own_b1_3 hvs.p : ¬ (((p1 + (2 : Int32)) + (1 : Int32)) < (p1 + (3 : Int32))))).2.1 (by decide) (by decide) ?_
                  show Steps p.tables e below (s₁.setTop (mkF m 221 #[.val (.ref o0), .val (.int p1), .val (.int p2), .val (.int (b0 &&& (255 : Int32))), .val (.int (3 : Int32)), .val (.int (if (b0 &&& (255 : Int32)) = (224 : Int32) then (160 : Int32) else (128 : Int32))), .val (.int (if (b0 &&& (255 : Int32)) = (237 : Int32) then (159 : Int32) else (191 : Int32))), .val (.int (b1 &&& (255 : Int32))), .val (.int ((p1 + (2 : Int32)) + (1 : Int32)))] [])) _
                  refine XS.iload X0.here hx rfl (hb hby d1_221) rfl ?_
                  exact k)
                obtain ⟨fs, hr, hrun, hended, hW, hsame⟩ := X0.leave (v := some (.int (3 : Int32))) (fun h => by rw [Bd.returns] at h; cases h)
                refine ⟨_, _, go106 _ ?_, hrun, hended, _, _, rfl, ?_, ⟨_, rfl⟩, hW, hsame.mono (by decide) (by decide)⟩
                · exact own_retI X0 hx Bd.returns (hb hby d1_223) hr
                · show Q_rm1 Z o0 p1 p2 ka vs b0 b1 b2 b3 h0 n0 _ s₁.heap _
                  rw [e0]
                  exact ⟨by unfold own_len; simp only [if_pos hc3, if_neg hc5, if_neg hc44, if_neg hc89, if_neg hc94, if_neg hc97, if_pos hc103], N0, rfl⟩
              · skip
                have go107 := go104.step (C := s₁.setTop (mkF m 214 #[.val (.ref o0), .val (.int p1), .val (.int p2), .val (.int (b0 &&& (255 : Int32))), .val (.int (3 : Int32)), .val (.int (if (b0 &&& (255 : Int32)) = (224 : Int32) then (160 : Int32) else (128 : Int32))), .val (.int (if (b0 &&& (255 : Int32)) = (237 : Int32) then (159 : Int32) else (191 : Int32))), .val (.int (b1 &&& (255 : Int32))), .val (.int (p1 + (2 : Int32)))] [(.int (-1 : Int32))])) (fun t k => by
                  show Steps p.tables e below (s₁.setTop (mkF m 210 #[.val (.ref o0), .val (.int p1), .val (.int p2), .val (.int (b0 &&& (255 : Int32))), .val (.int (3 : Int32)), .val (.int (if (b0 &&& (255 : Int32)) = (224 : Int32) then (160 : Int32) else (128 : Int32))), .val (.int (if (b0 &&& (255 : Int32)) = (237 : Int32) then (159 : Int32) else (191 : Int32))), .val (.int (b1 &&& (255 : Int32))), .val (.int (p1 + (2 : Int32)))] [(.int (128 : Int32)), (.int (b2 &&& (192 : Int32)))])) _
                  refine XS.icmpNo X0.here hx rfl (hb hby d1_210) rfl (feq hc103).1 ?_
                  show Steps p.tables e below (s₁.setTop (mkF m 213 #[.val (.ref o0), .val (.int p1), .val (.int p2), .val (.int (b0 &&& (255 : Int32))), .val (.int (3 : Int32)), .val (.int (if (b0 &&& (255 : Int32)) = (224 : Int32) then (160 : Int32) else (128 : Int32))), .val (.int (if (b0 &&& (255 : Int32)) = (237 : Int32) then (159 : Int32) else (191 : Int32))), .val (.int (b1 &&& (255 : Int32))), .val (.int (p1 + (2 : Int32)))] [])) _
                  refine XS.iconst X0.here hx rfl (hb hby d1_213) ?_
                  exact k)
                obtain ⟨fs, hr, hrun, hended, hW, hsame⟩ := X0.leave (v := some (.int (-1 : Int32))) (fun h => by rw [Bd.returns] at h; cases h)
                refine ⟨_, _, go107 _ ?_, hrun, hended, _, _, rfl, ?_, ⟨_, rfl⟩, hW, hsame.mono (by decide) (by decide)⟩
                · exact own_retI X0 hx Bd.returns (hb hby d1_214) hr
                · show Q_rm1 Z o0 p1 p2 ka vs b0 b1 b2 b3 h0 n0 _ s₁.heap _
                  rw [e0]
                  exact ⟨by unfold own_len; simp only [if_pos hc3, if_neg hc5, if_neg hc44, if_neg hc89, if_neg hc94, if_neg hc97, if_neg hc103], N0, rfl⟩
  · skip
    have go109 := go4.step (C := s₁.setTop (mkF m 29 #[.val (.ref o0), .val (.int p1), .val (.int p2), .val (.int (b0 &&& (255 : Int32))), .unset, .val (.int (128 : Int32)), .val (.int (191 : Int32)), .unset, .unset] [(.int (223 : Int32)), (.int (b0 &&& (255 : Int32)))])) (fun t k => by
      show Steps p.tables e below (s₁.setTop (mkF m 22 #[.val (.ref o0), .val (.int p1), .val (.int p2), .val (.int (b0 &&& (255 : Int32))), .unset, .val (.int (128 : Int32)), .val (.int (191 : Int32)), .unset, .unset] [(.int (194 : Int32)), (.int (b0 &&& (255 : Int32)))])) _
      refine XS.icmpNo X0.here hx rfl (hb hby d1_22) rfl (flt hc3).1 ?_
      show Steps p.tables e below (s₁.setTop (mkF m 25 #[.val (.ref o0), .val (.int p1), .val (.int p2), .val (.int (b0 &&& (255 : Int32))), .unset, .val (.int (128 : Int32)), .val (.int (191 : Int32)), .unset, .unset] [])) _
      refine XS.iloadN X0.here hx rfl (hb hby d1_25) rfl ?_
      show Steps p.tables e below (s₁.setTop (mkF m 26 #[.val (.ref o0), .val (.int p1), .val (.int p2), .val (.int (b0 &&& (255 : Int32))), .unset, .val (.int (128 : Int32)), .val (.int (191 : Int32)), .unset, .unset] [(.int (b0 &&& (255 : Int32)))])) _
      refine XS.sipush X0.here hx rfl (hb hby d1_26) ?_
      exact k)
    by_cases hc108 : (223 : Int32) < (b0 &&& (255 : Int32))
    · skip
      have go111 := go109.step (C := s₁.setTop (mkF m 42 #[.val (.ref o0), .val (.int p1), .val (.int p2), .val (.int (b0 &&& (255 : Int32))), .unset, .val (.int (128 : Int32)), .val (.int (191 : Int32)), .unset, .unset] [(.int (224 : Int32)), (.int (b0 &&& (255 : Int32)))])) (fun t k => by
        show Steps p.tables e below (s₁.setTop (mkF m 29 #[.val (.ref o0), .val (.int p1), .val (.int p2), .val (.int (b0 &&& (255 : Int32))), .unset, .val (.int (128 : Int32)), .val (.int (191 : Int32)), .unset, .unset] [(.int (223 : Int32)), (.int (b0 &&& (255 : Int32)))])) _
        refine XS.icmpYes X0.here hx rfl (pc0 := 29) (pc' := 38) rfl (hb hby d1_29) rfl (tlt hc108).2.2.1 (by decide) (by decide) ?_
        show Steps p.tables e below (s₁.setTop (mkF m 38 #[.val (.ref o0), .val (.int p1), .val (.int p2), .val (.int (b0 &&& (255 : Int32))), .unset, .val (.int (128 : Int32)), .val (.int (191 : Int32)), .unset, .unset] [])) _
        refine XS.iloadN X0.here hx rfl (hb hby d1_38) rfl ?_
        show Steps p.tables e below (s₁.setTop (mkF m 39 #[.val (.ref o0), .val (.int p1), .val (.int p2), .val (.int (b0 &&& (255 : Int32))), .unset, .val (.int (128 : Int32)), .val (.int (191 : Int32)), .unset, .unset] [(.int (b0 &&& (255 : Int32)))])) _
        refine XS.sipush X0.here hx rfl (hb hby d1_39) ?_
        exact k)
      by_cases hc110 : (b0 &&& (255 : Int32)) < (224 : Int32)
      · skip
        have go113 := go111.step (C := s₁.setTop (mkF m 96 #[.val (.ref o0), .val (.int p1), .val (.int p2), .val (.int (b0 &&& (255 : Int32))), .unset, .val (.int (128 : Int32)), .val (.int (191 : Int32)), .unset, .unset] [(.int (240 : Int32)), (.int (b0 &&& (255 : Int32)))])) (fun t k => by
          show Steps p.tables e below (s₁.setTop (mkF m 42 #[.val (.ref o0), .val (.int p1), .val (.int p2), .val (.int (b0 &&& (255 : Int32))), .unset, .val (.int (128 : Int32)), .val (.int (191 : Int32)), .unset, .unset] [(.int (224 : Int32)), (.int (b0 &&& (255 : Int32)))])) _
          refine XS.icmpYes X0.here hx rfl (pc0 := 42) (pc' := 92) rfl (hb hby d1_42) rfl (tlt hc110).1 (by decide) (by decide) ?_
          show Steps p.tables e below (s₁.setTop (mkF m 92 #[.val (.ref o0), .val (.int p1), .val (.int p2), .val (.int (b0 &&& (255 : Int32))), .unset, .val (.int (128 : Int32)), .val (.int (191 : Int32)), .unset, .unset] [])) _
          refine XS.iloadN X0.here hx rfl (hb hby d1_92) rfl ?_
          show Steps p.tables e below (s₁.setTop (mkF m 93 #[.val (.ref o0), .val (.int p1), .val (.int p2), .val (.int (b0 &&& (255 : Int32))), .unset, .val (.int (128 : Int32)), .val (.int (191 : Int32)), .unset, .unset] [(.int (b0 &&& (255 : Int32)))])) _
          refine XS.sipush X0.here hx rfl (hb hby d1_93) ?_
          exact k)
        by_cases hc112 : (b0 &&& (255 : Int32)) < (240 : Int32)
        · skip
          have go114 := go113.step (C := s₁.setTop (mkF m 147 #[.val (.ref o0), .val (.int p1), .val (.int p2), .val (.int (b0 &&& (255 : Int32))), .unset, .val (.int (128 : Int32)), .val (.int (191 : Int32)), .unset, .unset] [(.int (-1 : Int32))])) (fun t k => by
            show Steps p.tables e below (s₁.setTop (mkF m 96 #[.val (.ref o0), .val (.int p1), .val (.int p2), .val (.int (b0 &&& (255 : Int32))), .unset, .val (.int (128 : Int32)), .val (.int (191 : Int32)), .unset, .unset] [(.int (240 : Int32)), (.int (b0 &&& (255 : Int32)))])) _
            refine XS.icmpYes X0.here hx rfl (pc0 := 96) (pc' := 146) rfl (hb hby d1_96) rfl (tlt hc112).1 (by decide) (by decide) ?_
            show Steps p.tables e below (s₁.setTop (mkF m 146 #[.val (.ref o0), .val (.int p1), .val (.int p2), .val (.int (b0 &&& (255 : Int32))), .unset, .val (.int (128 : Int32)), .val (.int (191 : Int32)), .unset, .unset] [])) _
            refine XS.iconst X0.here hx rfl (hb hby d1_146) ?_
            exact k)
          obtain ⟨fs, hr, hrun, hended, hW, hsame⟩ := X0.leave (v := some (.int (-1 : Int32))) (fun h => by rw [Bd.returns] at h; cases h)
          refine ⟨_, _, go114 _ ?_, hrun, hended, _, _, rfl, ?_, ⟨_, rfl⟩, hW, hsame.mono (by decide) (by decide)⟩
          · exact own_retI X0 hx Bd.returns (hb hby d1_147) hr
          · show Q_rm1 Z o0 p1 p2 ka vs b0 b1 b2 b3 h0 n0 _ s₁.heap _
            rw [e0]
            exact ⟨by unfold own_len; simp only [if_neg hc3, if_pos hc108, if_pos hc110, if_pos hc112], N0, rfl⟩
        · skip
          have go116 := go113.step (C := s₁.setTop (mkF m 103 #[.val (.ref o0), .val (.int p1), .val (.int p2), .val (.int (b0 &&& (255 : Int32))), .unset, .val (.int (128 : Int32)), .val (.int (191 : Int32)), .unset, .unset] [(.int (244 : Int32)), (.int (b0 &&& (255 : Int32)))])) (fun t k => by
            show Steps p.tables e below (s₁.setTop (mkF m 96 #[.val (.ref o0), .val (.int p1), .val (.int p2), .val (.int (b0 &&& (255 : Int32))), .unset, .val (.int (128 : Int32)), .val (.int (191 : Int32)), .unset, .unset] [(.int (240 : Int32)), (.int (b0 &&& (255 : Int32)))])) _
            refine XS.icmpNo X0.here hx rfl (hb hby d1_96) rfl (flt hc112).1 ?_
            show Steps p.tables e below (s₁.setTop (mkF m 99 #[.val (.ref o0), .val (.int p1), .val (.int p2), .val (.int (b0 &&& (255 : Int32))), .unset, .val (.int (128 : Int32)), .val (.int (191 : Int32)), .unset, .unset] [])) _
            refine XS.iloadN X0.here hx rfl (hb hby d1_99) rfl ?_
            show Steps p.tables e below (s₁.setTop (mkF m 100 #[.val (.ref o0), .val (.int p1), .val (.int p2), .val (.int (b0 &&& (255 : Int32))), .unset, .val (.int (128 : Int32)), .val (.int (191 : Int32)), .unset, .unset] [(.int (b0 &&& (255 : Int32)))])) _
            refine XS.sipush X0.here hx rfl (hb hby d1_100) ?_
            exact k)
          by_cases hc115 : (244 : Int32) < (b0 &&& (255 : Int32))
          · skip
            have go117 := go116.step (C := s₁.setTop (mkF m 147 #[.val (.ref o0), .val (.int p1), .val (.int p2), .val (.int (b0 &&& (255 : Int32))), .unset, .val (.int (128 : Int32)), .val (.int (191 : Int32)), .unset, .unset] [(.int (-1 : Int32))])) (fun t k => by
              show Steps p.tables e below (s₁.setTop (mkF m 103 #[.val (.ref o0), .val (.int p1), .val (.int p2), .val (.int (b0 &&& (255 : Int32))), .unset, .val (.int (128 : Int32)), .val (.int (191 : Int32)), .unset, .unset] [(.int (244 : Int32)), (.int (b0 &&& (255 : Int32)))])) _
              refine XS.icmpYes X0.here hx rfl (pc0 := 103) (pc' := 146) rfl (hb hby d1_103) rfl (tlt hc115).2.2.1 (by decide) (by decide) ?_
              show Steps p.tables e below (s₁.setTop (mkF m 146 #[.val (.ref o0), .val (.int p1), .val (.int p2), .val (.int (b0 &&& (255 : Int32))), .unset, .val (.int (128 : Int32)), .val (.int (191 : Int32)), .unset, .unset] [])) _
              refine XS.iconst X0.here hx rfl (hb hby d1_146) ?_
              exact k)
            obtain ⟨fs, hr, hrun, hended, hW, hsame⟩ := X0.leave (v := some (.int (-1 : Int32))) (fun h => by rw [Bd.returns] at h; cases h)
            refine ⟨_, _, go117 _ ?_, hrun, hended, _, _, rfl, ?_, ⟨_, rfl⟩, hW, hsame.mono (by decide) (by decide)⟩
            · exact own_retI X0 hx Bd.returns (hb hby d1_147) hr
            · show Q_rm1 Z o0 p1 p2 ka vs b0 b1 b2 b3 h0 n0 _ s₁.heap _
              rw [e0]
              exact ⟨by unfold own_len; simp only [if_neg hc3, if_pos hc108, if_pos hc110, if_neg hc112, if_pos hc115], N0, rfl⟩
          · skip
            have go118 := go116.step (C := s₁.setTop (mkF m 113 #[.val (.ref o0), .val (.int p1), .val (.int p2), .val (.int (b0 &&& (255 : Int32))), .val (.int (4 : Int32)), .val (.int (128 : Int32)), .val (.int (191 : Int32)), .unset, .unset] [(.int (240 : Int32)), (.int (b0 &&& (255 : Int32)))])) (fun t k => by
              show Steps p.tables e below (s₁.setTop (mkF m 103 #[.val (.ref o0), .val (.int p1), .val (.int p2), .val (.int (b0 &&& (255 : Int32))), .unset, .val (.int (128 : Int32)), .val (.int (191 : Int32)), .unset, .unset] [(.int (244 : Int32)), (.int (b0 &&& (255 : Int32)))])) _
              refine XS.icmpNo X0.here hx rfl (hb hby d1_103) rfl (flt hc115).2.2.1 ?_
              show Steps p.tables e below (s₁.setTop (mkF m 106 #[.val (.ref o0), .val (.int p1), .val (.int p2), .val (.int (b0 &&& (255 : Int32))), .unset, .val (.int (128 : Int32)), .val (.int (191 : Int32)), .unset, .unset] [])) _
              refine XS.iconst X0.here hx rfl (hb hby d1_106) ?_
              show Steps p.tables e below (s₁.setTop (mkF m 107 #[.val (.ref o0), .val (.int p1), .val (.int p2), .val (.int (b0 &&& (255 : Int32))), .unset, .val (.int (128 : Int32)), .val (.int (191 : Int32)), .unset, .unset] [(.int (4 : Int32))])) _
              refine XS.istore X0.here hx rfl (hb hby d1_107) rfl (l' := #[.val (.ref o0), .val (.int p1), .val (.int p2), .val (.int (b0 &&& (255 : Int32))), .val (.int (4 : Int32)), .val (.int (128 : Int32)), .val (.int (191 : Int32)), .unset, .unset]) rfl ?_
              show Steps p.tables e below (s₁.setTop (mkF m 109 #[.val (.ref o0), .val (.int p1), .val (.int p2), .val (.int (b0 &&& (255 : Int32))), .val (.int (4 : Int32)), .val (.int (128 : Int32)), .val (.int (191 : Int32)), .unset, .unset] [])) _
              refine XS.iloadN X0.here hx rfl (hb hby d1_109) rfl ?_
              show Steps p.tables e below (s₁.setTop (mkF m 110 #[.val (.ref o0), .val (.int p1), .val (.int p2), .val (.int (b0 &&& (255 : Int32))), .val (.int (4 : Int32)), .val (.int (128 : Int32)), .val (.int (191 : Int32)), .unset, .unset] [(.int (b0 &&& (255 : Int32)))])) _
              refine XS.sipush X0.here hx rfl (hb hby d1_110) ?_
              exact k)
            have go120 := go118.step (C := s₁.setTop (mkF m 124 #[.val (.ref o0), .val (.int p1), .val (.int p2), .val (.int (b0 &&& (255 : Int32))), .val (.int (4 : Int32)), .val (.int (128 : Int32)), .val (.int (191 : Int32)), .unset, .unset] [(.int (if (b0 &&& (255 : Int32)) = (240 : Int32) then (144 : Int32) else (128 : Int32)))])) (fun t k => by
              by_cases hc119 : (b0 &&& (255 : Int32)) = (240 : Int32)
              · skip
                try simp only [if_pos hc119] at k
                show Steps p.tables e below (s₁.setTop (mkF m 113 #[.val (.ref o0), .val (.int p1), .val (.int p2), .val (.int (b0 &&& (255 : Int32))), .val (.int (4 : Int32)), .val (.int (128 : Int32)), .val (.int (191 : Int32)), .unset, .unset] [(.int (240 : Int32)), (.int (b0 &&& (255 : Int32)))])) _
                refine XS.icmpNo X0.here hx rfl (hb hby d1_113) rfl (teq hc119).2 ?_
                show Steps p.tables e below (s₁.setTop (mkF m 116 #[.val (.ref o0), .val (.int p1), .val (.int p2), .val (.int (b0 &&& (255 : Int32))), .val (.int (4 : Int32)), .val (.int (128 : Int32)), .val (.int (191 : Int32)), .unset, .unset] [])) _
                refine XS.sipush X0.here hx rfl (hb hby d1_116) ?_
                show Steps p.tables e below (s₁.setTop (mkF m 119 #[.val (.ref o0), .val (.int p1), .val (.int p2), .val (.int (b0 &&& (255 : Int32))), .val (.int (4 : Int32)), .val (.int (128 : Int32)), .val (.int (191 : Int32)), .unset, .unset] [(.int (144 : Int32))])) _
                refine XS.goto X0.here hx rfl (pc0 := 119) (pc' := 124) rfl (hb hby d1_119) (by decide) (by decide) ?_
                exact k
              · skip
                try simp only [if_neg hc119] at k
                show Steps p.tables e below (s₁.setTop (mkF m 113 #[.val (.ref o0), .val (.int p1), .val (.int p2), .val (.int (b0 &&& (255 : Int32))), .val (.int (4 : Int32)), .val (.int (128 : Int32)), .val (.int (191 : Int32)), .unset, .unset] [(.int (240 : Int32)), (.int (b0 &&& (255 : Int32)))])) _
                refine XS.icmpYes X0.here hx rfl (pc0 := 113) (pc' := 122) rfl (hb hby d1_113) rfl (feq hc119).2 (by decide) (by decide) ?_
                show Steps p.tables e below (s₁.setTop (mkF m 122 #[.val (.ref o0), .val (.int p1), .val (.int p2), .val (.int (b0 &&& (255 : Int32))), .val (.int (4 : Int32)), .val (.int (128 : Int32)), .val (.int (191 : Int32)), .unset, .unset] [])) _
                refine XS.iload X0.here hx rfl (hb hby d1_122) rfl ?_
                exact k
              )
            have go121 := go120.step (C := s₁.setTop (mkF m 130 #[.val (.ref o0), .val (.int p1), .val (.int p2), .val (.int (b0 &&& (255 : Int32))), .val (.int (4 : Int32)), .val (.int (if (b0 &&& (255 : Int32)) = (240 : Int32) then (144 : Int32) else (128 : Int32))), .val (.int (191 : Int32)), .unset, .unset] [(.int (244 : Int32)), (.int (b0 &&& (255 : Int32)))])) (fun t k => by
              show Steps p.tables e below (s₁.setTop (mkF m 124 #[.val (.ref o0), .val (.int p1), .val (.int p2), .val (.int (b0 &&& (255 : Int32))), .val (.int (4 : Int32)), .val (.int (128 : Int32)), .val (.int (191 : Int32)), .unset, .unset] [(.int (if (b0 &&& (255 : Int32)) = (240 : Int32) then (144 : Int32) else (128 : Int32)))])) _
              refine XS.istore X0.here hx rfl (hb hby d1_124) rfl (l' := #[.val (.ref o0), .val (.int p1), .val (.int p2), .val (.int (b0 &&& (255 : Int32))), .val (.int (4 : Int32)), .val (.int (if (b0 &&& (255 : Int32)) = (240 : Int32) then (144 : Int32) else (128 : Int32))), .val (.int (191 : Int32)), .unset, .unset]) rfl ?_
              show Steps p.tables e below (s₁.setTop (mkF m 126 #[.val (.ref o0), .val (.int p1), .val (.int p2), .val (.int (b0 &&& (255 : Int32))), .val (.int (4 : Int32)), .val (.int (if (b0 &&& (255 : Int32)) = (240 : Int32) then (144 : Int32) else (128 : Int32))), .val (.int (191 : Int32)), .unset, .unset] [])) _
              refine XS.iloadN X0.here hx rfl (hb hby d1_126) rfl ?_
              show Steps p.tables e below (s₁.setTop (mkF m 127 #[.val (.ref o0), .val (.int p1), .val (.int p2), .val (.int (b0 &&& (255 : Int32))), .val (.int (4 : Int32)), .val (.int (if (b0 &&& (255 : Int32)) = (240 : Int32) then (144 : Int32) else (128 : Int32))), .val (.int (191 : Int32)), .unset, .unset] [(.int (b0 &&& (255 : Int32)))])) _
              refine XS.sipush X0.here hx rfl (hb hby d1_127) ?_
              exact k)
            have go123 := go121.step (C := s₁.setTop (mkF m 141 #[.val (.ref o0), .val (.int p1), .val (.int p2), .val (.int (b0 &&& (255 : Int32))), .val (.int (4 : Int32)), .val (.int (if (b0 &&& (255 : Int32)) = (240 : Int32) then (144 : Int32) else (128 : Int32))), .val (.int (191 : Int32)), .unset, .unset] [(.int (if (b0 &&& (255 : Int32)) = (244 : Int32) then (143 : Int32) else (191 : Int32)))])) (fun t k => by
              by_cases hc122 : (b0 &&& (255 : Int32)) = (244 : Int32)
              · skip
                try simp only [if_pos hc122] at k
                show Steps p.tables e below (s₁.setTop (mkF m 130 #[.val (.ref o0), .val (.int p1), .val (.int p2), .val (.int (b0 &&& (255 : Int32))), .val (.int (4 : Int32)), .val (.int (if (b0 &&& (255 : Int32)) = (240 : Int32) then (144 : Int32) else (128 : Int32))), .val (.int (191 : Int32)), .unset, .unset] [(.int (244 : Int32)), (.int (b0 &&& (255 : Int32)))])) _
                refine XS.icmpNo X0.here hx rfl (hb hby d1_130) rfl (teq hc122).2 ?_
                show Steps p.tables e below (s₁.setTop (mkF m 133 #[.val (.ref o0), .val (.int p1), .val (.int p2), .val (.int (b0 &&& (255 : Int32))), .val (.int (4 : Int32)), .val (.int (if (b0 &&& (255 : Int32)) = (240 : Int32) then (144 : Int32) else (128 : Int32))), .val (.int (191 : Int32)), .unset, .unset] [])) _
                refine XS.sipush X0.here hx rfl (hb hby d1_133) ?_
                show Steps p.tables e below (s₁.setTop (mkF m 136 #[.val (.ref o0), .val (.int p1), .val (.int p2), .val (.int (b0 &&& (255 : Int32))), .val (.int (4 : Int32)), .val (.int (if (b0 &&& (255 : Int32)) = (240 : Int32) then (144 : Int32) else (128 : Int32))), .val (.int (191 : Int32)), .unset, .unset] [(.int (143 : Int32))])) _
                refine XS.goto X0.here hx rfl (pc0 := 136) (pc' := 141) rfl (hb hby d1_136) (by decide) (by decide) ?_
                exact k
              · skip
                try simp only [if_neg hc122] at k
                show Steps p.tables e below (s₁.setTop (mkF m 130 #[.val (.ref o0), .val (.int p1), .val (.int p2), .val (.int (b0 &&& (255 : Int32))), .val (.int (4 : Int32)), .val (.int (if (b0 &&& (255 : Int32)) = (240 : Int32) then (144 : Int32) else (128 : Int32))), .val (.int (191 : Int32)), .unset, .unset] [(.int (244 : Int32)), (.int (b0 &&& (255 : Int32)))])) _
                refine XS.icmpYes X0.here hx rfl (pc0 := 130) (pc' := 139) rfl (hb hby d1_130) rfl (feq hc122).2 (by decide) (by decide) ?_
                show Steps p.tables e below (s₁.setTop (mkF m 139 #[.val (.ref o0), .val (.int p1), .val (.int p2), .val (.int (b0 &&& (255 : Int32))), .val (.int (4 : Int32)), .val (.int (if (b0 &&& (255 : Int32)) = (240 : Int32) then (144 : Int32) else (128 : Int32))), .val (.int (191 : Int32)), .unset, .unset] [])) _
                refine XS.iload X0.here hx rfl (hb hby d1_139) rfl ?_
                exact k
              )
            have go125 := go123.step (C := s₁.setTop (mkF m 153 #[.val (.ref o0), .val (.int p1), .val (.int p2), .val (.int (b0 &&& (255 : Int32))), .val (.int (4 : Int32)), .val (.int (if (b0 &&& (255 : Int32)) = (240 : Int32) then (144 : Int32) else (128 : Int32))), .val (.int (if (b0 &&& (255 : Int32)) = (244 : Int32) then (143 : Int32) else (191 : Int32))), .unset, .unset] [(.int p2), (.int (p1 + (4 : Int32)))])) (fun t k => by
              show Steps p.tables e below (s₁.setTop (mkF m 141 #[.val (.ref o0), .val (.int p1), .val (.int p2), .val (.int (b0 &&& (255 : Int32))), .val (.int (4 : Int32)), .val (.int (if (b0 &&& (255 : Int32)) = (240 : Int32) then (144 : Int32) else (128 : Int32))), .val (.int (191 : Int32)), .unset, .unset] [(.int (if (b0 &&& (255 : Int32)) = (244 : Int32) then (143 : Int32) else (191 : Int32)))])) _
              refine XS.istore X0.here hx rfl (hb hby d1_141) rfl (l' := #[.val (.ref o0), .val (.int p1), .val (.int p2), .val (.int (b0 &&& (255 : Int32))), .val (.int (4 : Int32)), .val (.int (if (b0 &&& (255 : Int32)) = (240 : Int32) then (144 : Int32) else (128 : Int32))), .val (.int (if (b0 &&& (255 : Int32)) = (244 : Int32) then (143 : Int32) else (191 : Int32))), .unset, .unset]) rfl ?_
              show Steps p.tables e below (s₁.setTop (mkF m 143 #[.val (.ref o0), .val (.int p1), .val (.int p2), .val (.int (b0 &&& (255 : Int32))), .val (.int (4 : Int32)), .val (.int (if (b0 &&& (255 : Int32)) = (240 : Int32) then (144 : Int32) else (128 : Int32))), .val (.int (if (b0 &&& (255 : Int32)) = (244 : Int32) then (143 : Int32) else (191 : Int32))), .unset, .unset] [])) _
              refine XS.goto X0.here hx rfl (pc0 := 143) (pc' := 148) rfl (hb hby d1_143) (by decide) (by decide) ?_
              show Steps p.tables e below (s₁.setTop (mkF m 148 #[.val (.ref o0), .val (.int p1), .val (.int p2), .val (.int (b0 &&& (255 : Int32))), .val (.int (4 : Int32)), .val (.int (if (b0 &&& (255 : Int32)) = (240 : Int32) then (144 : Int32) else (128 : Int32))), .val (.int (if (b0 &&& (255 : Int32)) = (244 : Int32) then (143 : Int32) else (191 : Int32))), .unset, .unset] [])) _
              refine XS.iloadN X0.here hx rfl (hb hby d1_148) rfl ?_
              show Steps p.tables e below (s₁.setTop (mkF m 149 #[.val (.ref o0), .val (.int p1), .val (.int p2), .val (.int (b0 &&& (255 : Int32))), .val (.int (4 : Int32)), .val (.int (if (b0 &&& (255 : Int32)) = (240 : Int32) then (144 : Int32) else (128 : Int32))), .val (.int (if (b0 &&& (255 : Int32)) = (244 : Int32) then (143 : Int32) else (191 : Int32))), .unset, .unset] [(.int p1)])) _
              refine XS.iload X0.here hx rfl (hb hby d1_149) rfl ?_
              show Steps p.tables e below (s₁.setTop (mkF m 151 #[.val (.ref o0), .val (.int p1), .val (.int p2), .val (.int (b0 &&& (255 : Int32))), .val (.int (4 : Int32)), .val (.int (if (b0 &&& (255 : Int32)) = (240 : Int32) then (144 : Int32) else (128 : Int32))), .val (.int (if (b0 &&& (255 : Int32)) = (244 : Int32) then (143 : Int32) else (191 : Int32))), .unset, .unset] [(.int (4 : Int32)), (.int p1)])) _
              refine XS.iadd X0.here hx rfl (hb hby d1_151) rfl ?_
              show Steps p.tables e below (s₁.setTop (mkF m 152 #[.val (.ref o0), .val (.int p1), .val (.int p2), .val (.int (b0 &&& (255 : Int32))), .val (.int (4 : Int32)), .val (.int (if (b0 &&& (255 : Int32)) = (240 : Int32) then (144 : Int32) else (128 : Int32))), .val (.int (if (b0 &&& (255 : Int32)) = (244 : Int32) then (143 : Int32) else (191 : Int32))), .unset, .unset] [(.int (p1 + (4 : Int32)))])) _
              refine XS.iloadN X0.here hx rfl (hb hby d1_152) rfl ?_
              exact k)
            by_cases hc124 : p2 < (p1 + (4 : Int32))
            · skip
              have go126 := go125.step (C := s₁.setTop (mkF m 157 #[.val (.ref o0), .val (.int p1), .val (.int p2), .val (.int (b0 &&& (255 : Int32))), .val (.int (4 : Int32)), .val (.int (if (b0 &&& (255 : Int32)) = (240 : Int32) then (144 : Int32) else (128 : Int32))), .val (.int (if (b0 &&& (255 : Int32)) = (244 : Int32) then (143 : Int32) else (191 : Int32))), .unset, .unset] [(.int (-1 : Int32))])) (fun t k => by
                show Steps p.tables e below (s₁.setTop (mkF m 153 #[.val (.ref o0), .val (.int p1), .val (.int p2), .val (.int (b0 &&& (255 : Int32))), .val (.int (4 : Int32)), .val (.int (if (b0 &&& (255 : Int32)) = (240 : Int32) then (144 : Int32) else (128 : Int32))), .val (.int (if (b0 &&& (255 : Int32)) = (244 : Int32) then (143 : Int32) else (191 : Int32))), .unset, .unset] [(.int p2), (.int (p1 + (4 : Int32)))])) _
                refine XS.icmpNo X0.here hx rfl (hb hby d1_153) rfl (tlt hc124).2.2.2 ?_
                show Steps p.tables e below (s₁.setTop (mkF m 156 #[.val (.ref o0), .val (.int p1), .val (.int p2), .val (.int (b0 &&& (255 : Int32))), .val (.int (4 : Int32)), .val (.int (if (b0 &&& (255 : Int32)) = (240 : Int32) then (144 : Int32) else (128 : Int32))), .val (.int (if (b0 &&& (255 : Int32)) = (244 : Int32) then (143 : Int32) else (191 : Int32))), .unset, .unset] [])) _
                refine XS.iconst X0.here hx rfl (hb hby d1_156) ?_
                exact k)
              obtain ⟨fs, hr, hrun, hended, hW, hsame⟩ := X0.leave (v := some (.int (-1 : Int32))) (fun h => by rw [Bd.returns] at h; cases h)
              refine ⟨_, _, go126 _ ?_, hrun, hended, _, _, rfl, ?_, ⟨_, rfl⟩, hW, hsame.mono (by decide) (by decide)⟩
              · exact own_retI X0 hx Bd.returns (hb hby d1_157) hr
              · show Q_rm1 Z o0 p1 p2 ka vs b0 b1 b2 b3 h0 n0 _ s₁.heap _
                rw [e0]
                exact ⟨by unfold own_len; simp only [if_neg hc3, if_pos hc108, if_pos hc110, if_neg hc112, if_neg hc115, if_pos hc124], N0, rfl⟩
            · skip
              have go127 := go125.step (C := s₁.setTop (mkF m 162 #[.val (.ref o0), .val (.int p1), .val (.int p2), .val (.int (b0 &&& (255 : Int32))), .val (.int (4 : Int32)), .val (.int (if (b0 &&& (255 : Int32)) = (240 : Int32) then (144 : Int32) else (128 : Int32))), .val (.int (if (b0 &&& (255 : Int32)) = (244 : Int32) then (143 : Int32) else (191 : Int32))), .unset, .unset] [(.int (p1 + (1 : Int32))), (.ref o0)])) (fun t k => by
                show Steps p.tables e below (s₁.setTop (mkF m 153 #[.val (.ref o0), .val (.int p1), .val (.int p2), .val (.int (b0 &&& (255 : Int32))), .val (.int (4 : Int32)), .val (.int (if (b0 &&& (255 : Int32)) = (240 : Int32) then (144 : Int32) else (128 : Int32))), .val (.int (if (b0 &&& (255 : Int32)) = (244 : Int32) then (143 : Int32) else (191 : Int32))), .unset, .unset] [(.int p2), (.int (p1 + (4 : Int32)))])) _
                refine XS.icmpYes X0.here hx rfl (pc0 := 153) (pc' := 158) rfl (hb hby d1_153) rfl (flt hc124).2.2.2 (by decide) (by decide) ?_
                show Steps p.tables e below (s₁.setTop (mkF m 158 #[.val (.ref o0), .val (.int p1), .val (.int p2), .val (.int (b0 &&& (255 : Int32))), .val (.int (4 : Int32)), .val (.int (if (b0 &&& (255 : Int32)) = (240 : Int32) then (144 : Int32) else (128 : Int32))), .val (.int (if (b0 &&& (255 : Int32)) = (244 : Int32) then (143 : Int32) else (191 : Int32))), .unset, .unset] [])) _
                refine XS.aloadN X0.here hx rfl (hb hby d1_158) rfl rfl ?_
                show Steps p.tables e below (s₁.setTop (mkF m 159 #[.val (.ref o0), .val (.int p1), .val (.int p2), .val (.int (b0 &&& (255 : Int32))), .val (.int (4 : Int32)), .val (.int (if (b0 &&& (255 : Int32)) = (240 : Int32) then (144 : Int32) else (128 : Int32))), .val (.int (if (b0 &&& (255 : Int32)) = (244 : Int32) then (143 : Int32) else (191 : Int32))), .unset, .unset] [(.ref o0)])) _
                refine XS.iloadN X0.here hx rfl (hb hby d1_159) rfl ?_
                show Steps p.tables e below (s₁.setTop (mkF m 160 #[.val (.ref o0), .val (.int p1), .val (.int p2), .val (.int (b0 &&& (255 : Int32))), .val (.int (4 : Int32)), .val (.int (if (b0 &&& (255 : Int32)) = (240 : Int32) then (144 : Int32) else (128 : Int32))), .val (.int (if (b0 &&& (255 : Int32)) = (244 : Int32) then (143 : Int32) else (191 : Int32))), .unset, .unset] [(.int p1), (.ref o0)])) _
                refine XS.iconst X0.here hx rfl (hb hby d1_160) ?_
                show Steps p.tables e below (s₁.setTop (mkF m 161 #[.val (.ref o0), .val (.int p1), .val (.int p2), .val (.int (b0 &&& (255 : Int32))), .val (.int (4 : Int32)), .val (.int (if (b0 &&& (255 : Int32)) = (240 : Int32) then (144 : Int32) else (128 : Int32))), .val (.int (if (b0 &&& (255 : Int32)) = (244 : Int32) then (143 : Int32) else (191 : Int32))), .unset, .unset] [(.int (1 : Int32)), (.int p1), (.ref o0)])) _
                refine XS.iadd X0.here hx rfl (hb hby d1_161) rfl ?_
                exact k)
              have Vo128 := V0
              obtain ⟨cl128, Ar128, qa128, Sa128, Na128, Ha128, Ga128⟩ := Vo128
              have hin128 : ¬ ((p1 + (1 : Int32)) < 0 ∨ cl128.slots.size ≤ ((p1 + (1 : Int32))).toNatClampNeg) := inb_of Sa128 (own_r1 hvs).1
              have hat128 : cl128.slots[((p1 + (1 : Int32))).toNatClampNeg]? = some (.int b1) := Has.at Ha128 hin128 (own_r1 hvs).2
              have go130 := go127.step (C := s₁.setTop (mkF m 173 #[.val (.ref o0), .val (.int p1), .val (.int p2), .val (.int (b0 &&& (255 : Int32))), .val (.int (4 : Int32)), .val (.int (if (b0 &&& (255 : Int32)) = (240 : Int32) then (144 : Int32) else (128 : Int32))), .val (.int (if (b0 &&& (255 : Int32)) = (244 : Int32) then (143 : Int32) else (191 : Int32))), .val (.int (b1 &&& (255 : Int32))), .unset] [(.int (if (b0 &&& (255 : Int32)) = (240 : Int32) then (144 : Int32) else (128 : Int32))), (.int (b1 &&& (255 : Int32)))])) (fun t k => by
                show Steps p.tables e below (s₁.setTop (mkF m 162 #[.val (.ref o0), .val (.int p1), .val (.int p2), .val (.int (b0 &&& (255 : Int32))), .val (.int (4 : Int32)), .val (.int (if (b0 &&& (255 : Int32)) = (240 : Int32) then (144 : Int32) else (128 : Int32))), .val (.int (if (b0 &&& (255 : Int32)) = (244 : Int32) then (143 : Int32) else (191 : Int32))), .unset, .unset] [(.int (p1 + (1 : Int32))), (.ref o0)])) _
                refine X0.baloadBytes hx (j := (p1 + (1 : Int32))) (v := (.int b1)) (by rw [e0]; exact Ar128.1) (State.isArrayOf_alike hZ.alike Ar128.2.1) Ar128.2.2 hin128 hat128 (g := (mkF m 162 #[.val (.ref o0), .val (.int p1), .val (.int p2), .val (.int (b0 &&& (255 : Int32))), .val (.int (4 : Int32)), .val (.int (if (b0 &&& (255 : Int32)) = (240 : Int32) then (144 : Int32) else (128 : Int32))), .val (.int (if (b0 &&& (255 : Int32)) = (244 : Int32) then (143 : Int32) else (191 : Int32))), .unset, .unset] [(.int (p1 + (1 : Int32))), (.ref o0)])) rfl rfl (hb hby d1_162) _ ?_
                show Steps p.tables e below (s₁.setTop (mkF m 163 #[.val (.ref o0), .val (.int p1), .val (.int p2), .val (.int (b0 &&& (255 : Int32))), .val (.int (4 : Int32)), .val (.int (if (b0 &&& (255 : Int32)) = (240 : Int32) then (144 : Int32) else (128 : Int32))), .val (.int (if (b0 &&& (255 : Int32)) = (244 : Int32) then (143 : Int32) else (191 : Int32))), .unset, .unset] [(.int b1)])) _
                refine XS.sipush X0.here hx rfl (hb hby d1_163) ?_
                show Steps p.tables e below (s₁.setTop (mkF m 166 #[.val (.ref o0), .val (.int p1), .val (.int p2), .val (.int (b0 &&& (255 : Int32))), .val (.int (4 : Int32)), .val (.int (if (b0 &&& (255 : Int32)) = (240 : Int32) then (144 : Int32) else (128 : Int32))), .val (.int (if (b0 &&& (255 : Int32)) = (244 : Int32) then (143 : Int32) else (191 : Int32))), .unset, .unset] [(.int (255 : Int32)), (.int b1)])) _
                refine XS.iand X0.here hx rfl (hb hby d1_166) rfl ?_
                show Steps p.tables e below (s₁.setTop (mkF m 167 #[.val (.ref o0), .val (.int p1), .val (.int p2), .val (.int (b0 &&& (255 : Int32))), .val (.int (4 : Int32)), .val (.int (if (b0 &&& (255 : Int32)) = (240 : Int32) then (144 : Int32) else (128 : Int32))), .val (.int (if (b0 &&& (255 : Int32)) = (244 : Int32) then (143 : Int32) else (191 : Int32))), .unset, .unset] [(.int (b1 &&& (255 : Int32)))])) _
                refine XS.istore X0.here hx rfl (hb hby d1_167) rfl (l' := #[.val (.ref o0), .val (.int p1), .val (.int p2), .val (.int (b0 &&& (255 : Int32))), .val (.int (4 : Int32)), .val (.int (if (b0 &&& (255 : Int32)) = (240 : Int32) then (144 : Int32) else (128 : Int32))), .val (.int (if (b0 &&& (255 : Int32)) = (244 : Int32) then (143 : Int32) else (191 : Int32))), .val (.int (b1 &&& (255 : Int32))), .unset]) rfl ?_
                show Steps p.tables e below (s₁.setTop (mkF m 169 #[.val (.ref o0), .val (.int p1), .val (.int p2), .val (.int (b0 &&& (255 : Int32))), .val (.int (4 : Int32)), .val (.int (if (b0 &&& (255 : Int32)) = (240 : Int32) then (144 : Int32) else (128 : Int32))), .val (.int (if (b0 &&& (255 : Int32)) = (244 : Int32) then (143 : Int32) else (191 : Int32))), .val (.int (b1 &&& (255 : Int32))), .unset] [])) _
                refine XS.iload X0.here hx rfl (hb hby d1_169) rfl ?_
                show Steps p.tables e below (s₁.setTop (mkF m 171 #[.val (.ref o0), .val (.int p1), .val (.int p2), .val (.int (b0 &&& (255 : Int32))), .val (.int (4 : Int32)), .val (.int (if (b0 &&& (255 : Int32)) = (240 : Int32) then (144 : Int32) else (128 : Int32))), .val (.int (if (b0 &&& (255 : Int32)) = (244 : Int32) then (143 : Int32) else (191 : Int32))), .val (.int (b1 &&& (255 : Int32))), .unset] [(.int (b1 &&& (255 : Int32)))])) _
                refine XS.iload X0.here hx rfl (hb hby d1_171) rfl ?_
                exact k)
              by_cases hc129 : (b1 &&& (255 : Int32)) < (if (b0 &&& (255 : Int32)) = (240 : Int32) then (144 : Int32) else (128 : Int32))
              · skip
                have go131 := go130.step (C := s₁.setTop (mkF m 184 #[.val (.ref o0), .val (.int p1), .val (.int p2), .val (.int (b0 &&& (255 : Int32))), .val (.int (4 : Int32)), .val (.int (if (b0 &&& (255 : Int32)) = (240 : Int32) then (144 : Int32) else (128 : Int32))), .val (.int (if (b0 &&& (255 : Int32)) = (244 : Int32) then (143 : Int32) else (191 : Int32))), .val (.int (b1 &&& (255 : Int32))), .unset] [(.int (-1 : Int32))])) (fun t k => by
                  show Steps p.tables e below (s₁.setTop (mkF m 173 #[.val (.ref o0), .val (.int p1), .val (.int p2), .val (.int (b0 &&& (255 : Int32))), .val (.int (4 : Int32)), .val (.int (if (b0 &&& (255 : Int32)) = (240 : Int32) then (144 : Int32) else (128 : Int32))), .val (.int (if (b0 &&& (255 : Int32)) = (244 : Int32) then (143 : Int32) else (191 : Int32))), .val (.int (b1 &&& (255 : Int32))), .unset] [(.int (if (b0 &&& (255 : Int32)) = (240 : Int32) then (144 : Int32) else (128 : Int32))), (.int (b1 &&& (255 : Int32)))])) _
                  refine XS.icmpYes X0.here hx rfl (pc0 := 173) (pc' := 183) rfl (hb hby d1_173) rfl (tlt hc129).1 (by decide) (by decide) ?_
                  show Steps p.tables e below (s₁.setTop (mkF m 183 #[.val (.ref o0), .val (.int p1), .val (.int p2), .val (.int (b0 &&& (255 : Int32))), .val (.int (4 : Int32)), .val (.int (if (b0 &&& (255 : Int32)) = (240 : Int32) then (144 : Int32) else (128 : Int32))), .val (.int (if (b0 &&& (255 : Int32)) = (244 : Int32) then (143 : Int32) else (191 : Int32))), .val (.int (b1 &&& (255 : Int32))), .unset] [])) _
                  refine XS.iconst X0.here hx rfl (hb hby d1_183) ?_
                  exact k)
                obtain ⟨fs, hr, hrun, hended, hW, hsame⟩ := X0.leave (v := some (.int (-1 : Int32))) (fun h => by rw [Bd.returns] at h; cases h)
                refine ⟨_, _, go131 _ ?_, hrun, hended, _, _, rfl, ?_, ⟨_, rfl⟩, hW, hsame.mono (by decide) (by decide)⟩
                · exact own_retI X0 hx Bd.returns (hb hby d1_184) hr
                · show Q_rm1 Z o0 p1 p2 ka vs b0 b1 b2 b3 h0 n0 _ s₁.heap _
                  rw [e0]
                  exact ⟨by unfold own_len; simp only [if_neg hc3, if_pos hc108, if_pos hc110, if_neg hc112, if_neg hc115, if_neg hc124, if_pos hc129], N0, rfl⟩
              · skip
                have go133 := go130.step (C := s₁.setTop (mkF m 180 #[.val (.ref o0), .val (.int p1), .val (.int p2), .val (.int (b0 &&& (255 : Int32))), .val (.int (4 : Int32)), .val (.int (if (b0 &&& (255 : Int32)) = (240 : Int32) then (144 : Int32) else (128 : Int32))), .val (.int (if (b0 &&& (255 : Int32)) = (244 : Int32) then (143 : Int32) else (191 : Int32))), .val (.int (b1 &&& (255 : Int32))), .unset] [(.int (if (b0 &&& (255 : Int32)) = (244 : Int32) then (143 : Int32) else (191 : Int32))), (.int (b1 &&& (255 : Int32)))])) (fun t k => by
                  show Steps p.tables e below (s₁.setTop (mkF m 173 #[.val (.ref o0), .val (.int p1), .val (.int p2), .val (.int (b0 &&& (255 : Int32))), .val (.int (4 : Int32)), .val (.int (if (b0 &&& (255 : Int32)) = (240 : Int32) then (144 : Int32) else (128 : Int32))), .val (.int (if (b0 &&& (255 : Int32)) = (244 : Int32) then (143 : Int32) else (191 : Int32))), .val (.int (b1 &&& (255 : Int32))), .unset] [(.int (if (b0 &&& (255 : Int32)) = (240 : Int32) then (144 : Int32) else (128 : Int32))), (.int (b1 &&& (255 : Int32)))])) _
                  refine XS.icmpNo X0.here hx rfl (hb hby d1_173) rfl (flt hc129).1 ?_
                  show Steps p.tables e below (s₁.setTop (mkF m 176 #[.val (.ref o0), .val (.int p1), .val (.int p2), .val (.int (b0 &&& (255 : Int32))), .val (.int (4 : Int32)), .val (.int (if (b0 &&& (255 : Int32)) = (240 : Int32) then (144 : Int32) else (128 : Int32))), .val (.int (if (b0 &&& (255 : Int32)) = (244 : Int32) then (143 : Int32) else (191 : Int32))), .val (.int (b1 &&& (255 : Int32))), .unset] [])) _
                  refine XS.iload X0.here hx rfl (hb hby d1_176) rfl ?_
                  show Steps p.tables e below (s₁.setTop (mkF m 178 #[.val (.ref o0), .val (.int p1), .val (.int p2), .val (.int (b0 &&& (255 : Int32))), .val (.int (4 : Int32)), .val (.int (if (b0 &&& (255 : Int32)) = (240 : Int32) then (144 : Int32) else (128 : Int32))), .val (.int (if (b0 &&& (255 : Int32)) = (244 : Int32) then (143 : Int32) else (191 : Int32))), .val (.int (b1 &&& (255 : Int32))), .unset] [(.int (b1 &&& (255 : Int32)))])) _
                  refine XS.iload X0.here hx rfl (hb hby d1_178) rfl ?_
                  exact k)
                by_cases hc132 : (if (b0 &&& (255 : Int32)) = (244 : Int32) then (143 : Int32) else (191 : Int32)) < (b1 &&& (255 : Int32))
                · skip
                  have go134 := go133.step (C := s₁.setTop (mkF m 184 #[.val (.ref o0), .val (.int p1), .val (.int p2), .val (.int (b0 &&& (255 : Int32))), .val (.int (4 : Int32)), .val (.int (if (b0 &&& (255 : Int32)) = (240 : Int32) then (144 : Int32) else (128 : Int32))), .val (.int (if (b0 &&& (255 : Int32)) = (244 : Int32) then (143 : Int32) else (191 : Int32))), .val (.int (b1 &&& (255 : Int32))), .unset] [(.int (-1 : Int32))])) (fun t k => by
                    show Steps p.tables e below (s₁.setTop (mkF m 180 #[.val (.ref o0), .val (.int p1), .val (.int p2), .val (.int (b0 &&& (255 : Int32))), .val (.int (4 : Int32)), .val (.int (if (b0 &&& (255 : Int32)) = (240 : Int32) then (144 : Int32) else (128 : Int32))), .val (.int (if (b0 &&& (255 : Int32)) = (244 : Int32) then (143 : Int32) else (191 : Int32))), .val (.int (b1 &&& (255 : Int32))), .unset] [(.int (if (b0 &&& (255 : Int32)) = (244 : Int32) then (143 : Int32) else (191 : Int32))), (.int (b1 &&& (255 : Int32)))])) _
                    refine XS.icmpNo X0.here hx rfl (hb hby d1_180) rfl (tlt hc132).2.2.2 ?_
                    show Steps p.tables e below (s₁.setTop (mkF m 183 #[.val (.ref o0), .val (.int p1), .val (.int p2), .val (.int (b0 &&& (255 : Int32))), .val (.int (4 : Int32)), .val (.int (if (b0 &&& (255 : Int32)) = (240 : Int32) then (144 : Int32) else (128 : Int32))), .val (.int (if (b0 &&& (255 : Int32)) = (244 : Int32) then (143 : Int32) else (191 : Int32))), .val (.int (b1 &&& (255 : Int32))), .unset] [])) _
                    refine XS.iconst X0.here hx rfl (hb hby d1_183) ?_
                    exact k)
                  obtain ⟨fs, hr, hrun, hended, hW, hsame⟩ := X0.leave (v := some (.int (-1 : Int32))) (fun h => by rw [Bd.returns] at h; cases h)
                  refine ⟨_, _, go134 _ ?_, hrun, hended, _, _, rfl, ?_, ⟨_, rfl⟩, hW, hsame.mono (by decide) (by decide)⟩
                  · exact own_retI X0 hx Bd.returns (hb hby d1_184) hr
                  · show Q_rm1 Z o0 p1 p2 ka vs b0 b1 b2 b3 h0 n0 _ s₁.heap _
                    rw [e0]
                    exact ⟨by unfold own_len; simp only [if_neg hc3, if_pos hc108, if_pos hc110, if_neg hc112, if_neg hc115, if_neg hc124, if_neg hc129, if_pos hc132], N0, rfl⟩
                · skip
                  have go136 := go133.step (C := s₁.setTop (mkF m 202 #[.val (.ref o0), .val (.int p1), .val (.int p2), .val (.int (b0 &&& (255 : Int32))), .val (.int (4 : Int32)), .val (.int (if (b0 &&& (255 : Int32)) = (240 : Int32) then (144 : Int32) else (128 : Int32))), .val (.int (if (b0 &&& (255 : Int32)) = (244 : Int32) then (143 : Int32) else (191 : Int32))), .val (.int (b1 &&& (255 : Int32))), .val (.int (p1 + (2 : Int32)))] [(.int (p1 + (2 : Int32))), (.ref o0)])) (fun t k => by
                    show Steps p.tables e below (s₁.setTop (mkF m 180 #[.val (.ref o0), .val (.int p1), .val (.int p2), .val (.int (b0 &&& (255 : Int32))), .val (.int (4 : Int32)), .val (.int (if (b0 &&& (255 : Int32)) = (240 : Int32) then (144 : Int32) else (128 : Int32))), .val (.int (if (b0 &&& (255 : Int32)) = (244 : Int32) then (143 : Int32) else (191 : Int32))), .val (.int (b1 &&& (255 : Int32))), .unset] [(.int (if (b0 &&& (255 : Int32)) = (244 : Int32) then (143 : Int32) else (191 : Int32))), (.int (b1 &&& (255 : Int32)))])) _
                    refine XS.icmpYes X0.here hx rfl (pc0 := 180) (pc' := 185) rfl (hb hby d1_180) rfl (flt hc132).2.2.2 (by decide) (by decide) ?_
                    show Steps p.tables e below (s₁.setTop (mkF m 185 #[.val (.ref o0), .val (.int p1), .val (.int p2), .val (.int (b0 &&& (255 : Int32))), .val (.int (4 : Int32)), .val (.int (if (b0 &&& (255 : Int32)) = (240 : Int32) then (144 : Int32) else (128 : Int32))), .val (.int (if (b0 &&& (255 : Int32)) = (244 : Int32) then (143 : Int32) else (191 : Int32))), .val (.int (b1 &&& (255 : Int32))), .unset] [])) _
                    refine XS.iloadN X0.here hx rfl (hb hby d1_185) rfl ?_
                    show Steps p.tables e below (s₁.setTop (mkF m 186 #[.val (.ref o0), .val (.int p1), .val (.int p2), .val (.int (b0 &&& (255 : Int32))), .val (.int (4 : Int32)), .val (.int (if (b0 &&& (255 : Int32)) = (240 : Int32) then (144 : Int32) else (128 : Int32))), .val (.int (if (b0 &&& (255 : Int32)) = (244 : Int32) then (143 : Int32) else (191 : Int32))), .val (.int (b1 &&& (255 : Int32))), .unset] [(.int p1)])) _
                    refine XS.iconst X0.here hx rfl (hb hby d1_186) ?_
                    show Steps p.tables e below (s₁.setTop (mkF m 187 #[.val (.ref o0), .val (.int p1), .val (.int p2), .val (.int (b0 &&& (255 : Int32))), .val (.int (4 : Int32)), .val (.int (if (b0 &&& (255 : Int32)) = (240 : Int32) then (144 : Int32) else (128 : Int32))), .val (.int (if (b0 &&& (255 : Int32)) = (244 : Int32) then (143 : Int32) else (191 : Int32))), .val (.int (b1 &&& (255 : Int32))), .unset] [(.int (2 : Int32)), (.int p1)])) _
                    refine XS.iadd X0.here hx rfl (hb hby d1_187) rfl ?_
                    show Steps p.tables e below (s₁.setTop (mkF m 188 #[.val (.ref o0), .val (.int p1), .val (.int p2), .val (.int (b0 &&& (255 : Int32))), .val (.int (4 : Int32)), .val (.int (if (b0 &&& (255 : Int32)) = (240 : Int32) then (144 : Int32) else (128 : Int32))), .val (.int (if (b0 &&& (255 : Int32)) = (244 : Int32) then (143 : Int32) else (191 : Int32))), .val (.int (b1 &&& (255 : Int32))), .unset] [(.int (p1 + (2 : Int32)))])) _
                    refine XS.istore X0.here hx rfl (hb hby d1_188) rfl (l' := #[.val (.ref o0), .val (.int p1), .val (.int p2), .val (.int (b0 &&& (255 : Int32))), .val (.int (4 : Int32)), .val (.int (if (b0 &&& (255 : Int32)) = (240 : Int32) then (144 : Int32) else (128 : Int32))), .val (.int (if (b0 &&& (255 : Int32)) = (244 : Int32) then (143 : Int32) else (191 : Int32))), .val (.int (b1 &&& (255 : Int32))), .val (.int (p1 + (2 : Int32)))]) rfl ?_
                    show Steps p.tables e below (s₁.setTop (mkF m 190 #[.val (.ref o0), .val (.int p1), .val (.int p2), .val (.int (b0 &&& (255 : Int32))), .val (.int (4 : Int32)), .val (.int (if (b0 &&& (255 : Int32)) = (240 : Int32) then (144 : Int32) else (128 : Int32))), .val (.int (if (b0 &&& (255 : Int32)) = (244 : Int32) then (143 : Int32) else (191 : Int32))), .val (.int (b1 &&& (255 : Int32))), .val (.int (p1 + (2 : Int32)))] [])) _
                    refine XS.iload X0.here hx rfl (hb hby d1_190) rfl ?_
                    show Steps p.tables e below (s₁.setTop (mkF m 192 #[.val (.ref o0), .val (.int p1), .val (.int p2), .val (.int (b0 &&& (255 : Int32))), .val (.int (4 : Int32)), .val (.int (if (b0 &&& (255 : Int32)) = (240 : Int32) then (144 : Int32) else (128 : Int32))), .val (.int (if (b0 &&& (255 : Int32)) = (244 : Int32) then (143 : Int32) else (191 : Int32))), .val (.int (b1 &&& (255 : Int32))), .val (.int (p1 + (2 : Int32)))] [(.int (p1 + (2 : Int32)))])) _
                    refine XS.iloadN X0.here hx rfl (hb hby d1_192) rfl ?_
                    show Steps p.tables e below (s₁.setTop (mkF m 193 #[.val (.ref o0), .val (.int p1), .val (.int p2), .val (.int (b0 &&& (255 : Int32))), .val (.int (4 : Int32)), .val (.int (if (b0 &&& (255 : Int32)) = (240 : Int32) then (144 : Int32) else (128 : Int32))), .val (.int (if (b0 &&& (255 : Int32)) = (244 : Int32) then (143 : Int32) else (191 : Int32))), .val (.int (b1 &&& (255 : Int32))), .val (.int (p1 + (2 : Int32)))] [(.int p1), (.int (p1 + (2 : Int32)))])) _
                    refine XS.iload X0.here hx rfl (hb hby d1_193) rfl ?_
                    show Steps p.tables e below (s₁.setTop (mkF m 195 #[.val (.ref o0), .val (.int p1), .val (.int p2), .val (.int (b0 &&& (255 : Int32))), .val (.int (4 : Int32)), .val (.int (if (b0 &&& (255 : Int32)) = (240 : Int32) then (144 : Int32) else (128 : Int32))), .val (.int (if (b0 &&& (255 : Int32)) = (244 : Int32) then (143 : Int32) else (191 : Int32))), .val (.int (b1 &&& (255 : Int32))), .val (.int (p1 + (2 : Int32)))] [(.int (4 : Int32)), (.int p1), (.int (p1 + (2 : Int32)))])) _
                    refine XS.iadd X0.here hx rfl (hb hby d1_195) rfl ?_
                    show Steps p.tables e below (s₁.setTop (mkF m 196 #[.val (.ref o0), .val (.int p1), .val (.int p2), .val (.int (b0 &&& (255 : Int32))), .val (.int (4 : Int32)), .val (.int (if (b0 &&& (255 : Int32)) = (240 : Int32) then (144 : Int32) else (128 : Int32))), .val (.int (if (b0 &&& (255 : Int32)) = (244 : Int32) then (143 : Int32) else (191 : Int32))), .val (.int (b1 &&& (255 : Int32))), .val (.int (p1 + (2 : Int32)))] [(.int (p1 + (4 : Int32))), (.int (p1 + (2 : Int32)))])) _
                    refine XS.icmpNo X0.here hx rfl (hb hby d1_196) rfl (tlt (own_b0_4 hvs.p : (p1 + (2 : Int32)) < (p1 + (4 : Int32)))).2.1 ?_
                    show Steps p.tables e below (s₁.setTop (mkF m 199 #[.val (.ref o0), .val (.int p1), .val (.int p2), .val (.int (b0 &&& (255 : Int32))), .val (.int (4 : Int32)), .val (.int (if (b0 &&& (255 : Int32)) = (240 : Int32) then (144 : Int32) else (128 : Int32))), .val (.int (if (b0 &&& (255 : Int32)) = (244 : Int32) then (143 : Int32) else (191 : Int32))), .val (.int (b1 &&& (255 : Int32))), .val (.int (p1 + (2 : Int32)))] [])) _
                    refine XS.aloadN X0.here hx rfl (hb hby d1_199) rfl rfl ?_
                    show Steps p.tables e below (s₁.setTop (mkF m 200 #[.val (.ref o0), .val (.int p1), .val (.int p2), .val (.int (b0 &&& (255 : Int32))), .val (.int (4 : Int32)), .val (.int (if (b0 &&& (255 : Int32)) = (240 : Int32) then (144 : Int32) else (128 : Int32))), .val (.int (if (b0 &&& (255 : Int32)) = (244 : Int32) then (143 : Int32) else (191 : Int32))), .val (.int (b1 &&& (255 : Int32))), .val (.int (p1 + (2 : Int32)))] [(.ref o0)])) _
                    refine XS.iload X0.here hx rfl (hb hby d1_200) rfl ?_
                    exact k)
                  have Vo137 := V0
                  obtain ⟨cl137, Ar137, qa137, Sa137, Na137, Ha137, Ga137⟩ := Vo137
                  have hin137 : ¬ ((p1 + (2 : Int32)) < 0 ∨ cl137.slots.size ≤ ((p1 + (2 : Int32))).toNatClampNeg) := inb_of Sa137 (own_r2 hvs).1
                  have hat137 : cl137.slots[((p1 + (2 : Int32))).toNatClampNeg]? = some (.int b2) := Has.at Ha137 hin137 (own_r2 hvs).2
                  have go139 := go136.step (C := s₁.setTop (mkF m 210 #[.val (.ref o0), .val (.int p1), .val (.int p2), .val (.int (b0 &&& (255 : Int32))), .val (.int (4 : Int32)), .val (.int (if (b0 &&& (255 : Int32)) = (240 : Int32) then (144 : Int32) else (128 : Int32))), .val (.int (if (b0 &&& (255 : Int32)) = (244 : Int32) then (143 : Int32) else (191 : Int32))), .val (.int (b1 &&& (255 : Int32))), .val (.int (p1 + (2 : Int32)))] [(.int (128 : Int32)), (.int (b2 &&& (192 : Int32)))])) (fun t k => by
                    show Steps p.tables e below (s₁.setTop (mkF m 202 #[.val (.ref o0), .val (.int p1), .val (.int p2), .val (.int (b0 &&& (255 : Int32))), .val (.int (4 : Int32)), .val (.int (if (b0 &&& (255 : Int32)) = (240 : Int32) then (144 : Int32) else (128 : Int32))), .val (.int (if (b0 &&& (255 : Int32)) = (244 : Int32) then (143 : Int32) else (191 : Int32))), .val (.int (b1 &&& (255 : Int32))), .val (.int (p1 + (2 : Int32)))] [(.int (p1 + (2 : Int32))), (.ref o0)])) _
                    refine X0.baloadBytes hx (j := (p1 + (2 : Int32))) (v := (.int b2)) (by rw [e0]; exact Ar137.1) (State.isArrayOf_alike hZ.alike Ar137.2.1) Ar137.2.2 hin137 hat137 (g := (mkF m 202 #[.val (.ref o0), .val (.int p1), .val (.int p2), .val (.int (b0 &&& (255 : Int32))), .val (.int (4 : Int32)), .val (.int (if (b0 &&& (255 : Int32)) = (240 : Int32) then (144 : Int32) else (128 : Int32))), .val (.int (if (b0 &&& (255 : Int32)) = (244 : Int32) then (143 : Int32) else (191 : Int32))), .val (.int (b1 &&& (255 : Int32))), .val (.int (p1 + (2 : Int32)))] [(.int (p1 + (2 : Int32))), (.ref o0)])) rfl rfl (hb hby d1_202) _ ?_
                    show Steps p.tables e below (s₁.setTop (mkF m 203 #[.val (.ref o0), .val (.int p1), .val (.int p2), .val (.int (b0 &&& (255 : Int32))), .val (.int (4 : Int32)), .val (.int (if (b0 &&& (255 : Int32)) = (240 : Int32) then (144 : Int32) else (128 : Int32))), .val (.int (if (b0 &&& (255 : Int32)) = (244 : Int32) then (143 : Int32) else (191 : Int32))), .val (.int (b1 &&& (255 : Int32))), .val (.int (p1 + (2 : Int32)))] [(.int b2)])) _
                    refine XS.sipush X0.here hx rfl (hb hby d1_203) ?_
                    show Steps p.tables e below (s₁.setTop (mkF m 206 #[.val (.ref o0), .val (.int p1), .val (.int p2), .val (.int (b0 &&& (255 : Int32))), .val (.int (4 : Int32)), .val (.int (if (b0 &&& (255 : Int32)) = (240 : Int32) then (144 : Int32) else (128 : Int32))), .val (.int (if (b0 &&& (255 : Int32)) = (244 : Int32) then (143 : Int32) else (191 : Int32))), .val (.int (b1 &&& (255 : Int32))), .val (.int (p1 + (2 : Int32)))] [(.int (192 : Int32)), (.int b2)])) _
                    refine XS.iand X0.here hx rfl (hb hby d1_206) rfl ?_
                    show Steps p.tables e below (s₁.setTop (mkF m 207 #[.val (.ref o0), .val (.int p1), .val (.int p2), .val (.int (b0 &&& (255 : Int32))), .val (.int (4 : Int32)), .val (.int (if (b0 &&& (255 : Int32)) = (240 : Int32) then (144 : Int32) else (128 : Int32))), .val (.int (if (b0 &&& (255 : Int32)) = (244 : Int32) then (143 : Int32) else (191 : Int32))), .val (.int (b1 &&& (255 : Int32))), .val (.int (p1 + (2 : Int32)))] [(.int (b2 &&& (192 : Int32)))])) _
                    refine XS.sipush X0.here hx rfl (hb hby d1_207) ?_
                    exact k)
                  by_cases hc138 : (b2 &&& (192 : Int32)) = (128 : Int32)
                  · skip
                    have go141 := go139.step (C := s₁.setTop (mkF m 202 #[.val (.ref o0), .val (.int p1), .val (.int p2), .val (.int (b0 &&& (255 : Int32))), .val (.int (4 : Int32)), .val (.int (if (b0 &&& (255 : Int32)) = (240 : Int32) then (144 : Int32) else (128 : Int32))), .val (.int (if (b0 &&& (255 : Int32)) = (244 : Int32) then (143 : Int32) else (191 : Int32))), .val (.int (b1 &&& (255 : Int32))), .val (.int ((p1 + (2 : Int32)) + (1 : Int32)))] [(.int ((p1 + (2 : Int32)) + (1 : Int32))), (.ref o0)])) (fun t k => by
                      show Steps p.tables e below (s₁.setTop (mkF m 210 #[.val (.ref o0), .val (.int p1), .val (.int p2), .val (.int (b0 &&& (255 : Int32))), .val (.int (4 : Int32)), .val (.int (if (b0 &&& (255 : Int32)) = (240 : Int32) then (144 : Int32) else (128 : Int32))), .val (.int (if (b0 &&& (255 : Int32)) = (244 : Int32) then (143 : Int32) else (191 : Int32))), .val (.int (b1 &&& (255 : Int32))), .val (.int (p1 + (2 : Int32)))] [(.int (128 : Int32)), (.int (b2 &&& (192 : Int32)))])) _
                      refine XS.icmpYes X0.here hx rfl (pc0 := 210) (pc' := 215) rfl (hb hby d1_210) rfl (teq hc138).1 (by decide) (by decide) ?_
                      show Steps p.tables e below (s₁.setTop (mkF m 215 #[.val (.ref o0), .val (.int p1), .val (.int p2), .val (.int (b0 &&& (255 : Int32))), .val (.int (4 : Int32)), .val (.int (if (b0 &&& (255 : Int32)) = (240 : Int32) then (144 : Int32) else (128 : Int32))), .val (.int (if (b0 &&& (255 : Int32)) = (244 : Int32) then (143 : Int32) else (191 : Int32))), .val (.int (b1 &&& (255 : Int32))), .val (.int (p1 + (2 : Int32)))] [])) _
                      refine XS.iinc X0.here hx rfl (hb hby d1_215) rfl (l' := #[.val (.ref o0), .val (.int p1), .val (.int p2), .val (.int (b0 &&& (255 : Int32))), .val (.int (4 : Int32)), .val (.int (if (b0 &&& (255 : Int32)) = (240 : Int32) then (144 : Int32) else (128 : Int32))), .val (.int (if (b0 &&& (255 : Int32)) = (244 : Int32) then (143 : Int32) else (191 : Int32))), .val (.int (b1 &&& (255 : Int32))), .val (.int ((p1 + (2 : Int32)) + (1 : Int32)))]) rfl ?_
                      show Steps p.tables e below (s₁.setTop (mkF m 218 #[.val (.ref o0), .val (.int p1), .val (.int p2), .val (.int (b0 &&& (255 : Int32))), .val (.int (4 : Int32)), .val (.int (if (b0 &&& (255 : Int32)) = (240 : Int32) then (144 : Int32) else (128 : Int32))), .val (.int (if (b0 &&& (255 : Int32)) = (244 : Int32) then (143 : Int32) else (191 : Int32))), .val (.int (b1 &&& (255 : Int32))), .val (.int ((p1 + (2 : Int32)) + (1 : Int32)))] [])) _
                      refine XS.goto X0.here hx rfl (pc0 := 218) (pc' := 190) rfl (hb hby d1_218) (by decide) (by decide) ?_
                      show Steps p.tables e below (s₁.setTop (mkF m 190 #[.val (.ref o0), .val (.int p1), .val (.int p2), .val (.int (b0 &&& (255 : Int32))), .val (.int (4 : Int32)), .val (.int (if (b0 &&& (255 : Int32)) = (240 : Int32) then (144 : Int32) else (128 : Int32))), .val (.int (if (b0 &&& (255 : Int32)) = (244 : Int32) then (143 : Int32) else (191 : Int32))), .val (.int (b1 &&& (255 : Int32))), .val (.int ((p1 + (2 : Int32)) + (1 : Int32)))] [])) _
                      refine XS.iload X0.here hx rfl (hb hby d1_190) rfl ?_
                      show Steps p.tables e below (s₁.setTop (mkF m 192 #[.val (.ref o0), .val (.int p1), .val (.int p2), .val (.int (b0 &&& (255 : Int32))), .val (.int (4 : Int32)), .val (.int (if (b0 &&& (255 : Int32)) = (240 : Int32) then (144 : Int32) else (128 : Int32))), .val (.int (if (b0 &&& (255 : Int32)) = (244 : Int32) then (143 : Int32) else (191 : Int32))), .val (.int (b1 &&& (255 : Int32))), .val (.int ((p1 + (2 : Int32)) + (1 : Int32)))] [(.int ((p1 + (2 : Int32)) + (1 : Int32)))])) _
                      refine XS.iloadN X0.here hx rfl (hb hby d1_192) rfl ?_
                      show Steps p.tables e below (s₁.setTop (mkF m 193 #[.val (.ref o0), .val (.int p1), .val (.int p2), .val (.int (b0 &&& (255 : Int32))), .val (.int (4 : Int32)), .val (.int (if (b0 &&& (255 : Int32)) = (240 : Int32) then (144 : Int32) else (128 : Int32))), .val (.int (if (b0 &&& (255 : Int32)) = (244 : Int32) then (143 : Int32) else (191 : Int32))), .val (.int (b1 &&& (255 : Int32))), .val (.int ((p1 + (2 : Int32)) + (1 : Int32)))] [(.int p1), (.int ((p1 + (2 : Int32)) + (1 : Int32)))])) _
                      refine XS.iload X0.here hx rfl (hb hby d1_193) rfl ?_
                      show Steps p.tables e below (s₁.setTop (mkF m 195 #[.val (.ref o0), .val (.int p1), .val (.int p2), .val (.int (b0 &&& (255 : Int32))), .val (.int (4 : Int32)), .val (.int (if (b0 &&& (255 : Int32)) = (240 : Int32) then (144 : Int32) else (128 : Int32))), .val (.int (if (b0 &&& (255 : Int32)) = (244 : Int32) then (143 : Int32) else (191 : Int32))), .val (.int (b1 &&& (255 : Int32))), .val (.int ((p1 + (2 : Int32)) + (1 : Int32)))] [(.int (4 : Int32)), (.int p1), (.int ((p1 + (2 : Int32)) + (1 : Int32)))])) _
                      refine XS.iadd X0.here hx rfl (hb hby d1_195) rfl ?_
                      show Steps p.tables e below (s₁.setTop (mkF m 196 #[.val (.ref o0), .val (.int p1), .val (.int p2), .val (.int (b0 &&& (255 : Int32))), .val (.int (4 : Int32)), .val (.int (if (b0 &&& (255 : Int32)) = (240 : Int32) then (144 : Int32) else (128 : Int32))), .val (.int (if (b0 &&& (255 : Int32)) = (244 : Int32) then (143 : Int32) else (191 : Int32))), .val (.int (b1 &&& (255 : Int32))), .val (.int ((p1 + (2 : Int32)) + (1 : Int32)))] [(.int (p1 + (4 : Int32))), (.int ((p1 + (2 : Int32)) + (1 : Int32)))])) _
                      refine XS.icmpNo X0.here hx rfl (hb hby d1_196) rfl (tlt (own_b1_4 hvs.p : ((p1 + (2 : Int32)) + (1 : Int32)) < (p1 + (4 : Int32)))).2.1 ?_
                      show Steps p.tables e below (s₁.setTop (mkF m 199 #[.val (.ref o0), .val (.int p1), .val (.int p2), .val (.int (b0 &&& (255 : Int32))), .val (.int (4 : Int32)), .val (.int (if (b0 &&& (255 : Int32)) = (240 : Int32) then (144 : Int32) else (128 : Int32))), .val (.int (if (b0 &&& (255 : Int32)) = (244 : Int32) then (143 : Int32) else (191 : Int32))), .val (.int (b1 &&& (255 : Int32))), .val (.int ((p1 + (2 : Int32)) + (1 : Int32)))] [])) _
                      refine XS.aloadN X0.here hx rfl (hb hby d1_199) rfl rfl ?_
                      show Steps p.tables e below (s₁.setTop (mkF m 200 #[.val (.ref o0), .val (.int p1), .val (.int p2), .val (.int (b0 &&& (255 : Int32))), .val (.int (4 : Int32)), .val (.int (if (b0 &&& (255 : Int32)) = (240 : Int32) then (144 : Int32) else (128 : Int32))), .val (.int (if (b0 &&& (255 : Int32)) = (244 : Int32) then (143 : Int32) else (191 : Int32))), .val (.int (b1 &&& (255 : Int32))), .val (.int ((p1 + (2 : Int32)) + (1 : Int32)))] [(.ref o0)])) _
                      refine XS.iload X0.here hx rfl (hb hby d1_200) rfl ?_
                      exact k)
                    have Vo142 := V0
                    obtain ⟨cl142, Ar142, qa142, Sa142, Na142, Ha142, Ga142⟩ := Vo142
                    have hin142 : ¬ (((p1 + (2 : Int32)) + (1 : Int32)) < 0 ∨ cl142.slots.size ≤ (((p1 + (2 : Int32)) + (1 : Int32))).toNatClampNeg) := inb_of Sa142 (own_r3 hvs).1
                    have hat142 : cl142.slots[(((p1 + (2 : Int32)) + (1 : Int32))).toNatClampNeg]? = some (.int b3) := Has.at Ha142 hin142 (own_r3 hvs).2
                    have go144 := go141.step (C := s₁.setTop (mkF m 210 #[.val (.ref o0), .val (.int p1), .val (.int p2), .val (.int (b0 &&& (255 : Int32))), .val (.int (4 : Int32)), .val (.int (if (b0 &&& (255 : Int32)) = (240 : Int32) then (144 : Int32) else (128 : Int32))), .val (.int (if (b0 &&& (255 : Int32)) = (244 : Int32) then (143 : Int32) else (191 : Int32))), .val (.int (b1 &&& (255 : Int32))), .val (.int ((p1 + (2 : Int32)) + (1 : Int32)))] [(.int (128 : Int32)), (.int (b3 &&& (192 : Int32)))])) (fun t k => by
                      show Steps p.tables e below (s₁.setTop (mkF m 202 #[.val (.ref o0), .val (.int p1), .val (.int p2), .val (.int (b0 &&& (255 : Int32))), .val (.int (4 : Int32)), .val (.int (if (b0 &&& (255 : Int32)) = (240 : Int32) then (144 : Int32) else (128 : Int32))), .val (.int (if (b0 &&& (255 : Int32)) = (244 : Int32) then (143 : Int32) else (191 : Int32))), .val (.int (b1 &&& (255 : Int32))), .val (.int ((p1 + (2 : Int32)) + (1 : Int32)))] [(.int ((p1 + (2 : Int32)) + (1 : Int32))), (.ref o0)])) _
                      refine X0.baloadBytes hx (j := ((p1 + (2 : Int32)) + (1 : Int32))) (v := (.int b3)) (by rw [e0]; exact Ar142.1) (State.isArrayOf_alike hZ.alike Ar142.2.1) Ar142.2.2 hin142 hat142 (g := (mkF m 202 #[.val (.ref o0), .val (.int p1), .val (.int p2), .val (.int (b0 &&& (255 : Int32))), .val (.int (4 : Int32)), .val (.int (if (b0 &&& (255 : Int32)) = (240 : Int32) then (144 : Int32) else (128 : Int32))), .val (.int (if (b0 &&& (255 : Int32)) = (244 : Int32) then (143 : Int32) else (191 : Int32))), .val (.int (b1 &&& (255 : Int32))), .val (.int ((p1 + (2 : Int32)) + (1 : Int32)))] [(.int ((p1 + (2 : Int32)) + (1 : Int32))), (.ref o0)])) rfl rfl (hb hby d1_202) _ ?_
                      show Steps p.tables e below (s₁.setTop (mkF m 203 #[.val (.ref o0), .val (.int p1), .val (.int p2), .val (.int (b0 &&& (255 : Int32))), .val (.int (4 : Int32)), .val (.int (if (b0 &&& (255 : Int32)) = (240 : Int32) then (144 : Int32) else (128 : Int32))), .val (.int (if (b0 &&& (255 : Int32)) = (244 : Int32) then (143 : Int32) else (191 : Int32))), .val (.int (b1 &&& (255 : Int32))), .val (.int ((p1 + (2 : Int32)) + (1 : Int32)))] [(.int b3)])) _
                      refine XS.sipush X0.here hx rfl (hb hby d1_203) ?_
                      show Steps p.tables e below (s₁.setTop (mkF m 206 #[.val (.ref o0), .val (.int p1), .val (.int p2), .val (.int (b0 &&& (255 : Int32))), .val (.int (4 : Int32)), .val (.int (if (b0 &&& (255 : Int32)) = (240 : Int32) then (144 : Int32) else (128 : Int32))), .val (.int (if (b0 &&& (255 : Int32)) = (244 : Int32) then (143 : Int32) else (191 : Int32))), .val (.int (b1 &&& (255 : Int32))), .val (.int ((p1 + (2 : Int32)) + (1 : Int32)))] [(.int (192 : Int32)), (.int b3)])) _
                      refine XS.iand X0.here hx rfl (hb hby d1_206) rfl ?_
                      show Steps p.tables e below (s₁.setTop (mkF m 207 #[.val (.ref o0), .val (.int p1), .val (.int p2), .val (.int (b0 &&& (255 : Int32))), .val (.int (4 : Int32)), .val (.int (if (b0 &&& (255 : Int32)) = (240 : Int32) then (144 : Int32) else (128 : Int32))), .val (.int (if (b0 &&& (255 : Int32)) = (244 : Int32) then (143 : Int32) else (191 : Int32))), .val (.int (b1 &&& (255 : Int32))), .val (.int ((p1 + (2 : Int32)) + (1 : Int32)))] [(.int (b3 &&& (192 : Int32)))])) _
                      refine XS.sipush X0.here hx rfl (hb hby d1_207) ?_
                      exact k)
                    by_cases hc143 : (b3 &&& (192 : Int32)) = (128 : Int32)
                    · skip
                      have go146 := go144.step (C := s₁.setTop (mkF m 223 #[.val (.ref o0), .val (.int p1), .val (.int p2), .val (.int (b0 &&& (255 : Int32))), .val (.int (4 : Int32)), .val (.int (if (b0 &&& (255 : Int32)) = (240 : Int32) then (144 : Int32) else (128 : Int32))), .val (.int (if (b0 &&& (255 : Int32)) = (244 : Int32) then (143 : Int32) else (191 : Int32))), .val (.int (b1 &&& (255 : Int32))), .val (.int (((p1 + (2 : Int32)) + (1 : Int32)) + (1 : Int32)))] [(.int (4 : Int32))])) (fun t k => by
                        show Steps p.tables e below (s₁.setTop (mkF m 210 #[.val (.ref o0), .val (.int p1), .val (.int p2), .val (.int (b0 &&& (255 : Int32))), .val (.int (4 : Int32)), .val (.int (if (b0 &&& (255 : Int32)) = (240 : Int32) then (144 : Int32) else (128 : Int32))), .val (.int (if (b0 &&& (255 : Int32)) = (244 : Int32) then (143 : Int32) else (191 : Int32))), .val (.int (b1 &&& (255 : Int32))), .val (.int ((p1 + (2 : Int32)) + (1 : Int32)))] [(.int (128 : Int32)), (.int (b3 &&& (192 : Int32)))])) _
                        refine XS.icmpYes X0.here hx rfl (pc0 := 210) (pc' := 215) rfl (hb hby d1_210) rfl (teq hc143).1 (by decide) (by decide) ?_
                        show Steps p.tables e below (s₁.setTop (mkF m 215 #[.val (.ref o0), .val (.int p1), .val (.int p2), .val (.int (b0 &&& (255 : Int32))), .val (.int (4 : Int32)), .val (.int (if (b0 &&& (255 : Int32)) = (240 : Int32) then (144 : Int32) else (128 : Int32))), .val (.int (if (b0 &&& (255 : Int32)) = (244 : Int32) then (143 : Int32) else (191 : Int32))), .val (.int (b1 &&& (255 : Int32))), .val (.int ((p1 + (2 : Int32)) + (1 : Int32)))] [])) _
                        refine XS.iinc X0.here hx rfl (hb hby d1_215) rfl (l' := #[.val (.ref o0), .val (.int p1), .val (.int p2), .val (.int (b0 &&& (255 : Int32))), .val (.int (4 : Int32)), .val (.int (if (b0 &&& (255 : Int32)) = (240 : Int32) then (144 : Int32) else (128 : Int32))), .val (.int (if (b0 &&& (255 : Int32)) = (244 : Int32) then (143 : Int32) else (191 : Int32))), .val (.int (b1 &&& (255 : Int32))), .val (.int (((p1 + (2 : Int32)) + (1 : Int32)) + (1 : Int32)))]) rfl ?_
                        show Steps p.tables e below (s₁.setTop (mkF m 218 #[.val (.ref o0), .val (.int p1), .val (.int p2), .val (.int (b0 &&& (255 : Int32))), .val (.int (4 : Int32)), .val (.int (if (b0 &&& (255 : Int32)) = (240 : Int32) then (144 : Int32) else (128 : Int32))), .val (.int (if (b0 &&& (255 : Int32)) = (244 : Int32) then (143 : Int32) else (191 : Int32))), .val (.int (b1 &&& (255 : Int32))), .val (.int (((p1 + (2 : Int32)) + (1 : Int32)) + (1 : Int32)))] [])) _
                        refine XS.goto X0.here hx rfl (pc0 := 218) (pc' := 190) rfl (hb hby d1_218) (by decide) (by decide) ?_
                        show Steps p.tables e below (s₁.setTop (mkF m 190 #[.val (.ref o0), .val (.int p1), .val (.int p2), .val (.int (b0 &&& (255 : Int32))), .val (.int (4 : Int32)), .val (.int (if (b0 &&& (255 : Int32)) = (240 : Int32) then (144 : Int32) else (128 : Int32))), .val (.int (if (b0 &&& (255 : Int32)) = (244 : Int32) then (143 : Int32) else (191 : Int32))), .val (.int (b1 &&& (255 : Int32))), .val (.int (((p1 + (2 : Int32)) + (1 : Int32)) + (1 : Int32)))] [])) _
                        refine XS.iload X0.here hx rfl (hb hby d1_190) rfl ?_
                        show Steps p.tables e below (s₁.setTop (mkF m 192 #[.val (.ref o0), .val (.int p1), .val (.int p2), .val (.int (b0 &&& (255 : Int32))), .val (.int (4 : Int32)), .val (.int (if (b0 &&& (255 : Int32)) = (240 : Int32) then (144 : Int32) else (128 : Int32))), .val (.int (if (b0 &&& (255 : Int32)) = (244 : Int32) then (143 : Int32) else (191 : Int32))), .val (.int (b1 &&& (255 : Int32))), .val (.int (((p1 + (2 : Int32)) + (1 : Int32)) + (1 : Int32)))] [(.int (((p1 + (2 : Int32)) + (1 : Int32)) + (1 : Int32)))])) _
                        refine XS.iloadN X0.here hx rfl (hb hby d1_192) rfl ?_
                        show Steps p.tables e below (s₁.setTop (mkF m 193 #[.val (.ref o0), .val (.int p1), .val (.int p2), .val (.int (b0 &&& (255 : Int32))), .val (.int (4 : Int32)), .val (.int (if (b0 &&& (255 : Int32)) = (240 : Int32) then (144 : Int32) else (128 : Int32))), .val (.int (if (b0 &&& (255 : Int32)) = (244 : Int32) then (143 : Int32) else (191 : Int32))), .val (.int (b1 &&& (255 : Int32))), .val (.int (((p1 + (2 : Int32)) + (1 : Int32)) + (1 : Int32)))] [(.int p1), (.int (((p1 + (2 : Int32)) + (1 : Int32)) + (1 : Int32)))])) _
                        refine XS.iload X0.here hx rfl (hb hby d1_193) rfl ?_
                        show Steps p.tables e below (s₁.setTop (mkF m 195 #[.val (.ref o0), .val (.int p1), .val (.int p2), .val (.int (b0 &&& (255 : Int32))), .val (.int (4 : Int32)), .val (.int (if (b0 &&& (255 : Int32)) = (240 : Int32) then (144 : Int32) else (128 : Int32))), .val (.int (if (b0 &&& (255 : Int32)) = (244 : Int32) then (143 : Int32) else (191 : Int32))), .val (.int (b1 &&& (255 : Int32))), .val (.int (((p1 + (2 : Int32)) + (1 : Int32)) + (1 : Int32)))] [(.int (4 : Int32)), (.int p1), (.int (((p1 + (2 : Int32)) + (1 : Int32)) + (1 : Int32)))])) _
                        refine XS.iadd X0.here hx rfl (hb hby d1_195) rfl ?_
                        show Steps p.tables e below (s₁.setTop (mkF m 196 #[.val (.ref o0), .val (.int p1), .val (.int p2), .val (.int (b0 &&& (255 : Int32))), .val (.int (4 : Int32)), .val (.int (if (b0 &&& (255 : Int32)) = (240 : Int32) then (144 : Int32) else (128 : Int32))), .val (.int (if (b0 &&& (255 : Int32)) = (244 : Int32) then (143 : Int32) else (191 : Int32))), .val (.int (b1 &&& (255 : Int32))), .val (.int (((p1 + (2 : Int32)) + (1 : Int32)) + (1 : Int32)))] [(.int (p1 + (4 : Int32))), (.int (((p1 + (2 : Int32)) + (1 : Int32)) + (1 : Int32)))])) _
                        refine XS.icmpYes X0.here hx rfl (pc0 := 196) (pc' := 221) rfl (hb hby d1_196) rfl (flt (own_b2_4 hvs.p : ¬ ((((p1 + (2 : Int32)) + (1 : Int32)) + (1 : Int32)) < (p1 + (4 : Int32))))).2.1 (by decide) (by decide) ?_
                        show Steps p.tables e below (s₁.setTop (mkF m 221 #[.val (.ref o0), .val (.int p1), .val (.int p2), .val (.int (b0 &&& (255 : Int32))), .val (.int (4 : Int32)), .val (.int (if (b0 &&& (255 : Int32)) = (240 : Int32) then (144 : Int32) else (128 : Int32))), .val (.int (if (b0 &&& (255 : Int32)) = (244 : Int32) then (143 : Int32) else (191 : Int32))), .val (.int (b1 &&& (255 : Int32))), .val (.int (((p1 + (2 : Int32)) + (1 : Int32)) + (1 : Int32)))] [])) _
                        refine XS.iload X0.here hx rfl (hb hby d1_221) rfl ?_
                        exact k)
                      obtain ⟨fs, hr, hrun, hended, hW, hsame⟩ := X0.leave (v := some (.int (4 : Int32))) (fun h => by rw [Bd.returns] at h; cases h)
                      refine ⟨_, _, go146 _ ?_, hrun, hended, _, _, rfl, ?_, ⟨_, rfl⟩, hW, hsame.mono (by decide) (by decide)⟩
                      · exact own_retI X0 hx Bd.returns (hb hby d1_223) hr
                      · show Q_rm1 Z o0 p1 p2 ka vs b0 b1 b2 b3 h0 n0 _ s₁.heap _
                        rw [e0]
                        exact ⟨by unfold own_len; simp only [if_neg hc3, if_pos hc108, if_pos hc110, if_neg hc112, if_neg hc115, if_neg hc124, if_neg hc129, if_neg hc132, if_pos hc138, if_pos hc143], N0, rfl⟩
                    · skip
                      have go147 := go144.step (C := s₁.setTop (mkF m 214 #[.val (.ref o0), .val (.int p1), .val (.int p2), .val (.int (b0 &&& (255 : Int32))), .val (.int (4 : Int32)), .val (.int (if (b0 &&& (255 : Int32)) = (240 : Int32) then (144 : Int32) else (128 : Int32))), .val (.int (if (b0 &&& (255 : Int32)) = (244 : Int32) then (143 : Int32) else (191 : Int32))), .val (.int (b1 &&& (255 : Int32))), .val (.int ((p1 + (2 : Int32)) + (1 : Int32)))] [(.int (-1 : Int32))])) (fun t k => by
                        show Steps p.tables e below (s₁.setTop (mkF m 210 #[.val (.ref o0), .val (.int p1), .val (.int p2), .val (.int (b0 &&& (255 : Int32))), .val (.int (4 : Int32)), .val (.int (if (b0 &&& (255 : Int32)) = (240 : Int32) then (144 : Int32) else (128 : Int32))), .val (.int (if (b0 &&& (255 : Int32)) = (244 : Int32) then (143 : Int32) else (191 : Int32))), .val (.int (b1 &&& (255 : Int32))), .val (.int ((p1 + (2 : Int32)) + (1 : Int32)))] [(.int (128 : Int32)), (.int (b3 &&& (192 : Int32)))])) _
                        refine XS.icmpNo X0.here hx rfl (hb hby d1_210) rfl (feq hc143).1 ?_
                        show Steps p.tables e below (s₁.setTop (mkF m 213 #[.val (.ref o0), .val (.int p1), .val (.int p2), .val (.int (b0 &&& (255 : Int32))), .val (.int (4 : Int32)), .val (.int (if (b0 &&& (255 : Int32)) = (240 : Int32) then (144 : Int32) else (128 : Int32))), .val (.int (if (b0 &&& (255 : Int32)) = (244 : Int32) then (143 : Int32) else (191 : Int32))), .val (.int (b1 &&& (255 : Int32))), .val (.int ((p1 + (2 : Int32)) + (1 : Int32)))] [])) _
                        refine XS.iconst X0.here hx rfl (hb hby d1_213) ?_
                        exact k)
                      obtain ⟨fs, hr, hrun, hended, hW, hsame⟩ := X0.leave (v := some (.int (-1 : Int32))) (fun h => by rw [Bd.returns] at h; cases h)
                      refine ⟨_, _, go147 _ ?_, hrun, hended, _, _, rfl, ?_, ⟨_, rfl⟩, hW, hsame.mono (by decide) (by decide)⟩
                      · exact own_retI X0 hx Bd.returns (hb hby d1_214) hr
                      · show Q_rm1 Z o0 p1 p2 ka vs b0 b1 b2 b3 h0 n0 _ s₁.heap _
                        rw [e0]
                        exact ⟨by unfold own_len; simp only [if_neg hc3, if_pos hc108, if_pos hc110, if_neg hc112, if_neg hc115, if_neg hc124, if_neg hc129, if_neg hc132, if_pos hc138, if_neg hc143], N0, rfl⟩
                  · skip
                    have go148 := go139.step (C := s₁.setTop (mkF m 214 #[.val (.ref o0), .val (.int p1), .val (.int p2), .val (.int (b0 &&& (255 : Int32))), .val (.int (4 : Int32)), .val (.int (if (b0 &&& (255 : Int32)) = (240 : Int32) then (144 : Int32) else (128 : Int32))), .val (.int (if (b0 &&& (255 : Int32)) = (244 : Int32) then (143 : Int32) else (191 : Int32))), .val (.int (b1 &&& (255 : Int32))), .val (.int (p1 + (2 : Int32)))] [(.int (-1 : Int32))])) (fun t k => by
                      show Steps p.tables e below (s₁.setTop (mkF m 210 #[.val (.ref o0), .val (.int p1), .val (.int p2), .val (.int (b0 &&& (255 : Int32))), .val (.int (4 : Int32)), .val (.int (if (b0 &&& (255 : Int32)) = (240 : Int32) then (144 : Int32) else (128 : Int32))), .val (.int (if (b0 &&& (255 : Int32)) = (244 : Int32) then (143 : Int32) else (191 : Int32))), .val (.int (b1 &&& (255 : Int32))), .val (.int (p1 + (2 : Int32)))] [(.int (128 : Int32)), (.int (b2 &&& (192 : Int32)))])) _
                      refine XS.icmpNo X0.here hx rfl (hb hby d1_210) rfl (feq hc138).1 ?_
                      show Steps p.tables e below (s₁.setTop (mkF m 213 #[.val (.ref o0), .val (.int p1), .val (.int p2), .val (.int (b0 &&& (255 : Int32))), .val (.int (4 : Int32)), .val (.int (if (b0 &&& (255 : Int32)) = (240 : Int32) then (144 : Int32) else (128 : Int32))), .val (.int (if (b0 &&& (255 : Int32)) = (244 : Int32) then (143 : Int32) else (191 : Int32))), .val (.int (b1 &&& (255 : Int32))), .val (.int (p1 + (2 : Int32)))] [])) _
                      refine XS.iconst X0.here hx rfl (hb hby d1_213) ?_
                      exact k)
                    obtain ⟨fs, hr, hrun, hended, hW, hsame⟩ := X0.leave (v := some (.int (-1 : Int32))) (fun h => by rw [Bd.returns] at h; cases h)
                    refine ⟨_, _, go148 _ ?_, hrun, hended, _, _, rfl, ?_, ⟨_, rfl⟩, hW, hsame.mono (by decide) (by decide)⟩
                    · exact own_retI X0 hx Bd.returns (hb hby d1_214) hr
                    · show Q_rm1 Z o0 p1 p2 ka vs b0 b1 b2 b3 h0 n0 _ s₁.heap _
                      rw [e0]
                      exact ⟨by unfold own_len; simp only [if_neg hc3, if_pos hc108, if_pos hc110, if_neg hc112, if_neg hc115, if_neg hc124, if_neg hc129, if_neg hc132, if_neg hc138], N0, rfl⟩
      · skip
        have go150 := go111.step (C := s₁.setTop (mkF m 49 #[.val (.ref o0), .val (.int p1), .val (.int p2), .val (.int (b0 &&& (255 : Int32))), .unset, .val (.int (128 : Int32)), .val (.int (191 : Int32)), .unset, .unset] [(.int (239 : Int32)), (.int (b0 &&& (255 : Int32)))])) (fun t k => by
          show Steps p.tables e below (s₁.setTop (mkF m 42 #[.val (.ref o0), .val (.int p1), .val (.int p2), .val (.int (b0 &&& (255 : Int32))), .unset, .val (.int (128 : Int32)), .val (.int (191 : Int32)), .unset, .unset] [(.int (224 : Int32)), (.int (b0 &&& (255 : Int32)))])) _
          refine XS.icmpNo X0.here hx rfl (hb hby d1_42) rfl (flt hc110).1 ?_
          show Steps p.tables e below (s₁.setTop (mkF m 45 #[.val (.ref o0), .val (.int p1), .val (.int p2), .val (.int (b0 &&& (255 : Int32))), .unset, .val (.int (128 : Int32)), .val (.int (191 : Int32)), .unset, .unset] [])) _
          refine XS.iloadN X0.here hx rfl (hb hby d1_45) rfl ?_
          show Steps p.tables e below (s₁.setTop (mkF m 46 #[.val (.ref o0), .val (.int p1), .val (.int p2), .val (.int (b0 &&& (255 : Int32))), .unset, .val (.int (128 : Int32)), .val (.int (191 : Int32)), .unset, .unset] [(.int (b0 &&& (255 : Int32)))])) _
          refine XS.sipush X0.here hx rfl (hb hby d1_46) ?_
          exact k)
        by_cases hc149 : (239 : Int32) < (b0 &&& (255 : Int32))
        · skip
          have go152 := go150.step (C := s₁.setTop (mkF m 96 #[.val (.ref o0), .val (.int p1), .val (.int p2), .val (.int (b0 &&& (255 : Int32))), .unset, .val (.int (128 : Int32)), .val (.int (191 : Int32)), .unset, .unset] [(.int (240 : Int32)), (.int (b0 &&& (255 : Int32)))])) (fun t k => by
            show Steps p.tables e below (s₁.setTop (mkF m 49 #[.val (.ref o0), .val (.int p1), .val (.int p2), .val (.int (b0 &&& (255 : Int32))), .unset, .val (.int (128 : Int32)), .val (.int (191 : Int32)), .unset, .unset] [(.int (239 : Int32)), (.int (b0 &&& (255 : Int32)))])) _
            refine XS.icmpYes X0.here hx rfl (pc0 := 49) (pc' := 92) rfl (hb hby d1_49) rfl (tlt hc149).2.2.1 (by decide) (by decide) ?_
            show Steps p.tables e below (s₁.setTop (mkF m 92 #[.val (.ref o0), .val (.int p1), .val (.int p2), .val (.int (b0 &&& (255 : Int32))), .unset, .val (.int (128 : Int32)), .val (.int (191 : Int32)), .unset, .unset] [])) _
            refine XS.iloadN X0.here hx rfl (hb hby d1_92) rfl ?_
            show Steps p.tables e below (s₁.setTop (mkF m 93 #[.val (.ref o0), .val (.int p1), .val (.int p2), .val (.int (b0 &&& (255 : Int32))), .unset, .val (.int (128 : Int32)), .val (.int (191 : Int32)), .unset, .unset] [(.int (b0 &&& (255 : Int32)))])) _
            refine XS.sipush X0.here hx rfl (hb hby d1_93) ?_
            exact k)
          by_cases hc151 : (b0 &&& (255 : Int32)) < (240 : Int32)
          · skip
            have go153 := go152.step (C := s₁.setTop (mkF m 147 #[.val (.ref o0), .val (.int p1), .val (.int p2), .val (.int (b0 &&& (255 : Int32))), .unset, .val (.int (128 : Int32)), .val (.int (191 : Int32)), .unset, .unset] [(.int (-1 : Int32))])) (fun t k => by
              show Steps p.tables e below (s₁.setTop (mkF m 96 #[.val (.ref o0), .val (.int p1), .val (.int p2), .val (.int (b0 &&& (255 : Int32))), .unset, .val (.int (128 : Int32)), .val (.int (191 : Int32)), .unset, .unset] [(.int (240 : Int32)), (.int (b0 &&& (255 : Int32)))])) _
              refine XS.icmpYes X0.here hx rfl (pc0 := 96) (pc' := 146) rfl (hb hby d1_96) rfl (tlt hc151).1 (by decide) (by decide) ?_
              show Steps p.tables e below (s₁.setTop (mkF m 146 #[.val (.ref o0), .val (.int p1), .val (.int p2), .val (.int (b0 &&& (255 : Int32))), .unset, .val (.int (128 : Int32)), .val (.int (191 : Int32)), .unset, .unset] [])) _
              refine XS.iconst X0.here hx rfl (hb hby d1_146) ?_
              exact k)
            obtain ⟨fs, hr, hrun, hended, hW, hsame⟩ := X0.leave (v := some (.int (-1 : Int32))) (fun h => by rw [Bd.returns] at h; cases h)
            refine ⟨_, _, go153 _ ?_, hrun, hended, _, _, rfl, ?_, ⟨_, rfl⟩, hW, hsame.mono (by decide) (by decide)⟩
            · exact own_retI X0 hx Bd.returns (hb hby d1_147) hr
            · show Q_rm1 Z o0 p1 p2 ka vs b0 b1 b2 b3 h0 n0 _ s₁.heap _
              rw [e0]
              exact ⟨by unfold own_len; simp only [if_neg hc3, if_pos hc108, if_neg hc110, if_pos hc149, if_pos hc151], N0, rfl⟩
          · skip
            have go155 := go152.step (C := s₁.setTop (mkF m 103 #[.val (.ref o0), .val (.int p1), .val (.int p2), .val (.int (b0 &&& (255 : Int32))), .unset, .val (.int (128 : Int32)), .val (.int (191 : Int32)), .unset, .unset] [(.int (244 : Int32)), (.int (b0 &&& (255 : Int32)))])) (fun t k => by
              show Steps p.tables e below (s₁.setTop (mkF m 96 #[.val (.ref o0), .val (.int p1), .val (.int p2), .val (.int (b0 &&& (255 : Int32))), .unset, .val (.int (128 : Int32)), .val (.int (191 : Int32)), .unset, .unset] [(.int (240 : Int32)), (.int (b0 &&& (255 : Int32)))])) _
              refine XS.icmpNo X0.here hx rfl (hb hby d1_96) rfl (flt hc151).1 ?_
              show Steps p.tables e below (s₁.setTop (mkF m 99 #[.val (.ref o0), .val (.int p1), .val (.int p2), .val (.int (b0 &&& (255 : Int32))), .unset, .val (.int (128 : Int32)), .val (.int (191 : Int32)), .unset, .unset] [])) _
              refine XS.iloadN X0.here hx rfl (hb hby d1_99) rfl ?_
              show Steps p.tables e below (s₁.setTop (mkF m 100 #[.val (.ref o0), .val (.int p1), .val (.int p2), .val (.int (b0 &&& (255 : Int32))), .unset, .val (.int (128 : Int32)), .val (.int (191 : Int32)), .unset, .unset] [(.int (b0 &&& (255 : Int32)))])) _
              refine XS.sipush X0.here hx rfl (hb hby d1_100) ?_
              exact k)
            by_cases hc154 : (244 : Int32) < (b0 &&& (255 : Int32))
            · skip
              have go156 := go155.step (C := s₁.setTop (mkF m 147 #[.val (.ref o0), .val (.int p1), .val (.int p2), .val (.int (b0 &&& (255 : Int32))), .unset, .val (.int (128 : Int32)), .val (.int (191 : Int32)), .unset, .unset] [(.int (-1 : Int32))])) (fun t k => by
                show Steps p.tables e below (s₁.setTop (mkF m 103 #[.val (.ref o0), .val (.int p1), .val (.int p2), .val (.int (b0 &&& (255 : Int32))), .unset, .val (.int (128 : Int32)), .val (.int (191 : Int32)), .unset, .unset] [(.int (244 : Int32)), (.int (b0 &&& (255 : Int32)))])) _
                refine XS.icmpYes X0.here hx rfl (pc0 := 103) (pc' := 146) rfl (hb hby d1_103) rfl (tlt hc154).2.2.1 (by decide) (by decide) ?_
                show Steps p.tables e below (s₁.setTop (mkF m 146 #[.val (.ref o0), .val (.int p1), .val (.int p2), .val (.int (b0 &&& (255 : Int32))), .unset, .val (.int (128 : Int32)), .val (.int (191 : Int32)), .unset, .unset] [])) _
                refine XS.iconst X0.here hx rfl (hb hby d1_146) ?_
                exact k)
              obtain ⟨fs, hr, hrun, hended, hW, hsame⟩ := X0.leave (v := some (.int (-1 : Int32))) (fun h => by rw [Bd.returns] at h; cases h)
              refine ⟨_, _, go156 _ ?_, hrun, hended, _, _, rfl, ?_, ⟨_, rfl⟩, hW, hsame.mono (by decide) (by decide)⟩
              · exact own_retI X0 hx Bd.returns (hb hby d1_147) hr
              · show Q_rm1 Z o0 p1 p2 ka vs b0 b1 b2 b3 h0 n0 _ s₁.heap _
                rw [e0]
                exact ⟨by unfold own_len; simp only [if_neg hc3, if_pos hc108, if_neg hc110, if_pos hc149, if_neg hc151, if_pos hc154], N0, rfl⟩
            · skip
              have go157 := go155.step (C := s₁.setTop (mkF m 113 #[.val (.ref o0), .val (.int p1), .val (.int p2), .val (.int (b0 &&& (255 : Int32))), .val (.int (4 : Int32)), .val (.int (128 : Int32)), .val (.int (191 : Int32)), .unset, .unset] [(.int (240 : Int32)), (.int (b0 &&& (255 : Int32)))])) (fun t k => by
                show Steps p.tables e below (s₁.setTop (mkF m 103 #[.val (.ref o0), .val (.int p1), .val (.int p2), .val (.int (b0 &&& (255 : Int32))), .unset, .val (.int (128 : Int32)), .val (.int (191 : Int32)), .unset, .unset] [(.int (244 : Int32)), (.int (b0 &&& (255 : Int32)))])) _
                refine XS.icmpNo X0.here hx rfl (hb hby d1_103) rfl (flt hc154).2.2.1 ?_
                show Steps p.tables e below (s₁.setTop (mkF m 106 #[.val (.ref o0), .val (.int p1), .val (.int p2), .val (.int (b0 &&& (255 : Int32))), .unset, .val (.int (128 : Int32)), .val (.int (191 : Int32)), .unset, .unset] [])) _
                refine XS.iconst X0.here hx rfl (hb hby d1_106) ?_
                show Steps p.tables e below (s₁.setTop (mkF m 107 #[.val (.ref o0), .val (.int p1), .val (.int p2), .val (.int (b0 &&& (255 : Int32))), .unset, .val (.int (128 : Int32)), .val (.int (191 : Int32)), .unset, .unset] [(.int (4 : Int32))])) _
                refine XS.istore X0.here hx rfl (hb hby d1_107) rfl (l' := #[.val (.ref o0), .val (.int p1), .val (.int p2), .val (.int (b0 &&& (255 : Int32))), .val (.int (4 : Int32)), .val (.int (128 : Int32)), .val (.int (191 : Int32)), .unset, .unset]) rfl ?_
                show Steps p.tables e below (s₁.setTop (mkF m 109 #[.val (.ref o0), .val (.int p1), .val (.int p2), .val (.int (b0 &&& (255 : Int32))), .val (.int (4 : Int32)), .val (.int (128 : Int32)), .val (.int (191 : Int32)), .unset, .unset] [])) _
                refine XS.iloadN X0.here hx rfl (hb hby d1_109) rfl ?_
                show Steps p.tables e below (s₁.setTop (mkF m 110 #[.val (.ref o0), .val (.int p1), .val (.int p2), .val (.int (b0 &&& (255 : Int32))), .val (.int (4 : Int32)), .val (.int (128 : Int32)), .val (.int (191 : Int32)), .unset, .unset] [(.int (b0 &&& (255 : Int32)))])) _
                refine XS.sipush X0.here hx rfl (hb hby d1_110) ?_
                exact k)
              have go159 := go157.step (C := s₁.setTop (mkF m 124 #[.val (.ref o0), .val (.int p1), .val (.int p2), .val (.int (b0 &&& (255 : Int32))), .val (.int (4 : Int32)), .val (.int (128 : Int32)), .val (.int (191 : Int32)), .unset, .unset] [(.int (if (b0 &&& (255 : Int32)) = (240 : Int32) then (144 : Int32) else (128 : Int32)))])) (fun t k => by
                by_cases hc158 : (b0 &&& (255 : Int32)) = (240 : Int32)
                · skip
                  try simp only [if_pos hc158] at k
                  show Steps p.tables e below (s₁.setTop (mkF m 113 #[.val (.ref o0), .val (.int p1), .val (.int p2), .val (.int (b0 &&& (255 : Int32))), .val (.int (4 : Int32)), .val (.int (128 : Int32)), .val (.int (191 : Int32)), .unset, .unset] [(.int (240 : Int32)), (.int (b0 &&& (255 : Int32)))])) _
                  refine XS.icmpNo X0.here hx rfl (hb hby d1_113) rfl (teq hc158).2 ?_
                  show Steps p.tables e below (s₁.setTop (mkF m 116 #[.val (.ref o0), .val (.int p1), .val (.int p2), .val (.int (b0 &&& (255 : Int32))), .val (.int (4 : Int32)), .val (.int (128 : Int32)), .val (.int (191 : Int32)), .unset, .unset] [])) _
                  refine XS.sipush X0.here hx rfl (hb hby d1_116) ?_
                  show Steps p.tables e below (s₁.setTop (mkF m 119 #[.val (.ref o0), .val (.int p1), .val (.int p2), .val (.int (b0 &&& (255 : Int32))), .val (.int (4 : Int32)), .val (.int (128 : Int32)), .val (.int (191 : Int32)), .unset, .unset] [(.int (144 : Int32))])) _
                  refine XS.goto X0.here hx rfl (pc0 := 119) (pc' := 124) rfl (hb hby d1_119) (by decide) (by decide) ?_
                  exact k
                · skip
                  try simp only [if_neg hc158] at k
                  show Steps p.tables e below (s₁.setTop (mkF m 113 #[.val (.ref o0), .val (.int p1), .val (.int p2), .val (.int (b0 &&& (255 : Int32))), .val (.int (4 : Int32)), .val (.int (128 : Int32)), .val (.int (191 : Int32)), .unset, .unset] [(.int (240 : Int32)), (.int (b0 &&& (255 : Int32)))])) _
                  refine XS.icmpYes X0.here hx rfl (pc0 := 113) (pc' := 122) rfl (hb hby d1_113) rfl (feq hc158).2 (by decide) (by decide) ?_
                  show Steps p.tables e below (s₁.setTop (mkF m 122 #[.val (.ref o0), .val (.int p1), .val (.int p2), .val (.int (b0 &&& (255 : Int32))), .val (.int (4 : Int32)), .val (.int (128 : Int32)), .val (.int (191 : Int32)), .unset, .unset] [])) _
                  refine XS.iload X0.here hx rfl (hb hby d1_122) rfl ?_
                  exact k
                )
              have go160 := go159.step (C := s₁.setTop (mkF m 130 #[.val (.ref o0), .val (.int p1), .val (.int p2), .val (.int (b0 &&& (255 : Int32))), .val (.int (4 : Int32)), .val (.int (if (b0 &&& (255 : Int32)) = (240 : Int32) then (144 : Int32) else (128 : Int32))), .val (.int (191 : Int32)), .unset, .unset] [(.int (244 : Int32)), (.int (b0 &&& (255 : Int32)))])) (fun t k => by
                show Steps p.tables e below (s₁.setTop (mkF m 124 #[.val (.ref o0), .val (.int p1), .val (.int p2), .val (.int (b0 &&& (255 : Int32))), .val (.int (4 : Int32)), .val (.int (128 : Int32)), .val (.int (191 : Int32)), .unset, .unset] [(.int (if (b0 &&& (255 : Int32)) = (240 : Int32) then (144 : Int32) else (128 : Int32)))])) _
                refine XS.istore X0.here hx rfl (hb hby d1_124) rfl (l' := #[.val (.ref o0), .val (.int p1), .val (.int p2), .val (.int (b0 &&& (255 : Int32))), .val (.int (4 : Int32)), .val (.int (if (b0 &&& (255 : Int32)) = (240 : Int32) then (144 : Int32) else (128 : Int32))), .val (.int (191 : Int32)), .unset, .unset]) rfl ?_
                show Steps p.tables e below (s₁.setTop (mkF m 126 #[.val (.ref o0), .val (.int p1), .val (.int p2), .val (.int (b0 &&& (255 : Int32))), .val (.int (4 : Int32)), .val (.int (if (b0 &&& (255 : Int32)) = (240 : Int32) then (144 : Int32) else (128 : Int32))), .val (.int (191 : Int32)), .unset, .unset] [])) _
                refine XS.iloadN X0.here hx rfl (hb hby d1_126) rfl ?_
                show Steps p.tables e below (s₁.setTop (mkF m 127 #[.val (.ref o0), .val (.int p1), .val (.int p2), .val (.int (b0 &&& (255 : Int32))), .val (.int (4 : Int32)), .val (.int (if (b0 &&& (255 : Int32)) = (240 : Int32) then (144 : Int32) else (128 : Int32))), .val (.int (191 : Int32)), .unset, .unset] [(.int (b0 &&& (255 : Int32)))])) _
                refine XS.sipush X0.here hx rfl (hb hby d1_127) ?_
                exact k)
              have go162 := go160.step (C := s₁.setTop (mkF m 141 #[.val (.ref o0), .val (.int p1), .val (.int p2), .val (.int (b0 &&& (255 : Int32))), .val (.int (4 : Int32)), .val (.int (if (b0 &&& (255 : Int32)) = (240 : Int32) then (144 : Int32) else (128 : Int32))), .val (.int (191 : Int32)), .unset, .unset] [(.int (if (b0 &&& (255 : Int32)) = (244 : Int32) then (143 : Int32) else (191 : Int32)))])) (fun t k => by
                by_cases hc161 : (b0 &&& (255 : Int32)) = (244 : Int32)
                · skip
                  try simp only [if_pos hc161] at k
                  show Steps p.tables e below (s₁.setTop (mkF m 130 #[.val (.ref o0), .val (.int p1), .val (.int p2), .val (.int (b0 &&& (255 : Int32))), .val (.int (4 : Int32)), .val (.int (if (b0 &&& (255 : Int32)) = (240 : Int32) then (144 : Int32) else (128 : Int32))), .val (.int (191 : Int32)), .unset, .unset] [(.int (244 : Int32)), (.int (b0 &&& (255 : Int32)))])) _
                  refine XS.icmpNo X0.here hx rfl (hb hby d1_130) rfl (teq hc161).2 ?_
                  show Steps p.tables e below (s₁.setTop (mkF m 133 #[.val (.ref o0), .val (.int p1), .val (.int p2), .val (.int (b0 &&& (255 : Int32))), .val (.int (4 : Int32)), .val (.int (if (b0 &&& (255 : Int32)) = (240 : Int32) then (144 : Int32) else (128 : Int32))), .val (.int (191 : Int32)), .unset, .unset] [])) _
                  refine XS.sipush X0.here hx rfl (hb hby d1_133) ?_
                  show Steps p.tables e below (s₁.setTop (mkF m 136 #[.val (.ref o0), .val (.int p1), .val (.int p2), .val (.int (b0 &&& (255 : Int32))), .val (.int (4 : Int32)), .val (.int (if (b0 &&& (255 : Int32)) = (240 : Int32) then (144 : Int32) else (128 : Int32))), .val (.int (191 : Int32)), .unset, .unset] [(.int (143 : Int32))])) _
                  refine XS.goto X0.here hx rfl (pc0 := 136) (pc' := 141) rfl (hb hby d1_136) (by decide) (by decide) ?_
                  exact k
                · skip
                  try simp only [if_neg hc161] at k
                  show Steps p.tables e below (s₁.setTop (mkF m 130 #[.val (.ref o0), .val (.int p1), .val (.int p2), .val (.int (b0 &&& (255 : Int32))), .val (.int (4 : Int32)), .val (.int (if (b0 &&& (255 : Int32)) = (240 : Int32) then (144 : Int32) else (128 : Int32))), .val (.int (191 : Int32)), .unset, .unset] [(.int (244 : Int32)), (.int (b0 &&& (255 : Int32)))])) _
                  refine XS.icmpYes X0.here hx rfl (pc0 := 130) (pc' := 139) rfl (hb hby d1_130) rfl (feq hc161).2 (by decide) (by decide) ?_
                  show Steps p.tables e below (s₁.setTop (mkF m 139 #[.val (.ref o0), .val (.int p1), .val (.int p2), .val (.int (b0 &&& (255 : Int32))), .val (.int (4 : Int32)), .val (.int (if (b0 &&& (255 : Int32)) = (240 : Int32) then (144 : Int32) else (128 : Int32))), .val (.int (191 : Int32)), .unset, .unset] [])) _
                  refine XS.iload X0.here hx rfl (hb hby d1_139) rfl ?_
                  exact k
                )
              have go164 := go162.step (C := s₁.setTop (mkF m 153 #[.val (.ref o0), .val (.int p1), .val (.int p2), .val (.int (b0 &&& (255 : Int32))), .val (.int (4 : Int32)), .val (.int (if (b0 &&& (255 : Int32)) = (240 : Int32) then (144 : Int32) else (128 : Int32))), .val (.int (if (b0 &&& (255 : Int32)) = (244 : Int32) then (143 : Int32) else (191 : Int32))), .unset, .unset] [(.int p2), (.int (p1 + (4 : Int32)))])) (fun t k => by
                show Steps p.tables e below (s₁.setTop (mkF m 141 #[.val (.ref o0), .val (.int p1), .val (.int p2), .val (.int (b0 &&& (255 : Int32))), .val (.int (4 : Int32)), .val (.int (if (b0 &&& (255 : Int32)) = (240 : Int32) then (144 : Int32) else (128 : Int32))), .val (.int (191 : Int32)), .unset, .unset] [(.int (if (b0 &&& (255 : Int32)) = (244 : Int32) then (143 : Int32) else (191 : Int32)))])) _
                refine XS.istore X0.here hx rfl (hb hby d1_141) rfl (l' := #[.val (.ref o0), .val (.int p1), .val (.int p2), .val (.int (b0 &&& (255 : Int32))), .val (.int (4 : Int32)), .val (.int (if (b0 &&& (255 : Int32)) = (240 : Int32) then (144 : Int32) else (128 : Int32))), .val (.int (if (b0 &&& (255 : Int32)) = (244 : Int32) then (143 : Int32) else (191 : Int32))), .unset, .unset]) rfl ?_
                show Steps p.tables e below (s₁.setTop (mkF m 143 #[.val (.ref o0), .val (.int p1), .val (.int p2), .val (.int (b0 &&& (255 : Int32))), .val (.int (4 : Int32)), .val (.int (if (b0 &&& (255 : Int32)) = (240 : Int32) then (144 : Int32) else (128 : Int32))), .val (.int (if (b0 &&& (255 : Int32)) = (244 : Int32) then (143 : Int32) else (191 : Int32))), .unset, .unset] [])) _
                refine XS.goto X0.here hx rfl (pc0 := 143) (pc' := 148) rfl (hb hby d1_143) (by decide) (by decide) ?_
                show Steps p.tables e below (s₁.setTop (mkF m 148 #[.val (.ref o0), .val (.int p1), .val (.int p2), .val (.int (b0 &&& (255 : Int32))), .val (.int (4 : Int32)), .val (.int (if (b0 &&& (255 : Int32)) = (240 : Int32) then (144 : Int32) else (128 : Int32))), .val (.int (if (b0 &&& (255 : Int32)) = (244 : Int32) then (143 : Int32) else (191 : Int32))), .unset, .unset] [])) _
                refine XS.iloadN X0.here hx rfl (hb hby d1_148) rfl ?_
                show Steps p.tables e below (s₁.setTop (mkF m 149 #[.val (.ref o0), .val (.int p1), .val (.int p2), .val (.int (b0 &&& (255 : Int32))), .val (.int (4 : Int32)), .val (.int (if (b0 &&& (255 : Int32)) = (240 : Int32) then (144 : Int32) else (128 : Int32))), .val (.int (if (b0 &&& (255 : Int32)) = (244 : Int32) then (143 : Int32) else (191 : Int32))), .unset, .unset] [(.int p1)])) _
                refine XS.iload X0.here hx rfl (hb hby d1_149) rfl ?_
                show Steps p.tables e below (s₁.setTop (mkF m 151 #[.val (.ref o0), .val (.int p1), .val (.int p2), .val (.int (b0 &&& (255 : Int32))), .val (.int (4 : Int32)), .val (.int (if (b0 &&& (255 : Int32)) = (240 : Int32) then (144 : Int32) else (128 : Int32))), .val (.int (if (b0 &&& (255 : Int32)) = (244 : Int32) then (143 : Int32) else (191 : Int32))), .unset, .unset] [(.int (4 : Int32)), (.int p1)])) _
                refine XS.iadd X0.here hx rfl (hb hby d1_151) rfl ?_
                show Steps p.tables e below (s₁.setTop (mkF m 152 #[.val (.ref o0), .val (.int p1), .val (.int p2), .val (.int (b0 &&& (255 : Int32))), .val (.int (4 : Int32)), .val (.int (if (b0 &&& (255 : Int32)) = (240 : Int32) then (144 : Int32) else (128 : Int32))), .val (.int (if (b0 &&& (255 : Int32)) = (244 : Int32) then (143 : Int32) else (191 : Int32))), .unset, .unset] [(.int (p1 + (4 : Int32)))])) _
                refine XS.iloadN X0.here hx rfl (hb hby d1_152) rfl ?_
                exact k)
              by_cases hc163 : p2 < (p1 + (4 : Int32))
              · skip
                have go165 := go164.step (C := s₁.setTop (mkF m 157 #[.val (.ref o0), .val (.int p1), .val (.int p2), .val (.int (b0 &&& (255 : Int32))), .val (.int (4 : Int32)), .val (.int (if (b0 &&& (255 : Int32)) = (240 : Int32) then (144 : Int32) else (128 : Int32))), .val (.int (if (b0 &&& (255 : Int32)) = (244 : Int32) then (143 : Int32) else (191 : Int32))), .unset, .unset] [(.int (-1 : Int32))])) (fun t k => by
                  show Steps p.tables e below (s₁.setTop (mkF m 153 #[.val (.ref o0), .val (.int p1), .val (.int p2), .val (.int (b0 &&& (255 : Int32))), .val (.int (4 : Int32)), .val (.int (if (b0 &&& (255 : Int32)) = (240 : Int32) then (144 : Int32) else (128 : Int32))), .val (.int (if (b0 &&& (255 : Int32)) = (244 : Int32) then (143 : Int32) else (191 : Int32))), .unset, .unset] [(.int p2), (.int (p1 + (4 : Int32)))])) _
                  refine XS.icmpNo X0.here hx rfl (hb hby d1_153) rfl (tlt hc163).2.2.2 ?_
                  show Steps p.tables e below (s₁.setTop (mkF m 156 #[.val (.ref o0), .val (.int p1), .val (.int p2), .val (.int (b0 &&& (255 : Int32))), .val (.int (4 : Int32)), .val (.int (if (b0 &&& (255 : Int32)) = (240 : Int32) then (144 : Int32) else (128 : Int32))), .val (.int (if (b0 &&& (255 : Int32)) = (244 : Int32) then (143 : Int32) else (191 : Int32))), .unset, .unset] [])) _
                  refine XS.iconst X0.here hx rfl (hb hby d1_156) ?_
                  exact k)
                obtain ⟨fs, hr, hrun, hended, hW, hsame⟩ := X0.leave (v := some (.int (-1 : Int32))) (fun h => by rw [Bd.returns] at h; cases h)
                refine ⟨_, _, go165 _ ?_, hrun, hended, _, _, rfl, ?_, ⟨_, rfl⟩, hW, hsame.mono (by decide) (by decide)⟩
                · exact own_retI X0 hx Bd.returns (hb hby d1_157) hr
                · show Q_rm1 Z o0 p1 p2 ka vs b0 b1 b2 b3 h0 n0 _ s₁.heap _
                  rw [e0]
                  exact ⟨by unfold own_len; simp only [if_neg hc3, if_pos hc108, if_neg hc110, if_pos hc149, if_neg hc151, if_neg hc154, if_pos hc163], N0, rfl⟩
              · skip
                have go166 := go164.step (C := s₁.setTop (mkF m 162 #[.val (.ref o0), .val (.int p1), .val (.int p2), .val (.int (b0 &&& (255 : Int32))), .val (.int (4 : Int32)), .val (.int (if (b0 &&& (255 : Int32)) = (240 : Int32) then (144 : Int32) else (128 : Int32))), .val (.int (if (b0 &&& (255 : Int32)) = (244 : Int32) then (143 : Int32) else (191 : Int32))), .unset, .unset] [(.int (p1 + (1 : Int32))), (.ref o0)])) (fun t k => by
                  show Steps p.tables e below (s₁.setTop (mkF m 153 #[.val (.ref o0), .val (.int p1), .val (.int p2), .val (.int (b0 &&& (255 : Int32))), .val (.int (4 : Int32)), .val (.int (if (b0 &&& (255 : Int32)) = (240 : Int32) then (144 : Int32) else (128 : Int32))), .val (.int (if (b0 &&& (255 : Int32)) = (244 : Int32) then (143 : Int32) else (191 : Int32))), .unset, .unset] [(.int p2), (.int (p1 + (4 : Int32)))])) _
                  refine XS.icmpYes X0.here hx rfl (pc0 := 153) (pc' := 158) rfl (hb hby d1_153) rfl (flt hc163).2.2.2 (by decide) (by decide) ?_
                  show Steps p.tables e below (s₁.setTop (mkF m 158 #[.val (.ref o0), .val (.int p1), .val (.int p2), .val (.int (b0 &&& (255 : Int32))), .val (.int (4 : Int32)), .val (.int (if (b0 &&& (255 : Int32)) = (240 : Int32) then (144 : Int32) else (128 : Int32))), .val (.int (if (b0 &&& (255 : Int32)) = (244 : Int32) then (143 : Int32) else (191 : Int32))), .unset, .unset] [])) _
                  refine XS.aloadN X0.here hx rfl (hb hby d1_158) rfl rfl ?_
                  show Steps p.tables e below (s₁.setTop (mkF m 159 #[.val (.ref o0), .val (.int p1), .val (.int p2), .val (.int (b0 &&& (255 : Int32))), .val (.int (4 : Int32)), .val (.int (if (b0 &&& (255 : Int32)) = (240 : Int32) then (144 : Int32) else (128 : Int32))), .val (.int (if (b0 &&& (255 : Int32)) = (244 : Int32) then (143 : Int32) else (191 : Int32))), .unset, .unset] [(.ref o0)])) _
                  refine XS.iloadN X0.here hx rfl (hb hby d1_159) rfl ?_
                  show Steps p.tables e below (s₁.setTop (mkF m 160 #[.val (.ref o0), .val (.int p1), .val (.int p2), .val (.int (b0 &&& (255 : Int32))), .val (.int (4 : Int32)), .val (.int (if (b0 &&& (255 : Int32)) = (240 : Int32) then (144 : Int32) else (128 : Int32))), .val (.int (if (b0 &&& (255 : Int32)) = (244 : Int32) then (143 : Int32) else (191 : Int32))), .unset, .unset] [(.int p1), (.ref o0)])) _
                  refine XS.iconst X0.here hx rfl (hb hby d1_160) ?_
                  show Steps p.tables e below (s₁.setTop (mkF m 161 #[.val (.ref o0), .val (.int p1), .val (.int p2), .val (.int (b0 &&& (255 : Int32))), .val (.int (4 : Int32)), .val (.int (if (b0 &&& (255 : Int32)) = (240 : Int32) then (144 : Int32) else (128 : Int32))), .val (.int (if (b0 &&& (255 : Int32)) = (244 : Int32) then (143 : Int32) else (191 : Int32))), .unset, .unset] [(.int (1 : Int32)), (.int p1), (.ref o0)])) _
                  refine XS.iadd X0.here hx rfl (hb hby d1_161) rfl ?_
                  exact k)
                have Vo167 := V0
                obtain ⟨cl167, Ar167, qa167, Sa167, Na167, Ha167, Ga167⟩ := Vo167
                have hin167 : ¬ ((p1 + (1 : Int32)) < 0 ∨ cl167.slots.size ≤ ((p1 + (1 : Int32))).toNatClampNeg) := inb_of Sa167 (own_r1 hvs).1
                have hat167 : cl167.slots[((p1 + (1 : Int32))).toNatClampNeg]? = some (.int b1) := Has.at Ha167 hin167 (own_r1 hvs).2
                have go169 := go166.step (C := s₁.setTop (mkF m 173 #[.val (.ref o0), .val (.int p1), .val (.int p2), .val (.int (b0 &&& (255 : Int32))), .val (.int (4 : Int32)), .val (.int (if (b0 &&& (255 : Int32)) = (240 : Int32) then (144 : Int32) else (128 : Int32))), .val (.int (if (b0 &&& (255 : Int32)) = (244 : Int32) then (143 : Int32) else (191 : Int32))), .val (.int (b1 &&& (255 : Int32))), .unset] [(.int (if (b0 &&& (255 : Int32)) = (240 : Int32) then (144 : Int32) else (128 : Int32))), (.int (b1 &&& (255 : Int32)))])) (fun t k => by
                  show Steps p.tables e below (s₁.setTop (mkF m 162 #[.val (.ref o0), .val (.int p1), .val (.int p2), .val (.int (b0 &&& (255 : Int32))), .val (.int (4 : Int32)), .val (.int (if (b0 &&& (255 : Int32)) = (240 : Int32) then (144 : Int32) else (128 : Int32))), .val (.int (if (b0 &&& (255 : Int32)) = (244 : Int32) then (143 : Int32) else (191 : Int32))), .unset, .unset] [(.int (p1 + (1 : Int32))), (.ref o0)])) _
                  refine X0.baloadBytes hx (j := (p1 + (1 : Int32))) (v := (.int b1)) (by rw [e0]; exact Ar167.1) (State.isArrayOf_alike hZ.alike Ar167.2.1) Ar167.2.2 hin167 hat167 (g := (mkF m 162 #[.val (.ref o0), .val (.int p1), .val (.int p2), .val (.int (b0 &&& (255 : Int32))), .val (.int (4 : Int32)), .val (.int (if (b0 &&& (255 : Int32)) = (240 : Int32) then (144 : Int32) else (128 : Int32))), .val (.int (if (b0 &&& (255 : Int32)) = (244 : Int32) then (143 : Int32) else (191 : Int32))), .unset, .unset] [(.int (p1 + (1 : Int32))), (.ref o0)])) rfl rfl (hb hby d1_162) _ ?_
                  show Steps p.tables e below (s₁.setTop (mkF m 163 #[.val (.ref o0), .val (.int p1), .val (.int p2), .val (.int (b0 &&& (255 : Int32))), .val (.int (4 : Int32)), .val (.int (if (b0 &&& (255 : Int32)) = (240 : Int32) then (144 : Int32) else (128 : Int32))), .val (.int (if (b0 &&& (255 : Int32)) = (244 : Int32) then (143 : Int32) else (191 : Int32))), .unset, .unset] [(.int b1)])) _
                  refine XS.sipush X0.here hx rfl (hb hby d1_163) ?_
                  show Steps p.tables e below (s₁.setTop (mkF m 166 #[.val (.ref o0), .val (.int p1), .val (.int p2), .val (.int (b0 &&& (255 : Int32))), .val (.int (4 : Int32)), .val (.int (if (b0 &&& (255 : Int32)) = (240 : Int32) then (144 : Int32) else (128 : Int32))), .val (.int (if (b0 &&& (255 : Int32)) = (244 : Int32) then (143 : Int32) else (191 : Int32))), .unset, .unset] [(.int (255 : Int32)), (.int b1)])) _
                  refine XS.iand X0.here hx rfl (hb hby d1_166) rfl ?_
                  show Steps p.tables e below (s₁.setTop (mkF m 167 #[.val (.ref o0), .val (.int p1), .val (.int p2), .val (.int (b0 &&& (255 : Int32))), .val (.int (4 : Int32)), .val (.int (if (b0 &&& (255 : Int32)) = (240 : Int32) then (144 : Int32) else (128 : Int32))), .val (.int (if (b0 &&& (255 : Int32)) = (244 : Int32) then (143 : Int32) else (191 : Int32))), .unset, .unset] [(.int (b1 &&& (255 : Int32)))])) _
                  refine XS.istore X0.here hx rfl (hb hby d1_167) rfl (l' := #[.val (.ref o0), .val (.int p1), .val (.int p2), .val (.int (b0 &&& (255 : Int32))), .val (.int (4 : Int32)), .val (.int (if (b0 &&& (255 : Int32)) = (240 : Int32) then (144 : Int32) else (128 : Int32))), .val (.int (if (b0 &&& (255 : Int32)) = (244 : Int32) then (143 : Int32) else (191 : Int32))), .val (.int (b1 &&& (255 : Int32))), .unset]) rfl ?_
                  show Steps p.tables e below (s₁.setTop (mkF m 169 #[.val (.ref o0), .val (.int p1), .val (.int p2), .val (.int (b0 &&& (255 : Int32))), .val (.int (4 : Int32)), .val (.int (if (b0 &&& (255 : Int32)) = (240 : Int32) then (144 : Int32) else (128 : Int32))), .val (.int (if (b0 &&& (255 : Int32)) = (244 : Int32) then (143 : Int32) else (191 : Int32))), .val (.int (b1 &&& (255 : Int32))), .unset] [])) _
                  refine XS.iload X0.here hx rfl (hb hby d1_169) rfl ?_
                  show Steps p.tables e below (s₁.setTop (mkF m 171 #[.val (.ref o0), .val (.int p1), .val (.int p2), .val (.int (b0 &&& (255 : Int32))), .val (.int (4 : Int32)), .val (.int (if (b0 &&& (255 : Int32)) = (240 : Int32) then (144 : Int32) else (128 : Int32))), .val (.int (if (b0 &&& (255 : Int32)) = (244 : Int32) then (143 : Int32) else (191 : Int32))), .val (.int (b1 &&& (255 : Int32))), .unset] [(.int (b1 &&& (255 : Int32)))])) _
                  refine XS.iload X0.here hx rfl (hb hby d1_171) rfl ?_
                  exact k)
                by_cases hc168 : (b1 &&& (255 : Int32)) < (if (b0 &&& (255 : Int32)) = (240 : Int32) then (144 : Int32) else (128 : Int32))
                · skip
                  have go170 := go169.step (C := s₁.setTop (mkF m 184 #[.val (.ref o0), .val (.int p1), .val (.int p2), .val (.int (b0 &&& (255 : Int32))), .val (.int (4 : Int32)), .val (.int (if (b0 &&& (255 : Int32)) = (240 : Int32) then (144 : Int32) else (128 : Int32))), .val (.int (if (b0 &&& (255 : Int32)) = (244 : Int32) then (143 : Int32) else (191 : Int32))), .val (.int (b1 &&& (255 : Int32))), .unset] [(.int (-1 : Int32))])) (fun t k => by
                    show Steps p.tables e below (s₁.setTop (mkF m 173 #[.val (.ref o0), .val (.int p1), .val (.int p2), .val (.int (b0 &&& (255 : Int32))), .val (.int (4 : Int32)), .val (.int (if (b0 &&& (255 : Int32)) = (240 : Int32) then (144 : Int32) else (128 : Int32))), .val (.int (if (b0 &&& (255 : Int32)) = (244 : Int32) then (143 : Int32) else (191 : Int32))), .val (.int (b1 &&& (255 : Int32))), .unset] [(.int (if (b0 &&& (255 : Int32)) = (240 : Int32) then (144 : Int32) else (128 : Int32))), (.int (b1 &&& (255 : Int32)))])) _
                    refine XS.icmpYes X0.here hx rfl (pc0 := 173) (pc' := 183) rfl (hb hby d1_173) rfl (tlt hc168).1 (by decide) (by decide) ?_
                    show Steps p.tables e below (s₁.setTop (mkF m 183 #[.val (.ref o0), .val (.int p1), .val (.int p2), .val (.int (b0 &&& (255 : Int32))), .val (.int (4 : Int32)), .val (.int (if (b0 &&& (255 : Int32)) = (240 : Int32) then (144 : Int32) else (128 : Int32))), .val (.int (if (b0 &&& (255 : Int32)) = (244 : Int32) then (143 : Int32) else (191 : Int32))), .val (.int (b1 &&& (255 : Int32))), .unset] [])) _
                    refine XS.iconst X0.here hx rfl (hb hby d1_183) ?_
                    exact k)
                  obtain ⟨fs, hr, hrun, hended, hW, hsame⟩ := X0.leave (v := some (.int (-1 : Int32))) (fun h => by rw [Bd.returns] at h; cases h)
                  refine ⟨_, _, go170 _ ?_, hrun, hended, _, _, rfl, ?_, ⟨_, rfl⟩, hW, hsame.mono (by decide) (by decide)⟩
                  · exact own_retI X0 hx Bd.returns (hb hby d1_184) hr
                  · show Q_rm1 Z o0 p1 p2 ka vs b0 b1 b2 b3 h0 n0 _ s₁.heap _
                    rw [e0]
                    exact ⟨by unfold own_len; simp only [if_neg hc3, if_pos hc108, if_neg hc110, if_pos hc149, if_neg hc151, if_neg hc154, if_neg hc163, if_pos hc168], N0, rfl⟩
                · skip
                  have go172 := go169.step (C := s₁.setTop (mkF m 180 #[.val (.ref o0), .val (.int p1), .val (.int p2), .val (.int (b0 &&& (255 : Int32))), .val (.int (4 : Int32)), .val (.int (if (b0 &&& (255 : Int32)) = (240 : Int32) then (144 : Int32) else (128 : Int32))), .val (.int (if (b0 &&& (255 : Int32)) = (244 : Int32) then (143 : Int32) else (191 : Int32))), .val (.int (b1 &&& (255 : Int32))), .unset] [(.int (if (b0 &&& (255 : Int32)) = (244 : Int32) then (143 : Int32) else (191 : Int32))), (.int (b1 &&& (255 : Int32)))])) (fun t k => by
                    show Steps p.tables e below (s₁.setTop (mkF m 173 #[.val (.ref o0), .val (.int p1), .val (.int p2), .val (.int (b0 &&& (255 : Int32))), .val (.int (4 : Int32)), .val (.int (if (b0 &&& (255 : Int32)) = (240 : Int32) then (144 : Int32) else (128 : Int32))), .val (.int (if (b0 &&& (255 : Int32)) = (244 : Int32) then (143 : Int32) else (191 : Int32))), .val (.int (b1 &&& (255 : Int32))), .unset] [(.int (if (b0 &&& (255 : Int32)) = (240 : Int32) then (144 : Int32) else (128 : Int32))), (.int (b1 &&& (255 : Int32)))])) _
                    refine XS.icmpNo X0.here hx rfl (hb hby d1_173) rfl (flt hc168).1 ?_
                    show Steps p.tables e below (s₁.setTop (mkF m 176 #[.val (.ref o0), .val (.int p1), .val (.int p2), .val (.int (b0 &&& (255 : Int32))), .val (.int (4 : Int32)), .val (.int (if (b0 &&& (255 : Int32)) = (240 : Int32) then (144 : Int32) else (128 : Int32))), .val (.int (if (b0 &&& (255 : Int32)) = (244 : Int32) then (143 : Int32) else (191 : Int32))), .val (.int (b1 &&& (255 : Int32))), .unset] [])) _
                    refine XS.iload X0.here hx rfl (hb hby d1_176) rfl ?_
                    show Steps p.tables e below (s₁.setTop (mkF m 178 #[.val (.ref o0), .val (.int p1), .val (.int p2), .val (.int (b0 &&& (255 : Int32))), .val (.int (4 : Int32)), .val (.int (if (b0 &&& (255 : Int32)) = (240 : Int32) then (144 : Int32) else (128 : Int32))), .val (.int (if (b0 &&& (255 : Int32)) = (244 : Int32) then (143 : Int32) else (191 : Int32))), .val (.int (b1 &&& (255 : Int32))), .unset] [(.int (b1 &&& (255 : Int32)))])) _
                    refine XS.iload X0.here hx rfl (hb hby d1_178) rfl ?_
                    exact k)
                  by_cases hc171 : (if (b0 &&& (255 : Int32)) = (244 : Int32) then (143 : Int32) else (191 : Int32)) < (b1 &&& (255 : Int32))
                  · skip
                    have go173 := go172.step (C := s₁.setTop (mkF m 184 #[.val (.ref o0), .val (.int p1), .val (.int p2), .val (.int (b0 &&& (255 : Int32))), .val (.int (4 : Int32)), .val (.int (if (b0 &&& (255 : Int32)) = (240 : Int32) then (144 : Int32) else (128 : Int32))), .val (.int (if (b0 &&& (255 : Int32)) = (244 : Int32) then (143 : Int32) else (191 : Int32))), .val (.int (b1 &&& (255 : Int32))), .unset] [(.int (-1 : Int32))])) (fun t k => by
                      show Steps p.tables e below (s₁.setTop (mkF m 180 #[.val (.ref o0), .val (.int p1), .val (.int p2), .val (.int (b0 &&& (255 : Int32))), .val (.int (4 : Int32)), .val (.int (if (b0 &&& (255 : Int32)) = (240 : Int32) then (144 : Int32) else (128 : Int32))), .val (.int (if (b0 &&& (255 : Int32)) = (244 : Int32) then (143 : Int32) else (191 : Int32))), .val (.int (b1 &&& (255 : Int32))), .unset] [(.int (if (b0 &&& (255 : Int32)) = (244 : Int32) then (143 : Int32) else (191 : Int32))), (.int (b1 &&& (255 : Int32)))])) _
                      refine XS.icmpNo X0.here hx rfl (hb hby d1_180) rfl (tlt hc171).2.2.2 ?_
                      show Steps p.tables e below (s₁.setTop (mkF m 183 #[.val (.ref o0), .val (.int p1), .val (.int p2), .val (.int (b0 &&& (255 : Int32))), .val (.int (4 : Int32)), .val (.int (if (b0 &&& (255 : Int32)) = (240 : Int32) then (144 : Int32) else (128 : Int32))), .val (.int (if (b0 &&& (255 : Int32)) = (244 : Int32) then (143 : Int32) else (191 : Int32))), .val (.int (b1 &&& (255 : Int32))), .unset] [])) _
                      refine XS.iconst X0.here hx rfl (hb hby d1_183) ?_
                      exact k)
                    obtain ⟨fs, hr, hrun, hended, hW, hsame⟩ := X0.leave (v := some (.int (-1 : Int32))) (fun h => by rw [Bd.returns] at h; cases h)
                    refine ⟨_, _, go173 _ ?_, hrun, hended, _, _, rfl, ?_, ⟨_, rfl⟩, hW, hsame.mono (by decide) (by decide)⟩
                    · exact own_retI X0 hx Bd.returns (hb hby d1_184) hr
                    · show Q_rm1 Z o0 p1 p2 ka vs b0 b1 b2 b3 h0 n0 _ s₁.heap _
                      rw [e0]
                      exact ⟨by unfold own_len; simp only [if_neg hc3, if_pos hc108, if_neg hc110, if_pos hc149, if_neg hc151, if_neg hc154, if_neg hc163, if_neg hc168, if_pos hc171], N0, rfl⟩
                  · skip
                    have go175 := go172.step (C := s₁.setTop (mkF m 202 #[.val (.ref o0), .val (.int p1), .val (.int p2), .val (.int (b0 &&& (255 : Int32))), .val (.int (4 : Int32)), .val (.int (if (b0 &&& (255 : Int32)) = (240 : Int32) then (144 : Int32) else (128 : Int32))), .val (.int (if (b0 &&& (255 : Int32)) = (244 : Int32) then (143 : Int32) else (191 : Int32))), .val (.int (b1 &&& (255 : Int32))), .val (.int (p1 + (2 : Int32)))] [(.int (p1 + (2 : Int32))), (.ref o0)])) (fun t k => by
                      show Steps p.tables e below (s₁.setTop (mkF m 180 #[.val (.ref o0), .val (.int p1), .val (.int p2), .val (.int (b0 &&& (255 : Int32))), .val (.int (4 : Int32)), .val (.int (if (b0 &&& (255 : Int32)) = (240 : Int32) then (144 : Int32) else (128 : Int32))), .val (.int (if (b0 &&& (255 : Int32)) = (244 : Int32) then (143 : Int32) else (191 : Int32))), .val (.int (b1 &&& (255 : Int32))), .unset] [(.int (if (b0 &&& (255 : Int32)) = (244 : Int32) then (143 : Int32) else (191 : Int32))), (.int (b1 &&& (255 : Int32)))])) _
                      refine XS.icmpYes X0.here hx rfl (pc0 := 180) (pc' := 185) rfl (hb hby d1_180) rfl (flt hc171).2.2.2 (by decide) (by decide) ?_
                      show Steps p.tables e below (s₁.setTop (mkF m 185 #[.val (.ref o0), .val (.int p1), .val (.int p2), .val (.int (b0 &&& (255 : Int32))), .val (.int (4 : Int32)), .val (.int (if (b0 &&& (255 : Int32)) = (240 : Int32) then (144 : Int32) else (128 : Int32))), .val (.int (if (b0 &&& (255 : Int32)) = (244 : Int32) then (143 : Int32) else (191 : Int32))), .val (.int (b1 &&& (255 : Int32))), .unset] [])) _
                      refine XS.iloadN X0.here hx rfl (hb hby d1_185) rfl ?_
                      show Steps p.tables e below (s₁.setTop (mkF m 186 #[.val (.ref o0), .val (.int p1), .val (.int p2), .val (.int (b0 &&& (255 : Int32))), .val (.int (4 : Int32)), .val (.int (if (b0 &&& (255 : Int32)) = (240 : Int32) then (144 : Int32) else (128 : Int32))), .val (.int (if (b0 &&& (255 : Int32)) = (244 : Int32) then (143 : Int32) else (191 : Int32))), .val (.int (b1 &&& (255 : Int32))), .unset] [(.int p1)])) _
                      refine XS.iconst X0.here hx rfl (hb hby d1_186) ?_
                      show Steps p.tables e below (s₁.setTop (mkF m 187 #[.val (.ref o0), .val (.int p1), .val (.int p2), .val (.int (b0 &&& (255 : Int32))), .val (.int (4 : Int32)), .val (.int (if (b0 &&& (255 : Int32)) = (240 : Int32) then (144 : Int32) else (128 : Int32))), .val (.int (if (b0 &&& (255 : Int32)) = (244 : Int32) then (143 : Int32) else (191 : Int32))), .val (.int (b1 &&& (255 : Int32))), .unset] [(.int (2 : Int32)), (.int p1)])) _
                      refine XS.iadd X0.here hx rfl (hb hby d1_187) rfl ?_
                      show Steps p.tables e below (s₁.setTop (mkF m 188 #[.val (.ref o0), .val (.int p1), .val (.int p2), .val (.int (b0 &&& (255 : Int32))), .val (.int (4 : Int32)), .val (.int (if (b0 &&& (255 : Int32)) = (240 : Int32) then (144 : Int32) else (128 : Int32))), .val (.int (if (b0 &&& (255 : Int32)) = (244 : Int32) then (143 : Int32) else (191 : Int32))), .val (.int (b1 &&& (255 : Int32))), .unset] [(.int (p1 + (2 : Int32)))])) _
                      refine XS.istore X0.here hx rfl (hb hby d1_188) rfl (l' := #[.val (.ref o0), .val (.int p1), .val (.int p2), .val (.int (b0 &&& (255 : Int32))), .val (.int (4 : Int32)), .val (.int (if (b0 &&& (255 : Int32)) = (240 : Int32) then (144 : Int32) else (128 : Int32))), .val (.int (if (b0 &&& (255 : Int32)) = (244 : Int32) then (143 : Int32) else (191 : Int32))), .val (.int (b1 &&& (255 : Int32))), .val (.int (p1 + (2 : Int32)))]) rfl ?_
                      show Steps p.tables e below (s₁.setTop (mkF m 190 #[.val (.ref o0), .val (.int p1), .val (.int p2), .val (.int (b0 &&& (255 : Int32))), .val (.int (4 : Int32)), .val (.int (if (b0 &&& (255 : Int32)) = (240 : Int32) then (144 : Int32) else (128 : Int32))), .val (.int (if (b0 &&& (255 : Int32)) = (244 : Int32) then (143 : Int32) else (191 : Int32))), .val (.int (b1 &&& (255 : Int32))), .val (.int (p1 + (2 : Int32)))] [])) _
                      refine XS.iload X0.here hx rfl (hb hby d1_190) rfl ?_
                      show Steps p.tables e below (s₁.setTop (mkF m 192 #[.val (.ref o0), .val (.int p1), .val (.int p2), .val (.int (b0 &&& (255 : Int32))), .val (.int (4 : Int32)), .val (.int (if (b0 &&& (255 : Int32)) = (240 : Int32) then (144 : Int32) else (128 : Int32))), .val (.int (if (b0 &&& (255 : Int32)) = (244 : Int32) then (143 : Int32) else (191 : Int32))), .val (.int (b1 &&& (255 : Int32))), .val (.int (p1 + (2 : Int32)))] [(.int (p1 + (2 : Int32)))])) _
                      refine XS.iloadN X0.here hx rfl (hb hby d1_192) rfl ?_
                      show Steps p.tables e below (s₁.setTop (mkF m 193 #[.val (.ref o0), .val (.int p1), .val (.int p2), .val (.int (b0 &&& (255 : Int32))), .val (.int (4 : Int32)), .val (.int (if (b0 &&& (255 : Int32)) = (240 : Int32) then (144 : Int32) else (128 : Int32))), .val (.int (if (b0 &&& (255 : Int32)) = (244 : Int32) then (143 : Int32) else (191 : Int32))), .val (.int (b1 &&& (255 : Int32))), .val (.int (p1 + (2 : Int32)))] [(.int p1), (.int (p1 + (2 : Int32)))])) _
                      refine XS.iload X0.here hx rfl (hb hby d1_193) rfl ?_
                      show Steps p.tables e below (s₁.setTop (mkF m 195 #[.val (.ref o0), .val (.int p1), .val (.int p2), .val (.int (b0 &&& (255 : Int32))), .val (.int (4 : Int32)), .val (.int (if (b0 &&& (255 : Int32)) = (240 : Int32) then (144 : Int32) else (128 : Int32))), .val (.int (if (b0 &&& (255 : Int32)) = (244 : Int32) then (143 : Int32) else (191 : Int32))), .val (.int (b1 &&& (255 : Int32))), .val (.int (p1 + (2 : Int32)))] [(.int (4 : Int32)), (.int p1), (.int (p1 + (2 : Int32)))])) _
                      refine XS.iadd X0.here hx rfl (hb hby d1_195) rfl ?_
                      show Steps p.tables e below (s₁.setTop (mkF m 196 #[.val (.ref o0), .val (.int p1), .val (.int p2), .val (.int (b0 &&& (255 : Int32))), .val (.int (4 : Int32)), .val (.int (if (b0 &&& (255 : Int32)) = (240 : Int32) then (144 : Int32) else (128 : Int32))), .val (.int (if (b0 &&& (255 : Int32)) = (244 : Int32) then (143 : Int32) else (191 : Int32))), .val (.int (b1 &&& (255 : Int32))), .val (.int (p1 + (2 : Int32)))] [(.int (p1 + (4 : Int32))), (.int (p1 + (2 : Int32)))])) _
                      refine XS.icmpNo X0.here hx rfl (hb hby d1_196) rfl (tlt (own_b0_4 hvs.p : (p1 + (2 : Int32)) < (p1 + (4 : Int32)))).2.1 ?_
                      show Steps p.tables e below (s₁.setTop (mkF m 199 #[.val (.ref o0), .val (.int p1), .val (.int p2), .val (.int (b0 &&& (255 : Int32))), .val (.int (4 : Int32)), .val (.int (if (b0 &&& (255 : Int32)) = (240 : Int32) then (144 : Int32) else (128 : Int32))), .val (.int (if (b0 &&& (255 : Int32)) = (244 : Int32) then (143 : Int32) else (191 : Int32))), .val (.int (b1 &&& (255 : Int32))), .val (.int (p1 + (2 : Int32)))] [])) _
                      refine XS.aloadN X0.here hx rfl (hb hby d1_199) rfl rfl ?_
                      show Steps p.tables e below (s₁.setTop (mkF m 200 #[.val (.ref o0), .val (.int p1), .val (.int p2), .val (.int (b0 &&& (255 : Int32))), .val (.int (4 : Int32)), .val (.int (if (b0 &&& (255 : Int32)) = (240 : Int32) then (144 : Int32) else (128 : Int32))), .val (.int (if (b0 &&& (255 : Int32)) = (244 : Int32) then (143 : Int32) else (191 : Int32))), .val (.int (b1 &&& (255 : Int32))), .val (.int (p1 + (2 : Int32)))] [(.ref o0)])) _
                      refine XS.iload X0.here hx rfl (hb hby d1_200) rfl ?_
                      exact k)
                    have Vo176 := V0
                    obtain ⟨cl176, Ar176, qa176, Sa176, Na176, Ha176, Ga176⟩ := Vo176
                    have hin176 : ¬ ((p1 + (2 : Int32)) < 0 ∨ cl176.slots.size ≤ ((p1 + (2 : Int32))).toNatClampNeg) := inb_of Sa176 (own_r2 hvs).1
                    have hat176 : cl176.slots[((p1 + (2 : Int32))).toNatClampNeg]? = some (.int b2) := Has.at Ha176 hin176 (own_r2 hvs).2
                    have go178 := go175.step (C := s₁.setTop (mkF m 210 #[.val (.ref o0), .val (.int p1), .val (.int p2), .val (.int (b0 &&& (255 : Int32))), .val (.int (4 : Int32)), .val (.int (if (b0 &&& (255 : Int32)) = (240 : Int32) then (144 : Int32) else (128 : Int32))), .val (.int (if (b0 &&& (255 : Int32)) = (244 : Int32) then (143 : Int32) else (191 : Int32))), .val (.int (b1 &&& (255 : Int32))), .val (.int (p1 + (2 : Int32)))] [(.int (128 : Int32)), (.int (b2 &&& (192 : Int32)))])) (fun t k => by
                      show Steps p.tables e below (s₁.setTop (mkF m 202 #[.val (.ref o0), .val (.int p1), .val (.int p2), .val (.int (b0 &&& (255 : Int32))), .val (.int (4 : Int32)), .val (.int (if (b0 &&& (255 : Int32)) = (240 : Int32) then (144 : Int32) else (128 : Int32))), .val (.int (if (b0 &&& (255 : Int32)) = (244 : Int32) then (143 : Int32) else (191 : Int32))), .val (.int (b1 &&& (255 : Int32))), .val (.int (p1 + (2 : Int32)))] [(.int (p1 + (2 : Int32))), (.ref o0)])) _
                      refine X0.baloadBytes hx (j := (p1 + (2 : Int32))) (v := (.int b2)) (by rw [e0]; exact Ar176.1) (State.isArrayOf_alike hZ.alike Ar176.2.1) Ar176.2.2 hin176 hat176 (g := (mkF m 202 #[.val (.ref o0), .val (.int p1), .val (.int p2), .val (.int (b0 &&& (255 : Int32))), .val (.int (4 : Int32)), .val (.int (if (b0 &&& (255 : Int32)) = (240 : Int32) then (144 : Int32) else (128 : Int32))), .val (.int (if (b0 &&& (255 : Int32)) = (244 : Int32) then (143 : Int32) else (191 : Int32))), .val (.int (b1 &&& (255 : Int32))), .val (.int (p1 + (2 : Int32)))] [(.int (p1 + (2 : Int32))), (.ref o0)])) rfl rfl (hb hby d1_202) _ ?_
                      show Steps p.tables e below (s₁.setTop (mkF m 203 #[.val (.ref o0), .val (.int p1), .val (.int p2), .val (.int (b0 &&& (255 : Int32))), .val (.int (4 : Int32)), .val (.int (if (b0 &&& (255 : Int32)) = (240 : Int32) then (144 : Int32) else (128 : Int32))), .val (.int (if (b0 &&& (255 : Int32)) = (244 : Int32) then (143 : Int32) else (191 : Int32))), .val (.int (b1 &&& (255 : Int32))), .val (.int (p1 + (2 : Int32)))] [(.int b2)])) _
                      refine XS.sipush X0.here hx rfl (hb hby d1_203) ?_
                      show Steps p.tables e below (s₁.setTop (mkF m 206 #[.val (.ref o0), .val (.int p1), .val (.int p2), .val (.int (b0 &&& (255 : Int32))), .val (.int (4 : Int32)), .val (.int (if (b0 &&& (255 : Int32)) = (240 : Int32) then (144 : Int32) else (128 : Int32))), .val (.int (if (b0 &&& (255 : Int32)) = (244 : Int32) then (143 : Int32) else (191 : Int32))), .val (.int (b1 &&& (255 : Int32))), .val (.int (p1 + (2 : Int32)))] [(.int (192 : Int32)), (.int b2)])) _
                      refine XS.iand X0.here hx rfl (hb hby d1_206) rfl ?_
                      show Steps p.tables e below (s₁.setTop (mkF m 207 #[.val (.ref o0), .val (.int p1), .val (.int p2), .val (.int (b0 &&& (255 : Int32))), .val (.int (4 : Int32)), .val (.int (if (b0 &&& (255 : Int32)) = (240 : Int32) then (144 : Int32) else (128 : Int32))), .val (.int (if (b0 &&& (255 : Int32)) = (244 : Int32) then (143 : Int32) else (191 : Int32))), .val (.int (b1 &&& (255 : Int32))), .val (.int (p1 + (2 : Int32)))] [(.int (b2 &&& (192 : Int32)))])) _
                      refine XS.sipush X0.here hx rfl (hb hby d1_207) ?_
                      exact k)
                    by_cases hc177 : (b2 &&& (192 : Int32)) = (128 : Int32)
                    · skip
                      have go180 := go178.step (C := s₁.setTop (mkF m 202 #[.val (.ref o0), .val (.int p1), .val (.int p2), .val (.int (b0 &&& (255 : Int32))), .val (.int (4 : Int32)), .val (.int (if (b0 &&& (255 : Int32)) = (240 : Int32) then (144 : Int32) else (128 : Int32))), .val (.int (if (b0 &&& (255 : Int32)) = (244 : Int32) then (143 : Int32) else (191 : Int32))), .val (.int (b1 &&& (255 : Int32))), .val (.int ((p1 + (2 : Int32)) + (1 : Int32)))] [(.int ((p1 + (2 : Int32)) + (1 : Int32))), (.ref o0)])) (fun t k => by
                        show Steps p.tables e below (s₁.setTop (mkF m 210 #[.val (.ref o0), .val (.int p1), .val (.int p2), .val (.int (b0 &&& (255 : Int32))), .val (.int (4 : Int32)), .val (.int (if (b0 &&& (255 : Int32)) = (240 : Int32) then (144 : Int32) else (128 : Int32))), .val (.int (if (b0 &&& (255 : Int32)) = (244 : Int32) then (143 : Int32) else (191 : Int32))), .val (.int (b1 &&& (255 : Int32))), .val (.int (p1 + (2 : Int32)))] [(.int (128 : Int32)), (.int (b2 &&& (192 : Int32)))])) _
                        refine XS.icmpYes X0.here hx rfl (pc0 := 210) (pc' := 215) rfl (hb hby d1_210) rfl (teq hc177).1 (by decide) (by decide) ?_
                        show Steps p.tables e below (s₁.setTop (mkF m 215 #[.val (.ref o0), .val (.int p1), .val (.int p2), .val (.int (b0 &&& (255 : Int32))), .val (.int (4 : Int32)), .val (.int (if (b0 &&& (255 : Int32)) = (240 : Int32) then (144 : Int32) else (128 : Int32))), .val (.int (if (b0 &&& (255 : Int32)) = (244 : Int32) then (143 : Int32) else (191 : Int32))), .val (.int (b1 &&& (255 : Int32))), .val (.int (p1 + (2 : Int32)))] [])) _
                        refine XS.iinc X0.here hx rfl (hb hby d1_215) rfl (l' := #[.val (.ref o0), .val (.int p1), .val (.int p2), .val (.int (b0 &&& (255 : Int32))), .val (.int (4 : Int32)), .val (.int (if (b0 &&& (255 : Int32)) = (240 : Int32) then (144 : Int32) else (128 : Int32))), .val (.int (if (b0 &&& (255 : Int32)) = (244 : Int32) then (143 : Int32) else (191 : Int32))), .val (.int (b1 &&& (255 : Int32))), .val (.int ((p1 + (2 : Int32)) + (1 : Int32)))]) rfl ?_
                        show Steps p.tables e below (s₁.setTop (mkF m 218 #[.val (.ref o0), .val (.int p1), .val (.int p2), .val (.int (b0 &&& (255 : Int32))), .val (.int (4 : Int32)), .val (.int (if (b0 &&& (255 : Int32)) = (240 : Int32) then (144 : Int32) else (128 : Int32))), .val (.int (if (b0 &&& (255 : Int32)) = (244 : Int32) then (143 : Int32) else (191 : Int32))), .val (.int (b1 &&& (255 : Int32))), .val (.int ((p1 + (2 : Int32)) + (1 : Int32)))] [])) _
                        refine XS.goto X0.here hx rfl (pc0 := 218) (pc' := 190) rfl (hb hby d1_218) (by decide) (by decide) ?_
                        show Steps p.tables e below (s₁.setTop (mkF m 190 #[.val (.ref o0), .val (.int p1), .val (.int p2), .val (.int (b0 &&& (255 : Int32))), .val (.int (4 : Int32)), .val (.int (if (b0 &&& (255 : Int32)) = (240 : Int32) then (144 : Int32) else (128 : Int32))), .val (.int (if (b0 &&& (255 : Int32)) = (244 : Int32) then (143 : Int32) else (191 : Int32))), .val (.int (b1 &&& (255 : Int32))), .val (.int ((p1 + (2 : Int32)) + (1 : Int32)))] [])) _
                        refine XS.iload X0.here hx rfl (hb hby d1_190) rfl ?_
                        show Steps p.tables e below (s₁.setTop (mkF m 192 #[.val (.ref o0), .val (.int p1), .val (.int p2), .val (.int (b0 &&& (255 : Int32))), .val (.int (4 : Int32)), .val (.int (if (b0 &&& (255 : Int32)) = (240 : Int32) then (144 : Int32) else (128 : Int32))), .val (.int (if (b0 &&& (255 : Int32)) = (244 : Int32) then (143 : Int32) else (191 : Int32))), .val (.int (b1 &&& (255 : Int32))), .val (.int ((p1 + (2 : Int32)) + (1 : Int32)))] [(.int ((p1 + (2 : Int32)) + (1 : Int32)))])) _
                        refine XS.iloadN X0.here hx rfl (hb hby d1_192) rfl ?_
                        show Steps p.tables e below (s₁.setTop (mkF m 193 #[.val (.ref o0), .val (.int p1), .val (.int p2), .val (.int (b0 &&& (255 : Int32))), .val (.int (4 : Int32)), .val (.int (if (b0 &&& (255 : Int32)) = (240 : Int32) then (144 : Int32) else (128 : Int32))), .val (.int (if (b0 &&& (255 : Int32)) = (244 : Int32) then (143 : Int32) else (191 : Int32))), .val (.int (b1 &&& (255 : Int32))), .val (.int ((p1 + (2 : Int32)) + (1 : Int32)))] [(.int p1), (.int ((p1 + (2 : Int32)) + (1 : Int32)))])) _
                        refine XS.iload X0.here hx rfl (hb hby d1_193) rfl ?_
                        show Steps p.tables e below (s₁.setTop (mkF m 195 #[.val (.ref o0), .val (.int p1), .val (.int p2), .val (.int (b0 &&& (255 : Int32))), .val (.int (4 : Int32)), .val (.int (if (b0 &&& (255 : Int32)) = (240 : Int32) then (144 : Int32) else (128 : Int32))), .val (.int (if (b0 &&& (255 : Int32)) = (244 : Int32) then (143 : Int32) else (191 : Int32))), .val (.int (b1 &&& (255 : Int32))), .val (.int ((p1 + (2 : Int32)) + (1 : Int32)))] [(.int (4 : Int32)), (.int p1), (.int ((p1 + (2 : Int32)) + (1 : Int32)))])) _
                        refine XS.iadd X0.here hx rfl (hb hby d1_195) rfl ?_
                        show Steps p.tables e below (s₁.setTop (mkF m 196 #[.val (.ref o0), .val (.int p1), .val (.int p2), .val (.int (b0 &&& (255 : Int32))), .val (.int (4 : Int32)), .val (.int (if (b0 &&& (255 : Int32)) = (240 : Int32) then (144 : Int32) else (128 : Int32))), .val (.int (if (b0 &&& (255 : Int32)) = (244 : Int32) then (143 : Int32) else (191 : Int32))), .val (.int (b1 &&& (255 : Int32))), .val (.int ((p1 + (2 : Int32)) + (1 : Int32)))] [(.int (p1 + (4 : Int32))), (.int ((p1 + (2 : Int32)) + (1 : Int32)))])) _
                        refine XS.icmpNo X0.here hx rfl (hb hby d1_196) rfl (tlt (own_b1_4 hvs.p : ((p1 + (2 : Int32)) + (1 : Int32)) < (p1 + (4 : Int32)))).2.1 ?_
                        show Steps p.tables e below (s₁.setTop (mkF m 199 #[.val (.ref o0), .val (.int p1), .val (.int p2), .val (.int (b0 &&& (255 : Int32))), .val (.int (4 : Int32)), .val (.int (if (b0 &&& (255 : Int32)) = (240 : Int32) then (144 : Int32) else (128 : Int32))), .val (.int (if (b0 &&& (255 : Int32)) = (244 : Int32) then (143 : Int32) else (191 : Int32))), .val (.int (b1 &&& (255 : Int32))), .val (.int ((p1 + (2 : Int32)) + (1 : Int32)))] [])) _
                        refine XS.aloadN X0.here hx rfl (hb hby d1_199) rfl rfl ?_
                        show Steps p.tables e below (s₁.setTop (mkF m 200 #[.val (.ref o0), .val (.int p1), .val (.int p2), .val (.int (b0 &&& (255 : Int32))), .val (.int (4 : Int32)), .val (.int (if (b0 &&& (255 : Int32)) = (240 : Int32) then (144 : Int32) else (128 : Int32))), .val (.int (if (b0 &&& (255 : Int32)) = (244 : Int32) then (143 : Int32) else (191 : Int32))), .val (.int (b1 &&& (255 : Int32))), .val (.int ((p1 + (2 : Int32)) + (1 : Int32)))] [(.ref o0)])) _
                        refine XS.iload X0.here hx rfl (hb hby d1_200) rfl ?_
                        exact k)
                      have Vo181 := V0
                      obtain ⟨cl181, Ar181, qa181, Sa181, Na181, Ha181, Ga181⟩ := Vo181
                      have hin181 : ¬ (((p1 + (2 : Int32)) + (1 : Int32)) < 0 ∨ cl181.slots.size ≤ (((p1 + (2 : Int32)) + (1 : Int32))).toNatClampNeg) := inb_of Sa181 (own_r3 hvs).1
                      have hat181 : cl181.slots[(((p1 + (2 : Int32)) + (1 : Int32))).toNatClampNeg]? = some (.int b3) := Has.at Ha181 hin181 (own_r3 hvs).2
                      have go183 := go180.step (C := s₁.setTop (mkF m 210 #[.val (.ref o0), .val (.int p1), .val (.int p2), .val (.int (b0 &&& (255 : Int32))), .val (.int (4 : Int32)), .val (.int (if (b0 &&& (255 : Int32)) = (240 : Int32) then (144 : Int32) else (128 : Int32))), .val (.int (if (b0 &&& (255 : Int32)) = (244 : Int32) then (143 : Int32) else (191 : Int32))), .val (.int (b1 &&& (255 : Int32))), .val (.int ((p1 + (2 : Int32)) + (1 : Int32)))] [(.int (128 : Int32)), (.int (b3 &&& (192 : Int32)))])) (fun t k => by
                        show Steps p.tables e below (s₁.setTop (mkF m 202 #[.val (.ref o0), .val (.int p1), .val (.int p2), .val (.int (b0 &&& (255 : Int32))), .val (.int (4 : Int32)), .val (.int (if (b0 &&& (255 : Int32)) = (240 : Int32) then (144 : Int32) else (128 : Int32))), .val (.int (if (b0 &&& (255 : Int32)) = (244 : Int32) then (143 : Int32) else (191 : Int32))), .val (.int (b1 &&& (255 : Int32))), .val (.int ((p1 + (2 : Int32)) + (1 : Int32)))] [(.int ((p1 + (2 : Int32)) + (1 : Int32))), (.ref o0)])) _
                        refine X0.baloadBytes hx (j := ((p1 + (2 : Int32)) + (1 : Int32))) (v := (.int b3)) (by rw [e0]; exact Ar181.1) (State.isArrayOf_alike hZ.alike Ar181.2.1) Ar181.2.2 hin181 hat181 (g := (mkF m 202 #[.val (.ref o0), .val (.int p1), .val (.int p2), .val (.int (b0 &&& (255 : Int32))), .val (.int (4 : Int32)), .val (.int (if (b0 &&& (255 : Int32)) = (240 : Int32) then (144 : Int32) else (128 : Int32))), .val (.int (if (b0 &&& (255 : Int32)) = (244 : Int32) then (143 : Int32) else (191 : Int32))), .val (.int (b1 &&& (255 : Int32))), .val (.int ((p1 + (2 : Int32)) + (1 : Int32)))] [(.int ((p1 + (2 : Int32)) + (1 : Int32))), (.ref o0)])) rfl rfl (hb hby d1_202) _ ?_
                        show Steps p.tables e below (s₁.setTop (mkF m 203 #[.val (.ref o0), .val (.int p1), .val (.int p2), .val (.int (b0 &&& (255 : Int32))), .val (.int (4 : Int32)), .val (.int (if (b0 &&& (255 : Int32)) = (240 : Int32) then (144 : Int32) else (128 : Int32))), .val (.int (if (b0 &&& (255 : Int32)) = (244 : Int32) then (143 : Int32) else (191 : Int32))), .val (.int (b1 &&& (255 : Int32))), .val (.int ((p1 + (2 : Int32)) + (1 : Int32)))] [(.int b3)])) _
                        refine XS.sipush X0.here hx rfl (hb hby d1_203) ?_
                        show Steps p.tables e below (s₁.setTop (mkF m 206 #[.val (.ref o0), .val (.int p1), .val (.int p2), .val (.int (b0 &&& (255 : Int32))), .val (.int (4 : Int32)), .val (.int (if (b0 &&& (255 : Int32)) = (240 : Int32) then (144 : Int32) else (128 : Int32))), .val (.int (if (b0 &&& (255 : Int32)) = (244 : Int32) then (143 : Int32) else (191 : Int32))), .val (.int (b1 &&& (255 : Int32))), .val (.int ((p1 + (2 : Int32)) + (1 : Int32)))] [(.int (192 : Int32)), (.int b3)])) _
                        refine XS.iand X0.here hx rfl (hb hby d1_206) rfl ?_
                        show Steps p.tables e below (s₁.setTop (mkF m 207 #[.val (.ref o0), .val (.int p1), .val (.int p2), .val (.int (b0 &&& (255 : Int32))), .val (.int (4 : Int32)), .val (.int (if (b0 &&& (255 : Int32)) = (240 : Int32) then (144 : Int32) else (128 : Int32))), .val (.int (if (b0 &&& (255 : Int32)) = (244 : Int32) then (143 : Int32) else (191 : Int32))), .val (.int (b1 &&& (255 : Int32))), .val (.int ((p1 + (2 : Int32)) + (1 : Int32)))] [(.int (b3 &&& (192 : Int32)))])) _
                        refine XS.sipush X0.here hx rfl (hb hby d1_207) ?_
                        exact k)
                      by_cases hc182 : (b3 &&& (192 : Int32)) = (128 : Int32)
                      · skip
                        have go185 := go183.step (C := s₁.setTop (mkF m 223 #[.val (.ref o0), .val (.int p1), .val (.int p2), .val (.int (b0 &&& (255 : Int32))), .val (.int (4 : Int32)), .val (.int (if (b0 &&& (255 : Int32)) = (240 : Int32) then (144 : Int32) else (128 : Int32))), .val (.int (if (b0 &&& (255 : Int32)) = (244 : Int32) then (143 : Int32) else (191 : Int32))), .val (.int (b1 &&& (255 : Int32))), .val (.int (((p1 + (2 : Int32)) + (1 : Int32)) + (1 : Int32)))] [(.int (4 : Int32))])) (fun t k => by
                          show Steps p.tables e below (s₁.setTop (mkF m 210 #[.val (.ref o0), .val (.int p1), .val (.int p2), .val (.int (b0 &&& (255 : Int32))), .val (.int (4 : Int32)), .val (.int (if (b0 &&& (255 : Int32)) = (240 : Int32) then (144 : Int32) else (128 : Int32))), .val (.int (if (b0 &&& (255 : Int32)) = (244 : Int32) then (143 : Int32) else (191 : Int32))), .val (.int (b1 &&& (255 : Int32))), .val (.int ((p1 + (2 : Int32)) + (1 : Int32)))] [(.int (128 : Int32)), (.int (b3 &&& (192 : Int32)))])) _
                          refine XS.icmpYes X0.here hx rfl (pc0 := 210) (pc' := 215) rfl (hb hby d1_210) rfl (teq hc182).1 (by decide) (by decide) ?_
                          show Steps p.tables e below (s₁.setTop (mkF m 215 #[.val (.ref o0), .val (.int p1), .val (.int p2), .val (.int (b0 &&& (255 : Int32))), .val (.int (4 : Int32)), .val (.int (if (b0 &&& (255 : Int32)) = (240 : Int32) then (144 : Int32) else (128 : Int32))), .val (.int (if (b0 &&& (255 : Int32)) = (244 : Int32) then (143 : Int32) else (191 : Int32))), .val (.int (b1 &&& (255 : Int32))), .val (.int ((p1 + (2 : Int32)) + (1 : Int32)))] [])) _
                          refine XS.iinc X0.here hx rfl (hb hby d1_215) rfl (l' := #[.val (.ref o0), .val (.int p1), .val (.int p2), .val (.int (b0 &&& (255 : Int32))), .val (.int (4 : Int32)), .val (.int (if (b0 &&& (255 : Int32)) = (240 : Int32) then (144 : Int32) else (128 : Int32))), .val (.int (if (b0 &&& (255 : Int32)) = (244 : Int32) then (143 : Int32) else (191 : Int32))), .val (.int (b1 &&& (255 : Int32))), .val (.int (((p1 + (2 : Int32)) + (1 : Int32)) + (1 : Int32)))]) rfl ?_
                          show Steps p.tables e below (s₁.setTop (mkF m 218 #[.val (.ref o0), .val (.int p1), .val (.int p2), .val (.int (b0 &&& (255 : Int32))), .val (.int (4 : Int32)), .val (.int (if (b0 &&& (255 : Int32)) = (240 : Int32) then (144 : Int32) else (128 : Int32))), .val (.int (if (b0 &&& (255 : Int32)) = (244 : Int32) then (143 : Int32) else (191 : Int32))), .val (.int (b1 &&& (255 : Int32))), .val (.int (((p1 + (2 : Int32)) + (1 : Int32)) + (1 : Int32)))] [])) _
                          refine XS.goto X0.here hx rfl (pc0 := 218) (pc' := 190) rfl (hb hby d1_218) (by decide) (by decide) ?_
                          show Steps p.tables e below (s₁.setTop (mkF m 190 #[.val (.ref o0), .val (.int p1), .val (.int p2), .val (.int (b0 &&& (255 : Int32))), .val (.int (4 : Int32)), .val (.int (if (b0 &&& (255 : Int32)) = (240 : Int32) then (144 : Int32) else (128 : Int32))), .val (.int (if (b0 &&& (255 : Int32)) = (244 : Int32) then (143 : Int32) else (191 : Int32))), .val (.int (b1 &&& (255 : Int32))), .val (.int (((p1 + (2 : Int32)) + (1 : Int32)) + (1 : Int32)))] [])) _
                          refine XS.iload X0.here hx rfl (hb hby d1_190) rfl ?_
                          show Steps p.tables e below (s₁.setTop (mkF m 192 #[.val (.ref o0), .val (.int p1), .val (.int p2), .val (.int (b0 &&& (255 : Int32))), .val (.int (4 : Int32)), .val (.int (if (b0 &&& (255 : Int32)) = (240 : Int32) then (144 : Int32) else (128 : Int32))), .val (.int (if (b0 &&& (255 : Int32)) = (244 : Int32) then (143 : Int32) else (191 : Int32))), .val (.int (b1 &&& (255 : Int32))), .val (.int (((p1 + (2 : Int32)) + (1 : Int32)) + (1 : Int32)))] [(.int (((p1 + (2 : Int32)) + (1 : Int32)) + (1 : Int32)))])) _
                          refine XS.iloadN X0.here hx rfl (hb hby d1_192) rfl ?_
                          show Steps p.tables e below (s₁.setTop (mkF m 193 #[.val (.ref o0), .val (.int p1), .val (.int p2), .val (.int (b0 &&& (255 : Int32))), .val (.int (4 : Int32)), .val (.int (if (b0 &&& (255 : Int32)) = (240 : Int32) then (144 : Int32) else (128 : Int32))), .val (.int (if (b0 &&& (255 : Int32)) = (244 : Int32) then (143 : Int32) else (191 : Int32))), .val (.int (b1 &&& (255 : Int32))), .val (.int (((p1 + (2 : Int32)) + (1 : Int32)) + (1 : Int32)))] [(.int p1), (.int (((p1 + (2 : Int32)) + (1 : Int32)) + (1 : Int32)))])) _
                          refine XS.iload X0.here hx rfl (hb hby d1_193) rfl ?_
                          show Steps p.tables e below (s₁.setTop (mkF m 195 #[.val (.ref o0), .val (.int p1), .val (.int p2), .val (.int (b0 &&& (255 : Int32))), .val (.int (4 : Int32)), .val (.int (if (b0 &&& (255 : Int32)) = (240 : Int32) then (144 : Int32) else (128 : Int32))), .val (.int (if (b0 &&& (255 : Int32)) = (244 : Int32) then (143 : Int32) else (191 : Int32))), .val (.int (b1 &&& (255 : Int32))), .val (.int (((p1 + (2 : Int32)) + (1 : Int32)) + (1 : Int32)))] [(.int (4 : Int32)), (.int p1), (.int (((p1 + (2 : Int32)) + (1 : Int32)) + (1 : Int32)))])) _
                          refine XS.iadd X0.here hx rfl (hb hby d1_195) rfl ?_
                          show Steps p.tables e below (s₁.setTop (mkF m 196 #[.val (.ref o0), .val (.int p1), .val (.int p2), .val (.int (b0 &&& (255 : Int32))), .val (.int (4 : Int32)), .val (.int (if (b0 &&& (255 : Int32)) = (240 : Int32) then (144 : Int32) else (128 : Int32))), .val (.int (if (b0 &&& (255 : Int32)) = (244 : Int32) then (143 : Int32) else (191 : Int32))), .val (.int (b1 &&& (255 : Int32))), .val (.int (((p1 + (2 : Int32)) + (1 : Int32)) + (1 : Int32)))] [(.int (p1 + (4 : Int32))), (.int (((p1 + (2 : Int32)) + (1 : Int32)) + (1 : Int32)))])) _
                          refine XS.icmpYes X0.here hx rfl (pc0 := 196) (pc' := 221) rfl (hb hby d1_196) rfl (flt (own_b2_4 hvs.p : ¬ ((((p1 + (2 : Int32)) + (1 : Int32)) + (1 : Int32)) < (p1 + (4 : Int32))))).2.1 (by decide) (by decide) ?_
                          show Steps p.tables e below (s₁.setTop (mkF m 221 #[.val (.ref o0), .val (.int p1), .val (.int p2), .val (.int (b0 &&& (255 : Int32))), .val (.int (4 : Int32)), .val (.int (if (b0 &&& (255 : Int32)) = (240 : Int32) then (144 : Int32) else (128 : Int32))), .val (.int (if (b0 &&& (255 : Int32)) = (244 : Int32) then (143 : Int32) else (191 : Int32))), .val (.int (b1 &&& (255 : Int32))), .val (.int (((p1 + (2 : Int32)) + (1 : Int32)) + (1 : Int32)))] [])) _
                          refine XS.iload X0.here hx rfl (hb hby d1_221) rfl ?_
                          exact k)
                        obtain ⟨fs, hr, hrun, hended, hW, hsame⟩ := X0.leave (v := some (.int (4 : Int32))) (fun h => by rw [Bd.returns] at h; cases h)
                        refine ⟨_, _, go185 _ ?_, hrun, hended, _, _, rfl, ?_, ⟨_, rfl⟩, hW, hsame.mono (by decide) (by decide)⟩
                        · exact own_retI X0 hx Bd.returns (hb hby d1_223) hr
                        · show Q_rm1 Z o0 p1 p2 ka vs b0 b1 b2 b3 h0 n0 _ s₁.heap _
                          rw [e0]
                          exact ⟨by unfold own_len; simp only [if_neg hc3, if_pos hc108, if_neg hc110, if_pos hc149, if_neg hc151, if_neg hc154, if_neg hc163, if_neg hc168, if_neg hc171, if_pos hc177, if_pos hc182], N0, rfl⟩
                      · skip
                        have go186 := go183.step (C := s₁.setTop (mkF m 214 #[.val (.ref o0), .val (.int p1), .val (.int p2), .val (.int (b0 &&& (255 : Int32))), .val (.int (4 : Int32)), .val (.int (if (b0 &&& (255 : Int32)) = (240 : Int32) then (144 : Int32) else (128 : Int32))), .val (.int (if (b0 &&& (255 : Int32)) = (244 : Int32) then (143 : Int32) else (191 : Int32))), .val (.int (b1 &&& (255 : Int32))), .val (.int ((p1 + (2 : Int32)) + (1 : Int32)))] [(.int (-1 : Int32))])) (fun t k => by
                          show Steps p.tables e below (s₁.setTop (mkF m 210 #[.val (.ref o0), .val (.int p1), .val (.int p2), .val (.int (b0 &&& (255 : Int32))), .val (.int (4 : Int32)), .val (.int (if (b0 &&& (255 : Int32)) = (240 : Int32) then (144 : Int32) else (128 : Int32))), .val (.int (if (b0 &&& (255 : Int32)) = (244 : Int32) then (143 : Int32) else (191 : Int32))), .val (.int (b1 &&& (255 : Int32))), .val (.int ((p1 + (2 : Int32)) + (1 : Int32)))] [(.int (128 : Int32)), (.int (b3 &&& (192 : Int32)))])) _
                          refine XS.icmpNo X0.here hx rfl (hb hby d1_210) rfl (feq hc182).1 ?_
                          show Steps p.tables e below (s₁.setTop (mkF m 213 #[.val (.ref o0), .val (.int p1), .val (.int p2), .val (.int (b0 &&& (255 : Int32))), .val (.int (4 : Int32)), .val (.int (if (b0 &&& (255 : Int32)) = (240 : Int32) then (144 : Int32) else (128 : Int32))), .val (.int (if (b0 &&& (255 : Int32)) = (244 : Int32) then (143 : Int32) else (191 : Int32))), .val (.int (b1 &&& (255 : Int32))), .val (.int ((p1 + (2 : Int32)) + (1 : Int32)))] [])) _
                          refine XS.iconst X0.here hx rfl (hb hby d1_213) ?_
                          exact k)
                        obtain ⟨fs, hr, hrun, hended, hW, hsame⟩ := X0.leave (v := some (.int (-1 : Int32))) (fun h => by rw [Bd.returns] at h; cases h)
                        refine ⟨_, _, go186 _ ?_, hrun, hended, _, _, rfl, ?_, ⟨_, rfl⟩, hW, hsame.mono (by decide) (by decide)⟩
                        · exact own_retI X0 hx Bd.returns (hb hby d1_214) hr
                        · show Q_rm1 Z o0 p1 p2 ka vs b0 b1 b2 b3 h0 n0 _ s₁.heap _
                          rw [e0]
                          exact ⟨by unfold own_len; simp only [if_neg hc3, if_pos hc108, if_neg hc110, if_pos hc149, if_neg hc151, if_neg hc154, if_neg hc163, if_neg hc168, if_neg hc171, if_pos hc177, if_neg hc182], N0, rfl⟩
                    · skip
                      have go187 := go178.step (C := s₁.setTop (mkF m 214 #[.val (.ref o0), .val (.int p1), .val (.int p2), .val (.int (b0 &&& (255 : Int32))), .val (.int (4 : Int32)), .val (.int (if (b0 &&& (255 : Int32)) = (240 : Int32) then (144 : Int32) else (128 : Int32))), .val (.int (if (b0 &&& (255 : Int32)) = (244 : Int32) then (143 : Int32) else (191 : Int32))), .val (.int (b1 &&& (255 : Int32))), .val (.int (p1 + (2 : Int32)))] [(.int (-1 : Int32))])) (fun t k => by
                        show Steps p.tables e below (s₁.setTop (mkF m 210 #[.val (.ref o0), .val (.int p1), .val (.int p2), .val (.int (b0 &&& (255 : Int32))), .val (.int (4 : Int32)), .val (.int (if (b0 &&& (255 : Int32)) = (240 : Int32) then (144 : Int32) else (128 : Int32))), .val (.int (if (b0 &&& (255 : Int32)) = (244 : Int32) then (143 : Int32) else (191 : Int32))), .val (.int (b1 &&& (255 : Int32))), .val (.int (p1 + (2 : Int32)))] [(.int (128 : Int32)), (.int (b2 &&& (192 : Int32)))])) _
                        refine XS.icmpNo X0.here hx rfl (hb hby d1_210) rfl (feq hc177).1 ?_
                        show Steps p.tables e below (s₁.setTop (mkF m 213 #[.val (.ref o0), .val (.int p1), .val (.int p2), .val (.int (b0 &&& (255 : Int32))), .val (.int (4 : Int32)), .val (.int (if (b0 &&& (255 : Int32)) = (240 : Int32) then (144 : Int32) else (128 : Int32))), .val (.int (if (b0 &&& (255 : Int32)) = (244 : Int32) then (143 : Int32) else (191 : Int32))), .val (.int (b1 &&& (255 : Int32))), .val (.int (p1 + (2 : Int32)))] [])) _
                        refine XS.iconst X0.here hx rfl (hb hby d1_213) ?_
                        exact k)
                      obtain ⟨fs, hr, hrun, hended, hW, hsame⟩ := X0.leave (v := some (.int (-1 : Int32))) (fun h => by rw [Bd.returns] at h; cases h)
                      refine ⟨_, _, go187 _ ?_, hrun, hended, _, _, rfl, ?_, ⟨_, rfl⟩, hW, hsame.mono (by decide) (by decide)⟩
                      · exact own_retI X0 hx Bd.returns (hb hby d1_214) hr
                      · show Q_rm1 Z o0 p1 p2 ka vs b0 b1 b2 b3 h0 n0 _ s₁.heap _
                        rw [e0]
                        exact ⟨by unfold own_len; simp only [if_neg hc3, if_pos hc108, if_neg hc110, if_pos hc149, if_neg hc151, if_neg hc154, if_neg hc163, if_neg hc168, if_neg hc171, if_neg hc177], N0, rfl⟩
        · skip
          have go188 := go150.step (C := s₁.setTop (mkF m 59 #[.val (.ref o0), .val (.int p1), .val (.int p2), .val (.int (b0 &&& (255 : Int32))), .val (.int (3 : Int32)), .val (.int (128 : Int32)), .val (.int (191 : Int32)), .unset, .unset] [(.int (224 : Int32)), (.int (b0 &&& (255 : Int32)))])) (fun t k => by
            show Steps p.tables e below (s₁.setTop (mkF m 49 #[.val (.ref o0), .val (.int p1), .val (.int p2), .val (.int (b0 &&& (255 : Int32))), .unset, .val (.int (128 : Int32)), .val (.int (191 : Int32)), .unset, .unset] [(.int (239 : Int32)), (.int (b0 &&& (255 : Int32)))])) _
            refine XS.icmpNo X0.here hx rfl (hb hby d1_49) rfl (flt hc149).2.2.1 ?_
            show Steps p.tables e below (s₁.setTop (mkF m 52 #[.val (.ref o0), .val (.int p1), .val (.int p2), .val (.int (b0 &&& (255 : Int32))), .unset, .val (.int (128 : Int32)), .val (.int (191 : Int32)), .unset, .unset] [])) _
            refine XS.iconst X0.here hx rfl (hb hby d1_52) ?_
            show Steps p.tables e below (s₁.setTop (mkF m 53 #[.val (.ref o0), .val (.int p1), .val (.int p2), .val (.int (b0 &&& (255 : Int32))), .unset, .val (.int (128 : Int32)), .val (.int (191 : Int32)), .unset, .unset] [(.int (3 : Int32))])) _
            refine XS.istore X0.here hx rfl (hb hby d1_53) rfl (l' := #[.val (.ref o0), .val (.int p1), .val (.int p2), .val (.int (b0 &&& (255 : Int32))), .val (.int (3 : Int32)), .val (.int (128 : Int32)), .val (.int (191 : Int32)), .unset, .unset]) rfl ?_
            show Steps p.tables e below (s₁.setTop (mkF m 55 #[.val (.ref o0), .val (.int p1), .val (.int p2), .val (.int (b0 &&& (255 : Int32))), .val (.int (3 : Int32)), .val (.int (128 : Int32)), .val (.int (191 : Int32)), .unset, .unset] [])) _
            refine XS.iloadN X0.here hx rfl (hb hby d1_55) rfl ?_
            show Steps p.tables e below (s₁.setTop (mkF m 56 #[.val (.ref o0), .val (.int p1), .val (.int p2), .val (.int (b0 &&& (255 : Int32))), .val (.int (3 : Int32)), .val (.int (128 : Int32)), .val (.int (191 : Int32)), .unset, .unset] [(.int (b0 &&& (255 : Int32)))])) _
            refine XS.sipush X0.here hx rfl (hb hby d1_56) ?_
            exact k)
          have go190 := go188.step (C := s₁.setTop (mkF m 70 #[.val (.ref o0), .val (.int p1), .val (.int p2), .val (.int (b0 &&& (255 : Int32))), .val (.int (3 : Int32)), .val (.int (128 : Int32)), .val (.int (191 : Int32)), .unset, .unset] [(.int (if (b0 &&& (255 : Int32)) = (224 : Int32) then (160 : Int32) else (128 : Int32)))])) (fun t k => by
            by_cases hc189 : (b0 &&& (255 : Int32)) = (224 : Int32)
            · skip
              try simp only [if_pos hc189] at k
              show Steps p.tables e below (s₁.setTop (mkF m 59 #[.val (.ref o0), .val (.int p1), .val (.int p2), .val (.int (b0 &&& (255 : Int32))), .val (.int (3 : Int32)), .val (.int (128 : Int32)), .val (.int (191 : Int32)), .unset, .unset] [(.int (224 : Int32)), (.int (b0 &&& (255 : Int32)))])) _
              refine XS.icmpNo X0.here hx rfl (hb hby d1_59) rfl (teq hc189).2 ?_
              show Steps p.tables e below (s₁.setTop (mkF m 62 #[.val (.ref o0), .val (.int p1), .val (.int p2), .val (.int (b0 &&& (255 : Int32))), .val (.int (3 : Int32)), .val (.int (128 : Int32)), .val (.int (191 : Int32)), .unset, .unset] [])) _
              refine XS.sipush X0.here hx rfl (hb hby d1_62) ?_
              show Steps p.tables e below (s₁.setTop (mkF m 65 #[.val (.ref o0), .val (.int p1), .val (.int p2), .val (.int (b0 &&& (255 : Int32))), .val (.int (3 : Int32)), .val (.int (128 : Int32)), .val (.int (191 : Int32)), .unset, .unset] [(.int (160 : Int32))])) _
              refine XS.goto X0.here hx rfl (pc0 := 65) (pc' := 70) rfl (hb hby d1_65) (by decide) (by decide) ?_
              exact k
            · skip
              try simp only [if_neg hc189] at k
              show Steps p.tables e below (s₁.setTop (mkF m 59 #[.val (.ref o0), .val (.int p1), .val (.int p2), .val (.int (b0 &&& (255 : Int32))), .val (.int (3 : Int32)), .val (.int (128 : Int32)), .val (.int (191 : Int32)), .unset, .unset] [(.int (224 : Int32)), (.int (b0 &&& (255 : Int32)))])) _
              refine XS.icmpYes X0.here hx rfl (pc0 := 59) (pc' := 68) rfl (hb hby d1_59) rfl (feq hc189).2 (by decide) (by decide) ?_
              show Steps p.tables e below (s₁.setTop (mkF m 68 #[.val (.ref o0), .val (.int p1), .val (.int p2), .val (.int (b0 &&& (255 : Int32))), .val (.int (3 : Int32)), .val (.int (128 : Int32)), .val (.int (191 : Int32)), .unset, .unset] [])) _
              refine XS.iload X0.here hx rfl (hb hby d1_68) rfl ?_
              exact k
            )
          have go191 := go190.step (C := s₁.setTop (mkF m 76 #[.val (.ref o0), .val (.int p1), .val (.int p2), .val (.int (b0 &&& (255 : Int32))), .val (.int (3 : Int32)), .val (.int (if (b0 &&& (255 : Int32)) = (224 : Int32) then (160 : Int32) else (128 : Int32))), .val (.int (191 : Int32)), .unset, .unset] [(.int (237 : Int32)), (.int (b0 &&& (255 : Int32)))])) (fun t k => by
            show Steps p.tables e below (s₁.setTop (mkF m 70 #[.val (.ref o0), .val (.int p1), .val (.int p2), .val (.int (b0 &&& (255 : Int32))), .val (.int (3 : Int32)), .val (.int (128 : Int32)), .val (.int (191 : Int32)), .unset, .unset] [(.int (if (b0 &&& (255 : Int32)) = (224 : Int32) then (160 : Int32) else (128 : Int32)))])) _
            refine XS.istore X0.here hx rfl (hb hby d1_70) rfl (l' := #[.val (.ref o0), .val (.int p1), .val (.int p2), .val (.int (b0 &&& (255 : Int32))), .val (.int (3 : Int32)), .val (.int (if (b0 &&& (255 : Int32)) = (224 : Int32) then (160 : Int32) else (128 : Int32))), .val (.int (191 : Int32)), .unset, .unset]) rfl ?_
            show Steps p.tables e below (s₁.setTop (mkF m 72 #[.val (.ref o0), .val (.int p1), .val (.int p2), .val (.int (b0 &&& (255 : Int32))), .val (.int (3 : Int32)), .val (.int (if (b0 &&& (255 : Int32)) = (224 : Int32) then (160 : Int32) else (128 : Int32))), .val (.int (191 : Int32)), .unset, .unset] [])) _
            refine XS.iloadN X0.here hx rfl (hb hby d1_72) rfl ?_
            show Steps p.tables e below (s₁.setTop (mkF m 73 #[.val (.ref o0), .val (.int p1), .val (.int p2), .val (.int (b0 &&& (255 : Int32))), .val (.int (3 : Int32)), .val (.int (if (b0 &&& (255 : Int32)) = (224 : Int32) then (160 : Int32) else (128 : Int32))), .val (.int (191 : Int32)), .unset, .unset] [(.int (b0 &&& (255 : Int32)))])) _
            refine XS.sipush X0.here hx rfl (hb hby d1_73) ?_
            exact k)
          have go193 := go191.step (C := s₁.setTop (mkF m 87 #[.val (.ref o0), .val (.int p1), .val (.int p2), .val (.int (b0 &&& (255 : Int32))), .val (.int (3 : Int32)), .val (.int (if (b0 &&& (255 : Int32)) = (224 : Int32) then (160 : Int32) else (128 : Int32))), .val (.int (191 : Int32)), .unset, .unset] [(.int (if (b0 &&& (255 : Int32)) = (237 : Int32) then (159 : Int32) else (191 : Int32)))])) (fun t k => by
            by_cases hc192 : (b0 &&& (255 : Int32)) = (237 : Int32)
            · skip
              try simp only [if_pos hc192] at k
              show Steps p.tables e below (s₁.setTop (mkF m 76 #[.val (.ref o0), .val (.int p1), .val (.int p2), .val (.int (b0 &&& (255 : Int32))), .val (.int (3 : Int32)), .val (.int (if (b0 &&& (255 : Int32)) = (224 : Int32) then (160 : Int32) else (128 : Int32))), .val (.int (191 : Int32)), .unset, .unset] [(.int (237 : Int32)), (.int (b0 &&& (255 : Int32)))])) _
              refine XS.icmpNo X0.here hx rfl (hb hby d1_76) rfl (teq hc192).2 ?_
              show Steps p.tables e below (s₁.setTop (mkF m 79 #[.val (.ref o0), .val (.int p1), .val (.int p2), .val (.int (b0 &&& (255 : Int32))), .val (.int (3 : Int32)), .val (.int (if (b0 &&& (255 : Int32)) = (224 : Int32) then (160 : Int32) else (128 : Int32))), .val (.int (191 : Int32)), .unset, .unset] [])) _
              refine XS.sipush X0.here hx rfl (hb hby d1_79) ?_
              show Steps p.tables e below (s₁.setTop (mkF m 82 #[.val (.ref o0), .val (.int p1), .val (.int p2), .val (.int (b0 &&& (255 : Int32))), .val (.int (3 : Int32)), .val (.int (if (b0 &&& (255 : Int32)) = (224 : Int32) then (160 : Int32) else (128 : Int32))), .val (.int (191 : Int32)), .unset, .unset] [(.int (159 : Int32))])) _
              refine XS.goto X0.here hx rfl (pc0 := 82) (pc' := 87) rfl (hb hby d1_82) (by decide) (by decide) ?_
              exact k
            · skip
              try simp only [if_neg hc192] at k
              show Steps p.tables e below (s₁.setTop (mkF m 76 #[.val (.ref o0), .val (.int p1), .val (.int p2), .val (.int (b0 &&& (255 : Int32))), .val (.int (3 : Int32)), .val (.int (if (b0 &&& (255 : Int32)) = (224 : Int32) then (160 : Int32) else (128 : Int32))), .val (.int (191 : Int32)), .unset, .unset] [(.int (237 : Int32)), (.int (b0 &&& (255 : Int32)))])) _
              refine XS.icmpYes X0.here hx rfl (pc0 := 76) (pc' := 85) rfl (hb hby d1_76) rfl (feq hc192).2 (by decide) (by decide) ?_
              show Steps p.tables e below (s₁.setTop (mkF m 85 #[.val (.ref o0), .val (.int p1), .val (.int p2), .val (.int (b0 &&& (255 : Int32))), .val (.int (3 : Int32)), .val (.int (if (b0 &&& (255 : Int32)) = (224 : Int32) then (160 : Int32) else (128 : Int32))), .val (.int (191 : Int32)), .unset, .unset] [])) _
              refine XS.iload X0.here hx rfl (hb hby d1_85) rfl ?_
              exact k
            )
          have go195 := go193.step (C := s₁.setTop (mkF m 153 #[.val (.ref o0), .val (.int p1), .val (.int p2), .val (.int (b0 &&& (255 : Int32))), .val (.int (3 : Int32)), .val (.int (if (b0 &&& (255 : Int32)) = (224 : Int32) then (160 : Int32) else (128 : Int32))), .val (.int (if (b0 &&& (255 : Int32)) = (237 : Int32) then (159 : Int32) else (191 : Int32))), .unset, .unset] [(.int p2), (.int (p1 + (3 : Int32)))])) (fun t k => by
            show Steps p.tables e below (s₁.setTop (mkF m 87 #[.val (.ref o0), .val (.int p1), .val (.int p2), .val (.int (b0 &&& (255 : Int32))), .val (.int (3 : Int32)), .val (.int (if (b0 &&& (255 : Int32)) = (224 : Int32) then (160 : Int32) else (128 : Int32))), .val (.int (191 : Int32)), .unset, .unset] [(.int (if (b0 &&& (255 : Int32)) = (237 : Int32) then (159 : Int32) else (191 : Int32)))])) _
            refine XS.istore X0.here hx rfl (hb hby d1_87) rfl (l' := #[.val (.ref o0), .val (.int p1), .val (.int p2), .val (.int (b0 &&& (255 : Int32))), .val (.int (3 : Int32)), .val (.int (if (b0 &&& (255 : Int32)) = (224 : Int32) then (160 : Int32) else (128 : Int32))), .val (.int (if (b0 &&& (255 : Int32)) = (237 : Int32) then (159 : Int32) else (191 : Int32))), .unset, .unset]) rfl ?_
            show Steps p.tables e below (s₁.setTop (mkF m 89 #[.val (.ref o0), .val (.int p1), .val (.int p2), .val (.int (b0 &&& (255 : Int32))), .val (.int (3 : Int32)), .val (.int (if (b0 &&& (255 : Int32)) = (224 : Int32) then (160 : Int32) else (128 : Int32))), .val (.int (if (b0 &&& (255 : Int32)) = (237 : Int32) then (159 : Int32) else (191 : Int32))), .unset, .unset] [])) _
            refine XS.goto X0.here hx rfl (pc0 := 89) (pc' := 148) rfl (hb hby d1_89) (by decide) (by decide) ?_
            show Steps p.tables e below (s₁.setTop (mkF m 148 #[.val (.ref o0), .val (.int p1), .val (.int p2), .val (.int (b0 &&& (255 : Int32))), .val (.int (3 : Int32)), .val (.int (if (b0 &&& (255 : Int32)) = (224 : Int32) then (160 : Int32) else (128 : Int32))), .val (.int (if (b0 &&& (255 : Int32)) = (237 : Int32) then (159 : Int32) else (191 : Int32))), .unset, .unset] [])) _
            refine XS.iloadN X0.here hx rfl (hb hby d1_148) rfl ?_
            show Steps p.tables e below (s₁.setTop (mkF m 149 #[.val (.ref o0), .val (.int p1), .val (.int p2), .val (.int (b0 &&& (255 : Int32))), .val (.int (3 : Int32)), .val (.int (if (b0 &&& (255 : Int32)) = (224 : Int32) then (160 : Int32) else (128 : Int32))), .val (.int (if (b0 &&& (255 : Int32)) = (237 : Int32) then (159 : Int32) else (191 : Int32))), .unset, .unset] [(.int p1)])) _
            refine XS.iload X0.here hx rfl (hb hby d1_149) rfl ?_
            show Steps p.tables e below (s₁.setTop (mkF m 151 #[.val (.ref o0), .val (.int p1), .val (.int p2), .val (.int (b0 &&& (255 : Int32))), .val (.int (3 : Int32)), .val (.int (if (b0 &&& (255 : Int32)) = (224 : Int32) then (160 : Int32) else (128 : Int32))), .val (.int (if (b0 &&& (255 : Int32)) = (237 : Int32) then (159 : Int32) else (191 : Int32))), .unset, .unset] [(.int (3 : Int32)), (.int p1)])) _
            refine XS.iadd X0.here hx rfl (hb hby d1_151) rfl ?_
            show Steps p.tables e below (s₁.setTop (mkF m 152 #[.val (.ref o0), .val (.int p1), .val (.int p2), .val (.int (b0 &&& (255 : Int32))), .val (.int (3 : Int32)), .val (.int (if (b0 &&& (255 : Int32)) = (224 : Int32) then (160 : Int32) else (128 : Int32))), .val (.int (if (b0 &&& (255 : Int32)) = (237 : Int32) then (159 : Int32) else (191 : Int32))), .unset, .unset] [(.int (p1 + (3 : Int32)))])) _
            refine XS.iloadN X0.here hx rfl (hb hby d1_152) rfl ?_
            exact k)
          by_cases hc194 : p2 < (p1 + (3 : Int32))
          · skip
            have go196 := go195.step (C := s₁.setTop (mkF m 157 #[.val (.ref o0), .val (.int p1), .val (.int p2), .val (.int (b0 &&& (255 : Int32))), .val (.int (3 : Int32)), .val (.int (if (b0 &&& (255 : Int32)) = (224 : Int32) then (160 : Int32) else (128 : Int32))), .val (.int (if (b0 &&& (255 : Int32)) = (237 : Int32) then (159 : Int32) else (191 : Int32))), .unset, .unset] [(.int (-1 : Int32))])) (fun t k => by
              show Steps p.tables e below (s₁.setTop (mkF m 153 #[.val (.ref o0), .val (.int p1), .val (.int p2), .val (.int (b0 &&& (255 : Int32))), .val (.int (3 : Int32)), .val (.int (if (b0 &&& (255 : Int32)) = (224 : Int32) then (160 : Int32) else (128 : Int32))), .val (.int (if (b0 &&& (255 : Int32)) = (237 : Int32) then (159 : Int32) else (191 : Int32))), .unset, .unset] [(.int p2), (.int (p1 + (3 : Int32)))])) _
              refine XS.icmpNo X0.here hx rfl (hb hby d1_153) rfl (tlt hc194).2.2.2 ?_
              show Steps p.tables e below (s₁.setTop (mkF m 156 #[.val (.ref o0), .val (.int p1), .val (.int p2), .val (.int (b0 &&& (255 : Int32))), .val (.int (3 : Int32)), .val (.int (if (b0 &&& (255 : Int32)) = (224 : Int32) then (160 : Int32) else (128 : Int32))), .val (.int (if (b0 &&& (255 : Int32)) = (237 : Int32) then (159 : Int32) else (191 : Int32))), .unset, .unset] [])) _
              refine XS.iconst X0.here hx rfl (hb hby d1_156) ?_
              exact k)
            obtain ⟨fs, hr, hrun, hended, hW, hsame⟩ := X0.leave (v := some (.int (-1 : Int32))) (fun h => by rw [Bd.returns] at h; cases h)
            refine ⟨_, _, go196 _ ?_, hrun, hended, _, _, rfl, ?_, ⟨_, rfl⟩, hW, hsame.mono (by decide) (by decide)⟩
            · exact own_retI X0 hx Bd.returns (hb hby d1_157) hr
            · show Q_rm1 Z o0 p1 p2 ka vs b0 b1 b2 b3 h0 n0 _ s₁.heap _
              rw [e0]
              exact ⟨by unfold own_len; simp only [if_neg hc3, if_pos hc108, if_neg hc110, if_neg hc149, if_pos hc194], N0, rfl⟩
          · skip
            have go197 := go195.step (C := s₁.setTop (mkF m 162 #[.val (.ref o0), .val (.int p1), .val (.int p2), .val (.int (b0 &&& (255 : Int32))), .val (.int (3 : Int32)), .val (.int (if (b0 &&& (255 : Int32)) = (224 : Int32) then (160 : Int32) else (128 : Int32))), .val (.int (if (b0 &&& (255 : Int32)) = (237 : Int32) then (159 : Int32) else (191 : Int32))), .unset, .unset] [(.int (p1 + (1 : Int32))), (.ref o0)])) (fun t k => by
              show Steps p.tables e below (s₁.setTop (mkF m 153 #[.val (.ref o0), .val (.int p1), .val (.int p2), .val (.int (b0 &&& (255 : Int32))), .val (.int (3 : Int32)), .val (.int (if (b0 &&& (255 : Int32)) = (224 : Int32) then (160 : Int32) else (128 : Int32))), .val (.int (if (b0 &&& (255 : Int32)) = (237 : Int32) then (159 : Int32) else (191 : Int32))), .unset, .unset] [(.int p2), (.int (p1 + (3 : Int32)))])) _
              refine XS.icmpYes X0.here hx rfl (pc0 := 153) (pc' := 158) rfl (hb hby d1_153) rfl (flt hc194).2.2.2 (by decide) (by decide) ?_
              show Steps p.tables e below (s₁.setTop (mkF m 158 #[.val (.ref o0), .val (.int p1), .val (.int p2), .val (.int (b0 &&& (255 : Int32))), .val (.int (3 : Int32)), .val (.int (if (b0 &&& (255 : Int32)) = (224 : Int32) then (160 : Int32) else (128 : Int32))), .val (.int (if (b0 &&& (255 : Int32)) = (237 : Int32) then (159 : Int32) else (191 : Int32))), .unset, .unset] [])) _
              refine XS.aloadN X0.here hx rfl (hb hby d1_158) rfl rfl ?_
              show Steps p.tables e below (s₁.setTop (mkF m 159 #[.val (.ref o0), .val (.int p1), .val (.int p2), .val (.int (b0 &&& (255 : Int32))), .val (.int (3 : Int32)), .val (.int (if (b0 &&& (255 : Int32)) = (224 : Int32) then (160 : Int32) else (128 : Int32))), .val (.int (if (b0 &&& (255 : Int32)) = (237 : Int32) then (159 : Int32) else (191 : Int32))), .unset, .unset] [(.ref o0)])) _
              refine XS.iloadN X0.here hx rfl (hb hby d1_159) rfl ?_
              show Steps p.tables e below (s₁.setTop (mkF m 160 #[.val (.ref o0), .val (.int p1), .val (.int p2), .val (.int (b0 &&& (255 : Int32))), .val (.int (3 : Int32)), .val (.int (if (b0 &&& (255 : Int32)) = (224 : Int32) then (160 : Int32) else (128 : Int32))), .val (.int (if (b0 &&& (255 : Int32)) = (237 : Int32) then (159 : Int32) else (191 : Int32))), .unset, .unset] [(.int p1), (.ref o0)])) _
              refine XS.iconst X0.here hx rfl (hb hby d1_160) ?_
              show Steps p.tables e below (s₁.setTop (mkF m 161 #[.val (.ref o0), .val (.int p1), .val (.int p2), .val (.int (b0 &&& (255 : Int32))), .val (.int (3 : Int32)), .val (.int (if (b0 &&& (255 : Int32)) = (224 : Int32) then (160 : Int32) else (128 : Int32))), .val (.int (if (b0 &&& (255 : Int32)) = (237 : Int32) then (159 : Int32) else (191 : Int32))), .unset, .unset] [(.int (1 : Int32)), (.int p1), (.ref o0)])) _
              refine XS.iadd X0.here hx rfl (hb hby d1_161) rfl ?_
              exact k)
            have Vo198 := V0
            obtain ⟨cl198, Ar198, qa198, Sa198, Na198, Ha198, Ga198⟩ := Vo198
            have hin198 : ¬ ((p1 + (1 : Int32)) < 0 ∨ cl198.slots.size ≤ ((p1 + (1 : Int32))).toNatClampNeg) := inb_of Sa198 (own_r1 hvs).1
            have hat198 : cl198.slots[((p1 + (1 : Int32))).toNatClampNeg]? = some (.int b1) := Has.at Ha198 hin198 (own_r1 hvs).2
            have go200 := go197.step (C := s₁.setTop (mkF m 173 #[.val (.ref o0), .val (.int p1), .val (.int p2), .val (.int (b0 &&& (255 : Int32))), .val (.int (3 : Int32)), .val (.int (if (b0 &&& (255 : Int32)) = (224 : Int32) then (160 : Int32) else (128 : Int32))), .val (.int (if (b0 &&& (255 : Int32)) = (237 : Int32) then (159 : Int32) else (191 : Int32))), .val (.int (b1 &&& (255 : Int32))), .unset] [(.int (if (b0 &&& (255 : Int32)) = (224 : Int32) then (160 : Int32) else (128 : Int32))), (.int (b1 &&& (255 : Int32)))])) (fun t k => by
              show Steps p.tables e below (s₁.setTop (mkF m 162 #[.val (.ref o0), .val (.int p1), .val (.int p2), .val (.int (b0 &&& (255 : Int32))), .val (.int (3 : Int32)), .val (.int (if (b0 &&& (255 : Int32)) = (224 : Int32) then (160 : Int32) else (128 : Int32))), .val (.int (if (b0 &&& (255 : Int32)) = (237 : Int32) then (159 : Int32) else (191 : Int32))), .unset, .unset] [(.int (p1 + (1 : Int32))), (.ref o0)])) _
              refine X0.baloadBytes hx (j := (p1 + (1 : Int32))) (v := (.int b1)) (by rw [e0]; exact Ar198.1) (State.isArrayOf_alike hZ.alike Ar198.2.1) Ar198.2.2 hin198 hat198 (g := (mkF m 162 #[.val (.ref o0), .val (.int p1), .val (.int p2), .val (.int (b0 &&& (255 : Int32))), .val (.int (3 : Int32)), .val (.int (if (b0 &&& (255 : Int32)) = (224 : Int32) then (160 : Int32) else (128 : Int32))), .val (.int (if (b0 &&& (255 : Int32)) = (237 : Int32) then (159 : Int32) else (191 : Int32))), .unset, .unset] [(.int (p1 + (1 : Int32))), (.ref o0)])) rfl rfl (hb hby d1_162) _ ?_
              show Steps p.tables e below (s₁.setTop (mkF m 163 #[.val (.ref o0), .val (.int p1), .val (.int p2), .val (.int (b0 &&& (255 : Int32))), .val (.int (3 : Int32)), .val (.int (if (b0 &&& (255 : Int32)) = (224 : Int32) then (160 : Int32) else (128 : Int32))), .val (.int (if (b0 &&& (255 : Int32)) = (237 : Int32) then (159 : Int32) else (191 : Int32))), .unset, .unset] [(.int b1)])) _
              refine XS.sipush X0.here hx rfl (hb hby d1_163) ?_
              show Steps p.tables e below (s₁.setTop (mkF m 166 #[.val (.ref o0), .val (.int p1), .val (.int p2), .val (.int (b0 &&& (255 : Int32))), .val (.int (3 : Int32)), .val (.int (if (b0 &&& (255 : Int32)) = (224 : Int32) then (160 : Int32) else (128 : Int32))), .val (.int (if (b0 &&& (255 : Int32)) = (237 : Int32) then (159 : Int32) else (191 : Int32))), .unset, .unset] [(.int (255 : Int32)), (.int b1)])) _
              refine XS.iand X0.here hx rfl (hb hby d1_166) rfl ?_
              show Steps p.tables e below (s₁.setTop (mkF m 167 #[.val (.ref o0), .val (.int p1), .val (.int p2), .val (.int (b0 &&& (255 : Int32))), .val (.int (3 : Int32)), .val (.int (if (b0 &&& (255 : Int32)) = (224 : Int32) then (160 : Int32) else (128 : Int32))), .val (.int (if (b0 &&& (255 : Int32)) = (237 : Int32) then (159 : Int32) else (191 : Int32))), .unset, .unset] [(.int (b1 &&& (255 : Int32)))])) _
              refine XS.istore X0.here hx rfl (hb hby d1_167) rfl (l' := #[.val (.ref o0), .val (.int p1), .val (.int p2), .val (.int (b0 &&& (255 : Int32))), .val (.int (3 : Int32)), .val (.int (if (b0 &&& (255 : Int32)) = (224 : Int32) then (160 : Int32) else (128 : Int32))), .val (.int (if (b0 &&& (255 : Int32)) = (237 : Int32) then (159 : Int32) else (191 : Int32))), .val (.int (b1 &&& (255 : Int32))), .unset]) rfl ?_
              show Steps p.tables e below (s₁.setTop (mkF m 169 #[.val (.ref o0), .val (.int p1), .val (.int p2), .val (.int (b0 &&& (255 : Int32))), .val (.int (3 : Int32)), .val (.int (if (b0 &&& (255 : Int32)) = (224 : Int32) then (160 : Int32) else (128 : Int32))), .val (.int (if (b0 &&& (255 : Int32)) = (237 : Int32) then (159 : Int32) else (191 : Int32))), .val (.int (b1 &&& (255 : Int32))), .unset] [])) _
              refine XS.iload X0.here hx rfl (hb hby d1_169) rfl ?_
              show Steps p.tables e below (s₁.setTop (mkF m 171 #[.val (.ref o0), .val (.int p1), .val (.int p2), .val (.int (b0 &&& (255 : Int32))), .val (.int (3 : Int32)), .val (.int (if (b0 &&& (255 : Int32)) = (224 : Int32) then (160 : Int32) else (128 : Int32))), .val (.int (if (b0 &&& (255 : Int32)) = (237 : Int32) then (159 : Int32) else (191 : Int32))), .val (.int (b1 &&& (255 : Int32))), .unset] [(.int (b1 &&& (255 : Int32)))])) _
              refine XS.iload X0.here hx rfl (hb hby d1_171) rfl ?_
              exact k)
            by_cases hc199 : (b1 &&& (255 : Int32)) < (if (b0 &&& (255 : Int32)) = (224 : Int32) then (160 : Int32) else (128 : Int32))
            · skip
              have go201 := go200.step (C := s₁.setTop (mkF m 184 #[.val (.ref o0), .val (.int p1), .val (.int p2), .val (.int (b0 &&& (255 : Int32))), .val (.int (3 : Int32)), .val (.int (if (b0 &&& (255 : Int32)) = (224 : Int32) then (160 : Int32) else (128 : Int32))), .val (.int (if (b0 &&& (255 : Int32)) = (237 : Int32) then (159 : Int32) else (191 : Int32))), .val (.int (b1 &&& (255 : Int32))), .unset] [(.int (-1 : Int32))])) (fun t k => by
                show Steps p.tables e below (s₁.setTop (mkF m 173 #[.val (.ref o0), .val (.int p1), .val (.int p2), .val (.int (b0 &&& (255 : Int32))), .val (.int (3 : Int32)), .val (.int (if (b0 &&& (255 : Int32)) = (224 : Int32) then (160 : Int32) else (128 : Int32))), .val (.int (if (b0 &&& (255 : Int32)) = (237 : Int32) then (159 : Int32) else (191 : Int32))), .val (.int (b1 &&& (255 : Int32))), .unset] [(.int (if (b0 &&& (255 : Int32)) = (224 : Int32) then (160 : Int32) else (128 : Int32))), (.int (b1 &&& (255 : Int32)))])) _
                refine XS.icmpYes X0.here hx rfl (pc0 := 173) (pc' := 183) rfl (hb hby d1_173) rfl (tlt hc199).1 (by decide) (by decide) ?_
                show Steps p.tables e below (s₁.setTop (mkF m 183 #[.val (.ref o0), .val (.int p1), .val (.int p2), .val (.int (b0 &&& (255 : Int32))), .val (.int (3 : Int32)), .val (.int (if (b0 &&& (255 : Int32)) = (224 : Int32) then (160 : Int32) else (128 : Int32))), .val (.int (if (b0 &&& (255 : Int32)) = (237 : Int32) then (159 : Int32) else (191 : Int32))), .val (.int (b1 &&& (255 : Int32))), .unset] [])) _
                refine XS.iconst X0.here hx rfl (hb hby d1_183) ?_
                exact k)
              obtain ⟨fs, hr, hrun, hended, hW, hsame⟩ := X0.leave (v := some (.int (-1 : Int32))) (fun h => by rw [Bd.returns] at h; cases h)
              refine ⟨_, _, go201 _ ?_, hrun, hended, _, _, rfl, ?_, ⟨_, rfl⟩, hW, hsame.mono (by decide) (by decide)⟩
              · exact own_retI X0 hx Bd.returns (hb hby d1_184) hr
              · show Q_rm1 Z o0 p1 p2 ka vs b0 b1 b2 b3 h0 n0 _ s₁.heap _
                rw [e0]
                exact ⟨by unfold own_len; simp only [if_neg hc3, if_pos hc108, if_neg hc110, if_neg hc149, if_neg hc194, if_pos hc199], N0, rfl⟩
            · skip
              have go203 := go200.step (C := s₁.setTop (mkF m 180 #[.val (.ref o0), .val (.int p1), .val (.int p2), .val (.int (b0 &&& (255 : Int32))), .val (.int (3 : Int32)), .val (.int (if (b0 &&& (255 : Int32)) = (224 : Int32) then (160 : Int32) else (128 : Int32))), .val (.int (if (b0 &&& (255 : Int32)) = (237 : Int32) then (159 : Int32) else (191 : Int32))), .val (.int (b1 &&& (255 : Int32))), .unset] [(.int (if (b0 &&& (255 : Int32)) = (237 : Int32) then (159 : Int32) else (191 : Int32))), (.int (b1 &&& (255 : Int32)))])) (fun t k => by
                show Steps p.tables e below (s₁.setTop (mkF m 173 #[.val (.ref o0), .val (.int p1), .val (.int p2), .val (.int (b0 &&& (255 : Int32))), .val (.int (3 : Int32)), .val (.int (if (b0 &&& (255 : Int32)) = (224 : Int32) then (160 : Int32) else (128 : Int32))), .val (.int (if (b0 &&& (255 : Int32)) = (237 : Int32) then (159 : Int32) else (191 : Int32))), .val (.int (b1 &&& (255 : Int32))), .unset] [(.int (if (b0 &&& (255 : Int32)) = (224 : Int32) then (160 : Int32) else (128 : Int32))), (.int (b1 &&& (255 : Int32)))])) _
                refine XS.icmpNo X0.here hx rfl (hb hby d1_173) rfl (flt hc199).1 ?_
                show Steps p.tables e below (s₁.setTop (mkF m 176 #[.val (.ref o0), .val (.int p1), .val (.int p2), .val (.int (b0 &&& (255 : Int32))), .val (.int (3 : Int32)), .val (.int (if (b0 &&& (255 : Int32)) = (224 : Int32) then (160 : Int32) else (128 : Int32))), .val (.int (if (b0 &&& (255 : Int32)) = (237 : Int32) then (159 : Int32) else (191 : Int32))), .val (.int (b1 &&& (255 : Int32))), .unset] [])) _
                refine XS.iload X0.here hx rfl (hb hby d1_176) rfl ?_
                show Steps p.tables e below (s₁.setTop (mkF m 178 #[.val (.ref o0), .val (.int p1), .val (.int p2), .val (.int (b0 &&& (255 : Int32))), .val (.int (3 : Int32)), .val (.int (if (b0 &&& (255 : Int32)) = (224 : Int32) then (160 : Int32) else (128 : Int32))), .val (.int (if (b0 &&& (255 : Int32)) = (237 : Int32) then (159 : Int32) else (191 : Int32))), .val (.int (b1 &&& (255 : Int32))), .unset] [(.int (b1 &&& (255 : Int32)))])) _
                refine XS.iload X0.here hx rfl (hb hby d1_178) rfl ?_
                exact k)
              by_cases hc202 : (if (b0 &&& (255 : Int32)) = (237 : Int32) then (159 : Int32) else (191 : Int32)) < (b1 &&& (255 : Int32))
              · skip
                have go204 := go203.step (C := s₁.setTop (mkF m 184 #[.val (.ref o0), .val (.int p1), .val (.int p2), .val (.int (b0 &&& (255 : Int32))), .val (.int (3 : Int32)), .val (.int (if (b0 &&& (255 : Int32)) = (224 : Int32) then (160 : Int32) else (128 : Int32))), .val (.int (if (b0 &&& (255 : Int32)) = (237 : Int32) then (159 : Int32) else (191 : Int32))), .val (.int (b1 &&& (255 : Int32))), .unset] [(.int (-1 : Int32))])) (fun t k => by
                  show Steps p.tables e below (s₁.setTop (mkF m 180 #[.val (.ref o0), .val (.int p1), .val (.int p2), .val (.int (b0 &&& (255 : Int32))), .val (.int (3 : Int32)), .val (.int (if (b0 &&& (255 : Int32)) = (224 : Int32) then (160 : Int32) else (128 : Int32))), .val (.int (if (b0 &&& (255 : Int32)) = (237 : Int32) then (159 : Int32) else (191 : Int32))), .val (.int (b1 &&& (255 : Int32))), .unset] [(.int (if (b0 &&& (255 : Int32)) = (237 : Int32) then (159 : Int32) else (191 : Int32))), (.int (b1 &&& (255 : Int32)))])) _
                  refine XS.icmpNo X0.here hx rfl (hb hby d1_180) rfl (tlt hc202).2.2.2 ?_
                  show Steps p.tables e below (s₁.setTop (mkF m 183 #[.val (.ref o0), .val (.int p1), .val (.int p2), .val (.int (b0 &&& (255 : Int32))), .val (.int (3 : Int32)), .val (.int (if (b0 &&& (255 : Int32)) = (224 : Int32) then (160 : Int32) else (128 : Int32))), .val (.int (if (b0 &&& (255 : Int32)) = (237 : Int32) then (159 : Int32) else (191 : Int32))), .val (.int (b1 &&& (255 : Int32))), .unset] [])) _
                  refine XS.iconst X0.here hx rfl (hb hby d1_183) ?_
                  exact k)
                obtain ⟨fs, hr, hrun, hended, hW, hsame⟩ := X0.leave (v := some (.int (-1 : Int32))) (fun h => by rw [Bd.returns] at h; cases h)
                refine ⟨_, _, go204 _ ?_, hrun, hended, _, _, rfl, ?_, ⟨_, rfl⟩, hW, hsame.mono (by decide) (by decide)⟩
                · exact own_retI X0 hx Bd.returns (hb hby d1_184) hr
                · show Q_rm1 Z o0 p1 p2 ka vs b0 b1 b2 b3 h0 n0 _ s₁.heap _
                  rw [e0]
                  exact ⟨by unfold own_len; simp only [if_neg hc3, if_pos hc108, if_neg hc110, if_neg hc149, if_neg hc194, if_neg hc199, if_pos hc202], N0, rfl⟩
              · skip
                have go206 := go203.step (C := s₁.setTop (mkF m 202 #[.val (.ref o0), .val (.int p1), .val (.int p2), .val (.int (b0 &&& (255 : Int32))), .val (.int (3 : Int32)), .val (.int (if (b0 &&& (255 : Int32)) = (224 : Int32) then (160 : Int32) else (128 : Int32))), .val (.int (if (b0 &&& (255 : Int32)) = (237 : Int32) then (159 : Int32) else (191 : Int32))), .val (.int (b1 &&& (255 : Int32))), .val (.int (p1 + (2 : Int32)))] [(.int (p1 + (2 : Int32))), (.ref o0)])) (fun t k => by
                  show Steps p.tables e below (s₁.setTop (mkF m 180 #[.val (.ref o0), .val (.int p1), .val (.int p2), .val (.int (b0 &&& (255 : Int32))), .val (.int (3 : Int32)), .val (.int (if (b0 &&& (255 : Int32)) = (224 : Int32) then (160 : Int32) else (128 : Int32))), .val (.int (if (b0 &&& (255 : Int32)) = (237 : Int32) then (159 : Int32) else (191 : Int32))), .val (.int (b1 &&& (255 : Int32))), .unset] [(.int (if (b0 &&& (255 : Int32)) = (237 : Int32) then (159 : Int32) else (191 : Int32))), (.int (b1 &&& (255 : Int32)))])) _
                  refine XS.icmpYes X0.here hx rfl (pc0 := 180) (pc' := 185) rfl (hb hby d1_180) rfl (flt hc202).2.2.2 (by decide) (by decide) ?_
                  show Steps p.tables e below (s₁.setTop (mkF m 185 #[.val (.ref o0), .val (.int p1), .val (.int p2), .val (.int (b0 &&& (255 : Int32))), .val (.int (3 : Int32)), .val (.int (if (b0 &&& (255 : Int32)) = (224 : Int32) then (160 : Int32) else (128 : Int32))), .val (.int (if (b0 &&& (255 : Int32)) = (237 : Int32) then (159 : Int32) else (191 : Int32))), .val (.int (b1 &&& (255 : Int32))), .unset] [])) _
                  refine XS.iloadN X0.here hx rfl (hb hby d1_185) rfl ?_
                  show Steps p.tables e below (s₁.setTop (mkF m 186 #[.val (.ref o0), .val (.int p1), .val (.int p2), .val (.int (b0 &&& (255 : Int32))), .val (.int (3 : Int32)), .val (.int (if (b0 &&& (255 : Int32)) = (224 : Int32) then (160 : Int32) else (128 : Int32))), .val (.int (if (b0 &&& (255 : Int32)) = (237 : Int32) then (159 : Int32) else (191 : Int32))), .val (.int (b1 &&& (255 : Int32))), .unset] [(.int p1)])) _
                  refine XS.iconst X0.here hx rfl (hb hby d1_186) ?_
                  show Steps p.tables e below (s₁.setTop (mkF m 187 #[.val (.ref o0), .val (.int p1), .val (.int p2), .val (.int (b0 &&& (255 : Int32))), .val (.int (3 : Int32)), .val (.int (if (b0 &&& (255 : Int32)) = (224 : Int32) then (160 : Int32) else (128 : Int32))), .val (.int (if (b0 &&& (255 : Int32)) = (237 : Int32) then (159 : Int32) else (191 : Int32))), .val (.int (b1 &&& (255 : Int32))), .unset] [(.int (2 : Int32)), (.int p1)])) _
                  refine XS.iadd X0.here hx rfl (hb hby d1_187) rfl ?_
                  show Steps p.tables e below (s₁.setTop (mkF m 188 #[.val (.ref o0), .val (.int p1), .val (.int p2), .val (.int (b0 &&& (255 : Int32))), .val (.int (3 : Int32)), .val (.int (if (b0 &&& (255 : Int32)) = (224 : Int32) then (160 : Int32) else (128 : Int32))), .val (.int (if (b0 &&& (255 : Int32)) = (237 : Int32) then (159 : Int32) else (191 : Int32))), .val (.int (b1 &&& (255 : Int32))), .unset] [(.int (p1 + (2 : Int32)))])) _
                  refine XS.istore X0.here hx rfl (hb hby d1_188) rfl (l' := #[.val (.ref o0), .val (.int p1), .val (.int p2), .val (.int (b0 &&& (255 : Int32))), .val (.int (3 : Int32)), .val (.int (if (b0 &&& (255 : Int32)) = (224 : Int32) then (160 : Int32) else (128 : Int32))), .val (.int (if (b0 &&& (255 : Int32)) = (237 : Int32) then (159 : Int32) else (191 : Int32))), .val (.int (b1 &&& (255 : Int32))), .val (.int (p1 + (2 : Int32)))]) rfl ?_
                  show Steps p.tables e below (s₁.setTop (mkF m 190 #[.val (.ref o0), .val (.int p1), .val (.int p2), .val (.int (b0 &&& (255 : Int32))), .val (.int (3 : Int32)), .val (.int (if (b0 &&& (255 : Int32)) = (224 : Int32) then (160 : Int32) else (128 : Int32))), .val (.int (if (b0 &&& (255 : Int32)) = (237 : Int32) then (159 : Int32) else (191 : Int32))), .val (.int (b1 &&& (255 : Int32))), .val (.int (p1 + (2 : Int32)))] [])) _
                  refine XS.iload X0.here hx rfl (hb hby d1_190) rfl ?_
                  show Steps p.tables e below (s₁.setTop (mkF m 192 #[.val (.ref o0), .val (.int p1), .val (.int p2), .val (.int (b0 &&& (255 : Int32))), .val (.int (3 : Int32)), .val (.int (if (b0 &&& (255 : Int32)) = (224 : Int32) then (160 : Int32) else (128 : Int32))), .val (.int (if (b0 &&& (255 : Int32)) = (237 : Int32) then (159 : Int32) else (191 : Int32))), .val (.int (b1 &&& (255 : Int32))), .val (.int (p1 + (2 : Int32)))] [(.int (p1 + (2 : Int32)))])) _
                  refine XS.iloadN X0.here hx rfl (hb hby d1_192) rfl ?_
                  show Steps p.tables e below (s₁.setTop (mkF m 193 #[.val (.ref o0), .val (.int p1), .val (.int p2), .val (.int (b0 &&& (255 : Int32))), .val (.int (3 : Int32)), .val (.int (if (b0 &&& (255 : Int32)) = (224 : Int32) then (160 : Int32) else (128 : Int32))), .val (.int (if (b0 &&& (255 : Int32)) = (237 : Int32) then (159 : Int32) else (191 : Int32))), .val (.int (b1 &&& (255 : Int32))), .val (.int (p1 + (2 : Int32)))] [(.int p1), (.int (p1 + (2 : Int32)))])) _
                  refine XS.iload X0.here hx rfl (hb hby d1_193) rfl ?_
                  show Steps p.tables e below (s₁.setTop (mkF m 195 #[.val (.ref o0), .val (.int p1), .val (.int p2), .val (.int (b0 &&& (255 : Int32))), .val (.int (3 : Int32)), .val (.int (if (b0 &&& (255 : Int32)) = (224 : Int32) then (160 : Int32) else (128 : Int32))), .val (.int (if (b0 &&& (255 : Int32)) = (237 : Int32) then (159 : Int32) else (191 : Int32))), .val (.int (b1 &&& (255 : Int32))), .val (.int (p1 + (2 : Int32)))] [(.int (3 : Int32)), (.int p1), (.int (p1 + (2 : Int32)))])) _
                  refine XS.iadd X0.here hx rfl (hb hby d1_195) rfl ?_
                  show Steps p.tables e below (s₁.setTop (mkF m 196 #[.val (.ref o0), .val (.int p1), .val (.int p2), .val (.int (b0 &&& (255 : Int32))), .val (.int (3 : Int32)), .val (.int (if (b0 &&& (255 : Int32)) = (224 : Int32) then (160 : Int32) else (128 : Int32))), .val (.int (if (b0 &&& (255 : Int32)) = (237 : Int32) then (159 : Int32) else (191 : Int32))), .val (.int (b1 &&& (255 : Int32))), .val (.int (p1 + (2 : Int32)))] [(.int (p1 + (3 : Int32))), (.int (p1 + (2 : Int32)))])) _
                  refine XS.icmpNo X0.here hx rfl (hb hby d1_196) rfl (tlt (own_b0_3 hvs.p : (p1 + (2 : Int32)) < (p1 + (3 : Int32)))).2.1 ?_
                  show Steps p.tables e below (s₁.setTop (mkF m 199 #[.val (.ref o0), .val (.int p1), .val (.int p2), .val (.int (b0 &&& (255 : Int32))), .val (.int (3 : Int32)), .val (.int (if (b0 &&& (255 : Int32)) = (224 : Int32) then (160 : Int32) else (128 : Int32))), .val (.int (if (b0 &&& (255 : Int32)) = (237 : Int32) then (159 : Int32) else (191 : Int32))), .val (.int (b1 &&& (255 : Int32))), .val (.int (p1 + (2 : Int32)))] [])) _
                  refine XS.aloadN X0.here hx rfl (hb hby d1_199) rfl rfl ?_
                  show Steps p.tables e below (s₁.setTop (mkF m 200 #[.val (.ref o0), .val (.int p1), .val (.int p2), .val (.int (b0 &&& (255 : Int32))), .val (.int (3 : Int32)), .val (.int (if (b0 &&& (255 : Int32)) = (224 : Int32) then (160 : Int32) else (128 : Int32))), .val (.int (if (b0 &&& (255 : Int32)) = (237 : Int32) then (159 : Int32) else (191 : Int32))), .val (.int (b1 &&& (255 : Int32))), .val (.int (p1 + (2 : Int32)))] [(.ref o0)])) _
                  refine XS.iload X0.here hx rfl (hb hby d1_200) rfl ?_
                  exact k)
                have Vo207 := V0
                obtain ⟨cl207, Ar207, qa207, Sa207, Na207, Ha207, Ga207⟩ := Vo207
                have hin207 : ¬ ((p1 + (2 : Int32)) < 0 ∨ cl207.slots.size ≤ ((p1 + (2 : Int32))).toNatClampNeg) := inb_of Sa207 (own_r2 hvs).1
                have hat207 : cl207.slots[((p1 + (2 : Int32))).toNatClampNeg]? = some (.int b2) := Has.at Ha207 hin207 (own_r2 hvs).2
                have go209 := go206.step (C := s₁.setTop (mkF m 210 #[.val (.ref o0), .val (.int p1), .val (.int p2), .val (.int (b0 &&& (255 : Int32))), .val (.int (3 : Int32)), .val (.int (if (b0 &&& (255 : Int32)) = (224 : Int32) then (160 : Int32) else (128 : Int32))), .val (.int (if (b0 &&& (255 : Int32)) = (237 : Int32) then (159 : Int32) else (191 : Int32))), .val (.int (b1 &&& (255 : Int32))), .val (.int (p1 + (2 : Int32)))] [(.int (128 : Int32)), (.int (b2 &&& (192 : Int32)))])) (fun t k => by
                  show Steps p.tables e below (s₁.setTop (mkF m 202 #[.val (.ref o0), .val (.int p1), .val (.int p2), .val (.int (b0 &&& (255 : Int32))), .val (.int (3 : Int32)), .val (.int (if (b0 &&& (255 : Int32)) = (224 : Int32) then (160 : Int32) else (128 : Int32))), .val (.int (if (b0 &&& (255 : Int32)) = (237 : Int32) then (159 : Int32) else (191 : Int32))), .val (.int (b1 &&& (255 : Int32))), .val (.int (p1 + (2 : Int32)))] [(.int (p1 + (2 : Int32))), (.ref o0)])) _
                  refine X0.baloadBytes hx (j := (p1 + (2 : Int32))) (v := (.int b2)) (by rw [e0]; exact Ar207.1) (State.isArrayOf_alike hZ.alike Ar207.2.1) Ar207.2.2 hin207 hat207 (g := (mkF m 202 #[.val (.ref o0), .val (.int p1), .val (.int p2), .val (.int (b0 &&& (255 : Int32))), .val (.int (3 : Int32)), .val (.int (if (b0 &&& (255 : Int32)) = (224 : Int32) then (160 : Int32) else (128 : Int32))), .val (.int (if (b0 &&& (255 : Int32)) = (237 : Int32) then (159 : Int32) else (191 : Int32))), .val (.int (b1 &&& (255 : Int32))), .val (.int (p1 + (2 : Int32)))] [(.int (p1 + (2 : Int32))), (.ref o0)])) rfl rfl (hb hby d1_202) _ ?_
                  show Steps p.tables e below (s₁.setTop (mkF m 203 #[.val (.ref o0), .val (.int p1), .val (.int p2), .val (.int (b0 &&& (255 : Int32))), .val (.int (3 : Int32)), .val (.int (if (b0 &&& (255 : Int32)) = (224 : Int32) then (160 : Int32) else (128 : Int32))), .val (.int (if (b0 &&& (255 : Int32)) = (237 : Int32) then (159 : Int32) else (191 : Int32))), .val (.int (b1 &&& (255 : Int32))), .val (.int (p1 + (2 : Int32)))] [(.int b2)])) _
                  refine XS.sipush X0.here hx rfl (hb hby d1_203) ?_
                  show Steps p.tables e below (s₁.setTop (mkF m 206 #[.val (.ref o0), .val (.int p1), .val (.int p2), .val (.int (b0 &&& (255 : Int32))), .val (.int (3 : Int32)), .val (.int (if (b0 &&& (255 : Int32)) = (224 : Int32) then (160 : Int32) else (128 : Int32))), .val (.int (if (b0 &&& (255 : Int32)) = (237 : Int32) then (159 : Int32) else (191 : Int32))), .val (.int (b1 &&& (255 : Int32))), .val (.int (p1 + (2 : Int32)))] [(.int (192 : Int32)), (.int b2)])) _
                  refine XS.iand X0.here hx rfl (hb hby d1_206) rfl ?_
                  show Steps p.tables e below (s₁.setTop (mkF m 207 #[.val (.ref o0), .val (.int p1), .val (.int p2), .val (.int (b0 &&& (255 : Int32))), .val (.int (3 : Int32)), .val (.int (if (b0 &&& (255 : Int32)) = (224 : Int32) then (160 : Int32) else (128 : Int32))), .val (.int (if (b0 &&& (255 : Int32)) = (237 : Int32) then (159 : Int32) else (191 : Int32))), .val (.int (b1 &&& (255 : Int32))), .val (.int (p1 + (2 : Int32)))] [(.int (b2 &&& (192 : Int32)))])) _
                  refine XS.sipush X0.here hx rfl (hb hby d1_207) ?_
                  exact k)
                by_cases hc208 : (b2 &&& (192 : Int32)) = (128 : Int32)
                · skip
                  have go211 := go209.step (C := s₁.setTop (mkF m 223 #[.val (.ref o0), .val (.int p1), .val (.int p2), .val (.int (b0 &&& (255 : Int32))), .val (.int (3 : Int32)), .val (.int (if (b0 &&& (255 : Int32)) = (224 : Int32) then (160 : Int32) else (128 : Int32))), .val (.int (if (b0 &&& (255 : Int32)) = (237 : Int32) then (159 : Int32) else (191 : Int32))), .val (.int (b1 &&& (255 : Int32))), .val (.int ((p1 + (2 : Int32)) + (1 : Int32)))] [(.int (3 : Int32))])) (fun t k => by
                    show Steps p.tables e below (s₁.setTop (mkF m 210 #[.val (.ref o0), .val (.int p1), .val (.int p2), .val (.int (b0 &&& (255 : Int32))), .val (.int (3 : Int32)), .val (.int (if (b0 &&& (255 : Int32)) = (224 : Int32) then (160 : Int32) else (128 : Int32))), .val (.int (if (b0 &&& (255 : Int32)) = (237 : Int32) then (159 : Int32) else (191 : Int32))), .val (.int (b1 &&& (255 : Int32))), .val (.int (p1 + (2 : Int32)))] [(.int (128 : Int32)), (.int (b2 &&& (192 : Int32)))])) _
                    refine XS.icmpYes X0.here hx rfl (pc0 := 210) (pc' := 215) rfl (hb hby d1_210) rfl (teq hc208).1 (by decide) (by decide) ?_
                    show Steps p.tables e below (s₁.setTop (mkF m 215 #[.val (.ref o0), .val (.int p1), .val (.int p2), .val (.int (b0 &&& (255 : Int32))), .val (.int (3 : Int32)), .val (.int (if (b0 &&& (255 : Int32)) = (224 : Int32) then (160 : Int32) else (128 : Int32))), .val (.int (if (b0 &&& (255 : Int32)) = (237 : Int32) then (159 : Int32) else (191 : Int32))), .val (.int (b1 &&& (255 : Int32))), .val (.int (p1 + (2 : Int32)))] [])) _
                    refine XS.iinc X0.here hx rfl (hb hby d1_215) rfl (l' := #[.val (.ref o0), .val (.int p1), .val (.int p2), .val (.int (b0 &&& (255 : Int32))), .val (.int (3 : Int32)), .val (.int (if (b0 &&& (255 : Int32)) = (224 : Int32) then (160 : Int32) else (128 : Int32))), .val (.int (if (b0 &&& (255 : Int32)) = (237 : Int32) then (159 : Int32) else (191 : Int32))), .val (.int (b1 &&& (255 : Int32))), .val (.int ((p1 + (2 : Int32)) + (1 : Int32)))]) rfl ?_
                    show Steps p.tables e below (s₁.setTop (mkF m 218 #[.val (.ref o0), .val (.int p1), .val (.int p2), .val (.int (b0 &&& (255 : Int32))), .val (.int (3 : Int32)), .val (.int (if (b0 &&& (255 : Int32)) = (224 : Int32) then (160 : Int32) else (128 : Int32))), .val (.int (if (b0 &&& (255 : Int32)) = (237 : Int32) then (159 : Int32) else (191 : Int32))), .val (.int (b1 &&& (255 : Int32))), .val (.int ((p1 + (2 : Int32)) + (1 : Int32)))] [])) _
                    refine XS.goto X0.here hx rfl (pc0 := 218) (pc' := 190) rfl (hb hby d1_218) (by decide) (by decide) ?_
                    show Steps p.tables e below (s₁.setTop (mkF m 190 #[.val (.ref o0), .val (.int p1), .val (.int p2), .val (.int (b0 &&& (255 : Int32))), .val (.int (3 : Int32)), .val (.int (if (b0 &&& (255 : Int32)) = (224 : Int32) then (160 : Int32) else (128 : Int32))), .val (.int (if (b0 &&& (255 : Int32)) = (237 : Int32) then (159 : Int32) else (191 : Int32))), .val (.int (b1 &&& (255 : Int32))), .val (.int ((p1 + (2 : Int32)) + (1 : Int32)))] [])) _
                    refine XS.iload X0.here hx rfl (hb hby d1_190) rfl ?_
                    show Steps p.tables e below (s₁.setTop (mkF m 192 #[.val (.ref o0), .val (.int p1), .val (.int p2), .val (.int (b0 &&& (255 : Int32))), .val (.int (3 : Int32)), .val (.int (if (b0 &&& (255 : Int32)) = (224 : Int32) then (160 : Int32) else (128 : Int32))), .val (.int (if (b0 &&& (255 : Int32)) = (237 : Int32) then (159 : Int32) else (191 : Int32))), .val (.int (b1 &&& (255 : Int32))), .val (.int ((p1 + (2 : Int32)) + (1 : Int32)))] [(.int ((p1 + (2 : Int32)) + (1 : Int32)))])) _
                    refine XS.iloadN X0.here hx rfl (hb hby d1_192) rfl ?_
                    show Steps p.tables e below (s₁.setTop (mkF m 193 #[.val (.ref o0), .val (.int p1), .val (.int p2), .val (.int (b0 &&& (255 : Int32))), .val (.int (3 : Int32)), .val (.int (if (b0 &&& (255 : Int32)) = (224 : Int32) then (160 : Int32) else (128 : Int32))), .val (.int (if (b0 &&& (255 : Int32)) = (237 : Int32) then (159 : Int32) else (191 : Int32))), .val (.int (b1 &&& (255 : Int32))), .val (.int ((p1 + (2 : Int32)) + (1 : Int32)))] [(.int p1), (.int ((p1 + (2 : Int32)) + (1 : Int32)))])) _
                    refine XS.iload X0.here hx rfl (hb hby d1_193) rfl ?_
                    show Steps p.tables e below (s₁.setTop (mkF m 195 #[.val (.ref o0), .val (.int p1), .val (.int p2), .val (.int (b0 &&& (255 : Int32))), .val (.int (3 : Int32)), .val (.int (if (b0 &&& (255 : Int32)) = (224 : Int32) then (160 : Int32) else (128 : Int32))), .val (.int (if (b0 &&& (255 : Int32)) = (237 : Int32) then (159 : Int32) else (191 : Int32))), .val (.int (b1 &&& (255 : Int32))), .val (.int ((p1 + (2 : Int32)) + (1 : Int32)))] [(.int (3 : Int32)), (.int p1), (.int ((p1 + (2 : Int32)) + (1 : Int32)))])) _
                    refine XS.iadd X0.here hx rfl (hb hby d1_195) rfl ?_
                    show Steps p.tables e below (s₁.setTop (mkF m 196 #[.val (.ref o0), .val (.int p1), .val (.int p2), .val (.int (b0 &&& (255 : Int32))), .val (.int (3 : Int32)), .val (.int (if (b0 &&& (255 : Int32)) = (224 : Int32) then (160 : Int32) else (128 : Int32))), .val (.int (if (b0 &&& (255 : Int32)) = (237 : Int32) then (159 : Int32) else (191 : Int32))), .val (.int (b1 &&& (255 : Int32))), .val (.int ((p1 + (2 : Int32)) + (1 : Int32)))] [(.int (p1 + (3 : Int32))), (.int ((p1 + (2 : Int32)) + (1 : Int32)))])) _
                    refine XS.icmpYes X0.here hx rfl (pc0 := 196) (pc' := 221) rfl (hb hby d1_196) rfl (flt (own_b1_3 hvs.p : ¬ (((p1 + (2 : Int32)) + (1 : Int32)) < (p1 + (3 : Int32))))).2.1 (by decide) (by decide) ?_
                    show Steps p.tables e below (s₁.setTop (mkF m 221 #[.val (.ref o0), .val (.int p1), .val (.int p2), .val (.int (b0 &&& (255 : Int32))), .val (.int (3 : Int32)), .val (.int (if (b0 &&& (255 : Int32)) = (224 : Int32) then (160 : Int32) else (128 : Int32))), .val (.int (if (b0 &&& (255 : Int32)) = (237 : Int32) then (159 : Int32) else (191 : Int32))), .val (.int (b1 &&& (255 : Int32))), .val (.int ((p1 + (2 : Int32)) + (1 : Int32)))] [])) _
                    refine XS.iload X0.here hx rfl (hb hby d1_221) rfl ?_
                    exact k)
                  obtain ⟨fs, hr, hrun, hended, hW, hsame⟩ := X0.leave (v := some (.int (3 : Int32))) (fun h => by rw [Bd.returns] at h; cases h)
                  refine ⟨_, _, go211 _ ?_, hrun, hended, _, _, rfl, ?_, ⟨_, rfl⟩, hW, hsame.mono (by decide) (by decide)⟩
                  · exact own_retI X0 hx Bd.returns (hb hby d1_223) hr
                  · show Q_rm1 Z o0 p1 p2 ka vs b0 b1 b2 b3 h0 n0 _ s₁.heap _
                    rw [e0]
                    exact ⟨by unfold own_len; simp only [if_neg hc3, if_pos hc108, if_neg hc110, if_neg hc149, if_neg hc194, if_neg hc199, if_neg hc202, if_pos hc208], N0, rfl⟩
                · skip
                  have go212 := go209.step (C := s₁.setTop (mkF m 214 #[.val (.ref o0), .val (.int p1), .val (.int p2), .val (.int (b0 &&& (255 : Int32))), .val (.int (3 : Int32)), .val (.int (if (b0 &&& (255 : Int32)) = (224 : Int32) then (160 : Int32) else (128 : Int32))), .val (.int (if (b0 &&& (255 : Int32)) = (237 : Int32) then (159 : Int32) else (191 : Int32))), .val (.int (b1 &&& (255 : Int32))), .val (.int (p1 + (2 : Int32)))] [(.int (-1 : Int32))])) (fun t k => by
                    show Steps p.tables e below (s₁.setTop (mkF m 210 #[.val (.ref o0), .val (.int p1), .val (.int p2), .val (.int (b0 &&& (255 : Int32))), .val (.int (3 : Int32)), .val (.int (if (b0 &&& (255 : Int32)) = (224 : Int32) then (160 : Int32) else (128 : Int32))), .val (.int (if (b0 &&& (255 : Int32)) = (237 : Int32) then (159 : Int32) else (191 : Int32))), .val (.int (b1 &&& (255 : Int32))), .val (.int (p1 + (2 : Int32)))] [(.int (128 : Int32)), (.int (b2 &&& (192 : Int32)))])) _
                    refine XS.icmpNo X0.here hx rfl (hb hby d1_210) rfl (feq hc208).1 ?_
                    show Steps p.tables e below (s₁.setTop (mkF m 213 #[.val (.ref o0), .val (.int p1), .val (.int p2), .val (.int (b0 &&& (255 : Int32))), .val (.int (3 : Int32)), .val (.int (if (b0 &&& (255 : Int32)) = (224 : Int32) then (160 : Int32) else (128 : Int32))), .val (.int (if (b0 &&& (255 : Int32)) = (237 : Int32) then (159 : Int32) else (191 : Int32))), .val (.int (b1 &&& (255 : Int32))), .val (.int (p1 + (2 : Int32)))] [])) _
                    refine XS.iconst X0.here hx rfl (hb hby d1_213) ?_
                    exact k)
                  obtain ⟨fs, hr, hrun, hended, hW, hsame⟩ := X0.leave (v := some (.int (-1 : Int32))) (fun h => by rw [Bd.returns] at h; cases h)
                  refine ⟨_, _, go212 _ ?_, hrun, hended, _, _, rfl, ?_, ⟨_, rfl⟩, hW, hsame.mono (by decide) (by decide)⟩
                  · exact own_retI X0 hx Bd.returns (hb hby d1_214) hr
                  · show Q_rm1 Z o0 p1 p2 ka vs b0 b1 b2 b3 h0 n0 _ s₁.heap _
                    rw [e0]
                    exact ⟨by unfold own_len; simp only [if_neg hc3, if_pos hc108, if_neg hc110, if_neg hc149, if_neg hc194, if_neg hc199, if_neg hc202, if_neg hc208], N0, rfl⟩
    · skip
      have go214 := go109.step (C := s₁.setTop (mkF m 153 #[.val (.ref o0), .val (.int p1), .val (.int p2), .val (.int (b0 &&& (255 : Int32))), .val (.int (2 : Int32)), .val (.int (128 : Int32)), .val (.int (191 : Int32)), .unset, .unset] [(.int p2), (.int (p1 + (2 : Int32)))])) (fun t k => by
        show Steps p.tables e below (s₁.setTop (mkF m 29 #[.val (.ref o0), .val (.int p1), .val (.int p2), .val (.int (b0 &&& (255 : Int32))), .unset, .val (.int (128 : Int32)), .val (.int (191 : Int32)), .unset, .unset] [(.int (223 : Int32)), (.int (b0 &&& (255 : Int32)))])) _
        refine XS.icmpNo X0.here hx rfl (hb hby d1_29) rfl (flt hc108).2.2.1 ?_
        show Steps p.tables e below (s₁.setTop (mkF m 32 #[.val (.ref o0), .val (.int p1), .val (.int p2), .val (.int (b0 &&& (255 : Int32))), .unset, .val (.int (128 : Int32)), .val (.int (191 : Int32)), .unset, .unset] [])) _
        refine XS.iconst X0.here hx rfl (hb hby d1_32) ?_
        show Steps p.tables e below (s₁.setTop (mkF m 33 #[.val (.ref o0), .val (.int p1), .val (.int p2), .val (.int (b0 &&& (255 : Int32))), .unset, .val (.int (128 : Int32)), .val (.int (191 : Int32)), .unset, .unset] [(.int (2 : Int32))])) _
        refine XS.istore X0.here hx rfl (hb hby d1_33) rfl (l' := #[.val (.ref o0), .val (.int p1), .val (.int p2), .val (.int (b0 &&& (255 : Int32))), .val (.int (2 : Int32)), .val (.int (128 : Int32)), .val (.int (191 : Int32)), .unset, .unset]) rfl ?_
        show Steps p.tables e below (s₁.setTop (mkF m 35 #[.val (.ref o0), .val (.int p1), .val (.int p2), .val (.int (b0 &&& (255 : Int32))), .val (.int (2 : Int32)), .val (.int (128 : Int32)), .val (.int (191 : Int32)), .unset, .unset] [])) _
        refine XS.goto X0.here hx rfl (pc0 := 35) (pc' := 148) rfl (hb hby d1_35) (by decide) (by decide) ?_
        show Steps p.tables e below (s₁.setTop (mkF m 148 #[.val (.ref o0), .val (.int p1), .val (.int p2), .val (.int (b0 &&& (255 : Int32))), .val (.int (2 : Int32)), .val (.int (128 : Int32)), .val (.int (191 : Int32)), .unset, .unset] [])) _
        refine XS.iloadN X0.here hx rfl (hb hby d1_148) rfl ?_
        show Steps p.tables e below (s₁.setTop (mkF m 149 #[.val (.ref o0), .val (.int p1), .val (.int p2), .val (.int (b0 &&& (255 : Int32))), .val (.int (2 : Int32)), .val (.int (128 : Int32)), .val (.int (191 : Int32)), .unset, .unset] [(.int p1)])) _
        refine XS.iload X0.here hx rfl (hb hby d1_149) rfl ?_
        show Steps p.tables e below (s₁.setTop (mkF m 151 #[.val (.ref o0), .val (.int p1), .val (.int p2), .val (.int (b0 &&& (255 : Int32))), .val (.int (2 : Int32)), .val (.int (128 : Int32)), .val (.int (191 : Int32)), .unset, .unset] [(.int (2 : Int32)), (.int p1)])) _
        refine XS.iadd X0.here hx rfl (hb hby d1_151) rfl ?_
        show Steps p.tables e below (s₁.setTop (mkF m 152 #[.val (.ref o0), .val (.int p1), .val (.int p2), .val (.int (b0 &&& (255 : Int32))), .val (.int (2 : Int32)), .val (.int (128 : Int32)), .val (.int (191 : Int32)), .unset, .unset] [(.int (p1 + (2 : Int32)))])) _
        refine XS.iloadN X0.here hx rfl (hb hby d1_152) rfl ?_
        exact k)
      by_cases hc213 : p2 < (p1 + (2 : Int32))
      · skip
        have go215 := go214.step (C := s₁.setTop (mkF m 157 #[.val (.ref o0), .val (.int p1), .val (.int p2), .val (.int (b0 &&& (255 : Int32))), .val (.int (2 : Int32)), .val (.int (128 : Int32)), .val (.int (191 : Int32)), .unset, .unset] [(.int (-1 : Int32))])) (fun t k => by
          show Steps p.tables e below (s₁.setTop (mkF m 153 #[.val (.ref o0), .val (.int p1), .val (.int p2), .val (.int (b0 &&& (255 : Int32))), .val (.int (2 : Int32)), .val (.int (128 : Int32)), .val (.int (191 : Int32)), .unset, .unset] [(.int p2), (.int (p1 + (2 : Int32)))])) _
          refine XS.icmpNo X0.here hx rfl (hb hby d1_153) rfl (tlt hc213).2.2.2 ?_
          show Steps p.tables e below (s₁.setTop (mkF m 156 #[.val (.ref o0), .val (.int p1), .val (.int p2), .val (.int (b0 &&& (255 : Int32))), .val (.int (2 : Int32)), .val (.int (128 : Int32)), .val (.int (191 : Int32)), .unset, .unset] [])) _
          refine XS.iconst X0.here hx rfl (hb hby d1_156) ?_
          exact k)
        obtain ⟨fs, hr, hrun, hended, hW, hsame⟩ := X0.leave (v := some (.int (-1 : Int32))) (fun h => by rw [Bd.returns] at h; cases h)
        refine ⟨_, _, go215 _ ?_, hrun, hended, _, _, rfl, ?_, ⟨_, rfl⟩, hW, hsame.mono (by decide) (by decide)⟩
        · exact own_retI X0 hx Bd.returns (hb hby d1_157) hr
        · show Q_rm1 Z o0 p1 p2 ka vs b0 b1 b2 b3 h0 n0 _ s₁.heap _
          rw [e0]
          exact ⟨by unfold own_len; simp only [if_neg hc3, if_neg hc108, if_pos hc213], N0, rfl⟩
      · skip
        have go216 := go214.step (C := s₁.setTop (mkF m 162 #[.val (.ref o0), .val (.int p1), .val (.int p2), .val (.int (b0 &&& (255 : Int32))), .val (.int (2 : Int32)), .val (.int (128 : Int32)), .val (.int (191 : Int32)), .unset, .unset] [(.int (p1 + (1 : Int32))), (.ref o0)])) (fun t k => by
          show Steps p.tables e below (s₁.setTop (mkF m 153 #[.val (.ref o0), .val (.int p1), .val (.int p2), .val (.int (b0 &&& (255 : Int32))), .val (.int (2 : Int32)), .val (.int (128 : Int32)), .val (.int (191 : Int32)), .unset, .unset] [(.int p2), (.int (p1 + (2 : Int32)))])) _
          refine XS.icmpYes X0.here hx rfl (pc0 := 153) (pc' := 158) rfl (hb hby d1_153) rfl (flt hc213).2.2.2 (by decide) (by decide) ?_
          show Steps p.tables e below (s₁.setTop (mkF m 158 #[.val (.ref o0), .val (.int p1), .val (.int p2), .val (.int (b0 &&& (255 : Int32))), .val (.int (2 : Int32)), .val (.int (128 : Int32)), .val (.int (191 : Int32)), .unset, .unset] [])) _
          refine XS.aloadN X0.here hx rfl (hb hby d1_158) rfl rfl ?_
          show Steps p.tables e below (s₁.setTop (mkF m 159 #[.val (.ref o0), .val (.int p1), .val (.int p2), .val (.int (b0 &&& (255 : Int32))), .val (.int (2 : Int32)), .val (.int (128 : Int32)), .val (.int (191 : Int32)), .unset, .unset] [(.ref o0)])) _
          refine XS.iloadN X0.here hx rfl (hb hby d1_159) rfl ?_
          show Steps p.tables e below (s₁.setTop (mkF m 160 #[.val (.ref o0), .val (.int p1), .val (.int p2), .val (.int (b0 &&& (255 : Int32))), .val (.int (2 : Int32)), .val (.int (128 : Int32)), .val (.int (191 : Int32)), .unset, .unset] [(.int p1), (.ref o0)])) _
          refine XS.iconst X0.here hx rfl (hb hby d1_160) ?_
          show Steps p.tables e below (s₁.setTop (mkF m 161 #[.val (.ref o0), .val (.int p1), .val (.int p2), .val (.int (b0 &&& (255 : Int32))), .val (.int (2 : Int32)), .val (.int (128 : Int32)), .val (.int (191 : Int32)), .unset, .unset] [(.int (1 : Int32)), (.int p1), (.ref o0)])) _
          refine XS.iadd X0.here hx rfl (hb hby d1_161) rfl ?_
          exact k)
        have Vo217 := V0
        obtain ⟨cl217, Ar217, qa217, Sa217, Na217, Ha217, Ga217⟩ := Vo217
        have hin217 : ¬ ((p1 + (1 : Int32)) < 0 ∨ cl217.slots.size ≤ ((p1 + (1 : Int32))).toNatClampNeg) := inb_of Sa217 (own_r1 hvs).1
        have hat217 : cl217.slots[((p1 + (1 : Int32))).toNatClampNeg]? = some (.int b1) := Has.at Ha217 hin217 (own_r1 hvs).2
        have go219 := go216.step (C := s₁.setTop (mkF m 173 #[.val (.ref o0), .val (.int p1), .val (.int p2), .val (.int (b0 &&& (255 : Int32))), .val (.int (2 : Int32)), .val (.int (128 : Int32)), .val (.int (191 : Int32)), .val (.int (b1 &&& (255 : Int32))), .unset] [(.int (128 : Int32)), (.int (b1 &&& (255 : Int32)))])) (fun t k => by
          show Steps p.tables e below (s₁.setTop (mkF m 162 #[.val (.ref o0), .val (.int p1), .val (.int p2), .val (.int (b0 &&& (255 : Int32))), .val (.int (2 : Int32)), .val (.int (128 : Int32)), .val (.int (191 : Int32)), .unset, .unset] [(.int (p1 + (1 : Int32))), (.ref o0)])) _
          refine X0.baloadBytes hx (j := (p1 + (1 : Int32))) (v := (.int b1)) (by rw [e0]; exact Ar217.1) (State.isArrayOf_alike hZ.alike Ar217.2.1) Ar217.2.2 hin217 hat217 (g := (mkF m 162 #[.val (.ref o0), .val (.int p1), .val (.int p2), .val (.int (b0 &&& (255 : Int32))), .val (.int (2 : Int32)), .val (.int (128 : Int32)), .val (.int (191 : Int32)), .unset, .unset] [(.int (p1 + (1 : Int32))), (.ref o0)])) rfl rfl (hb hby d1_162) _ ?_
          show Steps p.tables e below (s₁.setTop (mkF m 163 #[.val (.ref o0), .val (.int p1), .val (.int p2), .val (.int (b0 &&& (255 : Int32))), .val (.int (2 : Int32)), .val (.int (128 : Int32)), .val (.int (191 : Int32)), .unset, .unset] [(.int b1)])) _
          refine XS.sipush X0.here hx rfl (hb hby d1_163) ?_
          show Steps p.tables e below (s₁.setTop (mkF m 166 #[.val (.ref o0), .val (.int p1), .val (.int p2), .val (.int (b0 &&& (255 : Int32))), .val (.int (2 : Int32)), .val (.int (128 : Int32)), .val (.int (191 : Int32)), .unset, .unset] [(.int (255 : Int32)), (.int b1)])) _
          refine XS.iand X0.here hx rfl (hb hby d1_166) rfl ?_
          show Steps p.tables e below (s₁.setTop (mkF m 167 #[.val (.ref o0), .val (.int p1), .val (.int p2), .val (.int (b0 &&& (255 : Int32))), .val (.int (2 : Int32)), .val (.int (128 : Int32)), .val (.int (191 : Int32)), .unset, .unset] [(.int (b1 &&& (255 : Int32)))])) _
          refine XS.istore X0.here hx rfl (hb hby d1_167) rfl (l' := #[.val (.ref o0), .val (.int p1), .val (.int p2), .val (.int (b0 &&& (255 : Int32))), .val (.int (2 : Int32)), .val (.int (128 : Int32)), .val (.int (191 : Int32)), .val (.int (b1 &&& (255 : Int32))), .unset]) rfl ?_
          show Steps p.tables e below (s₁.setTop (mkF m 169 #[.val (.ref o0), .val (.int p1), .val (.int p2), .val (.int (b0 &&& (255 : Int32))), .val (.int (2 : Int32)), .val (.int (128 : Int32)), .val (.int (191 : Int32)), .val (.int (b1 &&& (255 : Int32))), .unset] [])) _
          refine XS.iload X0.here hx rfl (hb hby d1_169) rfl ?_
          show Steps p.tables e below (s₁.setTop (mkF m 171 #[.val (.ref o0), .val (.int p1), .val (.int p2), .val (.int (b0 &&& (255 : Int32))), .val (.int (2 : Int32)), .val (.int (128 : Int32)), .val (.int (191 : Int32)), .val (.int (b1 &&& (255 : Int32))), .unset] [(.int (b1 &&& (255 : Int32)))])) _
          refine XS.iload X0.here hx rfl (hb hby d1_171) rfl ?_
          exact k)
        by_cases hc218 : (b1 &&& (255 : Int32)) < (128 : Int32)
        · skip
          have go220 := go219.step (C := s₁.setTop (mkF m 184 #[.val (.ref o0), .val (.int p1), .val (.int p2), .val (.int (b0 &&& (255 : Int32))), .val (.int (2 : Int32)), .val (.int (128 : Int32)), .val (.int (191 : Int32)), .val (.int (b1 &&& (255 : Int32))), .unset] [(.int (-1 : Int32))])) (fun t k => by
            show Steps p.tables e below (s₁.setTop (mkF m 173 #[.val (.ref o0), .val (.int p1), .val (.int p2), .val (.int (b0 &&& (255 : Int32))), .val (.int (2 : Int32)), .val (.int (128 : Int32)), .val (.int (191 : Int32)), .val (.int (b1 &&& (255 : Int32))), .unset] [(.int (128 : Int32)), (.int (b1 &&& (255 : Int32)))])) _
            refine XS.icmpYes X0.here hx rfl (pc0 := 173) (pc' := 183) rfl (hb hby d1_173) rfl (tlt hc218).1 (by decide) (by decide) ?_
            show Steps p.tables e below (s₁.setTop (mkF m 183 #[.val (.ref o0), .val (.int p1), .val (.int p2), .val (.int (b0 &&& (255 : Int32))), .val (.int (2 : Int32)), .val (.int (128 : Int32)), .val (.int (191 : Int32)), .val (.int (b1 &&& (255 : Int32))), .unset] [])) _
            refine XS.iconst X0.here hx rfl (hb hby d1_183) ?_
            exact k)
          obtain ⟨fs, hr, hrun, hended, hW, hsame⟩ := X0.leave (v := some (.int (-1 : Int32))) (fun h => by rw [Bd.returns] at h; cases h)
          refine ⟨_, _, go220 _ ?_, hrun, hended, _, _, rfl, ?_, ⟨_, rfl⟩, hW, hsame.mono (by decide) (by decide)⟩
          · exact own_retI X0 hx Bd.returns (hb hby d1_184) hr
          · show Q_rm1 Z o0 p1 p2 ka vs b0 b1 b2 b3 h0 n0 _ s₁.heap _
            rw [e0]
            exact ⟨by unfold own_len; simp only [if_neg hc3, if_neg hc108, if_neg hc213, if_pos hc218], N0, rfl⟩
        · skip
          have go222 := go219.step (C := s₁.setTop (mkF m 180 #[.val (.ref o0), .val (.int p1), .val (.int p2), .val (.int (b0 &&& (255 : Int32))), .val (.int (2 : Int32)), .val (.int (128 : Int32)), .val (.int (191 : Int32)), .val (.int (b1 &&& (255 : Int32))), .unset] [(.int (191 : Int32)), (.int (b1 &&& (255 : Int32)))])) (fun t k => by
            show Steps p.tables e below (s₁.setTop (mkF m 173 #[.val (.ref o0), .val (.int p1), .val (.int p2), .val (.int (b0 &&& (255 : Int32))), .val (.int (2 : Int32)), .val (.int (128 : Int32)), .val (.int (191 : Int32)), .val (.int (b1 &&& (255 : Int32))), .unset] [(.int (128 : Int32)), (.int (b1 &&& (255 : Int32)))])) _
            refine XS.icmpNo X0.here hx rfl (hb hby d1_173) rfl (flt hc218).1 ?_
            show Steps p.tables e below (s₁.setTop (mkF m 176 #[.val (.ref o0), .val (.int p1), .val (.int p2), .val (.int (b0 &&& (255 : Int32))), .val (.int (2 : Int32)), .val (.int (128 : Int32)), .val (.int (191 : Int32)), .val (.int (b1 &&& (255 : Int32))), .unset] [])) _
            refine XS.iload X0.here hx rfl (hb hby d1_176) rfl ?_
            show Steps p.tables e below (s₁.setTop (mkF m 178 #[.val (.ref o0), .val (.int p1), .val (.int p2), .val (.int (b0 &&& (255 : Int32))), .val (.int (2 : Int32)), .val (.int (128 : Int32)), .val (.int (191 : Int32)), .val (.int (b1 &&& (255 : Int32))), .unset] [(.int (b1 &&& (255 : Int32)))])) _
            refine XS.iload X0.here hx rfl (hb hby d1_178) rfl ?_
            exact k)
          by_cases hc221 : (191 : Int32) < (b1 &&& (255 : Int32))
          · skip
            have go223 := go222.step (C := s₁.setTop (mkF m 184 #[.val (.ref o0), .val (.int p1), .val (.int p2), .val (.int (b0 &&& (255 : Int32))), .val (.int (2 : Int32)), .val (.int (128 : Int32)), .val (.int (191 : Int32)), .val (.int (b1 &&& (255 : Int32))), .unset] [(.int (-1 : Int32))])) (fun t k => by
              show Steps p.tables e below (s₁.setTop (mkF m 180 #[.val (.ref o0), .val (.int p1), .val (.int p2), .val (.int (b0 &&& (255 : Int32))), .val (.int (2 : Int32)), .val (.int (128 : Int32)), .val (.int (191 : Int32)), .val (.int (b1 &&& (255 : Int32))), .unset] [(.int (191 : Int32)), (.int (b1 &&& (255 : Int32)))])) _
              refine XS.icmpNo X0.here hx rfl (hb hby d1_180) rfl (tlt hc221).2.2.2 ?_
              show Steps p.tables e below (s₁.setTop (mkF m 183 #[.val (.ref o0), .val (.int p1), .val (.int p2), .val (.int (b0 &&& (255 : Int32))), .val (.int (2 : Int32)), .val (.int (128 : Int32)), .val (.int (191 : Int32)), .val (.int (b1 &&& (255 : Int32))), .unset] [])) _
              refine XS.iconst X0.here hx rfl (hb hby d1_183) ?_
              exact k)
            obtain ⟨fs, hr, hrun, hended, hW, hsame⟩ := X0.leave (v := some (.int (-1 : Int32))) (fun h => by rw [Bd.returns] at h; cases h)
            refine ⟨_, _, go223 _ ?_, hrun, hended, _, _, rfl, ?_, ⟨_, rfl⟩, hW, hsame.mono (by decide) (by decide)⟩
            · exact own_retI X0 hx Bd.returns (hb hby d1_184) hr
            · show Q_rm1 Z o0 p1 p2 ka vs b0 b1 b2 b3 h0 n0 _ s₁.heap _
              rw [e0]
              exact ⟨by unfold own_len; simp only [if_neg hc3, if_neg hc108, if_neg hc213, if_neg hc218, if_pos hc221], N0, rfl⟩
          · skip
            have go225 := go222.step (C := s₁.setTop (mkF m 223 #[.val (.ref o0), .val (.int p1), .val (.int p2), .val (.int (b0 &&& (255 : Int32))), .val (.int (2 : Int32)), .val (.int (128 : Int32)), .val (.int (191 : Int32)), .val (.int (b1 &&& (255 : Int32))), .val (.int (p1 + (2 : Int32)))] [(.int (2 : Int32))])) (fun t k => by
              show Steps p.tables e below (s₁.setTop (mkF m 180 #[.val (.ref o0), .val (.int p1), .val (.int p2), .val (.int (b0 &&& (255 : Int32))), .val (.int (2 : Int32)), .val (.int (128 : Int32)), .val (.int (191 : Int32)), .val (.int (b1 &&& (255 : Int32))), .unset] [(.int (191 : Int32)), (.int (b1 &&& (255 : Int32)))])) _
              refine XS.icmpYes X0.here hx rfl (pc0 := 180) (pc' := 185) rfl (hb hby d1_180) rfl (flt hc221).2.2.2 (by decide) (by decide) ?_
              show Steps p.tables e below (s₁.setTop (mkF m 185 #[.val (.ref o0), .val (.int p1), .val (.int p2), .val (.int (b0 &&& (255 : Int32))), .val (.int (2 : Int32)), .val (.int (128 : Int32)), .val (.int (191 : Int32)), .val (.int (b1 &&& (255 : Int32))), .unset] [])) _
              refine XS.iloadN X0.here hx rfl (hb hby d1_185) rfl ?_
              show Steps p.tables e below (s₁.setTop (mkF m 186 #[.val (.ref o0), .val (.int p1), .val (.int p2), .val (.int (b0 &&& (255 : Int32))), .val (.int (2 : Int32)), .val (.int (128 : Int32)), .val (.int (191 : Int32)), .val (.int (b1 &&& (255 : Int32))), .unset] [(.int p1)])) _
              refine XS.iconst X0.here hx rfl (hb hby d1_186) ?_
              show Steps p.tables e below (s₁.setTop (mkF m 187 #[.val (.ref o0), .val (.int p1), .val (.int p2), .val (.int (b0 &&& (255 : Int32))), .val (.int (2 : Int32)), .val (.int (128 : Int32)), .val (.int (191 : Int32)), .val (.int (b1 &&& (255 : Int32))), .unset] [(.int (2 : Int32)), (.int p1)])) _
              refine XS.iadd X0.here hx rfl (hb hby d1_187) rfl ?_
              show Steps p.tables e below (s₁.setTop (mkF m 188 #[.val (.ref o0), .val (.int p1), .val (.int p2), .val (.int (b0 &&& (255 : Int32))), .val (.int (2 : Int32)), .val (.int (128 : Int32)), .val (.int (191 : Int32)), .val (.int (b1 &&& (255 : Int32))), .unset] [(.int (p1 + (2 : Int32)))])) _
              refine XS.istore X0.here hx rfl (hb hby d1_188) rfl (l' := #[.val (.ref o0), .val (.int p1), .val (.int p2), .val (.int (b0 &&& (255 : Int32))), .val (.int (2 : Int32)), .val (.int (128 : Int32)), .val (.int (191 : Int32)), .val (.int (b1 &&& (255 : Int32))), .val (.int (p1 + (2 : Int32)))]) rfl ?_
              show Steps p.tables e below (s₁.setTop (mkF m 190 #[.val (.ref o0), .val (.int p1), .val (.int p2), .val (.int (b0 &&& (255 : Int32))), .val (.int (2 : Int32)), .val (.int (128 : Int32)), .val (.int (191 : Int32)), .val (.int (b1 &&& (255 : Int32))), .val (.int (p1 + (2 : Int32)))] [])) _
              refine XS.iload X0.here hx rfl (hb hby d1_190) rfl ?_
              show Steps p.tables e below (s₁.setTop (mkF m 192 #[.val (.ref o0), .val (.int p1), .val (.int p2), .val (.int (b0 &&& (255 : Int32))), .val (.int (2 : Int32)), .val (.int (128 : Int32)), .val (.int (191 : Int32)), .val (.int (b1 &&& (255 : Int32))), .val (.int (p1 + (2 : Int32)))] [(.int (p1 + (2 : Int32)))])) _
              refine XS.iloadN X0.here hx rfl (hb hby d1_192) rfl ?_
              show Steps p.tables e below (s₁.setTop (mkF m 193 #[.val (.ref o0), .val (.int p1), .val (.int p2), .val (.int (b0 &&& (255 : Int32))), .val (.int (2 : Int32)), .val (.int (128 : Int32)), .val (.int (191 : Int32)), .val (.int (b1 &&& (255 : Int32))), .val (.int (p1 + (2 : Int32)))] [(.int p1), (.int (p1 + (2 : Int32)))])) _
              refine XS.iload X0.here hx rfl (hb hby d1_193) rfl ?_
              show Steps p.tables e below (s₁.setTop (mkF m 195 #[.val (.ref o0), .val (.int p1), .val (.int p2), .val (.int (b0 &&& (255 : Int32))), .val (.int (2 : Int32)), .val (.int (128 : Int32)), .val (.int (191 : Int32)), .val (.int (b1 &&& (255 : Int32))), .val (.int (p1 + (2 : Int32)))] [(.int (2 : Int32)), (.int p1), (.int (p1 + (2 : Int32)))])) _
              refine XS.iadd X0.here hx rfl (hb hby d1_195) rfl ?_
              show Steps p.tables e below (s₁.setTop (mkF m 196 #[.val (.ref o0), .val (.int p1), .val (.int p2), .val (.int (b0 &&& (255 : Int32))), .val (.int (2 : Int32)), .val (.int (128 : Int32)), .val (.int (191 : Int32)), .val (.int (b1 &&& (255 : Int32))), .val (.int (p1 + (2 : Int32)))] [(.int (p1 + (2 : Int32))), (.int (p1 + (2 : Int32)))])) _
              refine XS.icmpYes X0.here hx rfl (pc0 := 196) (pc' := 221) rfl (hb hby d1_196) rfl (flt (own_b0_2 hvs.p : ¬ ((p1 + (2 : Int32)) < (p1 + (2 : Int32))))).2.1 (by decide) (by decide) ?_
              show Steps p.tables e below (s₁.setTop (mkF m 221 #[.val (.ref o0), .val (.int p1), .val (.int p2), .val (.int (b0 &&& (255 : Int32))), .val (.int (2 : Int32)), .val (.int (128 : Int32)), .val (.int (191 : Int32)), .val (.int (b1 &&& (255 : Int32))), .val (.int (p1 + (2 : Int32)))] [])) _
              refine XS.iload X0.here hx rfl (hb hby d1_221) rfl ?_
              exact k)
            obtain ⟨fs, hr, hrun, hended, hW, hsame⟩ := X0.leave (v := some (.int (2 : Int32))) (fun h => by rw [Bd.returns] at h; cases h)
            refine ⟨_, _, go225 _ ?_, hrun, hended, _, _, rfl, ?_, ⟨_, rfl⟩, hW, hsame.mono (by decide) (by decide)⟩
            · exact own_retI X0 hx Bd.returns (hb hby d1_223) hr
            · show Q_rm1 Z o0 p1 p2 ka vs b0 b1 b2 b3 h0 n0 _ s₁.heap _
              rw [e0]
              exact ⟨by unfold own_len; simp only [if_neg hc3, if_neg hc108, if_neg hc213, if_neg hc218, if_neg hc221], N0, rfl⟩
def own_cont (p0 : Int32) : Int32 := (if (p0 &&& (192 : Int32)) = (128 : Int32) then (1 : Int32) else (0 : Int32))
theorem d3_0 : decode method_3_code 0 = .ok (.iload_n 0, 1) := by decide +kernel
theorem d3_1 : decode method_3_code 1 = .ok (.sipush 192, 3) := by decide +kernel
theorem d3_4 : decode method_3_code 4 = .ok (.iand, 1) := by decide +kernel
theorem d3_5 : decode method_3_code 5 = .ok (.sipush 128, 3) := by decide +kernel
theorem d3_8 : decode method_3_code 8 = .ok (.if_icmp .ne 7, 3) := by decide +kernel
theorem d3_11 : decode method_3_code 11 = .ok (.iconst 1, 1) := by decide +kernel
theorem d3_12 : decode method_3_code 12 = .ok (.goto 4, 3) := by decide +kernel
theorem d3_15 : decode method_3_code 15 = .ok (.iconst 0, 1) := by decide +kernel
theorem d3_16 : decode method_3_code 16 = .ok (.ireturn, 1) := by decide +kernel
theorem pn_rm3 : plainName "com/example/graphkind/graphkind/Utf8LengthPinLaw" = true := by first | (simp [plainName, overriddenIn]; done) | decide +kernel
theorem ef_rm3 (m : MethodId) (p0 : Int32) : entryFrame m #[(.int p0)] 1 = mkF m 0 #[.val (.int p0)] [] := by first | (simp [entryFrame, mkF, argsToLocals, Value.category]; done) | rfl
def Q_rm3 (Z : State) (p0 : Int32) (h0 : Heap) (n0 : Nat) (v : Option Value) (h : Heap) (L : List Loc) : Prop := v = some (.int (own_cont p0)) ∧ Fr n0 L ∧ h = h0
set_option maxRecDepth 65536 in
set_option maxHeartbeats 40000000 in
theorem rm3 (l : Launch) (Z : State) (a0 : Array Value) (hw : ∀ d ∈ tables_1, d.before a0 Z = true) (ws : List Jvm.Cond) (p0 : Int32) (h0 : Heap) (n0 : Nat) (Z0 : n0 ≤ h0.size) :
    MetFree l (⟨"com/example/graphkind/graphkind/Utf8LengthPinLaw", "cont", "(I)Z"⟩ : MethodName) (head1 (Jvm.Cond.code (⟨"com/example/graphkind/graphkind/Utf8LengthPinLaw", "cont", "(I)Z"⟩ : MethodName) method_3_code 1 (some .boolean) :: ws) ({ frames := 0, cells := 0, slots := 0, locals := 0 } : Room)) (fun a U => a = #[(.int p0)] ∧ Z.Warmed39 U.vm ∧ U.heap = h0) (fun _ _ _ _ _ => True) (fun _ U o U' => ∃ v L, o = .returned v ∧ Q_rm3 Z p0 h0 n0 v U'.heap L ∧ FrameEnd U o U' L ({ frames := 0, cells := 0, slots := 0, locals := 0 } : Room).cells ({ frames := 0, cells := 0, slots := 0, locals := 0 } : Room).slots) := by
  refine MetFree.of_bodySF (plainFor_of_name pn_rm3) hisR ?_
  intro p e s m args below meth c s₁ Bd hml0 hP hK
  obtain ⟨rfl, hZ, hh⟩ := hP
  have hx := Bd.exec
  have hby := Bd.bytes
  have hml : c.maxLocals = 1 := hml0
  have hown : s.vm.findClass "com/example/graphkind/graphkind/Utf8LengthPinLaw" = some m.cls := findClass_of_methodNamed Bd.named
  have hnm := (name_of_methodNamed Bd.named Bd.method).1
  have X0 : Stand p l e ({ frames := 0, cells := 0, slots := 0, locals := 0 } : Room) s m #[(.int p0)] below meth c s₁ [] 0 0 := Stand.of_body Bd
  have e0 : s₁.heap = h0 := by rw [← hh, Bd.state]; rfl
  have N0 := Fr.nil n0
  have K0 := Keep.refl h0 []
  have go0 : Go p e below (s₁.setTop (entryFrame m #[(.int p0)] 1)) (s₁.setTop (mkF m 0 #[.val (.int p0)] [])) := fun t k => castTop (ef_rm3 m p0) k
  have go2 := go0.step (C := s₁.setTop (mkF m 8 #[.val (.int p0)] [(.int (128 : Int32)), (.int (p0 &&& (192 : Int32)))])) (fun t k => by
    show Steps p.tables e below (s₁.setTop (mkF m 0 #[.val (.int p0)] [])) _
    refine XS.iloadN X0.here hx rfl (hb hby d3_0) rfl ?_
    show Steps p.tables e below (s₁.setTop (mkF m 1 #[.val (.int p0)] [(.int p0)])) _
    refine XS.sipush X0.here hx rfl (hb hby d3_1) ?_
    show Steps p.tables e below (s₁.setTop (mkF m 4 #[.val (.int p0)] [(.int (192 : Int32)), (.int p0)])) _
    refine XS.iand X0.here hx rfl (hb hby d3_4) rfl ?_
    show Steps p.tables e below (s₁.setTop (mkF m 5 #[.val (.int p0)] [(.int (p0 &&& (192 : Int32)))])) _
    refine XS.sipush X0.here hx rfl (hb hby d3_5) ?_
    exact k)
  by_cases hc1 : (p0 &&& (192 : Int32)) = (128 : Int32)
  · skip
    have go3 := go2.step (C := s₁.setTop (mkF m 16 #[.val (.int p0)] [(.int (1 : Int32))])) (fun t k => by
      show Steps p.tables e below (s₁.setTop (mkF m 8 #[.val (.int p0)] [(.int (128 : Int32)), (.int (p0 &&& (192 : Int32)))])) _
      refine XS.icmpNo X0.here hx rfl (hb hby d3_8) rfl (teq hc1).2 ?_
      show Steps p.tables e below (s₁.setTop (mkF m 11 #[.val (.int p0)] [])) _
      refine XS.iconst X0.here hx rfl (hb hby d3_11) ?_
      show Steps p.tables e below (s₁.setTop (mkF m 12 #[.val (.int p0)] [(.int (1 : Int32))])) _
      refine XS.goto X0.here hx rfl (pc0 := 12) (pc' := 16) rfl (hb hby d3_12) (by decide) (by decide) ?_
      exact k)
    obtain ⟨fs, hr, hrun, hended, hW, hsame⟩ := X0.leave (v := some (.int (1 : Int32))) (fun h => by rw [Bd.returns] at h; cases h)
    refine ⟨_, _, go3 _ ?_, hrun, hended, _, _, rfl, ?_, ⟨_, rfl⟩, hW, hsame.mono (by decide) (by decide)⟩
    · exact retN X0 hx (t := .boolean) Bd.returns (by simp) (hb hby d3_16) hr
    · show Q_rm3 Z p0 h0 n0 _ s₁.heap _
      rw [e0]
      exact ⟨by unfold own_cont; simp only [if_pos hc1], N0, rfl⟩
  · skip
    have go4 := go2.step (C := s₁.setTop (mkF m 16 #[.val (.int p0)] [(.int (0 : Int32))])) (fun t k => by
      show Steps p.tables e below (s₁.setTop (mkF m 8 #[.val (.int p0)] [(.int (128 : Int32)), (.int (p0 &&& (192 : Int32)))])) _
      refine XS.icmpYes X0.here hx rfl (pc0 := 8) (pc' := 15) rfl (hb hby d3_8) rfl (feq hc1).2 (by decide) (by decide) ?_
      show Steps p.tables e below (s₁.setTop (mkF m 15 #[.val (.int p0)] [])) _
      refine XS.iconst X0.here hx rfl (hb hby d3_15) ?_
      exact k)
    obtain ⟨fs, hr, hrun, hended, hW, hsame⟩ := X0.leave (v := some (.int (0 : Int32))) (fun h => by rw [Bd.returns] at h; cases h)
    refine ⟨_, _, go4 _ ?_, hrun, hended, _, _, rfl, ?_, ⟨_, rfl⟩, hW, hsame.mono (by decide) (by decide)⟩
    · exact retN X0 hx (t := .boolean) Bd.returns (by simp) (hb hby d3_16) hr
    · show Q_rm3 Z p0 h0 n0 _ s₁.heap _
      rw [e0]
      exact ⟨by unfold own_cont; simp only [if_neg hc1], N0, rfl⟩
def own_exp (p0 : Int32) (p1 : Int32) (p2 : Int32) (p3 : Int32) (p4 : Int32) : Int32 := (if (p0 &&& (224 : Int32)) = (192 : Int32) then (if p4 < (2 : Int32) then (-1 : Int32) else (if (own_cont p1) = (0 : Int32) then (-1 : Int32) else (if (((p0 &&& (31 : Int32)) <<< ((6 : Int32) &&& 31)) ||| (p1 &&& (63 : Int32))) < (128 : Int32) then (-1 : Int32) else (2 : Int32)))) else (if (p0 &&& (240 : Int32)) = (224 : Int32) then (if p4 < (3 : Int32) then (-1 : Int32) else (if (own_cont p1) = (0 : Int32) then (-1 : Int32) else (if (own_cont p2) = (0 : Int32) then (-1 : Int32) else (if ((((p0 &&& (15 : Int32)) <<< ((12 : Int32) &&& 31)) ||| ((p1 &&& (63 : Int32)) <<< ((6 : Int32) &&& 31))) ||| (p2 &&& (63 : Int32))) < (2048 : Int32) then (-1 : Int32) else (if ((((p0 &&& (15 : Int32)) <<< ((12 : Int32) &&& 31)) ||| ((p1 &&& (63 : Int32)) <<< ((6 : Int32) &&& 31))) ||| (p2 &&& (63 : Int32))) < (55296 : Int32) then (3 : Int32) else (if (57343 : Int32) < ((((p0 &&& (15 : Int32)) <<< ((12 : Int32) &&& 31)) ||| ((p1 &&& (63 : Int32)) <<< ((6 : Int32) &&& 31))) ||| (p2 &&& (63 : Int32))) then (3 : Int32) else (-1 : Int32))))))) else (if (p0 &&& (248 : Int32)) = (240 : Int32) then (if p4 < (4 : Int32) then (-1 : Int32) else (if (own_cont p1) = (0 : Int32) then (-1 : Int32) else (if (own_cont p2) = (0 : Int32) then (-1 : Int32) else (if (own_cont p3) = (0 : Int32) then (-1 : Int32) else (if (((((p0 &&& (7 : Int32)) <<< ((18 : Int32) &&& 31)) ||| ((p1 &&& (63 : Int32)) <<< ((12 : Int32) &&& 31))) ||| ((p2 &&& (63 : Int32)) <<< ((6 : Int32) &&& 31))) ||| (p3 &&& (63 : Int32))) < (65536 : Int32) then (-1 : Int32) else (if (1114111 : Int32) < (((((p0 &&& (7 : Int32)) <<< ((18 : Int32) &&& 31)) ||| ((p1 &&& (63 : Int32)) <<< ((12 : Int32) &&& 31))) ||| ((p2 &&& (63 : Int32)) <<< ((6 : Int32) &&& 31))) ||| (p3 &&& (63 : Int32))) then (-1 : Int32) else (4 : Int32))))))) else (-1 : Int32))))
theorem d2_0 : decode method_4_code 0 = .ok (.iload_n 0, 1) := by decide +kernel
theorem d2_1 : decode method_4_code 1 = .ok (.sipush 224, 3) := by decide +kernel
theorem d2_4 : decode method_4_code 4 = .ok (.iand, 1) := by decide +kernel
theorem d2_5 : decode method_4_code 5 = .ok (.sipush 192, 3) := by decide +kernel
theorem d2_8 : decode method_4_code 8 = .ok (.if_icmp .ne 9, 3) := by decide +kernel
theorem d2_11 : decode method_4_code 11 = .ok (.iconst 2, 1) := by decide +kernel
theorem d2_12 : decode method_4_code 12 = .ok (.istore 5, 2) := by decide +kernel
theorem d2_14 : decode method_4_code 14 = .ok (.goto 39, 3) := by decide +kernel
theorem d2_17 : decode method_4_code 17 = .ok (.iload_n 0, 1) := by decide +kernel
theorem d2_18 : decode method_4_code 18 = .ok (.sipush 240, 3) := by decide +kernel
theorem d2_21 : decode method_4_code 21 = .ok (.iand, 1) := by decide +kernel
theorem d2_22 : decode method_4_code 22 = .ok (.sipush 224, 3) := by decide +kernel
theorem d2_25 : decode method_4_code 25 = .ok (.if_icmp .ne 9, 3) := by decide +kernel
theorem d2_28 : decode method_4_code 28 = .ok (.iconst 3, 1) := by decide +kernel
theorem d2_29 : decode method_4_code 29 = .ok (.istore 5, 2) := by decide +kernel
theorem d2_31 : decode method_4_code 31 = .ok (.goto 22, 3) := by decide +kernel
theorem d2_34 : decode method_4_code 34 = .ok (.iload_n 0, 1) := by decide +kernel
theorem d2_35 : decode method_4_code 35 = .ok (.sipush 248, 3) := by decide +kernel
theorem d2_38 : decode method_4_code 38 = .ok (.iand, 1) := by decide +kernel
theorem d2_39 : decode method_4_code 39 = .ok (.sipush 240, 3) := by decide +kernel
theorem d2_42 : decode method_4_code 42 = .ok (.if_icmp .ne 9, 3) := by decide +kernel
theorem d2_45 : decode method_4_code 45 = .ok (.iconst 4, 1) := by decide +kernel
theorem d2_46 : decode method_4_code 46 = .ok (.istore 5, 2) := by decide +kernel
theorem d2_48 : decode method_4_code 48 = .ok (.goto 5, 3) := by decide +kernel
theorem d2_51 : decode method_4_code 51 = .ok (.iconst (-1), 1) := by decide +kernel
theorem d2_52 : decode method_4_code 52 = .ok (.ireturn, 1) := by decide +kernel
theorem d2_53 : decode method_4_code 53 = .ok (.iload 5, 2) := by decide +kernel
theorem d2_55 : decode method_4_code 55 = .ok (.iload 4, 2) := by decide +kernel
theorem d2_57 : decode method_4_code 57 = .ok (.if_icmp .le 5, 3) := by decide +kernel
theorem d2_60 : decode method_4_code 60 = .ok (.iconst (-1), 1) := by decide +kernel
theorem d2_61 : decode method_4_code 61 = .ok (.ireturn, 1) := by decide +kernel
theorem d2_62 : decode method_4_code 62 = .ok (.iload_n 1, 1) := by decide +kernel
theorem d2_63 : decode method_4_code 63 = .ok (.invokestatic 20, 3) := by decide +kernel
theorem d2_66 : decode method_4_code 66 = .ok (.ifCond .ne 5, 3) := by decide +kernel
theorem d2_69 : decode method_4_code 69 = .ok (.iconst (-1), 1) := by decide +kernel
theorem d2_70 : decode method_4_code 70 = .ok (.ireturn, 1) := by decide +kernel
theorem d2_71 : decode method_4_code 71 = .ok (.iload 5, 2) := by decide +kernel
theorem d2_73 : decode method_4_code 73 = .ok (.iconst 3, 1) := by decide +kernel
theorem d2_74 : decode method_4_code 74 = .ok (.if_icmp .lt 12, 3) := by decide +kernel
theorem d2_77 : decode method_4_code 77 = .ok (.iload_n 2, 1) := by decide +kernel
theorem d2_78 : decode method_4_code 78 = .ok (.invokestatic 20, 3) := by decide +kernel
theorem d2_81 : decode method_4_code 81 = .ok (.ifCond .ne 5, 3) := by decide +kernel
theorem d2_84 : decode method_4_code 84 = .ok (.iconst (-1), 1) := by decide +kernel
theorem d2_85 : decode method_4_code 85 = .ok (.ireturn, 1) := by decide +kernel
theorem d2_86 : decode method_4_code 86 = .ok (.iload 5, 2) := by decide +kernel
theorem d2_88 : decode method_4_code 88 = .ok (.iconst 4, 1) := by decide +kernel
theorem d2_89 : decode method_4_code 89 = .ok (.if_icmp .ne 12, 3) := by decide +kernel
theorem d2_92 : decode method_4_code 92 = .ok (.iload_n 3, 1) := by decide +kernel
theorem d2_93 : decode method_4_code 93 = .ok (.invokestatic 20, 3) := by decide +kernel
theorem d2_96 : decode method_4_code 96 = .ok (.ifCond .ne 5, 3) := by decide +kernel
theorem d2_99 : decode method_4_code 99 = .ok (.iconst (-1), 1) := by decide +kernel
theorem d2_100 : decode method_4_code 100 = .ok (.ireturn, 1) := by decide +kernel
theorem d2_101 : decode method_4_code 101 = .ok (.iload 5, 2) := by decide +kernel
theorem d2_103 : decode method_4_code 103 = .ok (.iconst 2, 1) := by decide +kernel
theorem d2_104 : decode method_4_code 104 = .ok (.if_icmp .ne 31, 3) := by decide +kernel
theorem d2_107 : decode method_4_code 107 = .ok (.iload_n 0, 1) := by decide +kernel
theorem d2_108 : decode method_4_code 108 = .ok (.bipush 31, 2) := by decide +kernel
theorem d2_110 : decode method_4_code 110 = .ok (.iand, 1) := by decide +kernel
theorem d2_111 : decode method_4_code 111 = .ok (.bipush 6, 2) := by decide +kernel
theorem d2_113 : decode method_4_code 113 = .ok (.ishl, 1) := by decide +kernel
theorem d2_114 : decode method_4_code 114 = .ok (.iload_n 1, 1) := by decide +kernel
theorem d2_115 : decode method_4_code 115 = .ok (.bipush 63, 2) := by decide +kernel
theorem d2_117 : decode method_4_code 117 = .ok (.iand, 1) := by decide +kernel
theorem d2_118 : decode method_4_code 118 = .ok (.ior, 1) := by decide +kernel
theorem d2_119 : decode method_4_code 119 = .ok (.istore 6, 2) := by decide +kernel
theorem d2_121 : decode method_4_code 121 = .ok (.iload 6, 2) := by decide +kernel
theorem d2_123 : decode method_4_code 123 = .ok (.sipush 128, 3) := by decide +kernel
theorem d2_126 : decode method_4_code 126 = .ok (.if_icmp .lt 7, 3) := by decide +kernel
theorem d2_129 : decode method_4_code 129 = .ok (.iconst 2, 1) := by decide +kernel
theorem d2_130 : decode method_4_code 130 = .ok (.goto 4, 3) := by decide +kernel
theorem d2_133 : decode method_4_code 133 = .ok (.iconst (-1), 1) := by decide +kernel
theorem d2_134 : decode method_4_code 134 = .ok (.ireturn, 1) := by decide +kernel
theorem d2_135 : decode method_4_code 135 = .ok (.iload 5, 2) := by decide +kernel
theorem d2_137 : decode method_4_code 137 = .ok (.iconst 3, 1) := by decide +kernel
theorem d2_138 : decode method_4_code 138 = .ok (.if_icmp .ne 53, 3) := by decide +kernel
theorem d2_141 : decode method_4_code 141 = .ok (.iload_n 0, 1) := by decide +kernel
theorem d2_142 : decode method_4_code 142 = .ok (.bipush 15, 2) := by decide +kernel
theorem d2_144 : decode method_4_code 144 = .ok (.iand, 1) := by decide +kernel
theorem d2_145 : decode method_4_code 145 = .ok (.bipush 12, 2) := by decide +kernel
theorem d2_147 : decode method_4_code 147 = .ok (.ishl, 1) := by decide +kernel
theorem d2_148 : decode method_4_code 148 = .ok (.iload_n 1, 1) := by decide +kernel
theorem d2_149 : decode method_4_code 149 = .ok (.bipush 63, 2) := by decide +kernel
theorem d2_151 : decode method_4_code 151 = .ok (.iand, 1) := by decide +kernel
theorem d2_152 : decode method_4_code 152 = .ok (.bipush 6, 2) := by decide +kernel
theorem d2_154 : decode method_4_code 154 = .ok (.ishl, 1) := by decide +kernel
theorem d2_155 : decode method_4_code 155 = .ok (.ior, 1) := by decide +kernel
theorem d2_156 : decode method_4_code 156 = .ok (.iload_n 2, 1) := by decide +kernel
theorem d2_157 : decode method_4_code 157 = .ok (.bipush 63, 2) := by decide +kernel
theorem d2_159 : decode method_4_code 159 = .ok (.iand, 1) := by decide +kernel
theorem d2_160 : decode method_4_code 160 = .ok (.ior, 1) := by decide +kernel
theorem d2_161 : decode method_4_code 161 = .ok (.istore 6, 2) := by decide +kernel
theorem d2_163 : decode method_4_code 163 = .ok (.iload 6, 2) := by decide +kernel
theorem d2_165 : decode method_4_code 165 = .ok (.sipush 2048, 3) := by decide +kernel
theorem d2_168 : decode method_4_code 168 = .ok (.if_icmp .lt 21, 3) := by decide +kernel
theorem d2_171 : decode method_4_code 171 = .ok (.iload 6, 2) := by decide +kernel
theorem d2_173 : decode method_4_code 173 = .ok (.ldc 24, 2) := by decide +kernel
theorem d2_175 : decode method_4_code 175 = .ok (.if_icmp .lt 10, 3) := by decide +kernel
theorem d2_178 : decode method_4_code 178 = .ok (.iload 6, 2) := by decide +kernel
theorem d2_180 : decode method_4_code 180 = .ok (.ldc 25, 2) := by decide +kernel
theorem d2_182 : decode method_4_code 182 = .ok (.if_icmp .le 7, 3) := by decide +kernel
theorem d2_185 : decode method_4_code 185 = .ok (.iconst 3, 1) := by decide +kernel
theorem d2_186 : decode method_4_code 186 = .ok (.goto 4, 3) := by decide +kernel
theorem d2_189 : decode method_4_code 189 = .ok (.iconst (-1), 1) := by decide +kernel
theorem d2_190 : decode method_4_code 190 = .ok (.ireturn, 1) := by decide +kernel
theorem d2_191 : decode method_4_code 191 = .ok (.iload_n 0, 1) := by decide +kernel
theorem d2_192 : decode method_4_code 192 = .ok (.bipush 7, 2) := by decide +kernel
theorem d2_194 : decode method_4_code 194 = .ok (.iand, 1) := by decide +kernel
theorem d2_195 : decode method_4_code 195 = .ok (.bipush 18, 2) := by decide +kernel
theorem d2_197 : decode method_4_code 197 = .ok (.ishl, 1) := by decide +kernel
theorem d2_198 : decode method_4_code 198 = .ok (.iload_n 1, 1) := by decide +kernel
theorem d2_199 : decode method_4_code 199 = .ok (.bipush 63, 2) := by decide +kernel
theorem d2_201 : decode method_4_code 201 = .ok (.iand, 1) := by decide +kernel
theorem d2_202 : decode method_4_code 202 = .ok (.bipush 12, 2) := by decide +kernel
theorem d2_204 : decode method_4_code 204 = .ok (.ishl, 1) := by decide +kernel
theorem d2_205 : decode method_4_code 205 = .ok (.ior, 1) := by decide +kernel
theorem d2_206 : decode method_4_code 206 = .ok (.iload_n 2, 1) := by decide +kernel
theorem d2_207 : decode method_4_code 207 = .ok (.bipush 63, 2) := by decide +kernel
theorem d2_209 : decode method_4_code 209 = .ok (.iand, 1) := by decide +kernel
theorem d2_210 : decode method_4_code 210 = .ok (.bipush 6, 2) := by decide +kernel
theorem d2_212 : decode method_4_code 212 = .ok (.ishl, 1) := by decide +kernel
theorem d2_213 : decode method_4_code 213 = .ok (.ior, 1) := by decide +kernel
theorem d2_214 : decode method_4_code 214 = .ok (.iload_n 3, 1) := by decide +kernel
theorem d2_215 : decode method_4_code 215 = .ok (.bipush 63, 2) := by decide +kernel
theorem d2_217 : decode method_4_code 217 = .ok (.iand, 1) := by decide +kernel
theorem d2_218 : decode method_4_code 218 = .ok (.ior, 1) := by decide +kernel
theorem d2_219 : decode method_4_code 219 = .ok (.istore 6, 2) := by decide +kernel
theorem d2_221 : decode method_4_code 221 = .ok (.iload 6, 2) := by decide +kernel
theorem d2_223 : decode method_4_code 223 = .ok (.ldc 26, 2) := by decide +kernel
theorem d2_225 : decode method_4_code 225 = .ok (.if_icmp .lt 14, 3) := by decide +kernel
theorem d2_228 : decode method_4_code 228 = .ok (.iload 6, 2) := by decide +kernel
theorem d2_230 : decode method_4_code 230 = .ok (.ldc 27, 2) := by decide +kernel
theorem d2_232 : decode method_4_code 232 = .ok (.if_icmp .gt 7, 3) := by decide +kernel
theorem d2_235 : decode method_4_code 235 = .ok (.iconst 4, 1) := by decide +kernel
theorem d2_236 : decode method_4_code 236 = .ok (.goto 4, 3) := by decide +kernel
theorem d2_239 : decode method_4_code 239 = .ok (.iconst (-1), 1) := by decide +kernel
theorem d2_240 : decode method_4_code 240 = .ok (.ireturn, 1) := by decide +kernel
theorem pn_rm2 : plainName "com/example/graphkind/graphkind/Utf8LengthPinLaw" = true := by first | (simp [plainName, overriddenIn]; done) | decide +kernel
theorem pd2_0 : parseMethodDescriptor "(I)Z" = some ⟨[.int], some .boolean⟩ := by decide +kernel
theorem ef_rm2 (m : MethodId) (p0 : Int32) (p1 : Int32) (p2 : Int32) (p3 : Int32) (p4 : Int32) : entryFrame m #[(.int p0), (.int p1), (.int p2), (.int p3), (.int p4)] 7 = mkF m 0 #[.val (.int p0), .val (.int p1), .val (.int p2), .val (.int p3), .val (.int p4), .unset, .unset] [] := by first | (simp [entryFrame, mkF, argsToLocals, Value.category]; done) | rfl
def Q_rm2 (Z : State) (p0 : Int32) (p1 : Int32) (p2 : Int32) (p3 : Int32) (p4 : Int32) (h0 : Heap) (n0 : Nat) (v : Option Value) (h : Heap) (L : List Loc) : Prop := v = some (.int (own_exp p0 p1 p2 p3 p4)) ∧ Fr n0 L ∧ h = h0
set_option maxRecDepth 65536 in
set_option maxHeartbeats 40000000 in
theorem rm2 (l : Launch) (Z : State) (a0 : Array Value) (hw : ∀ d ∈ tables_1, d.before a0 Z = true) (ws : List Jvm.Cond) (p0 : Int32) (p1 : Int32) (p2 : Int32) (p3 : Int32) (p4 : Int32) (h0 : Heap) (n0 : Nat) (Z0 : n0 ≤ h0.size) :
    MetFree l (⟨"com/example/graphkind/graphkind/Utf8LengthPinLaw", "expected", "(IIIII)I"⟩ : MethodName) (head1 (Jvm.Cond.code (⟨"com/example/graphkind/graphkind/Utf8LengthPinLaw", "expected", "(IIIII)I"⟩ : MethodName) method_4_code 7 (some .int) :: ws) ({ frames := 1, cells := 0, slots := 0, locals := 12 } : Room)) (fun a U => a = #[(.int p0), (.int p1), (.int p2), (.int p3), (.int p4)] ∧ Z.Warmed39 U.vm ∧ U.heap = h0) (fun _ _ _ _ _ => True) (fun _ U o U' => ∃ v L, o = .returned v ∧ Q_rm2 Z p0 p1 p2 p3 p4 h0 n0 v U'.heap L ∧ FrameEnd U o U' L ({ frames := 1, cells := 0, slots := 0, locals := 12 } : Room).cells ({ frames := 1, cells := 0, slots := 0, locals := 12 } : Room).slots) := by
  refine MetFree.of_bodySF (plainFor_of_name pn_rm2) hisR ?_
  intro p e s m args below meth c s₁ Bd hml0 hP hK
  obtain ⟨rfl, hZ, hh⟩ := hP
  have hx := Bd.exec
  have hby := Bd.bytes
  have hml : c.maxLocals = 7 := hml0
  have hown : s.vm.findClass "com/example/graphkind/graphkind/Utf8LengthPinLaw" = some m.cls := findClass_of_methodNamed Bd.named
  have hnm := (name_of_methodNamed Bd.named Bd.method).1
  have X0 : Stand p l e ({ frames := 1, cells := 0, slots := 0, locals := 12 } : Room) s m #[(.int p0), (.int p1), (.int p2), (.int p3), (.int p4)] below meth c s₁ [] 0 0 := Stand.of_body Bd
  have e0 : s₁.heap = h0 := by rw [← hh, Bd.state]; rfl
  have N0 := Fr.nil n0
  have K0 := Keep.refl h0 []
  have go0 : Go p e below (s₁.setTop (entryFrame m #[(.int p0), (.int p1), (.int p2), (.int p3), (.int p4)] 7)) (s₁.setTop (mkF m 0 #[.val (.int p0), .val (.int p1), .val (.int p2), .val (.int p3), .val (.int p4), .unset, .unset] [])) := fun t k => castTop (ef_rm2 m p0 p1 p2 p3 p4) k
  have go2 := go0.step (C := s₁.setTop (mkF m 8 #[.val (.int p0), .val (.int p1), .val (.int p2), .val (.int p3), .val (.int p4), .unset, .unset] [(.int (192 : Int32)), (.int (p0 &&& (224 : Int32)))])) (fun t k => by
    show Steps p.tables e below (s₁.setTop (mkF m 0 #[.val (.int p0), .val (.int p1), .val (.int p2), .val (.int p3), .val (.int p4), .unset, .unset] [])) _
    refine XS.iloadN X0.here hx rfl (hb hby d2_0) rfl ?_
    show Steps p.tables e below (s₁.setTop (mkF m 1 #[.val (.int p0), .val (.int p1), .val (.int p2), .val (.int p3), .val (.int p4), .unset, .unset] [(.int p0)])) _
    refine XS.sipush X0.here hx rfl (hb hby d2_1) ?_
    show Steps p.tables e below (s₁.setTop (mkF m 4 #[.val (.int p0), .val (.int p1), .val (.int p2), .val (.int p3), .val (.int p4), .unset, .unset] [(.int (224 : Int32)), (.int p0)])) _
    refine XS.iand X0.here hx rfl (hb hby d2_4) rfl ?_
    show Steps p.tables e below (s₁.setTop (mkF m 5 #[.val (.int p0), .val (.int p1), .val (.int p2), .val (.int p3), .val (.int p4), .unset, .unset] [(.int (p0 &&& (224 : Int32)))])) _
    refine XS.sipush X0.here hx rfl (hb hby d2_5) ?_
    exact k)
  by_cases hc1 : (p0 &&& (224 : Int32)) = (192 : Int32)
  · skip
    have go4 := go2.step (C := s₁.setTop (mkF m 57 #[.val (.int p0), .val (.int p1), .val (.int p2), .val (.int p3), .val (.int p4), .val (.int (2 : Int32)), .unset] [(.int p4), (.int (2 : Int32))])) (fun t k => by
      show Steps p.tables e below (s₁.setTop (mkF m 8 #[.val (.int p0), .val (.int p1), .val (.int p2), .val (.int p3), .val (.int p4), .unset, .unset] [(.int (192 : Int32)), (.int (p0 &&& (224 : Int32)))])) _
      refine XS.icmpNo X0.here hx rfl (hb hby d2_8) rfl (teq hc1).2 ?_
      show Steps p.tables e below (s₁.setTop (mkF m 11 #[.val (.int p0), .val (.int p1), .val (.int p2), .val (.int p3), .val (.int p4), .unset, .unset] [])) _
      refine XS.iconst X0.here hx rfl (hb hby d2_11) ?_
      show Steps p.tables e below (s₁.setTop (mkF m 12 #[.val (.int p0), .val (.int p1), .val (.int p2), .val (.int p3), .val (.int p4), .unset, .unset] [(.int (2 : Int32))])) _
      refine XS.istore X0.here hx rfl (hb hby d2_12) rfl (l' := #[.val (.int p0), .val (.int p1), .val (.int p2), .val (.int p3), .val (.int p4), .val (.int (2 : Int32)), .unset]) rfl ?_
      show Steps p.tables e below (s₁.setTop (mkF m 14 #[.val (.int p0), .val (.int p1), .val (.int p2), .val (.int p3), .val (.int p4), .val (.int (2 : Int32)), .unset] [])) _
      refine XS.goto X0.here hx rfl (pc0 := 14) (pc' := 53) rfl (hb hby d2_14) (by decide) (by decide) ?_
      show Steps p.tables e below (s₁.setTop (mkF m 53 #[.val (.int p0), .val (.int p1), .val (.int p2), .val (.int p3), .val (.int p4), .val (.int (2 : Int32)), .unset] [])) _
      refine XS.iload X0.here hx rfl (hb hby d2_53) rfl ?_
      show Steps p.tables e below (s₁.setTop (mkF m 55 #[.val (.int p0), .val (.int p1), .val (.int p2), .val (.int p3), .val (.int p4), .val (.int (2 : Int32)), .unset] [(.int (2 : Int32))])) _
      refine XS.iload X0.here hx rfl (hb hby d2_55) rfl ?_
      exact k)
    by_cases hc3 : p4 < (2 : Int32)
    · skip
      have go5 := go4.step (C := s₁.setTop (mkF m 61 #[.val (.int p0), .val (.int p1), .val (.int p2), .val (.int p3), .val (.int p4), .val (.int (2 : Int32)), .unset] [(.int (-1 : Int32))])) (fun t k => by
        show Steps p.tables e below (s₁.setTop (mkF m 57 #[.val (.int p0), .val (.int p1), .val (.int p2), .val (.int p3), .val (.int p4), .val (.int (2 : Int32)), .unset] [(.int p4), (.int (2 : Int32))])) _
        refine XS.icmpNo X0.here hx rfl (hb hby d2_57) rfl (tlt hc3).2.2.2 ?_
        show Steps p.tables e below (s₁.setTop (mkF m 60 #[.val (.int p0), .val (.int p1), .val (.int p2), .val (.int p3), .val (.int p4), .val (.int (2 : Int32)), .unset] [])) _
        refine XS.iconst X0.here hx rfl (hb hby d2_60) ?_
        exact k)
      obtain ⟨fs, hr, hrun, hended, hW, hsame⟩ := X0.leave (v := some (.int (-1 : Int32))) (fun h => by rw [Bd.returns] at h; cases h)
      refine ⟨_, _, go5 _ ?_, hrun, hended, _, _, rfl, ?_, ⟨_, rfl⟩, hW, hsame.mono (by decide) (by decide)⟩
      · exact own_retI X0 hx Bd.returns (hb hby d2_61) hr
      · show Q_rm2 Z p0 p1 p2 p3 p4 h0 n0 _ s₁.heap _
        rw [e0]
        exact ⟨by unfold own_exp; simp only [if_pos hc1, if_pos hc3], N0, rfl⟩
    · skip
      have go6 := go4.step (C := s₁.setTop (mkF m 63 #[.val (.int p0), .val (.int p1), .val (.int p2), .val (.int p3), .val (.int p4), .val (.int (2 : Int32)), .unset] [(.int p1)])) (fun t k => by
        show Steps p.tables e below (s₁.setTop (mkF m 57 #[.val (.int p0), .val (.int p1), .val (.int p2), .val (.int p3), .val (.int p4), .val (.int (2 : Int32)), .unset] [(.int p4), (.int (2 : Int32))])) _
        refine XS.icmpYes X0.here hx rfl (pc0 := 57) (pc' := 62) rfl (hb hby d2_57) rfl (flt hc3).2.2.2 (by decide) (by decide) ?_
        show Steps p.tables e below (s₁.setTop (mkF m 62 #[.val (.int p0), .val (.int p1), .val (.int p2), .val (.int p3), .val (.int p4), .val (.int (2 : Int32)), .unset] [])) _
        refine XS.iloadN X0.here hx rfl (hb hby d2_62) rfl ?_
        exact k)
      obtain ⟨_, _, ⟨T7, L7, k7, n7⟩, -, X7, ⟨Lc7, hQ7, l7, y7, z7⟩, st7⟩ := Jvm.LawKit.callS X0 hx (y := (⟨"com/example/graphkind/graphkind/Utf8LengthPinLaw", "cont", "(I)Z"⟩ : MethodName)) hown (mvT hZ (hw _ (List.mem_of_getElem? (i := 10) rfl))) (mvT hZ (hw _ (List.mem_of_getElem? (i := 11) rfl))) (mvT hZ (hw _ (List.mem_of_getElem? (i := 8) rfl))) (mvT hZ (hw _ (List.mem_of_getElem? (i := 12) rfl))) (by decide) (backOf (W := 0) (rm3 l Z a0 hw [] p1 h0 n0 Z0 ) hZ (hw _ (List.mem_of_getElem? (i := 12) rfl)) (hw _ (List.mem_of_getElem? (i := 8) rfl)) (by decide) (by decide)) (g := (mkF m 63 #[.val (.int p0), .val (.int p1), .val (.int p2), .val (.int p3), .val (.int p4), .val (.int (2 : Int32)), .unset] [(.int p1)])) rfl (by rw [hml]; rfl) (argsL := [(.int p1)]) (rest := []) (lenOf pd2_0 rfl) rfl (by show 2 * 0 + _ ≤ _; exact Nat.le_of_eq rfl) (hb hby d2_63) (fun _ _ => ⟨rfl, e0, (by decide : 0 + 0 ≤ _), (by decide : 0 + 0 ≤ _)⟩)
      dsimp only [Pt.U, Pt.locs, Pt.cells, Pt.slots] at X7 l7 y7 z7 st7 hQ7
      rw [l7, y7, z7] at X7
      obtain ⟨rfl, N7q, e7⟩ := hQ7
      have N7 := Fr.app N0 N7q
      have go7 := go6.step (C := T7.setTop (mkF m 66 #[.val (.int p0), .val (.int p1), .val (.int p2), .val (.int p3), .val (.int p4), .val (.int (2 : Int32)), .unset] [(.int (own_cont p1))])) (fun t k => st7 t k)
      by_cases hc8 : (own_cont p1) = (0 : Int32)
      · skip
        have go9 := go7.step (C := T7.setTop (mkF m 70 #[.val (.int p0), .val (.int p1), .val (.int p2), .val (.int p3), .val (.int p4), .val (.int (2 : Int32)), .unset] [(.int (-1 : Int32))])) (fun t k => by
          show Steps p.tables e below (T7.setTop (mkF m 66 #[.val (.int p0), .val (.int p1), .val (.int p2), .val (.int p3), .val (.int p4), .val (.int (2 : Int32)), .unset] [(.int (own_cont p1))])) _
          refine XS.ifNo X7.here hx rfl (hb hby d2_66) rfl ((if0 _ _).trans (teq hc8).2) ?_
          show Steps p.tables e below (T7.setTop (mkF m 69 #[.val (.int p0), .val (.int p1), .val (.int p2), .val (.int p3), .val (.int p4), .val (.int (2 : Int32)), .unset] [])) _
          refine XS.iconst X7.here hx rfl (hb hby d2_69) ?_
          exact k)
        obtain ⟨fs, hr, hrun, hended, hW, hsame⟩ := X7.leave (v := some (.int (-1 : Int32))) (fun h => by rw [Bd.returns] at h; cases h)
        refine ⟨_, _, go9 _ ?_, hrun, hended, _, _, rfl, ?_, ⟨_, rfl⟩, hW, hsame.mono (by decide) (by decide)⟩
        · exact own_retI X7 hx Bd.returns (hb hby d2_70) hr
        · show Q_rm2 Z p0 p1 p2 p3 p4 h0 n0 _ T7.heap _
          rw [e7]
          exact ⟨by unfold own_exp; simp only [if_pos hc1, if_neg hc3, if_pos hc8], N7, rfl⟩
      · skip
        have go14 := go7.step (C := T7.setTop (mkF m 126 #[.val (.int p0), .val (.int p1), .val (.int p2), .val (.int p3), .val (.int p4), .val (.int (2 : Int32)), .val (.int (((p0 &&& (31 : Int32)) <<< ((6 : Int32) &&& 31)) ||| (p1 &&& (63 : Int32))))] [(.int (128 : Int32)), (.int (((p0 &&& (31 : Int32)) <<< ((6 : Int32) &&& 31)) ||| (p1 &&& (63 : Int32))))])) (fun t k => by
          show Steps p.tables e below (T7.setTop (mkF m 66 #[.val (.int p0), .val (.int p1), .val (.int p2), .val (.int p3), .val (.int p4), .val (.int (2 : Int32)), .unset] [(.int (own_cont p1))])) _
          refine XS.ifYes X7.here hx rfl (pc0 := 66) (pc' := 71) rfl (hb hby d2_66) rfl ((if0 _ _).trans (feq hc8).2) (by decide) (by decide) ?_
          show Steps p.tables e below (T7.setTop (mkF m 71 #[.val (.int p0), .val (.int p1), .val (.int p2), .val (.int p3), .val (.int p4), .val (.int (2 : Int32)), .unset] [])) _
          refine XS.iload X7.here hx rfl (hb hby d2_71) rfl ?_
          show Steps p.tables e below (T7.setTop (mkF m 73 #[.val (.int p0), .val (.int p1), .val (.int p2), .val (.int p3), .val (.int p4), .val (.int (2 : Int32)), .unset] [(.int (2 : Int32))])) _
          refine XS.iconst X7.here hx rfl (hb hby d2_73) ?_
          show Steps p.tables e below (T7.setTop (mkF m 74 #[.val (.int p0), .val (.int p1), .val (.int p2), .val (.int p3), .val (.int p4), .val (.int (2 : Int32)), .unset] [(.int (3 : Int32)), (.int (2 : Int32))])) _
          refine XS.icmpYes X7.here hx rfl (pc0 := 74) (pc' := 86) rfl (hb hby d2_74) rfl (tlt ((by decide) : (2 : Int32) < (3 : Int32))).1 (by decide) (by decide) ?_
          show Steps p.tables e below (T7.setTop (mkF m 86 #[.val (.int p0), .val (.int p1), .val (.int p2), .val (.int p3), .val (.int p4), .val (.int (2 : Int32)), .unset] [])) _
          refine XS.iload X7.here hx rfl (hb hby d2_86) rfl ?_
          show Steps p.tables e below (T7.setTop (mkF m 88 #[.val (.int p0), .val (.int p1), .val (.int p2), .val (.int p3), .val (.int p4), .val (.int (2 : Int32)), .unset] [(.int (2 : Int32))])) _
          refine XS.iconst X7.here hx rfl (hb hby d2_88) ?_
          show Steps p.tables e below (T7.setTop (mkF m 89 #[.val (.int p0), .val (.int p1), .val (.int p2), .val (.int p3), .val (.int p4), .val (.int (2 : Int32)), .unset] [(.int (4 : Int32)), (.int (2 : Int32))])) _
          refine XS.icmpYes X7.here hx rfl (pc0 := 89) (pc' := 101) rfl (hb hby d2_89) rfl (feq ((by decide) : ¬ ((2 : Int32) = (4 : Int32)))).2 (by decide) (by decide) ?_
          show Steps p.tables e below (T7.setTop (mkF m 101 #[.val (.int p0), .val (.int p1), .val (.int p2), .val (.int p3), .val (.int p4), .val (.int (2 : Int32)), .unset] [])) _
          refine XS.iload X7.here hx rfl (hb hby d2_101) rfl ?_
          show Steps p.tables e below (T7.setTop (mkF m 103 #[.val (.int p0), .val (.int p1), .val (.int p2), .val (.int p3), .val (.int p4), .val (.int (2 : Int32)), .unset] [(.int (2 : Int32))])) _
          refine XS.iconst X7.here hx rfl (hb hby d2_103) ?_
          show Steps p.tables e below (T7.setTop (mkF m 104 #[.val (.int p0), .val (.int p1), .val (.int p2), .val (.int p3), .val (.int p4), .val (.int (2 : Int32)), .unset] [(.int (2 : Int32)), (.int (2 : Int32))])) _
          refine XS.icmpNo X7.here hx rfl (hb hby d2_104) rfl (teq ((by decide) : (2 : Int32) = (2 : Int32))).2 ?_
          show Steps p.tables e below (T7.setTop (mkF m 107 #[.val (.int p0), .val (.int p1), .val (.int p2), .val (.int p3), .val (.int p4), .val (.int (2 : Int32)), .unset] [])) _
          refine XS.iloadN X7.here hx rfl (hb hby d2_107) rfl ?_
          show Steps p.tables e below (T7.setTop (mkF m 108 #[.val (.int p0), .val (.int p1), .val (.int p2), .val (.int p3), .val (.int p4), .val (.int (2 : Int32)), .unset] [(.int p0)])) _
          refine XS.bipush X7.here hx rfl (hb hby d2_108) ?_
          show Steps p.tables e below (T7.setTop (mkF m 110 #[.val (.int p0), .val (.int p1), .val (.int p2), .val (.int p3), .val (.int p4), .val (.int (2 : Int32)), .unset] [(.int (31 : Int32)), (.int p0)])) _
          refine XS.iand X7.here hx rfl (hb hby d2_110) rfl ?_
          show Steps p.tables e below (T7.setTop (mkF m 111 #[.val (.int p0), .val (.int p1), .val (.int p2), .val (.int p3), .val (.int p4), .val (.int (2 : Int32)), .unset] [(.int (p0 &&& (31 : Int32)))])) _
          refine XS.bipush X7.here hx rfl (hb hby d2_111) ?_
          show Steps p.tables e below (T7.setTop (mkF m 113 #[.val (.int p0), .val (.int p1), .val (.int p2), .val (.int p3), .val (.int p4), .val (.int (2 : Int32)), .unset] [(.int (6 : Int32)), (.int (p0 &&& (31 : Int32)))])) _
          refine XS.ishl X7.here hx rfl (hb hby d2_113) rfl ?_
          show Steps p.tables e below (T7.setTop (mkF m 114 #[.val (.int p0), .val (.int p1), .val (.int p2), .val (.int p3), .val (.int p4), .val (.int (2 : Int32)), .unset] [(.int ((p0 &&& (31 : Int32)) <<< ((6 : Int32) &&& 31)))])) _
          refine XS.iloadN X7.here hx rfl (hb hby d2_114) rfl ?_
          show Steps p.tables e below (T7.setTop (mkF m 115 #[.val (.int p0), .val (.int p1), .val (.int p2), .val (.int p3), .val (.int p4), .val (.int (2 : Int32)), .unset] [(.int p1), (.int ((p0 &&& (31 : Int32)) <<< ((6 : Int32) &&& 31)))])) _
          refine XS.bipush X7.here hx rfl (hb hby d2_115) ?_
          show Steps p.tables e below (T7.setTop (mkF m 117 #[.val (.int p0), .val (.int p1), .val (.int p2), .val (.int p3), .val (.int p4), .val (.int (2 : Int32)), .unset] [(.int (63 : Int32)), (.int p1), (.int ((p0 &&& (31 : Int32)) <<< ((6 : Int32) &&& 31)))])) _
          refine XS.iand X7.here hx rfl (hb hby d2_117) rfl ?_
          show Steps p.tables e below (T7.setTop (mkF m 118 #[.val (.int p0), .val (.int p1), .val (.int p2), .val (.int p3), .val (.int p4), .val (.int (2 : Int32)), .unset] [(.int (p1 &&& (63 : Int32))), (.int ((p0 &&& (31 : Int32)) <<< ((6 : Int32) &&& 31)))])) _
          refine XS.ior X7.here hx rfl (hb hby d2_118) rfl ?_
          show Steps p.tables e below (T7.setTop (mkF m 119 #[.val (.int p0), .val (.int p1), .val (.int p2), .val (.int p3), .val (.int p4), .val (.int (2 : Int32)), .unset] [(.int (((p0 &&& (31 : Int32)) <<< ((6 : Int32) &&& 31)) ||| (p1 &&& (63 : Int32))))])) _
          refine XS.istore X7.here hx rfl (hb hby d2_119) rfl (l' := #[.val (.int p0), .val (.int p1), .val (.int p2), .val (.int p3), .val (.int p4), .val (.int (2 : Int32)), .val (.int (((p0 &&& (31 : Int32)) <<< ((6 : Int32) &&& 31)) ||| (p1 &&& (63 : Int32))))]) rfl ?_
          show Steps p.tables e below (T7.setTop (mkF m 121 #[.val (.int p0), .val (.int p1), .val (.int p2), .val (.int p3), .val (.int p4), .val (.int (2 : Int32)), .val (.int (((p0 &&& (31 : Int32)) <<< ((6 : Int32) &&& 31)) ||| (p1 &&& (63 : Int32))))] [])) _
          refine XS.iload X7.here hx rfl (hb hby d2_121) rfl ?_
          show Steps p.tables e below (T7.setTop (mkF m 123 #[.val (.int p0), .val (.int p1), .val (.int p2), .val (.int p3), .val (.int p4), .val (.int (2 : Int32)), .val (.int (((p0 &&& (31 : Int32)) <<< ((6 : Int32) &&& 31)) ||| (p1 &&& (63 : Int32))))] [(.int (((p0 &&& (31 : Int32)) <<< ((6 : Int32) &&& 31)) ||| (p1 &&& (63 : Int32))))])) _
          refine XS.sipush X7.here hx rfl (hb hby d2_123) ?_
          exact k)
        by_cases hc13 : (((p0 &&& (31 : Int32)) <<< ((6 : Int32) &&& 31)) ||| (p1 &&& (63 : Int32))) < (128 : Int32)
        · skip
          have go15 := go14.step (C := T7.setTop (mkF m 134 #[.val (.int p0), .val (.int p1), .val (.int p2), .val (.int p3), .val (.int p4), .val (.int (2 : Int32)), .val (.int (((p0 &&& (31 : Int32)) <<< ((6 : Int32) &&& 31)) ||| (p1 &&& (63 : Int32))))] [(.int (-1 : Int32))])) (fun t k => by
            show Steps p.tables e below (T7.setTop (mkF m 126 #[.val (.int p0), .val (.int p1), .val (.int p2), .val (.int p3), .val (.int p4), .val (.int (2 : Int32)), .val (.int (((p0 &&& (31 : Int32)) <<< ((6 : Int32) &&& 31)) ||| (p1 &&& (63 : Int32))))] [(.int (128 : Int32)), (.int (((p0 &&& (31 : Int32)) <<< ((6 : Int32) &&& 31)) ||| (p1 &&& (63 : Int32))))])) _
            refine XS.icmpYes X7.here hx rfl (pc0 := 126) (pc' := 133) rfl (hb hby d2_126) rfl (tlt hc13).1 (by decide) (by decide) ?_
            show Steps p.tables e below (T7.setTop (mkF m 133 #[.val (.int p0), .val (.int p1), .val (.int p2), .val (.int p3), .val (.int p4), .val (.int (2 : Int32)), .val (.int (((p0 &&& (31 : Int32)) <<< ((6 : Int32) &&& 31)) ||| (p1 &&& (63 : Int32))))] [])) _
            refine XS.iconst X7.here hx rfl (hb hby d2_133) ?_
            exact k)
          obtain ⟨fs, hr, hrun, hended, hW, hsame⟩ := X7.leave (v := some (.int (-1 : Int32))) (fun h => by rw [Bd.returns] at h; cases h)
          refine ⟨_, _, go15 _ ?_, hrun, hended, _, _, rfl, ?_, ⟨_, rfl⟩, hW, hsame.mono (by decide) (by decide)⟩
          · exact own_retI X7 hx Bd.returns (hb hby d2_134) hr
          · show Q_rm2 Z p0 p1 p2 p3 p4 h0 n0 _ T7.heap _
            rw [e7]
            exact ⟨by unfold own_exp; simp only [if_pos hc1, if_neg hc3, if_neg hc8, if_pos hc13], N7, rfl⟩
        · skip
          have go16 := go14.step (C := T7.setTop (mkF m 134 #[.val (.int p0), .val (.int p1), .val (.int p2), .val (.int p3), .val (.int p4), .val (.int (2 : Int32)), .val (.int (((p0 &&& (31 : Int32)) <<< ((6 : Int32) &&& 31)) ||| (p1 &&& (63 : Int32))))] [(.int (2 : Int32))])) (fun t k => by
            show Steps p.tables e below (T7.setTop (mkF m 126 #[.val (.int p0), .val (.int p1), .val (.int p2), .val (.int p3), .val (.int p4), .val (.int (2 : Int32)), .val (.int (((p0 &&& (31 : Int32)) <<< ((6 : Int32) &&& 31)) ||| (p1 &&& (63 : Int32))))] [(.int (128 : Int32)), (.int (((p0 &&& (31 : Int32)) <<< ((6 : Int32) &&& 31)) ||| (p1 &&& (63 : Int32))))])) _
            refine XS.icmpNo X7.here hx rfl (hb hby d2_126) rfl (flt hc13).1 ?_
            show Steps p.tables e below (T7.setTop (mkF m 129 #[.val (.int p0), .val (.int p1), .val (.int p2), .val (.int p3), .val (.int p4), .val (.int (2 : Int32)), .val (.int (((p0 &&& (31 : Int32)) <<< ((6 : Int32) &&& 31)) ||| (p1 &&& (63 : Int32))))] [])) _
            refine XS.iconst X7.here hx rfl (hb hby d2_129) ?_
            show Steps p.tables e below (T7.setTop (mkF m 130 #[.val (.int p0), .val (.int p1), .val (.int p2), .val (.int p3), .val (.int p4), .val (.int (2 : Int32)), .val (.int (((p0 &&& (31 : Int32)) <<< ((6 : Int32) &&& 31)) ||| (p1 &&& (63 : Int32))))] [(.int (2 : Int32))])) _
            refine XS.goto X7.here hx rfl (pc0 := 130) (pc' := 134) rfl (hb hby d2_130) (by decide) (by decide) ?_
            exact k)
          obtain ⟨fs, hr, hrun, hended, hW, hsame⟩ := X7.leave (v := some (.int (2 : Int32))) (fun h => by rw [Bd.returns] at h; cases h)
          refine ⟨_, _, go16 _ ?_, hrun, hended, _, _, rfl, ?_, ⟨_, rfl⟩, hW, hsame.mono (by decide) (by decide)⟩
          · exact own_retI X7 hx Bd.returns (hb hby d2_134) hr
          · show Q_rm2 Z p0 p1 p2 p3 p4 h0 n0 _ T7.heap _
            rw [e7]
            exact ⟨by unfold own_exp; simp only [if_pos hc1, if_neg hc3, if_neg hc8, if_neg hc13], N7, rfl⟩
  · skip
    have go18 := go2.step (C := s₁.setTop (mkF m 25 #[.val (.int p0), .val (.int p1), .val (.int p2), .val (.int p3), .val (.int p4), .unset, .unset] [(.int (224 : Int32)), (.int (p0 &&& (240 : Int32)))])) (fun t k => by
      show Steps p.tables e below (s₁.setTop (mkF m 8 #[.val (.int p0), .val (.int p1), .val (.int p2), .val (.int p3), .val (.int p4), .unset, .unset] [(.int (192 : Int32)), (.int (p0 &&& (224 : Int32)))])) _
      refine XS.icmpYes X0.here hx rfl (pc0 := 8) (pc' := 17) rfl (hb hby d2_8) rfl (feq hc1).2 (by decide) (by decide) ?_
      show Steps p.tables e below (s₁.setTop (mkF m 17 #[.val (.int p0), .val (.int p1), .val (.int p2), .val (.int p3), .val (.int p4), .unset, .unset] [])) _
      refine XS.iloadN X0.here hx rfl (hb hby d2_17) rfl ?_
      show Steps p.tables e below (s₁.setTop (mkF m 18 #[.val (.int p0), .val (.int p1), .val (.int p2), .val (.int p3), .val (.int p4), .unset, .unset] [(.int p0)])) _
      refine XS.sipush X0.here hx rfl (hb hby d2_18) ?_
      show Steps p.tables e below (s₁.setTop (mkF m 21 #[.val (.int p0), .val (.int p1), .val (.int p2), .val (.int p3), .val (.int p4), .unset, .unset] [(.int (240 : Int32)), (.int p0)])) _
      refine XS.iand X0.here hx rfl (hb hby d2_21) rfl ?_
      show Steps p.tables e below (s₁.setTop (mkF m 22 #[.val (.int p0), .val (.int p1), .val (.int p2), .val (.int p3), .val (.int p4), .unset, .unset] [(.int (p0 &&& (240 : Int32)))])) _
      refine XS.sipush X0.here hx rfl (hb hby d2_22) ?_
      exact k)
    by_cases hc17 : (p0 &&& (240 : Int32)) = (224 : Int32)
    · skip
      have go20 := go18.step (C := s₁.setTop (mkF m 57 #[.val (.int p0), .val (.int p1), .val (.int p2), .val (.int p3), .val (.int p4), .val (.int (3 : Int32)), .unset] [(.int p4), (.int (3 : Int32))])) (fun t k => by
        show Steps p.tables e below (s₁.setTop (mkF m 25 #[.val (.int p0), .val (.int p1), .val (.int p2), .val (.int p3), .val (.int p4), .unset, .unset] [(.int (224 : Int32)), (.int (p0 &&& (240 : Int32)))])) _
        refine XS.icmpNo X0.here hx rfl (hb hby d2_25) rfl (teq hc17).2 ?_
        show Steps p.tables e below (s₁.setTop (mkF m 28 #[.val (.int p0), .val (.int p1), .val (.int p2), .val (.int p3), .val (.int p4), .unset, .unset] [])) _
        refine XS.iconst X0.here hx rfl (hb hby d2_28) ?_
        show Steps p.tables e below (s₁.setTop (mkF m 29 #[.val (.int p0), .val (.int p1), .val (.int p2), .val (.int p3), .val (.int p4), .unset, .unset] [(.int (3 : Int32))])) _
        refine XS.istore X0.here hx rfl (hb hby d2_29) rfl (l' := #[.val (.int p0), .val (.int p1), .val (.int p2), .val (.int p3), .val (.int p4), .val (.int (3 : Int32)), .unset]) rfl ?_
        show Steps p.tables e below (s₁.setTop (mkF m 31 #[.val (.int p0), .val (.int p1), .val (.int p2), .val (.int p3), .val (.int p4), .val (.int (3 : Int32)), .unset] [])) _
        refine XS.goto X0.here hx rfl (pc0 := 31) (pc' := 53) rfl (hb hby d2_31) (by decide) (by decide) ?_
        show Steps p.tables e below (s₁.setTop (mkF m 53 #[.val (.int p0), .val (.int p1), .val (.int p2), .val (.int p3), .val (.int p4), .val (.int (3 : Int32)), .unset] [])) _
        refine XS.iload X0.here hx rfl (hb hby d2_53) rfl ?_
        show Steps p.tables e below (s₁.setTop (mkF m 55 #[.val (.int p0), .val (.int p1), .val (.int p2), .val (.int p3), .val (.int p4), .val (.int (3 : Int32)), .unset] [(.int (3 : Int32))])) _
        refine XS.iload X0.here hx rfl (hb hby d2_55) rfl ?_
        exact k)
      by_cases hc19 : p4 < (3 : Int32)
      · skip
        have go21 := go20.step (C := s₁.setTop (mkF m 61 #[.val (.int p0), .val (.int p1), .val (.int p2), .val (.int p3), .val (.int p4), .val (.int (3 : Int32)), .unset] [(.int (-1 : Int32))])) (fun t k => by
          show Steps p.tables e below (s₁.setTop (mkF m 57 #[.val (.int p0), .val (.int p1), .val (.int p2), .val (.int p3), .val (.int p4), .val (.int (3 : Int32)), .unset] [(.int p4), (.int (3 : Int32))])) _
          refine XS.icmpNo X0.here hx rfl (hb hby d2_57) rfl (tlt hc19).2.2.2 ?_
          show Steps p.tables e below (s₁.setTop (mkF m 60 #[.val (.int p0), .val (.int p1), .val (.int p2), .val (.int p3), .val (.int p4), .val (.int (3 : Int32)), .unset] [])) _
          refine XS.iconst X0.here hx rfl (hb hby d2_60) ?_
          exact k)
        obtain ⟨fs, hr, hrun, hended, hW, hsame⟩ := X0.leave (v := some (.int (-1 : Int32))) (fun h => by rw [Bd.returns] at h; cases h)
        refine ⟨_, _, go21 _ ?_, hrun, hended, _, _, rfl, ?_, ⟨_, rfl⟩, hW, hsame.mono (by decide) (by decide)⟩
        · exact own_retI X0 hx Bd.returns (hb hby d2_61) hr
        · show Q_rm2 Z p0 p1 p2 p3 p4 h0 n0 _ s₁.heap _
          rw [e0]
          exact ⟨by unfold own_exp; simp only [if_neg hc1, if_pos hc17, if_pos hc19], N0, rfl⟩
      · skip
        have go22 := go20.step (C := s₁.setTop (mkF m 63 #[.val (.int p0), .val (.int p1), .val (.int p2), .val (.int p3), .val (.int p4), .val (.int (3 : Int32)), .unset] [(.int p1)])) (fun t k => by
          show Steps p.tables e below (s₁.setTop (mkF m 57 #[.val (.int p0), .val (.int p1), .val (.int p2), .val (.int p3), .val (.int p4), .val (.int (3 : Int32)), .unset] [(.int p4), (.int (3 : Int32))])) _
          refine XS.icmpYes X0.here hx rfl (pc0 := 57) (pc' := 62) rfl (hb hby d2_57) rfl (flt hc19).2.2.2 (by decide) (by decide) ?_
          show Steps p.tables e below (s₁.setTop (mkF m 62 #[.val (.int p0), .val (.int p1), .val (.int p2), .val (.int p3), .val (.int p4), .val (.int (3 : Int32)), .unset] [])) _
          refine XS.iloadN X0.here hx rfl (hb hby d2_62) rfl ?_
          exact k)
        obtain ⟨_, _, ⟨T23, L23, k23, n23⟩, -, X23, ⟨Lc23, hQ23, l23, y23, z23⟩, st23⟩ := Jvm.LawKit.callS X0 hx (y := (⟨"com/example/graphkind/graphkind/Utf8LengthPinLaw", "cont", "(I)Z"⟩ : MethodName)) hown (mvT hZ (hw _ (List.mem_of_getElem? (i := 10) rfl))) (mvT hZ (hw _ (List.mem_of_getElem? (i := 11) rfl))) (mvT hZ (hw _ (List.mem_of_getElem? (i := 8) rfl))) (mvT hZ (hw _ (List.mem_of_getElem? (i := 12) rfl))) (by decide) (backOf (W := 0) (rm3 l Z a0 hw [] p1 h0 n0 Z0 ) hZ (hw _ (List.mem_of_getElem? (i := 12) rfl)) (hw _ (List.mem_of_getElem? (i := 8) rfl)) (by decide) (by decide)) (g := (mkF m 63 #[.val (.int p0), .val (.int p1), .val (.int p2), .val (.int p3), .val (.int p4), .val (.int (3 : Int32)), .unset] [(.int p1)])) rfl (by rw [hml]; rfl) (argsL := [(.int p1)]) (rest := []) (lenOf pd2_0 rfl) rfl (by show 2 * 0 + _ ≤ _; exact Nat.le_of_eq rfl) (hb hby d2_63) (fun _ _ => ⟨rfl, e0, (by decide : 0 + 0 ≤ _), (by decide : 0 + 0 ≤ _)⟩)
        dsimp only [Pt.U, Pt.locs, Pt.cells, Pt.slots] at X23 l23 y23 z23 st23 hQ23
        rw [l23, y23, z23] at X23
        obtain ⟨rfl, N23q, e23⟩ := hQ23
        have N23 := Fr.app N0 N23q
        have go23 := go22.step (C := T23.setTop (mkF m 66 #[.val (.int p0), .val (.int p1), .val (.int p2), .val (.int p3), .val (.int p4), .val (.int (3 : Int32)), .unset] [(.int (own_cont p1))])) (fun t k => st23 t k)
        by_cases hc24 : (own_cont p1) = (0 : Int32)
        · skip
          have go25 := go23.step (C := T23.setTop (mkF m 70 #[.val (.int p0), .val (.int p1), .val (.int p2), .val (.int p3), .val (.int p4), .val (.int (3 : Int32)), .unset] [(.int (-1 : Int32))])) (fun t k => by
            show Steps p.tables e below (T23.setTop (mkF m 66 #[.val (.int p0), .val (.int p1), .val (.int p2), .val (.int p3), .val (.int p4), .val (.int (3 : Int32)), .unset] [(.int (own_cont p1))])) _
            refine XS.ifNo X23.here hx rfl (hb hby d2_66) rfl ((if0 _ _).trans (teq hc24).2) ?_
            show Steps p.tables e below (T23.setTop (mkF m 69 #[.val (.int p0), .val (.int p1), .val (.int p2), .val (.int p3), .val (.int p4), .val (.int (3 : Int32)), .unset] [])) _
            refine XS.iconst X23.here hx rfl (hb hby d2_69) ?_
            exact k)
          obtain ⟨fs, hr, hrun, hended, hW, hsame⟩ := X23.leave (v := some (.int (-1 : Int32))) (fun h => by rw [Bd.returns] at h; cases h)
          refine ⟨_, _, go25 _ ?_, hrun, hended, _, _, rfl, ?_, ⟨_, rfl⟩, hW, hsame.mono (by decide) (by decide)⟩
          · exact own_retI X23 hx Bd.returns (hb hby d2_70) hr
          · show Q_rm2 Z p0 p1 p2 p3 p4 h0 n0 _ T23.heap _
            rw [e23]
            exact ⟨by unfold own_exp; simp only [if_neg hc1, if_pos hc17, if_neg hc19, if_pos hc24], N23, rfl⟩
        · skip
          have go27 := go23.step (C := T23.setTop (mkF m 78 #[.val (.int p0), .val (.int p1), .val (.int p2), .val (.int p3), .val (.int p4), .val (.int (3 : Int32)), .unset] [(.int p2)])) (fun t k => by
            show Steps p.tables e below (T23.setTop (mkF m 66 #[.val (.int p0), .val (.int p1), .val (.int p2), .val (.int p3), .val (.int p4), .val (.int (3 : Int32)), .unset] [(.int (own_cont p1))])) _
            refine XS.ifYes X23.here hx rfl (pc0 := 66) (pc' := 71) rfl (hb hby d2_66) rfl ((if0 _ _).trans (feq hc24).2) (by decide) (by decide) ?_
            show Steps p.tables e below (T23.setTop (mkF m 71 #[.val (.int p0), .val (.int p1), .val (.int p2), .val (.int p3), .val (.int p4), .val (.int (3 : Int32)), .unset] [])) _
            refine XS.iload X23.here hx rfl (hb hby d2_71) rfl ?_
            show Steps p.tables e below (T23.setTop (mkF m 73 #[.val (.int p0), .val (.int p1), .val (.int p2), .val (.int p3), .val (.int p4), .val (.int (3 : Int32)), .unset] [(.int (3 : Int32))])) _
            refine XS.iconst X23.here hx rfl (hb hby d2_73) ?_
            show Steps p.tables e below (T23.setTop (mkF m 74 #[.val (.int p0), .val (.int p1), .val (.int p2), .val (.int p3), .val (.int p4), .val (.int (3 : Int32)), .unset] [(.int (3 : Int32)), (.int (3 : Int32))])) _
            refine XS.icmpNo X23.here hx rfl (hb hby d2_74) rfl (flt ((by decide) : ¬ ((3 : Int32) < (3 : Int32)))).1 ?_
            show Steps p.tables e below (T23.setTop (mkF m 77 #[.val (.int p0), .val (.int p1), .val (.int p2), .val (.int p3), .val (.int p4), .val (.int (3 : Int32)), .unset] [])) _
            refine XS.iloadN X23.here hx rfl (hb hby d2_77) rfl ?_
            exact k)
          obtain ⟨_, _, ⟨T28, L28, k28, n28⟩, -, X28, ⟨Lc28, hQ28, l28, y28, z28⟩, st28⟩ := Jvm.LawKit.callS X23 hx (y := (⟨"com/example/graphkind/graphkind/Utf8LengthPinLaw", "cont", "(I)Z"⟩ : MethodName)) hown (mvT hZ (hw _ (List.mem_of_getElem? (i := 10) rfl))) (mvT hZ (hw _ (List.mem_of_getElem? (i := 11) rfl))) (mvT hZ (hw _ (List.mem_of_getElem? (i := 8) rfl))) (mvT hZ (hw _ (List.mem_of_getElem? (i := 12) rfl))) (by decide) (backOf (W := 0) (rm3 l Z a0 hw [] p2 h0 n0 Z0 ) hZ (hw _ (List.mem_of_getElem? (i := 12) rfl)) (hw _ (List.mem_of_getElem? (i := 8) rfl)) (by decide) (by decide)) (g := (mkF m 78 #[.val (.int p0), .val (.int p1), .val (.int p2), .val (.int p3), .val (.int p4), .val (.int (3 : Int32)), .unset] [(.int p2)])) rfl (by rw [hml]; rfl) (argsL := [(.int p2)]) (rest := []) (lenOf pd2_0 rfl) rfl (by show 2 * 0 + _ ≤ _; exact Nat.le_of_eq rfl) (hb hby d2_78) (fun _ _ => ⟨rfl, e23, (by decide : 0 + 0 ≤ _), (by decide : 0 + 0 ≤ _)⟩)
          dsimp only [Pt.U, Pt.locs, Pt.cells, Pt.slots] at X28 l28 y28 z28 st28 hQ28
          rw [l28, y28, z28] at X28
          obtain ⟨rfl, N28q, e28⟩ := hQ28
          have N28 := Fr.app N23 N28q
          have go28 := go27.step (C := T28.setTop (mkF m 81 #[.val (.int p0), .val (.int p1), .val (.int p2), .val (.int p3), .val (.int p4), .val (.int (3 : Int32)), .unset] [(.int (own_cont p2))])) (fun t k => st28 t k)
          by_cases hc29 : (own_cont p2) = (0 : Int32)
          · skip
            have go30 := go28.step (C := T28.setTop (mkF m 85 #[.val (.int p0), .val (.int p1), .val (.int p2), .val (.int p3), .val (.int p4), .val (.int (3 : Int32)), .unset] [(.int (-1 : Int32))])) (fun t k => by
              show Steps p.tables e below (T28.setTop (mkF m 81 #[.val (.int p0), .val (.int p1), .val (.int p2), .val (.int p3), .val (.int p4), .val (.int (3 : Int32)), .unset] [(.int (own_cont p2))])) _
              refine XS.ifNo X28.here hx rfl (hb hby d2_81) rfl ((if0 _ _).trans (teq hc29).2) ?_
              show Steps p.tables e below (T28.setTop (mkF m 84 #[.val (.int p0), .val (.int p1), .val (.int p2), .val (.int p3), .val (.int p4), .val (.int (3 : Int32)), .unset] [])) _
              refine XS.iconst X28.here hx rfl (hb hby d2_84) ?_
              exact k)
            obtain ⟨fs, hr, hrun, hended, hW, hsame⟩ := X28.leave (v := some (.int (-1 : Int32))) (fun h => by rw [Bd.returns] at h; cases h)
            refine ⟨_, _, go30 _ ?_, hrun, hended, _, _, rfl, ?_, ⟨_, rfl⟩, hW, hsame.mono (by decide) (by decide)⟩
            · exact own_retI X28 hx Bd.returns (hb hby d2_85) hr
            · show Q_rm2 Z p0 p1 p2 p3 p4 h0 n0 _ T28.heap _
              rw [e28]
              exact ⟨by unfold own_exp; simp only [if_neg hc1, if_pos hc17, if_neg hc19, if_neg hc24, if_pos hc29], N28, rfl⟩
          · skip
            have go35 := go28.step (C := T28.setTop (mkF m 168 #[.val (.int p0), .val (.int p1), .val (.int p2), .val (.int p3), .val (.int p4), .val (.int (3 : Int32)), .val (.int ((((p0 &&& (15 : Int32)) <<< ((12 : Int32) &&& 31)) ||| ((p1 &&& (63 : Int32)) <<< ((6 : Int32) &&& 31))) ||| (p2 &&& (63 : Int32))))] [(.int (2048 : Int32)), (.int ((((p0 &&& (15 : Int32)) <<< ((12 : Int32) &&& 31)) ||| ((p1 &&& (63 : Int32)) <<< ((6 : Int32) &&& 31))) ||| (p2 &&& (63 : Int32))))])) (fun t k => by
              show Steps p.tables e below (T28.setTop (mkF m 81 #[.val (.int p0), .val (.int p1), .val (.int p2), .val (.int p3), .val (.int p4), .val (.int (3 : Int32)), .unset] [(.int (own_cont p2))])) _
              refine XS.ifYes X28.here hx rfl (pc0 := 81) (pc' := 86) rfl (hb hby d2_81) rfl ((if0 _ _).trans (feq hc29).2) (by decide) (by decide) ?_
              show Steps p.tables e below (T28.setTop (mkF m 86 #[.val (.int p0), .val (.int p1), .val (.int p2), .val (.int p3), .val (.int p4), .val (.int (3 : Int32)), .unset] [])) _
              refine XS.iload X28.here hx rfl (hb hby d2_86) rfl ?_
              show Steps p.tables e below (T28.setTop (mkF m 88 #[.val (.int p0), .val (.int p1), .val (.int p2), .val (.int p3), .val (.int p4), .val (.int (3 : Int32)), .unset] [(.int (3 : Int32))])) _
              refine XS.iconst X28.here hx rfl (hb hby d2_88) ?_
              show Steps p.tables e below (T28.setTop (mkF m 89 #[.val (.int p0), .val (.int p1), .val (.int p2), .val (.int p3), .val (.int p4), .val (.int (3 : Int32)), .unset] [(.int (4 : Int32)), (.int (3 : Int32))])) _
              refine XS.icmpYes X28.here hx rfl (pc0 := 89) (pc' := 101) rfl (hb hby d2_89) rfl (feq ((by decide) : ¬ ((3 : Int32) = (4 : Int32)))).2 (by decide) (by decide) ?_
              show Steps p.tables e below (T28.setTop (mkF m 101 #[.val (.int p0), .val (.int p1), .val (.int p2), .val (.int p3), .val (.int p4), .val (.int (3 : Int32)), .unset] [])) _
              refine XS.iload X28.here hx rfl (hb hby d2_101) rfl ?_
              show Steps p.tables e below (T28.setTop (mkF m 103 #[.val (.int p0), .val (.int p1), .val (.int p2), .val (.int p3), .val (.int p4), .val (.int (3 : Int32)), .unset] [(.int (3 : Int32))])) _
              refine XS.iconst X28.here hx rfl (hb hby d2_103) ?_
              show Steps p.tables e below (T28.setTop (mkF m 104 #[.val (.int p0), .val (.int p1), .val (.int p2), .val (.int p3), .val (.int p4), .val (.int (3 : Int32)), .unset] [(.int (2 : Int32)), (.int (3 : Int32))])) _
              refine XS.icmpYes X28.here hx rfl (pc0 := 104) (pc' := 135) rfl (hb hby d2_104) rfl (feq ((by decide) : ¬ ((3 : Int32) = (2 : Int32)))).2 (by decide) (by decide) ?_
              show Steps p.tables e below (T28.setTop (mkF m 135 #[.val (.int p0), .val (.int p1), .val (.int p2), .val (.int p3), .val (.int p4), .val (.int (3 : Int32)), .unset] [])) _
              refine XS.iload X28.here hx rfl (hb hby d2_135) rfl ?_
              show Steps p.tables e below (T28.setTop (mkF m 137 #[.val (.int p0), .val (.int p1), .val (.int p2), .val (.int p3), .val (.int p4), .val (.int (3 : Int32)), .unset] [(.int (3 : Int32))])) _
              refine XS.iconst X28.here hx rfl (hb hby d2_137) ?_
              show Steps p.tables e below (T28.setTop (mkF m 138 #[.val (.int p0), .val (.int p1), .val (.int p2), .val (.int p3), .val (.int p4), .val (.int (3 : Int32)), .unset] [(.int (3 : Int32)), (.int (3 : Int32))])) _
              refine XS.icmpNo X28.here hx rfl (hb hby d2_138) rfl (teq ((by decide) : (3 : Int32) = (3 : Int32))).2 ?_
              show Steps p.tables e below (T28.setTop (mkF m 141 #[.val (.int p0), .val (.int p1), .val (.int p2), .val (.int p3), .val (.int p4), .val (.int (3 : Int32)), .unset] [])) _
              refine XS.iloadN X28.here hx rfl (hb hby d2_141) rfl ?_
              show Steps p.tables e below (T28.setTop (mkF m 142 #[.val (.int p0), .val (.int p1), .val (.int p2), .val (.int p3), .val (.int p4), .val (.int (3 : Int32)), .unset] [(.int p0)])) _
              refine XS.bipush X28.here hx rfl (hb hby d2_142) ?_
              show Steps p.tables e below (T28.setTop (mkF m 144 #[.val (.int p0), .val (.int p1), .val (.int p2), .val (.int p3), .val (.int p4), .val (.int (3 : Int32)), .unset] [(.int (15 : Int32)), (.int p0)])) _
              refine XS.iand X28.here hx rfl (hb hby d2_144) rfl ?_
              show Steps p.tables e below (T28.setTop (mkF m 145 #[.val (.int p0), .val (.int p1), .val (.int p2), .val (.int p3), .val (.int p4), .val (.int (3 : Int32)), .unset] [(.int (p0 &&& (15 : Int32)))])) _
              refine XS.bipush X28.here hx rfl (hb hby d2_145) ?_
              show Steps p.tables e below (T28.setTop (mkF m 147 #[.val (.int p0), .val (.int p1), .val (.int p2), .val (.int p3), .val (.int p4), .val (.int (3 : Int32)), .unset] [(.int (12 : Int32)), (.int (p0 &&& (15 : Int32)))])) _
              refine XS.ishl X28.here hx rfl (hb hby d2_147) rfl ?_
              show Steps p.tables e below (T28.setTop (mkF m 148 #[.val (.int p0), .val (.int p1), .val (.int p2), .val (.int p3), .val (.int p4), .val (.int (3 : Int32)), .unset] [(.int ((p0 &&& (15 : Int32)) <<< ((12 : Int32) &&& 31)))])) _
              refine XS.iloadN X28.here hx rfl (hb hby d2_148) rfl ?_
              show Steps p.tables e below (T28.setTop (mkF m 149 #[.val (.int p0), .val (.int p1), .val (.int p2), .val (.int p3), .val (.int p4), .val (.int (3 : Int32)), .unset] [(.int p1), (.int ((p0 &&& (15 : Int32)) <<< ((12 : Int32) &&& 31)))])) _
              refine XS.bipush X28.here hx rfl (hb hby d2_149) ?_
              show Steps p.tables e below (T28.setTop (mkF m 151 #[.val (.int p0), .val (.int p1), .val (.int p2), .val (.int p3), .val (.int p4), .val (.int (3 : Int32)), .unset] [(.int (63 : Int32)), (.int p1), (.int ((p0 &&& (15 : Int32)) <<< ((12 : Int32) &&& 31)))])) _
              refine XS.iand X28.here hx rfl (hb hby d2_151) rfl ?_
              show Steps p.tables e below (T28.setTop (mkF m 152 #[.val (.int p0), .val (.int p1), .val (.int p2), .val (.int p3), .val (.int p4), .val (.int (3 : Int32)), .unset] [(.int (p1 &&& (63 : Int32))), (.int ((p0 &&& (15 : Int32)) <<< ((12 : Int32) &&& 31)))])) _
              refine XS.bipush X28.here hx rfl (hb hby d2_152) ?_
              show Steps p.tables e below (T28.setTop (mkF m 154 #[.val (.int p0), .val (.int p1), .val (.int p2), .val (.int p3), .val (.int p4), .val (.int (3 : Int32)), .unset] [(.int (6 : Int32)), (.int (p1 &&& (63 : Int32))), (.int ((p0 &&& (15 : Int32)) <<< ((12 : Int32) &&& 31)))])) _
              refine XS.ishl X28.here hx rfl (hb hby d2_154) rfl ?_
              show Steps p.tables e below (T28.setTop (mkF m 155 #[.val (.int p0), .val (.int p1), .val (.int p2), .val (.int p3), .val (.int p4), .val (.int (3 : Int32)), .unset] [(.int ((p1 &&& (63 : Int32)) <<< ((6 : Int32) &&& 31))), (.int ((p0 &&& (15 : Int32)) <<< ((12 : Int32) &&& 31)))])) _
              refine XS.ior X28.here hx rfl (hb hby d2_155) rfl ?_
              show Steps p.tables e below (T28.setTop (mkF m 156 #[.val (.int p0), .val (.int p1), .val (.int p2), .val (.int p3), .val (.int p4), .val (.int (3 : Int32)), .unset] [(.int (((p0 &&& (15 : Int32)) <<< ((12 : Int32) &&& 31)) ||| ((p1 &&& (63 : Int32)) <<< ((6 : Int32) &&& 31))))])) _
              refine XS.iloadN X28.here hx rfl (hb hby d2_156) rfl ?_
              show Steps p.tables e below (T28.setTop (mkF m 157 #[.val (.int p0), .val (.int p1), .val (.int p2), .val (.int p3), .val (.int p4), .val (.int (3 : Int32)), .unset] [(.int p2), (.int (((p0 &&& (15 : Int32)) <<< ((12 : Int32) &&& 31)) ||| ((p1 &&& (63 : Int32)) <<< ((6 : Int32) &&& 31))))])) _
              refine XS.bipush X28.here hx rfl (hb hby d2_157) ?_
              show Steps p.tables e below (T28.setTop (mkF m 159 #[.val (.int p0), .val (.int p1), .val (.int p2), .val (.int p3), .val (.int p4), .val (.int (3 : Int32)), .unset] [(.int (63 : Int32)), (.int p2), (.int (((p0 &&& (15 : Int32)) <<< ((12 : Int32) &&& 31)) ||| ((p1 &&& (63 : Int32)) <<< ((6 : Int32) &&& 31))))])) _
              refine XS.iand X28.here hx rfl (hb hby d2_159) rfl ?_
              show Steps p.tables e below (T28.setTop (mkF m 160 #[.val (.int p0), .val (.int p1), .val (.int p2), .val (.int p3), .val (.int p4), .val (.int (3 : Int32)), .unset] [(.int (p2 &&& (63 : Int32))), (.int (((p0 &&& (15 : Int32)) <<< ((12 : Int32) &&& 31)) ||| ((p1 &&& (63 : Int32)) <<< ((6 : Int32) &&& 31))))])) _
              refine XS.ior X28.here hx rfl (hb hby d2_160) rfl ?_
              show Steps p.tables e below (T28.setTop (mkF m 161 #[.val (.int p0), .val (.int p1), .val (.int p2), .val (.int p3), .val (.int p4), .val (.int (3 : Int32)), .unset] [(.int ((((p0 &&& (15 : Int32)) <<< ((12 : Int32) &&& 31)) ||| ((p1 &&& (63 : Int32)) <<< ((6 : Int32) &&& 31))) ||| (p2 &&& (63 : Int32))))])) _
              refine XS.istore X28.here hx rfl (hb hby d2_161) rfl (l' := #[.val (.int p0), .val (.int p1), .val (.int p2), .val (.int p3), .val (.int p4), .val (.int (3 : Int32)), .val (.int ((((p0 &&& (15 : Int32)) <<< ((12 : Int32) &&& 31)) ||| ((p1 &&& (63 : Int32)) <<< ((6 : Int32) &&& 31))) ||| (p2 &&& (63 : Int32))))]) rfl ?_
              show Steps p.tables e below (T28.setTop (mkF m 163 #[.val (.int p0), .val (.int p1), .val (.int p2), .val (.int p3), .val (.int p4), .val (.int (3 : Int32)), .val (.int ((((p0 &&& (15 : Int32)) <<< ((12 : Int32) &&& 31)) ||| ((p1 &&& (63 : Int32)) <<< ((6 : Int32) &&& 31))) ||| (p2 &&& (63 : Int32))))] [])) _
              refine XS.iload X28.here hx rfl (hb hby d2_163) rfl ?_
              show Steps p.tables e below (T28.setTop (mkF m 165 #[.val (.int p0), .val (.int p1), .val (.int p2), .val (.int p3), .val (.int p4), .val (.int (3 : Int32)), .val (.int ((((p0 &&& (15 : Int32)) <<< ((12 : Int32) &&& 31)) ||| ((p1 &&& (63 : Int32)) <<< ((6 : Int32) &&& 31))) ||| (p2 &&& (63 : Int32))))] [(.int ((((p0 &&& (15 : Int32)) <<< ((12 : Int32) &&& 31)) ||| ((p1 &&& (63 : Int32)) <<< ((6 : Int32) &&& 31))) ||| (p2 &&& (63 : Int32))))])) _
              refine XS.sipush X28.here hx rfl (hb hby d2_165) ?_
              exact k)
            by_cases hc34 : ((((p0 &&& (15 : Int32)) <<< ((12 : Int32) &&& 31)) ||| ((p1 &&& (63 : Int32)) <<< ((6 : Int32) &&& 31))) ||| (p2 &&& (63 : Int32))) < (2048 : Int32)
            · skip
              have go36 := go35.step (C := T28.setTop (mkF m 190 #[.val (.int p0), .val (.int p1), .val (.int p2), .val (.int p3), .val (.int p4), .val (.int (3 : Int32)), .val (.int ((((p0 &&& (15 : Int32)) <<< ((12 : Int32) &&& 31)) ||| ((p1 &&& (63 : Int32)) <<< ((6 : Int32) &&& 31))) ||| (p2 &&& (63 : Int32))))] [(.int (-1 : Int32))])) (fun t k => by
                show Steps p.tables e below (T28.setTop (mkF m 168 #[.val (.int p0), .val (.int p1), .val (.int p2), .val (.int p3), .val (.int p4), .val (.int (3 : Int32)), .val (.int ((((p0 &&& (15 : Int32)) <<< ((12 : Int32) &&& 31)) ||| ((p1 &&& (63 : Int32)) <<< ((6 : Int32) &&& 31))) ||| (p2 &&& (63 : Int32))))] [(.int (2048 : Int32)), (.int ((((p0 &&& (15 : Int32)) <<< ((12 : Int32) &&& 31)) ||| ((p1 &&& (63 : Int32)) <<< ((6 : Int32) &&& 31))) ||| (p2 &&& (63 : Int32))))])) _
                refine XS.icmpYes X28.here hx rfl (pc0 := 168) (pc' := 189) rfl (hb hby d2_168) rfl (tlt hc34).1 (by decide) (by decide) ?_
                show Steps p.tables e below (T28.setTop (mkF m 189 #[.val (.int p0), .val (.int p1), .val (.int p2), .val (.int p3), .val (.int p4), .val (.int (3 : Int32)), .val (.int ((((p0 &&& (15 : Int32)) <<< ((12 : Int32) &&& 31)) ||| ((p1 &&& (63 : Int32)) <<< ((6 : Int32) &&& 31))) ||| (p2 &&& (63 : Int32))))] [])) _
                refine XS.iconst X28.here hx rfl (hb hby d2_189) ?_
                exact k)
              obtain ⟨fs, hr, hrun, hended, hW, hsame⟩ := X28.leave (v := some (.int (-1 : Int32))) (fun h => by rw [Bd.returns] at h; cases h)
              refine ⟨_, _, go36 _ ?_, hrun, hended, _, _, rfl, ?_, ⟨_, rfl⟩, hW, hsame.mono (by decide) (by decide)⟩
              · exact own_retI X28 hx Bd.returns (hb hby d2_190) hr
              · show Q_rm2 Z p0 p1 p2 p3 p4 h0 n0 _ T28.heap _
                rw [e28]
                exact ⟨by unfold own_exp; simp only [if_neg hc1, if_pos hc17, if_neg hc19, if_neg hc24, if_neg hc29, if_pos hc34], N28, rfl⟩
            · skip
              have go38 := go35.step (C := T28.setTop (mkF m 175 #[.val (.int p0), .val (.int p1), .val (.int p2), .val (.int p3), .val (.int p4), .val (.int (3 : Int32)), .val (.int ((((p0 &&& (15 : Int32)) <<< ((12 : Int32) &&& 31)) ||| ((p1 &&& (63 : Int32)) <<< ((6 : Int32) &&& 31))) ||| (p2 &&& (63 : Int32))))] [(.int (55296 : Int32)), (.int ((((p0 &&& (15 : Int32)) <<< ((12 : Int32) &&& 31)) ||| ((p1 &&& (63 : Int32)) <<< ((6 : Int32) &&& 31))) ||| (p2 &&& (63 : Int32))))])) (fun t k => by
                show Steps p.tables e below (T28.setTop (mkF m 168 #[.val (.int p0), .val (.int p1), .val (.int p2), .val (.int p3), .val (.int p4), .val (.int (3 : Int32)), .val (.int ((((p0 &&& (15 : Int32)) <<< ((12 : Int32) &&& 31)) ||| ((p1 &&& (63 : Int32)) <<< ((6 : Int32) &&& 31))) ||| (p2 &&& (63 : Int32))))] [(.int (2048 : Int32)), (.int ((((p0 &&& (15 : Int32)) <<< ((12 : Int32) &&& 31)) ||| ((p1 &&& (63 : Int32)) <<< ((6 : Int32) &&& 31))) ||| (p2 &&& (63 : Int32))))])) _
                refine XS.icmpNo X28.here hx rfl (hb hby d2_168) rfl (flt hc34).1 ?_
                show Steps p.tables e below (T28.setTop (mkF m 171 #[.val (.int p0), .val (.int p1), .val (.int p2), .val (.int p3), .val (.int p4), .val (.int (3 : Int32)), .val (.int ((((p0 &&& (15 : Int32)) <<< ((12 : Int32) &&& 31)) ||| ((p1 &&& (63 : Int32)) <<< ((6 : Int32) &&& 31))) ||| (p2 &&& (63 : Int32))))] [])) _
                refine XS.iload X28.here hx rfl (hb hby d2_171) rfl ?_
                show Steps p.tables e below (T28.setTop (mkF m 173 #[.val (.int p0), .val (.int p1), .val (.int p2), .val (.int p3), .val (.int p4), .val (.int (3 : Int32)), .val (.int ((((p0 &&& (15 : Int32)) <<< ((12 : Int32) &&& 31)) ||| ((p1 &&& (63 : Int32)) <<< ((6 : Int32) &&& 31))) ||| (p2 &&& (63 : Int32))))] [(.int ((((p0 &&& (15 : Int32)) <<< ((12 : Int32) &&& 31)) ||| ((p1 &&& (63 : Int32)) <<< ((6 : Int32) &&& 31))) ||| (p2 &&& (63 : Int32))))])) _
                refine X28.ldcInt hx hown (mvT hZ (hw _ (List.mem_of_getElem? (i := 13) rfl))) (g := (mkF m 173 #[.val (.int p0), .val (.int p1), .val (.int p2), .val (.int p3), .val (.int p4), .val (.int (3 : Int32)), .val (.int ((((p0 &&& (15 : Int32)) <<< ((12 : Int32) &&& 31)) ||| ((p1 &&& (63 : Int32)) <<< ((6 : Int32) &&& 31))) ||| (p2 &&& (63 : Int32))))] [(.int ((((p0 &&& (15 : Int32)) <<< ((12 : Int32) &&& 31)) ||| ((p1 &&& (63 : Int32)) <<< ((6 : Int32) &&& 31))) ||| (p2 &&& (63 : Int32))))])) rfl (hb hby d2_173) _ ?_
                exact k)
              by_cases hc37 : ((((p0 &&& (15 : Int32)) <<< ((12 : Int32) &&& 31)) ||| ((p1 &&& (63 : Int32)) <<< ((6 : Int32) &&& 31))) ||| (p2 &&& (63 : Int32))) < (55296 : Int32)
              · skip
                have go39 := go38.step (C := T28.setTop (mkF m 190 #[.val (.int p0), .val (.int p1), .val (.int p2), .val (.int p3), .val (.int p4), .val (.int (3 : Int32)), .val (.int ((((p0 &&& (15 : Int32)) <<< ((12 : Int32) &&& 31)) ||| ((p1 &&& (63 : Int32)) <<< ((6 : Int32) &&& 31))) ||| (p2 &&& (63 : Int32))))] [(.int (3 : Int32))])) (fun t k => by
                  show Steps p.tables e below (T28.setTop (mkF m 175 #[.val (.int p0), .val (.int p1), .val (.int p2), .val (.int p3), .val (.int p4), .val (.int (3 : Int32)), .val (.int ((((p0 &&& (15 : Int32)) <<< ((12 : Int32) &&& 31)) ||| ((p1 &&& (63 : Int32)) <<< ((6 : Int32) &&& 31))) ||| (p2 &&& (63 : Int32))))] [(.int (55296 : Int32)), (.int ((((p0 &&& (15 : Int32)) <<< ((12 : Int32) &&& 31)) ||| ((p1 &&& (63 : Int32)) <<< ((6 : Int32) &&& 31))) ||| (p2 &&& (63 : Int32))))])) _
                  refine XS.icmpYes X28.here hx rfl (pc0 := 175) (pc' := 185) rfl (hb hby d2_175) rfl (tlt hc37).1 (by decide) (by decide) ?_
                  show Steps p.tables e below (T28.setTop (mkF m 185 #[.val (.int p0), .val (.int p1), .val (.int p2), .val (.int p3), .val (.int p4), .val (.int (3 : Int32)), .val (.int ((((p0 &&& (15 : Int32)) <<< ((12 : Int32) &&& 31)) ||| ((p1 &&& (63 : Int32)) <<< ((6 : Int32) &&& 31))) ||| (p2 &&& (63 : Int32))))] [])) _
                  refine XS.iconst X28.here hx rfl (hb hby d2_185) ?_
                  show Steps p.tables e below (T28.setTop (mkF m 186 #[.val (.int p0), .val (.int p1), .val (.int p2), .val (.int p3), .val (.int p4), .val (.int (3 : Int32)), .val (.int ((((p0 &&& (15 : Int32)) <<< ((12 : Int32) &&& 31)) ||| ((p1 &&& (63 : Int32)) <<< ((6 : Int32) &&& 31))) ||| (p2 &&& (63 : Int32))))] [(.int (3 : Int32))])) _
                  refine XS.goto X28.here hx rfl (pc0 := 186) (pc' := 190) rfl (hb hby d2_186) (by decide) (by decide) ?_
                  exact k)
                obtain ⟨fs, hr, hrun, hended, hW, hsame⟩ := X28.leave (v := some (.int (3 : Int32))) (fun h => by rw [Bd.returns] at h; cases h)
                refine ⟨_, _, go39 _ ?_, hrun, hended, _, _, rfl, ?_, ⟨_, rfl⟩, hW, hsame.mono (by decide) (by decide)⟩
                · exact own_retI X28 hx Bd.returns (hb hby d2_190) hr
                · show Q_rm2 Z p0 p1 p2 p3 p4 h0 n0 _ T28.heap _
                  rw [e28]
                  exact ⟨by unfold own_exp; simp only [if_neg hc1, if_pos hc17, if_neg hc19, if_neg hc24, if_neg hc29, if_neg hc34, if_pos hc37], N28, rfl⟩
              · skip
                have go41 := go38.step (C := T28.setTop (mkF m 182 #[.val (.int p0), .val (.int p1), .val (.int p2), .val (.int p3), .val (.int p4), .val (.int (3 : Int32)), .val (.int ((((p0 &&& (15 : Int32)) <<< ((12 : Int32) &&& 31)) ||| ((p1 &&& (63 : Int32)) <<< ((6 : Int32) &&& 31))) ||| (p2 &&& (63 : Int32))))] [(.int (57343 : Int32)), (.int ((((p0 &&& (15 : Int32)) <<< ((12 : Int32) &&& 31)) ||| ((p1 &&& (63 : Int32)) <<< ((6 : Int32) &&& 31))) ||| (p2 &&& (63 : Int32))))])) (fun t k => by
                  show Steps p.tables e below (T28.setTop (mkF m 175 #[.val (.int p0), .val (.int p1), .val (.int p2), .val (.int p3), .val (.int p4), .val (.int (3 : Int32)), .val (.int ((((p0 &&& (15 : Int32)) <<< ((12 : Int32) &&& 31)) ||| ((p1 &&& (63 : Int32)) <<< ((6 : Int32) &&& 31))) ||| (p2 &&& (63 : Int32))))] [(.int (55296 : Int32)), (.int ((((p0 &&& (15 : Int32)) <<< ((12 : Int32) &&& 31)) ||| ((p1 &&& (63 : Int32)) <<< ((6 : Int32) &&& 31))) ||| (p2 &&& (63 : Int32))))])) _
                  refine XS.icmpNo X28.here hx rfl (hb hby d2_175) rfl (flt hc37).1 ?_
                  show Steps p.tables e below (T28.setTop (mkF m 178 #[.val (.int p0), .val (.int p1), .val (.int p2), .val (.int p3), .val (.int p4), .val (.int (3 : Int32)), .val (.int ((((p0 &&& (15 : Int32)) <<< ((12 : Int32) &&& 31)) ||| ((p1 &&& (63 : Int32)) <<< ((6 : Int32) &&& 31))) ||| (p2 &&& (63 : Int32))))] [])) _
                  refine XS.iload X28.here hx rfl (hb hby d2_178) rfl ?_
                  show Steps p.tables e below (T28.setTop (mkF m 180 #[.val (.int p0), .val (.int p1), .val (.int p2), .val (.int p3), .val (.int p4), .val (.int (3 : Int32)), .val (.int ((((p0 &&& (15 : Int32)) <<< ((12 : Int32) &&& 31)) ||| ((p1 &&& (63 : Int32)) <<< ((6 : Int32) &&& 31))) ||| (p2 &&& (63 : Int32))))] [(.int ((((p0 &&& (15 : Int32)) <<< ((12 : Int32) &&& 31)) ||| ((p1 &&& (63 : Int32)) <<< ((6 : Int32) &&& 31))) ||| (p2 &&& (63 : Int32))))])) _
                  refine X28.ldcInt hx hown (mvT hZ (hw _ (List.mem_of_getElem? (i := 14) rfl))) (g := (mkF m 180 #[.val (.int p0), .val (.int p1), .val (.int p2), .val (.int p3), .val (.int p4), .val (.int (3 : Int32)), .val (.int ((((p0 &&& (15 : Int32)) <<< ((12 : Int32) &&& 31)) ||| ((p1 &&& (63 : Int32)) <<< ((6 : Int32) &&& 31))) ||| (p2 &&& (63 : Int32))))] [(.int ((((p0 &&& (15 : Int32)) <<< ((12 : Int32) &&& 31)) ||| ((p1 &&& (63 : Int32)) <<< ((6 : Int32) &&& 31))) ||| (p2 &&& (63 : Int32))))])) rfl (hb hby d2_180) _ ?_
                  exact k)
                by_cases hc40 : (57343 : Int32) < ((((p0 &&& (15 : Int32)) <<< ((12 : Int32) &&& 31)) ||| ((p1 &&& (63 : Int32)) <<< ((6 : Int32) &&& 31))) ||| (p2 &&& (63 : Int32)))
                · skip
                  have go42 := go41.step (C := T28.setTop (mkF m 190 #[.val (.int p0), .val (.int p1), .val (.int p2), .val (.int p3), .val (.int p4), .val (.int (3 : Int32)), .val (.int ((((p0 &&& (15 : Int32)) <<< ((12 : Int32) &&& 31)) ||| ((p1 &&& (63 : Int32)) <<< ((6 : Int32) &&& 31))) ||| (p2 &&& (63 : Int32))))] [(.int (3 : Int32))])) (fun t k => by
                    show Steps p.tables e below (T28.setTop (mkF m 182 #[.val (.int p0), .val (.int p1), .val (.int p2), .val (.int p3), .val (.int p4), .val (.int (3 : Int32)), .val (.int ((((p0 &&& (15 : Int32)) <<< ((12 : Int32) &&& 31)) ||| ((p1 &&& (63 : Int32)) <<< ((6 : Int32) &&& 31))) ||| (p2 &&& (63 : Int32))))] [(.int (57343 : Int32)), (.int ((((p0 &&& (15 : Int32)) <<< ((12 : Int32) &&& 31)) ||| ((p1 &&& (63 : Int32)) <<< ((6 : Int32) &&& 31))) ||| (p2 &&& (63 : Int32))))])) _
                    refine XS.icmpNo X28.here hx rfl (hb hby d2_182) rfl (tlt hc40).2.2.2 ?_
                    show Steps p.tables e below (T28.setTop (mkF m 185 #[.val (.int p0), .val (.int p1), .val (.int p2), .val (.int p3), .val (.int p4), .val (.int (3 : Int32)), .val (.int ((((p0 &&& (15 : Int32)) <<< ((12 : Int32) &&& 31)) ||| ((p1 &&& (63 : Int32)) <<< ((6 : Int32) &&& 31))) ||| (p2 &&& (63 : Int32))))] [])) _
                    refine XS.iconst X28.here hx rfl (hb hby d2_185) ?_
                    show Steps p.tables e below (T28.setTop (mkF m 186 #[.val (.int p0), .val (.int p1), .val (.int p2), .val (.int p3), .val (.int p4), .val (.int (3 : Int32)), .val (.int ((((p0 &&& (15 : Int32)) <<< ((12 : Int32) &&& 31)) ||| ((p1 &&& (63 : Int32)) <<< ((6 : Int32) &&& 31))) ||| (p2 &&& (63 : Int32))))] [(.int (3 : Int32))])) _
                    refine XS.goto X28.here hx rfl (pc0 := 186) (pc' := 190) rfl (hb hby d2_186) (by decide) (by decide) ?_
                    exact k)
                  obtain ⟨fs, hr, hrun, hended, hW, hsame⟩ := X28.leave (v := some (.int (3 : Int32))) (fun h => by rw [Bd.returns] at h; cases h)
                  refine ⟨_, _, go42 _ ?_, hrun, hended, _, _, rfl, ?_, ⟨_, rfl⟩, hW, hsame.mono (by decide) (by decide)⟩
                  · exact own_retI X28 hx Bd.returns (hb hby d2_190) hr
                  · show Q_rm2 Z p0 p1 p2 p3 p4 h0 n0 _ T28.heap _
                    rw [e28]
                    exact ⟨by unfold own_exp; simp only [if_neg hc1, if_pos hc17, if_neg hc19, if_neg hc24, if_neg hc29, if_neg hc34, if_neg hc37, if_pos hc40], N28, rfl⟩
                · skip
                  have go43 := go41.step (C := T28.setTop (mkF m 190 #[.val (.int p0), .val (.int p1), .val (.int p2), .val (.int p3), .val (.int p4), .val (.int (3 : Int32)), .val (.int ((((p0 &&& (15 : Int32)) <<< ((12 : Int32) &&& 31)) ||| ((p1 &&& (63 : Int32)) <<< ((6 : Int32) &&& 31))) ||| (p2 &&& (63 : Int32))))] [(.int (-1 : Int32))])) (fun t k => by
                    show Steps p.tables e below (T28.setTop (mkF m 182 #[.val (.int p0), .val (.int p1), .val (.int p2), .val (.int p3), .val (.int p4), .val (.int (3 : Int32)), .val (.int ((((p0 &&& (15 : Int32)) <<< ((12 : Int32) &&& 31)) ||| ((p1 &&& (63 : Int32)) <<< ((6 : Int32) &&& 31))) ||| (p2 &&& (63 : Int32))))] [(.int (57343 : Int32)), (.int ((((p0 &&& (15 : Int32)) <<< ((12 : Int32) &&& 31)) ||| ((p1 &&& (63 : Int32)) <<< ((6 : Int32) &&& 31))) ||| (p2 &&& (63 : Int32))))])) _
                    refine XS.icmpYes X28.here hx rfl (pc0 := 182) (pc' := 189) rfl (hb hby d2_182) rfl (flt hc40).2.2.2 (by decide) (by decide) ?_
                    show Steps p.tables e below (T28.setTop (mkF m 189 #[.val (.int p0), .val (.int p1), .val (.int p2), .val (.int p3), .val (.int p4), .val (.int (3 : Int32)), .val (.int ((((p0 &&& (15 : Int32)) <<< ((12 : Int32) &&& 31)) ||| ((p1 &&& (63 : Int32)) <<< ((6 : Int32) &&& 31))) ||| (p2 &&& (63 : Int32))))] [])) _
                    refine XS.iconst X28.here hx rfl (hb hby d2_189) ?_
                    exact k)
                  obtain ⟨fs, hr, hrun, hended, hW, hsame⟩ := X28.leave (v := some (.int (-1 : Int32))) (fun h => by rw [Bd.returns] at h; cases h)
                  refine ⟨_, _, go43 _ ?_, hrun, hended, _, _, rfl, ?_, ⟨_, rfl⟩, hW, hsame.mono (by decide) (by decide)⟩
                  · exact own_retI X28 hx Bd.returns (hb hby d2_190) hr
                  · show Q_rm2 Z p0 p1 p2 p3 p4 h0 n0 _ T28.heap _
                    rw [e28]
                    exact ⟨by unfold own_exp; simp only [if_neg hc1, if_pos hc17, if_neg hc19, if_neg hc24, if_neg hc29, if_neg hc34, if_neg hc37, if_neg hc40], N28, rfl⟩
    · skip
      have go45 := go18.step (C := s₁.setTop (mkF m 42 #[.val (.int p0), .val (.int p1), .val (.int p2), .val (.int p3), .val (.int p4), .unset, .unset] [(.int (240 : Int32)), (.int (p0 &&& (248 : Int32)))])) (fun t k => by
        show Steps p.tables e below (s₁.setTop (mkF m 25 #[.val (.int p0), .val (.int p1), .val (.int p2), .val (.int p3), .val (.int p4), .unset, .unset] [(.int (224 : Int32)), (.int (p0 &&& (240 : Int32)))])) _
        refine XS.icmpYes X0.here hx rfl (pc0 := 25) (pc' := 34) rfl (hb hby d2_25) rfl (feq hc17).2 (by decide) (by decide) ?_
        show Steps p.tables e below (s₁.setTop (mkF m 34 #[.val (.int p0), .val (.int p1), .val (.int p2), .val (.int p3), .val (.int p4), .unset, .unset] [])) _
        refine XS.iloadN X0.here hx rfl (hb hby d2_34) rfl ?_
        show Steps p.tables e below (s₁.setTop (mkF m 35 #[.val (.int p0), .val (.int p1), .val (.int p2), .val (.int p3), .val (.int p4), .unset, .unset] [(.int p0)])) _
        refine XS.sipush X0.here hx rfl (hb hby d2_35) ?_
        show Steps p.tables e below (s₁.setTop (mkF m 38 #[.val (.int p0), .val (.int p1), .val (.int p2), .val (.int p3), .val (.int p4), .unset, .unset] [(.int (248 : Int32)), (.int p0)])) _
        refine XS.iand X0.here hx rfl (hb hby d2_38) rfl ?_
        show Steps p.tables e below (s₁.setTop (mkF m 39 #[.val (.int p0), .val (.int p1), .val (.int p2), .val (.int p3), .val (.int p4), .unset, .unset] [(.int (p0 &&& (248 : Int32)))])) _
        refine XS.sipush X0.here hx rfl (hb hby d2_39) ?_
        exact k)
      by_cases hc44 : (p0 &&& (248 : Int32)) = (240 : Int32)
      · skip
        have go47 := go45.step (C := s₁.setTop (mkF m 57 #[.val (.int p0), .val (.int p1), .val (.int p2), .val (.int p3), .val (.int p4), .val (.int (4 : Int32)), .unset] [(.int p4), (.int (4 : Int32))])) (fun t k => by
          show Steps p.tables e below (s₁.setTop (mkF m 42 #[.val (.int p0), .val (.int p1), .val (.int p2), .val (.int p3), .val (.int p4), .unset, .unset] [(.int (240 : Int32)), (.int (p0 &&& (248 : Int32)))])) _
          refine XS.icmpNo X0.here hx rfl (hb hby d2_42) rfl (teq hc44).2 ?_
          show Steps p.tables e below (s₁.setTop (mkF m 45 #[.val (.int p0), .val (.int p1), .val (.int p2), .val (.int p3), .val (.int p4), .unset, .unset] [])) _
          refine XS.iconst X0.here hx rfl (hb hby d2_45) ?_
          show Steps p.tables e below (s₁.setTop (mkF m 46 #[.val (.int p0), .val (.int p1), .val (.int p2), .val (.int p3), .val (.int p4), .unset, .unset] [(.int (4 : Int32))])) _
          refine XS.istore X0.here hx rfl (hb hby d2_46) rfl (l' := #[.val (.int p0), .val (.int p1), .val (.int p2), .val (.int p3), .val (.int p4), .val (.int (4 : Int32)), .unset]) rfl ?_
          show Steps p.tables e below (s₁.setTop (mkF m 48 #[.val (.int p0), .val (.int p1), .val (.int p2), .val (.int p3), .val (.int p4), .val (.int (4 : Int32)), .unset] [])) _
          refine XS.goto X0.here hx rfl (pc0 := 48) (pc' := 53) rfl (hb hby d2_48) (by decide) (by decide) ?_
          show Steps p.tables e below (s₁.setTop (mkF m 53 #[.val (.int p0), .val (.int p1), .val (.int p2), .val (.int p3), .val (.int p4), .val (.int (4 : Int32)), .unset] [])) _
          refine XS.iload X0.here hx rfl (hb hby d2_53) rfl ?_
          show Steps p.tables e below (s₁.setTop (mkF m 55 #[.val (.int p0), .val (.int p1), .val (.int p2), .val (.int p3), .val (.int p4), .val (.int (4 : Int32)), .unset] [(.int (4 : Int32))])) _
          refine XS.iload X0.here hx rfl (hb hby d2_55) rfl ?_
          exact k)
        by_cases hc46 : p4 < (4 : Int32)
        · skip
          have go48 := go47.step (C := s₁.setTop (mkF m 61 #[.val (.int p0), .val (.int p1), .val (.int p2), .val (.int p3), .val (.int p4), .val (.int (4 : Int32)), .unset] [(.int (-1 : Int32))])) (fun t k => by
            show Steps p.tables e below (s₁.setTop (mkF m 57 #[.val (.int p0), .val (.int p1), .val (.int p2), .val (.int p3), .val (.int p4), .val (.int (4 : Int32)), .unset] [(.int p4), (.int (4 : Int32))])) _
            refine XS.icmpNo X0.here hx rfl (hb hby d2_57) rfl (tlt hc46).2.2.2 ?_
            show Steps p.tables e below (s₁.setTop (mkF m 60 #[.val (.int p0), .val (.int p1), .val (.int p2), .val (.int p3), .val (.int p4), .val (.int (4 : Int32)), .unset] [])) _
            refine XS.iconst X0.here hx rfl (hb hby d2_60) ?_
            exact k)
          obtain ⟨fs, hr, hrun, hended, hW, hsame⟩ := X0.leave (v := some (.int (-1 : Int32))) (fun h => by rw [Bd.returns] at h; cases h)
          refine ⟨_, _, go48 _ ?_, hrun, hended, _, _, rfl, ?_, ⟨_, rfl⟩, hW, hsame.mono (by decide) (by decide)⟩
          · exact own_retI X0 hx Bd.returns (hb hby d2_61) hr
          · show Q_rm2 Z p0 p1 p2 p3 p4 h0 n0 _ s₁.heap _
            rw [e0]
            exact ⟨by unfold own_exp; simp only [if_neg hc1, if_neg hc17, if_pos hc44, if_pos hc46], N0, rfl⟩
        · skip
          have go49 := go47.step (C := s₁.setTop (mkF m 63 #[.val (.int p0), .val (.int p1), .val (.int p2), .val (.int p3), .val (.int p4), .val (.int (4 : Int32)), .unset] [(.int p1)])) (fun t k => by
            show Steps p.tables e below (s₁.setTop (mkF m 57 #[.val (.int p0), .val (.int p1), .val (.int p2), .val (.int p3), .val (.int p4), .val (.int (4 : Int32)), .unset] [(.int p4), (.int (4 : Int32))])) _
            refine XS.icmpYes X0.here hx rfl (pc0 := 57) (pc' := 62) rfl (hb hby d2_57) rfl (flt hc46).2.2.2 (by decide) (by decide) ?_
            show Steps p.tables e below (s₁.setTop (mkF m 62 #[.val (.int p0), .val (.int p1), .val (.int p2), .val (.int p3), .val (.int p4), .val (.int (4 : Int32)), .unset] [])) _
            refine XS.iloadN X0.here hx rfl (hb hby d2_62) rfl ?_
            exact k)
          obtain ⟨_, _, ⟨T50, L50, k50, n50⟩, -, X50, ⟨Lc50, hQ50, l50, y50, z50⟩, st50⟩ := Jvm.LawKit.callS X0 hx (y := (⟨"com/example/graphkind/graphkind/Utf8LengthPinLaw", "cont", "(I)Z"⟩ : MethodName)) hown (mvT hZ (hw _ (List.mem_of_getElem? (i := 10) rfl))) (mvT hZ (hw _ (List.mem_of_getElem? (i := 11) rfl))) (mvT hZ (hw _ (List.mem_of_getElem? (i := 8) rfl))) (mvT hZ (hw _ (List.mem_of_getElem? (i := 12) rfl))) (by decide) (backOf (W := 0) (rm3 l Z a0 hw [] p1 h0 n0 Z0 ) hZ (hw _ (List.mem_of_getElem? (i := 12) rfl)) (hw _ (List.mem_of_getElem? (i := 8) rfl)) (by decide) (by decide)) (g := (mkF m 63 #[.val (.int p0), .val (.int p1), .val (.int p2), .val (.int p3), .val (.int p4), .val (.int (4 : Int32)), .unset] [(.int p1)])) rfl (by rw [hml]; rfl) (argsL := [(.int p1)]) (rest := []) (lenOf pd2_0 rfl) rfl (by show 2 * 0 + _ ≤ _; exact Nat.le_of_eq rfl) (hb hby d2_63) (fun _ _ => ⟨rfl, e0, (by decide : 0 + 0 ≤ _), (by decide : 0 + 0 ≤ _)⟩)
          dsimp only [Pt.U, Pt.locs, Pt.cells, Pt.slots] at X50 l50 y50 z50 st50 hQ50
          rw [l50, y50, z50] at X50
          obtain ⟨rfl, N50q, e50⟩ := hQ50
          have N50 := Fr.app N0 N50q
          have go50 := go49.step (C := T50.setTop (mkF m 66 #[.val (.int p0), .val (.int p1), .val (.int p2), .val (.int p3), .val (.int p4), .val (.int (4 : Int32)), .unset] [(.int (own_cont p1))])) (fun t k => st50 t k)
          by_cases hc51 : (own_cont p1) = (0 : Int32)
          · skip
            have go52 := go50.step (C := T50.setTop (mkF m 70 #[.val (.int p0), .val (.int p1), .val (.int p2), .val (.int p3), .val (.int p4), .val (.int (4 : Int32)), .unset] [(.int (-1 : Int32))])) (fun t k => by
              show Steps p.tables e below (T50.setTop (mkF m 66 #[.val (.int p0), .val (.int p1), .val (.int p2), .val (.int p3), .val (.int p4), .val (.int (4 : Int32)), .unset] [(.int (own_cont p1))])) _
              refine XS.ifNo X50.here hx rfl (hb hby d2_66) rfl ((if0 _ _).trans (teq hc51).2) ?_
              show Steps p.tables e below (T50.setTop (mkF m 69 #[.val (.int p0), .val (.int p1), .val (.int p2), .val (.int p3), .val (.int p4), .val (.int (4 : Int32)), .unset] [])) _
              refine XS.iconst X50.here hx rfl (hb hby d2_69) ?_
              exact k)
            obtain ⟨fs, hr, hrun, hended, hW, hsame⟩ := X50.leave (v := some (.int (-1 : Int32))) (fun h => by rw [Bd.returns] at h; cases h)
            refine ⟨_, _, go52 _ ?_, hrun, hended, _, _, rfl, ?_, ⟨_, rfl⟩, hW, hsame.mono (by decide) (by decide)⟩
            · exact own_retI X50 hx Bd.returns (hb hby d2_70) hr
            · show Q_rm2 Z p0 p1 p2 p3 p4 h0 n0 _ T50.heap _
              rw [e50]
              exact ⟨by unfold own_exp; simp only [if_neg hc1, if_neg hc17, if_pos hc44, if_neg hc46, if_pos hc51], N50, rfl⟩
          · skip
            have go54 := go50.step (C := T50.setTop (mkF m 78 #[.val (.int p0), .val (.int p1), .val (.int p2), .val (.int p3), .val (.int p4), .val (.int (4 : Int32)), .unset] [(.int p2)])) (fun t k => by
              show Steps p.tables e below (T50.setTop (mkF m 66 #[.val (.int p0), .val (.int p1), .val (.int p2), .val (.int p3), .val (.int p4), .val (.int (4 : Int32)), .unset] [(.int (own_cont p1))])) _
              refine XS.ifYes X50.here hx rfl (pc0 := 66) (pc' := 71) rfl (hb hby d2_66) rfl ((if0 _ _).trans (feq hc51).2) (by decide) (by decide) ?_
              show Steps p.tables e below (T50.setTop (mkF m 71 #[.val (.int p0), .val (.int p1), .val (.int p2), .val (.int p3), .val (.int p4), .val (.int (4 : Int32)), .unset] [])) _
              refine XS.iload X50.here hx rfl (hb hby d2_71) rfl ?_
              show Steps p.tables e below (T50.setTop (mkF m 73 #[.val (.int p0), .val (.int p1), .val (.int p2), .val (.int p3), .val (.int p4), .val (.int (4 : Int32)), .unset] [(.int (4 : Int32))])) _
              refine XS.iconst X50.here hx rfl (hb hby d2_73) ?_
              show Steps p.tables e below (T50.setTop (mkF m 74 #[.val (.int p0), .val (.int p1), .val (.int p2), .val (.int p3), .val (.int p4), .val (.int (4 : Int32)), .unset] [(.int (3 : Int32)), (.int (4 : Int32))])) _
              refine XS.icmpNo X50.here hx rfl (hb hby d2_74) rfl (flt ((by decide) : ¬ ((4 : Int32) < (3 : Int32)))).1 ?_
              show Steps p.tables e below (T50.setTop (mkF m 77 #[.val (.int p0), .val (.int p1), .val (.int p2), .val (.int p3), .val (.int p4), .val (.int (4 : Int32)), .unset] [])) _
              refine XS.iloadN X50.here hx rfl (hb hby d2_77) rfl ?_
              exact k)
            obtain ⟨_, _, ⟨T55, L55, k55, n55⟩, -, X55, ⟨Lc55, hQ55, l55, y55, z55⟩, st55⟩ := Jvm.LawKit.callS X50 hx (y := (⟨"com/example/graphkind/graphkind/Utf8LengthPinLaw", "cont", "(I)Z"⟩ : MethodName)) hown (mvT hZ (hw _ (List.mem_of_getElem? (i := 10) rfl))) (mvT hZ (hw _ (List.mem_of_getElem? (i := 11) rfl))) (mvT hZ (hw _ (List.mem_of_getElem? (i := 8) rfl))) (mvT hZ (hw _ (List.mem_of_getElem? (i := 12) rfl))) (by decide) (backOf (W := 0) (rm3 l Z a0 hw [] p2 h0 n0 Z0 ) hZ (hw _ (List.mem_of_getElem? (i := 12) rfl)) (hw _ (List.mem_of_getElem? (i := 8) rfl)) (by decide) (by decide)) (g := (mkF m 78 #[.val (.int p0), .val (.int p1), .val (.int p2), .val (.int p3), .val (.int p4), .val (.int (4 : Int32)), .unset] [(.int p2)])) rfl (by rw [hml]; rfl) (argsL := [(.int p2)]) (rest := []) (lenOf pd2_0 rfl) rfl (by show 2 * 0 + _ ≤ _; exact Nat.le_of_eq rfl) (hb hby d2_78) (fun _ _ => ⟨rfl, e50, (by decide : 0 + 0 ≤ _), (by decide : 0 + 0 ≤ _)⟩)
            dsimp only [Pt.U, Pt.locs, Pt.cells, Pt.slots] at X55 l55 y55 z55 st55 hQ55
            rw [l55, y55, z55] at X55
            obtain ⟨rfl, N55q, e55⟩ := hQ55
            have N55 := Fr.app N50 N55q
            have go55 := go54.step (C := T55.setTop (mkF m 81 #[.val (.int p0), .val (.int p1), .val (.int p2), .val (.int p3), .val (.int p4), .val (.int (4 : Int32)), .unset] [(.int (own_cont p2))])) (fun t k => st55 t k)
            by_cases hc56 : (own_cont p2) = (0 : Int32)
            · skip
              have go57 := go55.step (C := T55.setTop (mkF m 85 #[.val (.int p0), .val (.int p1), .val (.int p2), .val (.int p3), .val (.int p4), .val (.int (4 : Int32)), .unset] [(.int (-1 : Int32))])) (fun t k => by
                show Steps p.tables e below (T55.setTop (mkF m 81 #[.val (.int p0), .val (.int p1), .val (.int p2), .val (.int p3), .val (.int p4), .val (.int (4 : Int32)), .unset] [(.int (own_cont p2))])) _
                refine XS.ifNo X55.here hx rfl (hb hby d2_81) rfl ((if0 _ _).trans (teq hc56).2) ?_
                show Steps p.tables e below (T55.setTop (mkF m 84 #[.val (.int p0), .val (.int p1), .val (.int p2), .val (.int p3), .val (.int p4), .val (.int (4 : Int32)), .unset] [])) _
                refine XS.iconst X55.here hx rfl (hb hby d2_84) ?_
                exact k)
              obtain ⟨fs, hr, hrun, hended, hW, hsame⟩ := X55.leave (v := some (.int (-1 : Int32))) (fun h => by rw [Bd.returns] at h; cases h)
              refine ⟨_, _, go57 _ ?_, hrun, hended, _, _, rfl, ?_, ⟨_, rfl⟩, hW, hsame.mono (by decide) (by decide)⟩
              · exact own_retI X55 hx Bd.returns (hb hby d2_85) hr
              · show Q_rm2 Z p0 p1 p2 p3 p4 h0 n0 _ T55.heap _
                rw [e55]
                exact ⟨by unfold own_exp; simp only [if_neg hc1, if_neg hc17, if_pos hc44, if_neg hc46, if_neg hc51, if_pos hc56], N55, rfl⟩
            · skip
              have go59 := go55.step (C := T55.setTop (mkF m 93 #[.val (.int p0), .val (.int p1), .val (.int p2), .val (.int p3), .val (.int p4), .val (.int (4 : Int32)), .unset] [(.int p3)])) (fun t k => by
                show Steps p.tables e below (T55.setTop (mkF m 81 #[.val (.int p0), .val (.int p1), .val (.int p2), .val (.int p3), .val (.int p4), .val (.int (4 : Int32)), .unset] [(.int (own_cont p2))])) _
                refine XS.ifYes X55.here hx rfl (pc0 := 81) (pc' := 86) rfl (hb hby d2_81) rfl ((if0 _ _).trans (feq hc56).2) (by decide) (by decide) ?_
                show Steps p.tables e below (T55.setTop (mkF m 86 #[.val (.int p0), .val (.int p1), .val (.int p2), .val (.int p3), .val (.int p4), .val (.int (4 : Int32)), .unset] [])) _
                refine XS.iload X55.here hx rfl (hb hby d2_86) rfl ?_
                show Steps p.tables e below (T55.setTop (mkF m 88 #[.val (.int p0), .val (.int p1), .val (.int p2), .val (.int p3), .val (.int p4), .val (.int (4 : Int32)), .unset] [(.int (4 : Int32))])) _
                refine XS.iconst X55.here hx rfl (hb hby d2_88) ?_
                show Steps p.tables e below (T55.setTop (mkF m 89 #[.val (.int p0), .val (.int p1), .val (.int p2), .val (.int p3), .val (.int p4), .val (.int (4 : Int32)), .unset] [(.int (4 : Int32)), (.int (4 : Int32))])) _
                refine XS.icmpNo X55.here hx rfl (hb hby d2_89) rfl (teq ((by decide) : (4 : Int32) = (4 : Int32))).2 ?_
                show Steps p.tables e below (T55.setTop (mkF m 92 #[.val (.int p0), .val (.int p1), .val (.int p2), .val (.int p3), .val (.int p4), .val (.int (4 : Int32)), .unset] [])) _
                refine XS.iloadN X55.here hx rfl (hb hby d2_92) rfl ?_
                exact k)
              obtain ⟨_, _, ⟨T60, L60, k60, n60⟩, -, X60, ⟨Lc60, hQ60, l60, y60, z60⟩, st60⟩ := Jvm.LawKit.callS X55 hx (y := (⟨"com/example/graphkind/graphkind/Utf8LengthPinLaw", "cont", "(I)Z"⟩ : MethodName)) hown (mvT hZ (hw _ (List.mem_of_getElem? (i := 10) rfl))) (mvT hZ (hw _ (List.mem_of_getElem? (i := 11) rfl))) (mvT hZ (hw _ (List.mem_of_getElem? (i := 8) rfl))) (mvT hZ (hw _ (List.mem_of_getElem? (i := 12) rfl))) (by decide) (backOf (W := 0) (rm3 l Z a0 hw [] p3 h0 n0 Z0 ) hZ (hw _ (List.mem_of_getElem? (i := 12) rfl)) (hw _ (List.mem_of_getElem? (i := 8) rfl)) (by decide) (by decide)) (g := (mkF m 93 #[.val (.int p0), .val (.int p1), .val (.int p2), .val (.int p3), .val (.int p4), .val (.int (4 : Int32)), .unset] [(.int p3)])) rfl (by rw [hml]; rfl) (argsL := [(.int p3)]) (rest := []) (lenOf pd2_0 rfl) rfl (by show 2 * 0 + _ ≤ _; exact Nat.le_of_eq rfl) (hb hby d2_93) (fun _ _ => ⟨rfl, e55, (by decide : 0 + 0 ≤ _), (by decide : 0 + 0 ≤ _)⟩)
              dsimp only [Pt.U, Pt.locs, Pt.cells, Pt.slots] at X60 l60 y60 z60 st60 hQ60
              rw [l60, y60, z60] at X60
              obtain ⟨rfl, N60q, e60⟩ := hQ60
              have N60 := Fr.app N55 N60q
              have go60 := go59.step (C := T60.setTop (mkF m 96 #[.val (.int p0), .val (.int p1), .val (.int p2), .val (.int p3), .val (.int p4), .val (.int (4 : Int32)), .unset] [(.int (own_cont p3))])) (fun t k => st60 t k)
              by_cases hc61 : (own_cont p3) = (0 : Int32)
              · skip
                have go62 := go60.step (C := T60.setTop (mkF m 100 #[.val (.int p0), .val (.int p1), .val (.int p2), .val (.int p3), .val (.int p4), .val (.int (4 : Int32)), .unset] [(.int (-1 : Int32))])) (fun t k => by
                  show Steps p.tables e below (T60.setTop (mkF m 96 #[.val (.int p0), .val (.int p1), .val (.int p2), .val (.int p3), .val (.int p4), .val (.int (4 : Int32)), .unset] [(.int (own_cont p3))])) _
                  refine XS.ifNo X60.here hx rfl (hb hby d2_96) rfl ((if0 _ _).trans (teq hc61).2) ?_
                  show Steps p.tables e below (T60.setTop (mkF m 99 #[.val (.int p0), .val (.int p1), .val (.int p2), .val (.int p3), .val (.int p4), .val (.int (4 : Int32)), .unset] [])) _
                  refine XS.iconst X60.here hx rfl (hb hby d2_99) ?_
                  exact k)
                obtain ⟨fs, hr, hrun, hended, hW, hsame⟩ := X60.leave (v := some (.int (-1 : Int32))) (fun h => by rw [Bd.returns] at h; cases h)
                refine ⟨_, _, go62 _ ?_, hrun, hended, _, _, rfl, ?_, ⟨_, rfl⟩, hW, hsame.mono (by decide) (by decide)⟩
                · exact own_retI X60 hx Bd.returns (hb hby d2_100) hr
                · show Q_rm2 Z p0 p1 p2 p3 p4 h0 n0 _ T60.heap _
                  rw [e60]
                  exact ⟨by unfold own_exp; simp only [if_neg hc1, if_neg hc17, if_pos hc44, if_neg hc46, if_neg hc51, if_neg hc56, if_pos hc61], N60, rfl⟩
              · skip
                have go66 := go60.step (C := T60.setTop (mkF m 225 #[.val (.int p0), .val (.int p1), .val (.int p2), .val (.int p3), .val (.int p4), .val (.int (4 : Int32)), .val (.int (((((p0 &&& (7 : Int32)) <<< ((18 : Int32) &&& 31)) ||| ((p1 &&& (63 : Int32)) <<< ((12 : Int32) &&& 31))) ||| ((p2 &&& (63 : Int32)) <<< ((6 : Int32) &&& 31))) ||| (p3 &&& (63 : Int32))))] [(.int (65536 : Int32)), (.int (((((p0 &&& (7 : Int32)) <<< ((18 : Int32) &&& 31)) ||| ((p1 &&& (63 : Int32)) <<< ((12 : Int32) &&& 31))) ||| ((p2 &&& (63 : Int32)) <<< ((6 : Int32) &&& 31))) ||| (p3 &&& (63 : Int32))))])) (fun t k => by
                  show Steps p.tables e below (T60.setTop (mkF m 96 #[.val (.int p0), .val (.int p1), .val (.int p2), .val (.int p3), .val (.int p4), .val (.int (4 : Int32)), .unset] [(.int (own_cont p3))])) _
                  refine XS.ifYes X60.here hx rfl (pc0 := 96) (pc' := 101) rfl (hb hby d2_96) rfl ((if0 _ _).trans (feq hc61).2) (by decide) (by decide) ?_
                  show Steps p.tables e below (T60.setTop (mkF m 101 #[.val (.int p0), .val (.int p1), .val (.int p2), .val (.int p3), .val (.int p4), .val (.int (4 : Int32)), .unset] [])) _
                  refine XS.iload X60.here hx rfl (hb hby d2_101) rfl ?_
                  show Steps p.tables e below (T60.setTop (mkF m 103 #[.val (.int p0), .val (.int p1), .val (.int p2), .val (.int p3), .val (.int p4), .val (.int (4 : Int32)), .unset] [(.int (4 : Int32))])) _
                  refine XS.iconst X60.here hx rfl (hb hby d2_103) ?_
                  show Steps p.tables e below (T60.setTop (mkF m 104 #[.val (.int p0), .val (.int p1), .val (.int p2), .val (.int p3), .val (.int p4), .val (.int (4 : Int32)), .unset] [(.int (2 : Int32)), (.int (4 : Int32))])) _
                  refine XS.icmpYes X60.here hx rfl (pc0 := 104) (pc' := 135) rfl (hb hby d2_104) rfl (feq ((by decide) : ¬ ((4 : Int32) = (2 : Int32)))).2 (by decide) (by decide) ?_
                  show Steps p.tables e below (T60.setTop (mkF m 135 #[.val (.int p0), .val (.int p1), .val (.int p2), .val (.int p3), .val (.int p4), .val (.int (4 : Int32)), .unset] [])) _
                  refine XS.iload X60.here hx rfl (hb hby d2_135) rfl ?_
                  show Steps p.tables e below (T60.setTop (mkF m 137 #[.val (.int p0), .val (.int p1), .val (.int p2), .val (.int p3), .val (.int p4), .val (.int (4 : Int32)), .unset] [(.int (4 : Int32))])) _
                  refine XS.iconst X60.here hx rfl (hb hby d2_137) ?_
                  show Steps p.tables e below (T60.setTop (mkF m 138 #[.val (.int p0), .val (.int p1), .val (.int p2), .val (.int p3), .val (.int p4), .val (.int (4 : Int32)), .unset] [(.int (3 : Int32)), (.int (4 : Int32))])) _
                  refine XS.icmpYes X60.here hx rfl (pc0 := 138) (pc' := 191) rfl (hb hby d2_138) rfl (feq ((by decide) : ¬ ((4 : Int32) = (3 : Int32)))).2 (by decide) (by decide) ?_
                  show Steps p.tables e below (T60.setTop (mkF m 191 #[.val (.int p0), .val (.int p1), .val (.int p2), .val (.int p3), .val (.int p4), .val (.int (4 : Int32)), .unset] [])) _
                  refine XS.iloadN X60.here hx rfl (hb hby d2_191) rfl ?_
                  show Steps p.tables e below (T60.setTop (mkF m 192 #[.val (.int p0), .val (.int p1), .val (.int p2), .val (.int p3), .val (.int p4), .val (.int (4 : Int32)), .unset] [(.int p0)])) _
                  refine XS.bipush X60.here hx rfl (hb hby d2_192) ?_
                  show Steps p.tables e below (T60.setTop (mkF m 194 #[.val (.int p0), .val (.int p1), .val (.int p2), .val (.int p3), .val (.int p4), .val (.int (4 : Int32)), .unset] [(.int (7 : Int32)), (.int p0)])) _
                  refine XS.iand X60.here hx rfl (hb hby d2_194) rfl ?_
                  show Steps p.tables e below (T60.setTop (mkF m 195 #[.val (.int p0), .val (.int p1), .val (.int p2), .val (.int p3), .val (.int p4), .val (.int (4 : Int32)), .unset] [(.int (p0 &&& (7 : Int32)))])) _
                  refine XS.bipush X60.here hx rfl (hb hby d2_195) ?_
                  show Steps p.tables e below (T60.setTop (mkF m 197 #[.val (.int p0), .val (.int p1), .val (.int p2), .val (.int p3), .val (.int p4), .val (.int (4 : Int32)), .unset] [(.int (18 : Int32)), (.int (p0 &&& (7 : Int32)))])) _
                  refine XS.ishl X60.here hx rfl (hb hby d2_197) rfl ?_
                  show Steps p.tables e below (T60.setTop (mkF m 198 #[.val (.int p0), .val (.int p1), .val (.int p2), .val (.int p3), .val (.int p4), .val (.int (4 : Int32)), .unset] [(.int ((p0 &&& (7 : Int32)) <<< ((18 : Int32) &&& 31)))])) _
                  refine XS.iloadN X60.here hx rfl (hb hby d2_198) rfl ?_
                  show Steps p.tables e below (T60.setTop (mkF m 199 #[.val (.int p0), .val (.int p1), .val (.int p2), .val (.int p3), .val (.int p4), .val (.int (4 : Int32)), .unset] [(.int p1), (.int ((p0 &&& (7 : Int32)) <<< ((18 : Int32) &&& 31)))])) _
                  refine XS.bipush X60.here hx rfl (hb hby d2_199) ?_
                  show Steps p.tables e below (T60.setTop (mkF m 201 #[.val (.int p0), .val (.int p1), .val (.int p2), .val (.int p3), .val (.int p4), .val (.int (4 : Int32)), .unset] [(.int (63 : Int32)), (.int p1), (.int ((p0 &&& (7 : Int32)) <<< ((18 : Int32) &&& 31)))])) _
                  refine XS.iand X60.here hx rfl (hb hby d2_201) rfl ?_
                  show Steps p.tables e below (T60.setTop (mkF m 202 #[.val (.int p0), .val (.int p1), .val (.int p2), .val (.int p3), .val (.int p4), .val (.int (4 : Int32)), .unset] [(.int (p1 &&& (63 : Int32))), (.int ((p0 &&& (7 : Int32)) <<< ((18 : Int32) &&& 31)))])) _
                  refine XS.bipush X60.here hx rfl (hb hby d2_202) ?_
                  show Steps p.tables e below (T60.setTop (mkF m 204 #[.val (.int p0), .val (.int p1), .val (.int p2), .val (.int p3), .val (.int p4), .val (.int (4 : Int32)), .unset] [(.int (12 : Int32)), (.int (p1 &&& (63 : Int32))), (.int ((p0 &&& (7 : Int32)) <<< ((18 : Int32) &&& 31)))])) _
                  refine XS.ishl X60.here hx rfl (hb hby d2_204) rfl ?_
                  show Steps p.tables e below (T60.setTop (mkF m 205 #[.val (.int p0), .val (.int p1), .val (.int p2), .val (.int p3), .val (.int p4), .val (.int (4 : Int32)), .unset] [(.int ((p1 &&& (63 : Int32)) <<< ((12 : Int32) &&& 31))), (.int ((p0 &&& (7 : Int32)) <<< ((18 : Int32) &&& 31)))])) _
                  refine XS.ior X60.here hx rfl (hb hby d2_205) rfl ?_
                  show Steps p.tables e below (T60.setTop (mkF m 206 #[.val (.int p0), .val (.int p1), .val (.int p2), .val (.int p3), .val (.int p4), .val (.int (4 : Int32)), .unset] [(.int (((p0 &&& (7 : Int32)) <<< ((18 : Int32) &&& 31)) ||| ((p1 &&& (63 : Int32)) <<< ((12 : Int32) &&& 31))))])) _
                  refine XS.iloadN X60.here hx rfl (hb hby d2_206) rfl ?_
                  show Steps p.tables e below (T60.setTop (mkF m 207 #[.val (.int p0), .val (.int p1), .val (.int p2), .val (.int p3), .val (.int p4), .val (.int (4 : Int32)), .unset] [(.int p2), (.int (((p0 &&& (7 : Int32)) <<< ((18 : Int32) &&& 31)) ||| ((p1 &&& (63 : Int32)) <<< ((12 : Int32) &&& 31))))])) _
                  refine XS.bipush X60.here hx rfl (hb hby d2_207) ?_
                  show Steps p.tables e below (T60.setTop (mkF m 209 #[.val (.int p0), .val (.int p1), .val (.int p2), .val (.int p3), .val (.int p4), .val (.int (4 : Int32)), .unset] [(.int (63 : Int32)), (.int p2), (.int (((p0 &&& (7 : Int32)) <<< ((18 : Int32) &&& 31)) ||| ((p1 &&& (63 : Int32)) <<< ((12 : Int32) &&& 31))))])) _
                  refine XS.iand X60.here hx rfl (hb hby d2_209) rfl ?_
                  show Steps p.tables e below (T60.setTop (mkF m 210 #[.val (.int p0), .val (.int p1), .val (.int p2), .val (.int p3), .val (.int p4), .val (.int (4 : Int32)), .unset] [(.int (p2 &&& (63 : Int32))), (.int (((p0 &&& (7 : Int32)) <<< ((18 : Int32) &&& 31)) ||| ((p1 &&& (63 : Int32)) <<< ((12 : Int32) &&& 31))))])) _
                  refine XS.bipush X60.here hx rfl (hb hby d2_210) ?_
                  show Steps p.tables e below (T60.setTop (mkF m 212 #[.val (.int p0), .val (.int p1), .val (.int p2), .val (.int p3), .val (.int p4), .val (.int (4 : Int32)), .unset] [(.int (6 : Int32)), (.int (p2 &&& (63 : Int32))), (.int (((p0 &&& (7 : Int32)) <<< ((18 : Int32) &&& 31)) ||| ((p1 &&& (63 : Int32)) <<< ((12 : Int32) &&& 31))))])) _
                  refine XS.ishl X60.here hx rfl (hb hby d2_212) rfl ?_
                  show Steps p.tables e below (T60.setTop (mkF m 213 #[.val (.int p0), .val (.int p1), .val (.int p2), .val (.int p3), .val (.int p4), .val (.int (4 : Int32)), .unset] [(.int ((p2 &&& (63 : Int32)) <<< ((6 : Int32) &&& 31))), (.int (((p0 &&& (7 : Int32)) <<< ((18 : Int32) &&& 31)) ||| ((p1 &&& (63 : Int32)) <<< ((12 : Int32) &&& 31))))])) _
                  refine XS.ior X60.here hx rfl (hb hby d2_213) rfl ?_
                  show Steps p.tables e below (T60.setTop (mkF m 214 #[.val (.int p0), .val (.int p1), .val (.int p2), .val (.int p3), .val (.int p4), .val (.int (4 : Int32)), .unset] [(.int ((((p0 &&& (7 : Int32)) <<< ((18 : Int32) &&& 31)) ||| ((p1 &&& (63 : Int32)) <<< ((12 : Int32) &&& 31))) ||| ((p2 &&& (63 : Int32)) <<< ((6 : Int32) &&& 31))))])) _
                  refine XS.iloadN X60.here hx rfl (hb hby d2_214) rfl ?_
                  show Steps p.tables e below (T60.setTop (mkF m 215 #[.val (.int p0), .val (.int p1), .val (.int p2), .val (.int p3), .val (.int p4), .val (.int (4 : Int32)), .unset] [(.int p3), (.int ((((p0 &&& (7 : Int32)) <<< ((18 : Int32) &&& 31)) ||| ((p1 &&& (63 : Int32)) <<< ((12 : Int32) &&& 31))) ||| ((p2 &&& (63 : Int32)) <<< ((6 : Int32) &&& 31))))])) _
                  refine XS.bipush X60.here hx rfl (hb hby d2_215) ?_
                  show Steps p.tables e below (T60.setTop (mkF m 217 #[.val (.int p0), .val (.int p1), .val (.int p2), .val (.int p3), .val (.int p4), .val (.int (4 : Int32)), .unset] [(.int (63 : Int32)), (.int p3), (.int ((((p0 &&& (7 : Int32)) <<< ((18 : Int32) &&& 31)) ||| ((p1 &&& (63 : Int32)) <<< ((12 : Int32) &&& 31))) ||| ((p2 &&& (63 : Int32)) <<< ((6 : Int32) &&& 31))))])) _
                  refine XS.iand X60.here hx rfl (hb hby d2_217) rfl ?_
                  show Steps p.tables e below (T60.setTop (mkF m 218 #[.val (.int p0), .val (.int p1), .val (.int p2), .val (.int p3), .val (.int p4), .val (.int (4 : Int32)), .unset] [(.int (p3 &&& (63 : Int32))), (.int ((((p0 &&& (7 : Int32)) <<< ((18 : Int32) &&& 31)) ||| ((p1 &&& (63 : Int32)) <<< ((12 : Int32) &&& 31))) ||| ((p2 &&& (63 : Int32)) <<< ((6 : Int32) &&& 31))))])) _
                  refine XS.ior X60.here hx rfl (hb hby d2_218) rfl ?_
                  show Steps p.tables e below (T60.setTop (mkF m 219 #[.val (.int p0), .val (.int p1), .val (.int p2), .val (.int p3), .val (.int p4), .val (.int (4 : Int32)), .unset] [(.int (((((p0 &&& (7 : Int32)) <<< ((18 : Int32) &&& 31)) ||| ((p1 &&& (63 : Int32)) <<< ((12 : Int32) &&& 31))) ||| ((p2 &&& (63 : Int32)) <<< ((6 : Int32) &&& 31))) ||| (p3 &&& (63 : Int32))))])) _
                  refine XS.istore X60.here hx rfl (hb hby d2_219) rfl (l' := #[.val (.int p0), .val (.int p1), .val (.int p2), .val (.int p3), .val (.int p4), .val (.int (4 : Int32)), .val (.int (((((p0 &&& (7 : Int32)) <<< ((18 : Int32) &&& 31)) ||| ((p1 &&& (63 : Int32)) <<< ((12 : Int32) &&& 31))) ||| ((p2 &&& (63 : Int32)) <<< ((6 : Int32) &&& 31))) ||| (p3 &&& (63 : Int32))))]) rfl ?_
                  show Steps p.tables e below (T60.setTop (mkF m 221 #[.val (.int p0), .val (.int p1), .val (.int p2), .val (.int p3), .val (.int p4), .val (.int (4 : Int32)), .val (.int (((((p0 &&& (7 : Int32)) <<< ((18 : Int32) &&& 31)) ||| ((p1 &&& (63 : Int32)) <<< ((12 : Int32) &&& 31))) ||| ((p2 &&& (63 : Int32)) <<< ((6 : Int32) &&& 31))) ||| (p3 &&& (63 : Int32))))] [])) _
                  refine XS.iload X60.here hx rfl (hb hby d2_221) rfl ?_
                  show Steps p.tables e below (T60.setTop (mkF m 223 #[.val (.int p0), .val (.int p1), .val (.int p2), .val (.int p3), .val (.int p4), .val (.int (4 : Int32)), .val (.int (((((p0 &&& (7 : Int32)) <<< ((18 : Int32) &&& 31)) ||| ((p1 &&& (63 : Int32)) <<< ((12 : Int32) &&& 31))) ||| ((p2 &&& (63 : Int32)) <<< ((6 : Int32) &&& 31))) ||| (p3 &&& (63 : Int32))))] [(.int (((((p0 &&& (7 : Int32)) <<< ((18 : Int32) &&& 31)) ||| ((p1 &&& (63 : Int32)) <<< ((12 : Int32) &&& 31))) ||| ((p2 &&& (63 : Int32)) <<< ((6 : Int32) &&& 31))) ||| (p3 &&& (63 : Int32))))])) _
                  refine X60.ldcInt hx hown (mvT hZ (hw _ (List.mem_of_getElem? (i := 15) rfl))) (g := (mkF m 223 #[.val (.int p0), .val (.int p1), .val (.int p2), .val (.int p3), .val (.int p4), .val (.int (4 : Int32)), .val (.int (((((p0 &&& (7 : Int32)) <<< ((18 : Int32) &&& 31)) ||| ((p1 &&& (63 : Int32)) <<< ((12 : Int32) &&& 31))) ||| ((p2 &&& (63 : Int32)) <<< ((6 : Int32) &&& 31))) ||| (p3 &&& (63 : Int32))))] [(.int (((((p0 &&& (7 : Int32)) <<< ((18 : Int32) &&& 31)) ||| ((p1 &&& (63 : Int32)) <<< ((12 : Int32) &&& 31))) ||| ((p2 &&& (63 : Int32)) <<< ((6 : Int32) &&& 31))) ||| (p3 &&& (63 : Int32))))])) rfl (hb hby d2_223) _ ?_
                  exact k)
                by_cases hc65 : (((((p0 &&& (7 : Int32)) <<< ((18 : Int32) &&& 31)) ||| ((p1 &&& (63 : Int32)) <<< ((12 : Int32) &&& 31))) ||| ((p2 &&& (63 : Int32)) <<< ((6 : Int32) &&& 31))) ||| (p3 &&& (63 : Int32))) < (65536 : Int32)
                · skip
                  have go67 := go66.step (C := T60.setTop (mkF m 240 #[.val (.int p0), .val (.int p1), .val (.int p2), .val (.int p3), .val (.int p4), .val (.int (4 : Int32)), .val (.int (((((p0 &&& (7 : Int32)) <<< ((18 : Int32) &&& 31)) ||| ((p1 &&& (63 : Int32)) <<< ((12 : Int32) &&& 31))) ||| ((p2 &&& (63 : Int32)) <<< ((6 : Int32) &&& 31))) ||| (p3 &&& (63 : Int32))))] [(.int (-1 : Int32))])) (fun t k => by
                    show Steps p.tables e below (T60.setTop (mkF m 225 #[.val (.int p0), .val (.int p1), .val (.int p2), .val (.int p3), .val (.int p4), .val (.int (4 : Int32)), .val (.int (((((p0 &&& (7 : Int32)) <<< ((18 : Int32) &&& 31)) ||| ((p1 &&& (63 : Int32)) <<< ((12 : Int32) &&& 31))) ||| ((p2 &&& (63 : Int32)) <<< ((6 : Int32) &&& 31))) ||| (p3 &&& (63 : Int32))))] [(.int (65536 : Int32)), (.int (((((p0 &&& (7 : Int32)) <<< ((18 : Int32) &&& 31)) ||| ((p1 &&& (63 : Int32)) <<< ((12 : Int32) &&& 31))) ||| ((p2 &&& (63 : Int32)) <<< ((6 : Int32) &&& 31))) ||| (p3 &&& (63 : Int32))))])) _
                    refine XS.icmpYes X60.here hx rfl (pc0 := 225) (pc' := 239) rfl (hb hby d2_225) rfl (tlt hc65).1 (by decide) (by decide) ?_
                    show Steps p.tables e below (T60.setTop (mkF m 239 #[.val (.int p0), .val (.int p1), .val (.int p2), .val (.int p3), .val (.int p4), .val (.int (4 : Int32)), .val (.int (((((p0 &&& (7 : Int32)) <<< ((18 : Int32) &&& 31)) ||| ((p1 &&& (63 : Int32)) <<< ((12 : Int32) &&& 31))) ||| ((p2 &&& (63 : Int32)) <<< ((6 : Int32) &&& 31))) ||| (p3 &&& (63 : Int32))))] [])) _
                    refine XS.iconst X60.here hx rfl (hb hby d2_239) ?_
                    exact k)
                  obtain ⟨fs, hr, hrun, hended, hW, hsame⟩ := X60.leave (v := some (.int (-1 : Int32))) (fun h => by rw [Bd.returns] at h; cases h)
                  refine ⟨_, _, go67 _ ?_, hrun, hended, _, _, rfl, ?_, ⟨_, rfl⟩, hW, hsame.mono (by decide) (by decide)⟩
                  · exact own_retI X60 hx Bd.returns (hb hby d2_240) hr
                  · show Q_rm2 Z p0 p1 p2 p3 p4 h0 n0 _ T60.heap _
                    rw [e60]
                    exact ⟨by unfold own_exp; simp only [if_neg hc1, if_neg hc17, if_pos hc44, if_neg hc46, if_neg hc51, if_neg hc56, if_neg hc61, if_pos hc65], N60, rfl⟩
                · skip
                  have go69 := go66.step (C := T60.setTop (mkF m 232 #[.val (.int p0), .val (.int p1), .val (.int p2), .val (.int p3), .val (.int p4), .val (.int (4 : Int32)), .val (.int (((((p0 &&& (7 : Int32)) <<< ((18 : Int32) &&& 31)) ||| ((p1 &&& (63 : Int32)) <<< ((12 : Int32) &&& 31))) ||| ((p2 &&& (63 : Int32)) <<< ((6 : Int32) &&& 31))) ||| (p3 &&& (63 : Int32))))] [(.int (1114111 : Int32)), (.int (((((p0 &&& (7 : Int32)) <<< ((18 : Int32) &&& 31)) ||| ((p1 &&& (63 : Int32)) <<< ((12 : Int32) &&& 31))) ||| ((p2 &&& (63 : Int32)) <<< ((6 : Int32) &&& 31))) ||| (p3 &&& (63 : Int32))))])) (fun t k => by
                    show Steps p.tables e below (T60.setTop (mkF m 225 #[.val (.int p0), .val (.int p1), .val (.int p2), .val (.int p3), .val (.int p4), .val (.int (4 : Int32)), .val (.int (((((p0 &&& (7 : Int32)) <<< ((18 : Int32) &&& 31)) ||| ((p1 &&& (63 : Int32)) <<< ((12 : Int32) &&& 31))) ||| ((p2 &&& (63 : Int32)) <<< ((6 : Int32) &&& 31))) ||| (p3 &&& (63 : Int32))))] [(.int (65536 : Int32)), (.int (((((p0 &&& (7 : Int32)) <<< ((18 : Int32) &&& 31)) ||| ((p1 &&& (63 : Int32)) <<< ((12 : Int32) &&& 31))) ||| ((p2 &&& (63 : Int32)) <<< ((6 : Int32) &&& 31))) ||| (p3 &&& (63 : Int32))))])) _
                    refine XS.icmpNo X60.here hx rfl (hb hby d2_225) rfl (flt hc65).1 ?_
                    show Steps p.tables e below (T60.setTop (mkF m 228 #[.val (.int p0), .val (.int p1), .val (.int p2), .val (.int p3), .val (.int p4), .val (.int (4 : Int32)), .val (.int (((((p0 &&& (7 : Int32)) <<< ((18 : Int32) &&& 31)) ||| ((p1 &&& (63 : Int32)) <<< ((12 : Int32) &&& 31))) ||| ((p2 &&& (63 : Int32)) <<< ((6 : Int32) &&& 31))) ||| (p3 &&& (63 : Int32))))] [])) _
                    refine XS.iload X60.here hx rfl (hb hby d2_228) rfl ?_
                    show Steps p.tables e below (T60.setTop (mkF m 230 #[.val (.int p0), .val (.int p1), .val (.int p2), .val (.int p3), .val (.int p4), .val (.int (4 : Int32)), .val (.int (((((p0 &&& (7 : Int32)) <<< ((18 : Int32) &&& 31)) ||| ((p1 &&& (63 : Int32)) <<< ((12 : Int32) &&& 31))) ||| ((p2 &&& (63 : Int32)) <<< ((6 : Int32) &&& 31))) ||| (p3 &&& (63 : Int32))))] [(.int (((((p0 &&& (7 : Int32)) <<< ((18 : Int32) &&& 31)) ||| ((p1 &&& (63 : Int32)) <<< ((12 : Int32) &&& 31))) ||| ((p2 &&& (63 : Int32)) <<< ((6 : Int32) &&& 31))) ||| (p3 &&& (63 : Int32))))])) _
                    refine X60.ldcInt hx hown (mvT hZ (hw _ (List.mem_of_getElem? (i := 16) rfl))) (g := (mkF m 230 #[.val (.int p0), .val (.int p1), .val (.int p2), .val (.int p3), .val (.int p4), .val (.int (4 : Int32)), .val (.int (((((p0 &&& (7 : Int32)) <<< ((18 : Int32) &&& 31)) ||| ((p1 &&& (63 : Int32)) <<< ((12 : Int32) &&& 31))) ||| ((p2 &&& (63 : Int32)) <<< ((6 : Int32) &&& 31))) ||| (p3 &&& (63 : Int32))))] [(.int (((((p0 &&& (7 : Int32)) <<< ((18 : Int32) &&& 31)) ||| ((p1 &&& (63 : Int32)) <<< ((12 : Int32) &&& 31))) ||| ((p2 &&& (63 : Int32)) <<< ((6 : Int32) &&& 31))) ||| (p3 &&& (63 : Int32))))])) rfl (hb hby d2_230) _ ?_
                    exact k)
                  by_cases hc68 : (1114111 : Int32) < (((((p0 &&& (7 : Int32)) <<< ((18 : Int32) &&& 31)) ||| ((p1 &&& (63 : Int32)) <<< ((12 : Int32) &&& 31))) ||| ((p2 &&& (63 : Int32)) <<< ((6 : Int32) &&& 31))) ||| (p3 &&& (63 : Int32)))
                  · skip
                    have go70 := go69.step (C := T60.setTop (mkF m 240 #[.val (.int p0), .val (.int p1), .val (.int p2), .val (.int p3), .val (.int p4), .val (.int (4 : Int32)), .val (.int (((((p0 &&& (7 : Int32)) <<< ((18 : Int32) &&& 31)) ||| ((p1 &&& (63 : Int32)) <<< ((12 : Int32) &&& 31))) ||| ((p2 &&& (63 : Int32)) <<< ((6 : Int32) &&& 31))) ||| (p3 &&& (63 : Int32))))] [(.int (-1 : Int32))])) (fun t k => by
                      show Steps p.tables e below (T60.setTop (mkF m 232 #[.val (.int p0), .val (.int p1), .val (.int p2), .val (.int p3), .val (.int p4), .val (.int (4 : Int32)), .val (.int (((((p0 &&& (7 : Int32)) <<< ((18 : Int32) &&& 31)) ||| ((p1 &&& (63 : Int32)) <<< ((12 : Int32) &&& 31))) ||| ((p2 &&& (63 : Int32)) <<< ((6 : Int32) &&& 31))) ||| (p3 &&& (63 : Int32))))] [(.int (1114111 : Int32)), (.int (((((p0 &&& (7 : Int32)) <<< ((18 : Int32) &&& 31)) ||| ((p1 &&& (63 : Int32)) <<< ((12 : Int32) &&& 31))) ||| ((p2 &&& (63 : Int32)) <<< ((6 : Int32) &&& 31))) ||| (p3 &&& (63 : Int32))))])) _
                      refine XS.icmpYes X60.here hx rfl (pc0 := 232) (pc' := 239) rfl (hb hby d2_232) rfl (tlt hc68).2.2.1 (by decide) (by decide) ?_
                      show Steps p.tables e below (T60.setTop (mkF m 239 #[.val (.int p0), .val (.int p1), .val (.int p2), .val (.int p3), .val (.int p4), .val (.int (4 : Int32)), .val (.int (((((p0 &&& (7 : Int32)) <<< ((18 : Int32) &&& 31)) ||| ((p1 &&& (63 : Int32)) <<< ((12 : Int32) &&& 31))) ||| ((p2 &&& (63 : Int32)) <<< ((6 : Int32) &&& 31))) ||| (p3 &&& (63 : Int32))))] [])) _
                      refine XS.iconst X60.here hx rfl (hb hby d2_239) ?_
                      exact k)
                    obtain ⟨fs, hr, hrun, hended, hW, hsame⟩ := X60.leave (v := some (.int (-1 : Int32))) (fun h => by rw [Bd.returns] at h; cases h)
                    refine ⟨_, _, go70 _ ?_, hrun, hended, _, _, rfl, ?_, ⟨_, rfl⟩, hW, hsame.mono (by decide) (by decide)⟩
                    · exact own_retI X60 hx Bd.returns (hb hby d2_240) hr
                    · show Q_rm2 Z p0 p1 p2 p3 p4 h0 n0 _ T60.heap _
                      rw [e60]
                      exact ⟨by unfold own_exp; simp only [if_neg hc1, if_neg hc17, if_pos hc44, if_neg hc46, if_neg hc51, if_neg hc56, if_neg hc61, if_neg hc65, if_pos hc68], N60, rfl⟩
                  · skip
                    have go71 := go69.step (C := T60.setTop (mkF m 240 #[.val (.int p0), .val (.int p1), .val (.int p2), .val (.int p3), .val (.int p4), .val (.int (4 : Int32)), .val (.int (((((p0 &&& (7 : Int32)) <<< ((18 : Int32) &&& 31)) ||| ((p1 &&& (63 : Int32)) <<< ((12 : Int32) &&& 31))) ||| ((p2 &&& (63 : Int32)) <<< ((6 : Int32) &&& 31))) ||| (p3 &&& (63 : Int32))))] [(.int (4 : Int32))])) (fun t k => by
                      show Steps p.tables e below (T60.setTop (mkF m 232 #[.val (.int p0), .val (.int p1), .val (.int p2), .val (.int p3), .val (.int p4), .val (.int (4 : Int32)), .val (.int (((((p0 &&& (7 : Int32)) <<< ((18 : Int32) &&& 31)) ||| ((p1 &&& (63 : Int32)) <<< ((12 : Int32) &&& 31))) ||| ((p2 &&& (63 : Int32)) <<< ((6 : Int32) &&& 31))) ||| (p3 &&& (63 : Int32))))] [(.int (1114111 : Int32)), (.int (((((p0 &&& (7 : Int32)) <<< ((18 : Int32) &&& 31)) ||| ((p1 &&& (63 : Int32)) <<< ((12 : Int32) &&& 31))) ||| ((p2 &&& (63 : Int32)) <<< ((6 : Int32) &&& 31))) ||| (p3 &&& (63 : Int32))))])) _
                      refine XS.icmpNo X60.here hx rfl (hb hby d2_232) rfl (flt hc68).2.2.1 ?_
                      show Steps p.tables e below (T60.setTop (mkF m 235 #[.val (.int p0), .val (.int p1), .val (.int p2), .val (.int p3), .val (.int p4), .val (.int (4 : Int32)), .val (.int (((((p0 &&& (7 : Int32)) <<< ((18 : Int32) &&& 31)) ||| ((p1 &&& (63 : Int32)) <<< ((12 : Int32) &&& 31))) ||| ((p2 &&& (63 : Int32)) <<< ((6 : Int32) &&& 31))) ||| (p3 &&& (63 : Int32))))] [])) _
                      refine XS.iconst X60.here hx rfl (hb hby d2_235) ?_
                      show Steps p.tables e below (T60.setTop (mkF m 236 #[.val (.int p0), .val (.int p1), .val (.int p2), .val (.int p3), .val (.int p4), .val (.int (4 : Int32)), .val (.int (((((p0 &&& (7 : Int32)) <<< ((18 : Int32) &&& 31)) ||| ((p1 &&& (63 : Int32)) <<< ((12 : Int32) &&& 31))) ||| ((p2 &&& (63 : Int32)) <<< ((6 : Int32) &&& 31))) ||| (p3 &&& (63 : Int32))))] [(.int (4 : Int32))])) _
                      refine XS.goto X60.here hx rfl (pc0 := 236) (pc' := 240) rfl (hb hby d2_236) (by decide) (by decide) ?_
                      exact k)
                    obtain ⟨fs, hr, hrun, hended, hW, hsame⟩ := X60.leave (v := some (.int (4 : Int32))) (fun h => by rw [Bd.returns] at h; cases h)
                    refine ⟨_, _, go71 _ ?_, hrun, hended, _, _, rfl, ?_, ⟨_, rfl⟩, hW, hsame.mono (by decide) (by decide)⟩
                    · exact own_retI X60 hx Bd.returns (hb hby d2_240) hr
                    · show Q_rm2 Z p0 p1 p2 p3 p4 h0 n0 _ T60.heap _
                      rw [e60]
                      exact ⟨by unfold own_exp; simp only [if_neg hc1, if_neg hc17, if_pos hc44, if_neg hc46, if_neg hc51, if_neg hc56, if_neg hc61, if_neg hc65, if_neg hc68], N60, rfl⟩
      · skip
        have go72 := go45.step (C := s₁.setTop (mkF m 52 #[.val (.int p0), .val (.int p1), .val (.int p2), .val (.int p3), .val (.int p4), .unset, .unset] [(.int (-1 : Int32))])) (fun t k => by
          show Steps p.tables e below (s₁.setTop (mkF m 42 #[.val (.int p0), .val (.int p1), .val (.int p2), .val (.int p3), .val (.int p4), .unset, .unset] [(.int (240 : Int32)), (.int (p0 &&& (248 : Int32)))])) _
          refine XS.icmpYes X0.here hx rfl (pc0 := 42) (pc' := 51) rfl (hb hby d2_42) rfl (feq hc44).2 (by decide) (by decide) ?_
          show Steps p.tables e below (s₁.setTop (mkF m 51 #[.val (.int p0), .val (.int p1), .val (.int p2), .val (.int p3), .val (.int p4), .unset, .unset] [])) _
          refine XS.iconst X0.here hx rfl (hb hby d2_51) ?_
          exact k)
        obtain ⟨fs, hr, hrun, hended, hW, hsame⟩ := X0.leave (v := some (.int (-1 : Int32))) (fun h => by rw [Bd.returns] at h; cases h)
        refine ⟨_, _, go72 _ ?_, hrun, hended, _, _, rfl, ?_, ⟨_, rfl⟩, hW, hsame.mono (by decide) (by decide)⟩
        · exact own_retI X0 hx Bd.returns (hb hby d2_52) hr
        · show Q_rm2 Z p0 p1 p2 p3 p4 h0 n0 _ s₁.heap _
          rw [e0]
          exact ⟨by unfold own_exp; simp only [if_neg hc1, if_neg hc17, if_neg hc44], N0, rfl⟩
theorem own_bm (x : Int32) : (nar .byte (x.toInt8.toInt32)) &&& (255 : Int32) = x &&& (255 : Int32) := by
  apply Int32.toInt_inj.mp
  rw [c_mask _ 255 8 (by decide) (by decide), c_mask _ 255 8 (by decide) (by decide)]
  have h1 := c_i2b (x.toInt8.toInt32)
  have h2 := c_i2b x
  show (x.toInt8.toInt32.toInt8.toInt32).toInt % _ = _
  omega
theorem own_192 (x : Int32) : x &&& (192 : Int32) = (x &&& (255 : Int32)) &&& (192 : Int32) := by rw [Int32.and_assoc]; rfl
theorem own_fin : ∀ i : Fin 256, ((Int32.ofNat i.val &&& (192 : Int32)) = (128 : Int32) ↔ 128 ≤ i.val ∧ i.val < 192) ∧ ((Int32.ofNat i.val &&& (224 : Int32)) = (192 : Int32) ↔ 192 ≤ i.val ∧ i.val < 224) ∧ ((Int32.ofNat i.val &&& (240 : Int32)) = (224 : Int32) ↔ 224 ≤ i.val ∧ i.val < 240) ∧ ((Int32.ofNat i.val &&& (248 : Int32)) = (240 : Int32) ↔ 240 ≤ i.val ∧ i.val < 248) := by decide +kernel
theorem own_fin' {x : Int32} (h : 0 ≤ x.toInt ∧ x.toInt < 256) : ((x &&& (192 : Int32)) = (128 : Int32) ↔ 128 ≤ x.toInt ∧ x.toInt < 192) ∧ ((x &&& (224 : Int32)) = (192 : Int32) ↔ 192 ≤ x.toInt ∧ x.toInt < 224) ∧ ((x &&& (240 : Int32)) = (224 : Int32) ↔ 224 ≤ x.toInt ∧ x.toInt < 240) ∧ ((x &&& (248 : Int32)) = (240 : Int32) ↔ 240 ≤ x.toInt ∧ x.toInt < 248) := by
  have e : x = Int32.ofNat x.toInt.toNat := Int32.toInt_inj.mp (by rw [Int32.toInt_ofNat_small (by omega)]; omega)
  have k := own_fin ⟨x.toInt.toNat, by omega⟩
  simp only [← e] at k
  refine ⟨k.1.trans ?_, k.2.1.trans ?_, k.2.2.1.trans ?_, k.2.2.2.trans ?_⟩ <;> omega
theorem own_cp2 {x y : Int32} (hx : 0 ≤ x.toInt ∧ x.toInt < 256) (hy : 0 ≤ y.toInt ∧ y.toInt < 256) : (((x &&& (31 : Int32)) <<< ((6 : Int32) &&& 31)) ||| (y &&& (63 : Int32))).toInt = x.toInt % 32 * 64 + y.toInt % 64 := by
  have h1 := c_mask x 31 5 (by decide) (by decide)
  have h2 := c_mask y 63 6 (by decide) (by decide)
  have h3 := c_ishl (x &&& (31 : Int32)) 6 6 (by decide)
  have r3 := rng32 ((x &&& (31 : Int32)) <<< ((6 : Int32) &&& 31))
  generalize (x &&& (31 : Int32)) <<< ((6 : Int32) &&& 31) = a at *
  generalize x &&& (31 : Int32) = a' at *
  generalize y &&& (63 : Int32) = b at *
  have h4 := c_or a b 6 (by decide) 64 (by decide) (by omega) (by omega) (by omega)
  have r4 := rng32 (a ||| b)
  omega
theorem own_cp3 {x y z : Int32} (hx : 0 ≤ x.toInt ∧ x.toInt < 256) (hy : 0 ≤ y.toInt ∧ y.toInt < 256) (hz : 0 ≤ z.toInt ∧ z.toInt < 256) : ((((x &&& (15 : Int32)) <<< ((12 : Int32) &&& 31)) ||| ((y &&& (63 : Int32)) <<< ((6 : Int32) &&& 31))) ||| (z &&& (63 : Int32))).toInt = x.toInt % 16 * 4096 + y.toInt % 64 * 64 + z.toInt % 64 := by
  have h1 := c_mask x 15 4 (by decide) (by decide)
  have h2 := c_mask y 63 6 (by decide) (by decide)
  have h2' := c_mask z 63 6 (by decide) (by decide)
  have h3 := c_ishl (x &&& (15 : Int32)) 12 12 (by decide)
  have h3' := c_ishl (y &&& (63 : Int32)) 6 6 (by decide)
  have r3 := rng32 ((x &&& (15 : Int32)) <<< ((12 : Int32) &&& 31))
  have r3' := rng32 ((y &&& (63 : Int32)) <<< ((6 : Int32) &&& 31))
  generalize (x &&& (15 : Int32)) <<< ((12 : Int32) &&& 31) = a at *
  generalize (y &&& (63 : Int32)) <<< ((6 : Int32) &&& 31) = b at *
  generalize x &&& (15 : Int32) = a' at *
  generalize y &&& (63 : Int32) = b' at *
  generalize z &&& (63 : Int32) = c at *
  have h4 := c_or a b 12 (by decide) 4096 (by decide) (by omega) (by omega) (by omega)
  have r4 := rng32 (a ||| b)
  have h5 := c_or (a ||| b) c 6 (by decide) 64 (by decide) (by omega) (by omega) (by omega)
  have r5 := rng32 (a ||| b ||| c)
  omega
theorem own_cp4 {x y z w : Int32} (hx : 0 ≤ x.toInt ∧ x.toInt < 256) (hy : 0 ≤ y.toInt ∧ y.toInt < 256) (hz : 0 ≤ z.toInt ∧ z.toInt < 256) (hw : 0 ≤ w.toInt ∧ w.toInt < 256) : (((((x &&& (7 : Int32)) <<< ((18 : Int32) &&& 31)) ||| ((y &&& (63 : Int32)) <<< ((12 : Int32) &&& 31))) ||| ((z &&& (63 : Int32)) <<< ((6 : Int32) &&& 31))) ||| (w &&& (63 : Int32))).toInt = x.toInt % 8 * 262144 + y.toInt % 64 * 4096 + z.toInt % 64 * 64 + w.toInt % 64 := by
  have h1 := c_mask x 7 3 (by decide) (by decide)
  have h2 := c_mask y 63 6 (by decide) (by decide)
  have h2' := c_mask z 63 6 (by decide) (by decide)
  have h2'' := c_mask w 63 6 (by decide) (by decide)
  have h3 := c_ishl (x &&& (7 : Int32)) 18 18 (by decide)
  have h3' := c_ishl (y &&& (63 : Int32)) 12 12 (by decide)
  have h3'' := c_ishl (z &&& (63 : Int32)) 6 6 (by decide)
  have r3 := rng32 ((x &&& (7 : Int32)) <<< ((18 : Int32) &&& 31))
  have r3' := rng32 ((y &&& (63 : Int32)) <<< ((12 : Int32) &&& 31))
  have r3'' := rng32 ((z &&& (63 : Int32)) <<< ((6 : Int32) &&& 31))
  generalize (x &&& (7 : Int32)) <<< ((18 : Int32) &&& 31) = a at *
  generalize (y &&& (63 : Int32)) <<< ((12 : Int32) &&& 31) = b at *
  generalize (z &&& (63 : Int32)) <<< ((6 : Int32) &&& 31) = c at *
  generalize x &&& (7 : Int32) = a' at *
  generalize y &&& (63 : Int32) = b' at *
  generalize z &&& (63 : Int32) = c' at *
  generalize w &&& (63 : Int32) = d at *
  have h4 := c_or a b 18 (by decide) 262144 (by decide) (by omega) (by omega) (by omega)
  have r4 := rng32 (a ||| b)
  have h5 := c_or (a ||| b) c 12 (by decide) 4096 (by decide) (by omega) (by omega) (by omega)
  have r5 := rng32 (a ||| b ||| c)
  have h6 := c_or (a ||| b ||| c) d 6 (by decide) 64 (by decide) (by omega) (by omega) (by omega)
  have r6 := rng32 (a ||| b ||| c ||| d)
  omega
theorem own_cont0 {x : Int32} (h : 0 ≤ x.toInt ∧ x.toInt < 256) : own_cont x = (0 : Int32) ↔ ¬ (128 ≤ x.toInt ∧ x.toInt < 192) := by
  unfold own_cont
  have k := (own_fin' h).1
  by_cases q : (x &&& (192 : Int32)) = (128 : Int32)
  · rw [if_pos q]; simp only [k.mp q]; decide
  · rw [if_neg q]; simp only [true_iff, eq_self_iff_true]; exact fun z => q (k.mpr z)
theorem own_pl {a n k : Int32} {K : Int} (ha : a = 0 ∨ a = 1) (hn : 1 ≤ n.toInt ∧ n.toInt ≤ 4) (hk : k.toInt = K) (hK : 0 ≤ K ∧ K ≤ 4) : (a + n) < (a + k) ↔ n.toInt < K := by
  have q1 := c_iadd a n; have q2 := c_iadd a k
  have r1 := rng32 (a + n); have r2 := rng32 (a + k)
  have e : a.toInt = 0 ∨ a.toInt = 1 := ha.imp (fun q => by rw [q]; rfl) (fun q => by rw [q]; rfl)
  rw [Int32.lt_iff_toInt_lt]; omega
theorem own_lt {x k : Int32} {K : Int} (hk : k.toInt = K) : x < k ↔ x.toInt < K := by rw [Int32.lt_iff_toInt_lt, hk]
theorem own_gt {x k : Int32} {K : Int} (hk : k.toInt = K) : k < x ↔ K < x.toInt := by rw [Int32.lt_iff_toInt_lt, hk]
theorem own_e {x k : Int32} {K : Int} (hk : k.toInt = K) : x = k ↔ x.toInt = K := by rw [← Int32.toInt_inj, hk]
theorem own_ltite {c : Prop} [Decidable c] {x k1 k2 : Int32} : (x < if c then k1 else k2) ↔ (c ∧ x < k1) ∨ (¬ c ∧ x < k2) := by by_cases h : c <;> simp [h]
theorem own_gtite {c : Prop} [Decidable c] {x k1 k2 : Int32} : ((if c then k1 else k2) < x) ↔ (c ∧ k1 < x) ∨ (¬ c ∧ k2 < x) := by by_cases h : c <;> simp [h]
set_option maxHeartbeats 40000000 in
theorem own_final {a n x0 x1 x2 x3 b0 b1 b2 b3 : Int32} (ha : a = 0 ∨ a = 1) (hn : 1 ≤ n.toInt ∧ n.toInt ≤ 4) (e0 : b0 &&& (255 : Int32) = x0) (e1 : b1 &&& (255 : Int32) = x1) (e2 : b2 &&& (255 : Int32) = x2) (e3 : b3 &&& (255 : Int32) = x3) (h0 : 0 ≤ x0.toInt ∧ x0.toInt < 256) (h1 : 0 ≤ x1.toInt ∧ x1.toInt < 256) (h2 : 0 ≤ x2.toInt ∧ x2.toInt < 256) (h3 : 0 ≤ x3.toInt ∧ x3.toInt < 256) :
    own_len a (a + n) b0 b1 b2 b3 = own_exp x0 x1 x2 x3 n := by
  unfold own_len own_exp
  rw [own_192 b2, own_192 b3, e0, e1, e2, e3]
  obtain ⟨-, m1, m2, m3⟩ := own_fin' h0
  simp only [own_ltite, own_gtite, own_cont0 h1, own_cont0 h2, own_cont0 h3, (own_fin' h2).1, (own_fin' h3).1, m1, m2, m3,
    own_pl ha hn (k := 2) (K := 2) rfl (by decide), own_pl ha hn (k := 3) (K := 3) rfl (by decide), own_pl ha hn (k := 4) (K := 4) rfl (by decide),
    own_lt (x := n) (k := 2) (K := 2) rfl, own_lt (x := n) (k := 3) (K := 3) rfl, own_lt (x := n) (k := 4) (K := 4) rfl,
    own_lt (k := 194) (K := 194) rfl, own_lt (k := 224) (K := 224) rfl, own_lt (k := 240) (K := 240) rfl, own_gt (k := 223) (K := 223) rfl, own_gt (k := 239) (K := 239) rfl, own_gt (k := 244) (K := 244) rfl,
    own_e (k := 240) (K := 240) rfl, own_e (k := 244) (K := 244) rfl, own_e (k := 224) (K := 224) rfl, own_e (k := 237) (K := 237) rfl,
    own_lt (k := 144) (K := 144) rfl, own_lt (k := 160) (K := 160) rfl, own_gt (k := 143) (K := 143) rfl, own_gt (k := 159) (K := 159) rfl,
    own_lt (k := 128) (K := 128) rfl, own_gt (k := 191) (K := 191) rfl, own_lt (k := 2048) (K := 2048) rfl, own_lt (k := 55296) (K := 55296) rfl, own_gt (k := 57343) (K := 57343) rfl, own_lt (k := 65536) (K := 65536) rfl, own_gt (k := 1114111) (K := 1114111) rfl, own_cp2 h0 h1, own_cp3 h0 h1 h2, own_cp4 h0 h1 h2 h3]
  clear e0 e1 e2 e3 m1 m2 m3 ha
  generalize x0.toInt = X0 at *
  generalize x1.toInt = X1 at *
  generalize x2.toInt = X2 at *
  generalize x3.toInt = X3 at *
  generalize n.toInt = N at *
  have hr : X0 < 192 ∨ 248 ≤ X0 ∨ (192 ≤ X0 ∧ X0 < 194) ∨ (194 ≤ X0 ∧ X0 < 224) ∨ (224 ≤ X0 ∧ X0 < 240) ∨ (240 ≤ X0 ∧ X0 < 245) ∨ (245 ≤ X0 ∧ X0 < 248) := by omega
  rcases hr with r | r | r | r | r | r | r
  · by_cases a0 : N < 9 <;> first | (exfalso; omega) | (repeat (first | rfl | rw [if_pos (by omega)] | rw [if_neg (by omega)]))
  · by_cases a0 : N < 9 <;> first | (exfalso; omega) | (repeat (first | rfl | rw [if_pos (by omega)] | rw [if_neg (by omega)]))
  · by_cases a0 : N < 2 <;> by_cases a1 : X1 < 128 <;> by_cases a2 : 191 < X1 <;> first | (exfalso; omega) | (repeat (first | rfl | rw [if_pos (by omega)] | rw [if_neg (by omega)]))
  · by_cases a0 : N < 2 <;> by_cases a1 : X1 < 128 <;> by_cases a2 : 191 < X1 <;> first | (exfalso; omega) | (repeat (first | rfl | rw [if_pos (by omega)] | rw [if_neg (by omega)]))
  · by_cases a0 : N < 3 <;> by_cases a1 : X1 < 128 <;> by_cases a2 : 191 < X1 <;> by_cases a3 : 128 ≤ X2 ∧ X2 < 192 <;> by_cases a4 : X0 = 224 ∧ X1 < 160 <;> by_cases a5 : X0 = 237 ∧ 159 < X1 <;> by_cases a6 : X0 ≤ 237 <;> first | (exfalso; omega) | (repeat (first | rfl | rw [if_pos (by omega)] | rw [if_neg (by omega)]))
  · by_cases a0 : N < 4 <;> by_cases a1 : X1 < 128 <;> by_cases a2 : 191 < X1 <;> by_cases a3 : 128 ≤ X2 ∧ X2 < 192 <;> by_cases a4 : 128 ≤ X3 ∧ X3 < 192 <;> by_cases a5 : X0 = 240 ∧ X1 < 144 <;> by_cases a6 : X0 = 244 ∧ 143 < X1 <;> first | (exfalso; omega) | (repeat (first | rfl | rw [if_pos (by omega)] | rw [if_neg (by omega)]))
  · by_cases a0 : N < 4 <;> by_cases a1 : X1 < 128 <;> by_cases a2 : 191 < X1 <;> by_cases a3 : 128 ≤ X2 ∧ X2 < 192 <;> by_cases a4 : 128 ≤ X3 ∧ X3 < 192 <;> first | (exfalso; omega) | (repeat (first | rfl | rw [if_pos (by omega)] | rw [if_neg (by omega)]))
theorem own_255 (x : Int32) : 0 ≤ (x &&& (255 : Int32)).toInt ∧ (x &&& (255 : Int32)).toInt < 256 := by
  rw [c_mask _ 255 8 (by decide) (by decide)]; omega
theorem own_bit {z x : Int32} (h : z = x &&& (1 : Int32)) (h0 : ¬ z = (0 : Int32)) : z = (1 : Int32) := by
  have q := c_mask x 1 1 (by decide) (by decide)
  rw [← h] at q
  rw [← Int32.toInt_inj] at h0 ⊢
  have e0 : (0 : Int32).toInt = 0 := rfl
  have e1 : (1 : Int32).toInt = 1 := rfl
  omega
theorem own_n {z x : Int32} (h : z = (1 : Int32) + ((x &&& (2147483647 : Int32)) % (4 : Int32))) : 1 ≤ z.toInt ∧ z.toInt ≤ 4 := by
  have q := c_mask x 2147483647 31 (by decide) (by decide)
  have q2 := (c_irem (x &&& (2147483647 : Int32)) 4 4 rfl).1 (by omega)
  have q3 := c_iadd 1 ((x &&& (2147483647 : Int32)) % (4 : Int32))
  have r3 := rng32 ((1 : Int32) + ((x &&& (2147483647 : Int32)) % (4 : Int32)))
  rw [← h] at q3 r3
  have e1 : (1 : Int32).toInt = 1 := rfl
  omega
theorem pn_rm0 : plainName "com/example/graphkind/graphkind/Utf8LengthPinLaw" = true := by first | (simp [plainName, overriddenIn]; done) | decide +kernel
theorem pd0_0 : parseMethodDescriptor "([BII)I" = some ⟨[(.array .byte), .int, .int], some .int⟩ := by decide +kernel
theorem pd0_1 : parseMethodDescriptor "(IIIII)I" = some ⟨[.int, .int, .int, .int, .int], some .int⟩ := by decide +kernel
theorem ef_rm0 (m : MethodId) (p0 : Int32) (p1 : Int32) (p2 : Int32) (p3 : Int32) (p4 : Int32) (p5 : Int32) : entryFrame m #[(.int p0), (.int p1), (.int p2), (.int p3), (.int p4), (.int p5)] maxLocals = mkF m 0 #[.val (.int p0), .val (.int p1), .val (.int p2), .val (.int p3), .val (.int p4), .val (.int p5), .unset, .unset, .unset, .unset, .unset, .unset] [] := by first | (simp [entryFrame, mkF, argsToLocals, Value.category, maxLocals]; done) | rfl
def Q_rm0 (Z : State) (p0 : Int32) (p1 : Int32) (p2 : Int32) (p3 : Int32) (p4 : Int32) (p5 : Int32) (h0 : Heap) (n0 : Nat) (v : Option Value) (h : Heap) (L : List Loc) : Prop := v = some (.int (1 : Int32)) ∧ Fr n0 L
set_option maxRecDepth 65536 in
set_option maxHeartbeats 40000000 in
theorem rm0 (l : Launch) (Z : State) (a0 : Array Value) (hw : ∀ d ∈ tables_1, d.before a0 Z = true) (ws : List Jvm.Cond) (p0 : Int32) (p1 : Int32) (p2 : Int32) (p3 : Int32) (p4 : Int32) (p5 : Int32) (h0 : Heap) (n0 : Nat) (Z0 : n0 ≤ h0.size) :
    MetFree l x (head1 (Jvm.Cond.code x code maxLocals ret :: ws) room_1) (fun a U => a = #[(.int p0), (.int p1), (.int p2), (.int p3), (.int p4), (.int p5)] ∧ Z.Warmed39 U.vm ∧ U.heap = h0) (fun _ _ _ _ _ => True) (fun _ U o U' => ∃ v L, o = .returned v ∧ Q_rm0 Z p0 p1 p2 p3 p4 p5 h0 n0 v U'.heap L ∧ FrameEnd U o U' L room_1.cells room_1.slots) := by
  refine MetFree.of_bodySF (plainFor_of_name pn_rm0) hisR ?_
  intro p e s m args below meth c s₁ Bd hml0 hP hK
  obtain ⟨rfl, hZ, hh⟩ := hP
  have hx := Bd.exec
  have hby := Bd.bytes
  have hml : c.maxLocals = 12 := hml0
  have hown : s.vm.findClass "com/example/graphkind/graphkind/Utf8LengthPinLaw" = some m.cls := findClass_of_methodNamed Bd.named
  have hnm := (name_of_methodNamed Bd.named Bd.method).1
  have X0 : Stand p l e room_1 s m #[(.int p0), (.int p1), (.int p2), (.int p3), (.int p4), (.int p5)] below meth c s₁ [] 0 0 := Stand.of_body Bd
  have e0 : s₁.heap = h0 := by rw [← hh, Bd.state]; rfl
  have N0 := Fr.nil n0
  have K0 := Keep.refl h0 []
  have go0 : Go p e below (s₁.setTop (entryFrame m #[(.int p0), (.int p1), (.int p2), (.int p3), (.int p4), (.int p5)] maxLocals)) (s₁.setTop (mkF m 0 #[.val (.int p0), .val (.int p1), .val (.int p2), .val (.int p3), .val (.int p4), .val (.int p5), .unset, .unset, .unset, .unset, .unset, .unset] [])) := fun t k => castTop (ef_rm0 m p0 p1 p2 p3 p4 p5) k
  have go1 := go0.step (C := s₁.setTop (mkF m 1 #[.val (.int p0), .val (.int p1), .val (.int p2), .val (.int p3), .val (.int p4), .val (.int p5), .unset, .unset, .unset, .unset, .unset, .unset] [(.int (5 : Int32))])) (fun t k => by
    show Steps p.tables e below (s₁.setTop (mkF m 0 #[.val (.int p0), .val (.int p1), .val (.int p2), .val (.int p3), .val (.int p4), .val (.int p5), .unset, .unset, .unset, .unset, .unset, .unset] [])) _
    refine XS.iconst X0.here hx rfl (hb hby at_0) ?_
    exact k)
  obtain ⟨T2, h2, k2, X2, e2, E2, A2, st2⟩ := newP X0 hx hZ (hw _ (List.mem_of_getElem? (i := 0) rfl)) e0 (g := (mkF m 1 #[.val (.int p0), .val (.int p1), .val (.int p2), .val (.int p3), .val (.int p4), .val (.int p5), .unset, .unset, .unset, .unset, .unset, .unset] [(.int (5 : Int32))])) rfl (hb hby at_1) rfl (by decide) (cap := 5) (by decide) (by decide) (by decide) (by decide)
  obtain ⟨b2, g2⟩ : ∃ z, z = h0.size := ⟨_, rfl⟩
  rw [← g2] at A2 st2
  have g_b2 : n0 ≤ b2 := Nat.le_trans Z0 (Nat.le_of_eq g2.symm)
  have sz_b2 : h0.size ≤ b2 := Nat.le_trans K0.1 (Nat.le_of_eq g2.symm)
  have V2 : Arv Z h2 b2 k2 .byte (5 : Int32) [(.int (0 : Int32)), (.int (0 : Int32)), (.int (0 : Int32)), (.int (0 : Int32)), (.int (0 : Int32))] (.int (0 : Int32)) := (Arv.new A2 (by decide)).pad (pad_rep [] (.int (0 : Int32)) 5)
  have Z2 : n0 ≤ h2.size := Nat.le_trans Z0 E2.1
  have K2 := K0.ext E2
  have go2 := go1.step (C := T2.setTop (mkF m 3 #[.val (.int p0), .val (.int p1), .val (.int p2), .val (.int p3), .val (.int p4), .val (.int p5), .unset, .unset, .unset, .unset, .unset, .unset] [(.ref b2)])) (fun t k => st2 t k)
  have go3 := go2.step (C := T2.setTop (mkF m 9 #[.val (.int p0), .val (.int p1), .val (.int p2), .val (.int p3), .val (.int p4), .val (.int p5), .val (.ref b2), .unset, .unset, .unset, .unset, .unset] [(.int (p4 &&& (1 : Int32)))])) (fun t k => by
    show Steps p.tables e below (T2.setTop (mkF m 3 #[.val (.int p0), .val (.int p1), .val (.int p2), .val (.int p3), .val (.int p4), .val (.int p5), .unset, .unset, .unset, .unset, .unset, .unset] [(.ref b2)])) _
    refine XS.astore X2.here hx rfl (hb hby at_3) rfl rfl (l' := #[.val (.int p0), .val (.int p1), .val (.int p2), .val (.int p3), .val (.int p4), .val (.int p5), .val (.ref b2), .unset, .unset, .unset, .unset, .unset]) rfl ?_
    show Steps p.tables e below (T2.setTop (mkF m 5 #[.val (.int p0), .val (.int p1), .val (.int p2), .val (.int p3), .val (.int p4), .val (.int p5), .val (.ref b2), .unset, .unset, .unset, .unset, .unset] [])) _
    refine XS.iload X2.here hx rfl (hb hby at_5) rfl ?_
    show Steps p.tables e below (T2.setTop (mkF m 7 #[.val (.int p0), .val (.int p1), .val (.int p2), .val (.int p3), .val (.int p4), .val (.int p5), .val (.ref b2), .unset, .unset, .unset, .unset, .unset] [(.int p4)])) _
    refine XS.iconst X2.here hx rfl (hb hby at_7) ?_
    show Steps p.tables e below (T2.setTop (mkF m 8 #[.val (.int p0), .val (.int p1), .val (.int p2), .val (.int p3), .val (.int p4), .val (.int p5), .val (.ref b2), .unset, .unset, .unset, .unset, .unset] [(.int (1 : Int32)), (.int p4)])) _
    refine XS.iand X2.here hx rfl (hb hby at_8) rfl ?_
    exact k)
  obtain ⟨za, hza⟩ : ∃ z : Int32, z = (p4 &&& (1 : Int32)) := ⟨_, rfl⟩
  rw [← hza] at go3
  have go5 := go3.step (C := T2.setTop (mkF m 13 #[.val (.int p0), .val (.int p1), .val (.int p2), .val (.int p3), .val (.int p4), .val (.int p5), .val (.ref b2), .val (.int za), .unset, .unset, .unset, .unset] [(.int za)])) (fun t k => by
    show Steps p.tables e below (T2.setTop (mkF m 9 #[.val (.int p0), .val (.int p1), .val (.int p2), .val (.int p3), .val (.int p4), .val (.int p5), .val (.ref b2), .unset, .unset, .unset, .unset, .unset] [(.int za)])) _
    refine XS.istore X2.here hx rfl (hb hby at_9) rfl (l' := #[.val (.int p0), .val (.int p1), .val (.int p2), .val (.int p3), .val (.int p4), .val (.int p5), .val (.ref b2), .val (.int za), .unset, .unset, .unset, .unset]) rfl ?_
    show Steps p.tables e below (T2.setTop (mkF m 11 #[.val (.int p0), .val (.int p1), .val (.int p2), .val (.int p3), .val (.int p4), .val (.int p5), .val (.ref b2), .val (.int za), .unset, .unset, .unset, .unset] [])) _
    refine XS.iload X2.here hx rfl (hb hby at_11) rfl ?_
    exact k)
  by_cases hc4 : za = (0 : Int32)
  · skip
    have go6 := go5.step (C := T2.setTop (mkF m 16 #[.val (.int p0), .val (.int p1), .val (.int p2), .val (.int p3), .val (.int p4), .val (.int p5), .val (.ref b2), .val (.int za), .unset, .unset, .unset, .unset] [])) (fun t k => by
      show Steps p.tables e below (T2.setTop (mkF m 13 #[.val (.int p0), .val (.int p1), .val (.int p2), .val (.int p3), .val (.int p4), .val (.int p5), .val (.ref b2), .val (.int za), .unset, .unset, .unset, .unset] [(.int za)])) _
      refine XS.ifNo X2.here hx rfl (hb hby at_13) rfl ((if0 _ _).trans (teq hc4).2) ?_
      exact k)
    subst hc4
    have go7 := go6.step (C := T2.setTop (mkF m 32 #[.val (.int p0), .val (.int p1), .val (.int p2), .val (.int p3), .val (.int p4), .val (.int p5), .val (.ref b2), .val (.int (0 : Int32)), .val (.int (4 : Int32)), .unset, .unset, .unset] [(.int ((p4 >>> ((1 : Int32) &&& 31)).toInt8.toInt32)), (.int (4 : Int32)), (.ref b2)])) (fun t k => by
      show Steps p.tables e below (T2.setTop (mkF m 16 #[.val (.int p0), .val (.int p1), .val (.int p2), .val (.int p3), .val (.int p4), .val (.int p5), .val (.ref b2), .val (.int (0 : Int32)), .unset, .unset, .unset, .unset] [])) _
      refine XS.iconst X2.here hx rfl (hb hby at_16) ?_
      show Steps p.tables e below (T2.setTop (mkF m 17 #[.val (.int p0), .val (.int p1), .val (.int p2), .val (.int p3), .val (.int p4), .val (.int p5), .val (.ref b2), .val (.int (0 : Int32)), .unset, .unset, .unset, .unset] [(.int (4 : Int32))])) _
      refine XS.goto X2.here hx rfl (pc0 := 17) (pc' := 21) rfl (hb hby at_17) (by decide) (by decide) ?_
      show Steps p.tables e below (T2.setTop (mkF m 21 #[.val (.int p0), .val (.int p1), .val (.int p2), .val (.int p3), .val (.int p4), .val (.int p5), .val (.ref b2), .val (.int (0 : Int32)), .unset, .unset, .unset, .unset] [(.int (4 : Int32))])) _
      refine XS.istore X2.here hx rfl (hb hby at_21) rfl (l' := #[.val (.int p0), .val (.int p1), .val (.int p2), .val (.int p3), .val (.int p4), .val (.int p5), .val (.ref b2), .val (.int (0 : Int32)), .val (.int (4 : Int32)), .unset, .unset, .unset]) rfl ?_
      show Steps p.tables e below (T2.setTop (mkF m 23 #[.val (.int p0), .val (.int p1), .val (.int p2), .val (.int p3), .val (.int p4), .val (.int p5), .val (.ref b2), .val (.int (0 : Int32)), .val (.int (4 : Int32)), .unset, .unset, .unset] [])) _
      refine XS.aload X2.here hx rfl (hb hby at_23) rfl rfl ?_
      show Steps p.tables e below (T2.setTop (mkF m 25 #[.val (.int p0), .val (.int p1), .val (.int p2), .val (.int p3), .val (.int p4), .val (.int p5), .val (.ref b2), .val (.int (0 : Int32)), .val (.int (4 : Int32)), .unset, .unset, .unset] [(.ref b2)])) _
      refine XS.iload X2.here hx rfl (hb hby at_25) rfl ?_
      show Steps p.tables e below (T2.setTop (mkF m 27 #[.val (.int p0), .val (.int p1), .val (.int p2), .val (.int p3), .val (.int p4), .val (.int p5), .val (.ref b2), .val (.int (0 : Int32)), .val (.int (4 : Int32)), .unset, .unset, .unset] [(.int (4 : Int32)), (.ref b2)])) _
      refine XS.iload X2.here hx rfl (hb hby at_27) rfl ?_
      show Steps p.tables e below (T2.setTop (mkF m 29 #[.val (.int p0), .val (.int p1), .val (.int p2), .val (.int p3), .val (.int p4), .val (.int p5), .val (.ref b2), .val (.int (0 : Int32)), .val (.int (4 : Int32)), .unset, .unset, .unset] [(.int p4), (.int (4 : Int32)), (.ref b2)])) _
      refine XS.iconst X2.here hx rfl (hb hby at_29) ?_
      show Steps p.tables e below (T2.setTop (mkF m 30 #[.val (.int p0), .val (.int p1), .val (.int p2), .val (.int p3), .val (.int p4), .val (.int p5), .val (.ref b2), .val (.int (0 : Int32)), .val (.int (4 : Int32)), .unset, .unset, .unset] [(.int (1 : Int32)), (.int p4), (.int (4 : Int32)), (.ref b2)])) _
      refine XS.ishr X2.here hx rfl (hb hby at_30) rfl ?_
      show Steps p.tables e below (T2.setTop (mkF m 31 #[.val (.int p0), .val (.int p1), .val (.int p2), .val (.int p3), .val (.int p4), .val (.int p5), .val (.ref b2), .val (.int (0 : Int32)), .val (.int (4 : Int32)), .unset, .unset, .unset] [(.int (p4 >>> ((1 : Int32) &&& 31))), (.int (4 : Int32)), (.ref b2)])) _
      refine XS.i2b X2.here hx rfl (hb hby at_31) rfl ?_
      exact k)
    have Vo8 := V2
    obtain ⟨cl8, Ar8, qa8, Sa8, Na8, Ha8, Ga8⟩ := Vo8
    have hin8 : ¬ ((4 : Int32) < 0 ∨ cl8.slots.size ≤ ((4 : Int32)).toNatClampNeg) := inb_of Sa8 ⟨by decide, by decide⟩
    obtain ⟨T9, h9, X9, e9, W9, st9⟩ := stB X2 hx hZ e2 Ar8 (j := (4 : Int32)) hin8 (g := (mkF m 32 #[.val (.int p0), .val (.int p1), .val (.int p2), .val (.int p3), .val (.int p4), .val (.int p5), .val (.ref b2), .val (.int (0 : Int32)), .val (.int (4 : Int32)), .unset, .unset, .unset] [(.int ((p4 >>> ((1 : Int32) &&& 31)).toInt8.toInt32)), (.int (4 : Int32)), (.ref b2)])) rfl rfl (hb hby at_32)
    have V9 : Arv Z h9 b2 k2 .byte (5 : Int32) [(.int (0 : Int32)), (.int (0 : Int32)), (.int (0 : Int32)), (.int (0 : Int32)), (.int (nar .byte ((p4 >>> ((1 : Int32) &&& 31)).toInt8.toInt32)))] (.int (0 : Int32)) := Arv.set Ar8 qa8 Sa8 Na8 Ha8 Ga8 (fits_nar_byte _) W9 4 rfl (Nat.le_of_ble_eq_true rfl)
    have Z9 : n0 ≤ h9.size := Nat.le_trans Z2 (Nat.le_of_eq W9.size.symm)
    have K9 := K2.wr W9 (Or.inr sz_b2)
    have N9 := Fr.snoc X9 N0 g_b2
    have go9 := go7.step (C := T9.setTop (mkF m 33 #[.val (.int p0), .val (.int p1), .val (.int p2), .val (.int p3), .val (.int p4), .val (.int p5), .val (.ref b2), .val (.int (0 : Int32)), .val (.int (4 : Int32)), .unset, .unset, .unset] [])) (fun t k => st9 t k)
    have go11 := go9.step (C := T9.setTop (mkF m 39 #[.val (.int p0), .val (.int p1), .val (.int p2), .val (.int p3), .val (.int p4), .val (.int p5), .val (.ref b2), .val (.int (0 : Int32)), .val (.int (4 : Int32)), .unset, .unset, .unset] [(.int (p0.toInt8.toInt32)), (.int (0 : Int32)), (.ref b2)])) (fun t k => by
      show Steps p.tables e below (T9.setTop (mkF m 33 #[.val (.int p0), .val (.int p1), .val (.int p2), .val (.int p3), .val (.int p4), .val (.int p5), .val (.ref b2), .val (.int (0 : Int32)), .val (.int (4 : Int32)), .unset, .unset, .unset] [])) _
      refine XS.aload X9.here hx rfl (hb hby at_33) rfl rfl ?_
      show Steps p.tables e below (T9.setTop (mkF m 35 #[.val (.int p0), .val (.int p1), .val (.int p2), .val (.int p3), .val (.int p4), .val (.int p5), .val (.ref b2), .val (.int (0 : Int32)), .val (.int (4 : Int32)), .unset, .unset, .unset] [(.ref b2)])) _
      refine XS.iload X9.here hx rfl (hb hby at_35) rfl ?_
      show Steps p.tables e below (T9.setTop (mkF m 37 #[.val (.int p0), .val (.int p1), .val (.int p2), .val (.int p3), .val (.int p4), .val (.int p5), .val (.ref b2), .val (.int (0 : Int32)), .val (.int (4 : Int32)), .unset, .unset, .unset] [(.int (0 : Int32)), (.ref b2)])) _
      refine XS.iloadN X9.here hx rfl (hb hby at_37) rfl ?_
      show Steps p.tables e below (T9.setTop (mkF m 38 #[.val (.int p0), .val (.int p1), .val (.int p2), .val (.int p3), .val (.int p4), .val (.int p5), .val (.ref b2), .val (.int (0 : Int32)), .val (.int (4 : Int32)), .unset, .unset, .unset] [(.int p0), (.int (0 : Int32)), (.ref b2)])) _
      refine XS.i2b X9.here hx rfl (hb hby at_38) rfl ?_
      exact k)
    have Vo12 := V9
    obtain ⟨cl12, Ar12, qa12, Sa12, Na12, Ha12, Ga12⟩ := Vo12
    have hin12 : ¬ ((0 : Int32) < 0 ∨ cl12.slots.size ≤ ((0 : Int32)).toNatClampNeg) := inb_of Sa12 ⟨by decide, by decide⟩
    obtain ⟨T13, h13, X13, e13, W13, st13⟩ := stB X9 hx hZ e9 Ar12 (j := (0 : Int32)) hin12 (g := (mkF m 39 #[.val (.int p0), .val (.int p1), .val (.int p2), .val (.int p3), .val (.int p4), .val (.int p5), .val (.ref b2), .val (.int (0 : Int32)), .val (.int (4 : Int32)), .unset, .unset, .unset] [(.int (p0.toInt8.toInt32)), (.int (0 : Int32)), (.ref b2)])) rfl rfl (hb hby at_39)
    have V13 : Arv Z h13 b2 k2 .byte (5 : Int32) [(.int (nar .byte (p0.toInt8.toInt32))), (.int (0 : Int32)), (.int (0 : Int32)), (.int (0 : Int32)), (.int (nar .byte ((p4 >>> ((1 : Int32) &&& 31)).toInt8.toInt32)))] (.int (0 : Int32)) := Arv.set Ar12 qa12 Sa12 Na12 Ha12 Ga12 (fits_nar_byte _) W13 0 rfl (Nat.le_of_ble_eq_true rfl)
    have Z13 : n0 ≤ h13.size := Nat.le_trans Z9 (Nat.le_of_eq W13.size.symm)
    have K13 := K9.wr W13 (Or.inr sz_b2)
    have N13 := Fr.snoc X13 N9 g_b2
    have go13 := go11.step (C := T13.setTop (mkF m 40 #[.val (.int p0), .val (.int p1), .val (.int p2), .val (.int p3), .val (.int p4), .val (.int p5), .val (.ref b2), .val (.int (0 : Int32)), .val (.int (4 : Int32)), .unset, .unset, .unset] [])) (fun t k => st13 t k)
    have go15 := go13.step (C := T13.setTop (mkF m 48 #[.val (.int p0), .val (.int p1), .val (.int p2), .val (.int p3), .val (.int p4), .val (.int p5), .val (.ref b2), .val (.int (0 : Int32)), .val (.int (4 : Int32)), .unset, .unset, .unset] [(.int (p1.toInt8.toInt32)), (.int (1 : Int32)), (.ref b2)])) (fun t k => by
      show Steps p.tables e below (T13.setTop (mkF m 40 #[.val (.int p0), .val (.int p1), .val (.int p2), .val (.int p3), .val (.int p4), .val (.int p5), .val (.ref b2), .val (.int (0 : Int32)), .val (.int (4 : Int32)), .unset, .unset, .unset] [])) _
      refine XS.aload X13.here hx rfl (hb hby at_40) rfl rfl ?_
      show Steps p.tables e below (T13.setTop (mkF m 42 #[.val (.int p0), .val (.int p1), .val (.int p2), .val (.int p3), .val (.int p4), .val (.int p5), .val (.ref b2), .val (.int (0 : Int32)), .val (.int (4 : Int32)), .unset, .unset, .unset] [(.ref b2)])) _
      refine XS.iload X13.here hx rfl (hb hby at_42) rfl ?_
      show Steps p.tables e below (T13.setTop (mkF m 44 #[.val (.int p0), .val (.int p1), .val (.int p2), .val (.int p3), .val (.int p4), .val (.int p5), .val (.ref b2), .val (.int (0 : Int32)), .val (.int (4 : Int32)), .unset, .unset, .unset] [(.int (0 : Int32)), (.ref b2)])) _
      refine XS.iconst X13.here hx rfl (hb hby at_44) ?_
      show Steps p.tables e below (T13.setTop (mkF m 45 #[.val (.int p0), .val (.int p1), .val (.int p2), .val (.int p3), .val (.int p4), .val (.int p5), .val (.ref b2), .val (.int (0 : Int32)), .val (.int (4 : Int32)), .unset, .unset, .unset] [(.int (1 : Int32)), (.int (0 : Int32)), (.ref b2)])) _
      refine XS.iadd X13.here hx rfl (hb hby at_45) rfl ?_
      show Steps p.tables e below (T13.setTop (mkF m 46 #[.val (.int p0), .val (.int p1), .val (.int p2), .val (.int p3), .val (.int p4), .val (.int p5), .val (.ref b2), .val (.int (0 : Int32)), .val (.int (4 : Int32)), .unset, .unset, .unset] [(.int (1 : Int32)), (.ref b2)])) _
      refine XS.iloadN X13.here hx rfl (hb hby at_46) rfl ?_
      show Steps p.tables e below (T13.setTop (mkF m 47 #[.val (.int p0), .val (.int p1), .val (.int p2), .val (.int p3), .val (.int p4), .val (.int p5), .val (.ref b2), .val (.int (0 : Int32)), .val (.int (4 : Int32)), .unset, .unset, .unset] [(.int p1), (.int (1 : Int32)), (.ref b2)])) _
      refine XS.i2b X13.here hx rfl (hb hby at_47) rfl ?_
      exact k)
    have Vo16 := V13
    obtain ⟨cl16, Ar16, qa16, Sa16, Na16, Ha16, Ga16⟩ := Vo16
    have hin16 : ¬ ((1 : Int32) < 0 ∨ cl16.slots.size ≤ ((1 : Int32)).toNatClampNeg) := inb_of Sa16 ⟨by decide, by decide⟩
    obtain ⟨T17, h17, X17, e17, W17, st17⟩ := stB X13 hx hZ e13 Ar16 (j := (1 : Int32)) hin16 (g := (mkF m 48 #[.val (.int p0), .val (.int p1), .val (.int p2), .val (.int p3), .val (.int p4), .val (.int p5), .val (.ref b2), .val (.int (0 : Int32)), .val (.int (4 : Int32)), .unset, .unset, .unset] [(.int (p1.toInt8.toInt32)), (.int (1 : Int32)), (.ref b2)])) rfl rfl (hb hby at_48)
    have V17 : Arv Z h17 b2 k2 .byte (5 : Int32) [(.int (nar .byte (p0.toInt8.toInt32))), (.int (nar .byte (p1.toInt8.toInt32))), (.int (0 : Int32)), (.int (0 : Int32)), (.int (nar .byte ((p4 >>> ((1 : Int32) &&& 31)).toInt8.toInt32)))] (.int (0 : Int32)) := Arv.set Ar16 qa16 Sa16 Na16 Ha16 Ga16 (fits_nar_byte _) W17 1 rfl (Nat.le_of_ble_eq_true rfl)
    have Z17 : n0 ≤ h17.size := Nat.le_trans Z13 (Nat.le_of_eq W17.size.symm)
    have K17 := K13.wr W17 (Or.inr sz_b2)
    have N17 := Fr.snoc X17 N13 g_b2
    have go17 := go15.step (C := T17.setTop (mkF m 49 #[.val (.int p0), .val (.int p1), .val (.int p2), .val (.int p3), .val (.int p4), .val (.int p5), .val (.ref b2), .val (.int (0 : Int32)), .val (.int (4 : Int32)), .unset, .unset, .unset] [])) (fun t k => st17 t k)
    have go19 := go17.step (C := T17.setTop (mkF m 57 #[.val (.int p0), .val (.int p1), .val (.int p2), .val (.int p3), .val (.int p4), .val (.int p5), .val (.ref b2), .val (.int (0 : Int32)), .val (.int (4 : Int32)), .unset, .unset, .unset] [(.int (p2.toInt8.toInt32)), (.int (2 : Int32)), (.ref b2)])) (fun t k => by
      show Steps p.tables e below (T17.setTop (mkF m 49 #[.val (.int p0), .val (.int p1), .val (.int p2), .val (.int p3), .val (.int p4), .val (.int p5), .val (.ref b2), .val (.int (0 : Int32)), .val (.int (4 : Int32)), .unset, .unset, .unset] [])) _
      refine XS.aload X17.here hx rfl (hb hby at_49) rfl rfl ?_
      show Steps p.tables e below (T17.setTop (mkF m 51 #[.val (.int p0), .val (.int p1), .val (.int p2), .val (.int p3), .val (.int p4), .val (.int p5), .val (.ref b2), .val (.int (0 : Int32)), .val (.int (4 : Int32)), .unset, .unset, .unset] [(.ref b2)])) _
      refine XS.iload X17.here hx rfl (hb hby at_51) rfl ?_
      show Steps p.tables e below (T17.setTop (mkF m 53 #[.val (.int p0), .val (.int p1), .val (.int p2), .val (.int p3), .val (.int p4), .val (.int p5), .val (.ref b2), .val (.int (0 : Int32)), .val (.int (4 : Int32)), .unset, .unset, .unset] [(.int (0 : Int32)), (.ref b2)])) _
      refine XS.iconst X17.here hx rfl (hb hby at_53) ?_
      show Steps p.tables e below (T17.setTop (mkF m 54 #[.val (.int p0), .val (.int p1), .val (.int p2), .val (.int p3), .val (.int p4), .val (.int p5), .val (.ref b2), .val (.int (0 : Int32)), .val (.int (4 : Int32)), .unset, .unset, .unset] [(.int (2 : Int32)), (.int (0 : Int32)), (.ref b2)])) _
      refine XS.iadd X17.here hx rfl (hb hby at_54) rfl ?_
      show Steps p.tables e below (T17.setTop (mkF m 55 #[.val (.int p0), .val (.int p1), .val (.int p2), .val (.int p3), .val (.int p4), .val (.int p5), .val (.ref b2), .val (.int (0 : Int32)), .val (.int (4 : Int32)), .unset, .unset, .unset] [(.int (2 : Int32)), (.ref b2)])) _
      refine XS.iloadN X17.here hx rfl (hb hby at_55) rfl ?_
      show Steps p.tables e below (T17.setTop (mkF m 56 #[.val (.int p0), .val (.int p1), .val (.int p2), .val (.int p3), .val (.int p4), .val (.int p5), .val (.ref b2), .val (.int (0 : Int32)), .val (.int (4 : Int32)), .unset, .unset, .unset] [(.int p2), (.int (2 : Int32)), (.ref b2)])) _
      refine XS.i2b X17.here hx rfl (hb hby at_56) rfl ?_
      exact k)
    have Vo20 := V17
    obtain ⟨cl20, Ar20, qa20, Sa20, Na20, Ha20, Ga20⟩ := Vo20
    have hin20 : ¬ ((2 : Int32) < 0 ∨ cl20.slots.size ≤ ((2 : Int32)).toNatClampNeg) := inb_of Sa20 ⟨by decide, by decide⟩
    obtain ⟨T21, h21, X21, e21, W21, st21⟩ := stB X17 hx hZ e17 Ar20 (j := (2 : Int32)) hin20 (g := (mkF m 57 #[.val (.int p0), .val (.int p1), .val (.int p2), .val (.int p3), .val (.int p4), .val (.int p5), .val (.ref b2), .val (.int (0 : Int32)), .val (.int (4 : Int32)), .unset, .unset, .unset] [(.int (p2.toInt8.toInt32)), (.int (2 : Int32)), (.ref b2)])) rfl rfl (hb hby at_57)
    have V21 : Arv Z h21 b2 k2 .byte (5 : Int32) [(.int (nar .byte (p0.toInt8.toInt32))), (.int (nar .byte (p1.toInt8.toInt32))), (.int (nar .byte (p2.toInt8.toInt32))), (.int (0 : Int32)), (.int (nar .byte ((p4 >>> ((1 : Int32) &&& 31)).toInt8.toInt32)))] (.int (0 : Int32)) := Arv.set Ar20 qa20 Sa20 Na20 Ha20 Ga20 (fits_nar_byte _) W21 2 rfl (Nat.le_of_ble_eq_true rfl)
    have Z21 : n0 ≤ h21.size := Nat.le_trans Z17 (Nat.le_of_eq W21.size.symm)
    have K21 := K17.wr W21 (Or.inr sz_b2)
    have N21 := Fr.snoc X21 N17 g_b2
    have go21 := go19.step (C := T21.setTop (mkF m 58 #[.val (.int p0), .val (.int p1), .val (.int p2), .val (.int p3), .val (.int p4), .val (.int p5), .val (.ref b2), .val (.int (0 : Int32)), .val (.int (4 : Int32)), .unset, .unset, .unset] [])) (fun t k => st21 t k)
    have go23 := go21.step (C := T21.setTop (mkF m 66 #[.val (.int p0), .val (.int p1), .val (.int p2), .val (.int p3), .val (.int p4), .val (.int p5), .val (.ref b2), .val (.int (0 : Int32)), .val (.int (4 : Int32)), .unset, .unset, .unset] [(.int (p3.toInt8.toInt32)), (.int (3 : Int32)), (.ref b2)])) (fun t k => by
      show Steps p.tables e below (T21.setTop (mkF m 58 #[.val (.int p0), .val (.int p1), .val (.int p2), .val (.int p3), .val (.int p4), .val (.int p5), .val (.ref b2), .val (.int (0 : Int32)), .val (.int (4 : Int32)), .unset, .unset, .unset] [])) _
      refine XS.aload X21.here hx rfl (hb hby at_58) rfl rfl ?_
      show Steps p.tables e below (T21.setTop (mkF m 60 #[.val (.int p0), .val (.int p1), .val (.int p2), .val (.int p3), .val (.int p4), .val (.int p5), .val (.ref b2), .val (.int (0 : Int32)), .val (.int (4 : Int32)), .unset, .unset, .unset] [(.ref b2)])) _
      refine XS.iload X21.here hx rfl (hb hby at_60) rfl ?_
      show Steps p.tables e below (T21.setTop (mkF m 62 #[.val (.int p0), .val (.int p1), .val (.int p2), .val (.int p3), .val (.int p4), .val (.int p5), .val (.ref b2), .val (.int (0 : Int32)), .val (.int (4 : Int32)), .unset, .unset, .unset] [(.int (0 : Int32)), (.ref b2)])) _
      refine XS.iconst X21.here hx rfl (hb hby at_62) ?_
      show Steps p.tables e below (T21.setTop (mkF m 63 #[.val (.int p0), .val (.int p1), .val (.int p2), .val (.int p3), .val (.int p4), .val (.int p5), .val (.ref b2), .val (.int (0 : Int32)), .val (.int (4 : Int32)), .unset, .unset, .unset] [(.int (3 : Int32)), (.int (0 : Int32)), (.ref b2)])) _
      refine XS.iadd X21.here hx rfl (hb hby at_63) rfl ?_
      show Steps p.tables e below (T21.setTop (mkF m 64 #[.val (.int p0), .val (.int p1), .val (.int p2), .val (.int p3), .val (.int p4), .val (.int p5), .val (.ref b2), .val (.int (0 : Int32)), .val (.int (4 : Int32)), .unset, .unset, .unset] [(.int (3 : Int32)), (.ref b2)])) _
      refine XS.iloadN X21.here hx rfl (hb hby at_64) rfl ?_
      show Steps p.tables e below (T21.setTop (mkF m 65 #[.val (.int p0), .val (.int p1), .val (.int p2), .val (.int p3), .val (.int p4), .val (.int p5), .val (.ref b2), .val (.int (0 : Int32)), .val (.int (4 : Int32)), .unset, .unset, .unset] [(.int p3), (.int (3 : Int32)), (.ref b2)])) _
      refine XS.i2b X21.here hx rfl (hb hby at_65) rfl ?_
      exact k)
    have Vo24 := V21
    obtain ⟨cl24, Ar24, qa24, Sa24, Na24, Ha24, Ga24⟩ := Vo24
    have hin24 : ¬ ((3 : Int32) < 0 ∨ cl24.slots.size ≤ ((3 : Int32)).toNatClampNeg) := inb_of Sa24 ⟨by decide, by decide⟩
    obtain ⟨T25, h25, X25, e25, W25, st25⟩ := stB X21 hx hZ e21 Ar24 (j := (3 : Int32)) hin24 (g := (mkF m 66 #[.val (.int p0), .val (.int p1), .val (.int p2), .val (.int p3), .val (.int p4), .val (.int p5), .val (.ref b2), .val (.int (0 : Int32)), .val (.int (4 : Int32)), .unset, .unset, .unset] [(.int (p3.toInt8.toInt32)), (.int (3 : Int32)), (.ref b2)])) rfl rfl (hb hby at_66)
    have V25 : Arv Z h25 b2 k2 .byte (5 : Int32) [(.int (nar .byte (p0.toInt8.toInt32))), (.int (nar .byte (p1.toInt8.toInt32))), (.int (nar .byte (p2.toInt8.toInt32))), (.int (nar .byte (p3.toInt8.toInt32))), (.int (nar .byte ((p4 >>> ((1 : Int32) &&& 31)).toInt8.toInt32)))] (.int (0 : Int32)) := Arv.set Ar24 qa24 Sa24 Na24 Ha24 Ga24 (fits_nar_byte _) W25 3 rfl (Nat.le_of_ble_eq_true rfl)
    have Z25 : n0 ≤ h25.size := Nat.le_trans Z21 (Nat.le_of_eq W25.size.symm)
    have K25 := K21.wr W25 (Or.inr sz_b2)
    have N25 := Fr.snoc X25 N21 g_b2
    have go25 := go23.step (C := T25.setTop (mkF m 67 #[.val (.int p0), .val (.int p1), .val (.int p2), .val (.int p3), .val (.int p4), .val (.int p5), .val (.ref b2), .val (.int (0 : Int32)), .val (.int (4 : Int32)), .unset, .unset, .unset] [])) (fun t k => st25 t k)
    have go27 := go25.step (C := T25.setTop (mkF m 76 #[.val (.int p0), .val (.int p1), .val (.int p2), .val (.int p3), .val (.int p4), .val (.int p5), .val (.ref b2), .val (.int (0 : Int32)), .val (.int (4 : Int32)), .unset, .unset, .unset] [(.int ((1 : Int32) + ((p5 &&& (2147483647 : Int32)) % (4 : Int32))))])) (fun t k => by
      show Steps p.tables e below (T25.setTop (mkF m 67 #[.val (.int p0), .val (.int p1), .val (.int p2), .val (.int p3), .val (.int p4), .val (.int p5), .val (.ref b2), .val (.int (0 : Int32)), .val (.int (4 : Int32)), .unset, .unset, .unset] [])) _
      refine XS.iconst X25.here hx rfl (hb hby at_67) ?_
      show Steps p.tables e below (T25.setTop (mkF m 68 #[.val (.int p0), .val (.int p1), .val (.int p2), .val (.int p3), .val (.int p4), .val (.int p5), .val (.ref b2), .val (.int (0 : Int32)), .val (.int (4 : Int32)), .unset, .unset, .unset] [(.int (1 : Int32))])) _
      refine XS.iload X25.here hx rfl (hb hby at_68) rfl ?_
      show Steps p.tables e below (T25.setTop (mkF m 70 #[.val (.int p0), .val (.int p1), .val (.int p2), .val (.int p3), .val (.int p4), .val (.int p5), .val (.ref b2), .val (.int (0 : Int32)), .val (.int (4 : Int32)), .unset, .unset, .unset] [(.int p5), (.int (1 : Int32))])) _
      refine X25.ldcInt hx hown (mvT hZ (hw _ (List.mem_of_getElem? (i := 1) rfl))) (g := (mkF m 70 #[.val (.int p0), .val (.int p1), .val (.int p2), .val (.int p3), .val (.int p4), .val (.int p5), .val (.ref b2), .val (.int (0 : Int32)), .val (.int (4 : Int32)), .unset, .unset, .unset] [(.int p5), (.int (1 : Int32))])) rfl (hb hby at_70) _ ?_
      show Steps p.tables e below (T25.setTop (mkF m 72 #[.val (.int p0), .val (.int p1), .val (.int p2), .val (.int p3), .val (.int p4), .val (.int p5), .val (.ref b2), .val (.int (0 : Int32)), .val (.int (4 : Int32)), .unset, .unset, .unset] [(.int (2147483647 : Int32)), (.int p5), (.int (1 : Int32))])) _
      refine XS.iand X25.here hx rfl (hb hby at_72) rfl ?_
      show Steps p.tables e below (T25.setTop (mkF m 73 #[.val (.int p0), .val (.int p1), .val (.int p2), .val (.int p3), .val (.int p4), .val (.int p5), .val (.ref b2), .val (.int (0 : Int32)), .val (.int (4 : Int32)), .unset, .unset, .unset] [(.int (p5 &&& (2147483647 : Int32))), (.int (1 : Int32))])) _
      refine XS.iconst X25.here hx rfl (hb hby at_73) ?_
      show Steps p.tables e below (T25.setTop (mkF m 74 #[.val (.int p0), .val (.int p1), .val (.int p2), .val (.int p3), .val (.int p4), .val (.int p5), .val (.ref b2), .val (.int (0 : Int32)), .val (.int (4 : Int32)), .unset, .unset, .unset] [(.int (4 : Int32)), (.int (p5 &&& (2147483647 : Int32))), (.int (1 : Int32))])) _
      refine iremM X25 hx rfl (hb hby at_74) rfl (by decide) ?_
      show Steps p.tables e below (T25.setTop (mkF m 75 #[.val (.int p0), .val (.int p1), .val (.int p2), .val (.int p3), .val (.int p4), .val (.int p5), .val (.ref b2), .val (.int (0 : Int32)), .val (.int (4 : Int32)), .unset, .unset, .unset] [(.int ((p5 &&& (2147483647 : Int32)) % (4 : Int32))), (.int (1 : Int32))])) _
      refine XS.iadd X25.here hx rfl (hb hby at_75) rfl ?_
      exact k)
    obtain ⟨zn, hzn⟩ : ∃ z : Int32, z = ((1 : Int32) + ((p5 &&& (2147483647 : Int32)) % (4 : Int32))) := ⟨_, rfl⟩
    rw [← hzn] at go27
    have go28 := go27.step (C := T25.setTop (mkF m 91 #[.val (.int p0), .val (.int p1), .val (.int p2), .val (.int p3), .val (.int p4), .val (.int p5), .val (.ref b2), .val (.int (0 : Int32)), .val (.int (4 : Int32)), .val (.int zn), .val (.int ((0 : Int32) + zn)), .unset] [(.int ((0 : Int32) + zn)), (.int (0 : Int32)), (.ref b2)])) (fun t k => by
      show Steps p.tables e below (T25.setTop (mkF m 76 #[.val (.int p0), .val (.int p1), .val (.int p2), .val (.int p3), .val (.int p4), .val (.int p5), .val (.ref b2), .val (.int (0 : Int32)), .val (.int (4 : Int32)), .unset, .unset, .unset] [(.int zn)])) _
      refine XS.istore X25.here hx rfl (hb hby at_76) rfl (l' := #[.val (.int p0), .val (.int p1), .val (.int p2), .val (.int p3), .val (.int p4), .val (.int p5), .val (.ref b2), .val (.int (0 : Int32)), .val (.int (4 : Int32)), .val (.int zn), .unset, .unset]) rfl ?_
      show Steps p.tables e below (T25.setTop (mkF m 78 #[.val (.int p0), .val (.int p1), .val (.int p2), .val (.int p3), .val (.int p4), .val (.int p5), .val (.ref b2), .val (.int (0 : Int32)), .val (.int (4 : Int32)), .val (.int zn), .unset, .unset] [])) _
      refine XS.iload X25.here hx rfl (hb hby at_78) rfl ?_
      show Steps p.tables e below (T25.setTop (mkF m 80 #[.val (.int p0), .val (.int p1), .val (.int p2), .val (.int p3), .val (.int p4), .val (.int p5), .val (.ref b2), .val (.int (0 : Int32)), .val (.int (4 : Int32)), .val (.int zn), .unset, .unset] [(.int (0 : Int32))])) _
      refine XS.iload X25.here hx rfl (hb hby at_80) rfl ?_
      show Steps p.tables e below (T25.setTop (mkF m 82 #[.val (.int p0), .val (.int p1), .val (.int p2), .val (.int p3), .val (.int p4), .val (.int p5), .val (.ref b2), .val (.int (0 : Int32)), .val (.int (4 : Int32)), .val (.int zn), .unset, .unset] [(.int zn), (.int (0 : Int32))])) _
      refine XS.iadd X25.here hx rfl (hb hby at_82) rfl ?_
      show Steps p.tables e below (T25.setTop (mkF m 83 #[.val (.int p0), .val (.int p1), .val (.int p2), .val (.int p3), .val (.int p4), .val (.int p5), .val (.ref b2), .val (.int (0 : Int32)), .val (.int (4 : Int32)), .val (.int zn), .unset, .unset] [(.int ((0 : Int32) + zn))])) _
      refine XS.istore X25.here hx rfl (hb hby at_83) rfl (l' := #[.val (.int p0), .val (.int p1), .val (.int p2), .val (.int p3), .val (.int p4), .val (.int p5), .val (.ref b2), .val (.int (0 : Int32)), .val (.int (4 : Int32)), .val (.int zn), .val (.int ((0 : Int32) + zn)), .unset]) rfl ?_
      show Steps p.tables e below (T25.setTop (mkF m 85 #[.val (.int p0), .val (.int p1), .val (.int p2), .val (.int p3), .val (.int p4), .val (.int p5), .val (.ref b2), .val (.int (0 : Int32)), .val (.int (4 : Int32)), .val (.int zn), .val (.int ((0 : Int32) + zn)), .unset] [])) _
      refine XS.aload X25.here hx rfl (hb hby at_85) rfl rfl ?_
      show Steps p.tables e below (T25.setTop (mkF m 87 #[.val (.int p0), .val (.int p1), .val (.int p2), .val (.int p3), .val (.int p4), .val (.int p5), .val (.ref b2), .val (.int (0 : Int32)), .val (.int (4 : Int32)), .val (.int zn), .val (.int ((0 : Int32) + zn)), .unset] [(.ref b2)])) _
      refine XS.iload X25.here hx rfl (hb hby at_87) rfl ?_
      show Steps p.tables e below (T25.setTop (mkF m 89 #[.val (.int p0), .val (.int p1), .val (.int p2), .val (.int p3), .val (.int p4), .val (.int p5), .val (.ref b2), .val (.int (0 : Int32)), .val (.int (4 : Int32)), .val (.int zn), .val (.int ((0 : Int32) + zn)), .unset] [(.int (0 : Int32)), (.ref b2)])) _
      refine XS.iload X25.here hx rfl (hb hby at_89) rfl ?_
      exact k)
    obtain ⟨_, _, ⟨T29, L29, k29, n29⟩, -, X29, ⟨Lc29, hQ29, l29, y29, z29⟩, st29⟩ := Jvm.LawKit.callS X25 hx (y := (⟨"com/example/graphkind/graphkind/Utf8", "length", "([BII)I"⟩ : MethodName)) hown (mvT hZ (hw _ (List.mem_of_getElem? (i := 2) rfl))) (mvT hZ (hw _ (List.mem_of_getElem? (i := 3) rfl))) (mvT hZ (hw _ (List.mem_of_getElem? (i := 4) rfl))) (mvT hZ (hw _ (List.mem_of_getElem? (i := 5) rfl))) (by decide) (backOf (W := 0) (rm1 l Z a0 hw [] b2 (0 : Int32) ((0 : Int32) + zn) k2 [(.int (nar .byte (p0.toInt8.toInt32))), (.int (nar .byte (p1.toInt8.toInt32))), (.int (nar .byte (p2.toInt8.toInt32))), (.int (nar .byte (p3.toInt8.toInt32))), (.int (nar .byte ((p4 >>> ((1 : Int32) &&& 31)).toInt8.toInt32)))] (nar .byte (p0.toInt8.toInt32)) (nar .byte (p1.toInt8.toInt32)) (nar .byte (p2.toInt8.toInt32)) (nar .byte (p3.toInt8.toInt32)) h25 n0 Z25 V25 (Or.inl ⟨rfl, _, rfl⟩)) hZ (hw _ (List.mem_of_getElem? (i := 5) rfl)) (hw _ (List.mem_of_getElem? (i := 4) rfl)) (by decide) (by decide)) (g := (mkF m 91 #[.val (.int p0), .val (.int p1), .val (.int p2), .val (.int p3), .val (.int p4), .val (.int p5), .val (.ref b2), .val (.int (0 : Int32)), .val (.int (4 : Int32)), .val (.int zn), .val (.int ((0 : Int32) + zn)), .unset] [(.int ((0 : Int32) + zn)), (.int (0 : Int32)), (.ref b2)])) rfl (by rw [hml]; rfl) (argsL := [(.ref b2), (.int (0 : Int32)), (.int ((0 : Int32) + zn))]) (rest := []) (lenOf pd0_0 rfl) rfl (by show 2 * 0 + _ ≤ _; exact Nat.le_of_eq rfl) (hb hby at_91) (fun _ _ => ⟨rfl, e25, (by decide : 1 + 0 ≤ _), (by decide : 5 + 0 ≤ _)⟩)
    dsimp only [Pt.U, Pt.locs, Pt.cells, Pt.slots] at X29 l29 y29 z29 st29 hQ29
    rw [l29, y29, z29] at X29
    obtain ⟨rfl, N29q, e29⟩ := hQ29
    have N29 := Fr.app N25 N29q
    have go29 := go28.step (C := T29.setTop (mkF m 94 #[.val (.int p0), .val (.int p1), .val (.int p2), .val (.int p3), .val (.int p4), .val (.int p5), .val (.ref b2), .val (.int (0 : Int32)), .val (.int (4 : Int32)), .val (.int zn), .val (.int ((0 : Int32) + zn)), .unset] [(.int (own_len (0 : Int32) ((0 : Int32) + zn) (nar .byte (p0.toInt8.toInt32)) (nar .byte (p1.toInt8.toInt32)) (nar .byte (p2.toInt8.toInt32)) (nar .byte (p3.toInt8.toInt32))))])) (fun t k => st29 t k)
    have go30 := go29.step (C := T29.setTop (mkF m 120 #[.val (.int p0), .val (.int p1), .val (.int p2), .val (.int p3), .val (.int p4), .val (.int p5), .val (.ref b2), .val (.int (0 : Int32)), .val (.int (4 : Int32)), .val (.int zn), .val (.int ((0 : Int32) + zn)), .val (.int (own_len (0 : Int32) ((0 : Int32) + zn) (nar .byte (p0.toInt8.toInt32)) (nar .byte (p1.toInt8.toInt32)) (nar .byte (p2.toInt8.toInt32)) (nar .byte (p3.toInt8.toInt32))))] [(.int zn), (.int (p3 &&& (255 : Int32))), (.int (p2 &&& (255 : Int32))), (.int (p1 &&& (255 : Int32))), (.int (p0 &&& (255 : Int32))), (.int (own_len (0 : Int32) ((0 : Int32) + zn) (nar .byte (p0.toInt8.toInt32)) (nar .byte (p1.toInt8.toInt32)) (nar .byte (p2.toInt8.toInt32)) (nar .byte (p3.toInt8.toInt32))))])) (fun t k => by
      show Steps p.tables e below (T29.setTop (mkF m 94 #[.val (.int p0), .val (.int p1), .val (.int p2), .val (.int p3), .val (.int p4), .val (.int p5), .val (.ref b2), .val (.int (0 : Int32)), .val (.int (4 : Int32)), .val (.int zn), .val (.int ((0 : Int32) + zn)), .unset] [(.int (own_len (0 : Int32) ((0 : Int32) + zn) (nar .byte (p0.toInt8.toInt32)) (nar .byte (p1.toInt8.toInt32)) (nar .byte (p2.toInt8.toInt32)) (nar .byte (p3.toInt8.toInt32))))])) _
      refine XS.istore X29.here hx rfl (hb hby at_94) rfl (l' := #[.val (.int p0), .val (.int p1), .val (.int p2), .val (.int p3), .val (.int p4), .val (.int p5), .val (.ref b2), .val (.int (0 : Int32)), .val (.int (4 : Int32)), .val (.int zn), .val (.int ((0 : Int32) + zn)), .val (.int (own_len (0 : Int32) ((0 : Int32) + zn) (nar .byte (p0.toInt8.toInt32)) (nar .byte (p1.toInt8.toInt32)) (nar .byte (p2.toInt8.toInt32)) (nar .byte (p3.toInt8.toInt32))))]) rfl ?_
      show Steps p.tables e below (T29.setTop (mkF m 96 #[.val (.int p0), .val (.int p1), .val (.int p2), .val (.int p3), .val (.int p4), .val (.int p5), .val (.ref b2), .val (.int (0 : Int32)), .val (.int (4 : Int32)), .val (.int zn), .val (.int ((0 : Int32) + zn)), .val (.int (own_len (0 : Int32) ((0 : Int32) + zn) (nar .byte (p0.toInt8.toInt32)) (nar .byte (p1.toInt8.toInt32)) (nar .byte (p2.toInt8.toInt32)) (nar .byte (p3.toInt8.toInt32))))] [])) _
      refine XS.iload X29.here hx rfl (hb hby at_96) rfl ?_
      show Steps p.tables e below (T29.setTop (mkF m 98 #[.val (.int p0), .val (.int p1), .val (.int p2), .val (.int p3), .val (.int p4), .val (.int p5), .val (.ref b2), .val (.int (0 : Int32)), .val (.int (4 : Int32)), .val (.int zn), .val (.int ((0 : Int32) + zn)), .val (.int (own_len (0 : Int32) ((0 : Int32) + zn) (nar .byte (p0.toInt8.toInt32)) (nar .byte (p1.toInt8.toInt32)) (nar .byte (p2.toInt8.toInt32)) (nar .byte (p3.toInt8.toInt32))))] [(.int (own_len (0 : Int32) ((0 : Int32) + zn) (nar .byte (p0.toInt8.toInt32)) (nar .byte (p1.toInt8.toInt32)) (nar .byte (p2.toInt8.toInt32)) (nar .byte (p3.toInt8.toInt32))))])) _
      refine XS.iloadN X29.here hx rfl (hb hby at_98) rfl ?_
      show Steps p.tables e below (T29.setTop (mkF m 99 #[.val (.int p0), .val (.int p1), .val (.int p2), .val (.int p3), .val (.int p4), .val (.int p5), .val (.ref b2), .val (.int (0 : Int32)), .val (.int (4 : Int32)), .val (.int zn), .val (.int ((0 : Int32) + zn)), .val (.int (own_len (0 : Int32) ((0 : Int32) + zn) (nar .byte (p0.toInt8.toInt32)) (nar .byte (p1.toInt8.toInt32)) (nar .byte (p2.toInt8.toInt32)) (nar .byte (p3.toInt8.toInt32))))] [(.int p0), (.int (own_len (0 : Int32) ((0 : Int32) + zn) (nar .byte (p0.toInt8.toInt32)) (nar .byte (p1.toInt8.toInt32)) (nar .byte (p2.toInt8.toInt32)) (nar .byte (p3.toInt8.toInt32))))])) _
      refine XS.sipush X29.here hx rfl (hb hby at_99) ?_
      show Steps p.tables e below (T29.setTop (mkF m 102 #[.val (.int p0), .val (.int p1), .val (.int p2), .val (.int p3), .val (.int p4), .val (.int p5), .val (.ref b2), .val (.int (0 : Int32)), .val (.int (4 : Int32)), .val (.int zn), .val (.int ((0 : Int32) + zn)), .val (.int (own_len (0 : Int32) ((0 : Int32) + zn) (nar .byte (p0.toInt8.toInt32)) (nar .byte (p1.toInt8.toInt32)) (nar .byte (p2.toInt8.toInt32)) (nar .byte (p3.toInt8.toInt32))))] [(.int (255 : Int32)), (.int p0), (.int (own_len (0 : Int32) ((0 : Int32) + zn) (nar .byte (p0.toInt8.toInt32)) (nar .byte (p1.toInt8.toInt32)) (nar .byte (p2.toInt8.toInt32)) (nar .byte (p3.toInt8.toInt32))))])) _
      refine XS.iand X29.here hx rfl (hb hby at_102) rfl ?_
      show Steps p.tables e below (T29.setTop (mkF m 103 #[.val (.int p0), .val (.int p1), .val (.int p2), .val (.int p3), .val (.int p4), .val (.int p5), .val (.ref b2), .val (.int (0 : Int32)), .val (.int (4 : Int32)), .val (.int zn), .val (.int ((0 : Int32) + zn)), .val (.int (own_len (0 : Int32) ((0 : Int32) + zn) (nar .byte (p0.toInt8.toInt32)) (nar .byte (p1.toInt8.toInt32)) (nar .byte (p2.toInt8.toInt32)) (nar .byte (p3.toInt8.toInt32))))] [(.int (p0 &&& (255 : Int32))), (.int (own_len (0 : Int32) ((0 : Int32) + zn) (nar .byte (p0.toInt8.toInt32)) (nar .byte (p1.toInt8.toInt32)) (nar .byte (p2.toInt8.toInt32)) (nar .byte (p3.toInt8.toInt32))))])) _
      refine XS.iloadN X29.here hx rfl (hb hby at_103) rfl ?_
      show Steps p.tables e below (T29.setTop (mkF m 104 #[.val (.int p0), .val (.int p1), .val (.int p2), .val (.int p3), .val (.int p4), .val (.int p5), .val (.ref b2), .val (.int (0 : Int32)), .val (.int (4 : Int32)), .val (.int zn), .val (.int ((0 : Int32) + zn)), .val (.int (own_len (0 : Int32) ((0 : Int32) + zn) (nar .byte (p0.toInt8.toInt32)) (nar .byte (p1.toInt8.toInt32)) (nar .byte (p2.toInt8.toInt32)) (nar .byte (p3.toInt8.toInt32))))] [(.int p1), (.int (p0 &&& (255 : Int32))), (.int (own_len (0 : Int32) ((0 : Int32) + zn) (nar .byte (p0.toInt8.toInt32)) (nar .byte (p1.toInt8.toInt32)) (nar .byte (p2.toInt8.toInt32)) (nar .byte (p3.toInt8.toInt32))))])) _
      refine XS.sipush X29.here hx rfl (hb hby at_104) ?_
      show Steps p.tables e below (T29.setTop (mkF m 107 #[.val (.int p0), .val (.int p1), .val (.int p2), .val (.int p3), .val (.int p4), .val (.int p5), .val (.ref b2), .val (.int (0 : Int32)), .val (.int (4 : Int32)), .val (.int zn), .val (.int ((0 : Int32) + zn)), .val (.int (own_len (0 : Int32) ((0 : Int32) + zn) (nar .byte (p0.toInt8.toInt32)) (nar .byte (p1.toInt8.toInt32)) (nar .byte (p2.toInt8.toInt32)) (nar .byte (p3.toInt8.toInt32))))] [(.int (255 : Int32)), (.int p1), (.int (p0 &&& (255 : Int32))), (.int (own_len (0 : Int32) ((0 : Int32) + zn) (nar .byte (p0.toInt8.toInt32)) (nar .byte (p1.toInt8.toInt32)) (nar .byte (p2.toInt8.toInt32)) (nar .byte (p3.toInt8.toInt32))))])) _
      refine XS.iand X29.here hx rfl (hb hby at_107) rfl ?_
      show Steps p.tables e below (T29.setTop (mkF m 108 #[.val (.int p0), .val (.int p1), .val (.int p2), .val (.int p3), .val (.int p4), .val (.int p5), .val (.ref b2), .val (.int (0 : Int32)), .val (.int (4 : Int32)), .val (.int zn), .val (.int ((0 : Int32) + zn)), .val (.int (own_len (0 : Int32) ((0 : Int32) + zn) (nar .byte (p0.toInt8.toInt32)) (nar .byte (p1.toInt8.toInt32)) (nar .byte (p2.toInt8.toInt32)) (nar .byte (p3.toInt8.toInt32))))] [(.int (p1 &&& (255 : Int32))), (.int (p0 &&& (255 : Int32))), (.int (own_len (0 : Int32) ((0 : Int32) + zn) (nar .byte (p0.toInt8.toInt32)) (nar .byte (p1.toInt8.toInt32)) (nar .byte (p2.toInt8.toInt32)) (nar .byte (p3.toInt8.toInt32))))])) _
      refine XS.iloadN X29.here hx rfl (hb hby at_108) rfl ?_
      show Steps p.tables e below (T29.setTop (mkF m 109 #[.val (.int p0), .val (.int p1), .val (.int p2), .val (.int p3), .val (.int p4), .val (.int p5), .val (.ref b2), .val (.int (0 : Int32)), .val (.int (4 : Int32)), .val (.int zn), .val (.int ((0 : Int32) + zn)), .val (.int (own_len (0 : Int32) ((0 : Int32) + zn) (nar .byte (p0.toInt8.toInt32)) (nar .byte (p1.toInt8.toInt32)) (nar .byte (p2.toInt8.toInt32)) (nar .byte (p3.toInt8.toInt32))))] [(.int p2), (.int (p1 &&& (255 : Int32))), (.int (p0 &&& (255 : Int32))), (.int (own_len (0 : Int32) ((0 : Int32) + zn) (nar .byte (p0.toInt8.toInt32)) (nar .byte (p1.toInt8.toInt32)) (nar .byte (p2.toInt8.toInt32)) (nar .byte (p3.toInt8.toInt32))))])) _
      refine XS.sipush X29.here hx rfl (hb hby at_109) ?_
      show Steps p.tables e below (T29.setTop (mkF m 112 #[.val (.int p0), .val (.int p1), .val (.int p2), .val (.int p3), .val (.int p4), .val (.int p5), .val (.ref b2), .val (.int (0 : Int32)), .val (.int (4 : Int32)), .val (.int zn), .val (.int ((0 : Int32) + zn)), .val (.int (own_len (0 : Int32) ((0 : Int32) + zn) (nar .byte (p0.toInt8.toInt32)) (nar .byte (p1.toInt8.toInt32)) (nar .byte (p2.toInt8.toInt32)) (nar .byte (p3.toInt8.toInt32))))] [(.int (255 : Int32)), (.int p2), (.int (p1 &&& (255 : Int32))), (.int (p0 &&& (255 : Int32))), (.int (own_len (0 : Int32) ((0 : Int32) + zn) (nar .byte (p0.toInt8.toInt32)) (nar .byte (p1.toInt8.toInt32)) (nar .byte (p2.toInt8.toInt32)) (nar .byte (p3.toInt8.toInt32))))])) _
      refine XS.iand X29.here hx rfl (hb hby at_112) rfl ?_
      show Steps p.tables e below (T29.setTop (mkF m 113 #[.val (.int p0), .val (.int p1), .val (.int p2), .val (.int p3), .val (.int p4), .val (.int p5), .val (.ref b2), .val (.int (0 : Int32)), .val (.int (4 : Int32)), .val (.int zn), .val (.int ((0 : Int32) + zn)), .val (.int (own_len (0 : Int32) ((0 : Int32) + zn) (nar .byte (p0.toInt8.toInt32)) (nar .byte (p1.toInt8.toInt32)) (nar .byte (p2.toInt8.toInt32)) (nar .byte (p3.toInt8.toInt32))))] [(.int (p2 &&& (255 : Int32))), (.int (p1 &&& (255 : Int32))), (.int (p0 &&& (255 : Int32))), (.int (own_len (0 : Int32) ((0 : Int32) + zn) (nar .byte (p0.toInt8.toInt32)) (nar .byte (p1.toInt8.toInt32)) (nar .byte (p2.toInt8.toInt32)) (nar .byte (p3.toInt8.toInt32))))])) _
      refine XS.iloadN X29.here hx rfl (hb hby at_113) rfl ?_
      show Steps p.tables e below (T29.setTop (mkF m 114 #[.val (.int p0), .val (.int p1), .val (.int p2), .val (.int p3), .val (.int p4), .val (.int p5), .val (.ref b2), .val (.int (0 : Int32)), .val (.int (4 : Int32)), .val (.int zn), .val (.int ((0 : Int32) + zn)), .val (.int (own_len (0 : Int32) ((0 : Int32) + zn) (nar .byte (p0.toInt8.toInt32)) (nar .byte (p1.toInt8.toInt32)) (nar .byte (p2.toInt8.toInt32)) (nar .byte (p3.toInt8.toInt32))))] [(.int p3), (.int (p2 &&& (255 : Int32))), (.int (p1 &&& (255 : Int32))), (.int (p0 &&& (255 : Int32))), (.int (own_len (0 : Int32) ((0 : Int32) + zn) (nar .byte (p0.toInt8.toInt32)) (nar .byte (p1.toInt8.toInt32)) (nar .byte (p2.toInt8.toInt32)) (nar .byte (p3.toInt8.toInt32))))])) _
      refine XS.sipush X29.here hx rfl (hb hby at_114) ?_
      show Steps p.tables e below (T29.setTop (mkF m 117 #[.val (.int p0), .val (.int p1), .val (.int p2), .val (.int p3), .val (.int p4), .val (.int p5), .val (.ref b2), .val (.int (0 : Int32)), .val (.int (4 : Int32)), .val (.int zn), .val (.int ((0 : Int32) + zn)), .val (.int (own_len (0 : Int32) ((0 : Int32) + zn) (nar .byte (p0.toInt8.toInt32)) (nar .byte (p1.toInt8.toInt32)) (nar .byte (p2.toInt8.toInt32)) (nar .byte (p3.toInt8.toInt32))))] [(.int (255 : Int32)), (.int p3), (.int (p2 &&& (255 : Int32))), (.int (p1 &&& (255 : Int32))), (.int (p0 &&& (255 : Int32))), (.int (own_len (0 : Int32) ((0 : Int32) + zn) (nar .byte (p0.toInt8.toInt32)) (nar .byte (p1.toInt8.toInt32)) (nar .byte (p2.toInt8.toInt32)) (nar .byte (p3.toInt8.toInt32))))])) _
      refine XS.iand X29.here hx rfl (hb hby at_117) rfl ?_
      show Steps p.tables e below (T29.setTop (mkF m 118 #[.val (.int p0), .val (.int p1), .val (.int p2), .val (.int p3), .val (.int p4), .val (.int p5), .val (.ref b2), .val (.int (0 : Int32)), .val (.int (4 : Int32)), .val (.int zn), .val (.int ((0 : Int32) + zn)), .val (.int (own_len (0 : Int32) ((0 : Int32) + zn) (nar .byte (p0.toInt8.toInt32)) (nar .byte (p1.toInt8.toInt32)) (nar .byte (p2.toInt8.toInt32)) (nar .byte (p3.toInt8.toInt32))))] [(.int (p3 &&& (255 : Int32))), (.int (p2 &&& (255 : Int32))), (.int (p1 &&& (255 : Int32))), (.int (p0 &&& (255 : Int32))), (.int (own_len (0 : Int32) ((0 : Int32) + zn) (nar .byte (p0.toInt8.toInt32)) (nar .byte (p1.toInt8.toInt32)) (nar .byte (p2.toInt8.toInt32)) (nar .byte (p3.toInt8.toInt32))))])) _
      refine XS.iload X29.here hx rfl (hb hby at_118) rfl ?_
      exact k)
    obtain ⟨_, _, ⟨T31, L31, k31, n31⟩, -, X31, ⟨Lc31, hQ31, l31, y31, z31⟩, st31⟩ := Jvm.LawKit.callS X29 hx (y := (⟨"com/example/graphkind/graphkind/Utf8LengthPinLaw", "expected", "(IIIII)I"⟩ : MethodName)) hown (mvT hZ (hw _ (List.mem_of_getElem? (i := 6) rfl))) (mvT hZ (hw _ (List.mem_of_getElem? (i := 7) rfl))) (mvT hZ (hw _ (List.mem_of_getElem? (i := 8) rfl))) (mvT hZ (hw _ (List.mem_of_getElem? (i := 9) rfl))) (by decide) (backOf (W := 1) (rm2 l Z a0 hw [] (p0 &&& (255 : Int32)) (p1 &&& (255 : Int32)) (p2 &&& (255 : Int32)) (p3 &&& (255 : Int32)) zn h25 n0 Z25 ) hZ (hw _ (List.mem_of_getElem? (i := 9) rfl)) (hw _ (List.mem_of_getElem? (i := 8) rfl)) (by decide) (by decide)) (g := (mkF m 120 #[.val (.int p0), .val (.int p1), .val (.int p2), .val (.int p3), .val (.int p4), .val (.int p5), .val (.ref b2), .val (.int (0 : Int32)), .val (.int (4 : Int32)), .val (.int zn), .val (.int ((0 : Int32) + zn)), .val (.int (own_len (0 : Int32) ((0 : Int32) + zn) (nar .byte (p0.toInt8.toInt32)) (nar .byte (p1.toInt8.toInt32)) (nar .byte (p2.toInt8.toInt32)) (nar .byte (p3.toInt8.toInt32))))] [(.int zn), (.int (p3 &&& (255 : Int32))), (.int (p2 &&& (255 : Int32))), (.int (p1 &&& (255 : Int32))), (.int (p0 &&& (255 : Int32))), (.int (own_len (0 : Int32) ((0 : Int32) + zn) (nar .byte (p0.toInt8.toInt32)) (nar .byte (p1.toInt8.toInt32)) (nar .byte (p2.toInt8.toInt32)) (nar .byte (p3.toInt8.toInt32))))])) rfl (by rw [hml]; rfl) (argsL := [(.int (p0 &&& (255 : Int32))), (.int (p1 &&& (255 : Int32))), (.int (p2 &&& (255 : Int32))), (.int (p3 &&& (255 : Int32))), (.int zn)]) (rest := [(.int (own_len (0 : Int32) ((0 : Int32) + zn) (nar .byte (p0.toInt8.toInt32)) (nar .byte (p1.toInt8.toInt32)) (nar .byte (p2.toInt8.toInt32)) (nar .byte (p3.toInt8.toInt32))))]) (lenOf pd0_1 rfl) rfl (by show 2 * 0 + _ ≤ _; exact Nat.le_of_eq rfl) (hb hby at_120) (fun _ _ => ⟨rfl, e29, (by decide : 1 + 0 ≤ _), (by decide : 5 + 0 ≤ _)⟩)
    dsimp only [Pt.U, Pt.locs, Pt.cells, Pt.slots] at X31 l31 y31 z31 st31 hQ31
    rw [l31, y31, z31] at X31
    obtain ⟨rfl, N31q, e31⟩ := hQ31
    have N31 := Fr.app N29 N31q
    have go31 := go30.step (C := T31.setTop (mkF m 123 #[.val (.int p0), .val (.int p1), .val (.int p2), .val (.int p3), .val (.int p4), .val (.int p5), .val (.ref b2), .val (.int (0 : Int32)), .val (.int (4 : Int32)), .val (.int zn), .val (.int ((0 : Int32) + zn)), .val (.int (own_len (0 : Int32) ((0 : Int32) + zn) (nar .byte (p0.toInt8.toInt32)) (nar .byte (p1.toInt8.toInt32)) (nar .byte (p2.toInt8.toInt32)) (nar .byte (p3.toInt8.toInt32))))] [(.int (own_exp (p0 &&& (255 : Int32)) (p1 &&& (255 : Int32)) (p2 &&& (255 : Int32)) (p3 &&& (255 : Int32)) zn)), (.int (own_len (0 : Int32) ((0 : Int32) + zn) (nar .byte (p0.toInt8.toInt32)) (nar .byte (p1.toInt8.toInt32)) (nar .byte (p2.toInt8.toInt32)) (nar .byte (p3.toInt8.toInt32))))])) (fun t k => st31 t k)
    have go33 := go31.step (C := T31.setTop (mkF m 131 #[.val (.int p0), .val (.int p1), .val (.int p2), .val (.int p3), .val (.int p4), .val (.int p5), .val (.ref b2), .val (.int (0 : Int32)), .val (.int (4 : Int32)), .val (.int zn), .val (.int ((0 : Int32) + zn)), .val (.int (own_len (0 : Int32) ((0 : Int32) + zn) (nar .byte (p0.toInt8.toInt32)) (nar .byte (p1.toInt8.toInt32)) (nar .byte (p2.toInt8.toInt32)) (nar .byte (p3.toInt8.toInt32))))] [(.int (1 : Int32))])) (fun t k => by
      show Steps p.tables e below (T31.setTop (mkF m 123 #[.val (.int p0), .val (.int p1), .val (.int p2), .val (.int p3), .val (.int p4), .val (.int p5), .val (.ref b2), .val (.int (0 : Int32)), .val (.int (4 : Int32)), .val (.int zn), .val (.int ((0 : Int32) + zn)), .val (.int (own_len (0 : Int32) ((0 : Int32) + zn) (nar .byte (p0.toInt8.toInt32)) (nar .byte (p1.toInt8.toInt32)) (nar .byte (p2.toInt8.toInt32)) (nar .byte (p3.toInt8.toInt32))))] [(.int (own_exp (p0 &&& (255 : Int32)) (p1 &&& (255 : Int32)) (p2 &&& (255 : Int32)) (p3 &&& (255 : Int32)) zn)), (.int (own_len (0 : Int32) ((0 : Int32) + zn) (nar .byte (p0.toInt8.toInt32)) (nar .byte (p1.toInt8.toInt32)) (nar .byte (p2.toInt8.toInt32)) (nar .byte (p3.toInt8.toInt32))))])) _
      refine XS.icmpNo X31.here hx rfl (hb hby at_123) rfl (teq (own_final (Or.inl rfl) (own_n hzn) (own_bm _) (own_bm _) (own_bm _) (own_bm _) (own_255 _) (own_255 _) (own_255 _) (own_255 _) : (own_len (0 : Int32) ((0 : Int32) + zn) (nar .byte (p0.toInt8.toInt32)) (nar .byte (p1.toInt8.toInt32)) (nar .byte (p2.toInt8.toInt32)) (nar .byte (p3.toInt8.toInt32))) = (own_exp (p0 &&& (255 : Int32)) (p1 &&& (255 : Int32)) (p2 &&& (255 : Int32)) (p3 &&& (255 : Int32)) zn))).2 ?_
      show Steps p.tables e below (T31.setTop (mkF m 126 #[.val (.int p0), .val (.int p1), .val (.int p2), .val (.int p3), .val (.int p4), .val (.int p5), .val (.ref b2), .val (.int (0 : Int32)), .val (.int (4 : Int32)), .val (.int zn), .val (.int ((0 : Int32) + zn)), .val (.int (own_len (0 : Int32) ((0 : Int32) + zn) (nar .byte (p0.toInt8.toInt32)) (nar .byte (p1.toInt8.toInt32)) (nar .byte (p2.toInt8.toInt32)) (nar .byte (p3.toInt8.toInt32))))] [])) _
      refine XS.iconst X31.here hx rfl (hb hby at_126) ?_
      show Steps p.tables e below (T31.setTop (mkF m 127 #[.val (.int p0), .val (.int p1), .val (.int p2), .val (.int p3), .val (.int p4), .val (.int p5), .val (.ref b2), .val (.int (0 : Int32)), .val (.int (4 : Int32)), .val (.int zn), .val (.int ((0 : Int32) + zn)), .val (.int (own_len (0 : Int32) ((0 : Int32) + zn) (nar .byte (p0.toInt8.toInt32)) (nar .byte (p1.toInt8.toInt32)) (nar .byte (p2.toInt8.toInt32)) (nar .byte (p3.toInt8.toInt32))))] [(.int (1 : Int32))])) _
      refine XS.goto X31.here hx rfl (pc0 := 127) (pc' := 131) rfl (hb hby at_127) (by decide) (by decide) ?_
      exact k)
    obtain ⟨fs, hr, hrun, hended, hW, hsame⟩ := X31.leave (v := some (.int (1 : Int32))) (fun h => by rw [Bd.returns] at h; cases h)
    refine ⟨_, _, go33 _ ?_, hrun, hended, _, _, rfl, ?_, ⟨_, rfl⟩, hW, hsame.mono (by decide) (by decide)⟩
    · exact retN X31 hx (t := .boolean) Bd.returns (by simp) (hb hby at_131) hr
    · show Q_rm0 Z p0 p1 p2 p3 p4 p5 h0 n0 _ T31.heap _
      rw [e31]
      exact ⟨rfl, N31⟩
  · skip
    have go34 := go5.step (C := T2.setTop (mkF m 20 #[.val (.int p0), .val (.int p1), .val (.int p2), .val (.int p3), .val (.int p4), .val (.int p5), .val (.ref b2), .val (.int za), .unset, .unset, .unset, .unset] [])) (fun t k => by
      show Steps p.tables e below (T2.setTop (mkF m 13 #[.val (.int p0), .val (.int p1), .val (.int p2), .val (.int p3), .val (.int p4), .val (.int p5), .val (.ref b2), .val (.int za), .unset, .unset, .unset, .unset] [(.int za)])) _
      refine XS.ifYes X2.here hx rfl (pc0 := 13) (pc' := 20) rfl (hb hby at_13) rfl ((if0 _ _).trans (feq hc4).2) (by decide) (by decide) ?_
      exact k)
    have hza1 := own_bit hza hc4
    subst hza1
    have go35 := go34.step (C := T2.setTop (mkF m 32 #[.val (.int p0), .val (.int p1), .val (.int p2), .val (.int p3), .val (.int p4), .val (.int p5), .val (.ref b2), .val (.int (1 : Int32)), .val (.int (0 : Int32)), .unset, .unset, .unset] [(.int ((p4 >>> ((1 : Int32) &&& 31)).toInt8.toInt32)), (.int (0 : Int32)), (.ref b2)])) (fun t k => by
      show Steps p.tables e below (T2.setTop (mkF m 20 #[.val (.int p0), .val (.int p1), .val (.int p2), .val (.int p3), .val (.int p4), .val (.int p5), .val (.ref b2), .val (.int (1 : Int32)), .unset, .unset, .unset, .unset] [])) _
      refine XS.iconst X2.here hx rfl (hb hby at_20) ?_
      show Steps p.tables e below (T2.setTop (mkF m 21 #[.val (.int p0), .val (.int p1), .val (.int p2), .val (.int p3), .val (.int p4), .val (.int p5), .val (.ref b2), .val (.int (1 : Int32)), .unset, .unset, .unset, .unset] [(.int (0 : Int32))])) _
      refine XS.istore X2.here hx rfl (hb hby at_21) rfl (l' := #[.val (.int p0), .val (.int p1), .val (.int p2), .val (.int p3), .val (.int p4), .val (.int p5), .val (.ref b2), .val (.int (1 : Int32)), .val (.int (0 : Int32)), .unset, .unset, .unset]) rfl ?_
      show Steps p.tables e below (T2.setTop (mkF m 23 #[.val (.int p0), .val (.int p1), .val (.int p2), .val (.int p3), .val (.int p4), .val (.int p5), .val (.ref b2), .val (.int (1 : Int32)), .val (.int (0 : Int32)), .unset, .unset, .unset] [])) _
      refine XS.aload X2.here hx rfl (hb hby at_23) rfl rfl ?_
      show Steps p.tables e below (T2.setTop (mkF m 25 #[.val (.int p0), .val (.int p1), .val (.int p2), .val (.int p3), .val (.int p4), .val (.int p5), .val (.ref b2), .val (.int (1 : Int32)), .val (.int (0 : Int32)), .unset, .unset, .unset] [(.ref b2)])) _
      refine XS.iload X2.here hx rfl (hb hby at_25) rfl ?_
      show Steps p.tables e below (T2.setTop (mkF m 27 #[.val (.int p0), .val (.int p1), .val (.int p2), .val (.int p3), .val (.int p4), .val (.int p5), .val (.ref b2), .val (.int (1 : Int32)), .val (.int (0 : Int32)), .unset, .unset, .unset] [(.int (0 : Int32)), (.ref b2)])) _
      refine XS.iload X2.here hx rfl (hb hby at_27) rfl ?_
      show Steps p.tables e below (T2.setTop (mkF m 29 #[.val (.int p0), .val (.int p1), .val (.int p2), .val (.int p3), .val (.int p4), .val (.int p5), .val (.ref b2), .val (.int (1 : Int32)), .val (.int (0 : Int32)), .unset, .unset, .unset] [(.int p4), (.int (0 : Int32)), (.ref b2)])) _
      refine XS.iconst X2.here hx rfl (hb hby at_29) ?_
      show Steps p.tables e below (T2.setTop (mkF m 30 #[.val (.int p0), .val (.int p1), .val (.int p2), .val (.int p3), .val (.int p4), .val (.int p5), .val (.ref b2), .val (.int (1 : Int32)), .val (.int (0 : Int32)), .unset, .unset, .unset] [(.int (1 : Int32)), (.int p4), (.int (0 : Int32)), (.ref b2)])) _
      refine XS.ishr X2.here hx rfl (hb hby at_30) rfl ?_
      show Steps p.tables e below (T2.setTop (mkF m 31 #[.val (.int p0), .val (.int p1), .val (.int p2), .val (.int p3), .val (.int p4), .val (.int p5), .val (.ref b2), .val (.int (1 : Int32)), .val (.int (0 : Int32)), .unset, .unset, .unset] [(.int (p4 >>> ((1 : Int32) &&& 31))), (.int (0 : Int32)), (.ref b2)])) _
      refine XS.i2b X2.here hx rfl (hb hby at_31) rfl ?_
      exact k)
    have Vo36 := V2
    obtain ⟨cl36, Ar36, qa36, Sa36, Na36, Ha36, Ga36⟩ := Vo36
    have hin36 : ¬ ((0 : Int32) < 0 ∨ cl36.slots.size ≤ ((0 : Int32)).toNatClampNeg) := inb_of Sa36 ⟨by decide, by decide⟩
    obtain ⟨T37, h37, X37, e37, W37, st37⟩ := stB X2 hx hZ e2 Ar36 (j := (0 : Int32)) hin36 (g := (mkF m 32 #[.val (.int p0), .val (.int p1), .val (.int p2), .val (.int p3), .val (.int p4), .val (.int p5), .val (.ref b2), .val (.int (1 : Int32)), .val (.int (0 : Int32)), .unset, .unset, .unset] [(.int ((p4 >>> ((1 : Int32) &&& 31)).toInt8.toInt32)), (.int (0 : Int32)), (.ref b2)])) rfl rfl (hb hby at_32)
    have V37 : Arv Z h37 b2 k2 .byte (5 : Int32) [(.int (nar .byte ((p4 >>> ((1 : Int32) &&& 31)).toInt8.toInt32))), (.int (0 : Int32)), (.int (0 : Int32)), (.int (0 : Int32)), (.int (0 : Int32))] (.int (0 : Int32)) := Arv.set Ar36 qa36 Sa36 Na36 Ha36 Ga36 (fits_nar_byte _) W37 0 rfl (Nat.le_of_ble_eq_true rfl)
    have Z37 : n0 ≤ h37.size := Nat.le_trans Z2 (Nat.le_of_eq W37.size.symm)
    have K37 := K2.wr W37 (Or.inr sz_b2)
    have N37 := Fr.snoc X37 N0 g_b2
    have go37 := go35.step (C := T37.setTop (mkF m 33 #[.val (.int p0), .val (.int p1), .val (.int p2), .val (.int p3), .val (.int p4), .val (.int p5), .val (.ref b2), .val (.int (1 : Int32)), .val (.int (0 : Int32)), .unset, .unset, .unset] [])) (fun t k => st37 t k)
    have go39 := go37.step (C := T37.setTop (mkF m 39 #[.val (.int p0), .val (.int p1), .val (.int p2), .val (.int p3), .val (.int p4), .val (.int p5), .val (.ref b2), .val (.int (1 : Int32)), .val (.int (0 : Int32)), .unset, .unset, .unset] [(.int (p0.toInt8.toInt32)), (.int (1 : Int32)), (.ref b2)])) (fun t k => by
      show Steps p.tables e below (T37.setTop (mkF m 33 #[.val (.int p0), .val (.int p1), .val (.int p2), .val (.int p3), .val (.int p4), .val (.int p5), .val (.ref b2), .val (.int (1 : Int32)), .val (.int (0 : Int32)), .unset, .unset, .unset] [])) _
      refine XS.aload X37.here hx rfl (hb hby at_33) rfl rfl ?_
      show Steps p.tables e below (T37.setTop (mkF m 35 #[.val (.int p0), .val (.int p1), .val (.int p2), .val (.int p3), .val (.int p4), .val (.int p5), .val (.ref b2), .val (.int (1 : Int32)), .val (.int (0 : Int32)), .unset, .unset, .unset] [(.ref b2)])) _
      refine XS.iload X37.here hx rfl (hb hby at_35) rfl ?_
      show Steps p.tables e below (T37.setTop (mkF m 37 #[.val (.int p0), .val (.int p1), .val (.int p2), .val (.int p3), .val (.int p4), .val (.int p5), .val (.ref b2), .val (.int (1 : Int32)), .val (.int (0 : Int32)), .unset, .unset, .unset] [(.int (1 : Int32)), (.ref b2)])) _
      refine XS.iloadN X37.here hx rfl (hb hby at_37) rfl ?_
      show Steps p.tables e below (T37.setTop (mkF m 38 #[.val (.int p0), .val (.int p1), .val (.int p2), .val (.int p3), .val (.int p4), .val (.int p5), .val (.ref b2), .val (.int (1 : Int32)), .val (.int (0 : Int32)), .unset, .unset, .unset] [(.int p0), (.int (1 : Int32)), (.ref b2)])) _
      refine XS.i2b X37.here hx rfl (hb hby at_38) rfl ?_
      exact k)
    have Vo40 := V37
    obtain ⟨cl40, Ar40, qa40, Sa40, Na40, Ha40, Ga40⟩ := Vo40
    have hin40 : ¬ ((1 : Int32) < 0 ∨ cl40.slots.size ≤ ((1 : Int32)).toNatClampNeg) := inb_of Sa40 ⟨by decide, by decide⟩
    obtain ⟨T41, h41, X41, e41, W41, st41⟩ := stB X37 hx hZ e37 Ar40 (j := (1 : Int32)) hin40 (g := (mkF m 39 #[.val (.int p0), .val (.int p1), .val (.int p2), .val (.int p3), .val (.int p4), .val (.int p5), .val (.ref b2), .val (.int (1 : Int32)), .val (.int (0 : Int32)), .unset, .unset, .unset] [(.int (p0.toInt8.toInt32)), (.int (1 : Int32)), (.ref b2)])) rfl rfl (hb hby at_39)
    have V41 : Arv Z h41 b2 k2 .byte (5 : Int32) [(.int (nar .byte ((p4 >>> ((1 : Int32) &&& 31)).toInt8.toInt32))), (.int (nar .byte (p0.toInt8.toInt32))), (.int (0 : Int32)), (.int (0 : Int32)), (.int (0 : Int32))] (.int (0 : Int32)) := Arv.set Ar40 qa40 Sa40 Na40 Ha40 Ga40 (fits_nar_byte _) W41 1 rfl (Nat.le_of_ble_eq_true rfl)
    have Z41 : n0 ≤ h41.size := Nat.le_trans Z37 (Nat.le_of_eq W41.size.symm)
    have K41 := K37.wr W41 (Or.inr sz_b2)
    have N41 := Fr.snoc X41 N37 g_b2
    have go41 := go39.step (C := T41.setTop (mkF m 40 #[.val (.int p0), .val (.int p1), .val (.int p2), .val (.int p3), .val (.int p4), .val (.int p5), .val (.ref b2), .val (.int (1 : Int32)), .val (.int (0 : Int32)), .unset, .unset, .unset] [])) (fun t k => st41 t k)
    have go43 := go41.step (C := T41.setTop (mkF m 48 #[.val (.int p0), .val (.int p1), .val (.int p2), .val (.int p3), .val (.int p4), .val (.int p5), .val (.ref b2), .val (.int (1 : Int32)), .val (.int (0 : Int32)), .unset, .unset, .unset] [(.int (p1.toInt8.toInt32)), (.int (2 : Int32)), (.ref b2)])) (fun t k => by
      show Steps p.tables e below (T41.setTop (mkF m 40 #[.val (.int p0), .val (.int p1), .val (.int p2), .val (.int p3), .val (.int p4), .val (.int p5), .val (.ref b2), .val (.int (1 : Int32)), .val (.int (0 : Int32)), .unset, .unset, .unset] [])) _
      refine XS.aload X41.here hx rfl (hb hby at_40) rfl rfl ?_
      show Steps p.tables e below (T41.setTop (mkF m 42 #[.val (.int p0), .val (.int p1), .val (.int p2), .val (.int p3), .val (.int p4), .val (.int p5), .val (.ref b2), .val (.int (1 : Int32)), .val (.int (0 : Int32)), .unset, .unset, .unset] [(.ref b2)])) _
      refine XS.iload X41.here hx rfl (hb hby at_42) rfl ?_
      show Steps p.tables e below (T41.setTop (mkF m 44 #[.val (.int p0), .val (.int p1), .val (.int p2), .val (.int p3), .val (.int p4), .val (.int p5), .val (.ref b2), .val (.int (1 : Int32)), .val (.int (0 : Int32)), .unset, .unset, .unset] [(.int (1 : Int32)), (.ref b2)])) _
      refine XS.iconst X41.here hx rfl (hb hby at_44) ?_
      show Steps p.tables e below (T41.setTop (mkF m 45 #[.val (.int p0), .val (.int p1), .val (.int p2), .val (.int p3), .val (.int p4), .val (.int p5), .val (.ref b2), .val (.int (1 : Int32)), .val (.int (0 : Int32)), .unset, .unset, .unset] [(.int (1 : Int32)), (.int (1 : Int32)), (.ref b2)])) _
      refine XS.iadd X41.here hx rfl (hb hby at_45) rfl ?_
      show Steps p.tables e below (T41.setTop (mkF m 46 #[.val (.int p0), .val (.int p1), .val (.int p2), .val (.int p3), .val (.int p4), .val (.int p5), .val (.ref b2), .val (.int (1 : Int32)), .val (.int (0 : Int32)), .unset, .unset, .unset] [(.int (2 : Int32)), (.ref b2)])) _
      refine XS.iloadN X41.here hx rfl (hb hby at_46) rfl ?_
      show Steps p.tables e below (T41.setTop (mkF m 47 #[.val (.int p0), .val (.int p1), .val (.int p2), .val (.int p3), .val (.int p4), .val (.int p5), .val (.ref b2), .val (.int (1 : Int32)), .val (.int (0 : Int32)), .unset, .unset, .unset] [(.int p1), (.int (2 : Int32)), (.ref b2)])) _
      refine XS.i2b X41.here hx rfl (hb hby at_47) rfl ?_
      exact k)
    have Vo44 := V41
    obtain ⟨cl44, Ar44, qa44, Sa44, Na44, Ha44, Ga44⟩ := Vo44
    have hin44 : ¬ ((2 : Int32) < 0 ∨ cl44.slots.size ≤ ((2 : Int32)).toNatClampNeg) := inb_of Sa44 ⟨by decide, by decide⟩
    obtain ⟨T45, h45, X45, e45, W45, st45⟩ := stB X41 hx hZ e41 Ar44 (j := (2 : Int32)) hin44 (g := (mkF m 48 #[.val (.int p0), .val (.int p1), .val (.int p2), .val (.int p3), .val (.int p4), .val (.int p5), .val (.ref b2), .val (.int (1 : Int32)), .val (.int (0 : Int32)), .unset, .unset, .unset] [(.int (p1.toInt8.toInt32)), (.int (2 : Int32)), (.ref b2)])) rfl rfl (hb hby at_48)
    have V45 : Arv Z h45 b2 k2 .byte (5 : Int32) [(.int (nar .byte ((p4 >>> ((1 : Int32) &&& 31)).toInt8.toInt32))), (.int (nar .byte (p0.toInt8.toInt32))), (.int (nar .byte (p1.toInt8.toInt32))), (.int (0 : Int32)), (.int (0 : Int32))] (.int (0 : Int32)) := Arv.set Ar44 qa44 Sa44 Na44 Ha44 Ga44 (fits_nar_byte _) W45 2 rfl (Nat.le_of_ble_eq_true rfl)
    have Z45 : n0 ≤ h45.size := Nat.le_trans Z41 (Nat.le_of_eq W45.size.symm)
    have K45 := K41.wr W45 (Or.inr sz_b2)
    have N45 := Fr.snoc X45 N41 g_b2
    have go45 := go43.step (C := T45.setTop (mkF m 49 #[.val (.int p0), .val (.int p1), .val (.int p2), .val (.int p3), .val (.int p4), .val (.int p5), .val (.ref b2), .val (.int (1 : Int32)), .val (.int (0 : Int32)), .unset, .unset, .unset] [])) (fun t k => st45 t k)
    have go47 := go45.step (C := T45.setTop (mkF m 57 #[.val (.int p0), .val (.int p1), .val (.int p2), .val (.int p3), .val (.int p4), .val (.int p5), .val (.ref b2), .val (.int (1 : Int32)), .val (.int (0 : Int32)), .unset, .unset, .unset] [(.int (p2.toInt8.toInt32)), (.int (3 : Int32)), (.ref b2)])) (fun t k => by
      show Steps p.tables e below (T45.setTop (mkF m 49 #[.val (.int p0), .val (.int p1), .val (.int p2), .val (.int p3), .val (.int p4), .val (.int p5), .val (.ref b2), .val (.int (1 : Int32)), .val (.int (0 : Int32)), .unset, .unset, .unset] [])) _
      refine XS.aload X45.here hx rfl (hb hby at_49) rfl rfl ?_
      show Steps p.tables e below (T45.setTop (mkF m 51 #[.val (.int p0), .val (.int p1), .val (.int p2), .val (.int p3), .val (.int p4), .val (.int p5), .val (.ref b2), .val (.int (1 : Int32)), .val (.int (0 : Int32)), .unset, .unset, .unset] [(.ref b2)])) _
      refine XS.iload X45.here hx rfl (hb hby at_51) rfl ?_
      show Steps p.tables e below (T45.setTop (mkF m 53 #[.val (.int p0), .val (.int p1), .val (.int p2), .val (.int p3), .val (.int p4), .val (.int p5), .val (.ref b2), .val (.int (1 : Int32)), .val (.int (0 : Int32)), .unset, .unset, .unset] [(.int (1 : Int32)), (.ref b2)])) _
      refine XS.iconst X45.here hx rfl (hb hby at_53) ?_
      show Steps p.tables e below (T45.setTop (mkF m 54 #[.val (.int p0), .val (.int p1), .val (.int p2), .val (.int p3), .val (.int p4), .val (.int p5), .val (.ref b2), .val (.int (1 : Int32)), .val (.int (0 : Int32)), .unset, .unset, .unset] [(.int (2 : Int32)), (.int (1 : Int32)), (.ref b2)])) _
      refine XS.iadd X45.here hx rfl (hb hby at_54) rfl ?_
      show Steps p.tables e below (T45.setTop (mkF m 55 #[.val (.int p0), .val (.int p1), .val (.int p2), .val (.int p3), .val (.int p4), .val (.int p5), .val (.ref b2), .val (.int (1 : Int32)), .val (.int (0 : Int32)), .unset, .unset, .unset] [(.int (3 : Int32)), (.ref b2)])) _
      refine XS.iloadN X45.here hx rfl (hb hby at_55) rfl ?_
      show Steps p.tables e below (T45.setTop (mkF m 56 #[.val (.int p0), .val (.int p1), .val (.int p2), .val (.int p3), .val (.int p4), .val (.int p5), .val (.ref b2), .val (.int (1 : Int32)), .val (.int (0 : Int32)), .unset, .unset, .unset] [(.int p2), (.int (3 : Int32)), (.ref b2)])) _
      refine XS.i2b X45.here hx rfl (hb hby at_56) rfl ?_
      exact k)
    have Vo48 := V45
    obtain ⟨cl48, Ar48, qa48, Sa48, Na48, Ha48, Ga48⟩ := Vo48
    have hin48 : ¬ ((3 : Int32) < 0 ∨ cl48.slots.size ≤ ((3 : Int32)).toNatClampNeg) := inb_of Sa48 ⟨by decide, by decide⟩
    obtain ⟨T49, h49, X49, e49, W49, st49⟩ := stB X45 hx hZ e45 Ar48 (j := (3 : Int32)) hin48 (g := (mkF m 57 #[.val (.int p0), .val (.int p1), .val (.int p2), .val (.int p3), .val (.int p4), .val (.int p5), .val (.ref b2), .val (.int (1 : Int32)), .val (.int (0 : Int32)), .unset, .unset, .unset] [(.int (p2.toInt8.toInt32)), (.int (3 : Int32)), (.ref b2)])) rfl rfl (hb hby at_57)
    have V49 : Arv Z h49 b2 k2 .byte (5 : Int32) [(.int (nar .byte ((p4 >>> ((1 : Int32) &&& 31)).toInt8.toInt32))), (.int (nar .byte (p0.toInt8.toInt32))), (.int (nar .byte (p1.toInt8.toInt32))), (.int (nar .byte (p2.toInt8.toInt32))), (.int (0 : Int32))] (.int (0 : Int32)) := Arv.set Ar48 qa48 Sa48 Na48 Ha48 Ga48 (fits_nar_byte _) W49 3 rfl (Nat.le_of_ble_eq_true rfl)
    have Z49 : n0 ≤ h49.size := Nat.le_trans Z45 (Nat.le_of_eq W49.size.symm)
    have K49 := K45.wr W49 (Or.inr sz_b2)
    have N49 := Fr.snoc X49 N45 g_b2
    have go49 := go47.step (C := T49.setTop (mkF m 58 #[.val (.int p0), .val (.int p1), .val (.int p2), .val (.int p3), .val (.int p4), .val (.int p5), .val (.ref b2), .val (.int (1 : Int32)), .val (.int (0 : Int32)), .unset, .unset, .unset] [])) (fun t k => st49 t k)
    have go51 := go49.step (C := T49.setTop (mkF m 66 #[.val (.int p0), .val (.int p1), .val (.int p2), .val (.int p3), .val (.int p4), .val (.int p5), .val (.ref b2), .val (.int (1 : Int32)), .val (.int (0 : Int32)), .unset, .unset, .unset] [(.int (p3.toInt8.toInt32)), (.int (4 : Int32)), (.ref b2)])) (fun t k => by
      show Steps p.tables e below (T49.setTop (mkF m 58 #[.val (.int p0), .val (.int p1), .val (.int p2), .val (.int p3), .val (.int p4), .val (.int p5), .val (.ref b2), .val (.int (1 : Int32)), .val (.int (0 : Int32)), .unset, .unset, .unset] [])) _
      refine XS.aload X49.here hx rfl (hb hby at_58) rfl rfl ?_
      show Steps p.tables e below (T49.setTop (mkF m 60 #[.val (.int p0), .val (.int p1), .val (.int p2), .val (.int p3), .val (.int p4), .val (.int p5), .val (.ref b2), .val (.int (1 : Int32)), .val (.int (0 : Int32)), .unset, .unset, .unset] [(.ref b2)])) _
      refine XS.iload X49.here hx rfl (hb hby at_60) rfl ?_
      show Steps p.tables e below (T49.setTop (mkF m 62 #[.val (.int p0), .val (.int p1), .val (.int p2), .val (.int p3), .val (.int p4), .val (.int p5), .val (.ref b2), .val (.int (1 : Int32)), .val (.int (0 : Int32)), .unset, .unset, .unset] [(.int (1 : Int32)), (.ref b2)])) _
      refine XS.iconst X49.here hx rfl (hb hby at_62) ?_
      show Steps p.tables e below (T49.setTop (mkF m 63 #[.val (.int p0), .val (.int p1), .val (.int p2), .val (.int p3), .val (.int p4), .val (.int p5), .val (.ref b2), .val (.int (1 : Int32)), .val (.int (0 : Int32)), .unset, .unset, .unset] [(.int (3 : Int32)), (.int (1 : Int32)), (.ref b2)])) _
      refine XS.iadd X49.here hx rfl (hb hby at_63) rfl ?_
      show Steps p.tables e below (T49.setTop (mkF m 64 #[.val (.int p0), .val (.int p1), .val (.int p2), .val (.int p3), .val (.int p4), .val (.int p5), .val (.ref b2), .val (.int (1 : Int32)), .val (.int (0 : Int32)), .unset, .unset, .unset] [(.int (4 : Int32)), (.ref b2)])) _
      refine XS.iloadN X49.here hx rfl (hb hby at_64) rfl ?_
      show Steps p.tables e below (T49.setTop (mkF m 65 #[.val (.int p0), .val (.int p1), .val (.int p2), .val (.int p3), .val (.int p4), .val (.int p5), .val (.ref b2), .val (.int (1 : Int32)), .val (.int (0 : Int32)), .unset, .unset, .unset] [(.int p3), (.int (4 : Int32)), (.ref b2)])) _
      refine XS.i2b X49.here hx rfl (hb hby at_65) rfl ?_
      exact k)
    have Vo52 := V49
    obtain ⟨cl52, Ar52, qa52, Sa52, Na52, Ha52, Ga52⟩ := Vo52
    have hin52 : ¬ ((4 : Int32) < 0 ∨ cl52.slots.size ≤ ((4 : Int32)).toNatClampNeg) := inb_of Sa52 ⟨by decide, by decide⟩
    obtain ⟨T53, h53, X53, e53, W53, st53⟩ := stB X49 hx hZ e49 Ar52 (j := (4 : Int32)) hin52 (g := (mkF m 66 #[.val (.int p0), .val (.int p1), .val (.int p2), .val (.int p3), .val (.int p4), .val (.int p5), .val (.ref b2), .val (.int (1 : Int32)), .val (.int (0 : Int32)), .unset, .unset, .unset] [(.int (p3.toInt8.toInt32)), (.int (4 : Int32)), (.ref b2)])) rfl rfl (hb hby at_66)
    have V53 : Arv Z h53 b2 k2 .byte (5 : Int32) [(.int (nar .byte ((p4 >>> ((1 : Int32) &&& 31)).toInt8.toInt32))), (.int (nar .byte (p0.toInt8.toInt32))), (.int (nar .byte (p1.toInt8.toInt32))), (.int (nar .byte (p2.toInt8.toInt32))), (.int (nar .byte (p3.toInt8.toInt32)))] (.int (0 : Int32)) := Arv.set Ar52 qa52 Sa52 Na52 Ha52 Ga52 (fits_nar_byte _) W53 4 rfl (Nat.le_of_ble_eq_true rfl)
    have Z53 : n0 ≤ h53.size := Nat.le_trans Z49 (Nat.le_of_eq W53.size.symm)
    have K53 := K49.wr W53 (Or.inr sz_b2)
    have N53 := Fr.snoc X53 N49 g_b2
    have go53 := go51.step (C := T53.setTop (mkF m 67 #[.val (.int p0), .val (.int p1), .val (.int p2), .val (.int p3), .val (.int p4), .val (.int p5), .val (.ref b2), .val (.int (1 : Int32)), .val (.int (0 : Int32)), .unset, .unset, .unset] [])) (fun t k => st53 t k)
    have go55 := go53.step (C := T53.setTop (mkF m 76 #[.val (.int p0), .val (.int p1), .val (.int p2), .val (.int p3), .val (.int p4), .val (.int p5), .val (.ref b2), .val (.int (1 : Int32)), .val (.int (0 : Int32)), .unset, .unset, .unset] [(.int ((1 : Int32) + ((p5 &&& (2147483647 : Int32)) % (4 : Int32))))])) (fun t k => by
      show Steps p.tables e below (T53.setTop (mkF m 67 #[.val (.int p0), .val (.int p1), .val (.int p2), .val (.int p3), .val (.int p4), .val (.int p5), .val (.ref b2), .val (.int (1 : Int32)), .val (.int (0 : Int32)), .unset, .unset, .unset] [])) _
      refine XS.iconst X53.here hx rfl (hb hby at_67) ?_
      show Steps p.tables e below (T53.setTop (mkF m 68 #[.val (.int p0), .val (.int p1), .val (.int p2), .val (.int p3), .val (.int p4), .val (.int p5), .val (.ref b2), .val (.int (1 : Int32)), .val (.int (0 : Int32)), .unset, .unset, .unset] [(.int (1 : Int32))])) _
      refine XS.iload X53.here hx rfl (hb hby at_68) rfl ?_
      show Steps p.tables e below (T53.setTop (mkF m 70 #[.val (.int p0), .val (.int p1), .val (.int p2), .val (.int p3), .val (.int p4), .val (.int p5), .val (.ref b2), .val (.int (1 : Int32)), .val (.int (0 : Int32)), .unset, .unset, .unset] [(.int p5), (.int (1 : Int32))])) _
      refine X53.ldcInt hx hown (mvT hZ (hw _ (List.mem_of_getElem? (i := 1) rfl))) (g := (mkF m 70 #[.val (.int p0), .val (.int p1), .val (.int p2), .val (.int p3), .val (.int p4), .val (.int p5), .val (.ref b2), .val (.int (1 : Int32)), .val (.int (0 : Int32)), .unset, .unset, .unset] [(.int p5), (.int (1 : Int32))])) rfl (hb hby at_70) _ ?_
      show Steps p.tables e below (T53.setTop (mkF m 72 #[.val (.int p0), .val (.int p1), .val (.int p2), .val (.int p3), .val (.int p4), .val (.int p5), .val (.ref b2), .val (.int (1 : Int32)), .val (.int (0 : Int32)), .unset, .unset, .unset] [(.int (2147483647 : Int32)), (.int p5), (.int (1 : Int32))])) _
      refine XS.iand X53.here hx rfl (hb hby at_72) rfl ?_
      show Steps p.tables e below (T53.setTop (mkF m 73 #[.val (.int p0), .val (.int p1), .val (.int p2), .val (.int p3), .val (.int p4), .val (.int p5), .val (.ref b2), .val (.int (1 : Int32)), .val (.int (0 : Int32)), .unset, .unset, .unset] [(.int (p5 &&& (2147483647 : Int32))), (.int (1 : Int32))])) _
      refine XS.iconst X53.here hx rfl (hb hby at_73) ?_
      show Steps p.tables e below (T53.setTop (mkF m 74 #[.val (.int p0), .val (.int p1), .val (.int p2), .val (.int p3), .val (.int p4), .val (.int p5), .val (.ref b2), .val (.int (1 : Int32)), .val (.int (0 : Int32)), .unset, .unset, .unset] [(.int (4 : Int32)), (.int (p5 &&& (2147483647 : Int32))), (.int (1 : Int32))])) _
      refine iremM X53 hx rfl (hb hby at_74) rfl (by decide) ?_
      show Steps p.tables e below (T53.setTop (mkF m 75 #[.val (.int p0), .val (.int p1), .val (.int p2), .val (.int p3), .val (.int p4), .val (.int p5), .val (.ref b2), .val (.int (1 : Int32)), .val (.int (0 : Int32)), .unset, .unset, .unset] [(.int ((p5 &&& (2147483647 : Int32)) % (4 : Int32))), (.int (1 : Int32))])) _
      refine XS.iadd X53.here hx rfl (hb hby at_75) rfl ?_
      exact k)
    obtain ⟨zn, hzn⟩ : ∃ z : Int32, z = ((1 : Int32) + ((p5 &&& (2147483647 : Int32)) % (4 : Int32))) := ⟨_, rfl⟩
    rw [← hzn] at go55
    have go56 := go55.step (C := T53.setTop (mkF m 91 #[.val (.int p0), .val (.int p1), .val (.int p2), .val (.int p3), .val (.int p4), .val (.int p5), .val (.ref b2), .val (.int (1 : Int32)), .val (.int (0 : Int32)), .val (.int zn), .val (.int ((1 : Int32) + zn)), .unset] [(.int ((1 : Int32) + zn)), (.int (1 : Int32)), (.ref b2)])) (fun t k => by
      show Steps p.tables e below (T53.setTop (mkF m 76 #[.val (.int p0), .val (.int p1), .val (.int p2), .val (.int p3), .val (.int p4), .val (.int p5), .val (.ref b2), .val (.int (1 : Int32)), .val (.int (0 : Int32)), .unset, .unset, .unset] [(.int zn)])) _
      refine XS.istore X53.here hx rfl (hb hby at_76) rfl (l' := #[.val (.int p0), .val (.int p1), .val (.int p2), .val (.int p3), .val (.int p4), .val (.int p5), .val (.ref b2), .val (.int (1 : Int32)), .val (.int (0 : Int32)), .val (.int zn), .unset, .unset]) rfl ?_
      show Steps p.tables e below (T53.setTop (mkF m 78 #[.val (.int p0), .val (.int p1), .val (.int p2), .val (.int p3), .val (.int p4), .val (.int p5), .val (.ref b2), .val (.int (1 : Int32)), .val (.int (0 : Int32)), .val (.int zn), .unset, .unset] [])) _
      refine XS.iload X53.here hx rfl (hb hby at_78) rfl ?_
      show Steps p.tables e below (T53.setTop (mkF m 80 #[.val (.int p0), .val (.int p1), .val (.int p2), .val (.int p3), .val (.int p4), .val (.int p5), .val (.ref b2), .val (.int (1 : Int32)), .val (.int (0 : Int32)), .val (.int zn), .unset, .unset] [(.int (1 : Int32))])) _
      refine XS.iload X53.here hx rfl (hb hby at_80) rfl ?_
      show Steps p.tables e below (T53.setTop (mkF m 82 #[.val (.int p0), .val (.int p1), .val (.int p2), .val (.int p3), .val (.int p4), .val (.int p5), .val (.ref b2), .val (.int (1 : Int32)), .val (.int (0 : Int32)), .val (.int zn), .unset, .unset] [(.int zn), (.int (1 : Int32))])) _
      refine XS.iadd X53.here hx rfl (hb hby at_82) rfl ?_
      show Steps p.tables e below (T53.setTop (mkF m 83 #[.val (.int p0), .val (.int p1), .val (.int p2), .val (.int p3), .val (.int p4), .val (.int p5), .val (.ref b2), .val (.int (1 : Int32)), .val (.int (0 : Int32)), .val (.int zn), .unset, .unset] [(.int ((1 : Int32) + zn))])) _
      refine XS.istore X53.here hx rfl (hb hby at_83) rfl (l' := #[.val (.int p0), .val (.int p1), .val (.int p2), .val (.int p3), .val (.int p4), .val (.int p5), .val (.ref b2), .val (.int (1 : Int32)), .val (.int (0 : Int32)), .val (.int zn), .val (.int ((1 : Int32) + zn)), .unset]) rfl ?_
      show Steps p.tables e below (T53.setTop (mkF m 85 #[.val (.int p0), .val (.int p1), .val (.int p2), .val (.int p3), .val (.int p4), .val (.int p5), .val (.ref b2), .val (.int (1 : Int32)), .val (.int (0 : Int32)), .val (.int zn), .val (.int ((1 : Int32) + zn)), .unset] [])) _
      refine XS.aload X53.here hx rfl (hb hby at_85) rfl rfl ?_
      show Steps p.tables e below (T53.setTop (mkF m 87 #[.val (.int p0), .val (.int p1), .val (.int p2), .val (.int p3), .val (.int p4), .val (.int p5), .val (.ref b2), .val (.int (1 : Int32)), .val (.int (0 : Int32)), .val (.int zn), .val (.int ((1 : Int32) + zn)), .unset] [(.ref b2)])) _
      refine XS.iload X53.here hx rfl (hb hby at_87) rfl ?_
      show Steps p.tables e below (T53.setTop (mkF m 89 #[.val (.int p0), .val (.int p1), .val (.int p2), .val (.int p3), .val (.int p4), .val (.int p5), .val (.ref b2), .val (.int (1 : Int32)), .val (.int (0 : Int32)), .val (.int zn), .val (.int ((1 : Int32) + zn)), .unset] [(.int (1 : Int32)), (.ref b2)])) _
      refine XS.iload X53.here hx rfl (hb hby at_89) rfl ?_
      exact k)
    obtain ⟨_, _, ⟨T57, L57, k57, n57⟩, -, X57, ⟨Lc57, hQ57, l57, y57, z57⟩, st57⟩ := Jvm.LawKit.callS X53 hx (y := (⟨"com/example/graphkind/graphkind/Utf8", "length", "([BII)I"⟩ : MethodName)) hown (mvT hZ (hw _ (List.mem_of_getElem? (i := 2) rfl))) (mvT hZ (hw _ (List.mem_of_getElem? (i := 3) rfl))) (mvT hZ (hw _ (List.mem_of_getElem? (i := 4) rfl))) (mvT hZ (hw _ (List.mem_of_getElem? (i := 5) rfl))) (by decide) (backOf (W := 0) (rm1 l Z a0 hw [] b2 (1 : Int32) ((1 : Int32) + zn) k2 [(.int (nar .byte ((p4 >>> ((1 : Int32) &&& 31)).toInt8.toInt32))), (.int (nar .byte (p0.toInt8.toInt32))), (.int (nar .byte (p1.toInt8.toInt32))), (.int (nar .byte (p2.toInt8.toInt32))), (.int (nar .byte (p3.toInt8.toInt32)))] (nar .byte (p0.toInt8.toInt32)) (nar .byte (p1.toInt8.toInt32)) (nar .byte (p2.toInt8.toInt32)) (nar .byte (p3.toInt8.toInt32)) h53 n0 Z53 V53 (Or.inr ⟨rfl, _, rfl⟩)) hZ (hw _ (List.mem_of_getElem? (i := 5) rfl)) (hw _ (List.mem_of_getElem? (i := 4) rfl)) (by decide) (by decide)) (g := (mkF m 91 #[.val (.int p0), .val (.int p1), .val (.int p2), .val (.int p3), .val (.int p4), .val (.int p5), .val (.ref b2), .val (.int (1 : Int32)), .val (.int (0 : Int32)), .val (.int zn), .val (.int ((1 : Int32) + zn)), .unset] [(.int ((1 : Int32) + zn)), (.int (1 : Int32)), (.ref b2)])) rfl (by rw [hml]; rfl) (argsL := [(.ref b2), (.int (1 : Int32)), (.int ((1 : Int32) + zn))]) (rest := []) (lenOf pd0_0 rfl) rfl (by show 2 * 0 + _ ≤ _; exact Nat.le_of_eq rfl) (hb hby at_91) (fun _ _ => ⟨rfl, e53, (by decide : 1 + 0 ≤ _), (by decide : 5 + 0 ≤ _)⟩)
    dsimp only [Pt.U, Pt.locs, Pt.cells, Pt.slots] at X57 l57 y57 z57 st57 hQ57
    rw [l57, y57, z57] at X57
    obtain ⟨rfl, N57q, e57⟩ := hQ57
    have N57 := Fr.app N53 N57q
    have go57 := go56.step (C := T57.setTop (mkF m 94 #[.val (.int p0), .val (.int p1), .val (.int p2), .val (.int p3), .val (.int p4), .val (.int p5), .val (.ref b2), .val (.int (1 : Int32)), .val (.int (0 : Int32)), .val (.int zn), .val (.int ((1 : Int32) + zn)), .unset] [(.int (own_len (1 : Int32) ((1 : Int32) + zn) (nar .byte (p0.toInt8.toInt32)) (nar .byte (p1.toInt8.toInt32)) (nar .byte (p2.toInt8.toInt32)) (nar .byte (p3.toInt8.toInt32))))])) (fun t k => st57 t k)
    have go58 := go57.step (C := T57.setTop (mkF m 120 #[.val (.int p0), .val (.int p1), .val (.int p2), .val (.int p3), .val (.int p4), .val (.int p5), .val (.ref b2), .val (.int (1 : Int32)), .val (.int (0 : Int32)), .val (.int zn), .val (.int ((1 : Int32) + zn)), .val (.int (own_len (1 : Int32) ((1 : Int32) + zn) (nar .byte (p0.toInt8.toInt32)) (nar .byte (p1.toInt8.toInt32)) (nar .byte (p2.toInt8.toInt32)) (nar .byte (p3.toInt8.toInt32))))] [(.int zn), (.int (p3 &&& (255 : Int32))), (.int (p2 &&& (255 : Int32))), (.int (p1 &&& (255 : Int32))), (.int (p0 &&& (255 : Int32))), (.int (own_len (1 : Int32) ((1 : Int32) + zn) (nar .byte (p0.toInt8.toInt32)) (nar .byte (p1.toInt8.toInt32)) (nar .byte (p2.toInt8.toInt32)) (nar .byte (p3.toInt8.toInt32))))])) (fun t k => by
      show Steps p.tables e below (T57.setTop (mkF m 94 #[.val (.int p0), .val (.int p1), .val (.int p2), .val (.int p3), .val (.int p4), .val (.int p5), .val (.ref b2), .val (.int (1 : Int32)), .val (.int (0 : Int32)), .val (.int zn), .val (.int ((1 : Int32) + zn)), .unset] [(.int (own_len (1 : Int32) ((1 : Int32) + zn) (nar .byte (p0.toInt8.toInt32)) (nar .byte (p1.toInt8.toInt32)) (nar .byte (p2.toInt8.toInt32)) (nar .byte (p3.toInt8.toInt32))))])) _
      refine XS.istore X57.here hx rfl (hb hby at_94) rfl (l' := #[.val (.int p0), .val (.int p1), .val (.int p2), .val (.int p3), .val (.int p4), .val (.int p5), .val (.ref b2), .val (.int (1 : Int32)), .val (.int (0 : Int32)), .val (.int zn), .val (.int ((1 : Int32) + zn)), .val (.int (own_len (1 : Int32) ((1 : Int32) + zn) (nar .byte (p0.toInt8.toInt32)) (nar .byte (p1.toInt8.toInt32)) (nar .byte (p2.toInt8.toInt32)) (nar .byte (p3.toInt8.toInt32))))]) rfl ?_
      show Steps p.tables e below (T57.setTop (mkF m 96 #[.val (.int p0), .val (.int p1), .val (.int p2), .val (.int p3), .val (.int p4), .val (.int p5), .val (.ref b2), .val (.int (1 : Int32)), .val (.int (0 : Int32)), .val (.int zn), .val (.int ((1 : Int32) + zn)), .val (.int (own_len (1 : Int32) ((1 : Int32) + zn) (nar .byte (p0.toInt8.toInt32)) (nar .byte (p1.toInt8.toInt32)) (nar .byte (p2.toInt8.toInt32)) (nar .byte (p3.toInt8.toInt32))))] [])) _
      refine XS.iload X57.here hx rfl (hb hby at_96) rfl ?_
      show Steps p.tables e below (T57.setTop (mkF m 98 #[.val (.int p0), .val (.int p1), .val (.int p2), .val (.int p3), .val (.int p4), .val (.int p5), .val (.ref b2), .val (.int (1 : Int32)), .val (.int (0 : Int32)), .val (.int zn), .val (.int ((1 : Int32) + zn)), .val (.int (own_len (1 : Int32) ((1 : Int32) + zn) (nar .byte (p0.toInt8.toInt32)) (nar .byte (p1.toInt8.toInt32)) (nar .byte (p2.toInt8.toInt32)) (nar .byte (p3.toInt8.toInt32))))] [(.int (own_len (1 : Int32) ((1 : Int32) + zn) (nar .byte (p0.toInt8.toInt32)) (nar .byte (p1.toInt8.toInt32)) (nar .byte (p2.toInt8.toInt32)) (nar .byte (p3.toInt8.toInt32))))])) _
      refine XS.iloadN X57.here hx rfl (hb hby at_98) rfl ?_
      show Steps p.tables e below (T57.setTop (mkF m 99 #[.val (.int p0), .val (.int p1), .val (.int p2), .val (.int p3), .val (.int p4), .val (.int p5), .val (.ref b2), .val (.int (1 : Int32)), .val (.int (0 : Int32)), .val (.int zn), .val (.int ((1 : Int32) + zn)), .val (.int (own_len (1 : Int32) ((1 : Int32) + zn) (nar .byte (p0.toInt8.toInt32)) (nar .byte (p1.toInt8.toInt32)) (nar .byte (p2.toInt8.toInt32)) (nar .byte (p3.toInt8.toInt32))))] [(.int p0), (.int (own_len (1 : Int32) ((1 : Int32) + zn) (nar .byte (p0.toInt8.toInt32)) (nar .byte (p1.toInt8.toInt32)) (nar .byte (p2.toInt8.toInt32)) (nar .byte (p3.toInt8.toInt32))))])) _
      refine XS.sipush X57.here hx rfl (hb hby at_99) ?_
      show Steps p.tables e below (T57.setTop (mkF m 102 #[.val (.int p0), .val (.int p1), .val (.int p2), .val (.int p3), .val (.int p4), .val (.int p5), .val (.ref b2), .val (.int (1 : Int32)), .val (.int (0 : Int32)), .val (.int zn), .val (.int ((1 : Int32) + zn)), .val (.int (own_len (1 : Int32) ((1 : Int32) + zn) (nar .byte (p0.toInt8.toInt32)) (nar .byte (p1.toInt8.toInt32)) (nar .byte (p2.toInt8.toInt32)) (nar .byte (p3.toInt8.toInt32))))] [(.int (255 : Int32)), (.int p0), (.int (own_len (1 : Int32) ((1 : Int32) + zn) (nar .byte (p0.toInt8.toInt32)) (nar .byte (p1.toInt8.toInt32)) (nar .byte (p2.toInt8.toInt32)) (nar .byte (p3.toInt8.toInt32))))])) _
      refine XS.iand X57.here hx rfl (hb hby at_102) rfl ?_
      show Steps p.tables e below (T57.setTop (mkF m 103 #[.val (.int p0), .val (.int p1), .val (.int p2), .val (.int p3), .val (.int p4), .val (.int p5), .val (.ref b2), .val (.int (1 : Int32)), .val (.int (0 : Int32)), .val (.int zn), .val (.int ((1 : Int32) + zn)), .val (.int (own_len (1 : Int32) ((1 : Int32) + zn) (nar .byte (p0.toInt8.toInt32)) (nar .byte (p1.toInt8.toInt32)) (nar .byte (p2.toInt8.toInt32)) (nar .byte (p3.toInt8.toInt32))))] [(.int (p0 &&& (255 : Int32))), (.int (own_len (1 : Int32) ((1 : Int32) + zn) (nar .byte (p0.toInt8.toInt32)) (nar .byte (p1.toInt8.toInt32)) (nar .byte (p2.toInt8.toInt32)) (nar .byte (p3.toInt8.toInt32))))])) _
      refine XS.iloadN X57.here hx rfl (hb hby at_103) rfl ?_
      show Steps p.tables e below (T57.setTop (mkF m 104 #[.val (.int p0), .val (.int p1), .val (.int p2), .val (.int p3), .val (.int p4), .val (.int p5), .val (.ref b2), .val (.int (1 : Int32)), .val (.int (0 : Int32)), .val (.int zn), .val (.int ((1 : Int32) + zn)), .val (.int (own_len (1 : Int32) ((1 : Int32) + zn) (nar .byte (p0.toInt8.toInt32)) (nar .byte (p1.toInt8.toInt32)) (nar .byte (p2.toInt8.toInt32)) (nar .byte (p3.toInt8.toInt32))))] [(.int p1), (.int (p0 &&& (255 : Int32))), (.int (own_len (1 : Int32) ((1 : Int32) + zn) (nar .byte (p0.toInt8.toInt32)) (nar .byte (p1.toInt8.toInt32)) (nar .byte (p2.toInt8.toInt32)) (nar .byte (p3.toInt8.toInt32))))])) _
      refine XS.sipush X57.here hx rfl (hb hby at_104) ?_
      show Steps p.tables e below (T57.setTop (mkF m 107 #[.val (.int p0), .val (.int p1), .val (.int p2), .val (.int p3), .val (.int p4), .val (.int p5), .val (.ref b2), .val (.int (1 : Int32)), .val (.int (0 : Int32)), .val (.int zn), .val (.int ((1 : Int32) + zn)), .val (.int (own_len (1 : Int32) ((1 : Int32) + zn) (nar .byte (p0.toInt8.toInt32)) (nar .byte (p1.toInt8.toInt32)) (nar .byte (p2.toInt8.toInt32)) (nar .byte (p3.toInt8.toInt32))))] [(.int (255 : Int32)), (.int p1), (.int (p0 &&& (255 : Int32))), (.int (own_len (1 : Int32) ((1 : Int32) + zn) (nar .byte (p0.toInt8.toInt32)) (nar .byte (p1.toInt8.toInt32)) (nar .byte (p2.toInt8.toInt32)) (nar .byte (p3.toInt8.toInt32))))])) _
      refine XS.iand X57.here hx rfl (hb hby at_107) rfl ?_
      show Steps p.tables e below (T57.setTop (mkF m 108 #[.val (.int p0), .val (.int p1), .val (.int p2), .val (.int p3), .val (.int p4), .val (.int p5), .val (.ref b2), .val (.int (1 : Int32)), .val (.int (0 : Int32)), .val (.int zn), .val (.int ((1 : Int32) + zn)), .val (.int (own_len (1 : Int32) ((1 : Int32) + zn) (nar .byte (p0.toInt8.toInt32)) (nar .byte (p1.toInt8.toInt32)) (nar .byte (p2.toInt8.toInt32)) (nar .byte (p3.toInt8.toInt32))))] [(.int (p1 &&& (255 : Int32))), (.int (p0 &&& (255 : Int32))), (.int (own_len (1 : Int32) ((1 : Int32) + zn) (nar .byte (p0.toInt8.toInt32)) (nar .byte (p1.toInt8.toInt32)) (nar .byte (p2.toInt8.toInt32)) (nar .byte (p3.toInt8.toInt32))))])) _
      refine XS.iloadN X57.here hx rfl (hb hby at_108) rfl ?_
      show Steps p.tables e below (T57.setTop (mkF m 109 #[.val (.int p0), .val (.int p1), .val (.int p2), .val (.int p3), .val (.int p4), .val (.int p5), .val (.ref b2), .val (.int (1 : Int32)), .val (.int (0 : Int32)), .val (.int zn), .val (.int ((1 : Int32) + zn)), .val (.int (own_len (1 : Int32) ((1 : Int32) + zn) (nar .byte (p0.toInt8.toInt32)) (nar .byte (p1.toInt8.toInt32)) (nar .byte (p2.toInt8.toInt32)) (nar .byte (p3.toInt8.toInt32))))] [(.int p2), (.int (p1 &&& (255 : Int32))), (.int (p0 &&& (255 : Int32))), (.int (own_len (1 : Int32) ((1 : Int32) + zn) (nar .byte (p0.toInt8.toInt32)) (nar .byte (p1.toInt8.toInt32)) (nar .byte (p2.toInt8.toInt32)) (nar .byte (p3.toInt8.toInt32))))])) _
      refine XS.sipush X57.here hx rfl (hb hby at_109) ?_
      show Steps p.tables e below (T57.setTop (mkF m 112 #[.val (.int p0), .val (.int p1), .val (.int p2), .val (.int p3), .val (.int p4), .val (.int p5), .val (.ref b2), .val (.int (1 : Int32)), .val (.int (0 : Int32)), .val (.int zn), .val (.int ((1 : Int32) + zn)), .val (.int (own_len (1 : Int32) ((1 : Int32) + zn) (nar .byte (p0.toInt8.toInt32)) (nar .byte (p1.toInt8.toInt32)) (nar .byte (p2.toInt8.toInt32)) (nar .byte (p3.toInt8.toInt32))))] [(.int (255 : Int32)), (.int p2), (.int (p1 &&& (255 : Int32))), (.int (p0 &&& (255 : Int32))), (.int (own_len (1 : Int32) ((1 : Int32) + zn) (nar .byte (p0.toInt8.toInt32)) (nar .byte (p1.toInt8.toInt32)) (nar .byte (p2.toInt8.toInt32)) (nar .byte (p3.toInt8.toInt32))))])) _
      refine XS.iand X57.here hx rfl (hb hby at_112) rfl ?_
      show Steps p.tables e below (T57.setTop (mkF m 113 #[.val (.int p0), .val (.int p1), .val (.int p2), .val (.int p3), .val (.int p4), .val (.int p5), .val (.ref b2), .val (.int (1 : Int32)), .val (.int (0 : Int32)), .val (.int zn), .val (.int ((1 : Int32) + zn)), .val (.int (own_len (1 : Int32) ((1 : Int32) + zn) (nar .byte (p0.toInt8.toInt32)) (nar .byte (p1.toInt8.toInt32)) (nar .byte (p2.toInt8.toInt32)) (nar .byte (p3.toInt8.toInt32))))] [(.int (p2 &&& (255 : Int32))), (.int (p1 &&& (255 : Int32))), (.int (p0 &&& (255 : Int32))), (.int (own_len (1 : Int32) ((1 : Int32) + zn) (nar .byte (p0.toInt8.toInt32)) (nar .byte (p1.toInt8.toInt32)) (nar .byte (p2.toInt8.toInt32)) (nar .byte (p3.toInt8.toInt32))))])) _
      refine XS.iloadN X57.here hx rfl (hb hby at_113) rfl ?_
      show Steps p.tables e below (T57.setTop (mkF m 114 #[.val (.int p0), .val (.int p1), .val (.int p2), .val (.int p3), .val (.int p4), .val (.int p5), .val (.ref b2), .val (.int (1 : Int32)), .val (.int (0 : Int32)), .val (.int zn), .val (.int ((1 : Int32) + zn)), .val (.int (own_len (1 : Int32) ((1 : Int32) + zn) (nar .byte (p0.toInt8.toInt32)) (nar .byte (p1.toInt8.toInt32)) (nar .byte (p2.toInt8.toInt32)) (nar .byte (p3.toInt8.toInt32))))] [(.int p3), (.int (p2 &&& (255 : Int32))), (.int (p1 &&& (255 : Int32))), (.int (p0 &&& (255 : Int32))), (.int (own_len (1 : Int32) ((1 : Int32) + zn) (nar .byte (p0.toInt8.toInt32)) (nar .byte (p1.toInt8.toInt32)) (nar .byte (p2.toInt8.toInt32)) (nar .byte (p3.toInt8.toInt32))))])) _
      refine XS.sipush X57.here hx rfl (hb hby at_114) ?_
      show Steps p.tables e below (T57.setTop (mkF m 117 #[.val (.int p0), .val (.int p1), .val (.int p2), .val (.int p3), .val (.int p4), .val (.int p5), .val (.ref b2), .val (.int (1 : Int32)), .val (.int (0 : Int32)), .val (.int zn), .val (.int ((1 : Int32) + zn)), .val (.int (own_len (1 : Int32) ((1 : Int32) + zn) (nar .byte (p0.toInt8.toInt32)) (nar .byte (p1.toInt8.toInt32)) (nar .byte (p2.toInt8.toInt32)) (nar .byte (p3.toInt8.toInt32))))] [(.int (255 : Int32)), (.int p3), (.int (p2 &&& (255 : Int32))), (.int (p1 &&& (255 : Int32))), (.int (p0 &&& (255 : Int32))), (.int (own_len (1 : Int32) ((1 : Int32) + zn) (nar .byte (p0.toInt8.toInt32)) (nar .byte (p1.toInt8.toInt32)) (nar .byte (p2.toInt8.toInt32)) (nar .byte (p3.toInt8.toInt32))))])) _
      refine XS.iand X57.here hx rfl (hb hby at_117) rfl ?_
      show Steps p.tables e below (T57.setTop (mkF m 118 #[.val (.int p0), .val (.int p1), .val (.int p2), .val (.int p3), .val (.int p4), .val (.int p5), .val (.ref b2), .val (.int (1 : Int32)), .val (.int (0 : Int32)), .val (.int zn), .val (.int ((1 : Int32) + zn)), .val (.int (own_len (1 : Int32) ((1 : Int32) + zn) (nar .byte (p0.toInt8.toInt32)) (nar .byte (p1.toInt8.toInt32)) (nar .byte (p2.toInt8.toInt32)) (nar .byte (p3.toInt8.toInt32))))] [(.int (p3 &&& (255 : Int32))), (.int (p2 &&& (255 : Int32))), (.int (p1 &&& (255 : Int32))), (.int (p0 &&& (255 : Int32))), (.int (own_len (1 : Int32) ((1 : Int32) + zn) (nar .byte (p0.toInt8.toInt32)) (nar .byte (p1.toInt8.toInt32)) (nar .byte (p2.toInt8.toInt32)) (nar .byte (p3.toInt8.toInt32))))])) _
      refine XS.iload X57.here hx rfl (hb hby at_118) rfl ?_
      exact k)
    obtain ⟨_, _, ⟨T59, L59, k59, n59⟩, -, X59, ⟨Lc59, hQ59, l59, y59, z59⟩, st59⟩ := Jvm.LawKit.callS X57 hx (y := (⟨"com/example/graphkind/graphkind/Utf8LengthPinLaw", "expected", "(IIIII)I"⟩ : MethodName)) hown (mvT hZ (hw _ (List.mem_of_getElem? (i := 6) rfl))) (mvT hZ (hw _ (List.mem_of_getElem? (i := 7) rfl))) (mvT hZ (hw _ (List.mem_of_getElem? (i := 8) rfl))) (mvT hZ (hw _ (List.mem_of_getElem? (i := 9) rfl))) (by decide) (backOf (W := 1) (rm2 l Z a0 hw [] (p0 &&& (255 : Int32)) (p1 &&& (255 : Int32)) (p2 &&& (255 : Int32)) (p3 &&& (255 : Int32)) zn h53 n0 Z53 ) hZ (hw _ (List.mem_of_getElem? (i := 9) rfl)) (hw _ (List.mem_of_getElem? (i := 8) rfl)) (by decide) (by decide)) (g := (mkF m 120 #[.val (.int p0), .val (.int p1), .val (.int p2), .val (.int p3), .val (.int p4), .val (.int p5), .val (.ref b2), .val (.int (1 : Int32)), .val (.int (0 : Int32)), .val (.int zn), .val (.int ((1 : Int32) + zn)), .val (.int (own_len (1 : Int32) ((1 : Int32) + zn) (nar .byte (p0.toInt8.toInt32)) (nar .byte (p1.toInt8.toInt32)) (nar .byte (p2.toInt8.toInt32)) (nar .byte (p3.toInt8.toInt32))))] [(.int zn), (.int (p3 &&& (255 : Int32))), (.int (p2 &&& (255 : Int32))), (.int (p1 &&& (255 : Int32))), (.int (p0 &&& (255 : Int32))), (.int (own_len (1 : Int32) ((1 : Int32) + zn) (nar .byte (p0.toInt8.toInt32)) (nar .byte (p1.toInt8.toInt32)) (nar .byte (p2.toInt8.toInt32)) (nar .byte (p3.toInt8.toInt32))))])) rfl (by rw [hml]; rfl) (argsL := [(.int (p0 &&& (255 : Int32))), (.int (p1 &&& (255 : Int32))), (.int (p2 &&& (255 : Int32))), (.int (p3 &&& (255 : Int32))), (.int zn)]) (rest := [(.int (own_len (1 : Int32) ((1 : Int32) + zn) (nar .byte (p0.toInt8.toInt32)) (nar .byte (p1.toInt8.toInt32)) (nar .byte (p2.toInt8.toInt32)) (nar .byte (p3.toInt8.toInt32))))]) (lenOf pd0_1 rfl) rfl (by show 2 * 0 + _ ≤ _; exact Nat.le_of_eq rfl) (hb hby at_120) (fun _ _ => ⟨rfl, e57, (by decide : 1 + 0 ≤ _), (by decide : 5 + 0 ≤ _)⟩)
    dsimp only [Pt.U, Pt.locs, Pt.cells, Pt.slots] at X59 l59 y59 z59 st59 hQ59
    rw [l59, y59, z59] at X59
    obtain ⟨rfl, N59q, e59⟩ := hQ59
    have N59 := Fr.app N57 N59q
    have go59 := go58.step (C := T59.setTop (mkF m 123 #[.val (.int p0), .val (.int p1), .val (.int p2), .val (.int p3), .val (.int p4), .val (.int p5), .val (.ref b2), .val (.int (1 : Int32)), .val (.int (0 : Int32)), .val (.int zn), .val (.int ((1 : Int32) + zn)), .val (.int (own_len (1 : Int32) ((1 : Int32) + zn) (nar .byte (p0.toInt8.toInt32)) (nar .byte (p1.toInt8.toInt32)) (nar .byte (p2.toInt8.toInt32)) (nar .byte (p3.toInt8.toInt32))))] [(.int (own_exp (p0 &&& (255 : Int32)) (p1 &&& (255 : Int32)) (p2 &&& (255 : Int32)) (p3 &&& (255 : Int32)) zn)), (.int (own_len (1 : Int32) ((1 : Int32) + zn) (nar .byte (p0.toInt8.toInt32)) (nar .byte (p1.toInt8.toInt32)) (nar .byte (p2.toInt8.toInt32)) (nar .byte (p3.toInt8.toInt32))))])) (fun t k => st59 t k)
    have go61 := go59.step (C := T59.setTop (mkF m 131 #[.val (.int p0), .val (.int p1), .val (.int p2), .val (.int p3), .val (.int p4), .val (.int p5), .val (.ref b2), .val (.int (1 : Int32)), .val (.int (0 : Int32)), .val (.int zn), .val (.int ((1 : Int32) + zn)), .val (.int (own_len (1 : Int32) ((1 : Int32) + zn) (nar .byte (p0.toInt8.toInt32)) (nar .byte (p1.toInt8.toInt32)) (nar .byte (p2.toInt8.toInt32)) (nar .byte (p3.toInt8.toInt32))))] [(.int (1 : Int32))])) (fun t k => by
      show Steps p.tables e below (T59.setTop (mkF m 123 #[.val (.int p0), .val (.int p1), .val (.int p2), .val (.int p3), .val (.int p4), .val (.int p5), .val (.ref b2), .val (.int (1 : Int32)), .val (.int (0 : Int32)), .val (.int zn), .val (.int ((1 : Int32) + zn)), .val (.int (own_len (1 : Int32) ((1 : Int32) + zn) (nar .byte (p0.toInt8.toInt32)) (nar .byte (p1.toInt8.toInt32)) (nar .byte (p2.toInt8.toInt32)) (nar .byte (p3.toInt8.toInt32))))] [(.int (own_exp (p0 &&& (255 : Int32)) (p1 &&& (255 : Int32)) (p2 &&& (255 : Int32)) (p3 &&& (255 : Int32)) zn)), (.int (own_len (1 : Int32) ((1 : Int32) + zn) (nar .byte (p0.toInt8.toInt32)) (nar .byte (p1.toInt8.toInt32)) (nar .byte (p2.toInt8.toInt32)) (nar .byte (p3.toInt8.toInt32))))])) _
      refine XS.icmpNo X59.here hx rfl (hb hby at_123) rfl (teq (own_final (Or.inr rfl) (own_n hzn) (own_bm _) (own_bm _) (own_bm _) (own_bm _) (own_255 _) (own_255 _) (own_255 _) (own_255 _) : (own_len (1 : Int32) ((1 : Int32) + zn) (nar .byte (p0.toInt8.toInt32)) (nar .byte (p1.toInt8.toInt32)) (nar .byte (p2.toInt8.toInt32)) (nar .byte (p3.toInt8.toInt32))) = (own_exp (p0 &&& (255 : Int32)) (p1 &&& (255 : Int32)) (p2 &&& (255 : Int32)) (p3 &&& (255 : Int32)) zn))).2 ?_
      show Steps p.tables e below (T59.setTop (mkF m 126 #[.val (.int p0), .val (.int p1), .val (.int p2), .val (.int p3), .val (.int p4), .val (.int p5), .val (.ref b2), .val (.int (1 : Int32)), .val (.int (0 : Int32)), .val (.int zn), .val (.int ((1 : Int32) + zn)), .val (.int (own_len (1 : Int32) ((1 : Int32) + zn) (nar .byte (p0.toInt8.toInt32)) (nar .byte (p1.toInt8.toInt32)) (nar .byte (p2.toInt8.toInt32)) (nar .byte (p3.toInt8.toInt32))))] [])) _
      refine XS.iconst X59.here hx rfl (hb hby at_126) ?_
      show Steps p.tables e below (T59.setTop (mkF m 127 #[.val (.int p0), .val (.int p1), .val (.int p2), .val (.int p3), .val (.int p4), .val (.int p5), .val (.ref b2), .val (.int (1 : Int32)), .val (.int (0 : Int32)), .val (.int zn), .val (.int ((1 : Int32) + zn)), .val (.int (own_len (1 : Int32) ((1 : Int32) + zn) (nar .byte (p0.toInt8.toInt32)) (nar .byte (p1.toInt8.toInt32)) (nar .byte (p2.toInt8.toInt32)) (nar .byte (p3.toInt8.toInt32))))] [(.int (1 : Int32))])) _
      refine XS.goto X59.here hx rfl (pc0 := 127) (pc' := 131) rfl (hb hby at_127) (by decide) (by decide) ?_
      exact k)
    obtain ⟨fs, hr, hrun, hended, hW, hsame⟩ := X59.leave (v := some (.int (1 : Int32))) (fun h => by rw [Bd.returns] at h; cases h)
    refine ⟨_, _, go61 _ ?_, hrun, hended, _, _, rfl, ?_, ⟨_, rfl⟩, hW, hsame.mono (by decide) (by decide)⟩
    · exact retN X59 hx (t := .boolean) Bd.returns (by simp) (hb hby at_131) hr
    · show Q_rm0 Z p0 p1 p2 p3 p4 p5 h0 n0 _ T59.heap _
      rw [e59]
      exact ⟨rfl, N59⟩
set_option maxRecDepth 65536 in
set_option maxHeartbeats 40000000 in
theorem comes_1 {Post : Tables → Env → Array Value → State → Outcome → State → Prop} (hpost : ∀ tb e args s v u, (limb_1_1.after args s (.returned v) u = true ∧ limb_1_2.after args s (.returned v) u = true ∧ True) → FrameEnd s (.returned v) u (Jvm.fieldLocs frame_1_writes args s ++ Jvm.arrayLocs frame_1_arrays args s ++ Jvm.staticLocs frame_1_statics s) 16 128 → Post tb e args s (.returned v) u) :
    ArmFor flags0 classFile x code maxLocals ret World_1 tables_1 room_1 Calls_1 rest_1 Pre_1 Post := by
  intro l hfl _ _ p e ha hc hk s m args below hf hA hF happ hP
  obtain ⟨hcalls, hrest, hpre⟩ := hP
  obtain ⟨-, -, -, hnamed, -, -, -, hat⟩ := (Spec.applies_iff hf).mp happ
  obtain ⟨hg, hn⟩ := and_e (Cond.before_iff.mp (show (Jvm.Cond.and given_1 narrow_1).before args s = true from hpre))
  obtain ⟨gg0, gr0⟩ := and_e hg
  obtain ⟨gg1, gr1⟩ := and_e gr0
  obtain ⟨gg2, gr2⟩ := and_e gr1
  obtain ⟨gg3, gr3⟩ := and_e gr2
  obtain ⟨gg4, gr4⟩ := and_e gr3
  obtain ⟨gg5, gr5⟩ := and_e gr4
  obtain ⟨w0, w1, w2, w3, w4, w5, rfl⟩ : ∃ w0 w1 w2 w3 w4 w5 : Value, args = #[w0, w1, w2, w3, w4, w5] := by
    have hs : args.size = 6 := by simpa [Cond.value, given_1] using gg0
    obtain ⟨L⟩ := args
    match L, hs with
    | [w0, w1, w2, w3, w4, w5], _ => exact ⟨w0, w1, w2, w3, w4, w5, rfl⟩
  have hw := fun d (hd : d ∈ tables_1) => atoms_spec (ws := Jvm.Cond.code x code maxLocals ret :: tables_1) hat d (List.mem_cons_of_mem _ hd)
  have hfit : Fit s := fun {y c} hc i hi => by
    obtain ⟨ha, rfl⟩ := Array.getElem?_eq_some_iff.mp hc
    have q := List.all_eq_true.mp ((Array.all_eq_true_iff_forall_mem.mp hF) _ (Array.getElem_mem ha)) i (List.mem_range.mpr hi)
    simpa [Array.getElem?_eq_getElem hi] using q
  obtain ⟨i0, ei0⟩ := is_v gg1
  obtain rfl : w0 = (.int i0) := Option.some.inj ei0
  obtain ⟨i1, ei1⟩ := is_v gg2
  obtain rfl : w1 = (.int i1) := Option.some.inj ei1
  obtain ⟨i2, ei2⟩ := is_v gg3
  obtain rfl : w2 = (.int i2) := Option.some.inj ei2
  obtain ⟨i3, ei3⟩ := is_v gg4
  obtain rfl : w3 = (.int i3) := Option.some.inj ei3
  obtain ⟨i4, ei4⟩ := is_v gg5
  obtain rfl : w4 = (.int i4) := Option.some.inj ei4
  obtain ⟨i5, ei5⟩ := is_v gr5
  obtain rfl : w5 = (.int i5) := Option.some.inj ei5
  obtain ⟨n, o, h1, h2, h3, _, L, rfl, ⟨rfl, N⟩, hq⟩ := rm0 l s _ hw tables_1 i0 i1 i2 i3 i4 i5  s.heap s.heap.size (Nat.le_refl _)  p e ha hc hk s m _ below hf ((Spec.applies_iff_loose hf).mp happ).1 ⟨rfl, State.Warmed39.refl s, rfl⟩ trivial
  refine ⟨n, _, h1, h2, h3, hpost _ _ _ _ _ _ ⟨Cond.after_iff.mpr rfl, Cond.after_iff.mpr (eq_i res_at (Term.int_eval (1)) rfl), trivial⟩ ⟨hq.1, hq.2.1, (hq.2.2.sift fun y hy => Or.inr (N y hy)).mono (by decide) (by decide)⟩⟩
theorem main_1_1 : Claimed_1_1 := comes_1 fun _ _ _ _ _ _ h hF => ⟨h.1, hF⟩
theorem main_1_2 : Claimed_1_2 := comes_1 fun _ _ _ _ _ _ h hF => ⟨h.2.1, hF⟩
end Jvm.Pilot.@@N@@
namespace Jvm.Pilot.@@N@@
open Jvm Jvm.ClassFile Sem Op Lib Jvm.Free Jvm.Stand Jvm.Pilot.@@N@@.Jvm.D
/-! MADE BY PROGRAM (witnessworld.py) out of the Statement's table words and the real class files: 9 classes; the members and pool entries that the words name. The judged class is class 1, her method 1. -/
namespace start1
open Jvm.ClassFile
def u (s : String) : CpInfo := .utf8 (stringToUtf16 s)
/-- a pool by its gaps: so many unusable entries, then the entry; so many at the end -/
def gap : Nat → List CpInfo → List CpInfo
  | 0, r => r
  | n + 1, r => .unusable :: gap n r
def poolList (es : List (Nat × CpInfo)) (last : Nat) : List CpInfo := es.foldr (fun e r => gap e.1 (e.2 :: r)) (gap last [])
def pool (es : List (Nat × CpInfo)) (last : Nat) : Array CpInfo := ⟨poolList es last⟩
def fileOf (pool : Array CpInfo) (this : Nat) (attrs : Array Attribute := #[]) (ms : Array MethodInfo := #[]) (fl : Nat := 33) (sup : Nat := 0) (ifs : Array Nat := #[]) (fds : Array FieldInfo := #[]) : ClassFile where
  minorVersion := 0
  majorVersion := 65
  constantPool := pool
  accessFlags := fl
  thisClass := this
  superClass := sup
  interfaces := ifs
  fields := fds
  methods := ms
  attributes := attrs
def plain (name : String) (sup : Option ClassId) : Class where
  name := name
  kind := .ordinary
  loader := none
  accessFlags := 33
  super := sup
  interfaces := #[]
  cf := none
  fields := #[]
  methods := #[]
  instanceTypes := #[]
  staticTypes := #[]
  resolved := #[]
  callSites := []
  init := .initialized
  statics := none
  mirror := none

def pool0 : Array CpInfo := pool [(5, u "<init>"), (0, u "()V"), (1, .class_ 10), (1, u "java/lang/Object")] 113

def k0m0 : Method := { name := "<init>", desc := "()V", sig := { parameters := [], returnType := none }, accessFlags := 1, code := none }
/-- java/lang/Object -/
def k0 : Class := { plain "java/lang/Object" none with
  accessFlags := 33
  interfaces := #[]
  cf := some (fileOf pool0 8 #[] #[{ accessFlags := 1, nameIndex := 5, descriptorIndex := 6, attributes := #[] }] 33 0 #[] #[])
  fields := #[]
  methods := #[k0m0]
  instanceTypes := #[]
  staticTypes := #[]
  resolved := Array.replicate 124 none
  statics := none }

def pool1 : Array CpInfo := pool [(2, .class_ 4), (1, u "java/lang/Object"), (0, u "<init>"), (0, u "()V"), (0, .integer 2147483647), (0, .methodref 9 10), (0, .class_ 11), (0, .nameAndType 12 13), (0, u "com/example/graphkind/graphkind/Utf8"), (0, u "length"), (0, u "([BII)I"), (0, .methodref 15 16), (0, .class_ 17), (0, .nameAndType 18 19), (0, u "com/example/graphkind/graphkind/Utf8LengthPinLaw"), (0, u "expected"), (0, u "(IIIII)I"), (0, .methodref 15 21), (0, .nameAndType 22 23), (0, u "cont"), (0, u "(I)Z"), (0, .integer 55296), (0, .integer 57343), (0, .integer 65536), (0, .integer 1114111), (2, u "law"), (0, u "(IIIIII)Z")] 5

def k1m0 : Method := { name := "<init>", desc := "()V", sig := { parameters := [], returnType := none }, accessFlags := 1, code := none }
def k1c1 : Code := { maxStack := 6, maxLocals := 12, code := code, exceptionTable := #[], attributes := #[] }
def k1m1 : Method := { name := "law", desc := "(IIIIII)Z", sig := { parameters := [.int, .int, .int, .int, .int, .int], returnType := some .boolean }, accessFlags := 9, code := some k1c1 }
def k1c2 : Code := { maxStack := 2, maxLocals := 1, code := method_3_code, exceptionTable := #[], attributes := #[] }
def k1m2 : Method := { name := "cont", desc := "(I)Z", sig := { parameters := [.int], returnType := some .boolean }, accessFlags := 10, code := some k1c2 }
def k1c3 : Code := { maxStack := 3, maxLocals := 7, code := method_4_code, exceptionTable := #[], attributes := #[] }
def k1m3 : Method := { name := "expected", desc := "(IIIII)I", sig := { parameters := [.int, .int, .int, .int, .int], returnType := some .int }, accessFlags := 10, code := some k1c3 }
/-- com/example/graphkind/graphkind/Utf8LengthPinLaw -/
def k1 : Class := { plain "com/example/graphkind/graphkind/Utf8LengthPinLaw" (some 0) with
  accessFlags := 49
  interfaces := #[]
  cf := some (fileOf pool1 15 #[] #[{ accessFlags := 1, nameIndex := 5, descriptorIndex := 6, attributes := #[] }, { accessFlags := 9, nameIndex := 30, descriptorIndex := 31, attributes := #[] }, { accessFlags := 10, nameIndex := 22, descriptorIndex := 23, attributes := #[] }, { accessFlags := 10, nameIndex := 18, descriptorIndex := 19, attributes := #[] }] 49 2 #[] #[])
  fields := #[]
  methods := #[k1m0, k1m1, k1m2, k1m3]
  instanceTypes := #[]
  staticTypes := #[]
  resolved := Array.replicate 37 none
  statics := none }

def pool2 : Array CpInfo := pool [(2, .class_ 4), (1, u "java/lang/Object"), (0, u "<init>"), (0, u "()V"), (0, .class_ 8), (0, u "com/example/graphkind/graphkind/Utf8"), (0, u "MAX_LENGTH"), (0, u "I"), (2, u "NOT_UTF8"), (3, u "length"), (0, u "([BII)I")] 5

def k2m0 : Method := { name := "<init>", desc := "()V", sig := { parameters := [], returnType := none }, accessFlags := 2, code := none }
def k2c1 : Code := { maxStack := 3, maxLocals := 9, code := prog_13_method_2_code, exceptionTable := #[], attributes := #[] }
def k2m1 : Method := { name := "length", desc := "([BII)I", sig := { parameters := [(.array .byte), .int, .int], returnType := some .int }, accessFlags := 8, code := some k2c1 }
/-- com/example/graphkind/graphkind/Utf8 -/
def k2 : Class := { plain "com/example/graphkind/graphkind/Utf8" (some 0) with
  accessFlags := 48
  interfaces := #[]
  cf := some (fileOf pool2 7 #[] #[{ accessFlags := 2, nameIndex := 5, descriptorIndex := 6, attributes := #[] }, { accessFlags := 8, nameIndex := 17, descriptorIndex := 18, attributes := #[] }] 48 2 #[] #[{ accessFlags := 24, nameIndex := 9, descriptorIndex := 10, attributes := #[] }, { accessFlags := 24, nameIndex := 13, descriptorIndex := 10, attributes := #[] }])
  fields := #[{ name := "MAX_LENGTH", type := .int, accessFlags := 24, slot := 0, constantValue := 0 }, { name := "NOT_UTF8", type := .int, accessFlags := 24, slot := 1, constantValue := 0 }]
  methods := #[k2m0, k2m1]
  instanceTypes := #[]
  staticTypes := #[.int, .int]
  resolved := Array.replicate 24 none
  statics := none }

def pool3 : Array CpInfo := pool [(1, u "java/lang/Cloneable"), (0, .class_ 1), (0, u "java/lang/Object"), (0, .class_ 3)] 3

/-- java/lang/Cloneable -/
def k3 : Class := { plain "java/lang/Cloneable" (some 0) with
  accessFlags := 1537
  interfaces := #[]
  cf := some (fileOf pool3 2 #[] #[] 1537 4 #[] #[])
  fields := #[]
  methods := #[]
  instanceTypes := #[]
  staticTypes := #[]
  resolved := Array.replicate 8 none
  statics := none }

def pool4 : Array CpInfo := pool [(1, u "java/io/Serializable"), (0, .class_ 1), (0, u "java/lang/Object"), (0, .class_ 3)] 3

/-- java/io/Serializable -/
def k4 : Class := { plain "java/io/Serializable" (some 0) with
  accessFlags := 1537
  interfaces := #[]
  cf := some (fileOf pool4 2 #[] #[] 1537 4 #[] #[])
  fields := #[]
  methods := #[]
  instanceTypes := #[]
  staticTypes := #[]
  resolved := Array.replicate 8 none
  statics := none }

/-- the primitive byte -/
def k5 : Class := { plain "byte" none with kind := .primitive 'B', accessFlags := 0x411 }
/-- [B -/
def k6 : Class := { plain "[B" (some 0) with kind := .array 5 .byte, interfaces := #[3, 4], accessFlags := 1041 }

/-- the primitive int -/
def k7 : Class := { plain "int" none with kind := .primitive 'I', accessFlags := 0x411 }
/-- [I -/
def k8 : Class := { plain "[I" (some 0) with kind := .array 7 .int, interfaces := #[3, 4], accessFlags := 1041 }

def heap : Heap := #[]
def classes : Array Class := #[k0, k1, k2, k3, k4, k5, k6, k7, k8]
def interned : List (Array UInt16 × Addr) := []
def slotsUsed : Nat := 0
def theMethod : MethodId := ⟨1, 1⟩
def args0 : Array Value := #[.int 195, .int 169, .int 3, .int 4, .int 5, .int 6]
def aboutOver (below : List Frame) : State where
  vm := { classes := classes, interned := interned.toArray }
  heap := heap
  slotsUsed := slotsUsed
  threads := #[{ frames := .invoking theMethod args0 :: below }]
def below0 : List Frame := [.native { method := ⟨0, 0⟩, args := #[] }]
def about1 : State := aboutOver below0
def p0 : Program := .bare "" "" ""
def e0 : Env := launch0.env 0 0 0
theorem w_frames : about1.frames = Frame.invoking theMethod args0 :: below0 := rfl
set_option maxRecDepth 65536 in
theorem w_args : argsFit about1.vm theMethod args0 = true := by decide +kernel
set_option maxRecDepth 65536 in
theorem w_heap : heapFits about1 = true := by decide +kernel
set_option maxRecDepth 65536 in
theorem w_runnable : about1.curStatus? = some .runnable := by decide +kernel
set_option maxRecDepth 65536 in
theorem w_alone : about1.alone = true := by decide +kernel
set_option maxRecDepth 65536 in
theorem w_named : about1.methodNamed? x = some theMethod := by decide +kernel
set_option maxRecDepth 65536 in
theorem w_hears : about1.hears theMethod below0 = true := by decide +kernel
set_option maxRecDepth 65536 in
theorem w_ripe : about1.ripe theMethod args0 below0 = true := by decide +kernel
theorem w_running : about1.status = .running := rfl
set_option maxRecDepth 65536 in
theorem w_room : about1.hasRoom e0.platform room_1 = true :=
  launch0.hasRoom_least _ room_1 (by decide +kernel) (by decide +kernel) (by decide +kernel) (by decide +kernel) (by decide +kernel) (by decide +kernel)
theorem allAtoms_all (ts : List Jvm.Cond) (a : Array Jvm.Value) (st : Jvm.State) : (allAtoms ts).before a st = ts.all (fun c => c.before a st) := by
  induction ts with
  | nil => rfl
  | cons c t ih =>
    show (Jvm.Cond.and c (allAtoms t)).before a st = _
    rw [Jvm.Cond.before_and, ih, List.all_cons]
def words1 : List Jvm.Cond := Jvm.Cond.code x code maxLocals ret :: tables_1
/-- a 'code' word, met by the world's own term for the bytes: nothing is compared byte by byte -/
theorem code_word {y : MethodName} {bytes : ByteArray} {mx : Nat} {rt : Option FieldType} {a : Array Value} {s : State} {m : MethodId} {meth : Method} {c : Code} (h1 : s.methodNamed? y = some m) (h2 : s.vm.method? m = some meth) (h3 : meth.code = some c) (h4 : c.code = bytes)
    (h5 : (c.maxLocals == mx && c.exceptionTable.isEmpty && decide (c.maxStack ≤ mostOperands) && decide (meth.sig.returnType = rt) && !meth.locks && decide (parseMethodDescriptor y.desc = some meth.sig)) = true) : (Jvm.Cond.code y bytes mx rt).before a s = true := by
  simp only [Bool.and_eq_true, beq_iff_eq, Bool.not_eq_true', decide_eq_true_eq] at h5
  obtain ⟨⟨⟨⟨⟨g1, g2⟩, g3⟩, g4⟩, g5⟩, g6⟩ := h5
  simp [Cond.before, Cond.holds, Cond.value, h1, h2, h3, h4, g1, g2, g3, g4, g5, g6]
def isCode : Jvm.Cond → Bool
  | .code _ _ _ _ => true
  | _ => false
theorem all_split {L : List Jvm.Cond} {P : Jvm.Cond → Bool} (h1 : L.all (fun c => isCode c || P c) = true) (h2 : ∀ c ∈ L.filter isCode, P c = true) : L.all P = true := by
  refine List.all_eq_true.mpr fun c hc => ?_
  have h := List.all_eq_true.mp h1 c hc
  rcases Bool.eq_false_or_eq_true (isCode c) with hi | hi
  · exact h2 c (List.mem_filter.mpr ⟨hc, hi⟩)
  · simpa [hi] using h
set_option maxRecDepth 65536 in
theorem w_c0 : (Jvm.Cond.code x code maxLocals ret).before args0 about1 = true := code_word (m := ⟨1, 1⟩) (meth := k1m1) (c := k1c1) (by decide +kernel) rfl rfl rfl (by decide +kernel)
set_option maxRecDepth 65536 in
theorem w_c1 : (Jvm.Cond.code ({ cls := "com/example/graphkind/graphkind/Utf8", name := "length", desc := "([BII)I" } : Jvm.MethodName) prog_13_method_2_code (9 : Nat) (Option.some Jvm.ClassFile.FieldType.int)).before args0 about1 = true := code_word (m := ⟨2, 1⟩) (meth := k2m1) (c := k2c1) (by decide +kernel) rfl rfl rfl (by decide +kernel)
set_option maxRecDepth 65536 in
theorem w_c2 : (Jvm.Cond.code ({ cls := "com/example/graphkind/graphkind/Utf8LengthPinLaw", name := "expected", desc := "(IIIII)I" } : Jvm.MethodName) method_4_code (7 : Nat) (Option.some Jvm.ClassFile.FieldType.int)).before args0 about1 = true := code_word (m := ⟨1, 3⟩) (meth := k1m3) (c := k1c3) (by decide +kernel) rfl rfl rfl (by decide +kernel)
set_option maxRecDepth 65536 in
theorem w_c3 : (Jvm.Cond.code ({ cls := "com/example/graphkind/graphkind/Utf8LengthPinLaw", name := "cont", desc := "(I)Z" } : Jvm.MethodName) method_3_code (1 : Nat) (Option.some Jvm.ClassFile.FieldType.boolean)).before args0 about1 = true := code_word (m := ⟨1, 2⟩) (meth := k1m2) (c := k1c2) (by decide +kernel) rfl rfl rfl (by decide +kernel)
def codes1 : List Jvm.Cond := [Jvm.Cond.code x code maxLocals ret, Jvm.Cond.code ({ cls := "com/example/graphkind/graphkind/Utf8", name := "length", desc := "([BII)I" } : Jvm.MethodName) prog_13_method_2_code (9 : Nat) (Option.some Jvm.ClassFile.FieldType.int), Jvm.Cond.code ({ cls := "com/example/graphkind/graphkind/Utf8LengthPinLaw", name := "expected", desc := "(IIIII)I" } : Jvm.MethodName) method_4_code (7 : Nat) (Option.some Jvm.ClassFile.FieldType.int), Jvm.Cond.code ({ cls := "com/example/graphkind/graphkind/Utf8LengthPinLaw", name := "cont", desc := "(I)Z" } : Jvm.MethodName) method_3_code (1 : Nat) (Option.some Jvm.ClassFile.FieldType.boolean)]
set_option maxRecDepth 65536 in
theorem codes_eq : words1.filter isCode = codes1 := rfl
theorem w_codes : ∀ c ∈ words1.filter isCode, c.before args0 about1 = true := by
  rw [codes_eq]
  intro c hc
  simp only [codes1, List.mem_cons, List.not_mem_nil, or_false] at hc
  rcases hc with rfl | rfl | rfl | rfl
  · exact w_c0
  · exact w_c1
  · exact w_c2
  · exact w_c3
set_option maxRecDepth 65536 in
theorem w_t1 : words1.all (fun c => isCode c || c.before args0 about1) = true := by decide +kernel
theorem w_tables : (allAtoms (Jvm.Cond.code x code maxLocals ret :: tables_1)).before args0 about1 = true := by
  rw [allAtoms_all]
  show words1.all (fun c => c.before args0 about1) = true
  refine all_split ?_ w_codes
  rw [w_t1]
set_option maxRecDepth 65536 in
theorem w_case : (Jvm.Cond.and given_1 narrow_1).before args0 about1 = true := by decide +kernel
theorem w_applies : (headSpec (Jvm.Cond.code x code maxLocals ret :: tables_1) room_1).applies x e0.platform about1 = true :=
  (Spec.applies_iff w_frames).mpr ⟨w_running, w_runnable, w_alone, w_named, w_hears, w_ripe, w_room, w_tables⟩
theorem atStart : AtStart classFile x code maxLocals ret World_1 tables_1 room_1 Calls_1 rest_1 Pre_1 launch0 p0 e0 about1 theMethod args0 below0 :=
  ⟨lists_1, trivial, launch0.admits_env _ _ _, launch0.least_env, fairChoices_fair.cas, fairChoices_fair.clock, w_frames, w_args, w_heap, w_applies, trivial, trivial, w_case⟩
end start1
theorem witness_1 : WitnessClaimed_1 := ⟨start1.p0, start1.e0, start1.about1, start1.theMethod, start1.args0, start1.below0, start1.atStart⟩
end Jvm.Pilot.@@N@@
