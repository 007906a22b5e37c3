import JvmDerived
import JvmDerived.Pilot.@@N@@Statement
import JvmDerived.Pilot.@@N@@Code
set_option linter.unusedVariables false
set_option linter.unusedSimpArgs false
namespace Jvm.RoadKit
open Sem ClassFile Op Lib Jvm.Stand Jvm.Free Jvm.LawKit
section New
variable {p : Program} {l : Launch} {e : Env} {R : Room} {s : State} {m : MethodId} {args : Array Value} {below : List Frame} {meth : Method} {c : Code} {T : State} {locs : List Loc} {cells slots : Nat}
theorem retI (X : Stand p l e R s m args below meth c T locs cells slots) (hx : p.tables.exec = Jvm.exec) {pc : Nat} {Ls : Array Slot} {z : Int32} {rest : List Value} (hret : meth.sig.returnType = some .int) (hd : decode c.code pc = .ok (.ireturn, 1)) {fs : List Frame}
    (hl : ∀ (f : JFrame) (acts : List Action), f.method = m → f.locked = none → f.entered = [] → (doReturn e (T.setTop f) acts (some (.int z))).1 = T.setFrames fs) : Steps p.tables e below (T.setTop (mkF m pc Ls (.int z :: rest))) (T.setFrames fs) := by
  have hm' : T.vm.method? m = some meth := X.method'
  have hn : narrow .int (.int z) = .int z := rfl
  show Steps p.tables e below (T.setTop { method := m, pc := pc, locals := Ls, stack := _ :: rest, locked := none }) _
  jvm_step X.here [X.here.top, hx, hd, hm', hret, hn]
  first | (intro acts; rw [hl _ acts rfl rfl rfl]) | rw [hl _ _ rfl rfl rfl]
  exact Steps.refl _
end New
end Jvm.RoadKit
namespace Jvm.Pilot.@@N@@
open Jvm Jvm.ClassFile Sem Op Lib Jvm.Free Jvm.Stand Jvm.LawKit Jvm.RoadKit Bundle Jvm.Pilot.@@N@@.Jvm.D
theorem d1_0 : decode method_2_code 0 = .ok (.iload_n 0, 1) := by decide +kernel
theorem d1_1 : decode method_2_code 1 = .ok (.bipush 65, 2) := by decide +kernel
theorem d1_3 : decode method_2_code 3 = .ok (.if_icmp .lt 9, 3) := by decide +kernel
theorem d1_6 : decode method_2_code 6 = .ok (.iload_n 0, 1) := by decide +kernel
theorem d1_7 : decode method_2_code 7 = .ok (.ldc 7, 2) := by decide +kernel
theorem d1_9 : decode method_2_code 9 = .ok (.if_icmp .le 5, 3) := by decide +kernel
theorem d1_12 : decode method_2_code 12 = .ok (.iconst 1, 1) := by decide +kernel
theorem d1_13 : decode method_2_code 13 = .ok (.ireturn, 1) := by decide +kernel
theorem d1_14 : decode method_2_code 14 = .ok (.iload_n 0, 1) := by decide +kernel
theorem d1_15 : decode method_2_code 15 = .ok (.bipush 91, 2) := by decide +kernel
theorem d1_17 : decode method_2_code 17 = .ok (.if_icmp .lt 11, 3) := by decide +kernel
theorem d1_20 : decode method_2_code 20 = .ok (.iload_n 0, 1) := by decide +kernel
theorem d1_21 : decode method_2_code 21 = .ok (.bipush 94, 2) := by decide +kernel
theorem d1_23 : decode method_2_code 23 = .ok (.if_icmp .gt 5, 3) := by decide +kernel
theorem d1_26 : decode method_2_code 26 = .ok (.iconst 1, 1) := by decide +kernel
theorem d1_27 : decode method_2_code 27 = .ok (.ireturn, 1) := by decide +kernel
theorem d1_28 : decode method_2_code 28 = .ok (.iload_n 0, 1) := by decide +kernel
theorem d1_29 : decode method_2_code 29 = .ok (.bipush 96, 2) := by decide +kernel
theorem d1_31 : decode method_2_code 31 = .ok (.if_icmp .ne 5, 3) := by decide +kernel
theorem d1_34 : decode method_2_code 34 = .ok (.iconst 1, 1) := by decide +kernel
theorem d1_35 : decode method_2_code 35 = .ok (.ireturn, 1) := by decide +kernel
theorem d1_36 : decode method_2_code 36 = .ok (.iload_n 0, 1) := by decide +kernel
theorem d1_37 : decode method_2_code 37 = .ok (.bipush 123, 2) := by decide +kernel
theorem d1_39 : decode method_2_code 39 = .ok (.if_icmp .lt 12, 3) := by decide +kernel
theorem d1_42 : decode method_2_code 42 = .ok (.iload_n 0, 1) := by decide +kernel
theorem d1_43 : decode method_2_code 43 = .ok (.sipush 191, 3) := by decide +kernel
theorem d1_46 : decode method_2_code 46 = .ok (.if_icmp .gt 5, 3) := by decide +kernel
theorem d1_49 : decode method_2_code 49 = .ok (.iconst 1, 1) := by decide +kernel
theorem d1_50 : decode method_2_code 50 = .ok (.ireturn, 1) := by decide +kernel
theorem d1_51 : decode method_2_code 51 = .ok (.iload_n 0, 1) := by decide +kernel
theorem d1_52 : decode method_2_code 52 = .ok (.sipush 215, 3) := by decide +kernel
theorem d1_55 : decode method_2_code 55 = .ok (.if_icmp .eq 10, 3) := by decide +kernel
theorem d1_58 : decode method_2_code 58 = .ok (.iload_n 0, 1) := by decide +kernel
theorem d1_59 : decode method_2_code 59 = .ok (.sipush 247, 3) := by decide +kernel
theorem d1_62 : decode method_2_code 62 = .ok (.if_icmp .ne 5, 3) := by decide +kernel
theorem d1_65 : decode method_2_code 65 = .ok (.iconst 1, 1) := by decide +kernel
theorem d1_66 : decode method_2_code 66 = .ok (.ireturn, 1) := by decide +kernel
theorem d1_67 : decode method_2_code 67 = .ok (.iload_n 0, 1) := by decide +kernel
theorem d1_68 : decode method_2_code 68 = .ok (.sipush 768, 3) := by decide +kernel
theorem d1_71 : decode method_2_code 71 = .ok (.if_icmp .lt 12, 3) := by decide +kernel
theorem d1_74 : decode method_2_code 74 = .ok (.iload_n 0, 1) := by decide +kernel
theorem d1_75 : decode method_2_code 75 = .ok (.sipush 879, 3) := by decide +kernel
theorem d1_78 : decode method_2_code 78 = .ok (.if_icmp .gt 5, 3) := by decide +kernel
theorem d1_81 : decode method_2_code 81 = .ok (.iconst 1, 1) := by decide +kernel
theorem d1_82 : decode method_2_code 82 = .ok (.ireturn, 1) := by decide +kernel
theorem d1_83 : decode method_2_code 83 = .ok (.iload_n 0, 1) := by decide +kernel
theorem d1_84 : decode method_2_code 84 = .ok (.sipush 894, 3) := by decide +kernel
theorem d1_87 : decode method_2_code 87 = .ok (.if_icmp .ne 5, 3) := by decide +kernel
theorem d1_90 : decode method_2_code 90 = .ok (.iconst 1, 1) := by decide +kernel
theorem d1_91 : decode method_2_code 91 = .ok (.ireturn, 1) := by decide +kernel
theorem d1_92 : decode method_2_code 92 = .ok (.iload_n 0, 1) := by decide +kernel
theorem d1_93 : decode method_2_code 93 = .ok (.sipush 8192, 3) := by decide +kernel
theorem d1_96 : decode method_2_code 96 = .ok (.if_icmp .lt 12, 3) := by decide +kernel
theorem d1_99 : decode method_2_code 99 = .ok (.iload_n 0, 1) := by decide +kernel
theorem d1_100 : decode method_2_code 100 = .ok (.sipush 8203, 3) := by decide +kernel
theorem d1_103 : decode method_2_code 103 = .ok (.if_icmp .gt 5, 3) := by decide +kernel
theorem d1_106 : decode method_2_code 106 = .ok (.iconst 1, 1) := by decide +kernel
theorem d1_107 : decode method_2_code 107 = .ok (.ireturn, 1) := by decide +kernel
theorem d1_108 : decode method_2_code 108 = .ok (.iload_n 0, 1) := by decide +kernel
theorem d1_109 : decode method_2_code 109 = .ok (.sipush 8206, 3) := by decide +kernel
theorem d1_112 : decode method_2_code 112 = .ok (.if_icmp .lt 12, 3) := by decide +kernel
theorem d1_115 : decode method_2_code 115 = .ok (.iload_n 0, 1) := by decide +kernel
theorem d1_116 : decode method_2_code 116 = .ok (.sipush 8303, 3) := by decide +kernel
theorem d1_119 : decode method_2_code 119 = .ok (.if_icmp .gt 5, 3) := by decide +kernel
theorem d1_122 : decode method_2_code 122 = .ok (.iconst 1, 1) := by decide +kernel
theorem d1_123 : decode method_2_code 123 = .ok (.ireturn, 1) := by decide +kernel
theorem d1_124 : decode method_2_code 124 = .ok (.iload_n 0, 1) := by decide +kernel
theorem d1_125 : decode method_2_code 125 = .ok (.sipush 8592, 3) := by decide +kernel
theorem d1_128 : decode method_2_code 128 = .ok (.if_icmp .lt 12, 3) := by decide +kernel
theorem d1_131 : decode method_2_code 131 = .ok (.iload_n 0, 1) := by decide +kernel
theorem d1_132 : decode method_2_code 132 = .ok (.sipush 11263, 3) := by decide +kernel
theorem d1_135 : decode method_2_code 135 = .ok (.if_icmp .gt 5, 3) := by decide +kernel
theorem d1_138 : decode method_2_code 138 = .ok (.iconst 1, 1) := by decide +kernel
theorem d1_139 : decode method_2_code 139 = .ok (.ireturn, 1) := by decide +kernel
theorem d1_140 : decode method_2_code 140 = .ok (.iload_n 0, 1) := by decide +kernel
theorem d1_141 : decode method_2_code 141 = .ok (.sipush 12272, 3) := by decide +kernel
theorem d1_144 : decode method_2_code 144 = .ok (.if_icmp .lt 12, 3) := by decide +kernel
theorem d1_147 : decode method_2_code 147 = .ok (.iload_n 0, 1) := by decide +kernel
theorem d1_148 : decode method_2_code 148 = .ok (.sipush 12288, 3) := by decide +kernel
theorem d1_151 : decode method_2_code 151 = .ok (.if_icmp .gt 5, 3) := by decide +kernel
theorem d1_154 : decode method_2_code 154 = .ok (.iconst 1, 1) := by decide +kernel
theorem d1_155 : decode method_2_code 155 = .ok (.ireturn, 1) := by decide +kernel
theorem d1_156 : decode method_2_code 156 = .ok (.iload_n 0, 1) := by decide +kernel
theorem d1_157 : decode method_2_code 157 = .ok (.ldc 8, 2) := by decide +kernel
theorem d1_159 : decode method_2_code 159 = .ok (.if_icmp .lt 11, 3) := by decide +kernel
theorem d1_162 : decode method_2_code 162 = .ok (.iload_n 0, 1) := by decide +kernel
theorem d1_163 : decode method_2_code 163 = .ok (.ldc 9, 2) := by decide +kernel
theorem d1_165 : decode method_2_code 165 = .ok (.if_icmp .gt 5, 3) := by decide +kernel
theorem d1_168 : decode method_2_code 168 = .ok (.iconst 1, 1) := by decide +kernel
theorem d1_169 : decode method_2_code 169 = .ok (.ireturn, 1) := by decide +kernel
theorem d1_170 : decode method_2_code 170 = .ok (.iload_n 0, 1) := by decide +kernel
theorem d1_171 : decode method_2_code 171 = .ok (.ldc 10, 2) := by decide +kernel
theorem d1_173 : decode method_2_code 173 = .ok (.if_icmp .lt 11, 3) := by decide +kernel
theorem d1_176 : decode method_2_code 176 = .ok (.iload_n 0, 1) := by decide +kernel
theorem d1_177 : decode method_2_code 177 = .ok (.ldc 11, 2) := by decide +kernel
theorem d1_179 : decode method_2_code 179 = .ok (.if_icmp .gt 5, 3) := by decide +kernel
theorem d1_182 : decode method_2_code 182 = .ok (.iconst 1, 1) := by decide +kernel
theorem d1_183 : decode method_2_code 183 = .ok (.ireturn, 1) := by decide +kernel
theorem d1_184 : decode method_2_code 184 = .ok (.iload_n 0, 1) := by decide +kernel
theorem d1_185 : decode method_2_code 185 = .ok (.ldc 12, 2) := by decide +kernel
theorem d1_187 : decode method_2_code 187 = .ok (.if_icmp .lt 11, 3) := by decide +kernel
theorem d1_190 : decode method_2_code 190 = .ok (.iload_n 0, 1) := by decide +kernel
theorem d1_191 : decode method_2_code 191 = .ok (.ldc 13, 2) := by decide +kernel
theorem d1_193 : decode method_2_code 193 = .ok (.if_icmp .gt 5, 3) := by decide +kernel
theorem d1_196 : decode method_2_code 196 = .ok (.iconst 1, 1) := by decide +kernel
theorem d1_197 : decode method_2_code 197 = .ok (.ireturn, 1) := by decide +kernel
theorem d1_198 : decode method_2_code 198 = .ok (.iconst 0, 1) := by decide +kernel
theorem d1_199 : decode method_2_code 199 = .ok (.ireturn, 1) := by decide +kernel
def own_ex_12 (p1 : Int32) : Int32 := (1 : Int32)
def own_ex_34 (p1 : Int32) : Int32 := (1 : Int32)
def own_ex_65 (p1 : Int32) : Int32 := (1 : Int32)
def own_ex_90 (p1 : Int32) : Int32 := (1 : Int32)
def own_ex_198 (p1 : Int32) : Int32 := (0 : Int32)
def own_ex_196 (p1 : Int32) : Int32 := (1 : Int32)
def own_ex_190 (p1 : Int32) : Int32 := if (65535 : Int32) < p1 then own_ex_198 p1 else own_ex_196 p1
def own_ex_184 (p1 : Int32) : Int32 := if p1 < (65534 : Int32) then own_ex_198 p1 else own_ex_190 p1
def own_ex_182 (p1 : Int32) : Int32 := (1 : Int32)
def own_ex_176 (p1 : Int32) : Int32 := if (65007 : Int32) < p1 then own_ex_184 p1 else own_ex_182 p1
def own_ex_170 (p1 : Int32) : Int32 := if p1 < (64976 : Int32) then own_ex_184 p1 else own_ex_176 p1
def own_ex_168 (p1 : Int32) : Int32 := (1 : Int32)
def own_ex_162 (p1 : Int32) : Int32 := if (63743 : Int32) < p1 then own_ex_170 p1 else own_ex_168 p1
def own_ex_156 (p1 : Int32) : Int32 := if p1 < (55296 : Int32) then own_ex_170 p1 else own_ex_162 p1
def own_ex_154 (p1 : Int32) : Int32 := (1 : Int32)
def own_ex_147 (p1 : Int32) : Int32 := if (12288 : Int32) < p1 then own_ex_156 p1 else own_ex_154 p1
def own_ex_140 (p1 : Int32) : Int32 := if p1 < (12272 : Int32) then own_ex_156 p1 else own_ex_147 p1
def own_ex_138 (p1 : Int32) : Int32 := (1 : Int32)
def own_ex_131 (p1 : Int32) : Int32 := if (11263 : Int32) < p1 then own_ex_140 p1 else own_ex_138 p1
def own_ex_124 (p1 : Int32) : Int32 := if p1 < (8592 : Int32) then own_ex_140 p1 else own_ex_131 p1
def own_ex_122 (p1 : Int32) : Int32 := (1 : Int32)
def own_ex_115 (p1 : Int32) : Int32 := if (8303 : Int32) < p1 then own_ex_124 p1 else own_ex_122 p1
def own_ex_108 (p1 : Int32) : Int32 := if p1 < (8206 : Int32) then own_ex_124 p1 else own_ex_115 p1
def own_ex_106 (p1 : Int32) : Int32 := (1 : Int32)
def own_ex_99 (p1 : Int32) : Int32 := if (8203 : Int32) < p1 then own_ex_108 p1 else own_ex_106 p1
def own_ex_92 (p1 : Int32) : Int32 := if p1 < (8192 : Int32) then own_ex_108 p1 else own_ex_99 p1
def own_ex_83 (p1 : Int32) : Int32 := if p1 = (894 : Int32) then own_ex_90 p1 else own_ex_92 p1
def own_ex_81 (p1 : Int32) : Int32 := (1 : Int32)
def own_ex_74 (p1 : Int32) : Int32 := if (879 : Int32) < p1 then own_ex_83 p1 else own_ex_81 p1
def own_ex_67 (p1 : Int32) : Int32 := if p1 < (768 : Int32) then own_ex_83 p1 else own_ex_74 p1
def own_ex_58 (p1 : Int32) : Int32 := if p1 = (247 : Int32) then own_ex_65 p1 else own_ex_67 p1
def own_ex_51 (p1 : Int32) : Int32 := if p1 = (215 : Int32) then own_ex_65 p1 else own_ex_58 p1
def own_ex_49 (p1 : Int32) : Int32 := (1 : Int32)
def own_ex_42 (p1 : Int32) : Int32 := if (191 : Int32) < p1 then own_ex_51 p1 else own_ex_49 p1
def own_ex_36 (p1 : Int32) : Int32 := if p1 < (123 : Int32) then own_ex_51 p1 else own_ex_42 p1
def own_ex_28 (p1 : Int32) : Int32 := if p1 = (96 : Int32) then own_ex_34 p1 else own_ex_36 p1
def own_ex_26 (p1 : Int32) : Int32 := (1 : Int32)
def own_ex_20 (p1 : Int32) : Int32 := if (94 : Int32) < p1 then own_ex_28 p1 else own_ex_26 p1
def own_ex_14 (p1 : Int32) : Int32 := if p1 < (91 : Int32) then own_ex_28 p1 else own_ex_20 p1
def own_ex_6 (p1 : Int32) : Int32 := if (983039 : Int32) < p1 then own_ex_12 p1 else own_ex_14 p1
def own_ex_0 (p1 : Int32) : Int32 := if p1 < (65 : Int32) then own_ex_12 p1 else own_ex_6 p1
theorem pn_1 : plainName "com/example/descendant/descendant/model/XmlCharsIsNameStartCharPinLaw" = true := by first | (simp [plainName, overriddenIn]; done) | decide +kernel
theorem ef_1 (m : MethodId) (x0 : Int32) : entryFrame m #[(.int x0)] 1 = mkF m 0 #[.val (.int x0)] [] := by first | (simp [entryFrame, mkF, argsToLocals, Value.category]; done) | rfl
def Q1 (Z : State) (p1 : Int32) (h0 : Heap) (n0 : Nat) (v : Option Value) (h : Heap) (L : List Loc) : Prop := v = some (.int (own_ex_0 p1)) ∧ Fr n0 L ∧ h = h0
set_option maxRecDepth 65536 in
set_option maxHeartbeats 40000000 in
theorem rm1 (l : Launch) (Z : State) (a0 : Array Value) (hw : ∀ d ∈ tables_1, d.before a0 Z = true) (ws : List Jvm.Cond) (p1 : Int32) (h0 : Heap) (n0 : Nat) (Z0 : n0 ≤ h0.size)  :
    MetFree l (⟨"com/example/descendant/descendant/model/XmlCharsIsNameStartCharPinLaw", "excluded", "(I)Z"⟩ : MethodName) (head1 (Jvm.Cond.code (⟨"com/example/descendant/descendant/model/XmlCharsIsNameStartCharPinLaw", "excluded", "(I)Z"⟩ : MethodName) method_2_code 1 (some .boolean) :: ws) ({ frames := 0, cells := 0, slots := 0, locals := 0 } : Room)) (fun a U => a = #[(.int p1)] ∧ Z.Warmed39 U.vm ∧ U.heap = h0) (fun _ _ _ _ _ => True) (fun _ U o U' => ∃ v L, o = .returned v ∧ Q1 Z p1 h0 n0 v U'.heap L ∧ FrameEnd U o U' L ({ frames := 0, cells := 0, slots := 0, locals := 0 } : Room).cells ({ frames := 0, cells := 0, slots := 0, locals := 0 } : Room).slots) := by
  refine MetFree.of_bodySF (plainFor_of_name pn_1) hisR ?_
  intro p e s m args below meth c s₁ Bd hml0 hP hK
  obtain ⟨rfl, hZ, hh⟩ := hP
  have hx := Bd.exec
  have hby := Bd.bytes
  have hml : c.maxLocals = 1 := hml0
  have hown : s.vm.findClass "com/example/descendant/descendant/model/XmlCharsIsNameStartCharPinLaw" = some m.cls := findClass_of_methodNamed Bd.named
  have hnm := (name_of_methodNamed Bd.named Bd.method).1
  have X0 : Stand p l e ({ frames := 0, cells := 0, slots := 0, locals := 0 } : Room) s m #[(.int p1)] below meth c s₁ [] 0 0 := Stand.of_body Bd
  have e0 : s₁.heap = h0 := by rw [← hh, Bd.state]; rfl
  have N0 := Fr.nil n0
  have pre0 : ∀ t, Steps p.tables e below (s₁.setTop (mkF m 0 #[.val (.int p1)] [])) t → Steps p.tables e below (s₁.setTop (entryFrame m #[(.int p1)] 1)) t := fun t k => castTop (ef_1 m p1) k
  obtain ⟨r, hrd⟩ : ∃ r, r = own_ex_0 p1 := ⟨_, rfl⟩
  show _
  obtain ⟨fs, hr, hrun, hended, hW, hsame⟩ := X0.leave (v := some (.int r)) (fun h => by rw [Bd.returns] at h; cases h)
  have K12 : r = own_ex_12 p1 → Steps p.tables e below (s₁.setTop (mkF m 12 #[.val (.int p1)] [])) (s₁.setFrames fs) := by
    intro h
    show Steps p.tables e below (s₁.setTop (mkF m 12 #[.val (.int p1)] [])) _
    refine XS.iconst X0.here hx rfl (hb hby d1_12) ?_
    rw [show r = (1 : Int32) from h] at hr
    show Steps p.tables e below (s₁.setTop (mkF m 13 #[.val (.int p1)] [(.int (1 : Int32))])) _
    exact retN X0 hx (t := .boolean) Bd.returns (by simp) (hb hby d1_13) hr
  have K34 : r = own_ex_34 p1 → Steps p.tables e below (s₁.setTop (mkF m 34 #[.val (.int p1)] [])) (s₁.setFrames fs) := by
    intro h
    show Steps p.tables e below (s₁.setTop (mkF m 34 #[.val (.int p1)] [])) _
    refine XS.iconst X0.here hx rfl (hb hby d1_34) ?_
    rw [show r = (1 : Int32) from h] at hr
    show Steps p.tables e below (s₁.setTop (mkF m 35 #[.val (.int p1)] [(.int (1 : Int32))])) _
    exact retN X0 hx (t := .boolean) Bd.returns (by simp) (hb hby d1_35) hr
  have K65 : r = own_ex_65 p1 → Steps p.tables e below (s₁.setTop (mkF m 65 #[.val (.int p1)] [])) (s₁.setFrames fs) := by
    intro h
    show Steps p.tables e below (s₁.setTop (mkF m 65 #[.val (.int p1)] [])) _
    refine XS.iconst X0.here hx rfl (hb hby d1_65) ?_
    rw [show r = (1 : Int32) from h] at hr
    show Steps p.tables e below (s₁.setTop (mkF m 66 #[.val (.int p1)] [(.int (1 : Int32))])) _
    exact retN X0 hx (t := .boolean) Bd.returns (by simp) (hb hby d1_66) hr
  have K90 : r = own_ex_90 p1 → Steps p.tables e below (s₁.setTop (mkF m 90 #[.val (.int p1)] [])) (s₁.setFrames fs) := by
    intro h
    show Steps p.tables e below (s₁.setTop (mkF m 90 #[.val (.int p1)] [])) _
    refine XS.iconst X0.here hx rfl (hb hby d1_90) ?_
    rw [show r = (1 : Int32) from h] at hr
    show Steps p.tables e below (s₁.setTop (mkF m 91 #[.val (.int p1)] [(.int (1 : Int32))])) _
    exact retN X0 hx (t := .boolean) Bd.returns (by simp) (hb hby d1_91) hr
  have K198 : r = own_ex_198 p1 → Steps p.tables e below (s₁.setTop (mkF m 198 #[.val (.int p1)] [])) (s₁.setFrames fs) := by
    intro h
    show Steps p.tables e below (s₁.setTop (mkF m 198 #[.val (.int p1)] [])) _
    refine XS.iconst X0.here hx rfl (hb hby d1_198) ?_
    rw [show r = (0 : Int32) from h] at hr
    show Steps p.tables e below (s₁.setTop (mkF m 199 #[.val (.int p1)] [(.int (0 : Int32))])) _
    exact retN X0 hx (t := .boolean) Bd.returns (by simp) (hb hby d1_199) hr
  have K196 : r = own_ex_196 p1 → Steps p.tables e below (s₁.setTop (mkF m 196 #[.val (.int p1)] [])) (s₁.setFrames fs) := by
    intro h
    show Steps p.tables e below (s₁.setTop (mkF m 196 #[.val (.int p1)] [])) _
    refine XS.iconst X0.here hx rfl (hb hby d1_196) ?_
    rw [show r = (1 : Int32) from h] at hr
    show Steps p.tables e below (s₁.setTop (mkF m 197 #[.val (.int p1)] [(.int (1 : Int32))])) _
    exact retN X0 hx (t := .boolean) Bd.returns (by simp) (hb hby d1_197) hr
  have K190 : r = own_ex_190 p1 → Steps p.tables e below (s₁.setTop (mkF m 190 #[.val (.int p1)] [])) (s₁.setFrames fs) := by
    intro h
    show Steps p.tables e below (s₁.setTop (mkF m 190 #[.val (.int p1)] [])) _
    refine XS.iloadN X0.here hx rfl (hb hby d1_190) rfl ?_
    show Steps p.tables e below (s₁.setTop (mkF m 191 #[.val (.int p1)] [(.int p1)])) _
    refine X0.ldcI hx hown (mvT hZ (hw _ (List.mem_of_getElem? (i := 12) rfl))) rfl (hb hby d1_191) ?_
    by_cases hc : (65535 : Int32) < p1
    · show Steps p.tables e below (s₁.setTop (mkF m 193 #[.val (.int p1)] [(.int (65535 : Int32)), (.int p1)])) _
      refine XS.icmpYes X0.here hx rfl (pc0 := 193) (pc' := 198) rfl (hb hby d1_193) rfl (tlt hc).2.2.1 (by decide) (by decide) ?_
      exact K198 (h.trans (if_pos hc))
    · show Steps p.tables e below (s₁.setTop (mkF m 193 #[.val (.int p1)] [(.int (65535 : Int32)), (.int p1)])) _
      refine XS.icmpNo X0.here hx rfl (hb hby d1_193) rfl (flt hc).2.2.1 ?_
      exact K196 (h.trans (if_neg hc))
  have K184 : r = own_ex_184 p1 → Steps p.tables e below (s₁.setTop (mkF m 184 #[.val (.int p1)] [])) (s₁.setFrames fs) := by
    intro h
    show Steps p.tables e below (s₁.setTop (mkF m 184 #[.val (.int p1)] [])) _
    refine XS.iloadN X0.here hx rfl (hb hby d1_184) rfl ?_
    show Steps p.tables e below (s₁.setTop (mkF m 185 #[.val (.int p1)] [(.int p1)])) _
    refine X0.ldcI hx hown (mvT hZ (hw _ (List.mem_of_getElem? (i := 16) rfl))) rfl (hb hby d1_185) ?_
    by_cases hc : p1 < (65534 : Int32)
    · show Steps p.tables e below (s₁.setTop (mkF m 187 #[.val (.int p1)] [(.int (65534 : Int32)), (.int p1)])) _
      refine XS.icmpYes X0.here hx rfl (pc0 := 187) (pc' := 198) rfl (hb hby d1_187) rfl (tlt hc).1 (by decide) (by decide) ?_
      exact K198 (h.trans (if_pos hc))
    · show Steps p.tables e below (s₁.setTop (mkF m 187 #[.val (.int p1)] [(.int (65534 : Int32)), (.int p1)])) _
      refine XS.icmpNo X0.here hx rfl (hb hby d1_187) rfl (flt hc).1 ?_
      exact K190 (h.trans (if_neg hc))
  have K182 : r = own_ex_182 p1 → Steps p.tables e below (s₁.setTop (mkF m 182 #[.val (.int p1)] [])) (s₁.setFrames fs) := by
    intro h
    show Steps p.tables e below (s₁.setTop (mkF m 182 #[.val (.int p1)] [])) _
    refine XS.iconst X0.here hx rfl (hb hby d1_182) ?_
    rw [show r = (1 : Int32) from h] at hr
    show Steps p.tables e below (s₁.setTop (mkF m 183 #[.val (.int p1)] [(.int (1 : Int32))])) _
    exact retN X0 hx (t := .boolean) Bd.returns (by simp) (hb hby d1_183) hr
  have K176 : r = own_ex_176 p1 → Steps p.tables e below (s₁.setTop (mkF m 176 #[.val (.int p1)] [])) (s₁.setFrames fs) := by
    intro h
    show Steps p.tables e below (s₁.setTop (mkF m 176 #[.val (.int p1)] [])) _
    refine XS.iloadN X0.here hx rfl (hb hby d1_176) rfl ?_
    show Steps p.tables e below (s₁.setTop (mkF m 177 #[.val (.int p1)] [(.int p1)])) _
    refine X0.ldcI hx hown (mvT hZ (hw _ (List.mem_of_getElem? (i := 18) rfl))) rfl (hb hby d1_177) ?_
    by_cases hc : (65007 : Int32) < p1
    · show Steps p.tables e below (s₁.setTop (mkF m 179 #[.val (.int p1)] [(.int (65007 : Int32)), (.int p1)])) _
      refine XS.icmpYes X0.here hx rfl (pc0 := 179) (pc' := 184) rfl (hb hby d1_179) rfl (tlt hc).2.2.1 (by decide) (by decide) ?_
      exact K184 (h.trans (if_pos hc))
    · show Steps p.tables e below (s₁.setTop (mkF m 179 #[.val (.int p1)] [(.int (65007 : Int32)), (.int p1)])) _
      refine XS.icmpNo X0.here hx rfl (hb hby d1_179) rfl (flt hc).2.2.1 ?_
      exact K182 (h.trans (if_neg hc))
  have K170 : r = own_ex_170 p1 → Steps p.tables e below (s₁.setTop (mkF m 170 #[.val (.int p1)] [])) (s₁.setFrames fs) := by
    intro h
    show Steps p.tables e below (s₁.setTop (mkF m 170 #[.val (.int p1)] [])) _
    refine XS.iloadN X0.here hx rfl (hb hby d1_170) rfl ?_
    show Steps p.tables e below (s₁.setTop (mkF m 171 #[.val (.int p1)] [(.int p1)])) _
    refine X0.ldcI hx hown (mvT hZ (hw _ (List.mem_of_getElem? (i := 15) rfl))) rfl (hb hby d1_171) ?_
    by_cases hc : p1 < (64976 : Int32)
    · show Steps p.tables e below (s₁.setTop (mkF m 173 #[.val (.int p1)] [(.int (64976 : Int32)), (.int p1)])) _
      refine XS.icmpYes X0.here hx rfl (pc0 := 173) (pc' := 184) rfl (hb hby d1_173) rfl (tlt hc).1 (by decide) (by decide) ?_
      exact K184 (h.trans (if_pos hc))
    · show Steps p.tables e below (s₁.setTop (mkF m 173 #[.val (.int p1)] [(.int (64976 : Int32)), (.int p1)])) _
      refine XS.icmpNo X0.here hx rfl (hb hby d1_173) rfl (flt hc).1 ?_
      exact K176 (h.trans (if_neg hc))
  have K168 : r = own_ex_168 p1 → Steps p.tables e below (s₁.setTop (mkF m 168 #[.val (.int p1)] [])) (s₁.setFrames fs) := by
    intro h
    show Steps p.tables e below (s₁.setTop (mkF m 168 #[.val (.int p1)] [])) _
    refine XS.iconst X0.here hx rfl (hb hby d1_168) ?_
    rw [show r = (1 : Int32) from h] at hr
    show Steps p.tables e below (s₁.setTop (mkF m 169 #[.val (.int p1)] [(.int (1 : Int32))])) _
    exact retN X0 hx (t := .boolean) Bd.returns (by simp) (hb hby d1_169) hr
  have K162 : r = own_ex_162 p1 → Steps p.tables e below (s₁.setTop (mkF m 162 #[.val (.int p1)] [])) (s₁.setFrames fs) := by
    intro h
    show Steps p.tables e below (s₁.setTop (mkF m 162 #[.val (.int p1)] [])) _
    refine XS.iloadN X0.here hx rfl (hb hby d1_162) rfl ?_
    show Steps p.tables e below (s₁.setTop (mkF m 163 #[.val (.int p1)] [(.int p1)])) _
    refine X0.ldcI hx hown (mvT hZ (hw _ (List.mem_of_getElem? (i := 17) rfl))) rfl (hb hby d1_163) ?_
    by_cases hc : (63743 : Int32) < p1
    · show Steps p.tables e below (s₁.setTop (mkF m 165 #[.val (.int p1)] [(.int (63743 : Int32)), (.int p1)])) _
      refine XS.icmpYes X0.here hx rfl (pc0 := 165) (pc' := 170) rfl (hb hby d1_165) rfl (tlt hc).2.2.1 (by decide) (by decide) ?_
      exact K170 (h.trans (if_pos hc))
    · show Steps p.tables e below (s₁.setTop (mkF m 165 #[.val (.int p1)] [(.int (63743 : Int32)), (.int p1)])) _
      refine XS.icmpNo X0.here hx rfl (hb hby d1_165) rfl (flt hc).2.2.1 ?_
      exact K168 (h.trans (if_neg hc))
  have K156 : r = own_ex_156 p1 → Steps p.tables e below (s₁.setTop (mkF m 156 #[.val (.int p1)] [])) (s₁.setFrames fs) := by
    intro h
    show Steps p.tables e below (s₁.setTop (mkF m 156 #[.val (.int p1)] [])) _
    refine XS.iloadN X0.here hx rfl (hb hby d1_156) rfl ?_
    show Steps p.tables e below (s₁.setTop (mkF m 157 #[.val (.int p1)] [(.int p1)])) _
    refine X0.ldcI hx hown (mvT hZ (hw _ (List.mem_of_getElem? (i := 14) rfl))) rfl (hb hby d1_157) ?_
    by_cases hc : p1 < (55296 : Int32)
    · show Steps p.tables e below (s₁.setTop (mkF m 159 #[.val (.int p1)] [(.int (55296 : Int32)), (.int p1)])) _
      refine XS.icmpYes X0.here hx rfl (pc0 := 159) (pc' := 170) rfl (hb hby d1_159) rfl (tlt hc).1 (by decide) (by decide) ?_
      exact K170 (h.trans (if_pos hc))
    · show Steps p.tables e below (s₁.setTop (mkF m 159 #[.val (.int p1)] [(.int (55296 : Int32)), (.int p1)])) _
      refine XS.icmpNo X0.here hx rfl (hb hby d1_159) rfl (flt hc).1 ?_
      exact K162 (h.trans (if_neg hc))
  have K154 : r = own_ex_154 p1 → Steps p.tables e below (s₁.setTop (mkF m 154 #[.val (.int p1)] [])) (s₁.setFrames fs) := by
    intro h
    show Steps p.tables e below (s₁.setTop (mkF m 154 #[.val (.int p1)] [])) _
    refine XS.iconst X0.here hx rfl (hb hby d1_154) ?_
    rw [show r = (1 : Int32) from h] at hr
    show Steps p.tables e below (s₁.setTop (mkF m 155 #[.val (.int p1)] [(.int (1 : Int32))])) _
    exact retN X0 hx (t := .boolean) Bd.returns (by simp) (hb hby d1_155) hr
  have K147 : r = own_ex_147 p1 → Steps p.tables e below (s₁.setTop (mkF m 147 #[.val (.int p1)] [])) (s₁.setFrames fs) := by
    intro h
    show Steps p.tables e below (s₁.setTop (mkF m 147 #[.val (.int p1)] [])) _
    refine XS.iloadN X0.here hx rfl (hb hby d1_147) rfl ?_
    show Steps p.tables e below (s₁.setTop (mkF m 148 #[.val (.int p1)] [(.int p1)])) _
    refine XS.sipush X0.here hx rfl (hb hby d1_148) ?_
    by_cases hc : (12288 : Int32) < p1
    · show Steps p.tables e below (s₁.setTop (mkF m 151 #[.val (.int p1)] [(.int (12288 : Int32)), (.int p1)])) _
      refine XS.icmpYes X0.here hx rfl (pc0 := 151) (pc' := 156) rfl (hb hby d1_151) rfl (tlt hc).2.2.1 (by decide) (by decide) ?_
      exact K156 (h.trans (if_pos hc))
    · show Steps p.tables e below (s₁.setTop (mkF m 151 #[.val (.int p1)] [(.int (12288 : Int32)), (.int p1)])) _
      refine XS.icmpNo X0.here hx rfl (hb hby d1_151) rfl (flt hc).2.2.1 ?_
      exact K154 (h.trans (if_neg hc))
  have K140 : r = own_ex_140 p1 → Steps p.tables e below (s₁.setTop (mkF m 140 #[.val (.int p1)] [])) (s₁.setFrames fs) := by
    intro h
    show Steps p.tables e below (s₁.setTop (mkF m 140 #[.val (.int p1)] [])) _
    refine XS.iloadN X0.here hx rfl (hb hby d1_140) rfl ?_
    show Steps p.tables e below (s₁.setTop (mkF m 141 #[.val (.int p1)] [(.int p1)])) _
    refine XS.sipush X0.here hx rfl (hb hby d1_141) ?_
    by_cases hc : p1 < (12272 : Int32)
    · show Steps p.tables e below (s₁.setTop (mkF m 144 #[.val (.int p1)] [(.int (12272 : Int32)), (.int p1)])) _
      refine XS.icmpYes X0.here hx rfl (pc0 := 144) (pc' := 156) rfl (hb hby d1_144) rfl (tlt hc).1 (by decide) (by decide) ?_
      exact K156 (h.trans (if_pos hc))
    · show Steps p.tables e below (s₁.setTop (mkF m 144 #[.val (.int p1)] [(.int (12272 : Int32)), (.int p1)])) _
      refine XS.icmpNo X0.here hx rfl (hb hby d1_144) rfl (flt hc).1 ?_
      exact K147 (h.trans (if_neg hc))
  have K138 : r = own_ex_138 p1 → Steps p.tables e below (s₁.setTop (mkF m 138 #[.val (.int p1)] [])) (s₁.setFrames fs) := by
    intro h
    show Steps p.tables e below (s₁.setTop (mkF m 138 #[.val (.int p1)] [])) _
    refine XS.iconst X0.here hx rfl (hb hby d1_138) ?_
    rw [show r = (1 : Int32) from h] at hr
    show Steps p.tables e below (s₁.setTop (mkF m 139 #[.val (.int p1)] [(.int (1 : Int32))])) _
    exact retN X0 hx (t := .boolean) Bd.returns (by simp) (hb hby d1_139) hr
  have K131 : r = own_ex_131 p1 → Steps p.tables e below (s₁.setTop (mkF m 131 #[.val (.int p1)] [])) (s₁.setFrames fs) := by
    intro h
    show Steps p.tables e below (s₁.setTop (mkF m 131 #[.val (.int p1)] [])) _
    refine XS.iloadN X0.here hx rfl (hb hby d1_131) rfl ?_
    show Steps p.tables e below (s₁.setTop (mkF m 132 #[.val (.int p1)] [(.int p1)])) _
    refine XS.sipush X0.here hx rfl (hb hby d1_132) ?_
    by_cases hc : (11263 : Int32) < p1
    · show Steps p.tables e below (s₁.setTop (mkF m 135 #[.val (.int p1)] [(.int (11263 : Int32)), (.int p1)])) _
      refine XS.icmpYes X0.here hx rfl (pc0 := 135) (pc' := 140) rfl (hb hby d1_135) rfl (tlt hc).2.2.1 (by decide) (by decide) ?_
      exact K140 (h.trans (if_pos hc))
    · show Steps p.tables e below (s₁.setTop (mkF m 135 #[.val (.int p1)] [(.int (11263 : Int32)), (.int p1)])) _
      refine XS.icmpNo X0.here hx rfl (hb hby d1_135) rfl (flt hc).2.2.1 ?_
      exact K138 (h.trans (if_neg hc))
  have K124 : r = own_ex_124 p1 → Steps p.tables e below (s₁.setTop (mkF m 124 #[.val (.int p1)] [])) (s₁.setFrames fs) := by
    intro h
    show Steps p.tables e below (s₁.setTop (mkF m 124 #[.val (.int p1)] [])) _
    refine XS.iloadN X0.here hx rfl (hb hby d1_124) rfl ?_
    show Steps p.tables e below (s₁.setTop (mkF m 125 #[.val (.int p1)] [(.int p1)])) _
    refine XS.sipush X0.here hx rfl (hb hby d1_125) ?_
    by_cases hc : p1 < (8592 : Int32)
    · show Steps p.tables e below (s₁.setTop (mkF m 128 #[.val (.int p1)] [(.int (8592 : Int32)), (.int p1)])) _
      refine XS.icmpYes X0.here hx rfl (pc0 := 128) (pc' := 140) rfl (hb hby d1_128) rfl (tlt hc).1 (by decide) (by decide) ?_
      exact K140 (h.trans (if_pos hc))
    · show Steps p.tables e below (s₁.setTop (mkF m 128 #[.val (.int p1)] [(.int (8592 : Int32)), (.int p1)])) _
      refine XS.icmpNo X0.here hx rfl (hb hby d1_128) rfl (flt hc).1 ?_
      exact K131 (h.trans (if_neg hc))
  have K122 : r = own_ex_122 p1 → Steps p.tables e below (s₁.setTop (mkF m 122 #[.val (.int p1)] [])) (s₁.setFrames fs) := by
    intro h
    show Steps p.tables e below (s₁.setTop (mkF m 122 #[.val (.int p1)] [])) _
    refine XS.iconst X0.here hx rfl (hb hby d1_122) ?_
    rw [show r = (1 : Int32) from h] at hr
    show Steps p.tables e below (s₁.setTop (mkF m 123 #[.val (.int p1)] [(.int (1 : Int32))])) _
    exact retN X0 hx (t := .boolean) Bd.returns (by simp) (hb hby d1_123) hr
  have K115 : r = own_ex_115 p1 → Steps p.tables e below (s₁.setTop (mkF m 115 #[.val (.int p1)] [])) (s₁.setFrames fs) := by
    intro h
    show Steps p.tables e below (s₁.setTop (mkF m 115 #[.val (.int p1)] [])) _
    refine XS.iloadN X0.here hx rfl (hb hby d1_115) rfl ?_
    show Steps p.tables e below (s₁.setTop (mkF m 116 #[.val (.int p1)] [(.int p1)])) _
    refine XS.sipush X0.here hx rfl (hb hby d1_116) ?_
    by_cases hc : (8303 : Int32) < p1
    · show Steps p.tables e below (s₁.setTop (mkF m 119 #[.val (.int p1)] [(.int (8303 : Int32)), (.int p1)])) _
      refine XS.icmpYes X0.here hx rfl (pc0 := 119) (pc' := 124) rfl (hb hby d1_119) rfl (tlt hc).2.2.1 (by decide) (by decide) ?_
      exact K124 (h.trans (if_pos hc))
    · show Steps p.tables e below (s₁.setTop (mkF m 119 #[.val (.int p1)] [(.int (8303 : Int32)), (.int p1)])) _
      refine XS.icmpNo X0.here hx rfl (hb hby d1_119) rfl (flt hc).2.2.1 ?_
      exact K122 (h.trans (if_neg hc))
  have K108 : r = own_ex_108 p1 → Steps p.tables e below (s₁.setTop (mkF m 108 #[.val (.int p1)] [])) (s₁.setFrames fs) := by
    intro h
    show Steps p.tables e below (s₁.setTop (mkF m 108 #[.val (.int p1)] [])) _
    refine XS.iloadN X0.here hx rfl (hb hby d1_108) rfl ?_
    show Steps p.tables e below (s₁.setTop (mkF m 109 #[.val (.int p1)] [(.int p1)])) _
    refine XS.sipush X0.here hx rfl (hb hby d1_109) ?_
    by_cases hc : p1 < (8206 : Int32)
    · show Steps p.tables e below (s₁.setTop (mkF m 112 #[.val (.int p1)] [(.int (8206 : Int32)), (.int p1)])) _
      refine XS.icmpYes X0.here hx rfl (pc0 := 112) (pc' := 124) rfl (hb hby d1_112) rfl (tlt hc).1 (by decide) (by decide) ?_
      exact K124 (h.trans (if_pos hc))
    · show Steps p.tables e below (s₁.setTop (mkF m 112 #[.val (.int p1)] [(.int (8206 : Int32)), (.int p1)])) _
      refine XS.icmpNo X0.here hx rfl (hb hby d1_112) rfl (flt hc).1 ?_
      exact K115 (h.trans (if_neg hc))
  have K106 : r = own_ex_106 p1 → Steps p.tables e below (s₁.setTop (mkF m 106 #[.val (.int p1)] [])) (s₁.setFrames fs) := by
    intro h
    show Steps p.tables e below (s₁.setTop (mkF m 106 #[.val (.int p1)] [])) _
    refine XS.iconst X0.here hx rfl (hb hby d1_106) ?_
    rw [show r = (1 : Int32) from h] at hr
    show Steps p.tables e below (s₁.setTop (mkF m 107 #[.val (.int p1)] [(.int (1 : Int32))])) _
    exact retN X0 hx (t := .boolean) Bd.returns (by simp) (hb hby d1_107) hr
  have K99 : r = own_ex_99 p1 → Steps p.tables e below (s₁.setTop (mkF m 99 #[.val (.int p1)] [])) (s₁.setFrames fs) := by
    intro h
    show Steps p.tables e below (s₁.setTop (mkF m 99 #[.val (.int p1)] [])) _
    refine XS.iloadN X0.here hx rfl (hb hby d1_99) rfl ?_
    show Steps p.tables e below (s₁.setTop (mkF m 100 #[.val (.int p1)] [(.int p1)])) _
    refine XS.sipush X0.here hx rfl (hb hby d1_100) ?_
    by_cases hc : (8203 : Int32) < p1
    · show Steps p.tables e below (s₁.setTop (mkF m 103 #[.val (.int p1)] [(.int (8203 : Int32)), (.int p1)])) _
      refine XS.icmpYes X0.here hx rfl (pc0 := 103) (pc' := 108) rfl (hb hby d1_103) rfl (tlt hc).2.2.1 (by decide) (by decide) ?_
      exact K108 (h.trans (if_pos hc))
    · show Steps p.tables e below (s₁.setTop (mkF m 103 #[.val (.int p1)] [(.int (8203 : Int32)), (.int p1)])) _
      refine XS.icmpNo X0.here hx rfl (hb hby d1_103) rfl (flt hc).2.2.1 ?_
      exact K106 (h.trans (if_neg hc))
  have K92 : r = own_ex_92 p1 → Steps p.tables e below (s₁.setTop (mkF m 92 #[.val (.int p1)] [])) (s₁.setFrames fs) := by
    intro h
    show Steps p.tables e below (s₁.setTop (mkF m 92 #[.val (.int p1)] [])) _
    refine XS.iloadN X0.here hx rfl (hb hby d1_92) rfl ?_
    show Steps p.tables e below (s₁.setTop (mkF m 93 #[.val (.int p1)] [(.int p1)])) _
    refine XS.sipush X0.here hx rfl (hb hby d1_93) ?_
    by_cases hc : p1 < (8192 : Int32)
    · show Steps p.tables e below (s₁.setTop (mkF m 96 #[.val (.int p1)] [(.int (8192 : Int32)), (.int p1)])) _
      refine XS.icmpYes X0.here hx rfl (pc0 := 96) (pc' := 108) rfl (hb hby d1_96) rfl (tlt hc).1 (by decide) (by decide) ?_
      exact K108 (h.trans (if_pos hc))
    · show Steps p.tables e below (s₁.setTop (mkF m 96 #[.val (.int p1)] [(.int (8192 : Int32)), (.int p1)])) _
      refine XS.icmpNo X0.here hx rfl (hb hby d1_96) rfl (flt hc).1 ?_
      exact K99 (h.trans (if_neg hc))
  have K83 : r = own_ex_83 p1 → Steps p.tables e below (s₁.setTop (mkF m 83 #[.val (.int p1)] [])) (s₁.setFrames fs) := by
    intro h
    show Steps p.tables e below (s₁.setTop (mkF m 83 #[.val (.int p1)] [])) _
    refine XS.iloadN X0.here hx rfl (hb hby d1_83) rfl ?_
    show Steps p.tables e below (s₁.setTop (mkF m 84 #[.val (.int p1)] [(.int p1)])) _
    refine XS.sipush X0.here hx rfl (hb hby d1_84) ?_
    by_cases hc : p1 = (894 : Int32)
    · show Steps p.tables e below (s₁.setTop (mkF m 87 #[.val (.int p1)] [(.int (894 : Int32)), (.int p1)])) _
      refine XS.icmpNo X0.here hx rfl (hb hby d1_87) rfl (teq hc).2 ?_
      exact K90 (h.trans (if_pos hc))
    · show Steps p.tables e below (s₁.setTop (mkF m 87 #[.val (.int p1)] [(.int (894 : Int32)), (.int p1)])) _
      refine XS.icmpYes X0.here hx rfl (pc0 := 87) (pc' := 92) rfl (hb hby d1_87) rfl (feq hc).2 (by decide) (by decide) ?_
      exact K92 (h.trans (if_neg hc))
  have K81 : r = own_ex_81 p1 → Steps p.tables e below (s₁.setTop (mkF m 81 #[.val (.int p1)] [])) (s₁.setFrames fs) := by
    intro h
    show Steps p.tables e below (s₁.setTop (mkF m 81 #[.val (.int p1)] [])) _
    refine XS.iconst X0.here hx rfl (hb hby d1_81) ?_
    rw [show r = (1 : Int32) from h] at hr
    show Steps p.tables e below (s₁.setTop (mkF m 82 #[.val (.int p1)] [(.int (1 : Int32))])) _
    exact retN X0 hx (t := .boolean) Bd.returns (by simp) (hb hby d1_82) hr
  have K74 : r = own_ex_74 p1 → Steps p.tables e below (s₁.setTop (mkF m 74 #[.val (.int p1)] [])) (s₁.setFrames fs) := by
    intro h
    show Steps p.tables e below (s₁.setTop (mkF m 74 #[.val (.int p1)] [])) _
    refine XS.iloadN X0.here hx rfl (hb hby d1_74) rfl ?_
    show Steps p.tables e below (s₁.setTop (mkF m 75 #[.val (.int p1)] [(.int p1)])) _
    refine XS.sipush X0.here hx rfl (hb hby d1_75) ?_
    by_cases hc : (879 : Int32) < p1
    · show Steps p.tables e below (s₁.setTop (mkF m 78 #[.val (.int p1)] [(.int (879 : Int32)), (.int p1)])) _
      refine XS.icmpYes X0.here hx rfl (pc0 := 78) (pc' := 83) rfl (hb hby d1_78) rfl (tlt hc).2.2.1 (by decide) (by decide) ?_
      exact K83 (h.trans (if_pos hc))
    · show Steps p.tables e below (s₁.setTop (mkF m 78 #[.val (.int p1)] [(.int (879 : Int32)), (.int p1)])) _
      refine XS.icmpNo X0.here hx rfl (hb hby d1_78) rfl (flt hc).2.2.1 ?_
      exact K81 (h.trans (if_neg hc))
  have K67 : r = own_ex_67 p1 → Steps p.tables e below (s₁.setTop (mkF m 67 #[.val (.int p1)] [])) (s₁.setFrames fs) := by
    intro h
    show Steps p.tables e below (s₁.setTop (mkF m 67 #[.val (.int p1)] [])) _
    refine XS.iloadN X0.here hx rfl (hb hby d1_67) rfl ?_
    show Steps p.tables e below (s₁.setTop (mkF m 68 #[.val (.int p1)] [(.int p1)])) _
    refine XS.sipush X0.here hx rfl (hb hby d1_68) ?_
    by_cases hc : p1 < (768 : Int32)
    · show Steps p.tables e below (s₁.setTop (mkF m 71 #[.val (.int p1)] [(.int (768 : Int32)), (.int p1)])) _
      refine XS.icmpYes X0.here hx rfl (pc0 := 71) (pc' := 83) rfl (hb hby d1_71) rfl (tlt hc).1 (by decide) (by decide) ?_
      exact K83 (h.trans (if_pos hc))
    · show Steps p.tables e below (s₁.setTop (mkF m 71 #[.val (.int p1)] [(.int (768 : Int32)), (.int p1)])) _
      refine XS.icmpNo X0.here hx rfl (hb hby d1_71) rfl (flt hc).1 ?_
      exact K74 (h.trans (if_neg hc))
  have K58 : r = own_ex_58 p1 → Steps p.tables e below (s₁.setTop (mkF m 58 #[.val (.int p1)] [])) (s₁.setFrames fs) := by
    intro h
    show Steps p.tables e below (s₁.setTop (mkF m 58 #[.val (.int p1)] [])) _
    refine XS.iloadN X0.here hx rfl (hb hby d1_58) rfl ?_
    show Steps p.tables e below (s₁.setTop (mkF m 59 #[.val (.int p1)] [(.int p1)])) _
    refine XS.sipush X0.here hx rfl (hb hby d1_59) ?_
    by_cases hc : p1 = (247 : Int32)
    · show Steps p.tables e below (s₁.setTop (mkF m 62 #[.val (.int p1)] [(.int (247 : Int32)), (.int p1)])) _
      refine XS.icmpNo X0.here hx rfl (hb hby d1_62) rfl (teq hc).2 ?_
      exact K65 (h.trans (if_pos hc))
    · show Steps p.tables e below (s₁.setTop (mkF m 62 #[.val (.int p1)] [(.int (247 : Int32)), (.int p1)])) _
      refine XS.icmpYes X0.here hx rfl (pc0 := 62) (pc' := 67) rfl (hb hby d1_62) rfl (feq hc).2 (by decide) (by decide) ?_
      exact K67 (h.trans (if_neg hc))
  have K51 : r = own_ex_51 p1 → Steps p.tables e below (s₁.setTop (mkF m 51 #[.val (.int p1)] [])) (s₁.setFrames fs) := by
    intro h
    show Steps p.tables e below (s₁.setTop (mkF m 51 #[.val (.int p1)] [])) _
    refine XS.iloadN X0.here hx rfl (hb hby d1_51) rfl ?_
    show Steps p.tables e below (s₁.setTop (mkF m 52 #[.val (.int p1)] [(.int p1)])) _
    refine XS.sipush X0.here hx rfl (hb hby d1_52) ?_
    by_cases hc : p1 = (215 : Int32)
    · show Steps p.tables e below (s₁.setTop (mkF m 55 #[.val (.int p1)] [(.int (215 : Int32)), (.int p1)])) _
      refine XS.icmpYes X0.here hx rfl (pc0 := 55) (pc' := 65) rfl (hb hby d1_55) rfl (teq hc).1 (by decide) (by decide) ?_
      exact K65 (h.trans (if_pos hc))
    · show Steps p.tables e below (s₁.setTop (mkF m 55 #[.val (.int p1)] [(.int (215 : Int32)), (.int p1)])) _
      refine XS.icmpNo X0.here hx rfl (hb hby d1_55) rfl (feq hc).1 ?_
      exact K58 (h.trans (if_neg hc))
  have K49 : r = own_ex_49 p1 → Steps p.tables e below (s₁.setTop (mkF m 49 #[.val (.int p1)] [])) (s₁.setFrames fs) := by
    intro h
    show Steps p.tables e below (s₁.setTop (mkF m 49 #[.val (.int p1)] [])) _
    refine XS.iconst X0.here hx rfl (hb hby d1_49) ?_
    rw [show r = (1 : Int32) from h] at hr
    show Steps p.tables e below (s₁.setTop (mkF m 50 #[.val (.int p1)] [(.int (1 : Int32))])) _
    exact retN X0 hx (t := .boolean) Bd.returns (by simp) (hb hby d1_50) hr
  have K42 : r = own_ex_42 p1 → Steps p.tables e below (s₁.setTop (mkF m 42 #[.val (.int p1)] [])) (s₁.setFrames fs) := by
    intro h
    show Steps p.tables e below (s₁.setTop (mkF m 42 #[.val (.int p1)] [])) _
    refine XS.iloadN X0.here hx rfl (hb hby d1_42) rfl ?_
    show Steps p.tables e below (s₁.setTop (mkF m 43 #[.val (.int p1)] [(.int p1)])) _
    refine XS.sipush X0.here hx rfl (hb hby d1_43) ?_
    by_cases hc : (191 : Int32) < p1
    · show Steps p.tables e below (s₁.setTop (mkF m 46 #[.val (.int p1)] [(.int (191 : Int32)), (.int p1)])) _
      refine XS.icmpYes X0.here hx rfl (pc0 := 46) (pc' := 51) rfl (hb hby d1_46) rfl (tlt hc).2.2.1 (by decide) (by decide) ?_
      exact K51 (h.trans (if_pos hc))
    · show Steps p.tables e below (s₁.setTop (mkF m 46 #[.val (.int p1)] [(.int (191 : Int32)), (.int p1)])) _
      refine XS.icmpNo X0.here hx rfl (hb hby d1_46) rfl (flt hc).2.2.1 ?_
      exact K49 (h.trans (if_neg hc))
  have K36 : r = own_ex_36 p1 → Steps p.tables e below (s₁.setTop (mkF m 36 #[.val (.int p1)] [])) (s₁.setFrames fs) := by
    intro h
    show Steps p.tables e below (s₁.setTop (mkF m 36 #[.val (.int p1)] [])) _
    refine XS.iloadN X0.here hx rfl (hb hby d1_36) rfl ?_
    show Steps p.tables e below (s₁.setTop (mkF m 37 #[.val (.int p1)] [(.int p1)])) _
    refine XS.bipush X0.here hx rfl (hb hby d1_37) ?_
    by_cases hc : p1 < (123 : Int32)
    · show Steps p.tables e below (s₁.setTop (mkF m 39 #[.val (.int p1)] [(.int (123 : Int32)), (.int p1)])) _
      refine XS.icmpYes X0.here hx rfl (pc0 := 39) (pc' := 51) rfl (hb hby d1_39) rfl (tlt hc).1 (by decide) (by decide) ?_
      exact K51 (h.trans (if_pos hc))
    · show Steps p.tables e below (s₁.setTop (mkF m 39 #[.val (.int p1)] [(.int (123 : Int32)), (.int p1)])) _
      refine XS.icmpNo X0.here hx rfl (hb hby d1_39) rfl (flt hc).1 ?_
      exact K42 (h.trans (if_neg hc))
  have K28 : r = own_ex_28 p1 → Steps p.tables e below (s₁.setTop (mkF m 28 #[.val (.int p1)] [])) (s₁.setFrames fs) := by
    intro h
    show Steps p.tables e below (s₁.setTop (mkF m 28 #[.val (.int p1)] [])) _
    refine XS.iloadN X0.here hx rfl (hb hby d1_28) rfl ?_
    show Steps p.tables e below (s₁.setTop (mkF m 29 #[.val (.int p1)] [(.int p1)])) _
    refine XS.bipush X0.here hx rfl (hb hby d1_29) ?_
    by_cases hc : p1 = (96 : Int32)
    · show Steps p.tables e below (s₁.setTop (mkF m 31 #[.val (.int p1)] [(.int (96 : Int32)), (.int p1)])) _
      refine XS.icmpNo X0.here hx rfl (hb hby d1_31) rfl (teq hc).2 ?_
      exact K34 (h.trans (if_pos hc))
    · show Steps p.tables e below (s₁.setTop (mkF m 31 #[.val (.int p1)] [(.int (96 : Int32)), (.int p1)])) _
      refine XS.icmpYes X0.here hx rfl (pc0 := 31) (pc' := 36) rfl (hb hby d1_31) rfl (feq hc).2 (by decide) (by decide) ?_
      exact K36 (h.trans (if_neg hc))
  have K26 : r = own_ex_26 p1 → Steps p.tables e below (s₁.setTop (mkF m 26 #[.val (.int p1)] [])) (s₁.setFrames fs) := by
    intro h
    show Steps p.tables e below (s₁.setTop (mkF m 26 #[.val (.int p1)] [])) _
    refine XS.iconst X0.here hx rfl (hb hby d1_26) ?_
    rw [show r = (1 : Int32) from h] at hr
    show Steps p.tables e below (s₁.setTop (mkF m 27 #[.val (.int p1)] [(.int (1 : Int32))])) _
    exact retN X0 hx (t := .boolean) Bd.returns (by simp) (hb hby d1_27) hr
  have K20 : r = own_ex_20 p1 → Steps p.tables e below (s₁.setTop (mkF m 20 #[.val (.int p1)] [])) (s₁.setFrames fs) := by
    intro h
    show Steps p.tables e below (s₁.setTop (mkF m 20 #[.val (.int p1)] [])) _
    refine XS.iloadN X0.here hx rfl (hb hby d1_20) rfl ?_
    show Steps p.tables e below (s₁.setTop (mkF m 21 #[.val (.int p1)] [(.int p1)])) _
    refine XS.bipush X0.here hx rfl (hb hby d1_21) ?_
    by_cases hc : (94 : Int32) < p1
    · show Steps p.tables e below (s₁.setTop (mkF m 23 #[.val (.int p1)] [(.int (94 : Int32)), (.int p1)])) _
      refine XS.icmpYes X0.here hx rfl (pc0 := 23) (pc' := 28) rfl (hb hby d1_23) rfl (tlt hc).2.2.1 (by decide) (by decide) ?_
      exact K28 (h.trans (if_pos hc))
    · show Steps p.tables e below (s₁.setTop (mkF m 23 #[.val (.int p1)] [(.int (94 : Int32)), (.int p1)])) _
      refine XS.icmpNo X0.here hx rfl (hb hby d1_23) rfl (flt hc).2.2.1 ?_
      exact K26 (h.trans (if_neg hc))
  have K14 : r = own_ex_14 p1 → Steps p.tables e below (s₁.setTop (mkF m 14 #[.val (.int p1)] [])) (s₁.setFrames fs) := by
    intro h
    show Steps p.tables e below (s₁.setTop (mkF m 14 #[.val (.int p1)] [])) _
    refine XS.iloadN X0.here hx rfl (hb hby d1_14) rfl ?_
    show Steps p.tables e below (s₁.setTop (mkF m 15 #[.val (.int p1)] [(.int p1)])) _
    refine XS.bipush X0.here hx rfl (hb hby d1_15) ?_
    by_cases hc : p1 < (91 : Int32)
    · show Steps p.tables e below (s₁.setTop (mkF m 17 #[.val (.int p1)] [(.int (91 : Int32)), (.int p1)])) _
      refine XS.icmpYes X0.here hx rfl (pc0 := 17) (pc' := 28) rfl (hb hby d1_17) rfl (tlt hc).1 (by decide) (by decide) ?_
      exact K28 (h.trans (if_pos hc))
    · show Steps p.tables e below (s₁.setTop (mkF m 17 #[.val (.int p1)] [(.int (91 : Int32)), (.int p1)])) _
      refine XS.icmpNo X0.here hx rfl (hb hby d1_17) rfl (flt hc).1 ?_
      exact K20 (h.trans (if_neg hc))
  have K6 : r = own_ex_6 p1 → Steps p.tables e below (s₁.setTop (mkF m 6 #[.val (.int p1)] [])) (s₁.setFrames fs) := by
    intro h
    show Steps p.tables e below (s₁.setTop (mkF m 6 #[.val (.int p1)] [])) _
    refine XS.iloadN X0.here hx rfl (hb hby d1_6) rfl ?_
    show Steps p.tables e below (s₁.setTop (mkF m 7 #[.val (.int p1)] [(.int p1)])) _
    refine X0.ldcI hx hown (mvT hZ (hw _ (List.mem_of_getElem? (i := 13) rfl))) rfl (hb hby d1_7) ?_
    by_cases hc : (983039 : Int32) < p1
    · show Steps p.tables e below (s₁.setTop (mkF m 9 #[.val (.int p1)] [(.int (983039 : Int32)), (.int p1)])) _
      refine XS.icmpNo X0.here hx rfl (hb hby d1_9) rfl (tlt hc).2.2.2 ?_
      exact K12 (h.trans (if_pos hc))
    · show Steps p.tables e below (s₁.setTop (mkF m 9 #[.val (.int p1)] [(.int (983039 : Int32)), (.int p1)])) _
      refine XS.icmpYes X0.here hx rfl (pc0 := 9) (pc' := 14) rfl (hb hby d1_9) rfl (flt hc).2.2.2 (by decide) (by decide) ?_
      exact K14 (h.trans (if_neg hc))
  have K0 : r = own_ex_0 p1 → Steps p.tables e below (s₁.setTop (mkF m 0 #[.val (.int p1)] [])) (s₁.setFrames fs) := by
    intro h
    show Steps p.tables e below (s₁.setTop (mkF m 0 #[.val (.int p1)] [])) _
    refine XS.iloadN X0.here hx rfl (hb hby d1_0) rfl ?_
    show Steps p.tables e below (s₁.setTop (mkF m 1 #[.val (.int p1)] [(.int p1)])) _
    refine XS.bipush X0.here hx rfl (hb hby d1_1) ?_
    by_cases hc : p1 < (65 : Int32)
    · show Steps p.tables e below (s₁.setTop (mkF m 3 #[.val (.int p1)] [(.int (65 : Int32)), (.int p1)])) _
      refine XS.icmpYes X0.here hx rfl (pc0 := 3) (pc' := 12) rfl (hb hby d1_3) rfl (tlt hc).1 (by decide) (by decide) ?_
      exact K12 (h.trans (if_pos hc))
    · show Steps p.tables e below (s₁.setTop (mkF m 3 #[.val (.int p1)] [(.int (65 : Int32)), (.int p1)])) _
      refine XS.icmpNo X0.here hx rfl (hb hby d1_3) rfl (flt hc).1 ?_
      exact K6 (h.trans (if_neg hc))
  refine ⟨_, _, pre0 _ ?_, hrun, hended, _, _, rfl, ?_, ⟨_, rfl⟩, hW, hsame.mono (by decide) (by decide)⟩
  · exact K0 hrd
  · show Q1 Z p1 h0 n0 _ s₁.heap _
    rw [e0]
    exact ⟨by rw [hrd], N0, rfl⟩
theorem d2_0 : decode prog_221_method_9_code 0 = .ok (.iload_n 0, 1) := by decide +kernel
theorem d2_1 : decode prog_221_method_9_code 1 = .ok (.bipush 97, 2) := by decide +kernel
theorem d2_3 : decode prog_221_method_9_code 3 = .ok (.if_icmp .lt 9, 3) := by decide +kernel
theorem d2_6 : decode prog_221_method_9_code 6 = .ok (.iload_n 0, 1) := by decide +kernel
theorem d2_7 : decode prog_221_method_9_code 7 = .ok (.bipush 122, 2) := by decide +kernel
theorem d2_9 : decode prog_221_method_9_code 9 = .ok (.if_icmp .le 182, 3) := by decide +kernel
theorem d2_12 : decode prog_221_method_9_code 12 = .ok (.iload_n 0, 1) := by decide +kernel
theorem d2_13 : decode prog_221_method_9_code 13 = .ok (.bipush 65, 2) := by decide +kernel
theorem d2_15 : decode prog_221_method_9_code 15 = .ok (.if_icmp .lt 9, 3) := by decide +kernel
theorem d2_18 : decode prog_221_method_9_code 18 = .ok (.iload_n 0, 1) := by decide +kernel
theorem d2_19 : decode prog_221_method_9_code 19 = .ok (.bipush 90, 2) := by decide +kernel
theorem d2_21 : decode prog_221_method_9_code 21 = .ok (.if_icmp .le 170, 3) := by decide +kernel
theorem d2_24 : decode prog_221_method_9_code 24 = .ok (.iload_n 0, 1) := by decide +kernel
theorem d2_25 : decode prog_221_method_9_code 25 = .ok (.bipush 95, 2) := by decide +kernel
theorem d2_27 : decode prog_221_method_9_code 27 = .ok (.if_icmp .eq 164, 3) := by decide +kernel
theorem d2_30 : decode prog_221_method_9_code 30 = .ok (.iload_n 0, 1) := by decide +kernel
theorem d2_31 : decode prog_221_method_9_code 31 = .ok (.sipush 192, 3) := by decide +kernel
theorem d2_34 : decode prog_221_method_9_code 34 = .ok (.if_icmp .lt 10, 3) := by decide +kernel
theorem d2_37 : decode prog_221_method_9_code 37 = .ok (.iload_n 0, 1) := by decide +kernel
theorem d2_38 : decode prog_221_method_9_code 38 = .ok (.sipush 214, 3) := by decide +kernel
theorem d2_41 : decode prog_221_method_9_code 41 = .ok (.if_icmp .le 150, 3) := by decide +kernel
theorem d2_44 : decode prog_221_method_9_code 44 = .ok (.iload_n 0, 1) := by decide +kernel
theorem d2_45 : decode prog_221_method_9_code 45 = .ok (.sipush 216, 3) := by decide +kernel
theorem d2_48 : decode prog_221_method_9_code 48 = .ok (.if_icmp .lt 10, 3) := by decide +kernel
theorem d2_51 : decode prog_221_method_9_code 51 = .ok (.iload_n 0, 1) := by decide +kernel
theorem d2_52 : decode prog_221_method_9_code 52 = .ok (.sipush 246, 3) := by decide +kernel
theorem d2_55 : decode prog_221_method_9_code 55 = .ok (.if_icmp .le 136, 3) := by decide +kernel
theorem d2_58 : decode prog_221_method_9_code 58 = .ok (.iload_n 0, 1) := by decide +kernel
theorem d2_59 : decode prog_221_method_9_code 59 = .ok (.sipush 248, 3) := by decide +kernel
theorem d2_62 : decode prog_221_method_9_code 62 = .ok (.if_icmp .lt 10, 3) := by decide +kernel
theorem d2_65 : decode prog_221_method_9_code 65 = .ok (.iload_n 0, 1) := by decide +kernel
theorem d2_66 : decode prog_221_method_9_code 66 = .ok (.sipush 767, 3) := by decide +kernel
theorem d2_69 : decode prog_221_method_9_code 69 = .ok (.if_icmp .le 122, 3) := by decide +kernel
theorem d2_72 : decode prog_221_method_9_code 72 = .ok (.iload_n 0, 1) := by decide +kernel
theorem d2_73 : decode prog_221_method_9_code 73 = .ok (.sipush 880, 3) := by decide +kernel
theorem d2_76 : decode prog_221_method_9_code 76 = .ok (.if_icmp .lt 10, 3) := by decide +kernel
theorem d2_79 : decode prog_221_method_9_code 79 = .ok (.iload_n 0, 1) := by decide +kernel
theorem d2_80 : decode prog_221_method_9_code 80 = .ok (.sipush 893, 3) := by decide +kernel
theorem d2_83 : decode prog_221_method_9_code 83 = .ok (.if_icmp .le 108, 3) := by decide +kernel
theorem d2_86 : decode prog_221_method_9_code 86 = .ok (.iload_n 0, 1) := by decide +kernel
theorem d2_87 : decode prog_221_method_9_code 87 = .ok (.sipush 895, 3) := by decide +kernel
theorem d2_90 : decode prog_221_method_9_code 90 = .ok (.if_icmp .lt 10, 3) := by decide +kernel
theorem d2_93 : decode prog_221_method_9_code 93 = .ok (.iload_n 0, 1) := by decide +kernel
theorem d2_94 : decode prog_221_method_9_code 94 = .ok (.sipush 8191, 3) := by decide +kernel
theorem d2_97 : decode prog_221_method_9_code 97 = .ok (.if_icmp .le 94, 3) := by decide +kernel
theorem d2_100 : decode prog_221_method_9_code 100 = .ok (.iload_n 0, 1) := by decide +kernel
theorem d2_101 : decode prog_221_method_9_code 101 = .ok (.sipush 8204, 3) := by decide +kernel
theorem d2_104 : decode prog_221_method_9_code 104 = .ok (.if_icmp .lt 10, 3) := by decide +kernel
theorem d2_107 : decode prog_221_method_9_code 107 = .ok (.iload_n 0, 1) := by decide +kernel
theorem d2_108 : decode prog_221_method_9_code 108 = .ok (.sipush 8205, 3) := by decide +kernel
theorem d2_111 : decode prog_221_method_9_code 111 = .ok (.if_icmp .le 80, 3) := by decide +kernel
theorem d2_114 : decode prog_221_method_9_code 114 = .ok (.iload_n 0, 1) := by decide +kernel
theorem d2_115 : decode prog_221_method_9_code 115 = .ok (.sipush 8304, 3) := by decide +kernel
theorem d2_118 : decode prog_221_method_9_code 118 = .ok (.if_icmp .lt 10, 3) := by decide +kernel
theorem d2_121 : decode prog_221_method_9_code 121 = .ok (.iload_n 0, 1) := by decide +kernel
theorem d2_122 : decode prog_221_method_9_code 122 = .ok (.sipush 8591, 3) := by decide +kernel
theorem d2_125 : decode prog_221_method_9_code 125 = .ok (.if_icmp .le 66, 3) := by decide +kernel
theorem d2_128 : decode prog_221_method_9_code 128 = .ok (.iload_n 0, 1) := by decide +kernel
theorem d2_129 : decode prog_221_method_9_code 129 = .ok (.sipush 11264, 3) := by decide +kernel
theorem d2_132 : decode prog_221_method_9_code 132 = .ok (.if_icmp .lt 10, 3) := by decide +kernel
theorem d2_135 : decode prog_221_method_9_code 135 = .ok (.iload_n 0, 1) := by decide +kernel
theorem d2_136 : decode prog_221_method_9_code 136 = .ok (.sipush 12271, 3) := by decide +kernel
theorem d2_139 : decode prog_221_method_9_code 139 = .ok (.if_icmp .le 52, 3) := by decide +kernel
theorem d2_142 : decode prog_221_method_9_code 142 = .ok (.iload_n 0, 1) := by decide +kernel
theorem d2_143 : decode prog_221_method_9_code 143 = .ok (.sipush 12289, 3) := by decide +kernel
theorem d2_146 : decode prog_221_method_9_code 146 = .ok (.if_icmp .lt 9, 3) := by decide +kernel
theorem d2_149 : decode prog_221_method_9_code 149 = .ok (.iload_n 0, 1) := by decide +kernel
theorem d2_150 : decode prog_221_method_9_code 150 = .ok (.ldc 7, 2) := by decide +kernel
theorem d2_152 : decode prog_221_method_9_code 152 = .ok (.if_icmp .le 39, 3) := by decide +kernel
theorem d2_155 : decode prog_221_method_9_code 155 = .ok (.iload_n 0, 1) := by decide +kernel
theorem d2_156 : decode prog_221_method_9_code 156 = .ok (.ldc 80, 2) := by decide +kernel
theorem d2_158 : decode prog_221_method_9_code 158 = .ok (.if_icmp .lt 9, 3) := by decide +kernel
theorem d2_161 : decode prog_221_method_9_code 161 = .ok (.iload_n 0, 1) := by decide +kernel
theorem d2_162 : decode prog_221_method_9_code 162 = .ok (.ldc 81, 2) := by decide +kernel
theorem d2_164 : decode prog_221_method_9_code 164 = .ok (.if_icmp .le 27, 3) := by decide +kernel
theorem d2_167 : decode prog_221_method_9_code 167 = .ok (.iload_n 0, 1) := by decide +kernel
theorem d2_168 : decode prog_221_method_9_code 168 = .ok (.ldc 82, 2) := by decide +kernel
theorem d2_170 : decode prog_221_method_9_code 170 = .ok (.if_icmp .lt 9, 3) := by decide +kernel
theorem d2_173 : decode prog_221_method_9_code 173 = .ok (.iload_n 0, 1) := by decide +kernel
theorem d2_174 : decode prog_221_method_9_code 174 = .ok (.ldc 9, 2) := by decide +kernel
theorem d2_176 : decode prog_221_method_9_code 176 = .ok (.if_icmp .le 15, 3) := by decide +kernel
theorem d2_179 : decode prog_221_method_9_code 179 = .ok (.iload_n 0, 1) := by decide +kernel
theorem d2_180 : decode prog_221_method_9_code 180 = .ok (.ldc 10, 2) := by decide +kernel
theorem d2_182 : decode prog_221_method_9_code 182 = .ok (.if_icmp .lt 13, 3) := by decide +kernel
theorem d2_185 : decode prog_221_method_9_code 185 = .ok (.iload_n 0, 1) := by decide +kernel
theorem d2_186 : decode prog_221_method_9_code 186 = .ok (.ldc 83, 2) := by decide +kernel
theorem d2_188 : decode prog_221_method_9_code 188 = .ok (.if_icmp .gt 7, 3) := by decide +kernel
theorem d2_191 : decode prog_221_method_9_code 191 = .ok (.iconst 1, 1) := by decide +kernel
theorem d2_192 : decode prog_221_method_9_code 192 = .ok (.goto 4, 3) := by decide +kernel
theorem d2_195 : decode prog_221_method_9_code 195 = .ok (.iconst 0, 1) := by decide +kernel
theorem d2_196 : decode prog_221_method_9_code 196 = .ok (.ireturn, 1) := by decide +kernel
def own_nm_191 (p1 : Int32) : Int32 := (1 : Int32)
def own_nm_195 (p1 : Int32) : Int32 := (0 : Int32)
def own_nm_185 (p1 : Int32) : Int32 := if (983039 : Int32) < p1 then own_nm_195 p1 else own_nm_191 p1
def own_nm_179 (p1 : Int32) : Int32 := if p1 < (65536 : Int32) then own_nm_195 p1 else own_nm_185 p1
def own_nm_173 (p1 : Int32) : Int32 := if (65533 : Int32) < p1 then own_nm_179 p1 else own_nm_191 p1
def own_nm_167 (p1 : Int32) : Int32 := if p1 < (65008 : Int32) then own_nm_179 p1 else own_nm_173 p1
def own_nm_161 (p1 : Int32) : Int32 := if (64975 : Int32) < p1 then own_nm_167 p1 else own_nm_191 p1
def own_nm_155 (p1 : Int32) : Int32 := if p1 < (63744 : Int32) then own_nm_167 p1 else own_nm_161 p1
def own_nm_149 (p1 : Int32) : Int32 := if (55295 : Int32) < p1 then own_nm_155 p1 else own_nm_191 p1
def own_nm_142 (p1 : Int32) : Int32 := if p1 < (12289 : Int32) then own_nm_155 p1 else own_nm_149 p1
def own_nm_135 (p1 : Int32) : Int32 := if (12271 : Int32) < p1 then own_nm_142 p1 else own_nm_191 p1
def own_nm_128 (p1 : Int32) : Int32 := if p1 < (11264 : Int32) then own_nm_142 p1 else own_nm_135 p1
def own_nm_121 (p1 : Int32) : Int32 := if (8591 : Int32) < p1 then own_nm_128 p1 else own_nm_191 p1
def own_nm_114 (p1 : Int32) : Int32 := if p1 < (8304 : Int32) then own_nm_128 p1 else own_nm_121 p1
def own_nm_107 (p1 : Int32) : Int32 := if (8205 : Int32) < p1 then own_nm_114 p1 else own_nm_191 p1
def own_nm_100 (p1 : Int32) : Int32 := if p1 < (8204 : Int32) then own_nm_114 p1 else own_nm_107 p1
def own_nm_93 (p1 : Int32) : Int32 := if (8191 : Int32) < p1 then own_nm_100 p1 else own_nm_191 p1
def own_nm_86 (p1 : Int32) : Int32 := if p1 < (895 : Int32) then own_nm_100 p1 else own_nm_93 p1
def own_nm_79 (p1 : Int32) : Int32 := if (893 : Int32) < p1 then own_nm_86 p1 else own_nm_191 p1
def own_nm_72 (p1 : Int32) : Int32 := if p1 < (880 : Int32) then own_nm_86 p1 else own_nm_79 p1
def own_nm_65 (p1 : Int32) : Int32 := if (767 : Int32) < p1 then own_nm_72 p1 else own_nm_191 p1
def own_nm_58 (p1 : Int32) : Int32 := if p1 < (248 : Int32) then own_nm_72 p1 else own_nm_65 p1
def own_nm_51 (p1 : Int32) : Int32 := if (246 : Int32) < p1 then own_nm_58 p1 else own_nm_191 p1
def own_nm_44 (p1 : Int32) : Int32 := if p1 < (216 : Int32) then own_nm_58 p1 else own_nm_51 p1
def own_nm_37 (p1 : Int32) : Int32 := if (214 : Int32) < p1 then own_nm_44 p1 else own_nm_191 p1
def own_nm_30 (p1 : Int32) : Int32 := if p1 < (192 : Int32) then own_nm_44 p1 else own_nm_37 p1
def own_nm_24 (p1 : Int32) : Int32 := if p1 = (95 : Int32) then own_nm_191 p1 else own_nm_30 p1
def own_nm_18 (p1 : Int32) : Int32 := if (90 : Int32) < p1 then own_nm_24 p1 else own_nm_191 p1
def own_nm_12 (p1 : Int32) : Int32 := if p1 < (65 : Int32) then own_nm_24 p1 else own_nm_18 p1
def own_nm_6 (p1 : Int32) : Int32 := if (122 : Int32) < p1 then own_nm_12 p1 else own_nm_191 p1
def own_nm_0 (p1 : Int32) : Int32 := if p1 < (97 : Int32) then own_nm_12 p1 else own_nm_6 p1
theorem pn_2 : plainName "com/example/descendant/descendant/model/XmlChars" = true := by first | (simp [plainName, overriddenIn]; done) | decide +kernel
theorem ef_2 (m : MethodId) (x0 : Int32) : entryFrame m #[(.int x0)] 1 = mkF m 0 #[.val (.int x0)] [] := by first | (simp [entryFrame, mkF, argsToLocals, Value.category]; done) | rfl
def Q2 (Z : State) (p1 : Int32) (h0 : Heap) (n0 : Nat) (v : Option Value) (h : Heap) (L : List Loc) : Prop := v = some (.int (own_nm_0 p1)) ∧ Fr n0 L ∧ h = h0
set_option maxRecDepth 65536 in
set_option maxHeartbeats 40000000 in
theorem rm2 (l : Launch) (Z : State) (a0 : Array Value) (hw : ∀ d ∈ tables_1, d.before a0 Z = true) (ws : List Jvm.Cond) (p1 : Int32) (h0 : Heap) (n0 : Nat) (Z0 : n0 ≤ h0.size)  :
    MetFree l (⟨"com/example/descendant/descendant/model/XmlChars", "isNameStartChar", "(I)Z"⟩ : MethodName) (head1 (Jvm.Cond.code (⟨"com/example/descendant/descendant/model/XmlChars", "isNameStartChar", "(I)Z"⟩ : MethodName) prog_221_method_9_code 1 (some .boolean) :: ws) ({ frames := 0, cells := 0, slots := 0, locals := 0 } : Room)) (fun a U => a = #[(.int p1)] ∧ Z.Warmed39 U.vm ∧ U.heap = h0) (fun _ _ _ _ _ => True) (fun _ U o U' => ∃ v L, o = .returned v ∧ Q2 Z p1 h0 n0 v U'.heap L ∧ FrameEnd U o U' L ({ frames := 0, cells := 0, slots := 0, locals := 0 } : Room).cells ({ frames := 0, cells := 0, slots := 0, locals := 0 } : Room).slots) := by
  refine MetFree.of_bodySF (plainFor_of_name pn_2) hisR ?_
  intro p e s m args below meth c s₁ Bd hml0 hP hK
  obtain ⟨rfl, hZ, hh⟩ := hP
  have hx := Bd.exec
  have hby := Bd.bytes
  have hml : c.maxLocals = 1 := hml0
  have hown : s.vm.findClass "com/example/descendant/descendant/model/XmlChars" = some m.cls := findClass_of_methodNamed Bd.named
  have hnm := (name_of_methodNamed Bd.named Bd.method).1
  have X0 : Stand p l e ({ frames := 0, cells := 0, slots := 0, locals := 0 } : Room) s m #[(.int p1)] below meth c s₁ [] 0 0 := Stand.of_body Bd
  have e0 : s₁.heap = h0 := by rw [← hh, Bd.state]; rfl
  have N0 := Fr.nil n0
  have pre0 : ∀ t, Steps p.tables e below (s₁.setTop (mkF m 0 #[.val (.int p1)] [])) t → Steps p.tables e below (s₁.setTop (entryFrame m #[(.int p1)] 1)) t := fun t k => castTop (ef_2 m p1) k
  obtain ⟨r, hrd⟩ : ∃ r, r = own_nm_0 p1 := ⟨_, rfl⟩
  show _
  obtain ⟨fs, hr, hrun, hended, hW, hsame⟩ := X0.leave (v := some (.int r)) (fun h => by rw [Bd.returns] at h; cases h)
  have K191 : r = own_nm_191 p1 → Steps p.tables e below (s₁.setTop (mkF m 191 #[.val (.int p1)] [])) (s₁.setFrames fs) := by
    intro h
    show Steps p.tables e below (s₁.setTop (mkF m 191 #[.val (.int p1)] [])) _
    refine XS.iconst X0.here hx rfl (hb hby d2_191) ?_
    show Steps p.tables e below (s₁.setTop (mkF m 192 #[.val (.int p1)] [(.int (1 : Int32))])) _
    refine XS.goto X0.here hx rfl (pc0 := 192) (pc' := 196) rfl (hb hby d2_192) (by decide) (by decide) ?_
    rw [show r = (1 : Int32) from h] at hr
    show Steps p.tables e below (s₁.setTop (mkF m 196 #[.val (.int p1)] [(.int (1 : Int32))])) _
    exact retN X0 hx (t := .boolean) Bd.returns (by simp) (hb hby d2_196) hr
  have K195 : r = own_nm_195 p1 → Steps p.tables e below (s₁.setTop (mkF m 195 #[.val (.int p1)] [])) (s₁.setFrames fs) := by
    intro h
    show Steps p.tables e below (s₁.setTop (mkF m 195 #[.val (.int p1)] [])) _
    refine XS.iconst X0.here hx rfl (hb hby d2_195) ?_
    rw [show r = (0 : Int32) from h] at hr
    show Steps p.tables e below (s₁.setTop (mkF m 196 #[.val (.int p1)] [(.int (0 : Int32))])) _
    exact retN X0 hx (t := .boolean) Bd.returns (by simp) (hb hby d2_196) hr
  have K185 : r = own_nm_185 p1 → Steps p.tables e below (s₁.setTop (mkF m 185 #[.val (.int p1)] [])) (s₁.setFrames fs) := by
    intro h
    show Steps p.tables e below (s₁.setTop (mkF m 185 #[.val (.int p1)] [])) _
    refine XS.iloadN X0.here hx rfl (hb hby d2_185) rfl ?_
    show Steps p.tables e below (s₁.setTop (mkF m 186 #[.val (.int p1)] [(.int p1)])) _
    refine X0.ldcI hx hown (mvT hZ (hw _ (List.mem_of_getElem? (i := 22) rfl))) rfl (hb hby d2_186) ?_
    by_cases hc : (983039 : Int32) < p1
    · show Steps p.tables e below (s₁.setTop (mkF m 188 #[.val (.int p1)] [(.int (983039 : Int32)), (.int p1)])) _
      refine XS.icmpYes X0.here hx rfl (pc0 := 188) (pc' := 195) rfl (hb hby d2_188) rfl (tlt hc).2.2.1 (by decide) (by decide) ?_
      exact K195 (h.trans (if_pos hc))
    · show Steps p.tables e below (s₁.setTop (mkF m 188 #[.val (.int p1)] [(.int (983039 : Int32)), (.int p1)])) _
      refine XS.icmpNo X0.here hx rfl (hb hby d2_188) rfl (flt hc).2.2.1 ?_
      exact K191 (h.trans (if_neg hc))
  have K179 : r = own_nm_179 p1 → Steps p.tables e below (s₁.setTop (mkF m 179 #[.val (.int p1)] [])) (s₁.setFrames fs) := by
    intro h
    show Steps p.tables e below (s₁.setTop (mkF m 179 #[.val (.int p1)] [])) _
    refine XS.iloadN X0.here hx rfl (hb hby d2_179) rfl ?_
    show Steps p.tables e below (s₁.setTop (mkF m 180 #[.val (.int p1)] [(.int p1)])) _
    refine X0.ldcI hx hown (mvT hZ (hw _ (List.mem_of_getElem? (i := 11) rfl))) rfl (hb hby d2_180) ?_
    by_cases hc : p1 < (65536 : Int32)
    · show Steps p.tables e below (s₁.setTop (mkF m 182 #[.val (.int p1)] [(.int (65536 : Int32)), (.int p1)])) _
      refine XS.icmpYes X0.here hx rfl (pc0 := 182) (pc' := 195) rfl (hb hby d2_182) rfl (tlt hc).1 (by decide) (by decide) ?_
      exact K195 (h.trans (if_pos hc))
    · show Steps p.tables e below (s₁.setTop (mkF m 182 #[.val (.int p1)] [(.int (65536 : Int32)), (.int p1)])) _
      refine XS.icmpNo X0.here hx rfl (hb hby d2_182) rfl (flt hc).1 ?_
      exact K185 (h.trans (if_neg hc))
  have K173 : r = own_nm_173 p1 → Steps p.tables e below (s₁.setTop (mkF m 173 #[.val (.int p1)] [])) (s₁.setFrames fs) := by
    intro h
    show Steps p.tables e below (s₁.setTop (mkF m 173 #[.val (.int p1)] [])) _
    refine XS.iloadN X0.here hx rfl (hb hby d2_173) rfl ?_
    show Steps p.tables e below (s₁.setTop (mkF m 174 #[.val (.int p1)] [(.int p1)])) _
    refine X0.ldcI hx hown (mvT hZ (hw _ (List.mem_of_getElem? (i := 21) rfl))) rfl (hb hby d2_174) ?_
    by_cases hc : (65533 : Int32) < p1
    · show Steps p.tables e below (s₁.setTop (mkF m 176 #[.val (.int p1)] [(.int (65533 : Int32)), (.int p1)])) _
      refine XS.icmpNo X0.here hx rfl (hb hby d2_176) rfl (tlt hc).2.2.2 ?_
      exact K179 (h.trans (if_pos hc))
    · show Steps p.tables e below (s₁.setTop (mkF m 176 #[.val (.int p1)] [(.int (65533 : Int32)), (.int p1)])) _
      refine XS.icmpYes X0.here hx rfl (pc0 := 176) (pc' := 191) rfl (hb hby d2_176) rfl (flt hc).2.2.2 (by decide) (by decide) ?_
      exact K191 (h.trans (if_neg hc))
  have K167 : r = own_nm_167 p1 → Steps p.tables e below (s₁.setTop (mkF m 167 #[.val (.int p1)] [])) (s₁.setFrames fs) := by
    intro h
    show Steps p.tables e below (s₁.setTop (mkF m 167 #[.val (.int p1)] [])) _
    refine XS.iloadN X0.here hx rfl (hb hby d2_167) rfl ?_
    show Steps p.tables e below (s₁.setTop (mkF m 168 #[.val (.int p1)] [(.int p1)])) _
    refine X0.ldcI hx hown (mvT hZ (hw _ (List.mem_of_getElem? (i := 10) rfl))) rfl (hb hby d2_168) ?_
    by_cases hc : p1 < (65008 : Int32)
    · show Steps p.tables e below (s₁.setTop (mkF m 170 #[.val (.int p1)] [(.int (65008 : Int32)), (.int p1)])) _
      refine XS.icmpYes X0.here hx rfl (pc0 := 170) (pc' := 179) rfl (hb hby d2_170) rfl (tlt hc).1 (by decide) (by decide) ?_
      exact K179 (h.trans (if_pos hc))
    · show Steps p.tables e below (s₁.setTop (mkF m 170 #[.val (.int p1)] [(.int (65008 : Int32)), (.int p1)])) _
      refine XS.icmpNo X0.here hx rfl (hb hby d2_170) rfl (flt hc).1 ?_
      exact K173 (h.trans (if_neg hc))
  have K161 : r = own_nm_161 p1 → Steps p.tables e below (s₁.setTop (mkF m 161 #[.val (.int p1)] [])) (s₁.setFrames fs) := by
    intro h
    show Steps p.tables e below (s₁.setTop (mkF m 161 #[.val (.int p1)] [])) _
    refine XS.iloadN X0.here hx rfl (hb hby d2_161) rfl ?_
    show Steps p.tables e below (s₁.setTop (mkF m 162 #[.val (.int p1)] [(.int p1)])) _
    refine X0.ldcI hx hown (mvT hZ (hw _ (List.mem_of_getElem? (i := 20) rfl))) rfl (hb hby d2_162) ?_
    by_cases hc : (64975 : Int32) < p1
    · show Steps p.tables e below (s₁.setTop (mkF m 164 #[.val (.int p1)] [(.int (64975 : Int32)), (.int p1)])) _
      refine XS.icmpNo X0.here hx rfl (hb hby d2_164) rfl (tlt hc).2.2.2 ?_
      exact K167 (h.trans (if_pos hc))
    · show Steps p.tables e below (s₁.setTop (mkF m 164 #[.val (.int p1)] [(.int (64975 : Int32)), (.int p1)])) _
      refine XS.icmpYes X0.here hx rfl (pc0 := 164) (pc' := 191) rfl (hb hby d2_164) rfl (flt hc).2.2.2 (by decide) (by decide) ?_
      exact K191 (h.trans (if_neg hc))
  have K155 : r = own_nm_155 p1 → Steps p.tables e below (s₁.setTop (mkF m 155 #[.val (.int p1)] [])) (s₁.setFrames fs) := by
    intro h
    show Steps p.tables e below (s₁.setTop (mkF m 155 #[.val (.int p1)] [])) _
    refine XS.iloadN X0.here hx rfl (hb hby d2_155) rfl ?_
    show Steps p.tables e below (s₁.setTop (mkF m 156 #[.val (.int p1)] [(.int p1)])) _
    refine X0.ldcI hx hown (mvT hZ (hw _ (List.mem_of_getElem? (i := 9) rfl))) rfl (hb hby d2_156) ?_
    by_cases hc : p1 < (63744 : Int32)
    · show Steps p.tables e below (s₁.setTop (mkF m 158 #[.val (.int p1)] [(.int (63744 : Int32)), (.int p1)])) _
      refine XS.icmpYes X0.here hx rfl (pc0 := 158) (pc' := 167) rfl (hb hby d2_158) rfl (tlt hc).1 (by decide) (by decide) ?_
      exact K167 (h.trans (if_pos hc))
    · show Steps p.tables e below (s₁.setTop (mkF m 158 #[.val (.int p1)] [(.int (63744 : Int32)), (.int p1)])) _
      refine XS.icmpNo X0.here hx rfl (hb hby d2_158) rfl (flt hc).1 ?_
      exact K161 (h.trans (if_neg hc))
  have K149 : r = own_nm_149 p1 → Steps p.tables e below (s₁.setTop (mkF m 149 #[.val (.int p1)] [])) (s₁.setFrames fs) := by
    intro h
    show Steps p.tables e below (s₁.setTop (mkF m 149 #[.val (.int p1)] [])) _
    refine XS.iloadN X0.here hx rfl (hb hby d2_149) rfl ?_
    show Steps p.tables e below (s₁.setTop (mkF m 150 #[.val (.int p1)] [(.int p1)])) _
    refine X0.ldcI hx hown (mvT hZ (hw _ (List.mem_of_getElem? (i := 19) rfl))) rfl (hb hby d2_150) ?_
    by_cases hc : (55295 : Int32) < p1
    · show Steps p.tables e below (s₁.setTop (mkF m 152 #[.val (.int p1)] [(.int (55295 : Int32)), (.int p1)])) _
      refine XS.icmpNo X0.here hx rfl (hb hby d2_152) rfl (tlt hc).2.2.2 ?_
      exact K155 (h.trans (if_pos hc))
    · show Steps p.tables e below (s₁.setTop (mkF m 152 #[.val (.int p1)] [(.int (55295 : Int32)), (.int p1)])) _
      refine XS.icmpYes X0.here hx rfl (pc0 := 152) (pc' := 191) rfl (hb hby d2_152) rfl (flt hc).2.2.2 (by decide) (by decide) ?_
      exact K191 (h.trans (if_neg hc))
  have K142 : r = own_nm_142 p1 → Steps p.tables e below (s₁.setTop (mkF m 142 #[.val (.int p1)] [])) (s₁.setFrames fs) := by
    intro h
    show Steps p.tables e below (s₁.setTop (mkF m 142 #[.val (.int p1)] [])) _
    refine XS.iloadN X0.here hx rfl (hb hby d2_142) rfl ?_
    show Steps p.tables e below (s₁.setTop (mkF m 143 #[.val (.int p1)] [(.int p1)])) _
    refine XS.sipush X0.here hx rfl (hb hby d2_143) ?_
    by_cases hc : p1 < (12289 : Int32)
    · show Steps p.tables e below (s₁.setTop (mkF m 146 #[.val (.int p1)] [(.int (12289 : Int32)), (.int p1)])) _
      refine XS.icmpYes X0.here hx rfl (pc0 := 146) (pc' := 155) rfl (hb hby d2_146) rfl (tlt hc).1 (by decide) (by decide) ?_
      exact K155 (h.trans (if_pos hc))
    · show Steps p.tables e below (s₁.setTop (mkF m 146 #[.val (.int p1)] [(.int (12289 : Int32)), (.int p1)])) _
      refine XS.icmpNo X0.here hx rfl (hb hby d2_146) rfl (flt hc).1 ?_
      exact K149 (h.trans (if_neg hc))
  have K135 : r = own_nm_135 p1 → Steps p.tables e below (s₁.setTop (mkF m 135 #[.val (.int p1)] [])) (s₁.setFrames fs) := by
    intro h
    show Steps p.tables e below (s₁.setTop (mkF m 135 #[.val (.int p1)] [])) _
    refine XS.iloadN X0.here hx rfl (hb hby d2_135) rfl ?_
    show Steps p.tables e below (s₁.setTop (mkF m 136 #[.val (.int p1)] [(.int p1)])) _
    refine XS.sipush X0.here hx rfl (hb hby d2_136) ?_
    by_cases hc : (12271 : Int32) < p1
    · show Steps p.tables e below (s₁.setTop (mkF m 139 #[.val (.int p1)] [(.int (12271 : Int32)), (.int p1)])) _
      refine XS.icmpNo X0.here hx rfl (hb hby d2_139) rfl (tlt hc).2.2.2 ?_
      exact K142 (h.trans (if_pos hc))
    · show Steps p.tables e below (s₁.setTop (mkF m 139 #[.val (.int p1)] [(.int (12271 : Int32)), (.int p1)])) _
      refine XS.icmpYes X0.here hx rfl (pc0 := 139) (pc' := 191) rfl (hb hby d2_139) rfl (flt hc).2.2.2 (by decide) (by decide) ?_
      exact K191 (h.trans (if_neg hc))
  have K128 : r = own_nm_128 p1 → Steps p.tables e below (s₁.setTop (mkF m 128 #[.val (.int p1)] [])) (s₁.setFrames fs) := by
    intro h
    show Steps p.tables e below (s₁.setTop (mkF m 128 #[.val (.int p1)] [])) _
    refine XS.iloadN X0.here hx rfl (hb hby d2_128) rfl ?_
    show Steps p.tables e below (s₁.setTop (mkF m 129 #[.val (.int p1)] [(.int p1)])) _
    refine XS.sipush X0.here hx rfl (hb hby d2_129) ?_
    by_cases hc : p1 < (11264 : Int32)
    · show Steps p.tables e below (s₁.setTop (mkF m 132 #[.val (.int p1)] [(.int (11264 : Int32)), (.int p1)])) _
      refine XS.icmpYes X0.here hx rfl (pc0 := 132) (pc' := 142) rfl (hb hby d2_132) rfl (tlt hc).1 (by decide) (by decide) ?_
      exact K142 (h.trans (if_pos hc))
    · show Steps p.tables e below (s₁.setTop (mkF m 132 #[.val (.int p1)] [(.int (11264 : Int32)), (.int p1)])) _
      refine XS.icmpNo X0.here hx rfl (hb hby d2_132) rfl (flt hc).1 ?_
      exact K135 (h.trans (if_neg hc))
  have K121 : r = own_nm_121 p1 → Steps p.tables e below (s₁.setTop (mkF m 121 #[.val (.int p1)] [])) (s₁.setFrames fs) := by
    intro h
    show Steps p.tables e below (s₁.setTop (mkF m 121 #[.val (.int p1)] [])) _
    refine XS.iloadN X0.here hx rfl (hb hby d2_121) rfl ?_
    show Steps p.tables e below (s₁.setTop (mkF m 122 #[.val (.int p1)] [(.int p1)])) _
    refine XS.sipush X0.here hx rfl (hb hby d2_122) ?_
    by_cases hc : (8591 : Int32) < p1
    · show Steps p.tables e below (s₁.setTop (mkF m 125 #[.val (.int p1)] [(.int (8591 : Int32)), (.int p1)])) _
      refine XS.icmpNo X0.here hx rfl (hb hby d2_125) rfl (tlt hc).2.2.2 ?_
      exact K128 (h.trans (if_pos hc))
    · show Steps p.tables e below (s₁.setTop (mkF m 125 #[.val (.int p1)] [(.int (8591 : Int32)), (.int p1)])) _
      refine XS.icmpYes X0.here hx rfl (pc0 := 125) (pc' := 191) rfl (hb hby d2_125) rfl (flt hc).2.2.2 (by decide) (by decide) ?_
      exact K191 (h.trans (if_neg hc))
  have K114 : r = own_nm_114 p1 → Steps p.tables e below (s₁.setTop (mkF m 114 #[.val (.int p1)] [])) (s₁.setFrames fs) := by
    intro h
    show Steps p.tables e below (s₁.setTop (mkF m 114 #[.val (.int p1)] [])) _
    refine XS.iloadN X0.here hx rfl (hb hby d2_114) rfl ?_
    show Steps p.tables e below (s₁.setTop (mkF m 115 #[.val (.int p1)] [(.int p1)])) _
    refine XS.sipush X0.here hx rfl (hb hby d2_115) ?_
    by_cases hc : p1 < (8304 : Int32)
    · show Steps p.tables e below (s₁.setTop (mkF m 118 #[.val (.int p1)] [(.int (8304 : Int32)), (.int p1)])) _
      refine XS.icmpYes X0.here hx rfl (pc0 := 118) (pc' := 128) rfl (hb hby d2_118) rfl (tlt hc).1 (by decide) (by decide) ?_
      exact K128 (h.trans (if_pos hc))
    · show Steps p.tables e below (s₁.setTop (mkF m 118 #[.val (.int p1)] [(.int (8304 : Int32)), (.int p1)])) _
      refine XS.icmpNo X0.here hx rfl (hb hby d2_118) rfl (flt hc).1 ?_
      exact K121 (h.trans (if_neg hc))
  have K107 : r = own_nm_107 p1 → Steps p.tables e below (s₁.setTop (mkF m 107 #[.val (.int p1)] [])) (s₁.setFrames fs) := by
    intro h
    show Steps p.tables e below (s₁.setTop (mkF m 107 #[.val (.int p1)] [])) _
    refine XS.iloadN X0.here hx rfl (hb hby d2_107) rfl ?_
    show Steps p.tables e below (s₁.setTop (mkF m 108 #[.val (.int p1)] [(.int p1)])) _
    refine XS.sipush X0.here hx rfl (hb hby d2_108) ?_
    by_cases hc : (8205 : Int32) < p1
    · show Steps p.tables e below (s₁.setTop (mkF m 111 #[.val (.int p1)] [(.int (8205 : Int32)), (.int p1)])) _
      refine XS.icmpNo X0.here hx rfl (hb hby d2_111) rfl (tlt hc).2.2.2 ?_
      exact K114 (h.trans (if_pos hc))
    · show Steps p.tables e below (s₁.setTop (mkF m 111 #[.val (.int p1)] [(.int (8205 : Int32)), (.int p1)])) _
      refine XS.icmpYes X0.here hx rfl (pc0 := 111) (pc' := 191) rfl (hb hby d2_111) rfl (flt hc).2.2.2 (by decide) (by decide) ?_
      exact K191 (h.trans (if_neg hc))
  have K100 : r = own_nm_100 p1 → Steps p.tables e below (s₁.setTop (mkF m 100 #[.val (.int p1)] [])) (s₁.setFrames fs) := by
    intro h
    show Steps p.tables e below (s₁.setTop (mkF m 100 #[.val (.int p1)] [])) _
    refine XS.iloadN X0.here hx rfl (hb hby d2_100) rfl ?_
    show Steps p.tables e below (s₁.setTop (mkF m 101 #[.val (.int p1)] [(.int p1)])) _
    refine XS.sipush X0.here hx rfl (hb hby d2_101) ?_
    by_cases hc : p1 < (8204 : Int32)
    · show Steps p.tables e below (s₁.setTop (mkF m 104 #[.val (.int p1)] [(.int (8204 : Int32)), (.int p1)])) _
      refine XS.icmpYes X0.here hx rfl (pc0 := 104) (pc' := 114) rfl (hb hby d2_104) rfl (tlt hc).1 (by decide) (by decide) ?_
      exact K114 (h.trans (if_pos hc))
    · show Steps p.tables e below (s₁.setTop (mkF m 104 #[.val (.int p1)] [(.int (8204 : Int32)), (.int p1)])) _
      refine XS.icmpNo X0.here hx rfl (hb hby d2_104) rfl (flt hc).1 ?_
      exact K107 (h.trans (if_neg hc))
  have K93 : r = own_nm_93 p1 → Steps p.tables e below (s₁.setTop (mkF m 93 #[.val (.int p1)] [])) (s₁.setFrames fs) := by
    intro h
    show Steps p.tables e below (s₁.setTop (mkF m 93 #[.val (.int p1)] [])) _
    refine XS.iloadN X0.here hx rfl (hb hby d2_93) rfl ?_
    show Steps p.tables e below (s₁.setTop (mkF m 94 #[.val (.int p1)] [(.int p1)])) _
    refine XS.sipush X0.here hx rfl (hb hby d2_94) ?_
    by_cases hc : (8191 : Int32) < p1
    · show Steps p.tables e below (s₁.setTop (mkF m 97 #[.val (.int p1)] [(.int (8191 : Int32)), (.int p1)])) _
      refine XS.icmpNo X0.here hx rfl (hb hby d2_97) rfl (tlt hc).2.2.2 ?_
      exact K100 (h.trans (if_pos hc))
    · show Steps p.tables e below (s₁.setTop (mkF m 97 #[.val (.int p1)] [(.int (8191 : Int32)), (.int p1)])) _
      refine XS.icmpYes X0.here hx rfl (pc0 := 97) (pc' := 191) rfl (hb hby d2_97) rfl (flt hc).2.2.2 (by decide) (by decide) ?_
      exact K191 (h.trans (if_neg hc))
  have K86 : r = own_nm_86 p1 → Steps p.tables e below (s₁.setTop (mkF m 86 #[.val (.int p1)] [])) (s₁.setFrames fs) := by
    intro h
    show Steps p.tables e below (s₁.setTop (mkF m 86 #[.val (.int p1)] [])) _
    refine XS.iloadN X0.here hx rfl (hb hby d2_86) rfl ?_
    show Steps p.tables e below (s₁.setTop (mkF m 87 #[.val (.int p1)] [(.int p1)])) _
    refine XS.sipush X0.here hx rfl (hb hby d2_87) ?_
    by_cases hc : p1 < (895 : Int32)
    · show Steps p.tables e below (s₁.setTop (mkF m 90 #[.val (.int p1)] [(.int (895 : Int32)), (.int p1)])) _
      refine XS.icmpYes X0.here hx rfl (pc0 := 90) (pc' := 100) rfl (hb hby d2_90) rfl (tlt hc).1 (by decide) (by decide) ?_
      exact K100 (h.trans (if_pos hc))
    · show Steps p.tables e below (s₁.setTop (mkF m 90 #[.val (.int p1)] [(.int (895 : Int32)), (.int p1)])) _
      refine XS.icmpNo X0.here hx rfl (hb hby d2_90) rfl (flt hc).1 ?_
      exact K93 (h.trans (if_neg hc))
  have K79 : r = own_nm_79 p1 → Steps p.tables e below (s₁.setTop (mkF m 79 #[.val (.int p1)] [])) (s₁.setFrames fs) := by
    intro h
    show Steps p.tables e below (s₁.setTop (mkF m 79 #[.val (.int p1)] [])) _
    refine XS.iloadN X0.here hx rfl (hb hby d2_79) rfl ?_
    show Steps p.tables e below (s₁.setTop (mkF m 80 #[.val (.int p1)] [(.int p1)])) _
    refine XS.sipush X0.here hx rfl (hb hby d2_80) ?_
    by_cases hc : (893 : Int32) < p1
    · show Steps p.tables e below (s₁.setTop (mkF m 83 #[.val (.int p1)] [(.int (893 : Int32)), (.int p1)])) _
      refine XS.icmpNo X0.here hx rfl (hb hby d2_83) rfl (tlt hc).2.2.2 ?_
      exact K86 (h.trans (if_pos hc))
    · show Steps p.tables e below (s₁.setTop (mkF m 83 #[.val (.int p1)] [(.int (893 : Int32)), (.int p1)])) _
      refine XS.icmpYes X0.here hx rfl (pc0 := 83) (pc' := 191) rfl (hb hby d2_83) rfl (flt hc).2.2.2 (by decide) (by decide) ?_
      exact K191 (h.trans (if_neg hc))
  have K72 : r = own_nm_72 p1 → Steps p.tables e below (s₁.setTop (mkF m 72 #[.val (.int p1)] [])) (s₁.setFrames fs) := by
    intro h
    show Steps p.tables e below (s₁.setTop (mkF m 72 #[.val (.int p1)] [])) _
    refine XS.iloadN X0.here hx rfl (hb hby d2_72) rfl ?_
    show Steps p.tables e below (s₁.setTop (mkF m 73 #[.val (.int p1)] [(.int p1)])) _
    refine XS.sipush X0.here hx rfl (hb hby d2_73) ?_
    by_cases hc : p1 < (880 : Int32)
    · show Steps p.tables e below (s₁.setTop (mkF m 76 #[.val (.int p1)] [(.int (880 : Int32)), (.int p1)])) _
      refine XS.icmpYes X0.here hx rfl (pc0 := 76) (pc' := 86) rfl (hb hby d2_76) rfl (tlt hc).1 (by decide) (by decide) ?_
      exact K86 (h.trans (if_pos hc))
    · show Steps p.tables e below (s₁.setTop (mkF m 76 #[.val (.int p1)] [(.int (880 : Int32)), (.int p1)])) _
      refine XS.icmpNo X0.here hx rfl (hb hby d2_76) rfl (flt hc).1 ?_
      exact K79 (h.trans (if_neg hc))
  have K65 : r = own_nm_65 p1 → Steps p.tables e below (s₁.setTop (mkF m 65 #[.val (.int p1)] [])) (s₁.setFrames fs) := by
    intro h
    show Steps p.tables e below (s₁.setTop (mkF m 65 #[.val (.int p1)] [])) _
    refine XS.iloadN X0.here hx rfl (hb hby d2_65) rfl ?_
    show Steps p.tables e below (s₁.setTop (mkF m 66 #[.val (.int p1)] [(.int p1)])) _
    refine XS.sipush X0.here hx rfl (hb hby d2_66) ?_
    by_cases hc : (767 : Int32) < p1
    · show Steps p.tables e below (s₁.setTop (mkF m 69 #[.val (.int p1)] [(.int (767 : Int32)), (.int p1)])) _
      refine XS.icmpNo X0.here hx rfl (hb hby d2_69) rfl (tlt hc).2.2.2 ?_
      exact K72 (h.trans (if_pos hc))
    · show Steps p.tables e below (s₁.setTop (mkF m 69 #[.val (.int p1)] [(.int (767 : Int32)), (.int p1)])) _
      refine XS.icmpYes X0.here hx rfl (pc0 := 69) (pc' := 191) rfl (hb hby d2_69) rfl (flt hc).2.2.2 (by decide) (by decide) ?_
      exact K191 (h.trans (if_neg hc))
  have K58 : r = own_nm_58 p1 → Steps p.tables e below (s₁.setTop (mkF m 58 #[.val (.int p1)] [])) (s₁.setFrames fs) := by
    intro h
    show Steps p.tables e below (s₁.setTop (mkF m 58 #[.val (.int p1)] [])) _
    refine XS.iloadN X0.here hx rfl (hb hby d2_58) rfl ?_
    show Steps p.tables e below (s₁.setTop (mkF m 59 #[.val (.int p1)] [(.int p1)])) _
    refine XS.sipush X0.here hx rfl (hb hby d2_59) ?_
    by_cases hc : p1 < (248 : Int32)
    · show Steps p.tables e below (s₁.setTop (mkF m 62 #[.val (.int p1)] [(.int (248 : Int32)), (.int p1)])) _
      refine XS.icmpYes X0.here hx rfl (pc0 := 62) (pc' := 72) rfl (hb hby d2_62) rfl (tlt hc).1 (by decide) (by decide) ?_
      exact K72 (h.trans (if_pos hc))
    · show Steps p.tables e below (s₁.setTop (mkF m 62 #[.val (.int p1)] [(.int (248 : Int32)), (.int p1)])) _
      refine XS.icmpNo X0.here hx rfl (hb hby d2_62) rfl (flt hc).1 ?_
      exact K65 (h.trans (if_neg hc))
  have K51 : r = own_nm_51 p1 → Steps p.tables e below (s₁.setTop (mkF m 51 #[.val (.int p1)] [])) (s₁.setFrames fs) := by
    intro h
    show Steps p.tables e below (s₁.setTop (mkF m 51 #[.val (.int p1)] [])) _
    refine XS.iloadN X0.here hx rfl (hb hby d2_51) rfl ?_
    show Steps p.tables e below (s₁.setTop (mkF m 52 #[.val (.int p1)] [(.int p1)])) _
    refine XS.sipush X0.here hx rfl (hb hby d2_52) ?_
    by_cases hc : (246 : Int32) < p1
    · show Steps p.tables e below (s₁.setTop (mkF m 55 #[.val (.int p1)] [(.int (246 : Int32)), (.int p1)])) _
      refine XS.icmpNo X0.here hx rfl (hb hby d2_55) rfl (tlt hc).2.2.2 ?_
      exact K58 (h.trans (if_pos hc))
    · show Steps p.tables e below (s₁.setTop (mkF m 55 #[.val (.int p1)] [(.int (246 : Int32)), (.int p1)])) _
      refine XS.icmpYes X0.here hx rfl (pc0 := 55) (pc' := 191) rfl (hb hby d2_55) rfl (flt hc).2.2.2 (by decide) (by decide) ?_
      exact K191 (h.trans (if_neg hc))
  have K44 : r = own_nm_44 p1 → Steps p.tables e below (s₁.setTop (mkF m 44 #[.val (.int p1)] [])) (s₁.setFrames fs) := by
    intro h
    show Steps p.tables e below (s₁.setTop (mkF m 44 #[.val (.int p1)] [])) _
    refine XS.iloadN X0.here hx rfl (hb hby d2_44) rfl ?_
    show Steps p.tables e below (s₁.setTop (mkF m 45 #[.val (.int p1)] [(.int p1)])) _
    refine XS.sipush X0.here hx rfl (hb hby d2_45) ?_
    by_cases hc : p1 < (216 : Int32)
    · show Steps p.tables e below (s₁.setTop (mkF m 48 #[.val (.int p1)] [(.int (216 : Int32)), (.int p1)])) _
      refine XS.icmpYes X0.here hx rfl (pc0 := 48) (pc' := 58) rfl (hb hby d2_48) rfl (tlt hc).1 (by decide) (by decide) ?_
      exact K58 (h.trans (if_pos hc))
    · show Steps p.tables e below (s₁.setTop (mkF m 48 #[.val (.int p1)] [(.int (216 : Int32)), (.int p1)])) _
      refine XS.icmpNo X0.here hx rfl (hb hby d2_48) rfl (flt hc).1 ?_
      exact K51 (h.trans (if_neg hc))
  have K37 : r = own_nm_37 p1 → Steps p.tables e below (s₁.setTop (mkF m 37 #[.val (.int p1)] [])) (s₁.setFrames fs) := by
    intro h
    show Steps p.tables e below (s₁.setTop (mkF m 37 #[.val (.int p1)] [])) _
    refine XS.iloadN X0.here hx rfl (hb hby d2_37) rfl ?_
    show Steps p.tables e below (s₁.setTop (mkF m 38 #[.val (.int p1)] [(.int p1)])) _
    refine XS.sipush X0.here hx rfl (hb hby d2_38) ?_
    by_cases hc : (214 : Int32) < p1
    · show Steps p.tables e below (s₁.setTop (mkF m 41 #[.val (.int p1)] [(.int (214 : Int32)), (.int p1)])) _
      refine XS.icmpNo X0.here hx rfl (hb hby d2_41) rfl (tlt hc).2.2.2 ?_
      exact K44 (h.trans (if_pos hc))
    · show Steps p.tables e below (s₁.setTop (mkF m 41 #[.val (.int p1)] [(.int (214 : Int32)), (.int p1)])) _
      refine XS.icmpYes X0.here hx rfl (pc0 := 41) (pc' := 191) rfl (hb hby d2_41) rfl (flt hc).2.2.2 (by decide) (by decide) ?_
      exact K191 (h.trans (if_neg hc))
  have K30 : r = own_nm_30 p1 → Steps p.tables e below (s₁.setTop (mkF m 30 #[.val (.int p1)] [])) (s₁.setFrames fs) := by
    intro h
    show Steps p.tables e below (s₁.setTop (mkF m 30 #[.val (.int p1)] [])) _
    refine XS.iloadN X0.here hx rfl (hb hby d2_30) rfl ?_
    show Steps p.tables e below (s₁.setTop (mkF m 31 #[.val (.int p1)] [(.int p1)])) _
    refine XS.sipush X0.here hx rfl (hb hby d2_31) ?_
    by_cases hc : p1 < (192 : Int32)
    · show Steps p.tables e below (s₁.setTop (mkF m 34 #[.val (.int p1)] [(.int (192 : Int32)), (.int p1)])) _
      refine XS.icmpYes X0.here hx rfl (pc0 := 34) (pc' := 44) rfl (hb hby d2_34) rfl (tlt hc).1 (by decide) (by decide) ?_
      exact K44 (h.trans (if_pos hc))
    · show Steps p.tables e below (s₁.setTop (mkF m 34 #[.val (.int p1)] [(.int (192 : Int32)), (.int p1)])) _
      refine XS.icmpNo X0.here hx rfl (hb hby d2_34) rfl (flt hc).1 ?_
      exact K37 (h.trans (if_neg hc))
  have K24 : r = own_nm_24 p1 → Steps p.tables e below (s₁.setTop (mkF m 24 #[.val (.int p1)] [])) (s₁.setFrames fs) := by
    intro h
    show Steps p.tables e below (s₁.setTop (mkF m 24 #[.val (.int p1)] [])) _
    refine XS.iloadN X0.here hx rfl (hb hby d2_24) rfl ?_
    show Steps p.tables e below (s₁.setTop (mkF m 25 #[.val (.int p1)] [(.int p1)])) _
    refine XS.bipush X0.here hx rfl (hb hby d2_25) ?_
    by_cases hc : p1 = (95 : Int32)
    · show Steps p.tables e below (s₁.setTop (mkF m 27 #[.val (.int p1)] [(.int (95 : Int32)), (.int p1)])) _
      refine XS.icmpYes X0.here hx rfl (pc0 := 27) (pc' := 191) rfl (hb hby d2_27) rfl (teq hc).1 (by decide) (by decide) ?_
      exact K191 (h.trans (if_pos hc))
    · show Steps p.tables e below (s₁.setTop (mkF m 27 #[.val (.int p1)] [(.int (95 : Int32)), (.int p1)])) _
      refine XS.icmpNo X0.here hx rfl (hb hby d2_27) rfl (feq hc).1 ?_
      exact K30 (h.trans (if_neg hc))
  have K18 : r = own_nm_18 p1 → Steps p.tables e below (s₁.setTop (mkF m 18 #[.val (.int p1)] [])) (s₁.setFrames fs) := by
    intro h
    show Steps p.tables e below (s₁.setTop (mkF m 18 #[.val (.int p1)] [])) _
    refine XS.iloadN X0.here hx rfl (hb hby d2_18) rfl ?_
    show Steps p.tables e below (s₁.setTop (mkF m 19 #[.val (.int p1)] [(.int p1)])) _
    refine XS.bipush X0.here hx rfl (hb hby d2_19) ?_
    by_cases hc : (90 : Int32) < p1
    · show Steps p.tables e below (s₁.setTop (mkF m 21 #[.val (.int p1)] [(.int (90 : Int32)), (.int p1)])) _
      refine XS.icmpNo X0.here hx rfl (hb hby d2_21) rfl (tlt hc).2.2.2 ?_
      exact K24 (h.trans (if_pos hc))
    · show Steps p.tables e below (s₁.setTop (mkF m 21 #[.val (.int p1)] [(.int (90 : Int32)), (.int p1)])) _
      refine XS.icmpYes X0.here hx rfl (pc0 := 21) (pc' := 191) rfl (hb hby d2_21) rfl (flt hc).2.2.2 (by decide) (by decide) ?_
      exact K191 (h.trans (if_neg hc))
  have K12 : r = own_nm_12 p1 → Steps p.tables e below (s₁.setTop (mkF m 12 #[.val (.int p1)] [])) (s₁.setFrames fs) := by
    intro h
    show Steps p.tables e below (s₁.setTop (mkF m 12 #[.val (.int p1)] [])) _
    refine XS.iloadN X0.here hx rfl (hb hby d2_12) rfl ?_
    show Steps p.tables e below (s₁.setTop (mkF m 13 #[.val (.int p1)] [(.int p1)])) _
    refine XS.bipush X0.here hx rfl (hb hby d2_13) ?_
    by_cases hc : p1 < (65 : Int32)
    · show Steps p.tables e below (s₁.setTop (mkF m 15 #[.val (.int p1)] [(.int (65 : Int32)), (.int p1)])) _
      refine XS.icmpYes X0.here hx rfl (pc0 := 15) (pc' := 24) rfl (hb hby d2_15) rfl (tlt hc).1 (by decide) (by decide) ?_
      exact K24 (h.trans (if_pos hc))
    · show Steps p.tables e below (s₁.setTop (mkF m 15 #[.val (.int p1)] [(.int (65 : Int32)), (.int p1)])) _
      refine XS.icmpNo X0.here hx rfl (hb hby d2_15) rfl (flt hc).1 ?_
      exact K18 (h.trans (if_neg hc))
  have K6 : r = own_nm_6 p1 → Steps p.tables e below (s₁.setTop (mkF m 6 #[.val (.int p1)] [])) (s₁.setFrames fs) := by
    intro h
    show Steps p.tables e below (s₁.setTop (mkF m 6 #[.val (.int p1)] [])) _
    refine XS.iloadN X0.here hx rfl (hb hby d2_6) rfl ?_
    show Steps p.tables e below (s₁.setTop (mkF m 7 #[.val (.int p1)] [(.int p1)])) _
    refine XS.bipush X0.here hx rfl (hb hby d2_7) ?_
    by_cases hc : (122 : Int32) < p1
    · show Steps p.tables e below (s₁.setTop (mkF m 9 #[.val (.int p1)] [(.int (122 : Int32)), (.int p1)])) _
      refine XS.icmpNo X0.here hx rfl (hb hby d2_9) rfl (tlt hc).2.2.2 ?_
      exact K12 (h.trans (if_pos hc))
    · show Steps p.tables e below (s₁.setTop (mkF m 9 #[.val (.int p1)] [(.int (122 : Int32)), (.int p1)])) _
      refine XS.icmpYes X0.here hx rfl (pc0 := 9) (pc' := 191) rfl (hb hby d2_9) rfl (flt hc).2.2.2 (by decide) (by decide) ?_
      exact K191 (h.trans (if_neg hc))
  have K0 : r = own_nm_0 p1 → Steps p.tables e below (s₁.setTop (mkF m 0 #[.val (.int p1)] [])) (s₁.setFrames fs) := by
    intro h
    show Steps p.tables e below (s₁.setTop (mkF m 0 #[.val (.int p1)] [])) _
    refine XS.iloadN X0.here hx rfl (hb hby d2_0) rfl ?_
    show Steps p.tables e below (s₁.setTop (mkF m 1 #[.val (.int p1)] [(.int p1)])) _
    refine XS.bipush X0.here hx rfl (hb hby d2_1) ?_
    by_cases hc : p1 < (97 : Int32)
    · show Steps p.tables e below (s₁.setTop (mkF m 3 #[.val (.int p1)] [(.int (97 : Int32)), (.int p1)])) _
      refine XS.icmpYes X0.here hx rfl (pc0 := 3) (pc' := 12) rfl (hb hby d2_3) rfl (tlt hc).1 (by decide) (by decide) ?_
      exact K12 (h.trans (if_pos hc))
    · show Steps p.tables e below (s₁.setTop (mkF m 3 #[.val (.int p1)] [(.int (97 : Int32)), (.int p1)])) _
      refine XS.icmpNo X0.here hx rfl (hb hby d2_3) rfl (flt hc).1 ?_
      exact K6 (h.trans (if_neg hc))
  refine ⟨_, _, pre0 _ ?_, hrun, hended, _, _, rfl, ?_, ⟨_, rfl⟩, hW, hsame.mono (by decide) (by decide)⟩
  · exact K0 hrd
  · show Q2 Z p1 h0 n0 _ s₁.heap _
    rw [e0]
    exact ⟨by rw [hrd], N0, rfl⟩
theorem own_lti {a b : Int32} (h : a.toInt < b.toInt) : a < b := Int32.lt_iff_toInt_lt.mpr h
theorem own_nlti {a b : Int32} (h : ¬ a.toInt < b.toInt) : ¬ a < b := fun q => h (Int32.lt_iff_toInt_lt.mp q)
theorem own_eqi {a b : Int32} (h : a.toInt = b.toInt) : a = b := Int32.toInt_inj.mp h
theorem own_neqi {a b : Int32} (h : ¬ a.toInt = b.toInt) : ¬ a = b := fun q => h (by rw [q])
theorem own_iv0 (p1 : Int32) (ha : (-2147483648 : Int) ≤ p1.toInt) (hb : p1.toInt ≤ 64) : own_nm_0 p1 = 0 ∧ own_ex_0 p1 = 1 := by
  constructor
  · show own_nm_0 p1 = _
    have e0 : own_nm_0 p1 = own_nm_12 p1 := if_pos (own_lti (by have q : (97 : Int32).toInt = 97 := rfl; omega))
    have e1 : own_nm_12 p1 = own_nm_24 p1 := if_pos (own_lti (by have q : (65 : Int32).toInt = 65 := rfl; omega))
    have e2 : own_nm_24 p1 = own_nm_30 p1 := if_neg (own_neqi (by have q : (95 : Int32).toInt = 95 := rfl; omega))
    have e3 : own_nm_30 p1 = own_nm_44 p1 := if_pos (own_lti (by have q : (192 : Int32).toInt = 192 := rfl; omega))
    have e4 : own_nm_44 p1 = own_nm_58 p1 := if_pos (own_lti (by have q : (216 : Int32).toInt = 216 := rfl; omega))
    have e5 : own_nm_58 p1 = own_nm_72 p1 := if_pos (own_lti (by have q : (248 : Int32).toInt = 248 := rfl; omega))
    have e6 : own_nm_72 p1 = own_nm_86 p1 := if_pos (own_lti (by have q : (880 : Int32).toInt = 880 := rfl; omega))
    have e7 : own_nm_86 p1 = own_nm_100 p1 := if_pos (own_lti (by have q : (895 : Int32).toInt = 895 := rfl; omega))
    have e8 : own_nm_100 p1 = own_nm_114 p1 := if_pos (own_lti (by have q : (8204 : Int32).toInt = 8204 := rfl; omega))
    have e9 : own_nm_114 p1 = own_nm_128 p1 := if_pos (own_lti (by have q : (8304 : Int32).toInt = 8304 := rfl; omega))
    have e10 : own_nm_128 p1 = own_nm_142 p1 := if_pos (own_lti (by have q : (11264 : Int32).toInt = 11264 := rfl; omega))
    have e11 : own_nm_142 p1 = own_nm_155 p1 := if_pos (own_lti (by have q : (12289 : Int32).toInt = 12289 := rfl; omega))
    have e12 : own_nm_155 p1 = own_nm_167 p1 := if_pos (own_lti (by have q : (63744 : Int32).toInt = 63744 := rfl; omega))
    have e13 : own_nm_167 p1 = own_nm_179 p1 := if_pos (own_lti (by have q : (65008 : Int32).toInt = 65008 := rfl; omega))
    have e14 : own_nm_179 p1 = own_nm_195 p1 := if_pos (own_lti (by have q : (65536 : Int32).toInt = 65536 := rfl; omega))
    exact e0.trans (e1.trans (e2.trans (e3.trans (e4.trans (e5.trans (e6.trans (e7.trans (e8.trans (e9.trans (e10.trans (e11.trans (e12.trans (e13.trans (e14.trans (rfl)))))))))))))))
  · show own_ex_0 p1 = _
    have e0 : own_ex_0 p1 = own_ex_12 p1 := if_pos (own_lti (by have q : (65 : Int32).toInt = 65 := rfl; omega))
    exact e0.trans (rfl)
theorem own_iv1 (p1 : Int32) (ha : (65 : Int) ≤ p1.toInt) (hb : p1.toInt ≤ 90) : own_nm_0 p1 = 1 ∧ own_ex_0 p1 = 0 := by
  constructor
  · show own_nm_0 p1 = _
    have e0 : own_nm_0 p1 = own_nm_12 p1 := if_pos (own_lti (by have q : (97 : Int32).toInt = 97 := rfl; omega))
    have e1 : own_nm_12 p1 = own_nm_18 p1 := if_neg (own_nlti (by have q : (65 : Int32).toInt = 65 := rfl; omega))
    have e2 : own_nm_18 p1 = own_nm_191 p1 := if_neg (own_nlti (by have q : (90 : Int32).toInt = 90 := rfl; omega))
    exact e0.trans (e1.trans (e2.trans (rfl)))
  · show own_ex_0 p1 = _
    have e0 : own_ex_0 p1 = own_ex_6 p1 := if_neg (own_nlti (by have q : (65 : Int32).toInt = 65 := rfl; omega))
    have e1 : own_ex_6 p1 = own_ex_14 p1 := if_neg (own_nlti (by have q : (983039 : Int32).toInt = 983039 := rfl; omega))
    have e2 : own_ex_14 p1 = own_ex_28 p1 := if_pos (own_lti (by have q : (91 : Int32).toInt = 91 := rfl; omega))
    have e3 : own_ex_28 p1 = own_ex_36 p1 := if_neg (own_neqi (by have q : (96 : Int32).toInt = 96 := rfl; omega))
    have e4 : own_ex_36 p1 = own_ex_51 p1 := if_pos (own_lti (by have q : (123 : Int32).toInt = 123 := rfl; omega))
    have e5 : own_ex_51 p1 = own_ex_58 p1 := if_neg (own_neqi (by have q : (215 : Int32).toInt = 215 := rfl; omega))
    have e6 : own_ex_58 p1 = own_ex_67 p1 := if_neg (own_neqi (by have q : (247 : Int32).toInt = 247 := rfl; omega))
    have e7 : own_ex_67 p1 = own_ex_83 p1 := if_pos (own_lti (by have q : (768 : Int32).toInt = 768 := rfl; omega))
    have e8 : own_ex_83 p1 = own_ex_92 p1 := if_neg (own_neqi (by have q : (894 : Int32).toInt = 894 := rfl; omega))
    have e9 : own_ex_92 p1 = own_ex_108 p1 := if_pos (own_lti (by have q : (8192 : Int32).toInt = 8192 := rfl; omega))
    have e10 : own_ex_108 p1 = own_ex_124 p1 := if_pos (own_lti (by have q : (8206 : Int32).toInt = 8206 := rfl; omega))
    have e11 : own_ex_124 p1 = own_ex_140 p1 := if_pos (own_lti (by have q : (8592 : Int32).toInt = 8592 := rfl; omega))
    have e12 : own_ex_140 p1 = own_ex_156 p1 := if_pos (own_lti (by have q : (12272 : Int32).toInt = 12272 := rfl; omega))
    have e13 : own_ex_156 p1 = own_ex_170 p1 := if_pos (own_lti (by have q : (55296 : Int32).toInt = 55296 := rfl; omega))
    have e14 : own_ex_170 p1 = own_ex_184 p1 := if_pos (own_lti (by have q : (64976 : Int32).toInt = 64976 := rfl; omega))
    have e15 : own_ex_184 p1 = own_ex_198 p1 := if_pos (own_lti (by have q : (65534 : Int32).toInt = 65534 := rfl; omega))
    exact e0.trans (e1.trans (e2.trans (e3.trans (e4.trans (e5.trans (e6.trans (e7.trans (e8.trans (e9.trans (e10.trans (e11.trans (e12.trans (e13.trans (e14.trans (e15.trans (rfl))))))))))))))))
theorem own_iv2 (p1 : Int32) (ha : (91 : Int) ≤ p1.toInt) (hb : p1.toInt ≤ 94) : own_nm_0 p1 = 0 ∧ own_ex_0 p1 = 1 := by
  constructor
  · show own_nm_0 p1 = _
    have e0 : own_nm_0 p1 = own_nm_12 p1 := if_pos (own_lti (by have q : (97 : Int32).toInt = 97 := rfl; omega))
    have e1 : own_nm_12 p1 = own_nm_18 p1 := if_neg (own_nlti (by have q : (65 : Int32).toInt = 65 := rfl; omega))
    have e2 : own_nm_18 p1 = own_nm_24 p1 := if_pos (own_lti (by have q : (90 : Int32).toInt = 90 := rfl; omega))
    have e3 : own_nm_24 p1 = own_nm_30 p1 := if_neg (own_neqi (by have q : (95 : Int32).toInt = 95 := rfl; omega))
    have e4 : own_nm_30 p1 = own_nm_44 p1 := if_pos (own_lti (by have q : (192 : Int32).toInt = 192 := rfl; omega))
    have e5 : own_nm_44 p1 = own_nm_58 p1 := if_pos (own_lti (by have q : (216 : Int32).toInt = 216 := rfl; omega))
    have e6 : own_nm_58 p1 = own_nm_72 p1 := if_pos (own_lti (by have q : (248 : Int32).toInt = 248 := rfl; omega))
    have e7 : own_nm_72 p1 = own_nm_86 p1 := if_pos (own_lti (by have q : (880 : Int32).toInt = 880 := rfl; omega))
    have e8 : own_nm_86 p1 = own_nm_100 p1 := if_pos (own_lti (by have q : (895 : Int32).toInt = 895 := rfl; omega))
    have e9 : own_nm_100 p1 = own_nm_114 p1 := if_pos (own_lti (by have q : (8204 : Int32).toInt = 8204 := rfl; omega))
    have e10 : own_nm_114 p1 = own_nm_128 p1 := if_pos (own_lti (by have q : (8304 : Int32).toInt = 8304 := rfl; omega))
    have e11 : own_nm_128 p1 = own_nm_142 p1 := if_pos (own_lti (by have q : (11264 : Int32).toInt = 11264 := rfl; omega))
    have e12 : own_nm_142 p1 = own_nm_155 p1 := if_pos (own_lti (by have q : (12289 : Int32).toInt = 12289 := rfl; omega))
    have e13 : own_nm_155 p1 = own_nm_167 p1 := if_pos (own_lti (by have q : (63744 : Int32).toInt = 63744 := rfl; omega))
    have e14 : own_nm_167 p1 = own_nm_179 p1 := if_pos (own_lti (by have q : (65008 : Int32).toInt = 65008 := rfl; omega))
    have e15 : own_nm_179 p1 = own_nm_195 p1 := if_pos (own_lti (by have q : (65536 : Int32).toInt = 65536 := rfl; omega))
    exact e0.trans (e1.trans (e2.trans (e3.trans (e4.trans (e5.trans (e6.trans (e7.trans (e8.trans (e9.trans (e10.trans (e11.trans (e12.trans (e13.trans (e14.trans (e15.trans (rfl))))))))))))))))
  · show own_ex_0 p1 = _
    have e0 : own_ex_0 p1 = own_ex_6 p1 := if_neg (own_nlti (by have q : (65 : Int32).toInt = 65 := rfl; omega))
    have e1 : own_ex_6 p1 = own_ex_14 p1 := if_neg (own_nlti (by have q : (983039 : Int32).toInt = 983039 := rfl; omega))
    have e2 : own_ex_14 p1 = own_ex_20 p1 := if_neg (own_nlti (by have q : (91 : Int32).toInt = 91 := rfl; omega))
    have e3 : own_ex_20 p1 = own_ex_26 p1 := if_neg (own_nlti (by have q : (94 : Int32).toInt = 94 := rfl; omega))
    exact e0.trans (e1.trans (e2.trans (e3.trans (rfl))))
theorem own_iv3 (p1 : Int32) (ha : (95 : Int) ≤ p1.toInt) (hb : p1.toInt ≤ 95) : own_nm_0 p1 = 1 ∧ own_ex_0 p1 = 0 := by
  constructor
  · show own_nm_0 p1 = _
    have e0 : own_nm_0 p1 = own_nm_12 p1 := if_pos (own_lti (by have q : (97 : Int32).toInt = 97 := rfl; omega))
    have e1 : own_nm_12 p1 = own_nm_18 p1 := if_neg (own_nlti (by have q : (65 : Int32).toInt = 65 := rfl; omega))
    have e2 : own_nm_18 p1 = own_nm_24 p1 := if_pos (own_lti (by have q : (90 : Int32).toInt = 90 := rfl; omega))
    have e3 : own_nm_24 p1 = own_nm_191 p1 := if_pos (own_eqi (by have q : (95 : Int32).toInt = 95 := rfl; omega))
    exact e0.trans (e1.trans (e2.trans (e3.trans (rfl))))
  · show own_ex_0 p1 = _
    have e0 : own_ex_0 p1 = own_ex_6 p1 := if_neg (own_nlti (by have q : (65 : Int32).toInt = 65 := rfl; omega))
    have e1 : own_ex_6 p1 = own_ex_14 p1 := if_neg (own_nlti (by have q : (983039 : Int32).toInt = 983039 := rfl; omega))
    have e2 : own_ex_14 p1 = own_ex_20 p1 := if_neg (own_nlti (by have q : (91 : Int32).toInt = 91 := rfl; omega))
    have e3 : own_ex_20 p1 = own_ex_28 p1 := if_pos (own_lti (by have q : (94 : Int32).toInt = 94 := rfl; omega))
    have e4 : own_ex_28 p1 = own_ex_36 p1 := if_neg (own_neqi (by have q : (96 : Int32).toInt = 96 := rfl; omega))
    have e5 : own_ex_36 p1 = own_ex_51 p1 := if_pos (own_lti (by have q : (123 : Int32).toInt = 123 := rfl; omega))
    have e6 : own_ex_51 p1 = own_ex_58 p1 := if_neg (own_neqi (by have q : (215 : Int32).toInt = 215 := rfl; omega))
    have e7 : own_ex_58 p1 = own_ex_67 p1 := if_neg (own_neqi (by have q : (247 : Int32).toInt = 247 := rfl; omega))
    have e8 : own_ex_67 p1 = own_ex_83 p1 := if_pos (own_lti (by have q : (768 : Int32).toInt = 768 := rfl; omega))
    have e9 : own_ex_83 p1 = own_ex_92 p1 := if_neg (own_neqi (by have q : (894 : Int32).toInt = 894 := rfl; omega))
    have e10 : own_ex_92 p1 = own_ex_108 p1 := if_pos (own_lti (by have q : (8192 : Int32).toInt = 8192 := rfl; omega))
    have e11 : own_ex_108 p1 = own_ex_124 p1 := if_pos (own_lti (by have q : (8206 : Int32).toInt = 8206 := rfl; omega))
    have e12 : own_ex_124 p1 = own_ex_140 p1 := if_pos (own_lti (by have q : (8592 : Int32).toInt = 8592 := rfl; omega))
    have e13 : own_ex_140 p1 = own_ex_156 p1 := if_pos (own_lti (by have q : (12272 : Int32).toInt = 12272 := rfl; omega))
    have e14 : own_ex_156 p1 = own_ex_170 p1 := if_pos (own_lti (by have q : (55296 : Int32).toInt = 55296 := rfl; omega))
    have e15 : own_ex_170 p1 = own_ex_184 p1 := if_pos (own_lti (by have q : (64976 : Int32).toInt = 64976 := rfl; omega))
    have e16 : own_ex_184 p1 = own_ex_198 p1 := if_pos (own_lti (by have q : (65534 : Int32).toInt = 65534 := rfl; omega))
    exact e0.trans (e1.trans (e2.trans (e3.trans (e4.trans (e5.trans (e6.trans (e7.trans (e8.trans (e9.trans (e10.trans (e11.trans (e12.trans (e13.trans (e14.trans (e15.trans (e16.trans (rfl)))))))))))))))))
theorem own_iv4 (p1 : Int32) (ha : (96 : Int) ≤ p1.toInt) (hb : p1.toInt ≤ 96) : own_nm_0 p1 = 0 ∧ own_ex_0 p1 = 1 := by
  constructor
  · show own_nm_0 p1 = _
    have e0 : own_nm_0 p1 = own_nm_12 p1 := if_pos (own_lti (by have q : (97 : Int32).toInt = 97 := rfl; omega))
    have e1 : own_nm_12 p1 = own_nm_18 p1 := if_neg (own_nlti (by have q : (65 : Int32).toInt = 65 := rfl; omega))
    have e2 : own_nm_18 p1 = own_nm_24 p1 := if_pos (own_lti (by have q : (90 : Int32).toInt = 90 := rfl; omega))
    have e3 : own_nm_24 p1 = own_nm_30 p1 := if_neg (own_neqi (by have q : (95 : Int32).toInt = 95 := rfl; omega))
    have e4 : own_nm_30 p1 = own_nm_44 p1 := if_pos (own_lti (by have q : (192 : Int32).toInt = 192 := rfl; omega))
    have e5 : own_nm_44 p1 = own_nm_58 p1 := if_pos (own_lti (by have q : (216 : Int32).toInt = 216 := rfl; omega))
    have e6 : own_nm_58 p1 = own_nm_72 p1 := if_pos (own_lti (by have q : (248 : Int32).toInt = 248 := rfl; omega))
    have e7 : own_nm_72 p1 = own_nm_86 p1 := if_pos (own_lti (by have q : (880 : Int32).toInt = 880 := rfl; omega))
    have e8 : own_nm_86 p1 = own_nm_100 p1 := if_pos (own_lti (by have q : (895 : Int32).toInt = 895 := rfl; omega))
    have e9 : own_nm_100 p1 = own_nm_114 p1 := if_pos (own_lti (by have q : (8204 : Int32).toInt = 8204 := rfl; omega))
    have e10 : own_nm_114 p1 = own_nm_128 p1 := if_pos (own_lti (by have q : (8304 : Int32).toInt = 8304 := rfl; omega))
    have e11 : own_nm_128 p1 = own_nm_142 p1 := if_pos (own_lti (by have q : (11264 : Int32).toInt = 11264 := rfl; omega))
    have e12 : own_nm_142 p1 = own_nm_155 p1 := if_pos (own_lti (by have q : (12289 : Int32).toInt = 12289 := rfl; omega))
    have e13 : own_nm_155 p1 = own_nm_167 p1 := if_pos (own_lti (by have q : (63744 : Int32).toInt = 63744 := rfl; omega))
    have e14 : own_nm_167 p1 = own_nm_179 p1 := if_pos (own_lti (by have q : (65008 : Int32).toInt = 65008 := rfl; omega))
    have e15 : own_nm_179 p1 = own_nm_195 p1 := if_pos (own_lti (by have q : (65536 : Int32).toInt = 65536 := rfl; omega))
    exact e0.trans (e1.trans (e2.trans (e3.trans (e4.trans (e5.trans (e6.trans (e7.trans (e8.trans (e9.trans (e10.trans (e11.trans (e12.trans (e13.trans (e14.trans (e15.trans (rfl))))))))))))))))
  · show own_ex_0 p1 = _
    have e0 : own_ex_0 p1 = own_ex_6 p1 := if_neg (own_nlti (by have q : (65 : Int32).toInt = 65 := rfl; omega))
    have e1 : own_ex_6 p1 = own_ex_14 p1 := if_neg (own_nlti (by have q : (983039 : Int32).toInt = 983039 := rfl; omega))
    have e2 : own_ex_14 p1 = own_ex_20 p1 := if_neg (own_nlti (by have q : (91 : Int32).toInt = 91 := rfl; omega))
    have e3 : own_ex_20 p1 = own_ex_28 p1 := if_pos (own_lti (by have q : (94 : Int32).toInt = 94 := rfl; omega))
    have e4 : own_ex_28 p1 = own_ex_34 p1 := if_pos (own_eqi (by have q : (96 : Int32).toInt = 96 := rfl; omega))
    exact e0.trans (e1.trans (e2.trans (e3.trans (e4.trans (rfl)))))
theorem own_iv5 (p1 : Int32) (ha : (97 : Int) ≤ p1.toInt) (hb : p1.toInt ≤ 122) : own_nm_0 p1 = 1 ∧ own_ex_0 p1 = 0 := by
  constructor
  · show own_nm_0 p1 = _
    have e0 : own_nm_0 p1 = own_nm_6 p1 := if_neg (own_nlti (by have q : (97 : Int32).toInt = 97 := rfl; omega))
    have e1 : own_nm_6 p1 = own_nm_191 p1 := if_neg (own_nlti (by have q : (122 : Int32).toInt = 122 := rfl; omega))
    exact e0.trans (e1.trans (rfl))
  · show own_ex_0 p1 = _
    have e0 : own_ex_0 p1 = own_ex_6 p1 := if_neg (own_nlti (by have q : (65 : Int32).toInt = 65 := rfl; omega))
    have e1 : own_ex_6 p1 = own_ex_14 p1 := if_neg (own_nlti (by have q : (983039 : Int32).toInt = 983039 := rfl; omega))
    have e2 : own_ex_14 p1 = own_ex_20 p1 := if_neg (own_nlti (by have q : (91 : Int32).toInt = 91 := rfl; omega))
    have e3 : own_ex_20 p1 = own_ex_28 p1 := if_pos (own_lti (by have q : (94 : Int32).toInt = 94 := rfl; omega))
    have e4 : own_ex_28 p1 = own_ex_36 p1 := if_neg (own_neqi (by have q : (96 : Int32).toInt = 96 := rfl; omega))
    have e5 : own_ex_36 p1 = own_ex_51 p1 := if_pos (own_lti (by have q : (123 : Int32).toInt = 123 := rfl; omega))
    have e6 : own_ex_51 p1 = own_ex_58 p1 := if_neg (own_neqi (by have q : (215 : Int32).toInt = 215 := rfl; omega))
    have e7 : own_ex_58 p1 = own_ex_67 p1 := if_neg (own_neqi (by have q : (247 : Int32).toInt = 247 := rfl; omega))
    have e8 : own_ex_67 p1 = own_ex_83 p1 := if_pos (own_lti (by have q : (768 : Int32).toInt = 768 := rfl; omega))
    have e9 : own_ex_83 p1 = own_ex_92 p1 := if_neg (own_neqi (by have q : (894 : Int32).toInt = 894 := rfl; omega))
    have e10 : own_ex_92 p1 = own_ex_108 p1 := if_pos (own_lti (by have q : (8192 : Int32).toInt = 8192 := rfl; omega))
    have e11 : own_ex_108 p1 = own_ex_124 p1 := if_pos (own_lti (by have q : (8206 : Int32).toInt = 8206 := rfl; omega))
    have e12 : own_ex_124 p1 = own_ex_140 p1 := if_pos (own_lti (by have q : (8592 : Int32).toInt = 8592 := rfl; omega))
    have e13 : own_ex_140 p1 = own_ex_156 p1 := if_pos (own_lti (by have q : (12272 : Int32).toInt = 12272 := rfl; omega))
    have e14 : own_ex_156 p1 = own_ex_170 p1 := if_pos (own_lti (by have q : (55296 : Int32).toInt = 55296 := rfl; omega))
    have e15 : own_ex_170 p1 = own_ex_184 p1 := if_pos (own_lti (by have q : (64976 : Int32).toInt = 64976 := rfl; omega))
    have e16 : own_ex_184 p1 = own_ex_198 p1 := if_pos (own_lti (by have q : (65534 : Int32).toInt = 65534 := rfl; omega))
    exact e0.trans (e1.trans (e2.trans (e3.trans (e4.trans (e5.trans (e6.trans (e7.trans (e8.trans (e9.trans (e10.trans (e11.trans (e12.trans (e13.trans (e14.trans (e15.trans (e16.trans (rfl)))))))))))))))))
theorem own_iv6 (p1 : Int32) (ha : (123 : Int) ≤ p1.toInt) (hb : p1.toInt ≤ 191) : own_nm_0 p1 = 0 ∧ own_ex_0 p1 = 1 := by
  constructor
  · show own_nm_0 p1 = _
    have e0 : own_nm_0 p1 = own_nm_6 p1 := if_neg (own_nlti (by have q : (97 : Int32).toInt = 97 := rfl; omega))
    have e1 : own_nm_6 p1 = own_nm_12 p1 := if_pos (own_lti (by have q : (122 : Int32).toInt = 122 := rfl; omega))
    have e2 : own_nm_12 p1 = own_nm_18 p1 := if_neg (own_nlti (by have q : (65 : Int32).toInt = 65 := rfl; omega))
    have e3 : own_nm_18 p1 = own_nm_24 p1 := if_pos (own_lti (by have q : (90 : Int32).toInt = 90 := rfl; omega))
    have e4 : own_nm_24 p1 = own_nm_30 p1 := if_neg (own_neqi (by have q : (95 : Int32).toInt = 95 := rfl; omega))
    have e5 : own_nm_30 p1 = own_nm_44 p1 := if_pos (own_lti (by have q : (192 : Int32).toInt = 192 := rfl; omega))
    have e6 : own_nm_44 p1 = own_nm_58 p1 := if_pos (own_lti (by have q : (216 : Int32).toInt = 216 := rfl; omega))
    have e7 : own_nm_58 p1 = own_nm_72 p1 := if_pos (own_lti (by have q : (248 : Int32).toInt = 248 := rfl; omega))
    have e8 : own_nm_72 p1 = own_nm_86 p1 := if_pos (own_lti (by have q : (880 : Int32).toInt = 880 := rfl; omega))
    have e9 : own_nm_86 p1 = own_nm_100 p1 := if_pos (own_lti (by have q : (895 : Int32).toInt = 895 := rfl; omega))
    have e10 : own_nm_100 p1 = own_nm_114 p1 := if_pos (own_lti (by have q : (8204 : Int32).toInt = 8204 := rfl; omega))
    have e11 : own_nm_114 p1 = own_nm_128 p1 := if_pos (own_lti (by have q : (8304 : Int32).toInt = 8304 := rfl; omega))
    have e12 : own_nm_128 p1 = own_nm_142 p1 := if_pos (own_lti (by have q : (11264 : Int32).toInt = 11264 := rfl; omega))
    have e13 : own_nm_142 p1 = own_nm_155 p1 := if_pos (own_lti (by have q : (12289 : Int32).toInt = 12289 := rfl; omega))
    have e14 : own_nm_155 p1 = own_nm_167 p1 := if_pos (own_lti (by have q : (63744 : Int32).toInt = 63744 := rfl; omega))
    have e15 : own_nm_167 p1 = own_nm_179 p1 := if_pos (own_lti (by have q : (65008 : Int32).toInt = 65008 := rfl; omega))
    have e16 : own_nm_179 p1 = own_nm_195 p1 := if_pos (own_lti (by have q : (65536 : Int32).toInt = 65536 := rfl; omega))
    exact e0.trans (e1.trans (e2.trans (e3.trans (e4.trans (e5.trans (e6.trans (e7.trans (e8.trans (e9.trans (e10.trans (e11.trans (e12.trans (e13.trans (e14.trans (e15.trans (e16.trans (rfl)))))))))))))))))
  · show own_ex_0 p1 = _
    have e0 : own_ex_0 p1 = own_ex_6 p1 := if_neg (own_nlti (by have q : (65 : Int32).toInt = 65 := rfl; omega))
    have e1 : own_ex_6 p1 = own_ex_14 p1 := if_neg (own_nlti (by have q : (983039 : Int32).toInt = 983039 := rfl; omega))
    have e2 : own_ex_14 p1 = own_ex_20 p1 := if_neg (own_nlti (by have q : (91 : Int32).toInt = 91 := rfl; omega))
    have e3 : own_ex_20 p1 = own_ex_28 p1 := if_pos (own_lti (by have q : (94 : Int32).toInt = 94 := rfl; omega))
    have e4 : own_ex_28 p1 = own_ex_36 p1 := if_neg (own_neqi (by have q : (96 : Int32).toInt = 96 := rfl; omega))
    have e5 : own_ex_36 p1 = own_ex_42 p1 := if_neg (own_nlti (by have q : (123 : Int32).toInt = 123 := rfl; omega))
    have e6 : own_ex_42 p1 = own_ex_49 p1 := if_neg (own_nlti (by have q : (191 : Int32).toInt = 191 := rfl; omega))
    exact e0.trans (e1.trans (e2.trans (e3.trans (e4.trans (e5.trans (e6.trans (rfl)))))))
theorem own_iv7 (p1 : Int32) (ha : (192 : Int) ≤ p1.toInt) (hb : p1.toInt ≤ 214) : own_nm_0 p1 = 1 ∧ own_ex_0 p1 = 0 := by
  constructor
  · show own_nm_0 p1 = _
    have e0 : own_nm_0 p1 = own_nm_6 p1 := if_neg (own_nlti (by have q : (97 : Int32).toInt = 97 := rfl; omega))
    have e1 : own_nm_6 p1 = own_nm_12 p1 := if_pos (own_lti (by have q : (122 : Int32).toInt = 122 := rfl; omega))
    have e2 : own_nm_12 p1 = own_nm_18 p1 := if_neg (own_nlti (by have q : (65 : Int32).toInt = 65 := rfl; omega))
    have e3 : own_nm_18 p1 = own_nm_24 p1 := if_pos (own_lti (by have q : (90 : Int32).toInt = 90 := rfl; omega))
    have e4 : own_nm_24 p1 = own_nm_30 p1 := if_neg (own_neqi (by have q : (95 : Int32).toInt = 95 := rfl; omega))
    have e5 : own_nm_30 p1 = own_nm_37 p1 := if_neg (own_nlti (by have q : (192 : Int32).toInt = 192 := rfl; omega))
    have e6 : own_nm_37 p1 = own_nm_191 p1 := if_neg (own_nlti (by have q : (214 : Int32).toInt = 214 := rfl; omega))
    exact e0.trans (e1.trans (e2.trans (e3.trans (e4.trans (e5.trans (e6.trans (rfl)))))))
  · show own_ex_0 p1 = _
    have e0 : own_ex_0 p1 = own_ex_6 p1 := if_neg (own_nlti (by have q : (65 : Int32).toInt = 65 := rfl; omega))
    have e1 : own_ex_6 p1 = own_ex_14 p1 := if_neg (own_nlti (by have q : (983039 : Int32).toInt = 983039 := rfl; omega))
    have e2 : own_ex_14 p1 = own_ex_20 p1 := if_neg (own_nlti (by have q : (91 : Int32).toInt = 91 := rfl; omega))
    have e3 : own_ex_20 p1 = own_ex_28 p1 := if_pos (own_lti (by have q : (94 : Int32).toInt = 94 := rfl; omega))
    have e4 : own_ex_28 p1 = own_ex_36 p1 := if_neg (own_neqi (by have q : (96 : Int32).toInt = 96 := rfl; omega))
    have e5 : own_ex_36 p1 = own_ex_42 p1 := if_neg (own_nlti (by have q : (123 : Int32).toInt = 123 := rfl; omega))
    have e6 : own_ex_42 p1 = own_ex_51 p1 := if_pos (own_lti (by have q : (191 : Int32).toInt = 191 := rfl; omega))
    have e7 : own_ex_51 p1 = own_ex_58 p1 := if_neg (own_neqi (by have q : (215 : Int32).toInt = 215 := rfl; omega))
    have e8 : own_ex_58 p1 = own_ex_67 p1 := if_neg (own_neqi (by have q : (247 : Int32).toInt = 247 := rfl; omega))
    have e9 : own_ex_67 p1 = own_ex_83 p1 := if_pos (own_lti (by have q : (768 : Int32).toInt = 768 := rfl; omega))
    have e10 : own_ex_83 p1 = own_ex_92 p1 := if_neg (own_neqi (by have q : (894 : Int32).toInt = 894 := rfl; omega))
    have e11 : own_ex_92 p1 = own_ex_108 p1 := if_pos (own_lti (by have q : (8192 : Int32).toInt = 8192 := rfl; omega))
    have e12 : own_ex_108 p1 = own_ex_124 p1 := if_pos (own_lti (by have q : (8206 : Int32).toInt = 8206 := rfl; omega))
    have e13 : own_ex_124 p1 = own_ex_140 p1 := if_pos (own_lti (by have q : (8592 : Int32).toInt = 8592 := rfl; omega))
    have e14 : own_ex_140 p1 = own_ex_156 p1 := if_pos (own_lti (by have q : (12272 : Int32).toInt = 12272 := rfl; omega))
    have e15 : own_ex_156 p1 = own_ex_170 p1 := if_pos (own_lti (by have q : (55296 : Int32).toInt = 55296 := rfl; omega))
    have e16 : own_ex_170 p1 = own_ex_184 p1 := if_pos (own_lti (by have q : (64976 : Int32).toInt = 64976 := rfl; omega))
    have e17 : own_ex_184 p1 = own_ex_198 p1 := if_pos (own_lti (by have q : (65534 : Int32).toInt = 65534 := rfl; omega))
    exact e0.trans (e1.trans (e2.trans (e3.trans (e4.trans (e5.trans (e6.trans (e7.trans (e8.trans (e9.trans (e10.trans (e11.trans (e12.trans (e13.trans (e14.trans (e15.trans (e16.trans (e17.trans (rfl))))))))))))))))))
theorem own_iv8 (p1 : Int32) (ha : (215 : Int) ≤ p1.toInt) (hb : p1.toInt ≤ 215) : own_nm_0 p1 = 0 ∧ own_ex_0 p1 = 1 := by
  constructor
  · show own_nm_0 p1 = _
    have e0 : own_nm_0 p1 = own_nm_6 p1 := if_neg (own_nlti (by have q : (97 : Int32).toInt = 97 := rfl; omega))
    have e1 : own_nm_6 p1 = own_nm_12 p1 := if_pos (own_lti (by have q : (122 : Int32).toInt = 122 := rfl; omega))
    have e2 : own_nm_12 p1 = own_nm_18 p1 := if_neg (own_nlti (by have q : (65 : Int32).toInt = 65 := rfl; omega))
    have e3 : own_nm_18 p1 = own_nm_24 p1 := if_pos (own_lti (by have q : (90 : Int32).toInt = 90 := rfl; omega))
    have e4 : own_nm_24 p1 = own_nm_30 p1 := if_neg (own_neqi (by have q : (95 : Int32).toInt = 95 := rfl; omega))
    have e5 : own_nm_30 p1 = own_nm_37 p1 := if_neg (own_nlti (by have q : (192 : Int32).toInt = 192 := rfl; omega))
    have e6 : own_nm_37 p1 = own_nm_44 p1 := if_pos (own_lti (by have q : (214 : Int32).toInt = 214 := rfl; omega))
    have e7 : own_nm_44 p1 = own_nm_58 p1 := if_pos (own_lti (by have q : (216 : Int32).toInt = 216 := rfl; omega))
    have e8 : own_nm_58 p1 = own_nm_72 p1 := if_pos (own_lti (by have q : (248 : Int32).toInt = 248 := rfl; omega))
    have e9 : own_nm_72 p1 = own_nm_86 p1 := if_pos (own_lti (by have q : (880 : Int32).toInt = 880 := rfl; omega))
    have e10 : own_nm_86 p1 = own_nm_100 p1 := if_pos (own_lti (by have q : (895 : Int32).toInt = 895 := rfl; omega))
    have e11 : own_nm_100 p1 = own_nm_114 p1 := if_pos (own_lti (by have q : (8204 : Int32).toInt = 8204 := rfl; omega))
    have e12 : own_nm_114 p1 = own_nm_128 p1 := if_pos (own_lti (by have q : (8304 : Int32).toInt = 8304 := rfl; omega))
    have e13 : own_nm_128 p1 = own_nm_142 p1 := if_pos (own_lti (by have q : (11264 : Int32).toInt = 11264 := rfl; omega))
    have e14 : own_nm_142 p1 = own_nm_155 p1 := if_pos (own_lti (by have q : (12289 : Int32).toInt = 12289 := rfl; omega))
    have e15 : own_nm_155 p1 = own_nm_167 p1 := if_pos (own_lti (by have q : (63744 : Int32).toInt = 63744 := rfl; omega))
    have e16 : own_nm_167 p1 = own_nm_179 p1 := if_pos (own_lti (by have q : (65008 : Int32).toInt = 65008 := rfl; omega))
    have e17 : own_nm_179 p1 = own_nm_195 p1 := if_pos (own_lti (by have q : (65536 : Int32).toInt = 65536 := rfl; omega))
    exact e0.trans (e1.trans (e2.trans (e3.trans (e4.trans (e5.trans (e6.trans (e7.trans (e8.trans (e9.trans (e10.trans (e11.trans (e12.trans (e13.trans (e14.trans (e15.trans (e16.trans (e17.trans (rfl))))))))))))))))))
  · show own_ex_0 p1 = _
    have e0 : own_ex_0 p1 = own_ex_6 p1 := if_neg (own_nlti (by have q : (65 : Int32).toInt = 65 := rfl; omega))
    have e1 : own_ex_6 p1 = own_ex_14 p1 := if_neg (own_nlti (by have q : (983039 : Int32).toInt = 983039 := rfl; omega))
    have e2 : own_ex_14 p1 = own_ex_20 p1 := if_neg (own_nlti (by have q : (91 : Int32).toInt = 91 := rfl; omega))
    have e3 : own_ex_20 p1 = own_ex_28 p1 := if_pos (own_lti (by have q : (94 : Int32).toInt = 94 := rfl; omega))
    have e4 : own_ex_28 p1 = own_ex_36 p1 := if_neg (own_neqi (by have q : (96 : Int32).toInt = 96 := rfl; omega))
    have e5 : own_ex_36 p1 = own_ex_42 p1 := if_neg (own_nlti (by have q : (123 : Int32).toInt = 123 := rfl; omega))
    have e6 : own_ex_42 p1 = own_ex_51 p1 := if_pos (own_lti (by have q : (191 : Int32).toInt = 191 := rfl; omega))
    have e7 : own_ex_51 p1 = own_ex_65 p1 := if_pos (own_eqi (by have q : (215 : Int32).toInt = 215 := rfl; omega))
    exact e0.trans (e1.trans (e2.trans (e3.trans (e4.trans (e5.trans (e6.trans (e7.trans (rfl))))))))
theorem own_iv9 (p1 : Int32) (ha : (216 : Int) ≤ p1.toInt) (hb : p1.toInt ≤ 246) : own_nm_0 p1 = 1 ∧ own_ex_0 p1 = 0 := by
  constructor
  · show own_nm_0 p1 = _
    have e0 : own_nm_0 p1 = own_nm_6 p1 := if_neg (own_nlti (by have q : (97 : Int32).toInt = 97 := rfl; omega))
    have e1 : own_nm_6 p1 = own_nm_12 p1 := if_pos (own_lti (by have q : (122 : Int32).toInt = 122 := rfl; omega))
    have e2 : own_nm_12 p1 = own_nm_18 p1 := if_neg (own_nlti (by have q : (65 : Int32).toInt = 65 := rfl; omega))
    have e3 : own_nm_18 p1 = own_nm_24 p1 := if_pos (own_lti (by have q : (90 : Int32).toInt = 90 := rfl; omega))
    have e4 : own_nm_24 p1 = own_nm_30 p1 := if_neg (own_neqi (by have q : (95 : Int32).toInt = 95 := rfl; omega))
    have e5 : own_nm_30 p1 = own_nm_37 p1 := if_neg (own_nlti (by have q : (192 : Int32).toInt = 192 := rfl; omega))
    have e6 : own_nm_37 p1 = own_nm_44 p1 := if_pos (own_lti (by have q : (214 : Int32).toInt = 214 := rfl; omega))
    have e7 : own_nm_44 p1 = own_nm_51 p1 := if_neg (own_nlti (by have q : (216 : Int32).toInt = 216 := rfl; omega))
    have e8 : own_nm_51 p1 = own_nm_191 p1 := if_neg (own_nlti (by have q : (246 : Int32).toInt = 246 := rfl; omega))
    exact e0.trans (e1.trans (e2.trans (e3.trans (e4.trans (e5.trans (e6.trans (e7.trans (e8.trans (rfl)))))))))
  · show own_ex_0 p1 = _
    have e0 : own_ex_0 p1 = own_ex_6 p1 := if_neg (own_nlti (by have q : (65 : Int32).toInt = 65 := rfl; omega))
    have e1 : own_ex_6 p1 = own_ex_14 p1 := if_neg (own_nlti (by have q : (983039 : Int32).toInt = 983039 := rfl; omega))
    have e2 : own_ex_14 p1 = own_ex_20 p1 := if_neg (own_nlti (by have q : (91 : Int32).toInt = 91 := rfl; omega))
    have e3 : own_ex_20 p1 = own_ex_28 p1 := if_pos (own_lti (by have q : (94 : Int32).toInt = 94 := rfl; omega))
    have e4 : own_ex_28 p1 = own_ex_36 p1 := if_neg (own_neqi (by have q : (96 : Int32).toInt = 96 := rfl; omega))
    have e5 : own_ex_36 p1 = own_ex_42 p1 := if_neg (own_nlti (by have q : (123 : Int32).toInt = 123 := rfl; omega))
    have e6 : own_ex_42 p1 = own_ex_51 p1 := if_pos (own_lti (by have q : (191 : Int32).toInt = 191 := rfl; omega))
    have e7 : own_ex_51 p1 = own_ex_58 p1 := if_neg (own_neqi (by have q : (215 : Int32).toInt = 215 := rfl; omega))
    have e8 : own_ex_58 p1 = own_ex_67 p1 := if_neg (own_neqi (by have q : (247 : Int32).toInt = 247 := rfl; omega))
    have e9 : own_ex_67 p1 = own_ex_83 p1 := if_pos (own_lti (by have q : (768 : Int32).toInt = 768 := rfl; omega))
    have e10 : own_ex_83 p1 = own_ex_92 p1 := if_neg (own_neqi (by have q : (894 : Int32).toInt = 894 := rfl; omega))
    have e11 : own_ex_92 p1 = own_ex_108 p1 := if_pos (own_lti (by have q : (8192 : Int32).toInt = 8192 := rfl; omega))
    have e12 : own_ex_108 p1 = own_ex_124 p1 := if_pos (own_lti (by have q : (8206 : Int32).toInt = 8206 := rfl; omega))
    have e13 : own_ex_124 p1 = own_ex_140 p1 := if_pos (own_lti (by have q : (8592 : Int32).toInt = 8592 := rfl; omega))
    have e14 : own_ex_140 p1 = own_ex_156 p1 := if_pos (own_lti (by have q : (12272 : Int32).toInt = 12272 := rfl; omega))
    have e15 : own_ex_156 p1 = own_ex_170 p1 := if_pos (own_lti (by have q : (55296 : Int32).toInt = 55296 := rfl; omega))
    have e16 : own_ex_170 p1 = own_ex_184 p1 := if_pos (own_lti (by have q : (64976 : Int32).toInt = 64976 := rfl; omega))
    have e17 : own_ex_184 p1 = own_ex_198 p1 := if_pos (own_lti (by have q : (65534 : Int32).toInt = 65534 := rfl; omega))
    exact e0.trans (e1.trans (e2.trans (e3.trans (e4.trans (e5.trans (e6.trans (e7.trans (e8.trans (e9.trans (e10.trans (e11.trans (e12.trans (e13.trans (e14.trans (e15.trans (e16.trans (e17.trans (rfl))))))))))))))))))
theorem own_iv10 (p1 : Int32) (ha : (247 : Int) ≤ p1.toInt) (hb : p1.toInt ≤ 247) : own_nm_0 p1 = 0 ∧ own_ex_0 p1 = 1 := by
  constructor
  · show own_nm_0 p1 = _
    have e0 : own_nm_0 p1 = own_nm_6 p1 := if_neg (own_nlti (by have q : (97 : Int32).toInt = 97 := rfl; omega))
    have e1 : own_nm_6 p1 = own_nm_12 p1 := if_pos (own_lti (by have q : (122 : Int32).toInt = 122 := rfl; omega))
    have e2 : own_nm_12 p1 = own_nm_18 p1 := if_neg (own_nlti (by have q : (65 : Int32).toInt = 65 := rfl; omega))
    have e3 : own_nm_18 p1 = own_nm_24 p1 := if_pos (own_lti (by have q : (90 : Int32).toInt = 90 := rfl; omega))
    have e4 : own_nm_24 p1 = own_nm_30 p1 := if_neg (own_neqi (by have q : (95 : Int32).toInt = 95 := rfl; omega))
    have e5 : own_nm_30 p1 = own_nm_37 p1 := if_neg (own_nlti (by have q : (192 : Int32).toInt = 192 := rfl; omega))
    have e6 : own_nm_37 p1 = own_nm_44 p1 := if_pos (own_lti (by have q : (214 : Int32).toInt = 214 := rfl; omega))
    have e7 : own_nm_44 p1 = own_nm_51 p1 := if_neg (own_nlti (by have q : (216 : Int32).toInt = 216 := rfl; omega))
    have e8 : own_nm_51 p1 = own_nm_58 p1 := if_pos (own_lti (by have q : (246 : Int32).toInt = 246 := rfl; omega))
    have e9 : own_nm_58 p1 = own_nm_72 p1 := if_pos (own_lti (by have q : (248 : Int32).toInt = 248 := rfl; omega))
    have e10 : own_nm_72 p1 = own_nm_86 p1 := if_pos (own_lti (by have q : (880 : Int32).toInt = 880 := rfl; omega))
    have e11 : own_nm_86 p1 = own_nm_100 p1 := if_pos (own_lti (by have q : (895 : Int32).toInt = 895 := rfl; omega))
    have e12 : own_nm_100 p1 = own_nm_114 p1 := if_pos (own_lti (by have q : (8204 : Int32).toInt = 8204 := rfl; omega))
    have e13 : own_nm_114 p1 = own_nm_128 p1 := if_pos (own_lti (by have q : (8304 : Int32).toInt = 8304 := rfl; omega))
    have e14 : own_nm_128 p1 = own_nm_142 p1 := if_pos (own_lti (by have q : (11264 : Int32).toInt = 11264 := rfl; omega))
    have e15 : own_nm_142 p1 = own_nm_155 p1 := if_pos (own_lti (by have q : (12289 : Int32).toInt = 12289 := rfl; omega))
    have e16 : own_nm_155 p1 = own_nm_167 p1 := if_pos (own_lti (by have q : (63744 : Int32).toInt = 63744 := rfl; omega))
    have e17 : own_nm_167 p1 = own_nm_179 p1 := if_pos (own_lti (by have q : (65008 : Int32).toInt = 65008 := rfl; omega))
    have e18 : own_nm_179 p1 = own_nm_195 p1 := if_pos (own_lti (by have q : (65536 : Int32).toInt = 65536 := rfl; omega))
    exact e0.trans (e1.trans (e2.trans (e3.trans (e4.trans (e5.trans (e6.trans (e7.trans (e8.trans (e9.trans (e10.trans (e11.trans (e12.trans (e13.trans (e14.trans (e15.trans (e16.trans (e17.trans (e18.trans (rfl)))))))))))))))))))
  · show own_ex_0 p1 = _
    have e0 : own_ex_0 p1 = own_ex_6 p1 := if_neg (own_nlti (by have q : (65 : Int32).toInt = 65 := rfl; omega))
    have e1 : own_ex_6 p1 = own_ex_14 p1 := if_neg (own_nlti (by have q : (983039 : Int32).toInt = 983039 := rfl; omega))
    have e2 : own_ex_14 p1 = own_ex_20 p1 := if_neg (own_nlti (by have q : (91 : Int32).toInt = 91 := rfl; omega))
    have e3 : own_ex_20 p1 = own_ex_28 p1 := if_pos (own_lti (by have q : (94 : Int32).toInt = 94 := rfl; omega))
    have e4 : own_ex_28 p1 = own_ex_36 p1 := if_neg (own_neqi (by have q : (96 : Int32).toInt = 96 := rfl; omega))
    have e5 : own_ex_36 p1 = own_ex_42 p1 := if_neg (own_nlti (by have q : (123 : Int32).toInt = 123 := rfl; omega))
    have e6 : own_ex_42 p1 = own_ex_51 p1 := if_pos (own_lti (by have q : (191 : Int32).toInt = 191 := rfl; omega))
    have e7 : own_ex_51 p1 = own_ex_58 p1 := if_neg (own_neqi (by have q : (215 : Int32).toInt = 215 := rfl; omega))
    have e8 : own_ex_58 p1 = own_ex_65 p1 := if_pos (own_eqi (by have q : (247 : Int32).toInt = 247 := rfl; omega))
    exact e0.trans (e1.trans (e2.trans (e3.trans (e4.trans (e5.trans (e6.trans (e7.trans (e8.trans (rfl)))))))))
theorem own_iv11 (p1 : Int32) (ha : (248 : Int) ≤ p1.toInt) (hb : p1.toInt ≤ 767) : own_nm_0 p1 = 1 ∧ own_ex_0 p1 = 0 := by
  constructor
  · show own_nm_0 p1 = _
    have e0 : own_nm_0 p1 = own_nm_6 p1 := if_neg (own_nlti (by have q : (97 : Int32).toInt = 97 := rfl; omega))
    have e1 : own_nm_6 p1 = own_nm_12 p1 := if_pos (own_lti (by have q : (122 : Int32).toInt = 122 := rfl; omega))
    have e2 : own_nm_12 p1 = own_nm_18 p1 := if_neg (own_nlti (by have q : (65 : Int32).toInt = 65 := rfl; omega))
    have e3 : own_nm_18 p1 = own_nm_24 p1 := if_pos (own_lti (by have q : (90 : Int32).toInt = 90 := rfl; omega))
    have e4 : own_nm_24 p1 = own_nm_30 p1 := if_neg (own_neqi (by have q : (95 : Int32).toInt = 95 := rfl; omega))
    have e5 : own_nm_30 p1 = own_nm_37 p1 := if_neg (own_nlti (by have q : (192 : Int32).toInt = 192 := rfl; omega))
    have e6 : own_nm_37 p1 = own_nm_44 p1 := if_pos (own_lti (by have q : (214 : Int32).toInt = 214 := rfl; omega))
    have e7 : own_nm_44 p1 = own_nm_51 p1 := if_neg (own_nlti (by have q : (216 : Int32).toInt = 216 := rfl; omega))
    have e8 : own_nm_51 p1 = own_nm_58 p1 := if_pos (own_lti (by have q : (246 : Int32).toInt = 246 := rfl; omega))
    have e9 : own_nm_58 p1 = own_nm_65 p1 := if_neg (own_nlti (by have q : (248 : Int32).toInt = 248 := rfl; omega))
    have e10 : own_nm_65 p1 = own_nm_191 p1 := if_neg (own_nlti (by have q : (767 : Int32).toInt = 767 := rfl; omega))
    exact e0.trans (e1.trans (e2.trans (e3.trans (e4.trans (e5.trans (e6.trans (e7.trans (e8.trans (e9.trans (e10.trans (rfl)))))))))))
  · show own_ex_0 p1 = _
    have e0 : own_ex_0 p1 = own_ex_6 p1 := if_neg (own_nlti (by have q : (65 : Int32).toInt = 65 := rfl; omega))
    have e1 : own_ex_6 p1 = own_ex_14 p1 := if_neg (own_nlti (by have q : (983039 : Int32).toInt = 983039 := rfl; omega))
    have e2 : own_ex_14 p1 = own_ex_20 p1 := if_neg (own_nlti (by have q : (91 : Int32).toInt = 91 := rfl; omega))
    have e3 : own_ex_20 p1 = own_ex_28 p1 := if_pos (own_lti (by have q : (94 : Int32).toInt = 94 := rfl; omega))
    have e4 : own_ex_28 p1 = own_ex_36 p1 := if_neg (own_neqi (by have q : (96 : Int32).toInt = 96 := rfl; omega))
    have e5 : own_ex_36 p1 = own_ex_42 p1 := if_neg (own_nlti (by have q : (123 : Int32).toInt = 123 := rfl; omega))
    have e6 : own_ex_42 p1 = own_ex_51 p1 := if_pos (own_lti (by have q : (191 : Int32).toInt = 191 := rfl; omega))
    have e7 : own_ex_51 p1 = own_ex_58 p1 := if_neg (own_neqi (by have q : (215 : Int32).toInt = 215 := rfl; omega))
    have e8 : own_ex_58 p1 = own_ex_67 p1 := if_neg (own_neqi (by have q : (247 : Int32).toInt = 247 := rfl; omega))
    have e9 : own_ex_67 p1 = own_ex_83 p1 := if_pos (own_lti (by have q : (768 : Int32).toInt = 768 := rfl; omega))
    have e10 : own_ex_83 p1 = own_ex_92 p1 := if_neg (own_neqi (by have q : (894 : Int32).toInt = 894 := rfl; omega))
    have e11 : own_ex_92 p1 = own_ex_108 p1 := if_pos (own_lti (by have q : (8192 : Int32).toInt = 8192 := rfl; omega))
    have e12 : own_ex_108 p1 = own_ex_124 p1 := if_pos (own_lti (by have q : (8206 : Int32).toInt = 8206 := rfl; omega))
    have e13 : own_ex_124 p1 = own_ex_140 p1 := if_pos (own_lti (by have q : (8592 : Int32).toInt = 8592 := rfl; omega))
    have e14 : own_ex_140 p1 = own_ex_156 p1 := if_pos (own_lti (by have q : (12272 : Int32).toInt = 12272 := rfl; omega))
    have e15 : own_ex_156 p1 = own_ex_170 p1 := if_pos (own_lti (by have q : (55296 : Int32).toInt = 55296 := rfl; omega))
    have e16 : own_ex_170 p1 = own_ex_184 p1 := if_pos (own_lti (by have q : (64976 : Int32).toInt = 64976 := rfl; omega))
    have e17 : own_ex_184 p1 = own_ex_198 p1 := if_pos (own_lti (by have q : (65534 : Int32).toInt = 65534 := rfl; omega))
    exact e0.trans (e1.trans (e2.trans (e3.trans (e4.trans (e5.trans (e6.trans (e7.trans (e8.trans (e9.trans (e10.trans (e11.trans (e12.trans (e13.trans (e14.trans (e15.trans (e16.trans (e17.trans (rfl))))))))))))))))))
theorem own_iv12 (p1 : Int32) (ha : (768 : Int) ≤ p1.toInt) (hb : p1.toInt ≤ 879) : own_nm_0 p1 = 0 ∧ own_ex_0 p1 = 1 := by
  constructor
  · show own_nm_0 p1 = _
    have e0 : own_nm_0 p1 = own_nm_6 p1 := if_neg (own_nlti (by have q : (97 : Int32).toInt = 97 := rfl; omega))
    have e1 : own_nm_6 p1 = own_nm_12 p1 := if_pos (own_lti (by have q : (122 : Int32).toInt = 122 := rfl; omega))
    have e2 : own_nm_12 p1 = own_nm_18 p1 := if_neg (own_nlti (by have q : (65 : Int32).toInt = 65 := rfl; omega))
    have e3 : own_nm_18 p1 = own_nm_24 p1 := if_pos (own_lti (by have q : (90 : Int32).toInt = 90 := rfl; omega))
    have e4 : own_nm_24 p1 = own_nm_30 p1 := if_neg (own_neqi (by have q : (95 : Int32).toInt = 95 := rfl; omega))
    have e5 : own_nm_30 p1 = own_nm_37 p1 := if_neg (own_nlti (by have q : (192 : Int32).toInt = 192 := rfl; omega))
    have e6 : own_nm_37 p1 = own_nm_44 p1 := if_pos (own_lti (by have q : (214 : Int32).toInt = 214 := rfl; omega))
    have e7 : own_nm_44 p1 = own_nm_51 p1 := if_neg (own_nlti (by have q : (216 : Int32).toInt = 216 := rfl; omega))
    have e8 : own_nm_51 p1 = own_nm_58 p1 := if_pos (own_lti (by have q : (246 : Int32).toInt = 246 := rfl; omega))
    have e9 : own_nm_58 p1 = own_nm_65 p1 := if_neg (own_nlti (by have q : (248 : Int32).toInt = 248 := rfl; omega))
    have e10 : own_nm_65 p1 = own_nm_72 p1 := if_pos (own_lti (by have q : (767 : Int32).toInt = 767 := rfl; omega))
    have e11 : own_nm_72 p1 = own_nm_86 p1 := if_pos (own_lti (by have q : (880 : Int32).toInt = 880 := rfl; omega))
    have e12 : own_nm_86 p1 = own_nm_100 p1 := if_pos (own_lti (by have q : (895 : Int32).toInt = 895 := rfl; omega))
    have e13 : own_nm_100 p1 = own_nm_114 p1 := if_pos (own_lti (by have q : (8204 : Int32).toInt = 8204 := rfl; omega))
    have e14 : own_nm_114 p1 = own_nm_128 p1 := if_pos (own_lti (by have q : (8304 : Int32).toInt = 8304 := rfl; omega))
    have e15 : own_nm_128 p1 = own_nm_142 p1 := if_pos (own_lti (by have q : (11264 : Int32).toInt = 11264 := rfl; omega))
    have e16 : own_nm_142 p1 = own_nm_155 p1 := if_pos (own_lti (by have q : (12289 : Int32).toInt = 12289 := rfl; omega))
    have e17 : own_nm_155 p1 = own_nm_167 p1 := if_pos (own_lti (by have q : (63744 : Int32).toInt = 63744 := rfl; omega))
    have e18 : own_nm_167 p1 = own_nm_179 p1 := if_pos (own_lti (by have q : (65008 : Int32).toInt = 65008 := rfl; omega))
    have e19 : own_nm_179 p1 = own_nm_195 p1 := if_pos (own_lti (by have q : (65536 : Int32).toInt = 65536 := rfl; omega))
    exact e0.trans (e1.trans (e2.trans (e3.trans (e4.trans (e5.trans (e6.trans (e7.trans (e8.trans (e9.trans (e10.trans (e11.trans (e12.trans (e13.trans (e14.trans (e15.trans (e16.trans (e17.trans (e18.trans (e19.trans (rfl))))))))))))))))))))
  · show own_ex_0 p1 = _
    have e0 : own_ex_0 p1 = own_ex_6 p1 := if_neg (own_nlti (by have q : (65 : Int32).toInt = 65 := rfl; omega))
    have e1 : own_ex_6 p1 = own_ex_14 p1 := if_neg (own_nlti (by have q : (983039 : Int32).toInt = 983039 := rfl; omega))
    have e2 : own_ex_14 p1 = own_ex_20 p1 := if_neg (own_nlti (by have q : (91 : Int32).toInt = 91 := rfl; omega))
    have e3 : own_ex_20 p1 = own_ex_28 p1 := if_pos (own_lti (by have q : (94 : Int32).toInt = 94 := rfl; omega))
    have e4 : own_ex_28 p1 = own_ex_36 p1 := if_neg (own_neqi (by have q : (96 : Int32).toInt = 96 := rfl; omega))
    have e5 : own_ex_36 p1 = own_ex_42 p1 := if_neg (own_nlti (by have q : (123 : Int32).toInt = 123 := rfl; omega))
    have e6 : own_ex_42 p1 = own_ex_51 p1 := if_pos (own_lti (by have q : (191 : Int32).toInt = 191 := rfl; omega))
    have e7 : own_ex_51 p1 = own_ex_58 p1 := if_neg (own_neqi (by have q : (215 : Int32).toInt = 215 := rfl; omega))
    have e8 : own_ex_58 p1 = own_ex_67 p1 := if_neg (own_neqi (by have q : (247 : Int32).toInt = 247 := rfl; omega))
    have e9 : own_ex_67 p1 = own_ex_74 p1 := if_neg (own_nlti (by have q : (768 : Int32).toInt = 768 := rfl; omega))
    have e10 : own_ex_74 p1 = own_ex_81 p1 := if_neg (own_nlti (by have q : (879 : Int32).toInt = 879 := rfl; omega))
    exact e0.trans (e1.trans (e2.trans (e3.trans (e4.trans (e5.trans (e6.trans (e7.trans (e8.trans (e9.trans (e10.trans (rfl)))))))))))
theorem own_iv13 (p1 : Int32) (ha : (880 : Int) ≤ p1.toInt) (hb : p1.toInt ≤ 893) : own_nm_0 p1 = 1 ∧ own_ex_0 p1 = 0 := by
  constructor
  · show own_nm_0 p1 = _
    have e0 : own_nm_0 p1 = own_nm_6 p1 := if_neg (own_nlti (by have q : (97 : Int32).toInt = 97 := rfl; omega))
    have e1 : own_nm_6 p1 = own_nm_12 p1 := if_pos (own_lti (by have q : (122 : Int32).toInt = 122 := rfl; omega))
    have e2 : own_nm_12 p1 = own_nm_18 p1 := if_neg (own_nlti (by have q : (65 : Int32).toInt = 65 := rfl; omega))
    have e3 : own_nm_18 p1 = own_nm_24 p1 := if_pos (own_lti (by have q : (90 : Int32).toInt = 90 := rfl; omega))
    have e4 : own_nm_24 p1 = own_nm_30 p1 := if_neg (own_neqi (by have q : (95 : Int32).toInt = 95 := rfl; omega))
    have e5 : own_nm_30 p1 = own_nm_37 p1 := if_neg (own_nlti (by have q : (192 : Int32).toInt = 192 := rfl; omega))
    have e6 : own_nm_37 p1 = own_nm_44 p1 := if_pos (own_lti (by have q : (214 : Int32).toInt = 214 := rfl; omega))
    have e7 : own_nm_44 p1 = own_nm_51 p1 := if_neg (own_nlti (by have q : (216 : Int32).toInt = 216 := rfl; omega))
    have e8 : own_nm_51 p1 = own_nm_58 p1 := if_pos (own_lti (by have q : (246 : Int32).toInt = 246 := rfl; omega))
    have e9 : own_nm_58 p1 = own_nm_65 p1 := if_neg (own_nlti (by have q : (248 : Int32).toInt = 248 := rfl; omega))
    have e10 : own_nm_65 p1 = own_nm_72 p1 := if_pos (own_lti (by have q : (767 : Int32).toInt = 767 := rfl; omega))
    have e11 : own_nm_72 p1 = own_nm_79 p1 := if_neg (own_nlti (by have q : (880 : Int32).toInt = 880 := rfl; omega))
    have e12 : own_nm_79 p1 = own_nm_191 p1 := if_neg (own_nlti (by have q : (893 : Int32).toInt = 893 := rfl; omega))
    exact e0.trans (e1.trans (e2.trans (e3.trans (e4.trans (e5.trans (e6.trans (e7.trans (e8.trans (e9.trans (e10.trans (e11.trans (e12.trans (rfl)))))))))))))
  · show own_ex_0 p1 = _
    have e0 : own_ex_0 p1 = own_ex_6 p1 := if_neg (own_nlti (by have q : (65 : Int32).toInt = 65 := rfl; omega))
    have e1 : own_ex_6 p1 = own_ex_14 p1 := if_neg (own_nlti (by have q : (983039 : Int32).toInt = 983039 := rfl; omega))
    have e2 : own_ex_14 p1 = own_ex_20 p1 := if_neg (own_nlti (by have q : (91 : Int32).toInt = 91 := rfl; omega))
    have e3 : own_ex_20 p1 = own_ex_28 p1 := if_pos (own_lti (by have q : (94 : Int32).toInt = 94 := rfl; omega))
    have e4 : own_ex_28 p1 = own_ex_36 p1 := if_neg (own_neqi (by have q : (96 : Int32).toInt = 96 := rfl; omega))
    have e5 : own_ex_36 p1 = own_ex_42 p1 := if_neg (own_nlti (by have q : (123 : Int32).toInt = 123 := rfl; omega))
    have e6 : own_ex_42 p1 = own_ex_51 p1 := if_pos (own_lti (by have q : (191 : Int32).toInt = 191 := rfl; omega))
    have e7 : own_ex_51 p1 = own_ex_58 p1 := if_neg (own_neqi (by have q : (215 : Int32).toInt = 215 := rfl; omega))
    have e8 : own_ex_58 p1 = own_ex_67 p1 := if_neg (own_neqi (by have q : (247 : Int32).toInt = 247 := rfl; omega))
    have e9 : own_ex_67 p1 = own_ex_74 p1 := if_neg (own_nlti (by have q : (768 : Int32).toInt = 768 := rfl; omega))
    have e10 : own_ex_74 p1 = own_ex_83 p1 := if_pos (own_lti (by have q : (879 : Int32).toInt = 879 := rfl; omega))
    have e11 : own_ex_83 p1 = own_ex_92 p1 := if_neg (own_neqi (by have q : (894 : Int32).toInt = 894 := rfl; omega))
    have e12 : own_ex_92 p1 = own_ex_108 p1 := if_pos (own_lti (by have q : (8192 : Int32).toInt = 8192 := rfl; omega))
    have e13 : own_ex_108 p1 = own_ex_124 p1 := if_pos (own_lti (by have q : (8206 : Int32).toInt = 8206 := rfl; omega))
    have e14 : own_ex_124 p1 = own_ex_140 p1 := if_pos (own_lti (by have q : (8592 : Int32).toInt = 8592 := rfl; omega))
    have e15 : own_ex_140 p1 = own_ex_156 p1 := if_pos (own_lti (by have q : (12272 : Int32).toInt = 12272 := rfl; omega))
    have e16 : own_ex_156 p1 = own_ex_170 p1 := if_pos (own_lti (by have q : (55296 : Int32).toInt = 55296 := rfl; omega))
    have e17 : own_ex_170 p1 = own_ex_184 p1 := if_pos (own_lti (by have q : (64976 : Int32).toInt = 64976 := rfl; omega))
    have e18 : own_ex_184 p1 = own_ex_198 p1 := if_pos (own_lti (by have q : (65534 : Int32).toInt = 65534 := rfl; omega))
    exact e0.trans (e1.trans (e2.trans (e3.trans (e4.trans (e5.trans (e6.trans (e7.trans (e8.trans (e9.trans (e10.trans (e11.trans (e12.trans (e13.trans (e14.trans (e15.trans (e16.trans (e17.trans (e18.trans (rfl)))))))))))))))))))
theorem own_iv14 (p1 : Int32) (ha : (894 : Int) ≤ p1.toInt) (hb : p1.toInt ≤ 894) : own_nm_0 p1 = 0 ∧ own_ex_0 p1 = 1 := by
  constructor
  · show own_nm_0 p1 = _
    have e0 : own_nm_0 p1 = own_nm_6 p1 := if_neg (own_nlti (by have q : (97 : Int32).toInt = 97 := rfl; omega))
    have e1 : own_nm_6 p1 = own_nm_12 p1 := if_pos (own_lti (by have q : (122 : Int32).toInt = 122 := rfl; omega))
    have e2 : own_nm_12 p1 = own_nm_18 p1 := if_neg (own_nlti (by have q : (65 : Int32).toInt = 65 := rfl; omega))
    have e3 : own_nm_18 p1 = own_nm_24 p1 := if_pos (own_lti (by have q : (90 : Int32).toInt = 90 := rfl; omega))
    have e4 : own_nm_24 p1 = own_nm_30 p1 := if_neg (own_neqi (by have q : (95 : Int32).toInt = 95 := rfl; omega))
    have e5 : own_nm_30 p1 = own_nm_37 p1 := if_neg (own_nlti (by have q : (192 : Int32).toInt = 192 := rfl; omega))
    have e6 : own_nm_37 p1 = own_nm_44 p1 := if_pos (own_lti (by have q : (214 : Int32).toInt = 214 := rfl; omega))
    have e7 : own_nm_44 p1 = own_nm_51 p1 := if_neg (own_nlti (by have q : (216 : Int32).toInt = 216 := rfl; omega))
    have e8 : own_nm_51 p1 = own_nm_58 p1 := if_pos (own_lti (by have q : (246 : Int32).toInt = 246 := rfl; omega))
    have e9 : own_nm_58 p1 = own_nm_65 p1 := if_neg (own_nlti (by have q : (248 : Int32).toInt = 248 := rfl; omega))
    have e10 : own_nm_65 p1 = own_nm_72 p1 := if_pos (own_lti (by have q : (767 : Int32).toInt = 767 := rfl; omega))
    have e11 : own_nm_72 p1 = own_nm_79 p1 := if_neg (own_nlti (by have q : (880 : Int32).toInt = 880 := rfl; omega))
    have e12 : own_nm_79 p1 = own_nm_86 p1 := if_pos (own_lti (by have q : (893 : Int32).toInt = 893 := rfl; omega))
    have e13 : own_nm_86 p1 = own_nm_100 p1 := if_pos (own_lti (by have q : (895 : Int32).toInt = 895 := rfl; omega))
    have e14 : own_nm_100 p1 = own_nm_114 p1 := if_pos (own_lti (by have q : (8204 : Int32).toInt = 8204 := rfl; omega))
    have e15 : own_nm_114 p1 = own_nm_128 p1 := if_pos (own_lti (by have q : (8304 : Int32).toInt = 8304 := rfl; omega))
    have e16 : own_nm_128 p1 = own_nm_142 p1 := if_pos (own_lti (by have q : (11264 : Int32).toInt = 11264 := rfl; omega))
    have e17 : own_nm_142 p1 = own_nm_155 p1 := if_pos (own_lti (by have q : (12289 : Int32).toInt = 12289 := rfl; omega))
    have e18 : own_nm_155 p1 = own_nm_167 p1 := if_pos (own_lti (by have q : (63744 : Int32).toInt = 63744 := rfl; omega))
    have e19 : own_nm_167 p1 = own_nm_179 p1 := if_pos (own_lti (by have q : (65008 : Int32).toInt = 65008 := rfl; omega))
    have e20 : own_nm_179 p1 = own_nm_195 p1 := if_pos (own_lti (by have q : (65536 : Int32).toInt = 65536 := rfl; omega))
    exact e0.trans (e1.trans (e2.trans (e3.trans (e4.trans (e5.trans (e6.trans (e7.trans (e8.trans (e9.trans (e10.trans (e11.trans (e12.trans (e13.trans (e14.trans (e15.trans (e16.trans (e17.trans (e18.trans (e19.trans (e20.trans (rfl)))))))))))))))))))))
  · show own_ex_0 p1 = _
    have e0 : own_ex_0 p1 = own_ex_6 p1 := if_neg (own_nlti (by have q : (65 : Int32).toInt = 65 := rfl; omega))
    have e1 : own_ex_6 p1 = own_ex_14 p1 := if_neg (own_nlti (by have q : (983039 : Int32).toInt = 983039 := rfl; omega))
    have e2 : own_ex_14 p1 = own_ex_20 p1 := if_neg (own_nlti (by have q : (91 : Int32).toInt = 91 := rfl; omega))
    have e3 : own_ex_20 p1 = own_ex_28 p1 := if_pos (own_lti (by have q : (94 : Int32).toInt = 94 := rfl; omega))
    have e4 : own_ex_28 p1 = own_ex_36 p1 := if_neg (own_neqi (by have q : (96 : Int32).toInt = 96 := rfl; omega))
    have e5 : own_ex_36 p1 = own_ex_42 p1 := if_neg (own_nlti (by have q : (123 : Int32).toInt = 123 := rfl; omega))
    have e6 : own_ex_42 p1 = own_ex_51 p1 := if_pos (own_lti (by have q : (191 : Int32).toInt = 191 := rfl; omega))
    have e7 : own_ex_51 p1 = own_ex_58 p1 := if_neg (own_neqi (by have q : (215 : Int32).toInt = 215 := rfl; omega))
    have e8 : own_ex_58 p1 = own_ex_67 p1 := if_neg (own_neqi (by have q : (247 : Int32).toInt = 247 := rfl; omega))
    have e9 : own_ex_67 p1 = own_ex_74 p1 := if_neg (own_nlti (by have q : (768 : Int32).toInt = 768 := rfl; omega))
    have e10 : own_ex_74 p1 = own_ex_83 p1 := if_pos (own_lti (by have q : (879 : Int32).toInt = 879 := rfl; omega))
    have e11 : own_ex_83 p1 = own_ex_90 p1 := if_pos (own_eqi (by have q : (894 : Int32).toInt = 894 := rfl; omega))
    exact e0.trans (e1.trans (e2.trans (e3.trans (e4.trans (e5.trans (e6.trans (e7.trans (e8.trans (e9.trans (e10.trans (e11.trans (rfl))))))))))))
theorem own_iv15 (p1 : Int32) (ha : (895 : Int) ≤ p1.toInt) (hb : p1.toInt ≤ 8191) : own_nm_0 p1 = 1 ∧ own_ex_0 p1 = 0 := by
  constructor
  · show own_nm_0 p1 = _
    have e0 : own_nm_0 p1 = own_nm_6 p1 := if_neg (own_nlti (by have q : (97 : Int32).toInt = 97 := rfl; omega))
    have e1 : own_nm_6 p1 = own_nm_12 p1 := if_pos (own_lti (by have q : (122 : Int32).toInt = 122 := rfl; omega))
    have e2 : own_nm_12 p1 = own_nm_18 p1 := if_neg (own_nlti (by have q : (65 : Int32).toInt = 65 := rfl; omega))
    have e3 : own_nm_18 p1 = own_nm_24 p1 := if_pos (own_lti (by have q : (90 : Int32).toInt = 90 := rfl; omega))
    have e4 : own_nm_24 p1 = own_nm_30 p1 := if_neg (own_neqi (by have q : (95 : Int32).toInt = 95 := rfl; omega))
    have e5 : own_nm_30 p1 = own_nm_37 p1 := if_neg (own_nlti (by have q : (192 : Int32).toInt = 192 := rfl; omega))
    have e6 : own_nm_37 p1 = own_nm_44 p1 := if_pos (own_lti (by have q : (214 : Int32).toInt = 214 := rfl; omega))
    have e7 : own_nm_44 p1 = own_nm_51 p1 := if_neg (own_nlti (by have q : (216 : Int32).toInt = 216 := rfl; omega))
    have e8 : own_nm_51 p1 = own_nm_58 p1 := if_pos (own_lti (by have q : (246 : Int32).toInt = 246 := rfl; omega))
    have e9 : own_nm_58 p1 = own_nm_65 p1 := if_neg (own_nlti (by have q : (248 : Int32).toInt = 248 := rfl; omega))
    have e10 : own_nm_65 p1 = own_nm_72 p1 := if_pos (own_lti (by have q : (767 : Int32).toInt = 767 := rfl; omega))
    have e11 : own_nm_72 p1 = own_nm_79 p1 := if_neg (own_nlti (by have q : (880 : Int32).toInt = 880 := rfl; omega))
    have e12 : own_nm_79 p1 = own_nm_86 p1 := if_pos (own_lti (by have q : (893 : Int32).toInt = 893 := rfl; omega))
    have e13 : own_nm_86 p1 = own_nm_93 p1 := if_neg (own_nlti (by have q : (895 : Int32).toInt = 895 := rfl; omega))
    have e14 : own_nm_93 p1 = own_nm_191 p1 := if_neg (own_nlti (by have q : (8191 : Int32).toInt = 8191 := rfl; omega))
    exact e0.trans (e1.trans (e2.trans (e3.trans (e4.trans (e5.trans (e6.trans (e7.trans (e8.trans (e9.trans (e10.trans (e11.trans (e12.trans (e13.trans (e14.trans (rfl)))))))))))))))
  · show own_ex_0 p1 = _
    have e0 : own_ex_0 p1 = own_ex_6 p1 := if_neg (own_nlti (by have q : (65 : Int32).toInt = 65 := rfl; omega))
    have e1 : own_ex_6 p1 = own_ex_14 p1 := if_neg (own_nlti (by have q : (983039 : Int32).toInt = 983039 := rfl; omega))
    have e2 : own_ex_14 p1 = own_ex_20 p1 := if_neg (own_nlti (by have q : (91 : Int32).toInt = 91 := rfl; omega))
    have e3 : own_ex_20 p1 = own_ex_28 p1 := if_pos (own_lti (by have q : (94 : Int32).toInt = 94 := rfl; omega))
    have e4 : own_ex_28 p1 = own_ex_36 p1 := if_neg (own_neqi (by have q : (96 : Int32).toInt = 96 := rfl; omega))
    have e5 : own_ex_36 p1 = own_ex_42 p1 := if_neg (own_nlti (by have q : (123 : Int32).toInt = 123 := rfl; omega))
    have e6 : own_ex_42 p1 = own_ex_51 p1 := if_pos (own_lti (by have q : (191 : Int32).toInt = 191 := rfl; omega))
    have e7 : own_ex_51 p1 = own_ex_58 p1 := if_neg (own_neqi (by have q : (215 : Int32).toInt = 215 := rfl; omega))
    have e8 : own_ex_58 p1 = own_ex_67 p1 := if_neg (own_neqi (by have q : (247 : Int32).toInt = 247 := rfl; omega))
    have e9 : own_ex_67 p1 = own_ex_74 p1 := if_neg (own_nlti (by have q : (768 : Int32).toInt = 768 := rfl; omega))
    have e10 : own_ex_74 p1 = own_ex_83 p1 := if_pos (own_lti (by have q : (879 : Int32).toInt = 879 := rfl; omega))
    have e11 : own_ex_83 p1 = own_ex_92 p1 := if_neg (own_neqi (by have q : (894 : Int32).toInt = 894 := rfl; omega))
    have e12 : own_ex_92 p1 = own_ex_108 p1 := if_pos (own_lti (by have q : (8192 : Int32).toInt = 8192 := rfl; omega))
    have e13 : own_ex_108 p1 = own_ex_124 p1 := if_pos (own_lti (by have q : (8206 : Int32).toInt = 8206 := rfl; omega))
    have e14 : own_ex_124 p1 = own_ex_140 p1 := if_pos (own_lti (by have q : (8592 : Int32).toInt = 8592 := rfl; omega))
    have e15 : own_ex_140 p1 = own_ex_156 p1 := if_pos (own_lti (by have q : (12272 : Int32).toInt = 12272 := rfl; omega))
    have e16 : own_ex_156 p1 = own_ex_170 p1 := if_pos (own_lti (by have q : (55296 : Int32).toInt = 55296 := rfl; omega))
    have e17 : own_ex_170 p1 = own_ex_184 p1 := if_pos (own_lti (by have q : (64976 : Int32).toInt = 64976 := rfl; omega))
    have e18 : own_ex_184 p1 = own_ex_198 p1 := if_pos (own_lti (by have q : (65534 : Int32).toInt = 65534 := rfl; omega))
    exact e0.trans (e1.trans (e2.trans (e3.trans (e4.trans (e5.trans (e6.trans (e7.trans (e8.trans (e9.trans (e10.trans (e11.trans (e12.trans (e13.trans (e14.trans (e15.trans (e16.trans (e17.trans (e18.trans (rfl)))))))))))))))))))
theorem own_iv16 (p1 : Int32) (ha : (8192 : Int) ≤ p1.toInt) (hb : p1.toInt ≤ 8203) : own_nm_0 p1 = 0 ∧ own_ex_0 p1 = 1 := by
  constructor
  · show own_nm_0 p1 = _
    have e0 : own_nm_0 p1 = own_nm_6 p1 := if_neg (own_nlti (by have q : (97 : Int32).toInt = 97 := rfl; omega))
    have e1 : own_nm_6 p1 = own_nm_12 p1 := if_pos (own_lti (by have q : (122 : Int32).toInt = 122 := rfl; omega))
    have e2 : own_nm_12 p1 = own_nm_18 p1 := if_neg (own_nlti (by have q : (65 : Int32).toInt = 65 := rfl; omega))
    have e3 : own_nm_18 p1 = own_nm_24 p1 := if_pos (own_lti (by have q : (90 : Int32).toInt = 90 := rfl; omega))
    have e4 : own_nm_24 p1 = own_nm_30 p1 := if_neg (own_neqi (by have q : (95 : Int32).toInt = 95 := rfl; omega))
    have e5 : own_nm_30 p1 = own_nm_37 p1 := if_neg (own_nlti (by have q : (192 : Int32).toInt = 192 := rfl; omega))
    have e6 : own_nm_37 p1 = own_nm_44 p1 := if_pos (own_lti (by have q : (214 : Int32).toInt = 214 := rfl; omega))
    have e7 : own_nm_44 p1 = own_nm_51 p1 := if_neg (own_nlti (by have q : (216 : Int32).toInt = 216 := rfl; omega))
    have e8 : own_nm_51 p1 = own_nm_58 p1 := if_pos (own_lti (by have q : (246 : Int32).toInt = 246 := rfl; omega))
    have e9 : own_nm_58 p1 = own_nm_65 p1 := if_neg (own_nlti (by have q : (248 : Int32).toInt = 248 := rfl; omega))
    have e10 : own_nm_65 p1 = own_nm_72 p1 := if_pos (own_lti (by have q : (767 : Int32).toInt = 767 := rfl; omega))
    have e11 : own_nm_72 p1 = own_nm_79 p1 := if_neg (own_nlti (by have q : (880 : Int32).toInt = 880 := rfl; omega))
    have e12 : own_nm_79 p1 = own_nm_86 p1 := if_pos (own_lti (by have q : (893 : Int32).toInt = 893 := rfl; omega))
    have e13 : own_nm_86 p1 = own_nm_93 p1 := if_neg (own_nlti (by have q : (895 : Int32).toInt = 895 := rfl; omega))
    have e14 : own_nm_93 p1 = own_nm_100 p1 := if_pos (own_lti (by have q : (8191 : Int32).toInt = 8191 := rfl; omega))
    have e15 : own_nm_100 p1 = own_nm_114 p1 := if_pos (own_lti (by have q : (8204 : Int32).toInt = 8204 := rfl; omega))
    have e16 : own_nm_114 p1 = own_nm_128 p1 := if_pos (own_lti (by have q : (8304 : Int32).toInt = 8304 := rfl; omega))
    have e17 : own_nm_128 p1 = own_nm_142 p1 := if_pos (own_lti (by have q : (11264 : Int32).toInt = 11264 := rfl; omega))
    have e18 : own_nm_142 p1 = own_nm_155 p1 := if_pos (own_lti (by have q : (12289 : Int32).toInt = 12289 := rfl; omega))
    have e19 : own_nm_155 p1 = own_nm_167 p1 := if_pos (own_lti (by have q : (63744 : Int32).toInt = 63744 := rfl; omega))
    have e20 : own_nm_167 p1 = own_nm_179 p1 := if_pos (own_lti (by have q : (65008 : Int32).toInt = 65008 := rfl; omega))
    have e21 : own_nm_179 p1 = own_nm_195 p1 := if_pos (own_lti (by have q : (65536 : Int32).toInt = 65536 := rfl; omega))
    exact e0.trans (e1.trans (e2.trans (e3.trans (e4.trans (e5.trans (e6.trans (e7.trans (e8.trans (e9.trans (e10.trans (e11.trans (e12.trans (e13.trans (e14.trans (e15.trans (e16.trans (e17.trans (e18.trans (e19.trans (e20.trans (e21.trans (rfl))))))))))))))))))))))
  · show own_ex_0 p1 = _
    have e0 : own_ex_0 p1 = own_ex_6 p1 := if_neg (own_nlti (by have q : (65 : Int32).toInt = 65 := rfl; omega))
    have e1 : own_ex_6 p1 = own_ex_14 p1 := if_neg (own_nlti (by have q : (983039 : Int32).toInt = 983039 := rfl; omega))
    have e2 : own_ex_14 p1 = own_ex_20 p1 := if_neg (own_nlti (by have q : (91 : Int32).toInt = 91 := rfl; omega))
    have e3 : own_ex_20 p1 = own_ex_28 p1 := if_pos (own_lti (by have q : (94 : Int32).toInt = 94 := rfl; omega))
    have e4 : own_ex_28 p1 = own_ex_36 p1 := if_neg (own_neqi (by have q : (96 : Int32).toInt = 96 := rfl; omega))
    have e5 : own_ex_36 p1 = own_ex_42 p1 := if_neg (own_nlti (by have q : (123 : Int32).toInt = 123 := rfl; omega))
    have e6 : own_ex_42 p1 = own_ex_51 p1 := if_pos (own_lti (by have q : (191 : Int32).toInt = 191 := rfl; omega))
    have e7 : own_ex_51 p1 = own_ex_58 p1 := if_neg (own_neqi (by have q : (215 : Int32).toInt = 215 := rfl; omega))
    have e8 : own_ex_58 p1 = own_ex_67 p1 := if_neg (own_neqi (by have q : (247 : Int32).toInt = 247 := rfl; omega))
    have e9 : own_ex_67 p1 = own_ex_74 p1 := if_neg (own_nlti (by have q : (768 : Int32).toInt = 768 := rfl; omega))
    have e10 : own_ex_74 p1 = own_ex_83 p1 := if_pos (own_lti (by have q : (879 : Int32).toInt = 879 := rfl; omega))
    have e11 : own_ex_83 p1 = own_ex_92 p1 := if_neg (own_neqi (by have q : (894 : Int32).toInt = 894 := rfl; omega))
    have e12 : own_ex_92 p1 = own_ex_99 p1 := if_neg (own_nlti (by have q : (8192 : Int32).toInt = 8192 := rfl; omega))
    have e13 : own_ex_99 p1 = own_ex_106 p1 := if_neg (own_nlti (by have q : (8203 : Int32).toInt = 8203 := rfl; omega))
    exact e0.trans (e1.trans (e2.trans (e3.trans (e4.trans (e5.trans (e6.trans (e7.trans (e8.trans (e9.trans (e10.trans (e11.trans (e12.trans (e13.trans (rfl))))))))))))))
theorem own_iv17 (p1 : Int32) (ha : (8204 : Int) ≤ p1.toInt) (hb : p1.toInt ≤ 8205) : own_nm_0 p1 = 1 ∧ own_ex_0 p1 = 0 := by
  constructor
  · show own_nm_0 p1 = _
    have e0 : own_nm_0 p1 = own_nm_6 p1 := if_neg (own_nlti (by have q : (97 : Int32).toInt = 97 := rfl; omega))
    have e1 : own_nm_6 p1 = own_nm_12 p1 := if_pos (own_lti (by have q : (122 : Int32).toInt = 122 := rfl; omega))
    have e2 : own_nm_12 p1 = own_nm_18 p1 := if_neg (own_nlti (by have q : (65 : Int32).toInt = 65 := rfl; omega))
    have e3 : own_nm_18 p1 = own_nm_24 p1 := if_pos (own_lti (by have q : (90 : Int32).toInt = 90 := rfl; omega))
    have e4 : own_nm_24 p1 = own_nm_30 p1 := if_neg (own_neqi (by have q : (95 : Int32).toInt = 95 := rfl; omega))
    have e5 : own_nm_30 p1 = own_nm_37 p1 := if_neg (own_nlti (by have q : (192 : Int32).toInt = 192 := rfl; omega))
    have e6 : own_nm_37 p1 = own_nm_44 p1 := if_pos (own_lti (by have q : (214 : Int32).toInt = 214 := rfl; omega))
    have e7 : own_nm_44 p1 = own_nm_51 p1 := if_neg (own_nlti (by have q : (216 : Int32).toInt = 216 := rfl; omega))
    have e8 : own_nm_51 p1 = own_nm_58 p1 := if_pos (own_lti (by have q : (246 : Int32).toInt = 246 := rfl; omega))
    have e9 : own_nm_58 p1 = own_nm_65 p1 := if_neg (own_nlti (by have q : (248 : Int32).toInt = 248 := rfl; omega))
    have e10 : own_nm_65 p1 = own_nm_72 p1 := if_pos (own_lti (by have q : (767 : Int32).toInt = 767 := rfl; omega))
    have e11 : own_nm_72 p1 = own_nm_79 p1 := if_neg (own_nlti (by have q : (880 : Int32).toInt = 880 := rfl; omega))
    have e12 : own_nm_79 p1 = own_nm_86 p1 := if_pos (own_lti (by have q : (893 : Int32).toInt = 893 := rfl; omega))
    have e13 : own_nm_86 p1 = own_nm_93 p1 := if_neg (own_nlti (by have q : (895 : Int32).toInt = 895 := rfl; omega))
    have e14 : own_nm_93 p1 = own_nm_100 p1 := if_pos (own_lti (by have q : (8191 : Int32).toInt = 8191 := rfl; omega))
    have e15 : own_nm_100 p1 = own_nm_107 p1 := if_neg (own_nlti (by have q : (8204 : Int32).toInt = 8204 := rfl; omega))
    have e16 : own_nm_107 p1 = own_nm_191 p1 := if_neg (own_nlti (by have q : (8205 : Int32).toInt = 8205 := rfl; omega))
    exact e0.trans (e1.trans (e2.trans (e3.trans (e4.trans (e5.trans (e6.trans (e7.trans (e8.trans (e9.trans (e10.trans (e11.trans (e12.trans (e13.trans (e14.trans (e15.trans (e16.trans (rfl)))))))))))))))))
  · show own_ex_0 p1 = _
    have e0 : own_ex_0 p1 = own_ex_6 p1 := if_neg (own_nlti (by have q : (65 : Int32).toInt = 65 := rfl; omega))
    have e1 : own_ex_6 p1 = own_ex_14 p1 := if_neg (own_nlti (by have q : (983039 : Int32).toInt = 983039 := rfl; omega))
    have e2 : own_ex_14 p1 = own_ex_20 p1 := if_neg (own_nlti (by have q : (91 : Int32).toInt = 91 := rfl; omega))
    have e3 : own_ex_20 p1 = own_ex_28 p1 := if_pos (own_lti (by have q : (94 : Int32).toInt = 94 := rfl; omega))
    have e4 : own_ex_28 p1 = own_ex_36 p1 := if_neg (own_neqi (by have q : (96 : Int32).toInt = 96 := rfl; omega))
    have e5 : own_ex_36 p1 = own_ex_42 p1 := if_neg (own_nlti (by have q : (123 : Int32).toInt = 123 := rfl; omega))
    have e6 : own_ex_42 p1 = own_ex_51 p1 := if_pos (own_lti (by have q : (191 : Int32).toInt = 191 := rfl; omega))
    have e7 : own_ex_51 p1 = own_ex_58 p1 := if_neg (own_neqi (by have q : (215 : Int32).toInt = 215 := rfl; omega))
    have e8 : own_ex_58 p1 = own_ex_67 p1 := if_neg (own_neqi (by have q : (247 : Int32).toInt = 247 := rfl; omega))
    have e9 : own_ex_67 p1 = own_ex_74 p1 := if_neg (own_nlti (by have q : (768 : Int32).toInt = 768 := rfl; omega))
    have e10 : own_ex_74 p1 = own_ex_83 p1 := if_pos (own_lti (by have q : (879 : Int32).toInt = 879 := rfl; omega))
    have e11 : own_ex_83 p1 = own_ex_92 p1 := if_neg (own_neqi (by have q : (894 : Int32).toInt = 894 := rfl; omega))
    have e12 : own_ex_92 p1 = own_ex_99 p1 := if_neg (own_nlti (by have q : (8192 : Int32).toInt = 8192 := rfl; omega))
    have e13 : own_ex_99 p1 = own_ex_108 p1 := if_pos (own_lti (by have q : (8203 : Int32).toInt = 8203 := rfl; omega))
    have e14 : own_ex_108 p1 = own_ex_124 p1 := if_pos (own_lti (by have q : (8206 : Int32).toInt = 8206 := rfl; omega))
    have e15 : own_ex_124 p1 = own_ex_140 p1 := if_pos (own_lti (by have q : (8592 : Int32).toInt = 8592 := rfl; omega))
    have e16 : own_ex_140 p1 = own_ex_156 p1 := if_pos (own_lti (by have q : (12272 : Int32).toInt = 12272 := rfl; omega))
    have e17 : own_ex_156 p1 = own_ex_170 p1 := if_pos (own_lti (by have q : (55296 : Int32).toInt = 55296 := rfl; omega))
    have e18 : own_ex_170 p1 = own_ex_184 p1 := if_pos (own_lti (by have q : (64976 : Int32).toInt = 64976 := rfl; omega))
    have e19 : own_ex_184 p1 = own_ex_198 p1 := if_pos (own_lti (by have q : (65534 : Int32).toInt = 65534 := rfl; omega))
    exact e0.trans (e1.trans (e2.trans (e3.trans (e4.trans (e5.trans (e6.trans (e7.trans (e8.trans (e9.trans (e10.trans (e11.trans (e12.trans (e13.trans (e14.trans (e15.trans (e16.trans (e17.trans (e18.trans (e19.trans (rfl))))))))))))))))))))
theorem own_iv18 (p1 : Int32) (ha : (8206 : Int) ≤ p1.toInt) (hb : p1.toInt ≤ 8303) : own_nm_0 p1 = 0 ∧ own_ex_0 p1 = 1 := by
  constructor
  · show own_nm_0 p1 = _
    have e0 : own_nm_0 p1 = own_nm_6 p1 := if_neg (own_nlti (by have q : (97 : Int32).toInt = 97 := rfl; omega))
    have e1 : own_nm_6 p1 = own_nm_12 p1 := if_pos (own_lti (by have q : (122 : Int32).toInt = 122 := rfl; omega))
    have e2 : own_nm_12 p1 = own_nm_18 p1 := if_neg (own_nlti (by have q : (65 : Int32).toInt = 65 := rfl; omega))
    have e3 : own_nm_18 p1 = own_nm_24 p1 := if_pos (own_lti (by have q : (90 : Int32).toInt = 90 := rfl; omega))
    have e4 : own_nm_24 p1 = own_nm_30 p1 := if_neg (own_neqi (by have q : (95 : Int32).toInt = 95 := rfl; omega))
    have e5 : own_nm_30 p1 = own_nm_37 p1 := if_neg (own_nlti (by have q : (192 : Int32).toInt = 192 := rfl; omega))
    have e6 : own_nm_37 p1 = own_nm_44 p1 := if_pos (own_lti (by have q : (214 : Int32).toInt = 214 := rfl; omega))
    have e7 : own_nm_44 p1 = own_nm_51 p1 := if_neg (own_nlti (by have q : (216 : Int32).toInt = 216 := rfl; omega))
    have e8 : own_nm_51 p1 = own_nm_58 p1 := if_pos (own_lti (by have q : (246 : Int32).toInt = 246 := rfl; omega))
    have e9 : own_nm_58 p1 = own_nm_65 p1 := if_neg (own_nlti (by have q : (248 : Int32).toInt = 248 := rfl; omega))
    have e10 : own_nm_65 p1 = own_nm_72 p1 := if_pos (own_lti (by have q : (767 : Int32).toInt = 767 := rfl; omega))
    have e11 : own_nm_72 p1 = own_nm_79 p1 := if_neg (own_nlti (by have q : (880 : Int32).toInt = 880 := rfl; omega))
    have e12 : own_nm_79 p1 = own_nm_86 p1 := if_pos (own_lti (by have q : (893 : Int32).toInt = 893 := rfl; omega))
    have e13 : own_nm_86 p1 = own_nm_93 p1 := if_neg (own_nlti (by have q : (895 : Int32).toInt = 895 := rfl; omega))
    have e14 : own_nm_93 p1 = own_nm_100 p1 := if_pos (own_lti (by have q : (8191 : Int32).toInt = 8191 := rfl; omega))
    have e15 : own_nm_100 p1 = own_nm_107 p1 := if_neg (own_nlti (by have q : (8204 : Int32).toInt = 8204 := rfl; omega))
    have e16 : own_nm_107 p1 = own_nm_114 p1 := if_pos (own_lti (by have q : (8205 : Int32).toInt = 8205 := rfl; omega))
    have e17 : own_nm_114 p1 = own_nm_128 p1 := if_pos (own_lti (by have q : (8304 : Int32).toInt = 8304 := rfl; omega))
    have e18 : own_nm_128 p1 = own_nm_142 p1 := if_pos (own_lti (by have q : (11264 : Int32).toInt = 11264 := rfl; omega))
    have e19 : own_nm_142 p1 = own_nm_155 p1 := if_pos (own_lti (by have q : (12289 : Int32).toInt = 12289 := rfl; omega))
    have e20 : own_nm_155 p1 = own_nm_167 p1 := if_pos (own_lti (by have q : (63744 : Int32).toInt = 63744 := rfl; omega))
    have e21 : own_nm_167 p1 = own_nm_179 p1 := if_pos (own_lti (by have q : (65008 : Int32).toInt = 65008 := rfl; omega))
    have e22 : own_nm_179 p1 = own_nm_195 p1 := if_pos (own_lti (by have q : (65536 : Int32).toInt = 65536 := rfl; omega))
    exact e0.trans (e1.trans (e2.trans (e3.trans (e4.trans (e5.trans (e6.trans (e7.trans (e8.trans (e9.trans (e10.trans (e11.trans (e12.trans (e13.trans (e14.trans (e15.trans (e16.trans (e17.trans (e18.trans (e19.trans (e20.trans (e21.trans (e22.trans (rfl)))))))))))))))))))))))
  · show own_ex_0 p1 = _
    have e0 : own_ex_0 p1 = own_ex_6 p1 := if_neg (own_nlti (by have q : (65 : Int32).toInt = 65 := rfl; omega))
    have e1 : own_ex_6 p1 = own_ex_14 p1 := if_neg (own_nlti (by have q : (983039 : Int32).toInt = 983039 := rfl; omega))
    have e2 : own_ex_14 p1 = own_ex_20 p1 := if_neg (own_nlti (by have q : (91 : Int32).toInt = 91 := rfl; omega))
    have e3 : own_ex_20 p1 = own_ex_28 p1 := if_pos (own_lti (by have q : (94 : Int32).toInt = 94 := rfl; omega))
    have e4 : own_ex_28 p1 = own_ex_36 p1 := if_neg (own_neqi (by have q : (96 : Int32).toInt = 96 := rfl; omega))
    have e5 : own_ex_36 p1 = own_ex_42 p1 := if_neg (own_nlti (by have q : (123 : Int32).toInt = 123 := rfl; omega))
    have e6 : own_ex_42 p1 = own_ex_51 p1 := if_pos (own_lti (by have q : (191 : Int32).toInt = 191 := rfl; omega))
    have e7 : own_ex_51 p1 = own_ex_58 p1 := if_neg (own_neqi (by have q : (215 : Int32).toInt = 215 := rfl; omega))
    have e8 : own_ex_58 p1 = own_ex_67 p1 := if_neg (own_neqi (by have q : (247 : Int32).toInt = 247 := rfl; omega))
    have e9 : own_ex_67 p1 = own_ex_74 p1 := if_neg (own_nlti (by have q : (768 : Int32).toInt = 768 := rfl; omega))
    have e10 : own_ex_74 p1 = own_ex_83 p1 := if_pos (own_lti (by have q : (879 : Int32).toInt = 879 := rfl; omega))
    have e11 : own_ex_83 p1 = own_ex_92 p1 := if_neg (own_neqi (by have q : (894 : Int32).toInt = 894 := rfl; omega))
    have e12 : own_ex_92 p1 = own_ex_99 p1 := if_neg (own_nlti (by have q : (8192 : Int32).toInt = 8192 := rfl; omega))
    have e13 : own_ex_99 p1 = own_ex_108 p1 := if_pos (own_lti (by have q : (8203 : Int32).toInt = 8203 := rfl; omega))
    have e14 : own_ex_108 p1 = own_ex_115 p1 := if_neg (own_nlti (by have q : (8206 : Int32).toInt = 8206 := rfl; omega))
    have e15 : own_ex_115 p1 = own_ex_122 p1 := if_neg (own_nlti (by have q : (8303 : Int32).toInt = 8303 := rfl; omega))
    exact e0.trans (e1.trans (e2.trans (e3.trans (e4.trans (e5.trans (e6.trans (e7.trans (e8.trans (e9.trans (e10.trans (e11.trans (e12.trans (e13.trans (e14.trans (e15.trans (rfl))))))))))))))))
theorem own_iv19 (p1 : Int32) (ha : (8304 : Int) ≤ p1.toInt) (hb : p1.toInt ≤ 8591) : own_nm_0 p1 = 1 ∧ own_ex_0 p1 = 0 := by
  constructor
  · show own_nm_0 p1 = _
    have e0 : own_nm_0 p1 = own_nm_6 p1 := if_neg (own_nlti (by have q : (97 : Int32).toInt = 97 := rfl; omega))
    have e1 : own_nm_6 p1 = own_nm_12 p1 := if_pos (own_lti (by have q : (122 : Int32).toInt = 122 := rfl; omega))
    have e2 : own_nm_12 p1 = own_nm_18 p1 := if_neg (own_nlti (by have q : (65 : Int32).toInt = 65 := rfl; omega))
    have e3 : own_nm_18 p1 = own_nm_24 p1 := if_pos (own_lti (by have q : (90 : Int32).toInt = 90 := rfl; omega))
    have e4 : own_nm_24 p1 = own_nm_30 p1 := if_neg (own_neqi (by have q : (95 : Int32).toInt = 95 := rfl; omega))
    have e5 : own_nm_30 p1 = own_nm_37 p1 := if_neg (own_nlti (by have q : (192 : Int32).toInt = 192 := rfl; omega))
    have e6 : own_nm_37 p1 = own_nm_44 p1 := if_pos (own_lti (by have q : (214 : Int32).toInt = 214 := rfl; omega))
    have e7 : own_nm_44 p1 = own_nm_51 p1 := if_neg (own_nlti (by have q : (216 : Int32).toInt = 216 := rfl; omega))
    have e8 : own_nm_51 p1 = own_nm_58 p1 := if_pos (own_lti (by have q : (246 : Int32).toInt = 246 := rfl; omega))
    have e9 : own_nm_58 p1 = own_nm_65 p1 := if_neg (own_nlti (by have q : (248 : Int32).toInt = 248 := rfl; omega))
    have e10 : own_nm_65 p1 = own_nm_72 p1 := if_pos (own_lti (by have q : (767 : Int32).toInt = 767 := rfl; omega))
    have e11 : own_nm_72 p1 = own_nm_79 p1 := if_neg (own_nlti (by have q : (880 : Int32).toInt = 880 := rfl; omega))
    have e12 : own_nm_79 p1 = own_nm_86 p1 := if_pos (own_lti (by have q : (893 : Int32).toInt = 893 := rfl; omega))
    have e13 : own_nm_86 p1 = own_nm_93 p1 := if_neg (own_nlti (by have q : (895 : Int32).toInt = 895 := rfl; omega))
    have e14 : own_nm_93 p1 = own_nm_100 p1 := if_pos (own_lti (by have q : (8191 : Int32).toInt = 8191 := rfl; omega))
    have e15 : own_nm_100 p1 = own_nm_107 p1 := if_neg (own_nlti (by have q : (8204 : Int32).toInt = 8204 := rfl; omega))
    have e16 : own_nm_107 p1 = own_nm_114 p1 := if_pos (own_lti (by have q : (8205 : Int32).toInt = 8205 := rfl; omega))
    have e17 : own_nm_114 p1 = own_nm_121 p1 := if_neg (own_nlti (by have q : (8304 : Int32).toInt = 8304 := rfl; omega))
    have e18 : own_nm_121 p1 = own_nm_191 p1 := if_neg (own_nlti (by have q : (8591 : Int32).toInt = 8591 := rfl; omega))
    exact e0.trans (e1.trans (e2.trans (e3.trans (e4.trans (e5.trans (e6.trans (e7.trans (e8.trans (e9.trans (e10.trans (e11.trans (e12.trans (e13.trans (e14.trans (e15.trans (e16.trans (e17.trans (e18.trans (rfl)))))))))))))))))))
  · show own_ex_0 p1 = _
    have e0 : own_ex_0 p1 = own_ex_6 p1 := if_neg (own_nlti (by have q : (65 : Int32).toInt = 65 := rfl; omega))
    have e1 : own_ex_6 p1 = own_ex_14 p1 := if_neg (own_nlti (by have q : (983039 : Int32).toInt = 983039 := rfl; omega))
    have e2 : own_ex_14 p1 = own_ex_20 p1 := if_neg (own_nlti (by have q : (91 : Int32).toInt = 91 := rfl; omega))
    have e3 : own_ex_20 p1 = own_ex_28 p1 := if_pos (own_lti (by have q : (94 : Int32).toInt = 94 := rfl; omega))
    have e4 : own_ex_28 p1 = own_ex_36 p1 := if_neg (own_neqi (by have q : (96 : Int32).toInt = 96 := rfl; omega))
    have e5 : own_ex_36 p1 = own_ex_42 p1 := if_neg (own_nlti (by have q : (123 : Int32).toInt = 123 := rfl; omega))
    have e6 : own_ex_42 p1 = own_ex_51 p1 := if_pos (own_lti (by have q : (191 : Int32).toInt = 191 := rfl; omega))
    have e7 : own_ex_51 p1 = own_ex_58 p1 := if_neg (own_neqi (by have q : (215 : Int32).toInt = 215 := rfl; omega))
    have e8 : own_ex_58 p1 = own_ex_67 p1 := if_neg (own_neqi (by have q : (247 : Int32).toInt = 247 := rfl; omega))
    have e9 : own_ex_67 p1 = own_ex_74 p1 := if_neg (own_nlti (by have q : (768 : Int32).toInt = 768 := rfl; omega))
    have e10 : own_ex_74 p1 = own_ex_83 p1 := if_pos (own_lti (by have q : (879 : Int32).toInt = 879 := rfl; omega))
    have e11 : own_ex_83 p1 = own_ex_92 p1 := if_neg (own_neqi (by have q : (894 : Int32).toInt = 894 := rfl; omega))
    have e12 : own_ex_92 p1 = own_ex_99 p1 := if_neg (own_nlti (by have q : (8192 : Int32).toInt = 8192 := rfl; omega))
    have e13 : own_ex_99 p1 = own_ex_108 p1 := if_pos (own_lti (by have q : (8203 : Int32).toInt = 8203 := rfl; omega))
    have e14 : own_ex_108 p1 = own_ex_115 p1 := if_neg (own_nlti (by have q : (8206 : Int32).toInt = 8206 := rfl; omega))
    have e15 : own_ex_115 p1 = own_ex_124 p1 := if_pos (own_lti (by have q : (8303 : Int32).toInt = 8303 := rfl; omega))
    have e16 : own_ex_124 p1 = own_ex_140 p1 := if_pos (own_lti (by have q : (8592 : Int32).toInt = 8592 := rfl; omega))
    have e17 : own_ex_140 p1 = own_ex_156 p1 := if_pos (own_lti (by have q : (12272 : Int32).toInt = 12272 := rfl; omega))
    have e18 : own_ex_156 p1 = own_ex_170 p1 := if_pos (own_lti (by have q : (55296 : Int32).toInt = 55296 := rfl; omega))
    have e19 : own_ex_170 p1 = own_ex_184 p1 := if_pos (own_lti (by have q : (64976 : Int32).toInt = 64976 := rfl; omega))
    have e20 : own_ex_184 p1 = own_ex_198 p1 := if_pos (own_lti (by have q : (65534 : Int32).toInt = 65534 := rfl; omega))
    exact e0.trans (e1.trans (e2.trans (e3.trans (e4.trans (e5.trans (e6.trans (e7.trans (e8.trans (e9.trans (e10.trans (e11.trans (e12.trans (e13.trans (e14.trans (e15.trans (e16.trans (e17.trans (e18.trans (e19.trans (e20.trans (rfl)))))))))))))))))))))
theorem own_iv20 (p1 : Int32) (ha : (8592 : Int) ≤ p1.toInt) (hb : p1.toInt ≤ 11263) : own_nm_0 p1 = 0 ∧ own_ex_0 p1 = 1 := by
  constructor
  · show own_nm_0 p1 = _
    have e0 : own_nm_0 p1 = own_nm_6 p1 := if_neg (own_nlti (by have q : (97 : Int32).toInt = 97 := rfl; omega))
    have e1 : own_nm_6 p1 = own_nm_12 p1 := if_pos (own_lti (by have q : (122 : Int32).toInt = 122 := rfl; omega))
    have e2 : own_nm_12 p1 = own_nm_18 p1 := if_neg (own_nlti (by have q : (65 : Int32).toInt = 65 := rfl; omega))
    have e3 : own_nm_18 p1 = own_nm_24 p1 := if_pos (own_lti (by have q : (90 : Int32).toInt = 90 := rfl; omega))
    have e4 : own_nm_24 p1 = own_nm_30 p1 := if_neg (own_neqi (by have q : (95 : Int32).toInt = 95 := rfl; omega))
    have e5 : own_nm_30 p1 = own_nm_37 p1 := if_neg (own_nlti (by have q : (192 : Int32).toInt = 192 := rfl; omega))
    have e6 : own_nm_37 p1 = own_nm_44 p1 := if_pos (own_lti (by have q : (214 : Int32).toInt = 214 := rfl; omega))
    have e7 : own_nm_44 p1 = own_nm_51 p1 := if_neg (own_nlti (by have q : (216 : Int32).toInt = 216 := rfl; omega))
    have e8 : own_nm_51 p1 = own_nm_58 p1 := if_pos (own_lti (by have q : (246 : Int32).toInt = 246 := rfl; omega))
    have e9 : own_nm_58 p1 = own_nm_65 p1 := if_neg (own_nlti (by have q : (248 : Int32).toInt = 248 := rfl; omega))
    have e10 : own_nm_65 p1 = own_nm_72 p1 := if_pos (own_lti (by have q : (767 : Int32).toInt = 767 := rfl; omega))
    have e11 : own_nm_72 p1 = own_nm_79 p1 := if_neg (own_nlti (by have q : (880 : Int32).toInt = 880 := rfl; omega))
    have e12 : own_nm_79 p1 = own_nm_86 p1 := if_pos (own_lti (by have q : (893 : Int32).toInt = 893 := rfl; omega))
    have e13 : own_nm_86 p1 = own_nm_93 p1 := if_neg (own_nlti (by have q : (895 : Int32).toInt = 895 := rfl; omega))
    have e14 : own_nm_93 p1 = own_nm_100 p1 := if_pos (own_lti (by have q : (8191 : Int32).toInt = 8191 := rfl; omega))
    have e15 : own_nm_100 p1 = own_nm_107 p1 := if_neg (own_nlti (by have q : (8204 : Int32).toInt = 8204 := rfl; omega))
    have e16 : own_nm_107 p1 = own_nm_114 p1 := if_pos (own_lti (by have q : (8205 : Int32).toInt = 8205 := rfl; omega))
    have e17 : own_nm_114 p1 = own_nm_121 p1 := if_neg (own_nlti (by have q : (8304 : Int32).toInt = 8304 := rfl; omega))
    have e18 : own_nm_121 p1 = own_nm_128 p1 := if_pos (own_lti (by have q : (8591 : Int32).toInt = 8591 := rfl; omega))
    have e19 : own_nm_128 p1 = own_nm_142 p1 := if_pos (own_lti (by have q : (11264 : Int32).toInt = 11264 := rfl; omega))
    have e20 : own_nm_142 p1 = own_nm_155 p1 := if_pos (own_lti (by have q : (12289 : Int32).toInt = 12289 := rfl; omega))
    have e21 : own_nm_155 p1 = own_nm_167 p1 := if_pos (own_lti (by have q : (63744 : Int32).toInt = 63744 := rfl; omega))
    have e22 : own_nm_167 p1 = own_nm_179 p1 := if_pos (own_lti (by have q : (65008 : Int32).toInt = 65008 := rfl; omega))
    have e23 : own_nm_179 p1 = own_nm_195 p1 := if_pos (own_lti (by have q : (65536 : Int32).toInt = 65536 := rfl; omega))
    exact e0.trans (e1.trans (e2.trans (e3.trans (e4.trans (e5.trans (e6.trans (e7.trans (e8.trans (e9.trans (e10.trans (e11.trans (e12.trans (e13.trans (e14.trans (e15.trans (e16.trans (e17.trans (e18.trans (e19.trans (e20.trans (e21.trans (e22.trans (e23.trans (rfl))))))))))))))))))))))))
  · show own_ex_0 p1 = _
    have e0 : own_ex_0 p1 = own_ex_6 p1 := if_neg (own_nlti (by have q : (65 : Int32).toInt = 65 := rfl; omega))
    have e1 : own_ex_6 p1 = own_ex_14 p1 := if_neg (own_nlti (by have q : (983039 : Int32).toInt = 983039 := rfl; omega))
    have e2 : own_ex_14 p1 = own_ex_20 p1 := if_neg (own_nlti (by have q : (91 : Int32).toInt = 91 := rfl; omega))
    have e3 : own_ex_20 p1 = own_ex_28 p1 := if_pos (own_lti (by have q : (94 : Int32).toInt = 94 := rfl; omega))
    have e4 : own_ex_28 p1 = own_ex_36 p1 := if_neg (own_neqi (by have q : (96 : Int32).toInt = 96 := rfl; omega))
    have e5 : own_ex_36 p1 = own_ex_42 p1 := if_neg (own_nlti (by have q : (123 : Int32).toInt = 123 := rfl; omega))
    have e6 : own_ex_42 p1 = own_ex_51 p1 := if_pos (own_lti (by have q : (191 : Int32).toInt = 191 := rfl; omega))
    have e7 : own_ex_51 p1 = own_ex_58 p1 := if_neg (own_neqi (by have q : (215 : Int32).toInt = 215 := rfl; omega))
    have e8 : own_ex_58 p1 = own_ex_67 p1 := if_neg (own_neqi (by have q : (247 : Int32).toInt = 247 := rfl; omega))
    have e9 : own_ex_67 p1 = own_ex_74 p1 := if_neg (own_nlti (by have q : (768 : Int32).toInt = 768 := rfl; omega))
    have e10 : own_ex_74 p1 = own_ex_83 p1 := if_pos (own_lti (by have q : (879 : Int32).toInt = 879 := rfl; omega))
    have e11 : own_ex_83 p1 = own_ex_92 p1 := if_neg (own_neqi (by have q : (894 : Int32).toInt = 894 := rfl; omega))
    have e12 : own_ex_92 p1 = own_ex_99 p1 := if_neg (own_nlti (by have q : (8192 : Int32).toInt = 8192 := rfl; omega))
    have e13 : own_ex_99 p1 = own_ex_108 p1 := if_pos (own_lti (by have q : (8203 : Int32).toInt = 8203 := rfl; omega))
    have e14 : own_ex_108 p1 = own_ex_115 p1 := if_neg (own_nlti (by have q : (8206 : Int32).toInt = 8206 := rfl; omega))
    have e15 : own_ex_115 p1 = own_ex_124 p1 := if_pos (own_lti (by have q : (8303 : Int32).toInt = 8303 := rfl; omega))
    have e16 : own_ex_124 p1 = own_ex_131 p1 := if_neg (own_nlti (by have q : (8592 : Int32).toInt = 8592 := rfl; omega))
    have e17 : own_ex_131 p1 = own_ex_138 p1 := if_neg (own_nlti (by have q : (11263 : Int32).toInt = 11263 := rfl; omega))
    exact e0.trans (e1.trans (e2.trans (e3.trans (e4.trans (e5.trans (e6.trans (e7.trans (e8.trans (e9.trans (e10.trans (e11.trans (e12.trans (e13.trans (e14.trans (e15.trans (e16.trans (e17.trans (rfl))))))))))))))))))
theorem own_iv21 (p1 : Int32) (ha : (11264 : Int) ≤ p1.toInt) (hb : p1.toInt ≤ 12271) : own_nm_0 p1 = 1 ∧ own_ex_0 p1 = 0 := by
  constructor
  · show own_nm_0 p1 = _
    have e0 : own_nm_0 p1 = own_nm_6 p1 := if_neg (own_nlti (by have q : (97 : Int32).toInt = 97 := rfl; omega))
    have e1 : own_nm_6 p1 = own_nm_12 p1 := if_pos (own_lti (by have q : (122 : Int32).toInt = 122 := rfl; omega))
    have e2 : own_nm_12 p1 = own_nm_18 p1 := if_neg (own_nlti (by have q : (65 : Int32).toInt = 65 := rfl; omega))
    have e3 : own_nm_18 p1 = own_nm_24 p1 := if_pos (own_lti (by have q : (90 : Int32).toInt = 90 := rfl; omega))
    have e4 : own_nm_24 p1 = own_nm_30 p1 := if_neg (own_neqi (by have q : (95 : Int32).toInt = 95 := rfl; omega))
    have e5 : own_nm_30 p1 = own_nm_37 p1 := if_neg (own_nlti (by have q : (192 : Int32).toInt = 192 := rfl; omega))
    have e6 : own_nm_37 p1 = own_nm_44 p1 := if_pos (own_lti (by have q : (214 : Int32).toInt = 214 := rfl; omega))
    have e7 : own_nm_44 p1 = own_nm_51 p1 := if_neg (own_nlti (by have q : (216 : Int32).toInt = 216 := rfl; omega))
    have e8 : own_nm_51 p1 = own_nm_58 p1 := if_pos (own_lti (by have q : (246 : Int32).toInt = 246 := rfl; omega))
    have e9 : own_nm_58 p1 = own_nm_65 p1 := if_neg (own_nlti (by have q : (248 : Int32).toInt = 248 := rfl; omega))
    have e10 : own_nm_65 p1 = own_nm_72 p1 := if_pos (own_lti (by have q : (767 : Int32).toInt = 767 := rfl; omega))
    have e11 : own_nm_72 p1 = own_nm_79 p1 := if_neg (own_nlti (by have q : (880 : Int32).toInt = 880 := rfl; omega))
    have e12 : own_nm_79 p1 = own_nm_86 p1 := if_pos (own_lti (by have q : (893 : Int32).toInt = 893 := rfl; omega))
    have e13 : own_nm_86 p1 = own_nm_93 p1 := if_neg (own_nlti (by have q : (895 : Int32).toInt = 895 := rfl; omega))
    have e14 : own_nm_93 p1 = own_nm_100 p1 := if_pos (own_lti (by have q : (8191 : Int32).toInt = 8191 := rfl; omega))
    have e15 : own_nm_100 p1 = own_nm_107 p1 := if_neg (own_nlti (by have q : (8204 : Int32).toInt = 8204 := rfl; omega))
    have e16 : own_nm_107 p1 = own_nm_114 p1 := if_pos (own_lti (by have q : (8205 : Int32).toInt = 8205 := rfl; omega))
    have e17 : own_nm_114 p1 = own_nm_121 p1 := if_neg (own_nlti (by have q : (8304 : Int32).toInt = 8304 := rfl; omega))
    have e18 : own_nm_121 p1 = own_nm_128 p1 := if_pos (own_lti (by have q : (8591 : Int32).toInt = 8591 := rfl; omega))
    have e19 : own_nm_128 p1 = own_nm_135 p1 := if_neg (own_nlti (by have q : (11264 : Int32).toInt = 11264 := rfl; omega))
    have e20 : own_nm_135 p1 = own_nm_191 p1 := if_neg (own_nlti (by have q : (12271 : Int32).toInt = 12271 := rfl; omega))
    exact e0.trans (e1.trans (e2.trans (e3.trans (e4.trans (e5.trans (e6.trans (e7.trans (e8.trans (e9.trans (e10.trans (e11.trans (e12.trans (e13.trans (e14.trans (e15.trans (e16.trans (e17.trans (e18.trans (e19.trans (e20.trans (rfl)))))))))))))))))))))
  · show own_ex_0 p1 = _
    have e0 : own_ex_0 p1 = own_ex_6 p1 := if_neg (own_nlti (by have q : (65 : Int32).toInt = 65 := rfl; omega))
    have e1 : own_ex_6 p1 = own_ex_14 p1 := if_neg (own_nlti (by have q : (983039 : Int32).toInt = 983039 := rfl; omega))
    have e2 : own_ex_14 p1 = own_ex_20 p1 := if_neg (own_nlti (by have q : (91 : Int32).toInt = 91 := rfl; omega))
    have e3 : own_ex_20 p1 = own_ex_28 p1 := if_pos (own_lti (by have q : (94 : Int32).toInt = 94 := rfl; omega))
    have e4 : own_ex_28 p1 = own_ex_36 p1 := if_neg (own_neqi (by have q : (96 : Int32).toInt = 96 := rfl; omega))
    have e5 : own_ex_36 p1 = own_ex_42 p1 := if_neg (own_nlti (by have q : (123 : Int32).toInt = 123 := rfl; omega))
    have e6 : own_ex_42 p1 = own_ex_51 p1 := if_pos (own_lti (by have q : (191 : Int32).toInt = 191 := rfl; omega))
    have e7 : own_ex_51 p1 = own_ex_58 p1 := if_neg (own_neqi (by have q : (215 : Int32).toInt = 215 := rfl; omega))
    have e8 : own_ex_58 p1 = own_ex_67 p1 := if_neg (own_neqi (by have q : (247 : Int32).toInt = 247 := rfl; omega))
    have e9 : own_ex_67 p1 = own_ex_74 p1 := if_neg (own_nlti (by have q : (768 : Int32).toInt = 768 := rfl; omega))
    have e10 : own_ex_74 p1 = own_ex_83 p1 := if_pos (own_lti (by have q : (879 : Int32).toInt = 879 := rfl; omega))
    have e11 : own_ex_83 p1 = own_ex_92 p1 := if_neg (own_neqi (by have q : (894 : Int32).toInt = 894 := rfl; omega))
    have e12 : own_ex_92 p1 = own_ex_99 p1 := if_neg (own_nlti (by have q : (8192 : Int32).toInt = 8192 := rfl; omega))
    have e13 : own_ex_99 p1 = own_ex_108 p1 := if_pos (own_lti (by have q : (8203 : Int32).toInt = 8203 := rfl; omega))
    have e14 : own_ex_108 p1 = own_ex_115 p1 := if_neg (own_nlti (by have q : (8206 : Int32).toInt = 8206 := rfl; omega))
    have e15 : own_ex_115 p1 = own_ex_124 p1 := if_pos (own_lti (by have q : (8303 : Int32).toInt = 8303 := rfl; omega))
    have e16 : own_ex_124 p1 = own_ex_131 p1 := if_neg (own_nlti (by have q : (8592 : Int32).toInt = 8592 := rfl; omega))
    have e17 : own_ex_131 p1 = own_ex_140 p1 := if_pos (own_lti (by have q : (11263 : Int32).toInt = 11263 := rfl; omega))
    have e18 : own_ex_140 p1 = own_ex_156 p1 := if_pos (own_lti (by have q : (12272 : Int32).toInt = 12272 := rfl; omega))
    have e19 : own_ex_156 p1 = own_ex_170 p1 := if_pos (own_lti (by have q : (55296 : Int32).toInt = 55296 := rfl; omega))
    have e20 : own_ex_170 p1 = own_ex_184 p1 := if_pos (own_lti (by have q : (64976 : Int32).toInt = 64976 := rfl; omega))
    have e21 : own_ex_184 p1 = own_ex_198 p1 := if_pos (own_lti (by have q : (65534 : Int32).toInt = 65534 := rfl; omega))
    exact e0.trans (e1.trans (e2.trans (e3.trans (e4.trans (e5.trans (e6.trans (e7.trans (e8.trans (e9.trans (e10.trans (e11.trans (e12.trans (e13.trans (e14.trans (e15.trans (e16.trans (e17.trans (e18.trans (e19.trans (e20.trans (e21.trans (rfl))))))))))))))))))))))
theorem own_iv22 (p1 : Int32) (ha : (12272 : Int) ≤ p1.toInt) (hb : p1.toInt ≤ 12288) : own_nm_0 p1 = 0 ∧ own_ex_0 p1 = 1 := by
  constructor
  · show own_nm_0 p1 = _
    have e0 : own_nm_0 p1 = own_nm_6 p1 := if_neg (own_nlti (by have q : (97 : Int32).toInt = 97 := rfl; omega))
    have e1 : own_nm_6 p1 = own_nm_12 p1 := if_pos (own_lti (by have q : (122 : Int32).toInt = 122 := rfl; omega))
    have e2 : own_nm_12 p1 = own_nm_18 p1 := if_neg (own_nlti (by have q : (65 : Int32).toInt = 65 := rfl; omega))
    have e3 : own_nm_18 p1 = own_nm_24 p1 := if_pos (own_lti (by have q : (90 : Int32).toInt = 90 := rfl; omega))
    have e4 : own_nm_24 p1 = own_nm_30 p1 := if_neg (own_neqi (by have q : (95 : Int32).toInt = 95 := rfl; omega))
    have e5 : own_nm_30 p1 = own_nm_37 p1 := if_neg (own_nlti (by have q : (192 : Int32).toInt = 192 := rfl; omega))
    have e6 : own_nm_37 p1 = own_nm_44 p1 := if_pos (own_lti (by have q : (214 : Int32).toInt = 214 := rfl; omega))
    have e7 : own_nm_44 p1 = own_nm_51 p1 := if_neg (own_nlti (by have q : (216 : Int32).toInt = 216 := rfl; omega))
    have e8 : own_nm_51 p1 = own_nm_58 p1 := if_pos (own_lti (by have q : (246 : Int32).toInt = 246 := rfl; omega))
    have e9 : own_nm_58 p1 = own_nm_65 p1 := if_neg (own_nlti (by have q : (248 : Int32).toInt = 248 := rfl; omega))
    have e10 : own_nm_65 p1 = own_nm_72 p1 := if_pos (own_lti (by have q : (767 : Int32).toInt = 767 := rfl; omega))
    have e11 : own_nm_72 p1 = own_nm_79 p1 := if_neg (own_nlti (by have q : (880 : Int32).toInt = 880 := rfl; omega))
    have e12 : own_nm_79 p1 = own_nm_86 p1 := if_pos (own_lti (by have q : (893 : Int32).toInt = 893 := rfl; omega))
    have e13 : own_nm_86 p1 = own_nm_93 p1 := if_neg (own_nlti (by have q : (895 : Int32).toInt = 895 := rfl; omega))
    have e14 : own_nm_93 p1 = own_nm_100 p1 := if_pos (own_lti (by have q : (8191 : Int32).toInt = 8191 := rfl; omega))
    have e15 : own_nm_100 p1 = own_nm_107 p1 := if_neg (own_nlti (by have q : (8204 : Int32).toInt = 8204 := rfl; omega))
    have e16 : own_nm_107 p1 = own_nm_114 p1 := if_pos (own_lti (by have q : (8205 : Int32).toInt = 8205 := rfl; omega))
    have e17 : own_nm_114 p1 = own_nm_121 p1 := if_neg (own_nlti (by have q : (8304 : Int32).toInt = 8304 := rfl; omega))
    have e18 : own_nm_121 p1 = own_nm_128 p1 := if_pos (own_lti (by have q : (8591 : Int32).toInt = 8591 := rfl; omega))
    have e19 : own_nm_128 p1 = own_nm_135 p1 := if_neg (own_nlti (by have q : (11264 : Int32).toInt = 11264 := rfl; omega))
    have e20 : own_nm_135 p1 = own_nm_142 p1 := if_pos (own_lti (by have q : (12271 : Int32).toInt = 12271 := rfl; omega))
    have e21 : own_nm_142 p1 = own_nm_155 p1 := if_pos (own_lti (by have q : (12289 : Int32).toInt = 12289 := rfl; omega))
    have e22 : own_nm_155 p1 = own_nm_167 p1 := if_pos (own_lti (by have q : (63744 : Int32).toInt = 63744 := rfl; omega))
    have e23 : own_nm_167 p1 = own_nm_179 p1 := if_pos (own_lti (by have q : (65008 : Int32).toInt = 65008 := rfl; omega))
    have e24 : own_nm_179 p1 = own_nm_195 p1 := if_pos (own_lti (by have q : (65536 : Int32).toInt = 65536 := rfl; omega))
    exact e0.trans (e1.trans (e2.trans (e3.trans (e4.trans (e5.trans (e6.trans (e7.trans (e8.trans (e9.trans (e10.trans (e11.trans (e12.trans (e13.trans (e14.trans (e15.trans (e16.trans (e17.trans (e18.trans (e19.trans (e20.trans (e21.trans (e22.trans (e23.trans (e24.trans (rfl)))))))))))))))))))))))))
  · show own_ex_0 p1 = _
    have e0 : own_ex_0 p1 = own_ex_6 p1 := if_neg (own_nlti (by have q : (65 : Int32).toInt = 65 := rfl; omega))
    have e1 : own_ex_6 p1 = own_ex_14 p1 := if_neg (own_nlti (by have q : (983039 : Int32).toInt = 983039 := rfl; omega))
    have e2 : own_ex_14 p1 = own_ex_20 p1 := if_neg (own_nlti (by have q : (91 : Int32).toInt = 91 := rfl; omega))
    have e3 : own_ex_20 p1 = own_ex_28 p1 := if_pos (own_lti (by have q : (94 : Int32).toInt = 94 := rfl; omega))
    have e4 : own_ex_28 p1 = own_ex_36 p1 := if_neg (own_neqi (by have q : (96 : Int32).toInt = 96 := rfl; omega))
    have e5 : own_ex_36 p1 = own_ex_42 p1 := if_neg (own_nlti (by have q : (123 : Int32).toInt = 123 := rfl; omega))
    have e6 : own_ex_42 p1 = own_ex_51 p1 := if_pos (own_lti (by have q : (191 : Int32).toInt = 191 := rfl; omega))
    have e7 : own_ex_51 p1 = own_ex_58 p1 := if_neg (own_neqi (by have q : (215 : Int32).toInt = 215 := rfl; omega))
    have e8 : own_ex_58 p1 = own_ex_67 p1 := if_neg (own_neqi (by have q : (247 : Int32).toInt = 247 := rfl; omega))
    have e9 : own_ex_67 p1 = own_ex_74 p1 := if_neg (own_nlti (by have q : (768 : Int32).toInt = 768 := rfl; omega))
    have e10 : own_ex_74 p1 = own_ex_83 p1 := if_pos (own_lti (by have q : (879 : Int32).toInt = 879 := rfl; omega))
    have e11 : own_ex_83 p1 = own_ex_92 p1 := if_neg (own_neqi (by have q : (894 : Int32).toInt = 894 := rfl; omega))
    have e12 : own_ex_92 p1 = own_ex_99 p1 := if_neg (own_nlti (by have q : (8192 : Int32).toInt = 8192 := rfl; omega))
    have e13 : own_ex_99 p1 = own_ex_108 p1 := if_pos (own_lti (by have q : (8203 : Int32).toInt = 8203 := rfl; omega))
    have e14 : own_ex_108 p1 = own_ex_115 p1 := if_neg (own_nlti (by have q : (8206 : Int32).toInt = 8206 := rfl; omega))
    have e15 : own_ex_115 p1 = own_ex_124 p1 := if_pos (own_lti (by have q : (8303 : Int32).toInt = 8303 := rfl; omega))
    have e16 : own_ex_124 p1 = own_ex_131 p1 := if_neg (own_nlti (by have q : (8592 : Int32).toInt = 8592 := rfl; omega))
    have e17 : own_ex_131 p1 = own_ex_140 p1 := if_pos (own_lti (by have q : (11263 : Int32).toInt = 11263 := rfl; omega))
    have e18 : own_ex_140 p1 = own_ex_147 p1 := if_neg (own_nlti (by have q : (12272 : Int32).toInt = 12272 := rfl; omega))
    have e19 : own_ex_147 p1 = own_ex_154 p1 := if_neg (own_nlti (by have q : (12288 : Int32).toInt = 12288 := rfl; omega))
    exact e0.trans (e1.trans (e2.trans (e3.trans (e4.trans (e5.trans (e6.trans (e7.trans (e8.trans (e9.trans (e10.trans (e11.trans (e12.trans (e13.trans (e14.trans (e15.trans (e16.trans (e17.trans (e18.trans (e19.trans (rfl))))))))))))))))))))
theorem own_iv23 (p1 : Int32) (ha : (12289 : Int) ≤ p1.toInt) (hb : p1.toInt ≤ 55295) : own_nm_0 p1 = 1 ∧ own_ex_0 p1 = 0 := by
  constructor
  · show own_nm_0 p1 = _
    have e0 : own_nm_0 p1 = own_nm_6 p1 := if_neg (own_nlti (by have q : (97 : Int32).toInt = 97 := rfl; omega))
    have e1 : own_nm_6 p1 = own_nm_12 p1 := if_pos (own_lti (by have q : (122 : Int32).toInt = 122 := rfl; omega))
    have e2 : own_nm_12 p1 = own_nm_18 p1 := if_neg (own_nlti (by have q : (65 : Int32).toInt = 65 := rfl; omega))
    have e3 : own_nm_18 p1 = own_nm_24 p1 := if_pos (own_lti (by have q : (90 : Int32).toInt = 90 := rfl; omega))
    have e4 : own_nm_24 p1 = own_nm_30 p1 := if_neg (own_neqi (by have q : (95 : Int32).toInt = 95 := rfl; omega))
    have e5 : own_nm_30 p1 = own_nm_37 p1 := if_neg (own_nlti (by have q : (192 : Int32).toInt = 192 := rfl; omega))
    have e6 : own_nm_37 p1 = own_nm_44 p1 := if_pos (own_lti (by have q : (214 : Int32).toInt = 214 := rfl; omega))
    have e7 : own_nm_44 p1 = own_nm_51 p1 := if_neg (own_nlti (by have q : (216 : Int32).toInt = 216 := rfl; omega))
    have e8 : own_nm_51 p1 = own_nm_58 p1 := if_pos (own_lti (by have q : (246 : Int32).toInt = 246 := rfl; omega))
    have e9 : own_nm_58 p1 = own_nm_65 p1 := if_neg (own_nlti (by have q : (248 : Int32).toInt = 248 := rfl; omega))
    have e10 : own_nm_65 p1 = own_nm_72 p1 := if_pos (own_lti (by have q : (767 : Int32).toInt = 767 := rfl; omega))
    have e11 : own_nm_72 p1 = own_nm_79 p1 := if_neg (own_nlti (by have q : (880 : Int32).toInt = 880 := rfl; omega))
    have e12 : own_nm_79 p1 = own_nm_86 p1 := if_pos (own_lti (by have q : (893 : Int32).toInt = 893 := rfl; omega))
    have e13 : own_nm_86 p1 = own_nm_93 p1 := if_neg (own_nlti (by have q : (895 : Int32).toInt = 895 := rfl; omega))
    have e14 : own_nm_93 p1 = own_nm_100 p1 := if_pos (own_lti (by have q : (8191 : Int32).toInt = 8191 := rfl; omega))
    have e15 : own_nm_100 p1 = own_nm_107 p1 := if_neg (own_nlti (by have q : (8204 : Int32).toInt = 8204 := rfl; omega))
    have e16 : own_nm_107 p1 = own_nm_114 p1 := if_pos (own_lti (by have q : (8205 : Int32).toInt = 8205 := rfl; omega))
    have e17 : own_nm_114 p1 = own_nm_121 p1 := if_neg (own_nlti (by have q : (8304 : Int32).toInt = 8304 := rfl; omega))
    have e18 : own_nm_121 p1 = own_nm_128 p1 := if_pos (own_lti (by have q : (8591 : Int32).toInt = 8591 := rfl; omega))
    have e19 : own_nm_128 p1 = own_nm_135 p1 := if_neg (own_nlti (by have q : (11264 : Int32).toInt = 11264 := rfl; omega))
    have e20 : own_nm_135 p1 = own_nm_142 p1 := if_pos (own_lti (by have q : (12271 : Int32).toInt = 12271 := rfl; omega))
    have e21 : own_nm_142 p1 = own_nm_149 p1 := if_neg (own_nlti (by have q : (12289 : Int32).toInt = 12289 := rfl; omega))
    have e22 : own_nm_149 p1 = own_nm_191 p1 := if_neg (own_nlti (by have q : (55295 : Int32).toInt = 55295 := rfl; omega))
    exact e0.trans (e1.trans (e2.trans (e3.trans (e4.trans (e5.trans (e6.trans (e7.trans (e8.trans (e9.trans (e10.trans (e11.trans (e12.trans (e13.trans (e14.trans (e15.trans (e16.trans (e17.trans (e18.trans (e19.trans (e20.trans (e21.trans (e22.trans (rfl)))))))))))))))))))))))
  · show own_ex_0 p1 = _
    have e0 : own_ex_0 p1 = own_ex_6 p1 := if_neg (own_nlti (by have q : (65 : Int32).toInt = 65 := rfl; omega))
    have e1 : own_ex_6 p1 = own_ex_14 p1 := if_neg (own_nlti (by have q : (983039 : Int32).toInt = 983039 := rfl; omega))
    have e2 : own_ex_14 p1 = own_ex_20 p1 := if_neg (own_nlti (by have q : (91 : Int32).toInt = 91 := rfl; omega))
    have e3 : own_ex_20 p1 = own_ex_28 p1 := if_pos (own_lti (by have q : (94 : Int32).toInt = 94 := rfl; omega))
    have e4 : own_ex_28 p1 = own_ex_36 p1 := if_neg (own_neqi (by have q : (96 : Int32).toInt = 96 := rfl; omega))
    have e5 : own_ex_36 p1 = own_ex_42 p1 := if_neg (own_nlti (by have q : (123 : Int32).toInt = 123 := rfl; omega))
    have e6 : own_ex_42 p1 = own_ex_51 p1 := if_pos (own_lti (by have q : (191 : Int32).toInt = 191 := rfl; omega))
    have e7 : own_ex_51 p1 = own_ex_58 p1 := if_neg (own_neqi (by have q : (215 : Int32).toInt = 215 := rfl; omega))
    have e8 : own_ex_58 p1 = own_ex_67 p1 := if_neg (own_neqi (by have q : (247 : Int32).toInt = 247 := rfl; omega))
    have e9 : own_ex_67 p1 = own_ex_74 p1 := if_neg (own_nlti (by have q : (768 : Int32).toInt = 768 := rfl; omega))
    have e10 : own_ex_74 p1 = own_ex_83 p1 := if_pos (own_lti (by have q : (879 : Int32).toInt = 879 := rfl; omega))
    have e11 : own_ex_83 p1 = own_ex_92 p1 := if_neg (own_neqi (by have q : (894 : Int32).toInt = 894 := rfl; omega))
    have e12 : own_ex_92 p1 = own_ex_99 p1 := if_neg (own_nlti (by have q : (8192 : Int32).toInt = 8192 := rfl; omega))
    have e13 : own_ex_99 p1 = own_ex_108 p1 := if_pos (own_lti (by have q : (8203 : Int32).toInt = 8203 := rfl; omega))
    have e14 : own_ex_108 p1 = own_ex_115 p1 := if_neg (own_nlti (by have q : (8206 : Int32).toInt = 8206 := rfl; omega))
    have e15 : own_ex_115 p1 = own_ex_124 p1 := if_pos (own_lti (by have q : (8303 : Int32).toInt = 8303 := rfl; omega))
    have e16 : own_ex_124 p1 = own_ex_131 p1 := if_neg (own_nlti (by have q : (8592 : Int32).toInt = 8592 := rfl; omega))
    have e17 : own_ex_131 p1 = own_ex_140 p1 := if_pos (own_lti (by have q : (11263 : Int32).toInt = 11263 := rfl; omega))
    have e18 : own_ex_140 p1 = own_ex_147 p1 := if_neg (own_nlti (by have q : (12272 : Int32).toInt = 12272 := rfl; omega))
    have e19 : own_ex_147 p1 = own_ex_156 p1 := if_pos (own_lti (by have q : (12288 : Int32).toInt = 12288 := rfl; omega))
    have e20 : own_ex_156 p1 = own_ex_170 p1 := if_pos (own_lti (by have q : (55296 : Int32).toInt = 55296 := rfl; omega))
    have e21 : own_ex_170 p1 = own_ex_184 p1 := if_pos (own_lti (by have q : (64976 : Int32).toInt = 64976 := rfl; omega))
    have e22 : own_ex_184 p1 = own_ex_198 p1 := if_pos (own_lti (by have q : (65534 : Int32).toInt = 65534 := rfl; omega))
    exact e0.trans (e1.trans (e2.trans (e3.trans (e4.trans (e5.trans (e6.trans (e7.trans (e8.trans (e9.trans (e10.trans (e11.trans (e12.trans (e13.trans (e14.trans (e15.trans (e16.trans (e17.trans (e18.trans (e19.trans (e20.trans (e21.trans (e22.trans (rfl)))))))))))))))))))))))
theorem own_iv24 (p1 : Int32) (ha : (55296 : Int) ≤ p1.toInt) (hb : p1.toInt ≤ 63743) : own_nm_0 p1 = 0 ∧ own_ex_0 p1 = 1 := by
  constructor
  · show own_nm_0 p1 = _
    have e0 : own_nm_0 p1 = own_nm_6 p1 := if_neg (own_nlti (by have q : (97 : Int32).toInt = 97 := rfl; omega))
    have e1 : own_nm_6 p1 = own_nm_12 p1 := if_pos (own_lti (by have q : (122 : Int32).toInt = 122 := rfl; omega))
    have e2 : own_nm_12 p1 = own_nm_18 p1 := if_neg (own_nlti (by have q : (65 : Int32).toInt = 65 := rfl; omega))
    have e3 : own_nm_18 p1 = own_nm_24 p1 := if_pos (own_lti (by have q : (90 : Int32).toInt = 90 := rfl; omega))
    have e4 : own_nm_24 p1 = own_nm_30 p1 := if_neg (own_neqi (by have q : (95 : Int32).toInt = 95 := rfl; omega))
    have e5 : own_nm_30 p1 = own_nm_37 p1 := if_neg (own_nlti (by have q : (192 : Int32).toInt = 192 := rfl; omega))
    have e6 : own_nm_37 p1 = own_nm_44 p1 := if_pos (own_lti (by have q : (214 : Int32).toInt = 214 := rfl; omega))
    have e7 : own_nm_44 p1 = own_nm_51 p1 := if_neg (own_nlti (by have q : (216 : Int32).toInt = 216 := rfl; omega))
    have e8 : own_nm_51 p1 = own_nm_58 p1 := if_pos (own_lti (by have q : (246 : Int32).toInt = 246 := rfl; omega))
    have e9 : own_nm_58 p1 = own_nm_65 p1 := if_neg (own_nlti (by have q : (248 : Int32).toInt = 248 := rfl; omega))
    have e10 : own_nm_65 p1 = own_nm_72 p1 := if_pos (own_lti (by have q : (767 : Int32).toInt = 767 := rfl; omega))
    have e11 : own_nm_72 p1 = own_nm_79 p1 := if_neg (own_nlti (by have q : (880 : Int32).toInt = 880 := rfl; omega))
    have e12 : own_nm_79 p1 = own_nm_86 p1 := if_pos (own_lti (by have q : (893 : Int32).toInt = 893 := rfl; omega))
    have e13 : own_nm_86 p1 = own_nm_93 p1 := if_neg (own_nlti (by have q : (895 : Int32).toInt = 895 := rfl; omega))
    have e14 : own_nm_93 p1 = own_nm_100 p1 := if_pos (own_lti (by have q : (8191 : Int32).toInt = 8191 := rfl; omega))
    have e15 : own_nm_100 p1 = own_nm_107 p1 := if_neg (own_nlti (by have q : (8204 : Int32).toInt = 8204 := rfl; omega))
    have e16 : own_nm_107 p1 = own_nm_114 p1 := if_pos (own_lti (by have q : (8205 : Int32).toInt = 8205 := rfl; omega))
    have e17 : own_nm_114 p1 = own_nm_121 p1 := if_neg (own_nlti (by have q : (8304 : Int32).toInt = 8304 := rfl; omega))
    have e18 : own_nm_121 p1 = own_nm_128 p1 := if_pos (own_lti (by have q : (8591 : Int32).toInt = 8591 := rfl; omega))
    have e19 : own_nm_128 p1 = own_nm_135 p1 := if_neg (own_nlti (by have q : (11264 : Int32).toInt = 11264 := rfl; omega))
    have e20 : own_nm_135 p1 = own_nm_142 p1 := if_pos (own_lti (by have q : (12271 : Int32).toInt = 12271 := rfl; omega))
    have e21 : own_nm_142 p1 = own_nm_149 p1 := if_neg (own_nlti (by have q : (12289 : Int32).toInt = 12289 := rfl; omega))
    have e22 : own_nm_149 p1 = own_nm_155 p1 := if_pos (own_lti (by have q : (55295 : Int32).toInt = 55295 := rfl; omega))
    have e23 : own_nm_155 p1 = own_nm_167 p1 := if_pos (own_lti (by have q : (63744 : Int32).toInt = 63744 := rfl; omega))
    have e24 : own_nm_167 p1 = own_nm_179 p1 := if_pos (own_lti (by have q : (65008 : Int32).toInt = 65008 := rfl; omega))
    have e25 : own_nm_179 p1 = own_nm_195 p1 := if_pos (own_lti (by have q : (65536 : Int32).toInt = 65536 := rfl; omega))
    exact e0.trans (e1.trans (e2.trans (e3.trans (e4.trans (e5.trans (e6.trans (e7.trans (e8.trans (e9.trans (e10.trans (e11.trans (e12.trans (e13.trans (e14.trans (e15.trans (e16.trans (e17.trans (e18.trans (e19.trans (e20.trans (e21.trans (e22.trans (e23.trans (e24.trans (e25.trans (rfl))))))))))))))))))))))))))
  · show own_ex_0 p1 = _
    have e0 : own_ex_0 p1 = own_ex_6 p1 := if_neg (own_nlti (by have q : (65 : Int32).toInt = 65 := rfl; omega))
    have e1 : own_ex_6 p1 = own_ex_14 p1 := if_neg (own_nlti (by have q : (983039 : Int32).toInt = 983039 := rfl; omega))
    have e2 : own_ex_14 p1 = own_ex_20 p1 := if_neg (own_nlti (by have q : (91 : Int32).toInt = 91 := rfl; omega))
    have e3 : own_ex_20 p1 = own_ex_28 p1 := if_pos (own_lti (by have q : (94 : Int32).toInt = 94 := rfl; omega))
    have e4 : own_ex_28 p1 = own_ex_36 p1 := if_neg (own_neqi (by have q : (96 : Int32).toInt = 96 := rfl; omega))
    have e5 : own_ex_36 p1 = own_ex_42 p1 := if_neg (own_nlti (by have q : (123 : Int32).toInt = 123 := rfl; omega))
    have e6 : own_ex_42 p1 = own_ex_51 p1 := if_pos (own_lti (by have q : (191 : Int32).toInt = 191 := rfl; omega))
    have e7 : own_ex_51 p1 = own_ex_58 p1 := if_neg (own_neqi (by have q : (215 : Int32).toInt = 215 := rfl; omega))
    have e8 : own_ex_58 p1 = own_ex_67 p1 := if_neg (own_neqi (by have q : (247 : Int32).toInt = 247 := rfl; omega))
    have e9 : own_ex_67 p1 = own_ex_74 p1 := if_neg (own_nlti (by have q : (768 : Int32).toInt = 768 := rfl; omega))
    have e10 : own_ex_74 p1 = own_ex_83 p1 := if_pos (own_lti (by have q : (879 : Int32).toInt = 879 := rfl; omega))
    have e11 : own_ex_83 p1 = own_ex_92 p1 := if_neg (own_neqi (by have q : (894 : Int32).toInt = 894 := rfl; omega))
    have e12 : own_ex_92 p1 = own_ex_99 p1 := if_neg (own_nlti (by have q : (8192 : Int32).toInt = 8192 := rfl; omega))
    have e13 : own_ex_99 p1 = own_ex_108 p1 := if_pos (own_lti (by have q : (8203 : Int32).toInt = 8203 := rfl; omega))
    have e14 : own_ex_108 p1 = own_ex_115 p1 := if_neg (own_nlti (by have q : (8206 : Int32).toInt = 8206 := rfl; omega))
    have e15 : own_ex_115 p1 = own_ex_124 p1 := if_pos (own_lti (by have q : (8303 : Int32).toInt = 8303 := rfl; omega))
    have e16 : own_ex_124 p1 = own_ex_131 p1 := if_neg (own_nlti (by have q : (8592 : Int32).toInt = 8592 := rfl; omega))
    have e17 : own_ex_131 p1 = own_ex_140 p1 := if_pos (own_lti (by have q : (11263 : Int32).toInt = 11263 := rfl; omega))
    have e18 : own_ex_140 p1 = own_ex_147 p1 := if_neg (own_nlti (by have q : (12272 : Int32).toInt = 12272 := rfl; omega))
    have e19 : own_ex_147 p1 = own_ex_156 p1 := if_pos (own_lti (by have q : (12288 : Int32).toInt = 12288 := rfl; omega))
    have e20 : own_ex_156 p1 = own_ex_162 p1 := if_neg (own_nlti (by have q : (55296 : Int32).toInt = 55296 := rfl; omega))
    have e21 : own_ex_162 p1 = own_ex_168 p1 := if_neg (own_nlti (by have q : (63743 : Int32).toInt = 63743 := rfl; omega))
    exact e0.trans (e1.trans (e2.trans (e3.trans (e4.trans (e5.trans (e6.trans (e7.trans (e8.trans (e9.trans (e10.trans (e11.trans (e12.trans (e13.trans (e14.trans (e15.trans (e16.trans (e17.trans (e18.trans (e19.trans (e20.trans (e21.trans (rfl))))))))))))))))))))))
theorem own_iv25 (p1 : Int32) (ha : (63744 : Int) ≤ p1.toInt) (hb : p1.toInt ≤ 64975) : own_nm_0 p1 = 1 ∧ own_ex_0 p1 = 0 := by
  constructor
  · show own_nm_0 p1 = _
    have e0 : own_nm_0 p1 = own_nm_6 p1 := if_neg (own_nlti (by have q : (97 : Int32).toInt = 97 := rfl; omega))
    have e1 : own_nm_6 p1 = own_nm_12 p1 := if_pos (own_lti (by have q : (122 : Int32).toInt = 122 := rfl; omega))
    have e2 : own_nm_12 p1 = own_nm_18 p1 := if_neg (own_nlti (by have q : (65 : Int32).toInt = 65 := rfl; omega))
    have e3 : own_nm_18 p1 = own_nm_24 p1 := if_pos (own_lti (by have q : (90 : Int32).toInt = 90 := rfl; omega))
    have e4 : own_nm_24 p1 = own_nm_30 p1 := if_neg (own_neqi (by have q : (95 : Int32).toInt = 95 := rfl; omega))
    have e5 : own_nm_30 p1 = own_nm_37 p1 := if_neg (own_nlti (by have q : (192 : Int32).toInt = 192 := rfl; omega))
    have e6 : own_nm_37 p1 = own_nm_44 p1 := if_pos (own_lti (by have q : (214 : Int32).toInt = 214 := rfl; omega))
    have e7 : own_nm_44 p1 = own_nm_51 p1 := if_neg (own_nlti (by have q : (216 : Int32).toInt = 216 := rfl; omega))
    have e8 : own_nm_51 p1 = own_nm_58 p1 := if_pos (own_lti (by have q : (246 : Int32).toInt = 246 := rfl; omega))
    have e9 : own_nm_58 p1 = own_nm_65 p1 := if_neg (own_nlti (by have q : (248 : Int32).toInt = 248 := rfl; omega))
    have e10 : own_nm_65 p1 = own_nm_72 p1 := if_pos (own_lti (by have q : (767 : Int32).toInt = 767 := rfl; omega))
    have e11 : own_nm_72 p1 = own_nm_79 p1 := if_neg (own_nlti (by have q : (880 : Int32).toInt = 880 := rfl; omega))
    have e12 : own_nm_79 p1 = own_nm_86 p1 := if_pos (own_lti (by have q : (893 : Int32).toInt = 893 := rfl; omega))
    have e13 : own_nm_86 p1 = own_nm_93 p1 := if_neg (own_nlti (by have q : (895 : Int32).toInt = 895 := rfl; omega))
    have e14 : own_nm_93 p1 = own_nm_100 p1 := if_pos (own_lti (by have q : (8191 : Int32).toInt = 8191 := rfl; omega))
    have e15 : own_nm_100 p1 = own_nm_107 p1 := if_neg (own_nlti (by have q : (8204 : Int32).toInt = 8204 := rfl; omega))
    have e16 : own_nm_107 p1 = own_nm_114 p1 := if_pos (own_lti (by have q : (8205 : Int32).toInt = 8205 := rfl; omega))
    have e17 : own_nm_114 p1 = own_nm_121 p1 := if_neg (own_nlti (by have q : (8304 : Int32).toInt = 8304 := rfl; omega))
    have e18 : own_nm_121 p1 = own_nm_128 p1 := if_pos (own_lti (by have q : (8591 : Int32).toInt = 8591 := rfl; omega))
    have e19 : own_nm_128 p1 = own_nm_135 p1 := if_neg (own_nlti (by have q : (11264 : Int32).toInt = 11264 := rfl; omega))
    have e20 : own_nm_135 p1 = own_nm_142 p1 := if_pos (own_lti (by have q : (12271 : Int32).toInt = 12271 := rfl; omega))
    have e21 : own_nm_142 p1 = own_nm_149 p1 := if_neg (own_nlti (by have q : (12289 : Int32).toInt = 12289 := rfl; omega))
    have e22 : own_nm_149 p1 = own_nm_155 p1 := if_pos (own_lti (by have q : (55295 : Int32).toInt = 55295 := rfl; omega))
    have e23 : own_nm_155 p1 = own_nm_161 p1 := if_neg (own_nlti (by have q : (63744 : Int32).toInt = 63744 := rfl; omega))
    have e24 : own_nm_161 p1 = own_nm_191 p1 := if_neg (own_nlti (by have q : (64975 : Int32).toInt = 64975 := rfl; omega))
    exact e0.trans (e1.trans (e2.trans (e3.trans (e4.trans (e5.trans (e6.trans (e7.trans (e8.trans (e9.trans (e10.trans (e11.trans (e12.trans (e13.trans (e14.trans (e15.trans (e16.trans (e17.trans (e18.trans (e19.trans (e20.trans (e21.trans (e22.trans (e23.trans (e24.trans (rfl)))))))))))))))))))))))))
  · show own_ex_0 p1 = _
    have e0 : own_ex_0 p1 = own_ex_6 p1 := if_neg (own_nlti (by have q : (65 : Int32).toInt = 65 := rfl; omega))
    have e1 : own_ex_6 p1 = own_ex_14 p1 := if_neg (own_nlti (by have q : (983039 : Int32).toInt = 983039 := rfl; omega))
    have e2 : own_ex_14 p1 = own_ex_20 p1 := if_neg (own_nlti (by have q : (91 : Int32).toInt = 91 := rfl; omega))
    have e3 : own_ex_20 p1 = own_ex_28 p1 := if_pos (own_lti (by have q : (94 : Int32).toInt = 94 := rfl; omega))
    have e4 : own_ex_28 p1 = own_ex_36 p1 := if_neg (own_neqi (by have q : (96 : Int32).toInt = 96 := rfl; omega))
    have e5 : own_ex_36 p1 = own_ex_42 p1 := if_neg (own_nlti (by have q : (123 : Int32).toInt = 123 := rfl; omega))
    have e6 : own_ex_42 p1 = own_ex_51 p1 := if_pos (own_lti (by have q : (191 : Int32).toInt = 191 := rfl; omega))
    have e7 : own_ex_51 p1 = own_ex_58 p1 := if_neg (own_neqi (by have q : (215 : Int32).toInt = 215 := rfl; omega))
    have e8 : own_ex_58 p1 = own_ex_67 p1 := if_neg (own_neqi (by have q : (247 : Int32).toInt = 247 := rfl; omega))
    have e9 : own_ex_67 p1 = own_ex_74 p1 := if_neg (own_nlti (by have q : (768 : Int32).toInt = 768 := rfl; omega))
    have e10 : own_ex_74 p1 = own_ex_83 p1 := if_pos (own_lti (by have q : (879 : Int32).toInt = 879 := rfl; omega))
    have e11 : own_ex_83 p1 = own_ex_92 p1 := if_neg (own_neqi (by have q : (894 : Int32).toInt = 894 := rfl; omega))
    have e12 : own_ex_92 p1 = own_ex_99 p1 := if_neg (own_nlti (by have q : (8192 : Int32).toInt = 8192 := rfl; omega))
    have e13 : own_ex_99 p1 = own_ex_108 p1 := if_pos (own_lti (by have q : (8203 : Int32).toInt = 8203 := rfl; omega))
    have e14 : own_ex_108 p1 = own_ex_115 p1 := if_neg (own_nlti (by have q : (8206 : Int32).toInt = 8206 := rfl; omega))
    have e15 : own_ex_115 p1 = own_ex_124 p1 := if_pos (own_lti (by have q : (8303 : Int32).toInt = 8303 := rfl; omega))
    have e16 : own_ex_124 p1 = own_ex_131 p1 := if_neg (own_nlti (by have q : (8592 : Int32).toInt = 8592 := rfl; omega))
    have e17 : own_ex_131 p1 = own_ex_140 p1 := if_pos (own_lti (by have q : (11263 : Int32).toInt = 11263 := rfl; omega))
    have e18 : own_ex_140 p1 = own_ex_147 p1 := if_neg (own_nlti (by have q : (12272 : Int32).toInt = 12272 := rfl; omega))
    have e19 : own_ex_147 p1 = own_ex_156 p1 := if_pos (own_lti (by have q : (12288 : Int32).toInt = 12288 := rfl; omega))
    have e20 : own_ex_156 p1 = own_ex_162 p1 := if_neg (own_nlti (by have q : (55296 : Int32).toInt = 55296 := rfl; omega))
    have e21 : own_ex_162 p1 = own_ex_170 p1 := if_pos (own_lti (by have q : (63743 : Int32).toInt = 63743 := rfl; omega))
    have e22 : own_ex_170 p1 = own_ex_184 p1 := if_pos (own_lti (by have q : (64976 : Int32).toInt = 64976 := rfl; omega))
    have e23 : own_ex_184 p1 = own_ex_198 p1 := if_pos (own_lti (by have q : (65534 : Int32).toInt = 65534 := rfl; omega))
    exact e0.trans (e1.trans (e2.trans (e3.trans (e4.trans (e5.trans (e6.trans (e7.trans (e8.trans (e9.trans (e10.trans (e11.trans (e12.trans (e13.trans (e14.trans (e15.trans (e16.trans (e17.trans (e18.trans (e19.trans (e20.trans (e21.trans (e22.trans (e23.trans (rfl))))))))))))))))))))))))
theorem own_iv26 (p1 : Int32) (ha : (64976 : Int) ≤ p1.toInt) (hb : p1.toInt ≤ 65007) : own_nm_0 p1 = 0 ∧ own_ex_0 p1 = 1 := by
  constructor
  · show own_nm_0 p1 = _
    have e0 : own_nm_0 p1 = own_nm_6 p1 := if_neg (own_nlti (by have q : (97 : Int32).toInt = 97 := rfl; omega))
    have e1 : own_nm_6 p1 = own_nm_12 p1 := if_pos (own_lti (by have q : (122 : Int32).toInt = 122 := rfl; omega))
    have e2 : own_nm_12 p1 = own_nm_18 p1 := if_neg (own_nlti (by have q : (65 : Int32).toInt = 65 := rfl; omega))
    have e3 : own_nm_18 p1 = own_nm_24 p1 := if_pos (own_lti (by have q : (90 : Int32).toInt = 90 := rfl; omega))
    have e4 : own_nm_24 p1 = own_nm_30 p1 := if_neg (own_neqi (by have q : (95 : Int32).toInt = 95 := rfl; omega))
    have e5 : own_nm_30 p1 = own_nm_37 p1 := if_neg (own_nlti (by have q : (192 : Int32).toInt = 192 := rfl; omega))
    have e6 : own_nm_37 p1 = own_nm_44 p1 := if_pos (own_lti (by have q : (214 : Int32).toInt = 214 := rfl; omega))
    have e7 : own_nm_44 p1 = own_nm_51 p1 := if_neg (own_nlti (by have q : (216 : Int32).toInt = 216 := rfl; omega))
    have e8 : own_nm_51 p1 = own_nm_58 p1 := if_pos (own_lti (by have q : (246 : Int32).toInt = 246 := rfl; omega))
    have e9 : own_nm_58 p1 = own_nm_65 p1 := if_neg (own_nlti (by have q : (248 : Int32).toInt = 248 := rfl; omega))
    have e10 : own_nm_65 p1 = own_nm_72 p1 := if_pos (own_lti (by have q : (767 : Int32).toInt = 767 := rfl; omega))
    have e11 : own_nm_72 p1 = own_nm_79 p1 := if_neg (own_nlti (by have q : (880 : Int32).toInt = 880 := rfl; omega))
    have e12 : own_nm_79 p1 = own_nm_86 p1 := if_pos (own_lti (by have q : (893 : Int32).toInt = 893 := rfl; omega))
    have e13 : own_nm_86 p1 = own_nm_93 p1 := if_neg (own_nlti (by have q : (895 : Int32).toInt = 895 := rfl; omega))
    have e14 : own_nm_93 p1 = own_nm_100 p1 := if_pos (own_lti (by have q : (8191 : Int32).toInt = 8191 := rfl; omega))
    have e15 : own_nm_100 p1 = own_nm_107 p1 := if_neg (own_nlti (by have q : (8204 : Int32).toInt = 8204 := rfl; omega))
    have e16 : own_nm_107 p1 = own_nm_114 p1 := if_pos (own_lti (by have q : (8205 : Int32).toInt = 8205 := rfl; omega))
    have e17 : own_nm_114 p1 = own_nm_121 p1 := if_neg (own_nlti (by have q : (8304 : Int32).toInt = 8304 := rfl; omega))
    have e18 : own_nm_121 p1 = own_nm_128 p1 := if_pos (own_lti (by have q : (8591 : Int32).toInt = 8591 := rfl; omega))
    have e19 : own_nm_128 p1 = own_nm_135 p1 := if_neg (own_nlti (by have q : (11264 : Int32).toInt = 11264 := rfl; omega))
    have e20 : own_nm_135 p1 = own_nm_142 p1 := if_pos (own_lti (by have q : (12271 : Int32).toInt = 12271 := rfl; omega))
    have e21 : own_nm_142 p1 = own_nm_149 p1 := if_neg (own_nlti (by have q : (12289 : Int32).toInt = 12289 := rfl; omega))
    have e22 : own_nm_149 p1 = own_nm_155 p1 := if_pos (own_lti (by have q : (55295 : Int32).toInt = 55295 := rfl; omega))
    have e23 : own_nm_155 p1 = own_nm_161 p1 := if_neg (own_nlti (by have q : (63744 : Int32).toInt = 63744 := rfl; omega))
    have e24 : own_nm_161 p1 = own_nm_167 p1 := if_pos (own_lti (by have q : (64975 : Int32).toInt = 64975 := rfl; omega))
    have e25 : own_nm_167 p1 = own_nm_179 p1 := if_pos (own_lti (by have q : (65008 : Int32).toInt = 65008 := rfl; omega))
    have e26 : own_nm_179 p1 = own_nm_195 p1 := if_pos (own_lti (by have q : (65536 : Int32).toInt = 65536 := rfl; omega))
    exact e0.trans (e1.trans (e2.trans (e3.trans (e4.trans (e5.trans (e6.trans (e7.trans (e8.trans (e9.trans (e10.trans (e11.trans (e12.trans (e13.trans (e14.trans (e15.trans (e16.trans (e17.trans (e18.trans (e19.trans (e20.trans (e21.trans (e22.trans (e23.trans (e24.trans (e25.trans (e26.trans (rfl)))))))))))))))))))))))))))
  · show own_ex_0 p1 = _
    have e0 : own_ex_0 p1 = own_ex_6 p1 := if_neg (own_nlti (by have q : (65 : Int32).toInt = 65 := rfl; omega))
    have e1 : own_ex_6 p1 = own_ex_14 p1 := if_neg (own_nlti (by have q : (983039 : Int32).toInt = 983039 := rfl; omega))
    have e2 : own_ex_14 p1 = own_ex_20 p1 := if_neg (own_nlti (by have q : (91 : Int32).toInt = 91 := rfl; omega))
    have e3 : own_ex_20 p1 = own_ex_28 p1 := if_pos (own_lti (by have q : (94 : Int32).toInt = 94 := rfl; omega))
    have e4 : own_ex_28 p1 = own_ex_36 p1 := if_neg (own_neqi (by have q : (96 : Int32).toInt = 96 := rfl; omega))
    have e5 : own_ex_36 p1 = own_ex_42 p1 := if_neg (own_nlti (by have q : (123 : Int32).toInt = 123 := rfl; omega))
    have e6 : own_ex_42 p1 = own_ex_51 p1 := if_pos (own_lti (by have q : (191 : Int32).toInt = 191 := rfl; omega))
    have e7 : own_ex_51 p1 = own_ex_58 p1 := if_neg (own_neqi (by have q : (215 : Int32).toInt = 215 := rfl; omega))
    have e8 : own_ex_58 p1 = own_ex_67 p1 := if_neg (own_neqi (by have q : (247 : Int32).toInt = 247 := rfl; omega))
    have e9 : own_ex_67 p1 = own_ex_74 p1 := if_neg (own_nlti (by have q : (768 : Int32).toInt = 768 := rfl; omega))
    have e10 : own_ex_74 p1 = own_ex_83 p1 := if_pos (own_lti (by have q : (879 : Int32).toInt = 879 := rfl; omega))
    have e11 : own_ex_83 p1 = own_ex_92 p1 := if_neg (own_neqi (by have q : (894 : Int32).toInt = 894 := rfl; omega))
    have e12 : own_ex_92 p1 = own_ex_99 p1 := if_neg (own_nlti (by have q : (8192 : Int32).toInt = 8192 := rfl; omega))
    have e13 : own_ex_99 p1 = own_ex_108 p1 := if_pos (own_lti (by have q : (8203 : Int32).toInt = 8203 := rfl; omega))
    have e14 : own_ex_108 p1 = own_ex_115 p1 := if_neg (own_nlti (by have q : (8206 : Int32).toInt = 8206 := rfl; omega))
    have e15 : own_ex_115 p1 = own_ex_124 p1 := if_pos (own_lti (by have q : (8303 : Int32).toInt = 8303 := rfl; omega))
    have e16 : own_ex_124 p1 = own_ex_131 p1 := if_neg (own_nlti (by have q : (8592 : Int32).toInt = 8592 := rfl; omega))
    have e17 : own_ex_131 p1 = own_ex_140 p1 := if_pos (own_lti (by have q : (11263 : Int32).toInt = 11263 := rfl; omega))
    have e18 : own_ex_140 p1 = own_ex_147 p1 := if_neg (own_nlti (by have q : (12272 : Int32).toInt = 12272 := rfl; omega))
    have e19 : own_ex_147 p1 = own_ex_156 p1 := if_pos (own_lti (by have q : (12288 : Int32).toInt = 12288 := rfl; omega))
    have e20 : own_ex_156 p1 = own_ex_162 p1 := if_neg (own_nlti (by have q : (55296 : Int32).toInt = 55296 := rfl; omega))
    have e21 : own_ex_162 p1 = own_ex_170 p1 := if_pos (own_lti (by have q : (63743 : Int32).toInt = 63743 := rfl; omega))
    have e22 : own_ex_170 p1 = own_ex_176 p1 := if_neg (own_nlti (by have q : (64976 : Int32).toInt = 64976 := rfl; omega))
    have e23 : own_ex_176 p1 = own_ex_182 p1 := if_neg (own_nlti (by have q : (65007 : Int32).toInt = 65007 := rfl; omega))
    exact e0.trans (e1.trans (e2.trans (e3.trans (e4.trans (e5.trans (e6.trans (e7.trans (e8.trans (e9.trans (e10.trans (e11.trans (e12.trans (e13.trans (e14.trans (e15.trans (e16.trans (e17.trans (e18.trans (e19.trans (e20.trans (e21.trans (e22.trans (e23.trans (rfl))))))))))))))))))))))))
theorem own_iv27 (p1 : Int32) (ha : (65008 : Int) ≤ p1.toInt) (hb : p1.toInt ≤ 65533) : own_nm_0 p1 = 1 ∧ own_ex_0 p1 = 0 := by
  constructor
  · show own_nm_0 p1 = _
    have e0 : own_nm_0 p1 = own_nm_6 p1 := if_neg (own_nlti (by have q : (97 : Int32).toInt = 97 := rfl; omega))
    have e1 : own_nm_6 p1 = own_nm_12 p1 := if_pos (own_lti (by have q : (122 : Int32).toInt = 122 := rfl; omega))
    have e2 : own_nm_12 p1 = own_nm_18 p1 := if_neg (own_nlti (by have q : (65 : Int32).toInt = 65 := rfl; omega))
    have e3 : own_nm_18 p1 = own_nm_24 p1 := if_pos (own_lti (by have q : (90 : Int32).toInt = 90 := rfl; omega))
    have e4 : own_nm_24 p1 = own_nm_30 p1 := if_neg (own_neqi (by have q : (95 : Int32).toInt = 95 := rfl; omega))
    have e5 : own_nm_30 p1 = own_nm_37 p1 := if_neg (own_nlti (by have q : (192 : Int32).toInt = 192 := rfl; omega))
    have e6 : own_nm_37 p1 = own_nm_44 p1 := if_pos (own_lti (by have q : (214 : Int32).toInt = 214 := rfl; omega))
    have e7 : own_nm_44 p1 = own_nm_51 p1 := if_neg (own_nlti (by have q : (216 : Int32).toInt = 216 := rfl; omega))
    have e8 : own_nm_51 p1 = own_nm_58 p1 := if_pos (own_lti (by have q : (246 : Int32).toInt = 246 := rfl; omega))
    have e9 : own_nm_58 p1 = own_nm_65 p1 := if_neg (own_nlti (by have q : (248 : Int32).toInt = 248 := rfl; omega))
    have e10 : own_nm_65 p1 = own_nm_72 p1 := if_pos (own_lti (by have q : (767 : Int32).toInt = 767 := rfl; omega))
    have e11 : own_nm_72 p1 = own_nm_79 p1 := if_neg (own_nlti (by have q : (880 : Int32).toInt = 880 := rfl; omega))
    have e12 : own_nm_79 p1 = own_nm_86 p1 := if_pos (own_lti (by have q : (893 : Int32).toInt = 893 := rfl; omega))
    have e13 : own_nm_86 p1 = own_nm_93 p1 := if_neg (own_nlti (by have q : (895 : Int32).toInt = 895 := rfl; omega))
    have e14 : own_nm_93 p1 = own_nm_100 p1 := if_pos (own_lti (by have q : (8191 : Int32).toInt = 8191 := rfl; omega))
    have e15 : own_nm_100 p1 = own_nm_107 p1 := if_neg (own_nlti (by have q : (8204 : Int32).toInt = 8204 := rfl; omega))
    have e16 : own_nm_107 p1 = own_nm_114 p1 := if_pos (own_lti (by have q : (8205 : Int32).toInt = 8205 := rfl; omega))
    have e17 : own_nm_114 p1 = own_nm_121 p1 := if_neg (own_nlti (by have q : (8304 : Int32).toInt = 8304 := rfl; omega))
    have e18 : own_nm_121 p1 = own_nm_128 p1 := if_pos (own_lti (by have q : (8591 : Int32).toInt = 8591 := rfl; omega))
    have e19 : own_nm_128 p1 = own_nm_135 p1 := if_neg (own_nlti (by have q : (11264 : Int32).toInt = 11264 := rfl; omega))
    have e20 : own_nm_135 p1 = own_nm_142 p1 := if_pos (own_lti (by have q : (12271 : Int32).toInt = 12271 := rfl; omega))
    have e21 : own_nm_142 p1 = own_nm_149 p1 := if_neg (own_nlti (by have q : (12289 : Int32).toInt = 12289 := rfl; omega))
    have e22 : own_nm_149 p1 = own_nm_155 p1 := if_pos (own_lti (by have q : (55295 : Int32).toInt = 55295 := rfl; omega))
    have e23 : own_nm_155 p1 = own_nm_161 p1 := if_neg (own_nlti (by have q : (63744 : Int32).toInt = 63744 := rfl; omega))
    have e24 : own_nm_161 p1 = own_nm_167 p1 := if_pos (own_lti (by have q : (64975 : Int32).toInt = 64975 := rfl; omega))
    have e25 : own_nm_167 p1 = own_nm_173 p1 := if_neg (own_nlti (by have q : (65008 : Int32).toInt = 65008 := rfl; omega))
    have e26 : own_nm_173 p1 = own_nm_191 p1 := if_neg (own_nlti (by have q : (65533 : Int32).toInt = 65533 := rfl; omega))
    exact e0.trans (e1.trans (e2.trans (e3.trans (e4.trans (e5.trans (e6.trans (e7.trans (e8.trans (e9.trans (e10.trans (e11.trans (e12.trans (e13.trans (e14.trans (e15.trans (e16.trans (e17.trans (e18.trans (e19.trans (e20.trans (e21.trans (e22.trans (e23.trans (e24.trans (e25.trans (e26.trans (rfl)))))))))))))))))))))))))))
  · show own_ex_0 p1 = _
    have e0 : own_ex_0 p1 = own_ex_6 p1 := if_neg (own_nlti (by have q : (65 : Int32).toInt = 65 := rfl; omega))
    have e1 : own_ex_6 p1 = own_ex_14 p1 := if_neg (own_nlti (by have q : (983039 : Int32).toInt = 983039 := rfl; omega))
    have e2 : own_ex_14 p1 = own_ex_20 p1 := if_neg (own_nlti (by have q : (91 : Int32).toInt = 91 := rfl; omega))
    have e3 : own_ex_20 p1 = own_ex_28 p1 := if_pos (own_lti (by have q : (94 : Int32).toInt = 94 := rfl; omega))
    have e4 : own_ex_28 p1 = own_ex_36 p1 := if_neg (own_neqi (by have q : (96 : Int32).toInt = 96 := rfl; omega))
    have e5 : own_ex_36 p1 = own_ex_42 p1 := if_neg (own_nlti (by have q : (123 : Int32).toInt = 123 := rfl; omega))
    have e6 : own_ex_42 p1 = own_ex_51 p1 := if_pos (own_lti (by have q : (191 : Int32).toInt = 191 := rfl; omega))
    have e7 : own_ex_51 p1 = own_ex_58 p1 := if_neg (own_neqi (by have q : (215 : Int32).toInt = 215 := rfl; omega))
    have e8 : own_ex_58 p1 = own_ex_67 p1 := if_neg (own_neqi (by have q : (247 : Int32).toInt = 247 := rfl; omega))
    have e9 : own_ex_67 p1 = own_ex_74 p1 := if_neg (own_nlti (by have q : (768 : Int32).toInt = 768 := rfl; omega))
    have e10 : own_ex_74 p1 = own_ex_83 p1 := if_pos (own_lti (by have q : (879 : Int32).toInt = 879 := rfl; omega))
    have e11 : own_ex_83 p1 = own_ex_92 p1 := if_neg (own_neqi (by have q : (894 : Int32).toInt = 894 := rfl; omega))
    have e12 : own_ex_92 p1 = own_ex_99 p1 := if_neg (own_nlti (by have q : (8192 : Int32).toInt = 8192 := rfl; omega))
    have e13 : own_ex_99 p1 = own_ex_108 p1 := if_pos (own_lti (by have q : (8203 : Int32).toInt = 8203 := rfl; omega))
    have e14 : own_ex_108 p1 = own_ex_115 p1 := if_neg (own_nlti (by have q : (8206 : Int32).toInt = 8206 := rfl; omega))
    have e15 : own_ex_115 p1 = own_ex_124 p1 := if_pos (own_lti (by have q : (8303 : Int32).toInt = 8303 := rfl; omega))
    have e16 : own_ex_124 p1 = own_ex_131 p1 := if_neg (own_nlti (by have q : (8592 : Int32).toInt = 8592 := rfl; omega))
    have e17 : own_ex_131 p1 = own_ex_140 p1 := if_pos (own_lti (by have q : (11263 : Int32).toInt = 11263 := rfl; omega))
    have e18 : own_ex_140 p1 = own_ex_147 p1 := if_neg (own_nlti (by have q : (12272 : Int32).toInt = 12272 := rfl; omega))
    have e19 : own_ex_147 p1 = own_ex_156 p1 := if_pos (own_lti (by have q : (12288 : Int32).toInt = 12288 := rfl; omega))
    have e20 : own_ex_156 p1 = own_ex_162 p1 := if_neg (own_nlti (by have q : (55296 : Int32).toInt = 55296 := rfl; omega))
    have e21 : own_ex_162 p1 = own_ex_170 p1 := if_pos (own_lti (by have q : (63743 : Int32).toInt = 63743 := rfl; omega))
    have e22 : own_ex_170 p1 = own_ex_176 p1 := if_neg (own_nlti (by have q : (64976 : Int32).toInt = 64976 := rfl; omega))
    have e23 : own_ex_176 p1 = own_ex_184 p1 := if_pos (own_lti (by have q : (65007 : Int32).toInt = 65007 := rfl; omega))
    have e24 : own_ex_184 p1 = own_ex_198 p1 := if_pos (own_lti (by have q : (65534 : Int32).toInt = 65534 := rfl; omega))
    exact e0.trans (e1.trans (e2.trans (e3.trans (e4.trans (e5.trans (e6.trans (e7.trans (e8.trans (e9.trans (e10.trans (e11.trans (e12.trans (e13.trans (e14.trans (e15.trans (e16.trans (e17.trans (e18.trans (e19.trans (e20.trans (e21.trans (e22.trans (e23.trans (e24.trans (rfl)))))))))))))))))))))))))
theorem own_iv28 (p1 : Int32) (ha : (65534 : Int) ≤ p1.toInt) (hb : p1.toInt ≤ 65535) : own_nm_0 p1 = 0 ∧ own_ex_0 p1 = 1 := by
  constructor
  · show own_nm_0 p1 = _
    have e0 : own_nm_0 p1 = own_nm_6 p1 := if_neg (own_nlti (by have q : (97 : Int32).toInt = 97 := rfl; omega))
    have e1 : own_nm_6 p1 = own_nm_12 p1 := if_pos (own_lti (by have q : (122 : Int32).toInt = 122 := rfl; omega))
    have e2 : own_nm_12 p1 = own_nm_18 p1 := if_neg (own_nlti (by have q : (65 : Int32).toInt = 65 := rfl; omega))
    have e3 : own_nm_18 p1 = own_nm_24 p1 := if_pos (own_lti (by have q : (90 : Int32).toInt = 90 := rfl; omega))
    have e4 : own_nm_24 p1 = own_nm_30 p1 := if_neg (own_neqi (by have q : (95 : Int32).toInt = 95 := rfl; omega))
    have e5 : own_nm_30 p1 = own_nm_37 p1 := if_neg (own_nlti (by have q : (192 : Int32).toInt = 192 := rfl; omega))
    have e6 : own_nm_37 p1 = own_nm_44 p1 := if_pos (own_lti (by have q : (214 : Int32).toInt = 214 := rfl; omega))
    have e7 : own_nm_44 p1 = own_nm_51 p1 := if_neg (own_nlti (by have q : (216 : Int32).toInt = 216 := rfl; omega))
    have e8 : own_nm_51 p1 = own_nm_58 p1 := if_pos (own_lti (by have q : (246 : Int32).toInt = 246 := rfl; omega))
    have e9 : own_nm_58 p1 = own_nm_65 p1 := if_neg (own_nlti (by have q : (248 : Int32).toInt = 248 := rfl; omega))
    have e10 : own_nm_65 p1 = own_nm_72 p1 := if_pos (own_lti (by have q : (767 : Int32).toInt = 767 := rfl; omega))
    have e11 : own_nm_72 p1 = own_nm_79 p1 := if_neg (own_nlti (by have q : (880 : Int32).toInt = 880 := rfl; omega))
    have e12 : own_nm_79 p1 = own_nm_86 p1 := if_pos (own_lti (by have q : (893 : Int32).toInt = 893 := rfl; omega))
    have e13 : own_nm_86 p1 = own_nm_93 p1 := if_neg (own_nlti (by have q : (895 : Int32).toInt = 895 := rfl; omega))
    have e14 : own_nm_93 p1 = own_nm_100 p1 := if_pos (own_lti (by have q : (8191 : Int32).toInt = 8191 := rfl; omega))
    have e15 : own_nm_100 p1 = own_nm_107 p1 := if_neg (own_nlti (by have q : (8204 : Int32).toInt = 8204 := rfl; omega))
    have e16 : own_nm_107 p1 = own_nm_114 p1 := if_pos (own_lti (by have q : (8205 : Int32).toInt = 8205 := rfl; omega))
    have e17 : own_nm_114 p1 = own_nm_121 p1 := if_neg (own_nlti (by have q : (8304 : Int32).toInt = 8304 := rfl; omega))
    have e18 : own_nm_121 p1 = own_nm_128 p1 := if_pos (own_lti (by have q : (8591 : Int32).toInt = 8591 := rfl; omega))
    have e19 : own_nm_128 p1 = own_nm_135 p1 := if_neg (own_nlti (by have q : (11264 : Int32).toInt = 11264 := rfl; omega))
    have e20 : own_nm_135 p1 = own_nm_142 p1 := if_pos (own_lti (by have q : (12271 : Int32).toInt = 12271 := rfl; omega))
    have e21 : own_nm_142 p1 = own_nm_149 p1 := if_neg (own_nlti (by have q : (12289 : Int32).toInt = 12289 := rfl; omega))
    have e22 : own_nm_149 p1 = own_nm_155 p1 := if_pos (own_lti (by have q : (55295 : Int32).toInt = 55295 := rfl; omega))
    have e23 : own_nm_155 p1 = own_nm_161 p1 := if_neg (own_nlti (by have q : (63744 : Int32).toInt = 63744 := rfl; omega))
    have e24 : own_nm_161 p1 = own_nm_167 p1 := if_pos (own_lti (by have q : (64975 : Int32).toInt = 64975 := rfl; omega))
    have e25 : own_nm_167 p1 = own_nm_173 p1 := if_neg (own_nlti (by have q : (65008 : Int32).toInt = 65008 := rfl; omega))
    have e26 : own_nm_173 p1 = own_nm_179 p1 := if_pos (own_lti (by have q : (65533 : Int32).toInt = 65533 := rfl; omega))
    have e27 : own_nm_179 p1 = own_nm_195 p1 := if_pos (own_lti (by have q : (65536 : Int32).toInt = 65536 := rfl; omega))
    exact e0.trans (e1.trans (e2.trans (e3.trans (e4.trans (e5.trans (e6.trans (e7.trans (e8.trans (e9.trans (e10.trans (e11.trans (e12.trans (e13.trans (e14.trans (e15.trans (e16.trans (e17.trans (e18.trans (e19.trans (e20.trans (e21.trans (e22.trans (e23.trans (e24.trans (e25.trans (e26.trans (e27.trans (rfl))))))))))))))))))))))))))))
  · show own_ex_0 p1 = _
    have e0 : own_ex_0 p1 = own_ex_6 p1 := if_neg (own_nlti (by have q : (65 : Int32).toInt = 65 := rfl; omega))
    have e1 : own_ex_6 p1 = own_ex_14 p1 := if_neg (own_nlti (by have q : (983039 : Int32).toInt = 983039 := rfl; omega))
    have e2 : own_ex_14 p1 = own_ex_20 p1 := if_neg (own_nlti (by have q : (91 : Int32).toInt = 91 := rfl; omega))
    have e3 : own_ex_20 p1 = own_ex_28 p1 := if_pos (own_lti (by have q : (94 : Int32).toInt = 94 := rfl; omega))
    have e4 : own_ex_28 p1 = own_ex_36 p1 := if_neg (own_neqi (by have q : (96 : Int32).toInt = 96 := rfl; omega))
    have e5 : own_ex_36 p1 = own_ex_42 p1 := if_neg (own_nlti (by have q : (123 : Int32).toInt = 123 := rfl; omega))
    have e6 : own_ex_42 p1 = own_ex_51 p1 := if_pos (own_lti (by have q : (191 : Int32).toInt = 191 := rfl; omega))
    have e7 : own_ex_51 p1 = own_ex_58 p1 := if_neg (own_neqi (by have q : (215 : Int32).toInt = 215 := rfl; omega))
    have e8 : own_ex_58 p1 = own_ex_67 p1 := if_neg (own_neqi (by have q : (247 : Int32).toInt = 247 := rfl; omega))
    have e9 : own_ex_67 p1 = own_ex_74 p1 := if_neg (own_nlti (by have q : (768 : Int32).toInt = 768 := rfl; omega))
    have e10 : own_ex_74 p1 = own_ex_83 p1 := if_pos (own_lti (by have q : (879 : Int32).toInt = 879 := rfl; omega))
    have e11 : own_ex_83 p1 = own_ex_92 p1 := if_neg (own_neqi (by have q : (894 : Int32).toInt = 894 := rfl; omega))
    have e12 : own_ex_92 p1 = own_ex_99 p1 := if_neg (own_nlti (by have q : (8192 : Int32).toInt = 8192 := rfl; omega))
    have e13 : own_ex_99 p1 = own_ex_108 p1 := if_pos (own_lti (by have q : (8203 : Int32).toInt = 8203 := rfl; omega))
    have e14 : own_ex_108 p1 = own_ex_115 p1 := if_neg (own_nlti (by have q : (8206 : Int32).toInt = 8206 := rfl; omega))
    have e15 : own_ex_115 p1 = own_ex_124 p1 := if_pos (own_lti (by have q : (8303 : Int32).toInt = 8303 := rfl; omega))
    have e16 : own_ex_124 p1 = own_ex_131 p1 := if_neg (own_nlti (by have q : (8592 : Int32).toInt = 8592 := rfl; omega))
    have e17 : own_ex_131 p1 = own_ex_140 p1 := if_pos (own_lti (by have q : (11263 : Int32).toInt = 11263 := rfl; omega))
    have e18 : own_ex_140 p1 = own_ex_147 p1 := if_neg (own_nlti (by have q : (12272 : Int32).toInt = 12272 := rfl; omega))
    have e19 : own_ex_147 p1 = own_ex_156 p1 := if_pos (own_lti (by have q : (12288 : Int32).toInt = 12288 := rfl; omega))
    have e20 : own_ex_156 p1 = own_ex_162 p1 := if_neg (own_nlti (by have q : (55296 : Int32).toInt = 55296 := rfl; omega))
    have e21 : own_ex_162 p1 = own_ex_170 p1 := if_pos (own_lti (by have q : (63743 : Int32).toInt = 63743 := rfl; omega))
    have e22 : own_ex_170 p1 = own_ex_176 p1 := if_neg (own_nlti (by have q : (64976 : Int32).toInt = 64976 := rfl; omega))
    have e23 : own_ex_176 p1 = own_ex_184 p1 := if_pos (own_lti (by have q : (65007 : Int32).toInt = 65007 := rfl; omega))
    have e24 : own_ex_184 p1 = own_ex_190 p1 := if_neg (own_nlti (by have q : (65534 : Int32).toInt = 65534 := rfl; omega))
    have e25 : own_ex_190 p1 = own_ex_196 p1 := if_neg (own_nlti (by have q : (65535 : Int32).toInt = 65535 := rfl; omega))
    exact e0.trans (e1.trans (e2.trans (e3.trans (e4.trans (e5.trans (e6.trans (e7.trans (e8.trans (e9.trans (e10.trans (e11.trans (e12.trans (e13.trans (e14.trans (e15.trans (e16.trans (e17.trans (e18.trans (e19.trans (e20.trans (e21.trans (e22.trans (e23.trans (e24.trans (e25.trans (rfl))))))))))))))))))))))))))
theorem own_iv29 (p1 : Int32) (ha : (65536 : Int) ≤ p1.toInt) (hb : p1.toInt ≤ 983039) : own_nm_0 p1 = 1 ∧ own_ex_0 p1 = 0 := by
  constructor
  · show own_nm_0 p1 = _
    have e0 : own_nm_0 p1 = own_nm_6 p1 := if_neg (own_nlti (by have q : (97 : Int32).toInt = 97 := rfl; omega))
    have e1 : own_nm_6 p1 = own_nm_12 p1 := if_pos (own_lti (by have q : (122 : Int32).toInt = 122 := rfl; omega))
    have e2 : own_nm_12 p1 = own_nm_18 p1 := if_neg (own_nlti (by have q : (65 : Int32).toInt = 65 := rfl; omega))
    have e3 : own_nm_18 p1 = own_nm_24 p1 := if_pos (own_lti (by have q : (90 : Int32).toInt = 90 := rfl; omega))
    have e4 : own_nm_24 p1 = own_nm_30 p1 := if_neg (own_neqi (by have q : (95 : Int32).toInt = 95 := rfl; omega))
    have e5 : own_nm_30 p1 = own_nm_37 p1 := if_neg (own_nlti (by have q : (192 : Int32).toInt = 192 := rfl; omega))
    have e6 : own_nm_37 p1 = own_nm_44 p1 := if_pos (own_lti (by have q : (214 : Int32).toInt = 214 := rfl; omega))
    have e7 : own_nm_44 p1 = own_nm_51 p1 := if_neg (own_nlti (by have q : (216 : Int32).toInt = 216 := rfl; omega))
    have e8 : own_nm_51 p1 = own_nm_58 p1 := if_pos (own_lti (by have q : (246 : Int32).toInt = 246 := rfl; omega))
    have e9 : own_nm_58 p1 = own_nm_65 p1 := if_neg (own_nlti (by have q : (248 : Int32).toInt = 248 := rfl; omega))
    have e10 : own_nm_65 p1 = own_nm_72 p1 := if_pos (own_lti (by have q : (767 : Int32).toInt = 767 := rfl; omega))
    have e11 : own_nm_72 p1 = own_nm_79 p1 := if_neg (own_nlti (by have q : (880 : Int32).toInt = 880 := rfl; omega))
    have e12 : own_nm_79 p1 = own_nm_86 p1 := if_pos (own_lti (by have q : (893 : Int32).toInt = 893 := rfl; omega))
    have e13 : own_nm_86 p1 = own_nm_93 p1 := if_neg (own_nlti (by have q : (895 : Int32).toInt = 895 := rfl; omega))
    have e14 : own_nm_93 p1 = own_nm_100 p1 := if_pos (own_lti (by have q : (8191 : Int32).toInt = 8191 := rfl; omega))
    have e15 : own_nm_100 p1 = own_nm_107 p1 := if_neg (own_nlti (by have q : (8204 : Int32).toInt = 8204 := rfl; omega))
    have e16 : own_nm_107 p1 = own_nm_114 p1 := if_pos (own_lti (by have q : (8205 : Int32).toInt = 8205 := rfl; omega))
    have e17 : own_nm_114 p1 = own_nm_121 p1 := if_neg (own_nlti (by have q : (8304 : Int32).toInt = 8304 := rfl; omega))
    have e18 : own_nm_121 p1 = own_nm_128 p1 := if_pos (own_lti (by have q : (8591 : Int32).toInt = 8591 := rfl; omega))
    have e19 : own_nm_128 p1 = own_nm_135 p1 := if_neg (own_nlti (by have q : (11264 : Int32).toInt = 11264 := rfl; omega))
    have e20 : own_nm_135 p1 = own_nm_142 p1 := if_pos (own_lti (by have q : (12271 : Int32).toInt = 12271 := rfl; omega))
    have e21 : own_nm_142 p1 = own_nm_149 p1 := if_neg (own_nlti (by have q : (12289 : Int32).toInt = 12289 := rfl; omega))
    have e22 : own_nm_149 p1 = own_nm_155 p1 := if_pos (own_lti (by have q : (55295 : Int32).toInt = 55295 := rfl; omega))
    have e23 : own_nm_155 p1 = own_nm_161 p1 := if_neg (own_nlti (by have q : (63744 : Int32).toInt = 63744 := rfl; omega))
    have e24 : own_nm_161 p1 = own_nm_167 p1 := if_pos (own_lti (by have q : (64975 : Int32).toInt = 64975 := rfl; omega))
    have e25 : own_nm_167 p1 = own_nm_173 p1 := if_neg (own_nlti (by have q : (65008 : Int32).toInt = 65008 := rfl; omega))
    have e26 : own_nm_173 p1 = own_nm_179 p1 := if_pos (own_lti (by have q : (65533 : Int32).toInt = 65533 := rfl; omega))
    have e27 : own_nm_179 p1 = own_nm_185 p1 := if_neg (own_nlti (by have q : (65536 : Int32).toInt = 65536 := rfl; omega))
    have e28 : own_nm_185 p1 = own_nm_191 p1 := if_neg (own_nlti (by have q : (983039 : Int32).toInt = 983039 := rfl; omega))
    exact e0.trans (e1.trans (e2.trans (e3.trans (e4.trans (e5.trans (e6.trans (e7.trans (e8.trans (e9.trans (e10.trans (e11.trans (e12.trans (e13.trans (e14.trans (e15.trans (e16.trans (e17.trans (e18.trans (e19.trans (e20.trans (e21.trans (e22.trans (e23.trans (e24.trans (e25.trans (e26.trans (e27.trans (e28.trans (rfl)))))))))))))))))))))))))))))
  · show own_ex_0 p1 = _
    have e0 : own_ex_0 p1 = own_ex_6 p1 := if_neg (own_nlti (by have q : (65 : Int32).toInt = 65 := rfl; omega))
    have e1 : own_ex_6 p1 = own_ex_14 p1 := if_neg (own_nlti (by have q : (983039 : Int32).toInt = 983039 := rfl; omega))
    have e2 : own_ex_14 p1 = own_ex_20 p1 := if_neg (own_nlti (by have q : (91 : Int32).toInt = 91 := rfl; omega))
    have e3 : own_ex_20 p1 = own_ex_28 p1 := if_pos (own_lti (by have q : (94 : Int32).toInt = 94 := rfl; omega))
    have e4 : own_ex_28 p1 = own_ex_36 p1 := if_neg (own_neqi (by have q : (96 : Int32).toInt = 96 := rfl; omega))
    have e5 : own_ex_36 p1 = own_ex_42 p1 := if_neg (own_nlti (by have q : (123 : Int32).toInt = 123 := rfl; omega))
    have e6 : own_ex_42 p1 = own_ex_51 p1 := if_pos (own_lti (by have q : (191 : Int32).toInt = 191 := rfl; omega))
    have e7 : own_ex_51 p1 = own_ex_58 p1 := if_neg (own_neqi (by have q : (215 : Int32).toInt = 215 := rfl; omega))
    have e8 : own_ex_58 p1 = own_ex_67 p1 := if_neg (own_neqi (by have q : (247 : Int32).toInt = 247 := rfl; omega))
    have e9 : own_ex_67 p1 = own_ex_74 p1 := if_neg (own_nlti (by have q : (768 : Int32).toInt = 768 := rfl; omega))
    have e10 : own_ex_74 p1 = own_ex_83 p1 := if_pos (own_lti (by have q : (879 : Int32).toInt = 879 := rfl; omega))
    have e11 : own_ex_83 p1 = own_ex_92 p1 := if_neg (own_neqi (by have q : (894 : Int32).toInt = 894 := rfl; omega))
    have e12 : own_ex_92 p1 = own_ex_99 p1 := if_neg (own_nlti (by have q : (8192 : Int32).toInt = 8192 := rfl; omega))
    have e13 : own_ex_99 p1 = own_ex_108 p1 := if_pos (own_lti (by have q : (8203 : Int32).toInt = 8203 := rfl; omega))
    have e14 : own_ex_108 p1 = own_ex_115 p1 := if_neg (own_nlti (by have q : (8206 : Int32).toInt = 8206 := rfl; omega))
    have e15 : own_ex_115 p1 = own_ex_124 p1 := if_pos (own_lti (by have q : (8303 : Int32).toInt = 8303 := rfl; omega))
    have e16 : own_ex_124 p1 = own_ex_131 p1 := if_neg (own_nlti (by have q : (8592 : Int32).toInt = 8592 := rfl; omega))
    have e17 : own_ex_131 p1 = own_ex_140 p1 := if_pos (own_lti (by have q : (11263 : Int32).toInt = 11263 := rfl; omega))
    have e18 : own_ex_140 p1 = own_ex_147 p1 := if_neg (own_nlti (by have q : (12272 : Int32).toInt = 12272 := rfl; omega))
    have e19 : own_ex_147 p1 = own_ex_156 p1 := if_pos (own_lti (by have q : (12288 : Int32).toInt = 12288 := rfl; omega))
    have e20 : own_ex_156 p1 = own_ex_162 p1 := if_neg (own_nlti (by have q : (55296 : Int32).toInt = 55296 := rfl; omega))
    have e21 : own_ex_162 p1 = own_ex_170 p1 := if_pos (own_lti (by have q : (63743 : Int32).toInt = 63743 := rfl; omega))
    have e22 : own_ex_170 p1 = own_ex_176 p1 := if_neg (own_nlti (by have q : (64976 : Int32).toInt = 64976 := rfl; omega))
    have e23 : own_ex_176 p1 = own_ex_184 p1 := if_pos (own_lti (by have q : (65007 : Int32).toInt = 65007 := rfl; omega))
    have e24 : own_ex_184 p1 = own_ex_190 p1 := if_neg (own_nlti (by have q : (65534 : Int32).toInt = 65534 := rfl; omega))
    have e25 : own_ex_190 p1 = own_ex_198 p1 := if_pos (own_lti (by have q : (65535 : Int32).toInt = 65535 := rfl; omega))
    exact e0.trans (e1.trans (e2.trans (e3.trans (e4.trans (e5.trans (e6.trans (e7.trans (e8.trans (e9.trans (e10.trans (e11.trans (e12.trans (e13.trans (e14.trans (e15.trans (e16.trans (e17.trans (e18.trans (e19.trans (e20.trans (e21.trans (e22.trans (e23.trans (e24.trans (e25.trans (rfl))))))))))))))))))))))))))
theorem own_iv30 (p1 : Int32) (ha : (983040 : Int) ≤ p1.toInt) (hb : p1.toInt ≤ 2147483647) : own_nm_0 p1 = 0 ∧ own_ex_0 p1 = 1 := by
  constructor
  · show own_nm_0 p1 = _
    have e0 : own_nm_0 p1 = own_nm_6 p1 := if_neg (own_nlti (by have q : (97 : Int32).toInt = 97 := rfl; omega))
    have e1 : own_nm_6 p1 = own_nm_12 p1 := if_pos (own_lti (by have q : (122 : Int32).toInt = 122 := rfl; omega))
    have e2 : own_nm_12 p1 = own_nm_18 p1 := if_neg (own_nlti (by have q : (65 : Int32).toInt = 65 := rfl; omega))
    have e3 : own_nm_18 p1 = own_nm_24 p1 := if_pos (own_lti (by have q : (90 : Int32).toInt = 90 := rfl; omega))
    have e4 : own_nm_24 p1 = own_nm_30 p1 := if_neg (own_neqi (by have q : (95 : Int32).toInt = 95 := rfl; omega))
    have e5 : own_nm_30 p1 = own_nm_37 p1 := if_neg (own_nlti (by have q : (192 : Int32).toInt = 192 := rfl; omega))
    have e6 : own_nm_37 p1 = own_nm_44 p1 := if_pos (own_lti (by have q : (214 : Int32).toInt = 214 := rfl; omega))
    have e7 : own_nm_44 p1 = own_nm_51 p1 := if_neg (own_nlti (by have q : (216 : Int32).toInt = 216 := rfl; omega))
    have e8 : own_nm_51 p1 = own_nm_58 p1 := if_pos (own_lti (by have q : (246 : Int32).toInt = 246 := rfl; omega))
    have e9 : own_nm_58 p1 = own_nm_65 p1 := if_neg (own_nlti (by have q : (248 : Int32).toInt = 248 := rfl; omega))
    have e10 : own_nm_65 p1 = own_nm_72 p1 := if_pos (own_lti (by have q : (767 : Int32).toInt = 767 := rfl; omega))
    have e11 : own_nm_72 p1 = own_nm_79 p1 := if_neg (own_nlti (by have q : (880 : Int32).toInt = 880 := rfl; omega))
    have e12 : own_nm_79 p1 = own_nm_86 p1 := if_pos (own_lti (by have q : (893 : Int32).toInt = 893 := rfl; omega))
    have e13 : own_nm_86 p1 = own_nm_93 p1 := if_neg (own_nlti (by have q : (895 : Int32).toInt = 895 := rfl; omega))
    have e14 : own_nm_93 p1 = own_nm_100 p1 := if_pos (own_lti (by have q : (8191 : Int32).toInt = 8191 := rfl; omega))
    have e15 : own_nm_100 p1 = own_nm_107 p1 := if_neg (own_nlti (by have q : (8204 : Int32).toInt = 8204 := rfl; omega))
    have e16 : own_nm_107 p1 = own_nm_114 p1 := if_pos (own_lti (by have q : (8205 : Int32).toInt = 8205 := rfl; omega))
    have e17 : own_nm_114 p1 = own_nm_121 p1 := if_neg (own_nlti (by have q : (8304 : Int32).toInt = 8304 := rfl; omega))
    have e18 : own_nm_121 p1 = own_nm_128 p1 := if_pos (own_lti (by have q : (8591 : Int32).toInt = 8591 := rfl; omega))
    have e19 : own_nm_128 p1 = own_nm_135 p1 := if_neg (own_nlti (by have q : (11264 : Int32).toInt = 11264 := rfl; omega))
    have e20 : own_nm_135 p1 = own_nm_142 p1 := if_pos (own_lti (by have q : (12271 : Int32).toInt = 12271 := rfl; omega))
    have e21 : own_nm_142 p1 = own_nm_149 p1 := if_neg (own_nlti (by have q : (12289 : Int32).toInt = 12289 := rfl; omega))
    have e22 : own_nm_149 p1 = own_nm_155 p1 := if_pos (own_lti (by have q : (55295 : Int32).toInt = 55295 := rfl; omega))
    have e23 : own_nm_155 p1 = own_nm_161 p1 := if_neg (own_nlti (by have q : (63744 : Int32).toInt = 63744 := rfl; omega))
    have e24 : own_nm_161 p1 = own_nm_167 p1 := if_pos (own_lti (by have q : (64975 : Int32).toInt = 64975 := rfl; omega))
    have e25 : own_nm_167 p1 = own_nm_173 p1 := if_neg (own_nlti (by have q : (65008 : Int32).toInt = 65008 := rfl; omega))
    have e26 : own_nm_173 p1 = own_nm_179 p1 := if_pos (own_lti (by have q : (65533 : Int32).toInt = 65533 := rfl; omega))
    have e27 : own_nm_179 p1 = own_nm_185 p1 := if_neg (own_nlti (by have q : (65536 : Int32).toInt = 65536 := rfl; omega))
    have e28 : own_nm_185 p1 = own_nm_195 p1 := if_pos (own_lti (by have q : (983039 : Int32).toInt = 983039 := rfl; omega))
    exact e0.trans (e1.trans (e2.trans (e3.trans (e4.trans (e5.trans (e6.trans (e7.trans (e8.trans (e9.trans (e10.trans (e11.trans (e12.trans (e13.trans (e14.trans (e15.trans (e16.trans (e17.trans (e18.trans (e19.trans (e20.trans (e21.trans (e22.trans (e23.trans (e24.trans (e25.trans (e26.trans (e27.trans (e28.trans (rfl)))))))))))))))))))))))))))))
  · show own_ex_0 p1 = _
    have e0 : own_ex_0 p1 = own_ex_6 p1 := if_neg (own_nlti (by have q : (65 : Int32).toInt = 65 := rfl; omega))
    have e1 : own_ex_6 p1 = own_ex_12 p1 := if_pos (own_lti (by have q : (983039 : Int32).toInt = 983039 := rfl; omega))
    exact e0.trans (e1.trans (rfl))
theorem own_law (p1 : Int32) : own_nm_0 p1 = if own_ex_0 p1 = 0 then 1 else 0 := by
  have g := rng32 p1
  by_cases c0 : p1.toInt ≤ 64
  · obtain ⟨q1, q2⟩ := own_iv0 p1 (by omega) c0
    rw [q1, q2]; rfl
  by_cases c1 : p1.toInt ≤ 90
  · obtain ⟨q1, q2⟩ := own_iv1 p1 (by omega) c1
    rw [q1, q2]; rfl
  by_cases c2 : p1.toInt ≤ 94
  · obtain ⟨q1, q2⟩ := own_iv2 p1 (by omega) c2
    rw [q1, q2]; rfl
  by_cases c3 : p1.toInt ≤ 95
  · obtain ⟨q1, q2⟩ := own_iv3 p1 (by omega) c3
    rw [q1, q2]; rfl
  by_cases c4 : p1.toInt ≤ 96
  · obtain ⟨q1, q2⟩ := own_iv4 p1 (by omega) c4
    rw [q1, q2]; rfl
  by_cases c5 : p1.toInt ≤ 122
  · obtain ⟨q1, q2⟩ := own_iv5 p1 (by omega) c5
    rw [q1, q2]; rfl
  by_cases c6 : p1.toInt ≤ 191
  · obtain ⟨q1, q2⟩ := own_iv6 p1 (by omega) c6
    rw [q1, q2]; rfl
  by_cases c7 : p1.toInt ≤ 214
  · obtain ⟨q1, q2⟩ := own_iv7 p1 (by omega) c7
    rw [q1, q2]; rfl
  by_cases c8 : p1.toInt ≤ 215
  · obtain ⟨q1, q2⟩ := own_iv8 p1 (by omega) c8
    rw [q1, q2]; rfl
  by_cases c9 : p1.toInt ≤ 246
  · obtain ⟨q1, q2⟩ := own_iv9 p1 (by omega) c9
    rw [q1, q2]; rfl
  by_cases c10 : p1.toInt ≤ 247
  · obtain ⟨q1, q2⟩ := own_iv10 p1 (by omega) c10
    rw [q1, q2]; rfl
  by_cases c11 : p1.toInt ≤ 767
  · obtain ⟨q1, q2⟩ := own_iv11 p1 (by omega) c11
    rw [q1, q2]; rfl
  by_cases c12 : p1.toInt ≤ 879
  · obtain ⟨q1, q2⟩ := own_iv12 p1 (by omega) c12
    rw [q1, q2]; rfl
  by_cases c13 : p1.toInt ≤ 893
  · obtain ⟨q1, q2⟩ := own_iv13 p1 (by omega) c13
    rw [q1, q2]; rfl
  by_cases c14 : p1.toInt ≤ 894
  · obtain ⟨q1, q2⟩ := own_iv14 p1 (by omega) c14
    rw [q1, q2]; rfl
  by_cases c15 : p1.toInt ≤ 8191
  · obtain ⟨q1, q2⟩ := own_iv15 p1 (by omega) c15
    rw [q1, q2]; rfl
  by_cases c16 : p1.toInt ≤ 8203
  · obtain ⟨q1, q2⟩ := own_iv16 p1 (by omega) c16
    rw [q1, q2]; rfl
  by_cases c17 : p1.toInt ≤ 8205
  · obtain ⟨q1, q2⟩ := own_iv17 p1 (by omega) c17
    rw [q1, q2]; rfl
  by_cases c18 : p1.toInt ≤ 8303
  · obtain ⟨q1, q2⟩ := own_iv18 p1 (by omega) c18
    rw [q1, q2]; rfl
  by_cases c19 : p1.toInt ≤ 8591
  · obtain ⟨q1, q2⟩ := own_iv19 p1 (by omega) c19
    rw [q1, q2]; rfl
  by_cases c20 : p1.toInt ≤ 11263
  · obtain ⟨q1, q2⟩ := own_iv20 p1 (by omega) c20
    rw [q1, q2]; rfl
  by_cases c21 : p1.toInt ≤ 12271
  · obtain ⟨q1, q2⟩ := own_iv21 p1 (by omega) c21
    rw [q1, q2]; rfl
  by_cases c22 : p1.toInt ≤ 12288
  · obtain ⟨q1, q2⟩ := own_iv22 p1 (by omega) c22
    rw [q1, q2]; rfl
  by_cases c23 : p1.toInt ≤ 55295
  · obtain ⟨q1, q2⟩ := own_iv23 p1 (by omega) c23
    rw [q1, q2]; rfl
  by_cases c24 : p1.toInt ≤ 63743
  · obtain ⟨q1, q2⟩ := own_iv24 p1 (by omega) c24
    rw [q1, q2]; rfl
  by_cases c25 : p1.toInt ≤ 64975
  · obtain ⟨q1, q2⟩ := own_iv25 p1 (by omega) c25
    rw [q1, q2]; rfl
  by_cases c26 : p1.toInt ≤ 65007
  · obtain ⟨q1, q2⟩ := own_iv26 p1 (by omega) c26
    rw [q1, q2]; rfl
  by_cases c27 : p1.toInt ≤ 65533
  · obtain ⟨q1, q2⟩ := own_iv27 p1 (by omega) c27
    rw [q1, q2]; rfl
  by_cases c28 : p1.toInt ≤ 65535
  · obtain ⟨q1, q2⟩ := own_iv28 p1 (by omega) c28
    rw [q1, q2]; rfl
  by_cases c29 : p1.toInt ≤ 983039
  · obtain ⟨q1, q2⟩ := own_iv29 p1 (by omega) c29
    rw [q1, q2]; rfl
  obtain ⟨q1, q2⟩ := own_iv30 p1 (by omega) (by omega)
  rw [q1, q2]; rfl
theorem pd_0 : parseMethodDescriptor "(I)Z" = some ⟨[.int], some .boolean⟩ := by decide +kernel
theorem pn_0 : plainName "com/example/descendant/descendant/model/XmlCharsIsNameStartCharPinLaw" = true := by first | (simp [plainName, overriddenIn]; done) | decide +kernel
theorem ef_0 (m : MethodId) (x0 : Int32) (x1 : Int32) : entryFrame m #[(.int x0), (.int x1)] maxLocals = mkF m 0 #[.val (.int x0), .val (.int x1), .unset, .unset, .unset] [] := by first | (simp [entryFrame, mkF, argsToLocals, Value.category, maxLocals]; done) | rfl
def Q0 (Z : State) (p1 : Int32) (p2 : Int32) (h0 : Heap) (n0 : Nat) (v : Option Value) (h : Heap) (L : List Loc) : Prop := v = some (.int (1 : Int32)) ∧ Fr n0 L
set_option maxRecDepth 65536 in
set_option maxHeartbeats 40000000 in
theorem rm0 (l : Launch) (Z : State) (a0 : Array Value) (hw : ∀ d ∈ tables_1, d.before a0 Z = true) (ws : List Jvm.Cond) (p1 : Int32) (p2 : Int32) (h0 : Heap) (n0 : Nat) (Z0 : n0 ≤ h0.size)  :
    MetFree l x (head1 (Jvm.Cond.code x code maxLocals ret :: ws) room_1) (fun a U => a = #[(.int p1), (.int p2)] ∧ Z.Warmed39 U.vm ∧ U.heap = h0) (fun _ _ _ _ _ => True) (fun _ U o U' => ∃ v L, o = .returned v ∧ Q0 Z p1 p2 h0 n0 v U'.heap L ∧ FrameEnd U o U' L room_1.cells room_1.slots) := by
  refine MetFree.of_bodySF (plainFor_of_name pn_0) hisR ?_
  intro p e s m args below meth c s₁ Bd hml0 hP hK
  obtain ⟨rfl, hZ, hh⟩ := hP
  have hx := Bd.exec
  have hby := Bd.bytes
  have hml : c.maxLocals = 5 := hml0
  have hown : s.vm.findClass "com/example/descendant/descendant/model/XmlCharsIsNameStartCharPinLaw" = some m.cls := findClass_of_methodNamed Bd.named
  have hnm := (name_of_methodNamed Bd.named Bd.method).1
  have X0 : Stand p l e room_1 s m #[(.int p1), (.int p2)] below meth c s₁ [] 0 0 := Stand.of_body Bd
  have e0 : s₁.heap = h0 := by rw [← hh, Bd.state]; rfl
  have N0 := Fr.nil n0
  have pre0 : ∀ t, Steps p.tables e below (s₁.setTop (mkF m 0 #[.val (.int p1), .val (.int p2), .unset, .unset, .unset] [])) t → Steps p.tables e below (s₁.setTop (entryFrame m #[(.int p1), (.int p2)] maxLocals)) t := fun t k => castTop (ef_0 m p1 p2) k
  obtain ⟨ch, st45⟩ : ∃ ch : Int32, ∀ target, Steps p.tables e below (s₁.setTop (mkF m 45 #[.val (.int p1), .val (.int p2), .val (.int (p2 &&& (3 : Int32))), .val (.int ch), .unset] [])) target → Steps p.tables e below (s₁.setTop (mkF m 0 #[.val (.int p1), .val (.int p2), .unset, .unset, .unset] [])) target := by
    by_cases c0 : (p2 &&& (3 : Int32)) = (0 : Int32)
    · refine ⟨p1, fun target kt => ?_⟩
      show Steps p.tables e below (s₁.setTop (mkF m 0 #[.val (.int p1), .val (.int p2), .unset, .unset, .unset] [])) _
      refine XS.iloadN X0.here hx rfl (hb hby at_0) rfl ?_
      show Steps p.tables e below (s₁.setTop (mkF m 1 #[.val (.int p1), .val (.int p2), .unset, .unset, .unset] [(.int p2)])) _
      refine XS.iconst X0.here hx rfl (hb hby at_1) ?_
      show Steps p.tables e below (s₁.setTop (mkF m 2 #[.val (.int p1), .val (.int p2), .unset, .unset, .unset] [(.int (3 : Int32)), (.int p2)])) _
      refine XS.iand X0.here hx rfl (hb hby at_2) rfl ?_
      show Steps p.tables e below (s₁.setTop (mkF m 3 #[.val (.int p1), .val (.int p2), .unset, .unset, .unset] [(.int (p2 &&& (3 : Int32)))])) _
      refine XS.istoreN X0.here hx rfl (hb hby at_3) rfl (l' := #[.val (.int p1), .val (.int p2), .val (.int (p2 &&& (3 : Int32))), .unset, .unset]) rfl ?_
      show Steps p.tables e below (s₁.setTop (mkF m 4 #[.val (.int p1), .val (.int p2), .val (.int (p2 &&& (3 : Int32))), .unset, .unset] [])) _
      refine XS.iloadN X0.here hx rfl (hb hby at_4) rfl ?_
      show Steps p.tables e below (s₁.setTop (mkF m 5 #[.val (.int p1), .val (.int p2), .val (.int (p2 &&& (3 : Int32))), .unset, .unset] [(.int (p2 &&& (3 : Int32)))])) _
      refine XS.ifNo X0.here hx rfl (hb hby at_5) rfl ((if0 _ _).trans (teq c0).2) ?_
      show Steps p.tables e below (s₁.setTop (mkF m 8 #[.val (.int p1), .val (.int p2), .val (.int (p2 &&& (3 : Int32))), .unset, .unset] [])) _
      refine XS.iloadN X0.here hx rfl (hb hby at_8) rfl ?_
      show Steps p.tables e below (s₁.setTop (mkF m 9 #[.val (.int p1), .val (.int p2), .val (.int (p2 &&& (3 : Int32))), .unset, .unset] [(.int p1)])) _
      refine XS.istoreN X0.here hx rfl (hb hby at_9) rfl (l' := #[.val (.int p1), .val (.int p2), .val (.int (p2 &&& (3 : Int32))), .val (.int p1), .unset]) rfl ?_
      show Steps p.tables e below (s₁.setTop (mkF m 10 #[.val (.int p1), .val (.int p2), .val (.int (p2 &&& (3 : Int32))), .val (.int p1), .unset] [])) _
      refine XS.goto X0.here hx rfl (pc0 := 10) (pc' := 45) rfl (hb hby at_10) (by decide) (by decide) ?_
      exact kt
    · by_cases c1 : (p2 &&& (3 : Int32)) = (1 : Int32)
      · refine ⟨(p1 &&& (65535 : Int32)), fun target kt => ?_⟩
        show Steps p.tables e below (s₁.setTop (mkF m 0 #[.val (.int p1), .val (.int p2), .unset, .unset, .unset] [])) _
        refine XS.iloadN X0.here hx rfl (hb hby at_0) rfl ?_
        show Steps p.tables e below (s₁.setTop (mkF m 1 #[.val (.int p1), .val (.int p2), .unset, .unset, .unset] [(.int p2)])) _
        refine XS.iconst X0.here hx rfl (hb hby at_1) ?_
        show Steps p.tables e below (s₁.setTop (mkF m 2 #[.val (.int p1), .val (.int p2), .unset, .unset, .unset] [(.int (3 : Int32)), (.int p2)])) _
        refine XS.iand X0.here hx rfl (hb hby at_2) rfl ?_
        show Steps p.tables e below (s₁.setTop (mkF m 3 #[.val (.int p1), .val (.int p2), .unset, .unset, .unset] [(.int (p2 &&& (3 : Int32)))])) _
        refine XS.istoreN X0.here hx rfl (hb hby at_3) rfl (l' := #[.val (.int p1), .val (.int p2), .val (.int (p2 &&& (3 : Int32))), .unset, .unset]) rfl ?_
        show Steps p.tables e below (s₁.setTop (mkF m 4 #[.val (.int p1), .val (.int p2), .val (.int (p2 &&& (3 : Int32))), .unset, .unset] [])) _
        refine XS.iloadN X0.here hx rfl (hb hby at_4) rfl ?_
        show Steps p.tables e below (s₁.setTop (mkF m 5 #[.val (.int p1), .val (.int p2), .val (.int (p2 &&& (3 : Int32))), .unset, .unset] [(.int (p2 &&& (3 : Int32)))])) _
        refine XS.ifYes X0.here hx rfl (pc0 := 5) (pc' := 13) rfl (hb hby at_5) rfl ((if0 _ _).trans (feq c0).2) (by decide) (by decide) ?_
        show Steps p.tables e below (s₁.setTop (mkF m 13 #[.val (.int p1), .val (.int p2), .val (.int (p2 &&& (3 : Int32))), .unset, .unset] [])) _
        refine XS.iloadN X0.here hx rfl (hb hby at_13) rfl ?_
        show Steps p.tables e below (s₁.setTop (mkF m 14 #[.val (.int p1), .val (.int p2), .val (.int (p2 &&& (3 : Int32))), .unset, .unset] [(.int (p2 &&& (3 : Int32)))])) _
        refine XS.iconst X0.here hx rfl (hb hby at_14) ?_
        show Steps p.tables e below (s₁.setTop (mkF m 15 #[.val (.int p1), .val (.int p2), .val (.int (p2 &&& (3 : Int32))), .unset, .unset] [(.int (1 : Int32)), (.int (p2 &&& (3 : Int32)))])) _
        refine XS.icmpNo X0.here hx rfl (hb hby at_15) rfl (teq c1).2 ?_
        show Steps p.tables e below (s₁.setTop (mkF m 18 #[.val (.int p1), .val (.int p2), .val (.int (p2 &&& (3 : Int32))), .unset, .unset] [])) _
        refine XS.iloadN X0.here hx rfl (hb hby at_18) rfl ?_
        show Steps p.tables e below (s₁.setTop (mkF m 19 #[.val (.int p1), .val (.int p2), .val (.int (p2 &&& (3 : Int32))), .unset, .unset] [(.int p1)])) _
        refine X0.ldcI hx hown (mvT hZ (hw _ (List.mem_of_getElem? (i := 12) rfl))) rfl (hb hby at_19) ?_
        show Steps p.tables e below (s₁.setTop (mkF m 21 #[.val (.int p1), .val (.int p2), .val (.int (p2 &&& (3 : Int32))), .unset, .unset] [(.int (65535 : Int32)), (.int p1)])) _
        refine XS.iand X0.here hx rfl (hb hby at_21) rfl ?_
        show Steps p.tables e below (s₁.setTop (mkF m 22 #[.val (.int p1), .val (.int p2), .val (.int (p2 &&& (3 : Int32))), .unset, .unset] [(.int (p1 &&& (65535 : Int32)))])) _
        refine XS.istoreN X0.here hx rfl (hb hby at_22) rfl (l' := #[.val (.int p1), .val (.int p2), .val (.int (p2 &&& (3 : Int32))), .val (.int (p1 &&& (65535 : Int32))), .unset]) rfl ?_
        show Steps p.tables e below (s₁.setTop (mkF m 23 #[.val (.int p1), .val (.int p2), .val (.int (p2 &&& (3 : Int32))), .val (.int (p1 &&& (65535 : Int32))), .unset] [])) _
        refine XS.goto X0.here hx rfl (pc0 := 23) (pc' := 45) rfl (hb hby at_23) (by decide) (by decide) ?_
        exact kt
      · by_cases c2 : (p2 &&& (3 : Int32)) = (2 : Int32)
        · refine ⟨(p1 &&& (1023 : Int32)), fun target kt => ?_⟩
          show Steps p.tables e below (s₁.setTop (mkF m 0 #[.val (.int p1), .val (.int p2), .unset, .unset, .unset] [])) _
          refine XS.iloadN X0.here hx rfl (hb hby at_0) rfl ?_
          show Steps p.tables e below (s₁.setTop (mkF m 1 #[.val (.int p1), .val (.int p2), .unset, .unset, .unset] [(.int p2)])) _
          refine XS.iconst X0.here hx rfl (hb hby at_1) ?_
          show Steps p.tables e below (s₁.setTop (mkF m 2 #[.val (.int p1), .val (.int p2), .unset, .unset, .unset] [(.int (3 : Int32)), (.int p2)])) _
          refine XS.iand X0.here hx rfl (hb hby at_2) rfl ?_
          show Steps p.tables e below (s₁.setTop (mkF m 3 #[.val (.int p1), .val (.int p2), .unset, .unset, .unset] [(.int (p2 &&& (3 : Int32)))])) _
          refine XS.istoreN X0.here hx rfl (hb hby at_3) rfl (l' := #[.val (.int p1), .val (.int p2), .val (.int (p2 &&& (3 : Int32))), .unset, .unset]) rfl ?_
          show Steps p.tables e below (s₁.setTop (mkF m 4 #[.val (.int p1), .val (.int p2), .val (.int (p2 &&& (3 : Int32))), .unset, .unset] [])) _
          refine XS.iloadN X0.here hx rfl (hb hby at_4) rfl ?_
          show Steps p.tables e below (s₁.setTop (mkF m 5 #[.val (.int p1), .val (.int p2), .val (.int (p2 &&& (3 : Int32))), .unset, .unset] [(.int (p2 &&& (3 : Int32)))])) _
          refine XS.ifYes X0.here hx rfl (pc0 := 5) (pc' := 13) rfl (hb hby at_5) rfl ((if0 _ _).trans (feq c0).2) (by decide) (by decide) ?_
          show Steps p.tables e below (s₁.setTop (mkF m 13 #[.val (.int p1), .val (.int p2), .val (.int (p2 &&& (3 : Int32))), .unset, .unset] [])) _
          refine XS.iloadN X0.here hx rfl (hb hby at_13) rfl ?_
          show Steps p.tables e below (s₁.setTop (mkF m 14 #[.val (.int p1), .val (.int p2), .val (.int (p2 &&& (3 : Int32))), .unset, .unset] [(.int (p2 &&& (3 : Int32)))])) _
          refine XS.iconst X0.here hx rfl (hb hby at_14) ?_
          show Steps p.tables e below (s₁.setTop (mkF m 15 #[.val (.int p1), .val (.int p2), .val (.int (p2 &&& (3 : Int32))), .unset, .unset] [(.int (1 : Int32)), (.int (p2 &&& (3 : Int32)))])) _
          refine XS.icmpYes X0.here hx rfl (pc0 := 15) (pc' := 26) rfl (hb hby at_15) rfl (feq c1).2 (by decide) (by decide) ?_
          show Steps p.tables e below (s₁.setTop (mkF m 26 #[.val (.int p1), .val (.int p2), .val (.int (p2 &&& (3 : Int32))), .unset, .unset] [])) _
          refine XS.iloadN X0.here hx rfl (hb hby at_26) rfl ?_
          show Steps p.tables e below (s₁.setTop (mkF m 27 #[.val (.int p1), .val (.int p2), .val (.int (p2 &&& (3 : Int32))), .unset, .unset] [(.int (p2 &&& (3 : Int32)))])) _
          refine XS.iconst X0.here hx rfl (hb hby at_27) ?_
          show Steps p.tables e below (s₁.setTop (mkF m 28 #[.val (.int p1), .val (.int p2), .val (.int (p2 &&& (3 : Int32))), .unset, .unset] [(.int (2 : Int32)), (.int (p2 &&& (3 : Int32)))])) _
          refine XS.icmpNo X0.here hx rfl (hb hby at_28) rfl (teq c2).2 ?_
          show Steps p.tables e below (s₁.setTop (mkF m 31 #[.val (.int p1), .val (.int p2), .val (.int (p2 &&& (3 : Int32))), .unset, .unset] [])) _
          refine XS.iloadN X0.here hx rfl (hb hby at_31) rfl ?_
          show Steps p.tables e below (s₁.setTop (mkF m 32 #[.val (.int p1), .val (.int p2), .val (.int (p2 &&& (3 : Int32))), .unset, .unset] [(.int p1)])) _
          refine XS.sipush X0.here hx rfl (hb hby at_32) ?_
          show Steps p.tables e below (s₁.setTop (mkF m 35 #[.val (.int p1), .val (.int p2), .val (.int (p2 &&& (3 : Int32))), .unset, .unset] [(.int (1023 : Int32)), (.int p1)])) _
          refine XS.iand X0.here hx rfl (hb hby at_35) rfl ?_
          show Steps p.tables e below (s₁.setTop (mkF m 36 #[.val (.int p1), .val (.int p2), .val (.int (p2 &&& (3 : Int32))), .unset, .unset] [(.int (p1 &&& (1023 : Int32)))])) _
          refine XS.istoreN X0.here hx rfl (hb hby at_36) rfl (l' := #[.val (.int p1), .val (.int p2), .val (.int (p2 &&& (3 : Int32))), .val (.int (p1 &&& (1023 : Int32))), .unset]) rfl ?_
          show Steps p.tables e below (s₁.setTop (mkF m 37 #[.val (.int p1), .val (.int p2), .val (.int (p2 &&& (3 : Int32))), .val (.int (p1 &&& (1023 : Int32))), .unset] [])) _
          refine XS.goto X0.here hx rfl (pc0 := 37) (pc' := 45) rfl (hb hby at_37) (by decide) (by decide) ?_
          exact kt
        · refine ⟨(p1 &&& (2097151 : Int32)), fun target kt => ?_⟩
          show Steps p.tables e below (s₁.setTop (mkF m 0 #[.val (.int p1), .val (.int p2), .unset, .unset, .unset] [])) _
          refine XS.iloadN X0.here hx rfl (hb hby at_0) rfl ?_
          show Steps p.tables e below (s₁.setTop (mkF m 1 #[.val (.int p1), .val (.int p2), .unset, .unset, .unset] [(.int p2)])) _
          refine XS.iconst X0.here hx rfl (hb hby at_1) ?_
          show Steps p.tables e below (s₁.setTop (mkF m 2 #[.val (.int p1), .val (.int p2), .unset, .unset, .unset] [(.int (3 : Int32)), (.int p2)])) _
          refine XS.iand X0.here hx rfl (hb hby at_2) rfl ?_
          show Steps p.tables e below (s₁.setTop (mkF m 3 #[.val (.int p1), .val (.int p2), .unset, .unset, .unset] [(.int (p2 &&& (3 : Int32)))])) _
          refine XS.istoreN X0.here hx rfl (hb hby at_3) rfl (l' := #[.val (.int p1), .val (.int p2), .val (.int (p2 &&& (3 : Int32))), .unset, .unset]) rfl ?_
          show Steps p.tables e below (s₁.setTop (mkF m 4 #[.val (.int p1), .val (.int p2), .val (.int (p2 &&& (3 : Int32))), .unset, .unset] [])) _
          refine XS.iloadN X0.here hx rfl (hb hby at_4) rfl ?_
          show Steps p.tables e below (s₁.setTop (mkF m 5 #[.val (.int p1), .val (.int p2), .val (.int (p2 &&& (3 : Int32))), .unset, .unset] [(.int (p2 &&& (3 : Int32)))])) _
          refine XS.ifYes X0.here hx rfl (pc0 := 5) (pc' := 13) rfl (hb hby at_5) rfl ((if0 _ _).trans (feq c0).2) (by decide) (by decide) ?_
          show Steps p.tables e below (s₁.setTop (mkF m 13 #[.val (.int p1), .val (.int p2), .val (.int (p2 &&& (3 : Int32))), .unset, .unset] [])) _
          refine XS.iloadN X0.here hx rfl (hb hby at_13) rfl ?_
          show Steps p.tables e below (s₁.setTop (mkF m 14 #[.val (.int p1), .val (.int p2), .val (.int (p2 &&& (3 : Int32))), .unset, .unset] [(.int (p2 &&& (3 : Int32)))])) _
          refine XS.iconst X0.here hx rfl (hb hby at_14) ?_
          show Steps p.tables e below (s₁.setTop (mkF m 15 #[.val (.int p1), .val (.int p2), .val (.int (p2 &&& (3 : Int32))), .unset, .unset] [(.int (1 : Int32)), (.int (p2 &&& (3 : Int32)))])) _
          refine XS.icmpYes X0.here hx rfl (pc0 := 15) (pc' := 26) rfl (hb hby at_15) rfl (feq c1).2 (by decide) (by decide) ?_
          show Steps p.tables e below (s₁.setTop (mkF m 26 #[.val (.int p1), .val (.int p2), .val (.int (p2 &&& (3 : Int32))), .unset, .unset] [])) _
          refine XS.iloadN X0.here hx rfl (hb hby at_26) rfl ?_
          show Steps p.tables e below (s₁.setTop (mkF m 27 #[.val (.int p1), .val (.int p2), .val (.int (p2 &&& (3 : Int32))), .unset, .unset] [(.int (p2 &&& (3 : Int32)))])) _
          refine XS.iconst X0.here hx rfl (hb hby at_27) ?_
          show Steps p.tables e below (s₁.setTop (mkF m 28 #[.val (.int p1), .val (.int p2), .val (.int (p2 &&& (3 : Int32))), .unset, .unset] [(.int (2 : Int32)), (.int (p2 &&& (3 : Int32)))])) _
          refine XS.icmpYes X0.here hx rfl (pc0 := 28) (pc' := 40) rfl (hb hby at_28) rfl (feq c2).2 (by decide) (by decide) ?_
          show Steps p.tables e below (s₁.setTop (mkF m 40 #[.val (.int p1), .val (.int p2), .val (.int (p2 &&& (3 : Int32))), .unset, .unset] [])) _
          refine XS.iloadN X0.here hx rfl (hb hby at_40) rfl ?_
          show Steps p.tables e below (s₁.setTop (mkF m 41 #[.val (.int p1), .val (.int p2), .val (.int (p2 &&& (3 : Int32))), .unset, .unset] [(.int p1)])) _
          refine X0.ldcI hx hown (mvT hZ (hw _ (List.mem_of_getElem? (i := 0) rfl))) rfl (hb hby at_41) ?_
          show Steps p.tables e below (s₁.setTop (mkF m 43 #[.val (.int p1), .val (.int p2), .val (.int (p2 &&& (3 : Int32))), .unset, .unset] [(.int (2097151 : Int32)), (.int p1)])) _
          refine XS.iand X0.here hx rfl (hb hby at_43) rfl ?_
          show Steps p.tables e below (s₁.setTop (mkF m 44 #[.val (.int p1), .val (.int p2), .val (.int (p2 &&& (3 : Int32))), .unset, .unset] [(.int (p1 &&& (2097151 : Int32)))])) _
          refine XS.istoreN X0.here hx rfl (hb hby at_44) rfl (l' := #[.val (.int p1), .val (.int p2), .val (.int (p2 &&& (3 : Int32))), .val (.int (p1 &&& (2097151 : Int32))), .unset]) rfl ?_
          exact kt
  obtain ⟨_, _, ⟨T4, L4, k4, n4⟩, -, X4, ⟨Lc4, hQ4, l4, y4, z4⟩, st4⟩ := Jvm.LawKit.callS X0 hx (y := (⟨"com/example/descendant/descendant/model/XmlCharsIsNameStartCharPinLaw", "excluded", "(I)Z"⟩ : MethodName)) hown (mvT hZ (hw _ (List.mem_of_getElem? (i := 1) rfl))) (mvT hZ (hw _ (List.mem_of_getElem? (i := 2) rfl))) (mvT hZ (hw _ (List.mem_of_getElem? (i := 3) rfl))) (mvT hZ (hw _ (List.mem_of_getElem? (i := 4) rfl))) (by decide) (backOf (W := 0) (rm1 l Z a0 hw [] ch h0 n0 Z0) hZ (hw _ (List.mem_of_getElem? (i := 4) rfl)) (hw _ (List.mem_of_getElem? (i := 3) rfl)) (by decide) (by decide)) (g := (mkF m 46 #[.val (.int p1), .val (.int p2), .val (.int (p2 &&& (3 : Int32))), .val (.int ch), .unset] [(.int ch)])) rfl (by rw [hml]; rfl) (argsL := [(.int ch)]) (rest := []) (lenOf pd_0 rfl) rfl (by show 2 * 0 + _ ≤ _; exact Nat.le_of_eq rfl) (hb hby at_46) (fun _ _ => ⟨rfl, e0, (by decide : 0 + 0 ≤ _), (by decide : 0 + 0 ≤ _)⟩)
  dsimp only [Pt.U, Pt.locs, Pt.cells, Pt.slots] at X4 l4 y4 z4 st4 hQ4
  subst l4 y4 z4
  obtain ⟨rfl, N4q, e4⟩ := hQ4
  have N4 := Fr.app N0 N4q
  have J49 : ∀ target, Steps p.tables e below (T4.setTop (mkF m 57 #[.val (.int p1), .val (.int p2), .val (.int (p2 &&& (3 : Int32))), .val (.int ch), .unset] [(.int (own_nm_0 ch))])) target → Steps p.tables e below (T4.setTop (mkF m 49 #[.val (.int p1), .val (.int p2), .val (.int (p2 &&& (3 : Int32))), .val (.int ch), .unset] [(.int (own_ex_0 ch))])) target := by
    intro target kt
    by_cases c49 : own_ex_0 ch = (0 : Int32)
    · have q : own_nm_0 ch = 1 := by rw [own_law ch, if_pos c49]
      rw [q] at kt
      show Steps p.tables e below (T4.setTop (mkF m 49 #[.val (.int p1), .val (.int p2), .val (.int (p2 &&& (3 : Int32))), .val (.int ch), .unset] [(.int (own_ex_0 ch))])) _
      refine XS.ifNo X4.here hx rfl (hb hby at_49) rfl ((if0 _ _).trans (teq c49).2) ?_
      show Steps p.tables e below (T4.setTop (mkF m 52 #[.val (.int p1), .val (.int p2), .val (.int (p2 &&& (3 : Int32))), .val (.int ch), .unset] [])) _
      refine XS.iconst X4.here hx rfl (hb hby at_52) ?_
      show Steps p.tables e below (T4.setTop (mkF m 53 #[.val (.int p1), .val (.int p2), .val (.int (p2 &&& (3 : Int32))), .val (.int ch), .unset] [(.int (1 : Int32))])) _
      refine XS.goto X4.here hx rfl (pc0 := 53) (pc' := 57) rfl (hb hby at_53) (by decide) (by decide) ?_
      exact kt
    · have q : own_nm_0 ch = 0 := by rw [own_law ch, if_neg c49]
      rw [q] at kt
      show Steps p.tables e below (T4.setTop (mkF m 49 #[.val (.int p1), .val (.int p2), .val (.int (p2 &&& (3 : Int32))), .val (.int ch), .unset] [(.int (own_ex_0 ch))])) _
      refine XS.ifYes X4.here hx rfl (pc0 := 49) (pc' := 56) rfl (hb hby at_49) rfl ((if0 _ _).trans (feq c49).2) (by decide) (by decide) ?_
      show Steps p.tables e below (T4.setTop (mkF m 56 #[.val (.int p1), .val (.int p2), .val (.int (p2 &&& (3 : Int32))), .val (.int ch), .unset] [])) _
      refine XS.iconst X4.here hx rfl (hb hby at_56) ?_
      exact kt
  obtain ⟨_, _, ⟨T5, L5, k5, n5⟩, -, X5, ⟨Lc5, hQ5, l5, y5, z5⟩, st5⟩ := Jvm.LawKit.callS X4 hx (y := (⟨"com/example/descendant/descendant/model/XmlChars", "isNameStartChar", "(I)Z"⟩ : MethodName)) hown (mvT hZ (hw _ (List.mem_of_getElem? (i := 5) rfl))) (mvT hZ (hw _ (List.mem_of_getElem? (i := 6) rfl))) (mvT hZ (hw _ (List.mem_of_getElem? (i := 7) rfl))) (mvT hZ (hw _ (List.mem_of_getElem? (i := 8) rfl))) (by decide) (backOf (W := 0) (rm2 l Z a0 hw [] ch h0 n0 Z0) hZ (hw _ (List.mem_of_getElem? (i := 8) rfl)) (hw _ (List.mem_of_getElem? (i := 7) rfl)) (by decide) (by decide)) (g := (mkF m 60 #[.val (.int p1), .val (.int p2), .val (.int (p2 &&& (3 : Int32))), .val (.int ch), .val (.int (own_nm_0 ch))] [(.int ch)])) rfl (by rw [hml]; rfl) (argsL := [(.int ch)]) (rest := []) (lenOf pd_0 rfl) rfl (by show 2 * 0 + _ ≤ _; exact Nat.le_of_eq rfl) (hb hby at_60) (fun _ _ => ⟨rfl, e4, (by decide : 0 + 0 ≤ _), (by decide : 0 + 0 ≤ _)⟩)
  dsimp only [Pt.U, Pt.locs, Pt.cells, Pt.slots] at X5 l5 y5 z5 st5 hQ5
  subst l5 y5 z5
  obtain ⟨rfl, N5q, e5⟩ := hQ5
  have N5 := Fr.app N4 N5q
  obtain ⟨fs, hr, hrun, hended, hW, hsame⟩ := X5.leave (v := some (.int (1 : Int32))) (fun h => by rw [Bd.returns] at h; cases h)
  refine ⟨_, _, pre0 _ ?_, hrun, hended, _, _, rfl, ?_, ⟨_, rfl⟩, hW, hsame.mono (by decide) (by decide)⟩
  · refine st45 _ ?_
    show Steps p.tables e below (s₁.setTop (mkF m 45 #[.val (.int p1), .val (.int p2), .val (.int (p2 &&& (3 : Int32))), .val (.int ch), .unset] [])) _
    refine XS.iloadN X0.here hx rfl (hb hby at_45) rfl ?_
    show Steps p.tables e below (s₁.setTop (mkF m 46 #[.val (.int p1), .val (.int p2), .val (.int (p2 &&& (3 : Int32))), .val (.int ch), .unset] [(.int ch)])) _
    refine st4 _ ?_
    refine J49 _ ?_
    show Steps p.tables e below (T4.setTop (mkF m 57 #[.val (.int p1), .val (.int p2), .val (.int (p2 &&& (3 : Int32))), .val (.int ch), .unset] [(.int (own_nm_0 ch))])) _
    refine XS.istore X4.here hx rfl (hb hby at_57) rfl (l' := #[.val (.int p1), .val (.int p2), .val (.int (p2 &&& (3 : Int32))), .val (.int ch), .val (.int (own_nm_0 ch))]) rfl ?_
    show Steps p.tables e below (T4.setTop (mkF m 59 #[.val (.int p1), .val (.int p2), .val (.int (p2 &&& (3 : Int32))), .val (.int ch), .val (.int (own_nm_0 ch))] [])) _
    refine XS.iloadN X4.here hx rfl (hb hby at_59) rfl ?_
    show Steps p.tables e below (T4.setTop (mkF m 60 #[.val (.int p1), .val (.int p2), .val (.int (p2 &&& (3 : Int32))), .val (.int ch), .val (.int (own_nm_0 ch))] [(.int ch)])) _
    refine st5 _ ?_
    show Steps p.tables e below (T5.setTop (mkF m 63 #[.val (.int p1), .val (.int p2), .val (.int (p2 &&& (3 : Int32))), .val (.int ch), .val (.int (own_nm_0 ch))] [(.int (own_nm_0 ch))])) _
    refine XS.iload X5.here hx rfl (hb hby at_63) rfl ?_
    show Steps p.tables e below (T5.setTop (mkF m 65 #[.val (.int p1), .val (.int p2), .val (.int (p2 &&& (3 : Int32))), .val (.int ch), .val (.int (own_nm_0 ch))] [(.int (own_nm_0 ch)), (.int (own_nm_0 ch))])) _
    refine XS.icmpNo X5.here hx rfl (hb hby at_65) rfl (teq rfl).2 ?_
    show Steps p.tables e below (T5.setTop (mkF m 68 #[.val (.int p1), .val (.int p2), .val (.int (p2 &&& (3 : Int32))), .val (.int ch), .val (.int (own_nm_0 ch))] [])) _
    refine XS.iconst X5.here hx rfl (hb hby at_68) ?_
    show Steps p.tables e below (T5.setTop (mkF m 69 #[.val (.int p1), .val (.int p2), .val (.int (p2 &&& (3 : Int32))), .val (.int ch), .val (.int (own_nm_0 ch))] [(.int (1 : Int32))])) _
    refine XS.goto X5.here hx rfl (pc0 := 69) (pc' := 73) rfl (hb hby at_69) (by decide) (by decide) ?_
    show Steps p.tables e below (T5.setTop (mkF m 73 #[.val (.int p1), .val (.int p2), .val (.int (p2 &&& (3 : Int32))), .val (.int ch), .val (.int (own_nm_0 ch))] [(.int (1 : Int32))])) _
    exact retN X5 hx (t := .boolean) Bd.returns (by simp) (hb hby at_73) hr
  · show Q0 Z p1 p2 h0 n0 _ T5.heap _
    exact ⟨rfl, N5⟩
set_option maxRecDepth 65536 in
set_option maxHeartbeats 40000000 in
theorem comes_1 {Post : Tables → Env → Array Value → State → Outcome → State → Prop} (hpost : ∀ tb e args s v u, (limb_1_1.after args s (.returned v) u = true ∧ limb_1_2.after args s (.returned v) u = true ∧ True) → FrameEnd s (.returned v) u (Jvm.fieldLocs frame_1_writes args s ++ Jvm.arrayLocs frame_1_arrays args s ++ Jvm.staticLocs frame_1_statics s) 0 0 → Post tb e args s (.returned v) u) :
    ArmFor flags0 classFile x code maxLocals ret World_1 tables_1 room_1 Calls_1 rest_1 Pre_1 Post := by
  intro l hfl _ _ p e ha hc hk s m args below hf hA hF happ hP
  obtain ⟨hcalls, hrest, hpre⟩ := hP
  obtain ⟨-, -, -, hnamed, -, -, -, hat⟩ := (Spec.applies_iff hf).mp happ
  obtain ⟨hg, hn⟩ := and_e (Cond.before_iff.mp (show (Jvm.Cond.and given_1 narrow_1).before args s = true from hpre))
  obtain ⟨ga0, gb0⟩ := and_e hg
  obtain ⟨ga1, gb1⟩ := and_e gb0
  obtain ⟨w0, w1, rfl⟩ : ∃ w0 w1 : Value, args = #[w0, w1] := by
    have hs : args.size = 2 := by simpa [Cond.value, given_1] using ga0
    obtain ⟨L⟩ := args
    match L, hs with
    | [w0, w1], _ => exact ⟨w0, w1, rfl⟩
  have hw := fun d (hd : d ∈ tables_1) => atoms_spec (ws := Jvm.Cond.code x code maxLocals ret :: tables_1) hat d (List.mem_cons_of_mem _ hd)
  have hfit : Fit s := fun {y c} hc i hi => by
    obtain ⟨ha, rfl⟩ := Array.getElem?_eq_some_iff.mp hc
    have q := List.all_eq_true.mp ((Array.all_eq_true_iff_forall_mem.mp hF) _ (Array.getElem_mem ha)) i (List.mem_range.mpr hi)
    simpa [Array.getElem?_eq_getElem hi] using q
  obtain ⟨i0, ei0⟩ := is_v ga1
  obtain rfl : w0 = (.int i0) := Option.some.inj ei0
  obtain ⟨i1, ei1⟩ := is_v gb1
  obtain rfl : w1 = (.int i1) := Option.some.inj ei1
  obtain ⟨n, o, h1, h2, h3, _, L, rfl, ⟨rfl, N⟩, hq⟩ := rm0 l s _ hw tables_1 i0 i1 s.heap s.heap.size (Nat.le_refl _)  p e ha hc hk s m _ below hf ((Spec.applies_iff_loose hf).mp happ).1 ⟨rfl, State.Warmed39.refl s, rfl⟩ trivial
  refine ⟨n, _, h1, h2, h3, hpost _ _ _ _ _ _ ⟨Cond.after_iff.mpr rfl, Cond.after_iff.mpr (eq_i res_at (Term.int_eval (1)) rfl), trivial⟩ ⟨hq.1, hq.2.1, (hq.2.2.sift fun y hy => Or.inr (N y hy)).mono (by decide) (by decide)⟩⟩
theorem main_1_1 : Claimed_1_1 := comes_1 fun _ _ _ _ _ _ h hF => ⟨h.1, hF⟩
theorem main_1_2 : Claimed_1_2 := comes_1 fun _ _ _ _ _ _ h hF => ⟨h.2.1, hF⟩
end Jvm.Pilot.@@N@@
namespace Jvm.Pilot.@@N@@
open Jvm Jvm.ClassFile Sem Op Lib Jvm.Free Jvm.Stand Jvm.Pilot.@@N@@.Jvm.D
/-! MADE BY PROGRAM (witnessworld.py) out of the Statement's table words and the real class files: 9 classes; the members and pool entries that the words name. The judged class is class 1, her method 2. -/
namespace start1
open Jvm.ClassFile
def u (s : String) : CpInfo := .utf8 (stringToUtf16 s)
/-- a pool by its gaps: so many unusable entries, then the entry; so many at the end -/
def gap : Nat → List CpInfo → List CpInfo
  | 0, r => r
  | n + 1, r => .unusable :: gap n r
def poolList (es : List (Nat × CpInfo)) (last : Nat) : List CpInfo := es.foldr (fun e r => gap e.1 (e.2 :: r)) (gap last [])
def pool (es : List (Nat × CpInfo)) (last : Nat) : Array CpInfo := ⟨poolList es last⟩
def fileOf (pool : Array CpInfo) (this : Nat) (attrs : Array Attribute := #[]) (ms : Array MethodInfo := #[]) (fl : Nat := 33) (sup : Nat := 0) (ifs : Array Nat := #[]) (fds : Array FieldInfo := #[]) : ClassFile where
  minorVersion := 0
  majorVersion := 65
  constantPool := pool
  accessFlags := fl
  thisClass := this
  superClass := sup
  interfaces := ifs
  fields := fds
  methods := ms
  attributes := attrs
def plain (name : String) (sup : Option ClassId) : Class where
  name := name
  kind := .ordinary
  loader := none
  accessFlags := 33
  super := sup
  interfaces := #[]
  cf := none
  fields := #[]
  methods := #[]
  instanceTypes := #[]
  staticTypes := #[]
  resolved := #[]
  callSites := []
  init := .initialized
  statics := none
  mirror := none

def pool0 : Array CpInfo := pool [(5, u "<init>"), (0, u "()V"), (1, .class_ 10), (1, u "java/lang/Object")] 113

def k0m0 : Method := { name := "<init>", desc := "()V", sig := { parameters := [], returnType := none }, accessFlags := 1, code := none }
/-- java/lang/Object -/
def k0 : Class := { plain "java/lang/Object" none with
  accessFlags := 33
  interfaces := #[]
  cf := some (fileOf pool0 8 #[] #[{ accessFlags := 1, nameIndex := 5, descriptorIndex := 6, attributes := #[] }] 33 0 #[] #[])
  fields := #[]
  methods := #[k0m0]
  instanceTypes := #[]
  staticTypes := #[]
  resolved := Array.replicate 124 none
  statics := none }

def pool1 : Array CpInfo := pool [(2, .class_ 4), (1, u "java/lang/Object"), (0, u "<init>"), (0, u "()V"), (0, .integer 983039), (0, .integer 55296), (0, .integer 63743), (0, .integer 64976), (0, .integer 65007), (0, .integer 65534), (0, .integer 65535), (0, .integer 2097151), (0, .methodref 16 17), (0, .class_ 18), (0, .nameAndType 19 20), (0, u "com/example/descendant/descendant/model/XmlCharsIsNameStartCharPinLaw"), (0, u "excluded"), (0, u "(I)Z"), (0, .methodref 22 23), (0, .class_ 24), (0, .nameAndType 25 20), (0, u "com/example/descendant/descendant/model/XmlChars"), (0, u "isNameStartChar"), (3, u "law"), (0, u "(II)Z")] 2

def k1m0 : Method := { name := "<init>", desc := "()V", sig := { parameters := [], returnType := none }, accessFlags := 2, code := none }
def k1c1 : Code := { maxStack := 2, maxLocals := 1, code := method_2_code, exceptionTable := #[], attributes := #[] }
def k1m1 : Method := { name := "excluded", desc := "(I)Z", sig := { parameters := [.int], returnType := some .boolean }, accessFlags := 10, code := some k1c1 }
def k1c2 : Code := { maxStack := 2, maxLocals := 5, code := code, exceptionTable := #[], attributes := #[] }
def k1m2 : Method := { name := "law", desc := "(II)Z", sig := { parameters := [.int, .int], returnType := some .boolean }, accessFlags := 9, code := some k1c2 }
/-- com/example/descendant/descendant/model/XmlCharsIsNameStartCharPinLaw -/
def k1 : Class := { plain "com/example/descendant/descendant/model/XmlCharsIsNameStartCharPinLaw" (some 0) with
  accessFlags := 49
  interfaces := #[]
  cf := some (fileOf pool1 16 #[] #[{ accessFlags := 2, nameIndex := 5, descriptorIndex := 6, attributes := #[] }, { accessFlags := 10, nameIndex := 19, descriptorIndex := 20, attributes := #[] }, { accessFlags := 9, nameIndex := 29, descriptorIndex := 30, attributes := #[] }] 49 2 #[] #[])
  fields := #[]
  methods := #[k1m0, k1m1, k1m2]
  instanceTypes := #[]
  staticTypes := #[]
  resolved := Array.replicate 33 none
  statics := none }

def pool2 : Array CpInfo := pool [(2, .class_ 4), (1, u "java/lang/Object"), (0, u "<init>"), (0, u "()V"), (0, .integer 55295), (1, .integer 65533), (0, .integer 65536), (20, .class_ 33), (1, u "com/example/descendant/descendant/model/XmlChars"), (1, u "(I)Z"), (44, .integer 63744), (0, .integer 64975), (0, .integer 65008), (0, .integer 983039), (2, u "isNameStartChar")] 63

def k2m0 : Method := { name := "<init>", desc := "()V", sig := { parameters := [], returnType := none }, accessFlags := 2, code := none }
def k2c1 : Code := { maxStack := 2, maxLocals := 1, code := prog_221_method_9_code, exceptionTable := #[], attributes := #[] }
def k2m1 : Method := { name := "isNameStartChar", desc := "(I)Z", sig := { parameters := [.int], returnType := some .boolean }, accessFlags := 9, code := some k2c1 }
/-- com/example/descendant/descendant/model/XmlChars -/
def k2 : Class := { plain "com/example/descendant/descendant/model/XmlChars" (some 0) with
  accessFlags := 33
  interfaces := #[]
  cf := some (fileOf pool2 31 #[] #[{ accessFlags := 2, nameIndex := 5, descriptorIndex := 6, attributes := #[] }, { accessFlags := 9, nameIndex := 86, descriptorIndex := 35, attributes := #[] }] 33 2 #[] #[])
  fields := #[]
  methods := #[k2m0, k2m1]
  instanceTypes := #[]
  staticTypes := #[]
  resolved := Array.replicate 150 none
  statics := none }

def pool3 : Array CpInfo := pool [(1, u "java/lang/Cloneable"), (0, .class_ 1), (0, u "java/lang/Object"), (0, .class_ 3)] 3

/-- java/lang/Cloneable -/
def k3 : Class := { plain "java/lang/Cloneable" (some 0) with
  accessFlags := 1537
  interfaces := #[]
  cf := some (fileOf pool3 2 #[] #[] 1537 4 #[] #[])
  fields := #[]
  methods := #[]
  instanceTypes := #[]
  staticTypes := #[]
  resolved := Array.replicate 8 none
  statics := none }

def pool4 : Array CpInfo := pool [(1, u "java/io/Serializable"), (0, .class_ 1), (0, u "java/lang/Object"), (0, .class_ 3)] 3

/-- java/io/Serializable -/
def k4 : Class := { plain "java/io/Serializable" (some 0) with
  accessFlags := 1537
  interfaces := #[]
  cf := some (fileOf pool4 2 #[] #[] 1537 4 #[] #[])
  fields := #[]
  methods := #[]
  instanceTypes := #[]
  staticTypes := #[]
  resolved := Array.replicate 8 none
  statics := none }

/-- the primitive byte -/
def k5 : Class := { plain "byte" none with kind := .primitive 'B', accessFlags := 0x411 }
/-- [B -/
def k6 : Class := { plain "[B" (some 0) with kind := .array 5 .byte, interfaces := #[3, 4], accessFlags := 1041 }

/-- the primitive int -/
def k7 : Class := { plain "int" none with kind := .primitive 'I', accessFlags := 0x411 }
/-- [I -/
def k8 : Class := { plain "[I" (some 0) with kind := .array 7 .int, interfaces := #[3, 4], accessFlags := 1041 }

def heap : Heap := #[]
def classes : Array Class := #[k0, k1, k2, k3, k4, k5, k6, k7, k8]
def interned : List (Array UInt16 × Addr) := []
def slotsUsed : Nat := 0
def theMethod : MethodId := ⟨1, 2⟩
def args0 : Array Value := #[.int 65, .int 0]
def aboutOver (below : List Frame) : State where
  vm := { classes := classes, interned := interned.toArray }
  heap := heap
  slotsUsed := slotsUsed
  threads := #[{ frames := .invoking theMethod args0 :: below }]
def below0 : List Frame := [.native { method := ⟨0, 0⟩, args := #[] }]
def about1 : State := aboutOver below0
def p0 : Program := .bare "" "" ""
def e0 : Env := launch0.env 0 0 0
theorem w_frames : about1.frames = Frame.invoking theMethod args0 :: below0 := rfl
set_option maxRecDepth 65536 in
theorem w_args : argsFit about1.vm theMethod args0 = true := by decide +kernel
set_option maxRecDepth 65536 in
theorem w_heap : heapFits about1 = true := by decide +kernel
set_option maxRecDepth 65536 in
theorem w_runnable : about1.curStatus? = some .runnable := by decide +kernel
set_option maxRecDepth 65536 in
theorem w_alone : about1.alone = true := by decide +kernel
set_option maxRecDepth 65536 in
theorem w_named : about1.methodNamed? x = some theMethod := by decide +kernel
set_option maxRecDepth 65536 in
theorem w_hears : about1.hears theMethod below0 = true := by decide +kernel
set_option maxRecDepth 65536 in
theorem w_ripe : about1.ripe theMethod args0 below0 = true := by decide +kernel
theorem w_running : about1.status = .running := rfl
set_option maxRecDepth 65536 in
theorem w_room : about1.hasRoom e0.platform room_1 = true :=
  launch0.hasRoom_least _ room_1 (by decide +kernel) (by decide +kernel) (by decide +kernel) (by decide +kernel) (by decide +kernel) (by decide +kernel)
theorem allAtoms_all (ts : List Jvm.Cond) (a : Array Jvm.Value) (st : Jvm.State) : (allAtoms ts).before a st = ts.all (fun c => c.before a st) := by
  induction ts with
  | nil => rfl
  | cons c t ih =>
    show (Jvm.Cond.and c (allAtoms t)).before a st = _
    rw [Jvm.Cond.before_and, ih, List.all_cons]
def words1 : List Jvm.Cond := Jvm.Cond.code x code maxLocals ret :: tables_1
/-- a 'code' word, met by the world's own term for the bytes: nothing is compared byte by byte -/
theorem code_word {y : MethodName} {bytes : ByteArray} {mx : Nat} {rt : Option FieldType} {a : Array Value} {s : State} {m : MethodId} {meth : Method} {c : Code} (h1 : s.methodNamed? y = some m) (h2 : s.vm.method? m = some meth) (h3 : meth.code = some c) (h4 : c.code = bytes)
    (h5 : (c.maxLocals == mx && c.exceptionTable.isEmpty && decide (c.maxStack ≤ mostOperands) && decide (meth.sig.returnType = rt) && !meth.locks && decide (parseMethodDescriptor y.desc = some meth.sig)) = true) : (Jvm.Cond.code y bytes mx rt).before a s = true := by
  simp only [Bool.and_eq_true, beq_iff_eq, Bool.not_eq_true', decide_eq_true_eq] at h5
  obtain ⟨⟨⟨⟨⟨g1, g2⟩, g3⟩, g4⟩, g5⟩, g6⟩ := h5
  simp [Cond.before, Cond.holds, Cond.value, h1, h2, h3, h4, g1, g2, g3, g4, g5, g6]
def isCode : Jvm.Cond → Bool
  | .code _ _ _ _ => true
  | _ => false
theorem all_split {L : List Jvm.Cond} {P : Jvm.Cond → Bool} (h1 : L.all (fun c => isCode c || P c) = true) (h2 : ∀ c ∈ L.filter isCode, P c = true) : L.all P = true := by
  refine List.all_eq_true.mpr fun c hc => ?_
  have h := List.all_eq_true.mp h1 c hc
  rcases Bool.eq_false_or_eq_true (isCode c) with hi | hi
  · exact h2 c (List.mem_filter.mpr ⟨hc, hi⟩)
  · simpa [hi] using h
set_option maxRecDepth 65536 in
theorem w_c0 : (Jvm.Cond.code x code maxLocals ret).before args0 about1 = true := code_word (m := ⟨1, 2⟩) (meth := k1m2) (c := k1c2) (by decide +kernel) rfl rfl rfl (by decide +kernel)
set_option maxRecDepth 65536 in
theorem w_c1 : (Jvm.Cond.code ({ cls := "com/example/descendant/descendant/model/XmlCharsIsNameStartCharPinLaw", name := "excluded", desc := "(I)Z" } : Jvm.MethodName) method_2_code (1 : Nat) (Option.some Jvm.ClassFile.FieldType.boolean)).before args0 about1 = true := code_word (m := ⟨1, 1⟩) (meth := k1m1) (c := k1c1) (by decide +kernel) rfl rfl rfl (by decide +kernel)
set_option maxRecDepth 65536 in
theorem w_c2 : (Jvm.Cond.code ({ cls := "com/example/descendant/descendant/model/XmlChars", name := "isNameStartChar", desc := "(I)Z" } : Jvm.MethodName) prog_221_method_9_code (1 : Nat) (Option.some Jvm.ClassFile.FieldType.boolean)).before args0 about1 = true := code_word (m := ⟨2, 1⟩) (meth := k2m1) (c := k2c1) (by decide +kernel) rfl rfl rfl (by decide +kernel)
def codes1 : List Jvm.Cond := [Jvm.Cond.code x code maxLocals ret, Jvm.Cond.code ({ cls := "com/example/descendant/descendant/model/XmlCharsIsNameStartCharPinLaw", name := "excluded", desc := "(I)Z" } : Jvm.MethodName) method_2_code (1 : Nat) (Option.some Jvm.ClassFile.FieldType.boolean), Jvm.Cond.code ({ cls := "com/example/descendant/descendant/model/XmlChars", name := "isNameStartChar", desc := "(I)Z" } : Jvm.MethodName) prog_221_method_9_code (1 : Nat) (Option.some Jvm.ClassFile.FieldType.boolean)]
set_option maxRecDepth 65536 in
theorem codes_eq : words1.filter isCode = codes1 := rfl
theorem w_codes : ∀ c ∈ words1.filter isCode, c.before args0 about1 = true := by
  rw [codes_eq]
  intro c hc
  simp only [codes1, List.mem_cons, List.not_mem_nil, or_false] at hc
  rcases hc with rfl | rfl | rfl
  · exact w_c0
  · exact w_c1
  · exact w_c2
set_option maxRecDepth 65536 in
theorem w_t1 : words1.all (fun c => isCode c || c.before args0 about1) = true := by decide +kernel
theorem w_tables : (allAtoms (Jvm.Cond.code x code maxLocals ret :: tables_1)).before args0 about1 = true := by
  rw [allAtoms_all]
  show words1.all (fun c => c.before args0 about1) = true
  refine all_split ?_ w_codes
  rw [w_t1]
set_option maxRecDepth 65536 in
theorem w_case : (Jvm.Cond.and given_1 narrow_1).before args0 about1 = true := by decide +kernel
theorem w_applies : (headSpec (Jvm.Cond.code x code maxLocals ret :: tables_1) room_1).applies x e0.platform about1 = true :=
  (Spec.applies_iff w_frames).mpr ⟨w_running, w_runnable, w_alone, w_named, w_hears, w_ripe, w_room, w_tables⟩
theorem atStart : AtStart classFile x code maxLocals ret World_1 tables_1 room_1 Calls_1 rest_1 Pre_1 launch0 p0 e0 about1 theMethod args0 below0 :=
  ⟨lists_1, trivial, launch0.admits_env _ _ _, launch0.least_env, fairChoices_fair.cas, fairChoices_fair.clock, w_frames, w_args, w_heap, w_applies, trivial, trivial, w_case⟩
end start1
theorem witness_1 : WitnessClaimed_1 := ⟨start1.p0, start1.e0, start1.about1, start1.theMethod, start1.args0, start1.below0, start1.atStart⟩
end Jvm.Pilot.@@N@@
