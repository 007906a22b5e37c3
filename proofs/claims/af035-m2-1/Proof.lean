import JvmDerived
import JvmDerived.Pilot.@@N@@Statement
import JvmDerived.Pilot.@@N@@Code
set_option linter.unusedVariables false
set_option linter.unusedSimpArgs false
namespace Jvm.RoadKit
open Sem ClassFile Op Lib Jvm.Stand Jvm.Free Jvm.LawKit
section New
variable {p : Program} {l : Launch} {e : Env} {R : Room} {s : State} {m : MethodId} {args : Array Value} {below : List Frame} {meth : Method} {c : Code} {T : State} {locs : List Loc} {cells slots : Nat}
theorem retI (X : Stand p l e R s m args below meth c T locs cells slots) (hx : p.tables.exec = Jvm.exec) {pc : Nat} {Ls : Array Slot} {z : Int32} {rest : List Value} (hret : meth.sig.returnType = some .int) (hd : decode c.code pc = .ok (.ireturn, 1)) {fs : List Frame}
    (hl : ∀ (f : JFrame) (acts : List Action), f.method = m → f.locked = none → f.entered = [] → (doReturn e (T.setTop f) acts (some (.int z))).1 = T.setFrames fs) : Steps p.tables e below (T.setTop (mkF m pc Ls (.int z :: rest))) (T.setFrames fs) := by
  have hm' : T.vm.method? m = some meth := X.method'
  have hn : narrow .int (.int z) = .int z := rfl
  show Steps p.tables e below (T.setTop { method := m, pc := pc, locals := Ls, stack := _ :: rest, locked := none }) _
  jvm_step X.here [X.here.top, hx, hd, hm', hret, hn]
  first | (intro acts; rw [hl _ acts rfl rfl rfl]) | rw [hl _ _ rfl rfl rfl]
  exact Steps.refl _
end New
end Jvm.RoadKit
namespace Jvm.Pilot.@@N@@
open Jvm Jvm.ClassFile Sem Op Lib Jvm.Free Jvm.Stand Jvm.LawKit Jvm.RoadKit Bundle Jvm.Pilot.@@N@@.Jvm.D
theorem d1_0 : decode prog_221_method_2_code 0 = .ok (.iload_n 0, 1) := by decide +kernel
theorem d1_1 : decode prog_221_method_2_code 1 = .ok (.bipush 32, 2) := by decide +kernel
theorem d1_3 : decode prog_221_method_2_code 3 = .ok (.if_icmp .lt 41, 3) := by decide +kernel
theorem d1_6 : decode prog_221_method_2_code 6 = .ok (.iload_n 0, 1) := by decide +kernel
theorem d1_7 : decode prog_221_method_2_code 7 = .ok (.ldc 7, 2) := by decide +kernel
theorem d1_9 : decode prog_221_method_2_code 9 = .ok (.if_icmp .le 27, 3) := by decide +kernel
theorem d1_12 : decode prog_221_method_2_code 12 = .ok (.iload_n 0, 1) := by decide +kernel
theorem d1_13 : decode prog_221_method_2_code 13 = .ok (.ldc 8, 2) := by decide +kernel
theorem d1_15 : decode prog_221_method_2_code 15 = .ok (.if_icmp .lt 9, 3) := by decide +kernel
theorem d1_18 : decode prog_221_method_2_code 18 = .ok (.iload_n 0, 1) := by decide +kernel
theorem d1_19 : decode prog_221_method_2_code 19 = .ok (.ldc 9, 2) := by decide +kernel
theorem d1_21 : decode prog_221_method_2_code 21 = .ok (.if_icmp .le 15, 3) := by decide +kernel
theorem d1_24 : decode prog_221_method_2_code 24 = .ok (.iload_n 0, 1) := by decide +kernel
theorem d1_25 : decode prog_221_method_2_code 25 = .ok (.ldc 10, 2) := by decide +kernel
theorem d1_27 : decode prog_221_method_2_code 27 = .ok (.if_icmp .lt 13, 3) := by decide +kernel
theorem d1_30 : decode prog_221_method_2_code 30 = .ok (.iload_n 0, 1) := by decide +kernel
theorem d1_31 : decode prog_221_method_2_code 31 = .ok (.ldc 11, 2) := by decide +kernel
theorem d1_33 : decode prog_221_method_2_code 33 = .ok (.if_icmp .gt 7, 3) := by decide +kernel
theorem d1_36 : decode prog_221_method_2_code 36 = .ok (.iconst 1, 1) := by decide +kernel
theorem d1_37 : decode prog_221_method_2_code 37 = .ok (.goto 30, 3) := by decide +kernel
theorem d1_40 : decode prog_221_method_2_code 40 = .ok (.iconst 0, 1) := by decide +kernel
theorem d1_41 : decode prog_221_method_2_code 41 = .ok (.goto 26, 3) := by decide +kernel
theorem d1_44 : decode prog_221_method_2_code 44 = .ok (.iload_n 0, 1) := by decide +kernel
theorem d1_45 : decode prog_221_method_2_code 45 = .ok (.bipush 9, 2) := by decide +kernel
theorem d1_47 : decode prog_221_method_2_code 47 = .ok (.if_icmp .eq 15, 3) := by decide +kernel
theorem d1_50 : decode prog_221_method_2_code 50 = .ok (.iload_n 0, 1) := by decide +kernel
theorem d1_51 : decode prog_221_method_2_code 51 = .ok (.bipush 10, 2) := by decide +kernel
theorem d1_53 : decode prog_221_method_2_code 53 = .ok (.if_icmp .eq 9, 3) := by decide +kernel
theorem d1_56 : decode prog_221_method_2_code 56 = .ok (.iload_n 0, 1) := by decide +kernel
theorem d1_57 : decode prog_221_method_2_code 57 = .ok (.bipush 13, 2) := by decide +kernel
theorem d1_59 : decode prog_221_method_2_code 59 = .ok (.if_icmp .ne 7, 3) := by decide +kernel
theorem d1_62 : decode prog_221_method_2_code 62 = .ok (.iconst 1, 1) := by decide +kernel
theorem d1_63 : decode prog_221_method_2_code 63 = .ok (.goto 4, 3) := by decide +kernel
theorem d1_66 : decode prog_221_method_2_code 66 = .ok (.iconst 0, 1) := by decide +kernel
theorem d1_67 : decode prog_221_method_2_code 67 = .ok (.ireturn, 1) := by decide +kernel
def own_ic_62 (p1 : Int32) : Int32 := (1 : Int32)
def own_ic_66 (p1 : Int32) : Int32 := (0 : Int32)
def own_ic_56 (p1 : Int32) : Int32 := if p1 = (13 : Int32) then own_ic_62 p1 else own_ic_66 p1
def own_ic_50 (p1 : Int32) : Int32 := if p1 = (10 : Int32) then own_ic_62 p1 else own_ic_56 p1
def own_ic_44 (p1 : Int32) : Int32 := if p1 = (9 : Int32) then own_ic_62 p1 else own_ic_50 p1
def own_ic_40 (p1 : Int32) : Int32 := (0 : Int32)
def own_ic_36 (p1 : Int32) : Int32 := (1 : Int32)
def own_ic_30 (p1 : Int32) : Int32 := if (1114111 : Int32) < p1 then own_ic_40 p1 else own_ic_36 p1
def own_ic_24 (p1 : Int32) : Int32 := if p1 < (65536 : Int32) then own_ic_40 p1 else own_ic_30 p1
def own_ic_18 (p1 : Int32) : Int32 := if (65533 : Int32) < p1 then own_ic_24 p1 else own_ic_36 p1
def own_ic_12 (p1 : Int32) : Int32 := if p1 < (57344 : Int32) then own_ic_24 p1 else own_ic_18 p1
def own_ic_6 (p1 : Int32) : Int32 := if (55295 : Int32) < p1 then own_ic_12 p1 else own_ic_36 p1
def own_ic_0 (p1 : Int32) : Int32 := if p1 < (32 : Int32) then own_ic_44 p1 else own_ic_6 p1
theorem pn_1 : plainName "com/example/descendant/descendant/model/XmlChars" = true := by first | (simp [plainName, overriddenIn]; done) | decide +kernel
theorem ef_1 (m : MethodId) (x0 : Int32) : entryFrame m #[(.int x0)] 1 = mkF m 0 #[.val (.int x0)] [] := by first | (simp [entryFrame, mkF, argsToLocals, Value.category]; done) | rfl
def Q1 (Z : State) (p1 : Int32) (h0 : Heap) (n0 : Nat) (v : Option Value) (h : Heap) (L : List Loc) : Prop := v = some (.int (own_ic_0 p1)) ∧ Fr n0 L ∧ h = h0
set_option maxRecDepth 65536 in
set_option maxHeartbeats 40000000 in
theorem rm1 (l : Launch) (Z : State) (a0 : Array Value) (hw : ∀ d ∈ tables_1, d.before a0 Z = true) (ws : List Jvm.Cond) (p1 : Int32) (h0 : Heap) (n0 : Nat) (Z0 : n0 ≤ h0.size)  :
    MetFree l (⟨"com/example/descendant/descendant/model/XmlChars", "isChar", "(I)Z"⟩ : MethodName) (head1 (Jvm.Cond.code (⟨"com/example/descendant/descendant/model/XmlChars", "isChar", "(I)Z"⟩ : MethodName) prog_221_method_2_code 1 (some .boolean) :: ws) ({ frames := 0, cells := 0, slots := 0, locals := 0 } : Room)) (fun a U => a = #[(.int p1)] ∧ Z.Warmed39 U.vm ∧ U.heap = h0) (fun _ _ _ _ _ => True) (fun _ U o U' => ∃ v L, o = .returned v ∧ Q1 Z p1 h0 n0 v U'.heap L ∧ FrameEnd U o U' L ({ frames := 0, cells := 0, slots := 0, locals := 0 } : Room).cells ({ frames := 0, cells := 0, slots := 0, locals := 0 } : Room).slots) := by
  refine MetFree.of_bodySF (plainFor_of_name pn_1) hisR ?_
  intro p e s m args below meth c s₁ Bd hml0 hP hK
  obtain ⟨rfl, hZ, hh⟩ := hP
  have hx := Bd.exec
  have hby := Bd.bytes
  have hml : c.maxLocals = 1 := hml0
  have hown : s.vm.findClass "com/example/descendant/descendant/model/XmlChars" = some m.cls := findClass_of_methodNamed Bd.named
  have hnm := (name_of_methodNamed Bd.named Bd.method).1
  have X0 : Stand p l e ({ frames := 0, cells := 0, slots := 0, locals := 0 } : Room) s m #[(.int p1)] below meth c s₁ [] 0 0 := Stand.of_body Bd
  have e0 : s₁.heap = h0 := by rw [← hh, Bd.state]; rfl
  have N0 := Fr.nil n0
  have pre0 : ∀ t, Steps p.tables e below (s₁.setTop (mkF m 0 #[.val (.int p1)] [])) t → Steps p.tables e below (s₁.setTop (entryFrame m #[(.int p1)] 1)) t := fun t k => castTop (ef_1 m p1) k
  obtain ⟨r, hrd⟩ : ∃ r, r = own_ic_0 p1 := ⟨_, rfl⟩
  obtain ⟨fs, hr, hrun, hended, hW, hsame⟩ := X0.leave (v := some (.int r)) (fun h => by rw [Bd.returns] at h; cases h)
  have K62 : r = own_ic_62 p1 → Steps p.tables e below (s₁.setTop (mkF m 62 #[.val (.int p1)] [])) (s₁.setFrames fs) := by
    intro h
    show Steps p.tables e below (s₁.setTop (mkF m 62 #[.val (.int p1)] [])) _
    refine XS.iconst X0.here hx rfl (hb hby d1_62) ?_
    show Steps p.tables e below (s₁.setTop (mkF m 63 #[.val (.int p1)] [(.int (1 : Int32))])) _
    refine XS.goto X0.here hx rfl (pc0 := 63) (pc' := 67) rfl (hb hby d1_63) (by decide) (by decide) ?_
    rw [show r = (1 : Int32) from h] at hr
    show Steps p.tables e below (s₁.setTop (mkF m 67 #[.val (.int p1)] [(.int (1 : Int32))])) _
    exact retN X0 hx (t := .boolean) Bd.returns (by simp) (hb hby d1_67) hr
  have K66 : r = own_ic_66 p1 → Steps p.tables e below (s₁.setTop (mkF m 66 #[.val (.int p1)] [])) (s₁.setFrames fs) := by
    intro h
    show Steps p.tables e below (s₁.setTop (mkF m 66 #[.val (.int p1)] [])) _
    refine XS.iconst X0.here hx rfl (hb hby d1_66) ?_
    rw [show r = (0 : Int32) from h] at hr
    show Steps p.tables e below (s₁.setTop (mkF m 67 #[.val (.int p1)] [(.int (0 : Int32))])) _
    exact retN X0 hx (t := .boolean) Bd.returns (by simp) (hb hby d1_67) hr
  have K56 : r = own_ic_56 p1 → Steps p.tables e below (s₁.setTop (mkF m 56 #[.val (.int p1)] [])) (s₁.setFrames fs) := by
    intro h
    show Steps p.tables e below (s₁.setTop (mkF m 56 #[.val (.int p1)] [])) _
    refine XS.iloadN X0.here hx rfl (hb hby d1_56) rfl ?_
    show Steps p.tables e below (s₁.setTop (mkF m 57 #[.val (.int p1)] [(.int p1)])) _
    refine XS.bipush X0.here hx rfl (hb hby d1_57) ?_
    by_cases hc : p1 = (13 : Int32)
    · show Steps p.tables e below (s₁.setTop (mkF m 59 #[.val (.int p1)] [(.int (13 : Int32)), (.int p1)])) _
      refine XS.icmpNo X0.here hx rfl (hb hby d1_59) rfl (teq hc).2 ?_
      exact K62 (h.trans (if_pos hc))
    · show Steps p.tables e below (s₁.setTop (mkF m 59 #[.val (.int p1)] [(.int (13 : Int32)), (.int p1)])) _
      refine XS.icmpYes X0.here hx rfl (pc0 := 59) (pc' := 66) rfl (hb hby d1_59) rfl (feq hc).2 (by decide) (by decide) ?_
      exact K66 (h.trans (if_neg hc))
  have K50 : r = own_ic_50 p1 → Steps p.tables e below (s₁.setTop (mkF m 50 #[.val (.int p1)] [])) (s₁.setFrames fs) := by
    intro h
    show Steps p.tables e below (s₁.setTop (mkF m 50 #[.val (.int p1)] [])) _
    refine XS.iloadN X0.here hx rfl (hb hby d1_50) rfl ?_
    show Steps p.tables e below (s₁.setTop (mkF m 51 #[.val (.int p1)] [(.int p1)])) _
    refine XS.bipush X0.here hx rfl (hb hby d1_51) ?_
    by_cases hc : p1 = (10 : Int32)
    · show Steps p.tables e below (s₁.setTop (mkF m 53 #[.val (.int p1)] [(.int (10 : Int32)), (.int p1)])) _
      refine XS.icmpYes X0.here hx rfl (pc0 := 53) (pc' := 62) rfl (hb hby d1_53) rfl (teq hc).1 (by decide) (by decide) ?_
      exact K62 (h.trans (if_pos hc))
    · show Steps p.tables e below (s₁.setTop (mkF m 53 #[.val (.int p1)] [(.int (10 : Int32)), (.int p1)])) _
      refine XS.icmpNo X0.here hx rfl (hb hby d1_53) rfl (feq hc).1 ?_
      exact K56 (h.trans (if_neg hc))
  have K44 : r = own_ic_44 p1 → Steps p.tables e below (s₁.setTop (mkF m 44 #[.val (.int p1)] [])) (s₁.setFrames fs) := by
    intro h
    show Steps p.tables e below (s₁.setTop (mkF m 44 #[.val (.int p1)] [])) _
    refine XS.iloadN X0.here hx rfl (hb hby d1_44) rfl ?_
    show Steps p.tables e below (s₁.setTop (mkF m 45 #[.val (.int p1)] [(.int p1)])) _
    refine XS.bipush X0.here hx rfl (hb hby d1_45) ?_
    by_cases hc : p1 = (9 : Int32)
    · show Steps p.tables e below (s₁.setTop (mkF m 47 #[.val (.int p1)] [(.int (9 : Int32)), (.int p1)])) _
      refine XS.icmpYes X0.here hx rfl (pc0 := 47) (pc' := 62) rfl (hb hby d1_47) rfl (teq hc).1 (by decide) (by decide) ?_
      exact K62 (h.trans (if_pos hc))
    · show Steps p.tables e below (s₁.setTop (mkF m 47 #[.val (.int p1)] [(.int (9 : Int32)), (.int p1)])) _
      refine XS.icmpNo X0.here hx rfl (hb hby d1_47) rfl (feq hc).1 ?_
      exact K50 (h.trans (if_neg hc))
  have K40 : r = own_ic_40 p1 → Steps p.tables e below (s₁.setTop (mkF m 40 #[.val (.int p1)] [])) (s₁.setFrames fs) := by
    intro h
    show Steps p.tables e below (s₁.setTop (mkF m 40 #[.val (.int p1)] [])) _
    refine XS.iconst X0.here hx rfl (hb hby d1_40) ?_
    show Steps p.tables e below (s₁.setTop (mkF m 41 #[.val (.int p1)] [(.int (0 : Int32))])) _
    refine XS.goto X0.here hx rfl (pc0 := 41) (pc' := 67) rfl (hb hby d1_41) (by decide) (by decide) ?_
    rw [show r = (0 : Int32) from h] at hr
    show Steps p.tables e below (s₁.setTop (mkF m 67 #[.val (.int p1)] [(.int (0 : Int32))])) _
    exact retN X0 hx (t := .boolean) Bd.returns (by simp) (hb hby d1_67) hr
  have K36 : r = own_ic_36 p1 → Steps p.tables e below (s₁.setTop (mkF m 36 #[.val (.int p1)] [])) (s₁.setFrames fs) := by
    intro h
    show Steps p.tables e below (s₁.setTop (mkF m 36 #[.val (.int p1)] [])) _
    refine XS.iconst X0.here hx rfl (hb hby d1_36) ?_
    show Steps p.tables e below (s₁.setTop (mkF m 37 #[.val (.int p1)] [(.int (1 : Int32))])) _
    refine XS.goto X0.here hx rfl (pc0 := 37) (pc' := 67) rfl (hb hby d1_37) (by decide) (by decide) ?_
    rw [show r = (1 : Int32) from h] at hr
    show Steps p.tables e below (s₁.setTop (mkF m 67 #[.val (.int p1)] [(.int (1 : Int32))])) _
    exact retN X0 hx (t := .boolean) Bd.returns (by simp) (hb hby d1_67) hr
  have K30 : r = own_ic_30 p1 → Steps p.tables e below (s₁.setTop (mkF m 30 #[.val (.int p1)] [])) (s₁.setFrames fs) := by
    intro h
    show Steps p.tables e below (s₁.setTop (mkF m 30 #[.val (.int p1)] [])) _
    refine XS.iloadN X0.here hx rfl (hb hby d1_30) rfl ?_
    show Steps p.tables e below (s₁.setTop (mkF m 31 #[.val (.int p1)] [(.int p1)])) _
    refine X0.ldcI hx hown (mvT hZ (hw _ (List.mem_of_getElem? (i := 21) rfl))) rfl (hb hby d1_31) ?_
    by_cases hc : (1114111 : Int32) < p1
    · show Steps p.tables e below (s₁.setTop (mkF m 33 #[.val (.int p1)] [(.int (1114111 : Int32)), (.int p1)])) _
      refine XS.icmpYes X0.here hx rfl (pc0 := 33) (pc' := 40) rfl (hb hby d1_33) rfl (tlt hc).2.2.1 (by decide) (by decide) ?_
      exact K40 (h.trans (if_pos hc))
    · show Steps p.tables e below (s₁.setTop (mkF m 33 #[.val (.int p1)] [(.int (1114111 : Int32)), (.int p1)])) _
      refine XS.icmpNo X0.here hx rfl (hb hby d1_33) rfl (flt hc).2.2.1 ?_
      exact K36 (h.trans (if_neg hc))
  have K24 : r = own_ic_24 p1 → Steps p.tables e below (s₁.setTop (mkF m 24 #[.val (.int p1)] [])) (s₁.setFrames fs) := by
    intro h
    show Steps p.tables e below (s₁.setTop (mkF m 24 #[.val (.int p1)] [])) _
    refine XS.iloadN X0.here hx rfl (hb hby d1_24) rfl ?_
    show Steps p.tables e below (s₁.setTop (mkF m 25 #[.val (.int p1)] [(.int p1)])) _
    refine X0.ldcI hx hown (mvT hZ (hw _ (List.mem_of_getElem? (i := 20) rfl))) rfl (hb hby d1_25) ?_
    by_cases hc : p1 < (65536 : Int32)
    · show Steps p.tables e below (s₁.setTop (mkF m 27 #[.val (.int p1)] [(.int (65536 : Int32)), (.int p1)])) _
      refine XS.icmpYes X0.here hx rfl (pc0 := 27) (pc' := 40) rfl (hb hby d1_27) rfl (tlt hc).1 (by decide) (by decide) ?_
      exact K40 (h.trans (if_pos hc))
    · show Steps p.tables e below (s₁.setTop (mkF m 27 #[.val (.int p1)] [(.int (65536 : Int32)), (.int p1)])) _
      refine XS.icmpNo X0.here hx rfl (hb hby d1_27) rfl (flt hc).1 ?_
      exact K30 (h.trans (if_neg hc))
  have K18 : r = own_ic_18 p1 → Steps p.tables e below (s₁.setTop (mkF m 18 #[.val (.int p1)] [])) (s₁.setFrames fs) := by
    intro h
    show Steps p.tables e below (s₁.setTop (mkF m 18 #[.val (.int p1)] [])) _
    refine XS.iloadN X0.here hx rfl (hb hby d1_18) rfl ?_
    show Steps p.tables e below (s₁.setTop (mkF m 19 #[.val (.int p1)] [(.int p1)])) _
    refine X0.ldcI hx hown (mvT hZ (hw _ (List.mem_of_getElem? (i := 18) rfl))) rfl (hb hby d1_19) ?_
    by_cases hc : (65533 : Int32) < p1
    · show Steps p.tables e below (s₁.setTop (mkF m 21 #[.val (.int p1)] [(.int (65533 : Int32)), (.int p1)])) _
      refine XS.icmpNo X0.here hx rfl (hb hby d1_21) rfl (tlt hc).2.2.2 ?_
      exact K24 (h.trans (if_pos hc))
    · show Steps p.tables e below (s₁.setTop (mkF m 21 #[.val (.int p1)] [(.int (65533 : Int32)), (.int p1)])) _
      refine XS.icmpYes X0.here hx rfl (pc0 := 21) (pc' := 36) rfl (hb hby d1_21) rfl (flt hc).2.2.2 (by decide) (by decide) ?_
      exact K36 (h.trans (if_neg hc))
  have K12 : r = own_ic_12 p1 → Steps p.tables e below (s₁.setTop (mkF m 12 #[.val (.int p1)] [])) (s₁.setFrames fs) := by
    intro h
    show Steps p.tables e below (s₁.setTop (mkF m 12 #[.val (.int p1)] [])) _
    refine XS.iloadN X0.here hx rfl (hb hby d1_12) rfl ?_
    show Steps p.tables e below (s₁.setTop (mkF m 13 #[.val (.int p1)] [(.int p1)])) _
    refine X0.ldcI hx hown (mvT hZ (hw _ (List.mem_of_getElem? (i := 17) rfl))) rfl (hb hby d1_13) ?_
    by_cases hc : p1 < (57344 : Int32)
    · show Steps p.tables e below (s₁.setTop (mkF m 15 #[.val (.int p1)] [(.int (57344 : Int32)), (.int p1)])) _
      refine XS.icmpYes X0.here hx rfl (pc0 := 15) (pc' := 24) rfl (hb hby d1_15) rfl (tlt hc).1 (by decide) (by decide) ?_
      exact K24 (h.trans (if_pos hc))
    · show Steps p.tables e below (s₁.setTop (mkF m 15 #[.val (.int p1)] [(.int (57344 : Int32)), (.int p1)])) _
      refine XS.icmpNo X0.here hx rfl (hb hby d1_15) rfl (flt hc).1 ?_
      exact K18 (h.trans (if_neg hc))
  have K6 : r = own_ic_6 p1 → Steps p.tables e below (s₁.setTop (mkF m 6 #[.val (.int p1)] [])) (s₁.setFrames fs) := by
    intro h
    show Steps p.tables e below (s₁.setTop (mkF m 6 #[.val (.int p1)] [])) _
    refine XS.iloadN X0.here hx rfl (hb hby d1_6) rfl ?_
    show Steps p.tables e below (s₁.setTop (mkF m 7 #[.val (.int p1)] [(.int p1)])) _
    refine X0.ldcI hx hown (mvT hZ (hw _ (List.mem_of_getElem? (i := 14) rfl))) rfl (hb hby d1_7) ?_
    by_cases hc : (55295 : Int32) < p1
    · show Steps p.tables e below (s₁.setTop (mkF m 9 #[.val (.int p1)] [(.int (55295 : Int32)), (.int p1)])) _
      refine XS.icmpNo X0.here hx rfl (hb hby d1_9) rfl (tlt hc).2.2.2 ?_
      exact K12 (h.trans (if_pos hc))
    · show Steps p.tables e below (s₁.setTop (mkF m 9 #[.val (.int p1)] [(.int (55295 : Int32)), (.int p1)])) _
      refine XS.icmpYes X0.here hx rfl (pc0 := 9) (pc' := 36) rfl (hb hby d1_9) rfl (flt hc).2.2.2 (by decide) (by decide) ?_
      exact K36 (h.trans (if_neg hc))
  have K0 : r = own_ic_0 p1 → Steps p.tables e below (s₁.setTop (mkF m 0 #[.val (.int p1)] [])) (s₁.setFrames fs) := by
    intro h
    show Steps p.tables e below (s₁.setTop (mkF m 0 #[.val (.int p1)] [])) _
    refine XS.iloadN X0.here hx rfl (hb hby d1_0) rfl ?_
    show Steps p.tables e below (s₁.setTop (mkF m 1 #[.val (.int p1)] [(.int p1)])) _
    refine XS.bipush X0.here hx rfl (hb hby d1_1) ?_
    by_cases hc : p1 < (32 : Int32)
    · show Steps p.tables e below (s₁.setTop (mkF m 3 #[.val (.int p1)] [(.int (32 : Int32)), (.int p1)])) _
      refine XS.icmpYes X0.here hx rfl (pc0 := 3) (pc' := 44) rfl (hb hby d1_3) rfl (tlt hc).1 (by decide) (by decide) ?_
      exact K44 (h.trans (if_pos hc))
    · show Steps p.tables e below (s₁.setTop (mkF m 3 #[.val (.int p1)] [(.int (32 : Int32)), (.int p1)])) _
      refine XS.icmpNo X0.here hx rfl (hb hby d1_3) rfl (flt hc).1 ?_
      exact K6 (h.trans (if_neg hc))
  refine ⟨_, _, pre0 _ ?_, hrun, hended, _, _, rfl, ?_, ⟨_, rfl⟩, hW, hsame.mono (by decide) (by decide)⟩
  · exact K0 hrd
  · show Q1 Z p1 h0 n0 _ s₁.heap _
    rw [e0]
    exact ⟨by rw [hrd], N0, rfl⟩
theorem d2_0 : decode method_2_code 0 = .ok (.iload_n 0, 1) := by decide +kernel
theorem d2_1 : decode method_2_code 1 = .ok (.bipush 9, 2) := by decide +kernel
theorem d2_3 : decode method_2_code 3 = .ok (.if_icmp .eq 15, 3) := by decide +kernel
theorem d2_6 : decode method_2_code 6 = .ok (.iload_n 0, 1) := by decide +kernel
theorem d2_7 : decode method_2_code 7 = .ok (.bipush 10, 2) := by decide +kernel
theorem d2_9 : decode method_2_code 9 = .ok (.if_icmp .eq 9, 3) := by decide +kernel
theorem d2_12 : decode method_2_code 12 = .ok (.iload_n 0, 1) := by decide +kernel
theorem d2_13 : decode method_2_code 13 = .ok (.bipush 13, 2) := by decide +kernel
theorem d2_15 : decode method_2_code 15 = .ok (.if_icmp .ne 5, 3) := by decide +kernel
theorem d2_18 : decode method_2_code 18 = .ok (.iconst 1, 1) := by decide +kernel
theorem d2_19 : decode method_2_code 19 = .ok (.ireturn, 1) := by decide +kernel
theorem d2_20 : decode method_2_code 20 = .ok (.iload_n 0, 1) := by decide +kernel
theorem d2_21 : decode method_2_code 21 = .ok (.bipush 32, 2) := by decide +kernel
theorem d2_23 : decode method_2_code 23 = .ok (.if_icmp .lt 9, 3) := by decide +kernel
theorem d2_26 : decode method_2_code 26 = .ok (.iload_n 0, 1) := by decide +kernel
theorem d2_27 : decode method_2_code 27 = .ok (.ldc 7, 2) := by decide +kernel
theorem d2_29 : decode method_2_code 29 = .ok (.if_icmp .le 5, 3) := by decide +kernel
theorem d2_32 : decode method_2_code 32 = .ok (.iconst 0, 1) := by decide +kernel
theorem d2_33 : decode method_2_code 33 = .ok (.ireturn, 1) := by decide +kernel
theorem d2_34 : decode method_2_code 34 = .ok (.iload_n 0, 1) := by decide +kernel
theorem d2_35 : decode method_2_code 35 = .ok (.ldc 8, 2) := by decide +kernel
theorem d2_37 : decode method_2_code 37 = .ok (.if_icmp .lt 11, 3) := by decide +kernel
theorem d2_40 : decode method_2_code 40 = .ok (.iload_n 0, 1) := by decide +kernel
theorem d2_41 : decode method_2_code 41 = .ok (.ldc 9, 2) := by decide +kernel
theorem d2_43 : decode method_2_code 43 = .ok (.if_icmp .gt 5, 3) := by decide +kernel
theorem d2_46 : decode method_2_code 46 = .ok (.iconst 0, 1) := by decide +kernel
theorem d2_47 : decode method_2_code 47 = .ok (.ireturn, 1) := by decide +kernel
theorem d2_48 : decode method_2_code 48 = .ok (.iload_n 0, 1) := by decide +kernel
theorem d2_49 : decode method_2_code 49 = .ok (.ldc 10, 2) := by decide +kernel
theorem d2_51 : decode method_2_code 51 = .ok (.if_icmp .eq 9, 3) := by decide +kernel
theorem d2_54 : decode method_2_code 54 = .ok (.iload_n 0, 1) := by decide +kernel
theorem d2_55 : decode method_2_code 55 = .ok (.ldc 11, 2) := by decide +kernel
theorem d2_57 : decode method_2_code 57 = .ok (.if_icmp .ne 5, 3) := by decide +kernel
theorem d2_60 : decode method_2_code 60 = .ok (.iconst 0, 1) := by decide +kernel
theorem d2_61 : decode method_2_code 61 = .ok (.ireturn, 1) := by decide +kernel
theorem d2_62 : decode method_2_code 62 = .ok (.iconst 1, 1) := by decide +kernel
theorem d2_63 : decode method_2_code 63 = .ok (.ireturn, 1) := by decide +kernel
def own_rf_18 (p1 : Int32) : Int32 := (1 : Int32)
def own_rf_32 (p1 : Int32) : Int32 := (0 : Int32)
def own_rf_60 (p1 : Int32) : Int32 := (0 : Int32)
def own_rf_62 (p1 : Int32) : Int32 := (1 : Int32)
def own_rf_54 (p1 : Int32) : Int32 := if p1 = (65535 : Int32) then own_rf_60 p1 else own_rf_62 p1
def own_rf_48 (p1 : Int32) : Int32 := if p1 = (65534 : Int32) then own_rf_60 p1 else own_rf_54 p1
def own_rf_46 (p1 : Int32) : Int32 := (0 : Int32)
def own_rf_40 (p1 : Int32) : Int32 := if (57343 : Int32) < p1 then own_rf_48 p1 else own_rf_46 p1
def own_rf_34 (p1 : Int32) : Int32 := if p1 < (55296 : Int32) then own_rf_48 p1 else own_rf_40 p1
def own_rf_26 (p1 : Int32) : Int32 := if (1114111 : Int32) < p1 then own_rf_32 p1 else own_rf_34 p1
def own_rf_20 (p1 : Int32) : Int32 := if p1 < (32 : Int32) then own_rf_32 p1 else own_rf_26 p1
def own_rf_12 (p1 : Int32) : Int32 := if p1 = (13 : Int32) then own_rf_18 p1 else own_rf_20 p1
def own_rf_6 (p1 : Int32) : Int32 := if p1 = (10 : Int32) then own_rf_18 p1 else own_rf_12 p1
def own_rf_0 (p1 : Int32) : Int32 := if p1 = (9 : Int32) then own_rf_18 p1 else own_rf_6 p1
theorem pn_2 : plainName "com/example/descendant/descendant/model/XmlCharsIsCharPinLaw" = true := by first | (simp [plainName, overriddenIn]; done) | decide +kernel
theorem ef_2 (m : MethodId) (x0 : Int32) : entryFrame m #[(.int x0)] 1 = mkF m 0 #[.val (.int x0)] [] := by first | (simp [entryFrame, mkF, argsToLocals, Value.category]; done) | rfl
def Q2 (Z : State) (p1 : Int32) (h0 : Heap) (n0 : Nat) (v : Option Value) (h : Heap) (L : List Loc) : Prop := v = some (.int (own_rf_0 p1)) ∧ Fr n0 L ∧ h = h0
set_option maxRecDepth 65536 in
set_option maxHeartbeats 40000000 in
theorem rm2 (l : Launch) (Z : State) (a0 : Array Value) (hw : ∀ d ∈ tables_1, d.before a0 Z = true) (ws : List Jvm.Cond) (p1 : Int32) (h0 : Heap) (n0 : Nat) (Z0 : n0 ≤ h0.size)  :
    MetFree l (⟨"com/example/descendant/descendant/model/XmlCharsIsCharPinLaw", "reference", "(I)Z"⟩ : MethodName) (head1 (Jvm.Cond.code (⟨"com/example/descendant/descendant/model/XmlCharsIsCharPinLaw", "reference", "(I)Z"⟩ : MethodName) method_2_code 1 (some .boolean) :: ws) ({ frames := 0, cells := 0, slots := 0, locals := 0 } : Room)) (fun a U => a = #[(.int p1)] ∧ Z.Warmed39 U.vm ∧ U.heap = h0) (fun _ _ _ _ _ => True) (fun _ U o U' => ∃ v L, o = .returned v ∧ Q2 Z p1 h0 n0 v U'.heap L ∧ FrameEnd U o U' L ({ frames := 0, cells := 0, slots := 0, locals := 0 } : Room).cells ({ frames := 0, cells := 0, slots := 0, locals := 0 } : Room).slots) := by
  refine MetFree.of_bodySF (plainFor_of_name pn_2) hisR ?_
  intro p e s m args below meth c s₁ Bd hml0 hP hK
  obtain ⟨rfl, hZ, hh⟩ := hP
  have hx := Bd.exec
  have hby := Bd.bytes
  have hml : c.maxLocals = 1 := hml0
  have hown : s.vm.findClass "com/example/descendant/descendant/model/XmlCharsIsCharPinLaw" = some m.cls := findClass_of_methodNamed Bd.named
  have hnm := (name_of_methodNamed Bd.named Bd.method).1
  have X0 : Stand p l e ({ frames := 0, cells := 0, slots := 0, locals := 0 } : Room) s m #[(.int p1)] below meth c s₁ [] 0 0 := Stand.of_body Bd
  have e0 : s₁.heap = h0 := by rw [← hh, Bd.state]; rfl
  have N0 := Fr.nil n0
  have pre0 : ∀ t, Steps p.tables e below (s₁.setTop (mkF m 0 #[.val (.int p1)] [])) t → Steps p.tables e below (s₁.setTop (entryFrame m #[(.int p1)] 1)) t := fun t k => castTop (ef_2 m p1) k
  obtain ⟨r, hrd⟩ : ∃ r, r = own_rf_0 p1 := ⟨_, rfl⟩
  obtain ⟨fs, hr, hrun, hended, hW, hsame⟩ := X0.leave (v := some (.int r)) (fun h => by rw [Bd.returns] at h; cases h)
  have K18 : r = own_rf_18 p1 → Steps p.tables e below (s₁.setTop (mkF m 18 #[.val (.int p1)] [])) (s₁.setFrames fs) := by
    intro h
    show Steps p.tables e below (s₁.setTop (mkF m 18 #[.val (.int p1)] [])) _
    refine XS.iconst X0.here hx rfl (hb hby d2_18) ?_
    rw [show r = (1 : Int32) from h] at hr
    show Steps p.tables e below (s₁.setTop (mkF m 19 #[.val (.int p1)] [(.int (1 : Int32))])) _
    exact retN X0 hx (t := .boolean) Bd.returns (by simp) (hb hby d2_19) hr
  have K32 : r = own_rf_32 p1 → Steps p.tables e below (s₁.setTop (mkF m 32 #[.val (.int p1)] [])) (s₁.setFrames fs) := by
    intro h
    show Steps p.tables e below (s₁.setTop (mkF m 32 #[.val (.int p1)] [])) _
    refine XS.iconst X0.here hx rfl (hb hby d2_32) ?_
    rw [show r = (0 : Int32) from h] at hr
    show Steps p.tables e below (s₁.setTop (mkF m 33 #[.val (.int p1)] [(.int (0 : Int32))])) _
    exact retN X0 hx (t := .boolean) Bd.returns (by simp) (hb hby d2_33) hr
  have K60 : r = own_rf_60 p1 → Steps p.tables e below (s₁.setTop (mkF m 60 #[.val (.int p1)] [])) (s₁.setFrames fs) := by
    intro h
    show Steps p.tables e below (s₁.setTop (mkF m 60 #[.val (.int p1)] [])) _
    refine XS.iconst X0.here hx rfl (hb hby d2_60) ?_
    rw [show r = (0 : Int32) from h] at hr
    show Steps p.tables e below (s₁.setTop (mkF m 61 #[.val (.int p1)] [(.int (0 : Int32))])) _
    exact retN X0 hx (t := .boolean) Bd.returns (by simp) (hb hby d2_61) hr
  have K62 : r = own_rf_62 p1 → Steps p.tables e below (s₁.setTop (mkF m 62 #[.val (.int p1)] [])) (s₁.setFrames fs) := by
    intro h
    show Steps p.tables e below (s₁.setTop (mkF m 62 #[.val (.int p1)] [])) _
    refine XS.iconst X0.here hx rfl (hb hby d2_62) ?_
    rw [show r = (1 : Int32) from h] at hr
    show Steps p.tables e below (s₁.setTop (mkF m 63 #[.val (.int p1)] [(.int (1 : Int32))])) _
    exact retN X0 hx (t := .boolean) Bd.returns (by simp) (hb hby d2_63) hr
  have K54 : r = own_rf_54 p1 → Steps p.tables e below (s₁.setTop (mkF m 54 #[.val (.int p1)] [])) (s₁.setFrames fs) := by
    intro h
    show Steps p.tables e below (s₁.setTop (mkF m 54 #[.val (.int p1)] [])) _
    refine XS.iloadN X0.here hx rfl (hb hby d2_54) rfl ?_
    show Steps p.tables e below (s₁.setTop (mkF m 55 #[.val (.int p1)] [(.int p1)])) _
    refine X0.ldcI hx hown (mvT hZ (hw _ (List.mem_of_getElem? (i := 16) rfl))) rfl (hb hby d2_55) ?_
    by_cases hc : p1 = (65535 : Int32)
    · show Steps p.tables e below (s₁.setTop (mkF m 57 #[.val (.int p1)] [(.int (65535 : Int32)), (.int p1)])) _
      refine XS.icmpNo X0.here hx rfl (hb hby d2_57) rfl (teq hc).2 ?_
      exact K60 (h.trans (if_pos hc))
    · show Steps p.tables e below (s₁.setTop (mkF m 57 #[.val (.int p1)] [(.int (65535 : Int32)), (.int p1)])) _
      refine XS.icmpYes X0.here hx rfl (pc0 := 57) (pc' := 62) rfl (hb hby d2_57) rfl (feq hc).2 (by decide) (by decide) ?_
      exact K62 (h.trans (if_neg hc))
  have K48 : r = own_rf_48 p1 → Steps p.tables e below (s₁.setTop (mkF m 48 #[.val (.int p1)] [])) (s₁.setFrames fs) := by
    intro h
    show Steps p.tables e below (s₁.setTop (mkF m 48 #[.val (.int p1)] [])) _
    refine XS.iloadN X0.here hx rfl (hb hby d2_48) rfl ?_
    show Steps p.tables e below (s₁.setTop (mkF m 49 #[.val (.int p1)] [(.int p1)])) _
    refine X0.ldcI hx hown (mvT hZ (hw _ (List.mem_of_getElem? (i := 3) rfl))) rfl (hb hby d2_49) ?_
    by_cases hc : p1 = (65534 : Int32)
    · show Steps p.tables e below (s₁.setTop (mkF m 51 #[.val (.int p1)] [(.int (65534 : Int32)), (.int p1)])) _
      refine XS.icmpYes X0.here hx rfl (pc0 := 51) (pc' := 60) rfl (hb hby d2_51) rfl (teq hc).1 (by decide) (by decide) ?_
      exact K60 (h.trans (if_pos hc))
    · show Steps p.tables e below (s₁.setTop (mkF m 51 #[.val (.int p1)] [(.int (65534 : Int32)), (.int p1)])) _
      refine XS.icmpNo X0.here hx rfl (hb hby d2_51) rfl (feq hc).1 ?_
      exact K54 (h.trans (if_neg hc))
  have K46 : r = own_rf_46 p1 → Steps p.tables e below (s₁.setTop (mkF m 46 #[.val (.int p1)] [])) (s₁.setFrames fs) := by
    intro h
    show Steps p.tables e below (s₁.setTop (mkF m 46 #[.val (.int p1)] [])) _
    refine XS.iconst X0.here hx rfl (hb hby d2_46) ?_
    rw [show r = (0 : Int32) from h] at hr
    show Steps p.tables e below (s₁.setTop (mkF m 47 #[.val (.int p1)] [(.int (0 : Int32))])) _
    exact retN X0 hx (t := .boolean) Bd.returns (by simp) (hb hby d2_47) hr
  have K40 : r = own_rf_40 p1 → Steps p.tables e below (s₁.setTop (mkF m 40 #[.val (.int p1)] [])) (s₁.setFrames fs) := by
    intro h
    show Steps p.tables e below (s₁.setTop (mkF m 40 #[.val (.int p1)] [])) _
    refine XS.iloadN X0.here hx rfl (hb hby d2_40) rfl ?_
    show Steps p.tables e below (s₁.setTop (mkF m 41 #[.val (.int p1)] [(.int p1)])) _
    refine X0.ldcI hx hown (mvT hZ (hw _ (List.mem_of_getElem? (i := 19) rfl))) rfl (hb hby d2_41) ?_
    by_cases hc : (57343 : Int32) < p1
    · show Steps p.tables e below (s₁.setTop (mkF m 43 #[.val (.int p1)] [(.int (57343 : Int32)), (.int p1)])) _
      refine XS.icmpYes X0.here hx rfl (pc0 := 43) (pc' := 48) rfl (hb hby d2_43) rfl (tlt hc).2.2.1 (by decide) (by decide) ?_
      exact K48 (h.trans (if_pos hc))
    · show Steps p.tables e below (s₁.setTop (mkF m 43 #[.val (.int p1)] [(.int (57343 : Int32)), (.int p1)])) _
      refine XS.icmpNo X0.here hx rfl (hb hby d2_43) rfl (flt hc).2.2.1 ?_
      exact K46 (h.trans (if_neg hc))
  have K34 : r = own_rf_34 p1 → Steps p.tables e below (s₁.setTop (mkF m 34 #[.val (.int p1)] [])) (s₁.setFrames fs) := by
    intro h
    show Steps p.tables e below (s₁.setTop (mkF m 34 #[.val (.int p1)] [])) _
    refine XS.iloadN X0.here hx rfl (hb hby d2_34) rfl ?_
    show Steps p.tables e below (s₁.setTop (mkF m 35 #[.val (.int p1)] [(.int p1)])) _
    refine X0.ldcI hx hown (mvT hZ (hw _ (List.mem_of_getElem? (i := 1) rfl))) rfl (hb hby d2_35) ?_
    by_cases hc : p1 < (55296 : Int32)
    · show Steps p.tables e below (s₁.setTop (mkF m 37 #[.val (.int p1)] [(.int (55296 : Int32)), (.int p1)])) _
      refine XS.icmpYes X0.here hx rfl (pc0 := 37) (pc' := 48) rfl (hb hby d2_37) rfl (tlt hc).1 (by decide) (by decide) ?_
      exact K48 (h.trans (if_pos hc))
    · show Steps p.tables e below (s₁.setTop (mkF m 37 #[.val (.int p1)] [(.int (55296 : Int32)), (.int p1)])) _
      refine XS.icmpNo X0.here hx rfl (hb hby d2_37) rfl (flt hc).1 ?_
      exact K40 (h.trans (if_neg hc))
  have K26 : r = own_rf_26 p1 → Steps p.tables e below (s₁.setTop (mkF m 26 #[.val (.int p1)] [])) (s₁.setFrames fs) := by
    intro h
    show Steps p.tables e below (s₁.setTop (mkF m 26 #[.val (.int p1)] [])) _
    refine XS.iloadN X0.here hx rfl (hb hby d2_26) rfl ?_
    show Steps p.tables e below (s₁.setTop (mkF m 27 #[.val (.int p1)] [(.int p1)])) _
    refine X0.ldcI hx hown (mvT hZ (hw _ (List.mem_of_getElem? (i := 15) rfl))) rfl (hb hby d2_27) ?_
    by_cases hc : (1114111 : Int32) < p1
    · show Steps p.tables e below (s₁.setTop (mkF m 29 #[.val (.int p1)] [(.int (1114111 : Int32)), (.int p1)])) _
      refine XS.icmpNo X0.here hx rfl (hb hby d2_29) rfl (tlt hc).2.2.2 ?_
      exact K32 (h.trans (if_pos hc))
    · show Steps p.tables e below (s₁.setTop (mkF m 29 #[.val (.int p1)] [(.int (1114111 : Int32)), (.int p1)])) _
      refine XS.icmpYes X0.here hx rfl (pc0 := 29) (pc' := 34) rfl (hb hby d2_29) rfl (flt hc).2.2.2 (by decide) (by decide) ?_
      exact K34 (h.trans (if_neg hc))
  have K20 : r = own_rf_20 p1 → Steps p.tables e below (s₁.setTop (mkF m 20 #[.val (.int p1)] [])) (s₁.setFrames fs) := by
    intro h
    show Steps p.tables e below (s₁.setTop (mkF m 20 #[.val (.int p1)] [])) _
    refine XS.iloadN X0.here hx rfl (hb hby d2_20) rfl ?_
    show Steps p.tables e below (s₁.setTop (mkF m 21 #[.val (.int p1)] [(.int p1)])) _
    refine XS.bipush X0.here hx rfl (hb hby d2_21) ?_
    by_cases hc : p1 < (32 : Int32)
    · show Steps p.tables e below (s₁.setTop (mkF m 23 #[.val (.int p1)] [(.int (32 : Int32)), (.int p1)])) _
      refine XS.icmpYes X0.here hx rfl (pc0 := 23) (pc' := 32) rfl (hb hby d2_23) rfl (tlt hc).1 (by decide) (by decide) ?_
      exact K32 (h.trans (if_pos hc))
    · show Steps p.tables e below (s₁.setTop (mkF m 23 #[.val (.int p1)] [(.int (32 : Int32)), (.int p1)])) _
      refine XS.icmpNo X0.here hx rfl (hb hby d2_23) rfl (flt hc).1 ?_
      exact K26 (h.trans (if_neg hc))
  have K12 : r = own_rf_12 p1 → Steps p.tables e below (s₁.setTop (mkF m 12 #[.val (.int p1)] [])) (s₁.setFrames fs) := by
    intro h
    show Steps p.tables e below (s₁.setTop (mkF m 12 #[.val (.int p1)] [])) _
    refine XS.iloadN X0.here hx rfl (hb hby d2_12) rfl ?_
    show Steps p.tables e below (s₁.setTop (mkF m 13 #[.val (.int p1)] [(.int p1)])) _
    refine XS.bipush X0.here hx rfl (hb hby d2_13) ?_
    by_cases hc : p1 = (13 : Int32)
    · show Steps p.tables e below (s₁.setTop (mkF m 15 #[.val (.int p1)] [(.int (13 : Int32)), (.int p1)])) _
      refine XS.icmpNo X0.here hx rfl (hb hby d2_15) rfl (teq hc).2 ?_
      exact K18 (h.trans (if_pos hc))
    · show Steps p.tables e below (s₁.setTop (mkF m 15 #[.val (.int p1)] [(.int (13 : Int32)), (.int p1)])) _
      refine XS.icmpYes X0.here hx rfl (pc0 := 15) (pc' := 20) rfl (hb hby d2_15) rfl (feq hc).2 (by decide) (by decide) ?_
      exact K20 (h.trans (if_neg hc))
  have K6 : r = own_rf_6 p1 → Steps p.tables e below (s₁.setTop (mkF m 6 #[.val (.int p1)] [])) (s₁.setFrames fs) := by
    intro h
    show Steps p.tables e below (s₁.setTop (mkF m 6 #[.val (.int p1)] [])) _
    refine XS.iloadN X0.here hx rfl (hb hby d2_6) rfl ?_
    show Steps p.tables e below (s₁.setTop (mkF m 7 #[.val (.int p1)] [(.int p1)])) _
    refine XS.bipush X0.here hx rfl (hb hby d2_7) ?_
    by_cases hc : p1 = (10 : Int32)
    · show Steps p.tables e below (s₁.setTop (mkF m 9 #[.val (.int p1)] [(.int (10 : Int32)), (.int p1)])) _
      refine XS.icmpYes X0.here hx rfl (pc0 := 9) (pc' := 18) rfl (hb hby d2_9) rfl (teq hc).1 (by decide) (by decide) ?_
      exact K18 (h.trans (if_pos hc))
    · show Steps p.tables e below (s₁.setTop (mkF m 9 #[.val (.int p1)] [(.int (10 : Int32)), (.int p1)])) _
      refine XS.icmpNo X0.here hx rfl (hb hby d2_9) rfl (feq hc).1 ?_
      exact K12 (h.trans (if_neg hc))
  have K0 : r = own_rf_0 p1 → Steps p.tables e below (s₁.setTop (mkF m 0 #[.val (.int p1)] [])) (s₁.setFrames fs) := by
    intro h
    show Steps p.tables e below (s₁.setTop (mkF m 0 #[.val (.int p1)] [])) _
    refine XS.iloadN X0.here hx rfl (hb hby d2_0) rfl ?_
    show Steps p.tables e below (s₁.setTop (mkF m 1 #[.val (.int p1)] [(.int p1)])) _
    refine XS.bipush X0.here hx rfl (hb hby d2_1) ?_
    by_cases hc : p1 = (9 : Int32)
    · show Steps p.tables e below (s₁.setTop (mkF m 3 #[.val (.int p1)] [(.int (9 : Int32)), (.int p1)])) _
      refine XS.icmpYes X0.here hx rfl (pc0 := 3) (pc' := 18) rfl (hb hby d2_3) rfl (teq hc).1 (by decide) (by decide) ?_
      exact K18 (h.trans (if_pos hc))
    · show Steps p.tables e below (s₁.setTop (mkF m 3 #[.val (.int p1)] [(.int (9 : Int32)), (.int p1)])) _
      refine XS.icmpNo X0.here hx rfl (hb hby d2_3) rfl (feq hc).1 ?_
      exact K6 (h.trans (if_neg hc))
  refine ⟨_, _, pre0 _ ?_, hrun, hended, _, _, rfl, ?_, ⟨_, rfl⟩, hW, hsame.mono (by decide) (by decide)⟩
  · exact K0 hrd
  · show Q2 Z p1 h0 n0 _ s₁.heap _
    rw [e0]
    exact ⟨by rw [hrd], N0, rfl⟩
theorem own_lti {a b : Int32} (h : a.toInt < b.toInt) : a < b := Int32.lt_iff_toInt_lt.mpr h
theorem own_nlti {a b : Int32} (h : ¬ a.toInt < b.toInt) : ¬ a < b := fun q => h (Int32.lt_iff_toInt_lt.mp q)
theorem own_eqi {a b : Int32} (h : a.toInt = b.toInt) : a = b := Int32.toInt_inj.mp h
theorem own_neqi {a b : Int32} (h : ¬ a.toInt = b.toInt) : ¬ a = b := fun q => h (by rw [q])
theorem own_iv0 (p1 : Int32) (ha : (-2147483648 : Int) ≤ p1.toInt) (hb : p1.toInt ≤ 8) : own_ic_0 p1 = 0 ∧ own_rf_0 p1 = 0 := by
  constructor
  · show own_ic_0 p1 = _
    have e0 : own_ic_0 p1 = own_ic_44 p1 := if_pos (own_lti (by have q : (32 : Int32).toInt = 32 := rfl; omega))
    have e1 : own_ic_44 p1 = own_ic_50 p1 := if_neg (own_neqi (by have q : (9 : Int32).toInt = 9 := rfl; omega))
    have e2 : own_ic_50 p1 = own_ic_56 p1 := if_neg (own_neqi (by have q : (10 : Int32).toInt = 10 := rfl; omega))
    have e3 : own_ic_56 p1 = own_ic_66 p1 := if_neg (own_neqi (by have q : (13 : Int32).toInt = 13 := rfl; omega))
    exact e0.trans (e1.trans (e2.trans (e3.trans (rfl))))
  · show own_rf_0 p1 = _
    have e0 : own_rf_0 p1 = own_rf_6 p1 := if_neg (own_neqi (by have q : (9 : Int32).toInt = 9 := rfl; omega))
    have e1 : own_rf_6 p1 = own_rf_12 p1 := if_neg (own_neqi (by have q : (10 : Int32).toInt = 10 := rfl; omega))
    have e2 : own_rf_12 p1 = own_rf_20 p1 := if_neg (own_neqi (by have q : (13 : Int32).toInt = 13 := rfl; omega))
    have e3 : own_rf_20 p1 = own_rf_32 p1 := if_pos (own_lti (by have q : (32 : Int32).toInt = 32 := rfl; omega))
    exact e0.trans (e1.trans (e2.trans (e3.trans (rfl))))
theorem own_iv1 (p1 : Int32) (ha : (9 : Int) ≤ p1.toInt) (hb : p1.toInt ≤ 9) : own_ic_0 p1 = 1 ∧ own_rf_0 p1 = 1 := by
  constructor
  · show own_ic_0 p1 = _
    have e0 : own_ic_0 p1 = own_ic_44 p1 := if_pos (own_lti (by have q : (32 : Int32).toInt = 32 := rfl; omega))
    have e1 : own_ic_44 p1 = own_ic_62 p1 := if_pos (own_eqi (by have q : (9 : Int32).toInt = 9 := rfl; omega))
    exact e0.trans (e1.trans (rfl))
  · show own_rf_0 p1 = _
    have e0 : own_rf_0 p1 = own_rf_18 p1 := if_pos (own_eqi (by have q : (9 : Int32).toInt = 9 := rfl; omega))
    exact e0.trans (rfl)
theorem own_iv2 (p1 : Int32) (ha : (10 : Int) ≤ p1.toInt) (hb : p1.toInt ≤ 10) : own_ic_0 p1 = 1 ∧ own_rf_0 p1 = 1 := by
  constructor
  · show own_ic_0 p1 = _
    have e0 : own_ic_0 p1 = own_ic_44 p1 := if_pos (own_lti (by have q : (32 : Int32).toInt = 32 := rfl; omega))
    have e1 : own_ic_44 p1 = own_ic_50 p1 := if_neg (own_neqi (by have q : (9 : Int32).toInt = 9 := rfl; omega))
    have e2 : own_ic_50 p1 = own_ic_62 p1 := if_pos (own_eqi (by have q : (10 : Int32).toInt = 10 := rfl; omega))
    exact e0.trans (e1.trans (e2.trans (rfl)))
  · show own_rf_0 p1 = _
    have e0 : own_rf_0 p1 = own_rf_6 p1 := if_neg (own_neqi (by have q : (9 : Int32).toInt = 9 := rfl; omega))
    have e1 : own_rf_6 p1 = own_rf_18 p1 := if_pos (own_eqi (by have q : (10 : Int32).toInt = 10 := rfl; omega))
    exact e0.trans (e1.trans (rfl))
theorem own_iv3 (p1 : Int32) (ha : (11 : Int) ≤ p1.toInt) (hb : p1.toInt ≤ 12) : own_ic_0 p1 = 0 ∧ own_rf_0 p1 = 0 := by
  constructor
  · show own_ic_0 p1 = _
    have e0 : own_ic_0 p1 = own_ic_44 p1 := if_pos (own_lti (by have q : (32 : Int32).toInt = 32 := rfl; omega))
    have e1 : own_ic_44 p1 = own_ic_50 p1 := if_neg (own_neqi (by have q : (9 : Int32).toInt = 9 := rfl; omega))
    have e2 : own_ic_50 p1 = own_ic_56 p1 := if_neg (own_neqi (by have q : (10 : Int32).toInt = 10 := rfl; omega))
    have e3 : own_ic_56 p1 = own_ic_66 p1 := if_neg (own_neqi (by have q : (13 : Int32).toInt = 13 := rfl; omega))
    exact e0.trans (e1.trans (e2.trans (e3.trans (rfl))))
  · show own_rf_0 p1 = _
    have e0 : own_rf_0 p1 = own_rf_6 p1 := if_neg (own_neqi (by have q : (9 : Int32).toInt = 9 := rfl; omega))
    have e1 : own_rf_6 p1 = own_rf_12 p1 := if_neg (own_neqi (by have q : (10 : Int32).toInt = 10 := rfl; omega))
    have e2 : own_rf_12 p1 = own_rf_20 p1 := if_neg (own_neqi (by have q : (13 : Int32).toInt = 13 := rfl; omega))
    have e3 : own_rf_20 p1 = own_rf_32 p1 := if_pos (own_lti (by have q : (32 : Int32).toInt = 32 := rfl; omega))
    exact e0.trans (e1.trans (e2.trans (e3.trans (rfl))))
theorem own_iv4 (p1 : Int32) (ha : (13 : Int) ≤ p1.toInt) (hb : p1.toInt ≤ 13) : own_ic_0 p1 = 1 ∧ own_rf_0 p1 = 1 := by
  constructor
  · show own_ic_0 p1 = _
    have e0 : own_ic_0 p1 = own_ic_44 p1 := if_pos (own_lti (by have q : (32 : Int32).toInt = 32 := rfl; omega))
    have e1 : own_ic_44 p1 = own_ic_50 p1 := if_neg (own_neqi (by have q : (9 : Int32).toInt = 9 := rfl; omega))
    have e2 : own_ic_50 p1 = own_ic_56 p1 := if_neg (own_neqi (by have q : (10 : Int32).toInt = 10 := rfl; omega))
    have e3 : own_ic_56 p1 = own_ic_62 p1 := if_pos (own_eqi (by have q : (13 : Int32).toInt = 13 := rfl; omega))
    exact e0.trans (e1.trans (e2.trans (e3.trans (rfl))))
  · show own_rf_0 p1 = _
    have e0 : own_rf_0 p1 = own_rf_6 p1 := if_neg (own_neqi (by have q : (9 : Int32).toInt = 9 := rfl; omega))
    have e1 : own_rf_6 p1 = own_rf_12 p1 := if_neg (own_neqi (by have q : (10 : Int32).toInt = 10 := rfl; omega))
    have e2 : own_rf_12 p1 = own_rf_18 p1 := if_pos (own_eqi (by have q : (13 : Int32).toInt = 13 := rfl; omega))
    exact e0.trans (e1.trans (e2.trans (rfl)))
theorem own_iv5 (p1 : Int32) (ha : (14 : Int) ≤ p1.toInt) (hb : p1.toInt ≤ 31) : own_ic_0 p1 = 0 ∧ own_rf_0 p1 = 0 := by
  constructor
  · show own_ic_0 p1 = _
    have e0 : own_ic_0 p1 = own_ic_44 p1 := if_pos (own_lti (by have q : (32 : Int32).toInt = 32 := rfl; omega))
    have e1 : own_ic_44 p1 = own_ic_50 p1 := if_neg (own_neqi (by have q : (9 : Int32).toInt = 9 := rfl; omega))
    have e2 : own_ic_50 p1 = own_ic_56 p1 := if_neg (own_neqi (by have q : (10 : Int32).toInt = 10 := rfl; omega))
    have e3 : own_ic_56 p1 = own_ic_66 p1 := if_neg (own_neqi (by have q : (13 : Int32).toInt = 13 := rfl; omega))
    exact e0.trans (e1.trans (e2.trans (e3.trans (rfl))))
  · show own_rf_0 p1 = _
    have e0 : own_rf_0 p1 = own_rf_6 p1 := if_neg (own_neqi (by have q : (9 : Int32).toInt = 9 := rfl; omega))
    have e1 : own_rf_6 p1 = own_rf_12 p1 := if_neg (own_neqi (by have q : (10 : Int32).toInt = 10 := rfl; omega))
    have e2 : own_rf_12 p1 = own_rf_20 p1 := if_neg (own_neqi (by have q : (13 : Int32).toInt = 13 := rfl; omega))
    have e3 : own_rf_20 p1 = own_rf_32 p1 := if_pos (own_lti (by have q : (32 : Int32).toInt = 32 := rfl; omega))
    exact e0.trans (e1.trans (e2.trans (e3.trans (rfl))))
theorem own_iv6 (p1 : Int32) (ha : (32 : Int) ≤ p1.toInt) (hb : p1.toInt ≤ 55295) : own_ic_0 p1 = 1 ∧ own_rf_0 p1 = 1 := by
  constructor
  · show own_ic_0 p1 = _
    have e0 : own_ic_0 p1 = own_ic_6 p1 := if_neg (own_nlti (by have q : (32 : Int32).toInt = 32 := rfl; omega))
    have e1 : own_ic_6 p1 = own_ic_36 p1 := if_neg (own_nlti (by have q : (55295 : Int32).toInt = 55295 := rfl; omega))
    exact e0.trans (e1.trans (rfl))
  · show own_rf_0 p1 = _
    have e0 : own_rf_0 p1 = own_rf_6 p1 := if_neg (own_neqi (by have q : (9 : Int32).toInt = 9 := rfl; omega))
    have e1 : own_rf_6 p1 = own_rf_12 p1 := if_neg (own_neqi (by have q : (10 : Int32).toInt = 10 := rfl; omega))
    have e2 : own_rf_12 p1 = own_rf_20 p1 := if_neg (own_neqi (by have q : (13 : Int32).toInt = 13 := rfl; omega))
    have e3 : own_rf_20 p1 = own_rf_26 p1 := if_neg (own_nlti (by have q : (32 : Int32).toInt = 32 := rfl; omega))
    have e4 : own_rf_26 p1 = own_rf_34 p1 := if_neg (own_nlti (by have q : (1114111 : Int32).toInt = 1114111 := rfl; omega))
    have e5 : own_rf_34 p1 = own_rf_48 p1 := if_pos (own_lti (by have q : (55296 : Int32).toInt = 55296 := rfl; omega))
    have e6 : own_rf_48 p1 = own_rf_54 p1 := if_neg (own_neqi (by have q : (65534 : Int32).toInt = 65534 := rfl; omega))
    have e7 : own_rf_54 p1 = own_rf_62 p1 := if_neg (own_neqi (by have q : (65535 : Int32).toInt = 65535 := rfl; omega))
    exact e0.trans (e1.trans (e2.trans (e3.trans (e4.trans (e5.trans (e6.trans (e7.trans (rfl))))))))
theorem own_iv7 (p1 : Int32) (ha : (55296 : Int) ≤ p1.toInt) (hb : p1.toInt ≤ 57343) : own_ic_0 p1 = 0 ∧ own_rf_0 p1 = 0 := by
  constructor
  · show own_ic_0 p1 = _
    have e0 : own_ic_0 p1 = own_ic_6 p1 := if_neg (own_nlti (by have q : (32 : Int32).toInt = 32 := rfl; omega))
    have e1 : own_ic_6 p1 = own_ic_12 p1 := if_pos (own_lti (by have q : (55295 : Int32).toInt = 55295 := rfl; omega))
    have e2 : own_ic_12 p1 = own_ic_24 p1 := if_pos (own_lti (by have q : (57344 : Int32).toInt = 57344 := rfl; omega))
    have e3 : own_ic_24 p1 = own_ic_40 p1 := if_pos (own_lti (by have q : (65536 : Int32).toInt = 65536 := rfl; omega))
    exact e0.trans (e1.trans (e2.trans (e3.trans (rfl))))
  · show own_rf_0 p1 = _
    have e0 : own_rf_0 p1 = own_rf_6 p1 := if_neg (own_neqi (by have q : (9 : Int32).toInt = 9 := rfl; omega))
    have e1 : own_rf_6 p1 = own_rf_12 p1 := if_neg (own_neqi (by have q : (10 : Int32).toInt = 10 := rfl; omega))
    have e2 : own_rf_12 p1 = own_rf_20 p1 := if_neg (own_neqi (by have q : (13 : Int32).toInt = 13 := rfl; omega))
    have e3 : own_rf_20 p1 = own_rf_26 p1 := if_neg (own_nlti (by have q : (32 : Int32).toInt = 32 := rfl; omega))
    have e4 : own_rf_26 p1 = own_rf_34 p1 := if_neg (own_nlti (by have q : (1114111 : Int32).toInt = 1114111 := rfl; omega))
    have e5 : own_rf_34 p1 = own_rf_40 p1 := if_neg (own_nlti (by have q : (55296 : Int32).toInt = 55296 := rfl; omega))
    have e6 : own_rf_40 p1 = own_rf_46 p1 := if_neg (own_nlti (by have q : (57343 : Int32).toInt = 57343 := rfl; omega))
    exact e0.trans (e1.trans (e2.trans (e3.trans (e4.trans (e5.trans (e6.trans (rfl)))))))
theorem own_iv8 (p1 : Int32) (ha : (57344 : Int) ≤ p1.toInt) (hb : p1.toInt ≤ 65533) : own_ic_0 p1 = 1 ∧ own_rf_0 p1 = 1 := by
  constructor
  · show own_ic_0 p1 = _
    have e0 : own_ic_0 p1 = own_ic_6 p1 := if_neg (own_nlti (by have q : (32 : Int32).toInt = 32 := rfl; omega))
    have e1 : own_ic_6 p1 = own_ic_12 p1 := if_pos (own_lti (by have q : (55295 : Int32).toInt = 55295 := rfl; omega))
    have e2 : own_ic_12 p1 = own_ic_18 p1 := if_neg (own_nlti (by have q : (57344 : Int32).toInt = 57344 := rfl; omega))
    have e3 : own_ic_18 p1 = own_ic_36 p1 := if_neg (own_nlti (by have q : (65533 : Int32).toInt = 65533 := rfl; omega))
    exact e0.trans (e1.trans (e2.trans (e3.trans (rfl))))
  · show own_rf_0 p1 = _
    have e0 : own_rf_0 p1 = own_rf_6 p1 := if_neg (own_neqi (by have q : (9 : Int32).toInt = 9 := rfl; omega))
    have e1 : own_rf_6 p1 = own_rf_12 p1 := if_neg (own_neqi (by have q : (10 : Int32).toInt = 10 := rfl; omega))
    have e2 : own_rf_12 p1 = own_rf_20 p1 := if_neg (own_neqi (by have q : (13 : Int32).toInt = 13 := rfl; omega))
    have e3 : own_rf_20 p1 = own_rf_26 p1 := if_neg (own_nlti (by have q : (32 : Int32).toInt = 32 := rfl; omega))
    have e4 : own_rf_26 p1 = own_rf_34 p1 := if_neg (own_nlti (by have q : (1114111 : Int32).toInt = 1114111 := rfl; omega))
    have e5 : own_rf_34 p1 = own_rf_40 p1 := if_neg (own_nlti (by have q : (55296 : Int32).toInt = 55296 := rfl; omega))
    have e6 : own_rf_40 p1 = own_rf_48 p1 := if_pos (own_lti (by have q : (57343 : Int32).toInt = 57343 := rfl; omega))
    have e7 : own_rf_48 p1 = own_rf_54 p1 := if_neg (own_neqi (by have q : (65534 : Int32).toInt = 65534 := rfl; omega))
    have e8 : own_rf_54 p1 = own_rf_62 p1 := if_neg (own_neqi (by have q : (65535 : Int32).toInt = 65535 := rfl; omega))
    exact e0.trans (e1.trans (e2.trans (e3.trans (e4.trans (e5.trans (e6.trans (e7.trans (e8.trans (rfl)))))))))
theorem own_iv9 (p1 : Int32) (ha : (65534 : Int) ≤ p1.toInt) (hb : p1.toInt ≤ 65534) : own_ic_0 p1 = 0 ∧ own_rf_0 p1 = 0 := by
  constructor
  · show own_ic_0 p1 = _
    have e0 : own_ic_0 p1 = own_ic_6 p1 := if_neg (own_nlti (by have q : (32 : Int32).toInt = 32 := rfl; omega))
    have e1 : own_ic_6 p1 = own_ic_12 p1 := if_pos (own_lti (by have q : (55295 : Int32).toInt = 55295 := rfl; omega))
    have e2 : own_ic_12 p1 = own_ic_18 p1 := if_neg (own_nlti (by have q : (57344 : Int32).toInt = 57344 := rfl; omega))
    have e3 : own_ic_18 p1 = own_ic_24 p1 := if_pos (own_lti (by have q : (65533 : Int32).toInt = 65533 := rfl; omega))
    have e4 : own_ic_24 p1 = own_ic_40 p1 := if_pos (own_lti (by have q : (65536 : Int32).toInt = 65536 := rfl; omega))
    exact e0.trans (e1.trans (e2.trans (e3.trans (e4.trans (rfl)))))
  · show own_rf_0 p1 = _
    have e0 : own_rf_0 p1 = own_rf_6 p1 := if_neg (own_neqi (by have q : (9 : Int32).toInt = 9 := rfl; omega))
    have e1 : own_rf_6 p1 = own_rf_12 p1 := if_neg (own_neqi (by have q : (10 : Int32).toInt = 10 := rfl; omega))
    have e2 : own_rf_12 p1 = own_rf_20 p1 := if_neg (own_neqi (by have q : (13 : Int32).toInt = 13 := rfl; omega))
    have e3 : own_rf_20 p1 = own_rf_26 p1 := if_neg (own_nlti (by have q : (32 : Int32).toInt = 32 := rfl; omega))
    have e4 : own_rf_26 p1 = own_rf_34 p1 := if_neg (own_nlti (by have q : (1114111 : Int32).toInt = 1114111 := rfl; omega))
    have e5 : own_rf_34 p1 = own_rf_40 p1 := if_neg (own_nlti (by have q : (55296 : Int32).toInt = 55296 := rfl; omega))
    have e6 : own_rf_40 p1 = own_rf_48 p1 := if_pos (own_lti (by have q : (57343 : Int32).toInt = 57343 := rfl; omega))
    have e7 : own_rf_48 p1 = own_rf_60 p1 := if_pos (own_eqi (by have q : (65534 : Int32).toInt = 65534 := rfl; omega))
    exact e0.trans (e1.trans (e2.trans (e3.trans (e4.trans (e5.trans (e6.trans (e7.trans (rfl))))))))
theorem own_iv10 (p1 : Int32) (ha : (65535 : Int) ≤ p1.toInt) (hb : p1.toInt ≤ 65535) : own_ic_0 p1 = 0 ∧ own_rf_0 p1 = 0 := by
  constructor
  · show own_ic_0 p1 = _
    have e0 : own_ic_0 p1 = own_ic_6 p1 := if_neg (own_nlti (by have q : (32 : Int32).toInt = 32 := rfl; omega))
    have e1 : own_ic_6 p1 = own_ic_12 p1 := if_pos (own_lti (by have q : (55295 : Int32).toInt = 55295 := rfl; omega))
    have e2 : own_ic_12 p1 = own_ic_18 p1 := if_neg (own_nlti (by have q : (57344 : Int32).toInt = 57344 := rfl; omega))
    have e3 : own_ic_18 p1 = own_ic_24 p1 := if_pos (own_lti (by have q : (65533 : Int32).toInt = 65533 := rfl; omega))
    have e4 : own_ic_24 p1 = own_ic_40 p1 := if_pos (own_lti (by have q : (65536 : Int32).toInt = 65536 := rfl; omega))
    exact e0.trans (e1.trans (e2.trans (e3.trans (e4.trans (rfl)))))
  · show own_rf_0 p1 = _
    have e0 : own_rf_0 p1 = own_rf_6 p1 := if_neg (own_neqi (by have q : (9 : Int32).toInt = 9 := rfl; omega))
    have e1 : own_rf_6 p1 = own_rf_12 p1 := if_neg (own_neqi (by have q : (10 : Int32).toInt = 10 := rfl; omega))
    have e2 : own_rf_12 p1 = own_rf_20 p1 := if_neg (own_neqi (by have q : (13 : Int32).toInt = 13 := rfl; omega))
    have e3 : own_rf_20 p1 = own_rf_26 p1 := if_neg (own_nlti (by have q : (32 : Int32).toInt = 32 := rfl; omega))
    have e4 : own_rf_26 p1 = own_rf_34 p1 := if_neg (own_nlti (by have q : (1114111 : Int32).toInt = 1114111 := rfl; omega))
    have e5 : own_rf_34 p1 = own_rf_40 p1 := if_neg (own_nlti (by have q : (55296 : Int32).toInt = 55296 := rfl; omega))
    have e6 : own_rf_40 p1 = own_rf_48 p1 := if_pos (own_lti (by have q : (57343 : Int32).toInt = 57343 := rfl; omega))
    have e7 : own_rf_48 p1 = own_rf_54 p1 := if_neg (own_neqi (by have q : (65534 : Int32).toInt = 65534 := rfl; omega))
    have e8 : own_rf_54 p1 = own_rf_60 p1 := if_pos (own_eqi (by have q : (65535 : Int32).toInt = 65535 := rfl; omega))
    exact e0.trans (e1.trans (e2.trans (e3.trans (e4.trans (e5.trans (e6.trans (e7.trans (e8.trans (rfl)))))))))
theorem own_iv11 (p1 : Int32) (ha : (65536 : Int) ≤ p1.toInt) (hb : p1.toInt ≤ 1114111) : own_ic_0 p1 = 1 ∧ own_rf_0 p1 = 1 := by
  constructor
  · show own_ic_0 p1 = _
    have e0 : own_ic_0 p1 = own_ic_6 p1 := if_neg (own_nlti (by have q : (32 : Int32).toInt = 32 := rfl; omega))
    have e1 : own_ic_6 p1 = own_ic_12 p1 := if_pos (own_lti (by have q : (55295 : Int32).toInt = 55295 := rfl; omega))
    have e2 : own_ic_12 p1 = own_ic_18 p1 := if_neg (own_nlti (by have q : (57344 : Int32).toInt = 57344 := rfl; omega))
    have e3 : own_ic_18 p1 = own_ic_24 p1 := if_pos (own_lti (by have q : (65533 : Int32).toInt = 65533 := rfl; omega))
    have e4 : own_ic_24 p1 = own_ic_30 p1 := if_neg (own_nlti (by have q : (65536 : Int32).toInt = 65536 := rfl; omega))
    have e5 : own_ic_30 p1 = own_ic_36 p1 := if_neg (own_nlti (by have q : (1114111 : Int32).toInt = 1114111 := rfl; omega))
    exact e0.trans (e1.trans (e2.trans (e3.trans (e4.trans (e5.trans (rfl))))))
  · show own_rf_0 p1 = _
    have e0 : own_rf_0 p1 = own_rf_6 p1 := if_neg (own_neqi (by have q : (9 : Int32).toInt = 9 := rfl; omega))
    have e1 : own_rf_6 p1 = own_rf_12 p1 := if_neg (own_neqi (by have q : (10 : Int32).toInt = 10 := rfl; omega))
    have e2 : own_rf_12 p1 = own_rf_20 p1 := if_neg (own_neqi (by have q : (13 : Int32).toInt = 13 := rfl; omega))
    have e3 : own_rf_20 p1 = own_rf_26 p1 := if_neg (own_nlti (by have q : (32 : Int32).toInt = 32 := rfl; omega))
    have e4 : own_rf_26 p1 = own_rf_34 p1 := if_neg (own_nlti (by have q : (1114111 : Int32).toInt = 1114111 := rfl; omega))
    have e5 : own_rf_34 p1 = own_rf_40 p1 := if_neg (own_nlti (by have q : (55296 : Int32).toInt = 55296 := rfl; omega))
    have e6 : own_rf_40 p1 = own_rf_48 p1 := if_pos (own_lti (by have q : (57343 : Int32).toInt = 57343 := rfl; omega))
    have e7 : own_rf_48 p1 = own_rf_54 p1 := if_neg (own_neqi (by have q : (65534 : Int32).toInt = 65534 := rfl; omega))
    have e8 : own_rf_54 p1 = own_rf_62 p1 := if_neg (own_neqi (by have q : (65535 : Int32).toInt = 65535 := rfl; omega))
    exact e0.trans (e1.trans (e2.trans (e3.trans (e4.trans (e5.trans (e6.trans (e7.trans (e8.trans (rfl)))))))))
theorem own_iv12 (p1 : Int32) (ha : (1114112 : Int) ≤ p1.toInt) (hb : p1.toInt ≤ 2147483647) : own_ic_0 p1 = 0 ∧ own_rf_0 p1 = 0 := by
  constructor
  · show own_ic_0 p1 = _
    have e0 : own_ic_0 p1 = own_ic_6 p1 := if_neg (own_nlti (by have q : (32 : Int32).toInt = 32 := rfl; omega))
    have e1 : own_ic_6 p1 = own_ic_12 p1 := if_pos (own_lti (by have q : (55295 : Int32).toInt = 55295 := rfl; omega))
    have e2 : own_ic_12 p1 = own_ic_18 p1 := if_neg (own_nlti (by have q : (57344 : Int32).toInt = 57344 := rfl; omega))
    have e3 : own_ic_18 p1 = own_ic_24 p1 := if_pos (own_lti (by have q : (65533 : Int32).toInt = 65533 := rfl; omega))
    have e4 : own_ic_24 p1 = own_ic_30 p1 := if_neg (own_nlti (by have q : (65536 : Int32).toInt = 65536 := rfl; omega))
    have e5 : own_ic_30 p1 = own_ic_40 p1 := if_pos (own_lti (by have q : (1114111 : Int32).toInt = 1114111 := rfl; omega))
    exact e0.trans (e1.trans (e2.trans (e3.trans (e4.trans (e5.trans (rfl))))))
  · show own_rf_0 p1 = _
    have e0 : own_rf_0 p1 = own_rf_6 p1 := if_neg (own_neqi (by have q : (9 : Int32).toInt = 9 := rfl; omega))
    have e1 : own_rf_6 p1 = own_rf_12 p1 := if_neg (own_neqi (by have q : (10 : Int32).toInt = 10 := rfl; omega))
    have e2 : own_rf_12 p1 = own_rf_20 p1 := if_neg (own_neqi (by have q : (13 : Int32).toInt = 13 := rfl; omega))
    have e3 : own_rf_20 p1 = own_rf_26 p1 := if_neg (own_nlti (by have q : (32 : Int32).toInt = 32 := rfl; omega))
    have e4 : own_rf_26 p1 = own_rf_32 p1 := if_pos (own_lti (by have q : (1114111 : Int32).toInt = 1114111 := rfl; omega))
    exact e0.trans (e1.trans (e2.trans (e3.trans (e4.trans (rfl)))))
theorem own_law (p1 : Int32) : own_ic_0 p1 = own_rf_0 p1 := by
  have g := rng32 p1
  by_cases c0 : p1.toInt ≤ 8
  · obtain ⟨q1, q2⟩ := own_iv0 p1 (by omega) c0
    rw [q1, q2]
  by_cases c1 : p1.toInt ≤ 9
  · obtain ⟨q1, q2⟩ := own_iv1 p1 (by omega) c1
    rw [q1, q2]
  by_cases c2 : p1.toInt ≤ 10
  · obtain ⟨q1, q2⟩ := own_iv2 p1 (by omega) c2
    rw [q1, q2]
  by_cases c3 : p1.toInt ≤ 12
  · obtain ⟨q1, q2⟩ := own_iv3 p1 (by omega) c3
    rw [q1, q2]
  by_cases c4 : p1.toInt ≤ 13
  · obtain ⟨q1, q2⟩ := own_iv4 p1 (by omega) c4
    rw [q1, q2]
  by_cases c5 : p1.toInt ≤ 31
  · obtain ⟨q1, q2⟩ := own_iv5 p1 (by omega) c5
    rw [q1, q2]
  by_cases c6 : p1.toInt ≤ 55295
  · obtain ⟨q1, q2⟩ := own_iv6 p1 (by omega) c6
    rw [q1, q2]
  by_cases c7 : p1.toInt ≤ 57343
  · obtain ⟨q1, q2⟩ := own_iv7 p1 (by omega) c7
    rw [q1, q2]
  by_cases c8 : p1.toInt ≤ 65533
  · obtain ⟨q1, q2⟩ := own_iv8 p1 (by omega) c8
    rw [q1, q2]
  by_cases c9 : p1.toInt ≤ 65534
  · obtain ⟨q1, q2⟩ := own_iv9 p1 (by omega) c9
    rw [q1, q2]
  by_cases c10 : p1.toInt ≤ 65535
  · obtain ⟨q1, q2⟩ := own_iv10 p1 (by omega) c10
    rw [q1, q2]
  by_cases c11 : p1.toInt ≤ 1114111
  · obtain ⟨q1, q2⟩ := own_iv11 p1 (by omega) c11
    rw [q1, q2]
  obtain ⟨q1, q2⟩ := own_iv12 p1 (by omega) (by omega)
  rw [q1, q2]
theorem pd_0 : parseMethodDescriptor "(I)Z" = some ⟨[.int], some .boolean⟩ := by decide +kernel
theorem own_j (z : Int32) : ¬ (z &&& (7 : Int32)) < 0 ∧ (z &&& (7 : Int32)) < (8 : Int32) := by
  have q := c_and z (7 : Int32) (by decide)
  have q7 : (7 : Int32).toInt = 7 := rfl
  have q8 : (8 : Int32).toInt = 8 := rfl
  have q0 : (0 : Int32).toInt = 0 := rfl
  exact ⟨fun h => by rw [Int32.lt_iff_toInt_lt] at h; omega, by rw [Int32.lt_iff_toInt_lt]; omega⟩
theorem pn_0 : plainName "com/example/descendant/descendant/model/XmlCharsIsCharPinLaw" = true := by first | (simp [plainName, overriddenIn]; done) | decide +kernel
theorem ef_0 (m : MethodId) (x0 : Int32) (x1 : Int32) : entryFrame m #[(.int x0), (.int x1)] maxLocals = mkF m 0 #[.val (.int x0), .val (.int x1), .unset, .unset] [] := by first | (simp [entryFrame, mkF, argsToLocals, Value.category, maxLocals]; done) | rfl
def Q0 (Z : State) (p1 : Int32) (p2 : Int32) (h0 : Heap) (n0 : Nat) (v : Option Value) (h : Heap) (L : List Loc) : Prop := v = some (.int (1 : Int32)) ∧ Fr n0 L
set_option maxRecDepth 65536 in
set_option maxHeartbeats 40000000 in
theorem rm0 (l : Launch) (Z : State) (a0 : Array Value) (hw : ∀ d ∈ tables_1, d.before a0 Z = true) (ws : List Jvm.Cond) (p1 : Int32) (p2 : Int32) (h0 : Heap) (n0 : Nat) (Z0 : n0 ≤ h0.size)  :
    MetFree l x (head1 (Jvm.Cond.code x code maxLocals ret :: ws) room_1) (fun a U => a = #[(.int p1), (.int p2)] ∧ Z.Warmed39 U.vm ∧ U.heap = h0) (fun _ _ _ _ _ => True) (fun _ U o U' => ∃ v L, o = .returned v ∧ Q0 Z p1 p2 h0 n0 v U'.heap L ∧ FrameEnd U o U' L room_1.cells room_1.slots) := by
  refine MetFree.of_bodySF (plainFor_of_name pn_0) hisR ?_
  intro p e s m args below meth c s₁ Bd hml0 hP hK
  obtain ⟨rfl, hZ, hh⟩ := hP
  have hx := Bd.exec
  have hby := Bd.bytes
  have hml : c.maxLocals = 4 := hml0
  have hown : s.vm.findClass "com/example/descendant/descendant/model/XmlCharsIsCharPinLaw" = some m.cls := findClass_of_methodNamed Bd.named
  have hnm := (name_of_methodNamed Bd.named Bd.method).1
  have X0 : Stand p l e room_1 s m #[(.int p1), (.int p2)] below meth c s₁ [] 0 0 := Stand.of_body Bd
  have e0 : s₁.heap = h0 := by rw [← hh, Bd.state]; rfl
  have N0 := Fr.nil n0
  have pre0 : ∀ t, Steps p.tables e below (s₁.setTop (mkF m 0 #[.val (.int p1), .val (.int p2), .unset, .unset] [])) t → Steps p.tables e below (s₁.setTop (entryFrame m #[(.int p1), (.int p2)] maxLocals)) t := fun t k => castTop (ef_0 m p1 p2) k
  obtain ⟨T3, h3, k3, X3, e3, E3, A3, st3⟩ := newP X0 hx hZ (hw _ (List.mem_of_getElem? (i := 0) rfl)) e0 (g := (mkF m 2 #[.val (.int p1), .val (.int p2), .unset, .unset] [(.int (8 : Int32))])) rfl (hb hby at_2) rfl (by decide) (cap := 8) (by decide) (by decide) (by decide) (by decide)
  obtain ⟨b3, g3⟩ : ∃ z, z = h0.size := ⟨_, rfl⟩
  rw [← g3] at A3 st3
  have V_b3 : Arv Z h3 b3 k3 .int (8 : Int32) [(.int (0 : Int32)), (.int (0 : Int32)), (.int (0 : Int32)), (.int (0 : Int32)), (.int (0 : Int32)), (.int (0 : Int32)), (.int (0 : Int32)), (.int (0 : Int32))] (.int (0 : Int32)) := (Arv.new A3 (by decide)).pad (pad_rep [] (.int (0 : Int32)) 8)
  have g_b3 : n0 ≤ b3 := Nat.le_trans Z0 (Nat.le_of_eq g3.symm)
  have sz_b3 : h0.size ≤ b3 := (Nat.le_trans (Keep.refl h0 []).1 (Nat.le_of_eq g3.symm))
  have K3 : Keep h0 h3 [] := (Keep.refl h0 []).ext E3
  obtain ⟨cl_b3_7, Ar_b3, q_b3, S_b3, N_b3, H_b3, G_b3⟩ := V_b3
  have hin7 : ¬ ((0 : Int32) < 0 ∨ cl_b3_7.slots.size ≤ ((0 : Int32)).toNatClampNeg) := inb_of S_b3 ⟨by decide, by decide⟩
  obtain ⟨T4, h4, X4, e4, W4, st4⟩ := stI X3 hx hZ e3 Ar_b3 (j := (0 : Int32)) hin7 (g := (mkF m 7 #[.val (.int p1), .val (.int p2), .unset, .unset] [(.int (0 : Int32)), (.int (0 : Int32)), (.ref b3), (.ref b3)])) rfl rfl (hb hby at_7)
  have V_b3_4 := Arv.set Ar_b3 q_b3 S_b3 N_b3 H_b3 G_b3 rfl W4 0 rfl (Nat.le_of_ble_eq_true rfl)
  have K4 : Keep h0 h4 [] := K3.wr W4 (Or.inr sz_b3)
  have N4 := Fr.snoc X4 N0 g_b3
  obtain ⟨cl_b3_12, Ar_b3, q_b3, S_b3, N_b3, H_b3, G_b3⟩ := V_b3_4
  have hin12 : ¬ ((1 : Int32) < 0 ∨ cl_b3_12.slots.size ≤ ((1 : Int32)).toNatClampNeg) := inb_of S_b3 ⟨by decide, by decide⟩
  obtain ⟨T5, h5, X5, e5, W5, st5⟩ := stI X4 hx hZ e4 Ar_b3 (j := (1 : Int32)) hin12 (g := (mkF m 12 #[.val (.int p1), .val (.int p2), .unset, .unset] [(.int (9 : Int32)), (.int (1 : Int32)), (.ref b3), (.ref b3)])) rfl rfl (hb hby at_12)
  have V_b3_5 := Arv.set Ar_b3 q_b3 S_b3 N_b3 H_b3 G_b3 rfl W5 1 rfl (Nat.le_of_ble_eq_true rfl)
  have K5 : Keep h0 h5 [] := K4.wr W5 (Or.inr sz_b3)
  have N5 := Fr.snoc X5 N4 g_b3
  obtain ⟨cl_b3_17, Ar_b3, q_b3, S_b3, N_b3, H_b3, G_b3⟩ := V_b3_5
  have hin17 : ¬ ((2 : Int32) < 0 ∨ cl_b3_17.slots.size ≤ ((2 : Int32)).toNatClampNeg) := inb_of S_b3 ⟨by decide, by decide⟩
  obtain ⟨T6, h6, X6, e6, W6, st6⟩ := stI X5 hx hZ e5 Ar_b3 (j := (2 : Int32)) hin17 (g := (mkF m 17 #[.val (.int p1), .val (.int p2), .unset, .unset] [(.int (32 : Int32)), (.int (2 : Int32)), (.ref b3), (.ref b3)])) rfl rfl (hb hby at_17)
  have V_b3_6 := Arv.set Ar_b3 q_b3 S_b3 N_b3 H_b3 G_b3 rfl W6 2 rfl (Nat.le_of_ble_eq_true rfl)
  have K6 : Keep h0 h6 [] := K5.wr W6 (Or.inr sz_b3)
  have N6 := Fr.snoc X6 N5 g_b3
  obtain ⟨cl_b3_22, Ar_b3, q_b3, S_b3, N_b3, H_b3, G_b3⟩ := V_b3_6
  have hin22 : ¬ ((3 : Int32) < 0 ∨ cl_b3_22.slots.size ≤ ((3 : Int32)).toNatClampNeg) := inb_of S_b3 ⟨by decide, by decide⟩
  obtain ⟨T7, h7, X7, e7, W7, st7⟩ := stI X6 hx hZ e6 Ar_b3 (j := (3 : Int32)) hin22 (g := (mkF m 22 #[.val (.int p1), .val (.int p2), .unset, .unset] [(.int (55296 : Int32)), (.int (3 : Int32)), (.ref b3), (.ref b3)])) rfl rfl (hb hby at_22)
  have V_b3_7 := Arv.set Ar_b3 q_b3 S_b3 N_b3 H_b3 G_b3 rfl W7 3 rfl (Nat.le_of_ble_eq_true rfl)
  have K7 : Keep h0 h7 [] := K6.wr W7 (Or.inr sz_b3)
  have N7 := Fr.snoc X7 N6 g_b3
  obtain ⟨cl_b3_27, Ar_b3, q_b3, S_b3, N_b3, H_b3, G_b3⟩ := V_b3_7
  have hin27 : ¬ ((4 : Int32) < 0 ∨ cl_b3_27.slots.size ≤ ((4 : Int32)).toNatClampNeg) := inb_of S_b3 ⟨by decide, by decide⟩
  obtain ⟨T8, h8, X8, e8, W8, st8⟩ := stI X7 hx hZ e7 Ar_b3 (j := (4 : Int32)) hin27 (g := (mkF m 27 #[.val (.int p1), .val (.int p2), .unset, .unset] [(.int (57344 : Int32)), (.int (4 : Int32)), (.ref b3), (.ref b3)])) rfl rfl (hb hby at_27)
  have V_b3_8 := Arv.set Ar_b3 q_b3 S_b3 N_b3 H_b3 G_b3 rfl W8 4 rfl (Nat.le_of_ble_eq_true rfl)
  have K8 : Keep h0 h8 [] := K7.wr W8 (Or.inr sz_b3)
  have N8 := Fr.snoc X8 N7 g_b3
  obtain ⟨cl_b3_32, Ar_b3, q_b3, S_b3, N_b3, H_b3, G_b3⟩ := V_b3_8
  have hin32 : ¬ ((5 : Int32) < 0 ∨ cl_b3_32.slots.size ≤ ((5 : Int32)).toNatClampNeg) := inb_of S_b3 ⟨by decide, by decide⟩
  obtain ⟨T9, h9, X9, e9, W9, st9⟩ := stI X8 hx hZ e8 Ar_b3 (j := (5 : Int32)) hin32 (g := (mkF m 32 #[.val (.int p1), .val (.int p2), .unset, .unset] [(.int (65534 : Int32)), (.int (5 : Int32)), (.ref b3), (.ref b3)])) rfl rfl (hb hby at_32)
  have V_b3_9 := Arv.set Ar_b3 q_b3 S_b3 N_b3 H_b3 G_b3 rfl W9 5 rfl (Nat.le_of_ble_eq_true rfl)
  have K9 : Keep h0 h9 [] := K8.wr W9 (Or.inr sz_b3)
  have N9 := Fr.snoc X9 N8 g_b3
  obtain ⟨cl_b3_38, Ar_b3, q_b3, S_b3, N_b3, H_b3, G_b3⟩ := V_b3_9
  have hin38 : ¬ ((6 : Int32) < 0 ∨ cl_b3_38.slots.size ≤ ((6 : Int32)).toNatClampNeg) := inb_of S_b3 ⟨by decide, by decide⟩
  obtain ⟨T10, h10, X10, e10, W10, st10⟩ := stI X9 hx hZ e9 Ar_b3 (j := (6 : Int32)) hin38 (g := (mkF m 38 #[.val (.int p1), .val (.int p2), .unset, .unset] [(.int (65536 : Int32)), (.int (6 : Int32)), (.ref b3), (.ref b3)])) rfl rfl (hb hby at_38)
  have V_b3_10 := Arv.set Ar_b3 q_b3 S_b3 N_b3 H_b3 G_b3 rfl W10 6 rfl (Nat.le_of_ble_eq_true rfl)
  have K10 : Keep h0 h10 [] := K9.wr W10 (Or.inr sz_b3)
  have N10 := Fr.snoc X10 N9 g_b3
  obtain ⟨cl_b3_44, Ar_b3, q_b3, S_b3, N_b3, H_b3, G_b3⟩ := V_b3_10
  have hin44 : ¬ ((7 : Int32) < 0 ∨ cl_b3_44.slots.size ≤ ((7 : Int32)).toNatClampNeg) := inb_of S_b3 ⟨by decide, by decide⟩
  obtain ⟨T11, h11, X11, e11, W11, st11⟩ := stI X10 hx hZ e10 Ar_b3 (j := (7 : Int32)) hin44 (g := (mkF m 44 #[.val (.int p1), .val (.int p2), .unset, .unset] [(.int (1114112 : Int32)), (.int (7 : Int32)), (.ref b3), (.ref b3)])) rfl rfl (hb hby at_44)
  have V_b3_11 := Arv.set Ar_b3 q_b3 S_b3 N_b3 H_b3 G_b3 rfl W11 7 rfl (Nat.le_of_ble_eq_true rfl)
  have K11 : Keep h0 h11 [] := K10.wr W11 (Or.inr sz_b3)
  have N11 := Fr.snoc X11 N10 g_b3
  obtain ⟨clz, Arz, -, Sz, Nz, Hz, Gz⟩ := V_b3_11
  have hinz : ¬ ((((p2.toUInt32 >>> ((1 : Int32) &&& 31).toUInt32).toInt32) &&& (7 : Int32)) < 0 ∨ clz.slots.size ≤ ((((p2.toUInt32 >>> ((1 : Int32) &&& 31).toUInt32).toInt32) &&& (7 : Int32))).toNatClampNeg) := inb_of Sz (own_j _)
  have hlz : ((((p2.toUInt32 >>> ((1 : Int32) &&& 31).toUInt32).toInt32) &&& (7 : Int32))).toNatClampNeg < clz.slots.size := Nat.lt_of_not_le fun q => hinz (Or.inr q)
  obtain ⟨wz, ez⟩ := fit_I (Gz _ hlz) (Or.inl rfl)
  have hatz : clz.slots[((((p2.toUInt32 >>> ((1 : Int32) &&& 31).toUInt32).toInt32) &&& (7 : Int32))).toNatClampNeg]? = some (.int wz) := by rw [← ez]; exact Hz _ hlz
  obtain ⟨ch, st70⟩ : ∃ ch : Int32, ∀ target, Steps p.tables e below (T11.setTop (mkF m 70 #[.val (.int p1), .val (.int p2), .val (.ref b3), .val (.int ch)] [])) target → Steps p.tables e below (T11.setTop (mkF m 49 #[.val (.int p1), .val (.int p2), .val (.ref b3), .unset] [(.int (p2 &&& (1 : Int32)))])) target := by
    by_cases c0 : (p2 &&& (1 : Int32)) = (0 : Int32)
    · refine ⟨p1, fun target kt => ?_⟩
      show Steps p.tables e below (T11.setTop (mkF m 49 #[.val (.int p1), .val (.int p2), .val (.ref b3), .unset] [(.int (p2 &&& (1 : Int32)))])) _
      refine XS.ifNo X11.here hx rfl (hb hby at_49) rfl ((if0 _ _).trans (teq c0).2) ?_
      show Steps p.tables e below (T11.setTop (mkF m 52 #[.val (.int p1), .val (.int p2), .val (.ref b3), .unset] [])) _
      refine XS.iloadN X11.here hx rfl (hb hby at_52) rfl ?_
      show Steps p.tables e below (T11.setTop (mkF m 53 #[.val (.int p1), .val (.int p2), .val (.ref b3), .unset] [(.int p1)])) _
      refine XS.istoreN X11.here hx rfl (hb hby at_53) rfl (l' := #[.val (.int p1), .val (.int p2), .val (.ref b3), .val (.int p1)]) rfl ?_
      show Steps p.tables e below (T11.setTop (mkF m 54 #[.val (.int p1), .val (.int p2), .val (.ref b3), .val (.int p1)] [])) _
      refine XS.goto X11.here hx rfl (pc0 := 54) (pc' := 70) rfl (hb hby at_54) (by decide) (by decide) ?_
      exact kt
    · refine ⟨(wz + (p1 % (4 : Int32))), fun target kt => ?_⟩
      show Steps p.tables e below (T11.setTop (mkF m 49 #[.val (.int p1), .val (.int p2), .val (.ref b3), .unset] [(.int (p2 &&& (1 : Int32)))])) _
      refine XS.ifYes X11.here hx rfl (pc0 := 49) (pc' := 57) rfl (hb hby at_49) rfl ((if0 _ _).trans (feq c0).2) (by decide) (by decide) ?_
      show Steps p.tables e below (T11.setTop (mkF m 57 #[.val (.int p1), .val (.int p2), .val (.ref b3), .unset] [])) _
      refine XS.aloadN X11.here hx rfl (hb hby at_57) rfl rfl ?_
      show Steps p.tables e below (T11.setTop (mkF m 58 #[.val (.int p1), .val (.int p2), .val (.ref b3), .unset] [(.ref b3)])) _
      refine XS.iloadN X11.here hx rfl (hb hby at_58) rfl ?_
      show Steps p.tables e below (T11.setTop (mkF m 59 #[.val (.int p1), .val (.int p2), .val (.ref b3), .unset] [(.int p2), (.ref b3)])) _
      refine XS.iconst X11.here hx rfl (hb hby at_59) ?_
      show Steps p.tables e below (T11.setTop (mkF m 60 #[.val (.int p1), .val (.int p2), .val (.ref b3), .unset] [(.int (1 : Int32)), (.int p2), (.ref b3)])) _
      refine XS.iushr X11.here hx rfl (hb hby at_60) rfl ?_
      show Steps p.tables e below (T11.setTop (mkF m 61 #[.val (.int p1), .val (.int p2), .val (.ref b3), .unset] [(.int ((p2.toUInt32 >>> ((1 : Int32) &&& 31).toUInt32).toInt32)), (.ref b3)])) _
      refine XS.bipush X11.here hx rfl (hb hby at_61) ?_
      show Steps p.tables e below (T11.setTop (mkF m 63 #[.val (.int p1), .val (.int p2), .val (.ref b3), .unset] [(.int (7 : Int32)), (.int ((p2.toUInt32 >>> ((1 : Int32) &&& 31).toUInt32).toInt32)), (.ref b3)])) _
      refine XS.iand X11.here hx rfl (hb hby at_63) rfl ?_
      show Steps p.tables e below (T11.setTop (mkF m 64 #[.val (.int p1), .val (.int p2), .val (.ref b3), .unset] [(.int (((p2.toUInt32 >>> ((1 : Int32) &&& 31).toUInt32).toInt32) &&& (7 : Int32))), (.ref b3)])) _
      refine X11.iaload hx (j := (((p2.toUInt32 >>> ((1 : Int32) &&& 31).toUInt32).toInt32) &&& (7 : Int32))) (v := (.int wz)) (by rw [e11]; exact Arz.1) (State.isArrayOf_alike hZ.alike Arz.2.1) Arz.2.2 hinz hatz (g := (mkF m 64 #[.val (.int p1), .val (.int p2), .val (.ref b3), .unset] [(.int (((p2.toUInt32 >>> ((1 : Int32) &&& 31).toUInt32).toInt32) &&& (7 : Int32))), (.ref b3)])) rfl rfl (hb hby at_64) _ ?_
      show Steps p.tables e below (T11.setTop (mkF m 65 #[.val (.int p1), .val (.int p2), .val (.ref b3), .unset] [(.int wz)])) _
      refine XS.iloadN X11.here hx rfl (hb hby at_65) rfl ?_
      show Steps p.tables e below (T11.setTop (mkF m 66 #[.val (.int p1), .val (.int p2), .val (.ref b3), .unset] [(.int p1), (.int wz)])) _
      refine XS.iconst X11.here hx rfl (hb hby at_66) ?_
      show Steps p.tables e below (T11.setTop (mkF m 67 #[.val (.int p1), .val (.int p2), .val (.ref b3), .unset] [(.int (4 : Int32)), (.int p1), (.int wz)])) _
      refine iremM X11 hx rfl (hb hby at_67) rfl (by decide) ?_
      show Steps p.tables e below (T11.setTop (mkF m 68 #[.val (.int p1), .val (.int p2), .val (.ref b3), .unset] [(.int (p1 % (4 : Int32))), (.int wz)])) _
      refine XS.iadd X11.here hx rfl (hb hby at_68) rfl ?_
      show Steps p.tables e below (T11.setTop (mkF m 69 #[.val (.int p1), .val (.int p2), .val (.ref b3), .unset] [(.int (wz + (p1 % (4 : Int32))))])) _
      refine XS.istoreN X11.here hx rfl (hb hby at_69) rfl (l' := #[.val (.int p1), .val (.int p2), .val (.ref b3), .val (.int (wz + (p1 % (4 : Int32))))]) rfl ?_
      exact kt
  have Z11 : n0 ≤ h11.size := Nat.le_trans Z0 K11.1
  obtain ⟨_, _, ⟨T20, L20, k20, n20⟩, -, X20, ⟨Lc20, hQ20, l20, y20, z20⟩, st20⟩ := Jvm.LawKit.callS X11 hx (y := (⟨"com/example/descendant/descendant/model/XmlChars", "isChar", "(I)Z"⟩ : MethodName)) hown (mvT hZ (hw _ (List.mem_of_getElem? (i := 6) rfl))) (mvT hZ (hw _ (List.mem_of_getElem? (i := 7) rfl))) (mvT hZ (hw _ (List.mem_of_getElem? (i := 8) rfl))) (mvT hZ (hw _ (List.mem_of_getElem? (i := 9) rfl))) (by decide) (backOf (W := 0) (rm1 l Z a0 hw [] ch h11 n0 Z11) hZ (hw _ (List.mem_of_getElem? (i := 9) rfl)) (hw _ (List.mem_of_getElem? (i := 8) rfl)) (by decide) (by decide)) (g := (mkF m 71 #[.val (.int p1), .val (.int p2), .val (.ref b3), .val (.int ch)] [(.int ch)])) rfl (by rw [hml]; rfl) (argsL := [(.int ch)]) (rest := []) (lenOf pd_0 rfl) rfl (by show 2 * 0 + _ ≤ _; exact Nat.le_of_eq rfl) (hb hby at_71) (fun _ _ => ⟨rfl, e11, (by decide : 1 + 0 ≤ _), (by decide : 8 + 0 ≤ _)⟩)
  dsimp only [Pt.U, Pt.locs, Pt.cells, Pt.slots] at X20 l20 y20 z20 st20 hQ20
  subst l20 y20 z20
  obtain ⟨rfl, N20q, e20⟩ := hQ20
  have N20 := Fr.app N11 N20q
  obtain ⟨_, _, ⟨T21, L21, k21, n21⟩, -, X21, ⟨Lc21, hQ21, l21, y21, z21⟩, st21⟩ := Jvm.LawKit.callS X20 hx (y := (⟨"com/example/descendant/descendant/model/XmlCharsIsCharPinLaw", "reference", "(I)Z"⟩ : MethodName)) hown (mvT hZ (hw _ (List.mem_of_getElem? (i := 10) rfl))) (mvT hZ (hw _ (List.mem_of_getElem? (i := 11) rfl))) (mvT hZ (hw _ (List.mem_of_getElem? (i := 12) rfl))) (mvT hZ (hw _ (List.mem_of_getElem? (i := 13) rfl))) (by decide) (backOf (W := 1) (rm2 l Z a0 hw [] ch h11 n0 Z11) hZ (hw _ (List.mem_of_getElem? (i := 13) rfl)) (hw _ (List.mem_of_getElem? (i := 12) rfl)) (by decide) (by decide)) (g := (mkF m 75 #[.val (.int p1), .val (.int p2), .val (.ref b3), .val (.int ch)] [(.int ch), (.int (own_ic_0 ch))])) rfl (by rw [hml]; rfl) (argsL := [(.int ch)]) (rest := [(.int (own_ic_0 ch))]) (lenOf pd_0 rfl) rfl (by show 2 * 0 + _ ≤ _; exact Nat.le_of_eq rfl) (hb hby at_75) (fun _ _ => ⟨rfl, e20, (by decide : 1 + 0 ≤ _), (by decide : 8 + 0 ≤ _)⟩)
  dsimp only [Pt.U, Pt.locs, Pt.cells, Pt.slots] at X21 l21 y21 z21 st21 hQ21
  subst l21 y21 z21
  obtain ⟨rfl, N21q, e21⟩ := hQ21
  have N21 := Fr.app N20 N21q
  obtain ⟨fs, hr, hrun, hended, hW, hsame⟩ := X21.leave (v := some (.int (1 : Int32))) (fun h => by rw [Bd.returns] at h; cases h)
  refine ⟨_, _, pre0 _ ?_, hrun, hended, _, _, rfl, ?_, ⟨_, rfl⟩, hW, hsame.mono (by decide) (by decide)⟩
  · show Steps p.tables e below (s₁.setTop (mkF m 0 #[.val (.int p1), .val (.int p2), .unset, .unset] [])) _
    refine XS.bipush X0.here hx rfl (hb hby at_0) ?_
    show Steps p.tables e below (s₁.setTop (mkF m 2 #[.val (.int p1), .val (.int p2), .unset, .unset] [(.int (8 : Int32))])) _
    refine st3 _ ?_
    show Steps p.tables e below (T3.setTop (mkF m 4 #[.val (.int p1), .val (.int p2), .unset, .unset] [(.ref b3)])) _
    refine XS.dup X3.here hx rfl (hb hby at_4) rfl rfl ?_
    show Steps p.tables e below (T3.setTop (mkF m 5 #[.val (.int p1), .val (.int p2), .unset, .unset] [(.ref b3), (.ref b3)])) _
    refine XS.iconst X3.here hx rfl (hb hby at_5) ?_
    show Steps p.tables e below (T3.setTop (mkF m 6 #[.val (.int p1), .val (.int p2), .unset, .unset] [(.int (0 : Int32)), (.ref b3), (.ref b3)])) _
    refine XS.iconst X3.here hx rfl (hb hby at_6) ?_
    show Steps p.tables e below (T3.setTop (mkF m 7 #[.val (.int p1), .val (.int p2), .unset, .unset] [(.int (0 : Int32)), (.int (0 : Int32)), (.ref b3), (.ref b3)])) _
    refine st4 _ ?_
    show Steps p.tables e below (T4.setTop (mkF m 8 #[.val (.int p1), .val (.int p2), .unset, .unset] [(.ref b3)])) _
    refine XS.dup X4.here hx rfl (hb hby at_8) rfl rfl ?_
    show Steps p.tables e below (T4.setTop (mkF m 9 #[.val (.int p1), .val (.int p2), .unset, .unset] [(.ref b3), (.ref b3)])) _
    refine XS.iconst X4.here hx rfl (hb hby at_9) ?_
    show Steps p.tables e below (T4.setTop (mkF m 10 #[.val (.int p1), .val (.int p2), .unset, .unset] [(.int (1 : Int32)), (.ref b3), (.ref b3)])) _
    refine XS.bipush X4.here hx rfl (hb hby at_10) ?_
    show Steps p.tables e below (T4.setTop (mkF m 12 #[.val (.int p1), .val (.int p2), .unset, .unset] [(.int (9 : Int32)), (.int (1 : Int32)), (.ref b3), (.ref b3)])) _
    refine st5 _ ?_
    show Steps p.tables e below (T5.setTop (mkF m 13 #[.val (.int p1), .val (.int p2), .unset, .unset] [(.ref b3)])) _
    refine XS.dup X5.here hx rfl (hb hby at_13) rfl rfl ?_
    show Steps p.tables e below (T5.setTop (mkF m 14 #[.val (.int p1), .val (.int p2), .unset, .unset] [(.ref b3), (.ref b3)])) _
    refine XS.iconst X5.here hx rfl (hb hby at_14) ?_
    show Steps p.tables e below (T5.setTop (mkF m 15 #[.val (.int p1), .val (.int p2), .unset, .unset] [(.int (2 : Int32)), (.ref b3), (.ref b3)])) _
    refine XS.bipush X5.here hx rfl (hb hby at_15) ?_
    show Steps p.tables e below (T5.setTop (mkF m 17 #[.val (.int p1), .val (.int p2), .unset, .unset] [(.int (32 : Int32)), (.int (2 : Int32)), (.ref b3), (.ref b3)])) _
    refine st6 _ ?_
    show Steps p.tables e below (T6.setTop (mkF m 18 #[.val (.int p1), .val (.int p2), .unset, .unset] [(.ref b3)])) _
    refine XS.dup X6.here hx rfl (hb hby at_18) rfl rfl ?_
    show Steps p.tables e below (T6.setTop (mkF m 19 #[.val (.int p1), .val (.int p2), .unset, .unset] [(.ref b3), (.ref b3)])) _
    refine XS.iconst X6.here hx rfl (hb hby at_19) ?_
    show Steps p.tables e below (T6.setTop (mkF m 20 #[.val (.int p1), .val (.int p2), .unset, .unset] [(.int (3 : Int32)), (.ref b3), (.ref b3)])) _
    refine X6.ldcI hx hown (mvT hZ (hw _ (List.mem_of_getElem? (i := 1) rfl))) rfl (hb hby at_20) ?_
    show Steps p.tables e below (T6.setTop (mkF m 22 #[.val (.int p1), .val (.int p2), .unset, .unset] [(.int (55296 : Int32)), (.int (3 : Int32)), (.ref b3), (.ref b3)])) _
    refine st7 _ ?_
    show Steps p.tables e below (T7.setTop (mkF m 23 #[.val (.int p1), .val (.int p2), .unset, .unset] [(.ref b3)])) _
    refine XS.dup X7.here hx rfl (hb hby at_23) rfl rfl ?_
    show Steps p.tables e below (T7.setTop (mkF m 24 #[.val (.int p1), .val (.int p2), .unset, .unset] [(.ref b3), (.ref b3)])) _
    refine XS.iconst X7.here hx rfl (hb hby at_24) ?_
    show Steps p.tables e below (T7.setTop (mkF m 25 #[.val (.int p1), .val (.int p2), .unset, .unset] [(.int (4 : Int32)), (.ref b3), (.ref b3)])) _
    refine X7.ldcI hx hown (mvT hZ (hw _ (List.mem_of_getElem? (i := 2) rfl))) rfl (hb hby at_25) ?_
    show Steps p.tables e below (T7.setTop (mkF m 27 #[.val (.int p1), .val (.int p2), .unset, .unset] [(.int (57344 : Int32)), (.int (4 : Int32)), (.ref b3), (.ref b3)])) _
    refine st8 _ ?_
    show Steps p.tables e below (T8.setTop (mkF m 28 #[.val (.int p1), .val (.int p2), .unset, .unset] [(.ref b3)])) _
    refine XS.dup X8.here hx rfl (hb hby at_28) rfl rfl ?_
    show Steps p.tables e below (T8.setTop (mkF m 29 #[.val (.int p1), .val (.int p2), .unset, .unset] [(.ref b3), (.ref b3)])) _
    refine XS.iconst X8.here hx rfl (hb hby at_29) ?_
    show Steps p.tables e below (T8.setTop (mkF m 30 #[.val (.int p1), .val (.int p2), .unset, .unset] [(.int (5 : Int32)), (.ref b3), (.ref b3)])) _
    refine X8.ldcI hx hown (mvT hZ (hw _ (List.mem_of_getElem? (i := 3) rfl))) rfl (hb hby at_30) ?_
    show Steps p.tables e below (T8.setTop (mkF m 32 #[.val (.int p1), .val (.int p2), .unset, .unset] [(.int (65534 : Int32)), (.int (5 : Int32)), (.ref b3), (.ref b3)])) _
    refine st9 _ ?_
    show Steps p.tables e below (T9.setTop (mkF m 33 #[.val (.int p1), .val (.int p2), .unset, .unset] [(.ref b3)])) _
    refine XS.dup X9.here hx rfl (hb hby at_33) rfl rfl ?_
    show Steps p.tables e below (T9.setTop (mkF m 34 #[.val (.int p1), .val (.int p2), .unset, .unset] [(.ref b3), (.ref b3)])) _
    refine XS.bipush X9.here hx rfl (hb hby at_34) ?_
    show Steps p.tables e below (T9.setTop (mkF m 36 #[.val (.int p1), .val (.int p2), .unset, .unset] [(.int (6 : Int32)), (.ref b3), (.ref b3)])) _
    refine X9.ldcI hx hown (mvT hZ (hw _ (List.mem_of_getElem? (i := 4) rfl))) rfl (hb hby at_36) ?_
    show Steps p.tables e below (T9.setTop (mkF m 38 #[.val (.int p1), .val (.int p2), .unset, .unset] [(.int (65536 : Int32)), (.int (6 : Int32)), (.ref b3), (.ref b3)])) _
    refine st10 _ ?_
    show Steps p.tables e below (T10.setTop (mkF m 39 #[.val (.int p1), .val (.int p2), .unset, .unset] [(.ref b3)])) _
    refine XS.dup X10.here hx rfl (hb hby at_39) rfl rfl ?_
    show Steps p.tables e below (T10.setTop (mkF m 40 #[.val (.int p1), .val (.int p2), .unset, .unset] [(.ref b3), (.ref b3)])) _
    refine XS.bipush X10.here hx rfl (hb hby at_40) ?_
    show Steps p.tables e below (T10.setTop (mkF m 42 #[.val (.int p1), .val (.int p2), .unset, .unset] [(.int (7 : Int32)), (.ref b3), (.ref b3)])) _
    refine X10.ldcI hx hown (mvT hZ (hw _ (List.mem_of_getElem? (i := 5) rfl))) rfl (hb hby at_42) ?_
    show Steps p.tables e below (T10.setTop (mkF m 44 #[.val (.int p1), .val (.int p2), .unset, .unset] [(.int (1114112 : Int32)), (.int (7 : Int32)), (.ref b3), (.ref b3)])) _
    refine st11 _ ?_
    show Steps p.tables e below (T11.setTop (mkF m 45 #[.val (.int p1), .val (.int p2), .unset, .unset] [(.ref b3)])) _
    refine XS.astoreN X11.here hx rfl (hb hby at_45) rfl rfl (l' := #[.val (.int p1), .val (.int p2), .val (.ref b3), .unset]) rfl ?_
    show Steps p.tables e below (T11.setTop (mkF m 46 #[.val (.int p1), .val (.int p2), .val (.ref b3), .unset] [])) _
    refine XS.iloadN X11.here hx rfl (hb hby at_46) rfl ?_
    show Steps p.tables e below (T11.setTop (mkF m 47 #[.val (.int p1), .val (.int p2), .val (.ref b3), .unset] [(.int p2)])) _
    refine XS.iconst X11.here hx rfl (hb hby at_47) ?_
    show Steps p.tables e below (T11.setTop (mkF m 48 #[.val (.int p1), .val (.int p2), .val (.ref b3), .unset] [(.int (1 : Int32)), (.int p2)])) _
    refine XS.iand X11.here hx rfl (hb hby at_48) rfl ?_
    refine st70 _ ?_
    show Steps p.tables e below (T11.setTop (mkF m 70 #[.val (.int p1), .val (.int p2), .val (.ref b3), .val (.int ch)] [])) _
    refine XS.iloadN X11.here hx rfl (hb hby at_70) rfl ?_
    show Steps p.tables e below (T11.setTop (mkF m 71 #[.val (.int p1), .val (.int p2), .val (.ref b3), .val (.int ch)] [(.int ch)])) _
    refine st20 _ ?_
    show Steps p.tables e below (T20.setTop (mkF m 74 #[.val (.int p1), .val (.int p2), .val (.ref b3), .val (.int ch)] [(.int (own_ic_0 ch))])) _
    refine XS.iloadN X20.here hx rfl (hb hby at_74) rfl ?_
    show Steps p.tables e below (T20.setTop (mkF m 75 #[.val (.int p1), .val (.int p2), .val (.ref b3), .val (.int ch)] [(.int ch), (.int (own_ic_0 ch))])) _
    refine st21 _ ?_
    show Steps p.tables e below (T21.setTop (mkF m 78 #[.val (.int p1), .val (.int p2), .val (.ref b3), .val (.int ch)] [(.int (own_rf_0 ch)), (.int (own_ic_0 ch))])) _
    refine XS.icmpNo X21.here hx rfl (hb hby at_78) rfl (teq (own_law ch)).2 ?_
    show Steps p.tables e below (T21.setTop (mkF m 81 #[.val (.int p1), .val (.int p2), .val (.ref b3), .val (.int ch)] [])) _
    refine XS.iconst X21.here hx rfl (hb hby at_81) ?_
    show Steps p.tables e below (T21.setTop (mkF m 82 #[.val (.int p1), .val (.int p2), .val (.ref b3), .val (.int ch)] [(.int (1 : Int32))])) _
    refine XS.goto X21.here hx rfl (pc0 := 82) (pc' := 86) rfl (hb hby at_82) (by decide) (by decide) ?_
    show Steps p.tables e below (T21.setTop (mkF m 86 #[.val (.int p1), .val (.int p2), .val (.ref b3), .val (.int ch)] [(.int (1 : Int32))])) _
    exact retN X21 hx (t := .boolean) Bd.returns (by simp) (hb hby at_86) hr
  · show Q0 Z p1 p2 h0 n0 _ T21.heap _
    exact ⟨rfl, N21⟩
set_option maxRecDepth 65536 in
set_option maxHeartbeats 40000000 in
theorem comes_1 {Post : Tables → Env → Array Value → State → Outcome → State → Prop} (hpost : ∀ tb e args s v u, (limb_1_1.after args s (.returned v) u = true ∧ limb_1_2.after args s (.returned v) u = true ∧ True) → FrameEnd s (.returned v) u (Jvm.fieldLocs frame_1_writes args s ++ Jvm.arrayLocs frame_1_arrays args s ++ Jvm.staticLocs frame_1_statics s) 16 128 → Post tb e args s (.returned v) u) :
    ArmFor flags0 classFile x code maxLocals ret World_1 tables_1 room_1 Calls_1 rest_1 Pre_1 Post := by
  intro l hfl _ _ p e ha hc hk s m args below hf hA hF happ hP
  obtain ⟨hcalls, hrest, hpre⟩ := hP
  obtain ⟨-, -, -, hnamed, -, -, -, hat⟩ := (Spec.applies_iff hf).mp happ
  obtain ⟨hg, hn⟩ := and_e (Cond.before_iff.mp (show (Jvm.Cond.and given_1 narrow_1).before args s = true from hpre))
  obtain ⟨ga0, gb0⟩ := and_e hg
  obtain ⟨ga1, gb1⟩ := and_e gb0
  obtain ⟨w0, w1, rfl⟩ : ∃ w0 w1 : Value, args = #[w0, w1] := by
    have hs : args.size = 2 := by simpa [Cond.value, given_1] using ga0
    obtain ⟨L⟩ := args
    match L, hs with
    | [w0, w1], _ => exact ⟨w0, w1, rfl⟩
  have hw := fun d (hd : d ∈ tables_1) => atoms_spec (ws := Jvm.Cond.code x code maxLocals ret :: tables_1) hat d (List.mem_cons_of_mem _ hd)
  have hfit : Fit s := fun {y c} hc i hi => by
    obtain ⟨ha, rfl⟩ := Array.getElem?_eq_some_iff.mp hc
    have q := List.all_eq_true.mp ((Array.all_eq_true_iff_forall_mem.mp hF) _ (Array.getElem_mem ha)) i (List.mem_range.mpr hi)
    simpa [Array.getElem?_eq_getElem hi] using q
  obtain ⟨i0, ei0⟩ := is_v ga1
  obtain rfl : w0 = (.int i0) := Option.some.inj ei0
  obtain ⟨i1, ei1⟩ := is_v gb1
  obtain rfl : w1 = (.int i1) := Option.some.inj ei1
  obtain ⟨n, o, h1, h2, h3, _, L, rfl, ⟨rfl, N⟩, hq⟩ := rm0 l s _ hw tables_1 i0 i1 s.heap s.heap.size (Nat.le_refl _)  p e ha hc hk s m _ below hf ((Spec.applies_iff_loose hf).mp happ).1 ⟨rfl, State.Warmed39.refl s, rfl⟩ trivial
  refine ⟨n, _, h1, h2, h3, hpost _ _ _ _ _ _ ⟨Cond.after_iff.mpr rfl, Cond.after_iff.mpr (eq_i res_at (Term.int_eval (1)) rfl), trivial⟩ ⟨hq.1, hq.2.1, (hq.2.2.sift fun y hy => Or.inr (N y hy)).mono (by decide) (by decide)⟩⟩
theorem main_1_1 : Claimed_1_1 := comes_1 fun _ _ _ _ _ _ h hF => ⟨h.1, hF⟩
theorem main_1_2 : Claimed_1_2 := comes_1 fun _ _ _ _ _ _ h hF => ⟨h.2.1, hF⟩
end Jvm.Pilot.@@N@@
namespace Jvm.Pilot.@@N@@
open Jvm Jvm.ClassFile Sem Op Lib Jvm.Free Jvm.Stand Jvm.Pilot.@@N@@.Jvm.D
/-! MADE BY PROGRAM (witnessworld.py) out of the Statement's table words and the real class files: 9 classes; the members and pool entries that the words name. The judged class is class 1, her method 2. -/
namespace start1
open Jvm.ClassFile
def u (s : String) : CpInfo := .utf8 (stringToUtf16 s)
/-- a pool by its gaps: so many unusable entries, then the entry; so many at the end -/
def gap : Nat → List CpInfo → List CpInfo
  | 0, r => r
  | n + 1, r => .unusable :: gap n r
def poolList (es : List (Nat × CpInfo)) (last : Nat) : List CpInfo := es.foldr (fun e r => gap e.1 (e.2 :: r)) (gap last [])
def pool (es : List (Nat × CpInfo)) (last : Nat) : Array CpInfo := ⟨poolList es last⟩
def fileOf (pool : Array CpInfo) (this : Nat) (attrs : Array Attribute := #[]) (ms : Array MethodInfo := #[]) (fl : Nat := 33) (sup : Nat := 0) (ifs : Array Nat := #[]) (fds : Array FieldInfo := #[]) : ClassFile where
  minorVersion := 0
  majorVersion := 65
  constantPool := pool
  accessFlags := fl
  thisClass := this
  superClass := sup
  interfaces := ifs
  fields := fds
  methods := ms
  attributes := attrs
def plain (name : String) (sup : Option ClassId) : Class where
  name := name
  kind := .ordinary
  loader := none
  accessFlags := 33
  super := sup
  interfaces := #[]
  cf := none
  fields := #[]
  methods := #[]
  instanceTypes := #[]
  staticTypes := #[]
  resolved := #[]
  callSites := []
  init := .initialized
  statics := none
  mirror := none

def pool0 : Array CpInfo := pool [(5, u "<init>"), (0, u "()V"), (1, .class_ 10), (1, u "java/lang/Object")] 113

def k0m0 : Method := { name := "<init>", desc := "()V", sig := { parameters := [], returnType := none }, accessFlags := 1, code := none }
/-- java/lang/Object -/
def k0 : Class := { plain "java/lang/Object" none with
  accessFlags := 33
  interfaces := #[]
  cf := some (fileOf pool0 8 #[] #[{ accessFlags := 1, nameIndex := 5, descriptorIndex := 6, attributes := #[] }] 33 0 #[] #[])
  fields := #[]
  methods := #[k0m0]
  instanceTypes := #[]
  staticTypes := #[]
  resolved := Array.replicate 124 none
  statics := none }

def pool1 : Array CpInfo := pool [(2, .class_ 4), (1, u "java/lang/Object"), (0, u "<init>"), (0, u "()V"), (0, .integer 1114111), (0, .integer 55296), (0, .integer 57343), (0, .integer 65534), (0, .integer 65535), (0, .integer 57344), (0, .integer 65536), (0, .integer 1114112), (0, .methodref 16 17), (0, .class_ 18), (0, .nameAndType 19 20), (0, u "com/example/descendant/descendant/model/XmlChars"), (0, u "isChar"), (0, u "(I)Z"), (0, .methodref 22 23), (0, .class_ 24), (0, .nameAndType 25 20), (0, u "com/example/descendant/descendant/model/XmlCharsIsCharPinLaw"), (0, u "reference"), (3, u "law"), (0, u "(II)Z")] 4

def k1m0 : Method := { name := "<init>", desc := "()V", sig := { parameters := [], returnType := none }, accessFlags := 2, code := none }
def k1c1 : Code := { maxStack := 2, maxLocals := 1, code := method_2_code, exceptionTable := #[], attributes := #[] }
def k1m1 : Method := { name := "reference", desc := "(I)Z", sig := { parameters := [.int], returnType := some .boolean }, accessFlags := 10, code := some k1c1 }
def k1c2 : Code := { maxStack := 4, maxLocals := 4, code := code, exceptionTable := #[], attributes := #[] }
def k1m2 : Method := { name := "law", desc := "(II)Z", sig := { parameters := [.int, .int], returnType := some .boolean }, accessFlags := 9, code := some k1c2 }
/-- com/example/descendant/descendant/model/XmlCharsIsCharPinLaw -/
def k1 : Class := { plain "com/example/descendant/descendant/model/XmlCharsIsCharPinLaw" (some 0) with
  accessFlags := 49
  interfaces := #[]
  cf := some (fileOf pool1 22 #[] #[{ accessFlags := 2, nameIndex := 5, descriptorIndex := 6, attributes := #[] }, { accessFlags := 10, nameIndex := 25, descriptorIndex := 20, attributes := #[] }, { accessFlags := 9, nameIndex := 29, descriptorIndex := 30, attributes := #[] }] 49 2 #[] #[])
  fields := #[]
  methods := #[k1m0, k1m1, k1m2]
  instanceTypes := #[]
  staticTypes := #[]
  resolved := Array.replicate 35 none
  statics := none }

def pool2 : Array CpInfo := pool [(2, .class_ 4), (1, u "java/lang/Object"), (0, u "<init>"), (0, u "()V"), (0, .integer 55295), (0, .integer 57344), (0, .integer 65533), (0, .integer 65536), (0, .integer 1114111), (19, .class_ 33), (1, u "com/example/descendant/descendant/model/XmlChars"), (1, u "(I)Z"), (96, u "isChar")] 17

def k2m0 : Method := { name := "<init>", desc := "()V", sig := { parameters := [], returnType := none }, accessFlags := 2, code := none }
def k2c1 : Code := { maxStack := 2, maxLocals := 1, code := prog_221_method_2_code, exceptionTable := #[], attributes := #[] }
def k2m1 : Method := { name := "isChar", desc := "(I)Z", sig := { parameters := [.int], returnType := some .boolean }, accessFlags := 9, code := some k2c1 }
/-- com/example/descendant/descendant/model/XmlChars -/
def k2 : Class := { plain "com/example/descendant/descendant/model/XmlChars" (some 0) with
  accessFlags := 33
  interfaces := #[]
  cf := some (fileOf pool2 31 #[] #[{ accessFlags := 2, nameIndex := 5, descriptorIndex := 6, attributes := #[] }, { accessFlags := 9, nameIndex := 132, descriptorIndex := 35, attributes := #[] }] 33 2 #[] #[])
  fields := #[]
  methods := #[k2m0, k2m1]
  instanceTypes := #[]
  staticTypes := #[]
  resolved := Array.replicate 150 none
  statics := none }

def pool3 : Array CpInfo := pool [(1, u "java/lang/Cloneable"), (0, .class_ 1), (0, u "java/lang/Object"), (0, .class_ 3)] 3

/-- java/lang/Cloneable -/
def k3 : Class := { plain "java/lang/Cloneable" (some 0) with
  accessFlags := 1537
  interfaces := #[]
  cf := some (fileOf pool3 2 #[] #[] 1537 4 #[] #[])
  fields := #[]
  methods := #[]
  instanceTypes := #[]
  staticTypes := #[]
  resolved := Array.replicate 8 none
  statics := none }

def pool4 : Array CpInfo := pool [(1, u "java/io/Serializable"), (0, .class_ 1), (0, u "java/lang/Object"), (0, .class_ 3)] 3

/-- java/io/Serializable -/
def k4 : Class := { plain "java/io/Serializable" (some 0) with
  accessFlags := 1537
  interfaces := #[]
  cf := some (fileOf pool4 2 #[] #[] 1537 4 #[] #[])
  fields := #[]
  methods := #[]
  instanceTypes := #[]
  staticTypes := #[]
  resolved := Array.replicate 8 none
  statics := none }

/-- the primitive byte -/
def k5 : Class := { plain "byte" none with kind := .primitive 'B', accessFlags := 0x411 }
/-- [B -/
def k6 : Class := { plain "[B" (some 0) with kind := .array 5 .byte, interfaces := #[3, 4], accessFlags := 1041 }

/-- the primitive int -/
def k7 : Class := { plain "int" none with kind := .primitive 'I', accessFlags := 0x411 }
/-- [I -/
def k8 : Class := { plain "[I" (some 0) with kind := .array 7 .int, interfaces := #[3, 4], accessFlags := 1041 }

def heap : Heap := #[]
def classes : Array Class := #[k0, k1, k2, k3, k4, k5, k6, k7, k8]
def interned : List (Array UInt16 × Addr) := []
def slotsUsed : Nat := 0
def theMethod : MethodId := ⟨1, 2⟩
def args0 : Array Value := #[.int 5, .int 5]
def aboutOver (below : List Frame) : State where
  vm := { classes := classes, interned := interned.toArray }
  heap := heap
  slotsUsed := slotsUsed
  threads := #[{ frames := .invoking theMethod args0 :: below }]
def below0 : List Frame := [.native { method := ⟨0, 0⟩, args := #[] }]
def about1 : State := aboutOver below0
def p0 : Program := .bare "" "" ""
def e0 : Env := launch0.env 0 0 0
theorem w_frames : about1.frames = Frame.invoking theMethod args0 :: below0 := rfl
set_option maxRecDepth 65536 in
theorem w_args : argsFit about1.vm theMethod args0 = true := by decide +kernel
set_option maxRecDepth 65536 in
theorem w_heap : heapFits about1 = true := by decide +kernel
set_option maxRecDepth 65536 in
theorem w_runnable : about1.curStatus? = some .runnable := by decide +kernel
set_option maxRecDepth 65536 in
theorem w_alone : about1.alone = true := by decide +kernel
set_option maxRecDepth 65536 in
theorem w_named : about1.methodNamed? x = some theMethod := by decide +kernel
set_option maxRecDepth 65536 in
theorem w_hears : about1.hears theMethod below0 = true := by decide +kernel
set_option maxRecDepth 65536 in
theorem w_ripe : about1.ripe theMethod args0 below0 = true := by decide +kernel
theorem w_running : about1.status = .running := rfl
set_option maxRecDepth 65536 in
theorem w_room : about1.hasRoom e0.platform room_1 = true :=
  launch0.hasRoom_least _ room_1 (by decide +kernel) (by decide +kernel) (by decide +kernel) (by decide +kernel) (by decide +kernel) (by decide +kernel)
theorem allAtoms_all (ts : List Jvm.Cond) (a : Array Jvm.Value) (st : Jvm.State) : (allAtoms ts).before a st = ts.all (fun c => c.before a st) := by
  induction ts with
  | nil => rfl
  | cons c t ih =>
    show (Jvm.Cond.and c (allAtoms t)).before a st = _
    rw [Jvm.Cond.before_and, ih, List.all_cons]
def words1 : List Jvm.Cond := Jvm.Cond.code x code maxLocals ret :: tables_1
/-- a 'code' word, met by the world's own term for the bytes: nothing is compared byte by byte -/
theorem code_word {y : MethodName} {bytes : ByteArray} {mx : Nat} {rt : Option FieldType} {a : Array Value} {s : State} {m : MethodId} {meth : Method} {c : Code} (h1 : s.methodNamed? y = some m) (h2 : s.vm.method? m = some meth) (h3 : meth.code = some c) (h4 : c.code = bytes)
    (h5 : (c.maxLocals == mx && c.exceptionTable.isEmpty && decide (c.maxStack ≤ mostOperands) && decide (meth.sig.returnType = rt) && !meth.locks && decide (parseMethodDescriptor y.desc = some meth.sig)) = true) : (Jvm.Cond.code y bytes mx rt).before a s = true := by
  simp only [Bool.and_eq_true, beq_iff_eq, Bool.not_eq_true', decide_eq_true_eq] at h5
  obtain ⟨⟨⟨⟨⟨g1, g2⟩, g3⟩, g4⟩, g5⟩, g6⟩ := h5
  simp [Cond.before, Cond.holds, Cond.value, h1, h2, h3, h4, g1, g2, g3, g4, g5, g6]
def isCode : Jvm.Cond → Bool
  | .code _ _ _ _ => true
  | _ => false
theorem all_split {L : List Jvm.Cond} {P : Jvm.Cond → Bool} (h1 : L.all (fun c => isCode c || P c) = true) (h2 : ∀ c ∈ L.filter isCode, P c = true) : L.all P = true := by
  refine List.all_eq_true.mpr fun c hc => ?_
  have h := List.all_eq_true.mp h1 c hc
  rcases Bool.eq_false_or_eq_true (isCode c) with hi | hi
  · exact h2 c (List.mem_filter.mpr ⟨hc, hi⟩)
  · simpa [hi] using h
set_option maxRecDepth 65536 in
theorem w_c0 : (Jvm.Cond.code x code maxLocals ret).before args0 about1 = true := code_word (m := ⟨1, 2⟩) (meth := k1m2) (c := k1c2) (by decide +kernel) rfl rfl rfl (by decide +kernel)
set_option maxRecDepth 65536 in
theorem w_c1 : (Jvm.Cond.code ({ cls := "com/example/descendant/descendant/model/XmlChars", name := "isChar", desc := "(I)Z" } : Jvm.MethodName) prog_221_method_2_code (1 : Nat) (Option.some Jvm.ClassFile.FieldType.boolean)).before args0 about1 = true := code_word (m := ⟨2, 1⟩) (meth := k2m1) (c := k2c1) (by decide +kernel) rfl rfl rfl (by decide +kernel)
set_option maxRecDepth 65536 in
theorem w_c2 : (Jvm.Cond.code ({ cls := "com/example/descendant/descendant/model/XmlCharsIsCharPinLaw", name := "reference", desc := "(I)Z" } : Jvm.MethodName) method_2_code (1 : Nat) (Option.some Jvm.ClassFile.FieldType.boolean)).before args0 about1 = true := code_word (m := ⟨1, 1⟩) (meth := k1m1) (c := k1c1) (by decide +kernel) rfl rfl rfl (by decide +kernel)
def codes1 : List Jvm.Cond := [Jvm.Cond.code x code maxLocals ret, Jvm.Cond.code ({ cls := "com/example/descendant/descendant/model/XmlChars", name := "isChar", desc := "(I)Z" } : Jvm.MethodName) prog_221_method_2_code (1 : Nat) (Option.some Jvm.ClassFile.FieldType.boolean), Jvm.Cond.code ({ cls := "com/example/descendant/descendant/model/XmlCharsIsCharPinLaw", name := "reference", desc := "(I)Z" } : Jvm.MethodName) method_2_code (1 : Nat) (Option.some Jvm.ClassFile.FieldType.boolean)]
set_option maxRecDepth 65536 in
theorem codes_eq : words1.filter isCode = codes1 := rfl
theorem w_codes : ∀ c ∈ words1.filter isCode, c.before args0 about1 = true := by
  rw [codes_eq]
  intro c hc
  simp only [codes1, List.mem_cons, List.not_mem_nil, or_false] at hc
  rcases hc with rfl | rfl | rfl
  · exact w_c0
  · exact w_c1
  · exact w_c2
set_option maxRecDepth 65536 in
theorem w_t1 : words1.all (fun c => isCode c || c.before args0 about1) = true := by decide +kernel
theorem w_tables : (allAtoms (Jvm.Cond.code x code maxLocals ret :: tables_1)).before args0 about1 = true := by
  rw [allAtoms_all]
  show words1.all (fun c => c.before args0 about1) = true
  refine all_split ?_ w_codes
  rw [w_t1]
set_option maxRecDepth 65536 in
theorem w_case : (Jvm.Cond.and given_1 narrow_1).before args0 about1 = true := by decide +kernel
theorem w_applies : (headSpec (Jvm.Cond.code x code maxLocals ret :: tables_1) room_1).applies x e0.platform about1 = true :=
  (Spec.applies_iff w_frames).mpr ⟨w_running, w_runnable, w_alone, w_named, w_hears, w_ripe, w_room, w_tables⟩
theorem atStart : AtStart classFile x code maxLocals ret World_1 tables_1 room_1 Calls_1 rest_1 Pre_1 launch0 p0 e0 about1 theMethod args0 below0 :=
  ⟨lists_1, trivial, launch0.admits_env _ _ _, launch0.least_env, fairChoices_fair.cas, fairChoices_fair.clock, w_frames, w_args, w_heap, w_applies, trivial, trivial, w_case⟩
end start1
theorem witness_1 : WitnessClaimed_1 := ⟨start1.p0, start1.e0, start1.about1, start1.theMethod, start1.args0, start1.below0, start1.atStart⟩
end Jvm.Pilot.@@N@@
