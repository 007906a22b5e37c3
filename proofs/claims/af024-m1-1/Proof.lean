import JvmDerived
import JvmDerived.Pilot.@@N@@Statement
import JvmDerived.Pilot.@@N@@Code
set_option linter.unusedVariables false
set_option linter.unusedSimpArgs false
namespace Jvm.RoadKit
open Sem ClassFile Op Lib Jvm.Stand Jvm.Free Jvm.LawKit
section New
variable {p : Program} {l : Launch} {e : Env} {R : Room} {s : State} {m : MethodId} {args : Array Value} {below : List Frame} {meth : Method} {c : Code} {T : State} {locs : List Loc} {cells slots : Nat}
theorem retI (X : Stand p l e R s m args below meth c T locs cells slots) (hx : p.tables.exec = Jvm.exec) {pc : Nat} {Ls : Array Slot} {z : Int32} {rest : List Value} (hret : meth.sig.returnType = some .int) (hd : decode c.code pc = .ok (.ireturn, 1)) {fs : List Frame}
    (hl : ∀ (f : JFrame) (acts : List Action), f.method = m → f.locked = none → f.entered = [] → (doReturn e (T.setTop f) acts (some (.int z))).1 = T.setFrames fs) : Steps p.tables e below (T.setTop (mkF m pc Ls (.int z :: rest))) (T.setFrames fs) := by
  have hm' : T.vm.method? m = some meth := X.method'
  have hn : narrow .int (.int z) = .int z := rfl
  show Steps p.tables e below (T.setTop { method := m, pc := pc, locals := Ls, stack := _ :: rest, locked := none }) _
  jvm_step X.here [X.here.top, hx, hd, hm', hret, hn]
  first | (intro acts; rw [hl _ acts rfl rfl rfl]) | rw [hl _ _ rfl rfl rfl]
  exact Steps.refl _
end New
end Jvm.RoadKit
namespace Jvm.Pilot.@@N@@
open Jvm Jvm.ClassFile Sem Op Lib Jvm.Free Jvm.Stand Jvm.LawKit Jvm.RoadKit Bundle Jvm.Pilot.@@N@@.Jvm.D
theorem own_lt {i n : Nat} (h : i < n) (hn : n ≤ 255) : Int32.ofNat i < Int32.ofNat n := by
  rw [Int32.lt_iff_toInt_lt, Int32.toInt_ofNat_of_lt (by omega), Int32.toInt_ofNat_of_lt (by omega)]
  omega
theorem own_nn {n : Nat} (hn : n ≤ 255) : ¬ Int32.ofNat n < 0 := by
  rw [Int32.lt_iff_toInt_lt, Int32.toInt_ofNat_of_lt (by omega), show (0 : Int32).toInt = 0 from rfl]
  omega
theorem own_n32 {n : Nat} (hn : n ≤ 255) : (Int32.ofNat n).toNatClampNeg = n := by
  rw [Int32.toNatClampNeg, Int32.toInt_ofNat_of_lt (by omega)]; rfl
theorem own_one (i : Nat) : Int32.ofNat i + (1 : Int32) = Int32.ofNat (i + 1) := (Int32.ofNat_add i 1).symm
theorem own_inj {i n : Nat} (hi : i ≤ 255) (hn : n ≤ 255) (h : Int32.ofNat i = Int32.ofNat n) : i = n := by
  have q := congrArg Int32.toNatClampNeg h
  rwa [own_n32 hi, own_n32 hn] at q
def own_copy (vs : List Value) (M : Nat) : List Value := vs.take M ++ List.replicate (M - vs.length) (.int (0 : Int32))
theorem own_copy_len (vs : List Value) (M : Nat) : (own_copy vs M).length = M := by
  simp only [own_copy, List.length_append, List.length_take, List.length_replicate]; omega
theorem own_copy_same (vs : List Value) : own_copy vs vs.length = vs := by
  simp [own_copy]
theorem own_copy_at (vs : List Value) (M i : Nat) (h : i < vs.length) (hM : i < M) : (own_copy vs M).getD i (.int (0 : Int32)) = vs.getD i (.int (0 : Int32)) := by
  rw [List.getD_eq_getElem?_getD, List.getD_eq_getElem?_getD, own_copy, List.getElem?_append_left (by rw [List.length_take]; omega), List.getElem?_take_of_lt hM]
theorem own_cp (vs : List Value) (N M : Nat) (hl : vs.length = N) : (List.replicate M (.int (0 : Int32))).take 0 ++ ((List.range (min N M)).map fun i => vs.getD (0 + i) (.int (0 : Int32))) ++ (List.replicate M (.int (0 : Int32))).drop (0 + min N M) = own_copy vs M := by
  have e : ((List.range (min N M)).map fun i => vs.getD (0 + i) (.int (0 : Int32))) = vs.take M := by
    apply List.ext_getElem?
    intro i
    by_cases c : i < min N M
    · have hi : i < vs.length := by omega
      rw [List.getElem?_take_of_lt (by omega), List.getElem?_map, List.getElem?_range c, Option.map_some, Nat.zero_add, List.getD_eq_getElem?_getD, List.getElem?_eq_getElem hi]; rfl
    · rw [List.getElem?_eq_none (by rw [List.length_map, List.length_range]; omega), List.getElem?_eq_none (by rw [List.length_take]; omega)]
  rw [e, List.take_zero, List.nil_append, Nat.zero_add, List.drop_replicate, own_copy, hl]
  congr 2; omega
theorem own_set_at (vs : List Value) (i j : Nat) (v d : Value) (h : i < j) : (vs.set j v).getD i d = vs.getD i d := by
  rw [List.getD_eq_getElem?_getD, List.getD_eq_getElem?_getD, List.getElem?_set_ne (by omega)]
theorem own_set_hit (vs : List Value) (j : Nat) (v d : Value) (h : j < vs.length) : (vs.set j v).getD j d = v := by
  rw [List.getD_eq_getElem?_getD, List.getElem?_set_self h]; rfl
theorem own_app_at (xs : List Int32) (x : Int32) (i : Nat) (h : i < xs.length) : (xs ++ [x]).getD i 0 = xs.getD i 0 := by
  rw [List.getD_eq_getElem?_getD, List.getD_eq_getElem?_getD, List.getElem?_append_left h]
theorem own_app_hit (xs : List Int32) (x : Int32) : (xs ++ [x]).getD xs.length 0 = x := by
  rw [List.getD_eq_getElem?_getD, List.getElem?_append_right (Nat.le_refl _), Nat.sub_self]; rfl
/-- the object at a is a column whose first values are xs -/
def Col (Z : State) (n0 : Nat) (h : Heap) (a : Addr) (xs : List Int32) : Prop := ∃ (b : Addr) (k : ClassId) (N : Nat) (vs : List Value), Exa Z h a "com/example/nodal_ledger/nodalledger/market/Columns$Bytes" ∧ Fld Z h a "com/example/nodal_ledger/nodalledger/market/Columns$Bytes" "values" "[B" (.ref b) ∧ Fld Z h a "com/example/nodal_ledger/nodalledger/market/Columns$Bytes" "size" "I" (.int (Int32.ofNat xs.length)) ∧ Arv Z h b k .byte (Int32.ofNat N) vs (.int (0 : Int32)) ∧ Exa Z h b "[B" ∧ vs.length = N ∧ N ≤ 16 ∧ xs.length ≤ N ∧ n0 ≤ b ∧ ∀ i, i < xs.length → vs.getD i (.int (0 : Int32)) = .int (xs.getD i 0)
theorem d1_0 : decode jdk_29_method_65_code 0 = .ok (.iload_n 0, 1) := by decide +kernel
theorem d1_1 : decode jdk_29_method_65_code 1 = .ok (.iload_n 1, 1) := by decide +kernel
theorem d1_2 : decode jdk_29_method_65_code 2 = .ok (.if_icmp .lt 7, 3) := by decide +kernel
theorem d1_5 : decode jdk_29_method_65_code 5 = .ok (.iload_n 0, 1) := by decide +kernel
theorem d1_6 : decode jdk_29_method_65_code 6 = .ok (.goto 4, 3) := by decide +kernel
theorem d1_9 : decode jdk_29_method_65_code 9 = .ok (.iload_n 1, 1) := by decide +kernel
theorem d1_10 : decode jdk_29_method_65_code 10 = .ok (.ireturn, 1) := by decide +kernel
def own_mx_9 (p1 p2 : Int32) : Int32 := p2
def own_mx_5 (p1 p2 : Int32) : Int32 := p1
def own_mx_0 (p1 p2 : Int32) : Int32 := if p1 < p2 then own_mx_9 p1 p2 else own_mx_5 p1 p2
theorem ef_1 (m : MethodId) (x0 : Int32) (x1 : Int32) : entryFrame m #[(.int x0), (.int x1)] 2 = mkF m 0 #[.val (.int x0), .val (.int x1)] [] := by first | (simp [entryFrame, mkF, argsToLocals, Value.category]; done) | rfl
def Q1 (Z : State) (p1 : Int32) (p2 : Int32) (h0 : Heap) (n0 : Nat) (v : Option Value) (h : Heap) (L : List Loc) : Prop := v = some (.int (own_mx_0 p1 p2)) ∧ Fr n0 L ∧ h = h0
set_option maxRecDepth 65536 in
set_option maxHeartbeats 40000000 in
theorem rm1 (l : Launch) (Z : State) (a0 : Array Value) (hw : ∀ d ∈ tables_1, d.before a0 Z = true) (ws : List Jvm.Cond) (p1 : Int32) (p2 : Int32) (h0 : Heap) (n0 : Nat) (Z0 : n0 ≤ h0.size)  :
    MetFree l (⟨"java/lang/Math", "max", "(II)I"⟩ : MethodName) (head1 (Jvm.Cond.code (⟨"java/lang/Math", "max", "(II)I"⟩ : MethodName) jdk_29_method_65_code 2 (some .int) :: ws) ({ frames := 0, cells := 0, slots := 0, locals := 0 } : Room)) (fun a U => a = #[(.int p1), (.int p2)] ∧ Z.Warmed39 U.vm ∧ U.heap = h0) (fun _ _ _ _ _ => True) (fun _ U o U' => ∃ v L, o = .returned v ∧ Q1 Z p1 p2 h0 n0 v U'.heap L ∧ FrameEnd U o U' L ({ frames := 0, cells := 0, slots := 0, locals := 0 } : Room).cells ({ frames := 0, cells := 0, slots := 0, locals := 0 } : Room).slots) := by
  refine MetFree.of_bodySF (Jvm.Free.JP.mathPlain rfl (by decide +kernel)) hisR ?_
  intro p e s m args below meth c s₁ Bd hml0 hP hK
  obtain ⟨rfl, hZ, hh⟩ := hP
  have hx := Bd.exec
  have hby := Bd.bytes
  have hml : c.maxLocals = 2 := hml0
  have hown : s.vm.findClass "java/lang/Math" = some m.cls := findClass_of_methodNamed Bd.named
  have hnm := (name_of_methodNamed Bd.named Bd.method).1
  have X0 : Stand p l e ({ frames := 0, cells := 0, slots := 0, locals := 0 } : Room) s m #[(.int p1), (.int p2)] below meth c s₁ [] 0 0 := Stand.of_body Bd
  have e0 : s₁.heap = h0 := by rw [← hh, Bd.state]; rfl
  have N0 := Fr.nil n0
  have pre0 : ∀ t, Steps p.tables e below (s₁.setTop (mkF m 0 #[.val (.int p1), .val (.int p2)] [])) t → Steps p.tables e below (s₁.setTop (entryFrame m #[(.int p1), (.int p2)] 2)) t := fun t k => castTop (ef_1 m p1 p2) k
  obtain ⟨r, hrd⟩ : ∃ r, r = own_mx_0 p1 p2 := ⟨_, rfl⟩
  obtain ⟨fs, hr, hrun, hended, hW, hsame⟩ := X0.leave (v := some (.int r)) (fun h => by rw [Bd.returns] at h; cases h)
  have K9 : r = own_mx_9 p1 p2 → Steps p.tables e below (s₁.setTop (mkF m 9 #[.val (.int p1), .val (.int p2)] [])) (s₁.setFrames fs) := by
    intro h
    show Steps p.tables e below (s₁.setTop (mkF m 9 #[.val (.int p1), .val (.int p2)] [])) _
    refine XS.iloadN X0.here hx rfl (hb hby d1_9) rfl ?_
    rw [show r = p2 from h] at hr
    show Steps p.tables e below (s₁.setTop (mkF m 10 #[.val (.int p1), .val (.int p2)] [(.int p2)])) _
    exact retI X0 hx Bd.returns (hb hby d1_10) hr
  have K5 : r = own_mx_5 p1 p2 → Steps p.tables e below (s₁.setTop (mkF m 5 #[.val (.int p1), .val (.int p2)] [])) (s₁.setFrames fs) := by
    intro h
    show Steps p.tables e below (s₁.setTop (mkF m 5 #[.val (.int p1), .val (.int p2)] [])) _
    refine XS.iloadN X0.here hx rfl (hb hby d1_5) rfl ?_
    show Steps p.tables e below (s₁.setTop (mkF m 6 #[.val (.int p1), .val (.int p2)] [(.int p1)])) _
    refine XS.goto X0.here hx rfl (pc0 := 6) (pc' := 10) rfl (hb hby d1_6) (by decide) (by decide) ?_
    rw [show r = p1 from h] at hr
    show Steps p.tables e below (s₁.setTop (mkF m 10 #[.val (.int p1), .val (.int p2)] [(.int p1)])) _
    exact retI X0 hx Bd.returns (hb hby d1_10) hr
  have K0 : r = own_mx_0 p1 p2 → Steps p.tables e below (s₁.setTop (mkF m 0 #[.val (.int p1), .val (.int p2)] [])) (s₁.setFrames fs) := by
    intro h
    show Steps p.tables e below (s₁.setTop (mkF m 0 #[.val (.int p1), .val (.int p2)] [])) _
    refine XS.iloadN X0.here hx rfl (hb hby d1_0) rfl ?_
    show Steps p.tables e below (s₁.setTop (mkF m 1 #[.val (.int p1), .val (.int p2)] [(.int p1)])) _
    refine XS.iloadN X0.here hx rfl (hb hby d1_1) rfl ?_
    by_cases hc : p1 < p2
    · show Steps p.tables e below (s₁.setTop (mkF m 2 #[.val (.int p1), .val (.int p2)] [(.int p2), (.int p1)])) _
      refine XS.icmpYes X0.here hx rfl (pc0 := 2) (pc' := 9) rfl (hb hby d1_2) rfl (tlt hc).1 (by decide) (by decide) ?_
      exact K9 (h.trans (if_pos hc))
    · show Steps p.tables e below (s₁.setTop (mkF m 2 #[.val (.int p1), .val (.int p2)] [(.int p2), (.int p1)])) _
      refine XS.icmpNo X0.here hx rfl (hb hby d1_2) rfl (flt hc).1 ?_
      exact K5 (h.trans (if_neg hc))
  refine ⟨_, _, pre0 _ ?_, hrun, hended, _, _, rfl, ?_, ⟨_, rfl⟩, hW, hsame.mono (by decide) (by decide)⟩
  · exact K0 hrd
  · show Q1 Z p1 p2 h0 n0 _ s₁.heap _
    rw [e0]
    exact ⟨by rw [hrd], N0, rfl⟩
theorem d2_0 : decode jdk_29_method_69_code 0 = .ok (.iload_n 0, 1) := by decide +kernel
theorem d2_1 : decode jdk_29_method_69_code 1 = .ok (.iload_n 1, 1) := by decide +kernel
theorem d2_2 : decode jdk_29_method_69_code 2 = .ok (.if_icmp .gt 7, 3) := by decide +kernel
theorem d2_5 : decode jdk_29_method_69_code 5 = .ok (.iload_n 0, 1) := by decide +kernel
theorem d2_6 : decode jdk_29_method_69_code 6 = .ok (.goto 4, 3) := by decide +kernel
theorem d2_9 : decode jdk_29_method_69_code 9 = .ok (.iload_n 1, 1) := by decide +kernel
theorem d2_10 : decode jdk_29_method_69_code 10 = .ok (.ireturn, 1) := by decide +kernel
def own_mi_9 (p1 p2 : Int32) : Int32 := p2
def own_mi_5 (p1 p2 : Int32) : Int32 := p1
def own_mi_0 (p1 p2 : Int32) : Int32 := if p2 < p1 then own_mi_9 p1 p2 else own_mi_5 p1 p2
theorem ef_2 (m : MethodId) (x0 : Int32) (x1 : Int32) : entryFrame m #[(.int x0), (.int x1)] 2 = mkF m 0 #[.val (.int x0), .val (.int x1)] [] := by first | (simp [entryFrame, mkF, argsToLocals, Value.category]; done) | rfl
def Q2 (Z : State) (p1 : Int32) (p2 : Int32) (h0 : Heap) (n0 : Nat) (v : Option Value) (h : Heap) (L : List Loc) : Prop := v = some (.int (own_mi_0 p1 p2)) ∧ Fr n0 L ∧ h = h0
set_option maxRecDepth 65536 in
set_option maxHeartbeats 40000000 in
theorem rm2 (l : Launch) (Z : State) (a0 : Array Value) (hw : ∀ d ∈ tables_1, d.before a0 Z = true) (ws : List Jvm.Cond) (p1 : Int32) (p2 : Int32) (h0 : Heap) (n0 : Nat) (Z0 : n0 ≤ h0.size)  :
    MetFree l (⟨"java/lang/Math", "min", "(II)I"⟩ : MethodName) (head1 (Jvm.Cond.code (⟨"java/lang/Math", "min", "(II)I"⟩ : MethodName) jdk_29_method_69_code 2 (some .int) :: ws) ({ frames := 0, cells := 0, slots := 0, locals := 0 } : Room)) (fun a U => a = #[(.int p1), (.int p2)] ∧ Z.Warmed39 U.vm ∧ U.heap = h0) (fun _ _ _ _ _ => True) (fun _ U o U' => ∃ v L, o = .returned v ∧ Q2 Z p1 p2 h0 n0 v U'.heap L ∧ FrameEnd U o U' L ({ frames := 0, cells := 0, slots := 0, locals := 0 } : Room).cells ({ frames := 0, cells := 0, slots := 0, locals := 0 } : Room).slots) := by
  refine MetFree.of_bodySF (Jvm.Free.JP.mathPlain rfl (by decide +kernel)) hisR ?_
  intro p e s m args below meth c s₁ Bd hml0 hP hK
  obtain ⟨rfl, hZ, hh⟩ := hP
  have hx := Bd.exec
  have hby := Bd.bytes
  have hml : c.maxLocals = 2 := hml0
  have hown : s.vm.findClass "java/lang/Math" = some m.cls := findClass_of_methodNamed Bd.named
  have hnm := (name_of_methodNamed Bd.named Bd.method).1
  have X0 : Stand p l e ({ frames := 0, cells := 0, slots := 0, locals := 0 } : Room) s m #[(.int p1), (.int p2)] below meth c s₁ [] 0 0 := Stand.of_body Bd
  have e0 : s₁.heap = h0 := by rw [← hh, Bd.state]; rfl
  have N0 := Fr.nil n0
  have pre0 : ∀ t, Steps p.tables e below (s₁.setTop (mkF m 0 #[.val (.int p1), .val (.int p2)] [])) t → Steps p.tables e below (s₁.setTop (entryFrame m #[(.int p1), (.int p2)] 2)) t := fun t k => castTop (ef_2 m p1 p2) k
  obtain ⟨r, hrd⟩ : ∃ r, r = own_mi_0 p1 p2 := ⟨_, rfl⟩
  obtain ⟨fs, hr, hrun, hended, hW, hsame⟩ := X0.leave (v := some (.int r)) (fun h => by rw [Bd.returns] at h; cases h)
  have K9 : r = own_mi_9 p1 p2 → Steps p.tables e below (s₁.setTop (mkF m 9 #[.val (.int p1), .val (.int p2)] [])) (s₁.setFrames fs) := by
    intro h
    show Steps p.tables e below (s₁.setTop (mkF m 9 #[.val (.int p1), .val (.int p2)] [])) _
    refine XS.iloadN X0.here hx rfl (hb hby d2_9) rfl ?_
    rw [show r = p2 from h] at hr
    show Steps p.tables e below (s₁.setTop (mkF m 10 #[.val (.int p1), .val (.int p2)] [(.int p2)])) _
    exact retI X0 hx Bd.returns (hb hby d2_10) hr
  have K5 : r = own_mi_5 p1 p2 → Steps p.tables e below (s₁.setTop (mkF m 5 #[.val (.int p1), .val (.int p2)] [])) (s₁.setFrames fs) := by
    intro h
    show Steps p.tables e below (s₁.setTop (mkF m 5 #[.val (.int p1), .val (.int p2)] [])) _
    refine XS.iloadN X0.here hx rfl (hb hby d2_5) rfl ?_
    show Steps p.tables e below (s₁.setTop (mkF m 6 #[.val (.int p1), .val (.int p2)] [(.int p1)])) _
    refine XS.goto X0.here hx rfl (pc0 := 6) (pc' := 10) rfl (hb hby d2_6) (by decide) (by decide) ?_
    rw [show r = p1 from h] at hr
    show Steps p.tables e below (s₁.setTop (mkF m 10 #[.val (.int p1), .val (.int p2)] [(.int p1)])) _
    exact retI X0 hx Bd.returns (hb hby d2_10) hr
  have K0 : r = own_mi_0 p1 p2 → Steps p.tables e below (s₁.setTop (mkF m 0 #[.val (.int p1), .val (.int p2)] [])) (s₁.setFrames fs) := by
    intro h
    show Steps p.tables e below (s₁.setTop (mkF m 0 #[.val (.int p1), .val (.int p2)] [])) _
    refine XS.iloadN X0.here hx rfl (hb hby d2_0) rfl ?_
    show Steps p.tables e below (s₁.setTop (mkF m 1 #[.val (.int p1), .val (.int p2)] [(.int p1)])) _
    refine XS.iloadN X0.here hx rfl (hb hby d2_1) rfl ?_
    by_cases hc : p2 < p1
    · show Steps p.tables e below (s₁.setTop (mkF m 2 #[.val (.int p1), .val (.int p2)] [(.int p2), (.int p1)])) _
      refine XS.icmpYes X0.here hx rfl (pc0 := 2) (pc' := 9) rfl (hb hby d2_2) rfl (tlt hc).2.2.1 (by decide) (by decide) ?_
      exact K9 (h.trans (if_pos hc))
    · show Steps p.tables e below (s₁.setTop (mkF m 2 #[.val (.int p1), .val (.int p2)] [(.int p2), (.int p1)])) _
      refine XS.icmpNo X0.here hx rfl (hb hby d2_2) rfl (flt hc).2.2.1 ?_
      exact K5 (h.trans (if_neg hc))
  refine ⟨_, _, pre0 _ ?_, hrun, hended, _, _, rfl, ?_, ⟨_, rfl⟩, hW, hsame.mono (by decide) (by decide)⟩
  · exact K0 hrd
  · show Q2 Z p1 p2 h0 n0 _ s₁.heap _
    rw [e0]
    exact ⟨by rw [hrd], N0, rfl⟩
theorem own_min {N M : Nat} (hN : N ≤ 255) (hM : M ≤ 255) : own_mi_0 (Int32.ofNat N) (Int32.ofNat M) = Int32.ofNat (min N M) := by
  by_cases c : M < N
  · rw [Nat.min_eq_right (by omega)]; exact if_pos (own_lt c hN)
  · rw [Nat.min_eq_left (by omega)]; refine if_neg fun q => c ?_
    rw [Int32.lt_iff_toInt_lt, Int32.toInt_ofNat_of_lt (by omega), Int32.toInt_ofNat_of_lt (by omega)] at q
    omega
theorem own_grow : ∀ s : Fin 4, own_mx_0 (16 : Int32) (Int32.ofNat s.val + (Int32.ofNat s.val >>> ((1 : Int32) &&& 31))) = Int32.ofNat 16 := by decide +kernel
theorem d3_0 : decode prog_94_method_2_code 0 = .ok (.bipush 16, 2) := by decide +kernel
theorem d3_2 : decode prog_94_method_2_code 2 = .ok (.iload_n 0, 1) := by decide +kernel
theorem d3_3 : decode prog_94_method_2_code 3 = .ok (.iload_n 0, 1) := by decide +kernel
theorem d3_4 : decode prog_94_method_2_code 4 = .ok (.iconst 1, 1) := by decide +kernel
theorem d3_5 : decode prog_94_method_2_code 5 = .ok (.ishr, 1) := by decide +kernel
theorem d3_6 : decode prog_94_method_2_code 6 = .ok (.iadd, 1) := by decide +kernel
theorem d3_7 : decode prog_94_method_2_code 7 = .ok (.invokestatic 9, 3) := by decide +kernel
theorem d3_10 : decode prog_94_method_2_code 10 = .ok (.ireturn, 1) := by decide +kernel
theorem pd_II : parseMethodDescriptor "(II)I" = some ⟨[.int, .int], some .int⟩ := by decide +kernel
theorem pd_I : parseMethodDescriptor "(I)I" = some ⟨[.int], some .int⟩ := by decide +kernel
theorem pn_3 : plainName "com/example/nodal_ledger/nodalledger/market/Columns" = true := by first | (simp [plainName, overriddenIn]; done) | decide +kernel
theorem ef_3 (m : MethodId) (x0 : Int32) : entryFrame m #[(.int x0)] 1 = mkF m 0 #[.val (.int x0)] [] := by first | (simp [entryFrame, mkF, argsToLocals, Value.category]; done) | rfl
def Q3 (Z : State) (p1 : Int32) (h0 : Heap) (n0 : Nat) (v : Option Value) (h : Heap) (L : List Loc) : Prop := v = some (.int (own_mx_0 (16 : Int32) (p1 + (p1 >>> ((1 : Int32) &&& 31))))) ∧ Fr n0 L ∧ h = h0
set_option maxRecDepth 65536 in
set_option maxHeartbeats 40000000 in
theorem rm3 (l : Launch) (Z : State) (a0 : Array Value) (hw : ∀ d ∈ tables_1, d.before a0 Z = true) (ws : List Jvm.Cond) (p1 : Int32) (h0 : Heap) (n0 : Nat) (Z0 : n0 ≤ h0.size)  :
    MetFree l (⟨"com/example/nodal_ledger/nodalledger/market/Columns", "grown", "(I)I"⟩ : MethodName) (head1 (Jvm.Cond.code (⟨"com/example/nodal_ledger/nodalledger/market/Columns", "grown", "(I)I"⟩ : MethodName) prog_94_method_2_code 1 (some .int) :: ws) ({ frames := 1, cells := 0, slots := 0, locals := 13 } : Room)) (fun a U => a = #[(.int p1)] ∧ Z.Warmed39 U.vm ∧ U.heap = h0) (fun _ _ _ _ _ => True) (fun _ U o U' => ∃ v L, o = .returned v ∧ Q3 Z p1 h0 n0 v U'.heap L ∧ FrameEnd U o U' L ({ frames := 1, cells := 0, slots := 0, locals := 13 } : Room).cells ({ frames := 1, cells := 0, slots := 0, locals := 13 } : Room).slots) := by
  refine MetFree.of_bodySF (plainFor_of_name pn_3) hisR ?_
  intro p e s m args below meth c s₁ Bd hml0 hP hK
  obtain ⟨rfl, hZ, hh⟩ := hP
  have hx := Bd.exec
  have hby := Bd.bytes
  have hml : c.maxLocals = 1 := hml0
  have hown : s.vm.findClass "com/example/nodal_ledger/nodalledger/market/Columns" = some m.cls := findClass_of_methodNamed Bd.named
  have hnm := (name_of_methodNamed Bd.named Bd.method).1
  have X0 : Stand p l e ({ frames := 1, cells := 0, slots := 0, locals := 13 } : Room) s m #[(.int p1)] below meth c s₁ [] 0 0 := Stand.of_body Bd
  have e0 : s₁.heap = h0 := by rw [← hh, Bd.state]; rfl
  have N0 := Fr.nil n0
  have pre0 : ∀ t, Steps p.tables e below (s₁.setTop (mkF m 0 #[.val (.int p1)] [])) t → Steps p.tables e below (s₁.setTop (entryFrame m #[(.int p1)] 1)) t := fun t k => castTop (ef_3 m p1) k
  obtain ⟨_, _, ⟨T4, L4, k4, n4⟩, -, X4, ⟨Lc4, hQ4, l4, y4, z4⟩, st4⟩ := Jvm.LawKit.callS X0 hx (y := (⟨"java/lang/Math", "max", "(II)I"⟩ : MethodName)) hown (mvT hZ (hw _ (List.mem_of_getElem? (i := 41) rfl))) (mvT hZ (hw _ (List.mem_of_getElem? (i := 42) rfl))) (mvT hZ (hw _ (List.mem_of_getElem? (i := 43) rfl))) (mvT hZ (hw _ (List.mem_of_getElem? (i := 44) rfl))) (by decide) (backOf (W := 0) (rm1 l Z a0 hw [] (16 : Int32) (p1 + (p1 >>> ((1 : Int32) &&& 31))) h0 n0 Z0) hZ (hw _ (List.mem_of_getElem? (i := 44) rfl)) (hw _ (List.mem_of_getElem? (i := 43) rfl)) (by decide) (by decide)) (g := (mkF m 7 #[.val (.int p1)] [(.int (p1 + (p1 >>> ((1 : Int32) &&& 31)))), (.int (16 : Int32))])) rfl (by rw [hml]; rfl) (argsL := [(.int (16 : Int32)), (.int (p1 + (p1 >>> ((1 : Int32) &&& 31))))]) (rest := []) (lenOf pd_II rfl) rfl (by show 2 * 0 + _ ≤ _; exact Nat.le_of_eq rfl) (hb hby d3_7) (fun _ _ => ⟨rfl, e0, (by decide : 0 + 0 ≤ _), (by decide : 0 + 0 ≤ _)⟩)
  dsimp only [Pt.U, Pt.locs, Pt.cells, Pt.slots] at X4 l4 y4 z4 st4 hQ4
  subst l4 y4 z4
  obtain ⟨rfl, N4q, e4⟩ := hQ4
  have N4 := Fr.app N0 N4q
  obtain ⟨fs, hr, hrun, hended, hW, hsame⟩ := X4.leave (v := some (.int (own_mx_0 (16 : Int32) (p1 + (p1 >>> ((1 : Int32) &&& 31)))))) (fun h => by rw [Bd.returns] at h; cases h)
  refine ⟨_, _, pre0 _ ?_, hrun, hended, _, _, rfl, ?_, ⟨_, rfl⟩, hW, hsame.mono (by decide) (by decide)⟩
  · show Steps p.tables e below (s₁.setTop (mkF m 0 #[.val (.int p1)] [])) _
    refine XS.bipush X0.here hx rfl (hb hby d3_0) ?_
    show Steps p.tables e below (s₁.setTop (mkF m 2 #[.val (.int p1)] [(.int (16 : Int32))])) _
    refine XS.iloadN X0.here hx rfl (hb hby d3_2) rfl ?_
    show Steps p.tables e below (s₁.setTop (mkF m 3 #[.val (.int p1)] [(.int p1), (.int (16 : Int32))])) _
    refine XS.iloadN X0.here hx rfl (hb hby d3_3) rfl ?_
    show Steps p.tables e below (s₁.setTop (mkF m 4 #[.val (.int p1)] [(.int p1), (.int p1), (.int (16 : Int32))])) _
    refine XS.iconst X0.here hx rfl (hb hby d3_4) ?_
    show Steps p.tables e below (s₁.setTop (mkF m 5 #[.val (.int p1)] [(.int (1 : Int32)), (.int p1), (.int p1), (.int (16 : Int32))])) _
    refine XS.ishr X0.here hx rfl (hb hby d3_5) rfl ?_
    show Steps p.tables e below (s₁.setTop (mkF m 6 #[.val (.int p1)] [(.int (p1 >>> ((1 : Int32) &&& 31))), (.int p1), (.int (16 : Int32))])) _
    refine XS.iadd X0.here hx rfl (hb hby d3_6) rfl ?_
    show Steps p.tables e below (s₁.setTop (mkF m 7 #[.val (.int p1)] [(.int (p1 + (p1 >>> ((1 : Int32) &&& 31)))), (.int (16 : Int32))])) _
    refine st4 _ ?_
    show Steps p.tables e below (T4.setTop (mkF m 10 #[.val (.int p1)] [(.int (own_mx_0 (16 : Int32) (p1 + (p1 >>> ((1 : Int32) &&& 31)))))])) _
    exact retI X4 hx Bd.returns (hb hby d3_10) hr
  · show Q3 Z p1 h0 n0 _ T4.heap _
    exact ⟨rfl, N4, e4⟩
theorem d4_0 : decode jdk_65_method_121_code 0 = .ok (.iload_n 1, 1) := by decide +kernel
theorem d4_1 : decode jdk_65_method_121_code 1 = .ok (.aload_n 0, 1) := by decide +kernel
theorem d4_2 : decode jdk_65_method_121_code 2 = .ok (.arraylength, 1) := by decide +kernel
theorem d4_3 : decode jdk_65_method_121_code 3 = .ok (.if_icmp .ne 11, 3) := by decide +kernel
theorem d4_6 : decode jdk_65_method_121_code 6 = .ok (.aload_n 0, 1) := by decide +kernel
theorem d4_7 : decode jdk_65_method_121_code 7 = .ok (.invokevirtual 310, 3) := by decide +kernel
theorem d4_10 : decode jdk_65_method_121_code 10 = .ok (.checkcast 311, 3) := by decide +kernel
theorem d4_13 : decode jdk_65_method_121_code 13 = .ok (.areturn, 1) := by decide +kernel
theorem d4_14 : decode jdk_65_method_121_code 14 = .ok (.iload_n 1, 1) := by decide +kernel
theorem d4_15 : decode jdk_65_method_121_code 15 = .ok (.newarray .byte, 2) := by decide +kernel
theorem d4_17 : decode jdk_65_method_121_code 17 = .ok (.astore_n 2, 1) := by decide +kernel
theorem d4_18 : decode jdk_65_method_121_code 18 = .ok (.aload_n 0, 1) := by decide +kernel
theorem d4_19 : decode jdk_65_method_121_code 19 = .ok (.iconst 0, 1) := by decide +kernel
theorem d4_20 : decode jdk_65_method_121_code 20 = .ok (.aload_n 2, 1) := by decide +kernel
theorem d4_21 : decode jdk_65_method_121_code 21 = .ok (.iconst 0, 1) := by decide +kernel
theorem d4_22 : decode jdk_65_method_121_code 22 = .ok (.aload_n 0, 1) := by decide +kernel
theorem d4_23 : decode jdk_65_method_121_code 23 = .ok (.arraylength, 1) := by decide +kernel
theorem d4_24 : decode jdk_65_method_121_code 24 = .ok (.iload_n 1, 1) := by decide +kernel
theorem d4_25 : decode jdk_65_method_121_code 25 = .ok (.invokestatic 304, 3) := by decide +kernel
theorem d4_28 : decode jdk_65_method_121_code 28 = .ok (.invokestatic 150, 3) := by decide +kernel
theorem d4_31 : decode jdk_65_method_121_code 31 = .ok (.aload_n 2, 1) := by decide +kernel
theorem d4_32 : decode jdk_65_method_121_code 32 = .ok (.areturn, 1) := by decide +kernel
theorem pn_4 : plainName "java/util/Arrays" = true := by first | (simp [plainName, overriddenIn]; done) | decide +kernel
theorem ef_4 (m : MethodId) (x0 : Addr) (x1 : Int32) : entryFrame m #[(.ref x0), (.int x1)] 3 = mkF m 0 #[.val (.ref x0), .val (.int x1), .unset] [] := by first | (simp [entryFrame, mkF, argsToLocals, Value.category]; done) | rfl
def Q4 (Z : State) (M : Nat) (vs : List Value) (h0 : Heap) (n0 : Nat) (v : Option Value) (h : Heap) (L : List Loc) : Prop := ∃ (b : Addr) (k' : ClassId), v = some (.ref b) ∧ Fr n0 L ∧ Keep h0 h [] ∧ h0.size ≤ b ∧ Exa Z h b "[B" ∧ Arv Z h b k' .byte (Int32.ofNat M) (own_copy vs M) (.int (0 : Int32))
set_option maxRecDepth 65536 in
set_option maxHeartbeats 40000000 in
theorem rm4 (l : Launch) (Z : State) (a0 : Array Value) (hw : ∀ d ∈ tables_1, d.before a0 Z = true) (ws : List Jvm.Cond) (a1 : Addr) (ka : ClassId) (N : Nat) (M : Nat) (vs : List Value) (h0 : Heap) (n0 : Nat) (Z0 : n0 ≤ h0.size) (V : Arv Z h0 a1 ka .byte (Int32.ofNat N) vs (.int (0 : Int32))) (E : Exa Z h0 a1 "[B") (hl : vs.length = N) (hN : N ≤ 16) (hM : M ≤ 16) :
    MetFree l (⟨"java/util/Arrays", "copyOf", "([BI)[B"⟩ : MethodName) (head1 (Jvm.Cond.code (⟨"java/util/Arrays", "copyOf", "([BI)[B"⟩ : MethodName) jdk_65_method_121_code 3 (some (.array .byte)) :: ws) ({ frames := 1, cells := 1, slots := 16, locals := 40 } : Room)) (fun a U => a = #[(.ref a1), (.int (Int32.ofNat M))] ∧ Z.Warmed39 U.vm ∧ U.heap = h0) (fun _ _ _ _ _ => True) (fun _ U o U' => ∃ v L, o = .returned v ∧ Q4 Z M vs h0 n0 v U'.heap L ∧ FrameEnd U o U' L ({ frames := 1, cells := 1, slots := 16, locals := 40 } : Room).cells ({ frames := 1, cells := 1, slots := 16, locals := 40 } : Room).slots) := by
  refine MetFree.of_bodySF (plainFor_of_name pn_4) hisR ?_
  intro p e s m args below meth c s₁ Bd hml0 hP hK
  obtain ⟨rfl, hZ, hh⟩ := hP
  have hx := Bd.exec
  have hby := Bd.bytes
  have hml : c.maxLocals = 3 := hml0
  have hown : s.vm.findClass "java/util/Arrays" = some m.cls := findClass_of_methodNamed Bd.named
  have hnm := (name_of_methodNamed Bd.named Bd.method).1
  have X0 : Stand p l e ({ frames := 1, cells := 1, slots := 16, locals := 40 } : Room) s m #[(.ref a1), (.int (Int32.ofNat M))] below meth c s₁ [] 0 0 := Stand.of_body Bd
  have e0 : s₁.heap = h0 := by rw [← hh, Bd.state]; rfl
  have N0 := Fr.nil n0
  have pre0 : ∀ t, Steps p.tables e below (s₁.setTop (mkF m 0 #[.val (.ref a1), .val (.int (Int32.ofNat M)), .unset] [])) t → Steps p.tables e below (s₁.setTop (entryFrame m #[(.ref a1), (.int (Int32.ofNat M))] 3)) t := fun t k => castTop (ef_4 m a1 (Int32.ofNat M)) k
  have V' := V
  obtain ⟨cl, Ar, -, S, Nn, -, -⟩ := V'
  by_cases hc : (Int32.ofNat M) = (Int32.ofNat N)
  · have hMN : M = N := own_inj (by omega) (by omega) hc
    obtain ⟨T5, h5, X5, e5, E5, A5, Ex5, st5⟩ := cloneH X0 hx hZ hown (hw _ (List.mem_of_getElem? (i := 23) rfl)) (hw _ (List.mem_of_getElem? (i := 24) rfl)) (hw _ (List.mem_of_getElem? (i := 28) rfl)) (hw _ (List.mem_of_getElem? (i := 26) rfl)) (hw _ (List.mem_of_getElem? (i := 27) rfl)) (hw _ (List.mem_of_getElem? (i := 29) rfl)) e0 V.arh E (g := (mkF m 7 #[.val (.ref a1), .val (.int (Int32.ofNat M)), .unset] [(.ref a1)])) rfl (by rw [hml]; rfl) (rest := []) rfl (hb hby d4_7) (by decide) (W := 0) (by show 2 * 0 + _ ≤ _; exact Nat.le_of_eq rfl) (by decide) (cap := 16) (by rw [own_n32 (by omega)]; omega) (by decide) (by decide)
    obtain ⟨b, gb⟩ : ∃ z, z = h0.size := ⟨_, rfl⟩
    rw [← gb] at A5 Ex5 st5
    obtain ⟨T6, X6, e6, st6⟩ := castY X5 hx hZ hown (hw _ (List.mem_of_getElem? (i := 30) rfl)) e5 (Ins.self Ex5) (g := (mkF m 10 #[.val (.ref a1), .val (.int (Int32.ofNat M)), .unset] [(.ref b)])) rfl rfl (hb hby d4_10)
    obtain ⟨fs, hr, hrun, hended, hW, hsame⟩ := X6.leave (v := some (.ref b)) (fun h => by rw [Bd.returns] at h; cases h)
    refine ⟨_, _, pre0 _ ?_, hrun, hended, _, _, rfl, ?_, ⟨_, rfl⟩, hW, hsame.mono (by decide) (by decide)⟩
    · show Steps p.tables e below (s₁.setTop (mkF m 0 #[.val (.ref a1), .val (.int (Int32.ofNat M)), .unset] [])) _
      refine XS.iloadN X0.here hx rfl (hb hby d4_0) rfl ?_
      show Steps p.tables e below (s₁.setTop (mkF m 1 #[.val (.ref a1), .val (.int (Int32.ofNat M)), .unset] [(.int (Int32.ofNat M))])) _
      refine XS.aloadN X0.here hx rfl (hb hby d4_1) rfl rfl ?_
      show Steps p.tables e below (s₁.setTop (mkF m 2 #[.val (.ref a1), .val (.int (Int32.ofNat M)), .unset] [(.ref a1), (.int (Int32.ofNat M))])) _
      refine X0.arraylength hx (cell := cl) (by rw [e0]; exact Ar.1) (State.isArrayOf_alike hZ.alike Ar.2.1) (g := (mkF m 2 #[.val (.ref a1), .val (.int (Int32.ofNat M)), .unset] [(.ref a1), (.int (Int32.ofNat M))])) rfl (rest := [(.int (Int32.ofNat M))]) rfl (hb hby d4_2) _ ?_
      rw [len_of S Nn]
      show Steps p.tables e below (s₁.setTop (mkF m 3 #[.val (.ref a1), .val (.int (Int32.ofNat M)), .unset] [(.int (Int32.ofNat N)), (.int (Int32.ofNat M))])) _
      refine XS.icmpNo X0.here hx rfl (hb hby d4_3) rfl (teq hc).2 ?_
      show Steps p.tables e below (s₁.setTop (mkF m 6 #[.val (.ref a1), .val (.int (Int32.ofNat M)), .unset] [])) _
      refine XS.aloadN X0.here hx rfl (hb hby d4_6) rfl rfl ?_
      show Steps p.tables e below (s₁.setTop (mkF m 7 #[.val (.ref a1), .val (.int (Int32.ofNat M)), .unset] [(.ref a1)])) _
      refine st5 _ ?_
      show Steps p.tables e below (T5.setTop (mkF m 10 #[.val (.ref a1), .val (.int (Int32.ofNat M)), .unset] [(.ref b)])) _
      refine st6 _ ?_
      show Steps p.tables e below (T6.setTop (mkF m 13 #[.val (.ref a1), .val (.int (Int32.ofNat M)), .unset] [(.ref b)])) _
      exact retOut X6 hx Bd.returns rfl (Or.inr (Or.inr (Or.inr (Or.inr ⟨rfl, rfl, rfl⟩)))) (hb hby d4_13) hr
    · show Q4 Z M vs h0 n0 _ T6.heap _
      rw [e6]
      refine ⟨b, ka, rfl, N0, (Keep.refl h0 []).ext E5, Nat.le_of_eq gb.symm, Ex5, ?_⟩
      rw [hMN, ← hl, own_copy_same, hl]
      exact A5
  · obtain ⟨T5, h5, k5, X5, e5, E5, A5, Ex5, st5⟩ := newPE X0 hx hZ (hw _ (List.mem_of_getElem? (i := 9) rfl)) e0 (g := (mkF m 15 #[.val (.ref a1), .val (.int (Int32.ofNat M)), .unset] [(.int (Int32.ofNat M))])) rfl (hb hby d4_15) rfl (own_nn (by omega)) (cap := 16) (by rw [own_n32 (by omega)]; exact hM) (by decide) (by decide) (by decide) (ad := "[B") (by decide)
    obtain ⟨b, gb⟩ : ∃ z, z = h0.size := ⟨_, rfl⟩
    rw [← gb] at A5 Ex5 st5
    have Vb : Arv Z h5 b k5 .byte (Int32.ofNat M) (List.replicate M (.int (0 : Int32))) (.int (0 : Int32)) := (Arv.new A5 (own_nn (by omega))).pad (pad_rep [] (.int (0 : Int32)) M)
    have Z5 : n0 ≤ h5.size := Nat.le_trans Z0 E5.1
    obtain ⟨_, _, ⟨T6, L6, k6, n6⟩, -, X6, ⟨Lc6, hQ6, l6, y6, z6⟩, st6⟩ := Jvm.LawKit.callS X5 hx (y := (⟨"java/lang/Math", "min", "(II)I"⟩ : MethodName)) hown (mvT hZ (hw _ (List.mem_of_getElem? (i := 45) rfl))) (mvT hZ (hw _ (List.mem_of_getElem? (i := 46) rfl))) (mvT hZ (hw _ (List.mem_of_getElem? (i := 43) rfl))) (mvT hZ (hw _ (List.mem_of_getElem? (i := 47) rfl))) (by decide) (backOf (W := 4) (rm2 l Z a0 hw [] (Int32.ofNat N) (Int32.ofNat M) h5 n0 Z5) hZ (hw _ (List.mem_of_getElem? (i := 47) rfl)) (hw _ (List.mem_of_getElem? (i := 43) rfl)) (by decide) (by decide)) (g := (mkF m 25 #[.val (.ref a1), .val (.int (Int32.ofNat M)), .val (.ref b)] [(.int (Int32.ofNat M)), (.int (Int32.ofNat N)), (.int (0 : Int32)), (.ref b), (.int (0 : Int32)), (.ref a1)])) rfl (by rw [hml]; rfl) (argsL := [(.int (Int32.ofNat N)), (.int (Int32.ofNat M))]) (rest := [(.int (0 : Int32)), (.ref b), (.int (0 : Int32)), (.ref a1)]) (lenOf pd_II rfl) rfl (by show 2 * 0 + _ ≤ _; exact Nat.le_of_eq rfl) (hb hby d4_25) (fun _ _ => ⟨rfl, e5, (by decide : 1 + 0 ≤ _), (by decide : 16 + 0 ≤ _)⟩)
    dsimp only [Pt.U, Pt.locs, Pt.cells, Pt.slots] at X6 l6 y6 z6 st6 hQ6
    subst l6 y6 z6
    obtain ⟨hv6, N6q, e6⟩ := hQ6
    rw [own_min (by omega) (by omega)] at hv6
    subst hv6
    have N6 := Fr.app N0 N6q
    have hmn : (Int32.ofNat (min N M)).toNatClampNeg = min N M := own_n32 (by omega)
    have hz0 : (0 : Int32).toNatClampNeg = 0 := rfl
    obtain ⟨T7, h7, L7, X7, e7, N7, K7, V7, st7⟩ := cpA X6 hx hZ hown (hw _ (List.mem_of_getElem? (i := 48) rfl)) (hw _ (List.mem_of_getElem? (i := 51) rfl)) (hw _ (List.mem_of_getElem? (i := 49) rfl)) (hw _ (List.mem_of_getElem? (i := 50) rfl)) e6 (V.ext E5) Vb (Or.inl ⟨rfl, rfl⟩) (sp := 0) (dp := 0) (nn := (Int32.ofNat (min N M))) (by decide) (by decide) (own_nn (by omega)) (by rw [hmn, hz0, own_n32 (by omega)]; omega) (by rw [hmn, hz0, own_n32 (by omega)]; omega) rfl (by rw [hmn, hz0, List.length_replicate]; omega) N6 (Nat.le_trans Z0 (Nat.le_of_eq gb.symm)) (g := (mkF m 28 #[.val (.ref a1), .val (.int (Int32.ofNat M)), .val (.ref b)] [(.int (Int32.ofNat (min N M))), (.int (0 : Int32)), (.ref b), (.int (0 : Int32)), (.ref a1)])) rfl (by rw [hml]; rfl) (rest := []) rfl (hb hby d4_28) (by decide) (W := 0) (by show 2 * 0 + _ ≤ _; exact Nat.le_of_eq rfl) (by decide)
    rw [hmn, hz0, own_cp vs N M hl] at V7
    obtain ⟨fs, hr, hrun, hended, hW, hsame⟩ := X7.leave (v := some (.ref b)) (fun h => by rw [Bd.returns] at h; cases h)
    refine ⟨_, _, pre0 _ ?_, hrun, hended, _, _, rfl, ?_, ⟨_, rfl⟩, hW, hsame.mono (by decide) (by decide)⟩
    · show Steps p.tables e below (s₁.setTop (mkF m 0 #[.val (.ref a1), .val (.int (Int32.ofNat M)), .unset] [])) _
      refine XS.iloadN X0.here hx rfl (hb hby d4_0) rfl ?_
      show Steps p.tables e below (s₁.setTop (mkF m 1 #[.val (.ref a1), .val (.int (Int32.ofNat M)), .unset] [(.int (Int32.ofNat M))])) _
      refine XS.aloadN X0.here hx rfl (hb hby d4_1) rfl rfl ?_
      show Steps p.tables e below (s₁.setTop (mkF m 2 #[.val (.ref a1), .val (.int (Int32.ofNat M)), .unset] [(.ref a1), (.int (Int32.ofNat M))])) _
      refine X0.arraylength hx (cell := cl) (by rw [e0]; exact Ar.1) (State.isArrayOf_alike hZ.alike Ar.2.1) (g := (mkF m 2 #[.val (.ref a1), .val (.int (Int32.ofNat M)), .unset] [(.ref a1), (.int (Int32.ofNat M))])) rfl (rest := [(.int (Int32.ofNat M))]) rfl (hb hby d4_2) _ ?_
      rw [len_of S Nn]
      show Steps p.tables e below (s₁.setTop (mkF m 3 #[.val (.ref a1), .val (.int (Int32.ofNat M)), .unset] [(.int (Int32.ofNat N)), (.int (Int32.ofNat M))])) _
      refine XS.icmpYes X0.here hx rfl (pc0 := 3) (pc' := 14) rfl (hb hby d4_3) rfl (feq hc).2 (by decide) (by decide) ?_
      show Steps p.tables e below (s₁.setTop (mkF m 14 #[.val (.ref a1), .val (.int (Int32.ofNat M)), .unset] [])) _
      refine XS.iloadN X0.here hx rfl (hb hby d4_14) rfl ?_
      show Steps p.tables e below (s₁.setTop (mkF m 15 #[.val (.ref a1), .val (.int (Int32.ofNat M)), .unset] [(.int (Int32.ofNat M))])) _
      refine st5 _ ?_
      show Steps p.tables e below (T5.setTop (mkF m 17 #[.val (.ref a1), .val (.int (Int32.ofNat M)), .unset] [(.ref b)])) _
      refine XS.astoreN X5.here hx rfl (hb hby d4_17) rfl rfl (l' := #[.val (.ref a1), .val (.int (Int32.ofNat M)), .val (.ref b)]) rfl ?_
      show Steps p.tables e below (T5.setTop (mkF m 18 #[.val (.ref a1), .val (.int (Int32.ofNat M)), .val (.ref b)] [])) _
      refine XS.aloadN X5.here hx rfl (hb hby d4_18) rfl rfl ?_
      show Steps p.tables e below (T5.setTop (mkF m 19 #[.val (.ref a1), .val (.int (Int32.ofNat M)), .val (.ref b)] [(.ref a1)])) _
      refine XS.iconst X5.here hx rfl (hb hby d4_19) ?_
      show Steps p.tables e below (T5.setTop (mkF m 20 #[.val (.ref a1), .val (.int (Int32.ofNat M)), .val (.ref b)] [(.int (0 : Int32)), (.ref a1)])) _
      refine XS.aloadN X5.here hx rfl (hb hby d4_20) rfl rfl ?_
      show Steps p.tables e below (T5.setTop (mkF m 21 #[.val (.ref a1), .val (.int (Int32.ofNat M)), .val (.ref b)] [(.ref b), (.int (0 : Int32)), (.ref a1)])) _
      refine XS.iconst X5.here hx rfl (hb hby d4_21) ?_
      show Steps p.tables e below (T5.setTop (mkF m 22 #[.val (.ref a1), .val (.int (Int32.ofNat M)), .val (.ref b)] [(.int (0 : Int32)), (.ref b), (.int (0 : Int32)), (.ref a1)])) _
      refine XS.aloadN X5.here hx rfl (hb hby d4_22) rfl rfl ?_
      show Steps p.tables e below (T5.setTop (mkF m 23 #[.val (.ref a1), .val (.int (Int32.ofNat M)), .val (.ref b)] [(.ref a1), (.int (0 : Int32)), (.ref b), (.int (0 : Int32)), (.ref a1)])) _
      refine X5.arraylength hx (cell := cl) (by rw [e5]; exact (Ar.ext E5).1) (State.isArrayOf_alike hZ.alike Ar.2.1) (g := (mkF m 23 #[.val (.ref a1), .val (.int (Int32.ofNat M)), .val (.ref b)] [(.ref a1), (.int (0 : Int32)), (.ref b), (.int (0 : Int32)), (.ref a1)])) rfl (rest := [(.int (0 : Int32)), (.ref b), (.int (0 : Int32)), (.ref a1)]) rfl (hb hby d4_23) _ ?_
      rw [len_of S Nn]
      show Steps p.tables e below (T5.setTop (mkF m 24 #[.val (.ref a1), .val (.int (Int32.ofNat M)), .val (.ref b)] [(.int (Int32.ofNat N)), (.int (0 : Int32)), (.ref b), (.int (0 : Int32)), (.ref a1)])) _
      refine XS.iloadN X5.here hx rfl (hb hby d4_24) rfl ?_
      show Steps p.tables e below (T5.setTop (mkF m 25 #[.val (.ref a1), .val (.int (Int32.ofNat M)), .val (.ref b)] [(.int (Int32.ofNat M)), (.int (Int32.ofNat N)), (.int (0 : Int32)), (.ref b), (.int (0 : Int32)), (.ref a1)])) _
      refine st6 _ ?_
      show Steps p.tables e below (T6.setTop (mkF m 28 #[.val (.ref a1), .val (.int (Int32.ofNat M)), .val (.ref b)] [(.int (Int32.ofNat (min N M))), (.int (0 : Int32)), (.ref b), (.int (0 : Int32)), (.ref a1)])) _
      refine st7 _ ?_
      show Steps p.tables e below (T7.setTop (mkF m 31 #[.val (.ref a1), .val (.int (Int32.ofNat M)), .val (.ref b)] [])) _
      refine XS.aloadN X7.here hx rfl (hb hby d4_31) rfl rfl ?_
      show Steps p.tables e below (T7.setTop (mkF m 32 #[.val (.ref a1), .val (.int (Int32.ofNat M)), .val (.ref b)] [(.ref b)])) _
      exact retOut X7 hx Bd.returns rfl (Or.inr (Or.inr (Or.inr (Or.inr ⟨rfl, rfl, rfl⟩)))) (hb hby d4_32) hr
    · show Q4 Z M vs h0 n0 _ T7.heap _
      rw [e7]
      exact ⟨b, k5, rfl, N7, (((Keep.refl h0 []).ext E5).trans K7 (fun x hx => Or.inr (by cases List.mem_singleton.mp hx; exact Nat.le_of_eq gb.symm))), Nat.le_of_eq gb.symm, (Ex5.keep K7), V7⟩
theorem d5_0 : decode prog_95_method_1_code 0 = .ok (.aload_n 0, 1) := by decide +kernel
theorem d5_1 : decode prog_95_method_1_code 1 = .ok (.invokespecial 1, 3) := by decide +kernel
theorem d5_4 : decode prog_95_method_1_code 4 = .ok (.aload_n 0, 1) := by decide +kernel
theorem d5_5 : decode prog_95_method_1_code 5 = .ok (.iconst 0, 1) := by decide +kernel
theorem d5_6 : decode prog_95_method_1_code 6 = .ok (.newarray .byte, 2) := by decide +kernel
theorem d5_8 : decode prog_95_method_1_code 8 = .ok (.putfield 7, 3) := by decide +kernel
theorem d5_11 : decode prog_95_method_1_code 11 = .ok (.return_, 1) := by decide +kernel
theorem pn_5 : plainName "com/example/nodal_ledger/nodalledger/market/Columns$Bytes" = true := by first | (simp [plainName, overriddenIn]; done) | decide +kernel
theorem ef_5 (m : MethodId) (x0 : Addr) : entryFrame m #[(.ref x0)] 1 = mkF m 0 #[.val (.ref x0)] [] := by first | (simp [entryFrame, mkF, argsToLocals, Value.category]; done) | rfl
def Q5 (Z : State) (a1 : Addr) (h0 : Heap) (n0 : Nat) (v : Option Value) (h : Heap) (L : List Loc) : Prop := v = none ∧ Fr n0 L ∧ n0 ≤ h.size ∧ Col Z n0 h a1 []
set_option maxRecDepth 65536 in
set_option maxHeartbeats 40000000 in
theorem rm5 (l : Launch) (Z : State) (a0 : Array Value) (hw : ∀ d ∈ tables_1, d.before a0 Z = true) (ws : List Jvm.Cond) (a1 : Addr) (h0 : Heap) (n0 : Nat) (Z0 : n0 ≤ h0.size) (E1 : Exa Z h0 a1 "com/example/nodal_ledger/nodalledger/market/Columns$Bytes") (Fv : Fld Z h0 a1 "com/example/nodal_ledger/nodalledger/market/Columns$Bytes" "values" "[B" .null) (Fs : Fld Z h0 a1 "com/example/nodal_ledger/nodalledger/market/Columns$Bytes" "size" "I" (.int (0 : Int32))) (g1 : n0 ≤ a1) :
    MetFree l (⟨"com/example/nodal_ledger/nodalledger/market/Columns$Bytes", "<init>", "()V"⟩ : MethodName) (head1 (Jvm.Cond.code (⟨"com/example/nodal_ledger/nodalledger/market/Columns$Bytes", "<init>", "()V"⟩ : MethodName) prog_95_method_1_code 1 none :: ws) ({ frames := 1, cells := 1, slots := 0, locals := 12 } : Room)) (fun a U => a = #[(.ref a1)] ∧ Z.Warmed39 U.vm ∧ U.heap = h0) (fun _ _ _ _ _ => True) (fun _ U o U' => ∃ v L, o = .returned v ∧ Q5 Z a1 h0 n0 v U'.heap L ∧ FrameEnd U o U' L ({ frames := 1, cells := 1, slots := 0, locals := 12 } : Room).cells ({ frames := 1, cells := 1, slots := 0, locals := 12 } : Room).slots) := by
  refine MetFree.of_bodySF (plainFor_of_name pn_5) hisR ?_
  intro p e s m args below meth c s₁ Bd hml0 hP hK
  obtain ⟨rfl, hZ, hh⟩ := hP
  have hx := Bd.exec
  have hby := Bd.bytes
  have hml : c.maxLocals = 1 := hml0
  have hown : s.vm.findClass "com/example/nodal_ledger/nodalledger/market/Columns$Bytes" = some m.cls := findClass_of_methodNamed Bd.named
  have hnm := (name_of_methodNamed Bd.named Bd.method).1
  have X0 : Stand p l e ({ frames := 1, cells := 1, slots := 0, locals := 12 } : Room) s m #[(.ref a1)] below meth c s₁ [] 0 0 := Stand.of_body Bd
  have e0 : s₁.heap = h0 := by rw [← hh, Bd.state]; rfl
  have N0 := Fr.nil n0
  have pre0 : ∀ t, Steps p.tables e below (s₁.setTop (mkF m 0 #[.val (.ref a1)] [])) t → Steps p.tables e below (s₁.setTop (entryFrame m #[(.ref a1)] 1)) t := fun t k => castTop (ef_5 m a1) k
  obtain ⟨T4, X4, e4, st4⟩ := initO X0 hx hZ hown (hw _ (List.mem_of_getElem? (i := 6) rfl)) (hw _ (List.mem_of_getElem? (i := 7) rfl)) (hw _ (List.mem_of_getElem? (i := 8) rfl)) e0 (g := (mkF m 1 #[.val (.ref a1)] [(.ref a1)])) rfl (by rw [hml]; rfl) rfl (hb hby d5_1) (by decide) (W := 0) (by show 2 * 0 + _ ≤ _; exact Nat.le_of_eq rfl) (by decide)
  obtain ⟨T5, h5, k5, X5, e5, E5, A5, Ex5, st5⟩ := newPE X4 hx hZ (hw _ (List.mem_of_getElem? (i := 9) rfl)) e4 (g := (mkF m 6 #[.val (.ref a1)] [(.int (0 : Int32)), (.ref a1)])) rfl (hb hby d5_6) rfl (by decide) (cap := 0) (by decide) (by decide) (by decide) (by decide) (ad := "[B") (by decide)
  obtain ⟨b, gb⟩ : ∃ z, z = h0.size := ⟨_, rfl⟩
  rw [← gb] at A5 Ex5 st5
  have Vb : Arv Z h5 b k5 .byte (Int32.ofNat 0) [] (.int (0 : Int32)) := Arv.new A5 (by decide)
  obtain ⟨T6, h6, X6, e6, W6, st6⟩ := putF X5 hx hZ hown (host := "") (Or.inl (hw _ (List.mem_of_getElem? (i := 10) rfl))) Via.refl e5 (Fv.ext E5) (E1.ext E5) (Or.inl (hw _ (List.mem_of_getElem? (i := 11) rfl))) (hw _ (List.mem_of_getElem? (i := 1) rfl)) (ty := (.array .byte)) (by decide) rfl rfl (g := (mkF m 8 #[.val (.ref a1)] [(.ref b), (.ref a1)])) rfl rfl (hb hby d5_8)
  have ne : b ≠ a1 := Nat.ne_of_gt (Nat.lt_of_lt_of_le E1.lt (Nat.le_of_eq gb.symm))
  have N6 := Fr.snoc X6 N0 g1
  have Fs6 := (Fs.ext E5).other W6 (Or.inr (slot_ne (Or.inl (hw _ (List.mem_of_getElem? (i := 18) rfl))) (Or.inl (hw _ (List.mem_of_getElem? (i := 11) rfl))) (by decide) (t := .int) (t' := (.array .byte)) (by decide) (by decide)))
  have Fv6 := (Fv.ext E5).same W6
  obtain ⟨fs, hr, hrun, hended, hW, hsame⟩ := X6.leave (v := none) (fun _ => rfl)
  refine ⟨_, _, pre0 _ ?_, hrun, hended, _, _, rfl, ?_, ⟨_, rfl⟩, hW, hsame.mono (by decide) (by decide)⟩
  · show Steps p.tables e below (s₁.setTop (mkF m 0 #[.val (.ref a1)] [])) _
    refine XS.aloadN X0.here hx rfl (hb hby d5_0) rfl rfl ?_
    show Steps p.tables e below (s₁.setTop (mkF m 1 #[.val (.ref a1)] [(.ref a1)])) _
    refine st4 _ ?_
    show Steps p.tables e below (T4.setTop (mkF m 4 #[.val (.ref a1)] [])) _
    refine XS.aloadN X4.here hx rfl (hb hby d5_4) rfl rfl ?_
    show Steps p.tables e below (T4.setTop (mkF m 5 #[.val (.ref a1)] [(.ref a1)])) _
    refine XS.iconst X4.here hx rfl (hb hby d5_5) ?_
    show Steps p.tables e below (T4.setTop (mkF m 6 #[.val (.ref a1)] [(.int (0 : Int32)), (.ref a1)])) _
    refine st5 _ ?_
    show Steps p.tables e below (T5.setTop (mkF m 8 #[.val (.ref a1)] [(.ref b), (.ref a1)])) _
    refine st6 _ ?_
    show Steps p.tables e below (T6.setTop (mkF m 11 #[.val (.ref a1)] [])) _
    exact X6.returnOut hx Bd.returns (hb hby d5_11) hr
  · show Q5 Z a1 h0 n0 _ T6.heap _
    rw [e6]
    refine ⟨rfl, N6, Nat.le_trans Z0 (Nat.le_trans E5.1 (Keep.of_wr W6).1), b, k5, 0, [], (E1.ext E5).wr W6, Fv6, Fs6, Vb.other W6 ne, Ex5.wr W6, rfl, by decide, Nat.le_refl _, Nat.le_trans Z0 (Nat.le_of_eq gb.symm), fun i hi => nomatch hi⟩
theorem d6_0 : decode prog_95_method_2_code 0 = .ok (.aload_n 0, 1) := by decide +kernel
theorem d6_1 : decode prog_95_method_2_code 1 = .ok (.getfield 13, 3) := by decide +kernel
theorem d6_4 : decode prog_95_method_2_code 4 = .ok (.aload_n 0, 1) := by decide +kernel
theorem d6_5 : decode prog_95_method_2_code 5 = .ok (.getfield 7, 3) := by decide +kernel
theorem d6_8 : decode prog_95_method_2_code 8 = .ok (.arraylength, 1) := by decide +kernel
theorem d6_9 : decode prog_95_method_2_code 9 = .ok (.if_icmp .ne 21, 3) := by decide +kernel
theorem d6_12 : decode prog_95_method_2_code 12 = .ok (.aload_n 0, 1) := by decide +kernel
theorem d6_13 : decode prog_95_method_2_code 13 = .ok (.aload_n 0, 1) := by decide +kernel
theorem d6_14 : decode prog_95_method_2_code 14 = .ok (.getfield 7, 3) := by decide +kernel
theorem d6_17 : decode prog_95_method_2_code 17 = .ok (.aload_n 0, 1) := by decide +kernel
theorem d6_18 : decode prog_95_method_2_code 18 = .ok (.getfield 13, 3) := by decide +kernel
theorem d6_21 : decode prog_95_method_2_code 21 = .ok (.invokestatic 17, 3) := by decide +kernel
theorem d6_24 : decode prog_95_method_2_code 24 = .ok (.invokestatic 23, 3) := by decide +kernel
theorem d6_27 : decode prog_95_method_2_code 27 = .ok (.putfield 7, 3) := by decide +kernel
theorem d6_30 : decode prog_95_method_2_code 30 = .ok (.aload_n 0, 1) := by decide +kernel
theorem d6_31 : decode prog_95_method_2_code 31 = .ok (.getfield 7, 3) := by decide +kernel
theorem d6_34 : decode prog_95_method_2_code 34 = .ok (.aload_n 0, 1) := by decide +kernel
theorem d6_35 : decode prog_95_method_2_code 35 = .ok (.dup, 1) := by decide +kernel
theorem d6_36 : decode prog_95_method_2_code 36 = .ok (.getfield 13, 3) := by decide +kernel
theorem d6_39 : decode prog_95_method_2_code 39 = .ok (.dup_x1, 1) := by decide +kernel
theorem d6_40 : decode prog_95_method_2_code 40 = .ok (.iconst 1, 1) := by decide +kernel
theorem d6_41 : decode prog_95_method_2_code 41 = .ok (.iadd, 1) := by decide +kernel
theorem d6_42 : decode prog_95_method_2_code 42 = .ok (.putfield 13, 3) := by decide +kernel
theorem d6_45 : decode prog_95_method_2_code 45 = .ok (.iload_n 1, 1) := by decide +kernel
theorem d6_46 : decode prog_95_method_2_code 46 = .ok (.bastore, 1) := by decide +kernel
theorem d6_47 : decode prog_95_method_2_code 47 = .ok (.return_, 1) := by decide +kernel
theorem pd_cp : parseMethodDescriptor "([BI)[B" = some ⟨[(.array .byte), .int], some (.array .byte)⟩ := by decide +kernel
theorem pn_6 : plainName "com/example/nodal_ledger/nodalledger/market/Columns$Bytes" = true := by first | (simp [plainName, overriddenIn]; done) | decide +kernel
theorem ef_6 (m : MethodId) (x0 : Addr) (x1 : Int32) : entryFrame m #[(.ref x0), (.int x1)] 2 = mkF m 0 #[.val (.ref x0), .val (.int x1)] [] := by first | (simp [entryFrame, mkF, argsToLocals, Value.category]; done) | rfl
def Q6 (Z : State) (a1 : Addr) (p1 : Int32) (xs : List Int32) (h0 : Heap) (n0 : Nat) (v : Option Value) (h : Heap) (L : List Loc) : Prop := v = none ∧ Fr n0 L ∧ n0 ≤ h.size ∧ Col Z n0 h a1 (xs ++ [(nar .byte p1)])
set_option maxRecDepth 65536 in
set_option maxHeartbeats 40000000 in
theorem rm6 (l : Launch) (Z : State) (a0 : Array Value) (hw : ∀ d ∈ tables_1, d.before a0 Z = true) (ws : List Jvm.Cond) (a1 : Addr) (p1 : Int32) (xs : List Int32) (h0 : Heap) (n0 : Nat) (Z0 : n0 ≤ h0.size) (C0 : Col Z n0 h0 a1 xs) (h3 : xs.length ≤ 3) (g1 : n0 ≤ a1) :
    MetFree l (⟨"com/example/nodal_ledger/nodalledger/market/Columns$Bytes", "add", "(B)V"⟩ : MethodName) (head1 (Jvm.Cond.code (⟨"com/example/nodal_ledger/nodalledger/market/Columns$Bytes", "add", "(B)V"⟩ : MethodName) prog_95_method_2_code 2 none :: ws) ({ frames := 2, cells := 1, slots := 16, locals := 55 } : Room)) (fun a U => a = #[(.ref a1), (.int p1)] ∧ Z.Warmed39 U.vm ∧ U.heap = h0) (fun _ _ _ _ _ => True) (fun _ U o U' => ∃ v L, o = .returned v ∧ Q6 Z a1 p1 xs h0 n0 v U'.heap L ∧ FrameEnd U o U' L ({ frames := 2, cells := 1, slots := 16, locals := 55 } : Room).cells ({ frames := 2, cells := 1, slots := 16, locals := 55 } : Room).slots) := by
  refine MetFree.of_bodySF (plainFor_of_name pn_6) hisR ?_
  intro p e s m args below meth c s₁ Bd hml0 hP hK
  obtain ⟨rfl, hZ, hh⟩ := hP
  have hx := Bd.exec
  have hby := Bd.bytes
  have hml : c.maxLocals = 2 := hml0
  have hown : s.vm.findClass "com/example/nodal_ledger/nodalledger/market/Columns$Bytes" = some m.cls := findClass_of_methodNamed Bd.named
  have hnm := (name_of_methodNamed Bd.named Bd.method).1
  have X0 : Stand p l e ({ frames := 2, cells := 1, slots := 16, locals := 55 } : Room) s m #[(.ref a1), (.int p1)] below meth c s₁ [] 0 0 := Stand.of_body Bd
  have e0 : s₁.heap = h0 := by rw [← hh, Bd.state]; rfl
  have N0 := Fr.nil n0
  have pre0 : ∀ t, Steps p.tables e below (s₁.setTop (mkF m 0 #[.val (.ref a1), .val (.int p1)] [])) t → Steps p.tables e below (s₁.setTop (entryFrame m #[(.ref a1), (.int p1)] 2)) t := fun t k => castTop (ef_6 m a1 p1) k
  obtain ⟨b, k, N, vs, E1, Fv, Fs, V, Eb, hl, hN, hxs, gb, hat⟩ := C0
  have V' := V
  obtain ⟨cl, Ar, -, S, Nn, -, -⟩ := V'
  obtain ⟨T1, X1, e1, st1⟩ := getF X0 hx hZ hown (host := "") (Or.inl (hw _ (List.mem_of_getElem? (i := 17) rfl))) Via.refl e0 Fs (g := (mkF m 1 #[.val (.ref a1), .val (.int p1)] [(.ref a1)])) rfl rfl (hb hby d6_1)
  obtain ⟨T2, X2, e2, st2⟩ := getF X1 hx hZ hown (host := "") (Or.inl (hw _ (List.mem_of_getElem? (i := 10) rfl))) Via.refl e1 Fv (g := (mkF m 5 #[.val (.ref a1), .val (.int p1)] [(.ref a1), (.int (Int32.ofNat xs.length))])) rfl rfl (hb hby d6_5)
  obtain ⟨T3, h3', L3, b', k', N', vs', X3, e3, N3, Z3, E3, Fv3, Fs3, V3, Eb3, hl3, hN3, hxs3, gb3, hat3, st3⟩ : ∃ (T' : State) (h' : Heap) (L' : List Loc) (b' : Addr) (k' : ClassId) (N' : Nat) (vs' : List Value), Stand p l e ({ frames := 2, cells := 1, slots := 16, locals := 55 } : Room) s m #[(.ref a1), (.int p1)] below meth c T' L' 1 16 ∧ T'.heap = h' ∧ Fr n0 L' ∧ n0 ≤ h'.size ∧ Exa Z h' a1 "com/example/nodal_ledger/nodalledger/market/Columns$Bytes" ∧ Fld Z h' a1 "com/example/nodal_ledger/nodalledger/market/Columns$Bytes" "values" "[B" (.ref b') ∧ Fld Z h' a1 "com/example/nodal_ledger/nodalledger/market/Columns$Bytes" "size" "I" (.int (Int32.ofNat xs.length)) ∧ Arv Z h' b' k' .byte (Int32.ofNat N') vs' (.int (0 : Int32)) ∧ Exa Z h' b' "[B" ∧ vs'.length = N' ∧ N' ≤ 16 ∧ xs.length < N' ∧ n0 ≤ b' ∧ (∀ i, i < xs.length → vs'.getD i (.int (0 : Int32)) = .int (xs.getD i 0)) ∧ ∀ target, Steps p.tables e below (T'.setTop (mkF m 30 #[.val (.ref a1), .val (.int p1)] [])) target → Steps p.tables e below (T2.setTop (mkF m 8 #[.val (.ref a1), .val (.int p1)] [(.ref b), (.int (Int32.ofNat xs.length))])) target := by
    by_cases hc : (Int32.ofNat xs.length) = (Int32.ofNat N)
    · have hNx : xs.length = N := own_inj (by omega) (by omega) hc
      obtain ⟨T4, X4, e4, st4⟩ := getF X2 hx hZ hown (host := "") (Or.inl (hw _ (List.mem_of_getElem? (i := 10) rfl))) Via.refl e2 Fv (g := (mkF m 14 #[.val (.ref a1), .val (.int p1)] [(.ref a1), (.ref a1)])) rfl rfl (hb hby d6_14)
      obtain ⟨T5, X5, e5, st5⟩ := getF X4 hx hZ hown (host := "") (Or.inl (hw _ (List.mem_of_getElem? (i := 17) rfl))) Via.refl e4 Fs (g := (mkF m 18 #[.val (.ref a1), .val (.int p1)] [(.ref a1), (.ref b), (.ref a1)])) rfl rfl (hb hby d6_18)
      obtain ⟨_, _, ⟨T6, L6, k6, n6⟩, -, X6, ⟨Lc6, hQ6, l6, y6, z6⟩, st6⟩ := callSN X5 hx (y := (⟨"com/example/nodal_ledger/nodalledger/market/Columns", "grown", "(I)I"⟩ : MethodName)) hown (Cond.methodLinkNest_wide hZ (hw _ (List.mem_of_getElem? (i := 37) rfl)) :) (mvT hZ (hw _ (List.mem_of_getElem? (i := 38) rfl))) (mvT hZ (hw _ (List.mem_of_getElem? (i := 39) rfl))) (mvT hZ (hw _ (List.mem_of_getElem? (i := 40) rfl))) (by decide) (backOf (W := 2) (rm3 l Z a0 hw [] (Int32.ofNat xs.length) h0 n0 Z0) hZ (hw _ (List.mem_of_getElem? (i := 40) rfl)) (hw _ (List.mem_of_getElem? (i := 39) rfl)) (by decide) (by decide)) (g := (mkF m 21 #[.val (.ref a1), .val (.int p1)] [(.int (Int32.ofNat xs.length)), (.ref b), (.ref a1)])) rfl (by rw [hml]; rfl) (argsL := [(.int (Int32.ofNat xs.length))]) (rest := [(.ref b), (.ref a1)]) (lenOf pd_I rfl) rfl (by show 2 * 0 + _ ≤ _; exact Nat.le_of_eq rfl) (hb hby d6_21) (fun _ _ => ⟨rfl, e5, (by decide : 0 + 0 ≤ _), (by decide : 0 + 0 ≤ _)⟩)
      dsimp only [Pt.U, Pt.locs, Pt.cells, Pt.slots] at X6 l6 y6 z6 st6 hQ6
      subst l6 y6 z6
      obtain ⟨hv6, N6q, e6⟩ := hQ6
      rw [own_grow ⟨xs.length, by omega⟩] at hv6
      subst hv6
      have N6 := Fr.app N0 N6q
      obtain ⟨_, _, ⟨T7, L7, k7, n7⟩, -, X7, ⟨Lc7, hQ7, l7, y7, z7⟩, st7⟩ := Jvm.LawKit.callS X6 hx (y := (⟨"java/util/Arrays", "copyOf", "([BI)[B"⟩ : MethodName)) hown (mvT hZ (hw _ (List.mem_of_getElem? (i := 19) rfl))) (mvT hZ (hw _ (List.mem_of_getElem? (i := 20) rfl))) (mvT hZ (hw _ (List.mem_of_getElem? (i := 21) rfl))) (mvT hZ (hw _ (List.mem_of_getElem? (i := 22) rfl))) (by decide) (backOf (W := 1) (rm4 l Z a0 hw [] b k N 16 vs h0 n0 Z0 V Eb hl hN (by decide)) hZ (hw _ (List.mem_of_getElem? (i := 22) rfl)) (hw _ (List.mem_of_getElem? (i := 21) rfl)) (by decide) (by decide)) (g := (mkF m 24 #[.val (.ref a1), .val (.int p1)] [(.int (Int32.ofNat 16)), (.ref b), (.ref a1)])) rfl (by rw [hml]; rfl) (argsL := [(.ref b), (.int (Int32.ofNat 16))]) (rest := [(.ref a1)]) (lenOf pd_cp rfl) rfl (by show 2 * 0 + _ ≤ _; exact Nat.le_of_eq rfl) (hb hby d6_24) (fun _ _ => ⟨rfl, e6, (by decide : 0 + 1 ≤ _), (by decide : 0 + 16 ≤ _)⟩)
      dsimp only [Pt.U, Pt.locs, Pt.cells, Pt.slots] at X7 l7 y7 z7 st7 hQ7
      subst l7 y7 z7
      obtain ⟨b7, k7, rfl, N7q, K7, gb7, Ex7, V7⟩ := hQ7
      have N7 := Fr.app N6 N7q
      obtain ⟨T8, h8, X8, e8, W8, st8⟩ := putF X7 hx hZ hown (host := "") (Or.inl (hw _ (List.mem_of_getElem? (i := 10) rfl))) Via.refl rfl (Fv.keep K7 (fun q => nomatch q)) (E1.keep K7) (Or.inl (hw _ (List.mem_of_getElem? (i := 11) rfl))) (hw _ (List.mem_of_getElem? (i := 1) rfl)) (ty := (.array .byte)) (by decide) rfl rfl (g := (mkF m 27 #[.val (.ref a1), .val (.int p1)] [(.ref b7), (.ref a1)])) rfl rfl (hb hby d6_27)
      have ne8 : b7 ≠ a1 := Nat.ne_of_gt (Nat.lt_of_lt_of_le E1.lt gb7)
      have N8 := Fr.snoc X8 N7 g1
      have Fs8 := (Fs.keep K7 (fun q => nomatch q)).other W8 (Or.inr (slot_ne (Or.inl (hw _ (List.mem_of_getElem? (i := 18) rfl))) (Or.inl (hw _ (List.mem_of_getElem? (i := 11) rfl))) (by decide) (t := .int) (t' := (.array .byte)) (by decide) (by decide)))
      have Fv8 := (Fv.keep K7 (fun q => nomatch q)).same W8
      refine ⟨T8, h8, _, b7, k7, 16, own_copy vs 16, X8.more (by decide) (by decide), e8, N8, Nat.le_trans Z0 (Nat.le_trans K7.1 (Keep.of_wr W8).1), (E1.keep K7).wr W8, Fv8, Fs8, V7.other W8 ne8, Ex7.wr W8, own_copy_len vs 16, by decide, by omega, Nat.le_trans Z0 gb7, fun i hi => by rw [own_copy_at vs 16 i (by omega) (by omega)]; exact hat i hi, fun target kt => ?_⟩
      show Steps p.tables e below (T2.setTop (mkF m 8 #[.val (.ref a1), .val (.int p1)] [(.ref b), (.int (Int32.ofNat xs.length))])) _
      refine X2.arraylength hx (cell := cl) (by rw [e2]; exact Ar.1) (State.isArrayOf_alike hZ.alike Ar.2.1) (g := (mkF m 8 #[.val (.ref a1), .val (.int p1)] [(.ref b), (.int (Int32.ofNat xs.length))])) rfl (rest := [(.int (Int32.ofNat xs.length))]) rfl (hb hby d6_8) _ ?_
      rw [len_of S Nn]
      show Steps p.tables e below (T2.setTop (mkF m 9 #[.val (.ref a1), .val (.int p1)] [(.int (Int32.ofNat N)), (.int (Int32.ofNat xs.length))])) _
      refine XS.icmpNo X2.here hx rfl (hb hby d6_9) rfl (teq hc).2 ?_
      show Steps p.tables e below (T2.setTop (mkF m 12 #[.val (.ref a1), .val (.int p1)] [])) _
      refine XS.aloadN X2.here hx rfl (hb hby d6_12) rfl rfl ?_
      show Steps p.tables e below (T2.setTop (mkF m 13 #[.val (.ref a1), .val (.int p1)] [(.ref a1)])) _
      refine XS.aloadN X2.here hx rfl (hb hby d6_13) rfl rfl ?_
      show Steps p.tables e below (T2.setTop (mkF m 14 #[.val (.ref a1), .val (.int p1)] [(.ref a1), (.ref a1)])) _
      refine st4 _ ?_
      show Steps p.tables e below (T4.setTop (mkF m 17 #[.val (.ref a1), .val (.int p1)] [(.ref b), (.ref a1)])) _
      refine XS.aloadN X4.here hx rfl (hb hby d6_17) rfl rfl ?_
      show Steps p.tables e below (T4.setTop (mkF m 18 #[.val (.ref a1), .val (.int p1)] [(.ref a1), (.ref b), (.ref a1)])) _
      refine st5 _ ?_
      show Steps p.tables e below (T5.setTop (mkF m 21 #[.val (.ref a1), .val (.int p1)] [(.int (Int32.ofNat xs.length)), (.ref b), (.ref a1)])) _
      refine st6.trans ?_
      show Steps p.tables e below (T6.setTop (mkF m 24 #[.val (.ref a1), .val (.int p1)] [(.int (Int32.ofNat 16)), (.ref b), (.ref a1)])) _
      refine st7 _ ?_
      show Steps p.tables e below (T7.setTop (mkF m 27 #[.val (.ref a1), .val (.int p1)] [(.ref b7), (.ref a1)])) _
      refine st8 _ ?_
      exact kt
    · refine ⟨T2, h0, _, b, k, N, vs, X2.more (by decide) (by decide), e2, N0, Z0, E1, Fv, Fs, V, Eb, hl, hN, Nat.lt_of_le_of_ne hxs (fun q => hc (by rw [q])), gb, hat, fun target kt => ?_⟩
      show Steps p.tables e below (T2.setTop (mkF m 8 #[.val (.ref a1), .val (.int p1)] [(.ref b), (.int (Int32.ofNat xs.length))])) _
      refine X2.arraylength hx (cell := cl) (by rw [e2]; exact Ar.1) (State.isArrayOf_alike hZ.alike Ar.2.1) (g := (mkF m 8 #[.val (.ref a1), .val (.int p1)] [(.ref b), (.int (Int32.ofNat xs.length))])) rfl (rest := [(.int (Int32.ofNat xs.length))]) rfl (hb hby d6_8) _ ?_
      rw [len_of S Nn]
      show Steps p.tables e below (T2.setTop (mkF m 9 #[.val (.ref a1), .val (.int p1)] [(.int (Int32.ofNat N)), (.int (Int32.ofNat xs.length))])) _
      refine XS.icmpYes X2.here hx rfl (pc0 := 9) (pc' := 30) rfl (hb hby d6_9) rfl (feq hc).2 (by decide) (by decide) ?_
      exact kt
  obtain ⟨T10, X10, e10, st10⟩ := getF X3 hx hZ hown (host := "") (Or.inl (hw _ (List.mem_of_getElem? (i := 10) rfl))) Via.refl e3 Fv3 (g := (mkF m 31 #[.val (.ref a1), .val (.int p1)] [(.ref a1)])) rfl rfl (hb hby d6_31)
  obtain ⟨T11, X11, e11, st11⟩ := getF X10 hx hZ hown (host := "") (Or.inl (hw _ (List.mem_of_getElem? (i := 17) rfl))) Via.refl e10 Fs3 (g := (mkF m 36 #[.val (.ref a1), .val (.int p1)] [(.ref a1), (.ref a1), (.ref b')])) rfl rfl (hb hby d6_36)
  obtain ⟨T12, h12, X12, e12, W12, st12⟩ := putF X11 hx hZ hown (host := "") (Or.inl (hw _ (List.mem_of_getElem? (i := 17) rfl))) Via.refl e11 Fs3 E3 (Or.inl (hw _ (List.mem_of_getElem? (i := 18) rfl))) (hw _ (List.mem_of_getElem? (i := 1) rfl)) (ty := .int) (by decide) rfl rfl (g := (mkF m 42 #[.val (.ref a1), .val (.int p1)] [(.int ((Int32.ofNat xs.length) + (1 : Int32))), (.ref a1), (.int (Int32.ofNat xs.length)), (.ref b')])) rfl rfl (hb hby d6_42)
  have ne12 : b' ≠ a1 := (ne_exa E3 Eb3 (by decide)).symm
  have N12 := Fr.snoc X12 N3 g1
  have V12 := V3.other W12 ne12
  obtain ⟨cz, Az, qz, Sz, Nz, Hz, Gz⟩ := V12
  have hinz : ¬ ((Int32.ofNat xs.length) < 0 ∨ cz.slots.size ≤ ((Int32.ofNat xs.length)).toNatClampNeg) := inb_of Sz ⟨own_nn (by omega), own_lt hxs3 (by omega)⟩
  obtain ⟨T13, h13, X13, e13, W13, st13⟩ := stB X12 hx hZ e12 Az (j := (Int32.ofNat xs.length)) hinz (g := (mkF m 46 #[.val (.ref a1), .val (.int p1)] [(.int p1), (.int (Int32.ofNat xs.length)), (.ref b')])) rfl rfl (hb hby d6_46)
  have V13 := Arv.set Az qz Sz Nz Hz Gz (fits_nar_byte _) W13 xs.length (own_n32 (by omega)) (by omega)
  have N13 := Fr.snoc X13 N12 gb3
  have Fs13 := (Fs3.same W12).other W13 (Or.inl ne12.symm)
  have Fv13 := (Fv3.other W12 (Or.inr (slot_ne (Or.inl (hw _ (List.mem_of_getElem? (i := 11) rfl))) (Or.inl (hw _ (List.mem_of_getElem? (i := 18) rfl))) (by decide) (t := (.array .byte)) (t' := .int) (by decide) (by decide)))).other W13 (Or.inl ne12.symm)
  obtain ⟨fs, hr, hrun, hended, hW, hsame⟩ := X13.leave (v := none) (fun _ => rfl)
  refine ⟨_, _, pre0 _ ?_, hrun, hended, _, _, rfl, ?_, ⟨_, rfl⟩, hW, hsame.mono (by decide) (by decide)⟩
  · show Steps p.tables e below (s₁.setTop (mkF m 0 #[.val (.ref a1), .val (.int p1)] [])) _
    refine XS.aloadN X0.here hx rfl (hb hby d6_0) rfl rfl ?_
    show Steps p.tables e below (s₁.setTop (mkF m 1 #[.val (.ref a1), .val (.int p1)] [(.ref a1)])) _
    refine st1 _ ?_
    show Steps p.tables e below (T1.setTop (mkF m 4 #[.val (.ref a1), .val (.int p1)] [(.int (Int32.ofNat xs.length))])) _
    refine XS.aloadN X1.here hx rfl (hb hby d6_4) rfl rfl ?_
    show Steps p.tables e below (T1.setTop (mkF m 5 #[.val (.ref a1), .val (.int p1)] [(.ref a1), (.int (Int32.ofNat xs.length))])) _
    refine st2 _ ?_
    refine st3 _ ?_
    show Steps p.tables e below (T3.setTop (mkF m 30 #[.val (.ref a1), .val (.int p1)] [])) _
    refine XS.aloadN X3.here hx rfl (hb hby d6_30) rfl rfl ?_
    show Steps p.tables e below (T3.setTop (mkF m 31 #[.val (.ref a1), .val (.int p1)] [(.ref a1)])) _
    refine st10 _ ?_
    show Steps p.tables e below (T10.setTop (mkF m 34 #[.val (.ref a1), .val (.int p1)] [(.ref b')])) _
    refine XS.aloadN X10.here hx rfl (hb hby d6_34) rfl rfl ?_
    show Steps p.tables e below (T10.setTop (mkF m 35 #[.val (.ref a1), .val (.int p1)] [(.ref a1), (.ref b')])) _
    refine XS.dup X10.here hx rfl (hb hby d6_35) rfl rfl ?_
    show Steps p.tables e below (T10.setTop (mkF m 36 #[.val (.ref a1), .val (.int p1)] [(.ref a1), (.ref a1), (.ref b')])) _
    refine st11 _ ?_
    show Steps p.tables e below (T11.setTop (mkF m 39 #[.val (.ref a1), .val (.int p1)] [(.int (Int32.ofNat xs.length)), (.ref a1), (.ref b')])) _
    refine XS.dupX1 X11.here hx rfl (hb hby d6_39) rfl rfl rfl ?_
    show Steps p.tables e below (T11.setTop (mkF m 40 #[.val (.ref a1), .val (.int p1)] [(.int (Int32.ofNat xs.length)), (.ref a1), (.int (Int32.ofNat xs.length)), (.ref b')])) _
    refine XS.iconst X11.here hx rfl (hb hby d6_40) ?_
    show Steps p.tables e below (T11.setTop (mkF m 41 #[.val (.ref a1), .val (.int p1)] [(.int (1 : Int32)), (.int (Int32.ofNat xs.length)), (.ref a1), (.int (Int32.ofNat xs.length)), (.ref b')])) _
    refine XS.iadd X11.here hx rfl (hb hby d6_41) rfl ?_
    show Steps p.tables e below (T11.setTop (mkF m 42 #[.val (.ref a1), .val (.int p1)] [(.int ((Int32.ofNat xs.length) + (1 : Int32))), (.ref a1), (.int (Int32.ofNat xs.length)), (.ref b')])) _
    refine st12 _ ?_
    show Steps p.tables e below (T12.setTop (mkF m 45 #[.val (.ref a1), .val (.int p1)] [(.int (Int32.ofNat xs.length)), (.ref b')])) _
    refine XS.iloadN X12.here hx rfl (hb hby d6_45) rfl ?_
    show Steps p.tables e below (T12.setTop (mkF m 46 #[.val (.ref a1), .val (.int p1)] [(.int p1), (.int (Int32.ofNat xs.length)), (.ref b')])) _
    refine st13 _ ?_
    show Steps p.tables e below (T13.setTop (mkF m 47 #[.val (.ref a1), .val (.int p1)] [])) _
    exact X13.returnOut hx Bd.returns (hb hby d6_47) hr
  · show Q6 Z a1 p1 xs h0 n0 _ T13.heap _
    rw [e13]
    refine ⟨rfl, N13, Nat.le_trans Z3 (Nat.le_trans (Keep.of_wr W12).1 (Keep.of_wr W13).1), b', k', N', _, (E3.wr W12).wr W13, Fv13, ?_, V13, (Eb3.wr W12).wr W13, by rw [List.length_set]; exact hl3, hN3, by rw [List.length_append]; exact hxs3, gb3, fun i hi => ?_⟩
    · rw [List.length_append, List.length_singleton, ← own_one]; exact Fs13
    · rw [List.length_append, List.length_singleton] at hi
      by_cases ci : i < xs.length
      · rw [own_set_at _ _ _ _ _ ci, own_app_at _ _ _ ci]; exact hat3 i ci
      · obtain rfl : i = xs.length := by omega
        rw [own_set_hit _ _ _ _ (by omega), own_app_hit]
        rfl
theorem d7_0 : decode prog_95_method_4_code 0 = .ok (.aload_n 0, 1) := by decide +kernel
theorem d7_1 : decode prog_95_method_4_code 1 = .ok (.aload_n 0, 1) := by decide +kernel
theorem d7_2 : decode prog_95_method_4_code 2 = .ok (.getfield 7, 3) := by decide +kernel
theorem d7_5 : decode prog_95_method_4_code 5 = .ok (.aload_n 0, 1) := by decide +kernel
theorem d7_6 : decode prog_95_method_4_code 6 = .ok (.getfield 13, 3) := by decide +kernel
theorem d7_9 : decode prog_95_method_4_code 9 = .ok (.invokestatic 23, 3) := by decide +kernel
theorem d7_12 : decode prog_95_method_4_code 12 = .ok (.putfield 7, 3) := by decide +kernel
theorem d7_15 : decode prog_95_method_4_code 15 = .ok (.return_, 1) := by decide +kernel
theorem pn_7 : plainName "com/example/nodal_ledger/nodalledger/market/Columns$Bytes" = true := by first | (simp [plainName, overriddenIn]; done) | decide +kernel
theorem ef_7 (m : MethodId) (x0 : Addr) : entryFrame m #[(.ref x0)] 1 = mkF m 0 #[.val (.ref x0)] [] := by first | (simp [entryFrame, mkF, argsToLocals, Value.category]; done) | rfl
def Q7 (Z : State) (a1 : Addr) (xs : List Int32) (h0 : Heap) (n0 : Nat) (v : Option Value) (h : Heap) (L : List Loc) : Prop := v = none ∧ Fr n0 L ∧ n0 ≤ h.size ∧ Col Z n0 h a1 xs
set_option maxRecDepth 65536 in
set_option maxHeartbeats 40000000 in
theorem rm7 (l : Launch) (Z : State) (a0 : Array Value) (hw : ∀ d ∈ tables_1, d.before a0 Z = true) (ws : List Jvm.Cond) (a1 : Addr) (xs : List Int32) (h0 : Heap) (n0 : Nat) (Z0 : n0 ≤ h0.size) (C0 : Col Z n0 h0 a1 xs) (g1 : n0 ≤ a1) :
    MetFree l (⟨"com/example/nodal_ledger/nodalledger/market/Columns$Bytes", "trim", "()V"⟩ : MethodName) (head1 (Jvm.Cond.code (⟨"com/example/nodal_ledger/nodalledger/market/Columns$Bytes", "trim", "()V"⟩ : MethodName) prog_95_method_4_code 1 none :: ws) ({ frames := 2, cells := 1, slots := 16, locals := 55 } : Room)) (fun a U => a = #[(.ref a1)] ∧ Z.Warmed39 U.vm ∧ U.heap = h0) (fun _ _ _ _ _ => True) (fun _ U o U' => ∃ v L, o = .returned v ∧ Q7 Z a1 xs h0 n0 v U'.heap L ∧ FrameEnd U o U' L ({ frames := 2, cells := 1, slots := 16, locals := 55 } : Room).cells ({ frames := 2, cells := 1, slots := 16, locals := 55 } : Room).slots) := by
  refine MetFree.of_bodySF (plainFor_of_name pn_7) hisR ?_
  intro p e s m args below meth c s₁ Bd hml0 hP hK
  obtain ⟨rfl, hZ, hh⟩ := hP
  have hx := Bd.exec
  have hby := Bd.bytes
  have hml : c.maxLocals = 1 := hml0
  have hown : s.vm.findClass "com/example/nodal_ledger/nodalledger/market/Columns$Bytes" = some m.cls := findClass_of_methodNamed Bd.named
  have hnm := (name_of_methodNamed Bd.named Bd.method).1
  have X0 : Stand p l e ({ frames := 2, cells := 1, slots := 16, locals := 55 } : Room) s m #[(.ref a1)] below meth c s₁ [] 0 0 := Stand.of_body Bd
  have e0 : s₁.heap = h0 := by rw [← hh, Bd.state]; rfl
  have N0 := Fr.nil n0
  have pre0 : ∀ t, Steps p.tables e below (s₁.setTop (mkF m 0 #[.val (.ref a1)] [])) t → Steps p.tables e below (s₁.setTop (entryFrame m #[(.ref a1)] 1)) t := fun t k => castTop (ef_7 m a1) k
  obtain ⟨b, k, N, vs, E1, Fv, Fs, V, Eb, hl, hN, hxs, gb, hat⟩ := C0
  obtain ⟨T1, X1, e1, st1⟩ := getF X0 hx hZ hown (host := "") (Or.inl (hw _ (List.mem_of_getElem? (i := 10) rfl))) Via.refl e0 Fv (g := (mkF m 2 #[.val (.ref a1)] [(.ref a1), (.ref a1)])) rfl rfl (hb hby d7_2)
  obtain ⟨T2, X2, e2, st2⟩ := getF X1 hx hZ hown (host := "") (Or.inl (hw _ (List.mem_of_getElem? (i := 17) rfl))) Via.refl e1 Fs (g := (mkF m 6 #[.val (.ref a1)] [(.ref a1), (.ref b), (.ref a1)])) rfl rfl (hb hby d7_6)
  obtain ⟨_, _, ⟨T7, L7, k7, n7⟩, -, X7, ⟨Lc7, hQ7, l7, y7, z7⟩, st7⟩ := Jvm.LawKit.callS X2 hx (y := (⟨"java/util/Arrays", "copyOf", "([BI)[B"⟩ : MethodName)) hown (mvT hZ (hw _ (List.mem_of_getElem? (i := 19) rfl))) (mvT hZ (hw _ (List.mem_of_getElem? (i := 20) rfl))) (mvT hZ (hw _ (List.mem_of_getElem? (i := 21) rfl))) (mvT hZ (hw _ (List.mem_of_getElem? (i := 22) rfl))) (by decide) (backOf (W := 1) (rm4 l Z a0 hw [] b k N xs.length vs h0 n0 Z0 V Eb hl hN (by omega)) hZ (hw _ (List.mem_of_getElem? (i := 22) rfl)) (hw _ (List.mem_of_getElem? (i := 21) rfl)) (by decide) (by decide)) (g := (mkF m 9 #[.val (.ref a1)] [(.int (Int32.ofNat xs.length)), (.ref b), (.ref a1)])) rfl (by rw [hml]; rfl) (argsL := [(.ref b), (.int (Int32.ofNat xs.length))]) (rest := [(.ref a1)]) (lenOf pd_cp rfl) rfl (by show 2 * 0 + _ ≤ _; exact Nat.le_of_eq rfl) (hb hby d7_9) (fun _ _ => ⟨rfl, e2, (by decide : 0 + 1 ≤ _), (by decide : 0 + 16 ≤ _)⟩)
  dsimp only [Pt.U, Pt.locs, Pt.cells, Pt.slots] at X7 l7 y7 z7 st7 hQ7
  subst l7 y7 z7
  obtain ⟨b7, k7, rfl, N7q, K7, gb7, Ex7, V7⟩ := hQ7
  have N7 := Fr.app N0 N7q
  obtain ⟨T8, h8, X8, e8, W8, st8⟩ := putF X7 hx hZ hown (host := "") (Or.inl (hw _ (List.mem_of_getElem? (i := 10) rfl))) Via.refl rfl (Fv.keep K7 (fun q => nomatch q)) (E1.keep K7) (Or.inl (hw _ (List.mem_of_getElem? (i := 11) rfl))) (hw _ (List.mem_of_getElem? (i := 1) rfl)) (ty := (.array .byte)) (by decide) rfl rfl (g := (mkF m 12 #[.val (.ref a1)] [(.ref b7), (.ref a1)])) rfl rfl (hb hby d7_12)
  have ne8 : b7 ≠ a1 := Nat.ne_of_gt (Nat.lt_of_lt_of_le E1.lt gb7)
  have N8 := Fr.snoc X8 N7 g1
  have Fs8 := (Fs.keep K7 (fun q => nomatch q)).other W8 (Or.inr (slot_ne (Or.inl (hw _ (List.mem_of_getElem? (i := 18) rfl))) (Or.inl (hw _ (List.mem_of_getElem? (i := 11) rfl))) (by decide) (t := .int) (t' := (.array .byte)) (by decide) (by decide)))
  have Fv8 := (Fv.keep K7 (fun q => nomatch q)).same W8
  obtain ⟨fs, hr, hrun, hended, hW, hsame⟩ := X8.leave (v := none) (fun _ => rfl)
  refine ⟨_, _, pre0 _ ?_, hrun, hended, _, _, rfl, ?_, ⟨_, rfl⟩, hW, hsame.mono (by decide) (by decide)⟩
  · show Steps p.tables e below (s₁.setTop (mkF m 0 #[.val (.ref a1)] [])) _
    refine XS.aloadN X0.here hx rfl (hb hby d7_0) rfl rfl ?_
    show Steps p.tables e below (s₁.setTop (mkF m 1 #[.val (.ref a1)] [(.ref a1)])) _
    refine XS.aloadN X0.here hx rfl (hb hby d7_1) rfl rfl ?_
    show Steps p.tables e below (s₁.setTop (mkF m 2 #[.val (.ref a1)] [(.ref a1), (.ref a1)])) _
    refine st1 _ ?_
    show Steps p.tables e below (T1.setTop (mkF m 5 #[.val (.ref a1)] [(.ref b), (.ref a1)])) _
    refine XS.aloadN X1.here hx rfl (hb hby d7_5) rfl rfl ?_
    show Steps p.tables e below (T1.setTop (mkF m 6 #[.val (.ref a1)] [(.ref a1), (.ref b), (.ref a1)])) _
    refine st2 _ ?_
    show Steps p.tables e below (T2.setTop (mkF m 9 #[.val (.ref a1)] [(.int (Int32.ofNat xs.length)), (.ref b), (.ref a1)])) _
    refine st7 _ ?_
    show Steps p.tables e below (T7.setTop (mkF m 12 #[.val (.ref a1)] [(.ref b7), (.ref a1)])) _
    refine st8 _ ?_
    show Steps p.tables e below (T8.setTop (mkF m 15 #[.val (.ref a1)] [])) _
    exact X8.returnOut hx Bd.returns (hb hby d7_15) hr
  · show Q7 Z a1 xs h0 n0 _ T8.heap _
    rw [e8]
    exact ⟨rfl, N8, Nat.le_trans Z0 (Nat.le_trans K7.1 (Keep.of_wr W8).1), b7, k7, xs.length, own_copy vs xs.length, (E1.keep K7).wr W8, Fv8, Fs8, V7.other W8 ne8, Ex7.wr W8, own_copy_len vs _, by omega, Nat.le_refl _, Nat.le_trans Z0 gb7, fun i hi => by rw [own_copy_at vs _ i (by omega) hi]; exact hat i hi⟩
theorem d8_0 : decode prog_95_method_3_code 0 = .ok (.aload_n 0, 1) := by decide +kernel
theorem d8_1 : decode prog_95_method_3_code 1 = .ok (.getfield 7, 3) := by decide +kernel
theorem d8_4 : decode prog_95_method_3_code 4 = .ok (.iload_n 1, 1) := by decide +kernel
theorem d8_5 : decode prog_95_method_3_code 5 = .ok (.baload, 1) := by decide +kernel
theorem d8_6 : decode prog_95_method_3_code 6 = .ok (.ireturn, 1) := by decide +kernel
theorem pn_8 : plainName "com/example/nodal_ledger/nodalledger/market/Columns$Bytes" = true := by first | (simp [plainName, overriddenIn]; done) | decide +kernel
theorem ef_8 (m : MethodId) (x0 : Addr) (x1 : Int32) : entryFrame m #[(.ref x0), (.int x1)] 2 = mkF m 0 #[.val (.ref x0), .val (.int x1)] [] := by first | (simp [entryFrame, mkF, argsToLocals, Value.category]; done) | rfl
def Q8 (Z : State) (j : Nat) (xs : List Int32) (h0 : Heap) (n0 : Nat) (v : Option Value) (h : Heap) (L : List Loc) : Prop := v = some (.int (nar .byte (xs.getD j 0))) ∧ Fr n0 L ∧ h = h0
set_option maxRecDepth 65536 in
set_option maxHeartbeats 40000000 in
theorem rm8 (l : Launch) (Z : State) (a0 : Array Value) (hw : ∀ d ∈ tables_1, d.before a0 Z = true) (ws : List Jvm.Cond) (a1 : Addr) (q : Int32) (j : Nat) (xs : List Int32) (h0 : Heap) (n0 : Nat) (Z0 : n0 ≤ h0.size) (C0 : Col Z n0 h0 a1 xs) (hq : q = Int32.ofNat j) (hj : j < xs.length) :
    MetFree l (⟨"com/example/nodal_ledger/nodalledger/market/Columns$Bytes", "get", "(I)B"⟩ : MethodName) (head1 (Jvm.Cond.code (⟨"com/example/nodal_ledger/nodalledger/market/Columns$Bytes", "get", "(I)B"⟩ : MethodName) prog_95_method_3_code 2 (some .byte) :: ws) ({ frames := 0, cells := 0, slots := 0, locals := 0 } : Room)) (fun a U => a = #[(.ref a1), (.int q)] ∧ Z.Warmed39 U.vm ∧ U.heap = h0) (fun _ _ _ _ _ => True) (fun _ U o U' => ∃ v L, o = .returned v ∧ Q8 Z j xs h0 n0 v U'.heap L ∧ FrameEnd U o U' L ({ frames := 0, cells := 0, slots := 0, locals := 0 } : Room).cells ({ frames := 0, cells := 0, slots := 0, locals := 0 } : Room).slots) := by
  refine MetFree.of_bodySF (plainFor_of_name pn_8) hisR ?_
  intro p e s m args below meth c s₁ Bd hml0 hP hK
  obtain ⟨rfl, hZ, hh⟩ := hP
  have hx := Bd.exec
  have hby := Bd.bytes
  have hml : c.maxLocals = 2 := hml0
  have hown : s.vm.findClass "com/example/nodal_ledger/nodalledger/market/Columns$Bytes" = some m.cls := findClass_of_methodNamed Bd.named
  have hnm := (name_of_methodNamed Bd.named Bd.method).1
  have X0 : Stand p l e ({ frames := 0, cells := 0, slots := 0, locals := 0 } : Room) s m #[(.ref a1), (.int q)] below meth c s₁ [] 0 0 := Stand.of_body Bd
  have e0 : s₁.heap = h0 := by rw [← hh, Bd.state]; rfl
  have N0 := Fr.nil n0
  have pre0 : ∀ t, Steps p.tables e below (s₁.setTop (mkF m 0 #[.val (.ref a1), .val (.int q)] [])) t → Steps p.tables e below (s₁.setTop (entryFrame m #[(.ref a1), (.int q)] 2)) t := fun t k => castTop (ef_8 m a1 q) k
  obtain ⟨b, k, N, vs, E1, Fv, Fs, V, Eb, hl, hN, hxs, gb, hat⟩ := C0
  obtain ⟨cz, Az, qz, Sz, Nz, Hz, Gz⟩ := V
  have hinz : ¬ (q < 0 ∨ cz.slots.size ≤ q.toNatClampNeg) := by
    rw [hq]
    exact inb_of Sz ⟨own_nn (by omega), own_lt (by omega) (by omega)⟩
  have hatz : cz.slots[q.toNatClampNeg]? = some (.int (xs.getD j 0)) := by
    rw [Hz _ (Nat.lt_of_not_le fun y => hinz (Or.inr y)), hq, own_n32 (by omega), hat j hj]
  obtain ⟨T1, X1, e1, st1⟩ := getF X0 hx hZ hown (host := "") (Or.inl (hw _ (List.mem_of_getElem? (i := 10) rfl))) Via.refl e0 Fv (g := (mkF m 1 #[.val (.ref a1), .val (.int q)] [(.ref a1)])) rfl rfl (hb hby d8_1)
  obtain ⟨fs, hr, hrun, hended, hW, hsame⟩ := X1.leave (v := some (.int (nar .byte (xs.getD j 0)))) (fun h => by rw [Bd.returns] at h; cases h)
  refine ⟨_, _, pre0 _ ?_, hrun, hended, _, _, rfl, ?_, ⟨_, rfl⟩, hW, hsame.mono (by decide) (by decide)⟩
  · show Steps p.tables e below (s₁.setTop (mkF m 0 #[.val (.ref a1), .val (.int q)] [])) _
    refine XS.aloadN X0.here hx rfl (hb hby d8_0) rfl rfl ?_
    show Steps p.tables e below (s₁.setTop (mkF m 1 #[.val (.ref a1), .val (.int q)] [(.ref a1)])) _
    refine st1 _ ?_
    show Steps p.tables e below (T1.setTop (mkF m 4 #[.val (.ref a1), .val (.int q)] [(.ref b)])) _
    refine XS.iloadN X1.here hx rfl (hb hby d8_4) rfl ?_
    show Steps p.tables e below (T1.setTop (mkF m 5 #[.val (.ref a1), .val (.int q)] [(.int q), (.ref b)])) _
    refine X1.baloadBytes hx (j := q) (v := (.int (xs.getD j 0))) (by rw [e1]; exact Az.1) (State.isArrayOf_alike hZ.alike Az.2.1) Az.2.2 hinz hatz (g := (mkF m 5 #[.val (.ref a1), .val (.int q)] [(.int q), (.ref b)])) rfl rfl (hb hby d8_5) _ ?_
    show Steps p.tables e below (T1.setTop (mkF m 6 #[.val (.ref a1), .val (.int q)] [(.int (xs.getD j 0))])) _
    exact retN X1 hx (t := .byte) Bd.returns (by simp) (hb hby d8_6) hr
  · show Q8 Z j xs h0 n0 _ T1.heap _
    rw [e1]
    exact ⟨rfl, N0, rfl⟩
theorem pd_V : parseMethodDescriptor "()V" = some ⟨[], none⟩ := by decide +kernel
theorem pd_add : parseMethodDescriptor "(B)V" = some ⟨[.byte], none⟩ := by decide +kernel
theorem pd_get : parseMethodDescriptor "(I)B" = some ⟨[.int], some .byte⟩ := by decide +kernel
theorem own_k (x : Int32) : (x &&& (3 : Int32)) = 0 ∨ (x &&& (3 : Int32)) = 1 ∨ (x &&& (3 : Int32)) = 2 ∨ (x &&& (3 : Int32)) = 3 := by
  have m1 := c_mask x (3 : Int32) 2 (by decide) (by decide)
  have p2 : ((2 ^ 2 : Nat) : Int) = 4 := by decide
  rw [p2] at m1
  generalize (x &&& (3 : Int32)) = y at *
  have h : y.toInt = 0 ∨ y.toInt = 1 ∨ y.toInt = 2 ∨ y.toInt = 3 := by omega
  rcases h with h | h | h | h
  · exact Or.inl (Int32.toInt_inj.mp h)
  · exact Or.inr (Or.inl (Int32.toInt_inj.mp h))
  · exact Or.inr (Or.inr (Or.inl (Int32.toInt_inj.mp h)))
  · exact Or.inr (Or.inr (Or.inr (Int32.toInt_inj.mp h)))
theorem own_g0 (p1 p2 p3 p4 p5 : Int32) (c : (0 : Int32) < (p5 &&& (3 : Int32))) : 0 < ((([] ++ (if (0 : Int32) < (p5 &&& (3 : Int32)) then [(nar .byte (p1.toInt8.toInt32))] else ([] : List Int32))) ++ (if (1 : Int32) < (p5 &&& (3 : Int32)) then [(nar .byte (p2.toInt8.toInt32))] else ([] : List Int32))) ++ (if (2 : Int32) < (p5 &&& (3 : Int32)) then [(nar .byte (p3.toInt8.toInt32))] else ([] : List Int32))).length ∧ ((([] ++ (if (0 : Int32) < (p5 &&& (3 : Int32)) then [(nar .byte (p1.toInt8.toInt32))] else ([] : List Int32))) ++ (if (1 : Int32) < (p5 &&& (3 : Int32)) then [(nar .byte (p2.toInt8.toInt32))] else ([] : List Int32))) ++ (if (2 : Int32) < (p5 &&& (3 : Int32)) then [(nar .byte (p3.toInt8.toInt32))] else ([] : List Int32))).getD 0 0 = (nar .byte (p1.toInt8.toInt32)) := by
  rcases own_k p5 with q | q | q | q <;> rw [q] at c ⊢ <;> first | exact absurd c (by decide) | exact ⟨by decide, rfl⟩ | exact ⟨Nat.le_of_ble_eq_true rfl, rfl⟩
theorem own_g1 (p1 p2 p3 p4 p5 : Int32) (c : (1 : Int32) < (p5 &&& (3 : Int32))) : 1 < ((([] ++ (if (0 : Int32) < (p5 &&& (3 : Int32)) then [(nar .byte (p1.toInt8.toInt32))] else ([] : List Int32))) ++ (if (1 : Int32) < (p5 &&& (3 : Int32)) then [(nar .byte (p2.toInt8.toInt32))] else ([] : List Int32))) ++ (if (2 : Int32) < (p5 &&& (3 : Int32)) then [(nar .byte (p3.toInt8.toInt32))] else ([] : List Int32))).length ∧ ((([] ++ (if (0 : Int32) < (p5 &&& (3 : Int32)) then [(nar .byte (p1.toInt8.toInt32))] else ([] : List Int32))) ++ (if (1 : Int32) < (p5 &&& (3 : Int32)) then [(nar .byte (p2.toInt8.toInt32))] else ([] : List Int32))) ++ (if (2 : Int32) < (p5 &&& (3 : Int32)) then [(nar .byte (p3.toInt8.toInt32))] else ([] : List Int32))).getD 1 0 = (nar .byte (p2.toInt8.toInt32)) := by
  rcases own_k p5 with q | q | q | q <;> rw [q] at c ⊢ <;> first | exact absurd c (by decide) | exact ⟨by decide, rfl⟩ | exact ⟨Nat.le_of_ble_eq_true rfl, rfl⟩
theorem own_g2 (p1 p2 p3 p4 p5 : Int32) (c : (2 : Int32) < (p5 &&& (3 : Int32))) : 2 < ((([] ++ (if (0 : Int32) < (p5 &&& (3 : Int32)) then [(nar .byte (p1.toInt8.toInt32))] else ([] : List Int32))) ++ (if (1 : Int32) < (p5 &&& (3 : Int32)) then [(nar .byte (p2.toInt8.toInt32))] else ([] : List Int32))) ++ (if (2 : Int32) < (p5 &&& (3 : Int32)) then [(nar .byte (p3.toInt8.toInt32))] else ([] : List Int32))).length ∧ ((([] ++ (if (0 : Int32) < (p5 &&& (3 : Int32)) then [(nar .byte (p1.toInt8.toInt32))] else ([] : List Int32))) ++ (if (1 : Int32) < (p5 &&& (3 : Int32)) then [(nar .byte (p2.toInt8.toInt32))] else ([] : List Int32))) ++ (if (2 : Int32) < (p5 &&& (3 : Int32)) then [(nar .byte (p3.toInt8.toInt32))] else ([] : List Int32))).getD 2 0 = (nar .byte (p3.toInt8.toInt32)) := by
  rcases own_k p5 with q | q | q | q <;> rw [q] at c ⊢ <;> first | exact absurd c (by decide) | exact ⟨by decide, rfl⟩ | exact ⟨Nat.le_of_ble_eq_true rfl, rfl⟩
theorem own_h0 (p1 p2 p3 p4 p5 : Int32) (c : (0 : Int32) < (p5 &&& (3 : Int32))) : 0 < (((([] ++ (if (0 : Int32) < (p5 &&& (3 : Int32)) then [(nar .byte (p1.toInt8.toInt32))] else ([] : List Int32))) ++ (if (1 : Int32) < (p5 &&& (3 : Int32)) then [(nar .byte (p2.toInt8.toInt32))] else ([] : List Int32))) ++ (if (2 : Int32) < (p5 &&& (3 : Int32)) then [(nar .byte (p3.toInt8.toInt32))] else ([] : List Int32))) ++ [(nar .byte (p4.toInt8.toInt32))]).length ∧ (((([] ++ (if (0 : Int32) < (p5 &&& (3 : Int32)) then [(nar .byte (p1.toInt8.toInt32))] else ([] : List Int32))) ++ (if (1 : Int32) < (p5 &&& (3 : Int32)) then [(nar .byte (p2.toInt8.toInt32))] else ([] : List Int32))) ++ (if (2 : Int32) < (p5 &&& (3 : Int32)) then [(nar .byte (p3.toInt8.toInt32))] else ([] : List Int32))) ++ [(nar .byte (p4.toInt8.toInt32))]).getD 0 0 = (nar .byte (p1.toInt8.toInt32)) := by
  rcases own_k p5 with q | q | q | q <;> rw [q] at c ⊢ <;> first | exact absurd c (by decide) | exact ⟨by decide, rfl⟩ | exact ⟨Nat.le_of_ble_eq_true rfl, rfl⟩
theorem own_h1 (p1 p2 p3 p4 p5 : Int32) (c : (1 : Int32) < (p5 &&& (3 : Int32))) : 1 < (((([] ++ (if (0 : Int32) < (p5 &&& (3 : Int32)) then [(nar .byte (p1.toInt8.toInt32))] else ([] : List Int32))) ++ (if (1 : Int32) < (p5 &&& (3 : Int32)) then [(nar .byte (p2.toInt8.toInt32))] else ([] : List Int32))) ++ (if (2 : Int32) < (p5 &&& (3 : Int32)) then [(nar .byte (p3.toInt8.toInt32))] else ([] : List Int32))) ++ [(nar .byte (p4.toInt8.toInt32))]).length ∧ (((([] ++ (if (0 : Int32) < (p5 &&& (3 : Int32)) then [(nar .byte (p1.toInt8.toInt32))] else ([] : List Int32))) ++ (if (1 : Int32) < (p5 &&& (3 : Int32)) then [(nar .byte (p2.toInt8.toInt32))] else ([] : List Int32))) ++ (if (2 : Int32) < (p5 &&& (3 : Int32)) then [(nar .byte (p3.toInt8.toInt32))] else ([] : List Int32))) ++ [(nar .byte (p4.toInt8.toInt32))]).getD 1 0 = (nar .byte (p2.toInt8.toInt32)) := by
  rcases own_k p5 with q | q | q | q <;> rw [q] at c ⊢ <;> first | exact absurd c (by decide) | exact ⟨by decide, rfl⟩ | exact ⟨Nat.le_of_ble_eq_true rfl, rfl⟩
theorem own_h2 (p1 p2 p3 p4 p5 : Int32) (c : (2 : Int32) < (p5 &&& (3 : Int32))) : 2 < (((([] ++ (if (0 : Int32) < (p5 &&& (3 : Int32)) then [(nar .byte (p1.toInt8.toInt32))] else ([] : List Int32))) ++ (if (1 : Int32) < (p5 &&& (3 : Int32)) then [(nar .byte (p2.toInt8.toInt32))] else ([] : List Int32))) ++ (if (2 : Int32) < (p5 &&& (3 : Int32)) then [(nar .byte (p3.toInt8.toInt32))] else ([] : List Int32))) ++ [(nar .byte (p4.toInt8.toInt32))]).length ∧ (((([] ++ (if (0 : Int32) < (p5 &&& (3 : Int32)) then [(nar .byte (p1.toInt8.toInt32))] else ([] : List Int32))) ++ (if (1 : Int32) < (p5 &&& (3 : Int32)) then [(nar .byte (p2.toInt8.toInt32))] else ([] : List Int32))) ++ (if (2 : Int32) < (p5 &&& (3 : Int32)) then [(nar .byte (p3.toInt8.toInt32))] else ([] : List Int32))) ++ [(nar .byte (p4.toInt8.toInt32))]).getD 2 0 = (nar .byte (p3.toInt8.toInt32)) := by
  rcases own_k p5 with q | q | q | q <;> rw [q] at c ⊢ <;> first | exact absurd c (by decide) | exact ⟨by decide, rfl⟩ | exact ⟨Nat.le_of_ble_eq_true rfl, rfl⟩
theorem own_nar2 (x : Int32) : nar .byte (nar .byte (x.toInt8.toInt32)) = (x.toInt8.toInt32) := by
  show x.toInt8.toInt32.toInt8.toInt32.toInt8.toInt32 = _
  simp
theorem own_gk (p1 p2 p3 p4 p5 : Int32) : (p5 &&& (3 : Int32)) = Int32.ofNat ((([] ++ (if (0 : Int32) < (p5 &&& (3 : Int32)) then [(nar .byte (p1.toInt8.toInt32))] else ([] : List Int32))) ++ (if (1 : Int32) < (p5 &&& (3 : Int32)) then [(nar .byte (p2.toInt8.toInt32))] else ([] : List Int32))) ++ (if (2 : Int32) < (p5 &&& (3 : Int32)) then [(nar .byte (p3.toInt8.toInt32))] else ([] : List Int32))).length ∧ ((([] ++ (if (0 : Int32) < (p5 &&& (3 : Int32)) then [(nar .byte (p1.toInt8.toInt32))] else ([] : List Int32))) ++ (if (1 : Int32) < (p5 &&& (3 : Int32)) then [(nar .byte (p2.toInt8.toInt32))] else ([] : List Int32))) ++ (if (2 : Int32) < (p5 &&& (3 : Int32)) then [(nar .byte (p3.toInt8.toInt32))] else ([] : List Int32))).length < (((([] ++ (if (0 : Int32) < (p5 &&& (3 : Int32)) then [(nar .byte (p1.toInt8.toInt32))] else ([] : List Int32))) ++ (if (1 : Int32) < (p5 &&& (3 : Int32)) then [(nar .byte (p2.toInt8.toInt32))] else ([] : List Int32))) ++ (if (2 : Int32) < (p5 &&& (3 : Int32)) then [(nar .byte (p3.toInt8.toInt32))] else ([] : List Int32))) ++ [(nar .byte (p4.toInt8.toInt32))]).length ∧ (((([] ++ (if (0 : Int32) < (p5 &&& (3 : Int32)) then [(nar .byte (p1.toInt8.toInt32))] else ([] : List Int32))) ++ (if (1 : Int32) < (p5 &&& (3 : Int32)) then [(nar .byte (p2.toInt8.toInt32))] else ([] : List Int32))) ++ (if (2 : Int32) < (p5 &&& (3 : Int32)) then [(nar .byte (p3.toInt8.toInt32))] else ([] : List Int32))) ++ [(nar .byte (p4.toInt8.toInt32))]).getD ((([] ++ (if (0 : Int32) < (p5 &&& (3 : Int32)) then [(nar .byte (p1.toInt8.toInt32))] else ([] : List Int32))) ++ (if (1 : Int32) < (p5 &&& (3 : Int32)) then [(nar .byte (p2.toInt8.toInt32))] else ([] : List Int32))) ++ (if (2 : Int32) < (p5 &&& (3 : Int32)) then [(nar .byte (p3.toInt8.toInt32))] else ([] : List Int32))).length 0 = (nar .byte (p4.toInt8.toInt32)) := by
  refine ⟨?_, by rw [List.length_append (bs := [(nar .byte (p4.toInt8.toInt32))])]; exact Nat.lt_succ_self _, own_app_hit _ _⟩
  rcases own_k p5 with q | q | q | q <;> rw [q] <;> rfl
theorem pn_0 : plainName "com/example/nodal_ledger/nodalledger/market/BytesTrimPinLaw" = true := by first | (simp [plainName, overriddenIn]; done) | decide +kernel
theorem ef_0 (m : MethodId) (x0 : Int32) (x1 : Int32) (x2 : Int32) (x3 : Int32) (x4 : Int32) : entryFrame m #[(.int x0), (.int x1), (.int x2), (.int x3), (.int x4)] maxLocals = mkF m 0 #[.val (.int x0), .val (.int x1), .val (.int x2), .val (.int x3), .val (.int x4), .unset, .unset, .unset, .unset, .unset, .unset, .unset, .unset] [] := by first | (simp [entryFrame, mkF, argsToLocals, Value.category, maxLocals]; done) | rfl
def Q0 (Z : State) (p1 : Int32) (p2 : Int32) (p3 : Int32) (p4 : Int32) (p5 : Int32) (h0 : Heap) (n0 : Nat) (v : Option Value) (h : Heap) (L : List Loc) : Prop := v = some (.int (1 : Int32)) ∧ Fr n0 L
set_option maxRecDepth 65536 in
set_option maxHeartbeats 40000000 in
theorem rm0 (l : Launch) (Z : State) (a0 : Array Value) (hw : ∀ d ∈ tables_1, d.before a0 Z = true) (ws : List Jvm.Cond) (p1 : Int32) (p2 : Int32) (p3 : Int32) (p4 : Int32) (p5 : Int32) (h0 : Heap) (n0 : Nat) (Z0 : n0 ≤ h0.size)  :
    MetFree l x (head1 (Jvm.Cond.code x code maxLocals ret :: ws) room_1) (fun a U => a = #[(.int p1), (.int p2), (.int p3), (.int p4), (.int p5)] ∧ Z.Warmed39 U.vm ∧ U.heap = h0) (fun _ _ _ _ _ => True) (fun _ U o U' => ∃ v L, o = .returned v ∧ Q0 Z p1 p2 p3 p4 p5 h0 n0 v U'.heap L ∧ FrameEnd U o U' L room_1.cells room_1.slots) := by
  refine MetFree.of_bodySF (plainFor_of_name pn_0) hisR ?_
  intro p e s m args below meth c s₁ Bd hml0 hP hK
  obtain ⟨rfl, hZ, hh⟩ := hP
  have hx := Bd.exec
  have hby := Bd.bytes
  have hml : c.maxLocals = 13 := hml0
  have hown : s.vm.findClass "com/example/nodal_ledger/nodalledger/market/BytesTrimPinLaw" = some m.cls := findClass_of_methodNamed Bd.named
  have hnm := (name_of_methodNamed Bd.named Bd.method).1
  have X0 : Stand p l e room_1 s m #[(.int p1), (.int p2), (.int p3), (.int p4), (.int p5)] below meth c s₁ [] 0 0 := Stand.of_body Bd
  have e0 : s₁.heap = h0 := by rw [← hh, Bd.state]; rfl
  have N0 := Fr.nil n0
  have pre0 : ∀ t, Steps p.tables e below (s₁.setTop (mkF m 0 #[.val (.int p1), .val (.int p2), .val (.int p3), .val (.int p4), .val (.int p5), .unset, .unset, .unset, .unset, .unset, .unset, .unset, .unset] [])) t → Steps p.tables e below (s₁.setTop (entryFrame m #[(.int p1), (.int p2), (.int p3), (.int p4), (.int p5)] maxLocals)) t := fun t k => castTop (ef_0 m p1 p2 p3 p4 p5) k
  obtain ⟨tw, stt⟩ : ∃ tw : Int32, ∀ target, Steps p.tables e below (s₁.setTop (mkF m 20 #[.val (.int p1), .val (.int p2), .val (.int p3), .val (.int p4), .val (.int p5), .val (.int (p5 &&& (3 : Int32))), .unset, .unset, .unset, .unset, .unset, .unset, .unset] [(.int tw)])) target → Steps p.tables e below (s₁.setTop (mkF m 12 #[.val (.int p1), .val (.int p2), .val (.int p3), .val (.int p4), .val (.int p5), .val (.int (p5 &&& (3 : Int32))), .unset, .unset, .unset, .unset, .unset, .unset, .unset] [(.int ((p5 >>> ((2 : Int32) &&& 31)) &&& (1 : Int32)))])) target := by
    by_cases c0 : ((p5 >>> ((2 : Int32) &&& 31)) &&& (1 : Int32)) = (0 : Int32)
    · refine ⟨(0 : Int32), fun target kt => ?_⟩
      show Steps p.tables e below (s₁.setTop (mkF m 12 #[.val (.int p1), .val (.int p2), .val (.int p3), .val (.int p4), .val (.int p5), .val (.int (p5 &&& (3 : Int32))), .unset, .unset, .unset, .unset, .unset, .unset, .unset] [(.int ((p5 >>> ((2 : Int32) &&& 31)) &&& (1 : Int32)))])) _
      refine XS.ifYes X0.here hx rfl (pc0 := 12) (pc' := 19) rfl (hb hby at_12) rfl ((if0 _ _).trans (teq c0).1) (by decide) (by decide) ?_
      show Steps p.tables e below (s₁.setTop (mkF m 19 #[.val (.int p1), .val (.int p2), .val (.int p3), .val (.int p4), .val (.int p5), .val (.int (p5 &&& (3 : Int32))), .unset, .unset, .unset, .unset, .unset, .unset, .unset] [])) _
      refine XS.iconst X0.here hx rfl (hb hby at_19) ?_
      exact kt
    · refine ⟨(1 : Int32), fun target kt => ?_⟩
      show Steps p.tables e below (s₁.setTop (mkF m 12 #[.val (.int p1), .val (.int p2), .val (.int p3), .val (.int p4), .val (.int p5), .val (.int (p5 &&& (3 : Int32))), .unset, .unset, .unset, .unset, .unset, .unset, .unset] [(.int ((p5 >>> ((2 : Int32) &&& 31)) &&& (1 : Int32)))])) _
      refine XS.ifNo X0.here hx rfl (hb hby at_12) rfl ((if0 _ _).trans (feq c0).1) ?_
      show Steps p.tables e below (s₁.setTop (mkF m 15 #[.val (.int p1), .val (.int p2), .val (.int p3), .val (.int p4), .val (.int p5), .val (.int (p5 &&& (3 : Int32))), .unset, .unset, .unset, .unset, .unset, .unset, .unset] [])) _
      refine XS.iconst X0.here hx rfl (hb hby at_15) ?_
      show Steps p.tables e below (s₁.setTop (mkF m 16 #[.val (.int p1), .val (.int p2), .val (.int p3), .val (.int p4), .val (.int p5), .val (.int (p5 &&& (3 : Int32))), .unset, .unset, .unset, .unset, .unset, .unset, .unset] [(.int (1 : Int32))])) _
      refine XS.goto X0.here hx rfl (pc0 := 16) (pc' := 20) rfl (hb hby at_16) (by decide) (by decide) ?_
      exact kt
  obtain ⟨T3, h3, X3, e3, E3, A3, D3, -, st3⟩ := newO X0 hx hZ hown (hw _ (List.mem_of_getElem? (i := 0) rfl)) (hw _ (List.mem_of_getElem? (i := 1) rfl)) (hw _ (List.mem_of_getElem? (i := 2) rfl)) e0 (g := (mkF m 38 #[.val (.int p1), .val (.int p2), .val (.int p3), .val (.int p4), .val (.int p5), .val (.int (p5 &&& (3 : Int32))), .val (.int tw), .val (.int (p1.toInt8.toInt32)), .val (.int (p2.toInt8.toInt32)), .val (.int (p3.toInt8.toInt32)), .val (.int (p4.toInt8.toInt32)), .unset, .unset] [])) rfl (hb hby at_38) (by decide) (by decide)
  obtain ⟨b3, g3⟩ : ∃ z, z = h0.size := ⟨_, rfl⟩
  rw [← g3] at A3 D3 st3
  have F_values_b3 : Fld Z h3 b3 "com/example/nodal_ledger/nodalledger/market/Columns$Bytes" "values" "[B" .null := D3 (Or.inl (hw _ (List.mem_of_getElem? (i := 11) rfl))) (ty := (.array .byte)) (by decide)
  have F_size_b3 : Fld Z h3 b3 "com/example/nodal_ledger/nodalledger/market/Columns$Bytes" "size" "I" (.int (0 : Int32)) := D3 (Or.inl (hw _ (List.mem_of_getElem? (i := 18) rfl))) (ty := .int) (by decide)
  have g_b3 : n0 ≤ b3 := Nat.le_trans Z0 (Nat.le_of_eq g3.symm)
  have sz_b3 : h0.size ≤ b3 := (Nat.le_trans (Keep.refl h0 []).1 (Nat.le_of_eq g3.symm))
  have K3 : Keep h0 h3 [] := (Keep.refl h0 []).ext E3
  have Z3 : n0 ≤ h3.size := Nat.le_trans Z0 E3.1
  obtain ⟨_, _, ⟨T4, L4, k4, n4⟩, -, X4, ⟨Lc4, hQ4, l4, y4, z4⟩, st4⟩ := X3.specialBack hx (y := (⟨"com/example/nodal_ledger/nodalledger/market/Columns$Bytes", "<init>", "()V"⟩ : MethodName)) rfl hown (mvT hZ (hw _ (List.mem_of_getElem? (i := 3) rfl))) (mvT hZ (hw _ (List.mem_of_getElem? (i := 4) rfl))) (mvT hZ (hw _ (List.mem_of_getElem? (i := 5) rfl))) (by decide) (backOf (W := 1) (rm5 l Z a0 hw [] b3 h3 n0 Z3 A3 F_values_b3 F_size_b3 g_b3) hZ (hw _ (List.mem_of_getElem? (i := 5) rfl)) (hw _ (List.mem_of_getElem? (i := 2) rfl)) (by decide) (by decide)) (g := (mkF m 42 #[.val (.int p1), .val (.int p2), .val (.int p3), .val (.int p4), .val (.int p5), .val (.int (p5 &&& (3 : Int32))), .val (.int tw), .val (.int (p1.toInt8.toInt32)), .val (.int (p2.toInt8.toInt32)), .val (.int (p3.toInt8.toInt32)), .val (.int (p4.toInt8.toInt32)), .unset, .unset] [(.ref b3), (.ref b3)])) rfl (by rw [hml]; rfl) (Steps.refl _) (a := b3) (argsL := []) (rest := [(.ref b3)]) (lenOf pd_V rfl) rfl (by show 2 * 0 + _ ≤ _; exact Nat.le_of_eq rfl) (hb hby at_42) (fun _ _ => ⟨rfl, e3, (by decide : 1 + 1 ≤ _), (by decide : 2 + 0 ≤ _)⟩)
  dsimp only [Pt.U, Pt.locs, Pt.cells, Pt.slots] at X4 l4 y4 z4 st4 hQ4
  subst l4 y4 z4
  obtain ⟨rfl, N4q, Z4, C4⟩ := hQ4
  have N4 := Fr.app N0 N4q
  obtain ⟨T10, L10, X10, N10, Z10, C10, st10⟩ : ∃ (T' : State) (L' : List Loc), Stand p l e room_1 s m #[(.int p1), (.int p2), (.int p3), (.int p4), (.int p5)] below meth c T' L' 3 18 ∧ Fr n0 L' ∧ n0 ≤ T'.heap.size ∧ Col Z n0 T'.heap b3 ([] ++ (if (0 : Int32) < (p5 &&& (3 : Int32)) then [(nar .byte (p1.toInt8.toInt32))] else ([] : List Int32))) ∧ ∀ target, Steps p.tables e below (T'.setTop (mkF m 59 #[.val (.int p1), .val (.int p2), .val (.int p3), .val (.int p4), .val (.int p5), .val (.int (p5 &&& (3 : Int32))), .val (.int tw), .val (.int (p1.toInt8.toInt32)), .val (.int (p2.toInt8.toInt32)), .val (.int (p3.toInt8.toInt32)), .val (.int (p4.toInt8.toInt32)), .val (.ref b3), .unset] [])) target → Steps p.tables e below (T4.setTop (mkF m 49 #[.val (.int p1), .val (.int p2), .val (.int p3), .val (.int p4), .val (.int p5), .val (.int (p5 &&& (3 : Int32))), .val (.int tw), .val (.int (p1.toInt8.toInt32)), .val (.int (p2.toInt8.toInt32)), .val (.int (p3.toInt8.toInt32)), .val (.int (p4.toInt8.toInt32)), .val (.ref b3), .unset] [(.int (p5 &&& (3 : Int32)))])) target := by
    by_cases c : (0 : Int32) < (p5 &&& (3 : Int32))
    · obtain ⟨bq10c, kq10c', Nq10c, vq10c, EQ10c, -⟩ := id C4
      obtain ⟨cq10c, kq10c, q10ca, q10cb, q10cc⟩ := isOf hZ rfl EQ10c
      obtain ⟨_, _, ⟨T10c, L10c, k10c, n10c⟩, -, X10c, ⟨Lc10c, hQ10c, l10c, y10c, z10c⟩, st10c⟩ := X4.virtualBack hx (y := (⟨"com/example/nodal_ledger/nodalledger/market/Columns$Bytes", "add", "(B)V"⟩ : MethodName)) (z := (⟨"com/example/nodal_ledger/nodalledger/market/Columns$Bytes", "add", "(B)V"⟩ : MethodName)) hown (mvT hZ (hw _ (List.mem_of_getElem? (i := 32) rfl))) (mvT hZ (hw _ (List.mem_of_getElem? (i := 33) rfl))) (notFace_of_selects (args := #[]) (mvT hZ (hw _ (List.mem_of_getElem? (i := 35) rfl)))) (mvT hZ (hw _ (List.mem_of_getElem? (i := 35) rfl))) (mvT hZ (hw _ (List.mem_of_getElem? (i := 34) rfl))) (by decide) (backOf (W := 0) (rm6 l Z a0 hw [] b3 (p1.toInt8.toInt32) [] T4.heap n0 Z4 C4 (Nat.le_trans (by decide : ([] : List Int32).length ≤ 0) (by decide)) g_b3) hZ (hw _ (List.mem_of_getElem? (i := 36) rfl)) (hw _ (List.mem_of_getElem? (i := 2) rfl)) (by decide) (by decide)) q10ca q10cc (g := (mkF m 56 #[.val (.int p1), .val (.int p2), .val (.int p3), .val (.int p4), .val (.int p5), .val (.int (p5 &&& (3 : Int32))), .val (.int tw), .val (.int (p1.toInt8.toInt32)), .val (.int (p2.toInt8.toInt32)), .val (.int (p3.toInt8.toInt32)), .val (.int (p4.toInt8.toInt32)), .val (.ref b3), .unset] [(.int (p1.toInt8.toInt32)), (.ref b3)])) rfl (by rw [hml]; rfl) (Steps.refl _) (argsL := [(.int (p1.toInt8.toInt32))]) (rest := []) (lenOf pd_add rfl) rfl (by show 2 * 0 + _ ≤ _; exact Nat.le_of_eq rfl) (hb hby at_56) (fun _ _ => ⟨rfl, rfl, (by decide : 2 + 1 ≤ _), (by decide : 2 + 16 ≤ _)⟩)
      dsimp only [Pt.U, Pt.locs, Pt.cells, Pt.slots] at X10c l10c y10c z10c st10c hQ10c
      subst l10c y10c z10c
      obtain ⟨rfl, N10cq, Z10c, C10c⟩ := hQ10c
      refine ⟨T10c, _, X10c, Fr.app N4 N10cq, Z10c, by rw [if_pos c]; exact C10c, fun target kt => ?_⟩
      show Steps p.tables e below (T4.setTop (mkF m 49 #[.val (.int p1), .val (.int p2), .val (.int p3), .val (.int p4), .val (.int p5), .val (.int (p5 &&& (3 : Int32))), .val (.int tw), .val (.int (p1.toInt8.toInt32)), .val (.int (p2.toInt8.toInt32)), .val (.int (p3.toInt8.toInt32)), .val (.int (p4.toInt8.toInt32)), .val (.ref b3), .unset] [(.int (p5 &&& (3 : Int32)))])) _
      refine XS.ifNo X4.here hx rfl (hb hby at_49) rfl ((if0 _ _).trans (tlt c).2.2.2) ?_
      show Steps p.tables e below (T4.setTop (mkF m 52 #[.val (.int p1), .val (.int p2), .val (.int p3), .val (.int p4), .val (.int p5), .val (.int (p5 &&& (3 : Int32))), .val (.int tw), .val (.int (p1.toInt8.toInt32)), .val (.int (p2.toInt8.toInt32)), .val (.int (p3.toInt8.toInt32)), .val (.int (p4.toInt8.toInt32)), .val (.ref b3), .unset] [])) _
      refine XS.aload X4.here hx rfl (hb hby at_52) rfl rfl ?_
      show Steps p.tables e below (T4.setTop (mkF m 54 #[.val (.int p1), .val (.int p2), .val (.int p3), .val (.int p4), .val (.int p5), .val (.int (p5 &&& (3 : Int32))), .val (.int tw), .val (.int (p1.toInt8.toInt32)), .val (.int (p2.toInt8.toInt32)), .val (.int (p3.toInt8.toInt32)), .val (.int (p4.toInt8.toInt32)), .val (.ref b3), .unset] [(.ref b3)])) _
      refine XS.iload X4.here hx rfl (hb hby at_54) rfl ?_
      show Steps p.tables e below (T4.setTop (mkF m 56 #[.val (.int p1), .val (.int p2), .val (.int p3), .val (.int p4), .val (.int p5), .val (.int (p5 &&& (3 : Int32))), .val (.int tw), .val (.int (p1.toInt8.toInt32)), .val (.int (p2.toInt8.toInt32)), .val (.int (p3.toInt8.toInt32)), .val (.int (p4.toInt8.toInt32)), .val (.ref b3), .unset] [(.int (p1.toInt8.toInt32)), (.ref b3)])) _
      refine st10c.trans ?_
      exact kt
    · refine ⟨T4, _, X4.more (by decide) (by decide), N4, Z4, by rw [if_neg c, List.append_nil]; exact C4, fun target kt => ?_⟩
      show Steps p.tables e below (T4.setTop (mkF m 49 #[.val (.int p1), .val (.int p2), .val (.int p3), .val (.int p4), .val (.int p5), .val (.int (p5 &&& (3 : Int32))), .val (.int tw), .val (.int (p1.toInt8.toInt32)), .val (.int (p2.toInt8.toInt32)), .val (.int (p3.toInt8.toInt32)), .val (.int (p4.toInt8.toInt32)), .val (.ref b3), .unset] [(.int (p5 &&& (3 : Int32)))])) _
      refine XS.ifYes X4.here hx rfl (pc0 := 49) (pc' := 59) rfl (hb hby at_49) rfl ((if0 _ _).trans (flt c).2.2.2) (by decide) (by decide) ?_
      exact kt
  have hl10 : ([] ++ (if (0 : Int32) < (p5 &&& (3 : Int32)) then [(nar .byte (p1.toInt8.toInt32))] else ([] : List Int32))).length ≤ 1 := by
    have q := (by decide : ([] : List Int32).length ≤ 0)
    rw [List.length_append]
    have q2 : (if (0 : Int32) < (p5 &&& (3 : Int32)) then [(nar .byte (p1.toInt8.toInt32))] else ([] : List Int32)).length ≤ 1 := by split <;> simp
    omega
  obtain ⟨T11, L11, X11, N11, Z11, C11, st11⟩ : ∃ (T' : State) (L' : List Loc), Stand p l e room_1 s m #[(.int p1), (.int p2), (.int p3), (.int p4), (.int p5)] below meth c T' L' 4 34 ∧ Fr n0 L' ∧ n0 ≤ T'.heap.size ∧ Col Z n0 T'.heap b3 (([] ++ (if (0 : Int32) < (p5 &&& (3 : Int32)) then [(nar .byte (p1.toInt8.toInt32))] else ([] : List Int32))) ++ (if (1 : Int32) < (p5 &&& (3 : Int32)) then [(nar .byte (p2.toInt8.toInt32))] else ([] : List Int32))) ∧ ∀ target, Steps p.tables e below (T'.setTop (mkF m 72 #[.val (.int p1), .val (.int p2), .val (.int p3), .val (.int p4), .val (.int p5), .val (.int (p5 &&& (3 : Int32))), .val (.int tw), .val (.int (p1.toInt8.toInt32)), .val (.int (p2.toInt8.toInt32)), .val (.int (p3.toInt8.toInt32)), .val (.int (p4.toInt8.toInt32)), .val (.ref b3), .unset] [])) target → Steps p.tables e below (T10.setTop (mkF m 62 #[.val (.int p1), .val (.int p2), .val (.int p3), .val (.int p4), .val (.int p5), .val (.int (p5 &&& (3 : Int32))), .val (.int tw), .val (.int (p1.toInt8.toInt32)), .val (.int (p2.toInt8.toInt32)), .val (.int (p3.toInt8.toInt32)), .val (.int (p4.toInt8.toInt32)), .val (.ref b3), .unset] [(.int (1 : Int32)), (.int (p5 &&& (3 : Int32)))])) target := by
    by_cases c : (1 : Int32) < (p5 &&& (3 : Int32))
    · obtain ⟨bq11c, kq11c', Nq11c, vq11c, EQ11c, -⟩ := id C10
      obtain ⟨cq11c, kq11c, q11ca, q11cb, q11cc⟩ := isOf hZ rfl EQ11c
      obtain ⟨_, _, ⟨T11c, L11c, k11c, n11c⟩, -, X11c, ⟨Lc11c, hQ11c, l11c, y11c, z11c⟩, st11c⟩ := X10.virtualBack hx (y := (⟨"com/example/nodal_ledger/nodalledger/market/Columns$Bytes", "add", "(B)V"⟩ : MethodName)) (z := (⟨"com/example/nodal_ledger/nodalledger/market/Columns$Bytes", "add", "(B)V"⟩ : MethodName)) hown (mvT hZ (hw _ (List.mem_of_getElem? (i := 32) rfl))) (mvT hZ (hw _ (List.mem_of_getElem? (i := 33) rfl))) (notFace_of_selects (args := #[]) (mvT hZ (hw _ (List.mem_of_getElem? (i := 35) rfl)))) (mvT hZ (hw _ (List.mem_of_getElem? (i := 35) rfl))) (mvT hZ (hw _ (List.mem_of_getElem? (i := 34) rfl))) (by decide) (backOf (W := 0) (rm6 l Z a0 hw [] b3 (p2.toInt8.toInt32) ([] ++ (if (0 : Int32) < (p5 &&& (3 : Int32)) then [(nar .byte (p1.toInt8.toInt32))] else ([] : List Int32))) T10.heap n0 Z10 C10 (Nat.le_trans hl10 (by decide)) g_b3) hZ (hw _ (List.mem_of_getElem? (i := 36) rfl)) (hw _ (List.mem_of_getElem? (i := 2) rfl)) (by decide) (by decide)) q11ca q11cc (g := (mkF m 69 #[.val (.int p1), .val (.int p2), .val (.int p3), .val (.int p4), .val (.int p5), .val (.int (p5 &&& (3 : Int32))), .val (.int tw), .val (.int (p1.toInt8.toInt32)), .val (.int (p2.toInt8.toInt32)), .val (.int (p3.toInt8.toInt32)), .val (.int (p4.toInt8.toInt32)), .val (.ref b3), .unset] [(.int (p2.toInt8.toInt32)), (.ref b3)])) rfl (by rw [hml]; rfl) (Steps.refl _) (argsL := [(.int (p2.toInt8.toInt32))]) (rest := []) (lenOf pd_add rfl) rfl (by show 2 * 0 + _ ≤ _; exact Nat.le_of_eq rfl) (hb hby at_69) (fun _ _ => ⟨rfl, rfl, (by decide : 3 + 1 ≤ _), (by decide : 18 + 16 ≤ _)⟩)
      dsimp only [Pt.U, Pt.locs, Pt.cells, Pt.slots] at X11c l11c y11c z11c st11c hQ11c
      subst l11c y11c z11c
      obtain ⟨rfl, N11cq, Z11c, C11c⟩ := hQ11c
      refine ⟨T11c, _, X11c, Fr.app N10 N11cq, Z11c, by rw [if_pos c]; exact C11c, fun target kt => ?_⟩
      show Steps p.tables e below (T10.setTop (mkF m 62 #[.val (.int p1), .val (.int p2), .val (.int p3), .val (.int p4), .val (.int p5), .val (.int (p5 &&& (3 : Int32))), .val (.int tw), .val (.int (p1.toInt8.toInt32)), .val (.int (p2.toInt8.toInt32)), .val (.int (p3.toInt8.toInt32)), .val (.int (p4.toInt8.toInt32)), .val (.ref b3), .unset] [(.int (1 : Int32)), (.int (p5 &&& (3 : Int32)))])) _
      refine XS.icmpNo X10.here hx rfl (hb hby at_62) rfl (tlt c).2.2.2 ?_
      show Steps p.tables e below (T10.setTop (mkF m 65 #[.val (.int p1), .val (.int p2), .val (.int p3), .val (.int p4), .val (.int p5), .val (.int (p5 &&& (3 : Int32))), .val (.int tw), .val (.int (p1.toInt8.toInt32)), .val (.int (p2.toInt8.toInt32)), .val (.int (p3.toInt8.toInt32)), .val (.int (p4.toInt8.toInt32)), .val (.ref b3), .unset] [])) _
      refine XS.aload X10.here hx rfl (hb hby at_65) rfl rfl ?_
      show Steps p.tables e below (T10.setTop (mkF m 67 #[.val (.int p1), .val (.int p2), .val (.int p3), .val (.int p4), .val (.int p5), .val (.int (p5 &&& (3 : Int32))), .val (.int tw), .val (.int (p1.toInt8.toInt32)), .val (.int (p2.toInt8.toInt32)), .val (.int (p3.toInt8.toInt32)), .val (.int (p4.toInt8.toInt32)), .val (.ref b3), .unset] [(.ref b3)])) _
      refine XS.iload X10.here hx rfl (hb hby at_67) rfl ?_
      show Steps p.tables e below (T10.setTop (mkF m 69 #[.val (.int p1), .val (.int p2), .val (.int p3), .val (.int p4), .val (.int p5), .val (.int (p5 &&& (3 : Int32))), .val (.int tw), .val (.int (p1.toInt8.toInt32)), .val (.int (p2.toInt8.toInt32)), .val (.int (p3.toInt8.toInt32)), .val (.int (p4.toInt8.toInt32)), .val (.ref b3), .unset] [(.int (p2.toInt8.toInt32)), (.ref b3)])) _
      refine st11c.trans ?_
      exact kt
    · refine ⟨T10, _, X10.more (by decide) (by decide), N10, Z10, by rw [if_neg c, List.append_nil]; exact C10, fun target kt => ?_⟩
      show Steps p.tables e below (T10.setTop (mkF m 62 #[.val (.int p1), .val (.int p2), .val (.int p3), .val (.int p4), .val (.int p5), .val (.int (p5 &&& (3 : Int32))), .val (.int tw), .val (.int (p1.toInt8.toInt32)), .val (.int (p2.toInt8.toInt32)), .val (.int (p3.toInt8.toInt32)), .val (.int (p4.toInt8.toInt32)), .val (.ref b3), .unset] [(.int (1 : Int32)), (.int (p5 &&& (3 : Int32)))])) _
      refine XS.icmpYes X10.here hx rfl (pc0 := 62) (pc' := 72) rfl (hb hby at_62) rfl (flt c).2.2.2 (by decide) (by decide) ?_
      exact kt
  have hl11 : (([] ++ (if (0 : Int32) < (p5 &&& (3 : Int32)) then [(nar .byte (p1.toInt8.toInt32))] else ([] : List Int32))) ++ (if (1 : Int32) < (p5 &&& (3 : Int32)) then [(nar .byte (p2.toInt8.toInt32))] else ([] : List Int32))).length ≤ 2 := by
    have q := hl10
    rw [List.length_append]
    have q2 : (if (1 : Int32) < (p5 &&& (3 : Int32)) then [(nar .byte (p2.toInt8.toInt32))] else ([] : List Int32)).length ≤ 1 := by split <;> simp
    omega
  obtain ⟨T12, L12, X12, N12, Z12, C12, st12⟩ : ∃ (T' : State) (L' : List Loc), Stand p l e room_1 s m #[(.int p1), (.int p2), (.int p3), (.int p4), (.int p5)] below meth c T' L' 5 50 ∧ Fr n0 L' ∧ n0 ≤ T'.heap.size ∧ Col Z n0 T'.heap b3 ((([] ++ (if (0 : Int32) < (p5 &&& (3 : Int32)) then [(nar .byte (p1.toInt8.toInt32))] else ([] : List Int32))) ++ (if (1 : Int32) < (p5 &&& (3 : Int32)) then [(nar .byte (p2.toInt8.toInt32))] else ([] : List Int32))) ++ (if (2 : Int32) < (p5 &&& (3 : Int32)) then [(nar .byte (p3.toInt8.toInt32))] else ([] : List Int32))) ∧ ∀ target, Steps p.tables e below (T'.setTop (mkF m 85 #[.val (.int p1), .val (.int p2), .val (.int p3), .val (.int p4), .val (.int p5), .val (.int (p5 &&& (3 : Int32))), .val (.int tw), .val (.int (p1.toInt8.toInt32)), .val (.int (p2.toInt8.toInt32)), .val (.int (p3.toInt8.toInt32)), .val (.int (p4.toInt8.toInt32)), .val (.ref b3), .unset] [])) target → Steps p.tables e below (T11.setTop (mkF m 75 #[.val (.int p1), .val (.int p2), .val (.int p3), .val (.int p4), .val (.int p5), .val (.int (p5 &&& (3 : Int32))), .val (.int tw), .val (.int (p1.toInt8.toInt32)), .val (.int (p2.toInt8.toInt32)), .val (.int (p3.toInt8.toInt32)), .val (.int (p4.toInt8.toInt32)), .val (.ref b3), .unset] [(.int (2 : Int32)), (.int (p5 &&& (3 : Int32)))])) target := by
    by_cases c : (2 : Int32) < (p5 &&& (3 : Int32))
    · obtain ⟨bq12c, kq12c', Nq12c, vq12c, EQ12c, -⟩ := id C11
      obtain ⟨cq12c, kq12c, q12ca, q12cb, q12cc⟩ := isOf hZ rfl EQ12c
      obtain ⟨_, _, ⟨T12c, L12c, k12c, n12c⟩, -, X12c, ⟨Lc12c, hQ12c, l12c, y12c, z12c⟩, st12c⟩ := X11.virtualBack hx (y := (⟨"com/example/nodal_ledger/nodalledger/market/Columns$Bytes", "add", "(B)V"⟩ : MethodName)) (z := (⟨"com/example/nodal_ledger/nodalledger/market/Columns$Bytes", "add", "(B)V"⟩ : MethodName)) hown (mvT hZ (hw _ (List.mem_of_getElem? (i := 32) rfl))) (mvT hZ (hw _ (List.mem_of_getElem? (i := 33) rfl))) (notFace_of_selects (args := #[]) (mvT hZ (hw _ (List.mem_of_getElem? (i := 35) rfl)))) (mvT hZ (hw _ (List.mem_of_getElem? (i := 35) rfl))) (mvT hZ (hw _ (List.mem_of_getElem? (i := 34) rfl))) (by decide) (backOf (W := 0) (rm6 l Z a0 hw [] b3 (p3.toInt8.toInt32) (([] ++ (if (0 : Int32) < (p5 &&& (3 : Int32)) then [(nar .byte (p1.toInt8.toInt32))] else ([] : List Int32))) ++ (if (1 : Int32) < (p5 &&& (3 : Int32)) then [(nar .byte (p2.toInt8.toInt32))] else ([] : List Int32))) T11.heap n0 Z11 C11 (Nat.le_trans hl11 (by decide)) g_b3) hZ (hw _ (List.mem_of_getElem? (i := 36) rfl)) (hw _ (List.mem_of_getElem? (i := 2) rfl)) (by decide) (by decide)) q12ca q12cc (g := (mkF m 82 #[.val (.int p1), .val (.int p2), .val (.int p3), .val (.int p4), .val (.int p5), .val (.int (p5 &&& (3 : Int32))), .val (.int tw), .val (.int (p1.toInt8.toInt32)), .val (.int (p2.toInt8.toInt32)), .val (.int (p3.toInt8.toInt32)), .val (.int (p4.toInt8.toInt32)), .val (.ref b3), .unset] [(.int (p3.toInt8.toInt32)), (.ref b3)])) rfl (by rw [hml]; rfl) (Steps.refl _) (argsL := [(.int (p3.toInt8.toInt32))]) (rest := []) (lenOf pd_add rfl) rfl (by show 2 * 0 + _ ≤ _; exact Nat.le_of_eq rfl) (hb hby at_82) (fun _ _ => ⟨rfl, rfl, (by decide : 4 + 1 ≤ _), (by decide : 34 + 16 ≤ _)⟩)
      dsimp only [Pt.U, Pt.locs, Pt.cells, Pt.slots] at X12c l12c y12c z12c st12c hQ12c
      subst l12c y12c z12c
      obtain ⟨rfl, N12cq, Z12c, C12c⟩ := hQ12c
      refine ⟨T12c, _, X12c, Fr.app N11 N12cq, Z12c, by rw [if_pos c]; exact C12c, fun target kt => ?_⟩
      show Steps p.tables e below (T11.setTop (mkF m 75 #[.val (.int p1), .val (.int p2), .val (.int p3), .val (.int p4), .val (.int p5), .val (.int (p5 &&& (3 : Int32))), .val (.int tw), .val (.int (p1.toInt8.toInt32)), .val (.int (p2.toInt8.toInt32)), .val (.int (p3.toInt8.toInt32)), .val (.int (p4.toInt8.toInt32)), .val (.ref b3), .unset] [(.int (2 : Int32)), (.int (p5 &&& (3 : Int32)))])) _
      refine XS.icmpNo X11.here hx rfl (hb hby at_75) rfl (tlt c).2.2.2 ?_
      show Steps p.tables e below (T11.setTop (mkF m 78 #[.val (.int p1), .val (.int p2), .val (.int p3), .val (.int p4), .val (.int p5), .val (.int (p5 &&& (3 : Int32))), .val (.int tw), .val (.int (p1.toInt8.toInt32)), .val (.int (p2.toInt8.toInt32)), .val (.int (p3.toInt8.toInt32)), .val (.int (p4.toInt8.toInt32)), .val (.ref b3), .unset] [])) _
      refine XS.aload X11.here hx rfl (hb hby at_78) rfl rfl ?_
      show Steps p.tables e below (T11.setTop (mkF m 80 #[.val (.int p1), .val (.int p2), .val (.int p3), .val (.int p4), .val (.int p5), .val (.int (p5 &&& (3 : Int32))), .val (.int tw), .val (.int (p1.toInt8.toInt32)), .val (.int (p2.toInt8.toInt32)), .val (.int (p3.toInt8.toInt32)), .val (.int (p4.toInt8.toInt32)), .val (.ref b3), .unset] [(.ref b3)])) _
      refine XS.iload X11.here hx rfl (hb hby at_80) rfl ?_
      show Steps p.tables e below (T11.setTop (mkF m 82 #[.val (.int p1), .val (.int p2), .val (.int p3), .val (.int p4), .val (.int p5), .val (.int (p5 &&& (3 : Int32))), .val (.int tw), .val (.int (p1.toInt8.toInt32)), .val (.int (p2.toInt8.toInt32)), .val (.int (p3.toInt8.toInt32)), .val (.int (p4.toInt8.toInt32)), .val (.ref b3), .unset] [(.int (p3.toInt8.toInt32)), (.ref b3)])) _
      refine st12c.trans ?_
      exact kt
    · refine ⟨T11, _, X11.more (by decide) (by decide), N11, Z11, by rw [if_neg c, List.append_nil]; exact C11, fun target kt => ?_⟩
      show Steps p.tables e below (T11.setTop (mkF m 75 #[.val (.int p1), .val (.int p2), .val (.int p3), .val (.int p4), .val (.int p5), .val (.int (p5 &&& (3 : Int32))), .val (.int tw), .val (.int (p1.toInt8.toInt32)), .val (.int (p2.toInt8.toInt32)), .val (.int (p3.toInt8.toInt32)), .val (.int (p4.toInt8.toInt32)), .val (.ref b3), .unset] [(.int (2 : Int32)), (.int (p5 &&& (3 : Int32)))])) _
      refine XS.icmpYes X11.here hx rfl (pc0 := 75) (pc' := 85) rfl (hb hby at_75) rfl (flt c).2.2.2 (by decide) (by decide) ?_
      exact kt
  have hl12 : ((([] ++ (if (0 : Int32) < (p5 &&& (3 : Int32)) then [(nar .byte (p1.toInt8.toInt32))] else ([] : List Int32))) ++ (if (1 : Int32) < (p5 &&& (3 : Int32)) then [(nar .byte (p2.toInt8.toInt32))] else ([] : List Int32))) ++ (if (2 : Int32) < (p5 &&& (3 : Int32)) then [(nar .byte (p3.toInt8.toInt32))] else ([] : List Int32))).length ≤ 3 := by
    have q := hl11
    rw [List.length_append]
    have q2 : (if (2 : Int32) < (p5 &&& (3 : Int32)) then [(nar .byte (p3.toInt8.toInt32))] else ([] : List Int32)).length ≤ 1 := by split <;> simp
    omega
  obtain ⟨bq13, kq13', Nq13, vq13, EQ13, -⟩ := id C12
  obtain ⟨cq13, kq13, q13a, q13b, q13c⟩ := isOf hZ rfl EQ13
  obtain ⟨_, _, ⟨T13, L13, k13, n13⟩, -, X13, ⟨Lc13, hQ13, l13, y13, z13⟩, st13⟩ := X12.virtualBack hx (y := (⟨"com/example/nodal_ledger/nodalledger/market/Columns$Bytes", "trim", "()V"⟩ : MethodName)) (z := (⟨"com/example/nodal_ledger/nodalledger/market/Columns$Bytes", "trim", "()V"⟩ : MethodName)) hown (mvT hZ (hw _ (List.mem_of_getElem? (i := 12) rfl))) (mvT hZ (hw _ (List.mem_of_getElem? (i := 13) rfl))) (notFace_of_selects (args := #[]) (mvT hZ (hw _ (List.mem_of_getElem? (i := 15) rfl)))) (mvT hZ (hw _ (List.mem_of_getElem? (i := 15) rfl))) (mvT hZ (hw _ (List.mem_of_getElem? (i := 14) rfl))) (by decide) (backOf (W := 0) (rm7 l Z a0 hw [] b3 ((([] ++ (if (0 : Int32) < (p5 &&& (3 : Int32)) then [(nar .byte (p1.toInt8.toInt32))] else ([] : List Int32))) ++ (if (1 : Int32) < (p5 &&& (3 : Int32)) then [(nar .byte (p2.toInt8.toInt32))] else ([] : List Int32))) ++ (if (2 : Int32) < (p5 &&& (3 : Int32)) then [(nar .byte (p3.toInt8.toInt32))] else ([] : List Int32))) T12.heap n0 Z12 C12 g_b3) hZ (hw _ (List.mem_of_getElem? (i := 16) rfl)) (hw _ (List.mem_of_getElem? (i := 2) rfl)) (by decide) (by decide)) q13a q13c (g := (mkF m 87 #[.val (.int p1), .val (.int p2), .val (.int p3), .val (.int p4), .val (.int p5), .val (.int (p5 &&& (3 : Int32))), .val (.int tw), .val (.int (p1.toInt8.toInt32)), .val (.int (p2.toInt8.toInt32)), .val (.int (p3.toInt8.toInt32)), .val (.int (p4.toInt8.toInt32)), .val (.ref b3), .unset] [(.ref b3)])) rfl (by rw [hml]; rfl) (Steps.refl _) (argsL := []) (rest := []) (lenOf pd_V rfl) rfl (by show 2 * 0 + _ ≤ _; exact Nat.le_of_eq rfl) (hb hby at_87) (fun _ _ => ⟨rfl, rfl, (by decide : 5 + 1 ≤ _), (by decide : 50 + 16 ≤ _)⟩)
  dsimp only [Pt.U, Pt.locs, Pt.cells, Pt.slots] at X13 l13 y13 z13 st13 hQ13
  subst l13 y13 z13
  obtain ⟨rfl, N13q, Z13, C13⟩ := hQ13
  have N13 := Fr.app N12 N13q
  obtain ⟨T14, L14, X14, N14, Z14, C14, st14⟩ : ∃ (T' : State) (L' : List Loc), Stand p l e room_1 s m #[(.int p1), (.int p2), (.int p3), (.int p4), (.int p5)] below meth c T' L' 7 82 ∧ Fr n0 L' ∧ n0 ≤ T'.heap.size ∧ Col Z n0 T'.heap b3 ((([] ++ (if (0 : Int32) < (p5 &&& (3 : Int32)) then [(nar .byte (p1.toInt8.toInt32))] else ([] : List Int32))) ++ (if (1 : Int32) < (p5 &&& (3 : Int32)) then [(nar .byte (p2.toInt8.toInt32))] else ([] : List Int32))) ++ (if (2 : Int32) < (p5 &&& (3 : Int32)) then [(nar .byte (p3.toInt8.toInt32))] else ([] : List Int32))) ∧ ∀ target, Steps p.tables e below (T'.setTop (mkF m 100 #[.val (.int p1), .val (.int p2), .val (.int p3), .val (.int p4), .val (.int p5), .val (.int (p5 &&& (3 : Int32))), .val (.int tw), .val (.int (p1.toInt8.toInt32)), .val (.int (p2.toInt8.toInt32)), .val (.int (p3.toInt8.toInt32)), .val (.int (p4.toInt8.toInt32)), .val (.ref b3), .unset] [])) target → Steps p.tables e below (T13.setTop (mkF m 92 #[.val (.int p1), .val (.int p2), .val (.int p3), .val (.int p4), .val (.int p5), .val (.int (p5 &&& (3 : Int32))), .val (.int tw), .val (.int (p1.toInt8.toInt32)), .val (.int (p2.toInt8.toInt32)), .val (.int (p3.toInt8.toInt32)), .val (.int (p4.toInt8.toInt32)), .val (.ref b3), .unset] [(.int tw)])) target := by
    by_cases c : tw = (0 : Int32)
    · refine ⟨T13, _, X13.more (by decide) (by decide), N13, Z13, C13, fun target kt => ?_⟩
      show Steps p.tables e below (T13.setTop (mkF m 92 #[.val (.int p1), .val (.int p2), .val (.int p3), .val (.int p4), .val (.int p5), .val (.int (p5 &&& (3 : Int32))), .val (.int tw), .val (.int (p1.toInt8.toInt32)), .val (.int (p2.toInt8.toInt32)), .val (.int (p3.toInt8.toInt32)), .val (.int (p4.toInt8.toInt32)), .val (.ref b3), .unset] [(.int tw)])) _
      refine XS.ifYes X13.here hx rfl (pc0 := 92) (pc' := 100) rfl (hb hby at_92) rfl ((if0 _ _).trans (teq c).1) (by decide) (by decide) ?_
      exact kt
    · obtain ⟨bq14c, kq14c', Nq14c, vq14c, EQ14c, -⟩ := id C13
      obtain ⟨cq14c, kq14c, q14ca, q14cb, q14cc⟩ := isOf hZ rfl EQ14c
      obtain ⟨_, _, ⟨T14c, L14c, k14c, n14c⟩, -, X14c, ⟨Lc14c, hQ14c, l14c, y14c, z14c⟩, st14c⟩ := X13.virtualBack hx (y := (⟨"com/example/nodal_ledger/nodalledger/market/Columns$Bytes", "trim", "()V"⟩ : MethodName)) (z := (⟨"com/example/nodal_ledger/nodalledger/market/Columns$Bytes", "trim", "()V"⟩ : MethodName)) hown (mvT hZ (hw _ (List.mem_of_getElem? (i := 12) rfl))) (mvT hZ (hw _ (List.mem_of_getElem? (i := 13) rfl))) (notFace_of_selects (args := #[]) (mvT hZ (hw _ (List.mem_of_getElem? (i := 15) rfl)))) (mvT hZ (hw _ (List.mem_of_getElem? (i := 15) rfl))) (mvT hZ (hw _ (List.mem_of_getElem? (i := 14) rfl))) (by decide) (backOf (W := 0) (rm7 l Z a0 hw [] b3 ((([] ++ (if (0 : Int32) < (p5 &&& (3 : Int32)) then [(nar .byte (p1.toInt8.toInt32))] else ([] : List Int32))) ++ (if (1 : Int32) < (p5 &&& (3 : Int32)) then [(nar .byte (p2.toInt8.toInt32))] else ([] : List Int32))) ++ (if (2 : Int32) < (p5 &&& (3 : Int32)) then [(nar .byte (p3.toInt8.toInt32))] else ([] : List Int32))) T13.heap n0 Z13 C13 g_b3) hZ (hw _ (List.mem_of_getElem? (i := 16) rfl)) (hw _ (List.mem_of_getElem? (i := 2) rfl)) (by decide) (by decide)) q14ca q14cc (g := (mkF m 97 #[.val (.int p1), .val (.int p2), .val (.int p3), .val (.int p4), .val (.int p5), .val (.int (p5 &&& (3 : Int32))), .val (.int tw), .val (.int (p1.toInt8.toInt32)), .val (.int (p2.toInt8.toInt32)), .val (.int (p3.toInt8.toInt32)), .val (.int (p4.toInt8.toInt32)), .val (.ref b3), .unset] [(.ref b3)])) rfl (by rw [hml]; rfl) (Steps.refl _) (argsL := []) (rest := []) (lenOf pd_V rfl) rfl (by show 2 * 0 + _ ≤ _; exact Nat.le_of_eq rfl) (hb hby at_97) (fun _ _ => ⟨rfl, rfl, (by decide : 6 + 1 ≤ _), (by decide : 66 + 16 ≤ _)⟩)
      dsimp only [Pt.U, Pt.locs, Pt.cells, Pt.slots] at X14c l14c y14c z14c st14c hQ14c
      subst l14c y14c z14c
      obtain ⟨rfl, N14cq, Z14c, C14c⟩ := hQ14c
      refine ⟨T14c, _, X14c, Fr.app N13 N14cq, Z14c, C14c, fun target kt => ?_⟩
      show Steps p.tables e below (T13.setTop (mkF m 92 #[.val (.int p1), .val (.int p2), .val (.int p3), .val (.int p4), .val (.int p5), .val (.int (p5 &&& (3 : Int32))), .val (.int tw), .val (.int (p1.toInt8.toInt32)), .val (.int (p2.toInt8.toInt32)), .val (.int (p3.toInt8.toInt32)), .val (.int (p4.toInt8.toInt32)), .val (.ref b3), .unset] [(.int tw)])) _
      refine XS.ifNo X13.here hx rfl (hb hby at_92) rfl ((if0 _ _).trans (feq c).1) ?_
      show Steps p.tables e below (T13.setTop (mkF m 95 #[.val (.int p1), .val (.int p2), .val (.int p3), .val (.int p4), .val (.int p5), .val (.int (p5 &&& (3 : Int32))), .val (.int tw), .val (.int (p1.toInt8.toInt32)), .val (.int (p2.toInt8.toInt32)), .val (.int (p3.toInt8.toInt32)), .val (.int (p4.toInt8.toInt32)), .val (.ref b3), .unset] [])) _
      refine XS.aload X13.here hx rfl (hb hby at_95) rfl rfl ?_
      show Steps p.tables e below (T13.setTop (mkF m 97 #[.val (.int p1), .val (.int p2), .val (.int p3), .val (.int p4), .val (.int p5), .val (.int (p5 &&& (3 : Int32))), .val (.int tw), .val (.int (p1.toInt8.toInt32)), .val (.int (p2.toInt8.toInt32)), .val (.int (p3.toInt8.toInt32)), .val (.int (p4.toInt8.toInt32)), .val (.ref b3), .unset] [(.ref b3)])) _
      refine st14c.trans ?_
      exact kt
  obtain ⟨T15, L15, X15, N15, Z15, C15, st15⟩ : ∃ (T' : State) (L' : List Loc), Stand p l e room_1 s m #[(.int p1), (.int p2), (.int p3), (.int p4), (.int p5)] below meth c T' L' 7 82 ∧ Fr n0 L' ∧ n0 ≤ T'.heap.size ∧ Col Z n0 T'.heap b3 ((([] ++ (if (0 : Int32) < (p5 &&& (3 : Int32)) then [(nar .byte (p1.toInt8.toInt32))] else ([] : List Int32))) ++ (if (1 : Int32) < (p5 &&& (3 : Int32)) then [(nar .byte (p2.toInt8.toInt32))] else ([] : List Int32))) ++ (if (2 : Int32) < (p5 &&& (3 : Int32)) then [(nar .byte (p3.toInt8.toInt32))] else ([] : List Int32))) ∧ ∀ target, Steps p.tables e below (T'.setTop (mkF m 131 #[.val (.int p1), .val (.int p2), .val (.int p3), .val (.int p4), .val (.int p5), .val (.int (p5 &&& (3 : Int32))), .val (.int tw), .val (.int (p1.toInt8.toInt32)), .val (.int (p2.toInt8.toInt32)), .val (.int (p3.toInt8.toInt32)), .val (.int (p4.toInt8.toInt32)), .val (.ref b3), .val (.int (1 : Int32))] [])) target → Steps p.tables e below (T14.setTop (mkF m 105 #[.val (.int p1), .val (.int p2), .val (.int p3), .val (.int p4), .val (.int p5), .val (.int (p5 &&& (3 : Int32))), .val (.int tw), .val (.int (p1.toInt8.toInt32)), .val (.int (p2.toInt8.toInt32)), .val (.int (p3.toInt8.toInt32)), .val (.int (p4.toInt8.toInt32)), .val (.ref b3), .val (.int (1 : Int32))] [(.int (p5 &&& (3 : Int32)))])) target := by
    by_cases c : (0 : Int32) < (p5 &&& (3 : Int32))
    · have g := own_g0 p1 p2 p3 p4 p5 c
      obtain ⟨bq15c, kq15c', Nq15c, vq15c, EQ15c, -⟩ := id C14
      obtain ⟨cq15c, kq15c, q15ca, q15cb, q15cc⟩ := isOf hZ rfl EQ15c
      obtain ⟨_, _, ⟨T15c, L15c, k15c, n15c⟩, -, X15c, ⟨Lc15c, hQ15c, l15c, y15c, z15c⟩, st15c⟩ := X14.virtualBack hx (y := (⟨"com/example/nodal_ledger/nodalledger/market/Columns$Bytes", "get", "(I)B"⟩ : MethodName)) (z := (⟨"com/example/nodal_ledger/nodalledger/market/Columns$Bytes", "get", "(I)B"⟩ : MethodName)) hown (mvT hZ (hw _ (List.mem_of_getElem? (i := 52) rfl))) (mvT hZ (hw _ (List.mem_of_getElem? (i := 53) rfl))) (notFace_of_selects (args := #[]) (mvT hZ (hw _ (List.mem_of_getElem? (i := 55) rfl)))) (mvT hZ (hw _ (List.mem_of_getElem? (i := 55) rfl))) (mvT hZ (hw _ (List.mem_of_getElem? (i := 54) rfl))) (by decide) (backOf (W := 0) (rm8 l Z a0 hw [] b3 (0 : Int32) 0 ((([] ++ (if (0 : Int32) < (p5 &&& (3 : Int32)) then [(nar .byte (p1.toInt8.toInt32))] else ([] : List Int32))) ++ (if (1 : Int32) < (p5 &&& (3 : Int32)) then [(nar .byte (p2.toInt8.toInt32))] else ([] : List Int32))) ++ (if (2 : Int32) < (p5 &&& (3 : Int32)) then [(nar .byte (p3.toInt8.toInt32))] else ([] : List Int32))) T14.heap n0 Z14 C14 rfl g.1) hZ (hw _ (List.mem_of_getElem? (i := 56) rfl)) (hw _ (List.mem_of_getElem? (i := 2) rfl)) (by decide) (by decide)) q15ca q15cc (g := (mkF m 116 #[.val (.int p1), .val (.int p2), .val (.int p3), .val (.int p4), .val (.int p5), .val (.int (p5 &&& (3 : Int32))), .val (.int tw), .val (.int (p1.toInt8.toInt32)), .val (.int (p2.toInt8.toInt32)), .val (.int (p3.toInt8.toInt32)), .val (.int (p4.toInt8.toInt32)), .val (.ref b3), .val (.int (1 : Int32))] [(.int (0 : Int32)), (.ref b3)])) rfl (by rw [hml]; rfl) (Steps.refl _) (argsL := [(.int (0 : Int32))]) (rest := []) (lenOf pd_get rfl) rfl (by show 2 * 0 + _ ≤ _; exact Nat.le_of_eq rfl) (hb hby at_116) (fun _ _ => ⟨rfl, rfl, (by decide : 7 + 0 ≤ _), (by decide : 82 + 0 ≤ _)⟩)
      dsimp only [Pt.U, Pt.locs, Pt.cells, Pt.slots] at X15c l15c y15c z15c st15c hQ15c
      subst l15c y15c z15c
      obtain ⟨hv15c, N15cq, e15c⟩ := hQ15c
      rw [g.2] at hv15c
      subst hv15c
      refine ⟨T15c, _, X15c, Fr.app N14 N15cq, by rw [e15c]; exact Z14, by rw [e15c]; exact C14, fun target kt => ?_⟩
      show Steps p.tables e below (T14.setTop (mkF m 105 #[.val (.int p1), .val (.int p2), .val (.int p3), .val (.int p4), .val (.int p5), .val (.int (p5 &&& (3 : Int32))), .val (.int tw), .val (.int (p1.toInt8.toInt32)), .val (.int (p2.toInt8.toInt32)), .val (.int (p3.toInt8.toInt32)), .val (.int (p4.toInt8.toInt32)), .val (.ref b3), .val (.int (1 : Int32))] [(.int (p5 &&& (3 : Int32)))])) _
      refine XS.ifNo X14.here hx rfl (hb hby at_105) rfl ((if0 _ _).trans (tlt c).2.2.2) ?_
      show Steps p.tables e below (T14.setTop (mkF m 108 #[.val (.int p1), .val (.int p2), .val (.int p3), .val (.int p4), .val (.int p5), .val (.int (p5 &&& (3 : Int32))), .val (.int tw), .val (.int (p1.toInt8.toInt32)), .val (.int (p2.toInt8.toInt32)), .val (.int (p3.toInt8.toInt32)), .val (.int (p4.toInt8.toInt32)), .val (.ref b3), .val (.int (1 : Int32))] [])) _
      refine XS.iload X14.here hx rfl (hb hby at_108) rfl ?_
      show Steps p.tables e below (T14.setTop (mkF m 110 #[.val (.int p1), .val (.int p2), .val (.int p3), .val (.int p4), .val (.int p5), .val (.int (p5 &&& (3 : Int32))), .val (.int tw), .val (.int (p1.toInt8.toInt32)), .val (.int (p2.toInt8.toInt32)), .val (.int (p3.toInt8.toInt32)), .val (.int (p4.toInt8.toInt32)), .val (.ref b3), .val (.int (1 : Int32))] [(.int (1 : Int32))])) _
      refine XS.ifNo X14.here hx rfl (hb hby at_110) rfl ((if0 _ _).trans (feq (by decide)).1) ?_
      show Steps p.tables e below (T14.setTop (mkF m 113 #[.val (.int p1), .val (.int p2), .val (.int p3), .val (.int p4), .val (.int p5), .val (.int (p5 &&& (3 : Int32))), .val (.int tw), .val (.int (p1.toInt8.toInt32)), .val (.int (p2.toInt8.toInt32)), .val (.int (p3.toInt8.toInt32)), .val (.int (p4.toInt8.toInt32)), .val (.ref b3), .val (.int (1 : Int32))] [])) _
      refine XS.aload X14.here hx rfl (hb hby at_113) rfl rfl ?_
      show Steps p.tables e below (T14.setTop (mkF m 115 #[.val (.int p1), .val (.int p2), .val (.int p3), .val (.int p4), .val (.int p5), .val (.int (p5 &&& (3 : Int32))), .val (.int tw), .val (.int (p1.toInt8.toInt32)), .val (.int (p2.toInt8.toInt32)), .val (.int (p3.toInt8.toInt32)), .val (.int (p4.toInt8.toInt32)), .val (.ref b3), .val (.int (1 : Int32))] [(.ref b3)])) _
      refine XS.iconst X14.here hx rfl (hb hby at_115) ?_
      show Steps p.tables e below (T14.setTop (mkF m 116 #[.val (.int p1), .val (.int p2), .val (.int p3), .val (.int p4), .val (.int p5), .val (.int (p5 &&& (3 : Int32))), .val (.int tw), .val (.int (p1.toInt8.toInt32)), .val (.int (p2.toInt8.toInt32)), .val (.int (p3.toInt8.toInt32)), .val (.int (p4.toInt8.toInt32)), .val (.ref b3), .val (.int (1 : Int32))] [(.int (0 : Int32)), (.ref b3)])) _
      refine st15c.trans ?_
      show Steps p.tables e below (T15c.setTop (mkF m 119 #[.val (.int p1), .val (.int p2), .val (.int p3), .val (.int p4), .val (.int p5), .val (.int (p5 &&& (3 : Int32))), .val (.int tw), .val (.int (p1.toInt8.toInt32)), .val (.int (p2.toInt8.toInt32)), .val (.int (p3.toInt8.toInt32)), .val (.int (p4.toInt8.toInt32)), .val (.ref b3), .val (.int (1 : Int32))] [(.int (nar .byte (nar .byte (p1.toInt8.toInt32))))])) _
      refine XS.iload X15c.here hx rfl (hb hby at_119) rfl ?_
      show Steps p.tables e below (T15c.setTop (mkF m 121 #[.val (.int p1), .val (.int p2), .val (.int p3), .val (.int p4), .val (.int p5), .val (.int (p5 &&& (3 : Int32))), .val (.int tw), .val (.int (p1.toInt8.toInt32)), .val (.int (p2.toInt8.toInt32)), .val (.int (p3.toInt8.toInt32)), .val (.int (p4.toInt8.toInt32)), .val (.ref b3), .val (.int (1 : Int32))] [(.int (p1.toInt8.toInt32)), (.int (nar .byte (nar .byte (p1.toInt8.toInt32))))])) _
      refine XS.icmpNo X15c.here hx rfl (hb hby at_121) rfl (teq (own_nar2 _)).2 ?_
      show Steps p.tables e below (T15c.setTop (mkF m 124 #[.val (.int p1), .val (.int p2), .val (.int p3), .val (.int p4), .val (.int p5), .val (.int (p5 &&& (3 : Int32))), .val (.int tw), .val (.int (p1.toInt8.toInt32)), .val (.int (p2.toInt8.toInt32)), .val (.int (p3.toInt8.toInt32)), .val (.int (p4.toInt8.toInt32)), .val (.ref b3), .val (.int (1 : Int32))] [])) _
      refine XS.iconst X15c.here hx rfl (hb hby at_124) ?_
      show Steps p.tables e below (T15c.setTop (mkF m 125 #[.val (.int p1), .val (.int p2), .val (.int p3), .val (.int p4), .val (.int p5), .val (.int (p5 &&& (3 : Int32))), .val (.int tw), .val (.int (p1.toInt8.toInt32)), .val (.int (p2.toInt8.toInt32)), .val (.int (p3.toInt8.toInt32)), .val (.int (p4.toInt8.toInt32)), .val (.ref b3), .val (.int (1 : Int32))] [(.int (1 : Int32))])) _
      refine XS.goto X15c.here hx rfl (pc0 := 125) (pc' := 129) rfl (hb hby at_125) (by decide) (by decide) ?_
      show Steps p.tables e below (T15c.setTop (mkF m 129 #[.val (.int p1), .val (.int p2), .val (.int p3), .val (.int p4), .val (.int p5), .val (.int (p5 &&& (3 : Int32))), .val (.int tw), .val (.int (p1.toInt8.toInt32)), .val (.int (p2.toInt8.toInt32)), .val (.int (p3.toInt8.toInt32)), .val (.int (p4.toInt8.toInt32)), .val (.ref b3), .val (.int (1 : Int32))] [(.int (1 : Int32))])) _
      refine XS.istore X15c.here hx rfl (hb hby at_129) rfl (l' := #[.val (.int p1), .val (.int p2), .val (.int p3), .val (.int p4), .val (.int p5), .val (.int (p5 &&& (3 : Int32))), .val (.int tw), .val (.int (p1.toInt8.toInt32)), .val (.int (p2.toInt8.toInt32)), .val (.int (p3.toInt8.toInt32)), .val (.int (p4.toInt8.toInt32)), .val (.ref b3), .val (.int (1 : Int32))]) rfl ?_
      exact kt
    · refine ⟨T14, _, X14, N14, Z14, C14, fun target kt => ?_⟩
      show Steps p.tables e below (T14.setTop (mkF m 105 #[.val (.int p1), .val (.int p2), .val (.int p3), .val (.int p4), .val (.int p5), .val (.int (p5 &&& (3 : Int32))), .val (.int tw), .val (.int (p1.toInt8.toInt32)), .val (.int (p2.toInt8.toInt32)), .val (.int (p3.toInt8.toInt32)), .val (.int (p4.toInt8.toInt32)), .val (.ref b3), .val (.int (1 : Int32))] [(.int (p5 &&& (3 : Int32)))])) _
      refine XS.ifYes X14.here hx rfl (pc0 := 105) (pc' := 131) rfl (hb hby at_105) rfl ((if0 _ _).trans (flt c).2.2.2) (by decide) (by decide) ?_
      exact kt
  obtain ⟨T16, L16, X16, N16, Z16, C16, st16⟩ : ∃ (T' : State) (L' : List Loc), Stand p l e room_1 s m #[(.int p1), (.int p2), (.int p3), (.int p4), (.int p5)] below meth c T' L' 7 82 ∧ Fr n0 L' ∧ n0 ≤ T'.heap.size ∧ Col Z n0 T'.heap b3 ((([] ++ (if (0 : Int32) < (p5 &&& (3 : Int32)) then [(nar .byte (p1.toInt8.toInt32))] else ([] : List Int32))) ++ (if (1 : Int32) < (p5 &&& (3 : Int32)) then [(nar .byte (p2.toInt8.toInt32))] else ([] : List Int32))) ++ (if (2 : Int32) < (p5 &&& (3 : Int32)) then [(nar .byte (p3.toInt8.toInt32))] else ([] : List Int32))) ∧ ∀ target, Steps p.tables e below (T'.setTop (mkF m 160 #[.val (.int p1), .val (.int p2), .val (.int p3), .val (.int p4), .val (.int p5), .val (.int (p5 &&& (3 : Int32))), .val (.int tw), .val (.int (p1.toInt8.toInt32)), .val (.int (p2.toInt8.toInt32)), .val (.int (p3.toInt8.toInt32)), .val (.int (p4.toInt8.toInt32)), .val (.ref b3), .val (.int (1 : Int32))] [])) target → Steps p.tables e below (T15.setTop (mkF m 134 #[.val (.int p1), .val (.int p2), .val (.int p3), .val (.int p4), .val (.int p5), .val (.int (p5 &&& (3 : Int32))), .val (.int tw), .val (.int (p1.toInt8.toInt32)), .val (.int (p2.toInt8.toInt32)), .val (.int (p3.toInt8.toInt32)), .val (.int (p4.toInt8.toInt32)), .val (.ref b3), .val (.int (1 : Int32))] [(.int (1 : Int32)), (.int (p5 &&& (3 : Int32)))])) target := by
    by_cases c : (1 : Int32) < (p5 &&& (3 : Int32))
    · have g := own_g1 p1 p2 p3 p4 p5 c
      obtain ⟨bq16c, kq16c', Nq16c, vq16c, EQ16c, -⟩ := id C15
      obtain ⟨cq16c, kq16c, q16ca, q16cb, q16cc⟩ := isOf hZ rfl EQ16c
      obtain ⟨_, _, ⟨T16c, L16c, k16c, n16c⟩, -, X16c, ⟨Lc16c, hQ16c, l16c, y16c, z16c⟩, st16c⟩ := X15.virtualBack hx (y := (⟨"com/example/nodal_ledger/nodalledger/market/Columns$Bytes", "get", "(I)B"⟩ : MethodName)) (z := (⟨"com/example/nodal_ledger/nodalledger/market/Columns$Bytes", "get", "(I)B"⟩ : MethodName)) hown (mvT hZ (hw _ (List.mem_of_getElem? (i := 52) rfl))) (mvT hZ (hw _ (List.mem_of_getElem? (i := 53) rfl))) (notFace_of_selects (args := #[]) (mvT hZ (hw _ (List.mem_of_getElem? (i := 55) rfl)))) (mvT hZ (hw _ (List.mem_of_getElem? (i := 55) rfl))) (mvT hZ (hw _ (List.mem_of_getElem? (i := 54) rfl))) (by decide) (backOf (W := 0) (rm8 l Z a0 hw [] b3 (1 : Int32) 1 ((([] ++ (if (0 : Int32) < (p5 &&& (3 : Int32)) then [(nar .byte (p1.toInt8.toInt32))] else ([] : List Int32))) ++ (if (1 : Int32) < (p5 &&& (3 : Int32)) then [(nar .byte (p2.toInt8.toInt32))] else ([] : List Int32))) ++ (if (2 : Int32) < (p5 &&& (3 : Int32)) then [(nar .byte (p3.toInt8.toInt32))] else ([] : List Int32))) T15.heap n0 Z15 C15 rfl g.1) hZ (hw _ (List.mem_of_getElem? (i := 56) rfl)) (hw _ (List.mem_of_getElem? (i := 2) rfl)) (by decide) (by decide)) q16ca q16cc (g := (mkF m 145 #[.val (.int p1), .val (.int p2), .val (.int p3), .val (.int p4), .val (.int p5), .val (.int (p5 &&& (3 : Int32))), .val (.int tw), .val (.int (p1.toInt8.toInt32)), .val (.int (p2.toInt8.toInt32)), .val (.int (p3.toInt8.toInt32)), .val (.int (p4.toInt8.toInt32)), .val (.ref b3), .val (.int (1 : Int32))] [(.int (1 : Int32)), (.ref b3)])) rfl (by rw [hml]; rfl) (Steps.refl _) (argsL := [(.int (1 : Int32))]) (rest := []) (lenOf pd_get rfl) rfl (by show 2 * 0 + _ ≤ _; exact Nat.le_of_eq rfl) (hb hby at_145) (fun _ _ => ⟨rfl, rfl, (by decide : 7 + 0 ≤ _), (by decide : 82 + 0 ≤ _)⟩)
      dsimp only [Pt.U, Pt.locs, Pt.cells, Pt.slots] at X16c l16c y16c z16c st16c hQ16c
      subst l16c y16c z16c
      obtain ⟨hv16c, N16cq, e16c⟩ := hQ16c
      rw [g.2] at hv16c
      subst hv16c
      refine ⟨T16c, _, X16c, Fr.app N15 N16cq, by rw [e16c]; exact Z15, by rw [e16c]; exact C15, fun target kt => ?_⟩
      show Steps p.tables e below (T15.setTop (mkF m 134 #[.val (.int p1), .val (.int p2), .val (.int p3), .val (.int p4), .val (.int p5), .val (.int (p5 &&& (3 : Int32))), .val (.int tw), .val (.int (p1.toInt8.toInt32)), .val (.int (p2.toInt8.toInt32)), .val (.int (p3.toInt8.toInt32)), .val (.int (p4.toInt8.toInt32)), .val (.ref b3), .val (.int (1 : Int32))] [(.int (1 : Int32)), (.int (p5 &&& (3 : Int32)))])) _
      refine XS.icmpNo X15.here hx rfl (hb hby at_134) rfl (tlt c).2.2.2 ?_
      show Steps p.tables e below (T15.setTop (mkF m 137 #[.val (.int p1), .val (.int p2), .val (.int p3), .val (.int p4), .val (.int p5), .val (.int (p5 &&& (3 : Int32))), .val (.int tw), .val (.int (p1.toInt8.toInt32)), .val (.int (p2.toInt8.toInt32)), .val (.int (p3.toInt8.toInt32)), .val (.int (p4.toInt8.toInt32)), .val (.ref b3), .val (.int (1 : Int32))] [])) _
      refine XS.iload X15.here hx rfl (hb hby at_137) rfl ?_
      show Steps p.tables e below (T15.setTop (mkF m 139 #[.val (.int p1), .val (.int p2), .val (.int p3), .val (.int p4), .val (.int p5), .val (.int (p5 &&& (3 : Int32))), .val (.int tw), .val (.int (p1.toInt8.toInt32)), .val (.int (p2.toInt8.toInt32)), .val (.int (p3.toInt8.toInt32)), .val (.int (p4.toInt8.toInt32)), .val (.ref b3), .val (.int (1 : Int32))] [(.int (1 : Int32))])) _
      refine XS.ifNo X15.here hx rfl (hb hby at_139) rfl ((if0 _ _).trans (feq (by decide)).1) ?_
      show Steps p.tables e below (T15.setTop (mkF m 142 #[.val (.int p1), .val (.int p2), .val (.int p3), .val (.int p4), .val (.int p5), .val (.int (p5 &&& (3 : Int32))), .val (.int tw), .val (.int (p1.toInt8.toInt32)), .val (.int (p2.toInt8.toInt32)), .val (.int (p3.toInt8.toInt32)), .val (.int (p4.toInt8.toInt32)), .val (.ref b3), .val (.int (1 : Int32))] [])) _
      refine XS.aload X15.here hx rfl (hb hby at_142) rfl rfl ?_
      show Steps p.tables e below (T15.setTop (mkF m 144 #[.val (.int p1), .val (.int p2), .val (.int p3), .val (.int p4), .val (.int p5), .val (.int (p5 &&& (3 : Int32))), .val (.int tw), .val (.int (p1.toInt8.toInt32)), .val (.int (p2.toInt8.toInt32)), .val (.int (p3.toInt8.toInt32)), .val (.int (p4.toInt8.toInt32)), .val (.ref b3), .val (.int (1 : Int32))] [(.ref b3)])) _
      refine XS.iconst X15.here hx rfl (hb hby at_144) ?_
      show Steps p.tables e below (T15.setTop (mkF m 145 #[.val (.int p1), .val (.int p2), .val (.int p3), .val (.int p4), .val (.int p5), .val (.int (p5 &&& (3 : Int32))), .val (.int tw), .val (.int (p1.toInt8.toInt32)), .val (.int (p2.toInt8.toInt32)), .val (.int (p3.toInt8.toInt32)), .val (.int (p4.toInt8.toInt32)), .val (.ref b3), .val (.int (1 : Int32))] [(.int (1 : Int32)), (.ref b3)])) _
      refine st16c.trans ?_
      show Steps p.tables e below (T16c.setTop (mkF m 148 #[.val (.int p1), .val (.int p2), .val (.int p3), .val (.int p4), .val (.int p5), .val (.int (p5 &&& (3 : Int32))), .val (.int tw), .val (.int (p1.toInt8.toInt32)), .val (.int (p2.toInt8.toInt32)), .val (.int (p3.toInt8.toInt32)), .val (.int (p4.toInt8.toInt32)), .val (.ref b3), .val (.int (1 : Int32))] [(.int (nar .byte (nar .byte (p2.toInt8.toInt32))))])) _
      refine XS.iload X16c.here hx rfl (hb hby at_148) rfl ?_
      show Steps p.tables e below (T16c.setTop (mkF m 150 #[.val (.int p1), .val (.int p2), .val (.int p3), .val (.int p4), .val (.int p5), .val (.int (p5 &&& (3 : Int32))), .val (.int tw), .val (.int (p1.toInt8.toInt32)), .val (.int (p2.toInt8.toInt32)), .val (.int (p3.toInt8.toInt32)), .val (.int (p4.toInt8.toInt32)), .val (.ref b3), .val (.int (1 : Int32))] [(.int (p2.toInt8.toInt32)), (.int (nar .byte (nar .byte (p2.toInt8.toInt32))))])) _
      refine XS.icmpNo X16c.here hx rfl (hb hby at_150) rfl (teq (own_nar2 _)).2 ?_
      show Steps p.tables e below (T16c.setTop (mkF m 153 #[.val (.int p1), .val (.int p2), .val (.int p3), .val (.int p4), .val (.int p5), .val (.int (p5 &&& (3 : Int32))), .val (.int tw), .val (.int (p1.toInt8.toInt32)), .val (.int (p2.toInt8.toInt32)), .val (.int (p3.toInt8.toInt32)), .val (.int (p4.toInt8.toInt32)), .val (.ref b3), .val (.int (1 : Int32))] [])) _
      refine XS.iconst X16c.here hx rfl (hb hby at_153) ?_
      show Steps p.tables e below (T16c.setTop (mkF m 154 #[.val (.int p1), .val (.int p2), .val (.int p3), .val (.int p4), .val (.int p5), .val (.int (p5 &&& (3 : Int32))), .val (.int tw), .val (.int (p1.toInt8.toInt32)), .val (.int (p2.toInt8.toInt32)), .val (.int (p3.toInt8.toInt32)), .val (.int (p4.toInt8.toInt32)), .val (.ref b3), .val (.int (1 : Int32))] [(.int (1 : Int32))])) _
      refine XS.goto X16c.here hx rfl (pc0 := 154) (pc' := 158) rfl (hb hby at_154) (by decide) (by decide) ?_
      show Steps p.tables e below (T16c.setTop (mkF m 158 #[.val (.int p1), .val (.int p2), .val (.int p3), .val (.int p4), .val (.int p5), .val (.int (p5 &&& (3 : Int32))), .val (.int tw), .val (.int (p1.toInt8.toInt32)), .val (.int (p2.toInt8.toInt32)), .val (.int (p3.toInt8.toInt32)), .val (.int (p4.toInt8.toInt32)), .val (.ref b3), .val (.int (1 : Int32))] [(.int (1 : Int32))])) _
      refine XS.istore X16c.here hx rfl (hb hby at_158) rfl (l' := #[.val (.int p1), .val (.int p2), .val (.int p3), .val (.int p4), .val (.int p5), .val (.int (p5 &&& (3 : Int32))), .val (.int tw), .val (.int (p1.toInt8.toInt32)), .val (.int (p2.toInt8.toInt32)), .val (.int (p3.toInt8.toInt32)), .val (.int (p4.toInt8.toInt32)), .val (.ref b3), .val (.int (1 : Int32))]) rfl ?_
      exact kt
    · refine ⟨T15, _, X15, N15, Z15, C15, fun target kt => ?_⟩
      show Steps p.tables e below (T15.setTop (mkF m 134 #[.val (.int p1), .val (.int p2), .val (.int p3), .val (.int p4), .val (.int p5), .val (.int (p5 &&& (3 : Int32))), .val (.int tw), .val (.int (p1.toInt8.toInt32)), .val (.int (p2.toInt8.toInt32)), .val (.int (p3.toInt8.toInt32)), .val (.int (p4.toInt8.toInt32)), .val (.ref b3), .val (.int (1 : Int32))] [(.int (1 : Int32)), (.int (p5 &&& (3 : Int32)))])) _
      refine XS.icmpYes X15.here hx rfl (pc0 := 134) (pc' := 160) rfl (hb hby at_134) rfl (flt c).2.2.2 (by decide) (by decide) ?_
      exact kt
  obtain ⟨T17, L17, X17, N17, Z17, C17, st17⟩ : ∃ (T' : State) (L' : List Loc), Stand p l e room_1 s m #[(.int p1), (.int p2), (.int p3), (.int p4), (.int p5)] below meth c T' L' 7 82 ∧ Fr n0 L' ∧ n0 ≤ T'.heap.size ∧ Col Z n0 T'.heap b3 ((([] ++ (if (0 : Int32) < (p5 &&& (3 : Int32)) then [(nar .byte (p1.toInt8.toInt32))] else ([] : List Int32))) ++ (if (1 : Int32) < (p5 &&& (3 : Int32)) then [(nar .byte (p2.toInt8.toInt32))] else ([] : List Int32))) ++ (if (2 : Int32) < (p5 &&& (3 : Int32)) then [(nar .byte (p3.toInt8.toInt32))] else ([] : List Int32))) ∧ ∀ target, Steps p.tables e below (T'.setTop (mkF m 189 #[.val (.int p1), .val (.int p2), .val (.int p3), .val (.int p4), .val (.int p5), .val (.int (p5 &&& (3 : Int32))), .val (.int tw), .val (.int (p1.toInt8.toInt32)), .val (.int (p2.toInt8.toInt32)), .val (.int (p3.toInt8.toInt32)), .val (.int (p4.toInt8.toInt32)), .val (.ref b3), .val (.int (1 : Int32))] [])) target → Steps p.tables e below (T16.setTop (mkF m 163 #[.val (.int p1), .val (.int p2), .val (.int p3), .val (.int p4), .val (.int p5), .val (.int (p5 &&& (3 : Int32))), .val (.int tw), .val (.int (p1.toInt8.toInt32)), .val (.int (p2.toInt8.toInt32)), .val (.int (p3.toInt8.toInt32)), .val (.int (p4.toInt8.toInt32)), .val (.ref b3), .val (.int (1 : Int32))] [(.int (2 : Int32)), (.int (p5 &&& (3 : Int32)))])) target := by
    by_cases c : (2 : Int32) < (p5 &&& (3 : Int32))
    · have g := own_g2 p1 p2 p3 p4 p5 c
      obtain ⟨bq17c, kq17c', Nq17c, vq17c, EQ17c, -⟩ := id C16
      obtain ⟨cq17c, kq17c, q17ca, q17cb, q17cc⟩ := isOf hZ rfl EQ17c
      obtain ⟨_, _, ⟨T17c, L17c, k17c, n17c⟩, -, X17c, ⟨Lc17c, hQ17c, l17c, y17c, z17c⟩, st17c⟩ := X16.virtualBack hx (y := (⟨"com/example/nodal_ledger/nodalledger/market/Columns$Bytes", "get", "(I)B"⟩ : MethodName)) (z := (⟨"com/example/nodal_ledger/nodalledger/market/Columns$Bytes", "get", "(I)B"⟩ : MethodName)) hown (mvT hZ (hw _ (List.mem_of_getElem? (i := 52) rfl))) (mvT hZ (hw _ (List.mem_of_getElem? (i := 53) rfl))) (notFace_of_selects (args := #[]) (mvT hZ (hw _ (List.mem_of_getElem? (i := 55) rfl)))) (mvT hZ (hw _ (List.mem_of_getElem? (i := 55) rfl))) (mvT hZ (hw _ (List.mem_of_getElem? (i := 54) rfl))) (by decide) (backOf (W := 0) (rm8 l Z a0 hw [] b3 (2 : Int32) 2 ((([] ++ (if (0 : Int32) < (p5 &&& (3 : Int32)) then [(nar .byte (p1.toInt8.toInt32))] else ([] : List Int32))) ++ (if (1 : Int32) < (p5 &&& (3 : Int32)) then [(nar .byte (p2.toInt8.toInt32))] else ([] : List Int32))) ++ (if (2 : Int32) < (p5 &&& (3 : Int32)) then [(nar .byte (p3.toInt8.toInt32))] else ([] : List Int32))) T16.heap n0 Z16 C16 rfl g.1) hZ (hw _ (List.mem_of_getElem? (i := 56) rfl)) (hw _ (List.mem_of_getElem? (i := 2) rfl)) (by decide) (by decide)) q17ca q17cc (g := (mkF m 174 #[.val (.int p1), .val (.int p2), .val (.int p3), .val (.int p4), .val (.int p5), .val (.int (p5 &&& (3 : Int32))), .val (.int tw), .val (.int (p1.toInt8.toInt32)), .val (.int (p2.toInt8.toInt32)), .val (.int (p3.toInt8.toInt32)), .val (.int (p4.toInt8.toInt32)), .val (.ref b3), .val (.int (1 : Int32))] [(.int (2 : Int32)), (.ref b3)])) rfl (by rw [hml]; rfl) (Steps.refl _) (argsL := [(.int (2 : Int32))]) (rest := []) (lenOf pd_get rfl) rfl (by show 2 * 0 + _ ≤ _; exact Nat.le_of_eq rfl) (hb hby at_174) (fun _ _ => ⟨rfl, rfl, (by decide : 7 + 0 ≤ _), (by decide : 82 + 0 ≤ _)⟩)
      dsimp only [Pt.U, Pt.locs, Pt.cells, Pt.slots] at X17c l17c y17c z17c st17c hQ17c
      subst l17c y17c z17c
      obtain ⟨hv17c, N17cq, e17c⟩ := hQ17c
      rw [g.2] at hv17c
      subst hv17c
      refine ⟨T17c, _, X17c, Fr.app N16 N17cq, by rw [e17c]; exact Z16, by rw [e17c]; exact C16, fun target kt => ?_⟩
      show Steps p.tables e below (T16.setTop (mkF m 163 #[.val (.int p1), .val (.int p2), .val (.int p3), .val (.int p4), .val (.int p5), .val (.int (p5 &&& (3 : Int32))), .val (.int tw), .val (.int (p1.toInt8.toInt32)), .val (.int (p2.toInt8.toInt32)), .val (.int (p3.toInt8.toInt32)), .val (.int (p4.toInt8.toInt32)), .val (.ref b3), .val (.int (1 : Int32))] [(.int (2 : Int32)), (.int (p5 &&& (3 : Int32)))])) _
      refine XS.icmpNo X16.here hx rfl (hb hby at_163) rfl (tlt c).2.2.2 ?_
      show Steps p.tables e below (T16.setTop (mkF m 166 #[.val (.int p1), .val (.int p2), .val (.int p3), .val (.int p4), .val (.int p5), .val (.int (p5 &&& (3 : Int32))), .val (.int tw), .val (.int (p1.toInt8.toInt32)), .val (.int (p2.toInt8.toInt32)), .val (.int (p3.toInt8.toInt32)), .val (.int (p4.toInt8.toInt32)), .val (.ref b3), .val (.int (1 : Int32))] [])) _
      refine XS.iload X16.here hx rfl (hb hby at_166) rfl ?_
      show Steps p.tables e below (T16.setTop (mkF m 168 #[.val (.int p1), .val (.int p2), .val (.int p3), .val (.int p4), .val (.int p5), .val (.int (p5 &&& (3 : Int32))), .val (.int tw), .val (.int (p1.toInt8.toInt32)), .val (.int (p2.toInt8.toInt32)), .val (.int (p3.toInt8.toInt32)), .val (.int (p4.toInt8.toInt32)), .val (.ref b3), .val (.int (1 : Int32))] [(.int (1 : Int32))])) _
      refine XS.ifNo X16.here hx rfl (hb hby at_168) rfl ((if0 _ _).trans (feq (by decide)).1) ?_
      show Steps p.tables e below (T16.setTop (mkF m 171 #[.val (.int p1), .val (.int p2), .val (.int p3), .val (.int p4), .val (.int p5), .val (.int (p5 &&& (3 : Int32))), .val (.int tw), .val (.int (p1.toInt8.toInt32)), .val (.int (p2.toInt8.toInt32)), .val (.int (p3.toInt8.toInt32)), .val (.int (p4.toInt8.toInt32)), .val (.ref b3), .val (.int (1 : Int32))] [])) _
      refine XS.aload X16.here hx rfl (hb hby at_171) rfl rfl ?_
      show Steps p.tables e below (T16.setTop (mkF m 173 #[.val (.int p1), .val (.int p2), .val (.int p3), .val (.int p4), .val (.int p5), .val (.int (p5 &&& (3 : Int32))), .val (.int tw), .val (.int (p1.toInt8.toInt32)), .val (.int (p2.toInt8.toInt32)), .val (.int (p3.toInt8.toInt32)), .val (.int (p4.toInt8.toInt32)), .val (.ref b3), .val (.int (1 : Int32))] [(.ref b3)])) _
      refine XS.iconst X16.here hx rfl (hb hby at_173) ?_
      show Steps p.tables e below (T16.setTop (mkF m 174 #[.val (.int p1), .val (.int p2), .val (.int p3), .val (.int p4), .val (.int p5), .val (.int (p5 &&& (3 : Int32))), .val (.int tw), .val (.int (p1.toInt8.toInt32)), .val (.int (p2.toInt8.toInt32)), .val (.int (p3.toInt8.toInt32)), .val (.int (p4.toInt8.toInt32)), .val (.ref b3), .val (.int (1 : Int32))] [(.int (2 : Int32)), (.ref b3)])) _
      refine st17c.trans ?_
      show Steps p.tables e below (T17c.setTop (mkF m 177 #[.val (.int p1), .val (.int p2), .val (.int p3), .val (.int p4), .val (.int p5), .val (.int (p5 &&& (3 : Int32))), .val (.int tw), .val (.int (p1.toInt8.toInt32)), .val (.int (p2.toInt8.toInt32)), .val (.int (p3.toInt8.toInt32)), .val (.int (p4.toInt8.toInt32)), .val (.ref b3), .val (.int (1 : Int32))] [(.int (nar .byte (nar .byte (p3.toInt8.toInt32))))])) _
      refine XS.iload X17c.here hx rfl (hb hby at_177) rfl ?_
      show Steps p.tables e below (T17c.setTop (mkF m 179 #[.val (.int p1), .val (.int p2), .val (.int p3), .val (.int p4), .val (.int p5), .val (.int (p5 &&& (3 : Int32))), .val (.int tw), .val (.int (p1.toInt8.toInt32)), .val (.int (p2.toInt8.toInt32)), .val (.int (p3.toInt8.toInt32)), .val (.int (p4.toInt8.toInt32)), .val (.ref b3), .val (.int (1 : Int32))] [(.int (p3.toInt8.toInt32)), (.int (nar .byte (nar .byte (p3.toInt8.toInt32))))])) _
      refine XS.icmpNo X17c.here hx rfl (hb hby at_179) rfl (teq (own_nar2 _)).2 ?_
      show Steps p.tables e below (T17c.setTop (mkF m 182 #[.val (.int p1), .val (.int p2), .val (.int p3), .val (.int p4), .val (.int p5), .val (.int (p5 &&& (3 : Int32))), .val (.int tw), .val (.int (p1.toInt8.toInt32)), .val (.int (p2.toInt8.toInt32)), .val (.int (p3.toInt8.toInt32)), .val (.int (p4.toInt8.toInt32)), .val (.ref b3), .val (.int (1 : Int32))] [])) _
      refine XS.iconst X17c.here hx rfl (hb hby at_182) ?_
      show Steps p.tables e below (T17c.setTop (mkF m 183 #[.val (.int p1), .val (.int p2), .val (.int p3), .val (.int p4), .val (.int p5), .val (.int (p5 &&& (3 : Int32))), .val (.int tw), .val (.int (p1.toInt8.toInt32)), .val (.int (p2.toInt8.toInt32)), .val (.int (p3.toInt8.toInt32)), .val (.int (p4.toInt8.toInt32)), .val (.ref b3), .val (.int (1 : Int32))] [(.int (1 : Int32))])) _
      refine XS.goto X17c.here hx rfl (pc0 := 183) (pc' := 187) rfl (hb hby at_183) (by decide) (by decide) ?_
      show Steps p.tables e below (T17c.setTop (mkF m 187 #[.val (.int p1), .val (.int p2), .val (.int p3), .val (.int p4), .val (.int p5), .val (.int (p5 &&& (3 : Int32))), .val (.int tw), .val (.int (p1.toInt8.toInt32)), .val (.int (p2.toInt8.toInt32)), .val (.int (p3.toInt8.toInt32)), .val (.int (p4.toInt8.toInt32)), .val (.ref b3), .val (.int (1 : Int32))] [(.int (1 : Int32))])) _
      refine XS.istore X17c.here hx rfl (hb hby at_187) rfl (l' := #[.val (.int p1), .val (.int p2), .val (.int p3), .val (.int p4), .val (.int p5), .val (.int (p5 &&& (3 : Int32))), .val (.int tw), .val (.int (p1.toInt8.toInt32)), .val (.int (p2.toInt8.toInt32)), .val (.int (p3.toInt8.toInt32)), .val (.int (p4.toInt8.toInt32)), .val (.ref b3), .val (.int (1 : Int32))]) rfl ?_
      exact kt
    · refine ⟨T16, _, X16, N16, Z16, C16, fun target kt => ?_⟩
      show Steps p.tables e below (T16.setTop (mkF m 163 #[.val (.int p1), .val (.int p2), .val (.int p3), .val (.int p4), .val (.int p5), .val (.int (p5 &&& (3 : Int32))), .val (.int tw), .val (.int (p1.toInt8.toInt32)), .val (.int (p2.toInt8.toInt32)), .val (.int (p3.toInt8.toInt32)), .val (.int (p4.toInt8.toInt32)), .val (.ref b3), .val (.int (1 : Int32))] [(.int (2 : Int32)), (.int (p5 &&& (3 : Int32)))])) _
      refine XS.icmpYes X16.here hx rfl (pc0 := 163) (pc' := 189) rfl (hb hby at_163) rfl (flt c).2.2.2 (by decide) (by decide) ?_
      exact kt
  obtain ⟨bq18, kq18', Nq18, vq18, EQ18, -⟩ := id C17
  obtain ⟨cq18, kq18, q18a, q18b, q18c⟩ := isOf hZ rfl EQ18
  obtain ⟨_, _, ⟨T18, L18, k18, n18⟩, -, X18, ⟨Lc18, hQ18, l18, y18, z18⟩, st18⟩ := X17.virtualBack hx (y := (⟨"com/example/nodal_ledger/nodalledger/market/Columns$Bytes", "add", "(B)V"⟩ : MethodName)) (z := (⟨"com/example/nodal_ledger/nodalledger/market/Columns$Bytes", "add", "(B)V"⟩ : MethodName)) hown (mvT hZ (hw _ (List.mem_of_getElem? (i := 32) rfl))) (mvT hZ (hw _ (List.mem_of_getElem? (i := 33) rfl))) (notFace_of_selects (args := #[]) (mvT hZ (hw _ (List.mem_of_getElem? (i := 35) rfl)))) (mvT hZ (hw _ (List.mem_of_getElem? (i := 35) rfl))) (mvT hZ (hw _ (List.mem_of_getElem? (i := 34) rfl))) (by decide) (backOf (W := 0) (rm6 l Z a0 hw [] b3 (p4.toInt8.toInt32) ((([] ++ (if (0 : Int32) < (p5 &&& (3 : Int32)) then [(nar .byte (p1.toInt8.toInt32))] else ([] : List Int32))) ++ (if (1 : Int32) < (p5 &&& (3 : Int32)) then [(nar .byte (p2.toInt8.toInt32))] else ([] : List Int32))) ++ (if (2 : Int32) < (p5 &&& (3 : Int32)) then [(nar .byte (p3.toInt8.toInt32))] else ([] : List Int32))) T17.heap n0 Z17 C17 hl12 g_b3) hZ (hw _ (List.mem_of_getElem? (i := 36) rfl)) (hw _ (List.mem_of_getElem? (i := 2) rfl)) (by decide) (by decide)) q18a q18c (g := (mkF m 193 #[.val (.int p1), .val (.int p2), .val (.int p3), .val (.int p4), .val (.int p5), .val (.int (p5 &&& (3 : Int32))), .val (.int tw), .val (.int (p1.toInt8.toInt32)), .val (.int (p2.toInt8.toInt32)), .val (.int (p3.toInt8.toInt32)), .val (.int (p4.toInt8.toInt32)), .val (.ref b3), .val (.int (1 : Int32))] [(.int (p4.toInt8.toInt32)), (.ref b3)])) rfl (by rw [hml]; rfl) (Steps.refl _) (argsL := [(.int (p4.toInt8.toInt32))]) (rest := []) (lenOf pd_add rfl) rfl (by show 2 * 0 + _ ≤ _; exact Nat.le_of_eq rfl) (hb hby at_193) (fun _ _ => ⟨rfl, rfl, (by decide : 7 + 1 ≤ _), (by decide : 82 + 16 ≤ _)⟩)
  dsimp only [Pt.U, Pt.locs, Pt.cells, Pt.slots] at X18 l18 y18 z18 st18 hQ18
  subst l18 y18 z18
  obtain ⟨rfl, N18q, Z18, C18⟩ := hQ18
  have N18 := Fr.app N17 N18q
  obtain ⟨bq19, kq19', Nq19, vq19, EQ19, -⟩ := id C18
  obtain ⟨cq19, kq19, q19a, q19b, q19c⟩ := isOf hZ rfl EQ19
  obtain ⟨_, _, ⟨T19, L19, k19, n19⟩, -, X19, ⟨Lc19, hQ19, l19, y19, z19⟩, st19⟩ := X18.virtualBack hx (y := (⟨"com/example/nodal_ledger/nodalledger/market/Columns$Bytes", "trim", "()V"⟩ : MethodName)) (z := (⟨"com/example/nodal_ledger/nodalledger/market/Columns$Bytes", "trim", "()V"⟩ : MethodName)) hown (mvT hZ (hw _ (List.mem_of_getElem? (i := 12) rfl))) (mvT hZ (hw _ (List.mem_of_getElem? (i := 13) rfl))) (notFace_of_selects (args := #[]) (mvT hZ (hw _ (List.mem_of_getElem? (i := 15) rfl)))) (mvT hZ (hw _ (List.mem_of_getElem? (i := 15) rfl))) (mvT hZ (hw _ (List.mem_of_getElem? (i := 14) rfl))) (by decide) (backOf (W := 0) (rm7 l Z a0 hw [] b3 (((([] ++ (if (0 : Int32) < (p5 &&& (3 : Int32)) then [(nar .byte (p1.toInt8.toInt32))] else ([] : List Int32))) ++ (if (1 : Int32) < (p5 &&& (3 : Int32)) then [(nar .byte (p2.toInt8.toInt32))] else ([] : List Int32))) ++ (if (2 : Int32) < (p5 &&& (3 : Int32)) then [(nar .byte (p3.toInt8.toInt32))] else ([] : List Int32))) ++ [(nar .byte (p4.toInt8.toInt32))]) T18.heap n0 Z18 C18 g_b3) hZ (hw _ (List.mem_of_getElem? (i := 16) rfl)) (hw _ (List.mem_of_getElem? (i := 2) rfl)) (by decide) (by decide)) q19a q19c (g := (mkF m 198 #[.val (.int p1), .val (.int p2), .val (.int p3), .val (.int p4), .val (.int p5), .val (.int (p5 &&& (3 : Int32))), .val (.int tw), .val (.int (p1.toInt8.toInt32)), .val (.int (p2.toInt8.toInt32)), .val (.int (p3.toInt8.toInt32)), .val (.int (p4.toInt8.toInt32)), .val (.ref b3), .val (.int (1 : Int32))] [(.ref b3)])) rfl (by rw [hml]; rfl) (Steps.refl _) (argsL := []) (rest := []) (lenOf pd_V rfl) rfl (by show 2 * 0 + _ ≤ _; exact Nat.le_of_eq rfl) (hb hby at_198) (fun _ _ => ⟨rfl, rfl, (by decide : 8 + 1 ≤ _), (by decide : 98 + 16 ≤ _)⟩)
  dsimp only [Pt.U, Pt.locs, Pt.cells, Pt.slots] at X19 l19 y19 z19 st19 hQ19
  subst l19 y19 z19
  obtain ⟨rfl, N19q, Z19, C19⟩ := hQ19
  have N19 := Fr.app N18 N19q
  have gk := own_gk p1 p2 p3 p4 p5
  obtain ⟨bq20, kq20', Nq20, vq20, EQ20, -⟩ := id C19
  obtain ⟨cq20, kq20, q20a, q20b, q20c⟩ := isOf hZ rfl EQ20
  obtain ⟨_, _, ⟨T20, L20, k20, n20⟩, -, X20, ⟨Lc20, hQ20, l20, y20, z20⟩, st20⟩ := X19.virtualBack hx (y := (⟨"com/example/nodal_ledger/nodalledger/market/Columns$Bytes", "get", "(I)B"⟩ : MethodName)) (z := (⟨"com/example/nodal_ledger/nodalledger/market/Columns$Bytes", "get", "(I)B"⟩ : MethodName)) hown (mvT hZ (hw _ (List.mem_of_getElem? (i := 52) rfl))) (mvT hZ (hw _ (List.mem_of_getElem? (i := 53) rfl))) (notFace_of_selects (args := #[]) (mvT hZ (hw _ (List.mem_of_getElem? (i := 55) rfl)))) (mvT hZ (hw _ (List.mem_of_getElem? (i := 55) rfl))) (mvT hZ (hw _ (List.mem_of_getElem? (i := 54) rfl))) (by decide) (backOf (W := 0) (rm8 l Z a0 hw [] b3 (p5 &&& (3 : Int32)) ((([] ++ (if (0 : Int32) < (p5 &&& (3 : Int32)) then [(nar .byte (p1.toInt8.toInt32))] else ([] : List Int32))) ++ (if (1 : Int32) < (p5 &&& (3 : Int32)) then [(nar .byte (p2.toInt8.toInt32))] else ([] : List Int32))) ++ (if (2 : Int32) < (p5 &&& (3 : Int32)) then [(nar .byte (p3.toInt8.toInt32))] else ([] : List Int32))).length (((([] ++ (if (0 : Int32) < (p5 &&& (3 : Int32)) then [(nar .byte (p1.toInt8.toInt32))] else ([] : List Int32))) ++ (if (1 : Int32) < (p5 &&& (3 : Int32)) then [(nar .byte (p2.toInt8.toInt32))] else ([] : List Int32))) ++ (if (2 : Int32) < (p5 &&& (3 : Int32)) then [(nar .byte (p3.toInt8.toInt32))] else ([] : List Int32))) ++ [(nar .byte (p4.toInt8.toInt32))]) T19.heap n0 Z19 C19 gk.1 gk.2.1) hZ (hw _ (List.mem_of_getElem? (i := 56) rfl)) (hw _ (List.mem_of_getElem? (i := 2) rfl)) (by decide) (by decide)) q20a q20c (g := (mkF m 210 #[.val (.int p1), .val (.int p2), .val (.int p3), .val (.int p4), .val (.int p5), .val (.int (p5 &&& (3 : Int32))), .val (.int tw), .val (.int (p1.toInt8.toInt32)), .val (.int (p2.toInt8.toInt32)), .val (.int (p3.toInt8.toInt32)), .val (.int (p4.toInt8.toInt32)), .val (.ref b3), .val (.int (1 : Int32))] [(.int (p5 &&& (3 : Int32))), (.ref b3)])) rfl (by rw [hml]; rfl) (Steps.refl _) (argsL := [(.int (p5 &&& (3 : Int32)))]) (rest := []) (lenOf pd_get rfl) rfl (by show 2 * 0 + _ ≤ _; exact Nat.le_of_eq rfl) (hb hby at_210) (fun _ _ => ⟨rfl, rfl, (by decide : 9 + 0 ≤ _), (by decide : 114 + 0 ≤ _)⟩)
  dsimp only [Pt.U, Pt.locs, Pt.cells, Pt.slots] at X20 l20 y20 z20 st20 hQ20
  subst l20 y20 z20
  obtain ⟨hv20, N20q, e20⟩ := hQ20
  rw [gk.2.2] at hv20
  subst hv20
  have N20 := Fr.app N19 N20q
  have Z20 : n0 ≤ T20.heap.size := by rw [e20]; exact Z19
  have C20 : Col Z n0 T20.heap b3 (((([] ++ (if (0 : Int32) < (p5 &&& (3 : Int32)) then [(nar .byte (p1.toInt8.toInt32))] else ([] : List Int32))) ++ (if (1 : Int32) < (p5 &&& (3 : Int32)) then [(nar .byte (p2.toInt8.toInt32))] else ([] : List Int32))) ++ (if (2 : Int32) < (p5 &&& (3 : Int32)) then [(nar .byte (p3.toInt8.toInt32))] else ([] : List Int32))) ++ [(nar .byte (p4.toInt8.toInt32))]) := by rw [e20]; exact C19
  obtain ⟨T21, L21, X21, N21, Z21, C21, st21⟩ : ∃ (T' : State) (L' : List Loc), Stand p l e room_1 s m #[(.int p1), (.int p2), (.int p3), (.int p4), (.int p5)] below meth c T' L' 9 114 ∧ Fr n0 L' ∧ n0 ≤ T'.heap.size ∧ Col Z n0 T'.heap b3 (((([] ++ (if (0 : Int32) < (p5 &&& (3 : Int32)) then [(nar .byte (p1.toInt8.toInt32))] else ([] : List Int32))) ++ (if (1 : Int32) < (p5 &&& (3 : Int32)) then [(nar .byte (p2.toInt8.toInt32))] else ([] : List Int32))) ++ (if (2 : Int32) < (p5 &&& (3 : Int32)) then [(nar .byte (p3.toInt8.toInt32))] else ([] : List Int32))) ++ [(nar .byte (p4.toInt8.toInt32))]) ∧ ∀ target, Steps p.tables e below (T'.setTop (mkF m 253 #[.val (.int p1), .val (.int p2), .val (.int p3), .val (.int p4), .val (.int p5), .val (.int (p5 &&& (3 : Int32))), .val (.int tw), .val (.int (p1.toInt8.toInt32)), .val (.int (p2.toInt8.toInt32)), .val (.int (p3.toInt8.toInt32)), .val (.int (p4.toInt8.toInt32)), .val (.ref b3), .val (.int (1 : Int32))] [])) target → Steps p.tables e below (T20.setTop (mkF m 227 #[.val (.int p1), .val (.int p2), .val (.int p3), .val (.int p4), .val (.int p5), .val (.int (p5 &&& (3 : Int32))), .val (.int tw), .val (.int (p1.toInt8.toInt32)), .val (.int (p2.toInt8.toInt32)), .val (.int (p3.toInt8.toInt32)), .val (.int (p4.toInt8.toInt32)), .val (.ref b3), .val (.int (1 : Int32))] [(.int (p5 &&& (3 : Int32)))])) target := by
    by_cases c : (0 : Int32) < (p5 &&& (3 : Int32))
    · have g := own_h0 p1 p2 p3 p4 p5 c
      obtain ⟨bq21c, kq21c', Nq21c, vq21c, EQ21c, -⟩ := id C20
      obtain ⟨cq21c, kq21c, q21ca, q21cb, q21cc⟩ := isOf hZ rfl EQ21c
      obtain ⟨_, _, ⟨T21c, L21c, k21c, n21c⟩, -, X21c, ⟨Lc21c, hQ21c, l21c, y21c, z21c⟩, st21c⟩ := X20.virtualBack hx (y := (⟨"com/example/nodal_ledger/nodalledger/market/Columns$Bytes", "get", "(I)B"⟩ : MethodName)) (z := (⟨"com/example/nodal_ledger/nodalledger/market/Columns$Bytes", "get", "(I)B"⟩ : MethodName)) hown (mvT hZ (hw _ (List.mem_of_getElem? (i := 52) rfl))) (mvT hZ (hw _ (List.mem_of_getElem? (i := 53) rfl))) (notFace_of_selects (args := #[]) (mvT hZ (hw _ (List.mem_of_getElem? (i := 55) rfl)))) (mvT hZ (hw _ (List.mem_of_getElem? (i := 55) rfl))) (mvT hZ (hw _ (List.mem_of_getElem? (i := 54) rfl))) (by decide) (backOf (W := 0) (rm8 l Z a0 hw [] b3 (0 : Int32) 0 (((([] ++ (if (0 : Int32) < (p5 &&& (3 : Int32)) then [(nar .byte (p1.toInt8.toInt32))] else ([] : List Int32))) ++ (if (1 : Int32) < (p5 &&& (3 : Int32)) then [(nar .byte (p2.toInt8.toInt32))] else ([] : List Int32))) ++ (if (2 : Int32) < (p5 &&& (3 : Int32)) then [(nar .byte (p3.toInt8.toInt32))] else ([] : List Int32))) ++ [(nar .byte (p4.toInt8.toInt32))]) T20.heap n0 Z20 C20 rfl g.1) hZ (hw _ (List.mem_of_getElem? (i := 56) rfl)) (hw _ (List.mem_of_getElem? (i := 2) rfl)) (by decide) (by decide)) q21ca q21cc (g := (mkF m 238 #[.val (.int p1), .val (.int p2), .val (.int p3), .val (.int p4), .val (.int p5), .val (.int (p5 &&& (3 : Int32))), .val (.int tw), .val (.int (p1.toInt8.toInt32)), .val (.int (p2.toInt8.toInt32)), .val (.int (p3.toInt8.toInt32)), .val (.int (p4.toInt8.toInt32)), .val (.ref b3), .val (.int (1 : Int32))] [(.int (0 : Int32)), (.ref b3)])) rfl (by rw [hml]; rfl) (Steps.refl _) (argsL := [(.int (0 : Int32))]) (rest := []) (lenOf pd_get rfl) rfl (by show 2 * 0 + _ ≤ _; exact Nat.le_of_eq rfl) (hb hby at_238) (fun _ _ => ⟨rfl, rfl, (by decide : 9 + 0 ≤ _), (by decide : 114 + 0 ≤ _)⟩)
      dsimp only [Pt.U, Pt.locs, Pt.cells, Pt.slots] at X21c l21c y21c z21c st21c hQ21c
      subst l21c y21c z21c
      obtain ⟨hv21c, N21cq, e21c⟩ := hQ21c
      rw [g.2] at hv21c
      subst hv21c
      refine ⟨T21c, _, X21c, Fr.app N20 N21cq, by rw [e21c]; exact Z20, by rw [e21c]; exact C20, fun target kt => ?_⟩
      show Steps p.tables e below (T20.setTop (mkF m 227 #[.val (.int p1), .val (.int p2), .val (.int p3), .val (.int p4), .val (.int p5), .val (.int (p5 &&& (3 : Int32))), .val (.int tw), .val (.int (p1.toInt8.toInt32)), .val (.int (p2.toInt8.toInt32)), .val (.int (p3.toInt8.toInt32)), .val (.int (p4.toInt8.toInt32)), .val (.ref b3), .val (.int (1 : Int32))] [(.int (p5 &&& (3 : Int32)))])) _
      refine XS.ifNo X20.here hx rfl (hb hby at_227) rfl ((if0 _ _).trans (tlt c).2.2.2) ?_
      show Steps p.tables e below (T20.setTop (mkF m 230 #[.val (.int p1), .val (.int p2), .val (.int p3), .val (.int p4), .val (.int p5), .val (.int (p5 &&& (3 : Int32))), .val (.int tw), .val (.int (p1.toInt8.toInt32)), .val (.int (p2.toInt8.toInt32)), .val (.int (p3.toInt8.toInt32)), .val (.int (p4.toInt8.toInt32)), .val (.ref b3), .val (.int (1 : Int32))] [])) _
      refine XS.iload X20.here hx rfl (hb hby at_230) rfl ?_
      show Steps p.tables e below (T20.setTop (mkF m 232 #[.val (.int p1), .val (.int p2), .val (.int p3), .val (.int p4), .val (.int p5), .val (.int (p5 &&& (3 : Int32))), .val (.int tw), .val (.int (p1.toInt8.toInt32)), .val (.int (p2.toInt8.toInt32)), .val (.int (p3.toInt8.toInt32)), .val (.int (p4.toInt8.toInt32)), .val (.ref b3), .val (.int (1 : Int32))] [(.int (1 : Int32))])) _
      refine XS.ifNo X20.here hx rfl (hb hby at_232) rfl ((if0 _ _).trans (feq (by decide)).1) ?_
      show Steps p.tables e below (T20.setTop (mkF m 235 #[.val (.int p1), .val (.int p2), .val (.int p3), .val (.int p4), .val (.int p5), .val (.int (p5 &&& (3 : Int32))), .val (.int tw), .val (.int (p1.toInt8.toInt32)), .val (.int (p2.toInt8.toInt32)), .val (.int (p3.toInt8.toInt32)), .val (.int (p4.toInt8.toInt32)), .val (.ref b3), .val (.int (1 : Int32))] [])) _
      refine XS.aload X20.here hx rfl (hb hby at_235) rfl rfl ?_
      show Steps p.tables e below (T20.setTop (mkF m 237 #[.val (.int p1), .val (.int p2), .val (.int p3), .val (.int p4), .val (.int p5), .val (.int (p5 &&& (3 : Int32))), .val (.int tw), .val (.int (p1.toInt8.toInt32)), .val (.int (p2.toInt8.toInt32)), .val (.int (p3.toInt8.toInt32)), .val (.int (p4.toInt8.toInt32)), .val (.ref b3), .val (.int (1 : Int32))] [(.ref b3)])) _
      refine XS.iconst X20.here hx rfl (hb hby at_237) ?_
      show Steps p.tables e below (T20.setTop (mkF m 238 #[.val (.int p1), .val (.int p2), .val (.int p3), .val (.int p4), .val (.int p5), .val (.int (p5 &&& (3 : Int32))), .val (.int tw), .val (.int (p1.toInt8.toInt32)), .val (.int (p2.toInt8.toInt32)), .val (.int (p3.toInt8.toInt32)), .val (.int (p4.toInt8.toInt32)), .val (.ref b3), .val (.int (1 : Int32))] [(.int (0 : Int32)), (.ref b3)])) _
      refine st21c.trans ?_
      show Steps p.tables e below (T21c.setTop (mkF m 241 #[.val (.int p1), .val (.int p2), .val (.int p3), .val (.int p4), .val (.int p5), .val (.int (p5 &&& (3 : Int32))), .val (.int tw), .val (.int (p1.toInt8.toInt32)), .val (.int (p2.toInt8.toInt32)), .val (.int (p3.toInt8.toInt32)), .val (.int (p4.toInt8.toInt32)), .val (.ref b3), .val (.int (1 : Int32))] [(.int (nar .byte (nar .byte (p1.toInt8.toInt32))))])) _
      refine XS.iload X21c.here hx rfl (hb hby at_241) rfl ?_
      show Steps p.tables e below (T21c.setTop (mkF m 243 #[.val (.int p1), .val (.int p2), .val (.int p3), .val (.int p4), .val (.int p5), .val (.int (p5 &&& (3 : Int32))), .val (.int tw), .val (.int (p1.toInt8.toInt32)), .val (.int (p2.toInt8.toInt32)), .val (.int (p3.toInt8.toInt32)), .val (.int (p4.toInt8.toInt32)), .val (.ref b3), .val (.int (1 : Int32))] [(.int (p1.toInt8.toInt32)), (.int (nar .byte (nar .byte (p1.toInt8.toInt32))))])) _
      refine XS.icmpNo X21c.here hx rfl (hb hby at_243) rfl (teq (own_nar2 _)).2 ?_
      show Steps p.tables e below (T21c.setTop (mkF m 246 #[.val (.int p1), .val (.int p2), .val (.int p3), .val (.int p4), .val (.int p5), .val (.int (p5 &&& (3 : Int32))), .val (.int tw), .val (.int (p1.toInt8.toInt32)), .val (.int (p2.toInt8.toInt32)), .val (.int (p3.toInt8.toInt32)), .val (.int (p4.toInt8.toInt32)), .val (.ref b3), .val (.int (1 : Int32))] [])) _
      refine XS.iconst X21c.here hx rfl (hb hby at_246) ?_
      show Steps p.tables e below (T21c.setTop (mkF m 247 #[.val (.int p1), .val (.int p2), .val (.int p3), .val (.int p4), .val (.int p5), .val (.int (p5 &&& (3 : Int32))), .val (.int tw), .val (.int (p1.toInt8.toInt32)), .val (.int (p2.toInt8.toInt32)), .val (.int (p3.toInt8.toInt32)), .val (.int (p4.toInt8.toInt32)), .val (.ref b3), .val (.int (1 : Int32))] [(.int (1 : Int32))])) _
      refine XS.goto X21c.here hx rfl (pc0 := 247) (pc' := 251) rfl (hb hby at_247) (by decide) (by decide) ?_
      show Steps p.tables e below (T21c.setTop (mkF m 251 #[.val (.int p1), .val (.int p2), .val (.int p3), .val (.int p4), .val (.int p5), .val (.int (p5 &&& (3 : Int32))), .val (.int tw), .val (.int (p1.toInt8.toInt32)), .val (.int (p2.toInt8.toInt32)), .val (.int (p3.toInt8.toInt32)), .val (.int (p4.toInt8.toInt32)), .val (.ref b3), .val (.int (1 : Int32))] [(.int (1 : Int32))])) _
      refine XS.istore X21c.here hx rfl (hb hby at_251) rfl (l' := #[.val (.int p1), .val (.int p2), .val (.int p3), .val (.int p4), .val (.int p5), .val (.int (p5 &&& (3 : Int32))), .val (.int tw), .val (.int (p1.toInt8.toInt32)), .val (.int (p2.toInt8.toInt32)), .val (.int (p3.toInt8.toInt32)), .val (.int (p4.toInt8.toInt32)), .val (.ref b3), .val (.int (1 : Int32))]) rfl ?_
      exact kt
    · refine ⟨T20, _, X20, N20, Z20, C20, fun target kt => ?_⟩
      show Steps p.tables e below (T20.setTop (mkF m 227 #[.val (.int p1), .val (.int p2), .val (.int p3), .val (.int p4), .val (.int p5), .val (.int (p5 &&& (3 : Int32))), .val (.int tw), .val (.int (p1.toInt8.toInt32)), .val (.int (p2.toInt8.toInt32)), .val (.int (p3.toInt8.toInt32)), .val (.int (p4.toInt8.toInt32)), .val (.ref b3), .val (.int (1 : Int32))] [(.int (p5 &&& (3 : Int32)))])) _
      refine XS.ifYes X20.here hx rfl (pc0 := 227) (pc' := 253) rfl (hb hby at_227) rfl ((if0 _ _).trans (flt c).2.2.2) (by decide) (by decide) ?_
      exact kt
  obtain ⟨T22, L22, X22, N22, Z22, C22, st22⟩ : ∃ (T' : State) (L' : List Loc), Stand p l e room_1 s m #[(.int p1), (.int p2), (.int p3), (.int p4), (.int p5)] below meth c T' L' 9 114 ∧ Fr n0 L' ∧ n0 ≤ T'.heap.size ∧ Col Z n0 T'.heap b3 (((([] ++ (if (0 : Int32) < (p5 &&& (3 : Int32)) then [(nar .byte (p1.toInt8.toInt32))] else ([] : List Int32))) ++ (if (1 : Int32) < (p5 &&& (3 : Int32)) then [(nar .byte (p2.toInt8.toInt32))] else ([] : List Int32))) ++ (if (2 : Int32) < (p5 &&& (3 : Int32)) then [(nar .byte (p3.toInt8.toInt32))] else ([] : List Int32))) ++ [(nar .byte (p4.toInt8.toInt32))]) ∧ ∀ target, Steps p.tables e below (T'.setTop (mkF m 282 #[.val (.int p1), .val (.int p2), .val (.int p3), .val (.int p4), .val (.int p5), .val (.int (p5 &&& (3 : Int32))), .val (.int tw), .val (.int (p1.toInt8.toInt32)), .val (.int (p2.toInt8.toInt32)), .val (.int (p3.toInt8.toInt32)), .val (.int (p4.toInt8.toInt32)), .val (.ref b3), .val (.int (1 : Int32))] [])) target → Steps p.tables e below (T21.setTop (mkF m 256 #[.val (.int p1), .val (.int p2), .val (.int p3), .val (.int p4), .val (.int p5), .val (.int (p5 &&& (3 : Int32))), .val (.int tw), .val (.int (p1.toInt8.toInt32)), .val (.int (p2.toInt8.toInt32)), .val (.int (p3.toInt8.toInt32)), .val (.int (p4.toInt8.toInt32)), .val (.ref b3), .val (.int (1 : Int32))] [(.int (1 : Int32)), (.int (p5 &&& (3 : Int32)))])) target := by
    by_cases c : (1 : Int32) < (p5 &&& (3 : Int32))
    · have g := own_h1 p1 p2 p3 p4 p5 c
      obtain ⟨bq22c, kq22c', Nq22c, vq22c, EQ22c, -⟩ := id C21
      obtain ⟨cq22c, kq22c, q22ca, q22cb, q22cc⟩ := isOf hZ rfl EQ22c
      obtain ⟨_, _, ⟨T22c, L22c, k22c, n22c⟩, -, X22c, ⟨Lc22c, hQ22c, l22c, y22c, z22c⟩, st22c⟩ := X21.virtualBack hx (y := (⟨"com/example/nodal_ledger/nodalledger/market/Columns$Bytes", "get", "(I)B"⟩ : MethodName)) (z := (⟨"com/example/nodal_ledger/nodalledger/market/Columns$Bytes", "get", "(I)B"⟩ : MethodName)) hown (mvT hZ (hw _ (List.mem_of_getElem? (i := 52) rfl))) (mvT hZ (hw _ (List.mem_of_getElem? (i := 53) rfl))) (notFace_of_selects (args := #[]) (mvT hZ (hw _ (List.mem_of_getElem? (i := 55) rfl)))) (mvT hZ (hw _ (List.mem_of_getElem? (i := 55) rfl))) (mvT hZ (hw _ (List.mem_of_getElem? (i := 54) rfl))) (by decide) (backOf (W := 0) (rm8 l Z a0 hw [] b3 (1 : Int32) 1 (((([] ++ (if (0 : Int32) < (p5 &&& (3 : Int32)) then [(nar .byte (p1.toInt8.toInt32))] else ([] : List Int32))) ++ (if (1 : Int32) < (p5 &&& (3 : Int32)) then [(nar .byte (p2.toInt8.toInt32))] else ([] : List Int32))) ++ (if (2 : Int32) < (p5 &&& (3 : Int32)) then [(nar .byte (p3.toInt8.toInt32))] else ([] : List Int32))) ++ [(nar .byte (p4.toInt8.toInt32))]) T21.heap n0 Z21 C21 rfl g.1) hZ (hw _ (List.mem_of_getElem? (i := 56) rfl)) (hw _ (List.mem_of_getElem? (i := 2) rfl)) (by decide) (by decide)) q22ca q22cc (g := (mkF m 267 #[.val (.int p1), .val (.int p2), .val (.int p3), .val (.int p4), .val (.int p5), .val (.int (p5 &&& (3 : Int32))), .val (.int tw), .val (.int (p1.toInt8.toInt32)), .val (.int (p2.toInt8.toInt32)), .val (.int (p3.toInt8.toInt32)), .val (.int (p4.toInt8.toInt32)), .val (.ref b3), .val (.int (1 : Int32))] [(.int (1 : Int32)), (.ref b3)])) rfl (by rw [hml]; rfl) (Steps.refl _) (argsL := [(.int (1 : Int32))]) (rest := []) (lenOf pd_get rfl) rfl (by show 2 * 0 + _ ≤ _; exact Nat.le_of_eq rfl) (hb hby at_267) (fun _ _ => ⟨rfl, rfl, (by decide : 9 + 0 ≤ _), (by decide : 114 + 0 ≤ _)⟩)
      dsimp only [Pt.U, Pt.locs, Pt.cells, Pt.slots] at X22c l22c y22c z22c st22c hQ22c
      subst l22c y22c z22c
      obtain ⟨hv22c, N22cq, e22c⟩ := hQ22c
      rw [g.2] at hv22c
      subst hv22c
      refine ⟨T22c, _, X22c, Fr.app N21 N22cq, by rw [e22c]; exact Z21, by rw [e22c]; exact C21, fun target kt => ?_⟩
      show Steps p.tables e below (T21.setTop (mkF m 256 #[.val (.int p1), .val (.int p2), .val (.int p3), .val (.int p4), .val (.int p5), .val (.int (p5 &&& (3 : Int32))), .val (.int tw), .val (.int (p1.toInt8.toInt32)), .val (.int (p2.toInt8.toInt32)), .val (.int (p3.toInt8.toInt32)), .val (.int (p4.toInt8.toInt32)), .val (.ref b3), .val (.int (1 : Int32))] [(.int (1 : Int32)), (.int (p5 &&& (3 : Int32)))])) _
      refine XS.icmpNo X21.here hx rfl (hb hby at_256) rfl (tlt c).2.2.2 ?_
      show Steps p.tables e below (T21.setTop (mkF m 259 #[.val (.int p1), .val (.int p2), .val (.int p3), .val (.int p4), .val (.int p5), .val (.int (p5 &&& (3 : Int32))), .val (.int tw), .val (.int (p1.toInt8.toInt32)), .val (.int (p2.toInt8.toInt32)), .val (.int (p3.toInt8.toInt32)), .val (.int (p4.toInt8.toInt32)), .val (.ref b3), .val (.int (1 : Int32))] [])) _
      refine XS.iload X21.here hx rfl (hb hby at_259) rfl ?_
      show Steps p.tables e below (T21.setTop (mkF m 261 #[.val (.int p1), .val (.int p2), .val (.int p3), .val (.int p4), .val (.int p5), .val (.int (p5 &&& (3 : Int32))), .val (.int tw), .val (.int (p1.toInt8.toInt32)), .val (.int (p2.toInt8.toInt32)), .val (.int (p3.toInt8.toInt32)), .val (.int (p4.toInt8.toInt32)), .val (.ref b3), .val (.int (1 : Int32))] [(.int (1 : Int32))])) _
      refine XS.ifNo X21.here hx rfl (hb hby at_261) rfl ((if0 _ _).trans (feq (by decide)).1) ?_
      show Steps p.tables e below (T21.setTop (mkF m 264 #[.val (.int p1), .val (.int p2), .val (.int p3), .val (.int p4), .val (.int p5), .val (.int (p5 &&& (3 : Int32))), .val (.int tw), .val (.int (p1.toInt8.toInt32)), .val (.int (p2.toInt8.toInt32)), .val (.int (p3.toInt8.toInt32)), .val (.int (p4.toInt8.toInt32)), .val (.ref b3), .val (.int (1 : Int32))] [])) _
      refine XS.aload X21.here hx rfl (hb hby at_264) rfl rfl ?_
      show Steps p.tables e below (T21.setTop (mkF m 266 #[.val (.int p1), .val (.int p2), .val (.int p3), .val (.int p4), .val (.int p5), .val (.int (p5 &&& (3 : Int32))), .val (.int tw), .val (.int (p1.toInt8.toInt32)), .val (.int (p2.toInt8.toInt32)), .val (.int (p3.toInt8.toInt32)), .val (.int (p4.toInt8.toInt32)), .val (.ref b3), .val (.int (1 : Int32))] [(.ref b3)])) _
      refine XS.iconst X21.here hx rfl (hb hby at_266) ?_
      show Steps p.tables e below (T21.setTop (mkF m 267 #[.val (.int p1), .val (.int p2), .val (.int p3), .val (.int p4), .val (.int p5), .val (.int (p5 &&& (3 : Int32))), .val (.int tw), .val (.int (p1.toInt8.toInt32)), .val (.int (p2.toInt8.toInt32)), .val (.int (p3.toInt8.toInt32)), .val (.int (p4.toInt8.toInt32)), .val (.ref b3), .val (.int (1 : Int32))] [(.int (1 : Int32)), (.ref b3)])) _
      refine st22c.trans ?_
      show Steps p.tables e below (T22c.setTop (mkF m 270 #[.val (.int p1), .val (.int p2), .val (.int p3), .val (.int p4), .val (.int p5), .val (.int (p5 &&& (3 : Int32))), .val (.int tw), .val (.int (p1.toInt8.toInt32)), .val (.int (p2.toInt8.toInt32)), .val (.int (p3.toInt8.toInt32)), .val (.int (p4.toInt8.toInt32)), .val (.ref b3), .val (.int (1 : Int32))] [(.int (nar .byte (nar .byte (p2.toInt8.toInt32))))])) _
      refine XS.iload X22c.here hx rfl (hb hby at_270) rfl ?_
      show Steps p.tables e below (T22c.setTop (mkF m 272 #[.val (.int p1), .val (.int p2), .val (.int p3), .val (.int p4), .val (.int p5), .val (.int (p5 &&& (3 : Int32))), .val (.int tw), .val (.int (p1.toInt8.toInt32)), .val (.int (p2.toInt8.toInt32)), .val (.int (p3.toInt8.toInt32)), .val (.int (p4.toInt8.toInt32)), .val (.ref b3), .val (.int (1 : Int32))] [(.int (p2.toInt8.toInt32)), (.int (nar .byte (nar .byte (p2.toInt8.toInt32))))])) _
      refine XS.icmpNo X22c.here hx rfl (hb hby at_272) rfl (teq (own_nar2 _)).2 ?_
      show Steps p.tables e below (T22c.setTop (mkF m 275 #[.val (.int p1), .val (.int p2), .val (.int p3), .val (.int p4), .val (.int p5), .val (.int (p5 &&& (3 : Int32))), .val (.int tw), .val (.int (p1.toInt8.toInt32)), .val (.int (p2.toInt8.toInt32)), .val (.int (p3.toInt8.toInt32)), .val (.int (p4.toInt8.toInt32)), .val (.ref b3), .val (.int (1 : Int32))] [])) _
      refine XS.iconst X22c.here hx rfl (hb hby at_275) ?_
      show Steps p.tables e below (T22c.setTop (mkF m 276 #[.val (.int p1), .val (.int p2), .val (.int p3), .val (.int p4), .val (.int p5), .val (.int (p5 &&& (3 : Int32))), .val (.int tw), .val (.int (p1.toInt8.toInt32)), .val (.int (p2.toInt8.toInt32)), .val (.int (p3.toInt8.toInt32)), .val (.int (p4.toInt8.toInt32)), .val (.ref b3), .val (.int (1 : Int32))] [(.int (1 : Int32))])) _
      refine XS.goto X22c.here hx rfl (pc0 := 276) (pc' := 280) rfl (hb hby at_276) (by decide) (by decide) ?_
      show Steps p.tables e below (T22c.setTop (mkF m 280 #[.val (.int p1), .val (.int p2), .val (.int p3), .val (.int p4), .val (.int p5), .val (.int (p5 &&& (3 : Int32))), .val (.int tw), .val (.int (p1.toInt8.toInt32)), .val (.int (p2.toInt8.toInt32)), .val (.int (p3.toInt8.toInt32)), .val (.int (p4.toInt8.toInt32)), .val (.ref b3), .val (.int (1 : Int32))] [(.int (1 : Int32))])) _
      refine XS.istore X22c.here hx rfl (hb hby at_280) rfl (l' := #[.val (.int p1), .val (.int p2), .val (.int p3), .val (.int p4), .val (.int p5), .val (.int (p5 &&& (3 : Int32))), .val (.int tw), .val (.int (p1.toInt8.toInt32)), .val (.int (p2.toInt8.toInt32)), .val (.int (p3.toInt8.toInt32)), .val (.int (p4.toInt8.toInt32)), .val (.ref b3), .val (.int (1 : Int32))]) rfl ?_
      exact kt
    · refine ⟨T21, _, X21, N21, Z21, C21, fun target kt => ?_⟩
      show Steps p.tables e below (T21.setTop (mkF m 256 #[.val (.int p1), .val (.int p2), .val (.int p3), .val (.int p4), .val (.int p5), .val (.int (p5 &&& (3 : Int32))), .val (.int tw), .val (.int (p1.toInt8.toInt32)), .val (.int (p2.toInt8.toInt32)), .val (.int (p3.toInt8.toInt32)), .val (.int (p4.toInt8.toInt32)), .val (.ref b3), .val (.int (1 : Int32))] [(.int (1 : Int32)), (.int (p5 &&& (3 : Int32)))])) _
      refine XS.icmpYes X21.here hx rfl (pc0 := 256) (pc' := 282) rfl (hb hby at_256) rfl (flt c).2.2.2 (by decide) (by decide) ?_
      exact kt
  obtain ⟨T23, L23, X23, N23, Z23, C23, st23⟩ : ∃ (T' : State) (L' : List Loc), Stand p l e room_1 s m #[(.int p1), (.int p2), (.int p3), (.int p4), (.int p5)] below meth c T' L' 9 114 ∧ Fr n0 L' ∧ n0 ≤ T'.heap.size ∧ Col Z n0 T'.heap b3 (((([] ++ (if (0 : Int32) < (p5 &&& (3 : Int32)) then [(nar .byte (p1.toInt8.toInt32))] else ([] : List Int32))) ++ (if (1 : Int32) < (p5 &&& (3 : Int32)) then [(nar .byte (p2.toInt8.toInt32))] else ([] : List Int32))) ++ (if (2 : Int32) < (p5 &&& (3 : Int32)) then [(nar .byte (p3.toInt8.toInt32))] else ([] : List Int32))) ++ [(nar .byte (p4.toInt8.toInt32))]) ∧ ∀ target, Steps p.tables e below (T'.setTop (mkF m 311 #[.val (.int p1), .val (.int p2), .val (.int p3), .val (.int p4), .val (.int p5), .val (.int (p5 &&& (3 : Int32))), .val (.int tw), .val (.int (p1.toInt8.toInt32)), .val (.int (p2.toInt8.toInt32)), .val (.int (p3.toInt8.toInt32)), .val (.int (p4.toInt8.toInt32)), .val (.ref b3), .val (.int (1 : Int32))] [])) target → Steps p.tables e below (T22.setTop (mkF m 285 #[.val (.int p1), .val (.int p2), .val (.int p3), .val (.int p4), .val (.int p5), .val (.int (p5 &&& (3 : Int32))), .val (.int tw), .val (.int (p1.toInt8.toInt32)), .val (.int (p2.toInt8.toInt32)), .val (.int (p3.toInt8.toInt32)), .val (.int (p4.toInt8.toInt32)), .val (.ref b3), .val (.int (1 : Int32))] [(.int (2 : Int32)), (.int (p5 &&& (3 : Int32)))])) target := by
    by_cases c : (2 : Int32) < (p5 &&& (3 : Int32))
    · have g := own_h2 p1 p2 p3 p4 p5 c
      obtain ⟨bq23c, kq23c', Nq23c, vq23c, EQ23c, -⟩ := id C22
      obtain ⟨cq23c, kq23c, q23ca, q23cb, q23cc⟩ := isOf hZ rfl EQ23c
      obtain ⟨_, _, ⟨T23c, L23c, k23c, n23c⟩, -, X23c, ⟨Lc23c, hQ23c, l23c, y23c, z23c⟩, st23c⟩ := X22.virtualBack hx (y := (⟨"com/example/nodal_ledger/nodalledger/market/Columns$Bytes", "get", "(I)B"⟩ : MethodName)) (z := (⟨"com/example/nodal_ledger/nodalledger/market/Columns$Bytes", "get", "(I)B"⟩ : MethodName)) hown (mvT hZ (hw _ (List.mem_of_getElem? (i := 52) rfl))) (mvT hZ (hw _ (List.mem_of_getElem? (i := 53) rfl))) (notFace_of_selects (args := #[]) (mvT hZ (hw _ (List.mem_of_getElem? (i := 55) rfl)))) (mvT hZ (hw _ (List.mem_of_getElem? (i := 55) rfl))) (mvT hZ (hw _ (List.mem_of_getElem? (i := 54) rfl))) (by decide) (backOf (W := 0) (rm8 l Z a0 hw [] b3 (2 : Int32) 2 (((([] ++ (if (0 : Int32) < (p5 &&& (3 : Int32)) then [(nar .byte (p1.toInt8.toInt32))] else ([] : List Int32))) ++ (if (1 : Int32) < (p5 &&& (3 : Int32)) then [(nar .byte (p2.toInt8.toInt32))] else ([] : List Int32))) ++ (if (2 : Int32) < (p5 &&& (3 : Int32)) then [(nar .byte (p3.toInt8.toInt32))] else ([] : List Int32))) ++ [(nar .byte (p4.toInt8.toInt32))]) T22.heap n0 Z22 C22 rfl g.1) hZ (hw _ (List.mem_of_getElem? (i := 56) rfl)) (hw _ (List.mem_of_getElem? (i := 2) rfl)) (by decide) (by decide)) q23ca q23cc (g := (mkF m 296 #[.val (.int p1), .val (.int p2), .val (.int p3), .val (.int p4), .val (.int p5), .val (.int (p5 &&& (3 : Int32))), .val (.int tw), .val (.int (p1.toInt8.toInt32)), .val (.int (p2.toInt8.toInt32)), .val (.int (p3.toInt8.toInt32)), .val (.int (p4.toInt8.toInt32)), .val (.ref b3), .val (.int (1 : Int32))] [(.int (2 : Int32)), (.ref b3)])) rfl (by rw [hml]; rfl) (Steps.refl _) (argsL := [(.int (2 : Int32))]) (rest := []) (lenOf pd_get rfl) rfl (by show 2 * 0 + _ ≤ _; exact Nat.le_of_eq rfl) (hb hby at_296) (fun _ _ => ⟨rfl, rfl, (by decide : 9 + 0 ≤ _), (by decide : 114 + 0 ≤ _)⟩)
      dsimp only [Pt.U, Pt.locs, Pt.cells, Pt.slots] at X23c l23c y23c z23c st23c hQ23c
      subst l23c y23c z23c
      obtain ⟨hv23c, N23cq, e23c⟩ := hQ23c
      rw [g.2] at hv23c
      subst hv23c
      refine ⟨T23c, _, X23c, Fr.app N22 N23cq, by rw [e23c]; exact Z22, by rw [e23c]; exact C22, fun target kt => ?_⟩
      show Steps p.tables e below (T22.setTop (mkF m 285 #[.val (.int p1), .val (.int p2), .val (.int p3), .val (.int p4), .val (.int p5), .val (.int (p5 &&& (3 : Int32))), .val (.int tw), .val (.int (p1.toInt8.toInt32)), .val (.int (p2.toInt8.toInt32)), .val (.int (p3.toInt8.toInt32)), .val (.int (p4.toInt8.toInt32)), .val (.ref b3), .val (.int (1 : Int32))] [(.int (2 : Int32)), (.int (p5 &&& (3 : Int32)))])) _
      refine XS.icmpNo X22.here hx rfl (hb hby at_285) rfl (tlt c).2.2.2 ?_
      show Steps p.tables e below (T22.setTop (mkF m 288 #[.val (.int p1), .val (.int p2), .val (.int p3), .val (.int p4), .val (.int p5), .val (.int (p5 &&& (3 : Int32))), .val (.int tw), .val (.int (p1.toInt8.toInt32)), .val (.int (p2.toInt8.toInt32)), .val (.int (p3.toInt8.toInt32)), .val (.int (p4.toInt8.toInt32)), .val (.ref b3), .val (.int (1 : Int32))] [])) _
      refine XS.iload X22.here hx rfl (hb hby at_288) rfl ?_
      show Steps p.tables e below (T22.setTop (mkF m 290 #[.val (.int p1), .val (.int p2), .val (.int p3), .val (.int p4), .val (.int p5), .val (.int (p5 &&& (3 : Int32))), .val (.int tw), .val (.int (p1.toInt8.toInt32)), .val (.int (p2.toInt8.toInt32)), .val (.int (p3.toInt8.toInt32)), .val (.int (p4.toInt8.toInt32)), .val (.ref b3), .val (.int (1 : Int32))] [(.int (1 : Int32))])) _
      refine XS.ifNo X22.here hx rfl (hb hby at_290) rfl ((if0 _ _).trans (feq (by decide)).1) ?_
      show Steps p.tables e below (T22.setTop (mkF m 293 #[.val (.int p1), .val (.int p2), .val (.int p3), .val (.int p4), .val (.int p5), .val (.int (p5 &&& (3 : Int32))), .val (.int tw), .val (.int (p1.toInt8.toInt32)), .val (.int (p2.toInt8.toInt32)), .val (.int (p3.toInt8.toInt32)), .val (.int (p4.toInt8.toInt32)), .val (.ref b3), .val (.int (1 : Int32))] [])) _
      refine XS.aload X22.here hx rfl (hb hby at_293) rfl rfl ?_
      show Steps p.tables e below (T22.setTop (mkF m 295 #[.val (.int p1), .val (.int p2), .val (.int p3), .val (.int p4), .val (.int p5), .val (.int (p5 &&& (3 : Int32))), .val (.int tw), .val (.int (p1.toInt8.toInt32)), .val (.int (p2.toInt8.toInt32)), .val (.int (p3.toInt8.toInt32)), .val (.int (p4.toInt8.toInt32)), .val (.ref b3), .val (.int (1 : Int32))] [(.ref b3)])) _
      refine XS.iconst X22.here hx rfl (hb hby at_295) ?_
      show Steps p.tables e below (T22.setTop (mkF m 296 #[.val (.int p1), .val (.int p2), .val (.int p3), .val (.int p4), .val (.int p5), .val (.int (p5 &&& (3 : Int32))), .val (.int tw), .val (.int (p1.toInt8.toInt32)), .val (.int (p2.toInt8.toInt32)), .val (.int (p3.toInt8.toInt32)), .val (.int (p4.toInt8.toInt32)), .val (.ref b3), .val (.int (1 : Int32))] [(.int (2 : Int32)), (.ref b3)])) _
      refine st23c.trans ?_
      show Steps p.tables e below (T23c.setTop (mkF m 299 #[.val (.int p1), .val (.int p2), .val (.int p3), .val (.int p4), .val (.int p5), .val (.int (p5 &&& (3 : Int32))), .val (.int tw), .val (.int (p1.toInt8.toInt32)), .val (.int (p2.toInt8.toInt32)), .val (.int (p3.toInt8.toInt32)), .val (.int (p4.toInt8.toInt32)), .val (.ref b3), .val (.int (1 : Int32))] [(.int (nar .byte (nar .byte (p3.toInt8.toInt32))))])) _
      refine XS.iload X23c.here hx rfl (hb hby at_299) rfl ?_
      show Steps p.tables e below (T23c.setTop (mkF m 301 #[.val (.int p1), .val (.int p2), .val (.int p3), .val (.int p4), .val (.int p5), .val (.int (p5 &&& (3 : Int32))), .val (.int tw), .val (.int (p1.toInt8.toInt32)), .val (.int (p2.toInt8.toInt32)), .val (.int (p3.toInt8.toInt32)), .val (.int (p4.toInt8.toInt32)), .val (.ref b3), .val (.int (1 : Int32))] [(.int (p3.toInt8.toInt32)), (.int (nar .byte (nar .byte (p3.toInt8.toInt32))))])) _
      refine XS.icmpNo X23c.here hx rfl (hb hby at_301) rfl (teq (own_nar2 _)).2 ?_
      show Steps p.tables e below (T23c.setTop (mkF m 304 #[.val (.int p1), .val (.int p2), .val (.int p3), .val (.int p4), .val (.int p5), .val (.int (p5 &&& (3 : Int32))), .val (.int tw), .val (.int (p1.toInt8.toInt32)), .val (.int (p2.toInt8.toInt32)), .val (.int (p3.toInt8.toInt32)), .val (.int (p4.toInt8.toInt32)), .val (.ref b3), .val (.int (1 : Int32))] [])) _
      refine XS.iconst X23c.here hx rfl (hb hby at_304) ?_
      show Steps p.tables e below (T23c.setTop (mkF m 305 #[.val (.int p1), .val (.int p2), .val (.int p3), .val (.int p4), .val (.int p5), .val (.int (p5 &&& (3 : Int32))), .val (.int tw), .val (.int (p1.toInt8.toInt32)), .val (.int (p2.toInt8.toInt32)), .val (.int (p3.toInt8.toInt32)), .val (.int (p4.toInt8.toInt32)), .val (.ref b3), .val (.int (1 : Int32))] [(.int (1 : Int32))])) _
      refine XS.goto X23c.here hx rfl (pc0 := 305) (pc' := 309) rfl (hb hby at_305) (by decide) (by decide) ?_
      show Steps p.tables e below (T23c.setTop (mkF m 309 #[.val (.int p1), .val (.int p2), .val (.int p3), .val (.int p4), .val (.int p5), .val (.int (p5 &&& (3 : Int32))), .val (.int tw), .val (.int (p1.toInt8.toInt32)), .val (.int (p2.toInt8.toInt32)), .val (.int (p3.toInt8.toInt32)), .val (.int (p4.toInt8.toInt32)), .val (.ref b3), .val (.int (1 : Int32))] [(.int (1 : Int32))])) _
      refine XS.istore X23c.here hx rfl (hb hby at_309) rfl (l' := #[.val (.int p1), .val (.int p2), .val (.int p3), .val (.int p4), .val (.int p5), .val (.int (p5 &&& (3 : Int32))), .val (.int tw), .val (.int (p1.toInt8.toInt32)), .val (.int (p2.toInt8.toInt32)), .val (.int (p3.toInt8.toInt32)), .val (.int (p4.toInt8.toInt32)), .val (.ref b3), .val (.int (1 : Int32))]) rfl ?_
      exact kt
    · refine ⟨T22, _, X22, N22, Z22, C22, fun target kt => ?_⟩
      show Steps p.tables e below (T22.setTop (mkF m 285 #[.val (.int p1), .val (.int p2), .val (.int p3), .val (.int p4), .val (.int p5), .val (.int (p5 &&& (3 : Int32))), .val (.int tw), .val (.int (p1.toInt8.toInt32)), .val (.int (p2.toInt8.toInt32)), .val (.int (p3.toInt8.toInt32)), .val (.int (p4.toInt8.toInt32)), .val (.ref b3), .val (.int (1 : Int32))] [(.int (2 : Int32)), (.int (p5 &&& (3 : Int32)))])) _
      refine XS.icmpYes X22.here hx rfl (pc0 := 285) (pc' := 311) rfl (hb hby at_285) rfl (flt c).2.2.2 (by decide) (by decide) ?_
      exact kt
  obtain ⟨fs, hr, hrun, hended, hW, hsame⟩ := X23.leave (v := some (.int (1 : Int32))) (fun h => by rw [Bd.returns] at h; cases h)
  refine ⟨_, _, pre0 _ ?_, hrun, hended, _, _, rfl, ?_, ⟨_, rfl⟩, hW, hsame.mono (by decide) (by decide)⟩
  · show Steps p.tables e below (s₁.setTop (mkF m 0 #[.val (.int p1), .val (.int p2), .val (.int p3), .val (.int p4), .val (.int p5), .unset, .unset, .unset, .unset, .unset, .unset, .unset, .unset] [])) _
    refine XS.iload X0.here hx rfl (hb hby at_0) rfl ?_
    show Steps p.tables e below (s₁.setTop (mkF m 2 #[.val (.int p1), .val (.int p2), .val (.int p3), .val (.int p4), .val (.int p5), .unset, .unset, .unset, .unset, .unset, .unset, .unset, .unset] [(.int p5)])) _
    refine XS.iconst X0.here hx rfl (hb hby at_2) ?_
    show Steps p.tables e below (s₁.setTop (mkF m 3 #[.val (.int p1), .val (.int p2), .val (.int p3), .val (.int p4), .val (.int p5), .unset, .unset, .unset, .unset, .unset, .unset, .unset, .unset] [(.int (3 : Int32)), (.int p5)])) _
    refine XS.iand X0.here hx rfl (hb hby at_3) rfl ?_
    show Steps p.tables e below (s₁.setTop (mkF m 4 #[.val (.int p1), .val (.int p2), .val (.int p3), .val (.int p4), .val (.int p5), .unset, .unset, .unset, .unset, .unset, .unset, .unset, .unset] [(.int (p5 &&& (3 : Int32)))])) _
    refine XS.istore X0.here hx rfl (hb hby at_4) rfl (l' := #[.val (.int p1), .val (.int p2), .val (.int p3), .val (.int p4), .val (.int p5), .val (.int (p5 &&& (3 : Int32))), .unset, .unset, .unset, .unset, .unset, .unset, .unset]) rfl ?_
    show Steps p.tables e below (s₁.setTop (mkF m 6 #[.val (.int p1), .val (.int p2), .val (.int p3), .val (.int p4), .val (.int p5), .val (.int (p5 &&& (3 : Int32))), .unset, .unset, .unset, .unset, .unset, .unset, .unset] [])) _
    refine XS.iload X0.here hx rfl (hb hby at_6) rfl ?_
    show Steps p.tables e below (s₁.setTop (mkF m 8 #[.val (.int p1), .val (.int p2), .val (.int p3), .val (.int p4), .val (.int p5), .val (.int (p5 &&& (3 : Int32))), .unset, .unset, .unset, .unset, .unset, .unset, .unset] [(.int p5)])) _
    refine XS.iconst X0.here hx rfl (hb hby at_8) ?_
    show Steps p.tables e below (s₁.setTop (mkF m 9 #[.val (.int p1), .val (.int p2), .val (.int p3), .val (.int p4), .val (.int p5), .val (.int (p5 &&& (3 : Int32))), .unset, .unset, .unset, .unset, .unset, .unset, .unset] [(.int (2 : Int32)), (.int p5)])) _
    refine XS.ishr X0.here hx rfl (hb hby at_9) rfl ?_
    show Steps p.tables e below (s₁.setTop (mkF m 10 #[.val (.int p1), .val (.int p2), .val (.int p3), .val (.int p4), .val (.int p5), .val (.int (p5 &&& (3 : Int32))), .unset, .unset, .unset, .unset, .unset, .unset, .unset] [(.int (p5 >>> ((2 : Int32) &&& 31)))])) _
    refine XS.iconst X0.here hx rfl (hb hby at_10) ?_
    show Steps p.tables e below (s₁.setTop (mkF m 11 #[.val (.int p1), .val (.int p2), .val (.int p3), .val (.int p4), .val (.int p5), .val (.int (p5 &&& (3 : Int32))), .unset, .unset, .unset, .unset, .unset, .unset, .unset] [(.int (1 : Int32)), (.int (p5 >>> ((2 : Int32) &&& 31)))])) _
    refine XS.iand X0.here hx rfl (hb hby at_11) rfl ?_
    refine stt _ ?_
    show Steps p.tables e below (s₁.setTop (mkF m 20 #[.val (.int p1), .val (.int p2), .val (.int p3), .val (.int p4), .val (.int p5), .val (.int (p5 &&& (3 : Int32))), .unset, .unset, .unset, .unset, .unset, .unset, .unset] [(.int tw)])) _
    refine XS.istore X0.here hx rfl (hb hby at_20) rfl (l' := #[.val (.int p1), .val (.int p2), .val (.int p3), .val (.int p4), .val (.int p5), .val (.int (p5 &&& (3 : Int32))), .val (.int tw), .unset, .unset, .unset, .unset, .unset, .unset]) rfl ?_
    show Steps p.tables e below (s₁.setTop (mkF m 22 #[.val (.int p1), .val (.int p2), .val (.int p3), .val (.int p4), .val (.int p5), .val (.int (p5 &&& (3 : Int32))), .val (.int tw), .unset, .unset, .unset, .unset, .unset, .unset] [])) _
    refine XS.iloadN X0.here hx rfl (hb hby at_22) rfl ?_
    show Steps p.tables e below (s₁.setTop (mkF m 23 #[.val (.int p1), .val (.int p2), .val (.int p3), .val (.int p4), .val (.int p5), .val (.int (p5 &&& (3 : Int32))), .val (.int tw), .unset, .unset, .unset, .unset, .unset, .unset] [(.int p1)])) _
    refine XS.i2b X0.here hx rfl (hb hby at_23) rfl ?_
    show Steps p.tables e below (s₁.setTop (mkF m 24 #[.val (.int p1), .val (.int p2), .val (.int p3), .val (.int p4), .val (.int p5), .val (.int (p5 &&& (3 : Int32))), .val (.int tw), .unset, .unset, .unset, .unset, .unset, .unset] [(.int (p1.toInt8.toInt32))])) _
    refine XS.istore X0.here hx rfl (hb hby at_24) rfl (l' := #[.val (.int p1), .val (.int p2), .val (.int p3), .val (.int p4), .val (.int p5), .val (.int (p5 &&& (3 : Int32))), .val (.int tw), .val (.int (p1.toInt8.toInt32)), .unset, .unset, .unset, .unset, .unset]) rfl ?_
    show Steps p.tables e below (s₁.setTop (mkF m 26 #[.val (.int p1), .val (.int p2), .val (.int p3), .val (.int p4), .val (.int p5), .val (.int (p5 &&& (3 : Int32))), .val (.int tw), .val (.int (p1.toInt8.toInt32)), .unset, .unset, .unset, .unset, .unset] [])) _
    refine XS.iloadN X0.here hx rfl (hb hby at_26) rfl ?_
    show Steps p.tables e below (s₁.setTop (mkF m 27 #[.val (.int p1), .val (.int p2), .val (.int p3), .val (.int p4), .val (.int p5), .val (.int (p5 &&& (3 : Int32))), .val (.int tw), .val (.int (p1.toInt8.toInt32)), .unset, .unset, .unset, .unset, .unset] [(.int p2)])) _
    refine XS.i2b X0.here hx rfl (hb hby at_27) rfl ?_
    show Steps p.tables e below (s₁.setTop (mkF m 28 #[.val (.int p1), .val (.int p2), .val (.int p3), .val (.int p4), .val (.int p5), .val (.int (p5 &&& (3 : Int32))), .val (.int tw), .val (.int (p1.toInt8.toInt32)), .unset, .unset, .unset, .unset, .unset] [(.int (p2.toInt8.toInt32))])) _
    refine XS.istore X0.here hx rfl (hb hby at_28) rfl (l' := #[.val (.int p1), .val (.int p2), .val (.int p3), .val (.int p4), .val (.int p5), .val (.int (p5 &&& (3 : Int32))), .val (.int tw), .val (.int (p1.toInt8.toInt32)), .val (.int (p2.toInt8.toInt32)), .unset, .unset, .unset, .unset]) rfl ?_
    show Steps p.tables e below (s₁.setTop (mkF m 30 #[.val (.int p1), .val (.int p2), .val (.int p3), .val (.int p4), .val (.int p5), .val (.int (p5 &&& (3 : Int32))), .val (.int tw), .val (.int (p1.toInt8.toInt32)), .val (.int (p2.toInt8.toInt32)), .unset, .unset, .unset, .unset] [])) _
    refine XS.iloadN X0.here hx rfl (hb hby at_30) rfl ?_
    show Steps p.tables e below (s₁.setTop (mkF m 31 #[.val (.int p1), .val (.int p2), .val (.int p3), .val (.int p4), .val (.int p5), .val (.int (p5 &&& (3 : Int32))), .val (.int tw), .val (.int (p1.toInt8.toInt32)), .val (.int (p2.toInt8.toInt32)), .unset, .unset, .unset, .unset] [(.int p3)])) _
    refine XS.i2b X0.here hx rfl (hb hby at_31) rfl ?_
    show Steps p.tables e below (s₁.setTop (mkF m 32 #[.val (.int p1), .val (.int p2), .val (.int p3), .val (.int p4), .val (.int p5), .val (.int (p5 &&& (3 : Int32))), .val (.int tw), .val (.int (p1.toInt8.toInt32)), .val (.int (p2.toInt8.toInt32)), .unset, .unset, .unset, .unset] [(.int (p3.toInt8.toInt32))])) _
    refine XS.istore X0.here hx rfl (hb hby at_32) rfl (l' := #[.val (.int p1), .val (.int p2), .val (.int p3), .val (.int p4), .val (.int p5), .val (.int (p5 &&& (3 : Int32))), .val (.int tw), .val (.int (p1.toInt8.toInt32)), .val (.int (p2.toInt8.toInt32)), .val (.int (p3.toInt8.toInt32)), .unset, .unset, .unset]) rfl ?_
    show Steps p.tables e below (s₁.setTop (mkF m 34 #[.val (.int p1), .val (.int p2), .val (.int p3), .val (.int p4), .val (.int p5), .val (.int (p5 &&& (3 : Int32))), .val (.int tw), .val (.int (p1.toInt8.toInt32)), .val (.int (p2.toInt8.toInt32)), .val (.int (p3.toInt8.toInt32)), .unset, .unset, .unset] [])) _
    refine XS.iloadN X0.here hx rfl (hb hby at_34) rfl ?_
    show Steps p.tables e below (s₁.setTop (mkF m 35 #[.val (.int p1), .val (.int p2), .val (.int p3), .val (.int p4), .val (.int p5), .val (.int (p5 &&& (3 : Int32))), .val (.int tw), .val (.int (p1.toInt8.toInt32)), .val (.int (p2.toInt8.toInt32)), .val (.int (p3.toInt8.toInt32)), .unset, .unset, .unset] [(.int p4)])) _
    refine XS.i2b X0.here hx rfl (hb hby at_35) rfl ?_
    show Steps p.tables e below (s₁.setTop (mkF m 36 #[.val (.int p1), .val (.int p2), .val (.int p3), .val (.int p4), .val (.int p5), .val (.int (p5 &&& (3 : Int32))), .val (.int tw), .val (.int (p1.toInt8.toInt32)), .val (.int (p2.toInt8.toInt32)), .val (.int (p3.toInt8.toInt32)), .unset, .unset, .unset] [(.int (p4.toInt8.toInt32))])) _
    refine XS.istore X0.here hx rfl (hb hby at_36) rfl (l' := #[.val (.int p1), .val (.int p2), .val (.int p3), .val (.int p4), .val (.int p5), .val (.int (p5 &&& (3 : Int32))), .val (.int tw), .val (.int (p1.toInt8.toInt32)), .val (.int (p2.toInt8.toInt32)), .val (.int (p3.toInt8.toInt32)), .val (.int (p4.toInt8.toInt32)), .unset, .unset]) rfl ?_
    show Steps p.tables e below (s₁.setTop (mkF m 38 #[.val (.int p1), .val (.int p2), .val (.int p3), .val (.int p4), .val (.int p5), .val (.int (p5 &&& (3 : Int32))), .val (.int tw), .val (.int (p1.toInt8.toInt32)), .val (.int (p2.toInt8.toInt32)), .val (.int (p3.toInt8.toInt32)), .val (.int (p4.toInt8.toInt32)), .unset, .unset] [])) _
    refine st3 _ ?_
    show Steps p.tables e below (T3.setTop (mkF m 41 #[.val (.int p1), .val (.int p2), .val (.int p3), .val (.int p4), .val (.int p5), .val (.int (p5 &&& (3 : Int32))), .val (.int tw), .val (.int (p1.toInt8.toInt32)), .val (.int (p2.toInt8.toInt32)), .val (.int (p3.toInt8.toInt32)), .val (.int (p4.toInt8.toInt32)), .unset, .unset] [(.ref b3)])) _
    refine XS.dup X3.here hx rfl (hb hby at_41) rfl rfl ?_
    show Steps p.tables e below (T3.setTop (mkF m 42 #[.val (.int p1), .val (.int p2), .val (.int p3), .val (.int p4), .val (.int p5), .val (.int (p5 &&& (3 : Int32))), .val (.int tw), .val (.int (p1.toInt8.toInt32)), .val (.int (p2.toInt8.toInt32)), .val (.int (p3.toInt8.toInt32)), .val (.int (p4.toInt8.toInt32)), .unset, .unset] [(.ref b3), (.ref b3)])) _
    refine st4.trans ?_
    show Steps p.tables e below (T4.setTop (mkF m 45 #[.val (.int p1), .val (.int p2), .val (.int p3), .val (.int p4), .val (.int p5), .val (.int (p5 &&& (3 : Int32))), .val (.int tw), .val (.int (p1.toInt8.toInt32)), .val (.int (p2.toInt8.toInt32)), .val (.int (p3.toInt8.toInt32)), .val (.int (p4.toInt8.toInt32)), .unset, .unset] [(.ref b3)])) _
    refine XS.astore X4.here hx rfl (hb hby at_45) rfl rfl (l' := #[.val (.int p1), .val (.int p2), .val (.int p3), .val (.int p4), .val (.int p5), .val (.int (p5 &&& (3 : Int32))), .val (.int tw), .val (.int (p1.toInt8.toInt32)), .val (.int (p2.toInt8.toInt32)), .val (.int (p3.toInt8.toInt32)), .val (.int (p4.toInt8.toInt32)), .val (.ref b3), .unset]) rfl ?_
    show Steps p.tables e below (T4.setTop (mkF m 47 #[.val (.int p1), .val (.int p2), .val (.int p3), .val (.int p4), .val (.int p5), .val (.int (p5 &&& (3 : Int32))), .val (.int tw), .val (.int (p1.toInt8.toInt32)), .val (.int (p2.toInt8.toInt32)), .val (.int (p3.toInt8.toInt32)), .val (.int (p4.toInt8.toInt32)), .val (.ref b3), .unset] [])) _
    refine XS.iload X4.here hx rfl (hb hby at_47) rfl ?_
    refine st10 _ ?_
    show Steps p.tables e below (T10.setTop (mkF m 59 #[.val (.int p1), .val (.int p2), .val (.int p3), .val (.int p4), .val (.int p5), .val (.int (p5 &&& (3 : Int32))), .val (.int tw), .val (.int (p1.toInt8.toInt32)), .val (.int (p2.toInt8.toInt32)), .val (.int (p3.toInt8.toInt32)), .val (.int (p4.toInt8.toInt32)), .val (.ref b3), .unset] [])) _
    refine XS.iload X10.here hx rfl (hb hby at_59) rfl ?_
    show Steps p.tables e below (T10.setTop (mkF m 61 #[.val (.int p1), .val (.int p2), .val (.int p3), .val (.int p4), .val (.int p5), .val (.int (p5 &&& (3 : Int32))), .val (.int tw), .val (.int (p1.toInt8.toInt32)), .val (.int (p2.toInt8.toInt32)), .val (.int (p3.toInt8.toInt32)), .val (.int (p4.toInt8.toInt32)), .val (.ref b3), .unset] [(.int (p5 &&& (3 : Int32)))])) _
    refine XS.iconst X10.here hx rfl (hb hby at_61) ?_
    refine st11 _ ?_
    show Steps p.tables e below (T11.setTop (mkF m 72 #[.val (.int p1), .val (.int p2), .val (.int p3), .val (.int p4), .val (.int p5), .val (.int (p5 &&& (3 : Int32))), .val (.int tw), .val (.int (p1.toInt8.toInt32)), .val (.int (p2.toInt8.toInt32)), .val (.int (p3.toInt8.toInt32)), .val (.int (p4.toInt8.toInt32)), .val (.ref b3), .unset] [])) _
    refine XS.iload X11.here hx rfl (hb hby at_72) rfl ?_
    show Steps p.tables e below (T11.setTop (mkF m 74 #[.val (.int p1), .val (.int p2), .val (.int p3), .val (.int p4), .val (.int p5), .val (.int (p5 &&& (3 : Int32))), .val (.int tw), .val (.int (p1.toInt8.toInt32)), .val (.int (p2.toInt8.toInt32)), .val (.int (p3.toInt8.toInt32)), .val (.int (p4.toInt8.toInt32)), .val (.ref b3), .unset] [(.int (p5 &&& (3 : Int32)))])) _
    refine XS.iconst X11.here hx rfl (hb hby at_74) ?_
    refine st12 _ ?_
    show Steps p.tables e below (T12.setTop (mkF m 85 #[.val (.int p1), .val (.int p2), .val (.int p3), .val (.int p4), .val (.int p5), .val (.int (p5 &&& (3 : Int32))), .val (.int tw), .val (.int (p1.toInt8.toInt32)), .val (.int (p2.toInt8.toInt32)), .val (.int (p3.toInt8.toInt32)), .val (.int (p4.toInt8.toInt32)), .val (.ref b3), .unset] [])) _
    refine XS.aload X12.here hx rfl (hb hby at_85) rfl rfl ?_
    show Steps p.tables e below (T12.setTop (mkF m 87 #[.val (.int p1), .val (.int p2), .val (.int p3), .val (.int p4), .val (.int p5), .val (.int (p5 &&& (3 : Int32))), .val (.int tw), .val (.int (p1.toInt8.toInt32)), .val (.int (p2.toInt8.toInt32)), .val (.int (p3.toInt8.toInt32)), .val (.int (p4.toInt8.toInt32)), .val (.ref b3), .unset] [(.ref b3)])) _
    refine st13.trans ?_
    show Steps p.tables e below (T13.setTop (mkF m 90 #[.val (.int p1), .val (.int p2), .val (.int p3), .val (.int p4), .val (.int p5), .val (.int (p5 &&& (3 : Int32))), .val (.int tw), .val (.int (p1.toInt8.toInt32)), .val (.int (p2.toInt8.toInt32)), .val (.int (p3.toInt8.toInt32)), .val (.int (p4.toInt8.toInt32)), .val (.ref b3), .unset] [])) _
    refine XS.iload X13.here hx rfl (hb hby at_90) rfl ?_
    refine st14 _ ?_
    show Steps p.tables e below (T14.setTop (mkF m 100 #[.val (.int p1), .val (.int p2), .val (.int p3), .val (.int p4), .val (.int p5), .val (.int (p5 &&& (3 : Int32))), .val (.int tw), .val (.int (p1.toInt8.toInt32)), .val (.int (p2.toInt8.toInt32)), .val (.int (p3.toInt8.toInt32)), .val (.int (p4.toInt8.toInt32)), .val (.ref b3), .unset] [])) _
    refine XS.iconst X14.here hx rfl (hb hby at_100) ?_
    show Steps p.tables e below (T14.setTop (mkF m 101 #[.val (.int p1), .val (.int p2), .val (.int p3), .val (.int p4), .val (.int p5), .val (.int (p5 &&& (3 : Int32))), .val (.int tw), .val (.int (p1.toInt8.toInt32)), .val (.int (p2.toInt8.toInt32)), .val (.int (p3.toInt8.toInt32)), .val (.int (p4.toInt8.toInt32)), .val (.ref b3), .unset] [(.int (1 : Int32))])) _
    refine XS.istore X14.here hx rfl (hb hby at_101) rfl (l' := #[.val (.int p1), .val (.int p2), .val (.int p3), .val (.int p4), .val (.int p5), .val (.int (p5 &&& (3 : Int32))), .val (.int tw), .val (.int (p1.toInt8.toInt32)), .val (.int (p2.toInt8.toInt32)), .val (.int (p3.toInt8.toInt32)), .val (.int (p4.toInt8.toInt32)), .val (.ref b3), .val (.int (1 : Int32))]) rfl ?_
    show Steps p.tables e below (T14.setTop (mkF m 103 #[.val (.int p1), .val (.int p2), .val (.int p3), .val (.int p4), .val (.int p5), .val (.int (p5 &&& (3 : Int32))), .val (.int tw), .val (.int (p1.toInt8.toInt32)), .val (.int (p2.toInt8.toInt32)), .val (.int (p3.toInt8.toInt32)), .val (.int (p4.toInt8.toInt32)), .val (.ref b3), .val (.int (1 : Int32))] [])) _
    refine XS.iload X14.here hx rfl (hb hby at_103) rfl ?_
    refine st15 _ ?_
    show Steps p.tables e below (T15.setTop (mkF m 131 #[.val (.int p1), .val (.int p2), .val (.int p3), .val (.int p4), .val (.int p5), .val (.int (p5 &&& (3 : Int32))), .val (.int tw), .val (.int (p1.toInt8.toInt32)), .val (.int (p2.toInt8.toInt32)), .val (.int (p3.toInt8.toInt32)), .val (.int (p4.toInt8.toInt32)), .val (.ref b3), .val (.int (1 : Int32))] [])) _
    refine XS.iload X15.here hx rfl (hb hby at_131) rfl ?_
    show Steps p.tables e below (T15.setTop (mkF m 133 #[.val (.int p1), .val (.int p2), .val (.int p3), .val (.int p4), .val (.int p5), .val (.int (p5 &&& (3 : Int32))), .val (.int tw), .val (.int (p1.toInt8.toInt32)), .val (.int (p2.toInt8.toInt32)), .val (.int (p3.toInt8.toInt32)), .val (.int (p4.toInt8.toInt32)), .val (.ref b3), .val (.int (1 : Int32))] [(.int (p5 &&& (3 : Int32)))])) _
    refine XS.iconst X15.here hx rfl (hb hby at_133) ?_
    refine st16 _ ?_
    show Steps p.tables e below (T16.setTop (mkF m 160 #[.val (.int p1), .val (.int p2), .val (.int p3), .val (.int p4), .val (.int p5), .val (.int (p5 &&& (3 : Int32))), .val (.int tw), .val (.int (p1.toInt8.toInt32)), .val (.int (p2.toInt8.toInt32)), .val (.int (p3.toInt8.toInt32)), .val (.int (p4.toInt8.toInt32)), .val (.ref b3), .val (.int (1 : Int32))] [])) _
    refine XS.iload X16.here hx rfl (hb hby at_160) rfl ?_
    show Steps p.tables e below (T16.setTop (mkF m 162 #[.val (.int p1), .val (.int p2), .val (.int p3), .val (.int p4), .val (.int p5), .val (.int (p5 &&& (3 : Int32))), .val (.int tw), .val (.int (p1.toInt8.toInt32)), .val (.int (p2.toInt8.toInt32)), .val (.int (p3.toInt8.toInt32)), .val (.int (p4.toInt8.toInt32)), .val (.ref b3), .val (.int (1 : Int32))] [(.int (p5 &&& (3 : Int32)))])) _
    refine XS.iconst X16.here hx rfl (hb hby at_162) ?_
    refine st17 _ ?_
    show Steps p.tables e below (T17.setTop (mkF m 189 #[.val (.int p1), .val (.int p2), .val (.int p3), .val (.int p4), .val (.int p5), .val (.int (p5 &&& (3 : Int32))), .val (.int tw), .val (.int (p1.toInt8.toInt32)), .val (.int (p2.toInt8.toInt32)), .val (.int (p3.toInt8.toInt32)), .val (.int (p4.toInt8.toInt32)), .val (.ref b3), .val (.int (1 : Int32))] [])) _
    refine XS.aload X17.here hx rfl (hb hby at_189) rfl rfl ?_
    show Steps p.tables e below (T17.setTop (mkF m 191 #[.val (.int p1), .val (.int p2), .val (.int p3), .val (.int p4), .val (.int p5), .val (.int (p5 &&& (3 : Int32))), .val (.int tw), .val (.int (p1.toInt8.toInt32)), .val (.int (p2.toInt8.toInt32)), .val (.int (p3.toInt8.toInt32)), .val (.int (p4.toInt8.toInt32)), .val (.ref b3), .val (.int (1 : Int32))] [(.ref b3)])) _
    refine XS.iload X17.here hx rfl (hb hby at_191) rfl ?_
    show Steps p.tables e below (T17.setTop (mkF m 193 #[.val (.int p1), .val (.int p2), .val (.int p3), .val (.int p4), .val (.int p5), .val (.int (p5 &&& (3 : Int32))), .val (.int tw), .val (.int (p1.toInt8.toInt32)), .val (.int (p2.toInt8.toInt32)), .val (.int (p3.toInt8.toInt32)), .val (.int (p4.toInt8.toInt32)), .val (.ref b3), .val (.int (1 : Int32))] [(.int (p4.toInt8.toInt32)), (.ref b3)])) _
    refine st18.trans ?_
    show Steps p.tables e below (T18.setTop (mkF m 196 #[.val (.int p1), .val (.int p2), .val (.int p3), .val (.int p4), .val (.int p5), .val (.int (p5 &&& (3 : Int32))), .val (.int tw), .val (.int (p1.toInt8.toInt32)), .val (.int (p2.toInt8.toInt32)), .val (.int (p3.toInt8.toInt32)), .val (.int (p4.toInt8.toInt32)), .val (.ref b3), .val (.int (1 : Int32))] [])) _
    refine XS.aload X18.here hx rfl (hb hby at_196) rfl rfl ?_
    show Steps p.tables e below (T18.setTop (mkF m 198 #[.val (.int p1), .val (.int p2), .val (.int p3), .val (.int p4), .val (.int p5), .val (.int (p5 &&& (3 : Int32))), .val (.int tw), .val (.int (p1.toInt8.toInt32)), .val (.int (p2.toInt8.toInt32)), .val (.int (p3.toInt8.toInt32)), .val (.int (p4.toInt8.toInt32)), .val (.ref b3), .val (.int (1 : Int32))] [(.ref b3)])) _
    refine st19.trans ?_
    show Steps p.tables e below (T19.setTop (mkF m 201 #[.val (.int p1), .val (.int p2), .val (.int p3), .val (.int p4), .val (.int p5), .val (.int (p5 &&& (3 : Int32))), .val (.int tw), .val (.int (p1.toInt8.toInt32)), .val (.int (p2.toInt8.toInt32)), .val (.int (p3.toInt8.toInt32)), .val (.int (p4.toInt8.toInt32)), .val (.ref b3), .val (.int (1 : Int32))] [])) _
    refine XS.iload X19.here hx rfl (hb hby at_201) rfl ?_
    show Steps p.tables e below (T19.setTop (mkF m 203 #[.val (.int p1), .val (.int p2), .val (.int p3), .val (.int p4), .val (.int p5), .val (.int (p5 &&& (3 : Int32))), .val (.int tw), .val (.int (p1.toInt8.toInt32)), .val (.int (p2.toInt8.toInt32)), .val (.int (p3.toInt8.toInt32)), .val (.int (p4.toInt8.toInt32)), .val (.ref b3), .val (.int (1 : Int32))] [(.int (1 : Int32))])) _
    refine XS.ifNo X19.here hx rfl (hb hby at_203) rfl ((if0 _ _).trans (feq (by decide)).1) ?_
    show Steps p.tables e below (T19.setTop (mkF m 206 #[.val (.int p1), .val (.int p2), .val (.int p3), .val (.int p4), .val (.int p5), .val (.int (p5 &&& (3 : Int32))), .val (.int tw), .val (.int (p1.toInt8.toInt32)), .val (.int (p2.toInt8.toInt32)), .val (.int (p3.toInt8.toInt32)), .val (.int (p4.toInt8.toInt32)), .val (.ref b3), .val (.int (1 : Int32))] [])) _
    refine XS.aload X19.here hx rfl (hb hby at_206) rfl rfl ?_
    show Steps p.tables e below (T19.setTop (mkF m 208 #[.val (.int p1), .val (.int p2), .val (.int p3), .val (.int p4), .val (.int p5), .val (.int (p5 &&& (3 : Int32))), .val (.int tw), .val (.int (p1.toInt8.toInt32)), .val (.int (p2.toInt8.toInt32)), .val (.int (p3.toInt8.toInt32)), .val (.int (p4.toInt8.toInt32)), .val (.ref b3), .val (.int (1 : Int32))] [(.ref b3)])) _
    refine XS.iload X19.here hx rfl (hb hby at_208) rfl ?_
    show Steps p.tables e below (T19.setTop (mkF m 210 #[.val (.int p1), .val (.int p2), .val (.int p3), .val (.int p4), .val (.int p5), .val (.int (p5 &&& (3 : Int32))), .val (.int tw), .val (.int (p1.toInt8.toInt32)), .val (.int (p2.toInt8.toInt32)), .val (.int (p3.toInt8.toInt32)), .val (.int (p4.toInt8.toInt32)), .val (.ref b3), .val (.int (1 : Int32))] [(.int (p5 &&& (3 : Int32))), (.ref b3)])) _
    refine st20.trans ?_
    show Steps p.tables e below (T20.setTop (mkF m 213 #[.val (.int p1), .val (.int p2), .val (.int p3), .val (.int p4), .val (.int p5), .val (.int (p5 &&& (3 : Int32))), .val (.int tw), .val (.int (p1.toInt8.toInt32)), .val (.int (p2.toInt8.toInt32)), .val (.int (p3.toInt8.toInt32)), .val (.int (p4.toInt8.toInt32)), .val (.ref b3), .val (.int (1 : Int32))] [(.int (nar .byte (nar .byte (p4.toInt8.toInt32))))])) _
    refine XS.iload X20.here hx rfl (hb hby at_213) rfl ?_
    show Steps p.tables e below (T20.setTop (mkF m 215 #[.val (.int p1), .val (.int p2), .val (.int p3), .val (.int p4), .val (.int p5), .val (.int (p5 &&& (3 : Int32))), .val (.int tw), .val (.int (p1.toInt8.toInt32)), .val (.int (p2.toInt8.toInt32)), .val (.int (p3.toInt8.toInt32)), .val (.int (p4.toInt8.toInt32)), .val (.ref b3), .val (.int (1 : Int32))] [(.int (p4.toInt8.toInt32)), (.int (nar .byte (nar .byte (p4.toInt8.toInt32))))])) _
    refine XS.icmpNo X20.here hx rfl (hb hby at_215) rfl (teq (own_nar2 _)).2 ?_
    show Steps p.tables e below (T20.setTop (mkF m 218 #[.val (.int p1), .val (.int p2), .val (.int p3), .val (.int p4), .val (.int p5), .val (.int (p5 &&& (3 : Int32))), .val (.int tw), .val (.int (p1.toInt8.toInt32)), .val (.int (p2.toInt8.toInt32)), .val (.int (p3.toInt8.toInt32)), .val (.int (p4.toInt8.toInt32)), .val (.ref b3), .val (.int (1 : Int32))] [])) _
    refine XS.iconst X20.here hx rfl (hb hby at_218) ?_
    show Steps p.tables e below (T20.setTop (mkF m 219 #[.val (.int p1), .val (.int p2), .val (.int p3), .val (.int p4), .val (.int p5), .val (.int (p5 &&& (3 : Int32))), .val (.int tw), .val (.int (p1.toInt8.toInt32)), .val (.int (p2.toInt8.toInt32)), .val (.int (p3.toInt8.toInt32)), .val (.int (p4.toInt8.toInt32)), .val (.ref b3), .val (.int (1 : Int32))] [(.int (1 : Int32))])) _
    refine XS.goto X20.here hx rfl (pc0 := 219) (pc' := 223) rfl (hb hby at_219) (by decide) (by decide) ?_
    show Steps p.tables e below (T20.setTop (mkF m 223 #[.val (.int p1), .val (.int p2), .val (.int p3), .val (.int p4), .val (.int p5), .val (.int (p5 &&& (3 : Int32))), .val (.int tw), .val (.int (p1.toInt8.toInt32)), .val (.int (p2.toInt8.toInt32)), .val (.int (p3.toInt8.toInt32)), .val (.int (p4.toInt8.toInt32)), .val (.ref b3), .val (.int (1 : Int32))] [(.int (1 : Int32))])) _
    refine XS.istore X20.here hx rfl (hb hby at_223) rfl (l' := #[.val (.int p1), .val (.int p2), .val (.int p3), .val (.int p4), .val (.int p5), .val (.int (p5 &&& (3 : Int32))), .val (.int tw), .val (.int (p1.toInt8.toInt32)), .val (.int (p2.toInt8.toInt32)), .val (.int (p3.toInt8.toInt32)), .val (.int (p4.toInt8.toInt32)), .val (.ref b3), .val (.int (1 : Int32))]) rfl ?_
    show Steps p.tables e below (T20.setTop (mkF m 225 #[.val (.int p1), .val (.int p2), .val (.int p3), .val (.int p4), .val (.int p5), .val (.int (p5 &&& (3 : Int32))), .val (.int tw), .val (.int (p1.toInt8.toInt32)), .val (.int (p2.toInt8.toInt32)), .val (.int (p3.toInt8.toInt32)), .val (.int (p4.toInt8.toInt32)), .val (.ref b3), .val (.int (1 : Int32))] [])) _
    refine XS.iload X20.here hx rfl (hb hby at_225) rfl ?_
    refine st21 _ ?_
    show Steps p.tables e below (T21.setTop (mkF m 253 #[.val (.int p1), .val (.int p2), .val (.int p3), .val (.int p4), .val (.int p5), .val (.int (p5 &&& (3 : Int32))), .val (.int tw), .val (.int (p1.toInt8.toInt32)), .val (.int (p2.toInt8.toInt32)), .val (.int (p3.toInt8.toInt32)), .val (.int (p4.toInt8.toInt32)), .val (.ref b3), .val (.int (1 : Int32))] [])) _
    refine XS.iload X21.here hx rfl (hb hby at_253) rfl ?_
    show Steps p.tables e below (T21.setTop (mkF m 255 #[.val (.int p1), .val (.int p2), .val (.int p3), .val (.int p4), .val (.int p5), .val (.int (p5 &&& (3 : Int32))), .val (.int tw), .val (.int (p1.toInt8.toInt32)), .val (.int (p2.toInt8.toInt32)), .val (.int (p3.toInt8.toInt32)), .val (.int (p4.toInt8.toInt32)), .val (.ref b3), .val (.int (1 : Int32))] [(.int (p5 &&& (3 : Int32)))])) _
    refine XS.iconst X21.here hx rfl (hb hby at_255) ?_
    refine st22 _ ?_
    show Steps p.tables e below (T22.setTop (mkF m 282 #[.val (.int p1), .val (.int p2), .val (.int p3), .val (.int p4), .val (.int p5), .val (.int (p5 &&& (3 : Int32))), .val (.int tw), .val (.int (p1.toInt8.toInt32)), .val (.int (p2.toInt8.toInt32)), .val (.int (p3.toInt8.toInt32)), .val (.int (p4.toInt8.toInt32)), .val (.ref b3), .val (.int (1 : Int32))] [])) _
    refine XS.iload X22.here hx rfl (hb hby at_282) rfl ?_
    show Steps p.tables e below (T22.setTop (mkF m 284 #[.val (.int p1), .val (.int p2), .val (.int p3), .val (.int p4), .val (.int p5), .val (.int (p5 &&& (3 : Int32))), .val (.int tw), .val (.int (p1.toInt8.toInt32)), .val (.int (p2.toInt8.toInt32)), .val (.int (p3.toInt8.toInt32)), .val (.int (p4.toInt8.toInt32)), .val (.ref b3), .val (.int (1 : Int32))] [(.int (p5 &&& (3 : Int32)))])) _
    refine XS.iconst X22.here hx rfl (hb hby at_284) ?_
    refine st23 _ ?_
    show Steps p.tables e below (T23.setTop (mkF m 311 #[.val (.int p1), .val (.int p2), .val (.int p3), .val (.int p4), .val (.int p5), .val (.int (p5 &&& (3 : Int32))), .val (.int tw), .val (.int (p1.toInt8.toInt32)), .val (.int (p2.toInt8.toInt32)), .val (.int (p3.toInt8.toInt32)), .val (.int (p4.toInt8.toInt32)), .val (.ref b3), .val (.int (1 : Int32))] [])) _
    refine XS.iload X23.here hx rfl (hb hby at_311) rfl ?_
    show Steps p.tables e below (T23.setTop (mkF m 313 #[.val (.int p1), .val (.int p2), .val (.int p3), .val (.int p4), .val (.int p5), .val (.int (p5 &&& (3 : Int32))), .val (.int tw), .val (.int (p1.toInt8.toInt32)), .val (.int (p2.toInt8.toInt32)), .val (.int (p3.toInt8.toInt32)), .val (.int (p4.toInt8.toInt32)), .val (.ref b3), .val (.int (1 : Int32))] [(.int (1 : Int32))])) _
    exact retN X23 hx (t := .boolean) Bd.returns (by simp) (hb hby at_313) hr
  · show Q0 Z p1 p2 p3 p4 p5 h0 n0 _ T23.heap _
    exact ⟨rfl, N23⟩
set_option maxRecDepth 65536 in
set_option maxHeartbeats 40000000 in
theorem comes_1 {Post : Tables → Env → Array Value → State → Outcome → State → Prop} (hpost : ∀ tb e args s v u, (limb_1_1.after args s (.returned v) u = true ∧ limb_1_2.after args s (.returned v) u = true ∧ True) → FrameEnd s (.returned v) u (Jvm.fieldLocs frame_1_writes args s ++ Jvm.arrayLocs frame_1_arrays args s ++ Jvm.staticLocs frame_1_statics s) 24 192 → Post tb e args s (.returned v) u) :
    ArmFor flags0 classFile x code maxLocals ret World_1 tables_1 room_1 Calls_1 rest_1 Pre_1 Post := by
  intro l hfl _ _ p e ha hc hk s m args below hf hA hF happ hP
  obtain ⟨hcalls, hrest, hpre⟩ := hP
  obtain ⟨-, -, -, hnamed, -, -, -, hat⟩ := (Spec.applies_iff hf).mp happ
  obtain ⟨hg, hn⟩ := and_e (Cond.before_iff.mp (show (Jvm.Cond.and given_1 narrow_1).before args s = true from hpre))
  obtain ⟨ga0, gb0⟩ := and_e hg
  obtain ⟨ga1, gb1⟩ := and_e gb0
  obtain ⟨ga2, gb2⟩ := and_e gb1
  obtain ⟨ga3, gb3⟩ := and_e gb2
  obtain ⟨ga4, gb4⟩ := and_e gb3
  obtain ⟨w0, w1, w2, w3, w4, rfl⟩ : ∃ w0 w1 w2 w3 w4 : Value, args = #[w0, w1, w2, w3, w4] := by
    have hs : args.size = 5 := by simpa [Cond.value, given_1] using ga0
    obtain ⟨L⟩ := args
    match L, hs with
    | [w0, w1, w2, w3, w4], _ => exact ⟨w0, w1, w2, w3, w4, rfl⟩
  have hw := fun d (hd : d ∈ tables_1) => atoms_spec (ws := Jvm.Cond.code x code maxLocals ret :: tables_1) hat d (List.mem_cons_of_mem _ hd)
  have hfit : Fit s := fun {y c} hc i hi => by
    obtain ⟨ha, rfl⟩ := Array.getElem?_eq_some_iff.mp hc
    have q := List.all_eq_true.mp ((Array.all_eq_true_iff_forall_mem.mp hF) _ (Array.getElem_mem ha)) i (List.mem_range.mpr hi)
    simpa [Array.getElem?_eq_getElem hi] using q
  obtain ⟨i0, ei0⟩ := is_v ga1
  obtain rfl : w0 = (.int i0) := Option.some.inj ei0
  obtain ⟨i1, ei1⟩ := is_v ga2
  obtain rfl : w1 = (.int i1) := Option.some.inj ei1
  obtain ⟨i2, ei2⟩ := is_v ga3
  obtain rfl : w2 = (.int i2) := Option.some.inj ei2
  obtain ⟨i3, ei3⟩ := is_v ga4
  obtain rfl : w3 = (.int i3) := Option.some.inj ei3
  obtain ⟨i4, ei4⟩ := is_v gb4
  obtain rfl : w4 = (.int i4) := Option.some.inj ei4
  obtain ⟨n, o, h1, h2, h3, _, L, rfl, ⟨rfl, N⟩, hq⟩ := rm0 l s _ hw tables_1 i0 i1 i2 i3 i4 s.heap s.heap.size (Nat.le_refl _)  p e ha hc hk s m _ below hf ((Spec.applies_iff_loose hf).mp happ).1 ⟨rfl, State.Warmed39.refl s, rfl⟩ trivial
  refine ⟨n, _, h1, h2, h3, hpost _ _ _ _ _ _ ⟨Cond.after_iff.mpr rfl, Cond.after_iff.mpr (eq_i res_at (Term.int_eval (1)) rfl), trivial⟩ ⟨hq.1, hq.2.1, (hq.2.2.sift fun y hy => Or.inr (N y hy)).mono (by decide) (by decide)⟩⟩
theorem main_1_1 : Claimed_1_1 := comes_1 fun _ _ _ _ _ _ h hF => ⟨h.1, hF⟩
theorem main_1_2 : Claimed_1_2 := comes_1 fun _ _ _ _ _ _ h hF => ⟨h.2.1, hF⟩
end Jvm.Pilot.@@N@@
namespace Jvm.Pilot.@@N@@
open Jvm Jvm.ClassFile Sem Op Lib Jvm.Free Jvm.Stand Jvm.Pilot.@@N@@.Jvm.D
/-! MADE BY PROGRAM (witnessworld.py) out of the Statement's table words and the real class files: 13 classes; the members and pool entries that the words name. The judged class is class 1, her method 1. -/
namespace start1
open Jvm.ClassFile
def u (s : String) : CpInfo := .utf8 (stringToUtf16 s)
/-- a pool by its gaps: so many unusable entries, then the entry; so many at the end -/
def gap : Nat → List CpInfo → List CpInfo
  | 0, r => r
  | n + 1, r => .unusable :: gap n r
def poolList (es : List (Nat × CpInfo)) (last : Nat) : List CpInfo := es.foldr (fun e r => gap e.1 (e.2 :: r)) (gap last [])
def pool (es : List (Nat × CpInfo)) (last : Nat) : Array CpInfo := ⟨poolList es last⟩
def fileOf (pool : Array CpInfo) (this : Nat) (attrs : Array Attribute := #[]) (ms : Array MethodInfo := #[]) (fl : Nat := 33) (sup : Nat := 0) (ifs : Array Nat := #[]) (fds : Array FieldInfo := #[]) : ClassFile where
  minorVersion := 0
  majorVersion := 65
  constantPool := pool
  accessFlags := fl
  thisClass := this
  superClass := sup
  interfaces := ifs
  fields := fds
  methods := ms
  attributes := attrs
def plain (name : String) (sup : Option ClassId) : Class where
  name := name
  kind := .ordinary
  loader := none
  accessFlags := 33
  super := sup
  interfaces := #[]
  cf := none
  fields := #[]
  methods := #[]
  instanceTypes := #[]
  staticTypes := #[]
  resolved := #[]
  callSites := []
  init := .initialized
  statics := none
  mirror := none

def pool0 : Array CpInfo := pool [(5, u "<init>"), (0, u "()V"), (1, .class_ 10), (1, u "java/lang/Object"), (85, u "clone"), (0, u "()Ljava/lang/Object;")] 26

def k0c0 : Code := { maxStack := 0, maxLocals := 1, code := object_method_1_code, exceptionTable := #[], attributes := #[] }
def k0m0 : Method := { name := "<init>", desc := "()V", sig := { parameters := [], returnType := none }, accessFlags := 1, code := some k0c0 }
def k0m1 : Method := { name := "clone", desc := "()Ljava/lang/Object;", sig := { parameters := [], returnType := some (.object "java/lang/Object") }, accessFlags := 260, code := none }
/-- java/lang/Object -/
def k0 : Class := { plain "java/lang/Object" none with
  accessFlags := 33
  interfaces := #[]
  cf := some (fileOf pool0 8 #[] #[{ accessFlags := 1, nameIndex := 5, descriptorIndex := 6, attributes := #[] }, { accessFlags := 260, nameIndex := 96, descriptorIndex := 97, attributes := #[] }] 33 0 #[] #[])
  fields := #[]
  methods := #[k0m0, k0m1]
  instanceTypes := #[]
  staticTypes := #[]
  resolved := Array.replicate 124 none
  statics := none }

def pool1 : Array CpInfo := pool [(2, .class_ 4), (0, .nameAndType 5 6), (0, u "java/lang/Object"), (0, u "<init>"), (0, u "()V"), (0, .class_ 8), (0, u "com/example/nodal_ledger/nodalledger/market/Columns$Bytes"), (0, .methodref 7 3), (0, .methodref 7 11), (0, .nameAndType 12 13), (0, u "add"), (0, u "(B)V"), (0, .methodref 7 15), (0, .nameAndType 16 6), (0, u "trim"), (0, .methodref 7 18), (0, .nameAndType 19 20), (0, u "get"), (0, u "(I)B"), (0, .class_ 22), (0, u "com/example/nodal_ledger/nodalledger/market/BytesTrimPinLaw"), (2, u "law"), (0, u "(IIIII)Z")] 7

def k1m0 : Method := { name := "<init>", desc := "()V", sig := { parameters := [], returnType := none }, accessFlags := 2, code := none }
def k1c1 : Code := { maxStack := 2, maxLocals := 13, code := code, exceptionTable := #[], attributes := #[] }
def k1m1 : Method := { name := "law", desc := "(IIIII)Z", sig := { parameters := [.int, .int, .int, .int, .int], returnType := some .boolean }, accessFlags := 9, code := some k1c1 }
/-- com/example/nodal_ledger/nodalledger/market/BytesTrimPinLaw -/
def k1 : Class := { plain "com/example/nodal_ledger/nodalledger/market/BytesTrimPinLaw" (some 0) with
  accessFlags := 49
  interfaces := #[]
  cf := some (fileOf pool1 21 #[] #[{ accessFlags := 2, nameIndex := 5, descriptorIndex := 6, attributes := #[] }, { accessFlags := 9, nameIndex := 25, descriptorIndex := 26, attributes := #[] }] 49 2 #[] #[])
  fields := #[]
  methods := #[k1m0, k1m1]
  instanceTypes := #[]
  staticTypes := #[]
  resolved := Array.replicate 34 none
  statics := none }

def pool2 : Array CpInfo := pool [(1, .methodref 2 3), (0, .class_ 4), (0, .nameAndType 5 6), (0, u "java/lang/Object"), (0, u "<init>"), (0, u "()V"), (0, .fieldref 8 9), (0, .class_ 10), (0, .nameAndType 11 12), (0, u "com/example/nodal_ledger/nodalledger/market/Columns$Bytes"), (0, u "values"), (0, u "[B"), (0, .fieldref 8 14), (0, .nameAndType 15 16), (0, u "size"), (0, u "I"), (0, .methodref 18 19), (0, .class_ 20), (0, .nameAndType 21 22), (0, u "com/example/nodal_ledger/nodalledger/market/Columns"), (0, u "grown"), (0, u "(I)I"), (0, .methodref 24 25), (0, .class_ 26), (0, .nameAndType 27 28), (0, u "java/util/Arrays"), (0, u "copyOf"), (0, u "([BI)[B"), (2, u "add"), (0, u "(B)V"), (1, u "get"), (0, u "(I)B"), (0, u "trim")] 5

def k2c0 : Code := { maxStack := 2, maxLocals := 1, code := prog_95_method_1_code, exceptionTable := #[], attributes := #[] }
def k2m0 : Method := { name := "<init>", desc := "()V", sig := { parameters := [], returnType := none }, accessFlags := 0, code := some k2c0 }
def k2c1 : Code := { maxStack := 5, maxLocals := 2, code := prog_95_method_2_code, exceptionTable := #[], attributes := #[] }
def k2m1 : Method := { name := "add", desc := "(B)V", sig := { parameters := [.byte], returnType := none }, accessFlags := 0, code := some k2c1 }
def k2c2 : Code := { maxStack := 2, maxLocals := 2, code := prog_95_method_3_code, exceptionTable := #[], attributes := #[] }
def k2m2 : Method := { name := "get", desc := "(I)B", sig := { parameters := [.int], returnType := some .byte }, accessFlags := 0, code := some k2c2 }
def k2c3 : Code := { maxStack := 3, maxLocals := 1, code := prog_95_method_4_code, exceptionTable := #[], attributes := #[] }
def k2m3 : Method := { name := "trim", desc := "()V", sig := { parameters := [], returnType := none }, accessFlags := 0, code := some k2c3 }
/-- com/example/nodal_ledger/nodalledger/market/Columns$Bytes -/
def k2 : Class := { plain "com/example/nodal_ledger/nodalledger/market/Columns$Bytes" (some 0) with
  accessFlags := 48
  interfaces := #[]
  cf := some (fileOf pool2 8 #[.nestHost 18] #[{ accessFlags := 0, nameIndex := 5, descriptorIndex := 6, attributes := #[] }, { accessFlags := 0, nameIndex := 31, descriptorIndex := 32, attributes := #[] }, { accessFlags := 0, nameIndex := 34, descriptorIndex := 35, attributes := #[] }, { accessFlags := 0, nameIndex := 36, descriptorIndex := 6, attributes := #[] }] 48 2 #[] #[{ accessFlags := 2, nameIndex := 11, descriptorIndex := 12, attributes := #[] }, { accessFlags := 2, nameIndex := 15, descriptorIndex := 16, attributes := #[] }])
  fields := #[{ name := "values", type := (.array .byte), accessFlags := 2, slot := 0, constantValue := 0 }, { name := "size", type := .int, accessFlags := 2, slot := 1, constantValue := 0 }]
  methods := #[k2m0, k2m1, k2m2, k2m3]
  instanceTypes := #[(.array .byte), .int]
  staticTypes := #[]
  resolved := Array.replicate 42 none
  statics := none }

def pool3 : Array CpInfo := pool [(2, .class_ 4), (1, u "java/lang/Object"), (0, u "<init>"), (0, u "()V"), (7, .class_ 16), (1, u "java/util/Arrays"), (57, .class_ 76), (1, u "java/util/Arrays$NaturalOrder"), (32, u "()Ljava/lang/Object;"), (3, .class_ 115), (1, u "java/util/Arrays$LegacyMergeSort"), (1, u "Z"), (10, .nameAndType 129 109), (0, u "clone"), (20, .methodref 151 152), (0, .class_ 153), (0, .nameAndType 154 155), (0, u "java/lang/System"), (0, u "arraycopy"), (0, u "(Ljava/lang/Object;ILjava/lang/Object;II)V"), (146, u "copyOf"), (1, .methodref 305 306), (0, .class_ 307), (0, .nameAndType 308 309), (0, u "java/lang/Math"), (0, u "min"), (0, u "(II)I"), (0, .methodref 311 128), (0, .class_ 312), (0, u "[B"), (62, .class_ 376), (0, u "java/util/Arrays$ArrayList"), (68, u "$assertionsDisabled"), (269, u "MIN_ARRAY_SORT_GRAN"), (0, u "I"), (2, u "INSERTIONSORT_THRESHOLD"), (149, u "([BI)[B"), (105, .class_ 976), (0, u "java/util/Arrays$ArrayItr")] 52

def k3m0 : Method := { name := "<init>", desc := "()V", sig := { parameters := [], returnType := none }, accessFlags := 2, code := none }
def k3c1 : Code := { maxStack := 6, maxLocals := 3, code := jdk_65_method_121_code, exceptionTable := #[], attributes := #[] }
def k3m1 : Method := { name := "copyOf", desc := "([BI)[B", sig := { parameters := [(.array .byte), .int], returnType := some (.array .byte) }, accessFlags := 9, code := some k3c1 }
/-- java/util/Arrays -/
def k3 : Class := { plain "java/util/Arrays" (some 0) with
  accessFlags := 49
  interfaces := #[]
  cf := some (fileOf pool3 14 #[.nestMembers #[975, 375, 113, 74]] #[{ accessFlags := 2, nameIndex := 5, descriptorIndex := 6, attributes := #[] }, { accessFlags := 9, nameIndex := 302, descriptorIndex := 869, attributes := #[] }] 49 2 #[] #[{ accessFlags := 26, nameIndex := 715, descriptorIndex := 716, attributes := #[] }, { accessFlags := 26, nameIndex := 719, descriptorIndex := 716, attributes := #[] }, { accessFlags := 4120, nameIndex := 445, descriptorIndex := 117, attributes := #[] }])
  fields := #[{ name := "MIN_ARRAY_SORT_GRAN", type := .int, accessFlags := 26, slot := 0, constantValue := 0 }, { name := "INSERTIONSORT_THRESHOLD", type := .int, accessFlags := 26, slot := 1, constantValue := 0 }, { name := "$assertionsDisabled", type := .boolean, accessFlags := 4120, slot := 2, constantValue := 0 }]
  methods := #[k3m0, k3m1]
  instanceTypes := #[]
  staticTypes := #[.int, .int, .boolean]
  resolved := Array.replicate 1029 none
  statics := none }

def pool4 : Array CpInfo := pool [(1, .class_ 2), (0, u "java/lang/Cloneable"), (0, .class_ 4), (0, u "java/lang/Object")] 2

/-- java/lang/Cloneable -/
def k4 : Class := { plain "java/lang/Cloneable" (some 0) with
  accessFlags := 1537
  interfaces := #[]
  cf := some (fileOf pool4 1 #[] #[] 1537 3 #[] #[])
  fields := #[]
  methods := #[]
  instanceTypes := #[]
  staticTypes := #[]
  resolved := Array.replicate 7 none
  statics := none }

def pool5 : Array CpInfo := pool [(2, .class_ 4), (1, u "java/lang/Object"), (0, u "<init>"), (0, u "()V"), (0, .class_ 8), (0, u "com/example/nodal_ledger/nodalledger/market/Columns"), (0, .methodref 10 11), (0, .class_ 12), (0, .nameAndType 13 14), (0, u "java/lang/Math"), (0, u "max"), (0, u "(II)I"), (0, u "FIRST_CAPACITY"), (0, u "I"), (4, u "grown"), (0, u "(I)I"), (3, .class_ 27), (0, u "com/example/nodal_ledger/nodalledger/market/Columns$Spans"), (0, .class_ 29), (0, u "com/example/nodal_ledger/nodalledger/market/Columns$Origins"), (0, .class_ 31), (0, u "com/example/nodal_ledger/nodalledger/market/Columns$Texts"), (0, .class_ 33), (0, u "com/example/nodal_ledger/nodalledger/market/Columns$Decimals"), (0, .class_ 35), (0, u "com/example/nodal_ledger/nodalledger/market/Columns$Instants"), (0, .class_ 37), (0, u "com/example/nodal_ledger/nodalledger/market/Columns$Bytes"), (0, .class_ 39), (0, u "com/example/nodal_ledger/nodalledger/market/Columns$Ints"), (0, .class_ 41), (0, u "com/example/nodal_ledger/nodalledger/market/Columns$Longs")] 9

def k5m0 : Method := { name := "<init>", desc := "()V", sig := { parameters := [], returnType := none }, accessFlags := 2, code := none }
def k5c1 : Code := { maxStack := 4, maxLocals := 1, code := prog_94_method_2_code, exceptionTable := #[], attributes := #[] }
def k5m1 : Method := { name := "grown", desc := "(I)I", sig := { parameters := [.int], returnType := some .int }, accessFlags := 10, code := some k5c1 }
/-- com/example/nodal_ledger/nodalledger/market/Columns -/
def k5 : Class := { plain "com/example/nodal_ledger/nodalledger/market/Columns" (some 0) with
  accessFlags := 48
  interfaces := #[]
  cf := some (fileOf pool5 7 #[.nestMembers #[26, 28, 30, 32, 34, 36, 38, 40]] #[{ accessFlags := 2, nameIndex := 5, descriptorIndex := 6, attributes := #[] }, { accessFlags := 10, nameIndex := 21, descriptorIndex := 22, attributes := #[] }] 48 2 #[] #[{ accessFlags := 26, nameIndex := 15, descriptorIndex := 16, attributes := #[] }])
  fields := #[{ name := "FIRST_CAPACITY", type := .int, accessFlags := 26, slot := 0, constantValue := 0 }]
  methods := #[k5m0, k5m1]
  instanceTypes := #[]
  staticTypes := #[.int]
  resolved := Array.replicate 51 none
  statics := none }

def pool6 : Array CpInfo := pool [(1, .class_ 2), (0, u "java/lang/Math"), (1, .class_ 6), (1, u "java/lang/Object"), (0, u "<init>"), (0, u "()V"), (89, .class_ 100), (1, u "java/lang/Math$RandomNumberGeneratorHolder"), (71, u "negativeZeroFloatBits"), (0, u "J"), (2, u "negativeZeroDoubleBits"), (21, u "max"), (2, u "min"), (43, u "$assertionsDisabled"), (0, u "Z"), (88, u "(II)I"), (2, u "twoToTheDoubleScaleDown"), (0, u "D"), (4, u "twoToTheDoubleScaleUp"), (9, u "E"), (3, u "PI"), (2, u "TAU"), (2, u "DEGREES_TO_RADIANS"), (0, u "RADIANS_TO_DEGREES")] 94

def k6m0 : Method := { name := "<init>", desc := "()V", sig := { parameters := [], returnType := none }, accessFlags := 2, code := none }
def k6c1 : Code := { maxStack := 2, maxLocals := 2, code := jdk_29_method_65_code, exceptionTable := #[], attributes := #[] }
def k6m1 : Method := { name := "max", desc := "(II)I", sig := { parameters := [.int, .int], returnType := some .int }, accessFlags := 9, code := some k6c1 }
def k6c2 : Code := { maxStack := 2, maxLocals := 2, code := jdk_29_method_69_code, exceptionTable := #[], attributes := #[] }
def k6m2 : Method := { name := "min", desc := "(II)I", sig := { parameters := [.int, .int], returnType := some .int }, accessFlags := 9, code := some k6c2 }
/-- java/lang/Math -/
def k6 : Class := { plain "java/lang/Math" (some 0) with
  accessFlags := 49
  interfaces := #[]
  cf := some (fileOf pool6 1 #[.nestMembers #[98]] #[{ accessFlags := 2, nameIndex := 7, descriptorIndex := 8, attributes := #[] }, { accessFlags := 9, nameIndex := 198, descriptorIndex := 335, attributes := #[] }, { accessFlags := 9, nameIndex := 201, descriptorIndex := 335, attributes := #[] }] 49 4 #[] #[{ accessFlags := 25, nameIndex := 354, descriptorIndex := 339, attributes := #[] }, { accessFlags := 25, nameIndex := 358, descriptorIndex := 339, attributes := #[] }, { accessFlags := 25, nameIndex := 361, descriptorIndex := 339, attributes := #[] }, { accessFlags := 26, nameIndex := 364, descriptorIndex := 339, attributes := #[] }, { accessFlags := 26, nameIndex := 365, descriptorIndex := 339, attributes := #[] }, { accessFlags := 26, nameIndex := 172, descriptorIndex := 173, attributes := #[] }, { accessFlags := 26, nameIndex := 176, descriptorIndex := 173, attributes := #[] }, { accessFlags := 8, nameIndex := 344, descriptorIndex := 339, attributes := #[] }, { accessFlags := 8, nameIndex := 338, descriptorIndex := 339, attributes := #[] }, { accessFlags := 4120, nameIndex := 245, descriptorIndex := 246, attributes := #[] }])
  fields := #[{ name := "E", type := .double, accessFlags := 25, slot := 0, constantValue := 0 }, { name := "PI", type := .double, accessFlags := 25, slot := 1, constantValue := 0 }, { name := "TAU", type := .double, accessFlags := 25, slot := 2, constantValue := 0 }, { name := "DEGREES_TO_RADIANS", type := .double, accessFlags := 26, slot := 3, constantValue := 0 }, { name := "RADIANS_TO_DEGREES", type := .double, accessFlags := 26, slot := 4, constantValue := 0 }, { name := "negativeZeroFloatBits", type := .long, accessFlags := 26, slot := 5, constantValue := 0 }, { name := "negativeZeroDoubleBits", type := .long, accessFlags := 26, slot := 6, constantValue := 0 }, { name := "twoToTheDoubleScaleUp", type := .double, accessFlags := 8, slot := 7, constantValue := 0 }, { name := "twoToTheDoubleScaleDown", type := .double, accessFlags := 8, slot := 8, constantValue := 0 }, { name := "$assertionsDisabled", type := .boolean, accessFlags := 4120, slot := 9, constantValue := 0 }]
  methods := #[k6m0, k6m1, k6m2]
  instanceTypes := #[]
  staticTypes := #[.double, .double, .double, .double, .double, .long, .long, .double, .double, .boolean]
  resolved := Array.replicate 460 none
  statics := none }

def pool7 : Array CpInfo := pool [(2, .class_ 4), (1, u "java/lang/Object"), (0, u "<init>"), (0, u "()V"), (1, .class_ 10), (1, u "java/lang/System"), (0, u "allowSecurityManager"), (0, u "I"), (16, u "cons"), (0, u "Ljava/io/Console;"), (77, .class_ 110), (1, u "java/lang/System$CallersHolder"), (43, u "initialErrStream"), (0, u "Ljava/io/PrintStream;"), (19, u "security"), (0, u "Ljava/lang/SecurityManager;"), (31, .class_ 209), (0, u "java/lang/System$1"), (7, u "props"), (0, u "Ljava/util/Properties;"), (2, u "lineSeparator"), (0, u "Ljava/lang/String;"), (96, .class_ 321), (1, u "java/lang/System$LoggerFinder"), (5, .class_ 328), (0, u "java/lang/System$Logger"), (67, u "err"), (2, u "out"), (91, u "notSupportedJnuEncoding"), (15, u "in"), (17, u "initialIn"), (0, u "Ljava/io/InputStream;"), (35, u "bootLayer"), (0, u "Ljava/lang/ModuleLayer;"), (99, .class_ 664), (0, u "java/lang/System$2"), (9, u "NEVER"), (2, u "MAYBE"), (49, u "arraycopy"), (0, u "(Ljava/lang/Object;ILjava/lang/Object;II)V"), (72, .class_ 802), (0, u "java/lang/System$Logger$Level")] 31

def k7m0 : Method := { name := "<init>", desc := "()V", sig := { parameters := [], returnType := none }, accessFlags := 2, code := none }
def k7m1 : Method := { name := "arraycopy", desc := "(Ljava/lang/Object;ILjava/lang/Object;II)V", sig := { parameters := [(.object "java/lang/Object"), .int, (.object "java/lang/Object"), .int, .int], returnType := none }, accessFlags := 265, code := none }
/-- java/lang/System -/
def k7 : Class := { plain "java/lang/System" (some 0) with
  accessFlags := 49
  interfaces := #[]
  cf := some (fileOf pool7 8 #[.nestMembers #[319, 327, 801, 108, 663, 208]] #[{ accessFlags := 2, nameIndex := 5, descriptorIndex := 6, attributes := #[] }, { accessFlags := 265, nameIndex := 727, descriptorIndex := 728, attributes := #[] }] 49 2 #[] #[{ accessFlags := 25, nameIndex := 507, descriptorIndex := 526, attributes := #[] }, { accessFlags := 25, nameIndex := 399, descriptorIndex := 155, attributes := #[] }, { accessFlags := 25, nameIndex := 396, descriptorIndex := 155, attributes := #[] }, { accessFlags := 10, nameIndex := 525, descriptorIndex := 526, attributes := #[] }, { accessFlags := 26, nameIndex := 674, descriptorIndex := 12, attributes := #[] }, { accessFlags := 26, nameIndex := 677, descriptorIndex := 12, attributes := #[] }, { accessFlags := 10, nameIndex := 11, descriptorIndex := 12, attributes := #[] }, { accessFlags := 74, nameIndex := 175, descriptorIndex := 176, attributes := #[] }, { accessFlags := 10, nameIndex := 491, descriptorIndex := 222, attributes := #[] }, { accessFlags := 74, nameIndex := 29, descriptorIndex := 30, attributes := #[] }, { accessFlags := 74, nameIndex := 154, descriptorIndex := 155, attributes := #[] }, { accessFlags := 10, nameIndex := 217, descriptorIndex := 218, attributes := #[] }, { accessFlags := 10, nameIndex := 221, descriptorIndex := 222, attributes := #[] }, { accessFlags := 8, nameIndex := 562, descriptorIndex := 563, attributes := #[] }])
  fields := #[{ name := "in", type := (.object "java/io/InputStream"), accessFlags := 25, slot := 0, constantValue := 0 }, { name := "out", type := (.object "java/io/PrintStream"), accessFlags := 25, slot := 1, constantValue := 0 }, { name := "err", type := (.object "java/io/PrintStream"), accessFlags := 25, slot := 2, constantValue := 0 }, { name := "initialIn", type := (.object "java/io/InputStream"), accessFlags := 10, slot := 3, constantValue := 0 }, { name := "NEVER", type := .int, accessFlags := 26, slot := 4, constantValue := 0 }, { name := "MAYBE", type := .int, accessFlags := 26, slot := 5, constantValue := 0 }, { name := "allowSecurityManager", type := .int, accessFlags := 10, slot := 6, constantValue := 0 }, { name := "security", type := (.object "java/lang/SecurityManager"), accessFlags := 74, slot := 7, constantValue := 0 }, { name := "notSupportedJnuEncoding", type := (.object "java/lang/String"), accessFlags := 10, slot := 8, constantValue := 0 }, { name := "cons", type := (.object "java/io/Console"), accessFlags := 74, slot := 9, constantValue := 0 }, { name := "initialErrStream", type := (.object "java/io/PrintStream"), accessFlags := 74, slot := 10, constantValue := 0 }, { name := "props", type := (.object "java/util/Properties"), accessFlags := 10, slot := 11, constantValue := 0 }, { name := "lineSeparator", type := (.object "java/lang/String"), accessFlags := 10, slot := 12, constantValue := 0 }, { name := "bootLayer", type := (.object "java/lang/ModuleLayer"), accessFlags := 8, slot := 13, constantValue := 0 }]
  methods := #[k7m0, k7m1]
  instanceTypes := #[]
  staticTypes := #[(.object "java/io/InputStream"), (.object "java/io/PrintStream"), (.object "java/io/PrintStream"), (.object "java/io/InputStream"), .int, .int, .int, (.object "java/lang/SecurityManager"), (.object "java/lang/String"), (.object "java/io/Console"), (.object "java/io/PrintStream"), (.object "java/util/Properties"), (.object "java/lang/String"), (.object "java/lang/ModuleLayer")]
  resolved := Array.replicate 834 none
  statics := none }

def pool8 : Array CpInfo := pool [(1, u "java/io/Serializable"), (0, .class_ 1), (0, u "java/lang/Object"), (0, .class_ 3)] 3

/-- java/io/Serializable -/
def k8 : Class := { plain "java/io/Serializable" (some 0) with
  accessFlags := 1537
  interfaces := #[]
  cf := some (fileOf pool8 2 #[] #[] 1537 4 #[] #[])
  fields := #[]
  methods := #[]
  instanceTypes := #[]
  staticTypes := #[]
  resolved := Array.replicate 8 none
  statics := none }

/-- the primitive byte -/
def k9 : Class := { plain "byte" none with kind := .primitive 'B', accessFlags := 0x411 }
/-- [B -/
def k10 : Class := { plain "[B" (some 0) with kind := .array 9 .byte, interfaces := #[4, 8], accessFlags := 1041 }

/-- the primitive int -/
def k11 : Class := { plain "int" none with kind := .primitive 'I', accessFlags := 0x411 }
/-- [I -/
def k12 : Class := { plain "[I" (some 0) with kind := .array 11 .int, interfaces := #[4, 8], accessFlags := 1041 }

def heap : Heap := #[]
def classes : Array Class := #[k0, k1, k2, k3, k4, k5, k6, k7, k8, k9, k10, k11, k12]
def interned : List (Array UInt16 × Addr) := []
def slotsUsed : Nat := 0
def theMethod : MethodId := ⟨1, 1⟩
def args0 : Array Value := #[.int 5, .int 6, .int 7, .int 8, .int 7]
def aboutOver (below : List Frame) : State where
  vm := { classes := classes, interned := interned.toArray }
  heap := heap
  slotsUsed := slotsUsed
  threads := #[{ frames := .invoking theMethod args0 :: below }]
def below0 : List Frame := [.native { method := ⟨0, 0⟩, args := #[] }]
def about1 : State := aboutOver below0
def p0 : Program := .bare "" "" ""
def e0 : Env := launch0.env 0 0 0
theorem w_frames : about1.frames = Frame.invoking theMethod args0 :: below0 := rfl
set_option maxRecDepth 65536 in
theorem w_args : argsFit about1.vm theMethod args0 = true := by decide +kernel
set_option maxRecDepth 65536 in
theorem w_heap : heapFits about1 = true := by decide +kernel
set_option maxRecDepth 65536 in
theorem w_runnable : about1.curStatus? = some .runnable := by decide +kernel
set_option maxRecDepth 65536 in
theorem w_alone : about1.alone = true := by decide +kernel
set_option maxRecDepth 65536 in
theorem w_named : about1.methodNamed? x = some theMethod := by decide +kernel
set_option maxRecDepth 65536 in
theorem w_hears : about1.hears theMethod below0 = true := by decide +kernel
set_option maxRecDepth 65536 in
theorem w_ripe : about1.ripe theMethod args0 below0 = true := by decide +kernel
theorem w_running : about1.status = .running := rfl
set_option maxRecDepth 65536 in
theorem w_room : about1.hasRoom e0.platform room_1 = true :=
  launch0.hasRoom_least _ room_1 (by decide +kernel) (by decide +kernel) (by decide +kernel) (by decide +kernel) (by decide +kernel) (by decide +kernel)
theorem allAtoms_all (ts : List Jvm.Cond) (a : Array Jvm.Value) (st : Jvm.State) : (allAtoms ts).before a st = ts.all (fun c => c.before a st) := by
  induction ts with
  | nil => rfl
  | cons c t ih =>
    show (Jvm.Cond.and c (allAtoms t)).before a st = _
    rw [Jvm.Cond.before_and, ih, List.all_cons]
def words1 : List Jvm.Cond := Jvm.Cond.code x code maxLocals ret :: tables_1
/-- a 'code' word, met by the world's own term for the bytes: nothing is compared byte by byte -/
theorem code_word {y : MethodName} {bytes : ByteArray} {mx : Nat} {rt : Option FieldType} {a : Array Value} {s : State} {m : MethodId} {meth : Method} {c : Code} (h1 : s.methodNamed? y = some m) (h2 : s.vm.method? m = some meth) (h3 : meth.code = some c) (h4 : c.code = bytes)
    (h5 : (c.maxLocals == mx && c.exceptionTable.isEmpty && decide (c.maxStack ≤ mostOperands) && decide (meth.sig.returnType = rt) && !meth.locks && decide (parseMethodDescriptor y.desc = some meth.sig)) = true) : (Jvm.Cond.code y bytes mx rt).before a s = true := by
  simp only [Bool.and_eq_true, beq_iff_eq, Bool.not_eq_true', decide_eq_true_eq] at h5
  obtain ⟨⟨⟨⟨⟨g1, g2⟩, g3⟩, g4⟩, g5⟩, g6⟩ := h5
  simp [Cond.before, Cond.holds, Cond.value, h1, h2, h3, h4, g1, g2, g3, g4, g5, g6]
def isCode : Jvm.Cond → Bool
  | .code _ _ _ _ => true
  | _ => false
theorem all_split {L : List Jvm.Cond} {P : Jvm.Cond → Bool} (h1 : L.all (fun c => isCode c || P c) = true) (h2 : ∀ c ∈ L.filter isCode, P c = true) : L.all P = true := by
  refine List.all_eq_true.mpr fun c hc => ?_
  have h := List.all_eq_true.mp h1 c hc
  rcases Bool.eq_false_or_eq_true (isCode c) with hi | hi
  · exact h2 c (List.mem_filter.mpr ⟨hc, hi⟩)
  · simpa [hi] using h
set_option maxRecDepth 65536 in
theorem w_c0 : (Jvm.Cond.code x code maxLocals ret).before args0 about1 = true := code_word (m := ⟨1, 1⟩) (meth := k1m1) (c := k1c1) (by decide +kernel) rfl rfl rfl (by decide +kernel)
set_option maxRecDepth 65536 in
theorem w_c1 : (Jvm.Cond.code ({ cls := "com/example/nodal_ledger/nodalledger/market/Columns$Bytes", name := "<init>", desc := "()V" } : Jvm.MethodName) prog_95_method_1_code (1 : Nat) (Option.none : Option Jvm.ClassFile.FieldType)).before args0 about1 = true := code_word (m := ⟨2, 0⟩) (meth := k2m0) (c := k2c0) (by decide +kernel) rfl rfl rfl (by decide +kernel)
set_option maxRecDepth 65536 in
theorem w_c2 : (Jvm.Cond.code ({ cls := "java/lang/Object", name := "<init>", desc := "()V" } : Jvm.MethodName) object_method_1_code (1 : Nat) (Option.none : Option Jvm.ClassFile.FieldType)).before args0 about1 = true := code_word (m := ⟨0, 0⟩) (meth := k0m0) (c := k0c0) (by decide +kernel) rfl rfl rfl (by decide +kernel)
set_option maxRecDepth 65536 in
theorem w_c3 : (Jvm.Cond.code ({ cls := "com/example/nodal_ledger/nodalledger/market/Columns$Bytes", name := "trim", desc := "()V" } : Jvm.MethodName) prog_95_method_4_code (1 : Nat) (Option.none : Option Jvm.ClassFile.FieldType)).before args0 about1 = true := code_word (m := ⟨2, 3⟩) (meth := k2m3) (c := k2c3) (by decide +kernel) rfl rfl rfl (by decide +kernel)
set_option maxRecDepth 65536 in
theorem w_c4 : (Jvm.Cond.code ({ cls := "java/util/Arrays", name := "copyOf", desc := "([BI)[B" } : Jvm.MethodName) jdk_65_method_121_code (3 : Nat) (Option.some (Jvm.ClassFile.FieldType.array Jvm.ClassFile.FieldType.byte))).before args0 about1 = true := code_word (m := ⟨3, 1⟩) (meth := k3m1) (c := k3c1) (by decide +kernel) rfl rfl rfl (by decide +kernel)
set_option maxRecDepth 65536 in
theorem w_c5 : (Jvm.Cond.code ({ cls := "com/example/nodal_ledger/nodalledger/market/Columns$Bytes", name := "add", desc := "(B)V" } : Jvm.MethodName) prog_95_method_2_code (2 : Nat) (Option.none : Option Jvm.ClassFile.FieldType)).before args0 about1 = true := code_word (m := ⟨2, 1⟩) (meth := k2m1) (c := k2c1) (by decide +kernel) rfl rfl rfl (by decide +kernel)
set_option maxRecDepth 65536 in
theorem w_c6 : (Jvm.Cond.code ({ cls := "com/example/nodal_ledger/nodalledger/market/Columns", name := "grown", desc := "(I)I" } : Jvm.MethodName) prog_94_method_2_code (1 : Nat) (Option.some Jvm.ClassFile.FieldType.int)).before args0 about1 = true := code_word (m := ⟨5, 1⟩) (meth := k5m1) (c := k5c1) (by decide +kernel) rfl rfl rfl (by decide +kernel)
set_option maxRecDepth 65536 in
theorem w_c7 : (Jvm.Cond.code ({ cls := "java/lang/Math", name := "max", desc := "(II)I" } : Jvm.MethodName) jdk_29_method_65_code (2 : Nat) (Option.some Jvm.ClassFile.FieldType.int)).before args0 about1 = true := code_word (m := ⟨6, 1⟩) (meth := k6m1) (c := k6c1) (by decide +kernel) rfl rfl rfl (by decide +kernel)
set_option maxRecDepth 65536 in
theorem w_c8 : (Jvm.Cond.code ({ cls := "java/lang/Math", name := "min", desc := "(II)I" } : Jvm.MethodName) jdk_29_method_69_code (2 : Nat) (Option.some Jvm.ClassFile.FieldType.int)).before args0 about1 = true := code_word (m := ⟨6, 2⟩) (meth := k6m2) (c := k6c2) (by decide +kernel) rfl rfl rfl (by decide +kernel)
set_option maxRecDepth 65536 in
theorem w_c9 : (Jvm.Cond.code ({ cls := "com/example/nodal_ledger/nodalledger/market/Columns$Bytes", name := "get", desc := "(I)B" } : Jvm.MethodName) prog_95_method_3_code (2 : Nat) (Option.some Jvm.ClassFile.FieldType.byte)).before args0 about1 = true := code_word (m := ⟨2, 2⟩) (meth := k2m2) (c := k2c2) (by decide +kernel) rfl rfl rfl (by decide +kernel)
def codes1 : List Jvm.Cond := [Jvm.Cond.code x code maxLocals ret, Jvm.Cond.code ({ cls := "com/example/nodal_ledger/nodalledger/market/Columns$Bytes", name := "<init>", desc := "()V" } : Jvm.MethodName) prog_95_method_1_code (1 : Nat) (Option.none : Option Jvm.ClassFile.FieldType), Jvm.Cond.code ({ cls := "java/lang/Object", name := "<init>", desc := "()V" } : Jvm.MethodName) object_method_1_code (1 : Nat) (Option.none : Option Jvm.ClassFile.FieldType), Jvm.Cond.code ({ cls := "com/example/nodal_ledger/nodalledger/market/Columns$Bytes", name := "trim", desc := "()V" } : Jvm.MethodName) prog_95_method_4_code (1 : Nat) (Option.none : Option Jvm.ClassFile.FieldType), Jvm.Cond.code ({ cls := "java/util/Arrays", name := "copyOf", desc := "([BI)[B" } : Jvm.MethodName) jdk_65_method_121_code (3 : Nat) (Option.some (Jvm.ClassFile.FieldType.array Jvm.ClassFile.FieldType.byte)), Jvm.Cond.code ({ cls := "com/example/nodal_ledger/nodalledger/market/Columns$Bytes", name := "add", desc := "(B)V" } : Jvm.MethodName) prog_95_method_2_code (2 : Nat) (Option.none : Option Jvm.ClassFile.FieldType), Jvm.Cond.code ({ cls := "com/example/nodal_ledger/nodalledger/market/Columns", name := "grown", desc := "(I)I" } : Jvm.MethodName) prog_94_method_2_code (1 : Nat) (Option.some Jvm.ClassFile.FieldType.int), Jvm.Cond.code ({ cls := "java/lang/Math", name := "max", desc := "(II)I" } : Jvm.MethodName) jdk_29_method_65_code (2 : Nat) (Option.some Jvm.ClassFile.FieldType.int), Jvm.Cond.code ({ cls := "java/lang/Math", name := "min", desc := "(II)I" } : Jvm.MethodName) jdk_29_method_69_code (2 : Nat) (Option.some Jvm.ClassFile.FieldType.int), Jvm.Cond.code ({ cls := "com/example/nodal_ledger/nodalledger/market/Columns$Bytes", name := "get", desc := "(I)B" } : Jvm.MethodName) prog_95_method_3_code (2 : Nat) (Option.some Jvm.ClassFile.FieldType.byte)]
set_option maxRecDepth 65536 in
theorem codes_eq : words1.filter isCode = codes1 := rfl
theorem w_codes : ∀ c ∈ words1.filter isCode, c.before args0 about1 = true := by
  rw [codes_eq]
  intro c hc
  simp only [codes1, List.mem_cons, List.not_mem_nil, or_false] at hc
  rcases hc with rfl | rfl | rfl | rfl | rfl | rfl | rfl | rfl | rfl | rfl
  · exact w_c0
  · exact w_c1
  · exact w_c2
  · exact w_c3
  · exact w_c4
  · exact w_c5
  · exact w_c6
  · exact w_c7
  · exact w_c8
  · exact w_c9
set_option maxRecDepth 65536 in
theorem w_t1 : (words1.take 24).all (fun c => isCode c || c.before args0 about1) = true := by decide +kernel
set_option maxRecDepth 65536 in
theorem w_t2 : ((words1.drop 24).take 24).all (fun c => isCode c || c.before args0 about1) = true := by decide +kernel
set_option maxRecDepth 65536 in
theorem w_t3 : ((words1.drop 24).drop 24).all (fun c => isCode c || c.before args0 about1) = true := by decide +kernel
theorem w_tables : (allAtoms (Jvm.Cond.code x code maxLocals ret :: tables_1)).before args0 about1 = true := by
  rw [allAtoms_all]
  show words1.all (fun c => c.before args0 about1) = true
  refine all_split ?_ w_codes
  rw [← List.take_append_drop 24 words1, List.all_append, w_t1, ← List.take_append_drop 24 (words1.drop 24), List.all_append, w_t2, w_t3]
  rfl
set_option maxRecDepth 65536 in
theorem w_case : (Jvm.Cond.and given_1 narrow_1).before args0 about1 = true := by decide +kernel
theorem w_applies : (headSpec (Jvm.Cond.code x code maxLocals ret :: tables_1) room_1).applies x e0.platform about1 = true :=
  (Spec.applies_iff w_frames).mpr ⟨w_running, w_runnable, w_alone, w_named, w_hears, w_ripe, w_room, w_tables⟩
theorem atStart : AtStart classFile x code maxLocals ret World_1 tables_1 room_1 Calls_1 rest_1 Pre_1 launch0 p0 e0 about1 theMethod args0 below0 :=
  ⟨lists_1, trivial, launch0.admits_env _ _ _, launch0.least_env, fairChoices_fair.cas, fairChoices_fair.clock, w_frames, w_args, w_heap, w_applies, trivial, trivial, w_case⟩
end start1
theorem witness_1 : WitnessClaimed_1 := ⟨start1.p0, start1.e0, start1.about1, start1.theMethod, start1.args0, start1.below0, start1.atStart⟩
end Jvm.Pilot.@@N@@
