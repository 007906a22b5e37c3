import JvmDerived
import JvmDerived.Pilot.@@N@@Statement
import JvmDerived.Pilot.@@N@@Code
set_option linter.unusedVariables false
set_option linter.unusedSimpArgs false
namespace Jvm.RoadKit
open Sem ClassFile Op Lib Jvm.Stand Jvm.Free Jvm.LawKit
section New
variable {p : Program} {l : Launch} {e : Env} {R : Room} {s : State} {m : MethodId} {args : Array Value} {below : List Frame} {meth : Method} {c : Code} {T : State} {locs : List Loc} {cells slots : Nat}
theorem retI (X : Stand p l e R s m args below meth c T locs cells slots) (hx : p.tables.exec = Jvm.exec) {pc : Nat} {Ls : Array Slot} {z : Int32} {rest : List Value} (hret : meth.sig.returnType = some .int) (hd : decode c.code pc = .ok (.ireturn, 1)) {fs : List Frame}
    (hl : ∀ (f : JFrame) (acts : List Action), f.method = m → f.locked = none → f.entered = [] → (doReturn e (T.setTop f) acts (some (.int z))).1 = T.setFrames fs) : Steps p.tables e below (T.setTop (mkF m pc Ls (.int z :: rest))) (T.setFrames fs) := by
  have hm' : T.vm.method? m = some meth := X.method'
  have hn : narrow .int (.int z) = .int z := rfl
  show Steps p.tables e below (T.setTop { method := m, pc := pc, locals := Ls, stack := _ :: rest, locked := none }) _
  jvm_step X.here [X.here.top, hx, hd, hm', hret, hn]
  first | (intro acts; rw [hl _ acts rfl rfl rfl]) | rw [hl _ _ rfl rfl rfl]
  exact Steps.refl _
end New
end Jvm.RoadKit
namespace Jvm.Pilot.@@N@@
open Jvm Jvm.ClassFile Sem Op Lib Jvm.Free Jvm.Stand Jvm.LawKit Jvm.RoadKit Bundle Jvm.Pilot.@@N@@.Jvm.D
theorem d1_0 : decode prog_116_method_2_code 0 = .ok (.iload_n 0, 1) := by decide +kernel
theorem d1_1 : decode prog_116_method_2_code 1 = .ok (.ifCond .lt 11, 3) := by decide +kernel
theorem d1_4 : decode prog_116_method_2_code 4 = .ok (.iload_n 0, 1) := by decide +kernel
theorem d1_5 : decode prog_116_method_2_code 5 = .ok (.getstatic 7, 3) := by decide +kernel
theorem d1_8 : decode prog_116_method_2_code 8 = .ok (.arraylength, 1) := by decide +kernel
theorem d1_9 : decode prog_116_method_2_code 9 = .ok (.if_icmp .lt 17, 3) := by decide +kernel
theorem d1_26 : decode prog_116_method_2_code 26 = .ok (.getstatic 7, 3) := by decide +kernel
theorem d1_29 : decode prog_116_method_2_code 29 = .ok (.iload_n 0, 1) := by decide +kernel
theorem d1_30 : decode prog_116_method_2_code 30 = .ok (.laload, 1) := by decide +kernel
theorem d1_31 : decode prog_116_method_2_code 31 = .ok (.lreturn, 1) := by decide +kernel
theorem pn_1 : plainName "com/example/nodal_ledger/nodalledger/market/LongDecimals" = true := by first | (simp [plainName, overriddenIn]; done) | decide +kernel
theorem ef_1 (m : MethodId) (x0 : Int32) : entryFrame m #[(.int x0)] 1 = mkF m 0 #[.val (.int x0)] [] := by first | (simp [entryFrame, mkF, argsToLocals, Value.category]; done) | rfl
def Q1 (Z : State) (w : Int64) (h0 : Heap) (n0 : Nat) (v : Option Value) (h : Heap) (L : List Loc) : Prop := v = some (.long w) ∧ Fr n0 L ∧ h = h0
set_option maxRecDepth 65536 in
set_option maxHeartbeats 40000000 in
theorem rm1 (l : Launch) (Z : State) (a0 : Array Value) (hw : ∀ d ∈ tables_1, d.before a0 Z = true) (ws : List Jvm.Cond) (p1 : Int32) (a1 : Addr) (cl : Cell) (w : Int64) (h0 : Heap) (n0 : Nat) (Z0 : n0 ≤ h0.size) (St : Sta Z h0 "com/example/nodal_ledger/nodalledger/market/LongDecimals" "POWERS_OF_TEN" "[J" (.ref a1)) (Ar : Arr Z h0 a1 cl .long) (h19 : cl.slots.size.toInt32 = (19 : Int32)) (hj0 : ¬ p1 < (0 : Int32)) (hj : p1 < (19 : Int32)) (hin : ¬ (p1 < 0 ∨ cl.slots.size ≤ p1.toNatClampNeg)) (hat : cl.slots[p1.toNatClampNeg]? = some (.long w)) :
    MetFree l (⟨"com/example/nodal_ledger/nodalledger/market/LongDecimals", "powerOfTen", "(I)J"⟩ : MethodName) (head1 (Jvm.Cond.code (⟨"com/example/nodal_ledger/nodalledger/market/LongDecimals", "powerOfTen", "(I)J"⟩ : MethodName) prog_116_method_2_code 1 (some .long) :: ws) ({ frames := 0, cells := 0, slots := 0, locals := 0 } : Room)) (fun a U => a = #[(.int p1)] ∧ Z.Warmed39 U.vm ∧ U.heap = h0) (fun _ _ _ _ _ => True) (fun _ U o U' => ∃ v L, o = .returned v ∧ Q1 Z w h0 n0 v U'.heap L ∧ FrameEnd U o U' L ({ frames := 0, cells := 0, slots := 0, locals := 0 } : Room).cells ({ frames := 0, cells := 0, slots := 0, locals := 0 } : Room).slots) := by
  refine MetFree.of_bodySF (plainFor_of_name pn_1) hisR ?_
  intro p e s m args below meth c s₁ Bd hml0 hP hK
  obtain ⟨rfl, hZ, hh⟩ := hP
  have hx := Bd.exec
  have hby := Bd.bytes
  have hml : c.maxLocals = 1 := hml0
  have hown : s.vm.findClass "com/example/nodal_ledger/nodalledger/market/LongDecimals" = some m.cls := findClass_of_methodNamed Bd.named
  have hnm := (name_of_methodNamed Bd.named Bd.method).1
  have X0 : Stand p l e ({ frames := 0, cells := 0, slots := 0, locals := 0 } : Room) s m #[(.int p1)] below meth c s₁ [] 0 0 := Stand.of_body Bd
  have e0 : s₁.heap = h0 := by rw [← hh, Bd.state]; rfl
  have N0 := Fr.nil n0
  have pre0 : ∀ t, Steps p.tables e below (s₁.setTop (mkF m 0 #[.val (.int p1)] [])) t → Steps p.tables e below (s₁.setTop (entryFrame m #[(.int p1)] 1)) t := fun t k => castTop (ef_1 m p1) k
  obtain ⟨T1, X1, e1, st1⟩ := getS (host := "") X0 hx hZ hown (hw _ (List.mem_of_getElem? (i := 5) rfl)) Via.refl e0 St (g := (mkF m 5 #[.val (.int p1)] [(.int p1)])) rfl (hb hby d1_5)
  obtain ⟨T2, X2, e2, st2⟩ := getS (host := "") X1 hx hZ hown (hw _ (List.mem_of_getElem? (i := 5) rfl)) Via.refl e1 St (g := (mkF m 26 #[.val (.int p1)] [])) rfl (hb hby d1_26)
  obtain ⟨fs, hr, hrun, hended, hW, hsame⟩ := X2.leave (v := some (.long w)) (fun h => by rw [Bd.returns] at h; cases h)
  refine ⟨_, _, pre0 _ ?_, hrun, hended, _, _, rfl, ?_, ⟨_, rfl⟩, hW, hsame.mono (by decide) (by decide)⟩
  · show Steps p.tables e below (s₁.setTop (mkF m 0 #[.val (.int p1)] [])) _
    refine XS.iloadN X0.here hx rfl (hb hby d1_0) rfl ?_
    show Steps p.tables e below (s₁.setTop (mkF m 1 #[.val (.int p1)] [(.int p1)])) _
    refine XS.ifNo X0.here hx rfl (hb hby d1_1) rfl ((if0 _ _).trans (flt hj0).1) ?_
    show Steps p.tables e below (s₁.setTop (mkF m 4 #[.val (.int p1)] [])) _
    refine XS.iloadN X0.here hx rfl (hb hby d1_4) rfl ?_
    show Steps p.tables e below (s₁.setTop (mkF m 5 #[.val (.int p1)] [(.int p1)])) _
    refine st1 _ ?_
    show Steps p.tables e below (T1.setTop (mkF m 8 #[.val (.int p1)] [(.ref a1), (.int p1)])) _
    refine X1.arraylength hx (by rw [e1]; exact Ar.1) (State.isArrayOf_alike hZ.alike Ar.2.1) (g := (mkF m 8 #[.val (.int p1)] [(.ref a1), (.int p1)])) rfl rfl (hb hby d1_8) _ ?_
    rw [h19]
    show Steps p.tables e below (T1.setTop (mkF m 9 #[.val (.int p1)] [(.int (19 : Int32)), (.int p1)])) _
    refine XS.icmpYes X1.here hx rfl (pc0 := 9) (pc' := 26) rfl (hb hby d1_9) rfl (tlt hj).1 (by decide) (by decide) ?_
    show Steps p.tables e below (T1.setTop (mkF m 26 #[.val (.int p1)] [])) _
    refine st2 _ ?_
    show Steps p.tables e below (T2.setTop (mkF m 29 #[.val (.int p1)] [(.ref a1)])) _
    refine XS.iloadN X2.here hx rfl (hb hby d1_29) rfl ?_
    show Steps p.tables e below (T2.setTop (mkF m 30 #[.val (.int p1)] [(.int p1), (.ref a1)])) _
    refine X2.laload hx (j := p1) (v := (.long w)) (by rw [e2]; exact Ar.1) (State.isArrayOf_alike hZ.alike Ar.2.1) Ar.2.2 hin hat (g := (mkF m 30 #[.val (.int p1)] [(.int p1), (.ref a1)])) rfl rfl (hb hby d1_30) _ ?_
    show Steps p.tables e below (T2.setTop (mkF m 31 #[.val (.int p1)] [(.long w)])) _
    exact X2.lreturnOut hx Bd.returns (hb hby d1_31) hr
  · show Q1 Z w h0 n0 _ T2.heap _
    rw [e2]
    exact ⟨rfl, N0, rfl⟩
def own_pow (i : Nat) : Int64 := [(1 : Int64), (10 : Int64), (100 : Int64), (1000 : Int64), (10000 : Int64), (100000 : Int64), (1000000 : Int64), (10000000 : Int64), (100000000 : Int64), (1000000000 : Int64), (10000000000 : Int64), (100000000000 : Int64), (1000000000000 : Int64), (10000000000000 : Int64), (100000000000000 : Int64), (1000000000000000 : Int64), (10000000000000000 : Int64), (100000000000000000 : Int64), (1000000000000000000 : Int64)].getD i 0
theorem own_ten : ∀ i : Fin 18, own_pow (i.val + 1) = (10 : Int64) * own_pow i.val := by decide +kernel
theorem own_p (x : Int32) : ∃ k : Nat, k ≤ 17 ∧ ((x &&& (2147483647 : Int32)) % (18 : Int32)) = Int32.ofNat k ∧ (((x &&& (2147483647 : Int32)) % (18 : Int32)) + (1 : Int32)) = Int32.ofNat (k + 1) := by
  have m1 := c_mask x (2147483647 : Int32) 31 (by decide) (by decide)
  have p31 : ((2 ^ 31 : Nat) : Int) = 2147483648 := by decide
  rw [p31] at m1
  generalize (x &&& (2147483647 : Int32)) = y at *
  have r1 := (c_irem y (18 : Int32) 18 rfl).1 (by omega)
  generalize (y % (18 : Int32)) = z at *
  have e1 : z = Int32.ofNat z.toInt.toNat := by
    apply Int32.toInt_inj.mp
    rw [Int32.toInt_ofNat_of_lt (by omega)]; omega
  refine ⟨z.toInt.toNat, by omega, e1, ?_⟩
  rw [Int32.ofNat_add, ← e1]; rfl
theorem own_cl (k : Nat) (h : k ≤ 18) : (Int32.ofNat k).toNatClampNeg = k := by
  rw [Int32.toNatClampNeg, Int32.toInt_ofNat_of_lt (by omega)]; rfl
theorem own_n0 (k : Nat) (h : k ≤ 18) : ¬ Int32.ofNat k < (0 : Int32) := by
  rw [Int32.lt_iff_toInt_lt, Int32.toInt_ofNat_of_lt (by omega), show (0 : Int32).toInt = 0 from rfl]; omega
theorem own_n19 (k : Nat) (h : k ≤ 18) : Int32.ofNat k < (19 : Int32) := by
  rw [Int32.lt_iff_toInt_lt, Int32.toInt_ofNat_of_lt (by omega), show (19 : Int32).toInt = 19 from rfl]; omega
theorem own_eqL {args : Array Value} {s : State} {t : Term} {c : Int64} (h : (Jvm.Cond.eq t (.long c)).value args s none s [] = some true) : t.eval args s none [] s = some (.long c) := by
  obtain ⟨x, y, h1, h2, h3, h4⟩ := cmp_v (Or.inl h)
  have h5 : y = .long c := (Option.some.inj h2).symm
  subst h5
  obtain ⟨z, rfl⟩ : ∃ z, x = .long z := h4
  have q := gotT (eq_L h1 h2) h
  rw [h1, q]
theorem own_eqI {args : Array Value} {s : State} {t : Term} {c : Int32} (h : (Jvm.Cond.eq t (.int c)).value args s none s [] = some true) : t.eval args s none [] s = some (.int c) := by
  obtain ⟨x, y, h1, h2, h3, h4⟩ := cmp_v (Or.inl h)
  have h5 : y = .int c := (Option.some.inj h2).symm
  subst h5
  obtain ⟨z, rfl⟩ : ∃ z, x = .int z := h4
  have q : z = c := by simpa [Jvm.Cond.value, h1, h2] using h
  rw [h1, q]
theorem pd_0 : parseMethodDescriptor "(I)J" = some ⟨[.int], some .long⟩ := by decide +kernel
theorem pn_0 : plainName "com/example/nodal_ledger/nodalledger/market/LongDecimalsPowerOfTenPinLaw" = true := by first | (simp [plainName, overriddenIn]; done) | decide +kernel
theorem ef_0 (m : MethodId) (x0 : Int32) : entryFrame m #[(.int x0)] maxLocals = mkF m 0 #[.val (.int x0), .unset, .unset, .unset, .unset, .unset, .unset, .unset] [] := by first | (simp [entryFrame, mkF, argsToLocals, Value.category, maxLocals]; done) | rfl
def Q0 (Z : State) (p1 : Int32) (h0 : Heap) (n0 : Nat) (v : Option Value) (h : Heap) (L : List Loc) : Prop := v = some (.int (1 : Int32)) ∧ Fr n0 L
set_option maxRecDepth 65536 in
set_option maxHeartbeats 40000000 in
theorem rm0 (l : Launch) (Z : State) (a0 : Array Value) (hw : ∀ d ∈ tables_1, d.before a0 Z = true) (ws : List Jvm.Cond) (p1 : Int32) (h0 : Heap) (n0 : Nat) (Z0 : n0 ≤ h0.size) (a1 : Addr) (cl : Cell) (St : Sta Z h0 "com/example/nodal_ledger/nodalledger/market/LongDecimals" "POWERS_OF_TEN" "[J" (.ref a1)) (Ar : Arr Z h0 a1 cl .long) (h19 : cl.slots.size.toInt32 = (19 : Int32)) (hall : ∀ i : Nat, i ≤ 18 → i < cl.slots.size ∧ cl.slots[i]? = some (.long (own_pow i))) :
    MetFree l x (head1 (Jvm.Cond.code x code maxLocals ret :: ws) room_1) (fun a U => a = #[(.int p1)] ∧ Z.Warmed39 U.vm ∧ U.heap = h0) (fun _ _ _ _ _ => True) (fun _ U o U' => ∃ v L, o = .returned v ∧ Q0 Z p1 h0 n0 v U'.heap L ∧ FrameEnd U o U' L room_1.cells room_1.slots) := by
  refine MetFree.of_bodySF (plainFor_of_name pn_0) hisR ?_
  intro p e s m args below meth c s₁ Bd hml0 hP hK
  obtain ⟨rfl, hZ, hh⟩ := hP
  have hx := Bd.exec
  have hby := Bd.bytes
  have hml : c.maxLocals = 8 := hml0
  have hown : s.vm.findClass "com/example/nodal_ledger/nodalledger/market/LongDecimalsPowerOfTenPinLaw" = some m.cls := findClass_of_methodNamed Bd.named
  have hnm := (name_of_methodNamed Bd.named Bd.method).1
  have X0 : Stand p l e room_1 s m #[(.int p1)] below meth c s₁ [] 0 0 := Stand.of_body Bd
  have e0 : s₁.heap = h0 := by rw [← hh, Bd.state]; rfl
  have N0 := Fr.nil n0
  have pre0 : ∀ t, Steps p.tables e below (s₁.setTop (mkF m 0 #[.val (.int p1), .unset, .unset, .unset, .unset, .unset, .unset, .unset] [])) t → Steps p.tables e below (s₁.setTop (entryFrame m #[(.int p1)] maxLocals)) t := fun t k => castTop (ef_0 m p1) k
  obtain ⟨k, hk, hP, hP1⟩ := own_p p1
  have hin : ∀ i : Nat, i ≤ 18 → ¬ (Int32.ofNat i < 0 ∨ cl.slots.size ≤ (Int32.ofNat i).toNatClampNeg) := fun i hi => by
    rw [own_cl i hi]
    exact fun q => q.elim (own_n0 i hi) (fun q => absurd (hall i hi).1 (Nat.not_lt.mpr q))
  have hat : ∀ i : Nat, i ≤ 18 → cl.slots[(Int32.ofNat i).toNatClampNeg]? = some (.long (own_pow i)) := fun i hi => by
    rw [own_cl i hi]; exact (hall i hi).2
  obtain ⟨_, _, ⟨T4, L4, k4, n4⟩, -, X4, ⟨Lc4, hQ4, l4, y4, z4⟩, st4⟩ := Jvm.LawKit.callS X0 hx (y := (⟨"com/example/nodal_ledger/nodalledger/market/LongDecimals", "powerOfTen", "(I)J"⟩ : MethodName)) hown (mvT hZ (hw _ (List.mem_of_getElem? (i := 1) rfl))) (mvT hZ (hw _ (List.mem_of_getElem? (i := 2) rfl))) (mvT hZ (hw _ (List.mem_of_getElem? (i := 3) rfl))) (mvT hZ (hw _ (List.mem_of_getElem? (i := 4) rfl))) (by decide) (backOf (W := 0) (rm1 l Z a0 hw [] (0 : Int32) a1 cl (own_pow 0) h0 n0 Z0 St Ar h19 (own_n0 0 (by decide)) (own_n19 0 (by decide)) (hin 0 (by decide)) (hat 0 (by decide))) hZ (hw _ (List.mem_of_getElem? (i := 4) rfl)) (hw _ (List.mem_of_getElem? (i := 3) rfl)) (by decide) (by decide)) (g := (mkF m 9 #[.val (.int p1), .val (.int ((p1 &&& (2147483647 : Int32)) % (18 : Int32))), .unset, .unset, .unset, .unset, .unset, .unset] [(.int (0 : Int32))])) rfl (by rw [hml]; rfl) (argsL := [(.int (0 : Int32))]) (rest := []) (lenOf pd_0 rfl) rfl (by show 2 * 0 + _ ≤ _; exact Nat.le_of_eq rfl) (hb hby at_9) (fun _ _ => ⟨rfl, e0, (by decide : 0 + 0 ≤ _), (by decide : 0 + 0 ≤ _)⟩)
  dsimp only [Pt.U, Pt.locs, Pt.cells, Pt.slots] at X4 l4 y4 z4 st4 hQ4
  subst l4 y4 z4
  obtain ⟨rfl, N4q, e4⟩ := hQ4
  have N4 := Fr.app N0 N4q
  obtain ⟨_, _, ⟨T5, L5, k5, n5⟩, -, X5, ⟨Lc5, hQ5, l5, y5, z5⟩, st5⟩ := Jvm.LawKit.callS X4 hx (y := (⟨"com/example/nodal_ledger/nodalledger/market/LongDecimals", "powerOfTen", "(I)J"⟩ : MethodName)) hown (mvT hZ (hw _ (List.mem_of_getElem? (i := 1) rfl))) (mvT hZ (hw _ (List.mem_of_getElem? (i := 2) rfl))) (mvT hZ (hw _ (List.mem_of_getElem? (i := 3) rfl))) (mvT hZ (hw _ (List.mem_of_getElem? (i := 4) rfl))) (by decide) (backOf (W := 0) (rm1 l Z a0 hw [] ((p1 &&& (2147483647 : Int32)) % (18 : Int32)) a1 cl (own_pow k) h0 n0 Z0 St Ar h19 (by rw [hP]; exact own_n0 k (by omega)) (by rw [hP]; exact own_n19 k (by omega)) (by rw [hP]; exact hin k (by omega)) (by rw [hP]; exact hat k (by omega))) hZ (hw _ (List.mem_of_getElem? (i := 4) rfl)) (hw _ (List.mem_of_getElem? (i := 3) rfl)) (by decide) (by decide)) (g := (mkF m 14 #[.val (.int p1), .val (.int ((p1 &&& (2147483647 : Int32)) % (18 : Int32))), .val (.long (own_pow 0)), .second, .unset, .unset, .unset, .unset] [(.int ((p1 &&& (2147483647 : Int32)) % (18 : Int32)))])) rfl (by rw [hml]; rfl) (argsL := [(.int ((p1 &&& (2147483647 : Int32)) % (18 : Int32)))]) (rest := []) (lenOf pd_0 rfl) rfl (by show 2 * 0 + _ ≤ _; exact Nat.le_of_eq rfl) (hb hby at_14) (fun _ _ => ⟨rfl, e4, (by decide : 0 + 0 ≤ _), (by decide : 0 + 0 ≤ _)⟩)
  dsimp only [Pt.U, Pt.locs, Pt.cells, Pt.slots] at X5 l5 y5 z5 st5 hQ5
  subst l5 y5 z5
  obtain ⟨rfl, N5q, e5⟩ := hQ5
  have N5 := Fr.app N4 N5q
  obtain ⟨_, _, ⟨T6, L6, k6, n6⟩, -, X6, ⟨Lc6, hQ6, l6, y6, z6⟩, st6⟩ := Jvm.LawKit.callS X5 hx (y := (⟨"com/example/nodal_ledger/nodalledger/market/LongDecimals", "powerOfTen", "(I)J"⟩ : MethodName)) hown (mvT hZ (hw _ (List.mem_of_getElem? (i := 1) rfl))) (mvT hZ (hw _ (List.mem_of_getElem? (i := 2) rfl))) (mvT hZ (hw _ (List.mem_of_getElem? (i := 3) rfl))) (mvT hZ (hw _ (List.mem_of_getElem? (i := 4) rfl))) (by decide) (backOf (W := 0) (rm1 l Z a0 hw [] (((p1 &&& (2147483647 : Int32)) % (18 : Int32)) + (1 : Int32)) a1 cl (own_pow (k + 1)) h0 n0 Z0 St Ar h19 (by rw [hP1]; exact own_n0 (k + 1) (by omega)) (by rw [hP1]; exact own_n19 (k + 1) (by omega)) (by rw [hP1]; exact hin (k + 1) (by omega)) (by rw [hP1]; exact hat (k + 1) (by omega))) hZ (hw _ (List.mem_of_getElem? (i := 4) rfl)) (hw _ (List.mem_of_getElem? (i := 3) rfl)) (by decide) (by decide)) (g := (mkF m 22 #[.val (.int p1), .val (.int ((p1 &&& (2147483647 : Int32)) % (18 : Int32))), .val (.long (own_pow 0)), .second, .val (.long (own_pow k)), .second, .unset, .unset] [(.int (((p1 &&& (2147483647 : Int32)) % (18 : Int32)) + (1 : Int32)))])) rfl (by rw [hml]; rfl) (argsL := [(.int (((p1 &&& (2147483647 : Int32)) % (18 : Int32)) + (1 : Int32)))]) (rest := []) (lenOf pd_0 rfl) rfl (by show 2 * 0 + _ ≤ _; exact Nat.le_of_eq rfl) (hb hby at_22) (fun _ _ => ⟨rfl, e5, (by decide : 0 + 0 ≤ _), (by decide : 0 + 0 ≤ _)⟩)
  dsimp only [Pt.U, Pt.locs, Pt.cells, Pt.slots] at X6 l6 y6 z6 st6 hQ6
  subst l6 y6 z6
  obtain ⟨rfl, N6q, e6⟩ := hQ6
  have N6 := Fr.app N5 N6q
  obtain ⟨fs, hr, hrun, hended, hW, hsame⟩ := X6.leave (v := some (.int (1 : Int32))) (fun h => by rw [Bd.returns] at h; cases h)
  refine ⟨_, _, pre0 _ ?_, hrun, hended, _, _, rfl, ?_, ⟨_, rfl⟩, hW, hsame.mono (by decide) (by decide)⟩
  · show Steps p.tables e below (s₁.setTop (mkF m 0 #[.val (.int p1), .unset, .unset, .unset, .unset, .unset, .unset, .unset] [])) _
    refine XS.iloadN X0.here hx rfl (hb hby at_0) rfl ?_
    show Steps p.tables e below (s₁.setTop (mkF m 1 #[.val (.int p1), .unset, .unset, .unset, .unset, .unset, .unset, .unset] [(.int p1)])) _
    refine X0.ldcI hx hown (mvT hZ (hw _ (List.mem_of_getElem? (i := 0) rfl))) rfl (hb hby at_1) ?_
    show Steps p.tables e below (s₁.setTop (mkF m 3 #[.val (.int p1), .unset, .unset, .unset, .unset, .unset, .unset, .unset] [(.int (2147483647 : Int32)), (.int p1)])) _
    refine XS.iand X0.here hx rfl (hb hby at_3) rfl ?_
    show Steps p.tables e below (s₁.setTop (mkF m 4 #[.val (.int p1), .unset, .unset, .unset, .unset, .unset, .unset, .unset] [(.int (p1 &&& (2147483647 : Int32)))])) _
    refine XS.bipush X0.here hx rfl (hb hby at_4) ?_
    show Steps p.tables e below (s₁.setTop (mkF m 6 #[.val (.int p1), .unset, .unset, .unset, .unset, .unset, .unset, .unset] [(.int (18 : Int32)), (.int (p1 &&& (2147483647 : Int32)))])) _
    refine iremM X0 hx rfl (hb hby at_6) rfl (by decide) ?_
    show Steps p.tables e below (s₁.setTop (mkF m 7 #[.val (.int p1), .unset, .unset, .unset, .unset, .unset, .unset, .unset] [(.int ((p1 &&& (2147483647 : Int32)) % (18 : Int32)))])) _
    refine XS.istoreN X0.here hx rfl (hb hby at_7) rfl (l' := #[.val (.int p1), .val (.int ((p1 &&& (2147483647 : Int32)) % (18 : Int32))), .unset, .unset, .unset, .unset, .unset, .unset]) rfl ?_
    show Steps p.tables e below (s₁.setTop (mkF m 8 #[.val (.int p1), .val (.int ((p1 &&& (2147483647 : Int32)) % (18 : Int32))), .unset, .unset, .unset, .unset, .unset, .unset] [])) _
    refine XS.iconst X0.here hx rfl (hb hby at_8) ?_
    show Steps p.tables e below (s₁.setTop (mkF m 9 #[.val (.int p1), .val (.int ((p1 &&& (2147483647 : Int32)) % (18 : Int32))), .unset, .unset, .unset, .unset, .unset, .unset] [(.int (0 : Int32))])) _
    refine st4 _ ?_
    show Steps p.tables e below (T4.setTop (mkF m 12 #[.val (.int p1), .val (.int ((p1 &&& (2147483647 : Int32)) % (18 : Int32))), .unset, .unset, .unset, .unset, .unset, .unset] [(.long (own_pow 0))])) _
    refine XS.lstoreN X4.here hx rfl (hb hby at_12) rfl (l' := #[.val (.int p1), .val (.int ((p1 &&& (2147483647 : Int32)) % (18 : Int32))), .val (.long (own_pow 0)), .second, .unset, .unset, .unset, .unset]) rfl ?_
    show Steps p.tables e below (T4.setTop (mkF m 13 #[.val (.int p1), .val (.int ((p1 &&& (2147483647 : Int32)) % (18 : Int32))), .val (.long (own_pow 0)), .second, .unset, .unset, .unset, .unset] [])) _
    refine XS.iloadN X4.here hx rfl (hb hby at_13) rfl ?_
    show Steps p.tables e below (T4.setTop (mkF m 14 #[.val (.int p1), .val (.int ((p1 &&& (2147483647 : Int32)) % (18 : Int32))), .val (.long (own_pow 0)), .second, .unset, .unset, .unset, .unset] [(.int ((p1 &&& (2147483647 : Int32)) % (18 : Int32)))])) _
    refine st5 _ ?_
    show Steps p.tables e below (T5.setTop (mkF m 17 #[.val (.int p1), .val (.int ((p1 &&& (2147483647 : Int32)) % (18 : Int32))), .val (.long (own_pow 0)), .second, .unset, .unset, .unset, .unset] [(.long (own_pow k))])) _
    refine XS.lstore X5.here hx rfl (hb hby at_17) rfl (l' := #[.val (.int p1), .val (.int ((p1 &&& (2147483647 : Int32)) % (18 : Int32))), .val (.long (own_pow 0)), .second, .val (.long (own_pow k)), .second, .unset, .unset]) rfl ?_
    show Steps p.tables e below (T5.setTop (mkF m 19 #[.val (.int p1), .val (.int ((p1 &&& (2147483647 : Int32)) % (18 : Int32))), .val (.long (own_pow 0)), .second, .val (.long (own_pow k)), .second, .unset, .unset] [])) _
    refine XS.iloadN X5.here hx rfl (hb hby at_19) rfl ?_
    show Steps p.tables e below (T5.setTop (mkF m 20 #[.val (.int p1), .val (.int ((p1 &&& (2147483647 : Int32)) % (18 : Int32))), .val (.long (own_pow 0)), .second, .val (.long (own_pow k)), .second, .unset, .unset] [(.int ((p1 &&& (2147483647 : Int32)) % (18 : Int32)))])) _
    refine XS.iconst X5.here hx rfl (hb hby at_20) ?_
    show Steps p.tables e below (T5.setTop (mkF m 21 #[.val (.int p1), .val (.int ((p1 &&& (2147483647 : Int32)) % (18 : Int32))), .val (.long (own_pow 0)), .second, .val (.long (own_pow k)), .second, .unset, .unset] [(.int (1 : Int32)), (.int ((p1 &&& (2147483647 : Int32)) % (18 : Int32)))])) _
    refine XS.iadd X5.here hx rfl (hb hby at_21) rfl ?_
    show Steps p.tables e below (T5.setTop (mkF m 22 #[.val (.int p1), .val (.int ((p1 &&& (2147483647 : Int32)) % (18 : Int32))), .val (.long (own_pow 0)), .second, .val (.long (own_pow k)), .second, .unset, .unset] [(.int (((p1 &&& (2147483647 : Int32)) % (18 : Int32)) + (1 : Int32)))])) _
    refine st6 _ ?_
    show Steps p.tables e below (T6.setTop (mkF m 25 #[.val (.int p1), .val (.int ((p1 &&& (2147483647 : Int32)) % (18 : Int32))), .val (.long (own_pow 0)), .second, .val (.long (own_pow k)), .second, .unset, .unset] [(.long (own_pow (k + 1)))])) _
    refine XS.lstore X6.here hx rfl (hb hby at_25) rfl (l' := #[.val (.int p1), .val (.int ((p1 &&& (2147483647 : Int32)) % (18 : Int32))), .val (.long (own_pow 0)), .second, .val (.long (own_pow k)), .second, .val (.long (own_pow (k + 1))), .second]) rfl ?_
    show Steps p.tables e below (T6.setTop (mkF m 27 #[.val (.int p1), .val (.int ((p1 &&& (2147483647 : Int32)) % (18 : Int32))), .val (.long (own_pow 0)), .second, .val (.long (own_pow k)), .second, .val (.long (own_pow (k + 1))), .second] [])) _
    refine XS.lloadN X6.here hx rfl (hb hby at_27) rfl ?_
    show Steps p.tables e below (T6.setTop (mkF m 28 #[.val (.int p1), .val (.int ((p1 &&& (2147483647 : Int32)) % (18 : Int32))), .val (.long (own_pow 0)), .second, .val (.long (own_pow k)), .second, .val (.long (own_pow (k + 1))), .second] [(.long (own_pow 0))])) _
    refine XS.lconst X6.here hx rfl (hb hby at_28) ?_
    show Steps p.tables e below (T6.setTop (mkF m 29 #[.val (.int p1), .val (.int ((p1 &&& (2147483647 : Int32)) % (18 : Int32))), .val (.long (own_pow 0)), .second, .val (.long (own_pow k)), .second, .val (.long (own_pow (k + 1))), .second] [(.long (1 : Int64)), (.long (own_pow 0))])) _
    refine XS.lcmp X6.here hx rfl (hb hby at_29) rfl ?_
    show Steps p.tables e below (T6.setTop (mkF m 30 #[.val (.int p1), .val (.int ((p1 &&& (2147483647 : Int32)) % (18 : Int32))), .val (.long (own_pow 0)), .second, .val (.long (own_pow k)), .second, .val (.long (own_pow (k + 1))), .second] [(.int (lcmpW (own_pow 0) (1 : Int64)))])) _
    refine XS.ifNo X6.here hx rfl (hb hby at_30) rfl ((if0 _ _).trans (teq ((lw_eq _ _).mpr (rfl : own_pow 0 = (1 : Int64)))).2) ?_
    show Steps p.tables e below (T6.setTop (mkF m 33 #[.val (.int p1), .val (.int ((p1 &&& (2147483647 : Int32)) % (18 : Int32))), .val (.long (own_pow 0)), .second, .val (.long (own_pow k)), .second, .val (.long (own_pow (k + 1))), .second] [])) _
    refine XS.lload X6.here hx rfl (hb hby at_33) rfl ?_
    show Steps p.tables e below (T6.setTop (mkF m 35 #[.val (.int p1), .val (.int ((p1 &&& (2147483647 : Int32)) % (18 : Int32))), .val (.long (own_pow 0)), .second, .val (.long (own_pow k)), .second, .val (.long (own_pow (k + 1))), .second] [(.long (own_pow (k + 1)))])) _
    refine X6.ldc2J hx hown (mvT hZ (hw _ (List.mem_of_getElem? (i := 7) rfl))) rfl (hb hby at_35) ?_
    show Steps p.tables e below (T6.setTop (mkF m 38 #[.val (.int p1), .val (.int ((p1 &&& (2147483647 : Int32)) % (18 : Int32))), .val (.long (own_pow 0)), .second, .val (.long (own_pow k)), .second, .val (.long (own_pow (k + 1))), .second] [(.long (10 : Int64)), (.long (own_pow (k + 1)))])) _
    refine XS.lload X6.here hx rfl (hb hby at_38) rfl ?_
    show Steps p.tables e below (T6.setTop (mkF m 40 #[.val (.int p1), .val (.int ((p1 &&& (2147483647 : Int32)) % (18 : Int32))), .val (.long (own_pow 0)), .second, .val (.long (own_pow k)), .second, .val (.long (own_pow (k + 1))), .second] [(.long (own_pow k)), (.long (10 : Int64)), (.long (own_pow (k + 1)))])) _
    refine XS.lmul X6.here hx rfl (hb hby at_40) rfl ?_
    show Steps p.tables e below (T6.setTop (mkF m 41 #[.val (.int p1), .val (.int ((p1 &&& (2147483647 : Int32)) % (18 : Int32))), .val (.long (own_pow 0)), .second, .val (.long (own_pow k)), .second, .val (.long (own_pow (k + 1))), .second] [(.long ((10 : Int64) * (own_pow k))), (.long (own_pow (k + 1)))])) _
    refine XS.lcmp X6.here hx rfl (hb hby at_41) rfl ?_
    show Steps p.tables e below (T6.setTop (mkF m 42 #[.val (.int p1), .val (.int ((p1 &&& (2147483647 : Int32)) % (18 : Int32))), .val (.long (own_pow 0)), .second, .val (.long (own_pow k)), .second, .val (.long (own_pow (k + 1))), .second] [(.int (lcmpW (own_pow (k + 1)) ((10 : Int64) * (own_pow k))))])) _
    refine XS.ifNo X6.here hx rfl (hb hby at_42) rfl ((if0 _ _).trans (teq ((lw_eq _ _).mpr (own_ten ⟨k, by omega⟩))).2) ?_
    show Steps p.tables e below (T6.setTop (mkF m 45 #[.val (.int p1), .val (.int ((p1 &&& (2147483647 : Int32)) % (18 : Int32))), .val (.long (own_pow 0)), .second, .val (.long (own_pow k)), .second, .val (.long (own_pow (k + 1))), .second] [])) _
    refine XS.iconst X6.here hx rfl (hb hby at_45) ?_
    show Steps p.tables e below (T6.setTop (mkF m 46 #[.val (.int p1), .val (.int ((p1 &&& (2147483647 : Int32)) % (18 : Int32))), .val (.long (own_pow 0)), .second, .val (.long (own_pow k)), .second, .val (.long (own_pow (k + 1))), .second] [(.int (1 : Int32))])) _
    refine XS.goto X6.here hx rfl (pc0 := 46) (pc' := 50) rfl (hb hby at_46) (by decide) (by decide) ?_
    show Steps p.tables e below (T6.setTop (mkF m 50 #[.val (.int p1), .val (.int ((p1 &&& (2147483647 : Int32)) % (18 : Int32))), .val (.long (own_pow 0)), .second, .val (.long (own_pow k)), .second, .val (.long (own_pow (k + 1))), .second] [(.int (1 : Int32))])) _
    exact retN X6 hx (t := .boolean) Bd.returns (by simp) (hb hby at_50) hr
  · show Q0 Z p1 h0 n0 _ T6.heap _
    exact ⟨rfl, N6⟩
set_option maxRecDepth 65536 in
set_option maxHeartbeats 40000000 in
theorem comes_1 {Post : Tables → Env → Array Value → State → Outcome → State → Prop} (hpost : ∀ tb e args s v u, (limb_1_1.after args s (.returned v) u = true ∧ limb_1_2.after args s (.returned v) u = true ∧ True) → FrameEnd s (.returned v) u (Jvm.fieldLocs frame_1_writes args s ++ Jvm.arrayLocs frame_1_arrays args s ++ Jvm.staticLocs frame_1_statics s) 0 0 → Post tb e args s (.returned v) u) :
    ArmFor flags0 classFile x code maxLocals ret World_1 tables_1 room_1 Calls_1 rest_1 Pre_1 Post := by
  intro l hfl _ _ p e ha hc hk s m args below hf hA hF happ hP
  obtain ⟨hcalls, hrest, hpre⟩ := hP
  obtain ⟨-, -, -, hnamed, -, -, -, hat⟩ := (Spec.applies_iff hf).mp happ
  obtain ⟨hg, hn⟩ := and_e (Cond.before_iff.mp (show (Jvm.Cond.and given_1 narrow_1).before args s = true from hpre))
  obtain ⟨ga0, gb0⟩ := and_e hg
  obtain ⟨w0, rfl⟩ : ∃ w0 : Value, args = #[w0] := by
    have hs : args.size = 1 := by simpa [Cond.value, given_1] using ga0
    obtain ⟨L⟩ := args
    match L, hs with
    | [w0], _ => exact ⟨w0, rfl⟩
  have hw := fun d (hd : d ∈ tables_1) => atoms_spec (ws := Jvm.Cond.code x code maxLocals ret :: tables_1) hat d (List.mem_cons_of_mem _ hd)
  have hfit : Fit s := fun {y c} hc i hi => by
    obtain ⟨ha, rfl⟩ := Array.getElem?_eq_some_iff.mp hc
    have q := List.all_eq_true.mp ((Array.all_eq_true_iff_forall_mem.mp hF) _ (Array.getElem_mem ha)) i (List.mem_range.mpr hi)
    simpa [Array.getElem?_eq_getElem hi] using q
  obtain ⟨i0, ei0⟩ := is_v gb0
  obtain rfl : w0 = (.int i0) := Option.some.inj ei0
  obtain ⟨na, nr⟩ := and_e hn
  obtain ⟨nl, nr⟩ := and_e nr
  obtain ⟨n0, nr⟩ := and_e nr
  obtain ⟨n1, nr⟩ := and_e nr
  obtain ⟨n2, nr⟩ := and_e nr
  obtain ⟨n3, nr⟩ := and_e nr
  obtain ⟨n4, nr⟩ := and_e nr
  obtain ⟨n5, nr⟩ := and_e nr
  obtain ⟨n6, nr⟩ := and_e nr
  obtain ⟨n7, nr⟩ := and_e nr
  obtain ⟨n8, nr⟩ := and_e nr
  obtain ⟨n9, nr⟩ := and_e nr
  obtain ⟨n10, nr⟩ := and_e nr
  obtain ⟨n11, nr⟩ := and_e nr
  obtain ⟨n12, nr⟩ := and_e nr
  obtain ⟨n13, nr⟩ := and_e nr
  obtain ⟨n14, nr⟩ := and_e nr
  obtain ⟨n15, nr⟩ := and_e nr
  obtain ⟨n16, nr⟩ := and_e nr
  obtain ⟨n17, nr⟩ := and_e nr
  have n18 := nr
  obtain ⟨a1, ev⟩ := arr_v na
  obtain ⟨cl, Ar⟩ := Arr.start ev na
  have St := Sta.start ev (Or.inr ⟨hw _ (List.mem_of_getElem? (i := 3) rfl), hw _ (List.mem_of_getElem? (i := 6) rfl)⟩)
  have h19 : cl.slots.size.toInt32 = (19 : Int32) := by
    obtain ⟨x, cc, q1, q2, q3⟩ := Term.length_spec (own_eqI nl)
    cases ev.symm.trans q1
    have q4 := q2.symm.trans (Arr.fin (Vm.Alike.refl _) Ar)
    cases q4
    exact (Value.int.inj q3).symm
  have f0 := elem_in (own_eqL n0) ev (Term.int_eval (0)) Ar.1
  have f1 := elem_in (own_eqL n1) ev (Term.int_eval (1)) Ar.1
  have f2 := elem_in (own_eqL n2) ev (Term.int_eval (2)) Ar.1
  have f3 := elem_in (own_eqL n3) ev (Term.int_eval (3)) Ar.1
  have f4 := elem_in (own_eqL n4) ev (Term.int_eval (4)) Ar.1
  have f5 := elem_in (own_eqL n5) ev (Term.int_eval (5)) Ar.1
  have f6 := elem_in (own_eqL n6) ev (Term.int_eval (6)) Ar.1
  have f7 := elem_in (own_eqL n7) ev (Term.int_eval (7)) Ar.1
  have f8 := elem_in (own_eqL n8) ev (Term.int_eval (8)) Ar.1
  have f9 := elem_in (own_eqL n9) ev (Term.int_eval (9)) Ar.1
  have f10 := elem_in (own_eqL n10) ev (Term.int_eval (10)) Ar.1
  have f11 := elem_in (own_eqL n11) ev (Term.int_eval (11)) Ar.1
  have f12 := elem_in (own_eqL n12) ev (Term.int_eval (12)) Ar.1
  have f13 := elem_in (own_eqL n13) ev (Term.int_eval (13)) Ar.1
  have f14 := elem_in (own_eqL n14) ev (Term.int_eval (14)) Ar.1
  have f15 := elem_in (own_eqL n15) ev (Term.int_eval (15)) Ar.1
  have f16 := elem_in (own_eqL n16) ev (Term.int_eval (16)) Ar.1
  have f17 := elem_in (own_eqL n17) ev (Term.int_eval (17)) Ar.1
  have f18 := elem_in (own_eqL n18) ev (Term.int_eval (18)) Ar.1
  have hall : ∀ i : Nat, i ≤ 18 → i < cl.slots.size ∧ cl.slots[i]? = some (.long (own_pow i)) := fun i hi => by
    match i, hi with
    | 0, _ => exact ⟨Nat.lt_of_not_le fun q => f0.1 (Or.inr q), f0.2⟩
    | 1, _ => exact ⟨Nat.lt_of_not_le fun q => f1.1 (Or.inr q), f1.2⟩
    | 2, _ => exact ⟨Nat.lt_of_not_le fun q => f2.1 (Or.inr q), f2.2⟩
    | 3, _ => exact ⟨Nat.lt_of_not_le fun q => f3.1 (Or.inr q), f3.2⟩
    | 4, _ => exact ⟨Nat.lt_of_not_le fun q => f4.1 (Or.inr q), f4.2⟩
    | 5, _ => exact ⟨Nat.lt_of_not_le fun q => f5.1 (Or.inr q), f5.2⟩
    | 6, _ => exact ⟨Nat.lt_of_not_le fun q => f6.1 (Or.inr q), f6.2⟩
    | 7, _ => exact ⟨Nat.lt_of_not_le fun q => f7.1 (Or.inr q), f7.2⟩
    | 8, _ => exact ⟨Nat.lt_of_not_le fun q => f8.1 (Or.inr q), f8.2⟩
    | 9, _ => exact ⟨Nat.lt_of_not_le fun q => f9.1 (Or.inr q), f9.2⟩
    | 10, _ => exact ⟨Nat.lt_of_not_le fun q => f10.1 (Or.inr q), f10.2⟩
    | 11, _ => exact ⟨Nat.lt_of_not_le fun q => f11.1 (Or.inr q), f11.2⟩
    | 12, _ => exact ⟨Nat.lt_of_not_le fun q => f12.1 (Or.inr q), f12.2⟩
    | 13, _ => exact ⟨Nat.lt_of_not_le fun q => f13.1 (Or.inr q), f13.2⟩
    | 14, _ => exact ⟨Nat.lt_of_not_le fun q => f14.1 (Or.inr q), f14.2⟩
    | 15, _ => exact ⟨Nat.lt_of_not_le fun q => f15.1 (Or.inr q), f15.2⟩
    | 16, _ => exact ⟨Nat.lt_of_not_le fun q => f16.1 (Or.inr q), f16.2⟩
    | 17, _ => exact ⟨Nat.lt_of_not_le fun q => f17.1 (Or.inr q), f17.2⟩
    | 18, _ => exact ⟨Nat.lt_of_not_le fun q => f18.1 (Or.inr q), f18.2⟩
    | i + 19, h => exact absurd h (by omega)
  obtain ⟨n, o, h1, h2, h3, _, L, rfl, ⟨rfl, N⟩, hq⟩ := rm0 l s _ hw tables_1 i0 s.heap s.heap.size (Nat.le_refl _) a1 cl St Ar h19 hall p e ha hc hk s m _ below hf ((Spec.applies_iff_loose hf).mp happ).1 ⟨rfl, State.Warmed39.refl s, rfl⟩ trivial
  refine ⟨n, _, h1, h2, h3, hpost _ _ _ _ _ _ ⟨Cond.after_iff.mpr rfl, Cond.after_iff.mpr (eq_i res_at (Term.int_eval (1)) rfl), trivial⟩ ⟨hq.1, hq.2.1, (hq.2.2.sift fun y hy => Or.inr (N y hy)).mono (by decide) (by decide)⟩⟩
theorem main_1_1 : Claimed_1_1 := comes_1 fun _ _ _ _ _ _ h hF => ⟨h.1, hF⟩
theorem main_1_2 : Claimed_1_2 := comes_1 fun _ _ _ _ _ _ h hF => ⟨h.2.1, hF⟩
end Jvm.Pilot.@@N@@
namespace Jvm.Pilot.@@N@@
open Jvm Jvm.ClassFile Sem Op Lib Jvm.Free Jvm.Stand Jvm.Pilot.@@N@@.Jvm.D
/-! MADE BY PROGRAM (witnessworld.py) out of the Statement's table words and the real class files: 11 classes; the members and pool entries that the words name. The judged class is class 1, her method 1. -/
namespace start1
open Jvm.ClassFile
def u (s : String) : CpInfo := .utf8 (stringToUtf16 s)
/-- a pool by its gaps: so many unusable entries, then the entry; so many at the end -/
def gap : Nat → List CpInfo → List CpInfo
  | 0, r => r
  | n + 1, r => .unusable :: gap n r
def poolList (es : List (Nat × CpInfo)) (last : Nat) : List CpInfo := es.foldr (fun e r => gap e.1 (e.2 :: r)) (gap last [])
def pool (es : List (Nat × CpInfo)) (last : Nat) : Array CpInfo := ⟨poolList es last⟩
def fileOf (pool : Array CpInfo) (this : Nat) (attrs : Array Attribute := #[]) (ms : Array MethodInfo := #[]) (fl : Nat := 33) (sup : Nat := 0) (ifs : Array Nat := #[]) (fds : Array FieldInfo := #[]) : ClassFile where
  minorVersion := 0
  majorVersion := 65
  constantPool := pool
  accessFlags := fl
  thisClass := this
  superClass := sup
  interfaces := ifs
  fields := fds
  methods := ms
  attributes := attrs
def plain (name : String) (sup : Option ClassId) : Class where
  name := name
  kind := .ordinary
  loader := none
  accessFlags := 33
  super := sup
  interfaces := #[]
  cf := none
  fields := #[]
  methods := #[]
  instanceTypes := #[]
  staticTypes := #[]
  resolved := #[]
  callSites := []
  init := .initialized
  statics := none
  mirror := none

def pool0 : Array CpInfo := pool [(5, u "<init>"), (0, u "()V"), (1, .class_ 10), (1, u "java/lang/Object")] 113

def k0m0 : Method := { name := "<init>", desc := "()V", sig := { parameters := [], returnType := none }, accessFlags := 1, code := none }
/-- java/lang/Object -/
def k0 : Class := { plain "java/lang/Object" none with
  accessFlags := 33
  interfaces := #[]
  cf := some (fileOf pool0 8 #[] #[{ accessFlags := 1, nameIndex := 5, descriptorIndex := 6, attributes := #[] }] 33 0 #[] #[])
  fields := #[]
  methods := #[k0m0]
  instanceTypes := #[]
  staticTypes := #[]
  resolved := Array.replicate 124 none
  statics := none }

def pool1 : Array CpInfo := pool [(2, .class_ 4), (1, u "java/lang/Object"), (0, u "<init>"), (0, u "()V"), (0, .integer 2147483647), (0, .methodref 9 10), (0, .class_ 11), (0, .nameAndType 12 13), (0, u "com/example/nodal_ledger/nodalledger/market/LongDecimals"), (0, u "powerOfTen"), (0, u "(I)J"), (0, .long 10), (1, .class_ 17), (0, u "com/example/nodal_ledger/nodalledger/market/LongDecimalsPowerOfTenPinLaw"), (2, u "law"), (0, u "(I)Z")] 3

def k1m0 : Method := { name := "<init>", desc := "()V", sig := { parameters := [], returnType := none }, accessFlags := 2, code := none }
def k1c1 : Code := { maxStack := 6, maxLocals := 8, code := code, exceptionTable := #[], attributes := #[] }
def k1m1 : Method := { name := "law", desc := "(I)Z", sig := { parameters := [.int], returnType := some .boolean }, accessFlags := 9, code := some k1c1 }
/-- com/example/nodal_ledger/nodalledger/market/LongDecimalsPowerOfTenPinLaw -/
def k1 : Class := { plain "com/example/nodal_ledger/nodalledger/market/LongDecimalsPowerOfTenPinLaw" (some 0) with
  accessFlags := 49
  interfaces := #[]
  cf := some (fileOf pool1 16 #[] #[{ accessFlags := 2, nameIndex := 5, descriptorIndex := 6, attributes := #[] }, { accessFlags := 9, nameIndex := 20, descriptorIndex := 21, attributes := #[] }] 49 2 #[] #[])
  fields := #[]
  methods := #[k1m0, k1m1]
  instanceTypes := #[]
  staticTypes := #[]
  resolved := Array.replicate 25 none
  statics := none }

def pool2 : Array CpInfo := pool [(2, .class_ 4), (1, u "java/lang/Object"), (0, u "<init>"), (0, u "()V"), (0, .fieldref 8 9), (0, .class_ 10), (0, .nameAndType 11 12), (0, u "com/example/nodal_ledger/nodalledger/market/LongDecimals"), (0, u "POWERS_OF_TEN"), (0, u "[J"), (11, u "powerOfTen"), (0, u "(I)J"), (38, u "LONGEST"), (0, u "I"), (19, u "LONG_DIGITS")] 35

def k2m0 : Method := { name := "<init>", desc := "()V", sig := { parameters := [], returnType := none }, accessFlags := 2, code := none }
def k2c1 : Code := { maxStack := 3, maxLocals := 1, code := prog_116_method_2_code, exceptionTable := #[], attributes := #[] }
def k2m1 : Method := { name := "powerOfTen", desc := "(I)J", sig := { parameters := [.int], returnType := some .long }, accessFlags := 8, code := some k2c1 }
/-- com/example/nodal_ledger/nodalledger/market/LongDecimals -/
def k2 : Class := { plain "com/example/nodal_ledger/nodalledger/market/LongDecimals" (some 0) with
  accessFlags := 48
  interfaces := #[]
  cf := some (fileOf pool2 8 #[] #[{ accessFlags := 2, nameIndex := 5, descriptorIndex := 6, attributes := #[] }, { accessFlags := 8, nameIndex := 24, descriptorIndex := 25, attributes := #[] }] 48 2 #[] #[{ accessFlags := 24, nameIndex := 85, descriptorIndex := 65, attributes := #[] }, { accessFlags := 26, nameIndex := 11, descriptorIndex := 12, attributes := #[] }, { accessFlags := 26, nameIndex := 64, descriptorIndex := 65, attributes := #[] }])
  fields := #[{ name := "LONG_DIGITS", type := .int, accessFlags := 24, slot := 0, constantValue := 0 }, { name := "POWERS_OF_TEN", type := (.array .long), accessFlags := 26, slot := 1, constantValue := 0 }, { name := "LONGEST", type := .int, accessFlags := 26, slot := 2, constantValue := 0 }]
  methods := #[k2m0, k2m1]
  instanceTypes := #[]
  staticTypes := #[.int, (.array .long), .int]
  resolved := Array.replicate 121 none
  statics := some 0 }

def pool3 : Array CpInfo := pool [(1, u "java/lang/Cloneable"), (0, .class_ 1), (0, u "java/lang/Object"), (0, .class_ 3)] 3

/-- java/lang/Cloneable -/
def k3 : Class := { plain "java/lang/Cloneable" (some 0) with
  accessFlags := 1537
  interfaces := #[]
  cf := some (fileOf pool3 2 #[] #[] 1537 4 #[] #[])
  fields := #[]
  methods := #[]
  instanceTypes := #[]
  staticTypes := #[]
  resolved := Array.replicate 8 none
  statics := none }

def pool4 : Array CpInfo := pool [(1, u "java/io/Serializable"), (0, .class_ 1), (0, u "java/lang/Object"), (0, .class_ 3)] 3

/-- java/io/Serializable -/
def k4 : Class := { plain "java/io/Serializable" (some 0) with
  accessFlags := 1537
  interfaces := #[]
  cf := some (fileOf pool4 2 #[] #[] 1537 4 #[] #[])
  fields := #[]
  methods := #[]
  instanceTypes := #[]
  staticTypes := #[]
  resolved := Array.replicate 8 none
  statics := none }

/-- the primitive byte -/
def k5 : Class := { plain "byte" none with kind := .primitive 'B', accessFlags := 0x411 }
/-- [B -/
def k6 : Class := { plain "[B" (some 0) with kind := .array 5 .byte, interfaces := #[3, 4], accessFlags := 1041 }

/-- the primitive int -/
def k7 : Class := { plain "int" none with kind := .primitive 'I', accessFlags := 0x411 }
/-- [I -/
def k8 : Class := { plain "[I" (some 0) with kind := .array 7 .int, interfaces := #[3, 4], accessFlags := 1041 }

/-- the primitive long -/
def k9 : Class := { plain "long" none with kind := .primitive 'J', accessFlags := 0x411 }
/-- [J -/
def k10 : Class := { plain "[J" (some 0) with kind := .array 9 .long, interfaces := #[3, 4], accessFlags := 1041 }

def heap : Heap := #[{ cls := 2, slots := #[.int 0, .ref 1, .int 0], vm := .statics 2 },
  { cls := 10, slots := #[.long 1, .long 10, .long 100, .long 1000, .long 10000, .long 100000, .long 1000000, .long 10000000, .long 100000000, .long 1000000000, .long 10000000000, .long 100000000000, .long 1000000000000, .long 10000000000000, .long 100000000000000, .long 1000000000000000, .long 10000000000000000, .long 100000000000000000, .long 1000000000000000000], vm := .none }]
def classes : Array Class := #[k0, k1, k2, k3, k4, k5, k6, k7, k8, k9, k10]
def interned : List (Array UInt16 × Addr) := []
def slotsUsed : Nat := 22
def theMethod : MethodId := ⟨1, 1⟩
def args0 : Array Value := #[.int 5]
def aboutOver (below : List Frame) : State where
  vm := { classes := classes, interned := interned.toArray }
  heap := heap
  slotsUsed := slotsUsed
  threads := #[{ frames := .invoking theMethod args0 :: below }]
def below0 : List Frame := [.native { method := ⟨0, 0⟩, args := #[] }]
def about1 : State := aboutOver below0
def p0 : Program := .bare "" "" ""
def e0 : Env := launch0.env 0 0 0
theorem w_frames : about1.frames = Frame.invoking theMethod args0 :: below0 := rfl
set_option maxRecDepth 65536 in
theorem w_args : argsFit about1.vm theMethod args0 = true := by decide +kernel
set_option maxRecDepth 65536 in
theorem w_heap : heapFits about1 = true := by decide +kernel
set_option maxRecDepth 65536 in
theorem w_runnable : about1.curStatus? = some .runnable := by decide +kernel
set_option maxRecDepth 65536 in
theorem w_alone : about1.alone = true := by decide +kernel
set_option maxRecDepth 65536 in
theorem w_named : about1.methodNamed? x = some theMethod := by decide +kernel
set_option maxRecDepth 65536 in
theorem w_hears : about1.hears theMethod below0 = true := by decide +kernel
set_option maxRecDepth 65536 in
theorem w_ripe : about1.ripe theMethod args0 below0 = true := by decide +kernel
theorem w_running : about1.status = .running := rfl
set_option maxRecDepth 65536 in
theorem w_room : about1.hasRoom e0.platform room_1 = true :=
  launch0.hasRoom_least _ room_1 (by decide +kernel) (by decide +kernel) (by decide +kernel) (by decide +kernel) (by decide +kernel) (by decide +kernel)
theorem allAtoms_all (ts : List Jvm.Cond) (a : Array Jvm.Value) (st : Jvm.State) : (allAtoms ts).before a st = ts.all (fun c => c.before a st) := by
  induction ts with
  | nil => rfl
  | cons c t ih =>
    show (Jvm.Cond.and c (allAtoms t)).before a st = _
    rw [Jvm.Cond.before_and, ih, List.all_cons]
def words1 : List Jvm.Cond := Jvm.Cond.code x code maxLocals ret :: tables_1
/-- a 'code' word, met by the world's own term for the bytes: nothing is compared byte by byte -/
theorem code_word {y : MethodName} {bytes : ByteArray} {mx : Nat} {rt : Option FieldType} {a : Array Value} {s : State} {m : MethodId} {meth : Method} {c : Code} (h1 : s.methodNamed? y = some m) (h2 : s.vm.method? m = some meth) (h3 : meth.code = some c) (h4 : c.code = bytes)
    (h5 : (c.maxLocals == mx && c.exceptionTable.isEmpty && decide (c.maxStack ≤ mostOperands) && decide (meth.sig.returnType = rt) && !meth.locks && decide (parseMethodDescriptor y.desc = some meth.sig)) = true) : (Jvm.Cond.code y bytes mx rt).before a s = true := by
  simp only [Bool.and_eq_true, beq_iff_eq, Bool.not_eq_true', decide_eq_true_eq] at h5
  obtain ⟨⟨⟨⟨⟨g1, g2⟩, g3⟩, g4⟩, g5⟩, g6⟩ := h5
  simp [Cond.before, Cond.holds, Cond.value, h1, h2, h3, h4, g1, g2, g3, g4, g5, g6]
def isCode : Jvm.Cond → Bool
  | .code _ _ _ _ => true
  | _ => false
theorem all_split {L : List Jvm.Cond} {P : Jvm.Cond → Bool} (h1 : L.all (fun c => isCode c || P c) = true) (h2 : ∀ c ∈ L.filter isCode, P c = true) : L.all P = true := by
  refine List.all_eq_true.mpr fun c hc => ?_
  have h := List.all_eq_true.mp h1 c hc
  rcases Bool.eq_false_or_eq_true (isCode c) with hi | hi
  · exact h2 c (List.mem_filter.mpr ⟨hc, hi⟩)
  · simpa [hi] using h
set_option maxRecDepth 65536 in
theorem w_c0 : (Jvm.Cond.code x code maxLocals ret).before args0 about1 = true := code_word (m := ⟨1, 1⟩) (meth := k1m1) (c := k1c1) (by decide +kernel) rfl rfl rfl (by decide +kernel)
set_option maxRecDepth 65536 in
theorem w_c1 : (Jvm.Cond.code ({ cls := "com/example/nodal_ledger/nodalledger/market/LongDecimals", name := "powerOfTen", desc := "(I)J" } : Jvm.MethodName) prog_116_method_2_code (1 : Nat) (Option.some Jvm.ClassFile.FieldType.long)).before args0 about1 = true := code_word (m := ⟨2, 1⟩) (meth := k2m1) (c := k2c1) (by decide +kernel) rfl rfl rfl (by decide +kernel)
def codes1 : List Jvm.Cond := [Jvm.Cond.code x code maxLocals ret, Jvm.Cond.code ({ cls := "com/example/nodal_ledger/nodalledger/market/LongDecimals", name := "powerOfTen", desc := "(I)J" } : Jvm.MethodName) prog_116_method_2_code (1 : Nat) (Option.some Jvm.ClassFile.FieldType.long)]
set_option maxRecDepth 65536 in
theorem codes_eq : words1.filter isCode = codes1 := rfl
theorem w_codes : ∀ c ∈ words1.filter isCode, c.before args0 about1 = true := by
  rw [codes_eq]
  intro c hc
  simp only [codes1, List.mem_cons, List.not_mem_nil, or_false] at hc
  rcases hc with rfl | rfl
  · exact w_c0
  · exact w_c1
set_option maxRecDepth 65536 in
theorem w_t1 : words1.all (fun c => isCode c || c.before args0 about1) = true := by decide +kernel
theorem w_tables : (allAtoms (Jvm.Cond.code x code maxLocals ret :: tables_1)).before args0 about1 = true := by
  rw [allAtoms_all]
  show words1.all (fun c => c.before args0 about1) = true
  refine all_split ?_ w_codes
  rw [w_t1]
set_option maxRecDepth 65536 in
theorem w_case : (Jvm.Cond.and given_1 narrow_1).before args0 about1 = true := by decide +kernel
theorem w_applies : (headSpec (Jvm.Cond.code x code maxLocals ret :: tables_1) room_1).applies x e0.platform about1 = true :=
  (Spec.applies_iff w_frames).mpr ⟨w_running, w_runnable, w_alone, w_named, w_hears, w_ripe, w_room, w_tables⟩
theorem atStart : AtStart classFile x code maxLocals ret World_1 tables_1 room_1 Calls_1 rest_1 Pre_1 launch0 p0 e0 about1 theMethod args0 below0 :=
  ⟨lists_1, trivial, launch0.admits_env _ _ _, launch0.least_env, fairChoices_fair.cas, fairChoices_fair.clock, w_frames, w_args, w_heap, w_applies, trivial, trivial, w_case⟩
end start1
theorem witness_1 : WitnessClaimed_1 := ⟨start1.p0, start1.e0, start1.about1, start1.theMethod, start1.args0, start1.below0, start1.atStart⟩
end Jvm.Pilot.@@N@@
