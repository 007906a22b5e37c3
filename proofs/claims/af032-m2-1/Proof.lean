import JvmDerived
import JvmDerived.Pilot.@@N@@Statement
import JvmDerived.Pilot.@@N@@Code
set_option linter.unusedVariables false
set_option linter.unusedSimpArgs false
namespace Jvm.RoadKit
open Sem ClassFile Op Lib Jvm.Stand Jvm.Free Jvm.LawKit
section New
variable {p : Program} {l : Launch} {e : Env} {R : Room} {s : State} {m : MethodId} {args : Array Value} {below : List Frame} {meth : Method} {c : Code} {T : State} {locs : List Loc} {cells slots : Nat}
theorem retI (X : Stand p l e R s m args below meth c T locs cells slots) (hx : p.tables.exec = Jvm.exec) {pc : Nat} {Ls : Array Slot} {z : Int32} {rest : List Value} (hret : meth.sig.returnType = some .int) (hd : decode c.code pc = .ok (.ireturn, 1)) {fs : List Frame}
    (hl : ∀ (f : JFrame) (acts : List Action), f.method = m → f.locked = none → f.entered = [] → (doReturn e (T.setTop f) acts (some (.int z))).1 = T.setFrames fs) : Steps p.tables e below (T.setTop (mkF m pc Ls (.int z :: rest))) (T.setFrames fs) := by
  have hm' : T.vm.method? m = some meth := X.method'
  have hn : narrow .int (.int z) = .int z := rfl
  show Steps p.tables e below (T.setTop { method := m, pc := pc, locals := Ls, stack := _ :: rest, locked := none }) _
  jvm_step X.here [X.here.top, hx, hd, hm', hret, hn]
  first | (intro acts; rw [hl _ acts rfl rfl rfl]) | rw [hl _ _ rfl rfl rfl]
  exact Steps.refl _
end New
end Jvm.RoadKit
namespace Jvm.Pilot.@@N@@
open Jvm Jvm.ClassFile Sem Op Lib Jvm.Free Jvm.Stand Jvm.LawKit Jvm.RoadKit Bundle Jvm.Pilot.@@N@@.Jvm.D
theorem d1_0 : decode prog_24_method_5_code 0 = .ok (.aload_n 0, 1) := by decide +kernel
theorem d1_1 : decode prog_24_method_5_code 1 = .ok (.iload_n 1, 1) := by decide +kernel
theorem d1_2 : decode prog_24_method_5_code 2 = .ok (.baload, 1) := by decide +kernel
theorem d1_3 : decode prog_24_method_5_code 3 = .ok (.sipush 255, 3) := by decide +kernel
theorem d1_6 : decode prog_24_method_5_code 6 = .ok (.iand, 1) := by decide +kernel
theorem d1_7 : decode prog_24_method_5_code 7 = .ok (.aload_n 0, 1) := by decide +kernel
theorem d1_8 : decode prog_24_method_5_code 8 = .ok (.iload_n 1, 1) := by decide +kernel
theorem d1_9 : decode prog_24_method_5_code 9 = .ok (.iconst 1, 1) := by decide +kernel
theorem d1_10 : decode prog_24_method_5_code 10 = .ok (.iadd, 1) := by decide +kernel
theorem d1_11 : decode prog_24_method_5_code 11 = .ok (.baload, 1) := by decide +kernel
theorem d1_12 : decode prog_24_method_5_code 12 = .ok (.sipush 255, 3) := by decide +kernel
theorem d1_15 : decode prog_24_method_5_code 15 = .ok (.iand, 1) := by decide +kernel
theorem d1_16 : decode prog_24_method_5_code 16 = .ok (.bipush 8, 2) := by decide +kernel
theorem d1_18 : decode prog_24_method_5_code 18 = .ok (.ishl, 1) := by decide +kernel
theorem d1_19 : decode prog_24_method_5_code 19 = .ok (.ior, 1) := by decide +kernel
theorem d1_20 : decode prog_24_method_5_code 20 = .ok (.ireturn, 1) := by decide +kernel
theorem pn_1 : plainName "com/example/caddisfly/caddisfly/apk/ZipRecords" = true := by first | (simp [plainName, overriddenIn]; done) | decide +kernel
theorem ef_1 (m : MethodId) (x0 : Addr) (x1 : Int32) : entryFrame m #[(.ref x0), (.int x1)] 2 = mkF m 0 #[.val (.ref x0), .val (.int x1)] [] := by first | (simp [entryFrame, mkF, argsToLocals, Value.category]; done) | rfl
def Q1 (Z : State) (w1 : Int32) (w2 : Int32) (h0 : Heap) (n0 : Nat) (v : Option Value) (h : Heap) (L : List Loc) : Prop := v = some (.int ((w1 &&& (255 : Int32)) ||| ((w2 &&& (255 : Int32)) <<< ((8 : Int32) &&& 31)))) ∧ Fr n0 L ∧ h = h0
set_option maxRecDepth 65536 in
set_option maxHeartbeats 40000000 in
theorem rm1 (l : Launch) (Z : State) (a0 : Array Value) (hw : ∀ d ∈ tables_1, d.before a0 Z = true) (ws : List Jvm.Cond) (a1 : Addr) (j : Int32) (w1 : Int32) (w2 : Int32) (cl : Cell) (h0 : Heap) (n0 : Nat) (Z0 : n0 ≤ h0.size) (Ar : Arr Z h0 a1 cl .byte) (hin1 : ¬ (j < 0 ∨ cl.slots.size ≤ j.toNatClampNeg)) (hat1 : cl.slots[j.toNatClampNeg]? = some (.int w1)) (hin2 : ¬ ((j + (1 : Int32)) < 0 ∨ cl.slots.size ≤ (j + (1 : Int32)).toNatClampNeg)) (hat2 : cl.slots[(j + (1 : Int32)).toNatClampNeg]? = some (.int w2)) :
    MetFree l (⟨"com/example/caddisfly/caddisfly/apk/ZipRecords", "uint16", "([BI)I"⟩ : MethodName) (head1 (Jvm.Cond.code (⟨"com/example/caddisfly/caddisfly/apk/ZipRecords", "uint16", "([BI)I"⟩ : MethodName) prog_24_method_5_code 2 (some .int) :: ws) ({ frames := 0, cells := 0, slots := 0, locals := 0 } : Room)) (fun a U => a = #[(.ref a1), (.int j)] ∧ Z.Warmed39 U.vm ∧ U.heap = h0) (fun _ _ _ _ _ => True) (fun _ U o U' => ∃ v L, o = .returned v ∧ Q1 Z w1 w2 h0 n0 v U'.heap L ∧ FrameEnd U o U' L ({ frames := 0, cells := 0, slots := 0, locals := 0 } : Room).cells ({ frames := 0, cells := 0, slots := 0, locals := 0 } : Room).slots) := by
  refine MetFree.of_bodySF (plainFor_of_name pn_1) hisR ?_
  intro p e s m args below meth c s₁ Bd hml0 hP hK
  obtain ⟨rfl, hZ, hh⟩ := hP
  have hx := Bd.exec
  have hby := Bd.bytes
  have hml : c.maxLocals = 2 := hml0
  have hown : s.vm.findClass "com/example/caddisfly/caddisfly/apk/ZipRecords" = some m.cls := findClass_of_methodNamed Bd.named
  have hnm := (name_of_methodNamed Bd.named Bd.method).1
  have X0 : Stand p l e ({ frames := 0, cells := 0, slots := 0, locals := 0 } : Room) s m #[(.ref a1), (.int j)] below meth c s₁ [] 0 0 := Stand.of_body Bd
  have e0 : s₁.heap = h0 := by rw [← hh, Bd.state]; rfl
  have N0 := Fr.nil n0
  have pre0 : ∀ t, Steps p.tables e below (s₁.setTop (mkF m 0 #[.val (.ref a1), .val (.int j)] [])) t → Steps p.tables e below (s₁.setTop (entryFrame m #[(.ref a1), (.int j)] 2)) t := fun t k => castTop (ef_1 m a1 j) k
  obtain ⟨fs, hr, hrun, hended, hW, hsame⟩ := X0.leave (v := some (.int ((w1 &&& (255 : Int32)) ||| ((w2 &&& (255 : Int32)) <<< ((8 : Int32) &&& 31))))) (fun h => by rw [Bd.returns] at h; cases h)
  refine ⟨_, _, pre0 _ ?_, hrun, hended, _, _, rfl, ?_, ⟨_, rfl⟩, hW, hsame.mono (by decide) (by decide)⟩
  · show Steps p.tables e below (s₁.setTop (mkF m 0 #[.val (.ref a1), .val (.int j)] [])) _
    refine XS.aloadN X0.here hx rfl (hb hby d1_0) rfl rfl ?_
    show Steps p.tables e below (s₁.setTop (mkF m 1 #[.val (.ref a1), .val (.int j)] [(.ref a1)])) _
    refine XS.iloadN X0.here hx rfl (hb hby d1_1) rfl ?_
    show Steps p.tables e below (s₁.setTop (mkF m 2 #[.val (.ref a1), .val (.int j)] [(.int j), (.ref a1)])) _
    refine X0.baloadBytes hx (j := j) (v := (.int w1)) (by rw [e0]; exact Ar.1) (State.isArrayOf_alike hZ.alike Ar.2.1) Ar.2.2 hin1 hat1 (g := (mkF m 2 #[.val (.ref a1), .val (.int j)] [(.int j), (.ref a1)])) rfl rfl (hb hby d1_2) _ ?_
    show Steps p.tables e below (s₁.setTop (mkF m 3 #[.val (.ref a1), .val (.int j)] [(.int w1)])) _
    refine XS.sipush X0.here hx rfl (hb hby d1_3) ?_
    show Steps p.tables e below (s₁.setTop (mkF m 6 #[.val (.ref a1), .val (.int j)] [(.int (255 : Int32)), (.int w1)])) _
    refine XS.iand X0.here hx rfl (hb hby d1_6) rfl ?_
    show Steps p.tables e below (s₁.setTop (mkF m 7 #[.val (.ref a1), .val (.int j)] [(.int (w1 &&& (255 : Int32)))])) _
    refine XS.aloadN X0.here hx rfl (hb hby d1_7) rfl rfl ?_
    show Steps p.tables e below (s₁.setTop (mkF m 8 #[.val (.ref a1), .val (.int j)] [(.ref a1), (.int (w1 &&& (255 : Int32)))])) _
    refine XS.iloadN X0.here hx rfl (hb hby d1_8) rfl ?_
    show Steps p.tables e below (s₁.setTop (mkF m 9 #[.val (.ref a1), .val (.int j)] [(.int j), (.ref a1), (.int (w1 &&& (255 : Int32)))])) _
    refine XS.iconst X0.here hx rfl (hb hby d1_9) ?_
    show Steps p.tables e below (s₁.setTop (mkF m 10 #[.val (.ref a1), .val (.int j)] [(.int (1 : Int32)), (.int j), (.ref a1), (.int (w1 &&& (255 : Int32)))])) _
    refine XS.iadd X0.here hx rfl (hb hby d1_10) rfl ?_
    show Steps p.tables e below (s₁.setTop (mkF m 11 #[.val (.ref a1), .val (.int j)] [(.int (j + (1 : Int32))), (.ref a1), (.int (w1 &&& (255 : Int32)))])) _
    refine X0.baloadBytes hx (j := (j + (1 : Int32))) (v := (.int w2)) (by rw [e0]; exact Ar.1) (State.isArrayOf_alike hZ.alike Ar.2.1) Ar.2.2 hin2 hat2 (g := (mkF m 11 #[.val (.ref a1), .val (.int j)] [(.int (j + (1 : Int32))), (.ref a1), (.int (w1 &&& (255 : Int32)))])) rfl rfl (hb hby d1_11) _ ?_
    show Steps p.tables e below (s₁.setTop (mkF m 12 #[.val (.ref a1), .val (.int j)] [(.int w2), (.int (w1 &&& (255 : Int32)))])) _
    refine XS.sipush X0.here hx rfl (hb hby d1_12) ?_
    show Steps p.tables e below (s₁.setTop (mkF m 15 #[.val (.ref a1), .val (.int j)] [(.int (255 : Int32)), (.int w2), (.int (w1 &&& (255 : Int32)))])) _
    refine XS.iand X0.here hx rfl (hb hby d1_15) rfl ?_
    show Steps p.tables e below (s₁.setTop (mkF m 16 #[.val (.ref a1), .val (.int j)] [(.int (w2 &&& (255 : Int32))), (.int (w1 &&& (255 : Int32)))])) _
    refine XS.bipush X0.here hx rfl (hb hby d1_16) ?_
    show Steps p.tables e below (s₁.setTop (mkF m 18 #[.val (.ref a1), .val (.int j)] [(.int (8 : Int32)), (.int (w2 &&& (255 : Int32))), (.int (w1 &&& (255 : Int32)))])) _
    refine XS.ishl X0.here hx rfl (hb hby d1_18) rfl ?_
    show Steps p.tables e below (s₁.setTop (mkF m 19 #[.val (.ref a1), .val (.int j)] [(.int ((w2 &&& (255 : Int32)) <<< ((8 : Int32) &&& 31))), (.int (w1 &&& (255 : Int32)))])) _
    refine XS.ior X0.here hx rfl (hb hby d1_19) rfl ?_
    show Steps p.tables e below (s₁.setTop (mkF m 20 #[.val (.ref a1), .val (.int j)] [(.int ((w1 &&& (255 : Int32)) ||| ((w2 &&& (255 : Int32)) <<< ((8 : Int32) &&& 31))))])) _
    exact retI X0 hx Bd.returns (hb hby d1_20) hr
  · show Q1 Z w1 w2 h0 n0 _ s₁.heap _
    rw [e0]
    exact ⟨rfl, N0, rfl⟩
theorem own_u16 (x : Int32) : ((nar .byte ((x &&& (65535 : Int32)).toInt8.toInt32) &&& (255 : Int32)) ||| ((nar .byte ((((x &&& (65535 : Int32)).toUInt32 >>> ((8 : Int32) &&& 31).toUInt32).toInt32).toInt8.toInt32) &&& (255 : Int32)) <<< ((8 : Int32) &&& 31))) = (x &&& (65535 : Int32)) := by
  have m1 := c_mask x (65535 : Int32) 16 (by decide) (by decide)
  generalize hv : (x &&& (65535 : Int32)) = v at *
  have p16 : ((2 ^ 16 : Nat) : Int) = 65536 := by decide
  have p8 : ((2 ^ 8 : Nat) : Int) = 256 := by decide
  rw [p16] at m1
  have b1 : 0 ≤ v.toInt ∧ v.toInt < 65536 := by omega
  have s1 := c_iushr v (8 : Int32) 8 (by decide) (by decide)
  rw [p8] at s1
  generalize hu : ((v.toUInt32 >>> ((8 : Int32) &&& 31).toUInt32).toInt32) = u at *
  show (((v.toInt8.toInt32).toInt8.toInt32 &&& (255 : Int32)) ||| ((((u.toInt8.toInt32).toInt8.toInt32) &&& (255 : Int32)) <<< ((8 : Int32) &&& 31))) = v
  have n1 := c_i2b v
  have n2 := c_i2b u
  generalize v.toInt8.toInt32 = v1 at *
  generalize u.toInt8.toInt32 = u1 at *
  have n3 := c_i2b v1
  have n4 := c_i2b u1
  generalize v1.toInt8.toInt32 = v2 at *
  generalize u1.toInt8.toInt32 = u2 at *
  have k1 := c_mask v2 (255 : Int32) 8 (by decide) (by decide)
  have k2 := c_mask u2 (255 : Int32) 8 (by decide) (by decide)
  rw [p8] at k1 k2
  generalize (v2 &&& (255 : Int32)) = lo at *
  generalize (u2 &&& (255 : Int32)) = hi at *
  have h1 := c_ishl hi (8 : Int32) 8 (by decide)
  rw [p8] at h1
  have r1 := rng32 (hi <<< ((8 : Int32) &&& 31))
  generalize (hi <<< ((8 : Int32) &&& 31)) = up at *
  have o1 := c_or' lo up 8 (by decide) 256 (by decide) (by omega) (by omega) (by omega)
  have r2 := rng32 (lo ||| up)
  apply Int32.toInt_inj.mp
  omega
theorem own_p (x : Int32) : ∃ k : Nat, k ≤ 2 ∧ ((x &&& (2147483647 : Int32)) % (3 : Int32)).toNatClampNeg = k ∧ (((x &&& (2147483647 : Int32)) % (3 : Int32)) + (1 : Int32)).toNatClampNeg = k + 1 ∧ (¬ ((x &&& (2147483647 : Int32)) % (3 : Int32)) < 0 ∧ ((x &&& (2147483647 : Int32)) % (3 : Int32)) < (4 : Int32)) ∧ (¬ (((x &&& (2147483647 : Int32)) % (3 : Int32)) + (1 : Int32)) < 0 ∧ (((x &&& (2147483647 : Int32)) % (3 : Int32)) + (1 : Int32)) < (4 : Int32)) := by
  have m1 := c_mask x (2147483647 : Int32) 31 (by decide) (by decide)
  have p31 : ((2 ^ 31 : Nat) : Int) = 2147483648 := by decide
  rw [p31] at m1
  generalize (x &&& (2147483647 : Int32)) = y at *
  have r1 := (c_irem y (3 : Int32) 3 rfl).1 (by omega)
  generalize (y % (3 : Int32)) = z at *
  have a1 := c_iadd z (1 : Int32)
  have q1 : (1 : Int32).toInt = 1 := rfl
  have q0 : (0 : Int32).toInt = 0 := rfl
  have q4 : (4 : Int32).toInt = 4 := rfl
  have r2 := rng32 (z + (1 : Int32))
  generalize (z + (1 : Int32)) = t at *
  refine ⟨z.toInt.toNat, by omega, rfl, ?_, ⟨fun h => ?_, ?_⟩, ⟨fun h => ?_, ?_⟩⟩
  · show t.toInt.toNat = z.toInt.toNat + 1
    omega
  · rw [Int32.lt_iff_toInt_lt] at h; omega
  · rw [Int32.lt_iff_toInt_lt]; omega
  · rw [Int32.lt_iff_toInt_lt] at h; omega
  · rw [Int32.lt_iff_toInt_lt]; omega
theorem own_get1 (L : List Value) (k : Nat) (a b d : Value) (h : k + 1 < L.length) : ((L.set k a).set (k + 1) b).getD k d = a := by
  rw [List.getD_eq_getElem?_getD, List.getElem?_set_ne (by omega), List.getElem?_set_self (by omega)]; rfl
theorem own_get2 (L : List Value) (k : Nat) (a b d : Value) (h : k + 1 < L.length) : ((L.set k a).set (k + 1) b).getD (k + 1) d = b := by
  rw [List.getD_eq_getElem?_getD, List.getElem?_set_self (by rw [List.length_set]; exact h)]; rfl
theorem pd_0 : parseMethodDescriptor "([BI)I" = some ⟨[(.array .byte), .int], some .int⟩ := by decide +kernel
theorem pn_0 : plainName "com/example/caddisfly/caddisfly/apk/ZipRecordsUint16PinLaw" = true := by first | (simp [plainName, overriddenIn]; done) | decide +kernel
theorem ef_0 (m : MethodId) (x0 : Int32) (x1 : Int32) (x2 : Int32) : entryFrame m #[(.int x0), (.int x1), (.int x2)] maxLocals = mkF m 0 #[.val (.int x0), .val (.int x1), .val (.int x2), .unset, .unset, .unset, .unset] [] := by first | (simp [entryFrame, mkF, argsToLocals, Value.category, maxLocals]; done) | rfl
def Q0 (Z : State) (p1 : Int32) (p2 : Int32) (p3 : Int32) (h0 : Heap) (n0 : Nat) (v : Option Value) (h : Heap) (L : List Loc) : Prop := v = some (.int (1 : Int32)) ∧ Fr n0 L
set_option maxRecDepth 65536 in
set_option maxHeartbeats 40000000 in
theorem rm0 (l : Launch) (Z : State) (a0 : Array Value) (hw : ∀ d ∈ tables_1, d.before a0 Z = true) (ws : List Jvm.Cond) (p1 : Int32) (p2 : Int32) (p3 : Int32) (h0 : Heap) (n0 : Nat) (Z0 : n0 ≤ h0.size)  :
    MetFree l x (head1 (Jvm.Cond.code x code maxLocals ret :: ws) room_1) (fun a U => a = #[(.int p1), (.int p2), (.int p3)] ∧ Z.Warmed39 U.vm ∧ U.heap = h0) (fun _ _ _ _ _ => True) (fun _ U o U' => ∃ v L, o = .returned v ∧ Q0 Z p1 p2 p3 h0 n0 v U'.heap L ∧ FrameEnd U o U' L room_1.cells room_1.slots) := by
  refine MetFree.of_bodySF (plainFor_of_name pn_0) hisR ?_
  intro p e s m args below meth c s₁ Bd hml0 hP hK
  obtain ⟨rfl, hZ, hh⟩ := hP
  have hx := Bd.exec
  have hby := Bd.bytes
  have hml : c.maxLocals = 7 := hml0
  have hown : s.vm.findClass "com/example/caddisfly/caddisfly/apk/ZipRecordsUint16PinLaw" = some m.cls := findClass_of_methodNamed Bd.named
  have hnm := (name_of_methodNamed Bd.named Bd.method).1
  have X0 : Stand p l e room_1 s m #[(.int p1), (.int p2), (.int p3)] below meth c s₁ [] 0 0 := Stand.of_body Bd
  have e0 : s₁.heap = h0 := by rw [← hh, Bd.state]; rfl
  have N0 := Fr.nil n0
  have pre0 : ∀ t, Steps p.tables e below (s₁.setTop (mkF m 0 #[.val (.int p1), .val (.int p2), .val (.int p3), .unset, .unset, .unset, .unset] [])) t → Steps p.tables e below (s₁.setTop (entryFrame m #[(.int p1), (.int p2), (.int p3)] maxLocals)) t := fun t k => castTop (ef_0 m p1 p2 p3) k
  obtain ⟨k, hk, hP1, hP2, hr1, hr2⟩ := own_p p3
  obtain ⟨T3, h3, k3, X3, e3, E3, A3, st3⟩ := newP X0 hx hZ (hw _ (List.mem_of_getElem? (i := 2) rfl)) e0 (g := (mkF m 14 #[.val (.int p1), .val (.int p2), .val (.int p3), .val (.int (p1 &&& (65535 : Int32))), .val (.int ((p3 &&& (2147483647 : Int32)) % (3 : Int32))), .unset, .unset] [(.int (4 : Int32))])) rfl (hb hby at_14) rfl (by decide) (cap := 4) (by decide) (by decide) (by decide) (by decide)
  obtain ⟨b3, g3⟩ : ∃ z, z = h0.size := ⟨_, rfl⟩
  rw [← g3] at A3 st3
  have V_b3 : Arv Z h3 b3 k3 .byte (4 : Int32) [(.int (0 : Int32)), (.int (0 : Int32)), (.int (0 : Int32)), (.int (0 : Int32))] (.int (0 : Int32)) := (Arv.new A3 (by decide)).pad (pad_rep [] (.int (0 : Int32)) 4)
  have g_b3 : n0 ≤ b3 := Nat.le_trans Z0 (Nat.le_of_eq g3.symm)
  have sz_b3 : h0.size ≤ b3 := (Nat.le_trans (Keep.refl h0 []).1 (Nat.le_of_eq g3.symm))
  have K3 : Keep h0 h3 [] := (Keep.refl h0 []).ext E3
  obtain ⟨cl_b3_23, Ar_b3, q_b3, S_b3, N_b3, H_b3, G_b3⟩ := V_b3
  have hin23 : ¬ ((0 : Int32) < 0 ∨ cl_b3_23.slots.size ≤ ((0 : Int32)).toNatClampNeg) := inb_of S_b3 ⟨by decide, by decide⟩
  obtain ⟨T4, h4, X4, e4, W4, st4⟩ := stB X3 hx hZ e3 Ar_b3 (j := (0 : Int32)) hin23 (g := (mkF m 23 #[.val (.int p1), .val (.int p2), .val (.int p3), .val (.int (p1 &&& (65535 : Int32))), .val (.int ((p3 &&& (2147483647 : Int32)) % (3 : Int32))), .val (.ref b3), .unset] [(.int (p2.toInt8.toInt32)), (.int (0 : Int32)), (.ref b3)])) rfl rfl (hb hby at_23)
  have V_b3_4 := Arv.set Ar_b3 q_b3 S_b3 N_b3 H_b3 G_b3 (fits_nar_byte _) W4 0 rfl (Nat.le_of_ble_eq_true rfl)
  have K4 : Keep h0 h4 [] := K3.wr W4 (Or.inr sz_b3)
  have N4 := Fr.snoc X4 N0 g_b3
  obtain ⟨cl_b3_32, Ar_b3, q_b3, S_b3, N_b3, H_b3, G_b3⟩ := V_b3_4
  have hin32 : ¬ ((1 : Int32) < 0 ∨ cl_b3_32.slots.size ≤ ((1 : Int32)).toNatClampNeg) := inb_of S_b3 ⟨by decide, by decide⟩
  obtain ⟨T5, h5, X5, e5, W5, st5⟩ := stB X4 hx hZ e4 Ar_b3 (j := (1 : Int32)) hin32 (g := (mkF m 32 #[.val (.int p1), .val (.int p2), .val (.int p3), .val (.int (p1 &&& (65535 : Int32))), .val (.int ((p3 &&& (2147483647 : Int32)) % (3 : Int32))), .val (.ref b3), .unset] [(.int (((p2.toUInt32 >>> ((8 : Int32) &&& 31).toUInt32).toInt32).toInt8.toInt32)), (.int (1 : Int32)), (.ref b3)])) rfl rfl (hb hby at_32)
  have V_b3_5 := Arv.set Ar_b3 q_b3 S_b3 N_b3 H_b3 G_b3 (fits_nar_byte _) W5 1 rfl (Nat.le_of_ble_eq_true rfl)
  have K5 : Keep h0 h5 [] := K4.wr W5 (Or.inr sz_b3)
  have N5 := Fr.snoc X5 N4 g_b3
  obtain ⟨cl_b3_41, Ar_b3, q_b3, S_b3, N_b3, H_b3, G_b3⟩ := V_b3_5
  have hin41 : ¬ ((2 : Int32) < 0 ∨ cl_b3_41.slots.size ≤ ((2 : Int32)).toNatClampNeg) := inb_of S_b3 ⟨by decide, by decide⟩
  obtain ⟨T6, h6, X6, e6, W6, st6⟩ := stB X5 hx hZ e5 Ar_b3 (j := (2 : Int32)) hin41 (g := (mkF m 41 #[.val (.int p1), .val (.int p2), .val (.int p3), .val (.int (p1 &&& (65535 : Int32))), .val (.int ((p3 &&& (2147483647 : Int32)) % (3 : Int32))), .val (.ref b3), .unset] [(.int (((p2.toUInt32 >>> ((16 : Int32) &&& 31).toUInt32).toInt32).toInt8.toInt32)), (.int (2 : Int32)), (.ref b3)])) rfl rfl (hb hby at_41)
  have V_b3_6 := Arv.set Ar_b3 q_b3 S_b3 N_b3 H_b3 G_b3 (fits_nar_byte _) W6 2 rfl (Nat.le_of_ble_eq_true rfl)
  have K6 : Keep h0 h6 [] := K5.wr W6 (Or.inr sz_b3)
  have N6 := Fr.snoc X6 N5 g_b3
  obtain ⟨cl_b3_50, Ar_b3, q_b3, S_b3, N_b3, H_b3, G_b3⟩ := V_b3_6
  have hin50 : ¬ ((3 : Int32) < 0 ∨ cl_b3_50.slots.size ≤ ((3 : Int32)).toNatClampNeg) := inb_of S_b3 ⟨by decide, by decide⟩
  obtain ⟨T7, h7, X7, e7, W7, st7⟩ := stB X6 hx hZ e6 Ar_b3 (j := (3 : Int32)) hin50 (g := (mkF m 50 #[.val (.int p1), .val (.int p2), .val (.int p3), .val (.int (p1 &&& (65535 : Int32))), .val (.int ((p3 &&& (2147483647 : Int32)) % (3 : Int32))), .val (.ref b3), .unset] [(.int (((p2.toUInt32 >>> ((24 : Int32) &&& 31).toUInt32).toInt32).toInt8.toInt32)), (.int (3 : Int32)), (.ref b3)])) rfl rfl (hb hby at_50)
  have V_b3_7 := Arv.set Ar_b3 q_b3 S_b3 N_b3 H_b3 G_b3 (fits_nar_byte _) W7 3 rfl (Nat.le_of_ble_eq_true rfl)
  have K7 : Keep h0 h7 [] := K6.wr W7 (Or.inr sz_b3)
  have N7 := Fr.snoc X7 N6 g_b3
  obtain ⟨cl_b3_57, Ar_b3, q_b3, S_b3, N_b3, H_b3, G_b3⟩ := V_b3_7
  have hin57 : ¬ (((p3 &&& (2147483647 : Int32)) % (3 : Int32)) < 0 ∨ cl_b3_57.slots.size ≤ (((p3 &&& (2147483647 : Int32)) % (3 : Int32))).toNatClampNeg) := inb_of S_b3 hr1
  obtain ⟨T8, h8, X8, e8, W8, st8⟩ := stB X7 hx hZ e7 Ar_b3 (j := ((p3 &&& (2147483647 : Int32)) % (3 : Int32))) hin57 (g := (mkF m 57 #[.val (.int p1), .val (.int p2), .val (.int p3), .val (.int (p1 &&& (65535 : Int32))), .val (.int ((p3 &&& (2147483647 : Int32)) % (3 : Int32))), .val (.ref b3), .unset] [(.int ((p1 &&& (65535 : Int32)).toInt8.toInt32)), (.int ((p3 &&& (2147483647 : Int32)) % (3 : Int32))), (.ref b3)])) rfl rfl (hb hby at_57)
  have V_b3_8 := Arv.set Ar_b3 q_b3 S_b3 N_b3 H_b3 G_b3 (fits_nar_byte _) W8 k hP1 (by simp only [List.length_set, List.length_cons, List.length_nil]; omega)
  have K8 : Keep h0 h8 [] := K7.wr W8 (Or.inr sz_b3)
  have N8 := Fr.snoc X8 N7 g_b3
  obtain ⟨cl_b3_69, Ar_b3, q_b3, S_b3, N_b3, H_b3, G_b3⟩ := V_b3_8
  have hin69 : ¬ ((((p3 &&& (2147483647 : Int32)) % (3 : Int32)) + (1 : Int32)) < 0 ∨ cl_b3_69.slots.size ≤ ((((p3 &&& (2147483647 : Int32)) % (3 : Int32)) + (1 : Int32))).toNatClampNeg) := inb_of S_b3 hr2
  obtain ⟨T9, h9, X9, e9, W9, st9⟩ := stB X8 hx hZ e8 Ar_b3 (j := (((p3 &&& (2147483647 : Int32)) % (3 : Int32)) + (1 : Int32))) hin69 (g := (mkF m 69 #[.val (.int p1), .val (.int p2), .val (.int p3), .val (.int (p1 &&& (65535 : Int32))), .val (.int ((p3 &&& (2147483647 : Int32)) % (3 : Int32))), .val (.ref b3), .unset] [(.int ((((p1 &&& (65535 : Int32)).toUInt32 >>> ((8 : Int32) &&& 31).toUInt32).toInt32).toInt8.toInt32)), (.int (((p3 &&& (2147483647 : Int32)) % (3 : Int32)) + (1 : Int32))), (.ref b3)])) rfl rfl (hb hby at_69)
  have V_b3_9 := Arv.set Ar_b3 q_b3 S_b3 N_b3 H_b3 G_b3 (fits_nar_byte _) W9 (k + 1) hP2 (by simp only [List.length_set, List.length_cons, List.length_nil]; omega)
  have K9 : Keep h0 h9 [] := K8.wr W9 (Or.inr sz_b3)
  have N9 := Fr.snoc X9 N8 g_b3
  obtain ⟨clz, Arz, -, Sz, Nz, Hz, Gz⟩ := V_b3_9
  have hin1 : ¬ (((p3 &&& (2147483647 : Int32)) % (3 : Int32)) < 0 ∨ clz.slots.size ≤ (((p3 &&& (2147483647 : Int32)) % (3 : Int32))).toNatClampNeg) := inb_of Sz hr1
  have hin2 : ¬ ((((p3 &&& (2147483647 : Int32)) % (3 : Int32)) + (1 : Int32)) < 0 ∨ clz.slots.size ≤ (((p3 &&& (2147483647 : Int32)) % (3 : Int32)) + (1 : Int32)).toNatClampNeg) := inb_of Sz hr2
  have hat1 : clz.slots[(((p3 &&& (2147483647 : Int32)) % (3 : Int32))).toNatClampNeg]? = some (.int (nar .byte ((p1 &&& (65535 : Int32)).toInt8.toInt32))) := by
    rw [Hz _ (Nat.lt_of_not_le fun q => hin1 (Or.inr q)), hP1]
    exact congrArg some (own_get1 _ k _ _ _ (by simp only [List.length_set, List.length_cons, List.length_nil]; omega))
  have hat2 : clz.slots[(((p3 &&& (2147483647 : Int32)) % (3 : Int32)) + (1 : Int32)).toNatClampNeg]? = some (.int (nar .byte ((((p1 &&& (65535 : Int32)).toUInt32 >>> ((8 : Int32) &&& 31).toUInt32).toInt32).toInt8.toInt32))) := by
    rw [Hz _ (Nat.lt_of_not_le fun q => hin2 (Or.inr q)), hP2]
    exact congrArg some (own_get2 _ k _ _ _ (by simp only [List.length_set, List.length_cons, List.length_nil]; omega))
  have Z9 : n0 ≤ h9.size := Nat.le_trans Z0 K9.1
  obtain ⟨_, _, ⟨T20, L20, k20, n20⟩, -, X20, ⟨Lc20, hQ20, l20, y20, z20⟩, st20⟩ := Jvm.LawKit.callS X9 hx (y := (⟨"com/example/caddisfly/caddisfly/apk/ZipRecords", "uint16", "([BI)I"⟩ : MethodName)) hown (mvT hZ (hw _ (List.mem_of_getElem? (i := 3) rfl))) (mvT hZ (hw _ (List.mem_of_getElem? (i := 4) rfl))) (mvT hZ (hw _ (List.mem_of_getElem? (i := 5) rfl))) (mvT hZ (hw _ (List.mem_of_getElem? (i := 6) rfl))) (by decide) (backOf (W := 0) (rm1 l Z a0 hw [] b3 ((p3 &&& (2147483647 : Int32)) % (3 : Int32)) (nar .byte ((p1 &&& (65535 : Int32)).toInt8.toInt32)) (nar .byte ((((p1 &&& (65535 : Int32)).toUInt32 >>> ((8 : Int32) &&& 31).toUInt32).toInt32).toInt8.toInt32)) clz h9 n0 Z9 Arz hin1 hat1 hin2 hat2) hZ (hw _ (List.mem_of_getElem? (i := 6) rfl)) (hw _ (List.mem_of_getElem? (i := 5) rfl)) (by decide) (by decide)) (g := (mkF m 74 #[.val (.int p1), .val (.int p2), .val (.int p3), .val (.int (p1 &&& (65535 : Int32))), .val (.int ((p3 &&& (2147483647 : Int32)) % (3 : Int32))), .val (.ref b3), .unset] [(.int ((p3 &&& (2147483647 : Int32)) % (3 : Int32))), (.ref b3)])) rfl (by rw [hml]; rfl) (argsL := [(.ref b3), (.int ((p3 &&& (2147483647 : Int32)) % (3 : Int32)))]) (rest := []) (lenOf pd_0 rfl) rfl (by show 2 * 0 + _ ≤ _; exact Nat.le_of_eq rfl) (hb hby at_74) (fun _ _ => ⟨rfl, e9, (by decide : 1 + 0 ≤ _), (by decide : 4 + 0 ≤ _)⟩)
  dsimp only [Pt.U, Pt.locs, Pt.cells, Pt.slots] at X20 l20 y20 z20 st20 hQ20
  subst l20 y20 z20
  obtain ⟨hv20, N20q, e20⟩ := hQ20
  rw [own_u16] at hv20
  subst hv20
  have N20 := Fr.app N9 N20q
  obtain ⟨fs, hr, hrun, hended, hW, hsame⟩ := X20.leave (v := some (.int (1 : Int32))) (fun h => by rw [Bd.returns] at h; cases h)
  refine ⟨_, _, pre0 _ ?_, hrun, hended, _, _, rfl, ?_, ⟨_, rfl⟩, hW, hsame.mono (by decide) (by decide)⟩
  · show Steps p.tables e below (s₁.setTop (mkF m 0 #[.val (.int p1), .val (.int p2), .val (.int p3), .unset, .unset, .unset, .unset] [])) _
    refine XS.iloadN X0.here hx rfl (hb hby at_0) rfl ?_
    show Steps p.tables e below (s₁.setTop (mkF m 1 #[.val (.int p1), .val (.int p2), .val (.int p3), .unset, .unset, .unset, .unset] [(.int p1)])) _
    refine X0.ldcI hx hown (mvT hZ (hw _ (List.mem_of_getElem? (i := 0) rfl))) rfl (hb hby at_1) ?_
    show Steps p.tables e below (s₁.setTop (mkF m 3 #[.val (.int p1), .val (.int p2), .val (.int p3), .unset, .unset, .unset, .unset] [(.int (65535 : Int32)), (.int p1)])) _
    refine XS.iand X0.here hx rfl (hb hby at_3) rfl ?_
    show Steps p.tables e below (s₁.setTop (mkF m 4 #[.val (.int p1), .val (.int p2), .val (.int p3), .unset, .unset, .unset, .unset] [(.int (p1 &&& (65535 : Int32)))])) _
    refine XS.istoreN X0.here hx rfl (hb hby at_4) rfl (l' := #[.val (.int p1), .val (.int p2), .val (.int p3), .val (.int (p1 &&& (65535 : Int32))), .unset, .unset, .unset]) rfl ?_
    show Steps p.tables e below (s₁.setTop (mkF m 5 #[.val (.int p1), .val (.int p2), .val (.int p3), .val (.int (p1 &&& (65535 : Int32))), .unset, .unset, .unset] [])) _
    refine XS.iloadN X0.here hx rfl (hb hby at_5) rfl ?_
    show Steps p.tables e below (s₁.setTop (mkF m 6 #[.val (.int p1), .val (.int p2), .val (.int p3), .val (.int (p1 &&& (65535 : Int32))), .unset, .unset, .unset] [(.int p3)])) _
    refine X0.ldcI hx hown (mvT hZ (hw _ (List.mem_of_getElem? (i := 1) rfl))) rfl (hb hby at_6) ?_
    show Steps p.tables e below (s₁.setTop (mkF m 8 #[.val (.int p1), .val (.int p2), .val (.int p3), .val (.int (p1 &&& (65535 : Int32))), .unset, .unset, .unset] [(.int (2147483647 : Int32)), (.int p3)])) _
    refine XS.iand X0.here hx rfl (hb hby at_8) rfl ?_
    show Steps p.tables e below (s₁.setTop (mkF m 9 #[.val (.int p1), .val (.int p2), .val (.int p3), .val (.int (p1 &&& (65535 : Int32))), .unset, .unset, .unset] [(.int (p3 &&& (2147483647 : Int32)))])) _
    refine XS.iconst X0.here hx rfl (hb hby at_9) ?_
    show Steps p.tables e below (s₁.setTop (mkF m 10 #[.val (.int p1), .val (.int p2), .val (.int p3), .val (.int (p1 &&& (65535 : Int32))), .unset, .unset, .unset] [(.int (3 : Int32)), (.int (p3 &&& (2147483647 : Int32)))])) _
    refine iremM X0 hx rfl (hb hby at_10) rfl (by decide) ?_
    show Steps p.tables e below (s₁.setTop (mkF m 11 #[.val (.int p1), .val (.int p2), .val (.int p3), .val (.int (p1 &&& (65535 : Int32))), .unset, .unset, .unset] [(.int ((p3 &&& (2147483647 : Int32)) % (3 : Int32)))])) _
    refine XS.istore X0.here hx rfl (hb hby at_11) rfl (l' := #[.val (.int p1), .val (.int p2), .val (.int p3), .val (.int (p1 &&& (65535 : Int32))), .val (.int ((p3 &&& (2147483647 : Int32)) % (3 : Int32))), .unset, .unset]) rfl ?_
    show Steps p.tables e below (s₁.setTop (mkF m 13 #[.val (.int p1), .val (.int p2), .val (.int p3), .val (.int (p1 &&& (65535 : Int32))), .val (.int ((p3 &&& (2147483647 : Int32)) % (3 : Int32))), .unset, .unset] [])) _
    refine XS.iconst X0.here hx rfl (hb hby at_13) ?_
    show Steps p.tables e below (s₁.setTop (mkF m 14 #[.val (.int p1), .val (.int p2), .val (.int p3), .val (.int (p1 &&& (65535 : Int32))), .val (.int ((p3 &&& (2147483647 : Int32)) % (3 : Int32))), .unset, .unset] [(.int (4 : Int32))])) _
    refine st3 _ ?_
    show Steps p.tables e below (T3.setTop (mkF m 16 #[.val (.int p1), .val (.int p2), .val (.int p3), .val (.int (p1 &&& (65535 : Int32))), .val (.int ((p3 &&& (2147483647 : Int32)) % (3 : Int32))), .unset, .unset] [(.ref b3)])) _
    refine XS.astore X3.here hx rfl (hb hby at_16) rfl rfl (l' := #[.val (.int p1), .val (.int p2), .val (.int p3), .val (.int (p1 &&& (65535 : Int32))), .val (.int ((p3 &&& (2147483647 : Int32)) % (3 : Int32))), .val (.ref b3), .unset]) rfl ?_
    show Steps p.tables e below (T3.setTop (mkF m 18 #[.val (.int p1), .val (.int p2), .val (.int p3), .val (.int (p1 &&& (65535 : Int32))), .val (.int ((p3 &&& (2147483647 : Int32)) % (3 : Int32))), .val (.ref b3), .unset] [])) _
    refine XS.aload X3.here hx rfl (hb hby at_18) rfl rfl ?_
    show Steps p.tables e below (T3.setTop (mkF m 20 #[.val (.int p1), .val (.int p2), .val (.int p3), .val (.int (p1 &&& (65535 : Int32))), .val (.int ((p3 &&& (2147483647 : Int32)) % (3 : Int32))), .val (.ref b3), .unset] [(.ref b3)])) _
    refine XS.iconst X3.here hx rfl (hb hby at_20) ?_
    show Steps p.tables e below (T3.setTop (mkF m 21 #[.val (.int p1), .val (.int p2), .val (.int p3), .val (.int (p1 &&& (65535 : Int32))), .val (.int ((p3 &&& (2147483647 : Int32)) % (3 : Int32))), .val (.ref b3), .unset] [(.int (0 : Int32)), (.ref b3)])) _
    refine XS.iloadN X3.here hx rfl (hb hby at_21) rfl ?_
    show Steps p.tables e below (T3.setTop (mkF m 22 #[.val (.int p1), .val (.int p2), .val (.int p3), .val (.int (p1 &&& (65535 : Int32))), .val (.int ((p3 &&& (2147483647 : Int32)) % (3 : Int32))), .val (.ref b3), .unset] [(.int p2), (.int (0 : Int32)), (.ref b3)])) _
    refine XS.i2b X3.here hx rfl (hb hby at_22) rfl ?_
    show Steps p.tables e below (T3.setTop (mkF m 23 #[.val (.int p1), .val (.int p2), .val (.int p3), .val (.int (p1 &&& (65535 : Int32))), .val (.int ((p3 &&& (2147483647 : Int32)) % (3 : Int32))), .val (.ref b3), .unset] [(.int (p2.toInt8.toInt32)), (.int (0 : Int32)), (.ref b3)])) _
    refine st4 _ ?_
    show Steps p.tables e below (T4.setTop (mkF m 24 #[.val (.int p1), .val (.int p2), .val (.int p3), .val (.int (p1 &&& (65535 : Int32))), .val (.int ((p3 &&& (2147483647 : Int32)) % (3 : Int32))), .val (.ref b3), .unset] [])) _
    refine XS.aload X4.here hx rfl (hb hby at_24) rfl rfl ?_
    show Steps p.tables e below (T4.setTop (mkF m 26 #[.val (.int p1), .val (.int p2), .val (.int p3), .val (.int (p1 &&& (65535 : Int32))), .val (.int ((p3 &&& (2147483647 : Int32)) % (3 : Int32))), .val (.ref b3), .unset] [(.ref b3)])) _
    refine XS.iconst X4.here hx rfl (hb hby at_26) ?_
    show Steps p.tables e below (T4.setTop (mkF m 27 #[.val (.int p1), .val (.int p2), .val (.int p3), .val (.int (p1 &&& (65535 : Int32))), .val (.int ((p3 &&& (2147483647 : Int32)) % (3 : Int32))), .val (.ref b3), .unset] [(.int (1 : Int32)), (.ref b3)])) _
    refine XS.iloadN X4.here hx rfl (hb hby at_27) rfl ?_
    show Steps p.tables e below (T4.setTop (mkF m 28 #[.val (.int p1), .val (.int p2), .val (.int p3), .val (.int (p1 &&& (65535 : Int32))), .val (.int ((p3 &&& (2147483647 : Int32)) % (3 : Int32))), .val (.ref b3), .unset] [(.int p2), (.int (1 : Int32)), (.ref b3)])) _
    refine XS.bipush X4.here hx rfl (hb hby at_28) ?_
    show Steps p.tables e below (T4.setTop (mkF m 30 #[.val (.int p1), .val (.int p2), .val (.int p3), .val (.int (p1 &&& (65535 : Int32))), .val (.int ((p3 &&& (2147483647 : Int32)) % (3 : Int32))), .val (.ref b3), .unset] [(.int (8 : Int32)), (.int p2), (.int (1 : Int32)), (.ref b3)])) _
    refine XS.iushr X4.here hx rfl (hb hby at_30) rfl ?_
    show Steps p.tables e below (T4.setTop (mkF m 31 #[.val (.int p1), .val (.int p2), .val (.int p3), .val (.int (p1 &&& (65535 : Int32))), .val (.int ((p3 &&& (2147483647 : Int32)) % (3 : Int32))), .val (.ref b3), .unset] [(.int ((p2.toUInt32 >>> ((8 : Int32) &&& 31).toUInt32).toInt32)), (.int (1 : Int32)), (.ref b3)])) _
    refine XS.i2b X4.here hx rfl (hb hby at_31) rfl ?_
    show Steps p.tables e below (T4.setTop (mkF m 32 #[.val (.int p1), .val (.int p2), .val (.int p3), .val (.int (p1 &&& (65535 : Int32))), .val (.int ((p3 &&& (2147483647 : Int32)) % (3 : Int32))), .val (.ref b3), .unset] [(.int (((p2.toUInt32 >>> ((8 : Int32) &&& 31).toUInt32).toInt32).toInt8.toInt32)), (.int (1 : Int32)), (.ref b3)])) _
    refine st5 _ ?_
    show Steps p.tables e below (T5.setTop (mkF m 33 #[.val (.int p1), .val (.int p2), .val (.int p3), .val (.int (p1 &&& (65535 : Int32))), .val (.int ((p3 &&& (2147483647 : Int32)) % (3 : Int32))), .val (.ref b3), .unset] [])) _
    refine XS.aload X5.here hx rfl (hb hby at_33) rfl rfl ?_
    show Steps p.tables e below (T5.setTop (mkF m 35 #[.val (.int p1), .val (.int p2), .val (.int p3), .val (.int (p1 &&& (65535 : Int32))), .val (.int ((p3 &&& (2147483647 : Int32)) % (3 : Int32))), .val (.ref b3), .unset] [(.ref b3)])) _
    refine XS.iconst X5.here hx rfl (hb hby at_35) ?_
    show Steps p.tables e below (T5.setTop (mkF m 36 #[.val (.int p1), .val (.int p2), .val (.int p3), .val (.int (p1 &&& (65535 : Int32))), .val (.int ((p3 &&& (2147483647 : Int32)) % (3 : Int32))), .val (.ref b3), .unset] [(.int (2 : Int32)), (.ref b3)])) _
    refine XS.iloadN X5.here hx rfl (hb hby at_36) rfl ?_
    show Steps p.tables e below (T5.setTop (mkF m 37 #[.val (.int p1), .val (.int p2), .val (.int p3), .val (.int (p1 &&& (65535 : Int32))), .val (.int ((p3 &&& (2147483647 : Int32)) % (3 : Int32))), .val (.ref b3), .unset] [(.int p2), (.int (2 : Int32)), (.ref b3)])) _
    refine XS.bipush X5.here hx rfl (hb hby at_37) ?_
    show Steps p.tables e below (T5.setTop (mkF m 39 #[.val (.int p1), .val (.int p2), .val (.int p3), .val (.int (p1 &&& (65535 : Int32))), .val (.int ((p3 &&& (2147483647 : Int32)) % (3 : Int32))), .val (.ref b3), .unset] [(.int (16 : Int32)), (.int p2), (.int (2 : Int32)), (.ref b3)])) _
    refine XS.iushr X5.here hx rfl (hb hby at_39) rfl ?_
    show Steps p.tables e below (T5.setTop (mkF m 40 #[.val (.int p1), .val (.int p2), .val (.int p3), .val (.int (p1 &&& (65535 : Int32))), .val (.int ((p3 &&& (2147483647 : Int32)) % (3 : Int32))), .val (.ref b3), .unset] [(.int ((p2.toUInt32 >>> ((16 : Int32) &&& 31).toUInt32).toInt32)), (.int (2 : Int32)), (.ref b3)])) _
    refine XS.i2b X5.here hx rfl (hb hby at_40) rfl ?_
    show Steps p.tables e below (T5.setTop (mkF m 41 #[.val (.int p1), .val (.int p2), .val (.int p3), .val (.int (p1 &&& (65535 : Int32))), .val (.int ((p3 &&& (2147483647 : Int32)) % (3 : Int32))), .val (.ref b3), .unset] [(.int (((p2.toUInt32 >>> ((16 : Int32) &&& 31).toUInt32).toInt32).toInt8.toInt32)), (.int (2 : Int32)), (.ref b3)])) _
    refine st6 _ ?_
    show Steps p.tables e below (T6.setTop (mkF m 42 #[.val (.int p1), .val (.int p2), .val (.int p3), .val (.int (p1 &&& (65535 : Int32))), .val (.int ((p3 &&& (2147483647 : Int32)) % (3 : Int32))), .val (.ref b3), .unset] [])) _
    refine XS.aload X6.here hx rfl (hb hby at_42) rfl rfl ?_
    show Steps p.tables e below (T6.setTop (mkF m 44 #[.val (.int p1), .val (.int p2), .val (.int p3), .val (.int (p1 &&& (65535 : Int32))), .val (.int ((p3 &&& (2147483647 : Int32)) % (3 : Int32))), .val (.ref b3), .unset] [(.ref b3)])) _
    refine XS.iconst X6.here hx rfl (hb hby at_44) ?_
    show Steps p.tables e below (T6.setTop (mkF m 45 #[.val (.int p1), .val (.int p2), .val (.int p3), .val (.int (p1 &&& (65535 : Int32))), .val (.int ((p3 &&& (2147483647 : Int32)) % (3 : Int32))), .val (.ref b3), .unset] [(.int (3 : Int32)), (.ref b3)])) _
    refine XS.iloadN X6.here hx rfl (hb hby at_45) rfl ?_
    show Steps p.tables e below (T6.setTop (mkF m 46 #[.val (.int p1), .val (.int p2), .val (.int p3), .val (.int (p1 &&& (65535 : Int32))), .val (.int ((p3 &&& (2147483647 : Int32)) % (3 : Int32))), .val (.ref b3), .unset] [(.int p2), (.int (3 : Int32)), (.ref b3)])) _
    refine XS.bipush X6.here hx rfl (hb hby at_46) ?_
    show Steps p.tables e below (T6.setTop (mkF m 48 #[.val (.int p1), .val (.int p2), .val (.int p3), .val (.int (p1 &&& (65535 : Int32))), .val (.int ((p3 &&& (2147483647 : Int32)) % (3 : Int32))), .val (.ref b3), .unset] [(.int (24 : Int32)), (.int p2), (.int (3 : Int32)), (.ref b3)])) _
    refine XS.iushr X6.here hx rfl (hb hby at_48) rfl ?_
    show Steps p.tables e below (T6.setTop (mkF m 49 #[.val (.int p1), .val (.int p2), .val (.int p3), .val (.int (p1 &&& (65535 : Int32))), .val (.int ((p3 &&& (2147483647 : Int32)) % (3 : Int32))), .val (.ref b3), .unset] [(.int ((p2.toUInt32 >>> ((24 : Int32) &&& 31).toUInt32).toInt32)), (.int (3 : Int32)), (.ref b3)])) _
    refine XS.i2b X6.here hx rfl (hb hby at_49) rfl ?_
    show Steps p.tables e below (T6.setTop (mkF m 50 #[.val (.int p1), .val (.int p2), .val (.int p3), .val (.int (p1 &&& (65535 : Int32))), .val (.int ((p3 &&& (2147483647 : Int32)) % (3 : Int32))), .val (.ref b3), .unset] [(.int (((p2.toUInt32 >>> ((24 : Int32) &&& 31).toUInt32).toInt32).toInt8.toInt32)), (.int (3 : Int32)), (.ref b3)])) _
    refine st7 _ ?_
    show Steps p.tables e below (T7.setTop (mkF m 51 #[.val (.int p1), .val (.int p2), .val (.int p3), .val (.int (p1 &&& (65535 : Int32))), .val (.int ((p3 &&& (2147483647 : Int32)) % (3 : Int32))), .val (.ref b3), .unset] [])) _
    refine XS.aload X7.here hx rfl (hb hby at_51) rfl rfl ?_
    show Steps p.tables e below (T7.setTop (mkF m 53 #[.val (.int p1), .val (.int p2), .val (.int p3), .val (.int (p1 &&& (65535 : Int32))), .val (.int ((p3 &&& (2147483647 : Int32)) % (3 : Int32))), .val (.ref b3), .unset] [(.ref b3)])) _
    refine XS.iload X7.here hx rfl (hb hby at_53) rfl ?_
    show Steps p.tables e below (T7.setTop (mkF m 55 #[.val (.int p1), .val (.int p2), .val (.int p3), .val (.int (p1 &&& (65535 : Int32))), .val (.int ((p3 &&& (2147483647 : Int32)) % (3 : Int32))), .val (.ref b3), .unset] [(.int ((p3 &&& (2147483647 : Int32)) % (3 : Int32))), (.ref b3)])) _
    refine XS.iloadN X7.here hx rfl (hb hby at_55) rfl ?_
    show Steps p.tables e below (T7.setTop (mkF m 56 #[.val (.int p1), .val (.int p2), .val (.int p3), .val (.int (p1 &&& (65535 : Int32))), .val (.int ((p3 &&& (2147483647 : Int32)) % (3 : Int32))), .val (.ref b3), .unset] [(.int (p1 &&& (65535 : Int32))), (.int ((p3 &&& (2147483647 : Int32)) % (3 : Int32))), (.ref b3)])) _
    refine XS.i2b X7.here hx rfl (hb hby at_56) rfl ?_
    show Steps p.tables e below (T7.setTop (mkF m 57 #[.val (.int p1), .val (.int p2), .val (.int p3), .val (.int (p1 &&& (65535 : Int32))), .val (.int ((p3 &&& (2147483647 : Int32)) % (3 : Int32))), .val (.ref b3), .unset] [(.int ((p1 &&& (65535 : Int32)).toInt8.toInt32)), (.int ((p3 &&& (2147483647 : Int32)) % (3 : Int32))), (.ref b3)])) _
    refine st8 _ ?_
    show Steps p.tables e below (T8.setTop (mkF m 58 #[.val (.int p1), .val (.int p2), .val (.int p3), .val (.int (p1 &&& (65535 : Int32))), .val (.int ((p3 &&& (2147483647 : Int32)) % (3 : Int32))), .val (.ref b3), .unset] [])) _
    refine XS.aload X8.here hx rfl (hb hby at_58) rfl rfl ?_
    show Steps p.tables e below (T8.setTop (mkF m 60 #[.val (.int p1), .val (.int p2), .val (.int p3), .val (.int (p1 &&& (65535 : Int32))), .val (.int ((p3 &&& (2147483647 : Int32)) % (3 : Int32))), .val (.ref b3), .unset] [(.ref b3)])) _
    refine XS.iload X8.here hx rfl (hb hby at_60) rfl ?_
    show Steps p.tables e below (T8.setTop (mkF m 62 #[.val (.int p1), .val (.int p2), .val (.int p3), .val (.int (p1 &&& (65535 : Int32))), .val (.int ((p3 &&& (2147483647 : Int32)) % (3 : Int32))), .val (.ref b3), .unset] [(.int ((p3 &&& (2147483647 : Int32)) % (3 : Int32))), (.ref b3)])) _
    refine XS.iconst X8.here hx rfl (hb hby at_62) ?_
    show Steps p.tables e below (T8.setTop (mkF m 63 #[.val (.int p1), .val (.int p2), .val (.int p3), .val (.int (p1 &&& (65535 : Int32))), .val (.int ((p3 &&& (2147483647 : Int32)) % (3 : Int32))), .val (.ref b3), .unset] [(.int (1 : Int32)), (.int ((p3 &&& (2147483647 : Int32)) % (3 : Int32))), (.ref b3)])) _
    refine XS.iadd X8.here hx rfl (hb hby at_63) rfl ?_
    show Steps p.tables e below (T8.setTop (mkF m 64 #[.val (.int p1), .val (.int p2), .val (.int p3), .val (.int (p1 &&& (65535 : Int32))), .val (.int ((p3 &&& (2147483647 : Int32)) % (3 : Int32))), .val (.ref b3), .unset] [(.int (((p3 &&& (2147483647 : Int32)) % (3 : Int32)) + (1 : Int32))), (.ref b3)])) _
    refine XS.iloadN X8.here hx rfl (hb hby at_64) rfl ?_
    show Steps p.tables e below (T8.setTop (mkF m 65 #[.val (.int p1), .val (.int p2), .val (.int p3), .val (.int (p1 &&& (65535 : Int32))), .val (.int ((p3 &&& (2147483647 : Int32)) % (3 : Int32))), .val (.ref b3), .unset] [(.int (p1 &&& (65535 : Int32))), (.int (((p3 &&& (2147483647 : Int32)) % (3 : Int32)) + (1 : Int32))), (.ref b3)])) _
    refine XS.bipush X8.here hx rfl (hb hby at_65) ?_
    show Steps p.tables e below (T8.setTop (mkF m 67 #[.val (.int p1), .val (.int p2), .val (.int p3), .val (.int (p1 &&& (65535 : Int32))), .val (.int ((p3 &&& (2147483647 : Int32)) % (3 : Int32))), .val (.ref b3), .unset] [(.int (8 : Int32)), (.int (p1 &&& (65535 : Int32))), (.int (((p3 &&& (2147483647 : Int32)) % (3 : Int32)) + (1 : Int32))), (.ref b3)])) _
    refine XS.iushr X8.here hx rfl (hb hby at_67) rfl ?_
    show Steps p.tables e below (T8.setTop (mkF m 68 #[.val (.int p1), .val (.int p2), .val (.int p3), .val (.int (p1 &&& (65535 : Int32))), .val (.int ((p3 &&& (2147483647 : Int32)) % (3 : Int32))), .val (.ref b3), .unset] [(.int (((p1 &&& (65535 : Int32)).toUInt32 >>> ((8 : Int32) &&& 31).toUInt32).toInt32)), (.int (((p3 &&& (2147483647 : Int32)) % (3 : Int32)) + (1 : Int32))), (.ref b3)])) _
    refine XS.i2b X8.here hx rfl (hb hby at_68) rfl ?_
    show Steps p.tables e below (T8.setTop (mkF m 69 #[.val (.int p1), .val (.int p2), .val (.int p3), .val (.int (p1 &&& (65535 : Int32))), .val (.int ((p3 &&& (2147483647 : Int32)) % (3 : Int32))), .val (.ref b3), .unset] [(.int ((((p1 &&& (65535 : Int32)).toUInt32 >>> ((8 : Int32) &&& 31).toUInt32).toInt32).toInt8.toInt32)), (.int (((p3 &&& (2147483647 : Int32)) % (3 : Int32)) + (1 : Int32))), (.ref b3)])) _
    refine st9 _ ?_
    show Steps p.tables e below (T9.setTop (mkF m 70 #[.val (.int p1), .val (.int p2), .val (.int p3), .val (.int (p1 &&& (65535 : Int32))), .val (.int ((p3 &&& (2147483647 : Int32)) % (3 : Int32))), .val (.ref b3), .unset] [])) _
    refine XS.aload X9.here hx rfl (hb hby at_70) rfl rfl ?_
    show Steps p.tables e below (T9.setTop (mkF m 72 #[.val (.int p1), .val (.int p2), .val (.int p3), .val (.int (p1 &&& (65535 : Int32))), .val (.int ((p3 &&& (2147483647 : Int32)) % (3 : Int32))), .val (.ref b3), .unset] [(.ref b3)])) _
    refine XS.iload X9.here hx rfl (hb hby at_72) rfl ?_
    show Steps p.tables e below (T9.setTop (mkF m 74 #[.val (.int p1), .val (.int p2), .val (.int p3), .val (.int (p1 &&& (65535 : Int32))), .val (.int ((p3 &&& (2147483647 : Int32)) % (3 : Int32))), .val (.ref b3), .unset] [(.int ((p3 &&& (2147483647 : Int32)) % (3 : Int32))), (.ref b3)])) _
    refine st20 _ ?_
    show Steps p.tables e below (T20.setTop (mkF m 77 #[.val (.int p1), .val (.int p2), .val (.int p3), .val (.int (p1 &&& (65535 : Int32))), .val (.int ((p3 &&& (2147483647 : Int32)) % (3 : Int32))), .val (.ref b3), .unset] [(.int (p1 &&& (65535 : Int32)))])) _
    refine XS.istore X20.here hx rfl (hb hby at_77) rfl (l' := #[.val (.int p1), .val (.int p2), .val (.int p3), .val (.int (p1 &&& (65535 : Int32))), .val (.int ((p3 &&& (2147483647 : Int32)) % (3 : Int32))), .val (.ref b3), .val (.int (p1 &&& (65535 : Int32)))]) rfl ?_
    show Steps p.tables e below (T20.setTop (mkF m 79 #[.val (.int p1), .val (.int p2), .val (.int p3), .val (.int (p1 &&& (65535 : Int32))), .val (.int ((p3 &&& (2147483647 : Int32)) % (3 : Int32))), .val (.ref b3), .val (.int (p1 &&& (65535 : Int32)))] [])) _
    refine XS.iload X20.here hx rfl (hb hby at_79) rfl ?_
    show Steps p.tables e below (T20.setTop (mkF m 81 #[.val (.int p1), .val (.int p2), .val (.int p3), .val (.int (p1 &&& (65535 : Int32))), .val (.int ((p3 &&& (2147483647 : Int32)) % (3 : Int32))), .val (.ref b3), .val (.int (p1 &&& (65535 : Int32)))] [(.int (p1 &&& (65535 : Int32)))])) _
    refine XS.iloadN X20.here hx rfl (hb hby at_81) rfl ?_
    show Steps p.tables e below (T20.setTop (mkF m 82 #[.val (.int p1), .val (.int p2), .val (.int p3), .val (.int (p1 &&& (65535 : Int32))), .val (.int ((p3 &&& (2147483647 : Int32)) % (3 : Int32))), .val (.ref b3), .val (.int (p1 &&& (65535 : Int32)))] [(.int (p1 &&& (65535 : Int32))), (.int (p1 &&& (65535 : Int32)))])) _
    refine XS.icmpNo X20.here hx rfl (hb hby at_82) rfl (teq rfl).2 ?_
    show Steps p.tables e below (T20.setTop (mkF m 85 #[.val (.int p1), .val (.int p2), .val (.int p3), .val (.int (p1 &&& (65535 : Int32))), .val (.int ((p3 &&& (2147483647 : Int32)) % (3 : Int32))), .val (.ref b3), .val (.int (p1 &&& (65535 : Int32)))] [])) _
    refine XS.iconst X20.here hx rfl (hb hby at_85) ?_
    show Steps p.tables e below (T20.setTop (mkF m 86 #[.val (.int p1), .val (.int p2), .val (.int p3), .val (.int (p1 &&& (65535 : Int32))), .val (.int ((p3 &&& (2147483647 : Int32)) % (3 : Int32))), .val (.ref b3), .val (.int (p1 &&& (65535 : Int32)))] [(.int (1 : Int32))])) _
    refine XS.goto X20.here hx rfl (pc0 := 86) (pc' := 90) rfl (hb hby at_86) (by decide) (by decide) ?_
    show Steps p.tables e below (T20.setTop (mkF m 90 #[.val (.int p1), .val (.int p2), .val (.int p3), .val (.int (p1 &&& (65535 : Int32))), .val (.int ((p3 &&& (2147483647 : Int32)) % (3 : Int32))), .val (.ref b3), .val (.int (p1 &&& (65535 : Int32)))] [(.int (1 : Int32))])) _
    exact retN X20 hx (t := .boolean) Bd.returns (by simp) (hb hby at_90) hr
  · show Q0 Z p1 p2 p3 h0 n0 _ T20.heap _
    exact ⟨rfl, N20⟩
set_option maxRecDepth 65536 in
set_option maxHeartbeats 40000000 in
theorem comes_1 {Post : Tables → Env → Array Value → State → Outcome → State → Prop} (hpost : ∀ tb e args s v u, (limb_1_1.after args s (.returned v) u = true ∧ limb_1_2.after args s (.returned v) u = true ∧ True) → FrameEnd s (.returned v) u (Jvm.fieldLocs frame_1_writes args s ++ Jvm.arrayLocs frame_1_arrays args s ++ Jvm.staticLocs frame_1_statics s) 16 128 → Post tb e args s (.returned v) u) :
    ArmFor flags0 classFile x code maxLocals ret World_1 tables_1 room_1 Calls_1 rest_1 Pre_1 Post := by
  intro l hfl _ _ p e ha hc hk s m args below hf hA hF happ hP
  obtain ⟨hcalls, hrest, hpre⟩ := hP
  obtain ⟨-, -, -, hnamed, -, -, -, hat⟩ := (Spec.applies_iff hf).mp happ
  obtain ⟨hg, hn⟩ := and_e (Cond.before_iff.mp (show (Jvm.Cond.and given_1 narrow_1).before args s = true from hpre))
  obtain ⟨ga0, gb0⟩ := and_e hg
  obtain ⟨ga1, gb1⟩ := and_e gb0
  obtain ⟨ga2, gb2⟩ := and_e gb1
  obtain ⟨w0, w1, w2, rfl⟩ : ∃ w0 w1 w2 : Value, args = #[w0, w1, w2] := by
    have hs : args.size = 3 := by simpa [Cond.value, given_1] using ga0
    obtain ⟨L⟩ := args
    match L, hs with
    | [w0, w1, w2], _ => exact ⟨w0, w1, w2, rfl⟩
  have hw := fun d (hd : d ∈ tables_1) => atoms_spec (ws := Jvm.Cond.code x code maxLocals ret :: tables_1) hat d (List.mem_cons_of_mem _ hd)
  have hfit : Fit s := fun {y c} hc i hi => by
    obtain ⟨ha, rfl⟩ := Array.getElem?_eq_some_iff.mp hc
    have q := List.all_eq_true.mp ((Array.all_eq_true_iff_forall_mem.mp hF) _ (Array.getElem_mem ha)) i (List.mem_range.mpr hi)
    simpa [Array.getElem?_eq_getElem hi] using q
  obtain ⟨i0, ei0⟩ := is_v ga1
  obtain rfl : w0 = (.int i0) := Option.some.inj ei0
  obtain ⟨i1, ei1⟩ := is_v ga2
  obtain rfl : w1 = (.int i1) := Option.some.inj ei1
  obtain ⟨i2, ei2⟩ := is_v gb2
  obtain rfl : w2 = (.int i2) := Option.some.inj ei2
  obtain ⟨n, o, h1, h2, h3, _, L, rfl, ⟨rfl, N⟩, hq⟩ := rm0 l s _ hw tables_1 i0 i1 i2 s.heap s.heap.size (Nat.le_refl _)  p e ha hc hk s m _ below hf ((Spec.applies_iff_loose hf).mp happ).1 ⟨rfl, State.Warmed39.refl s, rfl⟩ trivial
  refine ⟨n, _, h1, h2, h3, hpost _ _ _ _ _ _ ⟨Cond.after_iff.mpr rfl, Cond.after_iff.mpr (eq_i res_at (Term.int_eval (1)) rfl), trivial⟩ ⟨hq.1, hq.2.1, (hq.2.2.sift fun y hy => Or.inr (N y hy)).mono (by decide) (by decide)⟩⟩
theorem main_1_1 : Claimed_1_1 := comes_1 fun _ _ _ _ _ _ h hF => ⟨h.1, hF⟩
theorem main_1_2 : Claimed_1_2 := comes_1 fun _ _ _ _ _ _ h hF => ⟨h.2.1, hF⟩
end Jvm.Pilot.@@N@@
namespace Jvm.Pilot.@@N@@
open Jvm Jvm.ClassFile Sem Op Lib Jvm.Free Jvm.Stand Jvm.Pilot.@@N@@.Jvm.D
/-! MADE BY PROGRAM (witnessworld.py) out of the Statement's table words and the real class files: 9 classes; the members and pool entries that the words name. The judged class is class 1, her method 1. -/
namespace start1
open Jvm.ClassFile
def u (s : String) : CpInfo := .utf8 (stringToUtf16 s)
/-- a pool by its gaps: so many unusable entries, then the entry; so many at the end -/
def gap : Nat → List CpInfo → List CpInfo
  | 0, r => r
  | n + 1, r => .unusable :: gap n r
def poolList (es : List (Nat × CpInfo)) (last : Nat) : List CpInfo := es.foldr (fun e r => gap e.1 (e.2 :: r)) (gap last [])
def pool (es : List (Nat × CpInfo)) (last : Nat) : Array CpInfo := ⟨poolList es last⟩
def fileOf (pool : Array CpInfo) (this : Nat) (attrs : Array Attribute := #[]) (ms : Array MethodInfo := #[]) (fl : Nat := 33) (sup : Nat := 0) (ifs : Array Nat := #[]) (fds : Array FieldInfo := #[]) : ClassFile where
  minorVersion := 0
  majorVersion := 65
  constantPool := pool
  accessFlags := fl
  thisClass := this
  superClass := sup
  interfaces := ifs
  fields := fds
  methods := ms
  attributes := attrs
def plain (name : String) (sup : Option ClassId) : Class where
  name := name
  kind := .ordinary
  loader := none
  accessFlags := 33
  super := sup
  interfaces := #[]
  cf := none
  fields := #[]
  methods := #[]
  instanceTypes := #[]
  staticTypes := #[]
  resolved := #[]
  callSites := []
  init := .initialized
  statics := none
  mirror := none

def pool0 : Array CpInfo := pool [(5, u "<init>"), (0, u "()V"), (1, .class_ 10), (1, u "java/lang/Object")] 113

def k0m0 : Method := { name := "<init>", desc := "()V", sig := { parameters := [], returnType := none }, accessFlags := 1, code := none }
/-- java/lang/Object -/
def k0 : Class := { plain "java/lang/Object" none with
  accessFlags := 33
  interfaces := #[]
  cf := some (fileOf pool0 8 #[] #[{ accessFlags := 1, nameIndex := 5, descriptorIndex := 6, attributes := #[] }] 33 0 #[] #[])
  fields := #[]
  methods := #[k0m0]
  instanceTypes := #[]
  staticTypes := #[]
  resolved := Array.replicate 124 none
  statics := none }

def pool1 : Array CpInfo := pool [(2, .class_ 4), (1, u "java/lang/Object"), (0, u "<init>"), (0, u "()V"), (0, .integer 65535), (0, .integer 2147483647), (0, .methodref 10 11), (0, .class_ 12), (0, .nameAndType 13 14), (0, u "com/example/caddisfly/caddisfly/apk/ZipRecords"), (0, u "uint16"), (0, u "([BI)I"), (0, .class_ 16), (0, u "com/example/caddisfly/caddisfly/apk/ZipRecordsUint16PinLaw"), (2, u "law"), (0, u "(III)Z")] 5

def k1m0 : Method := { name := "<init>", desc := "()V", sig := { parameters := [], returnType := none }, accessFlags := 1, code := none }
def k1c1 : Code := { maxStack := 4, maxLocals := 7, code := code, exceptionTable := #[], attributes := #[] }
def k1m1 : Method := { name := "law", desc := "(III)Z", sig := { parameters := [.int, .int, .int], returnType := some .boolean }, accessFlags := 9, code := some k1c1 }
/-- com/example/caddisfly/caddisfly/apk/ZipRecordsUint16PinLaw -/
def k1 : Class := { plain "com/example/caddisfly/caddisfly/apk/ZipRecordsUint16PinLaw" (some 0) with
  accessFlags := 49
  interfaces := #[]
  cf := some (fileOf pool1 15 #[] #[{ accessFlags := 1, nameIndex := 5, descriptorIndex := 6, attributes := #[] }, { accessFlags := 9, nameIndex := 19, descriptorIndex := 20, attributes := #[] }] 49 2 #[] #[])
  fields := #[]
  methods := #[k1m0, k1m1]
  instanceTypes := #[]
  staticTypes := #[]
  resolved := Array.replicate 26 none
  statics := none }

def pool2 : Array CpInfo := pool [(4, .class_ 6), (1, u "java/lang/Object"), (3, .class_ 12), (1, u "com/example/caddisfly/caddisfly/apk/ZipRecords"), (0, u "m_aDirectory"), (0, u "[B"), (2, u "m_aRecords"), (0, u "[I"), (12, u "m_aSlots"), (16, u "m_nStoredSize"), (0, u "J"), (54, u "uint16"), (0, u "([BI)I"), (78, u "m_aNames"), (0, u "Ljava/util/List;"), (21, u "NO_RECORD"), (0, u "I"), (2, u "SIGNATURE"), (0, u "SIZE"), (1, u "METHOD"), (1, u "CRC"), (1, u "COMPRESSED_SIZE"), (1, u "SIZE_UNCOMPRESSED"), (1, u "NAME_LENGTH"), (1, u "EXTRA_LENGTH"), (1, u "COMMENT_LENGTH"), (1, u "HEADER_OFFSET"), (1, u "METHOD_STORED"), (1, u "MAX_DIRECTORY_SIZE")] 50

def k2c0 : Code := { maxStack := 4, maxLocals := 2, code := prog_24_method_5_code, exceptionTable := #[], attributes := #[] }
def k2m0 : Method := { name := "uint16", desc := "([BI)I", sig := { parameters := [(.array .byte), .int], returnType := some .int }, accessFlags := 8, code := some k2c0 }
/-- com/example/caddisfly/caddisfly/apk/ZipRecords -/
def k2 : Class := { plain "com/example/caddisfly/caddisfly/apk/ZipRecords" (some 0) with
  accessFlags := 48
  interfaces := #[]
  cf := some (fileOf pool2 10 #[] #[{ accessFlags := 8, nameIndex := 104, descriptorIndex := 105, attributes := #[] }] 48 4 #[] #[{ accessFlags := 24, nameIndex := 207, descriptorIndex := 208, attributes := #[] }, { accessFlags := 26, nameIndex := 211, descriptorIndex := 49, attributes := #[] }, { accessFlags := 26, nameIndex := 212, descriptorIndex := 208, attributes := #[] }, { accessFlags := 26, nameIndex := 214, descriptorIndex := 208, attributes := #[] }, { accessFlags := 26, nameIndex := 216, descriptorIndex := 208, attributes := #[] }, { accessFlags := 26, nameIndex := 218, descriptorIndex := 208, attributes := #[] }, { accessFlags := 26, nameIndex := 220, descriptorIndex := 208, attributes := #[] }, { accessFlags := 26, nameIndex := 222, descriptorIndex := 208, attributes := #[] }, { accessFlags := 26, nameIndex := 224, descriptorIndex := 208, attributes := #[] }, { accessFlags := 26, nameIndex := 226, descriptorIndex := 208, attributes := #[] }, { accessFlags := 26, nameIndex := 228, descriptorIndex := 208, attributes := #[] }, { accessFlags := 26, nameIndex := 230, descriptorIndex := 208, attributes := #[] }, { accessFlags := 26, nameIndex := 232, descriptorIndex := 208, attributes := #[] }, { accessFlags := 18, nameIndex := 13, descriptorIndex := 14, attributes := #[] }, { accessFlags := 18, nameIndex := 17, descriptorIndex := 18, attributes := #[] }, { accessFlags := 18, nameIndex := 31, descriptorIndex := 18, attributes := #[] }, { accessFlags := 18, nameIndex := 48, descriptorIndex := 49, attributes := #[] }, { accessFlags := 2, nameIndex := 184, descriptorIndex := 185, attributes := #[] }])
  fields := #[{ name := "NO_RECORD", type := .int, accessFlags := 24, slot := 0, constantValue := 0 }, { name := "SIGNATURE", type := .long, accessFlags := 26, slot := 1, constantValue := 0 }, { name := "SIZE", type := .int, accessFlags := 26, slot := 2, constantValue := 0 }, { name := "METHOD", type := .int, accessFlags := 26, slot := 3, constantValue := 0 }, { name := "CRC", type := .int, accessFlags := 26, slot := 4, constantValue := 0 }, { name := "COMPRESSED_SIZE", type := .int, accessFlags := 26, slot := 5, constantValue := 0 }, { name := "SIZE_UNCOMPRESSED", type := .int, accessFlags := 26, slot := 6, constantValue := 0 }, { name := "NAME_LENGTH", type := .int, accessFlags := 26, slot := 7, constantValue := 0 }, { name := "EXTRA_LENGTH", type := .int, accessFlags := 26, slot := 8, constantValue := 0 }, { name := "COMMENT_LENGTH", type := .int, accessFlags := 26, slot := 9, constantValue := 0 }, { name := "HEADER_OFFSET", type := .int, accessFlags := 26, slot := 10, constantValue := 0 }, { name := "METHOD_STORED", type := .int, accessFlags := 26, slot := 11, constantValue := 0 }, { name := "MAX_DIRECTORY_SIZE", type := .int, accessFlags := 26, slot := 12, constantValue := 0 }, { name := "m_aDirectory", type := (.array .byte), accessFlags := 18, slot := 0, constantValue := 0 }, { name := "m_aRecords", type := (.array .int), accessFlags := 18, slot := 1, constantValue := 0 }, { name := "m_aSlots", type := (.array .int), accessFlags := 18, slot := 2, constantValue := 0 }, { name := "m_nStoredSize", type := .long, accessFlags := 18, slot := 3, constantValue := 0 }, { name := "m_aNames", type := (.object "java/util/List"), accessFlags := 2, slot := 4, constantValue := 0 }]
  methods := #[k2m0]
  instanceTypes := #[(.array .byte), (.array .int), (.array .int), .long, (.object "java/util/List")]
  staticTypes := #[.int, .long, .int, .int, .int, .int, .int, .int, .int, .int, .int, .int, .int]
  resolved := Array.replicate 283 none
  statics := none }

def pool3 : Array CpInfo := pool [(1, u "java/lang/Cloneable"), (0, .class_ 1), (0, u "java/lang/Object"), (0, .class_ 3)] 3

/-- java/lang/Cloneable -/
def k3 : Class := { plain "java/lang/Cloneable" (some 0) with
  accessFlags := 1537
  interfaces := #[]
  cf := some (fileOf pool3 2 #[] #[] 1537 4 #[] #[])
  fields := #[]
  methods := #[]
  instanceTypes := #[]
  staticTypes := #[]
  resolved := Array.replicate 8 none
  statics := none }

def pool4 : Array CpInfo := pool [(1, u "java/io/Serializable"), (0, .class_ 1), (0, u "java/lang/Object"), (0, .class_ 3)] 3

/-- java/io/Serializable -/
def k4 : Class := { plain "java/io/Serializable" (some 0) with
  accessFlags := 1537
  interfaces := #[]
  cf := some (fileOf pool4 2 #[] #[] 1537 4 #[] #[])
  fields := #[]
  methods := #[]
  instanceTypes := #[]
  staticTypes := #[]
  resolved := Array.replicate 8 none
  statics := none }

/-- the primitive byte -/
def k5 : Class := { plain "byte" none with kind := .primitive 'B', accessFlags := 0x411 }
/-- [B -/
def k6 : Class := { plain "[B" (some 0) with kind := .array 5 .byte, interfaces := #[3, 4], accessFlags := 1041 }

/-- the primitive int -/
def k7 : Class := { plain "int" none with kind := .primitive 'I', accessFlags := 0x411 }
/-- [I -/
def k8 : Class := { plain "[I" (some 0) with kind := .array 7 .int, interfaces := #[3, 4], accessFlags := 1041 }

def heap : Heap := #[]
def classes : Array Class := #[k0, k1, k2, k3, k4, k5, k6, k7, k8]
def interned : List (Array UInt16 × Addr) := []
def slotsUsed : Nat := 0
def theMethod : MethodId := ⟨1, 1⟩
def args0 : Array Value := #[.int 5, .int 5, .int 5]
def aboutOver (below : List Frame) : State where
  vm := { classes := classes, interned := interned.toArray }
  heap := heap
  slotsUsed := slotsUsed
  threads := #[{ frames := .invoking theMethod args0 :: below }]
def below0 : List Frame := [.native { method := ⟨0, 0⟩, args := #[] }]
def about1 : State := aboutOver below0
def p0 : Program := .bare "" "" ""
def e0 : Env := launch0.env 0 0 0
theorem w_frames : about1.frames = Frame.invoking theMethod args0 :: below0 := rfl
set_option maxRecDepth 65536 in
theorem w_args : argsFit about1.vm theMethod args0 = true := by decide +kernel
set_option maxRecDepth 65536 in
theorem w_heap : heapFits about1 = true := by decide +kernel
set_option maxRecDepth 65536 in
theorem w_runnable : about1.curStatus? = some .runnable := by decide +kernel
set_option maxRecDepth 65536 in
theorem w_alone : about1.alone = true := by decide +kernel
set_option maxRecDepth 65536 in
theorem w_named : about1.methodNamed? x = some theMethod := by decide +kernel
set_option maxRecDepth 65536 in
theorem w_hears : about1.hears theMethod below0 = true := by decide +kernel
set_option maxRecDepth 65536 in
theorem w_ripe : about1.ripe theMethod args0 below0 = true := by decide +kernel
theorem w_running : about1.status = .running := rfl
set_option maxRecDepth 65536 in
theorem w_room : about1.hasRoom e0.platform room_1 = true :=
  launch0.hasRoom_least _ room_1 (by decide +kernel) (by decide +kernel) (by decide +kernel) (by decide +kernel) (by decide +kernel) (by decide +kernel)
theorem allAtoms_all (ts : List Jvm.Cond) (a : Array Jvm.Value) (st : Jvm.State) : (allAtoms ts).before a st = ts.all (fun c => c.before a st) := by
  induction ts with
  | nil => rfl
  | cons c t ih =>
    show (Jvm.Cond.and c (allAtoms t)).before a st = _
    rw [Jvm.Cond.before_and, ih, List.all_cons]
def words1 : List Jvm.Cond := Jvm.Cond.code x code maxLocals ret :: tables_1
/-- a 'code' word, met by the world's own term for the bytes: nothing is compared byte by byte -/
theorem code_word {y : MethodName} {bytes : ByteArray} {mx : Nat} {rt : Option FieldType} {a : Array Value} {s : State} {m : MethodId} {meth : Method} {c : Code} (h1 : s.methodNamed? y = some m) (h2 : s.vm.method? m = some meth) (h3 : meth.code = some c) (h4 : c.code = bytes)
    (h5 : (c.maxLocals == mx && c.exceptionTable.isEmpty && decide (c.maxStack ≤ mostOperands) && decide (meth.sig.returnType = rt) && !meth.locks && decide (parseMethodDescriptor y.desc = some meth.sig)) = true) : (Jvm.Cond.code y bytes mx rt).before a s = true := by
  simp only [Bool.and_eq_true, beq_iff_eq, Bool.not_eq_true', decide_eq_true_eq] at h5
  obtain ⟨⟨⟨⟨⟨g1, g2⟩, g3⟩, g4⟩, g5⟩, g6⟩ := h5
  simp [Cond.before, Cond.holds, Cond.value, h1, h2, h3, h4, g1, g2, g3, g4, g5, g6]
def isCode : Jvm.Cond → Bool
  | .code _ _ _ _ => true
  | _ => false
theorem all_split {L : List Jvm.Cond} {P : Jvm.Cond → Bool} (h1 : L.all (fun c => isCode c || P c) = true) (h2 : ∀ c ∈ L.filter isCode, P c = true) : L.all P = true := by
  refine List.all_eq_true.mpr fun c hc => ?_
  have h := List.all_eq_true.mp h1 c hc
  rcases Bool.eq_false_or_eq_true (isCode c) with hi | hi
  · exact h2 c (List.mem_filter.mpr ⟨hc, hi⟩)
  · simpa [hi] using h
set_option maxRecDepth 65536 in
theorem w_c0 : (Jvm.Cond.code x code maxLocals ret).before args0 about1 = true := code_word (m := ⟨1, 1⟩) (meth := k1m1) (c := k1c1) (by decide +kernel) rfl rfl rfl (by decide +kernel)
set_option maxRecDepth 65536 in
theorem w_c1 : (Jvm.Cond.code ({ cls := "com/example/caddisfly/caddisfly/apk/ZipRecords", name := "uint16", desc := "([BI)I" } : Jvm.MethodName) prog_24_method_5_code (2 : Nat) (Option.some Jvm.ClassFile.FieldType.int)).before args0 about1 = true := code_word (m := ⟨2, 0⟩) (meth := k2m0) (c := k2c0) (by decide +kernel) rfl rfl rfl (by decide +kernel)
def codes1 : List Jvm.Cond := [Jvm.Cond.code x code maxLocals ret, Jvm.Cond.code ({ cls := "com/example/caddisfly/caddisfly/apk/ZipRecords", name := "uint16", desc := "([BI)I" } : Jvm.MethodName) prog_24_method_5_code (2 : Nat) (Option.some Jvm.ClassFile.FieldType.int)]
set_option maxRecDepth 65536 in
theorem codes_eq : words1.filter isCode = codes1 := rfl
theorem w_codes : ∀ c ∈ words1.filter isCode, c.before args0 about1 = true := by
  rw [codes_eq]
  intro c hc
  simp only [codes1, List.mem_cons, List.not_mem_nil, or_false] at hc
  rcases hc with rfl | rfl
  · exact w_c0
  · exact w_c1
set_option maxRecDepth 65536 in
theorem w_t1 : words1.all (fun c => isCode c || c.before args0 about1) = true := by decide +kernel
theorem w_tables : (allAtoms (Jvm.Cond.code x code maxLocals ret :: tables_1)).before args0 about1 = true := by
  rw [allAtoms_all]
  show words1.all (fun c => c.before args0 about1) = true
  refine all_split ?_ w_codes
  rw [w_t1]
set_option maxRecDepth 65536 in
theorem w_case : (Jvm.Cond.and given_1 narrow_1).before args0 about1 = true := by decide +kernel
theorem w_applies : (headSpec (Jvm.Cond.code x code maxLocals ret :: tables_1) room_1).applies x e0.platform about1 = true :=
  (Spec.applies_iff w_frames).mpr ⟨w_running, w_runnable, w_alone, w_named, w_hears, w_ripe, w_room, w_tables⟩
theorem atStart : AtStart classFile x code maxLocals ret World_1 tables_1 room_1 Calls_1 rest_1 Pre_1 launch0 p0 e0 about1 theMethod args0 below0 :=
  ⟨lists_1, trivial, launch0.admits_env _ _ _, launch0.least_env, fairChoices_fair.cas, fairChoices_fair.clock, w_frames, w_args, w_heap, w_applies, trivial, trivial, w_case⟩
end start1
theorem witness_1 : WitnessClaimed_1 := ⟨start1.p0, start1.e0, start1.about1, start1.theMethod, start1.args0, start1.below0, start1.atStart⟩
end Jvm.Pilot.@@N@@
