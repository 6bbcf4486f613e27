import JvmDerived
import JvmDerived.Pilot.@@N@@Statement
import JvmDerived.Pilot.@@N@@Code
set_option linter.unusedVariables false
set_option linter.unusedSimpArgs false
namespace Jvm.RoadKit
open Sem ClassFile Op Lib Jvm.Stand Jvm.Free Jvm.LawKit
section New
variable {p : Program} {l : Launch} {e : Env} {R : Room} {s : State} {m : MethodId} {args : Array Value} {below : List Frame} {meth : Method} {c : Code} {T : State} {locs : List Loc} {cells slots : Nat}
theorem retI (X : Stand p l e R s m args below meth c T locs cells slots) (hx : p.tables.exec = Jvm.exec) {pc : Nat} {Ls : Array Slot} {z : Int32} {rest : List Value} (hret : meth.sig.returnType = some .int) (hd : decode c.code pc = .ok (.ireturn, 1)) {fs : List Frame}
    (hl : ∀ (f : JFrame) (acts : List Action), f.method = m → f.locked = none → f.entered = [] → (doReturn e (T.setTop f) acts (some (.int z))).1 = T.setFrames fs) : Steps p.tables e below (T.setTop (mkF m pc Ls (.int z :: rest))) (T.setFrames fs) := by
  have hm' : T.vm.method? m = some meth := X.method'
  have hn : narrow .int (.int z) = .int z := rfl
  show Steps p.tables e below (T.setTop { method := m, pc := pc, locals := Ls, stack := _ :: rest, locked := none }) _
  jvm_step X.here [X.here.top, hx, hd, hm', hret, hn]
  first | (intro acts; rw [hl _ acts rfl rfl rfl]) | rw [hl _ _ rfl rfl rfl]
  exact Steps.refl _
theorem retL (X : Stand p l e R s m args below meth c T locs cells slots) (hx : p.tables.exec = Jvm.exec) {pc : Nat} {Ls : Array Slot} {z : Int64} {rest : List Value} (hret : meth.sig.returnType = some .long) (hd : decode c.code pc = .ok (.lreturn, 1)) {fs : List Frame}
    (hl : ∀ (f : JFrame) (acts : List Action), f.method = m → f.locked = none → f.entered = [] → (doReturn e (T.setTop f) acts (some (.long z))).1 = T.setFrames fs) : Steps p.tables e below (T.setTop (mkF m pc Ls (.long z :: rest))) (T.setFrames fs) := by
  have hm' : T.vm.method? m = some meth := X.method'
  have hn : narrow .long (.long z) = .long z := rfl
  show Steps p.tables e below (T.setTop { method := m, pc := pc, locals := Ls, stack := _ :: rest, locked := none }) _
  jvm_step X.here [X.here.top, hx, hd, hm', hret, hn]
  first | (intro acts; rw [hl _ acts rfl rfl rfl]) | rw [hl _ _ rfl rfl rfl]
  exact Steps.refl _
end New
end Jvm.RoadKit
namespace Jvm.Pilot.@@N@@
open Jvm Jvm.ClassFile Sem Op Lib Jvm.Free Jvm.Stand Jvm.LawKit Jvm.RoadKit Bundle Jvm.Pilot.@@N@@.Jvm.D
def own_bytes (p1 : Int32) (p2 : Int32) : Int64 := ((((8 : Int64) * (p1.toInt64)) + ((4 : Int64) * ((p1 + (1 : Int32)).toInt64))) + ((4 : Int64) * (p2.toInt64)))
theorem d1_0 : decode prog_17_method_7_code 0 = .ok (.ldc2_w 183, 3) := by decide +kernel
theorem d1_3 : decode prog_17_method_7_code 3 = .ok (.iload_n 0, 1) := by decide +kernel
theorem d1_4 : decode prog_17_method_7_code 4 = .ok (.i2l, 1) := by decide +kernel
theorem d1_5 : decode prog_17_method_7_code 5 = .ok (.lmul, 1) := by decide +kernel
theorem d1_6 : decode prog_17_method_7_code 6 = .ok (.ldc2_w 185, 3) := by decide +kernel
theorem d1_9 : decode prog_17_method_7_code 9 = .ok (.iload_n 0, 1) := by decide +kernel
theorem d1_10 : decode prog_17_method_7_code 10 = .ok (.iconst 1, 1) := by decide +kernel
theorem d1_11 : decode prog_17_method_7_code 11 = .ok (.iadd, 1) := by decide +kernel
theorem d1_12 : decode prog_17_method_7_code 12 = .ok (.i2l, 1) := by decide +kernel
theorem d1_13 : decode prog_17_method_7_code 13 = .ok (.lmul, 1) := by decide +kernel
theorem d1_14 : decode prog_17_method_7_code 14 = .ok (.ladd, 1) := by decide +kernel
theorem d1_15 : decode prog_17_method_7_code 15 = .ok (.ldc2_w 185, 3) := by decide +kernel
theorem d1_18 : decode prog_17_method_7_code 18 = .ok (.iload_n 1, 1) := by decide +kernel
theorem d1_19 : decode prog_17_method_7_code 19 = .ok (.i2l, 1) := by decide +kernel
theorem d1_20 : decode prog_17_method_7_code 20 = .ok (.lmul, 1) := by decide +kernel
theorem d1_21 : decode prog_17_method_7_code 21 = .ok (.ladd, 1) := by decide +kernel
theorem d1_22 : decode prog_17_method_7_code 22 = .ok (.lreturn, 1) := by decide +kernel
theorem pn_1 : plainName "com/example/tell2/tell2/RuleIndex" = true := by first | (simp [plainName, overriddenIn]; done) | decide +kernel
theorem ef_1 (m : MethodId) (x0 : Int32) (x1 : Int32) : entryFrame m #[(.int x0), (.int x1)] 2 = mkF m 0 #[.val (.int x0), .val (.int x1)] [] := by first | (simp [entryFrame, mkF, argsToLocals, Value.category]; done) | rfl
def Q1 (Z : State) (p1 : Int32) (p2 : Int32) (h0 : Heap) (n0 : Nat) (v : Option Value) (h : Heap) (L : List Loc) : Prop := v = some (.long (own_bytes p1 p2)) ∧ Fr n0 L ∧ h = h0
set_option maxRecDepth 65536 in
set_option maxHeartbeats 40000000 in
theorem rm1 (l : Launch) (Z : State) (a0 : Array Value) (hw : ∀ d ∈ tables_1, d.before a0 Z = true) (ws : List Jvm.Cond) (p1 : Int32) (p2 : Int32) (h0 : Heap) (n0 : Nat) (Z0 : n0 ≤ h0.size)  :
    MetFree l (⟨"com/example/tell2/tell2/RuleIndex", "bytes", "(II)J"⟩ : MethodName) (head1 (Jvm.Cond.code (⟨"com/example/tell2/tell2/RuleIndex", "bytes", "(II)J"⟩ : MethodName) prog_17_method_7_code 2 (some .long) :: ws) ({ frames := 0, cells := 0, slots := 0, locals := 0 } : Room)) (fun a U => a = #[(.int p1), (.int p2)] ∧ Z.Warmed39 U.vm ∧ U.heap = h0) (fun _ _ _ _ _ => True) (fun _ U o U' => ∃ v L, o = .returned v ∧ Q1 Z p1 p2 h0 n0 v U'.heap L ∧ FrameEnd U o U' L ({ frames := 0, cells := 0, slots := 0, locals := 0 } : Room).cells ({ frames := 0, cells := 0, slots := 0, locals := 0 } : Room).slots) := by
  refine MetFree.of_bodySF (plainFor_of_name pn_1) hisR ?_
  intro p e s m args below meth c s₁ Bd hml0 hP hK
  obtain ⟨rfl, hZ, hh⟩ := hP
  have hx := Bd.exec
  have hby := Bd.bytes
  have hml : c.maxLocals = 2 := hml0
  have hown : s.vm.findClass "com/example/tell2/tell2/RuleIndex" = some m.cls := findClass_of_methodNamed Bd.named
  have hnm := (name_of_methodNamed Bd.named Bd.method).1
  have X0 : Stand p l e ({ frames := 0, cells := 0, slots := 0, locals := 0 } : Room) s m #[(.int p1), (.int p2)] below meth c s₁ [] 0 0 := Stand.of_body Bd
  have e0 : s₁.heap = h0 := by rw [← hh, Bd.state]; rfl
  have N0 := Fr.nil n0
  have pre0 : ∀ t, Steps p.tables e below (s₁.setTop (mkF m 0 #[.val (.int p1), .val (.int p2)] [])) t → Steps p.tables e below (s₁.setTop (entryFrame m #[(.int p1), (.int p2)] 2)) t := fun t k => castTop (ef_1 m p1 p2) k
  obtain ⟨fs, hr, hrun, hended, hW, hsame⟩ := X0.leave (v := some (.long ((((8 : Int64) * (p1.toInt64)) + ((4 : Int64) * ((p1 + (1 : Int32)).toInt64))) + ((4 : Int64) * (p2.toInt64))))) (fun h => by rw [Bd.returns] at h; cases h)
  refine ⟨_, _, pre0 _ ?_, hrun, hended, _, _, rfl, ?_, ⟨_, rfl⟩, hW, hsame.mono (by decide) (by decide)⟩
  · show Steps p.tables e below (s₁.setTop (mkF m 0 #[.val (.int p1), .val (.int p2)] [])) _
    refine X0.ldc2Long hx hown (mvT hZ (hw _ (List.mem_of_getElem? (i := 8) rfl))) (g := (mkF m 0 #[.val (.int p1), .val (.int p2)] [])) rfl (hb hby d1_0) _ ?_
    show Steps p.tables e below (s₁.setTop (mkF m 3 #[.val (.int p1), .val (.int p2)] [(.long (8 : Int64))])) _
    refine XS.iloadN X0.here hx rfl (hb hby d1_3) rfl ?_
    show Steps p.tables e below (s₁.setTop (mkF m 4 #[.val (.int p1), .val (.int p2)] [(.int p1), (.long (8 : Int64))])) _
    refine XS.i2l X0.here hx rfl (hb hby d1_4) rfl ?_
    show Steps p.tables e below (s₁.setTop (mkF m 5 #[.val (.int p1), .val (.int p2)] [(.long (p1.toInt64)), (.long (8 : Int64))])) _
    refine XS.lmul X0.here hx rfl (hb hby d1_5) rfl ?_
    show Steps p.tables e below (s₁.setTop (mkF m 6 #[.val (.int p1), .val (.int p2)] [(.long ((8 : Int64) * (p1.toInt64)))])) _
    refine X0.ldc2Long hx hown (mvT hZ (hw _ (List.mem_of_getElem? (i := 9) rfl))) (g := (mkF m 6 #[.val (.int p1), .val (.int p2)] [(.long ((8 : Int64) * (p1.toInt64)))])) rfl (hb hby d1_6) _ ?_
    show Steps p.tables e below (s₁.setTop (mkF m 9 #[.val (.int p1), .val (.int p2)] [(.long (4 : Int64)), (.long ((8 : Int64) * (p1.toInt64)))])) _
    refine XS.iloadN X0.here hx rfl (hb hby d1_9) rfl ?_
    show Steps p.tables e below (s₁.setTop (mkF m 10 #[.val (.int p1), .val (.int p2)] [(.int p1), (.long (4 : Int64)), (.long ((8 : Int64) * (p1.toInt64)))])) _
    refine XS.iconst X0.here hx rfl (hb hby d1_10) ?_
    show Steps p.tables e below (s₁.setTop (mkF m 11 #[.val (.int p1), .val (.int p2)] [(.int (1 : Int32)), (.int p1), (.long (4 : Int64)), (.long ((8 : Int64) * (p1.toInt64)))])) _
    refine XS.iadd X0.here hx rfl (hb hby d1_11) rfl ?_
    show Steps p.tables e below (s₁.setTop (mkF m 12 #[.val (.int p1), .val (.int p2)] [(.int (p1 + (1 : Int32))), (.long (4 : Int64)), (.long ((8 : Int64) * (p1.toInt64)))])) _
    refine XS.i2l X0.here hx rfl (hb hby d1_12) rfl ?_
    show Steps p.tables e below (s₁.setTop (mkF m 13 #[.val (.int p1), .val (.int p2)] [(.long ((p1 + (1 : Int32)).toInt64)), (.long (4 : Int64)), (.long ((8 : Int64) * (p1.toInt64)))])) _
    refine XS.lmul X0.here hx rfl (hb hby d1_13) rfl ?_
    show Steps p.tables e below (s₁.setTop (mkF m 14 #[.val (.int p1), .val (.int p2)] [(.long ((4 : Int64) * ((p1 + (1 : Int32)).toInt64))), (.long ((8 : Int64) * (p1.toInt64)))])) _
    refine XS.ladd X0.here hx rfl (hb hby d1_14) rfl ?_
    show Steps p.tables e below (s₁.setTop (mkF m 15 #[.val (.int p1), .val (.int p2)] [(.long (((8 : Int64) * (p1.toInt64)) + ((4 : Int64) * ((p1 + (1 : Int32)).toInt64))))])) _
    refine X0.ldc2Long hx hown (mvT hZ (hw _ (List.mem_of_getElem? (i := 9) rfl))) (g := (mkF m 15 #[.val (.int p1), .val (.int p2)] [(.long (((8 : Int64) * (p1.toInt64)) + ((4 : Int64) * ((p1 + (1 : Int32)).toInt64))))])) rfl (hb hby d1_15) _ ?_
    show Steps p.tables e below (s₁.setTop (mkF m 18 #[.val (.int p1), .val (.int p2)] [(.long (4 : Int64)), (.long (((8 : Int64) * (p1.toInt64)) + ((4 : Int64) * ((p1 + (1 : Int32)).toInt64))))])) _
    refine XS.iloadN X0.here hx rfl (hb hby d1_18) rfl ?_
    show Steps p.tables e below (s₁.setTop (mkF m 19 #[.val (.int p1), .val (.int p2)] [(.int p2), (.long (4 : Int64)), (.long (((8 : Int64) * (p1.toInt64)) + ((4 : Int64) * ((p1 + (1 : Int32)).toInt64))))])) _
    refine XS.i2l X0.here hx rfl (hb hby d1_19) rfl ?_
    show Steps p.tables e below (s₁.setTop (mkF m 20 #[.val (.int p1), .val (.int p2)] [(.long (p2.toInt64)), (.long (4 : Int64)), (.long (((8 : Int64) * (p1.toInt64)) + ((4 : Int64) * ((p1 + (1 : Int32)).toInt64))))])) _
    refine XS.lmul X0.here hx rfl (hb hby d1_20) rfl ?_
    show Steps p.tables e below (s₁.setTop (mkF m 21 #[.val (.int p1), .val (.int p2)] [(.long ((4 : Int64) * (p2.toInt64))), (.long (((8 : Int64) * (p1.toInt64)) + ((4 : Int64) * ((p1 + (1 : Int32)).toInt64))))])) _
    refine XS.ladd X0.here hx rfl (hb hby d1_21) rfl ?_
    show Steps p.tables e below (s₁.setTop (mkF m 22 #[.val (.int p1), .val (.int p2)] [(.long ((((8 : Int64) * (p1.toInt64)) + ((4 : Int64) * ((p1 + (1 : Int32)).toInt64))) + ((4 : Int64) * (p2.toInt64))))])) _
    exact retL X0 hx Bd.returns (hb hby d1_22) hr
  · show Q1 Z p1 p2 h0 n0 _ s₁.heap _
    rw [e0]
    exact ⟨(congrArg (fun z => some (Value.long z)) (by simp only [own_bytes] : ((((8 : Int64) * (p1.toInt64)) + ((4 : Int64) * ((p1 + (1 : Int32)).toInt64))) + ((4 : Int64) * (p2.toInt64))) = (own_bytes p1 p2))), N0, rfl⟩
theorem own_i32 (x : Int32) : -2147483648 ≤ x.toInt ∧ x.toInt ≤ 2147483647 := ⟨x.le_toInt, Int.le_of_lt_add_one x.toInt_lt⟩
theorem own_up (s : Int32) (h : s.toInt < 2147483647) : (s + (1 : Int32)).toInt64 = s.toInt64 + 1 := by
  have hb := own_i32 s
  apply Int64.toInt_inj.mp
  rw [Int32.toInt_toInt64, Int64.toInt_add, Int32.toInt_toInt64, Int32.toInt_add, show (1 : Int64).toInt = 1 from rfl, show (1 : Int32).toInt = 1 from rfl]
  simp only [Int.bmod]; omega
theorem own_eq (s r : Int32) (h : s.toInt < 2147483647) : own_bytes s r = (4 : Int64) * ((3 : Int64) * s.toInt64 + r.toInt64 + (1 : Int64)) := by
  rw [own_bytes, own_up s h]
  generalize s.toInt64 = S
  generalize r.toInt64 = R
  have e8 : (8 : Int64) = 4 * 2 := by decide
  have e3 : (3 : Int64) = 2 + 1 := by decide
  rw [e8, e3, Int64.mul_assoc, ← Int64.mul_add, ← Int64.mul_add, Int64.add_mul, Int64.one_mul]
  congr 1
  simp only [Int64.add_assoc]
  congr 2
  exact Int64.add_comm _ _
theorem own_b1 (z : Int32) : (z % (134217729 : Int32)).toInt < 2147483647 := by
  rw [Int32.toInt_mod]
  have := Int.tmod_lt_of_pos z.toInt (b := (134217729 : Int32).toInt) (by decide)
  have e : (134217729 : Int32).toInt = 134217729 := by decide
  omega
theorem own_b2 (z : Int32) : ((1 : Int32) <<< (z &&& 31)).toInt < 2147483647 := by
  have hb := own_i32 ((1 : Int32) <<< (z &&& 31))
  suffices hne : ¬ ((1 : Int32) <<< (z &&& 31)).toInt = 2147483647 by omega
  intro q
  have q2 : ((1 : Int32) <<< (z &&& 31)) = (2147483647 : Int32) := Int32.toInt_inj.mp (q.trans rfl)
  have q3 := congrArg Int32.toBitVec q2
  rw [Int32.toBitVec_shiftLeft] at q3
  have b0 := congrArg (fun b => BitVec.getLsbD b 0) q3
  have b1 := congrArg (fun b => BitVec.getLsbD b 1) q3
  generalize (z &&& 31) = w at b0 b1
  simp [BitVec.getLsbD_shiftLeft] at b0 b1
  have e0 : BitVec.getLsbD (2147483647#32) 0 = true := by decide
  have e1 : BitVec.getLsbD (2147483647#32) 1 = true := by decide
  simp_all
theorem pn_0 : plainName "com/example/tell2/tell2/RuleIndexBytesPinLaw" = true := by first | (simp [plainName, overriddenIn]; done) | decide +kernel
theorem ef_0 (m : MethodId) (x0 : Int32) (x1 : Int32) (x2 : Int32) : entryFrame m #[(.int x0), (.int x1), (.int x2)] maxLocals = mkF m 0 #[.val (.int x0), .val (.int x1), .val (.int x2), .unset, .unset, .unset, .unset] [] := by first | (simp [entryFrame, mkF, argsToLocals, Value.category, maxLocals]; done) | rfl
def Q0 (Z : State) (p1 : Int32) (p2 : Int32) (p3 : Int32) (h0 : Heap) (n0 : Nat) (v : Option Value) (h : Heap) (L : List Loc) : Prop := v = some (.int (1 : Int32)) ∧ Fr n0 L
theorem pd_0 : parseMethodDescriptor "(II)J" = some ⟨[.int, .int], some .long⟩ := by decide +kernel
set_option maxRecDepth 65536 in
set_option maxHeartbeats 40000000 in
theorem rm0 (l : Launch) (Z : State) (a0 : Array Value) (hw : ∀ d ∈ tables_1, d.before a0 Z = true) (ws : List Jvm.Cond) (p1 : Int32) (p2 : Int32) (p3 : Int32) (h0 : Heap) (n0 : Nat) (Z0 : n0 ≤ h0.size)  :
    MetFree l x (head1 (Jvm.Cond.code x code maxLocals ret :: ws) room_1) (fun a U => a = #[(.int p1), (.int p2), (.int p3)] ∧ Z.Warmed39 U.vm ∧ U.heap = h0) (fun _ _ _ _ _ => True) (fun _ U o U' => ∃ v L, o = .returned v ∧ Q0 Z p1 p2 p3 h0 n0 v U'.heap L ∧ FrameEnd U o U' L room_1.cells room_1.slots) := by
  refine MetFree.of_bodySF (plainFor_of_name pn_0) hisR ?_
  intro p e s m args below meth c s₁ Bd hml0 hP hK
  obtain ⟨rfl, hZ, hh⟩ := hP
  have hx := Bd.exec
  have hby := Bd.bytes
  have hml : c.maxLocals = 7 := hml0
  have hown : s.vm.findClass "com/example/tell2/tell2/RuleIndexBytesPinLaw" = some m.cls := findClass_of_methodNamed Bd.named
  have hnm := (name_of_methodNamed Bd.named Bd.method).1
  have X0 : Stand p l e room_1 s m #[(.int p1), (.int p2), (.int p3)] below meth c s₁ [] 0 0 := Stand.of_body Bd
  have e0 : s₁.heap = h0 := by rw [← hh, Bd.state]; rfl
  have N0 := Fr.nil n0
  have pre0 : ∀ t, Steps p.tables e below (s₁.setTop (mkF m 0 #[.val (.int p1), .val (.int p2), .val (.int p3), .unset, .unset, .unset, .unset] [])) t → Steps p.tables e below (s₁.setTop (entryFrame m #[(.int p1), (.int p2), (.int p3)] maxLocals)) t := fun t k => castTop (ef_0 m p1 p2 p3) k
  have pre1 : ∀ t, Steps p.tables e below (s₁.setTop (mkF m 3 #[.val (.int p1), .val (.int p2), .val (.int p3), .unset, .unset, .unset, .unset] [(.int (p3 &&& (1 : Int32)))])) t → Steps p.tables e below (s₁.setTop (entryFrame m #[(.int p1), (.int p2), (.int p3)] maxLocals)) t := fun t k => pre0 t (by
      show Steps p.tables e below (s₁.setTop (mkF m 0 #[.val (.int p1), .val (.int p2), .val (.int p3), .unset, .unset, .unset, .unset] [])) _
      refine XS.iloadN X0.here hx rfl (hb hby at_0) rfl ?_
      show Steps p.tables e below (s₁.setTop (mkF m 1 #[.val (.int p1), .val (.int p2), .val (.int p3), .unset, .unset, .unset, .unset] [(.int p3)])) _
      refine XS.iconst X0.here hx rfl (hb hby at_1) ?_
      show Steps p.tables e below (s₁.setTop (mkF m 2 #[.val (.int p1), .val (.int p2), .val (.int p3), .unset, .unset, .unset, .unset] [(.int (1 : Int32)), (.int p3)])) _
      refine XS.iand X0.here hx rfl (hb hby at_2) rfl ?_
      exact k)
  by_cases hc3_2 : (p3 &&& (1 : Int32)) = (0 : Int32)
  · obtain ⟨_, _, ⟨T3, L3, k3, n3⟩, -, X3, ⟨Lc3, hQ3, l3, y3, z3⟩, st3⟩ := Jvm.LawKit.callS X0 hx (y := (⟨"com/example/tell2/tell2/RuleIndex", "bytes", "(II)J"⟩ : MethodName)) hown (mvT hZ (hw _ (List.mem_of_getElem? (i := 4) rfl))) (mvT hZ (hw _ (List.mem_of_getElem? (i := 5) rfl))) (mvT hZ (hw _ (List.mem_of_getElem? (i := 6) rfl))) (mvT hZ (hw _ (List.mem_of_getElem? (i := 7) rfl))) (by decide) (backOf (W := 0) (rm1 l Z a0 hw [] ((1 : Int32) <<< (((p1 &&& (2147483647 : Int32)) % (28 : Int32)) &&& 31)) ((p2 &&& (2147483647 : Int32)) % (67108865 : Int32)) h0 n0 Z0 ) hZ (hw _ (List.mem_of_getElem? (i := 7) rfl)) (hw _ (List.mem_of_getElem? (i := 6) rfl)) (by decide) (by decide)) (g := (mkF m 56 #[.val (.int p1), .val (.int p2), .val (.int p3), .val (.int ((1 : Int32) <<< (((p1 &&& (2147483647 : Int32)) % (28 : Int32)) &&& 31))), .val (.int ((p2 &&& (2147483647 : Int32)) % (67108865 : Int32))), .val (.long ((4 : Int64) * ((((3 : Int64) * (((1 : Int32) <<< (((p1 &&& (2147483647 : Int32)) % (28 : Int32)) &&& 31)).toInt64)) + (((p2 &&& (2147483647 : Int32)) % (67108865 : Int32)).toInt64)) + (1 : Int64)))), .second] [(.int ((p2 &&& (2147483647 : Int32)) % (67108865 : Int32))), (.int ((1 : Int32) <<< (((p1 &&& (2147483647 : Int32)) % (28 : Int32)) &&& 31)))])) rfl (by rw [hml]; rfl) (argsL := [(.int ((1 : Int32) <<< (((p1 &&& (2147483647 : Int32)) % (28 : Int32)) &&& 31))), (.int ((p2 &&& (2147483647 : Int32)) % (67108865 : Int32)))]) (rest := []) (lenOf pd_0 rfl) rfl (by show 2 * 0 + _ ≤ _; exact Nat.le_of_eq rfl) (hb hby at_56) (fun _ _ => ⟨rfl, e0, (by decide : 0 + 0 ≤ _), (by decide : 0 + 0 ≤ _)⟩)
    dsimp only [Pt.U, Pt.locs, Pt.cells, Pt.slots] at X3 l3 y3 z3 st3 hQ3
    subst l3 y3 z3
    obtain ⟨rfl, Nq3, e3⟩ := hQ3
    have N3 := Fr.app N0 Nq3
    obtain ⟨fs, hr, hrun, hended, hW, hsame⟩ := X3.leave (v := some (.int (1 : Int32))) (fun h => by rw [Bd.returns] at h; cases h)
    refine ⟨_, _, pre1 _ ?_, hrun, hended, _, _, rfl, ?_, ⟨_, rfl⟩, hW, hsame.mono (by decide) (by decide)⟩
    · show Steps p.tables e below (s₁.setTop (mkF m 3 #[.val (.int p1), .val (.int p2), .val (.int p3), .unset, .unset, .unset, .unset] [(.int (p3 &&& (1 : Int32)))])) _
      refine XS.ifYes X0.here hx rfl (pc0 := 3) (pc' := 16) rfl (hb hby at_3) rfl ((if0 _ _).trans (teq hc3_2).1) (by decide) (by decide) ?_
      show Steps p.tables e below (s₁.setTop (mkF m 16 #[.val (.int p1), .val (.int p2), .val (.int p3), .unset, .unset, .unset, .unset] [])) _
      refine XS.iconst X0.here hx rfl (hb hby at_16) ?_
      show Steps p.tables e below (s₁.setTop (mkF m 17 #[.val (.int p1), .val (.int p2), .val (.int p3), .unset, .unset, .unset, .unset] [(.int (1 : Int32))])) _
      refine XS.iloadN X0.here hx rfl (hb hby at_17) rfl ?_
      show Steps p.tables e below (s₁.setTop (mkF m 18 #[.val (.int p1), .val (.int p2), .val (.int p3), .unset, .unset, .unset, .unset] [(.int p1), (.int (1 : Int32))])) _
      refine X0.ldcInt hx hown (mvT hZ (hw _ (List.mem_of_getElem? (i := 0) rfl))) (g := (mkF m 18 #[.val (.int p1), .val (.int p2), .val (.int p3), .unset, .unset, .unset, .unset] [(.int p1), (.int (1 : Int32))])) rfl (hb hby at_18) _ ?_
      show Steps p.tables e below (s₁.setTop (mkF m 20 #[.val (.int p1), .val (.int p2), .val (.int p3), .unset, .unset, .unset, .unset] [(.int (2147483647 : Int32)), (.int p1), (.int (1 : Int32))])) _
      refine XS.iand X0.here hx rfl (hb hby at_20) rfl ?_
      show Steps p.tables e below (s₁.setTop (mkF m 21 #[.val (.int p1), .val (.int p2), .val (.int p3), .unset, .unset, .unset, .unset] [(.int (p1 &&& (2147483647 : Int32))), (.int (1 : Int32))])) _
      refine XS.bipush X0.here hx rfl (hb hby at_21) ?_
      show Steps p.tables e below (s₁.setTop (mkF m 23 #[.val (.int p1), .val (.int p2), .val (.int p3), .unset, .unset, .unset, .unset] [(.int (28 : Int32)), (.int (p1 &&& (2147483647 : Int32))), (.int (1 : Int32))])) _
      refine iremM X0 hx rfl (hb hby at_23) rfl (by decide) ?_
      show Steps p.tables e below (s₁.setTop (mkF m 24 #[.val (.int p1), .val (.int p2), .val (.int p3), .unset, .unset, .unset, .unset] [(.int ((p1 &&& (2147483647 : Int32)) % (28 : Int32))), (.int (1 : Int32))])) _
      refine XS.ishl X0.here hx rfl (hb hby at_24) rfl ?_
      show Steps p.tables e below (s₁.setTop (mkF m 25 #[.val (.int p1), .val (.int p2), .val (.int p3), .unset, .unset, .unset, .unset] [(.int ((1 : Int32) <<< (((p1 &&& (2147483647 : Int32)) % (28 : Int32)) &&& 31)))])) _
      refine XS.istoreN X0.here hx rfl (hb hby at_25) rfl (l' := #[.val (.int p1), .val (.int p2), .val (.int p3), .val (.int ((1 : Int32) <<< (((p1 &&& (2147483647 : Int32)) % (28 : Int32)) &&& 31))), .unset, .unset, .unset]) rfl ?_
      show Steps p.tables e below (s₁.setTop (mkF m 26 #[.val (.int p1), .val (.int p2), .val (.int p3), .val (.int ((1 : Int32) <<< (((p1 &&& (2147483647 : Int32)) % (28 : Int32)) &&& 31))), .unset, .unset, .unset] [])) _
      refine XS.iloadN X0.here hx rfl (hb hby at_26) rfl ?_
      show Steps p.tables e below (s₁.setTop (mkF m 27 #[.val (.int p1), .val (.int p2), .val (.int p3), .val (.int ((1 : Int32) <<< (((p1 &&& (2147483647 : Int32)) % (28 : Int32)) &&& 31))), .unset, .unset, .unset] [(.int p2)])) _
      refine X0.ldcInt hx hown (mvT hZ (hw _ (List.mem_of_getElem? (i := 0) rfl))) (g := (mkF m 27 #[.val (.int p1), .val (.int p2), .val (.int p3), .val (.int ((1 : Int32) <<< (((p1 &&& (2147483647 : Int32)) % (28 : Int32)) &&& 31))), .unset, .unset, .unset] [(.int p2)])) rfl (hb hby at_27) _ ?_
      show Steps p.tables e below (s₁.setTop (mkF m 29 #[.val (.int p1), .val (.int p2), .val (.int p3), .val (.int ((1 : Int32) <<< (((p1 &&& (2147483647 : Int32)) % (28 : Int32)) &&& 31))), .unset, .unset, .unset] [(.int (2147483647 : Int32)), (.int p2)])) _
      refine XS.iand X0.here hx rfl (hb hby at_29) rfl ?_
      show Steps p.tables e below (s₁.setTop (mkF m 30 #[.val (.int p1), .val (.int p2), .val (.int p3), .val (.int ((1 : Int32) <<< (((p1 &&& (2147483647 : Int32)) % (28 : Int32)) &&& 31))), .unset, .unset, .unset] [(.int (p2 &&& (2147483647 : Int32)))])) _
      refine X0.ldcInt hx hown (mvT hZ (hw _ (List.mem_of_getElem? (i := 1) rfl))) (g := (mkF m 30 #[.val (.int p1), .val (.int p2), .val (.int p3), .val (.int ((1 : Int32) <<< (((p1 &&& (2147483647 : Int32)) % (28 : Int32)) &&& 31))), .unset, .unset, .unset] [(.int (p2 &&& (2147483647 : Int32)))])) rfl (hb hby at_30) _ ?_
      show Steps p.tables e below (s₁.setTop (mkF m 32 #[.val (.int p1), .val (.int p2), .val (.int p3), .val (.int ((1 : Int32) <<< (((p1 &&& (2147483647 : Int32)) % (28 : Int32)) &&& 31))), .unset, .unset, .unset] [(.int (67108865 : Int32)), (.int (p2 &&& (2147483647 : Int32)))])) _
      refine iremM X0 hx rfl (hb hby at_32) rfl (by decide) ?_
      show Steps p.tables e below (s₁.setTop (mkF m 33 #[.val (.int p1), .val (.int p2), .val (.int p3), .val (.int ((1 : Int32) <<< (((p1 &&& (2147483647 : Int32)) % (28 : Int32)) &&& 31))), .unset, .unset, .unset] [(.int ((p2 &&& (2147483647 : Int32)) % (67108865 : Int32)))])) _
      refine XS.istore X0.here hx rfl (hb hby at_33) rfl (l' := #[.val (.int p1), .val (.int p2), .val (.int p3), .val (.int ((1 : Int32) <<< (((p1 &&& (2147483647 : Int32)) % (28 : Int32)) &&& 31))), .val (.int ((p2 &&& (2147483647 : Int32)) % (67108865 : Int32))), .unset, .unset]) rfl ?_
      show Steps p.tables e below (s₁.setTop (mkF m 35 #[.val (.int p1), .val (.int p2), .val (.int p3), .val (.int ((1 : Int32) <<< (((p1 &&& (2147483647 : Int32)) % (28 : Int32)) &&& 31))), .val (.int ((p2 &&& (2147483647 : Int32)) % (67108865 : Int32))), .unset, .unset] [])) _
      refine X0.ldc2Long hx hown (mvT hZ (hw _ (List.mem_of_getElem? (i := 2) rfl))) (g := (mkF m 35 #[.val (.int p1), .val (.int p2), .val (.int p3), .val (.int ((1 : Int32) <<< (((p1 &&& (2147483647 : Int32)) % (28 : Int32)) &&& 31))), .val (.int ((p2 &&& (2147483647 : Int32)) % (67108865 : Int32))), .unset, .unset] [])) rfl (hb hby at_35) _ ?_
      show Steps p.tables e below (s₁.setTop (mkF m 38 #[.val (.int p1), .val (.int p2), .val (.int p3), .val (.int ((1 : Int32) <<< (((p1 &&& (2147483647 : Int32)) % (28 : Int32)) &&& 31))), .val (.int ((p2 &&& (2147483647 : Int32)) % (67108865 : Int32))), .unset, .unset] [(.long (4 : Int64))])) _
      refine X0.ldc2Long hx hown (mvT hZ (hw _ (List.mem_of_getElem? (i := 3) rfl))) (g := (mkF m 38 #[.val (.int p1), .val (.int p2), .val (.int p3), .val (.int ((1 : Int32) <<< (((p1 &&& (2147483647 : Int32)) % (28 : Int32)) &&& 31))), .val (.int ((p2 &&& (2147483647 : Int32)) % (67108865 : Int32))), .unset, .unset] [(.long (4 : Int64))])) rfl (hb hby at_38) _ ?_
      show Steps p.tables e below (s₁.setTop (mkF m 41 #[.val (.int p1), .val (.int p2), .val (.int p3), .val (.int ((1 : Int32) <<< (((p1 &&& (2147483647 : Int32)) % (28 : Int32)) &&& 31))), .val (.int ((p2 &&& (2147483647 : Int32)) % (67108865 : Int32))), .unset, .unset] [(.long (3 : Int64)), (.long (4 : Int64))])) _
      refine XS.iloadN X0.here hx rfl (hb hby at_41) rfl ?_
      show Steps p.tables e below (s₁.setTop (mkF m 42 #[.val (.int p1), .val (.int p2), .val (.int p3), .val (.int ((1 : Int32) <<< (((p1 &&& (2147483647 : Int32)) % (28 : Int32)) &&& 31))), .val (.int ((p2 &&& (2147483647 : Int32)) % (67108865 : Int32))), .unset, .unset] [(.int ((1 : Int32) <<< (((p1 &&& (2147483647 : Int32)) % (28 : Int32)) &&& 31))), (.long (3 : Int64)), (.long (4 : Int64))])) _
      refine XS.i2l X0.here hx rfl (hb hby at_42) rfl ?_
      show Steps p.tables e below (s₁.setTop (mkF m 43 #[.val (.int p1), .val (.int p2), .val (.int p3), .val (.int ((1 : Int32) <<< (((p1 &&& (2147483647 : Int32)) % (28 : Int32)) &&& 31))), .val (.int ((p2 &&& (2147483647 : Int32)) % (67108865 : Int32))), .unset, .unset] [(.long (((1 : Int32) <<< (((p1 &&& (2147483647 : Int32)) % (28 : Int32)) &&& 31)).toInt64)), (.long (3 : Int64)), (.long (4 : Int64))])) _
      refine XS.lmul X0.here hx rfl (hb hby at_43) rfl ?_
      show Steps p.tables e below (s₁.setTop (mkF m 44 #[.val (.int p1), .val (.int p2), .val (.int p3), .val (.int ((1 : Int32) <<< (((p1 &&& (2147483647 : Int32)) % (28 : Int32)) &&& 31))), .val (.int ((p2 &&& (2147483647 : Int32)) % (67108865 : Int32))), .unset, .unset] [(.long ((3 : Int64) * (((1 : Int32) <<< (((p1 &&& (2147483647 : Int32)) % (28 : Int32)) &&& 31)).toInt64))), (.long (4 : Int64))])) _
      refine XS.iload X0.here hx rfl (hb hby at_44) rfl ?_
      show Steps p.tables e below (s₁.setTop (mkF m 46 #[.val (.int p1), .val (.int p2), .val (.int p3), .val (.int ((1 : Int32) <<< (((p1 &&& (2147483647 : Int32)) % (28 : Int32)) &&& 31))), .val (.int ((p2 &&& (2147483647 : Int32)) % (67108865 : Int32))), .unset, .unset] [(.int ((p2 &&& (2147483647 : Int32)) % (67108865 : Int32))), (.long ((3 : Int64) * (((1 : Int32) <<< (((p1 &&& (2147483647 : Int32)) % (28 : Int32)) &&& 31)).toInt64))), (.long (4 : Int64))])) _
      refine XS.i2l X0.here hx rfl (hb hby at_46) rfl ?_
      show Steps p.tables e below (s₁.setTop (mkF m 47 #[.val (.int p1), .val (.int p2), .val (.int p3), .val (.int ((1 : Int32) <<< (((p1 &&& (2147483647 : Int32)) % (28 : Int32)) &&& 31))), .val (.int ((p2 &&& (2147483647 : Int32)) % (67108865 : Int32))), .unset, .unset] [(.long (((p2 &&& (2147483647 : Int32)) % (67108865 : Int32)).toInt64)), (.long ((3 : Int64) * (((1 : Int32) <<< (((p1 &&& (2147483647 : Int32)) % (28 : Int32)) &&& 31)).toInt64))), (.long (4 : Int64))])) _
      refine XS.ladd X0.here hx rfl (hb hby at_47) rfl ?_
      show Steps p.tables e below (s₁.setTop (mkF m 48 #[.val (.int p1), .val (.int p2), .val (.int p3), .val (.int ((1 : Int32) <<< (((p1 &&& (2147483647 : Int32)) % (28 : Int32)) &&& 31))), .val (.int ((p2 &&& (2147483647 : Int32)) % (67108865 : Int32))), .unset, .unset] [(.long (((3 : Int64) * (((1 : Int32) <<< (((p1 &&& (2147483647 : Int32)) % (28 : Int32)) &&& 31)).toInt64)) + (((p2 &&& (2147483647 : Int32)) % (67108865 : Int32)).toInt64))), (.long (4 : Int64))])) _
      refine XS.lconst X0.here hx rfl (hb hby at_48) ?_
      show Steps p.tables e below (s₁.setTop (mkF m 49 #[.val (.int p1), .val (.int p2), .val (.int p3), .val (.int ((1 : Int32) <<< (((p1 &&& (2147483647 : Int32)) % (28 : Int32)) &&& 31))), .val (.int ((p2 &&& (2147483647 : Int32)) % (67108865 : Int32))), .unset, .unset] [(.long (1 : Int64)), (.long (((3 : Int64) * (((1 : Int32) <<< (((p1 &&& (2147483647 : Int32)) % (28 : Int32)) &&& 31)).toInt64)) + (((p2 &&& (2147483647 : Int32)) % (67108865 : Int32)).toInt64))), (.long (4 : Int64))])) _
      refine XS.ladd X0.here hx rfl (hb hby at_49) rfl ?_
      show Steps p.tables e below (s₁.setTop (mkF m 50 #[.val (.int p1), .val (.int p2), .val (.int p3), .val (.int ((1 : Int32) <<< (((p1 &&& (2147483647 : Int32)) % (28 : Int32)) &&& 31))), .val (.int ((p2 &&& (2147483647 : Int32)) % (67108865 : Int32))), .unset, .unset] [(.long ((((3 : Int64) * (((1 : Int32) <<< (((p1 &&& (2147483647 : Int32)) % (28 : Int32)) &&& 31)).toInt64)) + (((p2 &&& (2147483647 : Int32)) % (67108865 : Int32)).toInt64)) + (1 : Int64))), (.long (4 : Int64))])) _
      refine XS.lmul X0.here hx rfl (hb hby at_50) rfl ?_
      show Steps p.tables e below (s₁.setTop (mkF m 51 #[.val (.int p1), .val (.int p2), .val (.int p3), .val (.int ((1 : Int32) <<< (((p1 &&& (2147483647 : Int32)) % (28 : Int32)) &&& 31))), .val (.int ((p2 &&& (2147483647 : Int32)) % (67108865 : Int32))), .unset, .unset] [(.long ((4 : Int64) * ((((3 : Int64) * (((1 : Int32) <<< (((p1 &&& (2147483647 : Int32)) % (28 : Int32)) &&& 31)).toInt64)) + (((p2 &&& (2147483647 : Int32)) % (67108865 : Int32)).toInt64)) + (1 : Int64))))])) _
      refine XS.lstore X0.here hx rfl (hb hby at_51) rfl (l' := #[.val (.int p1), .val (.int p2), .val (.int p3), .val (.int ((1 : Int32) <<< (((p1 &&& (2147483647 : Int32)) % (28 : Int32)) &&& 31))), .val (.int ((p2 &&& (2147483647 : Int32)) % (67108865 : Int32))), .val (.long ((4 : Int64) * ((((3 : Int64) * (((1 : Int32) <<< (((p1 &&& (2147483647 : Int32)) % (28 : Int32)) &&& 31)).toInt64)) + (((p2 &&& (2147483647 : Int32)) % (67108865 : Int32)).toInt64)) + (1 : Int64)))), .second]) rfl ?_
      show Steps p.tables e below (s₁.setTop (mkF m 53 #[.val (.int p1), .val (.int p2), .val (.int p3), .val (.int ((1 : Int32) <<< (((p1 &&& (2147483647 : Int32)) % (28 : Int32)) &&& 31))), .val (.int ((p2 &&& (2147483647 : Int32)) % (67108865 : Int32))), .val (.long ((4 : Int64) * ((((3 : Int64) * (((1 : Int32) <<< (((p1 &&& (2147483647 : Int32)) % (28 : Int32)) &&& 31)).toInt64)) + (((p2 &&& (2147483647 : Int32)) % (67108865 : Int32)).toInt64)) + (1 : Int64)))), .second] [])) _
      refine XS.iloadN X0.here hx rfl (hb hby at_53) rfl ?_
      show Steps p.tables e below (s₁.setTop (mkF m 54 #[.val (.int p1), .val (.int p2), .val (.int p3), .val (.int ((1 : Int32) <<< (((p1 &&& (2147483647 : Int32)) % (28 : Int32)) &&& 31))), .val (.int ((p2 &&& (2147483647 : Int32)) % (67108865 : Int32))), .val (.long ((4 : Int64) * ((((3 : Int64) * (((1 : Int32) <<< (((p1 &&& (2147483647 : Int32)) % (28 : Int32)) &&& 31)).toInt64)) + (((p2 &&& (2147483647 : Int32)) % (67108865 : Int32)).toInt64)) + (1 : Int64)))), .second] [(.int ((1 : Int32) <<< (((p1 &&& (2147483647 : Int32)) % (28 : Int32)) &&& 31)))])) _
      refine XS.iload X0.here hx rfl (hb hby at_54) rfl ?_
      show Steps p.tables e below (s₁.setTop (mkF m 56 #[.val (.int p1), .val (.int p2), .val (.int p3), .val (.int ((1 : Int32) <<< (((p1 &&& (2147483647 : Int32)) % (28 : Int32)) &&& 31))), .val (.int ((p2 &&& (2147483647 : Int32)) % (67108865 : Int32))), .val (.long ((4 : Int64) * ((((3 : Int64) * (((1 : Int32) <<< (((p1 &&& (2147483647 : Int32)) % (28 : Int32)) &&& 31)).toInt64)) + (((p2 &&& (2147483647 : Int32)) % (67108865 : Int32)).toInt64)) + (1 : Int64)))), .second] [(.int ((p2 &&& (2147483647 : Int32)) % (67108865 : Int32))), (.int ((1 : Int32) <<< (((p1 &&& (2147483647 : Int32)) % (28 : Int32)) &&& 31)))])) _
      refine st3 _ ?_
      show Steps p.tables e below (T3.setTop (mkF m 59 #[.val (.int p1), .val (.int p2), .val (.int p3), .val (.int ((1 : Int32) <<< (((p1 &&& (2147483647 : Int32)) % (28 : Int32)) &&& 31))), .val (.int ((p2 &&& (2147483647 : Int32)) % (67108865 : Int32))), .val (.long ((4 : Int64) * ((((3 : Int64) * (((1 : Int32) <<< (((p1 &&& (2147483647 : Int32)) % (28 : Int32)) &&& 31)).toInt64)) + (((p2 &&& (2147483647 : Int32)) % (67108865 : Int32)).toInt64)) + (1 : Int64)))), .second] [(.long (own_bytes ((1 : Int32) <<< (((p1 &&& (2147483647 : Int32)) % (28 : Int32)) &&& 31)) ((p2 &&& (2147483647 : Int32)) % (67108865 : Int32))))])) _
      refine XS.lload X3.here hx rfl (hb hby at_59) rfl ?_
      show Steps p.tables e below (T3.setTop (mkF m 61 #[.val (.int p1), .val (.int p2), .val (.int p3), .val (.int ((1 : Int32) <<< (((p1 &&& (2147483647 : Int32)) % (28 : Int32)) &&& 31))), .val (.int ((p2 &&& (2147483647 : Int32)) % (67108865 : Int32))), .val (.long ((4 : Int64) * ((((3 : Int64) * (((1 : Int32) <<< (((p1 &&& (2147483647 : Int32)) % (28 : Int32)) &&& 31)).toInt64)) + (((p2 &&& (2147483647 : Int32)) % (67108865 : Int32)).toInt64)) + (1 : Int64)))), .second] [(.long ((4 : Int64) * ((((3 : Int64) * (((1 : Int32) <<< (((p1 &&& (2147483647 : Int32)) % (28 : Int32)) &&& 31)).toInt64)) + (((p2 &&& (2147483647 : Int32)) % (67108865 : Int32)).toInt64)) + (1 : Int64)))), (.long (own_bytes ((1 : Int32) <<< (((p1 &&& (2147483647 : Int32)) % (28 : Int32)) &&& 31)) ((p2 &&& (2147483647 : Int32)) % (67108865 : Int32))))])) _
      refine XS.lcmp X3.here hx rfl (hb hby at_61) rfl ?_
      show Steps p.tables e below (T3.setTop (mkF m 62 #[.val (.int p1), .val (.int p2), .val (.int p3), .val (.int ((1 : Int32) <<< (((p1 &&& (2147483647 : Int32)) % (28 : Int32)) &&& 31))), .val (.int ((p2 &&& (2147483647 : Int32)) % (67108865 : Int32))), .val (.long ((4 : Int64) * ((((3 : Int64) * (((1 : Int32) <<< (((p1 &&& (2147483647 : Int32)) % (28 : Int32)) &&& 31)).toInt64)) + (((p2 &&& (2147483647 : Int32)) % (67108865 : Int32)).toInt64)) + (1 : Int64)))), .second] [(.int (lcmpW (own_bytes ((1 : Int32) <<< (((p1 &&& (2147483647 : Int32)) % (28 : Int32)) &&& 31)) ((p2 &&& (2147483647 : Int32)) % (67108865 : Int32))) ((4 : Int64) * ((((3 : Int64) * (((1 : Int32) <<< (((p1 &&& (2147483647 : Int32)) % (28 : Int32)) &&& 31)).toInt64)) + (((p2 &&& (2147483647 : Int32)) % (67108865 : Int32)).toInt64)) + (1 : Int64)))))])) _
      refine XS.ifNo X3.here hx rfl (hb hby at_62) rfl ((if0 _ _).trans (teq ((lw_eq _ _).mpr (own_eq _ _ (own_b2 _) : (own_bytes ((1 : Int32) <<< (((p1 &&& (2147483647 : Int32)) % (28 : Int32)) &&& 31)) ((p2 &&& (2147483647 : Int32)) % (67108865 : Int32))) = ((4 : Int64) * ((((3 : Int64) * (((1 : Int32) <<< (((p1 &&& (2147483647 : Int32)) % (28 : Int32)) &&& 31)).toInt64)) + (((p2 &&& (2147483647 : Int32)) % (67108865 : Int32)).toInt64)) + (1 : Int64)))))).2) ?_
      show Steps p.tables e below (T3.setTop (mkF m 65 #[.val (.int p1), .val (.int p2), .val (.int p3), .val (.int ((1 : Int32) <<< (((p1 &&& (2147483647 : Int32)) % (28 : Int32)) &&& 31))), .val (.int ((p2 &&& (2147483647 : Int32)) % (67108865 : Int32))), .val (.long ((4 : Int64) * ((((3 : Int64) * (((1 : Int32) <<< (((p1 &&& (2147483647 : Int32)) % (28 : Int32)) &&& 31)).toInt64)) + (((p2 &&& (2147483647 : Int32)) % (67108865 : Int32)).toInt64)) + (1 : Int64)))), .second] [])) _
      refine XS.iconst X3.here hx rfl (hb hby at_65) ?_
      show Steps p.tables e below (T3.setTop (mkF m 66 #[.val (.int p1), .val (.int p2), .val (.int p3), .val (.int ((1 : Int32) <<< (((p1 &&& (2147483647 : Int32)) % (28 : Int32)) &&& 31))), .val (.int ((p2 &&& (2147483647 : Int32)) % (67108865 : Int32))), .val (.long ((4 : Int64) * ((((3 : Int64) * (((1 : Int32) <<< (((p1 &&& (2147483647 : Int32)) % (28 : Int32)) &&& 31)).toInt64)) + (((p2 &&& (2147483647 : Int32)) % (67108865 : Int32)).toInt64)) + (1 : Int64)))), .second] [(.int (1 : Int32))])) _
      refine XS.goto X3.here hx rfl (pc0 := 66) (pc' := 70) rfl (hb hby at_66) (by decide) (by decide) ?_
      show Steps p.tables e below (T3.setTop (mkF m 70 #[.val (.int p1), .val (.int p2), .val (.int p3), .val (.int ((1 : Int32) <<< (((p1 &&& (2147483647 : Int32)) % (28 : Int32)) &&& 31))), .val (.int ((p2 &&& (2147483647 : Int32)) % (67108865 : Int32))), .val (.long ((4 : Int64) * ((((3 : Int64) * (((1 : Int32) <<< (((p1 &&& (2147483647 : Int32)) % (28 : Int32)) &&& 31)).toInt64)) + (((p2 &&& (2147483647 : Int32)) % (67108865 : Int32)).toInt64)) + (1 : Int64)))), .second] [(.int (1 : Int32))])) _
      exact retN X3 hx (t := .boolean) Bd.returns (by simp) (hb hby at_70) hr
    · show Q0 Z p1 p2 p3 h0 n0 _ T3.heap _
      rw [e3]
      exact ⟨rfl, N3⟩
  · obtain ⟨_, _, ⟨T4, L4, k4, n4⟩, -, X4, ⟨Lc4, hQ4, l4, y4, z4⟩, st4⟩ := Jvm.LawKit.callS X0 hx (y := (⟨"com/example/tell2/tell2/RuleIndex", "bytes", "(II)J"⟩ : MethodName)) hown (mvT hZ (hw _ (List.mem_of_getElem? (i := 4) rfl))) (mvT hZ (hw _ (List.mem_of_getElem? (i := 5) rfl))) (mvT hZ (hw _ (List.mem_of_getElem? (i := 6) rfl))) (mvT hZ (hw _ (List.mem_of_getElem? (i := 7) rfl))) (by decide) (backOf (W := 0) (rm1 l Z a0 hw [] (((p3.toUInt32 >>> ((1 : Int32) &&& 31).toUInt32).toInt32) % (134217729 : Int32)) ((p2 &&& (2147483647 : Int32)) % (67108865 : Int32)) h0 n0 Z0 ) hZ (hw _ (List.mem_of_getElem? (i := 7) rfl)) (hw _ (List.mem_of_getElem? (i := 6) rfl)) (by decide) (by decide)) (g := (mkF m 56 #[.val (.int p1), .val (.int p2), .val (.int p3), .val (.int (((p3.toUInt32 >>> ((1 : Int32) &&& 31).toUInt32).toInt32) % (134217729 : Int32))), .val (.int ((p2 &&& (2147483647 : Int32)) % (67108865 : Int32))), .val (.long ((4 : Int64) * ((((3 : Int64) * ((((p3.toUInt32 >>> ((1 : Int32) &&& 31).toUInt32).toInt32) % (134217729 : Int32)).toInt64)) + (((p2 &&& (2147483647 : Int32)) % (67108865 : Int32)).toInt64)) + (1 : Int64)))), .second] [(.int ((p2 &&& (2147483647 : Int32)) % (67108865 : Int32))), (.int (((p3.toUInt32 >>> ((1 : Int32) &&& 31).toUInt32).toInt32) % (134217729 : Int32)))])) rfl (by rw [hml]; rfl) (argsL := [(.int (((p3.toUInt32 >>> ((1 : Int32) &&& 31).toUInt32).toInt32) % (134217729 : Int32))), (.int ((p2 &&& (2147483647 : Int32)) % (67108865 : Int32)))]) (rest := []) (lenOf pd_0 rfl) rfl (by show 2 * 0 + _ ≤ _; exact Nat.le_of_eq rfl) (hb hby at_56) (fun _ _ => ⟨rfl, e0, (by decide : 0 + 0 ≤ _), (by decide : 0 + 0 ≤ _)⟩)
    dsimp only [Pt.U, Pt.locs, Pt.cells, Pt.slots] at X4 l4 y4 z4 st4 hQ4
    subst l4 y4 z4
    obtain ⟨rfl, Nq4, e4⟩ := hQ4
    have N4 := Fr.app N0 Nq4
    obtain ⟨fs, hr, hrun, hended, hW, hsame⟩ := X4.leave (v := some (.int (1 : Int32))) (fun h => by rw [Bd.returns] at h; cases h)
    refine ⟨_, _, pre1 _ ?_, hrun, hended, _, _, rfl, ?_, ⟨_, rfl⟩, hW, hsame.mono (by decide) (by decide)⟩
    · show Steps p.tables e below (s₁.setTop (mkF m 3 #[.val (.int p1), .val (.int p2), .val (.int p3), .unset, .unset, .unset, .unset] [(.int (p3 &&& (1 : Int32)))])) _
      refine XS.ifNo X0.here hx rfl (hb hby at_3) rfl ((if0 _ _).trans (feq hc3_2).1) ?_
      show Steps p.tables e below (s₁.setTop (mkF m 6 #[.val (.int p1), .val (.int p2), .val (.int p3), .unset, .unset, .unset, .unset] [])) _
      refine XS.iloadN X0.here hx rfl (hb hby at_6) rfl ?_
      show Steps p.tables e below (s₁.setTop (mkF m 7 #[.val (.int p1), .val (.int p2), .val (.int p3), .unset, .unset, .unset, .unset] [(.int p3)])) _
      refine XS.iconst X0.here hx rfl (hb hby at_7) ?_
      show Steps p.tables e below (s₁.setTop (mkF m 8 #[.val (.int p1), .val (.int p2), .val (.int p3), .unset, .unset, .unset, .unset] [(.int (1 : Int32)), (.int p3)])) _
      refine XS.iushr X0.here hx rfl (hb hby at_8) rfl ?_
      show Steps p.tables e below (s₁.setTop (mkF m 9 #[.val (.int p1), .val (.int p2), .val (.int p3), .unset, .unset, .unset, .unset] [(.int ((p3.toUInt32 >>> ((1 : Int32) &&& 31).toUInt32).toInt32))])) _
      refine X0.ldcInt hx hown (mvT hZ (hw _ (List.mem_of_getElem? (i := 10) rfl))) (g := (mkF m 9 #[.val (.int p1), .val (.int p2), .val (.int p3), .unset, .unset, .unset, .unset] [(.int ((p3.toUInt32 >>> ((1 : Int32) &&& 31).toUInt32).toInt32))])) rfl (hb hby at_9) _ ?_
      show Steps p.tables e below (s₁.setTop (mkF m 11 #[.val (.int p1), .val (.int p2), .val (.int p3), .unset, .unset, .unset, .unset] [(.int (134217729 : Int32)), (.int ((p3.toUInt32 >>> ((1 : Int32) &&& 31).toUInt32).toInt32))])) _
      refine iremM X0 hx rfl (hb hby at_11) rfl (by decide) ?_
      show Steps p.tables e below (s₁.setTop (mkF m 12 #[.val (.int p1), .val (.int p2), .val (.int p3), .unset, .unset, .unset, .unset] [(.int (((p3.toUInt32 >>> ((1 : Int32) &&& 31).toUInt32).toInt32) % (134217729 : Int32)))])) _
      refine XS.istoreN X0.here hx rfl (hb hby at_12) rfl (l' := #[.val (.int p1), .val (.int p2), .val (.int p3), .val (.int (((p3.toUInt32 >>> ((1 : Int32) &&& 31).toUInt32).toInt32) % (134217729 : Int32))), .unset, .unset, .unset]) rfl ?_
      show Steps p.tables e below (s₁.setTop (mkF m 13 #[.val (.int p1), .val (.int p2), .val (.int p3), .val (.int (((p3.toUInt32 >>> ((1 : Int32) &&& 31).toUInt32).toInt32) % (134217729 : Int32))), .unset, .unset, .unset] [])) _
      refine XS.goto X0.here hx rfl (pc0 := 13) (pc' := 26) rfl (hb hby at_13) (by decide) (by decide) ?_
      show Steps p.tables e below (s₁.setTop (mkF m 26 #[.val (.int p1), .val (.int p2), .val (.int p3), .val (.int (((p3.toUInt32 >>> ((1 : Int32) &&& 31).toUInt32).toInt32) % (134217729 : Int32))), .unset, .unset, .unset] [])) _
      refine XS.iloadN X0.here hx rfl (hb hby at_26) rfl ?_
      show Steps p.tables e below (s₁.setTop (mkF m 27 #[.val (.int p1), .val (.int p2), .val (.int p3), .val (.int (((p3.toUInt32 >>> ((1 : Int32) &&& 31).toUInt32).toInt32) % (134217729 : Int32))), .unset, .unset, .unset] [(.int p2)])) _
      refine X0.ldcInt hx hown (mvT hZ (hw _ (List.mem_of_getElem? (i := 0) rfl))) (g := (mkF m 27 #[.val (.int p1), .val (.int p2), .val (.int p3), .val (.int (((p3.toUInt32 >>> ((1 : Int32) &&& 31).toUInt32).toInt32) % (134217729 : Int32))), .unset, .unset, .unset] [(.int p2)])) rfl (hb hby at_27) _ ?_
      show Steps p.tables e below (s₁.setTop (mkF m 29 #[.val (.int p1), .val (.int p2), .val (.int p3), .val (.int (((p3.toUInt32 >>> ((1 : Int32) &&& 31).toUInt32).toInt32) % (134217729 : Int32))), .unset, .unset, .unset] [(.int (2147483647 : Int32)), (.int p2)])) _
      refine XS.iand X0.here hx rfl (hb hby at_29) rfl ?_
      show Steps p.tables e below (s₁.setTop (mkF m 30 #[.val (.int p1), .val (.int p2), .val (.int p3), .val (.int (((p3.toUInt32 >>> ((1 : Int32) &&& 31).toUInt32).toInt32) % (134217729 : Int32))), .unset, .unset, .unset] [(.int (p2 &&& (2147483647 : Int32)))])) _
      refine X0.ldcInt hx hown (mvT hZ (hw _ (List.mem_of_getElem? (i := 1) rfl))) (g := (mkF m 30 #[.val (.int p1), .val (.int p2), .val (.int p3), .val (.int (((p3.toUInt32 >>> ((1 : Int32) &&& 31).toUInt32).toInt32) % (134217729 : Int32))), .unset, .unset, .unset] [(.int (p2 &&& (2147483647 : Int32)))])) rfl (hb hby at_30) _ ?_
      show Steps p.tables e below (s₁.setTop (mkF m 32 #[.val (.int p1), .val (.int p2), .val (.int p3), .val (.int (((p3.toUInt32 >>> ((1 : Int32) &&& 31).toUInt32).toInt32) % (134217729 : Int32))), .unset, .unset, .unset] [(.int (67108865 : Int32)), (.int (p2 &&& (2147483647 : Int32)))])) _
      refine iremM X0 hx rfl (hb hby at_32) rfl (by decide) ?_
      show Steps p.tables e below (s₁.setTop (mkF m 33 #[.val (.int p1), .val (.int p2), .val (.int p3), .val (.int (((p3.toUInt32 >>> ((1 : Int32) &&& 31).toUInt32).toInt32) % (134217729 : Int32))), .unset, .unset, .unset] [(.int ((p2 &&& (2147483647 : Int32)) % (67108865 : Int32)))])) _
      refine XS.istore X0.here hx rfl (hb hby at_33) rfl (l' := #[.val (.int p1), .val (.int p2), .val (.int p3), .val (.int (((p3.toUInt32 >>> ((1 : Int32) &&& 31).toUInt32).toInt32) % (134217729 : Int32))), .val (.int ((p2 &&& (2147483647 : Int32)) % (67108865 : Int32))), .unset, .unset]) rfl ?_
      show Steps p.tables e below (s₁.setTop (mkF m 35 #[.val (.int p1), .val (.int p2), .val (.int p3), .val (.int (((p3.toUInt32 >>> ((1 : Int32) &&& 31).toUInt32).toInt32) % (134217729 : Int32))), .val (.int ((p2 &&& (2147483647 : Int32)) % (67108865 : Int32))), .unset, .unset] [])) _
      refine X0.ldc2Long hx hown (mvT hZ (hw _ (List.mem_of_getElem? (i := 2) rfl))) (g := (mkF m 35 #[.val (.int p1), .val (.int p2), .val (.int p3), .val (.int (((p3.toUInt32 >>> ((1 : Int32) &&& 31).toUInt32).toInt32) % (134217729 : Int32))), .val (.int ((p2 &&& (2147483647 : Int32)) % (67108865 : Int32))), .unset, .unset] [])) rfl (hb hby at_35) _ ?_
      show Steps p.tables e below (s₁.setTop (mkF m 38 #[.val (.int p1), .val (.int p2), .val (.int p3), .val (.int (((p3.toUInt32 >>> ((1 : Int32) &&& 31).toUInt32).toInt32) % (134217729 : Int32))), .val (.int ((p2 &&& (2147483647 : Int32)) % (67108865 : Int32))), .unset, .unset] [(.long (4 : Int64))])) _
      refine X0.ldc2Long hx hown (mvT hZ (hw _ (List.mem_of_getElem? (i := 3) rfl))) (g := (mkF m 38 #[.val (.int p1), .val (.int p2), .val (.int p3), .val (.int (((p3.toUInt32 >>> ((1 : Int32) &&& 31).toUInt32).toInt32) % (134217729 : Int32))), .val (.int ((p2 &&& (2147483647 : Int32)) % (67108865 : Int32))), .unset, .unset] [(.long (4 : Int64))])) rfl (hb hby at_38) _ ?_
      show Steps p.tables e below (s₁.setTop (mkF m 41 #[.val (.int p1), .val (.int p2), .val (.int p3), .val (.int (((p3.toUInt32 >>> ((1 : Int32) &&& 31).toUInt32).toInt32) % (134217729 : Int32))), .val (.int ((p2 &&& (2147483647 : Int32)) % (67108865 : Int32))), .unset, .unset] [(.long (3 : Int64)), (.long (4 : Int64))])) _
      refine XS.iloadN X0.here hx rfl (hb hby at_41) rfl ?_
      show Steps p.tables e below (s₁.setTop (mkF m 42 #[.val (.int p1), .val (.int p2), .val (.int p3), .val (.int (((p3.toUInt32 >>> ((1 : Int32) &&& 31).toUInt32).toInt32) % (134217729 : Int32))), .val (.int ((p2 &&& (2147483647 : Int32)) % (67108865 : Int32))), .unset, .unset] [(.int (((p3.toUInt32 >>> ((1 : Int32) &&& 31).toUInt32).toInt32) % (134217729 : Int32))), (.long (3 : Int64)), (.long (4 : Int64))])) _
      refine XS.i2l X0.here hx rfl (hb hby at_42) rfl ?_
      show Steps p.tables e below (s₁.setTop (mkF m 43 #[.val (.int p1), .val (.int p2), .val (.int p3), .val (.int (((p3.toUInt32 >>> ((1 : Int32) &&& 31).toUInt32).toInt32) % (134217729 : Int32))), .val (.int ((p2 &&& (2147483647 : Int32)) % (67108865 : Int32))), .unset, .unset] [(.long ((((p3.toUInt32 >>> ((1 : Int32) &&& 31).toUInt32).toInt32) % (134217729 : Int32)).toInt64)), (.long (3 : Int64)), (.long (4 : Int64))])) _
      refine XS.lmul X0.here hx rfl (hb hby at_43) rfl ?_
      show Steps p.tables e below (s₁.setTop (mkF m 44 #[.val (.int p1), .val (.int p2), .val (.int p3), .val (.int (((p3.toUInt32 >>> ((1 : Int32) &&& 31).toUInt32).toInt32) % (134217729 : Int32))), .val (.int ((p2 &&& (2147483647 : Int32)) % (67108865 : Int32))), .unset, .unset] [(.long ((3 : Int64) * ((((p3.toUInt32 >>> ((1 : Int32) &&& 31).toUInt32).toInt32) % (134217729 : Int32)).toInt64))), (.long (4 : Int64))])) _
      refine XS.iload X0.here hx rfl (hb hby at_44) rfl ?_
      show Steps p.tables e below (s₁.setTop (mkF m 46 #[.val (.int p1), .val (.int p2), .val (.int p3), .val (.int (((p3.toUInt32 >>> ((1 : Int32) &&& 31).toUInt32).toInt32) % (134217729 : Int32))), .val (.int ((p2 &&& (2147483647 : Int32)) % (67108865 : Int32))), .unset, .unset] [(.int ((p2 &&& (2147483647 : Int32)) % (67108865 : Int32))), (.long ((3 : Int64) * ((((p3.toUInt32 >>> ((1 : Int32) &&& 31).toUInt32).toInt32) % (134217729 : Int32)).toInt64))), (.long (4 : Int64))])) _
      refine XS.i2l X0.here hx rfl (hb hby at_46) rfl ?_
      show Steps p.tables e below (s₁.setTop (mkF m 47 #[.val (.int p1), .val (.int p2), .val (.int p3), .val (.int (((p3.toUInt32 >>> ((1 : Int32) &&& 31).toUInt32).toInt32) % (134217729 : Int32))), .val (.int ((p2 &&& (2147483647 : Int32)) % (67108865 : Int32))), .unset, .unset] [(.long (((p2 &&& (2147483647 : Int32)) % (67108865 : Int32)).toInt64)), (.long ((3 : Int64) * ((((p3.toUInt32 >>> ((1 : Int32) &&& 31).toUInt32).toInt32) % (134217729 : Int32)).toInt64))), (.long (4 : Int64))])) _
      refine XS.ladd X0.here hx rfl (hb hby at_47) rfl ?_
      show Steps p.tables e below (s₁.setTop (mkF m 48 #[.val (.int p1), .val (.int p2), .val (.int p3), .val (.int (((p3.toUInt32 >>> ((1 : Int32) &&& 31).toUInt32).toInt32) % (134217729 : Int32))), .val (.int ((p2 &&& (2147483647 : Int32)) % (67108865 : Int32))), .unset, .unset] [(.long (((3 : Int64) * ((((p3.toUInt32 >>> ((1 : Int32) &&& 31).toUInt32).toInt32) % (134217729 : Int32)).toInt64)) + (((p2 &&& (2147483647 : Int32)) % (67108865 : Int32)).toInt64))), (.long (4 : Int64))])) _
      refine XS.lconst X0.here hx rfl (hb hby at_48) ?_
      show Steps p.tables e below (s₁.setTop (mkF m 49 #[.val (.int p1), .val (.int p2), .val (.int p3), .val (.int (((p3.toUInt32 >>> ((1 : Int32) &&& 31).toUInt32).toInt32) % (134217729 : Int32))), .val (.int ((p2 &&& (2147483647 : Int32)) % (67108865 : Int32))), .unset, .unset] [(.long (1 : Int64)), (.long (((3 : Int64) * ((((p3.toUInt32 >>> ((1 : Int32) &&& 31).toUInt32).toInt32) % (134217729 : Int32)).toInt64)) + (((p2 &&& (2147483647 : Int32)) % (67108865 : Int32)).toInt64))), (.long (4 : Int64))])) _
      refine XS.ladd X0.here hx rfl (hb hby at_49) rfl ?_
      show Steps p.tables e below (s₁.setTop (mkF m 50 #[.val (.int p1), .val (.int p2), .val (.int p3), .val (.int (((p3.toUInt32 >>> ((1 : Int32) &&& 31).toUInt32).toInt32) % (134217729 : Int32))), .val (.int ((p2 &&& (2147483647 : Int32)) % (67108865 : Int32))), .unset, .unset] [(.long ((((3 : Int64) * ((((p3.toUInt32 >>> ((1 : Int32) &&& 31).toUInt32).toInt32) % (134217729 : Int32)).toInt64)) + (((p2 &&& (2147483647 : Int32)) % (67108865 : Int32)).toInt64)) + (1 : Int64))), (.long (4 : Int64))])) _
      refine XS.lmul X0.here hx rfl (hb hby at_50) rfl ?_
      show Steps p.tables e below (s₁.setTop (mkF m 51 #[.val (.int p1), .val (.int p2), .val (.int p3), .val (.int (((p3.toUInt32 >>> ((1 : Int32) &&& 31).toUInt32).toInt32) % (134217729 : Int32))), .val (.int ((p2 &&& (2147483647 : Int32)) % (67108865 : Int32))), .unset, .unset] [(.long ((4 : Int64) * ((((3 : Int64) * ((((p3.toUInt32 >>> ((1 : Int32) &&& 31).toUInt32).toInt32) % (134217729 : Int32)).toInt64)) + (((p2 &&& (2147483647 : Int32)) % (67108865 : Int32)).toInt64)) + (1 : Int64))))])) _
      refine XS.lstore X0.here hx rfl (hb hby at_51) rfl (l' := #[.val (.int p1), .val (.int p2), .val (.int p3), .val (.int (((p3.toUInt32 >>> ((1 : Int32) &&& 31).toUInt32).toInt32) % (134217729 : Int32))), .val (.int ((p2 &&& (2147483647 : Int32)) % (67108865 : Int32))), .val (.long ((4 : Int64) * ((((3 : Int64) * ((((p3.toUInt32 >>> ((1 : Int32) &&& 31).toUInt32).toInt32) % (134217729 : Int32)).toInt64)) + (((p2 &&& (2147483647 : Int32)) % (67108865 : Int32)).toInt64)) + (1 : Int64)))), .second]) rfl ?_
      show Steps p.tables e below (s₁.setTop (mkF m 53 #[.val (.int p1), .val (.int p2), .val (.int p3), .val (.int (((p3.toUInt32 >>> ((1 : Int32) &&& 31).toUInt32).toInt32) % (134217729 : Int32))), .val (.int ((p2 &&& (2147483647 : Int32)) % (67108865 : Int32))), .val (.long ((4 : Int64) * ((((3 : Int64) * ((((p3.toUInt32 >>> ((1 : Int32) &&& 31).toUInt32).toInt32) % (134217729 : Int32)).toInt64)) + (((p2 &&& (2147483647 : Int32)) % (67108865 : Int32)).toInt64)) + (1 : Int64)))), .second] [])) _
      refine XS.iloadN X0.here hx rfl (hb hby at_53) rfl ?_
      show Steps p.tables e below (s₁.setTop (mkF m 54 #[.val (.int p1), .val (.int p2), .val (.int p3), .val (.int (((p3.toUInt32 >>> ((1 : Int32) &&& 31).toUInt32).toInt32) % (134217729 : Int32))), .val (.int ((p2 &&& (2147483647 : Int32)) % (67108865 : Int32))), .val (.long ((4 : Int64) * ((((3 : Int64) * ((((p3.toUInt32 >>> ((1 : Int32) &&& 31).toUInt32).toInt32) % (134217729 : Int32)).toInt64)) + (((p2 &&& (2147483647 : Int32)) % (67108865 : Int32)).toInt64)) + (1 : Int64)))), .second] [(.int (((p3.toUInt32 >>> ((1 : Int32) &&& 31).toUInt32).toInt32) % (134217729 : Int32)))])) _
      refine XS.iload X0.here hx rfl (hb hby at_54) rfl ?_
      show Steps p.tables e below (s₁.setTop (mkF m 56 #[.val (.int p1), .val (.int p2), .val (.int p3), .val (.int (((p3.toUInt32 >>> ((1 : Int32) &&& 31).toUInt32).toInt32) % (134217729 : Int32))), .val (.int ((p2 &&& (2147483647 : Int32)) % (67108865 : Int32))), .val (.long ((4 : Int64) * ((((3 : Int64) * ((((p3.toUInt32 >>> ((1 : Int32) &&& 31).toUInt32).toInt32) % (134217729 : Int32)).toInt64)) + (((p2 &&& (2147483647 : Int32)) % (67108865 : Int32)).toInt64)) + (1 : Int64)))), .second] [(.int ((p2 &&& (2147483647 : Int32)) % (67108865 : Int32))), (.int (((p3.toUInt32 >>> ((1 : Int32) &&& 31).toUInt32).toInt32) % (134217729 : Int32)))])) _
      refine st4 _ ?_
      show Steps p.tables e below (T4.setTop (mkF m 59 #[.val (.int p1), .val (.int p2), .val (.int p3), .val (.int (((p3.toUInt32 >>> ((1 : Int32) &&& 31).toUInt32).toInt32) % (134217729 : Int32))), .val (.int ((p2 &&& (2147483647 : Int32)) % (67108865 : Int32))), .val (.long ((4 : Int64) * ((((3 : Int64) * ((((p3.toUInt32 >>> ((1 : Int32) &&& 31).toUInt32).toInt32) % (134217729 : Int32)).toInt64)) + (((p2 &&& (2147483647 : Int32)) % (67108865 : Int32)).toInt64)) + (1 : Int64)))), .second] [(.long (own_bytes (((p3.toUInt32 >>> ((1 : Int32) &&& 31).toUInt32).toInt32) % (134217729 : Int32)) ((p2 &&& (2147483647 : Int32)) % (67108865 : Int32))))])) _
      refine XS.lload X4.here hx rfl (hb hby at_59) rfl ?_
      show Steps p.tables e below (T4.setTop (mkF m 61 #[.val (.int p1), .val (.int p2), .val (.int p3), .val (.int (((p3.toUInt32 >>> ((1 : Int32) &&& 31).toUInt32).toInt32) % (134217729 : Int32))), .val (.int ((p2 &&& (2147483647 : Int32)) % (67108865 : Int32))), .val (.long ((4 : Int64) * ((((3 : Int64) * ((((p3.toUInt32 >>> ((1 : Int32) &&& 31).toUInt32).toInt32) % (134217729 : Int32)).toInt64)) + (((p2 &&& (2147483647 : Int32)) % (67108865 : Int32)).toInt64)) + (1 : Int64)))), .second] [(.long ((4 : Int64) * ((((3 : Int64) * ((((p3.toUInt32 >>> ((1 : Int32) &&& 31).toUInt32).toInt32) % (134217729 : Int32)).toInt64)) + (((p2 &&& (2147483647 : Int32)) % (67108865 : Int32)).toInt64)) + (1 : Int64)))), (.long (own_bytes (((p3.toUInt32 >>> ((1 : Int32) &&& 31).toUInt32).toInt32) % (134217729 : Int32)) ((p2 &&& (2147483647 : Int32)) % (67108865 : Int32))))])) _
      refine XS.lcmp X4.here hx rfl (hb hby at_61) rfl ?_
      show Steps p.tables e below (T4.setTop (mkF m 62 #[.val (.int p1), .val (.int p2), .val (.int p3), .val (.int (((p3.toUInt32 >>> ((1 : Int32) &&& 31).toUInt32).toInt32) % (134217729 : Int32))), .val (.int ((p2 &&& (2147483647 : Int32)) % (67108865 : Int32))), .val (.long ((4 : Int64) * ((((3 : Int64) * ((((p3.toUInt32 >>> ((1 : Int32) &&& 31).toUInt32).toInt32) % (134217729 : Int32)).toInt64)) + (((p2 &&& (2147483647 : Int32)) % (67108865 : Int32)).toInt64)) + (1 : Int64)))), .second] [(.int (lcmpW (own_bytes (((p3.toUInt32 >>> ((1 : Int32) &&& 31).toUInt32).toInt32) % (134217729 : Int32)) ((p2 &&& (2147483647 : Int32)) % (67108865 : Int32))) ((4 : Int64) * ((((3 : Int64) * ((((p3.toUInt32 >>> ((1 : Int32) &&& 31).toUInt32).toInt32) % (134217729 : Int32)).toInt64)) + (((p2 &&& (2147483647 : Int32)) % (67108865 : Int32)).toInt64)) + (1 : Int64)))))])) _
      refine XS.ifNo X4.here hx rfl (hb hby at_62) rfl ((if0 _ _).trans (teq ((lw_eq _ _).mpr (own_eq _ _ (own_b1 _) : (own_bytes (((p3.toUInt32 >>> ((1 : Int32) &&& 31).toUInt32).toInt32) % (134217729 : Int32)) ((p2 &&& (2147483647 : Int32)) % (67108865 : Int32))) = ((4 : Int64) * ((((3 : Int64) * ((((p3.toUInt32 >>> ((1 : Int32) &&& 31).toUInt32).toInt32) % (134217729 : Int32)).toInt64)) + (((p2 &&& (2147483647 : Int32)) % (67108865 : Int32)).toInt64)) + (1 : Int64)))))).2) ?_
      show Steps p.tables e below (T4.setTop (mkF m 65 #[.val (.int p1), .val (.int p2), .val (.int p3), .val (.int (((p3.toUInt32 >>> ((1 : Int32) &&& 31).toUInt32).toInt32) % (134217729 : Int32))), .val (.int ((p2 &&& (2147483647 : Int32)) % (67108865 : Int32))), .val (.long ((4 : Int64) * ((((3 : Int64) * ((((p3.toUInt32 >>> ((1 : Int32) &&& 31).toUInt32).toInt32) % (134217729 : Int32)).toInt64)) + (((p2 &&& (2147483647 : Int32)) % (67108865 : Int32)).toInt64)) + (1 : Int64)))), .second] [])) _
      refine XS.iconst X4.here hx rfl (hb hby at_65) ?_
      show Steps p.tables e below (T4.setTop (mkF m 66 #[.val (.int p1), .val (.int p2), .val (.int p3), .val (.int (((p3.toUInt32 >>> ((1 : Int32) &&& 31).toUInt32).toInt32) % (134217729 : Int32))), .val (.int ((p2 &&& (2147483647 : Int32)) % (67108865 : Int32))), .val (.long ((4 : Int64) * ((((3 : Int64) * ((((p3.toUInt32 >>> ((1 : Int32) &&& 31).toUInt32).toInt32) % (134217729 : Int32)).toInt64)) + (((p2 &&& (2147483647 : Int32)) % (67108865 : Int32)).toInt64)) + (1 : Int64)))), .second] [(.int (1 : Int32))])) _
      refine XS.goto X4.here hx rfl (pc0 := 66) (pc' := 70) rfl (hb hby at_66) (by decide) (by decide) ?_
      show Steps p.tables e below (T4.setTop (mkF m 70 #[.val (.int p1), .val (.int p2), .val (.int p3), .val (.int (((p3.toUInt32 >>> ((1 : Int32) &&& 31).toUInt32).toInt32) % (134217729 : Int32))), .val (.int ((p2 &&& (2147483647 : Int32)) % (67108865 : Int32))), .val (.long ((4 : Int64) * ((((3 : Int64) * ((((p3.toUInt32 >>> ((1 : Int32) &&& 31).toUInt32).toInt32) % (134217729 : Int32)).toInt64)) + (((p2 &&& (2147483647 : Int32)) % (67108865 : Int32)).toInt64)) + (1 : Int64)))), .second] [(.int (1 : Int32))])) _
      exact retN X4 hx (t := .boolean) Bd.returns (by simp) (hb hby at_70) hr
    · show Q0 Z p1 p2 p3 h0 n0 _ T4.heap _
      rw [e4]
      exact ⟨rfl, N4⟩
set_option maxRecDepth 65536 in
set_option maxHeartbeats 40000000 in
theorem comes_1 {Post : Tables → Env → Array Value → State → Outcome → State → Prop} (hpost : ∀ tb e args s v u, (limb_1_1.after args s (.returned v) u = true ∧ limb_1_2.after args s (.returned v) u = true ∧ True) → FrameEnd s (.returned v) u (Jvm.fieldLocs frame_1_writes args s ++ Jvm.arrayLocs frame_1_arrays args s ++ Jvm.staticLocs frame_1_statics s) 0 0 → Post tb e args s (.returned v) u) :
    ArmFor flags0 classFile x code maxLocals ret World_1 tables_1 room_1 Calls_1 rest_1 Pre_1 Post := by
  intro l hfl _ _ p e ha hc hk s m args below hf hA hF happ hP
  obtain ⟨hcalls, hrest, hpre⟩ := hP
  obtain ⟨-, -, -, hnamed, -, -, -, hat⟩ := (Spec.applies_iff hf).mp happ
  obtain ⟨hg, hn⟩ := and_e (Cond.before_iff.mp (show (Jvm.Cond.and given_1 narrow_1).before args s = true from hpre))
  obtain ⟨g5, g6⟩ := and_e hg
  obtain ⟨g7, g8⟩ := and_e g6
  obtain ⟨g9, g10⟩ := and_e g8
  obtain ⟨w0, w1, w2, rfl⟩ : ∃ w0 w1 w2 : Value, args = #[w0, w1, w2] := by
    have hs : args.size = 3 := by simpa [Cond.value, given_1] using g5
    obtain ⟨L⟩ := args
    match L, hs with
    | [w0, w1, w2], _ => exact ⟨w0, w1, w2, rfl⟩
  have hw := fun d (hd : d ∈ tables_1) => atoms_spec (ws := Jvm.Cond.code x code maxLocals ret :: tables_1) hat d (List.mem_cons_of_mem _ hd)
  obtain ⟨i0, ei0⟩ := is_v g7
  obtain rfl : w0 = (.int i0) := Option.some.inj ei0
  obtain ⟨i1, ei1⟩ := is_v g9
  obtain rfl : w1 = (.int i1) := Option.some.inj ei1
  obtain ⟨i2, ei2⟩ := is_v g10
  obtain rfl : w2 = (.int i2) := Option.some.inj ei2
  obtain ⟨n, o, h1, h2, h3, _, L, rfl, ⟨rfl, N⟩, hq⟩ := rm0 l s _ hw tables_1 i0 i1 i2 s.heap s.heap.size (Nat.le_refl _) p e ha hc hk s m _ below hf ((Spec.applies_iff_loose hf).mp happ).1 ⟨rfl, State.Warmed39.refl s, rfl⟩ trivial
  refine ⟨n, _, h1, h2, h3, hpost _ _ _ _ _ _ ⟨Cond.after_iff.mpr rfl, Cond.after_iff.mpr (eq_i res_at (Term.int_eval (1)) rfl), trivial⟩ ⟨hq.1, hq.2.1, (hq.2.2.sift fun y hy => Or.inr (N y hy)).mono (by decide) (by decide)⟩⟩
theorem main_1_1 : Claimed_1_1 := comes_1 fun _ _ _ _ _ _ h hF => ⟨h.1, hF⟩
theorem main_1_2 : Claimed_1_2 := comes_1 fun _ _ _ _ _ _ h hF => ⟨h.2.1, hF⟩
end Jvm.Pilot.@@N@@
namespace Jvm.Pilot.@@N@@
open Jvm Jvm.ClassFile Sem Op Lib Jvm.Free Jvm.Stand Jvm.Pilot.@@N@@.Jvm.D
/-! MADE BY PROGRAM (witnessworld.py) out of the Statement's table words and the real class files: 9 classes; the members and pool entries that the words name. The judged class is class 1, her method 1. -/
namespace start1
open Jvm.ClassFile
def u (s : String) : CpInfo := .utf8 (stringToUtf16 s)
/-- a pool by its gaps: so many unusable entries, then the entry; so many at the end -/
def gap : Nat → List CpInfo → List CpInfo
  | 0, r => r
  | n + 1, r => .unusable :: gap n r
def poolList (es : List (Nat × CpInfo)) (last : Nat) : List CpInfo := es.foldr (fun e r => gap e.1 (e.2 :: r)) (gap last [])
def pool (es : List (Nat × CpInfo)) (last : Nat) : Array CpInfo := ⟨poolList es last⟩
def fileOf (pool : Array CpInfo) (this : Nat) (attrs : Array Attribute := #[]) (ms : Array MethodInfo := #[]) (fl : Nat := 33) (sup : Nat := 0) (ifs : Array Nat := #[]) (fds : Array FieldInfo := #[]) : ClassFile where
  minorVersion := 0
  majorVersion := 65
  constantPool := pool
  accessFlags := fl
  thisClass := this
  superClass := sup
  interfaces := ifs
  fields := fds
  methods := ms
  attributes := attrs
def plain (name : String) (sup : Option ClassId) : Class where
  name := name
  kind := .ordinary
  loader := none
  accessFlags := 33
  super := sup
  interfaces := #[]
  cf := none
  fields := #[]
  methods := #[]
  instanceTypes := #[]
  staticTypes := #[]
  resolved := #[]
  callSites := []
  init := .initialized
  statics := none
  mirror := none

def pool0 : Array CpInfo := pool [(5, u "<init>"), (0, u "()V"), (1, .class_ 10), (1, u "java/lang/Object")] 113

def k0m0 : Method := { name := "<init>", desc := "()V", sig := { parameters := [], returnType := none }, accessFlags := 1, code := none }
/-- java/lang/Object -/
def k0 : Class := { plain "java/lang/Object" none with
  accessFlags := 33
  interfaces := #[]
  cf := some (fileOf pool0 8 #[] #[{ accessFlags := 1, nameIndex := 5, descriptorIndex := 6, attributes := #[] }] 33 0 #[] #[])
  fields := #[]
  methods := #[k0m0]
  instanceTypes := #[]
  staticTypes := #[]
  resolved := Array.replicate 124 none
  statics := none }

def pool1 : Array CpInfo := pool [(2, .class_ 4), (1, u "java/lang/Object"), (0, u "<init>"), (0, u "()V"), (0, .class_ 8), (0, u "com/example/tell2/tell2/RuleIndex"), (0, .integer 134217729), (0, .integer 2147483647), (0, .integer 67108865), (0, .long 4), (1, .long 3), (1, .methodref 7 17), (0, .nameAndType 18 19), (0, u "bytes"), (0, u "(II)J"), (0, .class_ 21), (0, u "com/example/tell2/tell2/RuleIndexBytesPinLaw"), (2, u "law"), (0, u "(III)Z")] 3

def k1m0 : Method := { name := "<init>", desc := "()V", sig := { parameters := [], returnType := none }, accessFlags := 1, code := none }
def k1c1 : Code := { maxStack := 6, maxLocals := 7, code := code, exceptionTable := #[], attributes := #[] }
def k1m1 : Method := { name := "law", desc := "(III)Z", sig := { parameters := [.int, .int, .int], returnType := some .boolean }, accessFlags := 9, code := some k1c1 }
/-- com/example/tell2/tell2/RuleIndexBytesPinLaw -/
def k1 : Class := { plain "com/example/tell2/tell2/RuleIndexBytesPinLaw" (some 0) with
  accessFlags := 49
  interfaces := #[]
  cf := some (fileOf pool1 20 #[] #[{ accessFlags := 1, nameIndex := 5, descriptorIndex := 6, attributes := #[] }, { accessFlags := 9, nameIndex := 24, descriptorIndex := 25, attributes := #[] }] 49 2 #[] #[])
  fields := #[]
  methods := #[k1m0, k1m1]
  instanceTypes := #[]
  staticTypes := #[]
  resolved := Array.replicate 29 none
  statics := none }

def pool2 : Array CpInfo := pool [(1, .class_ 2), (0, u "com/example/tell2/tell2/RuleIndex"), (1, .class_ 6), (1, u "java/lang/Object"), (4, u "keys"), (0, u "[J"), (2, u "starts"), (0, u "[I"), (2, u "numbers"), (97, u "URL_WIDE_TOKENS"), (0, u "Ljava/util/Set;"), (64, .long 8), (1, .long 4), (28, u "bytes"), (0, u "(II)J"), (30, .class_ 248), (1, u "com/example/tell2/tell2/RuleIndex$Trial"), (42, u "MAX_SLOTS"), (0, u "I"), (1, u "MAX_RULES")] 66

def k2c0 : Code := { maxStack := 6, maxLocals := 2, code := prog_17_method_7_code, exceptionTable := #[], attributes := #[] }
def k2m0 : Method := { name := "bytes", desc := "(II)J", sig := { parameters := [.int, .int], returnType := some .long }, accessFlags := 8, code := some k2c0 }
/-- com/example/tell2/tell2/RuleIndex -/
def k2 : Class := { plain "com/example/tell2/tell2/RuleIndex" (some 0) with
  accessFlags := 48
  interfaces := #[]
  cf := some (fileOf pool2 1 #[.nestMembers #[246]] #[{ accessFlags := 8, nameIndex := 214, descriptorIndex := 215, attributes := #[] }] 48 4 #[] #[{ accessFlags := 24, nameIndex := 291, descriptorIndex := 292, attributes := #[] }, { accessFlags := 24, nameIndex := 294, descriptorIndex := 292, attributes := #[] }, { accessFlags := 26, nameIndex := 117, descriptorIndex := 118, attributes := #[] }, { accessFlags := 18, nameIndex := 11, descriptorIndex := 12, attributes := #[] }, { accessFlags := 18, nameIndex := 15, descriptorIndex := 16, attributes := #[] }, { accessFlags := 18, nameIndex := 19, descriptorIndex := 16, attributes := #[] }])
  fields := #[{ name := "MAX_SLOTS", type := .int, accessFlags := 24, slot := 0, constantValue := 0 }, { name := "MAX_RULES", type := .int, accessFlags := 24, slot := 1, constantValue := 0 }, { name := "URL_WIDE_TOKENS", type := (.object "java/util/Set"), accessFlags := 26, slot := 2, constantValue := 0 }, { name := "keys", type := (.array .long), accessFlags := 18, slot := 0, constantValue := 0 }, { name := "starts", type := (.array .int), accessFlags := 18, slot := 1, constantValue := 0 }, { name := "numbers", type := (.array .int), accessFlags := 18, slot := 2, constantValue := 0 }]
  methods := #[k2m0]
  instanceTypes := #[(.array .long), (.array .int), (.array .int)]
  staticTypes := #[.int, .int, (.object "java/util/Set")]
  resolved := Array.replicate 361 none
  statics := none }

def pool3 : Array CpInfo := pool [(1, u "java/lang/Cloneable"), (0, .class_ 1), (0, u "java/lang/Object"), (0, .class_ 3)] 3

/-- java/lang/Cloneable -/
def k3 : Class := { plain "java/lang/Cloneable" (some 0) with
  accessFlags := 1537
  interfaces := #[]
  cf := some (fileOf pool3 2 #[] #[] 1537 4 #[] #[])
  fields := #[]
  methods := #[]
  instanceTypes := #[]
  staticTypes := #[]
  resolved := Array.replicate 8 none
  statics := none }

def pool4 : Array CpInfo := pool [(1, u "java/io/Serializable"), (0, .class_ 1), (0, u "java/lang/Object"), (0, .class_ 3)] 3

/-- java/io/Serializable -/
def k4 : Class := { plain "java/io/Serializable" (some 0) with
  accessFlags := 1537
  interfaces := #[]
  cf := some (fileOf pool4 2 #[] #[] 1537 4 #[] #[])
  fields := #[]
  methods := #[]
  instanceTypes := #[]
  staticTypes := #[]
  resolved := Array.replicate 8 none
  statics := none }

/-- the primitive byte -/
def k5 : Class := { plain "byte" none with kind := .primitive 'B', accessFlags := 0x411 }
/-- [B -/
def k6 : Class := { plain "[B" (some 0) with kind := .array 5 .byte, interfaces := #[3, 4], accessFlags := 1041 }

/-- the primitive int -/
def k7 : Class := { plain "int" none with kind := .primitive 'I', accessFlags := 0x411 }
/-- [I -/
def k8 : Class := { plain "[I" (some 0) with kind := .array 7 .int, interfaces := #[3, 4], accessFlags := 1041 }

def heap : Heap := #[]
def classes : Array Class := #[k0, k1, k2, k3, k4, k5, k6, k7, k8]
def interned : List (Array UInt16 × Addr) := []
def slotsUsed : Nat := 0
def theMethod : MethodId := ⟨1, 1⟩
def args0 : Array Value := #[.int 5, .int 3, .int 8]
def aboutOver (below : List Frame) : State where
  vm := { classes := classes, interned := interned.toArray }
  heap := heap
  slotsUsed := slotsUsed
  threads := #[{ frames := .invoking theMethod args0 :: below }]
def below0 : List Frame := [.native { method := ⟨0, 0⟩, args := #[] }]
def about1 : State := aboutOver below0
def p0 : Program := .bare "" "" ""
def e0 : Env := launch0.env 0 0 0
theorem w_frames : about1.frames = Frame.invoking theMethod args0 :: below0 := rfl
set_option maxRecDepth 65536 in
theorem w_args : argsFit about1.vm theMethod args0 = true := by decide +kernel
set_option maxRecDepth 65536 in
theorem w_heap : heapFits about1 = true := by decide +kernel
set_option maxRecDepth 65536 in
theorem w_runnable : about1.curStatus? = some .runnable := by decide +kernel
set_option maxRecDepth 65536 in
theorem w_alone : about1.alone = true := by decide +kernel
set_option maxRecDepth 65536 in
theorem w_named : about1.methodNamed? x = some theMethod := by decide +kernel
set_option maxRecDepth 65536 in
theorem w_hears : about1.hears theMethod below0 = true := by decide +kernel
set_option maxRecDepth 65536 in
theorem w_ripe : about1.ripe theMethod args0 below0 = true := by decide +kernel
theorem w_running : about1.status = .running := rfl
set_option maxRecDepth 65536 in
theorem w_room : about1.hasRoom e0.platform room_1 = true :=
  launch0.hasRoom_least _ room_1 (by decide +kernel) (by decide +kernel) (by decide +kernel) (by decide +kernel) (by decide +kernel) (by decide +kernel)
theorem allAtoms_all (ts : List Jvm.Cond) (a : Array Jvm.Value) (st : Jvm.State) : (allAtoms ts).before a st = ts.all (fun c => c.before a st) := by
  induction ts with
  | nil => rfl
  | cons c t ih =>
    show (Jvm.Cond.and c (allAtoms t)).before a st = _
    rw [Jvm.Cond.before_and, ih, List.all_cons]
def words1 : List Jvm.Cond := Jvm.Cond.code x code maxLocals ret :: tables_1
/-- a 'code' word, met by the world's own term for the bytes: nothing is compared byte by byte -/
theorem code_word {y : MethodName} {bytes : ByteArray} {mx : Nat} {rt : Option FieldType} {a : Array Value} {s : State} {m : MethodId} {meth : Method} {c : Code} (h1 : s.methodNamed? y = some m) (h2 : s.vm.method? m = some meth) (h3 : meth.code = some c) (h4 : c.code = bytes)
    (h5 : (c.maxLocals == mx && c.exceptionTable.isEmpty && decide (c.maxStack ≤ mostOperands) && decide (meth.sig.returnType = rt) && !meth.locks && decide (parseMethodDescriptor y.desc = some meth.sig)) = true) : (Jvm.Cond.code y bytes mx rt).before a s = true := by
  simp only [Bool.and_eq_true, beq_iff_eq, Bool.not_eq_true', decide_eq_true_eq] at h5
  obtain ⟨⟨⟨⟨⟨g1, g2⟩, g3⟩, g4⟩, g5⟩, g6⟩ := h5
  simp [Cond.before, Cond.holds, Cond.value, h1, h2, h3, h4, g1, g2, g3, g4, g5, g6]
def isCode : Jvm.Cond → Bool
  | .code _ _ _ _ => true
  | _ => false
theorem all_split {L : List Jvm.Cond} {P : Jvm.Cond → Bool} (h1 : L.all (fun c => isCode c || P c) = true) (h2 : ∀ c ∈ L.filter isCode, P c = true) : L.all P = true := by
  refine List.all_eq_true.mpr fun c hc => ?_
  have h := List.all_eq_true.mp h1 c hc
  rcases Bool.eq_false_or_eq_true (isCode c) with hi | hi
  · exact h2 c (List.mem_filter.mpr ⟨hc, hi⟩)
  · simpa [hi] using h
set_option maxRecDepth 65536 in
theorem w_c0 : (Jvm.Cond.code x code maxLocals ret).before args0 about1 = true := code_word (m := ⟨1, 1⟩) (meth := k1m1) (c := k1c1) (by decide +kernel) rfl rfl rfl (by decide +kernel)
set_option maxRecDepth 65536 in
theorem w_c1 : (Jvm.Cond.code ({ cls := "com/example/tell2/tell2/RuleIndex", name := "bytes", desc := "(II)J" } : Jvm.MethodName) prog_17_method_7_code (2 : Nat) (Option.some Jvm.ClassFile.FieldType.long)).before args0 about1 = true := code_word (m := ⟨2, 0⟩) (meth := k2m0) (c := k2c0) (by decide +kernel) rfl rfl rfl (by decide +kernel)
def codes1 : List Jvm.Cond := [Jvm.Cond.code x code maxLocals ret, Jvm.Cond.code ({ cls := "com/example/tell2/tell2/RuleIndex", name := "bytes", desc := "(II)J" } : Jvm.MethodName) prog_17_method_7_code (2 : Nat) (Option.some Jvm.ClassFile.FieldType.long)]
set_option maxRecDepth 65536 in
theorem codes_eq : words1.filter isCode = codes1 := rfl
theorem w_codes : ∀ c ∈ words1.filter isCode, c.before args0 about1 = true := by
  rw [codes_eq]
  intro c hc
  simp only [codes1, List.mem_cons, List.not_mem_nil, or_false] at hc
  rcases hc with rfl | rfl
  · exact w_c0
  · exact w_c1
set_option maxRecDepth 65536 in
theorem w_t1 : words1.all (fun c => isCode c || c.before args0 about1) = true := by decide +kernel
theorem w_tables : (allAtoms (Jvm.Cond.code x code maxLocals ret :: tables_1)).before args0 about1 = true := by
  rw [allAtoms_all]
  show words1.all (fun c => c.before args0 about1) = true
  refine all_split ?_ w_codes
  rw [w_t1]
set_option maxRecDepth 65536 in
theorem w_case : (Jvm.Cond.and given_1 narrow_1).before args0 about1 = true := by decide +kernel
theorem w_applies : (headSpec (Jvm.Cond.code x code maxLocals ret :: tables_1) room_1).applies x e0.platform about1 = true :=
  (Spec.applies_iff w_frames).mpr ⟨w_running, w_runnable, w_alone, w_named, w_hears, w_ripe, w_room, w_tables⟩
theorem atStart : AtStart classFile x code maxLocals ret World_1 tables_1 room_1 Calls_1 rest_1 Pre_1 launch0 p0 e0 about1 theMethod args0 below0 :=
  ⟨lists_1, trivial, launch0.admits_env _ _ _, launch0.least_env, fairChoices_fair.cas, fairChoices_fair.clock, w_frames, w_args, w_heap, w_applies, trivial, trivial, w_case⟩
end start1
theorem witness_1 : WitnessClaimed_1 := ⟨start1.p0, start1.e0, start1.about1, start1.theMethod, start1.args0, start1.below0, start1.atStart⟩
end Jvm.Pilot.@@N@@
