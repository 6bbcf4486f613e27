import JvmDerived
import JvmDerived.Pilot.@@N@@Statement
import JvmDerived.Pilot.@@N@@Code
set_option linter.unusedVariables false
set_option linter.unusedSimpArgs false
namespace Jvm.RoadKit
open Sem ClassFile Op Lib Jvm.Stand Jvm.Free Jvm.LawKit
section New
variable {p : Program} {l : Launch} {e : Env} {R : Room} {s : State} {m : MethodId} {args : Array Value} {below : List Frame} {meth : Method} {c : Code} {T : State} {locs : List Loc} {cells slots : Nat}
theorem retI (X : Stand p l e R s m args below meth c T locs cells slots) (hx : p.tables.exec = Jvm.exec) {pc : Nat} {Ls : Array Slot} {z : Int32} {rest : List Value} (hret : meth.sig.returnType = some .int) (hd : decode c.code pc = .ok (.ireturn, 1)) {fs : List Frame}
    (hl : ∀ (f : JFrame) (acts : List Action), f.method = m → f.locked = none → f.entered = [] → (doReturn e (T.setTop f) acts (some (.int z))).1 = T.setFrames fs) : Steps p.tables e below (T.setTop (mkF m pc Ls (.int z :: rest))) (T.setFrames fs) := by
  have hm' : T.vm.method? m = some meth := X.method'
  have hn : narrow .int (.int z) = .int z := rfl
  show Steps p.tables e below (T.setTop { method := m, pc := pc, locals := Ls, stack := _ :: rest, locked := none }) _
  jvm_step X.here [X.here.top, hx, hd, hm', hret, hn]
  first | (intro acts; rw [hl _ acts rfl rfl rfl]) | rw [hl _ _ rfl rfl rfl]
  exact Steps.refl _
theorem retL (X : Stand p l e R s m args below meth c T locs cells slots) (hx : p.tables.exec = Jvm.exec) {pc : Nat} {Ls : Array Slot} {z : Int64} {rest : List Value} (hret : meth.sig.returnType = some .long) (hd : decode c.code pc = .ok (.lreturn, 1)) {fs : List Frame}
    (hl : ∀ (f : JFrame) (acts : List Action), f.method = m → f.locked = none → f.entered = [] → (doReturn e (T.setTop f) acts (some (.long z))).1 = T.setFrames fs) : Steps p.tables e below (T.setTop (mkF m pc Ls (.long z :: rest))) (T.setFrames fs) := by
  have hm' : T.vm.method? m = some meth := X.method'
  have hn : narrow .long (.long z) = .long z := rfl
  show Steps p.tables e below (T.setTop { method := m, pc := pc, locals := Ls, stack := _ :: rest, locked := none }) _
  jvm_step X.here [X.here.top, hx, hd, hm', hret, hn]
  first | (intro acts; rw [hl _ acts rfl rfl rfl]) | rw [hl _ _ rfl rfl rfl]
  exact Steps.refl _
theorem castS {locs' : List Loc} {cells' slots' : Nat} (h1 : locs = locs') (h2 : cells = cells') (h3 : slots = slots') (X : Stand p l e R s m args below meth c T locs cells slots) : Stand p l e R s m args below meth c T locs' cells' slots' := by
  subst h1 h2 h3; exact X
end New
end Jvm.RoadKit
namespace Jvm.Pilot.@@N@@
open Jvm Jvm.ClassFile Sem Op Lib Jvm.Free Jvm.Stand Jvm.LawKit Jvm.RoadKit Bundle Jvm.Pilot.@@N@@.Jvm.D
theorem own_sel {args : Array Value} {s : State} {y : MethodName} {n : Nat} (hi : (Jvm.Cond.instanceMethod y).before args s = true) (hp : (Jvm.Cond.privateMethod y).before args s = true) (hc : (Jvm.Cond.instantiable y.cls n).before args s = true) (hy : y.cls ≠ "java/lang/invoke/MethodHandle" ∧ y.cls ≠ "java/lang/invoke/VarHandle") : (Jvm.Cond.selects y.cls y y).before args s = true := by
  obtain ⟨m, meth, h1, h2, -, -⟩ := Cond.instanceMethod_spec hi
  obtain ⟨c, k, k1, k2, -, k4, -⟩ := Cond.instantiable_spec hc
  have hcl := findClass_of_methodNamed h1
  cases k1.symm.trans hcl
  have hf := State.methodFound?_of_named h1 hy
  have hs : selectMethod {} s.vm m.cls m = .method m := selectMethod_private h2 (Cond.privateMethod_at hp m meth h1 h2)
  have hi : k.isInterface = false := by
    cases q : k.isInterface
    · rfl
    · rw [q] at k4; cases k4
  simp [Cond.before, Cond.holds, Cond.value, hcl, hf, h1, hs, k2, hi]

def own_int (b0 b1 b2 b3 : Int32) : Int32 := ((((b0 &&& (255 : Int32)) <<< ((24 : Int32) &&& 31)) ||| ((b1 &&& (255 : Int32)) <<< ((16 : Int32) &&& 31))) ||| ((b2 &&& (255 : Int32)) <<< ((8 : Int32) &&& 31))) ||| (b3 &&& (255 : Int32))
theorem d1_0 : decode method_3_code 0 = .ok (.aload_n 0, 1) := by decide +kernel
theorem d1_1 : decode method_3_code 1 = .ok (.iload_n 1, 1) := by decide +kernel
theorem d1_2 : decode method_3_code 2 = .ok (.lload_n 2, 1) := by decide +kernel
theorem d1_3 : decode method_3_code 3 = .ok (.bipush 56, 2) := by decide +kernel
theorem d1_5 : decode method_3_code 5 = .ok (.lushr, 1) := by decide +kernel
theorem d1_6 : decode method_3_code 6 = .ok (.l2i, 1) := by decide +kernel
theorem d1_7 : decode method_3_code 7 = .ok (.i2b, 1) := by decide +kernel
theorem d1_8 : decode method_3_code 8 = .ok (.bastore, 1) := by decide +kernel
theorem d1_9 : decode method_3_code 9 = .ok (.aload_n 0, 1) := by decide +kernel
theorem d1_10 : decode method_3_code 10 = .ok (.iload_n 1, 1) := by decide +kernel
theorem d1_11 : decode method_3_code 11 = .ok (.iconst 1, 1) := by decide +kernel
theorem d1_12 : decode method_3_code 12 = .ok (.iadd, 1) := by decide +kernel
theorem d1_13 : decode method_3_code 13 = .ok (.lload_n 2, 1) := by decide +kernel
theorem d1_14 : decode method_3_code 14 = .ok (.bipush 48, 2) := by decide +kernel
theorem d1_16 : decode method_3_code 16 = .ok (.lushr, 1) := by decide +kernel
theorem d1_17 : decode method_3_code 17 = .ok (.l2i, 1) := by decide +kernel
theorem d1_18 : decode method_3_code 18 = .ok (.i2b, 1) := by decide +kernel
theorem d1_19 : decode method_3_code 19 = .ok (.bastore, 1) := by decide +kernel
theorem d1_20 : decode method_3_code 20 = .ok (.aload_n 0, 1) := by decide +kernel
theorem d1_21 : decode method_3_code 21 = .ok (.iload_n 1, 1) := by decide +kernel
theorem d1_22 : decode method_3_code 22 = .ok (.iconst 2, 1) := by decide +kernel
theorem d1_23 : decode method_3_code 23 = .ok (.iadd, 1) := by decide +kernel
theorem d1_24 : decode method_3_code 24 = .ok (.lload_n 2, 1) := by decide +kernel
theorem d1_25 : decode method_3_code 25 = .ok (.bipush 40, 2) := by decide +kernel
theorem d1_27 : decode method_3_code 27 = .ok (.lushr, 1) := by decide +kernel
theorem d1_28 : decode method_3_code 28 = .ok (.l2i, 1) := by decide +kernel
theorem d1_29 : decode method_3_code 29 = .ok (.i2b, 1) := by decide +kernel
theorem d1_30 : decode method_3_code 30 = .ok (.bastore, 1) := by decide +kernel
theorem d1_31 : decode method_3_code 31 = .ok (.aload_n 0, 1) := by decide +kernel
theorem d1_32 : decode method_3_code 32 = .ok (.iload_n 1, 1) := by decide +kernel
theorem d1_33 : decode method_3_code 33 = .ok (.iconst 3, 1) := by decide +kernel
theorem d1_34 : decode method_3_code 34 = .ok (.iadd, 1) := by decide +kernel
theorem d1_35 : decode method_3_code 35 = .ok (.lload_n 2, 1) := by decide +kernel
theorem d1_36 : decode method_3_code 36 = .ok (.bipush 32, 2) := by decide +kernel
theorem d1_38 : decode method_3_code 38 = .ok (.lushr, 1) := by decide +kernel
theorem d1_39 : decode method_3_code 39 = .ok (.l2i, 1) := by decide +kernel
theorem d1_40 : decode method_3_code 40 = .ok (.i2b, 1) := by decide +kernel
theorem d1_41 : decode method_3_code 41 = .ok (.bastore, 1) := by decide +kernel
theorem d1_42 : decode method_3_code 42 = .ok (.aload_n 0, 1) := by decide +kernel
theorem d1_43 : decode method_3_code 43 = .ok (.iload_n 1, 1) := by decide +kernel
theorem d1_44 : decode method_3_code 44 = .ok (.iconst 4, 1) := by decide +kernel
theorem d1_45 : decode method_3_code 45 = .ok (.iadd, 1) := by decide +kernel
theorem d1_46 : decode method_3_code 46 = .ok (.lload_n 2, 1) := by decide +kernel
theorem d1_47 : decode method_3_code 47 = .ok (.bipush 24, 2) := by decide +kernel
theorem d1_49 : decode method_3_code 49 = .ok (.lushr, 1) := by decide +kernel
theorem d1_50 : decode method_3_code 50 = .ok (.l2i, 1) := by decide +kernel
theorem d1_51 : decode method_3_code 51 = .ok (.i2b, 1) := by decide +kernel
theorem d1_52 : decode method_3_code 52 = .ok (.bastore, 1) := by decide +kernel
theorem d1_53 : decode method_3_code 53 = .ok (.aload_n 0, 1) := by decide +kernel
theorem d1_54 : decode method_3_code 54 = .ok (.iload_n 1, 1) := by decide +kernel
theorem d1_55 : decode method_3_code 55 = .ok (.iconst 5, 1) := by decide +kernel
theorem d1_56 : decode method_3_code 56 = .ok (.iadd, 1) := by decide +kernel
theorem d1_57 : decode method_3_code 57 = .ok (.lload_n 2, 1) := by decide +kernel
theorem d1_58 : decode method_3_code 58 = .ok (.bipush 16, 2) := by decide +kernel
theorem d1_60 : decode method_3_code 60 = .ok (.lushr, 1) := by decide +kernel
theorem d1_61 : decode method_3_code 61 = .ok (.l2i, 1) := by decide +kernel
theorem d1_62 : decode method_3_code 62 = .ok (.i2b, 1) := by decide +kernel
theorem d1_63 : decode method_3_code 63 = .ok (.bastore, 1) := by decide +kernel
theorem d1_64 : decode method_3_code 64 = .ok (.aload_n 0, 1) := by decide +kernel
theorem d1_65 : decode method_3_code 65 = .ok (.iload_n 1, 1) := by decide +kernel
theorem d1_66 : decode method_3_code 66 = .ok (.bipush 6, 2) := by decide +kernel
theorem d1_68 : decode method_3_code 68 = .ok (.iadd, 1) := by decide +kernel
theorem d1_69 : decode method_3_code 69 = .ok (.lload_n 2, 1) := by decide +kernel
theorem d1_70 : decode method_3_code 70 = .ok (.bipush 8, 2) := by decide +kernel
theorem d1_72 : decode method_3_code 72 = .ok (.lushr, 1) := by decide +kernel
theorem d1_73 : decode method_3_code 73 = .ok (.l2i, 1) := by decide +kernel
theorem d1_74 : decode method_3_code 74 = .ok (.i2b, 1) := by decide +kernel
theorem d1_75 : decode method_3_code 75 = .ok (.bastore, 1) := by decide +kernel
theorem d1_76 : decode method_3_code 76 = .ok (.aload_n 0, 1) := by decide +kernel
theorem d1_77 : decode method_3_code 77 = .ok (.iload_n 1, 1) := by decide +kernel
theorem d1_78 : decode method_3_code 78 = .ok (.bipush 7, 2) := by decide +kernel
theorem d1_80 : decode method_3_code 80 = .ok (.iadd, 1) := by decide +kernel
theorem d1_81 : decode method_3_code 81 = .ok (.lload_n 2, 1) := by decide +kernel
theorem d1_82 : decode method_3_code 82 = .ok (.l2i, 1) := by decide +kernel
theorem d1_83 : decode method_3_code 83 = .ok (.i2b, 1) := by decide +kernel
theorem d1_84 : decode method_3_code 84 = .ok (.bastore, 1) := by decide +kernel
theorem d1_85 : decode method_3_code 85 = .ok (.return_, 1) := by decide +kernel
theorem pn_1 : plainName "com/example/tenure/tenure/store/ValueReaderReadLongPinLaw" = true := by first | (simp [plainName, overriddenIn]; done) | decide +kernel
theorem ef_1_0 (m : MethodId) (x0 : Addr) (x2 : Int64) : entryFrame m #[(.ref x0), (.int (0 : Int32)), (.long x2)] 4 = mkF m 0 #[.val (.ref x0), .val (.int (0 : Int32)), .val (.long x2), .second] [] := by first | (simp [entryFrame, mkF, argsToLocals, Value.category]; done) | rfl
def Q1_0 (Z : State) (a1 : Addr) (q3 : Int64) (k : ClassId) (v0 : Int32) (v1 : Int32) (v2 : Int32) (v3 : Int32) (v4 : Int32) (v5 : Int32) (v6 : Int32) (v7 : Int32) (v8 : Int32) (v9 : Int32) (v10 : Int32) (v11 : Int32) (v12 : Int32) (v13 : Int32) (v14 : Int32) (v15 : Int32) (v16 : Int32) (h0 : Heap) (n0 : Nat) (v : Option Value) (h : Heap) (L : List Loc) : Prop := v = none ∧ Fr n0 L ∧ Keep h0 h [a1] ∧ Arv Z h a1 k .byte (17 : Int32) [(.int (nar .byte (((q3.toUInt64 >>> ((56 : Int32) &&& 0x3f).toInt64.toUInt64).toInt64).toInt32.toInt8.toInt32))), (.int (nar .byte (((q3.toUInt64 >>> ((48 : Int32) &&& 0x3f).toInt64.toUInt64).toInt64).toInt32.toInt8.toInt32))), (.int (nar .byte (((q3.toUInt64 >>> ((40 : Int32) &&& 0x3f).toInt64.toUInt64).toInt64).toInt32.toInt8.toInt32))), (.int (nar .byte (((q3.toUInt64 >>> ((32 : Int32) &&& 0x3f).toInt64.toUInt64).toInt64).toInt32.toInt8.toInt32))), (.int (nar .byte (((q3.toUInt64 >>> ((24 : Int32) &&& 0x3f).toInt64.toUInt64).toInt64).toInt32.toInt8.toInt32))), (.int (nar .byte (((q3.toUInt64 >>> ((16 : Int32) &&& 0x3f).toInt64.toUInt64).toInt64).toInt32.toInt8.toInt32))), (.int (nar .byte (((q3.toUInt64 >>> ((8 : Int32) &&& 0x3f).toInt64.toUInt64).toInt64).toInt32.toInt8.toInt32))), (.int (nar .byte (q3.toInt32.toInt8.toInt32))), (.int v8), (.int v9), (.int v10), (.int v11), (.int v12), (.int v13), (.int v14), (.int v15), (.int v16)] (.int (0 : Int32))
set_option maxRecDepth 65536 in
set_option maxHeartbeats 40000000 in
theorem rm1_0 (l : Launch) (Z : State) (a0 : Array Value) (hw : ∀ d ∈ tables_1, d.before a0 Z = true) (ws : List Jvm.Cond) (a1 : Addr) (q3 : Int64) (k : ClassId) (v0 : Int32) (v1 : Int32) (v2 : Int32) (v3 : Int32) (v4 : Int32) (v5 : Int32) (v6 : Int32) (v7 : Int32) (v8 : Int32) (v9 : Int32) (v10 : Int32) (v11 : Int32) (v12 : Int32) (v13 : Int32) (v14 : Int32) (v15 : Int32) (v16 : Int32) (h0 : Heap) (n0 : Nat) (Z0 : n0 ≤ h0.size) (V_a1 : Arv Z h0 a1 k .byte (17 : Int32) [(.int v0), (.int v1), (.int v2), (.int v3), (.int v4), (.int v5), (.int v6), (.int v7), (.int v8), (.int v9), (.int v10), (.int v11), (.int v12), (.int v13), (.int v14), (.int v15), (.int v16)] (.int (0 : Int32))) (g_a1 : n0 ≤ a1) :
    MetFree l (⟨"com/example/tenure/tenure/store/ValueReaderReadLongPinLaw", "put", "([BIJ)V"⟩ : MethodName) (head1 (Jvm.Cond.code (⟨"com/example/tenure/tenure/store/ValueReaderReadLongPinLaw", "put", "([BIJ)V"⟩ : MethodName) method_3_code 4 none :: ws) ({ frames := 0, cells := 0, slots := 0, locals := 0 } : Room)) (fun a U => a = #[(.ref a1), (.int (0 : Int32)), (.long q3)] ∧ Z.Warmed39 U.vm ∧ U.heap = h0) (fun _ _ _ _ _ => True) (fun _ U o U' => ∃ v L, o = .returned v ∧ Q1_0 Z a1 q3 k v0 v1 v2 v3 v4 v5 v6 v7 v8 v9 v10 v11 v12 v13 v14 v15 v16 h0 n0 v U'.heap L ∧ FrameEnd U o U' L ({ frames := 0, cells := 0, slots := 0, locals := 0 } : Room).cells ({ frames := 0, cells := 0, slots := 0, locals := 0 } : Room).slots) := by
  refine MetFree.of_bodySF (plainFor_of_name pn_1) hisR ?_
  intro p e s m args below meth c s₁ Bd hml0 hP hK
  obtain ⟨rfl, hZ, hh⟩ := hP
  have hx := Bd.exec
  have hby := Bd.bytes
  have hml : c.maxLocals = 4 := hml0
  have hown : s.vm.findClass "com/example/tenure/tenure/store/ValueReaderReadLongPinLaw" = some m.cls := findClass_of_methodNamed Bd.named
  have hnm := (name_of_methodNamed Bd.named Bd.method).1
  have X0 : Stand p l e ({ frames := 0, cells := 0, slots := 0, locals := 0 } : Room) s m #[(.ref a1), (.int (0 : Int32)), (.long q3)] below meth c s₁ [] 0 0 := Stand.of_body Bd
  have e0 : s₁.heap = h0 := by rw [← hh, Bd.state]; rfl
  have N0 := Fr.nil n0
  have pre0 : ∀ t, Steps p.tables e below (s₁.setTop (mkF m 0 #[.val (.ref a1), .val (.int (0 : Int32)), .val (.long q3), .second] [])) t → Steps p.tables e below (s₁.setTop (entryFrame m #[(.ref a1), (.int (0 : Int32)), (.long q3)] 4)) t := fun t k => castTop (ef_1_0 m a1 q3) k
  obtain ⟨cl_1, Ar_1, q_1, S_1, M_1, H_1, G_1⟩ := id V_a1
  have hin_1 : ¬ ((0 : Int32) < 0 ∨ cl_1.slots.size ≤ ((0 : Int32)).toNatClampNeg) := inb_of S_1 ⟨by decide, by decide⟩
  obtain ⟨T_1, h_1, X_1, e_1, W_1, st_1⟩ := stB X0 hx hZ e0 Ar_1 (j := (0 : Int32)) hin_1 (g := (mkF m 8 #[.val (.ref a1), .val (.int (0 : Int32)), .val (.long q3), .second] [(.int ((((q3.toUInt64 >>> ((56 : Int32) &&& 0x3f).toInt64.toUInt64).toInt64).toInt32).toInt8.toInt32)), (.int (0 : Int32)), (.ref a1)])) rfl rfl (hb hby d1_8)
  have z_2 : n0 ≤ h_1.size := Nat.le_trans Z0 (Keep.of_wr W_1).1
  have V_1 : Arv Z h_1 a1 k .byte (17 : Int32) [(.int (nar .byte ((((q3.toUInt64 >>> ((56 : Int32) &&& 0x3f).toInt64.toUInt64).toInt64).toInt32).toInt8.toInt32))), (.int v1), (.int v2), (.int v3), (.int v4), (.int v5), (.int v6), (.int v7), (.int v8), (.int v9), (.int v10), (.int v11), (.int v12), (.int v13), (.int v14), (.int v15), (.int v16)] (.int (0 : Int32)) := Arv.set Ar_1 q_1 S_1 M_1 H_1 G_1 (fits_nar_byte _) W_1 0 rfl (Nat.le_of_ble_eq_true rfl)
  have N_1 := Fr.snoc X_1 N0 g_a1
  have K_1 : Keep h0 h_1 [a1] := (Keep.refl h0 [a1]).wr W_1 (Or.inl (List.mem_of_getElem? (i := 0) rfl))
  obtain ⟨cl_3, Ar_3, q_3, S_3, M_3, H_3, G_3⟩ := id V_1
  have hin_3 : ¬ ((1 : Int32) < 0 ∨ cl_3.slots.size ≤ ((1 : Int32)).toNatClampNeg) := inb_of S_3 ⟨by decide, by decide⟩
  obtain ⟨T_3, h_3, X_3, e_3, W_3, st_3⟩ := stB X_1 hx hZ e_1 Ar_3 (j := (1 : Int32)) hin_3 (g := (mkF m 19 #[.val (.ref a1), .val (.int (0 : Int32)), .val (.long q3), .second] [(.int ((((q3.toUInt64 >>> ((48 : Int32) &&& 0x3f).toInt64.toUInt64).toInt64).toInt32).toInt8.toInt32)), (.int (1 : Int32)), (.ref a1)])) rfl rfl (hb hby d1_19)
  have z_4 : n0 ≤ h_3.size := Nat.le_trans z_2 (Keep.of_wr W_3).1
  have V_3 : Arv Z h_3 a1 k .byte (17 : Int32) [(.int (nar .byte ((((q3.toUInt64 >>> ((56 : Int32) &&& 0x3f).toInt64.toUInt64).toInt64).toInt32).toInt8.toInt32))), (.int (nar .byte ((((q3.toUInt64 >>> ((48 : Int32) &&& 0x3f).toInt64.toUInt64).toInt64).toInt32).toInt8.toInt32))), (.int v2), (.int v3), (.int v4), (.int v5), (.int v6), (.int v7), (.int v8), (.int v9), (.int v10), (.int v11), (.int v12), (.int v13), (.int v14), (.int v15), (.int v16)] (.int (0 : Int32)) := Arv.set Ar_3 q_3 S_3 M_3 H_3 G_3 (fits_nar_byte _) W_3 1 rfl (Nat.le_of_ble_eq_true rfl)
  have N_3 := Fr.snoc X_3 N_1 g_a1
  have K_3 : Keep h0 h_3 [a1] := K_1.wr W_3 (Or.inl (List.mem_of_getElem? (i := 0) rfl))
  obtain ⟨cl_5, Ar_5, q_5, S_5, M_5, H_5, G_5⟩ := id V_3
  have hin_5 : ¬ ((2 : Int32) < 0 ∨ cl_5.slots.size ≤ ((2 : Int32)).toNatClampNeg) := inb_of S_5 ⟨by decide, by decide⟩
  obtain ⟨T_5, h_5, X_5, e_5, W_5, st_5⟩ := stB X_3 hx hZ e_3 Ar_5 (j := (2 : Int32)) hin_5 (g := (mkF m 30 #[.val (.ref a1), .val (.int (0 : Int32)), .val (.long q3), .second] [(.int ((((q3.toUInt64 >>> ((40 : Int32) &&& 0x3f).toInt64.toUInt64).toInt64).toInt32).toInt8.toInt32)), (.int (2 : Int32)), (.ref a1)])) rfl rfl (hb hby d1_30)
  have z_6 : n0 ≤ h_5.size := Nat.le_trans z_4 (Keep.of_wr W_5).1
  have V_5 : Arv Z h_5 a1 k .byte (17 : Int32) [(.int (nar .byte ((((q3.toUInt64 >>> ((56 : Int32) &&& 0x3f).toInt64.toUInt64).toInt64).toInt32).toInt8.toInt32))), (.int (nar .byte ((((q3.toUInt64 >>> ((48 : Int32) &&& 0x3f).toInt64.toUInt64).toInt64).toInt32).toInt8.toInt32))), (.int (nar .byte ((((q3.toUInt64 >>> ((40 : Int32) &&& 0x3f).toInt64.toUInt64).toInt64).toInt32).toInt8.toInt32))), (.int v3), (.int v4), (.int v5), (.int v6), (.int v7), (.int v8), (.int v9), (.int v10), (.int v11), (.int v12), (.int v13), (.int v14), (.int v15), (.int v16)] (.int (0 : Int32)) := Arv.set Ar_5 q_5 S_5 M_5 H_5 G_5 (fits_nar_byte _) W_5 2 rfl (Nat.le_of_ble_eq_true rfl)
  have N_5 := Fr.snoc X_5 N_3 g_a1
  have K_5 : Keep h0 h_5 [a1] := K_3.wr W_5 (Or.inl (List.mem_of_getElem? (i := 0) rfl))
  obtain ⟨cl_7, Ar_7, q_7, S_7, M_7, H_7, G_7⟩ := id V_5
  have hin_7 : ¬ ((3 : Int32) < 0 ∨ cl_7.slots.size ≤ ((3 : Int32)).toNatClampNeg) := inb_of S_7 ⟨by decide, by decide⟩
  obtain ⟨T_7, h_7, X_7, e_7, W_7, st_7⟩ := stB X_5 hx hZ e_5 Ar_7 (j := (3 : Int32)) hin_7 (g := (mkF m 41 #[.val (.ref a1), .val (.int (0 : Int32)), .val (.long q3), .second] [(.int ((((q3.toUInt64 >>> ((32 : Int32) &&& 0x3f).toInt64.toUInt64).toInt64).toInt32).toInt8.toInt32)), (.int (3 : Int32)), (.ref a1)])) rfl rfl (hb hby d1_41)
  have z_8 : n0 ≤ h_7.size := Nat.le_trans z_6 (Keep.of_wr W_7).1
  have V_7 : Arv Z h_7 a1 k .byte (17 : Int32) [(.int (nar .byte ((((q3.toUInt64 >>> ((56 : Int32) &&& 0x3f).toInt64.toUInt64).toInt64).toInt32).toInt8.toInt32))), (.int (nar .byte ((((q3.toUInt64 >>> ((48 : Int32) &&& 0x3f).toInt64.toUInt64).toInt64).toInt32).toInt8.toInt32))), (.int (nar .byte ((((q3.toUInt64 >>> ((40 : Int32) &&& 0x3f).toInt64.toUInt64).toInt64).toInt32).toInt8.toInt32))), (.int (nar .byte ((((q3.toUInt64 >>> ((32 : Int32) &&& 0x3f).toInt64.toUInt64).toInt64).toInt32).toInt8.toInt32))), (.int v4), (.int v5), (.int v6), (.int v7), (.int v8), (.int v9), (.int v10), (.int v11), (.int v12), (.int v13), (.int v14), (.int v15), (.int v16)] (.int (0 : Int32)) := Arv.set Ar_7 q_7 S_7 M_7 H_7 G_7 (fits_nar_byte _) W_7 3 rfl (Nat.le_of_ble_eq_true rfl)
  have N_7 := Fr.snoc X_7 N_5 g_a1
  have K_7 : Keep h0 h_7 [a1] := K_5.wr W_7 (Or.inl (List.mem_of_getElem? (i := 0) rfl))
  obtain ⟨cl_9, Ar_9, q_9, S_9, M_9, H_9, G_9⟩ := id V_7
  have hin_9 : ¬ ((4 : Int32) < 0 ∨ cl_9.slots.size ≤ ((4 : Int32)).toNatClampNeg) := inb_of S_9 ⟨by decide, by decide⟩
  obtain ⟨T_9, h_9, X_9, e_9, W_9, st_9⟩ := stB X_7 hx hZ e_7 Ar_9 (j := (4 : Int32)) hin_9 (g := (mkF m 52 #[.val (.ref a1), .val (.int (0 : Int32)), .val (.long q3), .second] [(.int ((((q3.toUInt64 >>> ((24 : Int32) &&& 0x3f).toInt64.toUInt64).toInt64).toInt32).toInt8.toInt32)), (.int (4 : Int32)), (.ref a1)])) rfl rfl (hb hby d1_52)
  have z_10 : n0 ≤ h_9.size := Nat.le_trans z_8 (Keep.of_wr W_9).1
  have V_9 : Arv Z h_9 a1 k .byte (17 : Int32) [(.int (nar .byte ((((q3.toUInt64 >>> ((56 : Int32) &&& 0x3f).toInt64.toUInt64).toInt64).toInt32).toInt8.toInt32))), (.int (nar .byte ((((q3.toUInt64 >>> ((48 : Int32) &&& 0x3f).toInt64.toUInt64).toInt64).toInt32).toInt8.toInt32))), (.int (nar .byte ((((q3.toUInt64 >>> ((40 : Int32) &&& 0x3f).toInt64.toUInt64).toInt64).toInt32).toInt8.toInt32))), (.int (nar .byte ((((q3.toUInt64 >>> ((32 : Int32) &&& 0x3f).toInt64.toUInt64).toInt64).toInt32).toInt8.toInt32))), (.int (nar .byte ((((q3.toUInt64 >>> ((24 : Int32) &&& 0x3f).toInt64.toUInt64).toInt64).toInt32).toInt8.toInt32))), (.int v5), (.int v6), (.int v7), (.int v8), (.int v9), (.int v10), (.int v11), (.int v12), (.int v13), (.int v14), (.int v15), (.int v16)] (.int (0 : Int32)) := Arv.set Ar_9 q_9 S_9 M_9 H_9 G_9 (fits_nar_byte _) W_9 4 rfl (Nat.le_of_ble_eq_true rfl)
  have N_9 := Fr.snoc X_9 N_7 g_a1
  have K_9 : Keep h0 h_9 [a1] := K_7.wr W_9 (Or.inl (List.mem_of_getElem? (i := 0) rfl))
  obtain ⟨cl_11, Ar_11, q_11, S_11, M_11, H_11, G_11⟩ := id V_9
  have hin_11 : ¬ ((5 : Int32) < 0 ∨ cl_11.slots.size ≤ ((5 : Int32)).toNatClampNeg) := inb_of S_11 ⟨by decide, by decide⟩
  obtain ⟨T_11, h_11, X_11, e_11, W_11, st_11⟩ := stB X_9 hx hZ e_9 Ar_11 (j := (5 : Int32)) hin_11 (g := (mkF m 63 #[.val (.ref a1), .val (.int (0 : Int32)), .val (.long q3), .second] [(.int ((((q3.toUInt64 >>> ((16 : Int32) &&& 0x3f).toInt64.toUInt64).toInt64).toInt32).toInt8.toInt32)), (.int (5 : Int32)), (.ref a1)])) rfl rfl (hb hby d1_63)
  have z_12 : n0 ≤ h_11.size := Nat.le_trans z_10 (Keep.of_wr W_11).1
  have V_11 : Arv Z h_11 a1 k .byte (17 : Int32) [(.int (nar .byte ((((q3.toUInt64 >>> ((56 : Int32) &&& 0x3f).toInt64.toUInt64).toInt64).toInt32).toInt8.toInt32))), (.int (nar .byte ((((q3.toUInt64 >>> ((48 : Int32) &&& 0x3f).toInt64.toUInt64).toInt64).toInt32).toInt8.toInt32))), (.int (nar .byte ((((q3.toUInt64 >>> ((40 : Int32) &&& 0x3f).toInt64.toUInt64).toInt64).toInt32).toInt8.toInt32))), (.int (nar .byte ((((q3.toUInt64 >>> ((32 : Int32) &&& 0x3f).toInt64.toUInt64).toInt64).toInt32).toInt8.toInt32))), (.int (nar .byte ((((q3.toUInt64 >>> ((24 : Int32) &&& 0x3f).toInt64.toUInt64).toInt64).toInt32).toInt8.toInt32))), (.int (nar .byte ((((q3.toUInt64 >>> ((16 : Int32) &&& 0x3f).toInt64.toUInt64).toInt64).toInt32).toInt8.toInt32))), (.int v6), (.int v7), (.int v8), (.int v9), (.int v10), (.int v11), (.int v12), (.int v13), (.int v14), (.int v15), (.int v16)] (.int (0 : Int32)) := Arv.set Ar_11 q_11 S_11 M_11 H_11 G_11 (fits_nar_byte _) W_11 5 rfl (Nat.le_of_ble_eq_true rfl)
  have N_11 := Fr.snoc X_11 N_9 g_a1
  have K_11 : Keep h0 h_11 [a1] := K_9.wr W_11 (Or.inl (List.mem_of_getElem? (i := 0) rfl))
  obtain ⟨cl_13, Ar_13, q_13, S_13, M_13, H_13, G_13⟩ := id V_11
  have hin_13 : ¬ ((6 : Int32) < 0 ∨ cl_13.slots.size ≤ ((6 : Int32)).toNatClampNeg) := inb_of S_13 ⟨by decide, by decide⟩
  obtain ⟨T_13, h_13, X_13, e_13, W_13, st_13⟩ := stB X_11 hx hZ e_11 Ar_13 (j := (6 : Int32)) hin_13 (g := (mkF m 75 #[.val (.ref a1), .val (.int (0 : Int32)), .val (.long q3), .second] [(.int ((((q3.toUInt64 >>> ((8 : Int32) &&& 0x3f).toInt64.toUInt64).toInt64).toInt32).toInt8.toInt32)), (.int (6 : Int32)), (.ref a1)])) rfl rfl (hb hby d1_75)
  have z_14 : n0 ≤ h_13.size := Nat.le_trans z_12 (Keep.of_wr W_13).1
  have V_13 : Arv Z h_13 a1 k .byte (17 : Int32) [(.int (nar .byte ((((q3.toUInt64 >>> ((56 : Int32) &&& 0x3f).toInt64.toUInt64).toInt64).toInt32).toInt8.toInt32))), (.int (nar .byte ((((q3.toUInt64 >>> ((48 : Int32) &&& 0x3f).toInt64.toUInt64).toInt64).toInt32).toInt8.toInt32))), (.int (nar .byte ((((q3.toUInt64 >>> ((40 : Int32) &&& 0x3f).toInt64.toUInt64).toInt64).toInt32).toInt8.toInt32))), (.int (nar .byte ((((q3.toUInt64 >>> ((32 : Int32) &&& 0x3f).toInt64.toUInt64).toInt64).toInt32).toInt8.toInt32))), (.int (nar .byte ((((q3.toUInt64 >>> ((24 : Int32) &&& 0x3f).toInt64.toUInt64).toInt64).toInt32).toInt8.toInt32))), (.int (nar .byte ((((q3.toUInt64 >>> ((16 : Int32) &&& 0x3f).toInt64.toUInt64).toInt64).toInt32).toInt8.toInt32))), (.int (nar .byte ((((q3.toUInt64 >>> ((8 : Int32) &&& 0x3f).toInt64.toUInt64).toInt64).toInt32).toInt8.toInt32))), (.int v7), (.int v8), (.int v9), (.int v10), (.int v11), (.int v12), (.int v13), (.int v14), (.int v15), (.int v16)] (.int (0 : Int32)) := Arv.set Ar_13 q_13 S_13 M_13 H_13 G_13 (fits_nar_byte _) W_13 6 rfl (Nat.le_of_ble_eq_true rfl)
  have N_13 := Fr.snoc X_13 N_11 g_a1
  have K_13 : Keep h0 h_13 [a1] := K_11.wr W_13 (Or.inl (List.mem_of_getElem? (i := 0) rfl))
  obtain ⟨cl_15, Ar_15, q_15, S_15, M_15, H_15, G_15⟩ := id V_13
  have hin_15 : ¬ ((7 : Int32) < 0 ∨ cl_15.slots.size ≤ ((7 : Int32)).toNatClampNeg) := inb_of S_15 ⟨by decide, by decide⟩
  obtain ⟨T_15, h_15, X_15, e_15, W_15, st_15⟩ := stB X_13 hx hZ e_13 Ar_15 (j := (7 : Int32)) hin_15 (g := (mkF m 84 #[.val (.ref a1), .val (.int (0 : Int32)), .val (.long q3), .second] [(.int ((q3.toInt32).toInt8.toInt32)), (.int (7 : Int32)), (.ref a1)])) rfl rfl (hb hby d1_84)
  have z_16 : n0 ≤ h_15.size := Nat.le_trans z_14 (Keep.of_wr W_15).1
  have V_15 : Arv Z h_15 a1 k .byte (17 : Int32) [(.int (nar .byte ((((q3.toUInt64 >>> ((56 : Int32) &&& 0x3f).toInt64.toUInt64).toInt64).toInt32).toInt8.toInt32))), (.int (nar .byte ((((q3.toUInt64 >>> ((48 : Int32) &&& 0x3f).toInt64.toUInt64).toInt64).toInt32).toInt8.toInt32))), (.int (nar .byte ((((q3.toUInt64 >>> ((40 : Int32) &&& 0x3f).toInt64.toUInt64).toInt64).toInt32).toInt8.toInt32))), (.int (nar .byte ((((q3.toUInt64 >>> ((32 : Int32) &&& 0x3f).toInt64.toUInt64).toInt64).toInt32).toInt8.toInt32))), (.int (nar .byte ((((q3.toUInt64 >>> ((24 : Int32) &&& 0x3f).toInt64.toUInt64).toInt64).toInt32).toInt8.toInt32))), (.int (nar .byte ((((q3.toUInt64 >>> ((16 : Int32) &&& 0x3f).toInt64.toUInt64).toInt64).toInt32).toInt8.toInt32))), (.int (nar .byte ((((q3.toUInt64 >>> ((8 : Int32) &&& 0x3f).toInt64.toUInt64).toInt64).toInt32).toInt8.toInt32))), (.int (nar .byte ((q3.toInt32).toInt8.toInt32))), (.int v8), (.int v9), (.int v10), (.int v11), (.int v12), (.int v13), (.int v14), (.int v15), (.int v16)] (.int (0 : Int32)) := Arv.set Ar_15 q_15 S_15 M_15 H_15 G_15 (fits_nar_byte _) W_15 7 rfl (Nat.le_of_ble_eq_true rfl)
  have N_15 := Fr.snoc X_15 N_13 g_a1
  have K_15 : Keep h0 h_15 [a1] := K_13.wr W_15 (Or.inl (List.mem_of_getElem? (i := 0) rfl))
  obtain ⟨fs, hr, hrun, hended, hW, hsame⟩ := X_15.leave (v := none) (fun _ => rfl)
  refine ⟨_, _, pre0 _ ?_, hrun, hended, _, _, rfl, ?_, ⟨_, rfl⟩, hW, hsame.mono (by decide) (by decide)⟩
  · show Steps p.tables e below (s₁.setTop (mkF m 0 #[.val (.ref a1), .val (.int (0 : Int32)), .val (.long q3), .second] [])) _
    refine XS.aloadN X0.here hx rfl (hb hby d1_0) rfl rfl ?_
    show Steps p.tables e below (s₁.setTop (mkF m 1 #[.val (.ref a1), .val (.int (0 : Int32)), .val (.long q3), .second] [(.ref a1)])) _
    refine XS.iloadN X0.here hx rfl (hb hby d1_1) rfl ?_
    show Steps p.tables e below (s₁.setTop (mkF m 2 #[.val (.ref a1), .val (.int (0 : Int32)), .val (.long q3), .second] [(.int (0 : Int32)), (.ref a1)])) _
    refine XS.lloadN X0.here hx rfl (hb hby d1_2) rfl ?_
    show Steps p.tables e below (s₁.setTop (mkF m 3 #[.val (.ref a1), .val (.int (0 : Int32)), .val (.long q3), .second] [(.long q3), (.int (0 : Int32)), (.ref a1)])) _
    refine XS.bipush X0.here hx rfl (hb hby d1_3) ?_
    show Steps p.tables e below (s₁.setTop (mkF m 5 #[.val (.ref a1), .val (.int (0 : Int32)), .val (.long q3), .second] [(.int (56 : Int32)), (.long q3), (.int (0 : Int32)), (.ref a1)])) _
    refine XS.lushr X0.here hx rfl (hb hby d1_5) rfl ?_
    show Steps p.tables e below (s₁.setTop (mkF m 6 #[.val (.ref a1), .val (.int (0 : Int32)), .val (.long q3), .second] [(.long ((q3.toUInt64 >>> ((56 : Int32) &&& 0x3f).toInt64.toUInt64).toInt64)), (.int (0 : Int32)), (.ref a1)])) _
    refine XS.l2i X0.here hx rfl (hb hby d1_6) rfl ?_
    show Steps p.tables e below (s₁.setTop (mkF m 7 #[.val (.ref a1), .val (.int (0 : Int32)), .val (.long q3), .second] [(.int (((q3.toUInt64 >>> ((56 : Int32) &&& 0x3f).toInt64.toUInt64).toInt64).toInt32)), (.int (0 : Int32)), (.ref a1)])) _
    refine XS.i2b X0.here hx rfl (hb hby d1_7) rfl ?_
    show Steps p.tables e below (s₁.setTop (mkF m 8 #[.val (.ref a1), .val (.int (0 : Int32)), .val (.long q3), .second] [(.int ((((q3.toUInt64 >>> ((56 : Int32) &&& 0x3f).toInt64.toUInt64).toInt64).toInt32).toInt8.toInt32)), (.int (0 : Int32)), (.ref a1)])) _
    refine st_1 _ ?_
    show Steps p.tables e below (T_1.setTop (mkF m 9 #[.val (.ref a1), .val (.int (0 : Int32)), .val (.long q3), .second] [])) _
    refine XS.aloadN X_1.here hx rfl (hb hby d1_9) rfl rfl ?_
    show Steps p.tables e below (T_1.setTop (mkF m 10 #[.val (.ref a1), .val (.int (0 : Int32)), .val (.long q3), .second] [(.ref a1)])) _
    refine XS.iloadN X_1.here hx rfl (hb hby d1_10) rfl ?_
    show Steps p.tables e below (T_1.setTop (mkF m 11 #[.val (.ref a1), .val (.int (0 : Int32)), .val (.long q3), .second] [(.int (0 : Int32)), (.ref a1)])) _
    refine XS.iconst X_1.here hx rfl (hb hby d1_11) ?_
    show Steps p.tables e below (T_1.setTop (mkF m 12 #[.val (.ref a1), .val (.int (0 : Int32)), .val (.long q3), .second] [(.int (1 : Int32)), (.int (0 : Int32)), (.ref a1)])) _
    refine XS.iadd X_1.here hx rfl (hb hby d1_12) rfl ?_
    show Steps p.tables e below (T_1.setTop (mkF m 13 #[.val (.ref a1), .val (.int (0 : Int32)), .val (.long q3), .second] [(.int (1 : Int32)), (.ref a1)])) _
    refine XS.lloadN X_1.here hx rfl (hb hby d1_13) rfl ?_
    show Steps p.tables e below (T_1.setTop (mkF m 14 #[.val (.ref a1), .val (.int (0 : Int32)), .val (.long q3), .second] [(.long q3), (.int (1 : Int32)), (.ref a1)])) _
    refine XS.bipush X_1.here hx rfl (hb hby d1_14) ?_
    show Steps p.tables e below (T_1.setTop (mkF m 16 #[.val (.ref a1), .val (.int (0 : Int32)), .val (.long q3), .second] [(.int (48 : Int32)), (.long q3), (.int (1 : Int32)), (.ref a1)])) _
    refine XS.lushr X_1.here hx rfl (hb hby d1_16) rfl ?_
    show Steps p.tables e below (T_1.setTop (mkF m 17 #[.val (.ref a1), .val (.int (0 : Int32)), .val (.long q3), .second] [(.long ((q3.toUInt64 >>> ((48 : Int32) &&& 0x3f).toInt64.toUInt64).toInt64)), (.int (1 : Int32)), (.ref a1)])) _
    refine XS.l2i X_1.here hx rfl (hb hby d1_17) rfl ?_
    show Steps p.tables e below (T_1.setTop (mkF m 18 #[.val (.ref a1), .val (.int (0 : Int32)), .val (.long q3), .second] [(.int (((q3.toUInt64 >>> ((48 : Int32) &&& 0x3f).toInt64.toUInt64).toInt64).toInt32)), (.int (1 : Int32)), (.ref a1)])) _
    refine XS.i2b X_1.here hx rfl (hb hby d1_18) rfl ?_
    show Steps p.tables e below (T_1.setTop (mkF m 19 #[.val (.ref a1), .val (.int (0 : Int32)), .val (.long q3), .second] [(.int ((((q3.toUInt64 >>> ((48 : Int32) &&& 0x3f).toInt64.toUInt64).toInt64).toInt32).toInt8.toInt32)), (.int (1 : Int32)), (.ref a1)])) _
    refine st_3 _ ?_
    show Steps p.tables e below (T_3.setTop (mkF m 20 #[.val (.ref a1), .val (.int (0 : Int32)), .val (.long q3), .second] [])) _
    refine XS.aloadN X_3.here hx rfl (hb hby d1_20) rfl rfl ?_
    show Steps p.tables e below (T_3.setTop (mkF m 21 #[.val (.ref a1), .val (.int (0 : Int32)), .val (.long q3), .second] [(.ref a1)])) _
    refine XS.iloadN X_3.here hx rfl (hb hby d1_21) rfl ?_
    show Steps p.tables e below (T_3.setTop (mkF m 22 #[.val (.ref a1), .val (.int (0 : Int32)), .val (.long q3), .second] [(.int (0 : Int32)), (.ref a1)])) _
    refine XS.iconst X_3.here hx rfl (hb hby d1_22) ?_
    show Steps p.tables e below (T_3.setTop (mkF m 23 #[.val (.ref a1), .val (.int (0 : Int32)), .val (.long q3), .second] [(.int (2 : Int32)), (.int (0 : Int32)), (.ref a1)])) _
    refine XS.iadd X_3.here hx rfl (hb hby d1_23) rfl ?_
    show Steps p.tables e below (T_3.setTop (mkF m 24 #[.val (.ref a1), .val (.int (0 : Int32)), .val (.long q3), .second] [(.int (2 : Int32)), (.ref a1)])) _
    refine XS.lloadN X_3.here hx rfl (hb hby d1_24) rfl ?_
    show Steps p.tables e below (T_3.setTop (mkF m 25 #[.val (.ref a1), .val (.int (0 : Int32)), .val (.long q3), .second] [(.long q3), (.int (2 : Int32)), (.ref a1)])) _
    refine XS.bipush X_3.here hx rfl (hb hby d1_25) ?_
    show Steps p.tables e below (T_3.setTop (mkF m 27 #[.val (.ref a1), .val (.int (0 : Int32)), .val (.long q3), .second] [(.int (40 : Int32)), (.long q3), (.int (2 : Int32)), (.ref a1)])) _
    refine XS.lushr X_3.here hx rfl (hb hby d1_27) rfl ?_
    show Steps p.tables e below (T_3.setTop (mkF m 28 #[.val (.ref a1), .val (.int (0 : Int32)), .val (.long q3), .second] [(.long ((q3.toUInt64 >>> ((40 : Int32) &&& 0x3f).toInt64.toUInt64).toInt64)), (.int (2 : Int32)), (.ref a1)])) _
    refine XS.l2i X_3.here hx rfl (hb hby d1_28) rfl ?_
    show Steps p.tables e below (T_3.setTop (mkF m 29 #[.val (.ref a1), .val (.int (0 : Int32)), .val (.long q3), .second] [(.int (((q3.toUInt64 >>> ((40 : Int32) &&& 0x3f).toInt64.toUInt64).toInt64).toInt32)), (.int (2 : Int32)), (.ref a1)])) _
    refine XS.i2b X_3.here hx rfl (hb hby d1_29) rfl ?_
    show Steps p.tables e below (T_3.setTop (mkF m 30 #[.val (.ref a1), .val (.int (0 : Int32)), .val (.long q3), .second] [(.int ((((q3.toUInt64 >>> ((40 : Int32) &&& 0x3f).toInt64.toUInt64).toInt64).toInt32).toInt8.toInt32)), (.int (2 : Int32)), (.ref a1)])) _
    refine st_5 _ ?_
    show Steps p.tables e below (T_5.setTop (mkF m 31 #[.val (.ref a1), .val (.int (0 : Int32)), .val (.long q3), .second] [])) _
    refine XS.aloadN X_5.here hx rfl (hb hby d1_31) rfl rfl ?_
    show Steps p.tables e below (T_5.setTop (mkF m 32 #[.val (.ref a1), .val (.int (0 : Int32)), .val (.long q3), .second] [(.ref a1)])) _
    refine XS.iloadN X_5.here hx rfl (hb hby d1_32) rfl ?_
    show Steps p.tables e below (T_5.setTop (mkF m 33 #[.val (.ref a1), .val (.int (0 : Int32)), .val (.long q3), .second] [(.int (0 : Int32)), (.ref a1)])) _
    refine XS.iconst X_5.here hx rfl (hb hby d1_33) ?_
    show Steps p.tables e below (T_5.setTop (mkF m 34 #[.val (.ref a1), .val (.int (0 : Int32)), .val (.long q3), .second] [(.int (3 : Int32)), (.int (0 : Int32)), (.ref a1)])) _
    refine XS.iadd X_5.here hx rfl (hb hby d1_34) rfl ?_
    show Steps p.tables e below (T_5.setTop (mkF m 35 #[.val (.ref a1), .val (.int (0 : Int32)), .val (.long q3), .second] [(.int (3 : Int32)), (.ref a1)])) _
    refine XS.lloadN X_5.here hx rfl (hb hby d1_35) rfl ?_
    show Steps p.tables e below (T_5.setTop (mkF m 36 #[.val (.ref a1), .val (.int (0 : Int32)), .val (.long q3), .second] [(.long q3), (.int (3 : Int32)), (.ref a1)])) _
    refine XS.bipush X_5.here hx rfl (hb hby d1_36) ?_
    show Steps p.tables e below (T_5.setTop (mkF m 38 #[.val (.ref a1), .val (.int (0 : Int32)), .val (.long q3), .second] [(.int (32 : Int32)), (.long q3), (.int (3 : Int32)), (.ref a1)])) _
    refine XS.lushr X_5.here hx rfl (hb hby d1_38) rfl ?_
    show Steps p.tables e below (T_5.setTop (mkF m 39 #[.val (.ref a1), .val (.int (0 : Int32)), .val (.long q3), .second] [(.long ((q3.toUInt64 >>> ((32 : Int32) &&& 0x3f).toInt64.toUInt64).toInt64)), (.int (3 : Int32)), (.ref a1)])) _
    refine XS.l2i X_5.here hx rfl (hb hby d1_39) rfl ?_
    show Steps p.tables e below (T_5.setTop (mkF m 40 #[.val (.ref a1), .val (.int (0 : Int32)), .val (.long q3), .second] [(.int (((q3.toUInt64 >>> ((32 : Int32) &&& 0x3f).toInt64.toUInt64).toInt64).toInt32)), (.int (3 : Int32)), (.ref a1)])) _
    refine XS.i2b X_5.here hx rfl (hb hby d1_40) rfl ?_
    show Steps p.tables e below (T_5.setTop (mkF m 41 #[.val (.ref a1), .val (.int (0 : Int32)), .val (.long q3), .second] [(.int ((((q3.toUInt64 >>> ((32 : Int32) &&& 0x3f).toInt64.toUInt64).toInt64).toInt32).toInt8.toInt32)), (.int (3 : Int32)), (.ref a1)])) _
    refine st_7 _ ?_
    show Steps p.tables e below (T_7.setTop (mkF m 42 #[.val (.ref a1), .val (.int (0 : Int32)), .val (.long q3), .second] [])) _
    refine XS.aloadN X_7.here hx rfl (hb hby d1_42) rfl rfl ?_
    show Steps p.tables e below (T_7.setTop (mkF m 43 #[.val (.ref a1), .val (.int (0 : Int32)), .val (.long q3), .second] [(.ref a1)])) _
    refine XS.iloadN X_7.here hx rfl (hb hby d1_43) rfl ?_
    show Steps p.tables e below (T_7.setTop (mkF m 44 #[.val (.ref a1), .val (.int (0 : Int32)), .val (.long q3), .second] [(.int (0 : Int32)), (.ref a1)])) _
    refine XS.iconst X_7.here hx rfl (hb hby d1_44) ?_
    show Steps p.tables e below (T_7.setTop (mkF m 45 #[.val (.ref a1), .val (.int (0 : Int32)), .val (.long q3), .second] [(.int (4 : Int32)), (.int (0 : Int32)), (.ref a1)])) _
    refine XS.iadd X_7.here hx rfl (hb hby d1_45) rfl ?_
    show Steps p.tables e below (T_7.setTop (mkF m 46 #[.val (.ref a1), .val (.int (0 : Int32)), .val (.long q3), .second] [(.int (4 : Int32)), (.ref a1)])) _
    refine XS.lloadN X_7.here hx rfl (hb hby d1_46) rfl ?_
    show Steps p.tables e below (T_7.setTop (mkF m 47 #[.val (.ref a1), .val (.int (0 : Int32)), .val (.long q3), .second] [(.long q3), (.int (4 : Int32)), (.ref a1)])) _
    refine XS.bipush X_7.here hx rfl (hb hby d1_47) ?_
    show Steps p.tables e below (T_7.setTop (mkF m 49 #[.val (.ref a1), .val (.int (0 : Int32)), .val (.long q3), .second] [(.int (24 : Int32)), (.long q3), (.int (4 : Int32)), (.ref a1)])) _
    refine XS.lushr X_7.here hx rfl (hb hby d1_49) rfl ?_
    show Steps p.tables e below (T_7.setTop (mkF m 50 #[.val (.ref a1), .val (.int (0 : Int32)), .val (.long q3), .second] [(.long ((q3.toUInt64 >>> ((24 : Int32) &&& 0x3f).toInt64.toUInt64).toInt64)), (.int (4 : Int32)), (.ref a1)])) _
    refine XS.l2i X_7.here hx rfl (hb hby d1_50) rfl ?_
    show Steps p.tables e below (T_7.setTop (mkF m 51 #[.val (.ref a1), .val (.int (0 : Int32)), .val (.long q3), .second] [(.int (((q3.toUInt64 >>> ((24 : Int32) &&& 0x3f).toInt64.toUInt64).toInt64).toInt32)), (.int (4 : Int32)), (.ref a1)])) _
    refine XS.i2b X_7.here hx rfl (hb hby d1_51) rfl ?_
    show Steps p.tables e below (T_7.setTop (mkF m 52 #[.val (.ref a1), .val (.int (0 : Int32)), .val (.long q3), .second] [(.int ((((q3.toUInt64 >>> ((24 : Int32) &&& 0x3f).toInt64.toUInt64).toInt64).toInt32).toInt8.toInt32)), (.int (4 : Int32)), (.ref a1)])) _
    refine st_9 _ ?_
    show Steps p.tables e below (T_9.setTop (mkF m 53 #[.val (.ref a1), .val (.int (0 : Int32)), .val (.long q3), .second] [])) _
    refine XS.aloadN X_9.here hx rfl (hb hby d1_53) rfl rfl ?_
    show Steps p.tables e below (T_9.setTop (mkF m 54 #[.val (.ref a1), .val (.int (0 : Int32)), .val (.long q3), .second] [(.ref a1)])) _
    refine XS.iloadN X_9.here hx rfl (hb hby d1_54) rfl ?_
    show Steps p.tables e below (T_9.setTop (mkF m 55 #[.val (.ref a1), .val (.int (0 : Int32)), .val (.long q3), .second] [(.int (0 : Int32)), (.ref a1)])) _
    refine XS.iconst X_9.here hx rfl (hb hby d1_55) ?_
    show Steps p.tables e below (T_9.setTop (mkF m 56 #[.val (.ref a1), .val (.int (0 : Int32)), .val (.long q3), .second] [(.int (5 : Int32)), (.int (0 : Int32)), (.ref a1)])) _
    refine XS.iadd X_9.here hx rfl (hb hby d1_56) rfl ?_
    show Steps p.tables e below (T_9.setTop (mkF m 57 #[.val (.ref a1), .val (.int (0 : Int32)), .val (.long q3), .second] [(.int (5 : Int32)), (.ref a1)])) _
    refine XS.lloadN X_9.here hx rfl (hb hby d1_57) rfl ?_
    show Steps p.tables e below (T_9.setTop (mkF m 58 #[.val (.ref a1), .val (.int (0 : Int32)), .val (.long q3), .second] [(.long q3), (.int (5 : Int32)), (.ref a1)])) _
    refine XS.bipush X_9.here hx rfl (hb hby d1_58) ?_
    show Steps p.tables e below (T_9.setTop (mkF m 60 #[.val (.ref a1), .val (.int (0 : Int32)), .val (.long q3), .second] [(.int (16 : Int32)), (.long q3), (.int (5 : Int32)), (.ref a1)])) _
    refine XS.lushr X_9.here hx rfl (hb hby d1_60) rfl ?_
    show Steps p.tables e below (T_9.setTop (mkF m 61 #[.val (.ref a1), .val (.int (0 : Int32)), .val (.long q3), .second] [(.long ((q3.toUInt64 >>> ((16 : Int32) &&& 0x3f).toInt64.toUInt64).toInt64)), (.int (5 : Int32)), (.ref a1)])) _
    refine XS.l2i X_9.here hx rfl (hb hby d1_61) rfl ?_
    show Steps p.tables e below (T_9.setTop (mkF m 62 #[.val (.ref a1), .val (.int (0 : Int32)), .val (.long q3), .second] [(.int (((q3.toUInt64 >>> ((16 : Int32) &&& 0x3f).toInt64.toUInt64).toInt64).toInt32)), (.int (5 : Int32)), (.ref a1)])) _
    refine XS.i2b X_9.here hx rfl (hb hby d1_62) rfl ?_
    show Steps p.tables e below (T_9.setTop (mkF m 63 #[.val (.ref a1), .val (.int (0 : Int32)), .val (.long q3), .second] [(.int ((((q3.toUInt64 >>> ((16 : Int32) &&& 0x3f).toInt64.toUInt64).toInt64).toInt32).toInt8.toInt32)), (.int (5 : Int32)), (.ref a1)])) _
    refine st_11 _ ?_
    show Steps p.tables e below (T_11.setTop (mkF m 64 #[.val (.ref a1), .val (.int (0 : Int32)), .val (.long q3), .second] [])) _
    refine XS.aloadN X_11.here hx rfl (hb hby d1_64) rfl rfl ?_
    show Steps p.tables e below (T_11.setTop (mkF m 65 #[.val (.ref a1), .val (.int (0 : Int32)), .val (.long q3), .second] [(.ref a1)])) _
    refine XS.iloadN X_11.here hx rfl (hb hby d1_65) rfl ?_
    show Steps p.tables e below (T_11.setTop (mkF m 66 #[.val (.ref a1), .val (.int (0 : Int32)), .val (.long q3), .second] [(.int (0 : Int32)), (.ref a1)])) _
    refine XS.bipush X_11.here hx rfl (hb hby d1_66) ?_
    show Steps p.tables e below (T_11.setTop (mkF m 68 #[.val (.ref a1), .val (.int (0 : Int32)), .val (.long q3), .second] [(.int (6 : Int32)), (.int (0 : Int32)), (.ref a1)])) _
    refine XS.iadd X_11.here hx rfl (hb hby d1_68) rfl ?_
    show Steps p.tables e below (T_11.setTop (mkF m 69 #[.val (.ref a1), .val (.int (0 : Int32)), .val (.long q3), .second] [(.int (6 : Int32)), (.ref a1)])) _
    refine XS.lloadN X_11.here hx rfl (hb hby d1_69) rfl ?_
    show Steps p.tables e below (T_11.setTop (mkF m 70 #[.val (.ref a1), .val (.int (0 : Int32)), .val (.long q3), .second] [(.long q3), (.int (6 : Int32)), (.ref a1)])) _
    refine XS.bipush X_11.here hx rfl (hb hby d1_70) ?_
    show Steps p.tables e below (T_11.setTop (mkF m 72 #[.val (.ref a1), .val (.int (0 : Int32)), .val (.long q3), .second] [(.int (8 : Int32)), (.long q3), (.int (6 : Int32)), (.ref a1)])) _
    refine XS.lushr X_11.here hx rfl (hb hby d1_72) rfl ?_
    show Steps p.tables e below (T_11.setTop (mkF m 73 #[.val (.ref a1), .val (.int (0 : Int32)), .val (.long q3), .second] [(.long ((q3.toUInt64 >>> ((8 : Int32) &&& 0x3f).toInt64.toUInt64).toInt64)), (.int (6 : Int32)), (.ref a1)])) _
    refine XS.l2i X_11.here hx rfl (hb hby d1_73) rfl ?_
    show Steps p.tables e below (T_11.setTop (mkF m 74 #[.val (.ref a1), .val (.int (0 : Int32)), .val (.long q3), .second] [(.int (((q3.toUInt64 >>> ((8 : Int32) &&& 0x3f).toInt64.toUInt64).toInt64).toInt32)), (.int (6 : Int32)), (.ref a1)])) _
    refine XS.i2b X_11.here hx rfl (hb hby d1_74) rfl ?_
    show Steps p.tables e below (T_11.setTop (mkF m 75 #[.val (.ref a1), .val (.int (0 : Int32)), .val (.long q3), .second] [(.int ((((q3.toUInt64 >>> ((8 : Int32) &&& 0x3f).toInt64.toUInt64).toInt64).toInt32).toInt8.toInt32)), (.int (6 : Int32)), (.ref a1)])) _
    refine st_13 _ ?_
    show Steps p.tables e below (T_13.setTop (mkF m 76 #[.val (.ref a1), .val (.int (0 : Int32)), .val (.long q3), .second] [])) _
    refine XS.aloadN X_13.here hx rfl (hb hby d1_76) rfl rfl ?_
    show Steps p.tables e below (T_13.setTop (mkF m 77 #[.val (.ref a1), .val (.int (0 : Int32)), .val (.long q3), .second] [(.ref a1)])) _
    refine XS.iloadN X_13.here hx rfl (hb hby d1_77) rfl ?_
    show Steps p.tables e below (T_13.setTop (mkF m 78 #[.val (.ref a1), .val (.int (0 : Int32)), .val (.long q3), .second] [(.int (0 : Int32)), (.ref a1)])) _
    refine XS.bipush X_13.here hx rfl (hb hby d1_78) ?_
    show Steps p.tables e below (T_13.setTop (mkF m 80 #[.val (.ref a1), .val (.int (0 : Int32)), .val (.long q3), .second] [(.int (7 : Int32)), (.int (0 : Int32)), (.ref a1)])) _
    refine XS.iadd X_13.here hx rfl (hb hby d1_80) rfl ?_
    show Steps p.tables e below (T_13.setTop (mkF m 81 #[.val (.ref a1), .val (.int (0 : Int32)), .val (.long q3), .second] [(.int (7 : Int32)), (.ref a1)])) _
    refine XS.lloadN X_13.here hx rfl (hb hby d1_81) rfl ?_
    show Steps p.tables e below (T_13.setTop (mkF m 82 #[.val (.ref a1), .val (.int (0 : Int32)), .val (.long q3), .second] [(.long q3), (.int (7 : Int32)), (.ref a1)])) _
    refine XS.l2i X_13.here hx rfl (hb hby d1_82) rfl ?_
    show Steps p.tables e below (T_13.setTop (mkF m 83 #[.val (.ref a1), .val (.int (0 : Int32)), .val (.long q3), .second] [(.int (q3.toInt32)), (.int (7 : Int32)), (.ref a1)])) _
    refine XS.i2b X_13.here hx rfl (hb hby d1_83) rfl ?_
    show Steps p.tables e below (T_13.setTop (mkF m 84 #[.val (.ref a1), .val (.int (0 : Int32)), .val (.long q3), .second] [(.int ((q3.toInt32).toInt8.toInt32)), (.int (7 : Int32)), (.ref a1)])) _
    refine st_15 _ ?_
    show Steps p.tables e below (T_15.setTop (mkF m 85 #[.val (.ref a1), .val (.int (0 : Int32)), .val (.long q3), .second] [])) _
    exact X_15.returnOut hx Bd.returns (hb hby d1_85) hr
  · show Q1_0 Z a1 q3 k v0 v1 v2 v3 v4 v5 v6 v7 v8 v9 v10 v11 v12 v13 v14 v15 v16 h0 n0 _ T_15.heap _
    rw [e_15]
    exact ⟨rfl, N_15, K_15, V_15⟩
theorem ef_1_8 (m : MethodId) (x0 : Addr) (x2 : Int64) : entryFrame m #[(.ref x0), (.int (8 : Int32)), (.long x2)] 4 = mkF m 0 #[.val (.ref x0), .val (.int (8 : Int32)), .val (.long x2), .second] [] := by first | (simp [entryFrame, mkF, argsToLocals, Value.category]; done) | rfl
def Q1_8 (Z : State) (a1 : Addr) (q3 : Int64) (k : ClassId) (v0 : Int32) (v1 : Int32) (v2 : Int32) (v3 : Int32) (v4 : Int32) (v5 : Int32) (v6 : Int32) (v7 : Int32) (v8 : Int32) (v9 : Int32) (v10 : Int32) (v11 : Int32) (v12 : Int32) (v13 : Int32) (v14 : Int32) (v15 : Int32) (v16 : Int32) (h0 : Heap) (n0 : Nat) (v : Option Value) (h : Heap) (L : List Loc) : Prop := v = none ∧ Fr n0 L ∧ Keep h0 h [a1] ∧ Arv Z h a1 k .byte (17 : Int32) [(.int v0), (.int v1), (.int v2), (.int v3), (.int v4), (.int v5), (.int v6), (.int v7), (.int (nar .byte (((q3.toUInt64 >>> ((56 : Int32) &&& 0x3f).toInt64.toUInt64).toInt64).toInt32.toInt8.toInt32))), (.int (nar .byte (((q3.toUInt64 >>> ((48 : Int32) &&& 0x3f).toInt64.toUInt64).toInt64).toInt32.toInt8.toInt32))), (.int (nar .byte (((q3.toUInt64 >>> ((40 : Int32) &&& 0x3f).toInt64.toUInt64).toInt64).toInt32.toInt8.toInt32))), (.int (nar .byte (((q3.toUInt64 >>> ((32 : Int32) &&& 0x3f).toInt64.toUInt64).toInt64).toInt32.toInt8.toInt32))), (.int (nar .byte (((q3.toUInt64 >>> ((24 : Int32) &&& 0x3f).toInt64.toUInt64).toInt64).toInt32.toInt8.toInt32))), (.int (nar .byte (((q3.toUInt64 >>> ((16 : Int32) &&& 0x3f).toInt64.toUInt64).toInt64).toInt32.toInt8.toInt32))), (.int (nar .byte (((q3.toUInt64 >>> ((8 : Int32) &&& 0x3f).toInt64.toUInt64).toInt64).toInt32.toInt8.toInt32))), (.int (nar .byte (q3.toInt32.toInt8.toInt32))), (.int v16)] (.int (0 : Int32))
set_option maxRecDepth 65536 in
set_option maxHeartbeats 40000000 in
theorem rm1_8 (l : Launch) (Z : State) (a0 : Array Value) (hw : ∀ d ∈ tables_1, d.before a0 Z = true) (ws : List Jvm.Cond) (a1 : Addr) (q3 : Int64) (k : ClassId) (v0 : Int32) (v1 : Int32) (v2 : Int32) (v3 : Int32) (v4 : Int32) (v5 : Int32) (v6 : Int32) (v7 : Int32) (v8 : Int32) (v9 : Int32) (v10 : Int32) (v11 : Int32) (v12 : Int32) (v13 : Int32) (v14 : Int32) (v15 : Int32) (v16 : Int32) (h0 : Heap) (n0 : Nat) (Z0 : n0 ≤ h0.size) (V_a1 : Arv Z h0 a1 k .byte (17 : Int32) [(.int v0), (.int v1), (.int v2), (.int v3), (.int v4), (.int v5), (.int v6), (.int v7), (.int v8), (.int v9), (.int v10), (.int v11), (.int v12), (.int v13), (.int v14), (.int v15), (.int v16)] (.int (0 : Int32))) (g_a1 : n0 ≤ a1) :
    MetFree l (⟨"com/example/tenure/tenure/store/ValueReaderReadLongPinLaw", "put", "([BIJ)V"⟩ : MethodName) (head1 (Jvm.Cond.code (⟨"com/example/tenure/tenure/store/ValueReaderReadLongPinLaw", "put", "([BIJ)V"⟩ : MethodName) method_3_code 4 none :: ws) ({ frames := 0, cells := 0, slots := 0, locals := 0 } : Room)) (fun a U => a = #[(.ref a1), (.int (8 : Int32)), (.long q3)] ∧ Z.Warmed39 U.vm ∧ U.heap = h0) (fun _ _ _ _ _ => True) (fun _ U o U' => ∃ v L, o = .returned v ∧ Q1_8 Z a1 q3 k v0 v1 v2 v3 v4 v5 v6 v7 v8 v9 v10 v11 v12 v13 v14 v15 v16 h0 n0 v U'.heap L ∧ FrameEnd U o U' L ({ frames := 0, cells := 0, slots := 0, locals := 0 } : Room).cells ({ frames := 0, cells := 0, slots := 0, locals := 0 } : Room).slots) := by
  refine MetFree.of_bodySF (plainFor_of_name pn_1) hisR ?_
  intro p e s m args below meth c s₁ Bd hml0 hP hK
  obtain ⟨rfl, hZ, hh⟩ := hP
  have hx := Bd.exec
  have hby := Bd.bytes
  have hml : c.maxLocals = 4 := hml0
  have hown : s.vm.findClass "com/example/tenure/tenure/store/ValueReaderReadLongPinLaw" = some m.cls := findClass_of_methodNamed Bd.named
  have hnm := (name_of_methodNamed Bd.named Bd.method).1
  have X0 : Stand p l e ({ frames := 0, cells := 0, slots := 0, locals := 0 } : Room) s m #[(.ref a1), (.int (8 : Int32)), (.long q3)] below meth c s₁ [] 0 0 := Stand.of_body Bd
  have e0 : s₁.heap = h0 := by rw [← hh, Bd.state]; rfl
  have N0 := Fr.nil n0
  have pre0 : ∀ t, Steps p.tables e below (s₁.setTop (mkF m 0 #[.val (.ref a1), .val (.int (8 : Int32)), .val (.long q3), .second] [])) t → Steps p.tables e below (s₁.setTop (entryFrame m #[(.ref a1), (.int (8 : Int32)), (.long q3)] 4)) t := fun t k => castTop (ef_1_8 m a1 q3) k
  obtain ⟨cl_17, Ar_17, q_17, S_17, M_17, H_17, G_17⟩ := id V_a1
  have hin_17 : ¬ ((8 : Int32) < 0 ∨ cl_17.slots.size ≤ ((8 : Int32)).toNatClampNeg) := inb_of S_17 ⟨by decide, by decide⟩
  obtain ⟨T_17, h_17, X_17, e_17, W_17, st_17⟩ := stB X0 hx hZ e0 Ar_17 (j := (8 : Int32)) hin_17 (g := (mkF m 8 #[.val (.ref a1), .val (.int (8 : Int32)), .val (.long q3), .second] [(.int ((((q3.toUInt64 >>> ((56 : Int32) &&& 0x3f).toInt64.toUInt64).toInt64).toInt32).toInt8.toInt32)), (.int (8 : Int32)), (.ref a1)])) rfl rfl (hb hby d1_8)
  have z_18 : n0 ≤ h_17.size := Nat.le_trans Z0 (Keep.of_wr W_17).1
  have V_17 : Arv Z h_17 a1 k .byte (17 : Int32) [(.int v0), (.int v1), (.int v2), (.int v3), (.int v4), (.int v5), (.int v6), (.int v7), (.int (nar .byte ((((q3.toUInt64 >>> ((56 : Int32) &&& 0x3f).toInt64.toUInt64).toInt64).toInt32).toInt8.toInt32))), (.int v9), (.int v10), (.int v11), (.int v12), (.int v13), (.int v14), (.int v15), (.int v16)] (.int (0 : Int32)) := Arv.set Ar_17 q_17 S_17 M_17 H_17 G_17 (fits_nar_byte _) W_17 8 rfl (Nat.le_of_ble_eq_true rfl)
  have N_17 := Fr.snoc X_17 N0 g_a1
  have K_17 : Keep h0 h_17 [a1] := (Keep.refl h0 [a1]).wr W_17 (Or.inl (List.mem_of_getElem? (i := 0) rfl))
  obtain ⟨cl_19, Ar_19, q_19, S_19, M_19, H_19, G_19⟩ := id V_17
  have hin_19 : ¬ ((9 : Int32) < 0 ∨ cl_19.slots.size ≤ ((9 : Int32)).toNatClampNeg) := inb_of S_19 ⟨by decide, by decide⟩
  obtain ⟨T_19, h_19, X_19, e_19, W_19, st_19⟩ := stB X_17 hx hZ e_17 Ar_19 (j := (9 : Int32)) hin_19 (g := (mkF m 19 #[.val (.ref a1), .val (.int (8 : Int32)), .val (.long q3), .second] [(.int ((((q3.toUInt64 >>> ((48 : Int32) &&& 0x3f).toInt64.toUInt64).toInt64).toInt32).toInt8.toInt32)), (.int (9 : Int32)), (.ref a1)])) rfl rfl (hb hby d1_19)
  have z_20 : n0 ≤ h_19.size := Nat.le_trans z_18 (Keep.of_wr W_19).1
  have V_19 : Arv Z h_19 a1 k .byte (17 : Int32) [(.int v0), (.int v1), (.int v2), (.int v3), (.int v4), (.int v5), (.int v6), (.int v7), (.int (nar .byte ((((q3.toUInt64 >>> ((56 : Int32) &&& 0x3f).toInt64.toUInt64).toInt64).toInt32).toInt8.toInt32))), (.int (nar .byte ((((q3.toUInt64 >>> ((48 : Int32) &&& 0x3f).toInt64.toUInt64).toInt64).toInt32).toInt8.toInt32))), (.int v10), (.int v11), (.int v12), (.int v13), (.int v14), (.int v15), (.int v16)] (.int (0 : Int32)) := Arv.set Ar_19 q_19 S_19 M_19 H_19 G_19 (fits_nar_byte _) W_19 9 rfl (Nat.le_of_ble_eq_true rfl)
  have N_19 := Fr.snoc X_19 N_17 g_a1
  have K_19 : Keep h0 h_19 [a1] := K_17.wr W_19 (Or.inl (List.mem_of_getElem? (i := 0) rfl))
  obtain ⟨cl_21, Ar_21, q_21, S_21, M_21, H_21, G_21⟩ := id V_19
  have hin_21 : ¬ ((10 : Int32) < 0 ∨ cl_21.slots.size ≤ ((10 : Int32)).toNatClampNeg) := inb_of S_21 ⟨by decide, by decide⟩
  obtain ⟨T_21, h_21, X_21, e_21, W_21, st_21⟩ := stB X_19 hx hZ e_19 Ar_21 (j := (10 : Int32)) hin_21 (g := (mkF m 30 #[.val (.ref a1), .val (.int (8 : Int32)), .val (.long q3), .second] [(.int ((((q3.toUInt64 >>> ((40 : Int32) &&& 0x3f).toInt64.toUInt64).toInt64).toInt32).toInt8.toInt32)), (.int (10 : Int32)), (.ref a1)])) rfl rfl (hb hby d1_30)
  have z_22 : n0 ≤ h_21.size := Nat.le_trans z_20 (Keep.of_wr W_21).1
  have V_21 : Arv Z h_21 a1 k .byte (17 : Int32) [(.int v0), (.int v1), (.int v2), (.int v3), (.int v4), (.int v5), (.int v6), (.int v7), (.int (nar .byte ((((q3.toUInt64 >>> ((56 : Int32) &&& 0x3f).toInt64.toUInt64).toInt64).toInt32).toInt8.toInt32))), (.int (nar .byte ((((q3.toUInt64 >>> ((48 : Int32) &&& 0x3f).toInt64.toUInt64).toInt64).toInt32).toInt8.toInt32))), (.int (nar .byte ((((q3.toUInt64 >>> ((40 : Int32) &&& 0x3f).toInt64.toUInt64).toInt64).toInt32).toInt8.toInt32))), (.int v11), (.int v12), (.int v13), (.int v14), (.int v15), (.int v16)] (.int (0 : Int32)) := Arv.set Ar_21 q_21 S_21 M_21 H_21 G_21 (fits_nar_byte _) W_21 10 rfl (Nat.le_of_ble_eq_true rfl)
  have N_21 := Fr.snoc X_21 N_19 g_a1
  have K_21 : Keep h0 h_21 [a1] := K_19.wr W_21 (Or.inl (List.mem_of_getElem? (i := 0) rfl))
  obtain ⟨cl_23, Ar_23, q_23, S_23, M_23, H_23, G_23⟩ := id V_21
  have hin_23 : ¬ ((11 : Int32) < 0 ∨ cl_23.slots.size ≤ ((11 : Int32)).toNatClampNeg) := inb_of S_23 ⟨by decide, by decide⟩
  obtain ⟨T_23, h_23, X_23, e_23, W_23, st_23⟩ := stB X_21 hx hZ e_21 Ar_23 (j := (11 : Int32)) hin_23 (g := (mkF m 41 #[.val (.ref a1), .val (.int (8 : Int32)), .val (.long q3), .second] [(.int ((((q3.toUInt64 >>> ((32 : Int32) &&& 0x3f).toInt64.toUInt64).toInt64).toInt32).toInt8.toInt32)), (.int (11 : Int32)), (.ref a1)])) rfl rfl (hb hby d1_41)
  have z_24 : n0 ≤ h_23.size := Nat.le_trans z_22 (Keep.of_wr W_23).1
  have V_23 : Arv Z h_23 a1 k .byte (17 : Int32) [(.int v0), (.int v1), (.int v2), (.int v3), (.int v4), (.int v5), (.int v6), (.int v7), (.int (nar .byte ((((q3.toUInt64 >>> ((56 : Int32) &&& 0x3f).toInt64.toUInt64).toInt64).toInt32).toInt8.toInt32))), (.int (nar .byte ((((q3.toUInt64 >>> ((48 : Int32) &&& 0x3f).toInt64.toUInt64).toInt64).toInt32).toInt8.toInt32))), (.int (nar .byte ((((q3.toUInt64 >>> ((40 : Int32) &&& 0x3f).toInt64.toUInt64).toInt64).toInt32).toInt8.toInt32))), (.int (nar .byte ((((q3.toUInt64 >>> ((32 : Int32) &&& 0x3f).toInt64.toUInt64).toInt64).toInt32).toInt8.toInt32))), (.int v12), (.int v13), (.int v14), (.int v15), (.int v16)] (.int (0 : Int32)) := Arv.set Ar_23 q_23 S_23 M_23 H_23 G_23 (fits_nar_byte _) W_23 11 rfl (Nat.le_of_ble_eq_true rfl)
  have N_23 := Fr.snoc X_23 N_21 g_a1
  have K_23 : Keep h0 h_23 [a1] := K_21.wr W_23 (Or.inl (List.mem_of_getElem? (i := 0) rfl))
  obtain ⟨cl_25, Ar_25, q_25, S_25, M_25, H_25, G_25⟩ := id V_23
  have hin_25 : ¬ ((12 : Int32) < 0 ∨ cl_25.slots.size ≤ ((12 : Int32)).toNatClampNeg) := inb_of S_25 ⟨by decide, by decide⟩
  obtain ⟨T_25, h_25, X_25, e_25, W_25, st_25⟩ := stB X_23 hx hZ e_23 Ar_25 (j := (12 : Int32)) hin_25 (g := (mkF m 52 #[.val (.ref a1), .val (.int (8 : Int32)), .val (.long q3), .second] [(.int ((((q3.toUInt64 >>> ((24 : Int32) &&& 0x3f).toInt64.toUInt64).toInt64).toInt32).toInt8.toInt32)), (.int (12 : Int32)), (.ref a1)])) rfl rfl (hb hby d1_52)
  have z_26 : n0 ≤ h_25.size := Nat.le_trans z_24 (Keep.of_wr W_25).1
  have V_25 : Arv Z h_25 a1 k .byte (17 : Int32) [(.int v0), (.int v1), (.int v2), (.int v3), (.int v4), (.int v5), (.int v6), (.int v7), (.int (nar .byte ((((q3.toUInt64 >>> ((56 : Int32) &&& 0x3f).toInt64.toUInt64).toInt64).toInt32).toInt8.toInt32))), (.int (nar .byte ((((q3.toUInt64 >>> ((48 : Int32) &&& 0x3f).toInt64.toUInt64).toInt64).toInt32).toInt8.toInt32))), (.int (nar .byte ((((q3.toUInt64 >>> ((40 : Int32) &&& 0x3f).toInt64.toUInt64).toInt64).toInt32).toInt8.toInt32))), (.int (nar .byte ((((q3.toUInt64 >>> ((32 : Int32) &&& 0x3f).toInt64.toUInt64).toInt64).toInt32).toInt8.toInt32))), (.int (nar .byte ((((q3.toUInt64 >>> ((24 : Int32) &&& 0x3f).toInt64.toUInt64).toInt64).toInt32).toInt8.toInt32))), (.int v13), (.int v14), (.int v15), (.int v16)] (.int (0 : Int32)) := Arv.set Ar_25 q_25 S_25 M_25 H_25 G_25 (fits_nar_byte _) W_25 12 rfl (Nat.le_of_ble_eq_true rfl)
  have N_25 := Fr.snoc X_25 N_23 g_a1
  have K_25 : Keep h0 h_25 [a1] := K_23.wr W_25 (Or.inl (List.mem_of_getElem? (i := 0) rfl))
  obtain ⟨cl_27, Ar_27, q_27, S_27, M_27, H_27, G_27⟩ := id V_25
  have hin_27 : ¬ ((13 : Int32) < 0 ∨ cl_27.slots.size ≤ ((13 : Int32)).toNatClampNeg) := inb_of S_27 ⟨by decide, by decide⟩
  obtain ⟨T_27, h_27, X_27, e_27, W_27, st_27⟩ := stB X_25 hx hZ e_25 Ar_27 (j := (13 : Int32)) hin_27 (g := (mkF m 63 #[.val (.ref a1), .val (.int (8 : Int32)), .val (.long q3), .second] [(.int ((((q3.toUInt64 >>> ((16 : Int32) &&& 0x3f).toInt64.toUInt64).toInt64).toInt32).toInt8.toInt32)), (.int (13 : Int32)), (.ref a1)])) rfl rfl (hb hby d1_63)
  have z_28 : n0 ≤ h_27.size := Nat.le_trans z_26 (Keep.of_wr W_27).1
  have V_27 : Arv Z h_27 a1 k .byte (17 : Int32) [(.int v0), (.int v1), (.int v2), (.int v3), (.int v4), (.int v5), (.int v6), (.int v7), (.int (nar .byte ((((q3.toUInt64 >>> ((56 : Int32) &&& 0x3f).toInt64.toUInt64).toInt64).toInt32).toInt8.toInt32))), (.int (nar .byte ((((q3.toUInt64 >>> ((48 : Int32) &&& 0x3f).toInt64.toUInt64).toInt64).toInt32).toInt8.toInt32))), (.int (nar .byte ((((q3.toUInt64 >>> ((40 : Int32) &&& 0x3f).toInt64.toUInt64).toInt64).toInt32).toInt8.toInt32))), (.int (nar .byte ((((q3.toUInt64 >>> ((32 : Int32) &&& 0x3f).toInt64.toUInt64).toInt64).toInt32).toInt8.toInt32))), (.int (nar .byte ((((q3.toUInt64 >>> ((24 : Int32) &&& 0x3f).toInt64.toUInt64).toInt64).toInt32).toInt8.toInt32))), (.int (nar .byte ((((q3.toUInt64 >>> ((16 : Int32) &&& 0x3f).toInt64.toUInt64).toInt64).toInt32).toInt8.toInt32))), (.int v14), (.int v15), (.int v16)] (.int (0 : Int32)) := Arv.set Ar_27 q_27 S_27 M_27 H_27 G_27 (fits_nar_byte _) W_27 13 rfl (Nat.le_of_ble_eq_true rfl)
  have N_27 := Fr.snoc X_27 N_25 g_a1
  have K_27 : Keep h0 h_27 [a1] := K_25.wr W_27 (Or.inl (List.mem_of_getElem? (i := 0) rfl))
  obtain ⟨cl_29, Ar_29, q_29, S_29, M_29, H_29, G_29⟩ := id V_27
  have hin_29 : ¬ ((14 : Int32) < 0 ∨ cl_29.slots.size ≤ ((14 : Int32)).toNatClampNeg) := inb_of S_29 ⟨by decide, by decide⟩
  obtain ⟨T_29, h_29, X_29, e_29, W_29, st_29⟩ := stB X_27 hx hZ e_27 Ar_29 (j := (14 : Int32)) hin_29 (g := (mkF m 75 #[.val (.ref a1), .val (.int (8 : Int32)), .val (.long q3), .second] [(.int ((((q3.toUInt64 >>> ((8 : Int32) &&& 0x3f).toInt64.toUInt64).toInt64).toInt32).toInt8.toInt32)), (.int (14 : Int32)), (.ref a1)])) rfl rfl (hb hby d1_75)
  have z_30 : n0 ≤ h_29.size := Nat.le_trans z_28 (Keep.of_wr W_29).1
  have V_29 : Arv Z h_29 a1 k .byte (17 : Int32) [(.int v0), (.int v1), (.int v2), (.int v3), (.int v4), (.int v5), (.int v6), (.int v7), (.int (nar .byte ((((q3.toUInt64 >>> ((56 : Int32) &&& 0x3f).toInt64.toUInt64).toInt64).toInt32).toInt8.toInt32))), (.int (nar .byte ((((q3.toUInt64 >>> ((48 : Int32) &&& 0x3f).toInt64.toUInt64).toInt64).toInt32).toInt8.toInt32))), (.int (nar .byte ((((q3.toUInt64 >>> ((40 : Int32) &&& 0x3f).toInt64.toUInt64).toInt64).toInt32).toInt8.toInt32))), (.int (nar .byte ((((q3.toUInt64 >>> ((32 : Int32) &&& 0x3f).toInt64.toUInt64).toInt64).toInt32).toInt8.toInt32))), (.int (nar .byte ((((q3.toUInt64 >>> ((24 : Int32) &&& 0x3f).toInt64.toUInt64).toInt64).toInt32).toInt8.toInt32))), (.int (nar .byte ((((q3.toUInt64 >>> ((16 : Int32) &&& 0x3f).toInt64.toUInt64).toInt64).toInt32).toInt8.toInt32))), (.int (nar .byte ((((q3.toUInt64 >>> ((8 : Int32) &&& 0x3f).toInt64.toUInt64).toInt64).toInt32).toInt8.toInt32))), (.int v15), (.int v16)] (.int (0 : Int32)) := Arv.set Ar_29 q_29 S_29 M_29 H_29 G_29 (fits_nar_byte _) W_29 14 rfl (Nat.le_of_ble_eq_true rfl)
  have N_29 := Fr.snoc X_29 N_27 g_a1
  have K_29 : Keep h0 h_29 [a1] := K_27.wr W_29 (Or.inl (List.mem_of_getElem? (i := 0) rfl))
  obtain ⟨cl_31, Ar_31, q_31, S_31, M_31, H_31, G_31⟩ := id V_29
  have hin_31 : ¬ ((15 : Int32) < 0 ∨ cl_31.slots.size ≤ ((15 : Int32)).toNatClampNeg) := inb_of S_31 ⟨by decide, by decide⟩
  obtain ⟨T_31, h_31, X_31, e_31, W_31, st_31⟩ := stB X_29 hx hZ e_29 Ar_31 (j := (15 : Int32)) hin_31 (g := (mkF m 84 #[.val (.ref a1), .val (.int (8 : Int32)), .val (.long q3), .second] [(.int ((q3.toInt32).toInt8.toInt32)), (.int (15 : Int32)), (.ref a1)])) rfl rfl (hb hby d1_84)
  have z_32 : n0 ≤ h_31.size := Nat.le_trans z_30 (Keep.of_wr W_31).1
  have V_31 : Arv Z h_31 a1 k .byte (17 : Int32) [(.int v0), (.int v1), (.int v2), (.int v3), (.int v4), (.int v5), (.int v6), (.int v7), (.int (nar .byte ((((q3.toUInt64 >>> ((56 : Int32) &&& 0x3f).toInt64.toUInt64).toInt64).toInt32).toInt8.toInt32))), (.int (nar .byte ((((q3.toUInt64 >>> ((48 : Int32) &&& 0x3f).toInt64.toUInt64).toInt64).toInt32).toInt8.toInt32))), (.int (nar .byte ((((q3.toUInt64 >>> ((40 : Int32) &&& 0x3f).toInt64.toUInt64).toInt64).toInt32).toInt8.toInt32))), (.int (nar .byte ((((q3.toUInt64 >>> ((32 : Int32) &&& 0x3f).toInt64.toUInt64).toInt64).toInt32).toInt8.toInt32))), (.int (nar .byte ((((q3.toUInt64 >>> ((24 : Int32) &&& 0x3f).toInt64.toUInt64).toInt64).toInt32).toInt8.toInt32))), (.int (nar .byte ((((q3.toUInt64 >>> ((16 : Int32) &&& 0x3f).toInt64.toUInt64).toInt64).toInt32).toInt8.toInt32))), (.int (nar .byte ((((q3.toUInt64 >>> ((8 : Int32) &&& 0x3f).toInt64.toUInt64).toInt64).toInt32).toInt8.toInt32))), (.int (nar .byte ((q3.toInt32).toInt8.toInt32))), (.int v16)] (.int (0 : Int32)) := Arv.set Ar_31 q_31 S_31 M_31 H_31 G_31 (fits_nar_byte _) W_31 15 rfl (Nat.le_of_ble_eq_true rfl)
  have N_31 := Fr.snoc X_31 N_29 g_a1
  have K_31 : Keep h0 h_31 [a1] := K_29.wr W_31 (Or.inl (List.mem_of_getElem? (i := 0) rfl))
  obtain ⟨fs, hr, hrun, hended, hW, hsame⟩ := X_31.leave (v := none) (fun _ => rfl)
  refine ⟨_, _, pre0 _ ?_, hrun, hended, _, _, rfl, ?_, ⟨_, rfl⟩, hW, hsame.mono (by decide) (by decide)⟩
  · show Steps p.tables e below (s₁.setTop (mkF m 0 #[.val (.ref a1), .val (.int (8 : Int32)), .val (.long q3), .second] [])) _
    refine XS.aloadN X0.here hx rfl (hb hby d1_0) rfl rfl ?_
    show Steps p.tables e below (s₁.setTop (mkF m 1 #[.val (.ref a1), .val (.int (8 : Int32)), .val (.long q3), .second] [(.ref a1)])) _
    refine XS.iloadN X0.here hx rfl (hb hby d1_1) rfl ?_
    show Steps p.tables e below (s₁.setTop (mkF m 2 #[.val (.ref a1), .val (.int (8 : Int32)), .val (.long q3), .second] [(.int (8 : Int32)), (.ref a1)])) _
    refine XS.lloadN X0.here hx rfl (hb hby d1_2) rfl ?_
    show Steps p.tables e below (s₁.setTop (mkF m 3 #[.val (.ref a1), .val (.int (8 : Int32)), .val (.long q3), .second] [(.long q3), (.int (8 : Int32)), (.ref a1)])) _
    refine XS.bipush X0.here hx rfl (hb hby d1_3) ?_
    show Steps p.tables e below (s₁.setTop (mkF m 5 #[.val (.ref a1), .val (.int (8 : Int32)), .val (.long q3), .second] [(.int (56 : Int32)), (.long q3), (.int (8 : Int32)), (.ref a1)])) _
    refine XS.lushr X0.here hx rfl (hb hby d1_5) rfl ?_
    show Steps p.tables e below (s₁.setTop (mkF m 6 #[.val (.ref a1), .val (.int (8 : Int32)), .val (.long q3), .second] [(.long ((q3.toUInt64 >>> ((56 : Int32) &&& 0x3f).toInt64.toUInt64).toInt64)), (.int (8 : Int32)), (.ref a1)])) _
    refine XS.l2i X0.here hx rfl (hb hby d1_6) rfl ?_
    show Steps p.tables e below (s₁.setTop (mkF m 7 #[.val (.ref a1), .val (.int (8 : Int32)), .val (.long q3), .second] [(.int (((q3.toUInt64 >>> ((56 : Int32) &&& 0x3f).toInt64.toUInt64).toInt64).toInt32)), (.int (8 : Int32)), (.ref a1)])) _
    refine XS.i2b X0.here hx rfl (hb hby d1_7) rfl ?_
    show Steps p.tables e below (s₁.setTop (mkF m 8 #[.val (.ref a1), .val (.int (8 : Int32)), .val (.long q3), .second] [(.int ((((q3.toUInt64 >>> ((56 : Int32) &&& 0x3f).toInt64.toUInt64).toInt64).toInt32).toInt8.toInt32)), (.int (8 : Int32)), (.ref a1)])) _
    refine st_17 _ ?_
    show Steps p.tables e below (T_17.setTop (mkF m 9 #[.val (.ref a1), .val (.int (8 : Int32)), .val (.long q3), .second] [])) _
    refine XS.aloadN X_17.here hx rfl (hb hby d1_9) rfl rfl ?_
    show Steps p.tables e below (T_17.setTop (mkF m 10 #[.val (.ref a1), .val (.int (8 : Int32)), .val (.long q3), .second] [(.ref a1)])) _
    refine XS.iloadN X_17.here hx rfl (hb hby d1_10) rfl ?_
    show Steps p.tables e below (T_17.setTop (mkF m 11 #[.val (.ref a1), .val (.int (8 : Int32)), .val (.long q3), .second] [(.int (8 : Int32)), (.ref a1)])) _
    refine XS.iconst X_17.here hx rfl (hb hby d1_11) ?_
    show Steps p.tables e below (T_17.setTop (mkF m 12 #[.val (.ref a1), .val (.int (8 : Int32)), .val (.long q3), .second] [(.int (1 : Int32)), (.int (8 : Int32)), (.ref a1)])) _
    refine XS.iadd X_17.here hx rfl (hb hby d1_12) rfl ?_
    show Steps p.tables e below (T_17.setTop (mkF m 13 #[.val (.ref a1), .val (.int (8 : Int32)), .val (.long q3), .second] [(.int (9 : Int32)), (.ref a1)])) _
    refine XS.lloadN X_17.here hx rfl (hb hby d1_13) rfl ?_
    show Steps p.tables e below (T_17.setTop (mkF m 14 #[.val (.ref a1), .val (.int (8 : Int32)), .val (.long q3), .second] [(.long q3), (.int (9 : Int32)), (.ref a1)])) _
    refine XS.bipush X_17.here hx rfl (hb hby d1_14) ?_
    show Steps p.tables e below (T_17.setTop (mkF m 16 #[.val (.ref a1), .val (.int (8 : Int32)), .val (.long q3), .second] [(.int (48 : Int32)), (.long q3), (.int (9 : Int32)), (.ref a1)])) _
    refine XS.lushr X_17.here hx rfl (hb hby d1_16) rfl ?_
    show Steps p.tables e below (T_17.setTop (mkF m 17 #[.val (.ref a1), .val (.int (8 : Int32)), .val (.long q3), .second] [(.long ((q3.toUInt64 >>> ((48 : Int32) &&& 0x3f).toInt64.toUInt64).toInt64)), (.int (9 : Int32)), (.ref a1)])) _
    refine XS.l2i X_17.here hx rfl (hb hby d1_17) rfl ?_
    show Steps p.tables e below (T_17.setTop (mkF m 18 #[.val (.ref a1), .val (.int (8 : Int32)), .val (.long q3), .second] [(.int (((q3.toUInt64 >>> ((48 : Int32) &&& 0x3f).toInt64.toUInt64).toInt64).toInt32)), (.int (9 : Int32)), (.ref a1)])) _
    refine XS.i2b X_17.here hx rfl (hb hby d1_18) rfl ?_
    show Steps p.tables e below (T_17.setTop (mkF m 19 #[.val (.ref a1), .val (.int (8 : Int32)), .val (.long q3), .second] [(.int ((((q3.toUInt64 >>> ((48 : Int32) &&& 0x3f).toInt64.toUInt64).toInt64).toInt32).toInt8.toInt32)), (.int (9 : Int32)), (.ref a1)])) _
    refine st_19 _ ?_
    show Steps p.tables e below (T_19.setTop (mkF m 20 #[.val (.ref a1), .val (.int (8 : Int32)), .val (.long q3), .second] [])) _
    refine XS.aloadN X_19.here hx rfl (hb hby d1_20) rfl rfl ?_
    show Steps p.tables e below (T_19.setTop (mkF m 21 #[.val (.ref a1), .val (.int (8 : Int32)), .val (.long q3), .second] [(.ref a1)])) _
    refine XS.iloadN X_19.here hx rfl (hb hby d1_21) rfl ?_
    show Steps p.tables e below (T_19.setTop (mkF m 22 #[.val (.ref a1), .val (.int (8 : Int32)), .val (.long q3), .second] [(.int (8 : Int32)), (.ref a1)])) _
    refine XS.iconst X_19.here hx rfl (hb hby d1_22) ?_
    show Steps p.tables e below (T_19.setTop (mkF m 23 #[.val (.ref a1), .val (.int (8 : Int32)), .val (.long q3), .second] [(.int (2 : Int32)), (.int (8 : Int32)), (.ref a1)])) _
    refine XS.iadd X_19.here hx rfl (hb hby d1_23) rfl ?_
    show Steps p.tables e below (T_19.setTop (mkF m 24 #[.val (.ref a1), .val (.int (8 : Int32)), .val (.long q3), .second] [(.int (10 : Int32)), (.ref a1)])) _
    refine XS.lloadN X_19.here hx rfl (hb hby d1_24) rfl ?_
    show Steps p.tables e below (T_19.setTop (mkF m 25 #[.val (.ref a1), .val (.int (8 : Int32)), .val (.long q3), .second] [(.long q3), (.int (10 : Int32)), (.ref a1)])) _
    refine XS.bipush X_19.here hx rfl (hb hby d1_25) ?_
    show Steps p.tables e below (T_19.setTop (mkF m 27 #[.val (.ref a1), .val (.int (8 : Int32)), .val (.long q3), .second] [(.int (40 : Int32)), (.long q3), (.int (10 : Int32)), (.ref a1)])) _
    refine XS.lushr X_19.here hx rfl (hb hby d1_27) rfl ?_
    show Steps p.tables e below (T_19.setTop (mkF m 28 #[.val (.ref a1), .val (.int (8 : Int32)), .val (.long q3), .second] [(.long ((q3.toUInt64 >>> ((40 : Int32) &&& 0x3f).toInt64.toUInt64).toInt64)), (.int (10 : Int32)), (.ref a1)])) _
    refine XS.l2i X_19.here hx rfl (hb hby d1_28) rfl ?_
    show Steps p.tables e below (T_19.setTop (mkF m 29 #[.val (.ref a1), .val (.int (8 : Int32)), .val (.long q3), .second] [(.int (((q3.toUInt64 >>> ((40 : Int32) &&& 0x3f).toInt64.toUInt64).toInt64).toInt32)), (.int (10 : Int32)), (.ref a1)])) _
    refine XS.i2b X_19.here hx rfl (hb hby d1_29) rfl ?_
    show Steps p.tables e below (T_19.setTop (mkF m 30 #[.val (.ref a1), .val (.int (8 : Int32)), .val (.long q3), .second] [(.int ((((q3.toUInt64 >>> ((40 : Int32) &&& 0x3f).toInt64.toUInt64).toInt64).toInt32).toInt8.toInt32)), (.int (10 : Int32)), (.ref a1)])) _
    refine st_21 _ ?_
    show Steps p.tables e below (T_21.setTop (mkF m 31 #[.val (.ref a1), .val (.int (8 : Int32)), .val (.long q3), .second] [])) _
    refine XS.aloadN X_21.here hx rfl (hb hby d1_31) rfl rfl ?_
    show Steps p.tables e below (T_21.setTop (mkF m 32 #[.val (.ref a1), .val (.int (8 : Int32)), .val (.long q3), .second] [(.ref a1)])) _
    refine XS.iloadN X_21.here hx rfl (hb hby d1_32) rfl ?_
    show Steps p.tables e below (T_21.setTop (mkF m 33 #[.val (.ref a1), .val (.int (8 : Int32)), .val (.long q3), .second] [(.int (8 : Int32)), (.ref a1)])) _
    refine XS.iconst X_21.here hx rfl (hb hby d1_33) ?_
    show Steps p.tables e below (T_21.setTop (mkF m 34 #[.val (.ref a1), .val (.int (8 : Int32)), .val (.long q3), .second] [(.int (3 : Int32)), (.int (8 : Int32)), (.ref a1)])) _
    refine XS.iadd X_21.here hx rfl (hb hby d1_34) rfl ?_
    show Steps p.tables e below (T_21.setTop (mkF m 35 #[.val (.ref a1), .val (.int (8 : Int32)), .val (.long q3), .second] [(.int (11 : Int32)), (.ref a1)])) _
    refine XS.lloadN X_21.here hx rfl (hb hby d1_35) rfl ?_
    show Steps p.tables e below (T_21.setTop (mkF m 36 #[.val (.ref a1), .val (.int (8 : Int32)), .val (.long q3), .second] [(.long q3), (.int (11 : Int32)), (.ref a1)])) _
    refine XS.bipush X_21.here hx rfl (hb hby d1_36) ?_
    show Steps p.tables e below (T_21.setTop (mkF m 38 #[.val (.ref a1), .val (.int (8 : Int32)), .val (.long q3), .second] [(.int (32 : Int32)), (.long q3), (.int (11 : Int32)), (.ref a1)])) _
    refine XS.lushr X_21.here hx rfl (hb hby d1_38) rfl ?_
    show Steps p.tables e below (T_21.setTop (mkF m 39 #[.val (.ref a1), .val (.int (8 : Int32)), .val (.long q3), .second] [(.long ((q3.toUInt64 >>> ((32 : Int32) &&& 0x3f).toInt64.toUInt64).toInt64)), (.int (11 : Int32)), (.ref a1)])) _
    refine XS.l2i X_21.here hx rfl (hb hby d1_39) rfl ?_
    show Steps p.tables e below (T_21.setTop (mkF m 40 #[.val (.ref a1), .val (.int (8 : Int32)), .val (.long q3), .second] [(.int (((q3.toUInt64 >>> ((32 : Int32) &&& 0x3f).toInt64.toUInt64).toInt64).toInt32)), (.int (11 : Int32)), (.ref a1)])) _
    refine XS.i2b X_21.here hx rfl (hb hby d1_40) rfl ?_
    show Steps p.tables e below (T_21.setTop (mkF m 41 #[.val (.ref a1), .val (.int (8 : Int32)), .val (.long q3), .second] [(.int ((((q3.toUInt64 >>> ((32 : Int32) &&& 0x3f).toInt64.toUInt64).toInt64).toInt32).toInt8.toInt32)), (.int (11 : Int32)), (.ref a1)])) _
    refine st_23 _ ?_
    show Steps p.tables e below (T_23.setTop (mkF m 42 #[.val (.ref a1), .val (.int (8 : Int32)), .val (.long q3), .second] [])) _
    refine XS.aloadN X_23.here hx rfl (hb hby d1_42) rfl rfl ?_
    show Steps p.tables e below (T_23.setTop (mkF m 43 #[.val (.ref a1), .val (.int (8 : Int32)), .val (.long q3), .second] [(.ref a1)])) _
    refine XS.iloadN X_23.here hx rfl (hb hby d1_43) rfl ?_
    show Steps p.tables e below (T_23.setTop (mkF m 44 #[.val (.ref a1), .val (.int (8 : Int32)), .val (.long q3), .second] [(.int (8 : Int32)), (.ref a1)])) _
    refine XS.iconst X_23.here hx rfl (hb hby d1_44) ?_
    show Steps p.tables e below (T_23.setTop (mkF m 45 #[.val (.ref a1), .val (.int (8 : Int32)), .val (.long q3), .second] [(.int (4 : Int32)), (.int (8 : Int32)), (.ref a1)])) _
    refine XS.iadd X_23.here hx rfl (hb hby d1_45) rfl ?_
    show Steps p.tables e below (T_23.setTop (mkF m 46 #[.val (.ref a1), .val (.int (8 : Int32)), .val (.long q3), .second] [(.int (12 : Int32)), (.ref a1)])) _
    refine XS.lloadN X_23.here hx rfl (hb hby d1_46) rfl ?_
    show Steps p.tables e below (T_23.setTop (mkF m 47 #[.val (.ref a1), .val (.int (8 : Int32)), .val (.long q3), .second] [(.long q3), (.int (12 : Int32)), (.ref a1)])) _
    refine XS.bipush X_23.here hx rfl (hb hby d1_47) ?_
    show Steps p.tables e below (T_23.setTop (mkF m 49 #[.val (.ref a1), .val (.int (8 : Int32)), .val (.long q3), .second] [(.int (24 : Int32)), (.long q3), (.int (12 : Int32)), (.ref a1)])) _
    refine XS.lushr X_23.here hx rfl (hb hby d1_49) rfl ?_
    show Steps p.tables e below (T_23.setTop (mkF m 50 #[.val (.ref a1), .val (.int (8 : Int32)), .val (.long q3), .second] [(.long ((q3.toUInt64 >>> ((24 : Int32) &&& 0x3f).toInt64.toUInt64).toInt64)), (.int (12 : Int32)), (.ref a1)])) _
    refine XS.l2i X_23.here hx rfl (hb hby d1_50) rfl ?_
    show Steps p.tables e below (T_23.setTop (mkF m 51 #[.val (.ref a1), .val (.int (8 : Int32)), .val (.long q3), .second] [(.int (((q3.toUInt64 >>> ((24 : Int32) &&& 0x3f).toInt64.toUInt64).toInt64).toInt32)), (.int (12 : Int32)), (.ref a1)])) _
    refine XS.i2b X_23.here hx rfl (hb hby d1_51) rfl ?_
    show Steps p.tables e below (T_23.setTop (mkF m 52 #[.val (.ref a1), .val (.int (8 : Int32)), .val (.long q3), .second] [(.int ((((q3.toUInt64 >>> ((24 : Int32) &&& 0x3f).toInt64.toUInt64).toInt64).toInt32).toInt8.toInt32)), (.int (12 : Int32)), (.ref a1)])) _
    refine st_25 _ ?_
    show Steps p.tables e below (T_25.setTop (mkF m 53 #[.val (.ref a1), .val (.int (8 : Int32)), .val (.long q3), .second] [])) _
    refine XS.aloadN X_25.here hx rfl (hb hby d1_53) rfl rfl ?_
    show Steps p.tables e below (T_25.setTop (mkF m 54 #[.val (.ref a1), .val (.int (8 : Int32)), .val (.long q3), .second] [(.ref a1)])) _
    refine XS.iloadN X_25.here hx rfl (hb hby d1_54) rfl ?_
    show Steps p.tables e below (T_25.setTop (mkF m 55 #[.val (.ref a1), .val (.int (8 : Int32)), .val (.long q3), .second] [(.int (8 : Int32)), (.ref a1)])) _
    refine XS.iconst X_25.here hx rfl (hb hby d1_55) ?_
    show Steps p.tables e below (T_25.setTop (mkF m 56 #[.val (.ref a1), .val (.int (8 : Int32)), .val (.long q3), .second] [(.int (5 : Int32)), (.int (8 : Int32)), (.ref a1)])) _
    refine XS.iadd X_25.here hx rfl (hb hby d1_56) rfl ?_
    show Steps p.tables e below (T_25.setTop (mkF m 57 #[.val (.ref a1), .val (.int (8 : Int32)), .val (.long q3), .second] [(.int (13 : Int32)), (.ref a1)])) _
    refine XS.lloadN X_25.here hx rfl (hb hby d1_57) rfl ?_
    show Steps p.tables e below (T_25.setTop (mkF m 58 #[.val (.ref a1), .val (.int (8 : Int32)), .val (.long q3), .second] [(.long q3), (.int (13 : Int32)), (.ref a1)])) _
    refine XS.bipush X_25.here hx rfl (hb hby d1_58) ?_
    show Steps p.tables e below (T_25.setTop (mkF m 60 #[.val (.ref a1), .val (.int (8 : Int32)), .val (.long q3), .second] [(.int (16 : Int32)), (.long q3), (.int (13 : Int32)), (.ref a1)])) _
    refine XS.lushr X_25.here hx rfl (hb hby d1_60) rfl ?_
    show Steps p.tables e below (T_25.setTop (mkF m 61 #[.val (.ref a1), .val (.int (8 : Int32)), .val (.long q3), .second] [(.long ((q3.toUInt64 >>> ((16 : Int32) &&& 0x3f).toInt64.toUInt64).toInt64)), (.int (13 : Int32)), (.ref a1)])) _
    refine XS.l2i X_25.here hx rfl (hb hby d1_61) rfl ?_
    show Steps p.tables e below (T_25.setTop (mkF m 62 #[.val (.ref a1), .val (.int (8 : Int32)), .val (.long q3), .second] [(.int (((q3.toUInt64 >>> ((16 : Int32) &&& 0x3f).toInt64.toUInt64).toInt64).toInt32)), (.int (13 : Int32)), (.ref a1)])) _
    refine XS.i2b X_25.here hx rfl (hb hby d1_62) rfl ?_
    show Steps p.tables e below (T_25.setTop (mkF m 63 #[.val (.ref a1), .val (.int (8 : Int32)), .val (.long q3), .second] [(.int ((((q3.toUInt64 >>> ((16 : Int32) &&& 0x3f).toInt64.toUInt64).toInt64).toInt32).toInt8.toInt32)), (.int (13 : Int32)), (.ref a1)])) _
    refine st_27 _ ?_
    show Steps p.tables e below (T_27.setTop (mkF m 64 #[.val (.ref a1), .val (.int (8 : Int32)), .val (.long q3), .second] [])) _
    refine XS.aloadN X_27.here hx rfl (hb hby d1_64) rfl rfl ?_
    show Steps p.tables e below (T_27.setTop (mkF m 65 #[.val (.ref a1), .val (.int (8 : Int32)), .val (.long q3), .second] [(.ref a1)])) _
    refine XS.iloadN X_27.here hx rfl (hb hby d1_65) rfl ?_
    show Steps p.tables e below (T_27.setTop (mkF m 66 #[.val (.ref a1), .val (.int (8 : Int32)), .val (.long q3), .second] [(.int (8 : Int32)), (.ref a1)])) _
    refine XS.bipush X_27.here hx rfl (hb hby d1_66) ?_
    show Steps p.tables e below (T_27.setTop (mkF m 68 #[.val (.ref a1), .val (.int (8 : Int32)), .val (.long q3), .second] [(.int (6 : Int32)), (.int (8 : Int32)), (.ref a1)])) _
    refine XS.iadd X_27.here hx rfl (hb hby d1_68) rfl ?_
    show Steps p.tables e below (T_27.setTop (mkF m 69 #[.val (.ref a1), .val (.int (8 : Int32)), .val (.long q3), .second] [(.int (14 : Int32)), (.ref a1)])) _
    refine XS.lloadN X_27.here hx rfl (hb hby d1_69) rfl ?_
    show Steps p.tables e below (T_27.setTop (mkF m 70 #[.val (.ref a1), .val (.int (8 : Int32)), .val (.long q3), .second] [(.long q3), (.int (14 : Int32)), (.ref a1)])) _
    refine XS.bipush X_27.here hx rfl (hb hby d1_70) ?_
    show Steps p.tables e below (T_27.setTop (mkF m 72 #[.val (.ref a1), .val (.int (8 : Int32)), .val (.long q3), .second] [(.int (8 : Int32)), (.long q3), (.int (14 : Int32)), (.ref a1)])) _
    refine XS.lushr X_27.here hx rfl (hb hby d1_72) rfl ?_
    show Steps p.tables e below (T_27.setTop (mkF m 73 #[.val (.ref a1), .val (.int (8 : Int32)), .val (.long q3), .second] [(.long ((q3.toUInt64 >>> ((8 : Int32) &&& 0x3f).toInt64.toUInt64).toInt64)), (.int (14 : Int32)), (.ref a1)])) _
    refine XS.l2i X_27.here hx rfl (hb hby d1_73) rfl ?_
    show Steps p.tables e below (T_27.setTop (mkF m 74 #[.val (.ref a1), .val (.int (8 : Int32)), .val (.long q3), .second] [(.int (((q3.toUInt64 >>> ((8 : Int32) &&& 0x3f).toInt64.toUInt64).toInt64).toInt32)), (.int (14 : Int32)), (.ref a1)])) _
    refine XS.i2b X_27.here hx rfl (hb hby d1_74) rfl ?_
    show Steps p.tables e below (T_27.setTop (mkF m 75 #[.val (.ref a1), .val (.int (8 : Int32)), .val (.long q3), .second] [(.int ((((q3.toUInt64 >>> ((8 : Int32) &&& 0x3f).toInt64.toUInt64).toInt64).toInt32).toInt8.toInt32)), (.int (14 : Int32)), (.ref a1)])) _
    refine st_29 _ ?_
    show Steps p.tables e below (T_29.setTop (mkF m 76 #[.val (.ref a1), .val (.int (8 : Int32)), .val (.long q3), .second] [])) _
    refine XS.aloadN X_29.here hx rfl (hb hby d1_76) rfl rfl ?_
    show Steps p.tables e below (T_29.setTop (mkF m 77 #[.val (.ref a1), .val (.int (8 : Int32)), .val (.long q3), .second] [(.ref a1)])) _
    refine XS.iloadN X_29.here hx rfl (hb hby d1_77) rfl ?_
    show Steps p.tables e below (T_29.setTop (mkF m 78 #[.val (.ref a1), .val (.int (8 : Int32)), .val (.long q3), .second] [(.int (8 : Int32)), (.ref a1)])) _
    refine XS.bipush X_29.here hx rfl (hb hby d1_78) ?_
    show Steps p.tables e below (T_29.setTop (mkF m 80 #[.val (.ref a1), .val (.int (8 : Int32)), .val (.long q3), .second] [(.int (7 : Int32)), (.int (8 : Int32)), (.ref a1)])) _
    refine XS.iadd X_29.here hx rfl (hb hby d1_80) rfl ?_
    show Steps p.tables e below (T_29.setTop (mkF m 81 #[.val (.ref a1), .val (.int (8 : Int32)), .val (.long q3), .second] [(.int (15 : Int32)), (.ref a1)])) _
    refine XS.lloadN X_29.here hx rfl (hb hby d1_81) rfl ?_
    show Steps p.tables e below (T_29.setTop (mkF m 82 #[.val (.ref a1), .val (.int (8 : Int32)), .val (.long q3), .second] [(.long q3), (.int (15 : Int32)), (.ref a1)])) _
    refine XS.l2i X_29.here hx rfl (hb hby d1_82) rfl ?_
    show Steps p.tables e below (T_29.setTop (mkF m 83 #[.val (.ref a1), .val (.int (8 : Int32)), .val (.long q3), .second] [(.int (q3.toInt32)), (.int (15 : Int32)), (.ref a1)])) _
    refine XS.i2b X_29.here hx rfl (hb hby d1_83) rfl ?_
    show Steps p.tables e below (T_29.setTop (mkF m 84 #[.val (.ref a1), .val (.int (8 : Int32)), .val (.long q3), .second] [(.int ((q3.toInt32).toInt8.toInt32)), (.int (15 : Int32)), (.ref a1)])) _
    refine st_31 _ ?_
    show Steps p.tables e below (T_31.setTop (mkF m 85 #[.val (.ref a1), .val (.int (8 : Int32)), .val (.long q3), .second] [])) _
    exact X_31.returnOut hx Bd.returns (hb hby d1_85) hr
  · show Q1_8 Z a1 q3 k v0 v1 v2 v3 v4 v5 v6 v7 v8 v9 v10 v11 v12 v13 v14 v15 v16 h0 n0 _ T_31.heap _
    rw [e_31]
    exact ⟨rfl, N_31, K_31, V_31⟩
theorem d2_0 : decode prog_54_method_1_code 0 = .ok (.aload_n 0, 1) := by decide +kernel
theorem d2_1 : decode prog_54_method_1_code 1 = .ok (.invokespecial 1, 3) := by decide +kernel
theorem d2_4 : decode prog_54_method_1_code 4 = .ok (.aload_n 0, 1) := by decide +kernel
theorem d2_5 : decode prog_54_method_1_code 5 = .ok (.aload_n 1, 1) := by decide +kernel
theorem d2_6 : decode prog_54_method_1_code 6 = .ok (.putfield 7, 3) := by decide +kernel
theorem d2_9 : decode prog_54_method_1_code 9 = .ok (.aload_n 0, 1) := by decide +kernel
theorem d2_10 : decode prog_54_method_1_code 10 = .ok (.aload_n 2, 1) := by decide +kernel
theorem d2_11 : decode prog_54_method_1_code 11 = .ok (.putfield 13, 3) := by decide +kernel
theorem d2_14 : decode prog_54_method_1_code 14 = .ok (.return_, 1) := by decide +kernel
theorem pn_2 : plainName "com/example/tenure/tenure/store/ValueReader" = true := by first | (simp [plainName, overriddenIn]; done) | decide +kernel
theorem ef_2 (m : MethodId) (x0 : Addr) (x1 : Addr) : entryFrame m #[(.ref x0), (.ref x1), .null] 3 = mkF m 0 #[.val (.ref x0), .val (.ref x1), .val .null] [] := by first | (simp [entryFrame, mkF, argsToLocals, Value.category]; done) | rfl
def Q2 (Z : State) (a1 : Addr) (a2 : Addr) (h0 : Heap) (n0 : Nat) (v : Option Value) (h : Heap) (L : List Loc) : Prop := v = none ∧ Fr n0 L ∧ Keep h0 h [a1] ∧ Exa Z h a1 "com/example/tenure/tenure/store/ValueReader" ∧ Fld Z h a1 "com/example/tenure/tenure/store/ValueReader" "bytes" "[B" (.ref a2) ∧ Fld Z h a1 "com/example/tenure/tenure/store/ValueReader" "position" "I" (.int (0 : Int32))
set_option maxRecDepth 65536 in
set_option maxHeartbeats 40000000 in
theorem rm2 (l : Launch) (Z : State) (a0 : Array Value) (hw : ∀ d ∈ tables_1, d.before a0 Z = true) (ws : List Jvm.Cond) (a1 : Addr) (a2 : Addr) (h0 : Heap) (n0 : Nat) (Z0 : n0 ≤ h0.size) (E_a1 : Exa Z h0 a1 "com/example/tenure/tenure/store/ValueReader") (F_a1_bytes : Fld Z h0 a1 "com/example/tenure/tenure/store/ValueReader" "bytes" "[B" .null) (F_a1_dictionary : Fld Z h0 a1 "com/example/tenure/tenure/store/ValueReader" "dictionary" "Lcom/example/tenure/tenure/store/ClassDictionary;" .null) (F_a1_position : Fld Z h0 a1 "com/example/tenure/tenure/store/ValueReader" "position" "I" (.int (0 : Int32))) (g_a1 : n0 ≤ a1) :
    MetFree l (⟨"com/example/tenure/tenure/store/ValueReader", "<init>", "([BLcom/example/tenure/tenure/store/ClassDictionary;)V"⟩ : MethodName) (head1 (Jvm.Cond.code (⟨"com/example/tenure/tenure/store/ValueReader", "<init>", "([BLcom/example/tenure/tenure/store/ClassDictionary;)V"⟩ : MethodName) prog_54_method_1_code 3 none :: ws) ({ frames := 1, cells := 0, slots := 0, locals := 12 } : Room)) (fun a U => a = #[(.ref a1), (.ref a2), .null] ∧ Z.Warmed39 U.vm ∧ U.heap = h0) (fun _ _ _ _ _ => True) (fun _ U o U' => ∃ v L, o = .returned v ∧ Q2 Z a1 a2 h0 n0 v U'.heap L ∧ FrameEnd U o U' L ({ frames := 1, cells := 0, slots := 0, locals := 12 } : Room).cells ({ frames := 1, cells := 0, slots := 0, locals := 12 } : Room).slots) := by
  refine MetFree.of_bodySF (plainFor_of_name pn_2) hisR ?_
  intro p e s m args below meth c s₁ Bd hml0 hP hK
  obtain ⟨rfl, hZ, hh⟩ := hP
  have hx := Bd.exec
  have hby := Bd.bytes
  have hml : c.maxLocals = 3 := hml0
  have hown : s.vm.findClass "com/example/tenure/tenure/store/ValueReader" = some m.cls := findClass_of_methodNamed Bd.named
  have hnm := (name_of_methodNamed Bd.named Bd.method).1
  have X0 : Stand p l e ({ frames := 1, cells := 0, slots := 0, locals := 12 } : Room) s m #[(.ref a1), (.ref a2), .null] below meth c s₁ [] 0 0 := Stand.of_body Bd
  have e0 : s₁.heap = h0 := by rw [← hh, Bd.state]; rfl
  have N0 := Fr.nil n0
  have pre0 : ∀ t, Steps p.tables e below (s₁.setTop (mkF m 0 #[.val (.ref a1), .val (.ref a2), .val .null] [])) t → Steps p.tables e below (s₁.setTop (entryFrame m #[(.ref a1), (.ref a2), .null] 3)) t := fun t k => castTop (ef_2 m a1 a2) k
  obtain ⟨T_33, X_33, e_33, st_33⟩ := initO X0 hx hZ hown (hw _ (List.mem_of_getElem? (i := 11) rfl)) (hw _ (List.mem_of_getElem? (i := 12) rfl)) (hw _ (List.mem_of_getElem? (i := 13) rfl)) e0 (g := (mkF m 1 #[.val (.ref a1), .val (.ref a2), .val .null] [(.ref a1)])) rfl (by rw [hml]; rfl) rfl (hb hby d2_1) (by decide) (W := 0) (by show 2 * 0 + _ ≤ _; exact Nat.le_of_eq rfl) (by decide)
  obtain ⟨T_34, h_34, X_34, e_34, W_34, st_34⟩ := putF X_33 hx hZ hown (host := "") (Or.inl (hw _ (List.mem_of_getElem? (i := 14) rfl))) Via.refl e_33 F_a1_bytes E_a1 (Or.inr ⟨(hw _ (List.mem_of_getElem? (i := 15) rfl)), rfl, hnm⟩) (hw _ (List.mem_of_getElem? (i := 6) rfl)) (ty := (.array .byte)) (by decide) rfl rfl (g := (mkF m 6 #[.val (.ref a1), .val (.ref a2), .val .null] [(.ref a2), (.ref a1)])) rfl rfl (hb hby d2_6)
  have z_35 : n0 ≤ h_34.size := Nat.le_trans Z0 (Keep.of_wr W_34).1
  have fw_34 : Fld Z h_34 a1 "com/example/tenure/tenure/store/ValueReader" "bytes" "[B" (.ref a2) := F_a1_bytes.same W_34
  have N_34 := Fr.snoc X_34 N0 g_a1
  have K_34 : Keep h0 h_34 [a1] := (Keep.refl h0 [a1]).wr W_34 (Or.inl (List.mem_of_getElem? (i := 0) rfl))
  have f_36 : Exa Z h_34 a1 "com/example/tenure/tenure/store/ValueReader" := (E_a1.wr W_34)
  have f_37 : Fld Z h_34 a1 "com/example/tenure/tenure/store/ValueReader" "dictionary" "Lcom/example/tenure/tenure/store/ClassDictionary;" .null := (F_a1_dictionary.other W_34 (Or.inr (slot_ne (Or.inr (hw _ (List.mem_of_getElem? (i := 17) rfl))) (Or.inr (hw _ (List.mem_of_getElem? (i := 15) rfl))) (by decide) (t := (.object "com/example/tenure/tenure/store/ClassDictionary")) (t' := (.array .byte)) (by decide) (by decide))))
  obtain ⟨T_38, h_38, X_38, e_38, W_38, st_38⟩ := putF X_34 hx hZ hown (host := "") (Or.inl (hw _ (List.mem_of_getElem? (i := 16) rfl))) Via.refl e_34 f_37 f_36 (Or.inr ⟨(hw _ (List.mem_of_getElem? (i := 17) rfl)), rfl, hnm⟩) (hw _ (List.mem_of_getElem? (i := 6) rfl)) (ty := (.object "com/example/tenure/tenure/store/ClassDictionary")) (by decide) rfl rfl (g := (mkF m 11 #[.val (.ref a1), .val (.ref a2), .val .null] [.null, (.ref a1)])) rfl rfl (hb hby d2_11)
  have z_39 : n0 ≤ h_38.size := Nat.le_trans z_35 (Keep.of_wr W_38).1
  have fw_38 : Fld Z h_38 a1 "com/example/tenure/tenure/store/ValueReader" "dictionary" "Lcom/example/tenure/tenure/store/ClassDictionary;" .null := f_37.same W_38
  have N_38 := Fr.snoc X_38 N_34 g_a1
  have K_38 : Keep h0 h_38 [a1] := K_34.wr W_38 (Or.inl (List.mem_of_getElem? (i := 0) rfl))
  obtain ⟨fs, hr, hrun, hended, hW, hsame⟩ := X_38.leave (v := none) (fun _ => rfl)
  refine ⟨_, _, pre0 _ ?_, hrun, hended, _, _, rfl, ?_, ⟨_, rfl⟩, hW, hsame.mono (by decide) (by decide)⟩
  · show Steps p.tables e below (s₁.setTop (mkF m 0 #[.val (.ref a1), .val (.ref a2), .val .null] [])) _
    refine XS.aloadN X0.here hx rfl (hb hby d2_0) rfl rfl ?_
    show Steps p.tables e below (s₁.setTop (mkF m 1 #[.val (.ref a1), .val (.ref a2), .val .null] [(.ref a1)])) _
    refine st_33 _ ?_
    show Steps p.tables e below (T_33.setTop (mkF m 4 #[.val (.ref a1), .val (.ref a2), .val .null] [])) _
    refine XS.aloadN X_33.here hx rfl (hb hby d2_4) rfl rfl ?_
    show Steps p.tables e below (T_33.setTop (mkF m 5 #[.val (.ref a1), .val (.ref a2), .val .null] [(.ref a1)])) _
    refine XS.aloadN X_33.here hx rfl (hb hby d2_5) rfl rfl ?_
    show Steps p.tables e below (T_33.setTop (mkF m 6 #[.val (.ref a1), .val (.ref a2), .val .null] [(.ref a2), (.ref a1)])) _
    refine st_34 _ ?_
    show Steps p.tables e below (T_34.setTop (mkF m 9 #[.val (.ref a1), .val (.ref a2), .val .null] [])) _
    refine XS.aloadN X_34.here hx rfl (hb hby d2_9) rfl rfl ?_
    show Steps p.tables e below (T_34.setTop (mkF m 10 #[.val (.ref a1), .val (.ref a2), .val .null] [(.ref a1)])) _
    refine XS.aloadN X_34.here hx rfl (hb hby d2_10) rfl rfl ?_
    show Steps p.tables e below (T_34.setTop (mkF m 11 #[.val (.ref a1), .val (.ref a2), .val .null] [.null, (.ref a1)])) _
    refine st_38 _ ?_
    show Steps p.tables e below (T_38.setTop (mkF m 14 #[.val (.ref a1), .val (.ref a2), .val .null] [])) _
    exact X_38.returnOut hx Bd.returns (hb hby d2_14) hr
  have f_40 : Exa Z h_38 a1 "com/example/tenure/tenure/store/ValueReader" := (f_36.wr W_38)
  have f_41 : Fld Z h_38 a1 "com/example/tenure/tenure/store/ValueReader" "bytes" "[B" (.ref a2) := (fw_34.other W_38 (Or.inr (slot_ne (Or.inr (hw _ (List.mem_of_getElem? (i := 15) rfl))) (Or.inr (hw _ (List.mem_of_getElem? (i := 17) rfl))) (by decide) (t := (.array .byte)) (t' := (.object "com/example/tenure/tenure/store/ClassDictionary")) (by decide) (by decide))))
  have f_42 : Fld Z h_38 a1 "com/example/tenure/tenure/store/ValueReader" "position" "I" (.int (0 : Int32)) := ((F_a1_position.other W_34 (Or.inr (slot_ne (Or.inl (hw _ (List.mem_of_getElem? (i := 38) rfl))) (Or.inr (hw _ (List.mem_of_getElem? (i := 15) rfl))) (by decide) (t := .int) (t' := (.array .byte)) (by decide) (by decide)))).other W_38 (Or.inr (slot_ne (Or.inl (hw _ (List.mem_of_getElem? (i := 38) rfl))) (Or.inr (hw _ (List.mem_of_getElem? (i := 17) rfl))) (by decide) (t := .int) (t' := (.object "com/example/tenure/tenure/store/ClassDictionary")) (by decide) (by decide))))
  · show Q2 Z a1 a2 h0 n0 _ T_38.heap _
    rw [e_38]
    exact ⟨rfl, N_38, K_38, f_40, f_41, f_42⟩
theorem d7_0 : decode prog_54_method_2_code 0 = .ok (.aload_n 0, 1) := by decide +kernel
theorem d7_1 : decode prog_54_method_2_code 1 = .ok (.getfield 7, 3) := by decide +kernel
theorem d7_4 : decode prog_54_method_2_code 4 = .ok (.arraylength, 1) := by decide +kernel
theorem d7_5 : decode prog_54_method_2_code 5 = .ok (.aload_n 0, 1) := by decide +kernel
theorem d7_6 : decode prog_54_method_2_code 6 = .ok (.getfield 17, 3) := by decide +kernel
theorem d7_9 : decode prog_54_method_2_code 9 = .ok (.isub, 1) := by decide +kernel
theorem d7_10 : decode prog_54_method_2_code 10 = .ok (.ireturn, 1) := by decide +kernel
theorem ef_7 (m : MethodId) (x0 : Addr) : entryFrame m #[(.ref x0)] 1 = mkF m 0 #[.val (.ref x0)] [] := by first | (simp [entryFrame, mkF, argsToLocals, Value.category]; done) | rfl
def Q7 (Z : State) (a1 : Addr) (a2 : Addr) (w : Int32) (k : ClassId) (n : Int32) (vs : List Value) (h0 : Heap) (n0 : Nat) (v : Option Value) (h : Heap) (L : List Loc) : Prop := v = some (.int (n - w)) ∧ Fr n0 L ∧ h = h0
set_option maxRecDepth 65536 in
set_option maxHeartbeats 40000000 in
theorem rm7 (l : Launch) (Z : State) (a0 : Array Value) (hw : ∀ d ∈ tables_1, d.before a0 Z = true) (ws : List Jvm.Cond) (a1 : Addr) (a2 : Addr) (w : Int32) (k : ClassId) (n : Int32) (vs : List Value) (h0 : Heap) (n0 : Nat) (Z0 : n0 ≤ h0.size) (E_a1 : Exa Z h0 a1 "com/example/tenure/tenure/store/ValueReader") (F_a1_bytes : Fld Z h0 a1 "com/example/tenure/tenure/store/ValueReader" "bytes" "[B" (.ref a2)) (F_a1_position : Fld Z h0 a1 "com/example/tenure/tenure/store/ValueReader" "position" "I" (.int w)) (V_a2 : Arv Z h0 a2 k .byte n vs (.int (0 : Int32))) :
    MetFree l (⟨"com/example/tenure/tenure/store/ValueReader", "available", "()I"⟩ : MethodName) (head1 (Jvm.Cond.code (⟨"com/example/tenure/tenure/store/ValueReader", "available", "()I"⟩ : MethodName) prog_54_method_2_code 1 (some .int) :: ws) ({ frames := 0, cells := 0, slots := 0, locals := 0 } : Room)) (fun a U => a = #[(.ref a1)] ∧ Z.Warmed39 U.vm ∧ U.heap = h0) (fun _ _ _ _ _ => True) (fun _ U o U' => ∃ v L, o = .returned v ∧ Q7 Z a1 a2 w k n vs h0 n0 v U'.heap L ∧ FrameEnd U o U' L ({ frames := 0, cells := 0, slots := 0, locals := 0 } : Room).cells ({ frames := 0, cells := 0, slots := 0, locals := 0 } : Room).slots) := by
  refine MetFree.of_bodySF (plainFor_of_name pn_2) hisR ?_
  intro p e s m args below meth c s₁ Bd hml0 hP hK
  obtain ⟨rfl, hZ, hh⟩ := hP
  have hx := Bd.exec
  have hby := Bd.bytes
  have hml : c.maxLocals = 1 := hml0
  have hown : s.vm.findClass "com/example/tenure/tenure/store/ValueReader" = some m.cls := findClass_of_methodNamed Bd.named
  have hnm := (name_of_methodNamed Bd.named Bd.method).1
  have X0 : Stand p l e ({ frames := 0, cells := 0, slots := 0, locals := 0 } : Room) s m #[(.ref a1)] below meth c s₁ [] 0 0 := Stand.of_body Bd
  have e0 : s₁.heap = h0 := by rw [← hh, Bd.state]; rfl
  have N0 := Fr.nil n0
  have pre0 : ∀ t, Steps p.tables e below (s₁.setTop (mkF m 0 #[.val (.ref a1)] [])) t → Steps p.tables e below (s₁.setTop (entryFrame m #[(.ref a1)] 1)) t := fun t k => castTop (ef_7 m a1) k
  obtain ⟨T_43, X_43, e_43, st_43⟩ := getF X0 hx hZ hown (host := "") (Or.inl (hw _ (List.mem_of_getElem? (i := 14) rfl))) Via.refl e0 F_a1_bytes (g := (mkF m 1 #[.val (.ref a1)] [(.ref a1)])) rfl rfl (hb hby d7_1)
  obtain ⟨cl_44, Ar_44, -, S_44, M_44, -, -⟩ := id V_a2
  obtain ⟨T_45, X_45, e_45, st_45⟩ := getF X_43 hx hZ hown (host := "") (Or.inl (hw _ (List.mem_of_getElem? (i := 37) rfl))) Via.refl e_43 F_a1_position (g := (mkF m 6 #[.val (.ref a1)] [(.ref a1), (.int n)])) rfl rfl (hb hby d7_6)
  obtain ⟨fs, hr, hrun, hended, hW, hsame⟩ := X_45.leave (v := some (.int (n - w))) (fun h => by rw [Bd.returns] at h; cases h)
  refine ⟨_, _, pre0 _ ?_, hrun, hended, _, _, rfl, ?_, ⟨_, rfl⟩, hW, hsame.mono (by decide) (by decide)⟩
  · show Steps p.tables e below (s₁.setTop (mkF m 0 #[.val (.ref a1)] [])) _
    refine XS.aloadN X0.here hx rfl (hb hby d7_0) rfl rfl ?_
    show Steps p.tables e below (s₁.setTop (mkF m 1 #[.val (.ref a1)] [(.ref a1)])) _
    refine st_43 _ ?_
    show Steps p.tables e below (T_43.setTop (mkF m 4 #[.val (.ref a1)] [(.ref a2)])) _
    refine X_43.arraylength hx (by rw [e_43]; exact Ar_44.1) (State.isArrayOf_alike hZ.alike Ar_44.2.1) (g := (mkF m 4 #[.val (.ref a1)] [(.ref a2)])) rfl rfl (hb hby d7_4) _ ?_
    rw [len_of S_44 M_44]
    show Steps p.tables e below (T_43.setTop (mkF m 5 #[.val (.ref a1)] [(.int n)])) _
    refine XS.aloadN X_43.here hx rfl (hb hby d7_5) rfl rfl ?_
    show Steps p.tables e below (T_43.setTop (mkF m 6 #[.val (.ref a1)] [(.ref a1), (.int n)])) _
    refine st_45 _ ?_
    show Steps p.tables e below (T_45.setTop (mkF m 9 #[.val (.ref a1)] [(.int w), (.int n)])) _
    refine XS.isub X_45.here hx rfl (hb hby d7_9) rfl ?_
    show Steps p.tables e below (T_45.setTop (mkF m 10 #[.val (.ref a1)] [(.int (n - w))])) _
    exact retI X_45 hx Bd.returns (hb hby d7_10) hr
  · show Q7 Z a1 a2 w k n vs h0 n0 _ T_45.heap _
    rw [e_45]
    exact ⟨rfl, N0, rfl⟩
theorem d6_0 : decode prog_54_method_17_code 0 = .ok (.iload_n 1, 1) := by decide +kernel
theorem d6_1 : decode prog_54_method_17_code 1 = .ok (.aload_n 0, 1) := by decide +kernel
theorem d6_2 : decode prog_54_method_17_code 2 = .ok (.invokevirtual 87, 3) := by decide +kernel
theorem d6_5 : decode prog_54_method_17_code 5 = .ok (.if_icmp .le 21, 3) := by decide +kernel
theorem d6_8 : decode prog_54_method_17_code 8 = .ok (.new 98, 3) := by decide +kernel
theorem d6_11 : decode prog_54_method_17_code 11 = .ok (.dup, 1) := by decide +kernel
theorem d6_12 : decode prog_54_method_17_code 12 = .ok (.iload_n 1, 1) := by decide +kernel
theorem d6_13 : decode prog_54_method_17_code 13 = .ok (.aload_n 0, 1) := by decide +kernel
theorem d6_14 : decode prog_54_method_17_code 14 = .ok (.invokevirtual 87, 3) := by decide +kernel
theorem d6_22 : decode prog_54_method_17_code 22 = .ok (.invokespecial 103, 3) := by decide +kernel
theorem d6_25 : decode prog_54_method_17_code 25 = .ok (.athrow, 1) := by decide +kernel
theorem d6_26 : decode prog_54_method_17_code 26 = .ok (.return_, 1) := by decide +kernel
theorem ef_6 (m : MethodId) (x0 : Addr) (x1 : Int32) : entryFrame m #[(.ref x0), (.int x1)] 2 = mkF m 0 #[.val (.ref x0), .val (.int x1)] [] := by first | (simp [entryFrame, mkF, argsToLocals, Value.category]; done) | rfl
def Q6 (Z : State) (a1 : Addr) (p2 : Int32) (a2 : Addr) (w : Int32) (k : ClassId) (n : Int32) (vs : List Value) (h0 : Heap) (n0 : Nat) (v : Option Value) (h : Heap) (L : List Loc) : Prop := v = none ∧ Fr n0 L ∧ h = h0
theorem pd_4 : parseMethodDescriptor "()I" = some ⟨[], some .int⟩ := by decide +kernel
set_option maxRecDepth 65536 in
set_option maxHeartbeats 40000000 in
theorem rm6 (l : Launch) (Z : State) (a0 : Array Value) (hw : ∀ d ∈ tables_1, d.before a0 Z = true) (ws : List Jvm.Cond) (a1 : Addr) (p2 : Int32) (a2 : Addr) (w : Int32) (k : ClassId) (n : Int32) (vs : List Value) (h0 : Heap) (n0 : Nat) (Z0 : n0 ≤ h0.size) (E_a1 : Exa Z h0 a1 "com/example/tenure/tenure/store/ValueReader") (F_a1_bytes : Fld Z h0 a1 "com/example/tenure/tenure/store/ValueReader" "bytes" "[B" (.ref a2)) (F_a1_position : Fld Z h0 a1 "com/example/tenure/tenure/store/ValueReader" "position" "I" (.int w)) (V_a2 : Arv Z h0 a2 k .byte n vs (.int (0 : Int32))) (hreq : ¬ (n - w) < p2) :
    MetFree l (⟨"com/example/tenure/tenure/store/ValueReader", "require", "(I)V"⟩ : MethodName) (head1 (Jvm.Cond.code (⟨"com/example/tenure/tenure/store/ValueReader", "require", "(I)V"⟩ : MethodName) prog_54_method_17_code 2 none :: ws) ({ frames := 1, cells := 0, slots := 0, locals := 13 } : Room)) (fun a U => a = #[(.ref a1), (.int p2)] ∧ Z.Warmed39 U.vm ∧ U.heap = h0) (fun _ _ _ _ _ => True) (fun _ U o U' => ∃ v L, o = .returned v ∧ Q6 Z a1 p2 a2 w k n vs h0 n0 v U'.heap L ∧ FrameEnd U o U' L ({ frames := 1, cells := 0, slots := 0, locals := 13 } : Room).cells ({ frames := 1, cells := 0, slots := 0, locals := 13 } : Room).slots) := by
  refine MetFree.of_bodySF (plainFor_of_name pn_2) hisR ?_
  intro p e s m args below meth c s₁ Bd hml0 hP hK
  obtain ⟨rfl, hZ, hh⟩ := hP
  have hx := Bd.exec
  have hby := Bd.bytes
  have hml : c.maxLocals = 2 := hml0
  have hown : s.vm.findClass "com/example/tenure/tenure/store/ValueReader" = some m.cls := findClass_of_methodNamed Bd.named
  have hnm := (name_of_methodNamed Bd.named Bd.method).1
  have X0 : Stand p l e ({ frames := 1, cells := 0, slots := 0, locals := 13 } : Room) s m #[(.ref a1), (.int p2)] below meth c s₁ [] 0 0 := Stand.of_body Bd
  have e0 : s₁.heap = h0 := by rw [← hh, Bd.state]; rfl
  have N0 := Fr.nil n0
  have pre0 : ∀ t, Steps p.tables e below (s₁.setTop (mkF m 0 #[.val (.ref a1), .val (.int p2)] [])) t → Steps p.tables e below (s₁.setTop (entryFrame m #[(.ref a1), (.int p2)] 2)) t := fun t k => castTop (ef_6 m a1 p2) k
  obtain ⟨cq_46, kq_46, qa_46, qb_46, qc_46⟩ := isOf hZ e0 E_a1
  obtain ⟨_, _, ⟨T_46, L_46, k_46, n_46⟩, -, X_46, ⟨Lc_46, hQ_46, l_46, y_46, z_46⟩, st_46⟩ := X0.virtualBack hx (y := (⟨"com/example/tenure/tenure/store/ValueReader", "available", "()I"⟩ : MethodName)) (z := (⟨"com/example/tenure/tenure/store/ValueReader", "available", "()I"⟩ : MethodName)) hown (mvT hZ (hw _ (List.mem_of_getElem? (i := 32) rfl))) (mvT hZ (hw _ (List.mem_of_getElem? (i := 33) rfl))) (notFace_of_selects (args := #[]) (mvT hZ (hw _ (List.mem_of_getElem? (i := 35) rfl)))) (mvT hZ (hw _ (List.mem_of_getElem? (i := 35) rfl))) (mvT hZ (hw _ (List.mem_of_getElem? (i := 34) rfl))) (by decide) (backOf (W := 1) (rm7 l Z a0 hw [] a1 a2 w k n (vs : List Value) h0 n0 Z0 E_a1 F_a1_bytes F_a1_position V_a2) hZ (hw _ (List.mem_of_getElem? (i := 36) rfl)) (hw _ (List.mem_of_getElem? (i := 7) rfl)) (by decide) (by decide)) qa_46 qc_46 (g := (mkF m 2 #[.val (.ref a1), .val (.int p2)] [(.ref a1), (.int p2)])) rfl (by rw [hml]; rfl) (Steps.refl _) (argsL := []) (rest := [(.int p2)]) (lenOf pd_4 rfl) rfl (by show 2 * 0 + _ ≤ _; exact Nat.le_of_eq rfl) (hb hby d6_2) (fun _ _ => ⟨rfl, e0, (by decide : 0 + 0 ≤ _), (by decide : 0 + 0 ≤ _)⟩)
  dsimp only [Pt.U, Pt.locs, Pt.cells, Pt.slots] at X_46 l_46 y_46 z_46 st_46 hQ_46
  replace X_46 := castS l_46 y_46 z_46 X_46
  obtain ⟨rfl, Nq_46, e_46⟩ := hQ_46
  have N_46 := Fr.app N0 Nq_46
  obtain ⟨fs, hr, hrun, hended, hW, hsame⟩ := X_46.leave (v := none) (fun _ => rfl)
  refine ⟨_, _, pre0 _ ?_, hrun, hended, _, _, rfl, ?_, ⟨_, rfl⟩, hW, hsame.mono (by decide) (by decide)⟩
  · show Steps p.tables e below (s₁.setTop (mkF m 0 #[.val (.ref a1), .val (.int p2)] [])) _
    refine XS.iloadN X0.here hx rfl (hb hby d6_0) rfl ?_
    show Steps p.tables e below (s₁.setTop (mkF m 1 #[.val (.ref a1), .val (.int p2)] [(.int p2)])) _
    refine XS.aloadN X0.here hx rfl (hb hby d6_1) rfl rfl ?_
    show Steps p.tables e below (s₁.setTop (mkF m 2 #[.val (.ref a1), .val (.int p2)] [(.ref a1), (.int p2)])) _
    refine st_46.trans ?_
    show Steps p.tables e below (T_46.setTop (mkF m 5 #[.val (.ref a1), .val (.int p2)] [(.int (n - w)), (.int p2)])) _
    refine XS.icmpYes X_46.here hx rfl (pc0 := 5) (pc' := 26) rfl (hb hby d6_5) rfl (flt (hreq : ¬ ((n - w) < p2))).2.2.2 (by decide) (by decide) ?_
    show Steps p.tables e below (T_46.setTop (mkF m 26 #[.val (.ref a1), .val (.int p2)] [])) _
    exact X_46.returnOut hx Bd.returns (hb hby d6_26) hr
  · show Q6 Z a1 p2 a2 w k n vs h0 n0 _ T_46.heap _
    rw [e_46]
    exact ⟨rfl, N_46, rfl⟩
theorem d5_0 : decode prog_54_method_13_code 0 = .ok (.aload_n 0, 1) := by decide +kernel
theorem d5_1 : decode prog_54_method_13_code 1 = .ok (.iconst 4, 1) := by decide +kernel
theorem d5_2 : decode prog_54_method_13_code 2 = .ok (.invokevirtual 67, 3) := by decide +kernel
theorem d5_5 : decode prog_54_method_13_code 5 = .ok (.aload_n 0, 1) := by decide +kernel
theorem d5_6 : decode prog_54_method_13_code 6 = .ok (.getfield 7, 3) := by decide +kernel
theorem d5_9 : decode prog_54_method_13_code 9 = .ok (.aload_n 0, 1) := by decide +kernel
theorem d5_10 : decode prog_54_method_13_code 10 = .ok (.getfield 17, 3) := by decide +kernel
theorem d5_13 : decode prog_54_method_13_code 13 = .ok (.baload, 1) := by decide +kernel
theorem d5_14 : decode prog_54_method_13_code 14 = .ok (.sipush 255, 3) := by decide +kernel
theorem d5_17 : decode prog_54_method_13_code 17 = .ok (.iand, 1) := by decide +kernel
theorem d5_18 : decode prog_54_method_13_code 18 = .ok (.bipush 24, 2) := by decide +kernel
theorem d5_20 : decode prog_54_method_13_code 20 = .ok (.ishl, 1) := by decide +kernel
theorem d5_21 : decode prog_54_method_13_code 21 = .ok (.aload_n 0, 1) := by decide +kernel
theorem d5_22 : decode prog_54_method_13_code 22 = .ok (.getfield 7, 3) := by decide +kernel
theorem d5_25 : decode prog_54_method_13_code 25 = .ok (.aload_n 0, 1) := by decide +kernel
theorem d5_26 : decode prog_54_method_13_code 26 = .ok (.getfield 17, 3) := by decide +kernel
theorem d5_29 : decode prog_54_method_13_code 29 = .ok (.iconst 1, 1) := by decide +kernel
theorem d5_30 : decode prog_54_method_13_code 30 = .ok (.iadd, 1) := by decide +kernel
theorem d5_31 : decode prog_54_method_13_code 31 = .ok (.baload, 1) := by decide +kernel
theorem d5_32 : decode prog_54_method_13_code 32 = .ok (.sipush 255, 3) := by decide +kernel
theorem d5_35 : decode prog_54_method_13_code 35 = .ok (.iand, 1) := by decide +kernel
theorem d5_36 : decode prog_54_method_13_code 36 = .ok (.bipush 16, 2) := by decide +kernel
theorem d5_38 : decode prog_54_method_13_code 38 = .ok (.ishl, 1) := by decide +kernel
theorem d5_39 : decode prog_54_method_13_code 39 = .ok (.ior, 1) := by decide +kernel
theorem d5_40 : decode prog_54_method_13_code 40 = .ok (.aload_n 0, 1) := by decide +kernel
theorem d5_41 : decode prog_54_method_13_code 41 = .ok (.getfield 7, 3) := by decide +kernel
theorem d5_44 : decode prog_54_method_13_code 44 = .ok (.aload_n 0, 1) := by decide +kernel
theorem d5_45 : decode prog_54_method_13_code 45 = .ok (.getfield 17, 3) := by decide +kernel
theorem d5_48 : decode prog_54_method_13_code 48 = .ok (.iconst 2, 1) := by decide +kernel
theorem d5_49 : decode prog_54_method_13_code 49 = .ok (.iadd, 1) := by decide +kernel
theorem d5_50 : decode prog_54_method_13_code 50 = .ok (.baload, 1) := by decide +kernel
theorem d5_51 : decode prog_54_method_13_code 51 = .ok (.sipush 255, 3) := by decide +kernel
theorem d5_54 : decode prog_54_method_13_code 54 = .ok (.iand, 1) := by decide +kernel
theorem d5_55 : decode prog_54_method_13_code 55 = .ok (.bipush 8, 2) := by decide +kernel
theorem d5_57 : decode prog_54_method_13_code 57 = .ok (.ishl, 1) := by decide +kernel
theorem d5_58 : decode prog_54_method_13_code 58 = .ok (.ior, 1) := by decide +kernel
theorem d5_59 : decode prog_54_method_13_code 59 = .ok (.aload_n 0, 1) := by decide +kernel
theorem d5_60 : decode prog_54_method_13_code 60 = .ok (.getfield 7, 3) := by decide +kernel
theorem d5_63 : decode prog_54_method_13_code 63 = .ok (.aload_n 0, 1) := by decide +kernel
theorem d5_64 : decode prog_54_method_13_code 64 = .ok (.getfield 17, 3) := by decide +kernel
theorem d5_67 : decode prog_54_method_13_code 67 = .ok (.iconst 3, 1) := by decide +kernel
theorem d5_68 : decode prog_54_method_13_code 68 = .ok (.iadd, 1) := by decide +kernel
theorem d5_69 : decode prog_54_method_13_code 69 = .ok (.baload, 1) := by decide +kernel
theorem d5_70 : decode prog_54_method_13_code 70 = .ok (.sipush 255, 3) := by decide +kernel
theorem d5_73 : decode prog_54_method_13_code 73 = .ok (.iand, 1) := by decide +kernel
theorem d5_74 : decode prog_54_method_13_code 74 = .ok (.ior, 1) := by decide +kernel
theorem d5_75 : decode prog_54_method_13_code 75 = .ok (.istore_n 1, 1) := by decide +kernel
theorem d5_76 : decode prog_54_method_13_code 76 = .ok (.aload_n 0, 1) := by decide +kernel
theorem d5_77 : decode prog_54_method_13_code 77 = .ok (.dup, 1) := by decide +kernel
theorem d5_78 : decode prog_54_method_13_code 78 = .ok (.getfield 17, 3) := by decide +kernel
theorem d5_81 : decode prog_54_method_13_code 81 = .ok (.iconst 4, 1) := by decide +kernel
theorem d5_82 : decode prog_54_method_13_code 82 = .ok (.iadd, 1) := by decide +kernel
theorem d5_83 : decode prog_54_method_13_code 83 = .ok (.putfield 17, 3) := by decide +kernel
theorem d5_86 : decode prog_54_method_13_code 86 = .ok (.iload_n 1, 1) := by decide +kernel
theorem d5_87 : decode prog_54_method_13_code 87 = .ok (.ireturn, 1) := by decide +kernel
theorem ef_5 (m : MethodId) (x0 : Addr) : entryFrame m #[(.ref x0)] 2 = mkF m 0 #[.val (.ref x0), .unset] [] := by first | (simp [entryFrame, mkF, argsToLocals, Value.category]; done) | rfl
def Q5 (Z : State) (a1 : Addr) (a2 : Addr) (w : Int32) (k : ClassId) (n : Int32) (vs : List Value) (b0 : Int32) (b1 : Int32) (b2 : Int32) (b3 : Int32) (h0 : Heap) (n0 : Nat) (v : Option Value) (h : Heap) (L : List Loc) : Prop := v = some (.int (own_int b0 b1 b2 b3)) ∧ Fr n0 L ∧ Keep h0 h [a1] ∧ Exa Z h a1 "com/example/tenure/tenure/store/ValueReader" ∧ Fld Z h a1 "com/example/tenure/tenure/store/ValueReader" "bytes" "[B" (.ref a2) ∧ Fld Z h a1 "com/example/tenure/tenure/store/ValueReader" "position" "I" (.int (w + (4 : Int32)))
theorem pd_5 : parseMethodDescriptor "(I)V" = some ⟨[.int], none⟩ := by decide +kernel
set_option maxRecDepth 65536 in
set_option maxHeartbeats 40000000 in
theorem rm5 (l : Launch) (Z : State) (a0 : Array Value) (hw : ∀ d ∈ tables_1, d.before a0 Z = true) (ws : List Jvm.Cond) (a1 : Addr) (a2 : Addr) (w : Int32) (k : ClassId) (n : Int32) (vs : List Value) (b0 : Int32) (b1 : Int32) (b2 : Int32) (b3 : Int32) (h0 : Heap) (n0 : Nat) (Z0 : n0 ≤ h0.size) (E_a1 : Exa Z h0 a1 "com/example/tenure/tenure/store/ValueReader") (F_a1_bytes : Fld Z h0 a1 "com/example/tenure/tenure/store/ValueReader" "bytes" "[B" (.ref a2)) (F_a1_position : Fld Z h0 a1 "com/example/tenure/tenure/store/ValueReader" "position" "I" (.int w)) (V_a2 : Arv Z h0 a2 k .byte n vs (.int (0 : Int32))) (g_a1 : n0 ≤ a1) (hr : ¬ (n - w) < (4 : Int32)) (hj0 : ¬ w < 0 ∧ w < n) (hj1 : ¬ (w + (1 : Int32)) < 0 ∧ (w + (1 : Int32)) < n) (hj2 : ¬ (w + (2 : Int32)) < 0 ∧ (w + (2 : Int32)) < n) (hj3 : ¬ (w + (3 : Int32)) < 0 ∧ (w + (3 : Int32)) < n) (hb0 : vs.getD w.toNatClampNeg (.int (0 : Int32)) = .int b0) (hb1 : vs.getD (w + (1 : Int32)).toNatClampNeg (.int (0 : Int32)) = .int b1) (hb2 : vs.getD (w + (2 : Int32)).toNatClampNeg (.int (0 : Int32)) = .int b2) (hb3 : vs.getD (w + (3 : Int32)).toNatClampNeg (.int (0 : Int32)) = .int b3) :
    MetFree l (⟨"com/example/tenure/tenure/store/ValueReader", "readInt", "()I"⟩ : MethodName) (head1 (Jvm.Cond.code (⟨"com/example/tenure/tenure/store/ValueReader", "readInt", "()I"⟩ : MethodName) prog_54_method_13_code 2 (some .int) :: ws) ({ frames := 2, cells := 0, slots := 0, locals := 26 } : Room)) (fun a U => a = #[(.ref a1)] ∧ Z.Warmed39 U.vm ∧ U.heap = h0) (fun _ _ _ _ _ => True) (fun _ U o U' => ∃ v L, o = .returned v ∧ Q5 Z a1 a2 w k n vs b0 b1 b2 b3 h0 n0 v U'.heap L ∧ FrameEnd U o U' L ({ frames := 2, cells := 0, slots := 0, locals := 26 } : Room).cells ({ frames := 2, cells := 0, slots := 0, locals := 26 } : Room).slots) := by
  refine MetFree.of_bodySF (plainFor_of_name pn_2) hisR ?_
  intro p e s m args below meth c s₁ Bd hml0 hP hK
  obtain ⟨rfl, hZ, hh⟩ := hP
  have hx := Bd.exec
  have hby := Bd.bytes
  have hml : c.maxLocals = 2 := hml0
  have hown : s.vm.findClass "com/example/tenure/tenure/store/ValueReader" = some m.cls := findClass_of_methodNamed Bd.named
  have hnm := (name_of_methodNamed Bd.named Bd.method).1
  have X0 : Stand p l e ({ frames := 2, cells := 0, slots := 0, locals := 26 } : Room) s m #[(.ref a1)] below meth c s₁ [] 0 0 := Stand.of_body Bd
  have e0 : s₁.heap = h0 := by rw [← hh, Bd.state]; rfl
  have N0 := Fr.nil n0
  have pre0 : ∀ t, Steps p.tables e below (s₁.setTop (mkF m 0 #[.val (.ref a1), .unset] [])) t → Steps p.tables e below (s₁.setTop (entryFrame m #[(.ref a1)] 2)) t := fun t k => castTop (ef_5 m a1) k
  obtain ⟨cq_47, qq_47, qr_47⟩ := E_a1.cell
  obtain ⟨_, _, ⟨T_47, L_47, k_47, n_47⟩, -, X_47, ⟨Lc_47, hQ_47, l_47, y_47, z_47⟩, st_47⟩ := X0.privateBack hx (y := (⟨"com/example/tenure/tenure/store/ValueReader", "require", "(I)V"⟩ : MethodName)) hown (mvT hZ (hw _ (List.mem_of_getElem? (i := 28) rfl))) (mvT hZ (hw _ (List.mem_of_getElem? (i := 29) rfl))) (own_sel (mvT hZ (hw _ (List.mem_of_getElem? (i := 29) rfl))) (mvP hZ (hw _ (List.mem_of_getElem? (i := 30) rfl))) (mvT hZ (hw _ (List.mem_of_getElem? (i := 6) rfl))) (by decide)) (Cond.privateMethod_at (mvP hZ (hw _ (List.mem_of_getElem? (i := 30) rfl)) (args := #[]))) (mvT hZ (hw _ (List.mem_of_getElem? (i := 31) rfl))) (by decide) (backOf (W := 0) (rm6 l Z a0 hw [] a1 (4 : Int32) a2 w k n (vs : List Value) h0 n0 Z0 E_a1 F_a1_bytes F_a1_position V_a2 hr) hZ (hw _ (List.mem_of_getElem? (i := 31) rfl)) (hw _ (List.mem_of_getElem? (i := 7) rfl)) (by decide) (by decide)) (g := (mkF m 2 #[.val (.ref a1), .unset] [(.int (4 : Int32)), (.ref a1)])) rfl (by rw [hml]; rfl) (Steps.refl _) (a := a1) (by rw [e0]; exact qq_47) qr_47 (argsL := [(.int (4 : Int32))]) (rest := []) (lenOf pd_5 rfl) rfl (by show 2 * 0 + _ ≤ _; exact Nat.le_of_eq rfl) (hb hby d5_2) (fun _ _ => ⟨rfl, e0, (by decide : 0 + 0 ≤ _), (by decide : 0 + 0 ≤ _)⟩)
  dsimp only [Pt.U, Pt.locs, Pt.cells, Pt.slots] at X_47 l_47 y_47 z_47 st_47 hQ_47
  replace X_47 := castS l_47 y_47 z_47 X_47
  obtain ⟨rfl, Nq_47, e_47⟩ := hQ_47
  have N_47 := Fr.app N0 Nq_47
  obtain ⟨T_48, X_48, e_48, st_48⟩ := getF X_47 hx hZ hown (host := "") (Or.inl (hw _ (List.mem_of_getElem? (i := 14) rfl))) Via.refl e_47 F_a1_bytes (g := (mkF m 6 #[.val (.ref a1), .unset] [(.ref a1)])) rfl rfl (hb hby d5_6)
  obtain ⟨T_49, X_49, e_49, st_49⟩ := getF X_48 hx hZ hown (host := "") (Or.inl (hw _ (List.mem_of_getElem? (i := 37) rfl))) Via.refl e_48 F_a1_position (g := (mkF m 10 #[.val (.ref a1), .unset] [(.ref a1), (.ref a2)])) rfl rfl (hb hby d5_10)
  obtain ⟨cl_50, Ar_50, q_50, S_50, M_50, H_50, G_50⟩ := id V_a2
  have hin_50 : ¬ (w < 0 ∨ cl_50.slots.size ≤ (w).toNatClampNeg) := inb_of S_50 hj0
  have hat_50 : cl_50.slots[(w).toNatClampNeg]? = some (.int b0) := H_50.at hin_50 hb0
  obtain ⟨T_51, X_51, e_51, st_51⟩ := getF X_49 hx hZ hown (host := "") (Or.inl (hw _ (List.mem_of_getElem? (i := 14) rfl))) Via.refl e_49 F_a1_bytes (g := (mkF m 22 #[.val (.ref a1), .unset] [(.ref a1), (.int ((b0 &&& (255 : Int32)) <<< ((24 : Int32) &&& 31)))])) rfl rfl (hb hby d5_22)
  obtain ⟨T_52, X_52, e_52, st_52⟩ := getF X_51 hx hZ hown (host := "") (Or.inl (hw _ (List.mem_of_getElem? (i := 37) rfl))) Via.refl e_51 F_a1_position (g := (mkF m 26 #[.val (.ref a1), .unset] [(.ref a1), (.ref a2), (.int ((b0 &&& (255 : Int32)) <<< ((24 : Int32) &&& 31)))])) rfl rfl (hb hby d5_26)
  obtain ⟨cl_53, Ar_53, q_53, S_53, M_53, H_53, G_53⟩ := id V_a2
  have hin_53 : ¬ ((w + (1 : Int32)) < 0 ∨ cl_53.slots.size ≤ ((w + (1 : Int32))).toNatClampNeg) := inb_of S_53 hj1
  have hat_53 : cl_53.slots[((w + (1 : Int32))).toNatClampNeg]? = some (.int b1) := H_53.at hin_53 hb1
  obtain ⟨T_54, X_54, e_54, st_54⟩ := getF X_52 hx hZ hown (host := "") (Or.inl (hw _ (List.mem_of_getElem? (i := 14) rfl))) Via.refl e_52 F_a1_bytes (g := (mkF m 41 #[.val (.ref a1), .unset] [(.ref a1), (.int (((b0 &&& (255 : Int32)) <<< ((24 : Int32) &&& 31)) ||| ((b1 &&& (255 : Int32)) <<< ((16 : Int32) &&& 31))))])) rfl rfl (hb hby d5_41)
  obtain ⟨T_55, X_55, e_55, st_55⟩ := getF X_54 hx hZ hown (host := "") (Or.inl (hw _ (List.mem_of_getElem? (i := 37) rfl))) Via.refl e_54 F_a1_position (g := (mkF m 45 #[.val (.ref a1), .unset] [(.ref a1), (.ref a2), (.int (((b0 &&& (255 : Int32)) <<< ((24 : Int32) &&& 31)) ||| ((b1 &&& (255 : Int32)) <<< ((16 : Int32) &&& 31))))])) rfl rfl (hb hby d5_45)
  obtain ⟨cl_56, Ar_56, q_56, S_56, M_56, H_56, G_56⟩ := id V_a2
  have hin_56 : ¬ ((w + (2 : Int32)) < 0 ∨ cl_56.slots.size ≤ ((w + (2 : Int32))).toNatClampNeg) := inb_of S_56 hj2
  have hat_56 : cl_56.slots[((w + (2 : Int32))).toNatClampNeg]? = some (.int b2) := H_56.at hin_56 hb2
  obtain ⟨T_57, X_57, e_57, st_57⟩ := getF X_55 hx hZ hown (host := "") (Or.inl (hw _ (List.mem_of_getElem? (i := 14) rfl))) Via.refl e_55 F_a1_bytes (g := (mkF m 60 #[.val (.ref a1), .unset] [(.ref a1), (.int ((((b0 &&& (255 : Int32)) <<< ((24 : Int32) &&& 31)) ||| ((b1 &&& (255 : Int32)) <<< ((16 : Int32) &&& 31))) ||| ((b2 &&& (255 : Int32)) <<< ((8 : Int32) &&& 31))))])) rfl rfl (hb hby d5_60)
  obtain ⟨T_58, X_58, e_58, st_58⟩ := getF X_57 hx hZ hown (host := "") (Or.inl (hw _ (List.mem_of_getElem? (i := 37) rfl))) Via.refl e_57 F_a1_position (g := (mkF m 64 #[.val (.ref a1), .unset] [(.ref a1), (.ref a2), (.int ((((b0 &&& (255 : Int32)) <<< ((24 : Int32) &&& 31)) ||| ((b1 &&& (255 : Int32)) <<< ((16 : Int32) &&& 31))) ||| ((b2 &&& (255 : Int32)) <<< ((8 : Int32) &&& 31))))])) rfl rfl (hb hby d5_64)
  obtain ⟨cl_59, Ar_59, q_59, S_59, M_59, H_59, G_59⟩ := id V_a2
  have hin_59 : ¬ ((w + (3 : Int32)) < 0 ∨ cl_59.slots.size ≤ ((w + (3 : Int32))).toNatClampNeg) := inb_of S_59 hj3
  have hat_59 : cl_59.slots[((w + (3 : Int32))).toNatClampNeg]? = some (.int b3) := H_59.at hin_59 hb3
  obtain ⟨y_60, hy_61⟩ : ∃ z : Int32, z = (((((b0 &&& (255 : Int32)) <<< ((24 : Int32) &&& 31)) ||| ((b1 &&& (255 : Int32)) <<< ((16 : Int32) &&& 31))) ||| ((b2 &&& (255 : Int32)) <<< ((8 : Int32) &&& 31))) ||| (b3 &&& (255 : Int32))) := ⟨_, rfl⟩
  have pre_62 : ∀ t, Steps p.tables e below (T_58.setTop (mkF m 76 #[.val (.ref a1), .val (.int y_60)] [])) t → Steps p.tables e below (s₁.setTop (entryFrame m #[(.ref a1)] 2)) t := fun t k => pre0 t (by
      subst hy_61
      show Steps p.tables e below (s₁.setTop (mkF m 0 #[.val (.ref a1), .unset] [])) _
      refine XS.aloadN X0.here hx rfl (hb hby d5_0) rfl rfl ?_
      show Steps p.tables e below (s₁.setTop (mkF m 1 #[.val (.ref a1), .unset] [(.ref a1)])) _
      refine XS.iconst X0.here hx rfl (hb hby d5_1) ?_
      show Steps p.tables e below (s₁.setTop (mkF m 2 #[.val (.ref a1), .unset] [(.int (4 : Int32)), (.ref a1)])) _
      refine st_47.trans ?_
      show Steps p.tables e below (T_47.setTop (mkF m 5 #[.val (.ref a1), .unset] [])) _
      refine XS.aloadN X_47.here hx rfl (hb hby d5_5) rfl rfl ?_
      show Steps p.tables e below (T_47.setTop (mkF m 6 #[.val (.ref a1), .unset] [(.ref a1)])) _
      refine st_48 _ ?_
      show Steps p.tables e below (T_48.setTop (mkF m 9 #[.val (.ref a1), .unset] [(.ref a2)])) _
      refine XS.aloadN X_48.here hx rfl (hb hby d5_9) rfl rfl ?_
      show Steps p.tables e below (T_48.setTop (mkF m 10 #[.val (.ref a1), .unset] [(.ref a1), (.ref a2)])) _
      refine st_49 _ ?_
      show Steps p.tables e below (T_49.setTop (mkF m 13 #[.val (.ref a1), .unset] [(.int w), (.ref a2)])) _
      refine X_49.baloadBytes hx (j := w) (v := (.int b0)) (by rw [e_49]; exact Ar_50.1) (State.isArrayOf_alike hZ.alike Ar_50.2.1) Ar_50.2.2 hin_50 hat_50 (g := (mkF m 13 #[.val (.ref a1), .unset] [(.int w), (.ref a2)])) rfl rfl (hb hby d5_13) _ ?_
      show Steps p.tables e below (T_49.setTop (mkF m 14 #[.val (.ref a1), .unset] [(.int b0)])) _
      refine XS.sipush X_49.here hx rfl (hb hby d5_14) ?_
      show Steps p.tables e below (T_49.setTop (mkF m 17 #[.val (.ref a1), .unset] [(.int (255 : Int32)), (.int b0)])) _
      refine XS.iand X_49.here hx rfl (hb hby d5_17) rfl ?_
      show Steps p.tables e below (T_49.setTop (mkF m 18 #[.val (.ref a1), .unset] [(.int (b0 &&& (255 : Int32)))])) _
      refine XS.bipush X_49.here hx rfl (hb hby d5_18) ?_
      show Steps p.tables e below (T_49.setTop (mkF m 20 #[.val (.ref a1), .unset] [(.int (24 : Int32)), (.int (b0 &&& (255 : Int32)))])) _
      refine XS.ishl X_49.here hx rfl (hb hby d5_20) rfl ?_
      show Steps p.tables e below (T_49.setTop (mkF m 21 #[.val (.ref a1), .unset] [(.int ((b0 &&& (255 : Int32)) <<< ((24 : Int32) &&& 31)))])) _
      refine XS.aloadN X_49.here hx rfl (hb hby d5_21) rfl rfl ?_
      show Steps p.tables e below (T_49.setTop (mkF m 22 #[.val (.ref a1), .unset] [(.ref a1), (.int ((b0 &&& (255 : Int32)) <<< ((24 : Int32) &&& 31)))])) _
      refine st_51 _ ?_
      show Steps p.tables e below (T_51.setTop (mkF m 25 #[.val (.ref a1), .unset] [(.ref a2), (.int ((b0 &&& (255 : Int32)) <<< ((24 : Int32) &&& 31)))])) _
      refine XS.aloadN X_51.here hx rfl (hb hby d5_25) rfl rfl ?_
      show Steps p.tables e below (T_51.setTop (mkF m 26 #[.val (.ref a1), .unset] [(.ref a1), (.ref a2), (.int ((b0 &&& (255 : Int32)) <<< ((24 : Int32) &&& 31)))])) _
      refine st_52 _ ?_
      show Steps p.tables e below (T_52.setTop (mkF m 29 #[.val (.ref a1), .unset] [(.int w), (.ref a2), (.int ((b0 &&& (255 : Int32)) <<< ((24 : Int32) &&& 31)))])) _
      refine XS.iconst X_52.here hx rfl (hb hby d5_29) ?_
      show Steps p.tables e below (T_52.setTop (mkF m 30 #[.val (.ref a1), .unset] [(.int (1 : Int32)), (.int w), (.ref a2), (.int ((b0 &&& (255 : Int32)) <<< ((24 : Int32) &&& 31)))])) _
      refine XS.iadd X_52.here hx rfl (hb hby d5_30) rfl ?_
      show Steps p.tables e below (T_52.setTop (mkF m 31 #[.val (.ref a1), .unset] [(.int (w + (1 : Int32))), (.ref a2), (.int ((b0 &&& (255 : Int32)) <<< ((24 : Int32) &&& 31)))])) _
      refine X_52.baloadBytes hx (j := (w + (1 : Int32))) (v := (.int b1)) (by rw [e_52]; exact Ar_53.1) (State.isArrayOf_alike hZ.alike Ar_53.2.1) Ar_53.2.2 hin_53 hat_53 (g := (mkF m 31 #[.val (.ref a1), .unset] [(.int (w + (1 : Int32))), (.ref a2), (.int ((b0 &&& (255 : Int32)) <<< ((24 : Int32) &&& 31)))])) rfl rfl (hb hby d5_31) _ ?_
      show Steps p.tables e below (T_52.setTop (mkF m 32 #[.val (.ref a1), .unset] [(.int b1), (.int ((b0 &&& (255 : Int32)) <<< ((24 : Int32) &&& 31)))])) _
      refine XS.sipush X_52.here hx rfl (hb hby d5_32) ?_
      show Steps p.tables e below (T_52.setTop (mkF m 35 #[.val (.ref a1), .unset] [(.int (255 : Int32)), (.int b1), (.int ((b0 &&& (255 : Int32)) <<< ((24 : Int32) &&& 31)))])) _
      refine XS.iand X_52.here hx rfl (hb hby d5_35) rfl ?_
      show Steps p.tables e below (T_52.setTop (mkF m 36 #[.val (.ref a1), .unset] [(.int (b1 &&& (255 : Int32))), (.int ((b0 &&& (255 : Int32)) <<< ((24 : Int32) &&& 31)))])) _
      refine XS.bipush X_52.here hx rfl (hb hby d5_36) ?_
      show Steps p.tables e below (T_52.setTop (mkF m 38 #[.val (.ref a1), .unset] [(.int (16 : Int32)), (.int (b1 &&& (255 : Int32))), (.int ((b0 &&& (255 : Int32)) <<< ((24 : Int32) &&& 31)))])) _
      refine XS.ishl X_52.here hx rfl (hb hby d5_38) rfl ?_
      show Steps p.tables e below (T_52.setTop (mkF m 39 #[.val (.ref a1), .unset] [(.int ((b1 &&& (255 : Int32)) <<< ((16 : Int32) &&& 31))), (.int ((b0 &&& (255 : Int32)) <<< ((24 : Int32) &&& 31)))])) _
      refine XS.ior X_52.here hx rfl (hb hby d5_39) rfl ?_
      show Steps p.tables e below (T_52.setTop (mkF m 40 #[.val (.ref a1), .unset] [(.int (((b0 &&& (255 : Int32)) <<< ((24 : Int32) &&& 31)) ||| ((b1 &&& (255 : Int32)) <<< ((16 : Int32) &&& 31))))])) _
      refine XS.aloadN X_52.here hx rfl (hb hby d5_40) rfl rfl ?_
      show Steps p.tables e below (T_52.setTop (mkF m 41 #[.val (.ref a1), .unset] [(.ref a1), (.int (((b0 &&& (255 : Int32)) <<< ((24 : Int32) &&& 31)) ||| ((b1 &&& (255 : Int32)) <<< ((16 : Int32) &&& 31))))])) _
      refine st_54 _ ?_
      show Steps p.tables e below (T_54.setTop (mkF m 44 #[.val (.ref a1), .unset] [(.ref a2), (.int (((b0 &&& (255 : Int32)) <<< ((24 : Int32) &&& 31)) ||| ((b1 &&& (255 : Int32)) <<< ((16 : Int32) &&& 31))))])) _
      refine XS.aloadN X_54.here hx rfl (hb hby d5_44) rfl rfl ?_
      show Steps p.tables e below (T_54.setTop (mkF m 45 #[.val (.ref a1), .unset] [(.ref a1), (.ref a2), (.int (((b0 &&& (255 : Int32)) <<< ((24 : Int32) &&& 31)) ||| ((b1 &&& (255 : Int32)) <<< ((16 : Int32) &&& 31))))])) _
      refine st_55 _ ?_
      show Steps p.tables e below (T_55.setTop (mkF m 48 #[.val (.ref a1), .unset] [(.int w), (.ref a2), (.int (((b0 &&& (255 : Int32)) <<< ((24 : Int32) &&& 31)) ||| ((b1 &&& (255 : Int32)) <<< ((16 : Int32) &&& 31))))])) _
      refine XS.iconst X_55.here hx rfl (hb hby d5_48) ?_
      show Steps p.tables e below (T_55.setTop (mkF m 49 #[.val (.ref a1), .unset] [(.int (2 : Int32)), (.int w), (.ref a2), (.int (((b0 &&& (255 : Int32)) <<< ((24 : Int32) &&& 31)) ||| ((b1 &&& (255 : Int32)) <<< ((16 : Int32) &&& 31))))])) _
      refine XS.iadd X_55.here hx rfl (hb hby d5_49) rfl ?_
      show Steps p.tables e below (T_55.setTop (mkF m 50 #[.val (.ref a1), .unset] [(.int (w + (2 : Int32))), (.ref a2), (.int (((b0 &&& (255 : Int32)) <<< ((24 : Int32) &&& 31)) ||| ((b1 &&& (255 : Int32)) <<< ((16 : Int32) &&& 31))))])) _
      refine X_55.baloadBytes hx (j := (w + (2 : Int32))) (v := (.int b2)) (by rw [e_55]; exact Ar_56.1) (State.isArrayOf_alike hZ.alike Ar_56.2.1) Ar_56.2.2 hin_56 hat_56 (g := (mkF m 50 #[.val (.ref a1), .unset] [(.int (w + (2 : Int32))), (.ref a2), (.int (((b0 &&& (255 : Int32)) <<< ((24 : Int32) &&& 31)) ||| ((b1 &&& (255 : Int32)) <<< ((16 : Int32) &&& 31))))])) rfl rfl (hb hby d5_50) _ ?_
      show Steps p.tables e below (T_55.setTop (mkF m 51 #[.val (.ref a1), .unset] [(.int b2), (.int (((b0 &&& (255 : Int32)) <<< ((24 : Int32) &&& 31)) ||| ((b1 &&& (255 : Int32)) <<< ((16 : Int32) &&& 31))))])) _
      refine XS.sipush X_55.here hx rfl (hb hby d5_51) ?_
      show Steps p.tables e below (T_55.setTop (mkF m 54 #[.val (.ref a1), .unset] [(.int (255 : Int32)), (.int b2), (.int (((b0 &&& (255 : Int32)) <<< ((24 : Int32) &&& 31)) ||| ((b1 &&& (255 : Int32)) <<< ((16 : Int32) &&& 31))))])) _
      refine XS.iand X_55.here hx rfl (hb hby d5_54) rfl ?_
      show Steps p.tables e below (T_55.setTop (mkF m 55 #[.val (.ref a1), .unset] [(.int (b2 &&& (255 : Int32))), (.int (((b0 &&& (255 : Int32)) <<< ((24 : Int32) &&& 31)) ||| ((b1 &&& (255 : Int32)) <<< ((16 : Int32) &&& 31))))])) _
      refine XS.bipush X_55.here hx rfl (hb hby d5_55) ?_
      show Steps p.tables e below (T_55.setTop (mkF m 57 #[.val (.ref a1), .unset] [(.int (8 : Int32)), (.int (b2 &&& (255 : Int32))), (.int (((b0 &&& (255 : Int32)) <<< ((24 : Int32) &&& 31)) ||| ((b1 &&& (255 : Int32)) <<< ((16 : Int32) &&& 31))))])) _
      refine XS.ishl X_55.here hx rfl (hb hby d5_57) rfl ?_
      show Steps p.tables e below (T_55.setTop (mkF m 58 #[.val (.ref a1), .unset] [(.int ((b2 &&& (255 : Int32)) <<< ((8 : Int32) &&& 31))), (.int (((b0 &&& (255 : Int32)) <<< ((24 : Int32) &&& 31)) ||| ((b1 &&& (255 : Int32)) <<< ((16 : Int32) &&& 31))))])) _
      refine XS.ior X_55.here hx rfl (hb hby d5_58) rfl ?_
      show Steps p.tables e below (T_55.setTop (mkF m 59 #[.val (.ref a1), .unset] [(.int ((((b0 &&& (255 : Int32)) <<< ((24 : Int32) &&& 31)) ||| ((b1 &&& (255 : Int32)) <<< ((16 : Int32) &&& 31))) ||| ((b2 &&& (255 : Int32)) <<< ((8 : Int32) &&& 31))))])) _
      refine XS.aloadN X_55.here hx rfl (hb hby d5_59) rfl rfl ?_
      show Steps p.tables e below (T_55.setTop (mkF m 60 #[.val (.ref a1), .unset] [(.ref a1), (.int ((((b0 &&& (255 : Int32)) <<< ((24 : Int32) &&& 31)) ||| ((b1 &&& (255 : Int32)) <<< ((16 : Int32) &&& 31))) ||| ((b2 &&& (255 : Int32)) <<< ((8 : Int32) &&& 31))))])) _
      refine st_57 _ ?_
      show Steps p.tables e below (T_57.setTop (mkF m 63 #[.val (.ref a1), .unset] [(.ref a2), (.int ((((b0 &&& (255 : Int32)) <<< ((24 : Int32) &&& 31)) ||| ((b1 &&& (255 : Int32)) <<< ((16 : Int32) &&& 31))) ||| ((b2 &&& (255 : Int32)) <<< ((8 : Int32) &&& 31))))])) _
      refine XS.aloadN X_57.here hx rfl (hb hby d5_63) rfl rfl ?_
      show Steps p.tables e below (T_57.setTop (mkF m 64 #[.val (.ref a1), .unset] [(.ref a1), (.ref a2), (.int ((((b0 &&& (255 : Int32)) <<< ((24 : Int32) &&& 31)) ||| ((b1 &&& (255 : Int32)) <<< ((16 : Int32) &&& 31))) ||| ((b2 &&& (255 : Int32)) <<< ((8 : Int32) &&& 31))))])) _
      refine st_58 _ ?_
      show Steps p.tables e below (T_58.setTop (mkF m 67 #[.val (.ref a1), .unset] [(.int w), (.ref a2), (.int ((((b0 &&& (255 : Int32)) <<< ((24 : Int32) &&& 31)) ||| ((b1 &&& (255 : Int32)) <<< ((16 : Int32) &&& 31))) ||| ((b2 &&& (255 : Int32)) <<< ((8 : Int32) &&& 31))))])) _
      refine XS.iconst X_58.here hx rfl (hb hby d5_67) ?_
      show Steps p.tables e below (T_58.setTop (mkF m 68 #[.val (.ref a1), .unset] [(.int (3 : Int32)), (.int w), (.ref a2), (.int ((((b0 &&& (255 : Int32)) <<< ((24 : Int32) &&& 31)) ||| ((b1 &&& (255 : Int32)) <<< ((16 : Int32) &&& 31))) ||| ((b2 &&& (255 : Int32)) <<< ((8 : Int32) &&& 31))))])) _
      refine XS.iadd X_58.here hx rfl (hb hby d5_68) rfl ?_
      show Steps p.tables e below (T_58.setTop (mkF m 69 #[.val (.ref a1), .unset] [(.int (w + (3 : Int32))), (.ref a2), (.int ((((b0 &&& (255 : Int32)) <<< ((24 : Int32) &&& 31)) ||| ((b1 &&& (255 : Int32)) <<< ((16 : Int32) &&& 31))) ||| ((b2 &&& (255 : Int32)) <<< ((8 : Int32) &&& 31))))])) _
      refine X_58.baloadBytes hx (j := (w + (3 : Int32))) (v := (.int b3)) (by rw [e_58]; exact Ar_59.1) (State.isArrayOf_alike hZ.alike Ar_59.2.1) Ar_59.2.2 hin_59 hat_59 (g := (mkF m 69 #[.val (.ref a1), .unset] [(.int (w + (3 : Int32))), (.ref a2), (.int ((((b0 &&& (255 : Int32)) <<< ((24 : Int32) &&& 31)) ||| ((b1 &&& (255 : Int32)) <<< ((16 : Int32) &&& 31))) ||| ((b2 &&& (255 : Int32)) <<< ((8 : Int32) &&& 31))))])) rfl rfl (hb hby d5_69) _ ?_
      show Steps p.tables e below (T_58.setTop (mkF m 70 #[.val (.ref a1), .unset] [(.int b3), (.int ((((b0 &&& (255 : Int32)) <<< ((24 : Int32) &&& 31)) ||| ((b1 &&& (255 : Int32)) <<< ((16 : Int32) &&& 31))) ||| ((b2 &&& (255 : Int32)) <<< ((8 : Int32) &&& 31))))])) _
      refine XS.sipush X_58.here hx rfl (hb hby d5_70) ?_
      show Steps p.tables e below (T_58.setTop (mkF m 73 #[.val (.ref a1), .unset] [(.int (255 : Int32)), (.int b3), (.int ((((b0 &&& (255 : Int32)) <<< ((24 : Int32) &&& 31)) ||| ((b1 &&& (255 : Int32)) <<< ((16 : Int32) &&& 31))) ||| ((b2 &&& (255 : Int32)) <<< ((8 : Int32) &&& 31))))])) _
      refine XS.iand X_58.here hx rfl (hb hby d5_73) rfl ?_
      show Steps p.tables e below (T_58.setTop (mkF m 74 #[.val (.ref a1), .unset] [(.int (b3 &&& (255 : Int32))), (.int ((((b0 &&& (255 : Int32)) <<< ((24 : Int32) &&& 31)) ||| ((b1 &&& (255 : Int32)) <<< ((16 : Int32) &&& 31))) ||| ((b2 &&& (255 : Int32)) <<< ((8 : Int32) &&& 31))))])) _
      refine XS.ior X_58.here hx rfl (hb hby d5_74) rfl ?_
      show Steps p.tables e below (T_58.setTop (mkF m 75 #[.val (.ref a1), .unset] [(.int (((((b0 &&& (255 : Int32)) <<< ((24 : Int32) &&& 31)) ||| ((b1 &&& (255 : Int32)) <<< ((16 : Int32) &&& 31))) ||| ((b2 &&& (255 : Int32)) <<< ((8 : Int32) &&& 31))) ||| (b3 &&& (255 : Int32))))])) _
      refine XS.istoreN X_58.here hx rfl (hb hby d5_75) rfl (l' := #[.val (.ref a1), .val (.int (((((b0 &&& (255 : Int32)) <<< ((24 : Int32) &&& 31)) ||| ((b1 &&& (255 : Int32)) <<< ((16 : Int32) &&& 31))) ||| ((b2 &&& (255 : Int32)) <<< ((8 : Int32) &&& 31))) ||| (b3 &&& (255 : Int32))))]) rfl ?_
      exact k)
  obtain ⟨T_63, X_63, e_63, st_63⟩ := getF X_58 hx hZ hown (host := "") (Or.inl (hw _ (List.mem_of_getElem? (i := 37) rfl))) Via.refl e_58 F_a1_position (g := (mkF m 78 #[.val (.ref a1), .val (.int y_60)] [(.ref a1), (.ref a1)])) rfl rfl (hb hby d5_78)
  obtain ⟨T_64, h_64, X_64, e_64, W_64, st_64⟩ := putF X_63 hx hZ hown (host := "") (Or.inl (hw _ (List.mem_of_getElem? (i := 37) rfl))) Via.refl e_63 F_a1_position E_a1 (Or.inl (hw _ (List.mem_of_getElem? (i := 38) rfl))) (hw _ (List.mem_of_getElem? (i := 6) rfl)) (ty := .int) (by decide) rfl rfl (g := (mkF m 83 #[.val (.ref a1), .val (.int y_60)] [(.int (w + (4 : Int32))), (.ref a1)])) rfl rfl (hb hby d5_83)
  have z_65 : n0 ≤ h_64.size := Nat.le_trans Z0 (Keep.of_wr W_64).1
  have fw_64 : Fld Z h_64 a1 "com/example/tenure/tenure/store/ValueReader" "position" "I" (.int (w + (4 : Int32))) := F_a1_position.same W_64
  have N_64 := Fr.snoc X_64 N_47 g_a1
  have K_64 : Keep h0 h_64 [a1] := (Keep.refl h0 [a1]).wr W_64 (Or.inl (List.mem_of_getElem? (i := 0) rfl))
  obtain ⟨fs, hr, hrun, hended, hW, hsame⟩ := X_64.leave (v := some (.int y_60)) (fun h => by rw [Bd.returns] at h; cases h)
  refine ⟨_, _, pre_62 _ ?_, hrun, hended, _, _, rfl, ?_, ⟨_, rfl⟩, hW, hsame.mono (by decide) (by decide)⟩
  · show Steps p.tables e below (T_58.setTop (mkF m 76 #[.val (.ref a1), .val (.int y_60)] [])) _
    refine XS.aloadN X_58.here hx rfl (hb hby d5_76) rfl rfl ?_
    show Steps p.tables e below (T_58.setTop (mkF m 77 #[.val (.ref a1), .val (.int y_60)] [(.ref a1)])) _
    refine XS.dup X_58.here hx rfl (hb hby d5_77) rfl rfl ?_
    show Steps p.tables e below (T_58.setTop (mkF m 78 #[.val (.ref a1), .val (.int y_60)] [(.ref a1), (.ref a1)])) _
    refine st_63 _ ?_
    show Steps p.tables e below (T_63.setTop (mkF m 81 #[.val (.ref a1), .val (.int y_60)] [(.int w), (.ref a1)])) _
    refine XS.iconst X_63.here hx rfl (hb hby d5_81) ?_
    show Steps p.tables e below (T_63.setTop (mkF m 82 #[.val (.ref a1), .val (.int y_60)] [(.int (4 : Int32)), (.int w), (.ref a1)])) _
    refine XS.iadd X_63.here hx rfl (hb hby d5_82) rfl ?_
    show Steps p.tables e below (T_63.setTop (mkF m 83 #[.val (.ref a1), .val (.int y_60)] [(.int (w + (4 : Int32))), (.ref a1)])) _
    refine st_64 _ ?_
    show Steps p.tables e below (T_64.setTop (mkF m 86 #[.val (.ref a1), .val (.int y_60)] [])) _
    refine XS.iloadN X_64.here hx rfl (hb hby d5_86) rfl ?_
    show Steps p.tables e below (T_64.setTop (mkF m 87 #[.val (.ref a1), .val (.int y_60)] [(.int y_60)])) _
    exact retI X_64 hx Bd.returns (hb hby d5_87) hr
  have f_66 : Exa Z h_64 a1 "com/example/tenure/tenure/store/ValueReader" := (E_a1.wr W_64)
  have f_67 : Fld Z h_64 a1 "com/example/tenure/tenure/store/ValueReader" "bytes" "[B" (.ref a2) := (F_a1_bytes.other W_64 (Or.inr (slot_ne (Or.inr (hw _ (List.mem_of_getElem? (i := 15) rfl))) (Or.inl (hw _ (List.mem_of_getElem? (i := 38) rfl))) (by decide) (t := (.array .byte)) (t' := .int) (by decide) (by decide))))
  · show Q5 Z a1 a2 w k n vs b0 b1 b2 b3 h0 n0 _ T_64.heap _
    rw [e_64]
    exact ⟨(congrArg (fun z => some (Value.int z)) (by subst_vars; rfl : y_60 = (own_int b0 b1 b2 b3))), N_64, K_64, f_66, f_67, fw_64⟩
def own_long (hi lo : Int32) : Int64 := (hi.toInt64 <<< ((32 : Int32) &&& 0x3f).toInt64) ||| (lo.toInt64 &&& (4294967295 : Int64))
def own_by (q : Int64) (k : Int32) : Int32 := (nar .byte (((q.toUInt64 >>> (k &&& 0x3f).toInt64.toUInt64).toInt64).toInt32.toInt8.toInt32))

theorem own_nar (z : Int32) : (nar .byte (z.toInt8.toInt32)) = z.toInt8.toInt32 := by
  show z.toInt8.toInt32.toInt8.toInt32 = _
  rw [Int8.toInt8_toInt32]
theorem own_lsb (z : Int32) (i : Nat) : (z.toInt8.toInt32 &&& (255 : Int32)).toBitVec.getLsbD i = (z.toBitVec.getLsbD i && decide (i < 8)) := by
  rw [Int32.toBitVec_and, BitVec.getLsbD_and]
  by_cases h : i < 8
  · have e : (255 : Int32).toBitVec.getLsbD i = true := by
      have : i = 0 ∨ i = 1 ∨ i = 2 ∨ i = 3 ∨ i = 4 ∨ i = 5 ∨ i = 6 ∨ i = 7 := by omega
      rcases this with rfl | rfl | rfl | rfl | rfl | rfl | rfl | rfl <;> decide
    rw [e]
    have e2 : z.toInt8.toInt32.toBitVec.getLsbD i = z.toBitVec.getLsbD i := by
      show ((z.toBitVec.signExtend 8).signExtend 32).getLsbD i = _
      rw [BitVec.getLsbD_signExtend, BitVec.getLsbD_signExtend]
      have h1 : i < 32 := by omega
      simp [h, h1]
    rw [e2]; simp [h]
  · have e : (255 : Int32).toBitVec.getLsbD i = false := by
      show (255#32).getLsbD i = false
      rw [BitVec.getLsbD_ofNat]
      have : Nat.testBit 255 i = false := Nat.testBit_lt_two_pow (Nat.lt_of_lt_of_le (by decide : 255 < 2 ^ 8) (Nat.pow_le_pow_right (by decide) (by omega)))
      simp [this]
    rw [e]; simp [h]
theorem own_low (z : Int32) : (nar .byte (z.toInt8.toInt32)) &&& (255 : Int32) = z &&& (255 : Int32) := by
  rw [own_nar]
  apply Int32.toBitVec_inj.mp
  apply BitVec.eq_of_getLsbD_eq
  intro i hi
  rw [own_lsb, Int32.toBitVec_and, BitVec.getLsbD_and]
  by_cases h : i < 8
  · have : i = 0 ∨ i = 1 ∨ i = 2 ∨ i = 3 ∨ i = 4 ∨ i = 5 ∨ i = 6 ∨ i = 7 := by omega
    rcases this with rfl | rfl | rfl | rfl | rfl | rfl | rfl | rfl <;> rfl
  · have e : (255 : Int32).toBitVec.getLsbD i = false := by
      show (255#32).getLsbD i = false
      rw [BitVec.getLsbD_ofNat]
      have : Nat.testBit 255 i = false := Nat.testBit_lt_two_pow (Nat.lt_of_lt_of_le (by decide : 255 < 2 ^ 8) (Nat.pow_le_pow_right (by decide) (by omega)))
      simp [this]
    rw [e]; simp [h]
theorem own_int_lsb (z0 z1 z2 z3 : Int32) (i : Nat) (hi : i < 32) : (own_int (nar .byte (z0.toInt8.toInt32)) (nar .byte (z1.toInt8.toInt32)) (nar .byte (z2.toInt8.toInt32)) (nar .byte (z3.toInt8.toInt32))).toBitVec.getLsbD i = (if i < 8 then z3.toBitVec.getLsbD i else if i < 16 then z2.toBitVec.getLsbD (i - 8) else if i < 24 then z1.toBitVec.getLsbD (i - 16) else z0.toBitVec.getLsbD (i - 24)) := by
  unfold own_int
  rw [own_nar, own_nar, own_nar, own_nar]
  show ((((((z0.toInt8.toInt32 &&& (255 : Int32)).toBitVec <<< 24) ||| ((z1.toInt8.toInt32 &&& (255 : Int32)).toBitVec <<< 16)) ||| ((z2.toInt8.toInt32 &&& (255 : Int32)).toBitVec <<< 8)) ||| (z3.toInt8.toInt32 &&& (255 : Int32)).toBitVec)).getLsbD i = _
  simp only [BitVec.getLsbD_or, BitVec.getLsbD_shiftLeft, own_lsb]
  by_cases h1 : i < 8
  · simp [h1, hi, show i < 16 by omega, show i < 24 by omega]
  by_cases h2 : i < 16
  · simp [h1, h2, hi, show i < 24 by omega, show i - 8 < 8 by omega]
  by_cases h3 : i < 24
  · simp [h1, h2, h3, hi, show i - 16 < 8 by omega, show ¬ (i - 8 < 8) by omega]
  · simp [h1, h2, h3, hi, show i - 24 < 8 by omega, show ¬ (i - 8 < 8) by omega, show ¬ (i - 16 < 8) by omega]

theorem own_sh (q : Int64) (n i : Nat) (hi : i < 32) (k : Int32) (hk : ∀ q : Int64, ((q.toUInt64 >>> (k &&& 0x3f).toInt64.toUInt64).toInt64).toBitVec = q.toBitVec >>> n) : ((q.toUInt64 >>> (k &&& 0x3f).toInt64.toUInt64).toInt64).toInt32.toBitVec.getLsbD i = q.toBitVec.getLsbD (n + i) := by
  show (((q.toUInt64 >>> (k &&& 0x3f).toInt64.toUInt64).toInt64).toBitVec.signExtend 32).getLsbD i = _
  rw [hk, BitVec.getLsbD_signExtend, BitVec.getLsbD_ushiftRight]
  simp [hi, show i < 64 by omega]
theorem own_sh0 (q : Int64) (i : Nat) (hi : i < 32) : q.toInt32.toBitVec.getLsbD i = q.toBitVec.getLsbD i := by
  show (q.toBitVec.signExtend 32).getLsbD i = _
  rw [BitVec.getLsbD_signExtend]
  simp [hi, show i < 64 by omega]
theorem own_back (q : Int64) : own_long (own_int (nar .byte (((q.toUInt64 >>> ((56 : Int32) &&& 0x3f).toInt64.toUInt64).toInt64).toInt32.toInt8.toInt32)) (nar .byte (((q.toUInt64 >>> ((48 : Int32) &&& 0x3f).toInt64.toUInt64).toInt64).toInt32.toInt8.toInt32)) (nar .byte (((q.toUInt64 >>> ((40 : Int32) &&& 0x3f).toInt64.toUInt64).toInt64).toInt32.toInt8.toInt32)) (nar .byte (((q.toUInt64 >>> ((32 : Int32) &&& 0x3f).toInt64.toUInt64).toInt64).toInt32.toInt8.toInt32))) (own_int (nar .byte (((q.toUInt64 >>> ((24 : Int32) &&& 0x3f).toInt64.toUInt64).toInt64).toInt32.toInt8.toInt32)) (nar .byte (((q.toUInt64 >>> ((16 : Int32) &&& 0x3f).toInt64.toUInt64).toInt64).toInt32.toInt8.toInt32)) (nar .byte (((q.toUInt64 >>> ((8 : Int32) &&& 0x3f).toInt64.toUInt64).toInt64).toInt32.toInt8.toInt32)) (nar .byte (q.toInt32.toInt8.toInt32))) = q := by
  apply Int64.toBitVec_inj.mp
  apply BitVec.eq_of_getLsbD_eq
  intro i hi
  generalize eh : own_int (nar .byte (((q.toUInt64 >>> ((56 : Int32) &&& 0x3f).toInt64.toUInt64).toInt64).toInt32.toInt8.toInt32)) (nar .byte (((q.toUInt64 >>> ((48 : Int32) &&& 0x3f).toInt64.toUInt64).toInt64).toInt32.toInt8.toInt32)) (nar .byte (((q.toUInt64 >>> ((40 : Int32) &&& 0x3f).toInt64.toUInt64).toInt64).toInt32.toInt8.toInt32)) (nar .byte (((q.toUInt64 >>> ((32 : Int32) &&& 0x3f).toInt64.toUInt64).toInt64).toInt32.toInt8.toInt32)) = hi'
  generalize el : own_int (nar .byte (((q.toUInt64 >>> ((24 : Int32) &&& 0x3f).toInt64.toUInt64).toInt64).toInt32.toInt8.toInt32)) (nar .byte (((q.toUInt64 >>> ((16 : Int32) &&& 0x3f).toInt64.toUInt64).toInt64).toInt32.toInt8.toInt32)) (nar .byte (((q.toUInt64 >>> ((8 : Int32) &&& 0x3f).toInt64.toUInt64).toInt64).toInt32.toInt8.toInt32)) (nar .byte (q.toInt32.toInt8.toInt32)) = lo'
  have qh : ∀ j, j < 32 → hi'.toBitVec.getLsbD j = q.toBitVec.getLsbD (32 + j) := by
    intro j hj
    rw [← eh, own_int_lsb _ _ _ _ j hj]
    by_cases h1 : j < 8
    · rw [if_pos h1, own_sh q 32 _ (by omega) 32 (fun _ => rfl)]
    rw [if_neg h1]
    by_cases h2 : j < 16
    · rw [if_pos h2, own_sh q 40 _ (by omega) 40 (fun _ => rfl)]; congr 1; omega
    rw [if_neg h2]
    by_cases h3 : j < 24
    · rw [if_pos h3, own_sh q 48 _ (by omega) 48 (fun _ => rfl)]; congr 1; omega
    · rw [if_neg h3, own_sh q 56 _ (by omega) 56 (fun _ => rfl)]; congr 1; omega
  have ql : ∀ j, j < 32 → lo'.toBitVec.getLsbD j = q.toBitVec.getLsbD j := by
    intro j hj
    rw [← el, own_int_lsb _ _ _ _ j hj]
    by_cases h1 : j < 8
    · rw [if_pos h1, own_sh0 q _ (by omega)]
    rw [if_neg h1]
    by_cases h2 : j < 16
    · rw [if_pos h2, own_sh q 8 _ (by omega) 8 (fun _ => rfl)]; congr 1; omega
    rw [if_neg h2]
    by_cases h3 : j < 24
    · rw [if_pos h3, own_sh q 16 _ (by omega) 16 (fun _ => rfl)]; congr 1; omega
    · rw [if_neg h3, own_sh q 24 _ (by omega) 24 (fun _ => rfl)]; congr 1; omega
  show ((hi'.toBitVec.signExtend 64 <<< 32) ||| (lo'.toBitVec.signExtend 64 &&& 4294967295#64)).getLsbD i = _
  rw [BitVec.getLsbD_or, BitVec.getLsbD_shiftLeft, BitVec.getLsbD_and, BitVec.getLsbD_signExtend, BitVec.getLsbD_signExtend]
  have em : (4294967295#64).getLsbD i = decide (i < 32) := by
    rw [BitVec.getLsbD_ofNat]
    have : (4294967295 : Nat) = 2 ^ 32 - 1 := by decide
    rw [this, Nat.testBit_two_pow_sub_one]
    simp [hi]
  rw [em]
  by_cases h : i < 32
  · rw [ql i h]; simp [h, hi]
  · have h' : i - 32 < 32 := by omega
    rw [qh (i - 32) h', show 32 + (i - 32) = i by omega]
    simp [h, hi, h', show i - 32 < 64 by omega]
theorem d4_0 : decode prog_54_method_14_code 0 = .ok (.aload_n 0, 1) := by decide +kernel
theorem d4_1 : decode prog_54_method_14_code 1 = .ok (.invokevirtual 35, 3) := by decide +kernel
theorem d4_4 : decode prog_54_method_14_code 4 = .ok (.i2l, 1) := by decide +kernel
theorem d4_5 : decode prog_54_method_14_code 5 = .ok (.lstore_n 1, 1) := by decide +kernel
theorem d4_6 : decode prog_54_method_14_code 6 = .ok (.lload_n 1, 1) := by decide +kernel
theorem d4_7 : decode prog_54_method_14_code 7 = .ok (.bipush 32, 2) := by decide +kernel
theorem d4_9 : decode prog_54_method_14_code 9 = .ok (.lshl, 1) := by decide +kernel
theorem d4_10 : decode prog_54_method_14_code 10 = .ok (.aload_n 0, 1) := by decide +kernel
theorem d4_11 : decode prog_54_method_14_code 11 = .ok (.invokevirtual 35, 3) := by decide +kernel
theorem d4_14 : decode prog_54_method_14_code 14 = .ok (.i2l, 1) := by decide +kernel
theorem d4_15 : decode prog_54_method_14_code 15 = .ok (.ldc2_w 85, 3) := by decide +kernel
theorem d4_18 : decode prog_54_method_14_code 18 = .ok (.land, 1) := by decide +kernel
theorem d4_19 : decode prog_54_method_14_code 19 = .ok (.lor, 1) := by decide +kernel
theorem d4_20 : decode prog_54_method_14_code 20 = .ok (.lreturn, 1) := by decide +kernel
theorem ef_4_0 (m : MethodId) (x0 : Addr) : entryFrame m #[(.ref x0)] 3 = mkF m 0 #[.val (.ref x0), .unset, .unset] [] := by first | (simp [entryFrame, mkF, argsToLocals, Value.category]; done) | rfl
def Q4_0 (Z : State) (a1 : Addr) (a2 : Addr) (k : ClassId) (v0 : Int32) (v1 : Int32) (v2 : Int32) (v3 : Int32) (v4 : Int32) (v5 : Int32) (v6 : Int32) (v7 : Int32) (v8 : Int32) (v9 : Int32) (v10 : Int32) (v11 : Int32) (v12 : Int32) (v13 : Int32) (v14 : Int32) (v15 : Int32) (v16 : Int32) (h0 : Heap) (n0 : Nat) (v : Option Value) (h : Heap) (L : List Loc) : Prop := v = some (.long (own_long (own_int v0 v1 v2 v3) (own_int v4 v5 v6 v7))) ∧ Fr n0 L ∧ Keep h0 h [a1] ∧ Exa Z h a1 "com/example/tenure/tenure/store/ValueReader" ∧ Fld Z h a1 "com/example/tenure/tenure/store/ValueReader" "bytes" "[B" (.ref a2) ∧ Fld Z h a1 "com/example/tenure/tenure/store/ValueReader" "position" "I" (.int (8 : Int32))
set_option maxRecDepth 65536 in
set_option maxHeartbeats 40000000 in
theorem rm4_0 (l : Launch) (Z : State) (a0 : Array Value) (hw : ∀ d ∈ tables_1, d.before a0 Z = true) (ws : List Jvm.Cond) (a1 : Addr) (a2 : Addr) (k : ClassId) (v0 : Int32) (v1 : Int32) (v2 : Int32) (v3 : Int32) (v4 : Int32) (v5 : Int32) (v6 : Int32) (v7 : Int32) (v8 : Int32) (v9 : Int32) (v10 : Int32) (v11 : Int32) (v12 : Int32) (v13 : Int32) (v14 : Int32) (v15 : Int32) (v16 : Int32) (h0 : Heap) (n0 : Nat) (Z0 : n0 ≤ h0.size) (E_a1 : Exa Z h0 a1 "com/example/tenure/tenure/store/ValueReader") (F_a1_bytes : Fld Z h0 a1 "com/example/tenure/tenure/store/ValueReader" "bytes" "[B" (.ref a2)) (F_a1_position : Fld Z h0 a1 "com/example/tenure/tenure/store/ValueReader" "position" "I" (.int (0 : Int32))) (V_a2 : Arv Z h0 a2 k .byte (17 : Int32) [(.int v0), (.int v1), (.int v2), (.int v3), (.int v4), (.int v5), (.int v6), (.int v7), (.int v8), (.int v9), (.int v10), (.int v11), (.int v12), (.int v13), (.int v14), (.int v15), (.int v16)] (.int (0 : Int32))) (g_a1 : n0 ≤ a1) (ne_a2_a1 : a2 ≠ a1) :
    MetFree l (⟨"com/example/tenure/tenure/store/ValueReader", "readLong", "()J"⟩ : MethodName) (head1 (Jvm.Cond.code (⟨"com/example/tenure/tenure/store/ValueReader", "readLong", "()J"⟩ : MethodName) prog_54_method_14_code 3 (some .long) :: ws) ({ frames := 3, cells := 0, slots := 0, locals := 41 } : Room)) (fun a U => a = #[(.ref a1)] ∧ Z.Warmed39 U.vm ∧ U.heap = h0) (fun _ _ _ _ _ => True) (fun _ U o U' => ∃ v L, o = .returned v ∧ Q4_0 Z a1 a2 k v0 v1 v2 v3 v4 v5 v6 v7 v8 v9 v10 v11 v12 v13 v14 v15 v16 h0 n0 v U'.heap L ∧ FrameEnd U o U' L ({ frames := 3, cells := 0, slots := 0, locals := 41 } : Room).cells ({ frames := 3, cells := 0, slots := 0, locals := 41 } : Room).slots) := by
  refine MetFree.of_bodySF (plainFor_of_name pn_2) hisR ?_
  intro p e s m args below meth c s₁ Bd hml0 hP hK
  obtain ⟨rfl, hZ, hh⟩ := hP
  have hx := Bd.exec
  have hby := Bd.bytes
  have hml : c.maxLocals = 3 := hml0
  have hown : s.vm.findClass "com/example/tenure/tenure/store/ValueReader" = some m.cls := findClass_of_methodNamed Bd.named
  have hnm := (name_of_methodNamed Bd.named Bd.method).1
  have X0 : Stand p l e ({ frames := 3, cells := 0, slots := 0, locals := 41 } : Room) s m #[(.ref a1)] below meth c s₁ [] 0 0 := Stand.of_body Bd
  have e0 : s₁.heap = h0 := by rw [← hh, Bd.state]; rfl
  have N0 := Fr.nil n0
  have pre0 : ∀ t, Steps p.tables e below (s₁.setTop (mkF m 0 #[.val (.ref a1), .unset, .unset] [])) t → Steps p.tables e below (s₁.setTop (entryFrame m #[(.ref a1)] 3)) t := fun t k => castTop (ef_4_0 m a1) k
  obtain ⟨cq_68, kq_68, qa_68, qb_68, qc_68⟩ := isOf hZ e0 E_a1
  obtain ⟨_, _, ⟨T_68, L_68, k_68, n_68⟩, -, X_68, ⟨Lc_68, hQ_68, l_68, y_68, z_68⟩, st_68⟩ := X0.virtualBack hx (y := (⟨"com/example/tenure/tenure/store/ValueReader", "readInt", "()I"⟩ : MethodName)) (z := (⟨"com/example/tenure/tenure/store/ValueReader", "readInt", "()I"⟩ : MethodName)) hown (mvT hZ (hw _ (List.mem_of_getElem? (i := 23) rfl))) (mvT hZ (hw _ (List.mem_of_getElem? (i := 24) rfl))) (notFace_of_selects (args := #[]) (mvT hZ (hw _ (List.mem_of_getElem? (i := 26) rfl)))) (mvT hZ (hw _ (List.mem_of_getElem? (i := 26) rfl))) (mvT hZ (hw _ (List.mem_of_getElem? (i := 25) rfl))) (by decide) (backOf (W := 0) (rm5 l Z a0 hw [] a1 a2 (0 : Int32) k (17 : Int32) ([(.int v0), (.int v1), (.int v2), (.int v3), (.int v4), (.int v5), (.int v6), (.int v7), (.int v8), (.int v9), (.int v10), (.int v11), (.int v12), (.int v13), (.int v14), (.int v15), (.int v16)] : List Value) v0 v1 v2 v3 h0 n0 Z0 E_a1 F_a1_bytes F_a1_position V_a2 g_a1 (by decide) ⟨by decide, by decide⟩ ⟨by decide, by decide⟩ ⟨by decide, by decide⟩ ⟨by decide, by decide⟩ rfl rfl rfl rfl) hZ (hw _ (List.mem_of_getElem? (i := 27) rfl)) (hw _ (List.mem_of_getElem? (i := 7) rfl)) (by decide) (by decide)) qa_68 qc_68 (g := (mkF m 1 #[.val (.ref a1), .unset, .unset] [(.ref a1)])) rfl (by rw [hml]; rfl) (Steps.refl _) (argsL := []) (rest := []) (lenOf pd_4 rfl) rfl (by show 2 * 0 + _ ≤ _; exact Nat.le_of_eq rfl) (hb hby d4_1) (fun _ _ => ⟨rfl, e0, (by decide : 0 + 0 ≤ _), (by decide : 0 + 0 ≤ _)⟩)
  dsimp only [Pt.U, Pt.locs, Pt.cells, Pt.slots] at X_68 l_68 y_68 z_68 st_68 hQ_68
  replace X_68 := castS l_68 y_68 z_68 X_68
  obtain ⟨rfl, Nq_68, K_68, po_68_0, po_68_1, po_68_2⟩ := hQ_68
  have z_69 : n0 ≤ T_68.heap.size := Nat.le_trans Z0 K_68.1
  have KK_68 : Keep h0 T_68.heap [a1] := (Keep.refl h0 [a1]).trans K_68 (allS (Or.inl (List.mem_of_getElem? (i := 0) rfl)) all0)
  have N_68 := Fr.app N0 Nq_68
  have f_70 : Arv Z T_68.heap a2 k .byte (17 : Int32) [(.int v0), (.int v1), (.int v2), (.int v3), (.int v4), (.int v5), (.int v6), (.int v7), (.int v8), (.int v9), (.int v10), (.int v11), (.int v12), (.int v13), (.int v14), (.int v15), (.int v16)] (.int (0 : Int32)) := (V_a2.keep K_68 (ninS ne_a2_a1 nin0))
  obtain ⟨cq_71, kq_71, qa_71, qb_71, qc_71⟩ := isOf hZ rfl po_68_0
  obtain ⟨_, _, ⟨T_71, L_71, k_71, n_71⟩, -, X_71, ⟨Lc_71, hQ_71, l_71, y_71, z_71⟩, st_71⟩ := X_68.virtualBack hx (y := (⟨"com/example/tenure/tenure/store/ValueReader", "readInt", "()I"⟩ : MethodName)) (z := (⟨"com/example/tenure/tenure/store/ValueReader", "readInt", "()I"⟩ : MethodName)) hown (mvT hZ (hw _ (List.mem_of_getElem? (i := 23) rfl))) (mvT hZ (hw _ (List.mem_of_getElem? (i := 24) rfl))) (notFace_of_selects (args := #[]) (mvT hZ (hw _ (List.mem_of_getElem? (i := 26) rfl)))) (mvT hZ (hw _ (List.mem_of_getElem? (i := 26) rfl))) (mvT hZ (hw _ (List.mem_of_getElem? (i := 25) rfl))) (by decide) (backOf (W := 2) (rm5 l Z a0 hw [] a1 a2 (4 : Int32) k (17 : Int32) ([(.int v0), (.int v1), (.int v2), (.int v3), (.int v4), (.int v5), (.int v6), (.int v7), (.int v8), (.int v9), (.int v10), (.int v11), (.int v12), (.int v13), (.int v14), (.int v15), (.int v16)] : List Value) v4 v5 v6 v7 T_68.heap n0 z_69 po_68_0 po_68_1 po_68_2 f_70 g_a1 (by decide) ⟨by decide, by decide⟩ ⟨by decide, by decide⟩ ⟨by decide, by decide⟩ ⟨by decide, by decide⟩ rfl rfl rfl rfl) hZ (hw _ (List.mem_of_getElem? (i := 27) rfl)) (hw _ (List.mem_of_getElem? (i := 7) rfl)) (by decide) (by decide)) qa_71 qc_71 (g := (mkF m 11 #[.val (.ref a1), .val (.long ((own_int v0 v1 v2 v3).toInt64)), .second] [(.ref a1), (.long (((own_int v0 v1 v2 v3).toInt64) <<< ((32 : Int32) &&& 0x3f).toInt64))])) rfl (by rw [hml]; rfl) (Steps.refl _) (argsL := []) (rest := [(.long (((own_int v0 v1 v2 v3).toInt64) <<< ((32 : Int32) &&& 0x3f).toInt64))]) (lenOf pd_4 rfl) rfl (by show 2 * 0 + _ ≤ _; exact Nat.le_of_eq rfl) (hb hby d4_11) (fun _ _ => ⟨rfl, rfl, (by decide : 0 + 0 ≤ _), (by decide : 0 + 0 ≤ _)⟩)
  dsimp only [Pt.U, Pt.locs, Pt.cells, Pt.slots] at X_71 l_71 y_71 z_71 st_71 hQ_71
  replace X_71 := castS l_71 y_71 z_71 X_71
  obtain ⟨rfl, Nq_71, K_71, po_71_0, po_71_1, po_71_2⟩ := hQ_71
  have z_72 : n0 ≤ T_71.heap.size := Nat.le_trans z_69 K_71.1
  have KK_71 : Keep h0 T_71.heap [a1] := KK_68.trans K_71 (allS (Or.inl (List.mem_of_getElem? (i := 0) rfl)) all0)
  have N_71 := Fr.app N_68 Nq_71
  obtain ⟨fs, hr, hrun, hended, hW, hsame⟩ := X_71.leave (v := some (.long ((((own_int v0 v1 v2 v3).toInt64) <<< ((32 : Int32) &&& 0x3f).toInt64) ||| (((own_int v4 v5 v6 v7).toInt64) &&& (4294967295 : Int64))))) (fun h => by rw [Bd.returns] at h; cases h)
  refine ⟨_, _, pre0 _ ?_, hrun, hended, _, _, rfl, ?_, ⟨_, rfl⟩, hW, hsame.mono (by decide) (by decide)⟩
  · show Steps p.tables e below (s₁.setTop (mkF m 0 #[.val (.ref a1), .unset, .unset] [])) _
    refine XS.aloadN X0.here hx rfl (hb hby d4_0) rfl rfl ?_
    show Steps p.tables e below (s₁.setTop (mkF m 1 #[.val (.ref a1), .unset, .unset] [(.ref a1)])) _
    refine st_68.trans ?_
    show Steps p.tables e below (T_68.setTop (mkF m 4 #[.val (.ref a1), .unset, .unset] [(.int (own_int v0 v1 v2 v3))])) _
    refine XS.i2l X_68.here hx rfl (hb hby d4_4) rfl ?_
    show Steps p.tables e below (T_68.setTop (mkF m 5 #[.val (.ref a1), .unset, .unset] [(.long ((own_int v0 v1 v2 v3).toInt64))])) _
    refine XS.lstoreN X_68.here hx rfl (hb hby d4_5) rfl (l' := #[.val (.ref a1), .val (.long ((own_int v0 v1 v2 v3).toInt64)), .second]) rfl ?_
    show Steps p.tables e below (T_68.setTop (mkF m 6 #[.val (.ref a1), .val (.long ((own_int v0 v1 v2 v3).toInt64)), .second] [])) _
    refine XS.lloadN X_68.here hx rfl (hb hby d4_6) rfl ?_
    show Steps p.tables e below (T_68.setTop (mkF m 7 #[.val (.ref a1), .val (.long ((own_int v0 v1 v2 v3).toInt64)), .second] [(.long ((own_int v0 v1 v2 v3).toInt64))])) _
    refine XS.bipush X_68.here hx rfl (hb hby d4_7) ?_
    show Steps p.tables e below (T_68.setTop (mkF m 9 #[.val (.ref a1), .val (.long ((own_int v0 v1 v2 v3).toInt64)), .second] [(.int (32 : Int32)), (.long ((own_int v0 v1 v2 v3).toInt64))])) _
    refine XS.lshl X_68.here hx rfl (hb hby d4_9) rfl ?_
    show Steps p.tables e below (T_68.setTop (mkF m 10 #[.val (.ref a1), .val (.long ((own_int v0 v1 v2 v3).toInt64)), .second] [(.long (((own_int v0 v1 v2 v3).toInt64) <<< ((32 : Int32) &&& 0x3f).toInt64))])) _
    refine XS.aloadN X_68.here hx rfl (hb hby d4_10) rfl rfl ?_
    show Steps p.tables e below (T_68.setTop (mkF m 11 #[.val (.ref a1), .val (.long ((own_int v0 v1 v2 v3).toInt64)), .second] [(.ref a1), (.long (((own_int v0 v1 v2 v3).toInt64) <<< ((32 : Int32) &&& 0x3f).toInt64))])) _
    refine st_71.trans ?_
    show Steps p.tables e below (T_71.setTop (mkF m 14 #[.val (.ref a1), .val (.long ((own_int v0 v1 v2 v3).toInt64)), .second] [(.int (own_int v4 v5 v6 v7)), (.long (((own_int v0 v1 v2 v3).toInt64) <<< ((32 : Int32) &&& 0x3f).toInt64))])) _
    refine XS.i2l X_71.here hx rfl (hb hby d4_14) rfl ?_
    show Steps p.tables e below (T_71.setTop (mkF m 15 #[.val (.ref a1), .val (.long ((own_int v0 v1 v2 v3).toInt64)), .second] [(.long ((own_int v4 v5 v6 v7).toInt64)), (.long (((own_int v0 v1 v2 v3).toInt64) <<< ((32 : Int32) &&& 0x3f).toInt64))])) _
    refine X_71.ldc2Long hx hown (mvT hZ (hw _ (List.mem_of_getElem? (i := 39) rfl))) (g := (mkF m 15 #[.val (.ref a1), .val (.long ((own_int v0 v1 v2 v3).toInt64)), .second] [(.long ((own_int v4 v5 v6 v7).toInt64)), (.long (((own_int v0 v1 v2 v3).toInt64) <<< ((32 : Int32) &&& 0x3f).toInt64))])) rfl (hb hby d4_15) _ ?_
    show Steps p.tables e below (T_71.setTop (mkF m 18 #[.val (.ref a1), .val (.long ((own_int v0 v1 v2 v3).toInt64)), .second] [(.long (4294967295 : Int64)), (.long ((own_int v4 v5 v6 v7).toInt64)), (.long (((own_int v0 v1 v2 v3).toInt64) <<< ((32 : Int32) &&& 0x3f).toInt64))])) _
    refine XS.land X_71.here hx rfl (hb hby d4_18) rfl ?_
    show Steps p.tables e below (T_71.setTop (mkF m 19 #[.val (.ref a1), .val (.long ((own_int v0 v1 v2 v3).toInt64)), .second] [(.long (((own_int v4 v5 v6 v7).toInt64) &&& (4294967295 : Int64))), (.long (((own_int v0 v1 v2 v3).toInt64) <<< ((32 : Int32) &&& 0x3f).toInt64))])) _
    refine XS.lor X_71.here hx rfl (hb hby d4_19) rfl ?_
    show Steps p.tables e below (T_71.setTop (mkF m 20 #[.val (.ref a1), .val (.long ((own_int v0 v1 v2 v3).toInt64)), .second] [(.long ((((own_int v0 v1 v2 v3).toInt64) <<< ((32 : Int32) &&& 0x3f).toInt64) ||| (((own_int v4 v5 v6 v7).toInt64) &&& (4294967295 : Int64))))])) _
    exact retL X_71 hx Bd.returns (hb hby d4_20) hr
  · show Q4_0 Z a1 a2 k v0 v1 v2 v3 v4 v5 v6 v7 v8 v9 v10 v11 v12 v13 v14 v15 v16 h0 n0 _ T_71.heap _
    exact ⟨(congrArg (fun z => some (Value.long z)) (by subst_vars; rfl : ((((own_int v0 v1 v2 v3).toInt64) <<< ((32 : Int32) &&& 0x3f).toInt64) ||| (((own_int v4 v5 v6 v7).toInt64) &&& (4294967295 : Int64))) = (own_long (own_int v0 v1 v2 v3) (own_int v4 v5 v6 v7)))), N_71, KK_71, po_71_0, po_71_1, po_71_2⟩
theorem ef_4_8 (m : MethodId) (x0 : Addr) : entryFrame m #[(.ref x0)] 3 = mkF m 0 #[.val (.ref x0), .unset, .unset] [] := by first | (simp [entryFrame, mkF, argsToLocals, Value.category]; done) | rfl
def Q4_8 (Z : State) (a1 : Addr) (a2 : Addr) (k : ClassId) (v0 : Int32) (v1 : Int32) (v2 : Int32) (v3 : Int32) (v4 : Int32) (v5 : Int32) (v6 : Int32) (v7 : Int32) (v8 : Int32) (v9 : Int32) (v10 : Int32) (v11 : Int32) (v12 : Int32) (v13 : Int32) (v14 : Int32) (v15 : Int32) (v16 : Int32) (h0 : Heap) (n0 : Nat) (v : Option Value) (h : Heap) (L : List Loc) : Prop := v = some (.long (own_long (own_int v8 v9 v10 v11) (own_int v12 v13 v14 v15))) ∧ Fr n0 L ∧ Keep h0 h [a1] ∧ Exa Z h a1 "com/example/tenure/tenure/store/ValueReader" ∧ Fld Z h a1 "com/example/tenure/tenure/store/ValueReader" "bytes" "[B" (.ref a2) ∧ Fld Z h a1 "com/example/tenure/tenure/store/ValueReader" "position" "I" (.int (16 : Int32))
set_option maxRecDepth 65536 in
set_option maxHeartbeats 40000000 in
theorem rm4_8 (l : Launch) (Z : State) (a0 : Array Value) (hw : ∀ d ∈ tables_1, d.before a0 Z = true) (ws : List Jvm.Cond) (a1 : Addr) (a2 : Addr) (k : ClassId) (v0 : Int32) (v1 : Int32) (v2 : Int32) (v3 : Int32) (v4 : Int32) (v5 : Int32) (v6 : Int32) (v7 : Int32) (v8 : Int32) (v9 : Int32) (v10 : Int32) (v11 : Int32) (v12 : Int32) (v13 : Int32) (v14 : Int32) (v15 : Int32) (v16 : Int32) (h0 : Heap) (n0 : Nat) (Z0 : n0 ≤ h0.size) (E_a1 : Exa Z h0 a1 "com/example/tenure/tenure/store/ValueReader") (F_a1_bytes : Fld Z h0 a1 "com/example/tenure/tenure/store/ValueReader" "bytes" "[B" (.ref a2)) (F_a1_position : Fld Z h0 a1 "com/example/tenure/tenure/store/ValueReader" "position" "I" (.int (8 : Int32))) (V_a2 : Arv Z h0 a2 k .byte (17 : Int32) [(.int v0), (.int v1), (.int v2), (.int v3), (.int v4), (.int v5), (.int v6), (.int v7), (.int v8), (.int v9), (.int v10), (.int v11), (.int v12), (.int v13), (.int v14), (.int v15), (.int v16)] (.int (0 : Int32))) (g_a1 : n0 ≤ a1) (ne_a2_a1 : a2 ≠ a1) :
    MetFree l (⟨"com/example/tenure/tenure/store/ValueReader", "readLong", "()J"⟩ : MethodName) (head1 (Jvm.Cond.code (⟨"com/example/tenure/tenure/store/ValueReader", "readLong", "()J"⟩ : MethodName) prog_54_method_14_code 3 (some .long) :: ws) ({ frames := 3, cells := 0, slots := 0, locals := 41 } : Room)) (fun a U => a = #[(.ref a1)] ∧ Z.Warmed39 U.vm ∧ U.heap = h0) (fun _ _ _ _ _ => True) (fun _ U o U' => ∃ v L, o = .returned v ∧ Q4_8 Z a1 a2 k v0 v1 v2 v3 v4 v5 v6 v7 v8 v9 v10 v11 v12 v13 v14 v15 v16 h0 n0 v U'.heap L ∧ FrameEnd U o U' L ({ frames := 3, cells := 0, slots := 0, locals := 41 } : Room).cells ({ frames := 3, cells := 0, slots := 0, locals := 41 } : Room).slots) := by
  refine MetFree.of_bodySF (plainFor_of_name pn_2) hisR ?_
  intro p e s m args below meth c s₁ Bd hml0 hP hK
  obtain ⟨rfl, hZ, hh⟩ := hP
  have hx := Bd.exec
  have hby := Bd.bytes
  have hml : c.maxLocals = 3 := hml0
  have hown : s.vm.findClass "com/example/tenure/tenure/store/ValueReader" = some m.cls := findClass_of_methodNamed Bd.named
  have hnm := (name_of_methodNamed Bd.named Bd.method).1
  have X0 : Stand p l e ({ frames := 3, cells := 0, slots := 0, locals := 41 } : Room) s m #[(.ref a1)] below meth c s₁ [] 0 0 := Stand.of_body Bd
  have e0 : s₁.heap = h0 := by rw [← hh, Bd.state]; rfl
  have N0 := Fr.nil n0
  have pre0 : ∀ t, Steps p.tables e below (s₁.setTop (mkF m 0 #[.val (.ref a1), .unset, .unset] [])) t → Steps p.tables e below (s₁.setTop (entryFrame m #[(.ref a1)] 3)) t := fun t k => castTop (ef_4_8 m a1) k
  obtain ⟨cq_73, kq_73, qa_73, qb_73, qc_73⟩ := isOf hZ e0 E_a1
  obtain ⟨_, _, ⟨T_73, L_73, k_73, n_73⟩, -, X_73, ⟨Lc_73, hQ_73, l_73, y_73, z_73⟩, st_73⟩ := X0.virtualBack hx (y := (⟨"com/example/tenure/tenure/store/ValueReader", "readInt", "()I"⟩ : MethodName)) (z := (⟨"com/example/tenure/tenure/store/ValueReader", "readInt", "()I"⟩ : MethodName)) hown (mvT hZ (hw _ (List.mem_of_getElem? (i := 23) rfl))) (mvT hZ (hw _ (List.mem_of_getElem? (i := 24) rfl))) (notFace_of_selects (args := #[]) (mvT hZ (hw _ (List.mem_of_getElem? (i := 26) rfl)))) (mvT hZ (hw _ (List.mem_of_getElem? (i := 26) rfl))) (mvT hZ (hw _ (List.mem_of_getElem? (i := 25) rfl))) (by decide) (backOf (W := 0) (rm5 l Z a0 hw [] a1 a2 (8 : Int32) k (17 : Int32) ([(.int v0), (.int v1), (.int v2), (.int v3), (.int v4), (.int v5), (.int v6), (.int v7), (.int v8), (.int v9), (.int v10), (.int v11), (.int v12), (.int v13), (.int v14), (.int v15), (.int v16)] : List Value) v8 v9 v10 v11 h0 n0 Z0 E_a1 F_a1_bytes F_a1_position V_a2 g_a1 (by decide) ⟨by decide, by decide⟩ ⟨by decide, by decide⟩ ⟨by decide, by decide⟩ ⟨by decide, by decide⟩ rfl rfl rfl rfl) hZ (hw _ (List.mem_of_getElem? (i := 27) rfl)) (hw _ (List.mem_of_getElem? (i := 7) rfl)) (by decide) (by decide)) qa_73 qc_73 (g := (mkF m 1 #[.val (.ref a1), .unset, .unset] [(.ref a1)])) rfl (by rw [hml]; rfl) (Steps.refl _) (argsL := []) (rest := []) (lenOf pd_4 rfl) rfl (by show 2 * 0 + _ ≤ _; exact Nat.le_of_eq rfl) (hb hby d4_1) (fun _ _ => ⟨rfl, e0, (by decide : 0 + 0 ≤ _), (by decide : 0 + 0 ≤ _)⟩)
  dsimp only [Pt.U, Pt.locs, Pt.cells, Pt.slots] at X_73 l_73 y_73 z_73 st_73 hQ_73
  replace X_73 := castS l_73 y_73 z_73 X_73
  obtain ⟨rfl, Nq_73, K_73, po_73_0, po_73_1, po_73_2⟩ := hQ_73
  have z_74 : n0 ≤ T_73.heap.size := Nat.le_trans Z0 K_73.1
  have KK_73 : Keep h0 T_73.heap [a1] := (Keep.refl h0 [a1]).trans K_73 (allS (Or.inl (List.mem_of_getElem? (i := 0) rfl)) all0)
  have N_73 := Fr.app N0 Nq_73
  have f_75 : Arv Z T_73.heap a2 k .byte (17 : Int32) [(.int v0), (.int v1), (.int v2), (.int v3), (.int v4), (.int v5), (.int v6), (.int v7), (.int v8), (.int v9), (.int v10), (.int v11), (.int v12), (.int v13), (.int v14), (.int v15), (.int v16)] (.int (0 : Int32)) := (V_a2.keep K_73 (ninS ne_a2_a1 nin0))
  obtain ⟨cq_76, kq_76, qa_76, qb_76, qc_76⟩ := isOf hZ rfl po_73_0
  obtain ⟨_, _, ⟨T_76, L_76, k_76, n_76⟩, -, X_76, ⟨Lc_76, hQ_76, l_76, y_76, z_76⟩, st_76⟩ := X_73.virtualBack hx (y := (⟨"com/example/tenure/tenure/store/ValueReader", "readInt", "()I"⟩ : MethodName)) (z := (⟨"com/example/tenure/tenure/store/ValueReader", "readInt", "()I"⟩ : MethodName)) hown (mvT hZ (hw _ (List.mem_of_getElem? (i := 23) rfl))) (mvT hZ (hw _ (List.mem_of_getElem? (i := 24) rfl))) (notFace_of_selects (args := #[]) (mvT hZ (hw _ (List.mem_of_getElem? (i := 26) rfl)))) (mvT hZ (hw _ (List.mem_of_getElem? (i := 26) rfl))) (mvT hZ (hw _ (List.mem_of_getElem? (i := 25) rfl))) (by decide) (backOf (W := 2) (rm5 l Z a0 hw [] a1 a2 (12 : Int32) k (17 : Int32) ([(.int v0), (.int v1), (.int v2), (.int v3), (.int v4), (.int v5), (.int v6), (.int v7), (.int v8), (.int v9), (.int v10), (.int v11), (.int v12), (.int v13), (.int v14), (.int v15), (.int v16)] : List Value) v12 v13 v14 v15 T_73.heap n0 z_74 po_73_0 po_73_1 po_73_2 f_75 g_a1 (by decide) ⟨by decide, by decide⟩ ⟨by decide, by decide⟩ ⟨by decide, by decide⟩ ⟨by decide, by decide⟩ rfl rfl rfl rfl) hZ (hw _ (List.mem_of_getElem? (i := 27) rfl)) (hw _ (List.mem_of_getElem? (i := 7) rfl)) (by decide) (by decide)) qa_76 qc_76 (g := (mkF m 11 #[.val (.ref a1), .val (.long ((own_int v8 v9 v10 v11).toInt64)), .second] [(.ref a1), (.long (((own_int v8 v9 v10 v11).toInt64) <<< ((32 : Int32) &&& 0x3f).toInt64))])) rfl (by rw [hml]; rfl) (Steps.refl _) (argsL := []) (rest := [(.long (((own_int v8 v9 v10 v11).toInt64) <<< ((32 : Int32) &&& 0x3f).toInt64))]) (lenOf pd_4 rfl) rfl (by show 2 * 0 + _ ≤ _; exact Nat.le_of_eq rfl) (hb hby d4_11) (fun _ _ => ⟨rfl, rfl, (by decide : 0 + 0 ≤ _), (by decide : 0 + 0 ≤ _)⟩)
  dsimp only [Pt.U, Pt.locs, Pt.cells, Pt.slots] at X_76 l_76 y_76 z_76 st_76 hQ_76
  replace X_76 := castS l_76 y_76 z_76 X_76
  obtain ⟨rfl, Nq_76, K_76, po_76_0, po_76_1, po_76_2⟩ := hQ_76
  have z_77 : n0 ≤ T_76.heap.size := Nat.le_trans z_74 K_76.1
  have KK_76 : Keep h0 T_76.heap [a1] := KK_73.trans K_76 (allS (Or.inl (List.mem_of_getElem? (i := 0) rfl)) all0)
  have N_76 := Fr.app N_73 Nq_76
  obtain ⟨fs, hr, hrun, hended, hW, hsame⟩ := X_76.leave (v := some (.long ((((own_int v8 v9 v10 v11).toInt64) <<< ((32 : Int32) &&& 0x3f).toInt64) ||| (((own_int v12 v13 v14 v15).toInt64) &&& (4294967295 : Int64))))) (fun h => by rw [Bd.returns] at h; cases h)
  refine ⟨_, _, pre0 _ ?_, hrun, hended, _, _, rfl, ?_, ⟨_, rfl⟩, hW, hsame.mono (by decide) (by decide)⟩
  · show Steps p.tables e below (s₁.setTop (mkF m 0 #[.val (.ref a1), .unset, .unset] [])) _
    refine XS.aloadN X0.here hx rfl (hb hby d4_0) rfl rfl ?_
    show Steps p.tables e below (s₁.setTop (mkF m 1 #[.val (.ref a1), .unset, .unset] [(.ref a1)])) _
    refine st_73.trans ?_
    show Steps p.tables e below (T_73.setTop (mkF m 4 #[.val (.ref a1), .unset, .unset] [(.int (own_int v8 v9 v10 v11))])) _
    refine XS.i2l X_73.here hx rfl (hb hby d4_4) rfl ?_
    show Steps p.tables e below (T_73.setTop (mkF m 5 #[.val (.ref a1), .unset, .unset] [(.long ((own_int v8 v9 v10 v11).toInt64))])) _
    refine XS.lstoreN X_73.here hx rfl (hb hby d4_5) rfl (l' := #[.val (.ref a1), .val (.long ((own_int v8 v9 v10 v11).toInt64)), .second]) rfl ?_
    show Steps p.tables e below (T_73.setTop (mkF m 6 #[.val (.ref a1), .val (.long ((own_int v8 v9 v10 v11).toInt64)), .second] [])) _
    refine XS.lloadN X_73.here hx rfl (hb hby d4_6) rfl ?_
    show Steps p.tables e below (T_73.setTop (mkF m 7 #[.val (.ref a1), .val (.long ((own_int v8 v9 v10 v11).toInt64)), .second] [(.long ((own_int v8 v9 v10 v11).toInt64))])) _
    refine XS.bipush X_73.here hx rfl (hb hby d4_7) ?_
    show Steps p.tables e below (T_73.setTop (mkF m 9 #[.val (.ref a1), .val (.long ((own_int v8 v9 v10 v11).toInt64)), .second] [(.int (32 : Int32)), (.long ((own_int v8 v9 v10 v11).toInt64))])) _
    refine XS.lshl X_73.here hx rfl (hb hby d4_9) rfl ?_
    show Steps p.tables e below (T_73.setTop (mkF m 10 #[.val (.ref a1), .val (.long ((own_int v8 v9 v10 v11).toInt64)), .second] [(.long (((own_int v8 v9 v10 v11).toInt64) <<< ((32 : Int32) &&& 0x3f).toInt64))])) _
    refine XS.aloadN X_73.here hx rfl (hb hby d4_10) rfl rfl ?_
    show Steps p.tables e below (T_73.setTop (mkF m 11 #[.val (.ref a1), .val (.long ((own_int v8 v9 v10 v11).toInt64)), .second] [(.ref a1), (.long (((own_int v8 v9 v10 v11).toInt64) <<< ((32 : Int32) &&& 0x3f).toInt64))])) _
    refine st_76.trans ?_
    show Steps p.tables e below (T_76.setTop (mkF m 14 #[.val (.ref a1), .val (.long ((own_int v8 v9 v10 v11).toInt64)), .second] [(.int (own_int v12 v13 v14 v15)), (.long (((own_int v8 v9 v10 v11).toInt64) <<< ((32 : Int32) &&& 0x3f).toInt64))])) _
    refine XS.i2l X_76.here hx rfl (hb hby d4_14) rfl ?_
    show Steps p.tables e below (T_76.setTop (mkF m 15 #[.val (.ref a1), .val (.long ((own_int v8 v9 v10 v11).toInt64)), .second] [(.long ((own_int v12 v13 v14 v15).toInt64)), (.long (((own_int v8 v9 v10 v11).toInt64) <<< ((32 : Int32) &&& 0x3f).toInt64))])) _
    refine X_76.ldc2Long hx hown (mvT hZ (hw _ (List.mem_of_getElem? (i := 39) rfl))) (g := (mkF m 15 #[.val (.ref a1), .val (.long ((own_int v8 v9 v10 v11).toInt64)), .second] [(.long ((own_int v12 v13 v14 v15).toInt64)), (.long (((own_int v8 v9 v10 v11).toInt64) <<< ((32 : Int32) &&& 0x3f).toInt64))])) rfl (hb hby d4_15) _ ?_
    show Steps p.tables e below (T_76.setTop (mkF m 18 #[.val (.ref a1), .val (.long ((own_int v8 v9 v10 v11).toInt64)), .second] [(.long (4294967295 : Int64)), (.long ((own_int v12 v13 v14 v15).toInt64)), (.long (((own_int v8 v9 v10 v11).toInt64) <<< ((32 : Int32) &&& 0x3f).toInt64))])) _
    refine XS.land X_76.here hx rfl (hb hby d4_18) rfl ?_
    show Steps p.tables e below (T_76.setTop (mkF m 19 #[.val (.ref a1), .val (.long ((own_int v8 v9 v10 v11).toInt64)), .second] [(.long (((own_int v12 v13 v14 v15).toInt64) &&& (4294967295 : Int64))), (.long (((own_int v8 v9 v10 v11).toInt64) <<< ((32 : Int32) &&& 0x3f).toInt64))])) _
    refine XS.lor X_76.here hx rfl (hb hby d4_19) rfl ?_
    show Steps p.tables e below (T_76.setTop (mkF m 20 #[.val (.ref a1), .val (.long ((own_int v8 v9 v10 v11).toInt64)), .second] [(.long ((((own_int v8 v9 v10 v11).toInt64) <<< ((32 : Int32) &&& 0x3f).toInt64) ||| (((own_int v12 v13 v14 v15).toInt64) &&& (4294967295 : Int64))))])) _
    exact retL X_76 hx Bd.returns (hb hby d4_20) hr
  · show Q4_8 Z a1 a2 k v0 v1 v2 v3 v4 v5 v6 v7 v8 v9 v10 v11 v12 v13 v14 v15 v16 h0 n0 _ T_76.heap _
    exact ⟨(congrArg (fun z => some (Value.long z)) (by subst_vars; rfl : ((((own_int v8 v9 v10 v11).toInt64) <<< ((32 : Int32) &&& 0x3f).toInt64) ||| (((own_int v12 v13 v14 v15).toInt64) &&& (4294967295 : Int64))) = (own_long (own_int v8 v9 v10 v11) (own_int v12 v13 v14 v15)))), N_76, KK_76, po_76_0, po_76_1, po_76_2⟩
theorem ef_0 (m : MethodId) (x0 : Int64) (x1 : Int64) (x2 : Int32) : entryFrame m #[(.long x0), (.long x1), (.int x2)] maxLocals = mkF m 0 #[.val (.long x0), .second, .val (.long x1), .second, .val (.int x2), .unset, .unset, .unset, .unset, .unset, .unset] [] := by first | (simp [entryFrame, mkF, argsToLocals, Value.category, maxLocals]; done) | rfl
def Q0 (Z : State) (q1 : Int64) (q2 : Int64) (p3 : Int32) (h0 : Heap) (n0 : Nat) (v : Option Value) (h : Heap) (L : List Loc) : Prop := v = some (.int (1 : Int32)) ∧ Fr n0 L
theorem pd_0 : parseMethodDescriptor "([BIJ)V" = some ⟨[(.array .byte), .int, .long], none⟩ := by decide +kernel
theorem pd_1 : parseMethodDescriptor "([BLcom/example/tenure/tenure/store/ClassDictionary;)V" = some ⟨[(.array .byte), (.object "com/example/tenure/tenure/store/ClassDictionary")], none⟩ := by decide +kernel
theorem pd_3 : parseMethodDescriptor "()J" = some ⟨[], some .long⟩ := by decide +kernel
set_option maxRecDepth 65536 in
set_option maxHeartbeats 40000000 in
theorem rm0 (l : Launch) (Z : State) (a0 : Array Value) (hw : ∀ d ∈ tables_1, d.before a0 Z = true) (ws : List Jvm.Cond) (q1 : Int64) (q2 : Int64) (p3 : Int32) (h0 : Heap) (n0 : Nat) (Z0 : n0 ≤ h0.size)  :
    MetFree l x (head1 (Jvm.Cond.code x code maxLocals ret :: ws) room_1) (fun a U => a = #[(.long q1), (.long q2), (.int p3)] ∧ Z.Warmed39 U.vm ∧ U.heap = h0) (fun _ _ _ _ _ => True) (fun _ U o U' => ∃ v L, o = .returned v ∧ Q0 Z q1 q2 p3 h0 n0 v U'.heap L ∧ FrameEnd U o U' L room_1.cells room_1.slots) := by
  refine MetFree.of_bodySF (plainFor_of_name pn_1) hisR ?_
  intro p e s m args below meth c s₁ Bd hml0 hP hK
  obtain ⟨rfl, hZ, hh⟩ := hP
  have hx := Bd.exec
  have hby := Bd.bytes
  have hml : c.maxLocals = 11 := hml0
  have hown : s.vm.findClass "com/example/tenure/tenure/store/ValueReaderReadLongPinLaw" = some m.cls := findClass_of_methodNamed Bd.named
  have hnm := (name_of_methodNamed Bd.named Bd.method).1
  have X0 : Stand p l e room_1 s m #[(.long q1), (.long q2), (.int p3)] below meth c s₁ [] 0 0 := Stand.of_body Bd
  have e0 : s₁.heap = h0 := by rw [← hh, Bd.state]; rfl
  have N0 := Fr.nil n0
  have pre0 : ∀ t, Steps p.tables e below (s₁.setTop (mkF m 0 #[.val (.long q1), .second, .val (.long q2), .second, .val (.int p3), .unset, .unset, .unset, .unset, .unset, .unset] [])) t → Steps p.tables e below (s₁.setTop (entryFrame m #[(.long q1), (.long q2), (.int p3)] maxLocals)) t := fun t k => castTop (ef_0 m q1 q2 p3) k
  obtain ⟨T_78, h_78, k_78, X_78, e_78, E_78, A_78, st_78⟩ := newP X0 hx hZ (hw _ (List.mem_of_getElem? (i := 0) rfl)) e0 (g := (mkF m 2 #[.val (.long q1), .second, .val (.long q2), .second, .val (.int p3), .unset, .unset, .unset, .unset, .unset, .unset] [(.int (17 : Int32))])) rfl (hb hby at_2) rfl (by decide) (cap := 17) (by decide) (by decide) (by decide) (by decide)
  obtain ⟨b_78, g_78⟩ : ∃ z, z = h0.size := ⟨_, rfl⟩
  rw [← g_78] at A_78 st_78
  have g_b_78 : n0 ≤ b_78 := Nat.le_trans Z0 (Nat.le_of_eq g_78.symm)
  have z_79 : n0 ≤ h_78.size := Nat.le_trans Z0 E_78.1
  have V_78 : Arv Z h_78 b_78 k_78 .byte (17 : Int32) [(.int (0 : Int32)), (.int (0 : Int32)), (.int (0 : Int32)), (.int (0 : Int32)), (.int (0 : Int32)), (.int (0 : Int32)), (.int (0 : Int32)), (.int (0 : Int32)), (.int (0 : Int32)), (.int (0 : Int32)), (.int (0 : Int32)), (.int (0 : Int32)), (.int (0 : Int32)), (.int (0 : Int32)), (.int (0 : Int32)), (.int (0 : Int32)), (.int (0 : Int32))] (.int (0 : Int32)) := (Arv.new A_78 (by decide)).pad (pad_rep [] (.int (0 : Int32)) 17)
  obtain ⟨_, _, ⟨T_80, L_80, k_80, n_80⟩, -, X_80, ⟨Lc_80, hQ_80, l_80, y_80, z_80⟩, st_80⟩ := Jvm.LawKit.callS X_78 hx (y := (⟨"com/example/tenure/tenure/store/ValueReaderReadLongPinLaw", "put", "([BIJ)V"⟩ : MethodName)) hown (mvT hZ (hw _ (List.mem_of_getElem? (i := 1) rfl))) (mvT hZ (hw _ (List.mem_of_getElem? (i := 2) rfl))) (mvT hZ (hw _ (List.mem_of_getElem? (i := 3) rfl))) (mvT hZ (hw _ (List.mem_of_getElem? (i := 4) rfl))) (by decide) (backOf (W := 0) (rm1_0 l Z a0 hw [] b_78 q1 k_78 (0 : Int32) (0 : Int32) (0 : Int32) (0 : Int32) (0 : Int32) (0 : Int32) (0 : Int32) (0 : Int32) (0 : Int32) (0 : Int32) (0 : Int32) (0 : Int32) (0 : Int32) (0 : Int32) (0 : Int32) (0 : Int32) (0 : Int32) h_78 n0 z_79 V_78 g_b_78) hZ (hw _ (List.mem_of_getElem? (i := 4) rfl)) (hw _ (List.mem_of_getElem? (i := 3) rfl)) (by decide) (by decide)) (g := (mkF m 10 #[.val (.long q1), .second, .val (.long q2), .second, .val (.int p3), .val (.ref b_78), .unset, .unset, .unset, .unset, .unset] [(.long q1), (.int (0 : Int32)), (.ref b_78)])) rfl (by rw [hml]; rfl) (argsL := [(.ref b_78), (.int (0 : Int32)), (.long q1)]) (rest := []) (lenOf pd_0 rfl) rfl (by show 2 * 0 + _ ≤ _; exact Nat.le_of_eq rfl) (hb hby at_10) (fun _ _ => ⟨rfl, e_78, (by decide : 1 + 0 ≤ _), (by decide : 17 + 0 ≤ _)⟩)
  dsimp only [Pt.U, Pt.locs, Pt.cells, Pt.slots] at X_80 l_80 y_80 z_80 st_80 hQ_80
  replace X_80 := castS l_80 y_80 z_80 X_80
  obtain ⟨rfl, Nq_80, K_80, po_80_0⟩ := hQ_80
  have z_81 : n0 ≤ T_80.heap.size := Nat.le_trans z_79 K_80.1
  have N_80 := Fr.app N0 Nq_80
  obtain ⟨_, _, ⟨T_82, L_82, k_82, n_82⟩, -, X_82, ⟨Lc_82, hQ_82, l_82, y_82, z_82⟩, st_82⟩ := Jvm.LawKit.callS X_80 hx (y := (⟨"com/example/tenure/tenure/store/ValueReaderReadLongPinLaw", "put", "([BIJ)V"⟩ : MethodName)) hown (mvT hZ (hw _ (List.mem_of_getElem? (i := 1) rfl))) (mvT hZ (hw _ (List.mem_of_getElem? (i := 2) rfl))) (mvT hZ (hw _ (List.mem_of_getElem? (i := 3) rfl))) (mvT hZ (hw _ (List.mem_of_getElem? (i := 4) rfl))) (by decide) (backOf (W := 0) (rm1_8 l Z a0 hw [] b_78 q2 k_78 (nar .byte (((q1.toUInt64 >>> ((56 : Int32) &&& 0x3f).toInt64.toUInt64).toInt64).toInt32.toInt8.toInt32)) (nar .byte (((q1.toUInt64 >>> ((48 : Int32) &&& 0x3f).toInt64.toUInt64).toInt64).toInt32.toInt8.toInt32)) (nar .byte (((q1.toUInt64 >>> ((40 : Int32) &&& 0x3f).toInt64.toUInt64).toInt64).toInt32.toInt8.toInt32)) (nar .byte (((q1.toUInt64 >>> ((32 : Int32) &&& 0x3f).toInt64.toUInt64).toInt64).toInt32.toInt8.toInt32)) (nar .byte (((q1.toUInt64 >>> ((24 : Int32) &&& 0x3f).toInt64.toUInt64).toInt64).toInt32.toInt8.toInt32)) (nar .byte (((q1.toUInt64 >>> ((16 : Int32) &&& 0x3f).toInt64.toUInt64).toInt64).toInt32.toInt8.toInt32)) (nar .byte (((q1.toUInt64 >>> ((8 : Int32) &&& 0x3f).toInt64.toUInt64).toInt64).toInt32.toInt8.toInt32)) (nar .byte (q1.toInt32.toInt8.toInt32)) (0 : Int32) (0 : Int32) (0 : Int32) (0 : Int32) (0 : Int32) (0 : Int32) (0 : Int32) (0 : Int32) (0 : Int32) T_80.heap n0 z_81 po_80_0 g_b_78) hZ (hw _ (List.mem_of_getElem? (i := 4) rfl)) (hw _ (List.mem_of_getElem? (i := 3) rfl)) (by decide) (by decide)) (g := (mkF m 18 #[.val (.long q1), .second, .val (.long q2), .second, .val (.int p3), .val (.ref b_78), .unset, .unset, .unset, .unset, .unset] [(.long q2), (.int (8 : Int32)), (.ref b_78)])) rfl (by rw [hml]; rfl) (argsL := [(.ref b_78), (.int (8 : Int32)), (.long q2)]) (rest := []) (lenOf pd_0 rfl) rfl (by show 2 * 0 + _ ≤ _; exact Nat.le_of_eq rfl) (hb hby at_18) (fun _ _ => ⟨rfl, rfl, (by decide : 1 + 0 ≤ _), (by decide : 17 + 0 ≤ _)⟩)
  dsimp only [Pt.U, Pt.locs, Pt.cells, Pt.slots] at X_82 l_82 y_82 z_82 st_82 hQ_82
  replace X_82 := castS l_82 y_82 z_82 X_82
  obtain ⟨rfl, Nq_82, K_82, po_82_0⟩ := hQ_82
  have z_83 : n0 ≤ T_82.heap.size := Nat.le_trans z_81 K_82.1
  have N_82 := Fr.app N_80 Nq_82
  obtain ⟨cl_84, Ar_84, q_84, S_84, M_84, H_84, G_84⟩ := id po_82_0
  have hin_84 : ¬ ((16 : Int32) < 0 ∨ cl_84.slots.size ≤ ((16 : Int32)).toNatClampNeg) := inb_of S_84 ⟨by decide, by decide⟩
  obtain ⟨T_84, h_84, X_84, e_84, W_84, st_84⟩ := stB X_82 hx hZ rfl Ar_84 (j := (16 : Int32)) hin_84 (g := (mkF m 28 #[.val (.long q1), .second, .val (.long q2), .second, .val (.int p3), .val (.ref b_78), .unset, .unset, .unset, .unset, .unset] [(.int (p3.toInt8.toInt32)), (.int (16 : Int32)), (.ref b_78)])) rfl rfl (hb hby at_28)
  have z_85 : n0 ≤ h_84.size := Nat.le_trans z_83 (Keep.of_wr W_84).1
  have V_84 : Arv Z h_84 b_78 k_78 .byte (17 : Int32) [(.int (nar .byte (((q1.toUInt64 >>> ((56 : Int32) &&& 0x3f).toInt64.toUInt64).toInt64).toInt32.toInt8.toInt32))), (.int (nar .byte (((q1.toUInt64 >>> ((48 : Int32) &&& 0x3f).toInt64.toUInt64).toInt64).toInt32.toInt8.toInt32))), (.int (nar .byte (((q1.toUInt64 >>> ((40 : Int32) &&& 0x3f).toInt64.toUInt64).toInt64).toInt32.toInt8.toInt32))), (.int (nar .byte (((q1.toUInt64 >>> ((32 : Int32) &&& 0x3f).toInt64.toUInt64).toInt64).toInt32.toInt8.toInt32))), (.int (nar .byte (((q1.toUInt64 >>> ((24 : Int32) &&& 0x3f).toInt64.toUInt64).toInt64).toInt32.toInt8.toInt32))), (.int (nar .byte (((q1.toUInt64 >>> ((16 : Int32) &&& 0x3f).toInt64.toUInt64).toInt64).toInt32.toInt8.toInt32))), (.int (nar .byte (((q1.toUInt64 >>> ((8 : Int32) &&& 0x3f).toInt64.toUInt64).toInt64).toInt32.toInt8.toInt32))), (.int (nar .byte (q1.toInt32.toInt8.toInt32))), (.int (nar .byte (((q2.toUInt64 >>> ((56 : Int32) &&& 0x3f).toInt64.toUInt64).toInt64).toInt32.toInt8.toInt32))), (.int (nar .byte (((q2.toUInt64 >>> ((48 : Int32) &&& 0x3f).toInt64.toUInt64).toInt64).toInt32.toInt8.toInt32))), (.int (nar .byte (((q2.toUInt64 >>> ((40 : Int32) &&& 0x3f).toInt64.toUInt64).toInt64).toInt32.toInt8.toInt32))), (.int (nar .byte (((q2.toUInt64 >>> ((32 : Int32) &&& 0x3f).toInt64.toUInt64).toInt64).toInt32.toInt8.toInt32))), (.int (nar .byte (((q2.toUInt64 >>> ((24 : Int32) &&& 0x3f).toInt64.toUInt64).toInt64).toInt32.toInt8.toInt32))), (.int (nar .byte (((q2.toUInt64 >>> ((16 : Int32) &&& 0x3f).toInt64.toUInt64).toInt64).toInt32.toInt8.toInt32))), (.int (nar .byte (((q2.toUInt64 >>> ((8 : Int32) &&& 0x3f).toInt64.toUInt64).toInt64).toInt32.toInt8.toInt32))), (.int (nar .byte (q2.toInt32.toInt8.toInt32))), (.int (nar .byte (p3.toInt8.toInt32)))] (.int (0 : Int32)) := Arv.set Ar_84 q_84 S_84 M_84 H_84 G_84 (fits_nar_byte _) W_84 16 rfl (Nat.le_of_ble_eq_true rfl)
  have N_84 := Fr.snoc X_84 N_82 g_b_78
  obtain ⟨T_86, h_86, X_86, e_86, E_86, A_86, D_86, -, st_86⟩ := newO X_84 hx hZ hown (hw _ (List.mem_of_getElem? (i := 5) rfl)) (hw _ (List.mem_of_getElem? (i := 6) rfl)) (hw _ (List.mem_of_getElem? (i := 7) rfl)) e_84 (g := (mkF m 29 #[.val (.long q1), .second, .val (.long q2), .second, .val (.int p3), .val (.ref b_78), .unset, .unset, .unset, .unset, .unset] [])) rfl (hb hby at_29) (by decide) (by decide)
  obtain ⟨b_86, g_86⟩ : ∃ z, z = h_84.size := ⟨_, rfl⟩
  rw [← g_86] at A_86 D_86 st_86
  have g_b_86 : n0 ≤ b_86 := Nat.le_trans z_85 (Nat.le_of_eq g_86.symm)
  have ne_b_78_b_86 : b_78 ≠ b_86 := Nat.ne_of_lt (Nat.lt_of_lt_of_le V_84.lt (Nat.le_of_eq g_86.symm))
  have z_87 : n0 ≤ h_86.size := Nat.le_trans z_85 E_86.1
  have fi_86_bytes : Fld Z h_86 b_86 "com/example/tenure/tenure/store/ValueReader" "bytes" "[B" .null := D_86 (Or.inr (hw _ (List.mem_of_getElem? (i := 15) rfl))) (ty := (.array .byte)) (by decide)
  have fi_86_dictionary : Fld Z h_86 b_86 "com/example/tenure/tenure/store/ValueReader" "dictionary" "Lcom/example/tenure/tenure/store/ClassDictionary;" .null := D_86 (Or.inr (hw _ (List.mem_of_getElem? (i := 17) rfl))) (ty := (.object "com/example/tenure/tenure/store/ClassDictionary")) (by decide)
  have fi_86_position : Fld Z h_86 b_86 "com/example/tenure/tenure/store/ValueReader" "position" "I" (.int (0 : Int32)) := D_86 (Or.inl (hw _ (List.mem_of_getElem? (i := 38) rfl))) (ty := .int) (by decide)
  obtain ⟨_, _, ⟨T_88, L_88, k_88, n_88⟩, -, X_88, ⟨Lc_88, hQ_88, l_88, y_88, z_88⟩, st_88⟩ := X_86.specialBack hx (y := (⟨"com/example/tenure/tenure/store/ValueReader", "<init>", "([BLcom/example/tenure/tenure/store/ClassDictionary;)V"⟩ : MethodName)) rfl hown (mvT hZ (hw _ (List.mem_of_getElem? (i := 8) rfl))) (mvT hZ (hw _ (List.mem_of_getElem? (i := 9) rfl))) (mvT hZ (hw _ (List.mem_of_getElem? (i := 10) rfl))) (by decide) (backOf (W := 1) (rm2 l Z a0 hw [] b_86 b_78 h_86 n0 z_87 A_86 fi_86_bytes fi_86_dictionary fi_86_position g_b_86) hZ (hw _ (List.mem_of_getElem? (i := 10) rfl)) (hw _ (List.mem_of_getElem? (i := 7) rfl)) (by decide) (by decide)) (g := (mkF m 36 #[.val (.long q1), .second, .val (.long q2), .second, .val (.int p3), .val (.ref b_78), .unset, .unset, .unset, .unset, .unset] [.null, (.ref b_78), (.ref b_86), (.ref b_86)])) rfl (by rw [hml]; rfl) (Steps.refl _) (a := b_86) (argsL := [(.ref b_78), .null]) (rest := [(.ref b_86)]) (lenOf pd_1 rfl) rfl (by show 2 * 0 + _ ≤ _; exact Nat.le_of_eq rfl) (hb hby at_36) (fun _ _ => ⟨rfl, e_86, (by decide : 2 + 0 ≤ _), (by decide : 20 + 0 ≤ _)⟩)
  dsimp only [Pt.U, Pt.locs, Pt.cells, Pt.slots] at X_88 l_88 y_88 z_88 st_88 hQ_88
  replace X_88 := castS l_88 y_88 z_88 X_88
  obtain ⟨rfl, Nq_88, K_88, po_88_0, po_88_1, po_88_2⟩ := hQ_88
  have z_89 : n0 ≤ T_88.heap.size := Nat.le_trans z_87 K_88.1
  have N_88 := Fr.app N_84 Nq_88
  have f_90 : Arv Z T_88.heap b_78 k_78 .byte (17 : Int32) [(.int (nar .byte (((q1.toUInt64 >>> ((56 : Int32) &&& 0x3f).toInt64.toUInt64).toInt64).toInt32.toInt8.toInt32))), (.int (nar .byte (((q1.toUInt64 >>> ((48 : Int32) &&& 0x3f).toInt64.toUInt64).toInt64).toInt32.toInt8.toInt32))), (.int (nar .byte (((q1.toUInt64 >>> ((40 : Int32) &&& 0x3f).toInt64.toUInt64).toInt64).toInt32.toInt8.toInt32))), (.int (nar .byte (((q1.toUInt64 >>> ((32 : Int32) &&& 0x3f).toInt64.toUInt64).toInt64).toInt32.toInt8.toInt32))), (.int (nar .byte (((q1.toUInt64 >>> ((24 : Int32) &&& 0x3f).toInt64.toUInt64).toInt64).toInt32.toInt8.toInt32))), (.int (nar .byte (((q1.toUInt64 >>> ((16 : Int32) &&& 0x3f).toInt64.toUInt64).toInt64).toInt32.toInt8.toInt32))), (.int (nar .byte (((q1.toUInt64 >>> ((8 : Int32) &&& 0x3f).toInt64.toUInt64).toInt64).toInt32.toInt8.toInt32))), (.int (nar .byte (q1.toInt32.toInt8.toInt32))), (.int (nar .byte (((q2.toUInt64 >>> ((56 : Int32) &&& 0x3f).toInt64.toUInt64).toInt64).toInt32.toInt8.toInt32))), (.int (nar .byte (((q2.toUInt64 >>> ((48 : Int32) &&& 0x3f).toInt64.toUInt64).toInt64).toInt32.toInt8.toInt32))), (.int (nar .byte (((q2.toUInt64 >>> ((40 : Int32) &&& 0x3f).toInt64.toUInt64).toInt64).toInt32.toInt8.toInt32))), (.int (nar .byte (((q2.toUInt64 >>> ((32 : Int32) &&& 0x3f).toInt64.toUInt64).toInt64).toInt32.toInt8.toInt32))), (.int (nar .byte (((q2.toUInt64 >>> ((24 : Int32) &&& 0x3f).toInt64.toUInt64).toInt64).toInt32.toInt8.toInt32))), (.int (nar .byte (((q2.toUInt64 >>> ((16 : Int32) &&& 0x3f).toInt64.toUInt64).toInt64).toInt32.toInt8.toInt32))), (.int (nar .byte (((q2.toUInt64 >>> ((8 : Int32) &&& 0x3f).toInt64.toUInt64).toInt64).toInt32.toInt8.toInt32))), (.int (nar .byte (q2.toInt32.toInt8.toInt32))), (.int (nar .byte (p3.toInt8.toInt32)))] (.int (0 : Int32)) := ((V_84.ext E_86).keep K_88 (ninS ne_b_78_b_86 nin0))
  obtain ⟨cq_91, kq_91, qa_91, qb_91, qc_91⟩ := isOf hZ rfl po_88_0
  obtain ⟨_, _, ⟨T_91, L_91, k_91, n_91⟩, -, X_91, ⟨Lc_91, hQ_91, l_91, y_91, z_91⟩, st_91⟩ := X_88.virtualBack hx (y := (⟨"com/example/tenure/tenure/store/ValueReader", "readLong", "()J"⟩ : MethodName)) (z := (⟨"com/example/tenure/tenure/store/ValueReader", "readLong", "()J"⟩ : MethodName)) hown (mvT hZ (hw _ (List.mem_of_getElem? (i := 18) rfl))) (mvT hZ (hw _ (List.mem_of_getElem? (i := 19) rfl))) (notFace_of_selects (args := #[]) (mvT hZ (hw _ (List.mem_of_getElem? (i := 21) rfl)))) (mvT hZ (hw _ (List.mem_of_getElem? (i := 21) rfl))) (mvT hZ (hw _ (List.mem_of_getElem? (i := 20) rfl))) (by decide) (backOf (W := 0) (rm4_0 l Z a0 hw [] b_86 b_78 k_78 (nar .byte (((q1.toUInt64 >>> ((56 : Int32) &&& 0x3f).toInt64.toUInt64).toInt64).toInt32.toInt8.toInt32)) (nar .byte (((q1.toUInt64 >>> ((48 : Int32) &&& 0x3f).toInt64.toUInt64).toInt64).toInt32.toInt8.toInt32)) (nar .byte (((q1.toUInt64 >>> ((40 : Int32) &&& 0x3f).toInt64.toUInt64).toInt64).toInt32.toInt8.toInt32)) (nar .byte (((q1.toUInt64 >>> ((32 : Int32) &&& 0x3f).toInt64.toUInt64).toInt64).toInt32.toInt8.toInt32)) (nar .byte (((q1.toUInt64 >>> ((24 : Int32) &&& 0x3f).toInt64.toUInt64).toInt64).toInt32.toInt8.toInt32)) (nar .byte (((q1.toUInt64 >>> ((16 : Int32) &&& 0x3f).toInt64.toUInt64).toInt64).toInt32.toInt8.toInt32)) (nar .byte (((q1.toUInt64 >>> ((8 : Int32) &&& 0x3f).toInt64.toUInt64).toInt64).toInt32.toInt8.toInt32)) (nar .byte (q1.toInt32.toInt8.toInt32)) (nar .byte (((q2.toUInt64 >>> ((56 : Int32) &&& 0x3f).toInt64.toUInt64).toInt64).toInt32.toInt8.toInt32)) (nar .byte (((q2.toUInt64 >>> ((48 : Int32) &&& 0x3f).toInt64.toUInt64).toInt64).toInt32.toInt8.toInt32)) (nar .byte (((q2.toUInt64 >>> ((40 : Int32) &&& 0x3f).toInt64.toUInt64).toInt64).toInt32.toInt8.toInt32)) (nar .byte (((q2.toUInt64 >>> ((32 : Int32) &&& 0x3f).toInt64.toUInt64).toInt64).toInt32.toInt8.toInt32)) (nar .byte (((q2.toUInt64 >>> ((24 : Int32) &&& 0x3f).toInt64.toUInt64).toInt64).toInt32.toInt8.toInt32)) (nar .byte (((q2.toUInt64 >>> ((16 : Int32) &&& 0x3f).toInt64.toUInt64).toInt64).toInt32.toInt8.toInt32)) (nar .byte (((q2.toUInt64 >>> ((8 : Int32) &&& 0x3f).toInt64.toUInt64).toInt64).toInt32.toInt8.toInt32)) (nar .byte (q2.toInt32.toInt8.toInt32)) (nar .byte (p3.toInt8.toInt32)) T_88.heap n0 z_89 po_88_0 po_88_1 po_88_2 f_90 g_b_86 ne_b_78_b_86) hZ (hw _ (List.mem_of_getElem? (i := 22) rfl)) (hw _ (List.mem_of_getElem? (i := 7) rfl)) (by decide) (by decide)) qa_91 qc_91 (g := (mkF m 43 #[.val (.long q1), .second, .val (.long q2), .second, .val (.int p3), .val (.ref b_78), .val (.ref b_86), .unset, .unset, .unset, .unset] [(.ref b_86)])) rfl (by rw [hml]; rfl) (Steps.refl _) (argsL := []) (rest := []) (lenOf pd_3 rfl) rfl (by show 2 * 0 + _ ≤ _; exact Nat.le_of_eq rfl) (hb hby at_43) (fun _ _ => ⟨rfl, rfl, (by decide : 2 + 0 ≤ _), (by decide : 20 + 0 ≤ _)⟩)
  dsimp only [Pt.U, Pt.locs, Pt.cells, Pt.slots] at X_91 l_91 y_91 z_91 st_91 hQ_91
  replace X_91 := castS l_91 y_91 z_91 X_91
  obtain ⟨rfl, Nq_91, K_91, po_91_0, po_91_1, po_91_2⟩ := hQ_91
  have z_92 : n0 ≤ T_91.heap.size := Nat.le_trans z_89 K_91.1
  have N_91 := Fr.app N_88 Nq_91
  have f_93 : Arv Z T_91.heap b_78 k_78 .byte (17 : Int32) [(.int (nar .byte (((q1.toUInt64 >>> ((56 : Int32) &&& 0x3f).toInt64.toUInt64).toInt64).toInt32.toInt8.toInt32))), (.int (nar .byte (((q1.toUInt64 >>> ((48 : Int32) &&& 0x3f).toInt64.toUInt64).toInt64).toInt32.toInt8.toInt32))), (.int (nar .byte (((q1.toUInt64 >>> ((40 : Int32) &&& 0x3f).toInt64.toUInt64).toInt64).toInt32.toInt8.toInt32))), (.int (nar .byte (((q1.toUInt64 >>> ((32 : Int32) &&& 0x3f).toInt64.toUInt64).toInt64).toInt32.toInt8.toInt32))), (.int (nar .byte (((q1.toUInt64 >>> ((24 : Int32) &&& 0x3f).toInt64.toUInt64).toInt64).toInt32.toInt8.toInt32))), (.int (nar .byte (((q1.toUInt64 >>> ((16 : Int32) &&& 0x3f).toInt64.toUInt64).toInt64).toInt32.toInt8.toInt32))), (.int (nar .byte (((q1.toUInt64 >>> ((8 : Int32) &&& 0x3f).toInt64.toUInt64).toInt64).toInt32.toInt8.toInt32))), (.int (nar .byte (q1.toInt32.toInt8.toInt32))), (.int (nar .byte (((q2.toUInt64 >>> ((56 : Int32) &&& 0x3f).toInt64.toUInt64).toInt64).toInt32.toInt8.toInt32))), (.int (nar .byte (((q2.toUInt64 >>> ((48 : Int32) &&& 0x3f).toInt64.toUInt64).toInt64).toInt32.toInt8.toInt32))), (.int (nar .byte (((q2.toUInt64 >>> ((40 : Int32) &&& 0x3f).toInt64.toUInt64).toInt64).toInt32.toInt8.toInt32))), (.int (nar .byte (((q2.toUInt64 >>> ((32 : Int32) &&& 0x3f).toInt64.toUInt64).toInt64).toInt32.toInt8.toInt32))), (.int (nar .byte (((q2.toUInt64 >>> ((24 : Int32) &&& 0x3f).toInt64.toUInt64).toInt64).toInt32.toInt8.toInt32))), (.int (nar .byte (((q2.toUInt64 >>> ((16 : Int32) &&& 0x3f).toInt64.toUInt64).toInt64).toInt32.toInt8.toInt32))), (.int (nar .byte (((q2.toUInt64 >>> ((8 : Int32) &&& 0x3f).toInt64.toUInt64).toInt64).toInt32.toInt8.toInt32))), (.int (nar .byte (q2.toInt32.toInt8.toInt32))), (.int (nar .byte (p3.toInt8.toInt32)))] (.int (0 : Int32)) := (f_90.keep K_91 (ninS ne_b_78_b_86 nin0))
  obtain ⟨cq_94, kq_94, qa_94, qb_94, qc_94⟩ := isOf hZ rfl po_91_0
  obtain ⟨_, _, ⟨T_94, L_94, k_94, n_94⟩, -, X_94, ⟨Lc_94, hQ_94, l_94, y_94, z_94⟩, st_94⟩ := X_91.virtualBack hx (y := (⟨"com/example/tenure/tenure/store/ValueReader", "readLong", "()J"⟩ : MethodName)) (z := (⟨"com/example/tenure/tenure/store/ValueReader", "readLong", "()J"⟩ : MethodName)) hown (mvT hZ (hw _ (List.mem_of_getElem? (i := 18) rfl))) (mvT hZ (hw _ (List.mem_of_getElem? (i := 19) rfl))) (notFace_of_selects (args := #[]) (mvT hZ (hw _ (List.mem_of_getElem? (i := 21) rfl)))) (mvT hZ (hw _ (List.mem_of_getElem? (i := 21) rfl))) (mvT hZ (hw _ (List.mem_of_getElem? (i := 20) rfl))) (by decide) (backOf (W := 0) (rm4_8 l Z a0 hw [] b_86 b_78 k_78 (nar .byte (((q1.toUInt64 >>> ((56 : Int32) &&& 0x3f).toInt64.toUInt64).toInt64).toInt32.toInt8.toInt32)) (nar .byte (((q1.toUInt64 >>> ((48 : Int32) &&& 0x3f).toInt64.toUInt64).toInt64).toInt32.toInt8.toInt32)) (nar .byte (((q1.toUInt64 >>> ((40 : Int32) &&& 0x3f).toInt64.toUInt64).toInt64).toInt32.toInt8.toInt32)) (nar .byte (((q1.toUInt64 >>> ((32 : Int32) &&& 0x3f).toInt64.toUInt64).toInt64).toInt32.toInt8.toInt32)) (nar .byte (((q1.toUInt64 >>> ((24 : Int32) &&& 0x3f).toInt64.toUInt64).toInt64).toInt32.toInt8.toInt32)) (nar .byte (((q1.toUInt64 >>> ((16 : Int32) &&& 0x3f).toInt64.toUInt64).toInt64).toInt32.toInt8.toInt32)) (nar .byte (((q1.toUInt64 >>> ((8 : Int32) &&& 0x3f).toInt64.toUInt64).toInt64).toInt32.toInt8.toInt32)) (nar .byte (q1.toInt32.toInt8.toInt32)) (nar .byte (((q2.toUInt64 >>> ((56 : Int32) &&& 0x3f).toInt64.toUInt64).toInt64).toInt32.toInt8.toInt32)) (nar .byte (((q2.toUInt64 >>> ((48 : Int32) &&& 0x3f).toInt64.toUInt64).toInt64).toInt32.toInt8.toInt32)) (nar .byte (((q2.toUInt64 >>> ((40 : Int32) &&& 0x3f).toInt64.toUInt64).toInt64).toInt32.toInt8.toInt32)) (nar .byte (((q2.toUInt64 >>> ((32 : Int32) &&& 0x3f).toInt64.toUInt64).toInt64).toInt32.toInt8.toInt32)) (nar .byte (((q2.toUInt64 >>> ((24 : Int32) &&& 0x3f).toInt64.toUInt64).toInt64).toInt32.toInt8.toInt32)) (nar .byte (((q2.toUInt64 >>> ((16 : Int32) &&& 0x3f).toInt64.toUInt64).toInt64).toInt32.toInt8.toInt32)) (nar .byte (((q2.toUInt64 >>> ((8 : Int32) &&& 0x3f).toInt64.toUInt64).toInt64).toInt32.toInt8.toInt32)) (nar .byte (q2.toInt32.toInt8.toInt32)) (nar .byte (p3.toInt8.toInt32)) T_91.heap n0 z_92 po_91_0 po_91_1 po_91_2 f_93 g_b_86 ne_b_78_b_86) hZ (hw _ (List.mem_of_getElem? (i := 22) rfl)) (hw _ (List.mem_of_getElem? (i := 7) rfl)) (by decide) (by decide)) qa_94 qc_94 (g := (mkF m 50 #[.val (.long q1), .second, .val (.long q2), .second, .val (.int p3), .val (.ref b_78), .val (.ref b_86), .val (.long (own_long (own_int (nar .byte (((q1.toUInt64 >>> ((56 : Int32) &&& 0x3f).toInt64.toUInt64).toInt64).toInt32.toInt8.toInt32)) (nar .byte (((q1.toUInt64 >>> ((48 : Int32) &&& 0x3f).toInt64.toUInt64).toInt64).toInt32.toInt8.toInt32)) (nar .byte (((q1.toUInt64 >>> ((40 : Int32) &&& 0x3f).toInt64.toUInt64).toInt64).toInt32.toInt8.toInt32)) (nar .byte (((q1.toUInt64 >>> ((32 : Int32) &&& 0x3f).toInt64.toUInt64).toInt64).toInt32.toInt8.toInt32))) (own_int (nar .byte (((q1.toUInt64 >>> ((24 : Int32) &&& 0x3f).toInt64.toUInt64).toInt64).toInt32.toInt8.toInt32)) (nar .byte (((q1.toUInt64 >>> ((16 : Int32) &&& 0x3f).toInt64.toUInt64).toInt64).toInt32.toInt8.toInt32)) (nar .byte (((q1.toUInt64 >>> ((8 : Int32) &&& 0x3f).toInt64.toUInt64).toInt64).toInt32.toInt8.toInt32)) (nar .byte (q1.toInt32.toInt8.toInt32))))), .second, .unset, .unset] [(.ref b_86)])) rfl (by rw [hml]; rfl) (Steps.refl _) (argsL := []) (rest := []) (lenOf pd_3 rfl) rfl (by show 2 * 0 + _ ≤ _; exact Nat.le_of_eq rfl) (hb hby at_50) (fun _ _ => ⟨rfl, rfl, (by decide : 2 + 0 ≤ _), (by decide : 20 + 0 ≤ _)⟩)
  dsimp only [Pt.U, Pt.locs, Pt.cells, Pt.slots] at X_94 l_94 y_94 z_94 st_94 hQ_94
  replace X_94 := castS l_94 y_94 z_94 X_94
  obtain ⟨rfl, Nq_94, K_94, po_94_0, po_94_1, po_94_2⟩ := hQ_94
  have z_95 : n0 ≤ T_94.heap.size := Nat.le_trans z_92 K_94.1
  have N_94 := Fr.app N_91 Nq_94
  have f_96 : Arv Z T_94.heap b_78 k_78 .byte (17 : Int32) [(.int (nar .byte (((q1.toUInt64 >>> ((56 : Int32) &&& 0x3f).toInt64.toUInt64).toInt64).toInt32.toInt8.toInt32))), (.int (nar .byte (((q1.toUInt64 >>> ((48 : Int32) &&& 0x3f).toInt64.toUInt64).toInt64).toInt32.toInt8.toInt32))), (.int (nar .byte (((q1.toUInt64 >>> ((40 : Int32) &&& 0x3f).toInt64.toUInt64).toInt64).toInt32.toInt8.toInt32))), (.int (nar .byte (((q1.toUInt64 >>> ((32 : Int32) &&& 0x3f).toInt64.toUInt64).toInt64).toInt32.toInt8.toInt32))), (.int (nar .byte (((q1.toUInt64 >>> ((24 : Int32) &&& 0x3f).toInt64.toUInt64).toInt64).toInt32.toInt8.toInt32))), (.int (nar .byte (((q1.toUInt64 >>> ((16 : Int32) &&& 0x3f).toInt64.toUInt64).toInt64).toInt32.toInt8.toInt32))), (.int (nar .byte (((q1.toUInt64 >>> ((8 : Int32) &&& 0x3f).toInt64.toUInt64).toInt64).toInt32.toInt8.toInt32))), (.int (nar .byte (q1.toInt32.toInt8.toInt32))), (.int (nar .byte (((q2.toUInt64 >>> ((56 : Int32) &&& 0x3f).toInt64.toUInt64).toInt64).toInt32.toInt8.toInt32))), (.int (nar .byte (((q2.toUInt64 >>> ((48 : Int32) &&& 0x3f).toInt64.toUInt64).toInt64).toInt32.toInt8.toInt32))), (.int (nar .byte (((q2.toUInt64 >>> ((40 : Int32) &&& 0x3f).toInt64.toUInt64).toInt64).toInt32.toInt8.toInt32))), (.int (nar .byte (((q2.toUInt64 >>> ((32 : Int32) &&& 0x3f).toInt64.toUInt64).toInt64).toInt32.toInt8.toInt32))), (.int (nar .byte (((q2.toUInt64 >>> ((24 : Int32) &&& 0x3f).toInt64.toUInt64).toInt64).toInt32.toInt8.toInt32))), (.int (nar .byte (((q2.toUInt64 >>> ((16 : Int32) &&& 0x3f).toInt64.toUInt64).toInt64).toInt32.toInt8.toInt32))), (.int (nar .byte (((q2.toUInt64 >>> ((8 : Int32) &&& 0x3f).toInt64.toUInt64).toInt64).toInt32.toInt8.toInt32))), (.int (nar .byte (q2.toInt32.toInt8.toInt32))), (.int (nar .byte (p3.toInt8.toInt32)))] (.int (0 : Int32)) := (f_93.keep K_94 (ninS ne_b_78_b_86 nin0))
  obtain ⟨cq_97, kq_97, qa_97, qb_97, qc_97⟩ := isOf hZ rfl po_94_0
  obtain ⟨_, _, ⟨T_97, L_97, k_97, n_97⟩, -, X_97, ⟨Lc_97, hQ_97, l_97, y_97, z_97⟩, st_97⟩ := X_94.virtualBack hx (y := (⟨"com/example/tenure/tenure/store/ValueReader", "available", "()I"⟩ : MethodName)) (z := (⟨"com/example/tenure/tenure/store/ValueReader", "available", "()I"⟩ : MethodName)) hown (mvT hZ (hw _ (List.mem_of_getElem? (i := 40) rfl))) (mvT hZ (hw _ (List.mem_of_getElem? (i := 33) rfl))) (notFace_of_selects (args := #[]) (mvT hZ (hw _ (List.mem_of_getElem? (i := 35) rfl)))) (mvT hZ (hw _ (List.mem_of_getElem? (i := 35) rfl))) (mvT hZ (hw _ (List.mem_of_getElem? (i := 34) rfl))) (by decide) (backOf (W := 0) (rm7 l Z a0 hw [] b_86 b_78 (16 : Int32) k_78 (17 : Int32) ([(.int (nar .byte (((q1.toUInt64 >>> ((56 : Int32) &&& 0x3f).toInt64.toUInt64).toInt64).toInt32.toInt8.toInt32))), (.int (nar .byte (((q1.toUInt64 >>> ((48 : Int32) &&& 0x3f).toInt64.toUInt64).toInt64).toInt32.toInt8.toInt32))), (.int (nar .byte (((q1.toUInt64 >>> ((40 : Int32) &&& 0x3f).toInt64.toUInt64).toInt64).toInt32.toInt8.toInt32))), (.int (nar .byte (((q1.toUInt64 >>> ((32 : Int32) &&& 0x3f).toInt64.toUInt64).toInt64).toInt32.toInt8.toInt32))), (.int (nar .byte (((q1.toUInt64 >>> ((24 : Int32) &&& 0x3f).toInt64.toUInt64).toInt64).toInt32.toInt8.toInt32))), (.int (nar .byte (((q1.toUInt64 >>> ((16 : Int32) &&& 0x3f).toInt64.toUInt64).toInt64).toInt32.toInt8.toInt32))), (.int (nar .byte (((q1.toUInt64 >>> ((8 : Int32) &&& 0x3f).toInt64.toUInt64).toInt64).toInt32.toInt8.toInt32))), (.int (nar .byte (q1.toInt32.toInt8.toInt32))), (.int (nar .byte (((q2.toUInt64 >>> ((56 : Int32) &&& 0x3f).toInt64.toUInt64).toInt64).toInt32.toInt8.toInt32))), (.int (nar .byte (((q2.toUInt64 >>> ((48 : Int32) &&& 0x3f).toInt64.toUInt64).toInt64).toInt32.toInt8.toInt32))), (.int (nar .byte (((q2.toUInt64 >>> ((40 : Int32) &&& 0x3f).toInt64.toUInt64).toInt64).toInt32.toInt8.toInt32))), (.int (nar .byte (((q2.toUInt64 >>> ((32 : Int32) &&& 0x3f).toInt64.toUInt64).toInt64).toInt32.toInt8.toInt32))), (.int (nar .byte (((q2.toUInt64 >>> ((24 : Int32) &&& 0x3f).toInt64.toUInt64).toInt64).toInt32.toInt8.toInt32))), (.int (nar .byte (((q2.toUInt64 >>> ((16 : Int32) &&& 0x3f).toInt64.toUInt64).toInt64).toInt32.toInt8.toInt32))), (.int (nar .byte (((q2.toUInt64 >>> ((8 : Int32) &&& 0x3f).toInt64.toUInt64).toInt64).toInt32.toInt8.toInt32))), (.int (nar .byte (q2.toInt32.toInt8.toInt32))), (.int (nar .byte (p3.toInt8.toInt32)))] : List Value) T_94.heap n0 z_95 po_94_0 po_94_1 po_94_2 f_96) hZ (hw _ (List.mem_of_getElem? (i := 36) rfl)) (hw _ (List.mem_of_getElem? (i := 7) rfl)) (by decide) (by decide)) qa_97 qc_97 (g := (mkF m 71 #[.val (.long q1), .second, .val (.long q2), .second, .val (.int p3), .val (.ref b_78), .val (.ref b_86), .val (.long (own_long (own_int (nar .byte (((q1.toUInt64 >>> ((56 : Int32) &&& 0x3f).toInt64.toUInt64).toInt64).toInt32.toInt8.toInt32)) (nar .byte (((q1.toUInt64 >>> ((48 : Int32) &&& 0x3f).toInt64.toUInt64).toInt64).toInt32.toInt8.toInt32)) (nar .byte (((q1.toUInt64 >>> ((40 : Int32) &&& 0x3f).toInt64.toUInt64).toInt64).toInt32.toInt8.toInt32)) (nar .byte (((q1.toUInt64 >>> ((32 : Int32) &&& 0x3f).toInt64.toUInt64).toInt64).toInt32.toInt8.toInt32))) (own_int (nar .byte (((q1.toUInt64 >>> ((24 : Int32) &&& 0x3f).toInt64.toUInt64).toInt64).toInt32.toInt8.toInt32)) (nar .byte (((q1.toUInt64 >>> ((16 : Int32) &&& 0x3f).toInt64.toUInt64).toInt64).toInt32.toInt8.toInt32)) (nar .byte (((q1.toUInt64 >>> ((8 : Int32) &&& 0x3f).toInt64.toUInt64).toInt64).toInt32.toInt8.toInt32)) (nar .byte (q1.toInt32.toInt8.toInt32))))), .second, .val (.long (own_long (own_int (nar .byte (((q2.toUInt64 >>> ((56 : Int32) &&& 0x3f).toInt64.toUInt64).toInt64).toInt32.toInt8.toInt32)) (nar .byte (((q2.toUInt64 >>> ((48 : Int32) &&& 0x3f).toInt64.toUInt64).toInt64).toInt32.toInt8.toInt32)) (nar .byte (((q2.toUInt64 >>> ((40 : Int32) &&& 0x3f).toInt64.toUInt64).toInt64).toInt32.toInt8.toInt32)) (nar .byte (((q2.toUInt64 >>> ((32 : Int32) &&& 0x3f).toInt64.toUInt64).toInt64).toInt32.toInt8.toInt32))) (own_int (nar .byte (((q2.toUInt64 >>> ((24 : Int32) &&& 0x3f).toInt64.toUInt64).toInt64).toInt32.toInt8.toInt32)) (nar .byte (((q2.toUInt64 >>> ((16 : Int32) &&& 0x3f).toInt64.toUInt64).toInt64).toInt32.toInt8.toInt32)) (nar .byte (((q2.toUInt64 >>> ((8 : Int32) &&& 0x3f).toInt64.toUInt64).toInt64).toInt32.toInt8.toInt32)) (nar .byte (q2.toInt32.toInt8.toInt32))))), .second] [(.ref b_86)])) rfl (by rw [hml]; rfl) (Steps.refl _) (argsL := []) (rest := []) (lenOf pd_4 rfl) rfl (by show 2 * 0 + _ ≤ _; exact Nat.le_of_eq rfl) (hb hby at_71) (fun _ _ => ⟨rfl, rfl, (by decide : 2 + 0 ≤ _), (by decide : 20 + 0 ≤ _)⟩)
  dsimp only [Pt.U, Pt.locs, Pt.cells, Pt.slots] at X_97 l_97 y_97 z_97 st_97 hQ_97
  replace X_97 := castS l_97 y_97 z_97 X_97
  obtain ⟨rfl, Nq_97, e_97⟩ := hQ_97
  have N_97 := Fr.app N_94 Nq_97
  obtain ⟨fs, hr, hrun, hended, hW, hsame⟩ := X_97.leave (v := some (.int (1 : Int32))) (fun h => by rw [Bd.returns] at h; cases h)
  refine ⟨_, _, pre0 _ ?_, hrun, hended, _, _, rfl, ?_, ⟨_, rfl⟩, hW, hsame.mono (by decide) (by decide)⟩
  · show Steps p.tables e below (s₁.setTop (mkF m 0 #[.val (.long q1), .second, .val (.long q2), .second, .val (.int p3), .unset, .unset, .unset, .unset, .unset, .unset] [])) _
    refine XS.bipush X0.here hx rfl (hb hby at_0) ?_
    show Steps p.tables e below (s₁.setTop (mkF m 2 #[.val (.long q1), .second, .val (.long q2), .second, .val (.int p3), .unset, .unset, .unset, .unset, .unset, .unset] [(.int (17 : Int32))])) _
    refine st_78 _ ?_
    show Steps p.tables e below (T_78.setTop (mkF m 4 #[.val (.long q1), .second, .val (.long q2), .second, .val (.int p3), .unset, .unset, .unset, .unset, .unset, .unset] [(.ref b_78)])) _
    refine XS.astore X_78.here hx rfl (hb hby at_4) rfl rfl (l' := #[.val (.long q1), .second, .val (.long q2), .second, .val (.int p3), .val (.ref b_78), .unset, .unset, .unset, .unset, .unset]) rfl ?_
    show Steps p.tables e below (T_78.setTop (mkF m 6 #[.val (.long q1), .second, .val (.long q2), .second, .val (.int p3), .val (.ref b_78), .unset, .unset, .unset, .unset, .unset] [])) _
    refine XS.aload X_78.here hx rfl (hb hby at_6) rfl rfl ?_
    show Steps p.tables e below (T_78.setTop (mkF m 8 #[.val (.long q1), .second, .val (.long q2), .second, .val (.int p3), .val (.ref b_78), .unset, .unset, .unset, .unset, .unset] [(.ref b_78)])) _
    refine XS.iconst X_78.here hx rfl (hb hby at_8) ?_
    show Steps p.tables e below (T_78.setTop (mkF m 9 #[.val (.long q1), .second, .val (.long q2), .second, .val (.int p3), .val (.ref b_78), .unset, .unset, .unset, .unset, .unset] [(.int (0 : Int32)), (.ref b_78)])) _
    refine XS.lloadN X_78.here hx rfl (hb hby at_9) rfl ?_
    show Steps p.tables e below (T_78.setTop (mkF m 10 #[.val (.long q1), .second, .val (.long q2), .second, .val (.int p3), .val (.ref b_78), .unset, .unset, .unset, .unset, .unset] [(.long q1), (.int (0 : Int32)), (.ref b_78)])) _
    refine st_80 _ ?_
    show Steps p.tables e below (T_80.setTop (mkF m 13 #[.val (.long q1), .second, .val (.long q2), .second, .val (.int p3), .val (.ref b_78), .unset, .unset, .unset, .unset, .unset] [])) _
    refine XS.aload X_80.here hx rfl (hb hby at_13) rfl rfl ?_
    show Steps p.tables e below (T_80.setTop (mkF m 15 #[.val (.long q1), .second, .val (.long q2), .second, .val (.int p3), .val (.ref b_78), .unset, .unset, .unset, .unset, .unset] [(.ref b_78)])) _
    refine XS.bipush X_80.here hx rfl (hb hby at_15) ?_
    show Steps p.tables e below (T_80.setTop (mkF m 17 #[.val (.long q1), .second, .val (.long q2), .second, .val (.int p3), .val (.ref b_78), .unset, .unset, .unset, .unset, .unset] [(.int (8 : Int32)), (.ref b_78)])) _
    refine XS.lloadN X_80.here hx rfl (hb hby at_17) rfl ?_
    show Steps p.tables e below (T_80.setTop (mkF m 18 #[.val (.long q1), .second, .val (.long q2), .second, .val (.int p3), .val (.ref b_78), .unset, .unset, .unset, .unset, .unset] [(.long q2), (.int (8 : Int32)), (.ref b_78)])) _
    refine st_82 _ ?_
    show Steps p.tables e below (T_82.setTop (mkF m 21 #[.val (.long q1), .second, .val (.long q2), .second, .val (.int p3), .val (.ref b_78), .unset, .unset, .unset, .unset, .unset] [])) _
    refine XS.aload X_82.here hx rfl (hb hby at_21) rfl rfl ?_
    show Steps p.tables e below (T_82.setTop (mkF m 23 #[.val (.long q1), .second, .val (.long q2), .second, .val (.int p3), .val (.ref b_78), .unset, .unset, .unset, .unset, .unset] [(.ref b_78)])) _
    refine XS.bipush X_82.here hx rfl (hb hby at_23) ?_
    show Steps p.tables e below (T_82.setTop (mkF m 25 #[.val (.long q1), .second, .val (.long q2), .second, .val (.int p3), .val (.ref b_78), .unset, .unset, .unset, .unset, .unset] [(.int (16 : Int32)), (.ref b_78)])) _
    refine XS.iload X_82.here hx rfl (hb hby at_25) rfl ?_
    show Steps p.tables e below (T_82.setTop (mkF m 27 #[.val (.long q1), .second, .val (.long q2), .second, .val (.int p3), .val (.ref b_78), .unset, .unset, .unset, .unset, .unset] [(.int p3), (.int (16 : Int32)), (.ref b_78)])) _
    refine XS.i2b X_82.here hx rfl (hb hby at_27) rfl ?_
    show Steps p.tables e below (T_82.setTop (mkF m 28 #[.val (.long q1), .second, .val (.long q2), .second, .val (.int p3), .val (.ref b_78), .unset, .unset, .unset, .unset, .unset] [(.int (p3.toInt8.toInt32)), (.int (16 : Int32)), (.ref b_78)])) _
    refine st_84 _ ?_
    show Steps p.tables e below (T_84.setTop (mkF m 29 #[.val (.long q1), .second, .val (.long q2), .second, .val (.int p3), .val (.ref b_78), .unset, .unset, .unset, .unset, .unset] [])) _
    refine st_86 _ ?_
    show Steps p.tables e below (T_86.setTop (mkF m 32 #[.val (.long q1), .second, .val (.long q2), .second, .val (.int p3), .val (.ref b_78), .unset, .unset, .unset, .unset, .unset] [(.ref b_86)])) _
    refine XS.dup X_86.here hx rfl (hb hby at_32) rfl rfl ?_
    show Steps p.tables e below (T_86.setTop (mkF m 33 #[.val (.long q1), .second, .val (.long q2), .second, .val (.int p3), .val (.ref b_78), .unset, .unset, .unset, .unset, .unset] [(.ref b_86), (.ref b_86)])) _
    refine XS.aload X_86.here hx rfl (hb hby at_33) rfl rfl ?_
    show Steps p.tables e below (T_86.setTop (mkF m 35 #[.val (.long q1), .second, .val (.long q2), .second, .val (.int p3), .val (.ref b_78), .unset, .unset, .unset, .unset, .unset] [(.ref b_78), (.ref b_86), (.ref b_86)])) _
    refine XS.aconstNull X_86.here hx rfl (hb hby at_35) ?_
    show Steps p.tables e below (T_86.setTop (mkF m 36 #[.val (.long q1), .second, .val (.long q2), .second, .val (.int p3), .val (.ref b_78), .unset, .unset, .unset, .unset, .unset] [.null, (.ref b_78), (.ref b_86), (.ref b_86)])) _
    refine st_88.trans ?_
    show Steps p.tables e below (T_88.setTop (mkF m 39 #[.val (.long q1), .second, .val (.long q2), .second, .val (.int p3), .val (.ref b_78), .unset, .unset, .unset, .unset, .unset] [(.ref b_86)])) _
    refine XS.astore X_88.here hx rfl (hb hby at_39) rfl rfl (l' := #[.val (.long q1), .second, .val (.long q2), .second, .val (.int p3), .val (.ref b_78), .val (.ref b_86), .unset, .unset, .unset, .unset]) rfl ?_
    show Steps p.tables e below (T_88.setTop (mkF m 41 #[.val (.long q1), .second, .val (.long q2), .second, .val (.int p3), .val (.ref b_78), .val (.ref b_86), .unset, .unset, .unset, .unset] [])) _
    refine XS.aload X_88.here hx rfl (hb hby at_41) rfl rfl ?_
    show Steps p.tables e below (T_88.setTop (mkF m 43 #[.val (.long q1), .second, .val (.long q2), .second, .val (.int p3), .val (.ref b_78), .val (.ref b_86), .unset, .unset, .unset, .unset] [(.ref b_86)])) _
    refine st_91.trans ?_
    show Steps p.tables e below (T_91.setTop (mkF m 46 #[.val (.long q1), .second, .val (.long q2), .second, .val (.int p3), .val (.ref b_78), .val (.ref b_86), .unset, .unset, .unset, .unset] [(.long (own_long (own_int (nar .byte (((q1.toUInt64 >>> ((56 : Int32) &&& 0x3f).toInt64.toUInt64).toInt64).toInt32.toInt8.toInt32)) (nar .byte (((q1.toUInt64 >>> ((48 : Int32) &&& 0x3f).toInt64.toUInt64).toInt64).toInt32.toInt8.toInt32)) (nar .byte (((q1.toUInt64 >>> ((40 : Int32) &&& 0x3f).toInt64.toUInt64).toInt64).toInt32.toInt8.toInt32)) (nar .byte (((q1.toUInt64 >>> ((32 : Int32) &&& 0x3f).toInt64.toUInt64).toInt64).toInt32.toInt8.toInt32))) (own_int (nar .byte (((q1.toUInt64 >>> ((24 : Int32) &&& 0x3f).toInt64.toUInt64).toInt64).toInt32.toInt8.toInt32)) (nar .byte (((q1.toUInt64 >>> ((16 : Int32) &&& 0x3f).toInt64.toUInt64).toInt64).toInt32.toInt8.toInt32)) (nar .byte (((q1.toUInt64 >>> ((8 : Int32) &&& 0x3f).toInt64.toUInt64).toInt64).toInt32.toInt8.toInt32)) (nar .byte (q1.toInt32.toInt8.toInt32)))))])) _
    refine XS.lstore X_91.here hx rfl (hb hby at_46) rfl (l' := #[.val (.long q1), .second, .val (.long q2), .second, .val (.int p3), .val (.ref b_78), .val (.ref b_86), .val (.long (own_long (own_int (nar .byte (((q1.toUInt64 >>> ((56 : Int32) &&& 0x3f).toInt64.toUInt64).toInt64).toInt32.toInt8.toInt32)) (nar .byte (((q1.toUInt64 >>> ((48 : Int32) &&& 0x3f).toInt64.toUInt64).toInt64).toInt32.toInt8.toInt32)) (nar .byte (((q1.toUInt64 >>> ((40 : Int32) &&& 0x3f).toInt64.toUInt64).toInt64).toInt32.toInt8.toInt32)) (nar .byte (((q1.toUInt64 >>> ((32 : Int32) &&& 0x3f).toInt64.toUInt64).toInt64).toInt32.toInt8.toInt32))) (own_int (nar .byte (((q1.toUInt64 >>> ((24 : Int32) &&& 0x3f).toInt64.toUInt64).toInt64).toInt32.toInt8.toInt32)) (nar .byte (((q1.toUInt64 >>> ((16 : Int32) &&& 0x3f).toInt64.toUInt64).toInt64).toInt32.toInt8.toInt32)) (nar .byte (((q1.toUInt64 >>> ((8 : Int32) &&& 0x3f).toInt64.toUInt64).toInt64).toInt32.toInt8.toInt32)) (nar .byte (q1.toInt32.toInt8.toInt32))))), .second, .unset, .unset]) rfl ?_
    show Steps p.tables e below (T_91.setTop (mkF m 48 #[.val (.long q1), .second, .val (.long q2), .second, .val (.int p3), .val (.ref b_78), .val (.ref b_86), .val (.long (own_long (own_int (nar .byte (((q1.toUInt64 >>> ((56 : Int32) &&& 0x3f).toInt64.toUInt64).toInt64).toInt32.toInt8.toInt32)) (nar .byte (((q1.toUInt64 >>> ((48 : Int32) &&& 0x3f).toInt64.toUInt64).toInt64).toInt32.toInt8.toInt32)) (nar .byte (((q1.toUInt64 >>> ((40 : Int32) &&& 0x3f).toInt64.toUInt64).toInt64).toInt32.toInt8.toInt32)) (nar .byte (((q1.toUInt64 >>> ((32 : Int32) &&& 0x3f).toInt64.toUInt64).toInt64).toInt32.toInt8.toInt32))) (own_int (nar .byte (((q1.toUInt64 >>> ((24 : Int32) &&& 0x3f).toInt64.toUInt64).toInt64).toInt32.toInt8.toInt32)) (nar .byte (((q1.toUInt64 >>> ((16 : Int32) &&& 0x3f).toInt64.toUInt64).toInt64).toInt32.toInt8.toInt32)) (nar .byte (((q1.toUInt64 >>> ((8 : Int32) &&& 0x3f).toInt64.toUInt64).toInt64).toInt32.toInt8.toInt32)) (nar .byte (q1.toInt32.toInt8.toInt32))))), .second, .unset, .unset] [])) _
    refine XS.aload X_91.here hx rfl (hb hby at_48) rfl rfl ?_
    show Steps p.tables e below (T_91.setTop (mkF m 50 #[.val (.long q1), .second, .val (.long q2), .second, .val (.int p3), .val (.ref b_78), .val (.ref b_86), .val (.long (own_long (own_int (nar .byte (((q1.toUInt64 >>> ((56 : Int32) &&& 0x3f).toInt64.toUInt64).toInt64).toInt32.toInt8.toInt32)) (nar .byte (((q1.toUInt64 >>> ((48 : Int32) &&& 0x3f).toInt64.toUInt64).toInt64).toInt32.toInt8.toInt32)) (nar .byte (((q1.toUInt64 >>> ((40 : Int32) &&& 0x3f).toInt64.toUInt64).toInt64).toInt32.toInt8.toInt32)) (nar .byte (((q1.toUInt64 >>> ((32 : Int32) &&& 0x3f).toInt64.toUInt64).toInt64).toInt32.toInt8.toInt32))) (own_int (nar .byte (((q1.toUInt64 >>> ((24 : Int32) &&& 0x3f).toInt64.toUInt64).toInt64).toInt32.toInt8.toInt32)) (nar .byte (((q1.toUInt64 >>> ((16 : Int32) &&& 0x3f).toInt64.toUInt64).toInt64).toInt32.toInt8.toInt32)) (nar .byte (((q1.toUInt64 >>> ((8 : Int32) &&& 0x3f).toInt64.toUInt64).toInt64).toInt32.toInt8.toInt32)) (nar .byte (q1.toInt32.toInt8.toInt32))))), .second, .unset, .unset] [(.ref b_86)])) _
    refine st_94.trans ?_
    show Steps p.tables e below (T_94.setTop (mkF m 53 #[.val (.long q1), .second, .val (.long q2), .second, .val (.int p3), .val (.ref b_78), .val (.ref b_86), .val (.long (own_long (own_int (nar .byte (((q1.toUInt64 >>> ((56 : Int32) &&& 0x3f).toInt64.toUInt64).toInt64).toInt32.toInt8.toInt32)) (nar .byte (((q1.toUInt64 >>> ((48 : Int32) &&& 0x3f).toInt64.toUInt64).toInt64).toInt32.toInt8.toInt32)) (nar .byte (((q1.toUInt64 >>> ((40 : Int32) &&& 0x3f).toInt64.toUInt64).toInt64).toInt32.toInt8.toInt32)) (nar .byte (((q1.toUInt64 >>> ((32 : Int32) &&& 0x3f).toInt64.toUInt64).toInt64).toInt32.toInt8.toInt32))) (own_int (nar .byte (((q1.toUInt64 >>> ((24 : Int32) &&& 0x3f).toInt64.toUInt64).toInt64).toInt32.toInt8.toInt32)) (nar .byte (((q1.toUInt64 >>> ((16 : Int32) &&& 0x3f).toInt64.toUInt64).toInt64).toInt32.toInt8.toInt32)) (nar .byte (((q1.toUInt64 >>> ((8 : Int32) &&& 0x3f).toInt64.toUInt64).toInt64).toInt32.toInt8.toInt32)) (nar .byte (q1.toInt32.toInt8.toInt32))))), .second, .unset, .unset] [(.long (own_long (own_int (nar .byte (((q2.toUInt64 >>> ((56 : Int32) &&& 0x3f).toInt64.toUInt64).toInt64).toInt32.toInt8.toInt32)) (nar .byte (((q2.toUInt64 >>> ((48 : Int32) &&& 0x3f).toInt64.toUInt64).toInt64).toInt32.toInt8.toInt32)) (nar .byte (((q2.toUInt64 >>> ((40 : Int32) &&& 0x3f).toInt64.toUInt64).toInt64).toInt32.toInt8.toInt32)) (nar .byte (((q2.toUInt64 >>> ((32 : Int32) &&& 0x3f).toInt64.toUInt64).toInt64).toInt32.toInt8.toInt32))) (own_int (nar .byte (((q2.toUInt64 >>> ((24 : Int32) &&& 0x3f).toInt64.toUInt64).toInt64).toInt32.toInt8.toInt32)) (nar .byte (((q2.toUInt64 >>> ((16 : Int32) &&& 0x3f).toInt64.toUInt64).toInt64).toInt32.toInt8.toInt32)) (nar .byte (((q2.toUInt64 >>> ((8 : Int32) &&& 0x3f).toInt64.toUInt64).toInt64).toInt32.toInt8.toInt32)) (nar .byte (q2.toInt32.toInt8.toInt32)))))])) _
    refine XS.lstore X_94.here hx rfl (hb hby at_53) rfl (l' := #[.val (.long q1), .second, .val (.long q2), .second, .val (.int p3), .val (.ref b_78), .val (.ref b_86), .val (.long (own_long (own_int (nar .byte (((q1.toUInt64 >>> ((56 : Int32) &&& 0x3f).toInt64.toUInt64).toInt64).toInt32.toInt8.toInt32)) (nar .byte (((q1.toUInt64 >>> ((48 : Int32) &&& 0x3f).toInt64.toUInt64).toInt64).toInt32.toInt8.toInt32)) (nar .byte (((q1.toUInt64 >>> ((40 : Int32) &&& 0x3f).toInt64.toUInt64).toInt64).toInt32.toInt8.toInt32)) (nar .byte (((q1.toUInt64 >>> ((32 : Int32) &&& 0x3f).toInt64.toUInt64).toInt64).toInt32.toInt8.toInt32))) (own_int (nar .byte (((q1.toUInt64 >>> ((24 : Int32) &&& 0x3f).toInt64.toUInt64).toInt64).toInt32.toInt8.toInt32)) (nar .byte (((q1.toUInt64 >>> ((16 : Int32) &&& 0x3f).toInt64.toUInt64).toInt64).toInt32.toInt8.toInt32)) (nar .byte (((q1.toUInt64 >>> ((8 : Int32) &&& 0x3f).toInt64.toUInt64).toInt64).toInt32.toInt8.toInt32)) (nar .byte (q1.toInt32.toInt8.toInt32))))), .second, .val (.long (own_long (own_int (nar .byte (((q2.toUInt64 >>> ((56 : Int32) &&& 0x3f).toInt64.toUInt64).toInt64).toInt32.toInt8.toInt32)) (nar .byte (((q2.toUInt64 >>> ((48 : Int32) &&& 0x3f).toInt64.toUInt64).toInt64).toInt32.toInt8.toInt32)) (nar .byte (((q2.toUInt64 >>> ((40 : Int32) &&& 0x3f).toInt64.toUInt64).toInt64).toInt32.toInt8.toInt32)) (nar .byte (((q2.toUInt64 >>> ((32 : Int32) &&& 0x3f).toInt64.toUInt64).toInt64).toInt32.toInt8.toInt32))) (own_int (nar .byte (((q2.toUInt64 >>> ((24 : Int32) &&& 0x3f).toInt64.toUInt64).toInt64).toInt32.toInt8.toInt32)) (nar .byte (((q2.toUInt64 >>> ((16 : Int32) &&& 0x3f).toInt64.toUInt64).toInt64).toInt32.toInt8.toInt32)) (nar .byte (((q2.toUInt64 >>> ((8 : Int32) &&& 0x3f).toInt64.toUInt64).toInt64).toInt32.toInt8.toInt32)) (nar .byte (q2.toInt32.toInt8.toInt32))))), .second]) rfl ?_
    show Steps p.tables e below (T_94.setTop (mkF m 55 #[.val (.long q1), .second, .val (.long q2), .second, .val (.int p3), .val (.ref b_78), .val (.ref b_86), .val (.long (own_long (own_int (nar .byte (((q1.toUInt64 >>> ((56 : Int32) &&& 0x3f).toInt64.toUInt64).toInt64).toInt32.toInt8.toInt32)) (nar .byte (((q1.toUInt64 >>> ((48 : Int32) &&& 0x3f).toInt64.toUInt64).toInt64).toInt32.toInt8.toInt32)) (nar .byte (((q1.toUInt64 >>> ((40 : Int32) &&& 0x3f).toInt64.toUInt64).toInt64).toInt32.toInt8.toInt32)) (nar .byte (((q1.toUInt64 >>> ((32 : Int32) &&& 0x3f).toInt64.toUInt64).toInt64).toInt32.toInt8.toInt32))) (own_int (nar .byte (((q1.toUInt64 >>> ((24 : Int32) &&& 0x3f).toInt64.toUInt64).toInt64).toInt32.toInt8.toInt32)) (nar .byte (((q1.toUInt64 >>> ((16 : Int32) &&& 0x3f).toInt64.toUInt64).toInt64).toInt32.toInt8.toInt32)) (nar .byte (((q1.toUInt64 >>> ((8 : Int32) &&& 0x3f).toInt64.toUInt64).toInt64).toInt32.toInt8.toInt32)) (nar .byte (q1.toInt32.toInt8.toInt32))))), .second, .val (.long (own_long (own_int (nar .byte (((q2.toUInt64 >>> ((56 : Int32) &&& 0x3f).toInt64.toUInt64).toInt64).toInt32.toInt8.toInt32)) (nar .byte (((q2.toUInt64 >>> ((48 : Int32) &&& 0x3f).toInt64.toUInt64).toInt64).toInt32.toInt8.toInt32)) (nar .byte (((q2.toUInt64 >>> ((40 : Int32) &&& 0x3f).toInt64.toUInt64).toInt64).toInt32.toInt8.toInt32)) (nar .byte (((q2.toUInt64 >>> ((32 : Int32) &&& 0x3f).toInt64.toUInt64).toInt64).toInt32.toInt8.toInt32))) (own_int (nar .byte (((q2.toUInt64 >>> ((24 : Int32) &&& 0x3f).toInt64.toUInt64).toInt64).toInt32.toInt8.toInt32)) (nar .byte (((q2.toUInt64 >>> ((16 : Int32) &&& 0x3f).toInt64.toUInt64).toInt64).toInt32.toInt8.toInt32)) (nar .byte (((q2.toUInt64 >>> ((8 : Int32) &&& 0x3f).toInt64.toUInt64).toInt64).toInt32.toInt8.toInt32)) (nar .byte (q2.toInt32.toInt8.toInt32))))), .second] [])) _
    refine XS.lload X_94.here hx rfl (hb hby at_55) rfl ?_
    show Steps p.tables e below (T_94.setTop (mkF m 57 #[.val (.long q1), .second, .val (.long q2), .second, .val (.int p3), .val (.ref b_78), .val (.ref b_86), .val (.long (own_long (own_int (nar .byte (((q1.toUInt64 >>> ((56 : Int32) &&& 0x3f).toInt64.toUInt64).toInt64).toInt32.toInt8.toInt32)) (nar .byte (((q1.toUInt64 >>> ((48 : Int32) &&& 0x3f).toInt64.toUInt64).toInt64).toInt32.toInt8.toInt32)) (nar .byte (((q1.toUInt64 >>> ((40 : Int32) &&& 0x3f).toInt64.toUInt64).toInt64).toInt32.toInt8.toInt32)) (nar .byte (((q1.toUInt64 >>> ((32 : Int32) &&& 0x3f).toInt64.toUInt64).toInt64).toInt32.toInt8.toInt32))) (own_int (nar .byte (((q1.toUInt64 >>> ((24 : Int32) &&& 0x3f).toInt64.toUInt64).toInt64).toInt32.toInt8.toInt32)) (nar .byte (((q1.toUInt64 >>> ((16 : Int32) &&& 0x3f).toInt64.toUInt64).toInt64).toInt32.toInt8.toInt32)) (nar .byte (((q1.toUInt64 >>> ((8 : Int32) &&& 0x3f).toInt64.toUInt64).toInt64).toInt32.toInt8.toInt32)) (nar .byte (q1.toInt32.toInt8.toInt32))))), .second, .val (.long (own_long (own_int (nar .byte (((q2.toUInt64 >>> ((56 : Int32) &&& 0x3f).toInt64.toUInt64).toInt64).toInt32.toInt8.toInt32)) (nar .byte (((q2.toUInt64 >>> ((48 : Int32) &&& 0x3f).toInt64.toUInt64).toInt64).toInt32.toInt8.toInt32)) (nar .byte (((q2.toUInt64 >>> ((40 : Int32) &&& 0x3f).toInt64.toUInt64).toInt64).toInt32.toInt8.toInt32)) (nar .byte (((q2.toUInt64 >>> ((32 : Int32) &&& 0x3f).toInt64.toUInt64).toInt64).toInt32.toInt8.toInt32))) (own_int (nar .byte (((q2.toUInt64 >>> ((24 : Int32) &&& 0x3f).toInt64.toUInt64).toInt64).toInt32.toInt8.toInt32)) (nar .byte (((q2.toUInt64 >>> ((16 : Int32) &&& 0x3f).toInt64.toUInt64).toInt64).toInt32.toInt8.toInt32)) (nar .byte (((q2.toUInt64 >>> ((8 : Int32) &&& 0x3f).toInt64.toUInt64).toInt64).toInt32.toInt8.toInt32)) (nar .byte (q2.toInt32.toInt8.toInt32))))), .second] [(.long (own_long (own_int (nar .byte (((q1.toUInt64 >>> ((56 : Int32) &&& 0x3f).toInt64.toUInt64).toInt64).toInt32.toInt8.toInt32)) (nar .byte (((q1.toUInt64 >>> ((48 : Int32) &&& 0x3f).toInt64.toUInt64).toInt64).toInt32.toInt8.toInt32)) (nar .byte (((q1.toUInt64 >>> ((40 : Int32) &&& 0x3f).toInt64.toUInt64).toInt64).toInt32.toInt8.toInt32)) (nar .byte (((q1.toUInt64 >>> ((32 : Int32) &&& 0x3f).toInt64.toUInt64).toInt64).toInt32.toInt8.toInt32))) (own_int (nar .byte (((q1.toUInt64 >>> ((24 : Int32) &&& 0x3f).toInt64.toUInt64).toInt64).toInt32.toInt8.toInt32)) (nar .byte (((q1.toUInt64 >>> ((16 : Int32) &&& 0x3f).toInt64.toUInt64).toInt64).toInt32.toInt8.toInt32)) (nar .byte (((q1.toUInt64 >>> ((8 : Int32) &&& 0x3f).toInt64.toUInt64).toInt64).toInt32.toInt8.toInt32)) (nar .byte (q1.toInt32.toInt8.toInt32)))))])) _
    refine XS.lloadN X_94.here hx rfl (hb hby at_57) rfl ?_
    show Steps p.tables e below (T_94.setTop (mkF m 58 #[.val (.long q1), .second, .val (.long q2), .second, .val (.int p3), .val (.ref b_78), .val (.ref b_86), .val (.long (own_long (own_int (nar .byte (((q1.toUInt64 >>> ((56 : Int32) &&& 0x3f).toInt64.toUInt64).toInt64).toInt32.toInt8.toInt32)) (nar .byte (((q1.toUInt64 >>> ((48 : Int32) &&& 0x3f).toInt64.toUInt64).toInt64).toInt32.toInt8.toInt32)) (nar .byte (((q1.toUInt64 >>> ((40 : Int32) &&& 0x3f).toInt64.toUInt64).toInt64).toInt32.toInt8.toInt32)) (nar .byte (((q1.toUInt64 >>> ((32 : Int32) &&& 0x3f).toInt64.toUInt64).toInt64).toInt32.toInt8.toInt32))) (own_int (nar .byte (((q1.toUInt64 >>> ((24 : Int32) &&& 0x3f).toInt64.toUInt64).toInt64).toInt32.toInt8.toInt32)) (nar .byte (((q1.toUInt64 >>> ((16 : Int32) &&& 0x3f).toInt64.toUInt64).toInt64).toInt32.toInt8.toInt32)) (nar .byte (((q1.toUInt64 >>> ((8 : Int32) &&& 0x3f).toInt64.toUInt64).toInt64).toInt32.toInt8.toInt32)) (nar .byte (q1.toInt32.toInt8.toInt32))))), .second, .val (.long (own_long (own_int (nar .byte (((q2.toUInt64 >>> ((56 : Int32) &&& 0x3f).toInt64.toUInt64).toInt64).toInt32.toInt8.toInt32)) (nar .byte (((q2.toUInt64 >>> ((48 : Int32) &&& 0x3f).toInt64.toUInt64).toInt64).toInt32.toInt8.toInt32)) (nar .byte (((q2.toUInt64 >>> ((40 : Int32) &&& 0x3f).toInt64.toUInt64).toInt64).toInt32.toInt8.toInt32)) (nar .byte (((q2.toUInt64 >>> ((32 : Int32) &&& 0x3f).toInt64.toUInt64).toInt64).toInt32.toInt8.toInt32))) (own_int (nar .byte (((q2.toUInt64 >>> ((24 : Int32) &&& 0x3f).toInt64.toUInt64).toInt64).toInt32.toInt8.toInt32)) (nar .byte (((q2.toUInt64 >>> ((16 : Int32) &&& 0x3f).toInt64.toUInt64).toInt64).toInt32.toInt8.toInt32)) (nar .byte (((q2.toUInt64 >>> ((8 : Int32) &&& 0x3f).toInt64.toUInt64).toInt64).toInt32.toInt8.toInt32)) (nar .byte (q2.toInt32.toInt8.toInt32))))), .second] [(.long q1), (.long (own_long (own_int (nar .byte (((q1.toUInt64 >>> ((56 : Int32) &&& 0x3f).toInt64.toUInt64).toInt64).toInt32.toInt8.toInt32)) (nar .byte (((q1.toUInt64 >>> ((48 : Int32) &&& 0x3f).toInt64.toUInt64).toInt64).toInt32.toInt8.toInt32)) (nar .byte (((q1.toUInt64 >>> ((40 : Int32) &&& 0x3f).toInt64.toUInt64).toInt64).toInt32.toInt8.toInt32)) (nar .byte (((q1.toUInt64 >>> ((32 : Int32) &&& 0x3f).toInt64.toUInt64).toInt64).toInt32.toInt8.toInt32))) (own_int (nar .byte (((q1.toUInt64 >>> ((24 : Int32) &&& 0x3f).toInt64.toUInt64).toInt64).toInt32.toInt8.toInt32)) (nar .byte (((q1.toUInt64 >>> ((16 : Int32) &&& 0x3f).toInt64.toUInt64).toInt64).toInt32.toInt8.toInt32)) (nar .byte (((q1.toUInt64 >>> ((8 : Int32) &&& 0x3f).toInt64.toUInt64).toInt64).toInt32.toInt8.toInt32)) (nar .byte (q1.toInt32.toInt8.toInt32)))))])) _
    refine XS.lcmp X_94.here hx rfl (hb hby at_58) rfl ?_
    show Steps p.tables e below (T_94.setTop (mkF m 59 #[.val (.long q1), .second, .val (.long q2), .second, .val (.int p3), .val (.ref b_78), .val (.ref b_86), .val (.long (own_long (own_int (nar .byte (((q1.toUInt64 >>> ((56 : Int32) &&& 0x3f).toInt64.toUInt64).toInt64).toInt32.toInt8.toInt32)) (nar .byte (((q1.toUInt64 >>> ((48 : Int32) &&& 0x3f).toInt64.toUInt64).toInt64).toInt32.toInt8.toInt32)) (nar .byte (((q1.toUInt64 >>> ((40 : Int32) &&& 0x3f).toInt64.toUInt64).toInt64).toInt32.toInt8.toInt32)) (nar .byte (((q1.toUInt64 >>> ((32 : Int32) &&& 0x3f).toInt64.toUInt64).toInt64).toInt32.toInt8.toInt32))) (own_int (nar .byte (((q1.toUInt64 >>> ((24 : Int32) &&& 0x3f).toInt64.toUInt64).toInt64).toInt32.toInt8.toInt32)) (nar .byte (((q1.toUInt64 >>> ((16 : Int32) &&& 0x3f).toInt64.toUInt64).toInt64).toInt32.toInt8.toInt32)) (nar .byte (((q1.toUInt64 >>> ((8 : Int32) &&& 0x3f).toInt64.toUInt64).toInt64).toInt32.toInt8.toInt32)) (nar .byte (q1.toInt32.toInt8.toInt32))))), .second, .val (.long (own_long (own_int (nar .byte (((q2.toUInt64 >>> ((56 : Int32) &&& 0x3f).toInt64.toUInt64).toInt64).toInt32.toInt8.toInt32)) (nar .byte (((q2.toUInt64 >>> ((48 : Int32) &&& 0x3f).toInt64.toUInt64).toInt64).toInt32.toInt8.toInt32)) (nar .byte (((q2.toUInt64 >>> ((40 : Int32) &&& 0x3f).toInt64.toUInt64).toInt64).toInt32.toInt8.toInt32)) (nar .byte (((q2.toUInt64 >>> ((32 : Int32) &&& 0x3f).toInt64.toUInt64).toInt64).toInt32.toInt8.toInt32))) (own_int (nar .byte (((q2.toUInt64 >>> ((24 : Int32) &&& 0x3f).toInt64.toUInt64).toInt64).toInt32.toInt8.toInt32)) (nar .byte (((q2.toUInt64 >>> ((16 : Int32) &&& 0x3f).toInt64.toUInt64).toInt64).toInt32.toInt8.toInt32)) (nar .byte (((q2.toUInt64 >>> ((8 : Int32) &&& 0x3f).toInt64.toUInt64).toInt64).toInt32.toInt8.toInt32)) (nar .byte (q2.toInt32.toInt8.toInt32))))), .second] [(.int (lcmpW (own_long (own_int (nar .byte (((q1.toUInt64 >>> ((56 : Int32) &&& 0x3f).toInt64.toUInt64).toInt64).toInt32.toInt8.toInt32)) (nar .byte (((q1.toUInt64 >>> ((48 : Int32) &&& 0x3f).toInt64.toUInt64).toInt64).toInt32.toInt8.toInt32)) (nar .byte (((q1.toUInt64 >>> ((40 : Int32) &&& 0x3f).toInt64.toUInt64).toInt64).toInt32.toInt8.toInt32)) (nar .byte (((q1.toUInt64 >>> ((32 : Int32) &&& 0x3f).toInt64.toUInt64).toInt64).toInt32.toInt8.toInt32))) (own_int (nar .byte (((q1.toUInt64 >>> ((24 : Int32) &&& 0x3f).toInt64.toUInt64).toInt64).toInt32.toInt8.toInt32)) (nar .byte (((q1.toUInt64 >>> ((16 : Int32) &&& 0x3f).toInt64.toUInt64).toInt64).toInt32.toInt8.toInt32)) (nar .byte (((q1.toUInt64 >>> ((8 : Int32) &&& 0x3f).toInt64.toUInt64).toInt64).toInt32.toInt8.toInt32)) (nar .byte (q1.toInt32.toInt8.toInt32)))) q1))])) _
    refine XS.ifNo X_94.here hx rfl (hb hby at_59) rfl ((if0 _ _).trans (teq ((lw_eq _ _).mpr (own_back _ : (own_long (own_int (nar .byte (((q1.toUInt64 >>> ((56 : Int32) &&& 0x3f).toInt64.toUInt64).toInt64).toInt32.toInt8.toInt32)) (nar .byte (((q1.toUInt64 >>> ((48 : Int32) &&& 0x3f).toInt64.toUInt64).toInt64).toInt32.toInt8.toInt32)) (nar .byte (((q1.toUInt64 >>> ((40 : Int32) &&& 0x3f).toInt64.toUInt64).toInt64).toInt32.toInt8.toInt32)) (nar .byte (((q1.toUInt64 >>> ((32 : Int32) &&& 0x3f).toInt64.toUInt64).toInt64).toInt32.toInt8.toInt32))) (own_int (nar .byte (((q1.toUInt64 >>> ((24 : Int32) &&& 0x3f).toInt64.toUInt64).toInt64).toInt32.toInt8.toInt32)) (nar .byte (((q1.toUInt64 >>> ((16 : Int32) &&& 0x3f).toInt64.toUInt64).toInt64).toInt32.toInt8.toInt32)) (nar .byte (((q1.toUInt64 >>> ((8 : Int32) &&& 0x3f).toInt64.toUInt64).toInt64).toInt32.toInt8.toInt32)) (nar .byte (q1.toInt32.toInt8.toInt32)))) = q1))).2) ?_
    show Steps p.tables e below (T_94.setTop (mkF m 62 #[.val (.long q1), .second, .val (.long q2), .second, .val (.int p3), .val (.ref b_78), .val (.ref b_86), .val (.long (own_long (own_int (nar .byte (((q1.toUInt64 >>> ((56 : Int32) &&& 0x3f).toInt64.toUInt64).toInt64).toInt32.toInt8.toInt32)) (nar .byte (((q1.toUInt64 >>> ((48 : Int32) &&& 0x3f).toInt64.toUInt64).toInt64).toInt32.toInt8.toInt32)) (nar .byte (((q1.toUInt64 >>> ((40 : Int32) &&& 0x3f).toInt64.toUInt64).toInt64).toInt32.toInt8.toInt32)) (nar .byte (((q1.toUInt64 >>> ((32 : Int32) &&& 0x3f).toInt64.toUInt64).toInt64).toInt32.toInt8.toInt32))) (own_int (nar .byte (((q1.toUInt64 >>> ((24 : Int32) &&& 0x3f).toInt64.toUInt64).toInt64).toInt32.toInt8.toInt32)) (nar .byte (((q1.toUInt64 >>> ((16 : Int32) &&& 0x3f).toInt64.toUInt64).toInt64).toInt32.toInt8.toInt32)) (nar .byte (((q1.toUInt64 >>> ((8 : Int32) &&& 0x3f).toInt64.toUInt64).toInt64).toInt32.toInt8.toInt32)) (nar .byte (q1.toInt32.toInt8.toInt32))))), .second, .val (.long (own_long (own_int (nar .byte (((q2.toUInt64 >>> ((56 : Int32) &&& 0x3f).toInt64.toUInt64).toInt64).toInt32.toInt8.toInt32)) (nar .byte (((q2.toUInt64 >>> ((48 : Int32) &&& 0x3f).toInt64.toUInt64).toInt64).toInt32.toInt8.toInt32)) (nar .byte (((q2.toUInt64 >>> ((40 : Int32) &&& 0x3f).toInt64.toUInt64).toInt64).toInt32.toInt8.toInt32)) (nar .byte (((q2.toUInt64 >>> ((32 : Int32) &&& 0x3f).toInt64.toUInt64).toInt64).toInt32.toInt8.toInt32))) (own_int (nar .byte (((q2.toUInt64 >>> ((24 : Int32) &&& 0x3f).toInt64.toUInt64).toInt64).toInt32.toInt8.toInt32)) (nar .byte (((q2.toUInt64 >>> ((16 : Int32) &&& 0x3f).toInt64.toUInt64).toInt64).toInt32.toInt8.toInt32)) (nar .byte (((q2.toUInt64 >>> ((8 : Int32) &&& 0x3f).toInt64.toUInt64).toInt64).toInt32.toInt8.toInt32)) (nar .byte (q2.toInt32.toInt8.toInt32))))), .second] [])) _
    refine XS.lload X_94.here hx rfl (hb hby at_62) rfl ?_
    show Steps p.tables e below (T_94.setTop (mkF m 64 #[.val (.long q1), .second, .val (.long q2), .second, .val (.int p3), .val (.ref b_78), .val (.ref b_86), .val (.long (own_long (own_int (nar .byte (((q1.toUInt64 >>> ((56 : Int32) &&& 0x3f).toInt64.toUInt64).toInt64).toInt32.toInt8.toInt32)) (nar .byte (((q1.toUInt64 >>> ((48 : Int32) &&& 0x3f).toInt64.toUInt64).toInt64).toInt32.toInt8.toInt32)) (nar .byte (((q1.toUInt64 >>> ((40 : Int32) &&& 0x3f).toInt64.toUInt64).toInt64).toInt32.toInt8.toInt32)) (nar .byte (((q1.toUInt64 >>> ((32 : Int32) &&& 0x3f).toInt64.toUInt64).toInt64).toInt32.toInt8.toInt32))) (own_int (nar .byte (((q1.toUInt64 >>> ((24 : Int32) &&& 0x3f).toInt64.toUInt64).toInt64).toInt32.toInt8.toInt32)) (nar .byte (((q1.toUInt64 >>> ((16 : Int32) &&& 0x3f).toInt64.toUInt64).toInt64).toInt32.toInt8.toInt32)) (nar .byte (((q1.toUInt64 >>> ((8 : Int32) &&& 0x3f).toInt64.toUInt64).toInt64).toInt32.toInt8.toInt32)) (nar .byte (q1.toInt32.toInt8.toInt32))))), .second, .val (.long (own_long (own_int (nar .byte (((q2.toUInt64 >>> ((56 : Int32) &&& 0x3f).toInt64.toUInt64).toInt64).toInt32.toInt8.toInt32)) (nar .byte (((q2.toUInt64 >>> ((48 : Int32) &&& 0x3f).toInt64.toUInt64).toInt64).toInt32.toInt8.toInt32)) (nar .byte (((q2.toUInt64 >>> ((40 : Int32) &&& 0x3f).toInt64.toUInt64).toInt64).toInt32.toInt8.toInt32)) (nar .byte (((q2.toUInt64 >>> ((32 : Int32) &&& 0x3f).toInt64.toUInt64).toInt64).toInt32.toInt8.toInt32))) (own_int (nar .byte (((q2.toUInt64 >>> ((24 : Int32) &&& 0x3f).toInt64.toUInt64).toInt64).toInt32.toInt8.toInt32)) (nar .byte (((q2.toUInt64 >>> ((16 : Int32) &&& 0x3f).toInt64.toUInt64).toInt64).toInt32.toInt8.toInt32)) (nar .byte (((q2.toUInt64 >>> ((8 : Int32) &&& 0x3f).toInt64.toUInt64).toInt64).toInt32.toInt8.toInt32)) (nar .byte (q2.toInt32.toInt8.toInt32))))), .second] [(.long (own_long (own_int (nar .byte (((q2.toUInt64 >>> ((56 : Int32) &&& 0x3f).toInt64.toUInt64).toInt64).toInt32.toInt8.toInt32)) (nar .byte (((q2.toUInt64 >>> ((48 : Int32) &&& 0x3f).toInt64.toUInt64).toInt64).toInt32.toInt8.toInt32)) (nar .byte (((q2.toUInt64 >>> ((40 : Int32) &&& 0x3f).toInt64.toUInt64).toInt64).toInt32.toInt8.toInt32)) (nar .byte (((q2.toUInt64 >>> ((32 : Int32) &&& 0x3f).toInt64.toUInt64).toInt64).toInt32.toInt8.toInt32))) (own_int (nar .byte (((q2.toUInt64 >>> ((24 : Int32) &&& 0x3f).toInt64.toUInt64).toInt64).toInt32.toInt8.toInt32)) (nar .byte (((q2.toUInt64 >>> ((16 : Int32) &&& 0x3f).toInt64.toUInt64).toInt64).toInt32.toInt8.toInt32)) (nar .byte (((q2.toUInt64 >>> ((8 : Int32) &&& 0x3f).toInt64.toUInt64).toInt64).toInt32.toInt8.toInt32)) (nar .byte (q2.toInt32.toInt8.toInt32)))))])) _
    refine XS.lloadN X_94.here hx rfl (hb hby at_64) rfl ?_
    show Steps p.tables e below (T_94.setTop (mkF m 65 #[.val (.long q1), .second, .val (.long q2), .second, .val (.int p3), .val (.ref b_78), .val (.ref b_86), .val (.long (own_long (own_int (nar .byte (((q1.toUInt64 >>> ((56 : Int32) &&& 0x3f).toInt64.toUInt64).toInt64).toInt32.toInt8.toInt32)) (nar .byte (((q1.toUInt64 >>> ((48 : Int32) &&& 0x3f).toInt64.toUInt64).toInt64).toInt32.toInt8.toInt32)) (nar .byte (((q1.toUInt64 >>> ((40 : Int32) &&& 0x3f).toInt64.toUInt64).toInt64).toInt32.toInt8.toInt32)) (nar .byte (((q1.toUInt64 >>> ((32 : Int32) &&& 0x3f).toInt64.toUInt64).toInt64).toInt32.toInt8.toInt32))) (own_int (nar .byte (((q1.toUInt64 >>> ((24 : Int32) &&& 0x3f).toInt64.toUInt64).toInt64).toInt32.toInt8.toInt32)) (nar .byte (((q1.toUInt64 >>> ((16 : Int32) &&& 0x3f).toInt64.toUInt64).toInt64).toInt32.toInt8.toInt32)) (nar .byte (((q1.toUInt64 >>> ((8 : Int32) &&& 0x3f).toInt64.toUInt64).toInt64).toInt32.toInt8.toInt32)) (nar .byte (q1.toInt32.toInt8.toInt32))))), .second, .val (.long (own_long (own_int (nar .byte (((q2.toUInt64 >>> ((56 : Int32) &&& 0x3f).toInt64.toUInt64).toInt64).toInt32.toInt8.toInt32)) (nar .byte (((q2.toUInt64 >>> ((48 : Int32) &&& 0x3f).toInt64.toUInt64).toInt64).toInt32.toInt8.toInt32)) (nar .byte (((q2.toUInt64 >>> ((40 : Int32) &&& 0x3f).toInt64.toUInt64).toInt64).toInt32.toInt8.toInt32)) (nar .byte (((q2.toUInt64 >>> ((32 : Int32) &&& 0x3f).toInt64.toUInt64).toInt64).toInt32.toInt8.toInt32))) (own_int (nar .byte (((q2.toUInt64 >>> ((24 : Int32) &&& 0x3f).toInt64.toUInt64).toInt64).toInt32.toInt8.toInt32)) (nar .byte (((q2.toUInt64 >>> ((16 : Int32) &&& 0x3f).toInt64.toUInt64).toInt64).toInt32.toInt8.toInt32)) (nar .byte (((q2.toUInt64 >>> ((8 : Int32) &&& 0x3f).toInt64.toUInt64).toInt64).toInt32.toInt8.toInt32)) (nar .byte (q2.toInt32.toInt8.toInt32))))), .second] [(.long q2), (.long (own_long (own_int (nar .byte (((q2.toUInt64 >>> ((56 : Int32) &&& 0x3f).toInt64.toUInt64).toInt64).toInt32.toInt8.toInt32)) (nar .byte (((q2.toUInt64 >>> ((48 : Int32) &&& 0x3f).toInt64.toUInt64).toInt64).toInt32.toInt8.toInt32)) (nar .byte (((q2.toUInt64 >>> ((40 : Int32) &&& 0x3f).toInt64.toUInt64).toInt64).toInt32.toInt8.toInt32)) (nar .byte (((q2.toUInt64 >>> ((32 : Int32) &&& 0x3f).toInt64.toUInt64).toInt64).toInt32.toInt8.toInt32))) (own_int (nar .byte (((q2.toUInt64 >>> ((24 : Int32) &&& 0x3f).toInt64.toUInt64).toInt64).toInt32.toInt8.toInt32)) (nar .byte (((q2.toUInt64 >>> ((16 : Int32) &&& 0x3f).toInt64.toUInt64).toInt64).toInt32.toInt8.toInt32)) (nar .byte (((q2.toUInt64 >>> ((8 : Int32) &&& 0x3f).toInt64.toUInt64).toInt64).toInt32.toInt8.toInt32)) (nar .byte (q2.toInt32.toInt8.toInt32)))))])) _
    refine XS.lcmp X_94.here hx rfl (hb hby at_65) rfl ?_
    show Steps p.tables e below (T_94.setTop (mkF m 66 #[.val (.long q1), .second, .val (.long q2), .second, .val (.int p3), .val (.ref b_78), .val (.ref b_86), .val (.long (own_long (own_int (nar .byte (((q1.toUInt64 >>> ((56 : Int32) &&& 0x3f).toInt64.toUInt64).toInt64).toInt32.toInt8.toInt32)) (nar .byte (((q1.toUInt64 >>> ((48 : Int32) &&& 0x3f).toInt64.toUInt64).toInt64).toInt32.toInt8.toInt32)) (nar .byte (((q1.toUInt64 >>> ((40 : Int32) &&& 0x3f).toInt64.toUInt64).toInt64).toInt32.toInt8.toInt32)) (nar .byte (((q1.toUInt64 >>> ((32 : Int32) &&& 0x3f).toInt64.toUInt64).toInt64).toInt32.toInt8.toInt32))) (own_int (nar .byte (((q1.toUInt64 >>> ((24 : Int32) &&& 0x3f).toInt64.toUInt64).toInt64).toInt32.toInt8.toInt32)) (nar .byte (((q1.toUInt64 >>> ((16 : Int32) &&& 0x3f).toInt64.toUInt64).toInt64).toInt32.toInt8.toInt32)) (nar .byte (((q1.toUInt64 >>> ((8 : Int32) &&& 0x3f).toInt64.toUInt64).toInt64).toInt32.toInt8.toInt32)) (nar .byte (q1.toInt32.toInt8.toInt32))))), .second, .val (.long (own_long (own_int (nar .byte (((q2.toUInt64 >>> ((56 : Int32) &&& 0x3f).toInt64.toUInt64).toInt64).toInt32.toInt8.toInt32)) (nar .byte (((q2.toUInt64 >>> ((48 : Int32) &&& 0x3f).toInt64.toUInt64).toInt64).toInt32.toInt8.toInt32)) (nar .byte (((q2.toUInt64 >>> ((40 : Int32) &&& 0x3f).toInt64.toUInt64).toInt64).toInt32.toInt8.toInt32)) (nar .byte (((q2.toUInt64 >>> ((32 : Int32) &&& 0x3f).toInt64.toUInt64).toInt64).toInt32.toInt8.toInt32))) (own_int (nar .byte (((q2.toUInt64 >>> ((24 : Int32) &&& 0x3f).toInt64.toUInt64).toInt64).toInt32.toInt8.toInt32)) (nar .byte (((q2.toUInt64 >>> ((16 : Int32) &&& 0x3f).toInt64.toUInt64).toInt64).toInt32.toInt8.toInt32)) (nar .byte (((q2.toUInt64 >>> ((8 : Int32) &&& 0x3f).toInt64.toUInt64).toInt64).toInt32.toInt8.toInt32)) (nar .byte (q2.toInt32.toInt8.toInt32))))), .second] [(.int (lcmpW (own_long (own_int (nar .byte (((q2.toUInt64 >>> ((56 : Int32) &&& 0x3f).toInt64.toUInt64).toInt64).toInt32.toInt8.toInt32)) (nar .byte (((q2.toUInt64 >>> ((48 : Int32) &&& 0x3f).toInt64.toUInt64).toInt64).toInt32.toInt8.toInt32)) (nar .byte (((q2.toUInt64 >>> ((40 : Int32) &&& 0x3f).toInt64.toUInt64).toInt64).toInt32.toInt8.toInt32)) (nar .byte (((q2.toUInt64 >>> ((32 : Int32) &&& 0x3f).toInt64.toUInt64).toInt64).toInt32.toInt8.toInt32))) (own_int (nar .byte (((q2.toUInt64 >>> ((24 : Int32) &&& 0x3f).toInt64.toUInt64).toInt64).toInt32.toInt8.toInt32)) (nar .byte (((q2.toUInt64 >>> ((16 : Int32) &&& 0x3f).toInt64.toUInt64).toInt64).toInt32.toInt8.toInt32)) (nar .byte (((q2.toUInt64 >>> ((8 : Int32) &&& 0x3f).toInt64.toUInt64).toInt64).toInt32.toInt8.toInt32)) (nar .byte (q2.toInt32.toInt8.toInt32)))) q2))])) _
    refine XS.ifNo X_94.here hx rfl (hb hby at_66) rfl ((if0 _ _).trans (teq ((lw_eq _ _).mpr (own_back _ : (own_long (own_int (nar .byte (((q2.toUInt64 >>> ((56 : Int32) &&& 0x3f).toInt64.toUInt64).toInt64).toInt32.toInt8.toInt32)) (nar .byte (((q2.toUInt64 >>> ((48 : Int32) &&& 0x3f).toInt64.toUInt64).toInt64).toInt32.toInt8.toInt32)) (nar .byte (((q2.toUInt64 >>> ((40 : Int32) &&& 0x3f).toInt64.toUInt64).toInt64).toInt32.toInt8.toInt32)) (nar .byte (((q2.toUInt64 >>> ((32 : Int32) &&& 0x3f).toInt64.toUInt64).toInt64).toInt32.toInt8.toInt32))) (own_int (nar .byte (((q2.toUInt64 >>> ((24 : Int32) &&& 0x3f).toInt64.toUInt64).toInt64).toInt32.toInt8.toInt32)) (nar .byte (((q2.toUInt64 >>> ((16 : Int32) &&& 0x3f).toInt64.toUInt64).toInt64).toInt32.toInt8.toInt32)) (nar .byte (((q2.toUInt64 >>> ((8 : Int32) &&& 0x3f).toInt64.toUInt64).toInt64).toInt32.toInt8.toInt32)) (nar .byte (q2.toInt32.toInt8.toInt32)))) = q2))).2) ?_
    show Steps p.tables e below (T_94.setTop (mkF m 69 #[.val (.long q1), .second, .val (.long q2), .second, .val (.int p3), .val (.ref b_78), .val (.ref b_86), .val (.long (own_long (own_int (nar .byte (((q1.toUInt64 >>> ((56 : Int32) &&& 0x3f).toInt64.toUInt64).toInt64).toInt32.toInt8.toInt32)) (nar .byte (((q1.toUInt64 >>> ((48 : Int32) &&& 0x3f).toInt64.toUInt64).toInt64).toInt32.toInt8.toInt32)) (nar .byte (((q1.toUInt64 >>> ((40 : Int32) &&& 0x3f).toInt64.toUInt64).toInt64).toInt32.toInt8.toInt32)) (nar .byte (((q1.toUInt64 >>> ((32 : Int32) &&& 0x3f).toInt64.toUInt64).toInt64).toInt32.toInt8.toInt32))) (own_int (nar .byte (((q1.toUInt64 >>> ((24 : Int32) &&& 0x3f).toInt64.toUInt64).toInt64).toInt32.toInt8.toInt32)) (nar .byte (((q1.toUInt64 >>> ((16 : Int32) &&& 0x3f).toInt64.toUInt64).toInt64).toInt32.toInt8.toInt32)) (nar .byte (((q1.toUInt64 >>> ((8 : Int32) &&& 0x3f).toInt64.toUInt64).toInt64).toInt32.toInt8.toInt32)) (nar .byte (q1.toInt32.toInt8.toInt32))))), .second, .val (.long (own_long (own_int (nar .byte (((q2.toUInt64 >>> ((56 : Int32) &&& 0x3f).toInt64.toUInt64).toInt64).toInt32.toInt8.toInt32)) (nar .byte (((q2.toUInt64 >>> ((48 : Int32) &&& 0x3f).toInt64.toUInt64).toInt64).toInt32.toInt8.toInt32)) (nar .byte (((q2.toUInt64 >>> ((40 : Int32) &&& 0x3f).toInt64.toUInt64).toInt64).toInt32.toInt8.toInt32)) (nar .byte (((q2.toUInt64 >>> ((32 : Int32) &&& 0x3f).toInt64.toUInt64).toInt64).toInt32.toInt8.toInt32))) (own_int (nar .byte (((q2.toUInt64 >>> ((24 : Int32) &&& 0x3f).toInt64.toUInt64).toInt64).toInt32.toInt8.toInt32)) (nar .byte (((q2.toUInt64 >>> ((16 : Int32) &&& 0x3f).toInt64.toUInt64).toInt64).toInt32.toInt8.toInt32)) (nar .byte (((q2.toUInt64 >>> ((8 : Int32) &&& 0x3f).toInt64.toUInt64).toInt64).toInt32.toInt8.toInt32)) (nar .byte (q2.toInt32.toInt8.toInt32))))), .second] [])) _
    refine XS.aload X_94.here hx rfl (hb hby at_69) rfl rfl ?_
    show Steps p.tables e below (T_94.setTop (mkF m 71 #[.val (.long q1), .second, .val (.long q2), .second, .val (.int p3), .val (.ref b_78), .val (.ref b_86), .val (.long (own_long (own_int (nar .byte (((q1.toUInt64 >>> ((56 : Int32) &&& 0x3f).toInt64.toUInt64).toInt64).toInt32.toInt8.toInt32)) (nar .byte (((q1.toUInt64 >>> ((48 : Int32) &&& 0x3f).toInt64.toUInt64).toInt64).toInt32.toInt8.toInt32)) (nar .byte (((q1.toUInt64 >>> ((40 : Int32) &&& 0x3f).toInt64.toUInt64).toInt64).toInt32.toInt8.toInt32)) (nar .byte (((q1.toUInt64 >>> ((32 : Int32) &&& 0x3f).toInt64.toUInt64).toInt64).toInt32.toInt8.toInt32))) (own_int (nar .byte (((q1.toUInt64 >>> ((24 : Int32) &&& 0x3f).toInt64.toUInt64).toInt64).toInt32.toInt8.toInt32)) (nar .byte (((q1.toUInt64 >>> ((16 : Int32) &&& 0x3f).toInt64.toUInt64).toInt64).toInt32.toInt8.toInt32)) (nar .byte (((q1.toUInt64 >>> ((8 : Int32) &&& 0x3f).toInt64.toUInt64).toInt64).toInt32.toInt8.toInt32)) (nar .byte (q1.toInt32.toInt8.toInt32))))), .second, .val (.long (own_long (own_int (nar .byte (((q2.toUInt64 >>> ((56 : Int32) &&& 0x3f).toInt64.toUInt64).toInt64).toInt32.toInt8.toInt32)) (nar .byte (((q2.toUInt64 >>> ((48 : Int32) &&& 0x3f).toInt64.toUInt64).toInt64).toInt32.toInt8.toInt32)) (nar .byte (((q2.toUInt64 >>> ((40 : Int32) &&& 0x3f).toInt64.toUInt64).toInt64).toInt32.toInt8.toInt32)) (nar .byte (((q2.toUInt64 >>> ((32 : Int32) &&& 0x3f).toInt64.toUInt64).toInt64).toInt32.toInt8.toInt32))) (own_int (nar .byte (((q2.toUInt64 >>> ((24 : Int32) &&& 0x3f).toInt64.toUInt64).toInt64).toInt32.toInt8.toInt32)) (nar .byte (((q2.toUInt64 >>> ((16 : Int32) &&& 0x3f).toInt64.toUInt64).toInt64).toInt32.toInt8.toInt32)) (nar .byte (((q2.toUInt64 >>> ((8 : Int32) &&& 0x3f).toInt64.toUInt64).toInt64).toInt32.toInt8.toInt32)) (nar .byte (q2.toInt32.toInt8.toInt32))))), .second] [(.ref b_86)])) _
    refine st_97.trans ?_
    show Steps p.tables e below (T_97.setTop (mkF m 74 #[.val (.long q1), .second, .val (.long q2), .second, .val (.int p3), .val (.ref b_78), .val (.ref b_86), .val (.long (own_long (own_int (nar .byte (((q1.toUInt64 >>> ((56 : Int32) &&& 0x3f).toInt64.toUInt64).toInt64).toInt32.toInt8.toInt32)) (nar .byte (((q1.toUInt64 >>> ((48 : Int32) &&& 0x3f).toInt64.toUInt64).toInt64).toInt32.toInt8.toInt32)) (nar .byte (((q1.toUInt64 >>> ((40 : Int32) &&& 0x3f).toInt64.toUInt64).toInt64).toInt32.toInt8.toInt32)) (nar .byte (((q1.toUInt64 >>> ((32 : Int32) &&& 0x3f).toInt64.toUInt64).toInt64).toInt32.toInt8.toInt32))) (own_int (nar .byte (((q1.toUInt64 >>> ((24 : Int32) &&& 0x3f).toInt64.toUInt64).toInt64).toInt32.toInt8.toInt32)) (nar .byte (((q1.toUInt64 >>> ((16 : Int32) &&& 0x3f).toInt64.toUInt64).toInt64).toInt32.toInt8.toInt32)) (nar .byte (((q1.toUInt64 >>> ((8 : Int32) &&& 0x3f).toInt64.toUInt64).toInt64).toInt32.toInt8.toInt32)) (nar .byte (q1.toInt32.toInt8.toInt32))))), .second, .val (.long (own_long (own_int (nar .byte (((q2.toUInt64 >>> ((56 : Int32) &&& 0x3f).toInt64.toUInt64).toInt64).toInt32.toInt8.toInt32)) (nar .byte (((q2.toUInt64 >>> ((48 : Int32) &&& 0x3f).toInt64.toUInt64).toInt64).toInt32.toInt8.toInt32)) (nar .byte (((q2.toUInt64 >>> ((40 : Int32) &&& 0x3f).toInt64.toUInt64).toInt64).toInt32.toInt8.toInt32)) (nar .byte (((q2.toUInt64 >>> ((32 : Int32) &&& 0x3f).toInt64.toUInt64).toInt64).toInt32.toInt8.toInt32))) (own_int (nar .byte (((q2.toUInt64 >>> ((24 : Int32) &&& 0x3f).toInt64.toUInt64).toInt64).toInt32.toInt8.toInt32)) (nar .byte (((q2.toUInt64 >>> ((16 : Int32) &&& 0x3f).toInt64.toUInt64).toInt64).toInt32.toInt8.toInt32)) (nar .byte (((q2.toUInt64 >>> ((8 : Int32) &&& 0x3f).toInt64.toUInt64).toInt64).toInt32.toInt8.toInt32)) (nar .byte (q2.toInt32.toInt8.toInt32))))), .second] [(.int (1 : Int32))])) _
    refine XS.iconst X_97.here hx rfl (hb hby at_74) ?_
    show Steps p.tables e below (T_97.setTop (mkF m 75 #[.val (.long q1), .second, .val (.long q2), .second, .val (.int p3), .val (.ref b_78), .val (.ref b_86), .val (.long (own_long (own_int (nar .byte (((q1.toUInt64 >>> ((56 : Int32) &&& 0x3f).toInt64.toUInt64).toInt64).toInt32.toInt8.toInt32)) (nar .byte (((q1.toUInt64 >>> ((48 : Int32) &&& 0x3f).toInt64.toUInt64).toInt64).toInt32.toInt8.toInt32)) (nar .byte (((q1.toUInt64 >>> ((40 : Int32) &&& 0x3f).toInt64.toUInt64).toInt64).toInt32.toInt8.toInt32)) (nar .byte (((q1.toUInt64 >>> ((32 : Int32) &&& 0x3f).toInt64.toUInt64).toInt64).toInt32.toInt8.toInt32))) (own_int (nar .byte (((q1.toUInt64 >>> ((24 : Int32) &&& 0x3f).toInt64.toUInt64).toInt64).toInt32.toInt8.toInt32)) (nar .byte (((q1.toUInt64 >>> ((16 : Int32) &&& 0x3f).toInt64.toUInt64).toInt64).toInt32.toInt8.toInt32)) (nar .byte (((q1.toUInt64 >>> ((8 : Int32) &&& 0x3f).toInt64.toUInt64).toInt64).toInt32.toInt8.toInt32)) (nar .byte (q1.toInt32.toInt8.toInt32))))), .second, .val (.long (own_long (own_int (nar .byte (((q2.toUInt64 >>> ((56 : Int32) &&& 0x3f).toInt64.toUInt64).toInt64).toInt32.toInt8.toInt32)) (nar .byte (((q2.toUInt64 >>> ((48 : Int32) &&& 0x3f).toInt64.toUInt64).toInt64).toInt32.toInt8.toInt32)) (nar .byte (((q2.toUInt64 >>> ((40 : Int32) &&& 0x3f).toInt64.toUInt64).toInt64).toInt32.toInt8.toInt32)) (nar .byte (((q2.toUInt64 >>> ((32 : Int32) &&& 0x3f).toInt64.toUInt64).toInt64).toInt32.toInt8.toInt32))) (own_int (nar .byte (((q2.toUInt64 >>> ((24 : Int32) &&& 0x3f).toInt64.toUInt64).toInt64).toInt32.toInt8.toInt32)) (nar .byte (((q2.toUInt64 >>> ((16 : Int32) &&& 0x3f).toInt64.toUInt64).toInt64).toInt32.toInt8.toInt32)) (nar .byte (((q2.toUInt64 >>> ((8 : Int32) &&& 0x3f).toInt64.toUInt64).toInt64).toInt32.toInt8.toInt32)) (nar .byte (q2.toInt32.toInt8.toInt32))))), .second] [(.int (1 : Int32)), (.int (1 : Int32))])) _
    refine XS.icmpNo X_97.here hx rfl (hb hby at_75) rfl (teq (by decide : (1 : Int32) = (1 : Int32))).2 ?_
    show Steps p.tables e below (T_97.setTop (mkF m 78 #[.val (.long q1), .second, .val (.long q2), .second, .val (.int p3), .val (.ref b_78), .val (.ref b_86), .val (.long (own_long (own_int (nar .byte (((q1.toUInt64 >>> ((56 : Int32) &&& 0x3f).toInt64.toUInt64).toInt64).toInt32.toInt8.toInt32)) (nar .byte (((q1.toUInt64 >>> ((48 : Int32) &&& 0x3f).toInt64.toUInt64).toInt64).toInt32.toInt8.toInt32)) (nar .byte (((q1.toUInt64 >>> ((40 : Int32) &&& 0x3f).toInt64.toUInt64).toInt64).toInt32.toInt8.toInt32)) (nar .byte (((q1.toUInt64 >>> ((32 : Int32) &&& 0x3f).toInt64.toUInt64).toInt64).toInt32.toInt8.toInt32))) (own_int (nar .byte (((q1.toUInt64 >>> ((24 : Int32) &&& 0x3f).toInt64.toUInt64).toInt64).toInt32.toInt8.toInt32)) (nar .byte (((q1.toUInt64 >>> ((16 : Int32) &&& 0x3f).toInt64.toUInt64).toInt64).toInt32.toInt8.toInt32)) (nar .byte (((q1.toUInt64 >>> ((8 : Int32) &&& 0x3f).toInt64.toUInt64).toInt64).toInt32.toInt8.toInt32)) (nar .byte (q1.toInt32.toInt8.toInt32))))), .second, .val (.long (own_long (own_int (nar .byte (((q2.toUInt64 >>> ((56 : Int32) &&& 0x3f).toInt64.toUInt64).toInt64).toInt32.toInt8.toInt32)) (nar .byte (((q2.toUInt64 >>> ((48 : Int32) &&& 0x3f).toInt64.toUInt64).toInt64).toInt32.toInt8.toInt32)) (nar .byte (((q2.toUInt64 >>> ((40 : Int32) &&& 0x3f).toInt64.toUInt64).toInt64).toInt32.toInt8.toInt32)) (nar .byte (((q2.toUInt64 >>> ((32 : Int32) &&& 0x3f).toInt64.toUInt64).toInt64).toInt32.toInt8.toInt32))) (own_int (nar .byte (((q2.toUInt64 >>> ((24 : Int32) &&& 0x3f).toInt64.toUInt64).toInt64).toInt32.toInt8.toInt32)) (nar .byte (((q2.toUInt64 >>> ((16 : Int32) &&& 0x3f).toInt64.toUInt64).toInt64).toInt32.toInt8.toInt32)) (nar .byte (((q2.toUInt64 >>> ((8 : Int32) &&& 0x3f).toInt64.toUInt64).toInt64).toInt32.toInt8.toInt32)) (nar .byte (q2.toInt32.toInt8.toInt32))))), .second] [])) _
    refine XS.iconst X_97.here hx rfl (hb hby at_78) ?_
    show Steps p.tables e below (T_97.setTop (mkF m 79 #[.val (.long q1), .second, .val (.long q2), .second, .val (.int p3), .val (.ref b_78), .val (.ref b_86), .val (.long (own_long (own_int (nar .byte (((q1.toUInt64 >>> ((56 : Int32) &&& 0x3f).toInt64.toUInt64).toInt64).toInt32.toInt8.toInt32)) (nar .byte (((q1.toUInt64 >>> ((48 : Int32) &&& 0x3f).toInt64.toUInt64).toInt64).toInt32.toInt8.toInt32)) (nar .byte (((q1.toUInt64 >>> ((40 : Int32) &&& 0x3f).toInt64.toUInt64).toInt64).toInt32.toInt8.toInt32)) (nar .byte (((q1.toUInt64 >>> ((32 : Int32) &&& 0x3f).toInt64.toUInt64).toInt64).toInt32.toInt8.toInt32))) (own_int (nar .byte (((q1.toUInt64 >>> ((24 : Int32) &&& 0x3f).toInt64.toUInt64).toInt64).toInt32.toInt8.toInt32)) (nar .byte (((q1.toUInt64 >>> ((16 : Int32) &&& 0x3f).toInt64.toUInt64).toInt64).toInt32.toInt8.toInt32)) (nar .byte (((q1.toUInt64 >>> ((8 : Int32) &&& 0x3f).toInt64.toUInt64).toInt64).toInt32.toInt8.toInt32)) (nar .byte (q1.toInt32.toInt8.toInt32))))), .second, .val (.long (own_long (own_int (nar .byte (((q2.toUInt64 >>> ((56 : Int32) &&& 0x3f).toInt64.toUInt64).toInt64).toInt32.toInt8.toInt32)) (nar .byte (((q2.toUInt64 >>> ((48 : Int32) &&& 0x3f).toInt64.toUInt64).toInt64).toInt32.toInt8.toInt32)) (nar .byte (((q2.toUInt64 >>> ((40 : Int32) &&& 0x3f).toInt64.toUInt64).toInt64).toInt32.toInt8.toInt32)) (nar .byte (((q2.toUInt64 >>> ((32 : Int32) &&& 0x3f).toInt64.toUInt64).toInt64).toInt32.toInt8.toInt32))) (own_int (nar .byte (((q2.toUInt64 >>> ((24 : Int32) &&& 0x3f).toInt64.toUInt64).toInt64).toInt32.toInt8.toInt32)) (nar .byte (((q2.toUInt64 >>> ((16 : Int32) &&& 0x3f).toInt64.toUInt64).toInt64).toInt32.toInt8.toInt32)) (nar .byte (((q2.toUInt64 >>> ((8 : Int32) &&& 0x3f).toInt64.toUInt64).toInt64).toInt32.toInt8.toInt32)) (nar .byte (q2.toInt32.toInt8.toInt32))))), .second] [(.int (1 : Int32))])) _
    refine XS.goto X_97.here hx rfl (pc0 := 79) (pc' := 83) rfl (hb hby at_79) (by decide) (by decide) ?_
    show Steps p.tables e below (T_97.setTop (mkF m 83 #[.val (.long q1), .second, .val (.long q2), .second, .val (.int p3), .val (.ref b_78), .val (.ref b_86), .val (.long (own_long (own_int (nar .byte (((q1.toUInt64 >>> ((56 : Int32) &&& 0x3f).toInt64.toUInt64).toInt64).toInt32.toInt8.toInt32)) (nar .byte (((q1.toUInt64 >>> ((48 : Int32) &&& 0x3f).toInt64.toUInt64).toInt64).toInt32.toInt8.toInt32)) (nar .byte (((q1.toUInt64 >>> ((40 : Int32) &&& 0x3f).toInt64.toUInt64).toInt64).toInt32.toInt8.toInt32)) (nar .byte (((q1.toUInt64 >>> ((32 : Int32) &&& 0x3f).toInt64.toUInt64).toInt64).toInt32.toInt8.toInt32))) (own_int (nar .byte (((q1.toUInt64 >>> ((24 : Int32) &&& 0x3f).toInt64.toUInt64).toInt64).toInt32.toInt8.toInt32)) (nar .byte (((q1.toUInt64 >>> ((16 : Int32) &&& 0x3f).toInt64.toUInt64).toInt64).toInt32.toInt8.toInt32)) (nar .byte (((q1.toUInt64 >>> ((8 : Int32) &&& 0x3f).toInt64.toUInt64).toInt64).toInt32.toInt8.toInt32)) (nar .byte (q1.toInt32.toInt8.toInt32))))), .second, .val (.long (own_long (own_int (nar .byte (((q2.toUInt64 >>> ((56 : Int32) &&& 0x3f).toInt64.toUInt64).toInt64).toInt32.toInt8.toInt32)) (nar .byte (((q2.toUInt64 >>> ((48 : Int32) &&& 0x3f).toInt64.toUInt64).toInt64).toInt32.toInt8.toInt32)) (nar .byte (((q2.toUInt64 >>> ((40 : Int32) &&& 0x3f).toInt64.toUInt64).toInt64).toInt32.toInt8.toInt32)) (nar .byte (((q2.toUInt64 >>> ((32 : Int32) &&& 0x3f).toInt64.toUInt64).toInt64).toInt32.toInt8.toInt32))) (own_int (nar .byte (((q2.toUInt64 >>> ((24 : Int32) &&& 0x3f).toInt64.toUInt64).toInt64).toInt32.toInt8.toInt32)) (nar .byte (((q2.toUInt64 >>> ((16 : Int32) &&& 0x3f).toInt64.toUInt64).toInt64).toInt32.toInt8.toInt32)) (nar .byte (((q2.toUInt64 >>> ((8 : Int32) &&& 0x3f).toInt64.toUInt64).toInt64).toInt32.toInt8.toInt32)) (nar .byte (q2.toInt32.toInt8.toInt32))))), .second] [(.int (1 : Int32))])) _
    exact retN X_97 hx (t := .boolean) Bd.returns (by simp) (hb hby at_83) hr
  · show Q0 Z q1 q2 p3 h0 n0 _ T_97.heap _
    rw [e_97]
    exact ⟨rfl, N_97⟩
set_option maxRecDepth 65536 in
set_option maxHeartbeats 40000000 in
theorem comes_1 {Post : Tables → Env → Array Value → State → Outcome → State → Prop} (hpost : ∀ tb e args s v u, (limb_1_1.after args s (.returned v) u = true ∧ limb_1_2.after args s (.returned v) u = true ∧ True) → FrameEnd s (.returned v) u (Jvm.fieldLocs frame_1_writes args s ++ Jvm.arrayLocs frame_1_arrays args s ++ Jvm.staticLocs frame_1_statics s) 16 128 → Post tb e args s (.returned v) u) :
    ArmFor flags0 classFile x code maxLocals ret World_1 tables_1 room_1 Calls_1 rest_1 Pre_1 Post := by
  intro l hfl _ _ p e ha hc hk s m args below hf hA hF happ hP
  obtain ⟨hcalls, hrest, hpre⟩ := hP
  obtain ⟨-, -, -, hnamed, -, -, -, hat⟩ := (Spec.applies_iff hf).mp happ
  obtain ⟨hg, hn⟩ := and_e (Cond.before_iff.mp (show (Jvm.Cond.and given_1 narrow_1).before args s = true from hpre))
  obtain ⟨g_98, g_99⟩ := and_e hg
  obtain ⟨g_100, g_101⟩ := and_e g_99
  obtain ⟨g_102, g_103⟩ := and_e g_101
  obtain ⟨w0, w1, w2, rfl⟩ : ∃ w0 w1 w2 : Value, args = #[w0, w1, w2] := by
    have hs : args.size = 3 := by simpa [Cond.value, given_1] using g_98
    obtain ⟨L⟩ := args
    match L, hs with
    | [w0, w1, w2], _ => exact ⟨w0, w1, w2, rfl⟩
  have hw := fun d (hd : d ∈ tables_1) => atoms_spec (ws := Jvm.Cond.code x code maxLocals ret :: tables_1) hat d (List.mem_cons_of_mem _ hd)
  obtain ⟨i0, ei0⟩ := isL_v g_100
  obtain rfl : w0 = (.long i0) := Option.some.inj ei0
  obtain ⟨i1, ei1⟩ := isL_v g_102
  obtain rfl : w1 = (.long i1) := Option.some.inj ei1
  obtain ⟨i2, ei2⟩ := is_v g_103
  obtain rfl : w2 = (.int i2) := Option.some.inj ei2
  obtain ⟨n, o, h1, h2, h3, _, L, rfl, ⟨rfl, N⟩, hq⟩ := rm0 l s _ hw tables_1 i0 i1 i2 s.heap s.heap.size (Nat.le_refl _) p e ha hc hk s m _ below hf ((Spec.applies_iff_loose hf).mp happ).1 ⟨rfl, State.Warmed39.refl s, rfl⟩ trivial
  refine ⟨n, _, h1, h2, h3, hpost _ _ _ _ _ _ ⟨Cond.after_iff.mpr rfl, Cond.after_iff.mpr (eq_i res_at (Term.int_eval (1)) rfl), trivial⟩ ⟨hq.1, hq.2.1, (hq.2.2.sift fun y hy => Or.inr (N y hy)).mono (by decide) (by decide)⟩⟩
theorem main_1_1 : Claimed_1_1 := comes_1 fun _ _ _ _ _ _ h hF => ⟨h.1, hF⟩
theorem main_1_2 : Claimed_1_2 := comes_1 fun _ _ _ _ _ _ h hF => ⟨h.2.1, hF⟩
end Jvm.Pilot.@@N@@
namespace Jvm.Pilot.@@N@@
open Jvm Jvm.ClassFile Sem Op Lib Jvm.Free Jvm.Stand Jvm.Pilot.@@N@@.Jvm.D
/-! MADE BY PROGRAM (witnessworld.py) out of the Statement's table words and the real class files: 9 classes; the members and pool entries that the words name. The judged class is class 1, her method 1. -/
namespace start1
open Jvm.ClassFile
def u (s : String) : CpInfo := .utf8 (stringToUtf16 s)
/-- a pool by its gaps: so many unusable entries, then the entry; so many at the end -/
def gap : Nat → List CpInfo → List CpInfo
  | 0, r => r
  | n + 1, r => .unusable :: gap n r
def poolList (es : List (Nat × CpInfo)) (last : Nat) : List CpInfo := es.foldr (fun e r => gap e.1 (e.2 :: r)) (gap last [])
def pool (es : List (Nat × CpInfo)) (last : Nat) : Array CpInfo := ⟨poolList es last⟩
def fileOf (pool : Array CpInfo) (this : Nat) (attrs : Array Attribute := #[]) (ms : Array MethodInfo := #[]) (fl : Nat := 33) (sup : Nat := 0) (ifs : Array Nat := #[]) (fds : Array FieldInfo := #[]) : ClassFile where
  minorVersion := 0
  majorVersion := 65
  constantPool := pool
  accessFlags := fl
  thisClass := this
  superClass := sup
  interfaces := ifs
  fields := fds
  methods := ms
  attributes := attrs
def plain (name : String) (sup : Option ClassId) : Class where
  name := name
  kind := .ordinary
  loader := none
  accessFlags := 33
  super := sup
  interfaces := #[]
  cf := none
  fields := #[]
  methods := #[]
  instanceTypes := #[]
  staticTypes := #[]
  resolved := #[]
  callSites := []
  init := .initialized
  statics := none
  mirror := none

def pool0 : Array CpInfo := pool [(5, u "<init>"), (0, u "()V"), (1, .class_ 10), (1, u "java/lang/Object")] 113

def k0c0 : Code := { maxStack := 0, maxLocals := 1, code := object_method_1_code, exceptionTable := #[], attributes := #[] }
def k0m0 : Method := { name := "<init>", desc := "()V", sig := { parameters := [], returnType := none }, accessFlags := 1, code := some k0c0 }
/-- java/lang/Object -/
def k0 : Class := { plain "java/lang/Object" none with
  accessFlags := 33
  interfaces := #[]
  cf := some (fileOf pool0 8 #[] #[{ accessFlags := 1, nameIndex := 5, descriptorIndex := 6, attributes := #[] }] 33 0 #[] #[])
  fields := #[]
  methods := #[k0m0]
  instanceTypes := #[]
  staticTypes := #[]
  resolved := Array.replicate 124 none
  statics := none }

def pool1 : Array CpInfo := pool [(2, .class_ 4), (1, u "java/lang/Object"), (0, u "<init>"), (0, u "()V"), (0, .methodref 8 9), (0, .class_ 10), (0, .nameAndType 11 12), (0, u "com/example/tenure/tenure/store/ValueReaderReadLongPinLaw"), (0, u "put"), (0, u "([BIJ)V"), (0, .class_ 14), (0, u "com/example/tenure/tenure/store/ValueReader"), (0, .methodref 13 16), (0, .nameAndType 5 17), (0, u "([BLcom/example/tenure/tenure/store/ClassDictionary;)V"), (0, .methodref 13 19), (0, .nameAndType 20 21), (0, u "readLong"), (0, u "()J"), (0, .methodref 13 23), (0, .nameAndType 24 25), (0, u "available"), (0, u "()I"), (2, u "law"), (0, u "(JJI)Z")] 8

def k1m0 : Method := { name := "<init>", desc := "()V", sig := { parameters := [], returnType := none }, accessFlags := 1, code := none }
def k1c1 : Code := { maxStack := 4, maxLocals := 11, code := code, exceptionTable := #[], attributes := #[] }
def k1m1 : Method := { name := "law", desc := "(JJI)Z", sig := { parameters := [.long, .long, .int], returnType := some .boolean }, accessFlags := 9, code := some k1c1 }
def k1c2 : Code := { maxStack := 5, maxLocals := 4, code := method_3_code, exceptionTable := #[], attributes := #[] }
def k1m2 : Method := { name := "put", desc := "([BIJ)V", sig := { parameters := [(.array .byte), .int, .long], returnType := none }, accessFlags := 10, code := some k1c2 }
/-- com/example/tenure/tenure/store/ValueReaderReadLongPinLaw -/
def k1 : Class := { plain "com/example/tenure/tenure/store/ValueReaderReadLongPinLaw" (some 0) with
  accessFlags := 49
  interfaces := #[]
  cf := some (fileOf pool1 8 #[] #[{ accessFlags := 1, nameIndex := 5, descriptorIndex := 6, attributes := #[] }, { accessFlags := 9, nameIndex := 28, descriptorIndex := 29, attributes := #[] }, { accessFlags := 10, nameIndex := 11, descriptorIndex := 12, attributes := #[] }] 49 2 #[] #[])
  fields := #[]
  methods := #[k1m0, k1m1, k1m2]
  instanceTypes := #[]
  staticTypes := #[]
  resolved := Array.replicate 38 none
  statics := none }

def pool2 : Array CpInfo := pool [(1, .methodref 2 3), (0, .class_ 4), (0, .nameAndType 5 6), (0, u "java/lang/Object"), (0, u "<init>"), (0, u "()V"), (0, .fieldref 8 9), (0, .class_ 10), (0, .nameAndType 11 12), (0, u "com/example/tenure/tenure/store/ValueReader"), (0, u "bytes"), (0, u "[B"), (0, .fieldref 8 14), (0, .nameAndType 15 16), (0, u "dictionary"), (0, u "Lcom/example/tenure/tenure/store/ClassDictionary;"), (0, .fieldref 8 18), (0, .nameAndType 19 20), (0, u "position"), (0, u "I"), (3, u "()I"), (10, .methodref 8 36), (0, .nameAndType 37 24), (0, u "readInt"), (29, .methodref 8 68), (0, .nameAndType 69 70), (0, u "require"), (0, u "(I)V"), (14, .long 4294967295), (1, .methodref 8 88), (0, .nameAndType 89 24), (0, u "available"), (14, u "([BLcom/example/tenure/tenure/store/ClassDictionary;)V"), (20, u "readLong"), (0, u "()J")] 19

def k2c0 : Code := { maxStack := 2, maxLocals := 3, code := prog_54_method_1_code, exceptionTable := #[], attributes := #[] }
def k2m0 : Method := { name := "<init>", desc := "([BLcom/example/tenure/tenure/store/ClassDictionary;)V", sig := { parameters := [(.array .byte), (.object "com/example/tenure/tenure/store/ClassDictionary")], returnType := none }, accessFlags := 0, code := some k2c0 }
def k2c1 : Code := { maxStack := 2, maxLocals := 1, code := prog_54_method_2_code, exceptionTable := #[], attributes := #[] }
def k2m1 : Method := { name := "available", desc := "()I", sig := { parameters := [], returnType := some .int }, accessFlags := 0, code := some k2c1 }
def k2c2 : Code := { maxStack := 4, maxLocals := 2, code := prog_54_method_13_code, exceptionTable := #[], attributes := #[] }
def k2m2 : Method := { name := "readInt", desc := "()I", sig := { parameters := [], returnType := some .int }, accessFlags := 0, code := some k2c2 }
def k2c3 : Code := { maxStack := 6, maxLocals := 3, code := prog_54_method_14_code, exceptionTable := #[], attributes := #[] }
def k2m3 : Method := { name := "readLong", desc := "()J", sig := { parameters := [], returnType := some .long }, accessFlags := 0, code := some k2c3 }
def k2c4 : Code := { maxStack := 4, maxLocals := 2, code := prog_54_method_17_code, exceptionTable := #[], attributes := #[] }
def k2m4 : Method := { name := "require", desc := "(I)V", sig := { parameters := [.int], returnType := none }, accessFlags := 2, code := some k2c4 }
/-- com/example/tenure/tenure/store/ValueReader -/
def k2 : Class := { plain "com/example/tenure/tenure/store/ValueReader" (some 0) with
  accessFlags := 48
  interfaces := #[]
  cf := some (fileOf pool2 8 #[] #[{ accessFlags := 0, nameIndex := 5, descriptorIndex := 104, attributes := #[] }, { accessFlags := 0, nameIndex := 89, descriptorIndex := 24, attributes := #[] }, { accessFlags := 0, nameIndex := 37, descriptorIndex := 24, attributes := #[] }, { accessFlags := 0, nameIndex := 125, descriptorIndex := 126, attributes := #[] }, { accessFlags := 2, nameIndex := 69, descriptorIndex := 70, attributes := #[] }] 48 2 #[] #[{ accessFlags := 18, nameIndex := 11, descriptorIndex := 12, attributes := #[] }, { accessFlags := 18, nameIndex := 15, descriptorIndex := 16, attributes := #[] }, { accessFlags := 2, nameIndex := 19, descriptorIndex := 20, attributes := #[] }])
  fields := #[{ name := "bytes", type := (.array .byte), accessFlags := 18, slot := 0, constantValue := 0 }, { name := "dictionary", type := (.object "com/example/tenure/tenure/store/ClassDictionary"), accessFlags := 18, slot := 1, constantValue := 0 }, { name := "position", type := .int, accessFlags := 2, slot := 2, constantValue := 0 }]
  methods := #[k2m0, k2m1, k2m2, k2m3, k2m4]
  instanceTypes := #[(.array .byte), (.object "com/example/tenure/tenure/store/ClassDictionary"), .int]
  staticTypes := #[]
  resolved := Array.replicate 146 none
  statics := none }

def pool3 : Array CpInfo := pool [(1, u "java/lang/Cloneable"), (0, .class_ 1), (0, u "java/lang/Object"), (0, .class_ 3)] 3

/-- java/lang/Cloneable -/
def k3 : Class := { plain "java/lang/Cloneable" (some 0) with
  accessFlags := 1537
  interfaces := #[]
  cf := some (fileOf pool3 2 #[] #[] 1537 4 #[] #[])
  fields := #[]
  methods := #[]
  instanceTypes := #[]
  staticTypes := #[]
  resolved := Array.replicate 8 none
  statics := none }

def pool4 : Array CpInfo := pool [(1, u "java/io/Serializable"), (0, .class_ 1), (0, u "java/lang/Object"), (0, .class_ 3)] 3

/-- java/io/Serializable -/
def k4 : Class := { plain "java/io/Serializable" (some 0) with
  accessFlags := 1537
  interfaces := #[]
  cf := some (fileOf pool4 2 #[] #[] 1537 4 #[] #[])
  fields := #[]
  methods := #[]
  instanceTypes := #[]
  staticTypes := #[]
  resolved := Array.replicate 8 none
  statics := none }

/-- the primitive byte -/
def k5 : Class := { plain "byte" none with kind := .primitive 'B', accessFlags := 0x411 }
/-- [B -/
def k6 : Class := { plain "[B" (some 0) with kind := .array 5 .byte, interfaces := #[3, 4], accessFlags := 1041 }

/-- the primitive int -/
def k7 : Class := { plain "int" none with kind := .primitive 'I', accessFlags := 0x411 }
/-- [I -/
def k8 : Class := { plain "[I" (some 0) with kind := .array 7 .int, interfaces := #[3, 4], accessFlags := 1041 }

def heap : Heap := #[]
def classes : Array Class := #[k0, k1, k2, k3, k4, k5, k6, k7, k8]
def interned : List (Array UInt16 × Addr) := []
def slotsUsed : Nat := 0
def theMethod : MethodId := ⟨1, 1⟩
def args0 : Array Value := #[.long 5, .long 7, .int 3]
def aboutOver (below : List Frame) : State where
  vm := { classes := classes, interned := interned.toArray }
  heap := heap
  slotsUsed := slotsUsed
  threads := #[{ frames := .invoking theMethod args0 :: below }]
def below0 : List Frame := [.native { method := ⟨0, 0⟩, args := #[] }]
def about1 : State := aboutOver below0
def p0 : Program := .bare "" "" ""
def e0 : Env := launch0.env 0 0 0
theorem w_frames : about1.frames = Frame.invoking theMethod args0 :: below0 := rfl
set_option maxRecDepth 65536 in
theorem w_args : argsFit about1.vm theMethod args0 = true := by decide +kernel
set_option maxRecDepth 65536 in
theorem w_heap : heapFits about1 = true := by decide +kernel
set_option maxRecDepth 65536 in
theorem w_runnable : about1.curStatus? = some .runnable := by decide +kernel
set_option maxRecDepth 65536 in
theorem w_alone : about1.alone = true := by decide +kernel
set_option maxRecDepth 65536 in
theorem w_named : about1.methodNamed? x = some theMethod := by decide +kernel
set_option maxRecDepth 65536 in
theorem w_hears : about1.hears theMethod below0 = true := by decide +kernel
set_option maxRecDepth 65536 in
theorem w_ripe : about1.ripe theMethod args0 below0 = true := by decide +kernel
theorem w_running : about1.status = .running := rfl
set_option maxRecDepth 65536 in
theorem w_room : about1.hasRoom e0.platform room_1 = true :=
  launch0.hasRoom_least _ room_1 (by decide +kernel) (by decide +kernel) (by decide +kernel) (by decide +kernel) (by decide +kernel) (by decide +kernel)
theorem allAtoms_all (ts : List Jvm.Cond) (a : Array Jvm.Value) (st : Jvm.State) : (allAtoms ts).before a st = ts.all (fun c => c.before a st) := by
  induction ts with
  | nil => rfl
  | cons c t ih =>
    show (Jvm.Cond.and c (allAtoms t)).before a st = _
    rw [Jvm.Cond.before_and, ih, List.all_cons]
def words1 : List Jvm.Cond := Jvm.Cond.code x code maxLocals ret :: tables_1
/-- a 'code' word, met by the world's own term for the bytes: nothing is compared byte by byte -/
theorem code_word {y : MethodName} {bytes : ByteArray} {mx : Nat} {rt : Option FieldType} {a : Array Value} {s : State} {m : MethodId} {meth : Method} {c : Code} (h1 : s.methodNamed? y = some m) (h2 : s.vm.method? m = some meth) (h3 : meth.code = some c) (h4 : c.code = bytes)
    (h5 : (c.maxLocals == mx && c.exceptionTable.isEmpty && decide (c.maxStack ≤ mostOperands) && decide (meth.sig.returnType = rt) && !meth.locks && decide (parseMethodDescriptor y.desc = some meth.sig)) = true) : (Jvm.Cond.code y bytes mx rt).before a s = true := by
  simp only [Bool.and_eq_true, beq_iff_eq, Bool.not_eq_true', decide_eq_true_eq] at h5
  obtain ⟨⟨⟨⟨⟨g1, g2⟩, g3⟩, g4⟩, g5⟩, g6⟩ := h5
  simp [Cond.before, Cond.holds, Cond.value, h1, h2, h3, h4, g1, g2, g3, g4, g5, g6]
def isCode : Jvm.Cond → Bool
  | .code _ _ _ _ => true
  | _ => false
theorem all_split {L : List Jvm.Cond} {P : Jvm.Cond → Bool} (h1 : L.all (fun c => isCode c || P c) = true) (h2 : ∀ c ∈ L.filter isCode, P c = true) : L.all P = true := by
  refine List.all_eq_true.mpr fun c hc => ?_
  have h := List.all_eq_true.mp h1 c hc
  rcases Bool.eq_false_or_eq_true (isCode c) with hi | hi
  · exact h2 c (List.mem_filter.mpr ⟨hc, hi⟩)
  · simpa [hi] using h
set_option maxRecDepth 65536 in
theorem w_c0 : (Jvm.Cond.code x code maxLocals ret).before args0 about1 = true := code_word (m := ⟨1, 1⟩) (meth := k1m1) (c := k1c1) (by decide +kernel) rfl rfl rfl (by decide +kernel)
set_option maxRecDepth 65536 in
theorem w_c1 : (Jvm.Cond.code ({ cls := "com/example/tenure/tenure/store/ValueReaderReadLongPinLaw", name := "put", desc := "([BIJ)V" } : Jvm.MethodName) method_3_code (4 : Nat) (Option.none : Option Jvm.ClassFile.FieldType)).before args0 about1 = true := code_word (m := ⟨1, 2⟩) (meth := k1m2) (c := k1c2) (by decide +kernel) rfl rfl rfl (by decide +kernel)
set_option maxRecDepth 65536 in
theorem w_c2 : (Jvm.Cond.code ({ cls := "com/example/tenure/tenure/store/ValueReader", name := "<init>", desc := "([BLcom/example/tenure/tenure/store/ClassDictionary;)V" } : Jvm.MethodName) prog_54_method_1_code (3 : Nat) (Option.none : Option Jvm.ClassFile.FieldType)).before args0 about1 = true := code_word (m := ⟨2, 0⟩) (meth := k2m0) (c := k2c0) (by decide +kernel) rfl rfl rfl (by decide +kernel)
set_option maxRecDepth 65536 in
theorem w_c3 : (Jvm.Cond.code ({ cls := "java/lang/Object", name := "<init>", desc := "()V" } : Jvm.MethodName) object_method_1_code (1 : Nat) (Option.none : Option Jvm.ClassFile.FieldType)).before args0 about1 = true := code_word (m := ⟨0, 0⟩) (meth := k0m0) (c := k0c0) (by decide +kernel) rfl rfl rfl (by decide +kernel)
set_option maxRecDepth 65536 in
theorem w_c4 : (Jvm.Cond.code ({ cls := "com/example/tenure/tenure/store/ValueReader", name := "readLong", desc := "()J" } : Jvm.MethodName) prog_54_method_14_code (3 : Nat) (Option.some Jvm.ClassFile.FieldType.long)).before args0 about1 = true := code_word (m := ⟨2, 3⟩) (meth := k2m3) (c := k2c3) (by decide +kernel) rfl rfl rfl (by decide +kernel)
set_option maxRecDepth 65536 in
theorem w_c5 : (Jvm.Cond.code ({ cls := "com/example/tenure/tenure/store/ValueReader", name := "readInt", desc := "()I" } : Jvm.MethodName) prog_54_method_13_code (2 : Nat) (Option.some Jvm.ClassFile.FieldType.int)).before args0 about1 = true := code_word (m := ⟨2, 2⟩) (meth := k2m2) (c := k2c2) (by decide +kernel) rfl rfl rfl (by decide +kernel)
set_option maxRecDepth 65536 in
theorem w_c6 : (Jvm.Cond.code ({ cls := "com/example/tenure/tenure/store/ValueReader", name := "require", desc := "(I)V" } : Jvm.MethodName) prog_54_method_17_code (2 : Nat) (Option.none : Option Jvm.ClassFile.FieldType)).before args0 about1 = true := code_word (m := ⟨2, 4⟩) (meth := k2m4) (c := k2c4) (by decide +kernel) rfl rfl rfl (by decide +kernel)
set_option maxRecDepth 65536 in
theorem w_c7 : (Jvm.Cond.code ({ cls := "com/example/tenure/tenure/store/ValueReader", name := "available", desc := "()I" } : Jvm.MethodName) prog_54_method_2_code (1 : Nat) (Option.some Jvm.ClassFile.FieldType.int)).before args0 about1 = true := code_word (m := ⟨2, 1⟩) (meth := k2m1) (c := k2c1) (by decide +kernel) rfl rfl rfl (by decide +kernel)
def codes1 : List Jvm.Cond := [Jvm.Cond.code x code maxLocals ret, Jvm.Cond.code ({ cls := "com/example/tenure/tenure/store/ValueReaderReadLongPinLaw", name := "put", desc := "([BIJ)V" } : Jvm.MethodName) method_3_code (4 : Nat) (Option.none : Option Jvm.ClassFile.FieldType), Jvm.Cond.code ({ cls := "com/example/tenure/tenure/store/ValueReader", name := "<init>", desc := "([BLcom/example/tenure/tenure/store/ClassDictionary;)V" } : Jvm.MethodName) prog_54_method_1_code (3 : Nat) (Option.none : Option Jvm.ClassFile.FieldType), Jvm.Cond.code ({ cls := "java/lang/Object", name := "<init>", desc := "()V" } : Jvm.MethodName) object_method_1_code (1 : Nat) (Option.none : Option Jvm.ClassFile.FieldType), Jvm.Cond.code ({ cls := "com/example/tenure/tenure/store/ValueReader", name := "readLong", desc := "()J" } : Jvm.MethodName) prog_54_method_14_code (3 : Nat) (Option.some Jvm.ClassFile.FieldType.long), Jvm.Cond.code ({ cls := "com/example/tenure/tenure/store/ValueReader", name := "readInt", desc := "()I" } : Jvm.MethodName) prog_54_method_13_code (2 : Nat) (Option.some Jvm.ClassFile.FieldType.int), Jvm.Cond.code ({ cls := "com/example/tenure/tenure/store/ValueReader", name := "require", desc := "(I)V" } : Jvm.MethodName) prog_54_method_17_code (2 : Nat) (Option.none : Option Jvm.ClassFile.FieldType), Jvm.Cond.code ({ cls := "com/example/tenure/tenure/store/ValueReader", name := "available", desc := "()I" } : Jvm.MethodName) prog_54_method_2_code (1 : Nat) (Option.some Jvm.ClassFile.FieldType.int)]
set_option maxRecDepth 65536 in
theorem codes_eq : words1.filter isCode = codes1 := rfl
theorem w_codes : ∀ c ∈ words1.filter isCode, c.before args0 about1 = true := by
  rw [codes_eq]
  intro c hc
  simp only [codes1, List.mem_cons, List.not_mem_nil, or_false] at hc
  rcases hc with rfl | rfl | rfl | rfl | rfl | rfl | rfl | rfl
  · exact w_c0
  · exact w_c1
  · exact w_c2
  · exact w_c3
  · exact w_c4
  · exact w_c5
  · exact w_c6
  · exact w_c7
set_option maxRecDepth 65536 in
theorem w_t1 : (words1.take 24).all (fun c => isCode c || c.before args0 about1) = true := by decide +kernel
set_option maxRecDepth 65536 in
theorem w_t2 : (words1.drop 24).all (fun c => isCode c || c.before args0 about1) = true := by decide +kernel
theorem w_tables : (allAtoms (Jvm.Cond.code x code maxLocals ret :: tables_1)).before args0 about1 = true := by
  rw [allAtoms_all]
  show words1.all (fun c => c.before args0 about1) = true
  refine all_split ?_ w_codes
  rw [← List.take_append_drop 24 words1, List.all_append, w_t1, w_t2]
  rfl
set_option maxRecDepth 65536 in
theorem w_case : (Jvm.Cond.and given_1 narrow_1).before args0 about1 = true := by decide +kernel
theorem w_applies : (headSpec (Jvm.Cond.code x code maxLocals ret :: tables_1) room_1).applies x e0.platform about1 = true :=
  (Spec.applies_iff w_frames).mpr ⟨w_running, w_runnable, w_alone, w_named, w_hears, w_ripe, w_room, w_tables⟩
theorem atStart : AtStart classFile x code maxLocals ret World_1 tables_1 room_1 Calls_1 rest_1 Pre_1 launch0 p0 e0 about1 theMethod args0 below0 :=
  ⟨lists_1, trivial, launch0.admits_env _ _ _, launch0.least_env, fairChoices_fair.cas, fairChoices_fair.clock, w_frames, w_args, w_heap, w_applies, trivial, trivial, w_case⟩
end start1
theorem witness_1 : WitnessClaimed_1 := ⟨start1.p0, start1.e0, start1.about1, start1.theMethod, start1.args0, start1.below0, start1.atStart⟩
end Jvm.Pilot.@@N@@
