import JvmDerived
import JvmDerived.Pilot.@@N@@Statement
import JvmDerived.Pilot.@@N@@Code
set_option linter.unusedVariables false
set_option linter.unusedSimpArgs false
namespace Jvm.RoadKit
open Sem ClassFile Op Lib Jvm.Stand Jvm.Free Jvm.LawKit
section New
variable {p : Program} {l : Launch} {e : Env} {R : Room} {s : State} {m : MethodId} {args : Array Value} {below : List Frame} {meth : Method} {c : Code} {T : State} {locs : List Loc} {cells slots : Nat}
theorem retI (X : Stand p l e R s m args below meth c T locs cells slots) (hx : p.tables.exec = Jvm.exec) {pc : Nat} {Ls : Array Slot} {z : Int32} {rest : List Value} (hret : meth.sig.returnType = some .int) (hd : decode c.code pc = .ok (.ireturn, 1)) {fs : List Frame}
    (hl : ∀ (f : JFrame) (acts : List Action), f.method = m → f.locked = none → f.entered = [] → (doReturn e (T.setTop f) acts (some (.int z))).1 = T.setFrames fs) : Steps p.tables e below (T.setTop (mkF m pc Ls (.int z :: rest))) (T.setFrames fs) := by
  have hm' : T.vm.method? m = some meth := X.method'
  have hn : narrow .int (.int z) = .int z := rfl
  show Steps p.tables e below (T.setTop { method := m, pc := pc, locals := Ls, stack := _ :: rest, locked := none }) _
  jvm_step X.here [X.here.top, hx, hd, hm', hret, hn]
  first | (intro acts; rw [hl _ acts rfl rfl rfl]) | rw [hl _ _ rfl rfl rfl]
  exact Steps.refl _
theorem retL (X : Stand p l e R s m args below meth c T locs cells slots) (hx : p.tables.exec = Jvm.exec) {pc : Nat} {Ls : Array Slot} {z : Int64} {rest : List Value} (hret : meth.sig.returnType = some .long) (hd : decode c.code pc = .ok (.lreturn, 1)) {fs : List Frame}
    (hl : ∀ (f : JFrame) (acts : List Action), f.method = m → f.locked = none → f.entered = [] → (doReturn e (T.setTop f) acts (some (.long z))).1 = T.setFrames fs) : Steps p.tables e below (T.setTop (mkF m pc Ls (.long z :: rest))) (T.setFrames fs) := by
  have hm' : T.vm.method? m = some meth := X.method'
  have hn : narrow .long (.long z) = .long z := rfl
  show Steps p.tables e below (T.setTop { method := m, pc := pc, locals := Ls, stack := _ :: rest, locked := none }) _
  jvm_step X.here [X.here.top, hx, hd, hm', hret, hn]
  first | (intro acts; rw [hl _ acts rfl rfl rfl]) | rw [hl _ _ rfl rfl rfl]
  exact Steps.refl _
theorem castS {locs' : List Loc} {cells' slots' : Nat} (h1 : locs = locs') (h2 : cells = cells') (h3 : slots = slots') (X : Stand p l e R s m args below meth c T locs cells slots) : Stand p l e R s m args below meth c T locs' cells' slots' := by
  subst h1 h2 h3; exact X
end New
end Jvm.RoadKit
namespace Jvm.Pilot.@@N@@
open Jvm Jvm.ClassFile Sem Op Lib Jvm.Free Jvm.Stand Jvm.LawKit Jvm.RoadKit Bundle Jvm.Pilot.@@N@@.Jvm.D
theorem d1_0 : decode prog_10_method_7_code 0 = .ok (.iconst 0, 1) := by decide +kernel
theorem d1_1 : decode prog_10_method_7_code 1 = .ok (.istore_n 3, 1) := by decide +kernel
theorem d1_2 : decode prog_10_method_7_code 2 = .ok (.iload_n 3, 1) := by decide +kernel
theorem d1_3 : decode prog_10_method_7_code 3 = .ok (.iconst 5, 1) := by decide +kernel
theorem d1_4 : decode prog_10_method_7_code 4 = .ok (.if_icmp .ge 19, 3) := by decide +kernel
theorem d1_7 : decode prog_10_method_7_code 7 = .ok (.aload_n 0, 1) := by decide +kernel
theorem d1_8 : decode prog_10_method_7_code 8 = .ok (.iload_n 3, 1) := by decide +kernel
theorem d1_9 : decode prog_10_method_7_code 9 = .ok (.aload_n 1, 1) := by decide +kernel
theorem d1_10 : decode prog_10_method_7_code 10 = .ok (.iload_n 3, 1) := by decide +kernel
theorem d1_11 : decode prog_10_method_7_code 11 = .ok (.laload, 1) := by decide +kernel
theorem d1_12 : decode prog_10_method_7_code 12 = .ok (.aload_n 2, 1) := by decide +kernel
theorem d1_13 : decode prog_10_method_7_code 13 = .ok (.iload_n 3, 1) := by decide +kernel
theorem d1_14 : decode prog_10_method_7_code 14 = .ok (.laload, 1) := by decide +kernel
theorem d1_15 : decode prog_10_method_7_code 15 = .ok (.lsub, 1) := by decide +kernel
theorem d1_16 : decode prog_10_method_7_code 16 = .ok (.lastore, 1) := by decide +kernel
theorem d1_17 : decode prog_10_method_7_code 17 = .ok (.iinc 3 1, 3) := by decide +kernel
theorem d1_20 : decode prog_10_method_7_code 20 = .ok (.goto (-18), 3) := by decide +kernel
theorem d1_23 : decode prog_10_method_7_code 23 = .ok (.return_, 1) := by decide +kernel
theorem pn_1 : plainName "com/example/latchet/latchet/Field25519" = true := by first | (simp [plainName, overriddenIn]; done) | decide +kernel
theorem ef_1a (m : MethodId) (x0 : Addr) (x1 : Addr) (x2 : Addr) : entryFrame m #[(.ref x0), (.ref x1), (.ref x2)] 4 = mkF m 0 #[.val (.ref x0), .val (.ref x1), .val (.ref x2), .unset] [] := by first | (simp [entryFrame, mkF, argsToLocals, Value.category]; done) | rfl
def Q1a (Z : State) (a1 : Addr) (a2 : Addr) (a3 : Addr) (k1 : ClassId) (k2 : ClassId) (k3 : ClassId) (z0 : Int64) (z1 : Int64) (z2 : Int64) (z3 : Int64) (z4 : Int64) (x0 : Int64) (x1 : Int64) (x2 : Int64) (x3 : Int64) (x4 : Int64) (y0 : Int64) (y1 : Int64) (y2 : Int64) (y3 : Int64) (y4 : Int64) (h0 : Heap) (n0 : Nat) (v : Option Value) (h : Heap) (L : List Loc) : Prop := v = none ∧ Fr n0 L ∧ Keep h0 h [a1] ∧ Arv Z h a1 k1 .long (5 : Int32) [(.long (x0 - y0)), (.long (x1 - y1)), (.long (x2 - y2)), (.long (x3 - y3)), (.long (x4 - y4))] (.long (0 : Int64))
set_option maxRecDepth 65536 in
set_option maxHeartbeats 40000000 in
theorem rm1a (l : Launch) (Z : State) (a0 : Array Value) (hw : ∀ d ∈ tables_1, d.before a0 Z = true) (ws : List Jvm.Cond) (a1 : Addr) (a2 : Addr) (a3 : Addr) (k1 : ClassId) (k2 : ClassId) (k3 : ClassId) (z0 : Int64) (z1 : Int64) (z2 : Int64) (z3 : Int64) (z4 : Int64) (x0 : Int64) (x1 : Int64) (x2 : Int64) (x3 : Int64) (x4 : Int64) (y0 : Int64) (y1 : Int64) (y2 : Int64) (y3 : Int64) (y4 : Int64) (h0 : Heap) (n0 : Nat) (Z0 : n0 ≤ h0.size) (V_a1 : Arv Z h0 a1 k1 .long (5 : Int32) [(.long z0), (.long z1), (.long z2), (.long z3), (.long z4)] (.long (0 : Int64))) (V_a2 : Arv Z h0 a2 k2 .long (5 : Int32) [(.long x0), (.long x1), (.long x2), (.long x3), (.long x4)] (.long (0 : Int64))) (V_a3 : Arv Z h0 a3 k3 .long (5 : Int32) [(.long y0), (.long y1), (.long y2), (.long y3), (.long y4)] (.long (0 : Int64))) (g_a1 : n0 ≤ a1) (ne_a2_a1 : a2 ≠ a1) (ne_a3_a1 : a3 ≠ a1) :
    MetFree l (⟨"com/example/latchet/latchet/Field25519", "sub", "([J[J[J)V"⟩ : MethodName) (head1 (Jvm.Cond.code (⟨"com/example/latchet/latchet/Field25519", "sub", "([J[J[J)V"⟩ : MethodName) prog_10_method_7_code 4 none :: ws) ({ frames := 0, cells := 0, slots := 0, locals := 0 } : Room)) (fun a U => a = #[(.ref a1), (.ref a2), (.ref a3)] ∧ Z.Warmed39 U.vm ∧ U.heap = h0) (fun _ _ _ _ _ => True) (fun _ U o U' => ∃ v L, o = .returned v ∧ Q1a Z a1 a2 a3 k1 k2 k3 z0 z1 z2 z3 z4 x0 x1 x2 x3 x4 y0 y1 y2 y3 y4 h0 n0 v U'.heap L ∧ FrameEnd U o U' L ({ frames := 0, cells := 0, slots := 0, locals := 0 } : Room).cells ({ frames := 0, cells := 0, slots := 0, locals := 0 } : Room).slots) := by
  refine MetFree.of_bodySF (plainFor_of_name pn_1) hisR ?_
  intro p e s m args below meth c s₁ Bd hml0 hP hK
  obtain ⟨rfl, hZ, hh⟩ := hP
  have hx := Bd.exec
  have hby := Bd.bytes
  have hml : c.maxLocals = 4 := hml0
  have hown : s.vm.findClass "com/example/latchet/latchet/Field25519" = some m.cls := findClass_of_methodNamed Bd.named
  have hnm := (name_of_methodNamed Bd.named Bd.method).1
  have X0 : Stand p l e ({ frames := 0, cells := 0, slots := 0, locals := 0 } : Room) s m #[(.ref a1), (.ref a2), (.ref a3)] below meth c s₁ [] 0 0 := Stand.of_body Bd
  have e0 : s₁.heap = h0 := by rw [← hh, Bd.state]; rfl
  have N0 := Fr.nil n0
  have pre0 : ∀ t, Steps p.tables e below (s₁.setTop (mkF m 0 #[.val (.ref a1), .val (.ref a2), .val (.ref a3), .unset] [])) t → Steps p.tables e below (s₁.setTop (entryFrame m #[(.ref a1), (.ref a2), (.ref a3)] 4)) t := fun t k => castTop (ef_1a m a1 a2 a3) k
  obtain ⟨cl_1, Ar_1, q_1, S_1, M_1, H_1, G_1⟩ := id V_a2
  have hin_1 : ¬ ((0 : Int32) < 0 ∨ cl_1.slots.size ≤ ((0 : Int32)).toNatClampNeg) := inb_of S_1 ⟨by decide, by decide⟩
  have hat_1 : cl_1.slots[((0 : Int32)).toNatClampNeg]? = some (.long x0) := H_1.at hin_1 rfl
  obtain ⟨cl_2, Ar_2, q_2, S_2, M_2, H_2, G_2⟩ := id V_a3
  have hin_2 : ¬ ((0 : Int32) < 0 ∨ cl_2.slots.size ≤ ((0 : Int32)).toNatClampNeg) := inb_of S_2 ⟨by decide, by decide⟩
  have hat_2 : cl_2.slots[((0 : Int32)).toNatClampNeg]? = some (.long y0) := H_2.at hin_2 rfl
  obtain ⟨cl_3, Ar_3, q_3, S_3, M_3, H_3, G_3⟩ := id V_a1
  have hin_3 : ¬ ((0 : Int32) < 0 ∨ cl_3.slots.size ≤ ((0 : Int32)).toNatClampNeg) := inb_of S_3 ⟨by decide, by decide⟩
  obtain ⟨T_3, h_3, X_3, e_3, W_3, st_3⟩ := stJ X0 hx hZ e0 Ar_3 (j := (0 : Int32)) hin_3 (g := (mkF m 16 #[.val (.ref a1), .val (.ref a2), .val (.ref a3), .val (.int (0 : Int32))] [(.long (x0 - y0)), (.int (0 : Int32)), (.ref a1)])) rfl rfl (hb hby d1_16)
  have z_4 : n0 ≤ h_3.size := Nat.le_trans Z0 (Keep.of_wr W_3).1
  have V_3 : Arv Z h_3 a1 k1 .long (5 : Int32) [(.long (x0 - y0)), (.long z1), (.long z2), (.long z3), (.long z4)] (.long (0 : Int64)) := Arv.set Ar_3 q_3 S_3 M_3 H_3 G_3 rfl W_3 0 rfl (Nat.le_of_ble_eq_true rfl)
  have N_3 := Fr.snoc X_3 N0 g_a1
  have K_3 : Keep h0 h_3 [a1] := (Keep.refl h0 [a1]).wr W_3 (Or.inl (List.mem_of_getElem? (i := 0) rfl))
  have f_5 : Arv Z h_3 a2 k2 .long (5 : Int32) [(.long x0), (.long x1), (.long x2), (.long x3), (.long x4)] (.long (0 : Int64)) := (V_a2.other W_3 ne_a2_a1)
  obtain ⟨cl_6, Ar_6, q_6, S_6, M_6, H_6, G_6⟩ := id f_5
  have hin_6 : ¬ ((1 : Int32) < 0 ∨ cl_6.slots.size ≤ ((1 : Int32)).toNatClampNeg) := inb_of S_6 ⟨by decide, by decide⟩
  have hat_6 : cl_6.slots[((1 : Int32)).toNatClampNeg]? = some (.long x1) := H_6.at hin_6 rfl
  have f_7 : Arv Z h_3 a3 k3 .long (5 : Int32) [(.long y0), (.long y1), (.long y2), (.long y3), (.long y4)] (.long (0 : Int64)) := (V_a3.other W_3 ne_a3_a1)
  obtain ⟨cl_8, Ar_8, q_8, S_8, M_8, H_8, G_8⟩ := id f_7
  have hin_8 : ¬ ((1 : Int32) < 0 ∨ cl_8.slots.size ≤ ((1 : Int32)).toNatClampNeg) := inb_of S_8 ⟨by decide, by decide⟩
  have hat_8 : cl_8.slots[((1 : Int32)).toNatClampNeg]? = some (.long y1) := H_8.at hin_8 rfl
  obtain ⟨cl_9, Ar_9, q_9, S_9, M_9, H_9, G_9⟩ := id V_3
  have hin_9 : ¬ ((1 : Int32) < 0 ∨ cl_9.slots.size ≤ ((1 : Int32)).toNatClampNeg) := inb_of S_9 ⟨by decide, by decide⟩
  obtain ⟨T_9, h_9, X_9, e_9, W_9, st_9⟩ := stJ X_3 hx hZ e_3 Ar_9 (j := (1 : Int32)) hin_9 (g := (mkF m 16 #[.val (.ref a1), .val (.ref a2), .val (.ref a3), .val (.int (1 : Int32))] [(.long (x1 - y1)), (.int (1 : Int32)), (.ref a1)])) rfl rfl (hb hby d1_16)
  have z_10 : n0 ≤ h_9.size := Nat.le_trans z_4 (Keep.of_wr W_9).1
  have V_9 : Arv Z h_9 a1 k1 .long (5 : Int32) [(.long (x0 - y0)), (.long (x1 - y1)), (.long z2), (.long z3), (.long z4)] (.long (0 : Int64)) := Arv.set Ar_9 q_9 S_9 M_9 H_9 G_9 rfl W_9 1 rfl (Nat.le_of_ble_eq_true rfl)
  have N_9 := Fr.snoc X_9 N_3 g_a1
  have K_9 : Keep h0 h_9 [a1] := K_3.wr W_9 (Or.inl (List.mem_of_getElem? (i := 0) rfl))
  have f_11 : Arv Z h_9 a2 k2 .long (5 : Int32) [(.long x0), (.long x1), (.long x2), (.long x3), (.long x4)] (.long (0 : Int64)) := (f_5.other W_9 ne_a2_a1)
  obtain ⟨cl_12, Ar_12, q_12, S_12, M_12, H_12, G_12⟩ := id f_11
  have hin_12 : ¬ ((2 : Int32) < 0 ∨ cl_12.slots.size ≤ ((2 : Int32)).toNatClampNeg) := inb_of S_12 ⟨by decide, by decide⟩
  have hat_12 : cl_12.slots[((2 : Int32)).toNatClampNeg]? = some (.long x2) := H_12.at hin_12 rfl
  have f_13 : Arv Z h_9 a3 k3 .long (5 : Int32) [(.long y0), (.long y1), (.long y2), (.long y3), (.long y4)] (.long (0 : Int64)) := (f_7.other W_9 ne_a3_a1)
  obtain ⟨cl_14, Ar_14, q_14, S_14, M_14, H_14, G_14⟩ := id f_13
  have hin_14 : ¬ ((2 : Int32) < 0 ∨ cl_14.slots.size ≤ ((2 : Int32)).toNatClampNeg) := inb_of S_14 ⟨by decide, by decide⟩
  have hat_14 : cl_14.slots[((2 : Int32)).toNatClampNeg]? = some (.long y2) := H_14.at hin_14 rfl
  obtain ⟨cl_15, Ar_15, q_15, S_15, M_15, H_15, G_15⟩ := id V_9
  have hin_15 : ¬ ((2 : Int32) < 0 ∨ cl_15.slots.size ≤ ((2 : Int32)).toNatClampNeg) := inb_of S_15 ⟨by decide, by decide⟩
  obtain ⟨T_15, h_15, X_15, e_15, W_15, st_15⟩ := stJ X_9 hx hZ e_9 Ar_15 (j := (2 : Int32)) hin_15 (g := (mkF m 16 #[.val (.ref a1), .val (.ref a2), .val (.ref a3), .val (.int (2 : Int32))] [(.long (x2 - y2)), (.int (2 : Int32)), (.ref a1)])) rfl rfl (hb hby d1_16)
  have z_16 : n0 ≤ h_15.size := Nat.le_trans z_10 (Keep.of_wr W_15).1
  have V_15 : Arv Z h_15 a1 k1 .long (5 : Int32) [(.long (x0 - y0)), (.long (x1 - y1)), (.long (x2 - y2)), (.long z3), (.long z4)] (.long (0 : Int64)) := Arv.set Ar_15 q_15 S_15 M_15 H_15 G_15 rfl W_15 2 rfl (Nat.le_of_ble_eq_true rfl)
  have N_15 := Fr.snoc X_15 N_9 g_a1
  have K_15 : Keep h0 h_15 [a1] := K_9.wr W_15 (Or.inl (List.mem_of_getElem? (i := 0) rfl))
  have f_17 : Arv Z h_15 a2 k2 .long (5 : Int32) [(.long x0), (.long x1), (.long x2), (.long x3), (.long x4)] (.long (0 : Int64)) := (f_11.other W_15 ne_a2_a1)
  obtain ⟨cl_18, Ar_18, q_18, S_18, M_18, H_18, G_18⟩ := id f_17
  have hin_18 : ¬ ((3 : Int32) < 0 ∨ cl_18.slots.size ≤ ((3 : Int32)).toNatClampNeg) := inb_of S_18 ⟨by decide, by decide⟩
  have hat_18 : cl_18.slots[((3 : Int32)).toNatClampNeg]? = some (.long x3) := H_18.at hin_18 rfl
  have f_19 : Arv Z h_15 a3 k3 .long (5 : Int32) [(.long y0), (.long y1), (.long y2), (.long y3), (.long y4)] (.long (0 : Int64)) := (f_13.other W_15 ne_a3_a1)
  obtain ⟨cl_20, Ar_20, q_20, S_20, M_20, H_20, G_20⟩ := id f_19
  have hin_20 : ¬ ((3 : Int32) < 0 ∨ cl_20.slots.size ≤ ((3 : Int32)).toNatClampNeg) := inb_of S_20 ⟨by decide, by decide⟩
  have hat_20 : cl_20.slots[((3 : Int32)).toNatClampNeg]? = some (.long y3) := H_20.at hin_20 rfl
  obtain ⟨cl_21, Ar_21, q_21, S_21, M_21, H_21, G_21⟩ := id V_15
  have hin_21 : ¬ ((3 : Int32) < 0 ∨ cl_21.slots.size ≤ ((3 : Int32)).toNatClampNeg) := inb_of S_21 ⟨by decide, by decide⟩
  obtain ⟨T_21, h_21, X_21, e_21, W_21, st_21⟩ := stJ X_15 hx hZ e_15 Ar_21 (j := (3 : Int32)) hin_21 (g := (mkF m 16 #[.val (.ref a1), .val (.ref a2), .val (.ref a3), .val (.int (3 : Int32))] [(.long (x3 - y3)), (.int (3 : Int32)), (.ref a1)])) rfl rfl (hb hby d1_16)
  have z_22 : n0 ≤ h_21.size := Nat.le_trans z_16 (Keep.of_wr W_21).1
  have V_21 : Arv Z h_21 a1 k1 .long (5 : Int32) [(.long (x0 - y0)), (.long (x1 - y1)), (.long (x2 - y2)), (.long (x3 - y3)), (.long z4)] (.long (0 : Int64)) := Arv.set Ar_21 q_21 S_21 M_21 H_21 G_21 rfl W_21 3 rfl (Nat.le_of_ble_eq_true rfl)
  have N_21 := Fr.snoc X_21 N_15 g_a1
  have K_21 : Keep h0 h_21 [a1] := K_15.wr W_21 (Or.inl (List.mem_of_getElem? (i := 0) rfl))
  have f_23 : Arv Z h_21 a2 k2 .long (5 : Int32) [(.long x0), (.long x1), (.long x2), (.long x3), (.long x4)] (.long (0 : Int64)) := (f_17.other W_21 ne_a2_a1)
  obtain ⟨cl_24, Ar_24, q_24, S_24, M_24, H_24, G_24⟩ := id f_23
  have hin_24 : ¬ ((4 : Int32) < 0 ∨ cl_24.slots.size ≤ ((4 : Int32)).toNatClampNeg) := inb_of S_24 ⟨by decide, by decide⟩
  have hat_24 : cl_24.slots[((4 : Int32)).toNatClampNeg]? = some (.long x4) := H_24.at hin_24 rfl
  have f_25 : Arv Z h_21 a3 k3 .long (5 : Int32) [(.long y0), (.long y1), (.long y2), (.long y3), (.long y4)] (.long (0 : Int64)) := (f_19.other W_21 ne_a3_a1)
  obtain ⟨cl_26, Ar_26, q_26, S_26, M_26, H_26, G_26⟩ := id f_25
  have hin_26 : ¬ ((4 : Int32) < 0 ∨ cl_26.slots.size ≤ ((4 : Int32)).toNatClampNeg) := inb_of S_26 ⟨by decide, by decide⟩
  have hat_26 : cl_26.slots[((4 : Int32)).toNatClampNeg]? = some (.long y4) := H_26.at hin_26 rfl
  obtain ⟨cl_27, Ar_27, q_27, S_27, M_27, H_27, G_27⟩ := id V_21
  have hin_27 : ¬ ((4 : Int32) < 0 ∨ cl_27.slots.size ≤ ((4 : Int32)).toNatClampNeg) := inb_of S_27 ⟨by decide, by decide⟩
  obtain ⟨T_27, h_27, X_27, e_27, W_27, st_27⟩ := stJ X_21 hx hZ e_21 Ar_27 (j := (4 : Int32)) hin_27 (g := (mkF m 16 #[.val (.ref a1), .val (.ref a2), .val (.ref a3), .val (.int (4 : Int32))] [(.long (x4 - y4)), (.int (4 : Int32)), (.ref a1)])) rfl rfl (hb hby d1_16)
  have z_28 : n0 ≤ h_27.size := Nat.le_trans z_22 (Keep.of_wr W_27).1
  have V_27 : Arv Z h_27 a1 k1 .long (5 : Int32) [(.long (x0 - y0)), (.long (x1 - y1)), (.long (x2 - y2)), (.long (x3 - y3)), (.long (x4 - y4))] (.long (0 : Int64)) := Arv.set Ar_27 q_27 S_27 M_27 H_27 G_27 rfl W_27 4 rfl (Nat.le_of_ble_eq_true rfl)
  have N_27 := Fr.snoc X_27 N_21 g_a1
  have K_27 : Keep h0 h_27 [a1] := K_21.wr W_27 (Or.inl (List.mem_of_getElem? (i := 0) rfl))
  obtain ⟨fs, hr, hrun, hended, hW, hsame⟩ := X_27.leave (v := none) (fun _ => rfl)
  refine ⟨_, _, pre0 _ ?_, hrun, hended, _, _, rfl, ?_, ⟨_, rfl⟩, hW, hsame.mono (by decide) (by decide)⟩
  · show Steps p.tables e below (s₁.setTop (mkF m 0 #[.val (.ref a1), .val (.ref a2), .val (.ref a3), .unset] [])) _
    refine XS.iconst X0.here hx rfl (hb hby d1_0) ?_
    show Steps p.tables e below (s₁.setTop (mkF m 1 #[.val (.ref a1), .val (.ref a2), .val (.ref a3), .unset] [(.int (0 : Int32))])) _
    refine XS.istoreN X0.here hx rfl (hb hby d1_1) rfl (l' := #[.val (.ref a1), .val (.ref a2), .val (.ref a3), .val (.int (0 : Int32))]) rfl ?_
    show Steps p.tables e below (s₁.setTop (mkF m 2 #[.val (.ref a1), .val (.ref a2), .val (.ref a3), .val (.int (0 : Int32))] [])) _
    refine XS.iloadN X0.here hx rfl (hb hby d1_2) rfl ?_
    show Steps p.tables e below (s₁.setTop (mkF m 3 #[.val (.ref a1), .val (.ref a2), .val (.ref a3), .val (.int (0 : Int32))] [(.int (0 : Int32))])) _
    refine XS.iconst X0.here hx rfl (hb hby d1_3) ?_
    show Steps p.tables e below (s₁.setTop (mkF m 4 #[.val (.ref a1), .val (.ref a2), .val (.ref a3), .val (.int (0 : Int32))] [(.int (5 : Int32)), (.int (0 : Int32))])) _
    refine XS.icmpNo X0.here hx rfl (hb hby d1_4) rfl (tlt (by decide : (0 : Int32) < (5 : Int32))).2.1 ?_
    show Steps p.tables e below (s₁.setTop (mkF m 7 #[.val (.ref a1), .val (.ref a2), .val (.ref a3), .val (.int (0 : Int32))] [])) _
    refine XS.aloadN X0.here hx rfl (hb hby d1_7) rfl rfl ?_
    show Steps p.tables e below (s₁.setTop (mkF m 8 #[.val (.ref a1), .val (.ref a2), .val (.ref a3), .val (.int (0 : Int32))] [(.ref a1)])) _
    refine XS.iloadN X0.here hx rfl (hb hby d1_8) rfl ?_
    show Steps p.tables e below (s₁.setTop (mkF m 9 #[.val (.ref a1), .val (.ref a2), .val (.ref a3), .val (.int (0 : Int32))] [(.int (0 : Int32)), (.ref a1)])) _
    refine XS.aloadN X0.here hx rfl (hb hby d1_9) rfl rfl ?_
    show Steps p.tables e below (s₁.setTop (mkF m 10 #[.val (.ref a1), .val (.ref a2), .val (.ref a3), .val (.int (0 : Int32))] [(.ref a2), (.int (0 : Int32)), (.ref a1)])) _
    refine XS.iloadN X0.here hx rfl (hb hby d1_10) rfl ?_
    show Steps p.tables e below (s₁.setTop (mkF m 11 #[.val (.ref a1), .val (.ref a2), .val (.ref a3), .val (.int (0 : Int32))] [(.int (0 : Int32)), (.ref a2), (.int (0 : Int32)), (.ref a1)])) _
    refine X0.laload hx (j := (0 : Int32)) (v := (.long x0)) (by rw [e0]; exact Ar_1.1) (State.isArrayOf_alike hZ.alike Ar_1.2.1) Ar_1.2.2 hin_1 hat_1 (g := (mkF m 11 #[.val (.ref a1), .val (.ref a2), .val (.ref a3), .val (.int (0 : Int32))] [(.int (0 : Int32)), (.ref a2), (.int (0 : Int32)), (.ref a1)])) rfl rfl (hb hby d1_11) _ ?_
    show Steps p.tables e below (s₁.setTop (mkF m 12 #[.val (.ref a1), .val (.ref a2), .val (.ref a3), .val (.int (0 : Int32))] [(.long x0), (.int (0 : Int32)), (.ref a1)])) _
    refine XS.aloadN X0.here hx rfl (hb hby d1_12) rfl rfl ?_
    show Steps p.tables e below (s₁.setTop (mkF m 13 #[.val (.ref a1), .val (.ref a2), .val (.ref a3), .val (.int (0 : Int32))] [(.ref a3), (.long x0), (.int (0 : Int32)), (.ref a1)])) _
    refine XS.iloadN X0.here hx rfl (hb hby d1_13) rfl ?_
    show Steps p.tables e below (s₁.setTop (mkF m 14 #[.val (.ref a1), .val (.ref a2), .val (.ref a3), .val (.int (0 : Int32))] [(.int (0 : Int32)), (.ref a3), (.long x0), (.int (0 : Int32)), (.ref a1)])) _
    refine X0.laload hx (j := (0 : Int32)) (v := (.long y0)) (by rw [e0]; exact Ar_2.1) (State.isArrayOf_alike hZ.alike Ar_2.2.1) Ar_2.2.2 hin_2 hat_2 (g := (mkF m 14 #[.val (.ref a1), .val (.ref a2), .val (.ref a3), .val (.int (0 : Int32))] [(.int (0 : Int32)), (.ref a3), (.long x0), (.int (0 : Int32)), (.ref a1)])) rfl rfl (hb hby d1_14) _ ?_
    show Steps p.tables e below (s₁.setTop (mkF m 15 #[.val (.ref a1), .val (.ref a2), .val (.ref a3), .val (.int (0 : Int32))] [(.long y0), (.long x0), (.int (0 : Int32)), (.ref a1)])) _
    refine XS.lsub X0.here hx rfl (hb hby d1_15) rfl ?_
    show Steps p.tables e below (s₁.setTop (mkF m 16 #[.val (.ref a1), .val (.ref a2), .val (.ref a3), .val (.int (0 : Int32))] [(.long (x0 - y0)), (.int (0 : Int32)), (.ref a1)])) _
    refine st_3 _ ?_
    show Steps p.tables e below (T_3.setTop (mkF m 17 #[.val (.ref a1), .val (.ref a2), .val (.ref a3), .val (.int (0 : Int32))] [])) _
    refine XS.iinc X_3.here hx rfl (hb hby d1_17) rfl (l' := #[.val (.ref a1), .val (.ref a2), .val (.ref a3), .val (.int (1 : Int32))]) rfl ?_
    show Steps p.tables e below (T_3.setTop (mkF m 20 #[.val (.ref a1), .val (.ref a2), .val (.ref a3), .val (.int (1 : Int32))] [])) _
    refine XS.goto X_3.here hx rfl (pc0 := 20) (pc' := 2) rfl (hb hby d1_20) (by decide) (by decide) ?_
    show Steps p.tables e below (T_3.setTop (mkF m 2 #[.val (.ref a1), .val (.ref a2), .val (.ref a3), .val (.int (1 : Int32))] [])) _
    refine XS.iloadN X_3.here hx rfl (hb hby d1_2) rfl ?_
    show Steps p.tables e below (T_3.setTop (mkF m 3 #[.val (.ref a1), .val (.ref a2), .val (.ref a3), .val (.int (1 : Int32))] [(.int (1 : Int32))])) _
    refine XS.iconst X_3.here hx rfl (hb hby d1_3) ?_
    show Steps p.tables e below (T_3.setTop (mkF m 4 #[.val (.ref a1), .val (.ref a2), .val (.ref a3), .val (.int (1 : Int32))] [(.int (5 : Int32)), (.int (1 : Int32))])) _
    refine XS.icmpNo X_3.here hx rfl (hb hby d1_4) rfl (tlt (by decide : (1 : Int32) < (5 : Int32))).2.1 ?_
    show Steps p.tables e below (T_3.setTop (mkF m 7 #[.val (.ref a1), .val (.ref a2), .val (.ref a3), .val (.int (1 : Int32))] [])) _
    refine XS.aloadN X_3.here hx rfl (hb hby d1_7) rfl rfl ?_
    show Steps p.tables e below (T_3.setTop (mkF m 8 #[.val (.ref a1), .val (.ref a2), .val (.ref a3), .val (.int (1 : Int32))] [(.ref a1)])) _
    refine XS.iloadN X_3.here hx rfl (hb hby d1_8) rfl ?_
    show Steps p.tables e below (T_3.setTop (mkF m 9 #[.val (.ref a1), .val (.ref a2), .val (.ref a3), .val (.int (1 : Int32))] [(.int (1 : Int32)), (.ref a1)])) _
    refine XS.aloadN X_3.here hx rfl (hb hby d1_9) rfl rfl ?_
    show Steps p.tables e below (T_3.setTop (mkF m 10 #[.val (.ref a1), .val (.ref a2), .val (.ref a3), .val (.int (1 : Int32))] [(.ref a2), (.int (1 : Int32)), (.ref a1)])) _
    refine XS.iloadN X_3.here hx rfl (hb hby d1_10) rfl ?_
    show Steps p.tables e below (T_3.setTop (mkF m 11 #[.val (.ref a1), .val (.ref a2), .val (.ref a3), .val (.int (1 : Int32))] [(.int (1 : Int32)), (.ref a2), (.int (1 : Int32)), (.ref a1)])) _
    refine X_3.laload hx (j := (1 : Int32)) (v := (.long x1)) (by rw [e_3]; exact Ar_6.1) (State.isArrayOf_alike hZ.alike Ar_6.2.1) Ar_6.2.2 hin_6 hat_6 (g := (mkF m 11 #[.val (.ref a1), .val (.ref a2), .val (.ref a3), .val (.int (1 : Int32))] [(.int (1 : Int32)), (.ref a2), (.int (1 : Int32)), (.ref a1)])) rfl rfl (hb hby d1_11) _ ?_
    show Steps p.tables e below (T_3.setTop (mkF m 12 #[.val (.ref a1), .val (.ref a2), .val (.ref a3), .val (.int (1 : Int32))] [(.long x1), (.int (1 : Int32)), (.ref a1)])) _
    refine XS.aloadN X_3.here hx rfl (hb hby d1_12) rfl rfl ?_
    show Steps p.tables e below (T_3.setTop (mkF m 13 #[.val (.ref a1), .val (.ref a2), .val (.ref a3), .val (.int (1 : Int32))] [(.ref a3), (.long x1), (.int (1 : Int32)), (.ref a1)])) _
    refine XS.iloadN X_3.here hx rfl (hb hby d1_13) rfl ?_
    show Steps p.tables e below (T_3.setTop (mkF m 14 #[.val (.ref a1), .val (.ref a2), .val (.ref a3), .val (.int (1 : Int32))] [(.int (1 : Int32)), (.ref a3), (.long x1), (.int (1 : Int32)), (.ref a1)])) _
    refine X_3.laload hx (j := (1 : Int32)) (v := (.long y1)) (by rw [e_3]; exact Ar_8.1) (State.isArrayOf_alike hZ.alike Ar_8.2.1) Ar_8.2.2 hin_8 hat_8 (g := (mkF m 14 #[.val (.ref a1), .val (.ref a2), .val (.ref a3), .val (.int (1 : Int32))] [(.int (1 : Int32)), (.ref a3), (.long x1), (.int (1 : Int32)), (.ref a1)])) rfl rfl (hb hby d1_14) _ ?_
    show Steps p.tables e below (T_3.setTop (mkF m 15 #[.val (.ref a1), .val (.ref a2), .val (.ref a3), .val (.int (1 : Int32))] [(.long y1), (.long x1), (.int (1 : Int32)), (.ref a1)])) _
    refine XS.lsub X_3.here hx rfl (hb hby d1_15) rfl ?_
    show Steps p.tables e below (T_3.setTop (mkF m 16 #[.val (.ref a1), .val (.ref a2), .val (.ref a3), .val (.int (1 : Int32))] [(.long (x1 - y1)), (.int (1 : Int32)), (.ref a1)])) _
    refine st_9 _ ?_
    show Steps p.tables e below (T_9.setTop (mkF m 17 #[.val (.ref a1), .val (.ref a2), .val (.ref a3), .val (.int (1 : Int32))] [])) _
    refine XS.iinc X_9.here hx rfl (hb hby d1_17) rfl (l' := #[.val (.ref a1), .val (.ref a2), .val (.ref a3), .val (.int (2 : Int32))]) rfl ?_
    show Steps p.tables e below (T_9.setTop (mkF m 20 #[.val (.ref a1), .val (.ref a2), .val (.ref a3), .val (.int (2 : Int32))] [])) _
    refine XS.goto X_9.here hx rfl (pc0 := 20) (pc' := 2) rfl (hb hby d1_20) (by decide) (by decide) ?_
    show Steps p.tables e below (T_9.setTop (mkF m 2 #[.val (.ref a1), .val (.ref a2), .val (.ref a3), .val (.int (2 : Int32))] [])) _
    refine XS.iloadN X_9.here hx rfl (hb hby d1_2) rfl ?_
    show Steps p.tables e below (T_9.setTop (mkF m 3 #[.val (.ref a1), .val (.ref a2), .val (.ref a3), .val (.int (2 : Int32))] [(.int (2 : Int32))])) _
    refine XS.iconst X_9.here hx rfl (hb hby d1_3) ?_
    show Steps p.tables e below (T_9.setTop (mkF m 4 #[.val (.ref a1), .val (.ref a2), .val (.ref a3), .val (.int (2 : Int32))] [(.int (5 : Int32)), (.int (2 : Int32))])) _
    refine XS.icmpNo X_9.here hx rfl (hb hby d1_4) rfl (tlt (by decide : (2 : Int32) < (5 : Int32))).2.1 ?_
    show Steps p.tables e below (T_9.setTop (mkF m 7 #[.val (.ref a1), .val (.ref a2), .val (.ref a3), .val (.int (2 : Int32))] [])) _
    refine XS.aloadN X_9.here hx rfl (hb hby d1_7) rfl rfl ?_
    show Steps p.tables e below (T_9.setTop (mkF m 8 #[.val (.ref a1), .val (.ref a2), .val (.ref a3), .val (.int (2 : Int32))] [(.ref a1)])) _
    refine XS.iloadN X_9.here hx rfl (hb hby d1_8) rfl ?_
    show Steps p.tables e below (T_9.setTop (mkF m 9 #[.val (.ref a1), .val (.ref a2), .val (.ref a3), .val (.int (2 : Int32))] [(.int (2 : Int32)), (.ref a1)])) _
    refine XS.aloadN X_9.here hx rfl (hb hby d1_9) rfl rfl ?_
    show Steps p.tables e below (T_9.setTop (mkF m 10 #[.val (.ref a1), .val (.ref a2), .val (.ref a3), .val (.int (2 : Int32))] [(.ref a2), (.int (2 : Int32)), (.ref a1)])) _
    refine XS.iloadN X_9.here hx rfl (hb hby d1_10) rfl ?_
    show Steps p.tables e below (T_9.setTop (mkF m 11 #[.val (.ref a1), .val (.ref a2), .val (.ref a3), .val (.int (2 : Int32))] [(.int (2 : Int32)), (.ref a2), (.int (2 : Int32)), (.ref a1)])) _
    refine X_9.laload hx (j := (2 : Int32)) (v := (.long x2)) (by rw [e_9]; exact Ar_12.1) (State.isArrayOf_alike hZ.alike Ar_12.2.1) Ar_12.2.2 hin_12 hat_12 (g := (mkF m 11 #[.val (.ref a1), .val (.ref a2), .val (.ref a3), .val (.int (2 : Int32))] [(.int (2 : Int32)), (.ref a2), (.int (2 : Int32)), (.ref a1)])) rfl rfl (hb hby d1_11) _ ?_
    show Steps p.tables e below (T_9.setTop (mkF m 12 #[.val (.ref a1), .val (.ref a2), .val (.ref a3), .val (.int (2 : Int32))] [(.long x2), (.int (2 : Int32)), (.ref a1)])) _
    refine XS.aloadN X_9.here hx rfl (hb hby d1_12) rfl rfl ?_
    show Steps p.tables e below (T_9.setTop (mkF m 13 #[.val (.ref a1), .val (.ref a2), .val (.ref a3), .val (.int (2 : Int32))] [(.ref a3), (.long x2), (.int (2 : Int32)), (.ref a1)])) _
    refine XS.iloadN X_9.here hx rfl (hb hby d1_13) rfl ?_
    show Steps p.tables e below (T_9.setTop (mkF m 14 #[.val (.ref a1), .val (.ref a2), .val (.ref a3), .val (.int (2 : Int32))] [(.int (2 : Int32)), (.ref a3), (.long x2), (.int (2 : Int32)), (.ref a1)])) _
    refine X_9.laload hx (j := (2 : Int32)) (v := (.long y2)) (by rw [e_9]; exact Ar_14.1) (State.isArrayOf_alike hZ.alike Ar_14.2.1) Ar_14.2.2 hin_14 hat_14 (g := (mkF m 14 #[.val (.ref a1), .val (.ref a2), .val (.ref a3), .val (.int (2 : Int32))] [(.int (2 : Int32)), (.ref a3), (.long x2), (.int (2 : Int32)), (.ref a1)])) rfl rfl (hb hby d1_14) _ ?_
    show Steps p.tables e below (T_9.setTop (mkF m 15 #[.val (.ref a1), .val (.ref a2), .val (.ref a3), .val (.int (2 : Int32))] [(.long y2), (.long x2), (.int (2 : Int32)), (.ref a1)])) _
    refine XS.lsub X_9.here hx rfl (hb hby d1_15) rfl ?_
    show Steps p.tables e below (T_9.setTop (mkF m 16 #[.val (.ref a1), .val (.ref a2), .val (.ref a3), .val (.int (2 : Int32))] [(.long (x2 - y2)), (.int (2 : Int32)), (.ref a1)])) _
    refine st_15 _ ?_
    show Steps p.tables e below (T_15.setTop (mkF m 17 #[.val (.ref a1), .val (.ref a2), .val (.ref a3), .val (.int (2 : Int32))] [])) _
    refine XS.iinc X_15.here hx rfl (hb hby d1_17) rfl (l' := #[.val (.ref a1), .val (.ref a2), .val (.ref a3), .val (.int (3 : Int32))]) rfl ?_
    show Steps p.tables e below (T_15.setTop (mkF m 20 #[.val (.ref a1), .val (.ref a2), .val (.ref a3), .val (.int (3 : Int32))] [])) _
    refine XS.goto X_15.here hx rfl (pc0 := 20) (pc' := 2) rfl (hb hby d1_20) (by decide) (by decide) ?_
    show Steps p.tables e below (T_15.setTop (mkF m 2 #[.val (.ref a1), .val (.ref a2), .val (.ref a3), .val (.int (3 : Int32))] [])) _
    refine XS.iloadN X_15.here hx rfl (hb hby d1_2) rfl ?_
    show Steps p.tables e below (T_15.setTop (mkF m 3 #[.val (.ref a1), .val (.ref a2), .val (.ref a3), .val (.int (3 : Int32))] [(.int (3 : Int32))])) _
    refine XS.iconst X_15.here hx rfl (hb hby d1_3) ?_
    show Steps p.tables e below (T_15.setTop (mkF m 4 #[.val (.ref a1), .val (.ref a2), .val (.ref a3), .val (.int (3 : Int32))] [(.int (5 : Int32)), (.int (3 : Int32))])) _
    refine XS.icmpNo X_15.here hx rfl (hb hby d1_4) rfl (tlt (by decide : (3 : Int32) < (5 : Int32))).2.1 ?_
    show Steps p.tables e below (T_15.setTop (mkF m 7 #[.val (.ref a1), .val (.ref a2), .val (.ref a3), .val (.int (3 : Int32))] [])) _
    refine XS.aloadN X_15.here hx rfl (hb hby d1_7) rfl rfl ?_
    show Steps p.tables e below (T_15.setTop (mkF m 8 #[.val (.ref a1), .val (.ref a2), .val (.ref a3), .val (.int (3 : Int32))] [(.ref a1)])) _
    refine XS.iloadN X_15.here hx rfl (hb hby d1_8) rfl ?_
    show Steps p.tables e below (T_15.setTop (mkF m 9 #[.val (.ref a1), .val (.ref a2), .val (.ref a3), .val (.int (3 : Int32))] [(.int (3 : Int32)), (.ref a1)])) _
    refine XS.aloadN X_15.here hx rfl (hb hby d1_9) rfl rfl ?_
    show Steps p.tables e below (T_15.setTop (mkF m 10 #[.val (.ref a1), .val (.ref a2), .val (.ref a3), .val (.int (3 : Int32))] [(.ref a2), (.int (3 : Int32)), (.ref a1)])) _
    refine XS.iloadN X_15.here hx rfl (hb hby d1_10) rfl ?_
    show Steps p.tables e below (T_15.setTop (mkF m 11 #[.val (.ref a1), .val (.ref a2), .val (.ref a3), .val (.int (3 : Int32))] [(.int (3 : Int32)), (.ref a2), (.int (3 : Int32)), (.ref a1)])) _
    refine X_15.laload hx (j := (3 : Int32)) (v := (.long x3)) (by rw [e_15]; exact Ar_18.1) (State.isArrayOf_alike hZ.alike Ar_18.2.1) Ar_18.2.2 hin_18 hat_18 (g := (mkF m 11 #[.val (.ref a1), .val (.ref a2), .val (.ref a3), .val (.int (3 : Int32))] [(.int (3 : Int32)), (.ref a2), (.int (3 : Int32)), (.ref a1)])) rfl rfl (hb hby d1_11) _ ?_
    show Steps p.tables e below (T_15.setTop (mkF m 12 #[.val (.ref a1), .val (.ref a2), .val (.ref a3), .val (.int (3 : Int32))] [(.long x3), (.int (3 : Int32)), (.ref a1)])) _
    refine XS.aloadN X_15.here hx rfl (hb hby d1_12) rfl rfl ?_
    show Steps p.tables e below (T_15.setTop (mkF m 13 #[.val (.ref a1), .val (.ref a2), .val (.ref a3), .val (.int (3 : Int32))] [(.ref a3), (.long x3), (.int (3 : Int32)), (.ref a1)])) _
    refine XS.iloadN X_15.here hx rfl (hb hby d1_13) rfl ?_
    show Steps p.tables e below (T_15.setTop (mkF m 14 #[.val (.ref a1), .val (.ref a2), .val (.ref a3), .val (.int (3 : Int32))] [(.int (3 : Int32)), (.ref a3), (.long x3), (.int (3 : Int32)), (.ref a1)])) _
    refine X_15.laload hx (j := (3 : Int32)) (v := (.long y3)) (by rw [e_15]; exact Ar_20.1) (State.isArrayOf_alike hZ.alike Ar_20.2.1) Ar_20.2.2 hin_20 hat_20 (g := (mkF m 14 #[.val (.ref a1), .val (.ref a2), .val (.ref a3), .val (.int (3 : Int32))] [(.int (3 : Int32)), (.ref a3), (.long x3), (.int (3 : Int32)), (.ref a1)])) rfl rfl (hb hby d1_14) _ ?_
    show Steps p.tables e below (T_15.setTop (mkF m 15 #[.val (.ref a1), .val (.ref a2), .val (.ref a3), .val (.int (3 : Int32))] [(.long y3), (.long x3), (.int (3 : Int32)), (.ref a1)])) _
    refine XS.lsub X_15.here hx rfl (hb hby d1_15) rfl ?_
    show Steps p.tables e below (T_15.setTop (mkF m 16 #[.val (.ref a1), .val (.ref a2), .val (.ref a3), .val (.int (3 : Int32))] [(.long (x3 - y3)), (.int (3 : Int32)), (.ref a1)])) _
    refine st_21 _ ?_
    show Steps p.tables e below (T_21.setTop (mkF m 17 #[.val (.ref a1), .val (.ref a2), .val (.ref a3), .val (.int (3 : Int32))] [])) _
    refine XS.iinc X_21.here hx rfl (hb hby d1_17) rfl (l' := #[.val (.ref a1), .val (.ref a2), .val (.ref a3), .val (.int (4 : Int32))]) rfl ?_
    show Steps p.tables e below (T_21.setTop (mkF m 20 #[.val (.ref a1), .val (.ref a2), .val (.ref a3), .val (.int (4 : Int32))] [])) _
    refine XS.goto X_21.here hx rfl (pc0 := 20) (pc' := 2) rfl (hb hby d1_20) (by decide) (by decide) ?_
    show Steps p.tables e below (T_21.setTop (mkF m 2 #[.val (.ref a1), .val (.ref a2), .val (.ref a3), .val (.int (4 : Int32))] [])) _
    refine XS.iloadN X_21.here hx rfl (hb hby d1_2) rfl ?_
    show Steps p.tables e below (T_21.setTop (mkF m 3 #[.val (.ref a1), .val (.ref a2), .val (.ref a3), .val (.int (4 : Int32))] [(.int (4 : Int32))])) _
    refine XS.iconst X_21.here hx rfl (hb hby d1_3) ?_
    show Steps p.tables e below (T_21.setTop (mkF m 4 #[.val (.ref a1), .val (.ref a2), .val (.ref a3), .val (.int (4 : Int32))] [(.int (5 : Int32)), (.int (4 : Int32))])) _
    refine XS.icmpNo X_21.here hx rfl (hb hby d1_4) rfl (tlt (by decide : (4 : Int32) < (5 : Int32))).2.1 ?_
    show Steps p.tables e below (T_21.setTop (mkF m 7 #[.val (.ref a1), .val (.ref a2), .val (.ref a3), .val (.int (4 : Int32))] [])) _
    refine XS.aloadN X_21.here hx rfl (hb hby d1_7) rfl rfl ?_
    show Steps p.tables e below (T_21.setTop (mkF m 8 #[.val (.ref a1), .val (.ref a2), .val (.ref a3), .val (.int (4 : Int32))] [(.ref a1)])) _
    refine XS.iloadN X_21.here hx rfl (hb hby d1_8) rfl ?_
    show Steps p.tables e below (T_21.setTop (mkF m 9 #[.val (.ref a1), .val (.ref a2), .val (.ref a3), .val (.int (4 : Int32))] [(.int (4 : Int32)), (.ref a1)])) _
    refine XS.aloadN X_21.here hx rfl (hb hby d1_9) rfl rfl ?_
    show Steps p.tables e below (T_21.setTop (mkF m 10 #[.val (.ref a1), .val (.ref a2), .val (.ref a3), .val (.int (4 : Int32))] [(.ref a2), (.int (4 : Int32)), (.ref a1)])) _
    refine XS.iloadN X_21.here hx rfl (hb hby d1_10) rfl ?_
    show Steps p.tables e below (T_21.setTop (mkF m 11 #[.val (.ref a1), .val (.ref a2), .val (.ref a3), .val (.int (4 : Int32))] [(.int (4 : Int32)), (.ref a2), (.int (4 : Int32)), (.ref a1)])) _
    refine X_21.laload hx (j := (4 : Int32)) (v := (.long x4)) (by rw [e_21]; exact Ar_24.1) (State.isArrayOf_alike hZ.alike Ar_24.2.1) Ar_24.2.2 hin_24 hat_24 (g := (mkF m 11 #[.val (.ref a1), .val (.ref a2), .val (.ref a3), .val (.int (4 : Int32))] [(.int (4 : Int32)), (.ref a2), (.int (4 : Int32)), (.ref a1)])) rfl rfl (hb hby d1_11) _ ?_
    show Steps p.tables e below (T_21.setTop (mkF m 12 #[.val (.ref a1), .val (.ref a2), .val (.ref a3), .val (.int (4 : Int32))] [(.long x4), (.int (4 : Int32)), (.ref a1)])) _
    refine XS.aloadN X_21.here hx rfl (hb hby d1_12) rfl rfl ?_
    show Steps p.tables e below (T_21.setTop (mkF m 13 #[.val (.ref a1), .val (.ref a2), .val (.ref a3), .val (.int (4 : Int32))] [(.ref a3), (.long x4), (.int (4 : Int32)), (.ref a1)])) _
    refine XS.iloadN X_21.here hx rfl (hb hby d1_13) rfl ?_
    show Steps p.tables e below (T_21.setTop (mkF m 14 #[.val (.ref a1), .val (.ref a2), .val (.ref a3), .val (.int (4 : Int32))] [(.int (4 : Int32)), (.ref a3), (.long x4), (.int (4 : Int32)), (.ref a1)])) _
    refine X_21.laload hx (j := (4 : Int32)) (v := (.long y4)) (by rw [e_21]; exact Ar_26.1) (State.isArrayOf_alike hZ.alike Ar_26.2.1) Ar_26.2.2 hin_26 hat_26 (g := (mkF m 14 #[.val (.ref a1), .val (.ref a2), .val (.ref a3), .val (.int (4 : Int32))] [(.int (4 : Int32)), (.ref a3), (.long x4), (.int (4 : Int32)), (.ref a1)])) rfl rfl (hb hby d1_14) _ ?_
    show Steps p.tables e below (T_21.setTop (mkF m 15 #[.val (.ref a1), .val (.ref a2), .val (.ref a3), .val (.int (4 : Int32))] [(.long y4), (.long x4), (.int (4 : Int32)), (.ref a1)])) _
    refine XS.lsub X_21.here hx rfl (hb hby d1_15) rfl ?_
    show Steps p.tables e below (T_21.setTop (mkF m 16 #[.val (.ref a1), .val (.ref a2), .val (.ref a3), .val (.int (4 : Int32))] [(.long (x4 - y4)), (.int (4 : Int32)), (.ref a1)])) _
    refine st_27 _ ?_
    show Steps p.tables e below (T_27.setTop (mkF m 17 #[.val (.ref a1), .val (.ref a2), .val (.ref a3), .val (.int (4 : Int32))] [])) _
    refine XS.iinc X_27.here hx rfl (hb hby d1_17) rfl (l' := #[.val (.ref a1), .val (.ref a2), .val (.ref a3), .val (.int (5 : Int32))]) rfl ?_
    show Steps p.tables e below (T_27.setTop (mkF m 20 #[.val (.ref a1), .val (.ref a2), .val (.ref a3), .val (.int (5 : Int32))] [])) _
    refine XS.goto X_27.here hx rfl (pc0 := 20) (pc' := 2) rfl (hb hby d1_20) (by decide) (by decide) ?_
    show Steps p.tables e below (T_27.setTop (mkF m 2 #[.val (.ref a1), .val (.ref a2), .val (.ref a3), .val (.int (5 : Int32))] [])) _
    refine XS.iloadN X_27.here hx rfl (hb hby d1_2) rfl ?_
    show Steps p.tables e below (T_27.setTop (mkF m 3 #[.val (.ref a1), .val (.ref a2), .val (.ref a3), .val (.int (5 : Int32))] [(.int (5 : Int32))])) _
    refine XS.iconst X_27.here hx rfl (hb hby d1_3) ?_
    show Steps p.tables e below (T_27.setTop (mkF m 4 #[.val (.ref a1), .val (.ref a2), .val (.ref a3), .val (.int (5 : Int32))] [(.int (5 : Int32)), (.int (5 : Int32))])) _
    refine XS.icmpYes X_27.here hx rfl (pc0 := 4) (pc' := 23) rfl (hb hby d1_4) rfl (flt (by decide : ¬ ((5 : Int32) < (5 : Int32)))).2.1 (by decide) (by decide) ?_
    show Steps p.tables e below (T_27.setTop (mkF m 23 #[.val (.ref a1), .val (.ref a2), .val (.ref a3), .val (.int (5 : Int32))] [])) _
    exact X_27.returnOut hx Bd.returns (hb hby d1_23) hr
  · show Q1a Z a1 a2 a3 k1 k2 k3 z0 z1 z2 z3 z4 x0 x1 x2 x3 x4 y0 y1 y2 y3 y4 h0 n0 _ T_27.heap _
    rw [e_27]
    exact ⟨rfl, N_27, K_27, V_27⟩
theorem ef_1b (m : MethodId) (x0 : Addr) (x1 : Addr) (x2 : Addr) : entryFrame m #[(.ref x0), (.ref x1), (.ref x2)] 4 = mkF m 0 #[.val (.ref x0), .val (.ref x1), .val (.ref x2), .unset] [] := by first | (simp [entryFrame, mkF, argsToLocals, Value.category]; done) | rfl
def Q1b (Z : State) (a1 : Addr) (a3 : Addr) (k1 : ClassId) (k3 : ClassId) (x0 : Int64) (x1 : Int64) (x2 : Int64) (x3 : Int64) (x4 : Int64) (y0 : Int64) (y1 : Int64) (y2 : Int64) (y3 : Int64) (y4 : Int64) (h0 : Heap) (n0 : Nat) (v : Option Value) (h : Heap) (L : List Loc) : Prop := v = none ∧ Fr n0 L ∧ Keep h0 h [a1] ∧ Arv Z h a1 k1 .long (5 : Int32) [(.long (x0 - y0)), (.long (x1 - y1)), (.long (x2 - y2)), (.long (x3 - y3)), (.long (x4 - y4))] (.long (0 : Int64))
set_option maxRecDepth 65536 in
set_option maxHeartbeats 40000000 in
theorem rm1b (l : Launch) (Z : State) (a0 : Array Value) (hw : ∀ d ∈ tables_1, d.before a0 Z = true) (ws : List Jvm.Cond) (a1 : Addr) (a3 : Addr) (k1 : ClassId) (k3 : ClassId) (x0 : Int64) (x1 : Int64) (x2 : Int64) (x3 : Int64) (x4 : Int64) (y0 : Int64) (y1 : Int64) (y2 : Int64) (y3 : Int64) (y4 : Int64) (h0 : Heap) (n0 : Nat) (Z0 : n0 ≤ h0.size) (V_a1 : Arv Z h0 a1 k1 .long (5 : Int32) [(.long x0), (.long x1), (.long x2), (.long x3), (.long x4)] (.long (0 : Int64))) (V_a3 : Arv Z h0 a3 k3 .long (5 : Int32) [(.long y0), (.long y1), (.long y2), (.long y3), (.long y4)] (.long (0 : Int64))) (g_a1 : n0 ≤ a1) (ne_a3_a1 : a3 ≠ a1) :
    MetFree l (⟨"com/example/latchet/latchet/Field25519", "sub", "([J[J[J)V"⟩ : MethodName) (head1 (Jvm.Cond.code (⟨"com/example/latchet/latchet/Field25519", "sub", "([J[J[J)V"⟩ : MethodName) prog_10_method_7_code 4 none :: ws) ({ frames := 0, cells := 0, slots := 0, locals := 0 } : Room)) (fun a U => a = #[(.ref a1), (.ref a1), (.ref a3)] ∧ Z.Warmed39 U.vm ∧ U.heap = h0) (fun _ _ _ _ _ => True) (fun _ U o U' => ∃ v L, o = .returned v ∧ Q1b Z a1 a3 k1 k3 x0 x1 x2 x3 x4 y0 y1 y2 y3 y4 h0 n0 v U'.heap L ∧ FrameEnd U o U' L ({ frames := 0, cells := 0, slots := 0, locals := 0 } : Room).cells ({ frames := 0, cells := 0, slots := 0, locals := 0 } : Room).slots) := by
  refine MetFree.of_bodySF (plainFor_of_name pn_1) hisR ?_
  intro p e s m args below meth c s₁ Bd hml0 hP hK
  obtain ⟨rfl, hZ, hh⟩ := hP
  have hx := Bd.exec
  have hby := Bd.bytes
  have hml : c.maxLocals = 4 := hml0
  have hown : s.vm.findClass "com/example/latchet/latchet/Field25519" = some m.cls := findClass_of_methodNamed Bd.named
  have hnm := (name_of_methodNamed Bd.named Bd.method).1
  have X0 : Stand p l e ({ frames := 0, cells := 0, slots := 0, locals := 0 } : Room) s m #[(.ref a1), (.ref a1), (.ref a3)] below meth c s₁ [] 0 0 := Stand.of_body Bd
  have e0 : s₁.heap = h0 := by rw [← hh, Bd.state]; rfl
  have N0 := Fr.nil n0
  have pre0 : ∀ t, Steps p.tables e below (s₁.setTop (mkF m 0 #[.val (.ref a1), .val (.ref a1), .val (.ref a3), .unset] [])) t → Steps p.tables e below (s₁.setTop (entryFrame m #[(.ref a1), (.ref a1), (.ref a3)] 4)) t := fun t k => castTop (ef_1b m a1 a1 a3) k
  obtain ⟨cl_29, Ar_29, q_29, S_29, M_29, H_29, G_29⟩ := id V_a1
  have hin_29 : ¬ ((0 : Int32) < 0 ∨ cl_29.slots.size ≤ ((0 : Int32)).toNatClampNeg) := inb_of S_29 ⟨by decide, by decide⟩
  have hat_29 : cl_29.slots[((0 : Int32)).toNatClampNeg]? = some (.long x0) := H_29.at hin_29 rfl
  obtain ⟨cl_30, Ar_30, q_30, S_30, M_30, H_30, G_30⟩ := id V_a3
  have hin_30 : ¬ ((0 : Int32) < 0 ∨ cl_30.slots.size ≤ ((0 : Int32)).toNatClampNeg) := inb_of S_30 ⟨by decide, by decide⟩
  have hat_30 : cl_30.slots[((0 : Int32)).toNatClampNeg]? = some (.long y0) := H_30.at hin_30 rfl
  obtain ⟨cl_31, Ar_31, q_31, S_31, M_31, H_31, G_31⟩ := id V_a1
  have hin_31 : ¬ ((0 : Int32) < 0 ∨ cl_31.slots.size ≤ ((0 : Int32)).toNatClampNeg) := inb_of S_31 ⟨by decide, by decide⟩
  obtain ⟨T_31, h_31, X_31, e_31, W_31, st_31⟩ := stJ X0 hx hZ e0 Ar_31 (j := (0 : Int32)) hin_31 (g := (mkF m 16 #[.val (.ref a1), .val (.ref a1), .val (.ref a3), .val (.int (0 : Int32))] [(.long (x0 - y0)), (.int (0 : Int32)), (.ref a1)])) rfl rfl (hb hby d1_16)
  have z_32 : n0 ≤ h_31.size := Nat.le_trans Z0 (Keep.of_wr W_31).1
  have V_31 : Arv Z h_31 a1 k1 .long (5 : Int32) [(.long (x0 - y0)), (.long x1), (.long x2), (.long x3), (.long x4)] (.long (0 : Int64)) := Arv.set Ar_31 q_31 S_31 M_31 H_31 G_31 rfl W_31 0 rfl (Nat.le_of_ble_eq_true rfl)
  have N_31 := Fr.snoc X_31 N0 g_a1
  have K_31 : Keep h0 h_31 [a1] := (Keep.refl h0 [a1]).wr W_31 (Or.inl (List.mem_of_getElem? (i := 0) rfl))
  obtain ⟨cl_33, Ar_33, q_33, S_33, M_33, H_33, G_33⟩ := id V_31
  have hin_33 : ¬ ((1 : Int32) < 0 ∨ cl_33.slots.size ≤ ((1 : Int32)).toNatClampNeg) := inb_of S_33 ⟨by decide, by decide⟩
  have hat_33 : cl_33.slots[((1 : Int32)).toNatClampNeg]? = some (.long x1) := H_33.at hin_33 rfl
  have f_34 : Arv Z h_31 a3 k3 .long (5 : Int32) [(.long y0), (.long y1), (.long y2), (.long y3), (.long y4)] (.long (0 : Int64)) := (V_a3.other W_31 ne_a3_a1)
  obtain ⟨cl_35, Ar_35, q_35, S_35, M_35, H_35, G_35⟩ := id f_34
  have hin_35 : ¬ ((1 : Int32) < 0 ∨ cl_35.slots.size ≤ ((1 : Int32)).toNatClampNeg) := inb_of S_35 ⟨by decide, by decide⟩
  have hat_35 : cl_35.slots[((1 : Int32)).toNatClampNeg]? = some (.long y1) := H_35.at hin_35 rfl
  obtain ⟨cl_36, Ar_36, q_36, S_36, M_36, H_36, G_36⟩ := id V_31
  have hin_36 : ¬ ((1 : Int32) < 0 ∨ cl_36.slots.size ≤ ((1 : Int32)).toNatClampNeg) := inb_of S_36 ⟨by decide, by decide⟩
  obtain ⟨T_36, h_36, X_36, e_36, W_36, st_36⟩ := stJ X_31 hx hZ e_31 Ar_36 (j := (1 : Int32)) hin_36 (g := (mkF m 16 #[.val (.ref a1), .val (.ref a1), .val (.ref a3), .val (.int (1 : Int32))] [(.long (x1 - y1)), (.int (1 : Int32)), (.ref a1)])) rfl rfl (hb hby d1_16)
  have z_37 : n0 ≤ h_36.size := Nat.le_trans z_32 (Keep.of_wr W_36).1
  have V_36 : Arv Z h_36 a1 k1 .long (5 : Int32) [(.long (x0 - y0)), (.long (x1 - y1)), (.long x2), (.long x3), (.long x4)] (.long (0 : Int64)) := Arv.set Ar_36 q_36 S_36 M_36 H_36 G_36 rfl W_36 1 rfl (Nat.le_of_ble_eq_true rfl)
  have N_36 := Fr.snoc X_36 N_31 g_a1
  have K_36 : Keep h0 h_36 [a1] := K_31.wr W_36 (Or.inl (List.mem_of_getElem? (i := 0) rfl))
  obtain ⟨cl_38, Ar_38, q_38, S_38, M_38, H_38, G_38⟩ := id V_36
  have hin_38 : ¬ ((2 : Int32) < 0 ∨ cl_38.slots.size ≤ ((2 : Int32)).toNatClampNeg) := inb_of S_38 ⟨by decide, by decide⟩
  have hat_38 : cl_38.slots[((2 : Int32)).toNatClampNeg]? = some (.long x2) := H_38.at hin_38 rfl
  have f_39 : Arv Z h_36 a3 k3 .long (5 : Int32) [(.long y0), (.long y1), (.long y2), (.long y3), (.long y4)] (.long (0 : Int64)) := (f_34.other W_36 ne_a3_a1)
  obtain ⟨cl_40, Ar_40, q_40, S_40, M_40, H_40, G_40⟩ := id f_39
  have hin_40 : ¬ ((2 : Int32) < 0 ∨ cl_40.slots.size ≤ ((2 : Int32)).toNatClampNeg) := inb_of S_40 ⟨by decide, by decide⟩
  have hat_40 : cl_40.slots[((2 : Int32)).toNatClampNeg]? = some (.long y2) := H_40.at hin_40 rfl
  obtain ⟨cl_41, Ar_41, q_41, S_41, M_41, H_41, G_41⟩ := id V_36
  have hin_41 : ¬ ((2 : Int32) < 0 ∨ cl_41.slots.size ≤ ((2 : Int32)).toNatClampNeg) := inb_of S_41 ⟨by decide, by decide⟩
  obtain ⟨T_41, h_41, X_41, e_41, W_41, st_41⟩ := stJ X_36 hx hZ e_36 Ar_41 (j := (2 : Int32)) hin_41 (g := (mkF m 16 #[.val (.ref a1), .val (.ref a1), .val (.ref a3), .val (.int (2 : Int32))] [(.long (x2 - y2)), (.int (2 : Int32)), (.ref a1)])) rfl rfl (hb hby d1_16)
  have z_42 : n0 ≤ h_41.size := Nat.le_trans z_37 (Keep.of_wr W_41).1
  have V_41 : Arv Z h_41 a1 k1 .long (5 : Int32) [(.long (x0 - y0)), (.long (x1 - y1)), (.long (x2 - y2)), (.long x3), (.long x4)] (.long (0 : Int64)) := Arv.set Ar_41 q_41 S_41 M_41 H_41 G_41 rfl W_41 2 rfl (Nat.le_of_ble_eq_true rfl)
  have N_41 := Fr.snoc X_41 N_36 g_a1
  have K_41 : Keep h0 h_41 [a1] := K_36.wr W_41 (Or.inl (List.mem_of_getElem? (i := 0) rfl))
  obtain ⟨cl_43, Ar_43, q_43, S_43, M_43, H_43, G_43⟩ := id V_41
  have hin_43 : ¬ ((3 : Int32) < 0 ∨ cl_43.slots.size ≤ ((3 : Int32)).toNatClampNeg) := inb_of S_43 ⟨by decide, by decide⟩
  have hat_43 : cl_43.slots[((3 : Int32)).toNatClampNeg]? = some (.long x3) := H_43.at hin_43 rfl
  have f_44 : Arv Z h_41 a3 k3 .long (5 : Int32) [(.long y0), (.long y1), (.long y2), (.long y3), (.long y4)] (.long (0 : Int64)) := (f_39.other W_41 ne_a3_a1)
  obtain ⟨cl_45, Ar_45, q_45, S_45, M_45, H_45, G_45⟩ := id f_44
  have hin_45 : ¬ ((3 : Int32) < 0 ∨ cl_45.slots.size ≤ ((3 : Int32)).toNatClampNeg) := inb_of S_45 ⟨by decide, by decide⟩
  have hat_45 : cl_45.slots[((3 : Int32)).toNatClampNeg]? = some (.long y3) := H_45.at hin_45 rfl
  obtain ⟨cl_46, Ar_46, q_46, S_46, M_46, H_46, G_46⟩ := id V_41
  have hin_46 : ¬ ((3 : Int32) < 0 ∨ cl_46.slots.size ≤ ((3 : Int32)).toNatClampNeg) := inb_of S_46 ⟨by decide, by decide⟩
  obtain ⟨T_46, h_46, X_46, e_46, W_46, st_46⟩ := stJ X_41 hx hZ e_41 Ar_46 (j := (3 : Int32)) hin_46 (g := (mkF m 16 #[.val (.ref a1), .val (.ref a1), .val (.ref a3), .val (.int (3 : Int32))] [(.long (x3 - y3)), (.int (3 : Int32)), (.ref a1)])) rfl rfl (hb hby d1_16)
  have z_47 : n0 ≤ h_46.size := Nat.le_trans z_42 (Keep.of_wr W_46).1
  have V_46 : Arv Z h_46 a1 k1 .long (5 : Int32) [(.long (x0 - y0)), (.long (x1 - y1)), (.long (x2 - y2)), (.long (x3 - y3)), (.long x4)] (.long (0 : Int64)) := Arv.set Ar_46 q_46 S_46 M_46 H_46 G_46 rfl W_46 3 rfl (Nat.le_of_ble_eq_true rfl)
  have N_46 := Fr.snoc X_46 N_41 g_a1
  have K_46 : Keep h0 h_46 [a1] := K_41.wr W_46 (Or.inl (List.mem_of_getElem? (i := 0) rfl))
  obtain ⟨cl_48, Ar_48, q_48, S_48, M_48, H_48, G_48⟩ := id V_46
  have hin_48 : ¬ ((4 : Int32) < 0 ∨ cl_48.slots.size ≤ ((4 : Int32)).toNatClampNeg) := inb_of S_48 ⟨by decide, by decide⟩
  have hat_48 : cl_48.slots[((4 : Int32)).toNatClampNeg]? = some (.long x4) := H_48.at hin_48 rfl
  have f_49 : Arv Z h_46 a3 k3 .long (5 : Int32) [(.long y0), (.long y1), (.long y2), (.long y3), (.long y4)] (.long (0 : Int64)) := (f_44.other W_46 ne_a3_a1)
  obtain ⟨cl_50, Ar_50, q_50, S_50, M_50, H_50, G_50⟩ := id f_49
  have hin_50 : ¬ ((4 : Int32) < 0 ∨ cl_50.slots.size ≤ ((4 : Int32)).toNatClampNeg) := inb_of S_50 ⟨by decide, by decide⟩
  have hat_50 : cl_50.slots[((4 : Int32)).toNatClampNeg]? = some (.long y4) := H_50.at hin_50 rfl
  obtain ⟨cl_51, Ar_51, q_51, S_51, M_51, H_51, G_51⟩ := id V_46
  have hin_51 : ¬ ((4 : Int32) < 0 ∨ cl_51.slots.size ≤ ((4 : Int32)).toNatClampNeg) := inb_of S_51 ⟨by decide, by decide⟩
  obtain ⟨T_51, h_51, X_51, e_51, W_51, st_51⟩ := stJ X_46 hx hZ e_46 Ar_51 (j := (4 : Int32)) hin_51 (g := (mkF m 16 #[.val (.ref a1), .val (.ref a1), .val (.ref a3), .val (.int (4 : Int32))] [(.long (x4 - y4)), (.int (4 : Int32)), (.ref a1)])) rfl rfl (hb hby d1_16)
  have z_52 : n0 ≤ h_51.size := Nat.le_trans z_47 (Keep.of_wr W_51).1
  have V_51 : Arv Z h_51 a1 k1 .long (5 : Int32) [(.long (x0 - y0)), (.long (x1 - y1)), (.long (x2 - y2)), (.long (x3 - y3)), (.long (x4 - y4))] (.long (0 : Int64)) := Arv.set Ar_51 q_51 S_51 M_51 H_51 G_51 rfl W_51 4 rfl (Nat.le_of_ble_eq_true rfl)
  have N_51 := Fr.snoc X_51 N_46 g_a1
  have K_51 : Keep h0 h_51 [a1] := K_46.wr W_51 (Or.inl (List.mem_of_getElem? (i := 0) rfl))
  obtain ⟨fs, hr, hrun, hended, hW, hsame⟩ := X_51.leave (v := none) (fun _ => rfl)
  refine ⟨_, _, pre0 _ ?_, hrun, hended, _, _, rfl, ?_, ⟨_, rfl⟩, hW, hsame.mono (by decide) (by decide)⟩
  · show Steps p.tables e below (s₁.setTop (mkF m 0 #[.val (.ref a1), .val (.ref a1), .val (.ref a3), .unset] [])) _
    refine XS.iconst X0.here hx rfl (hb hby d1_0) ?_
    show Steps p.tables e below (s₁.setTop (mkF m 1 #[.val (.ref a1), .val (.ref a1), .val (.ref a3), .unset] [(.int (0 : Int32))])) _
    refine XS.istoreN X0.here hx rfl (hb hby d1_1) rfl (l' := #[.val (.ref a1), .val (.ref a1), .val (.ref a3), .val (.int (0 : Int32))]) rfl ?_
    show Steps p.tables e below (s₁.setTop (mkF m 2 #[.val (.ref a1), .val (.ref a1), .val (.ref a3), .val (.int (0 : Int32))] [])) _
    refine XS.iloadN X0.here hx rfl (hb hby d1_2) rfl ?_
    show Steps p.tables e below (s₁.setTop (mkF m 3 #[.val (.ref a1), .val (.ref a1), .val (.ref a3), .val (.int (0 : Int32))] [(.int (0 : Int32))])) _
    refine XS.iconst X0.here hx rfl (hb hby d1_3) ?_
    show Steps p.tables e below (s₁.setTop (mkF m 4 #[.val (.ref a1), .val (.ref a1), .val (.ref a3), .val (.int (0 : Int32))] [(.int (5 : Int32)), (.int (0 : Int32))])) _
    refine XS.icmpNo X0.here hx rfl (hb hby d1_4) rfl (tlt (by decide : (0 : Int32) < (5 : Int32))).2.1 ?_
    show Steps p.tables e below (s₁.setTop (mkF m 7 #[.val (.ref a1), .val (.ref a1), .val (.ref a3), .val (.int (0 : Int32))] [])) _
    refine XS.aloadN X0.here hx rfl (hb hby d1_7) rfl rfl ?_
    show Steps p.tables e below (s₁.setTop (mkF m 8 #[.val (.ref a1), .val (.ref a1), .val (.ref a3), .val (.int (0 : Int32))] [(.ref a1)])) _
    refine XS.iloadN X0.here hx rfl (hb hby d1_8) rfl ?_
    show Steps p.tables e below (s₁.setTop (mkF m 9 #[.val (.ref a1), .val (.ref a1), .val (.ref a3), .val (.int (0 : Int32))] [(.int (0 : Int32)), (.ref a1)])) _
    refine XS.aloadN X0.here hx rfl (hb hby d1_9) rfl rfl ?_
    show Steps p.tables e below (s₁.setTop (mkF m 10 #[.val (.ref a1), .val (.ref a1), .val (.ref a3), .val (.int (0 : Int32))] [(.ref a1), (.int (0 : Int32)), (.ref a1)])) _
    refine XS.iloadN X0.here hx rfl (hb hby d1_10) rfl ?_
    show Steps p.tables e below (s₁.setTop (mkF m 11 #[.val (.ref a1), .val (.ref a1), .val (.ref a3), .val (.int (0 : Int32))] [(.int (0 : Int32)), (.ref a1), (.int (0 : Int32)), (.ref a1)])) _
    refine X0.laload hx (j := (0 : Int32)) (v := (.long x0)) (by rw [e0]; exact Ar_29.1) (State.isArrayOf_alike hZ.alike Ar_29.2.1) Ar_29.2.2 hin_29 hat_29 (g := (mkF m 11 #[.val (.ref a1), .val (.ref a1), .val (.ref a3), .val (.int (0 : Int32))] [(.int (0 : Int32)), (.ref a1), (.int (0 : Int32)), (.ref a1)])) rfl rfl (hb hby d1_11) _ ?_
    show Steps p.tables e below (s₁.setTop (mkF m 12 #[.val (.ref a1), .val (.ref a1), .val (.ref a3), .val (.int (0 : Int32))] [(.long x0), (.int (0 : Int32)), (.ref a1)])) _
    refine XS.aloadN X0.here hx rfl (hb hby d1_12) rfl rfl ?_
    show Steps p.tables e below (s₁.setTop (mkF m 13 #[.val (.ref a1), .val (.ref a1), .val (.ref a3), .val (.int (0 : Int32))] [(.ref a3), (.long x0), (.int (0 : Int32)), (.ref a1)])) _
    refine XS.iloadN X0.here hx rfl (hb hby d1_13) rfl ?_
    show Steps p.tables e below (s₁.setTop (mkF m 14 #[.val (.ref a1), .val (.ref a1), .val (.ref a3), .val (.int (0 : Int32))] [(.int (0 : Int32)), (.ref a3), (.long x0), (.int (0 : Int32)), (.ref a1)])) _
    refine X0.laload hx (j := (0 : Int32)) (v := (.long y0)) (by rw [e0]; exact Ar_30.1) (State.isArrayOf_alike hZ.alike Ar_30.2.1) Ar_30.2.2 hin_30 hat_30 (g := (mkF m 14 #[.val (.ref a1), .val (.ref a1), .val (.ref a3), .val (.int (0 : Int32))] [(.int (0 : Int32)), (.ref a3), (.long x0), (.int (0 : Int32)), (.ref a1)])) rfl rfl (hb hby d1_14) _ ?_
    show Steps p.tables e below (s₁.setTop (mkF m 15 #[.val (.ref a1), .val (.ref a1), .val (.ref a3), .val (.int (0 : Int32))] [(.long y0), (.long x0), (.int (0 : Int32)), (.ref a1)])) _
    refine XS.lsub X0.here hx rfl (hb hby d1_15) rfl ?_
    show Steps p.tables e below (s₁.setTop (mkF m 16 #[.val (.ref a1), .val (.ref a1), .val (.ref a3), .val (.int (0 : Int32))] [(.long (x0 - y0)), (.int (0 : Int32)), (.ref a1)])) _
    refine st_31 _ ?_
    show Steps p.tables e below (T_31.setTop (mkF m 17 #[.val (.ref a1), .val (.ref a1), .val (.ref a3), .val (.int (0 : Int32))] [])) _
    refine XS.iinc X_31.here hx rfl (hb hby d1_17) rfl (l' := #[.val (.ref a1), .val (.ref a1), .val (.ref a3), .val (.int (1 : Int32))]) rfl ?_
    show Steps p.tables e below (T_31.setTop (mkF m 20 #[.val (.ref a1), .val (.ref a1), .val (.ref a3), .val (.int (1 : Int32))] [])) _
    refine XS.goto X_31.here hx rfl (pc0 := 20) (pc' := 2) rfl (hb hby d1_20) (by decide) (by decide) ?_
    show Steps p.tables e below (T_31.setTop (mkF m 2 #[.val (.ref a1), .val (.ref a1), .val (.ref a3), .val (.int (1 : Int32))] [])) _
    refine XS.iloadN X_31.here hx rfl (hb hby d1_2) rfl ?_
    show Steps p.tables e below (T_31.setTop (mkF m 3 #[.val (.ref a1), .val (.ref a1), .val (.ref a3), .val (.int (1 : Int32))] [(.int (1 : Int32))])) _
    refine XS.iconst X_31.here hx rfl (hb hby d1_3) ?_
    show Steps p.tables e below (T_31.setTop (mkF m 4 #[.val (.ref a1), .val (.ref a1), .val (.ref a3), .val (.int (1 : Int32))] [(.int (5 : Int32)), (.int (1 : Int32))])) _
    refine XS.icmpNo X_31.here hx rfl (hb hby d1_4) rfl (tlt (by decide : (1 : Int32) < (5 : Int32))).2.1 ?_
    show Steps p.tables e below (T_31.setTop (mkF m 7 #[.val (.ref a1), .val (.ref a1), .val (.ref a3), .val (.int (1 : Int32))] [])) _
    refine XS.aloadN X_31.here hx rfl (hb hby d1_7) rfl rfl ?_
    show Steps p.tables e below (T_31.setTop (mkF m 8 #[.val (.ref a1), .val (.ref a1), .val (.ref a3), .val (.int (1 : Int32))] [(.ref a1)])) _
    refine XS.iloadN X_31.here hx rfl (hb hby d1_8) rfl ?_
    show Steps p.tables e below (T_31.setTop (mkF m 9 #[.val (.ref a1), .val (.ref a1), .val (.ref a3), .val (.int (1 : Int32))] [(.int (1 : Int32)), (.ref a1)])) _
    refine XS.aloadN X_31.here hx rfl (hb hby d1_9) rfl rfl ?_
    show Steps p.tables e below (T_31.setTop (mkF m 10 #[.val (.ref a1), .val (.ref a1), .val (.ref a3), .val (.int (1 : Int32))] [(.ref a1), (.int (1 : Int32)), (.ref a1)])) _
    refine XS.iloadN X_31.here hx rfl (hb hby d1_10) rfl ?_
    show Steps p.tables e below (T_31.setTop (mkF m 11 #[.val (.ref a1), .val (.ref a1), .val (.ref a3), .val (.int (1 : Int32))] [(.int (1 : Int32)), (.ref a1), (.int (1 : Int32)), (.ref a1)])) _
    refine X_31.laload hx (j := (1 : Int32)) (v := (.long x1)) (by rw [e_31]; exact Ar_33.1) (State.isArrayOf_alike hZ.alike Ar_33.2.1) Ar_33.2.2 hin_33 hat_33 (g := (mkF m 11 #[.val (.ref a1), .val (.ref a1), .val (.ref a3), .val (.int (1 : Int32))] [(.int (1 : Int32)), (.ref a1), (.int (1 : Int32)), (.ref a1)])) rfl rfl (hb hby d1_11) _ ?_
    show Steps p.tables e below (T_31.setTop (mkF m 12 #[.val (.ref a1), .val (.ref a1), .val (.ref a3), .val (.int (1 : Int32))] [(.long x1), (.int (1 : Int32)), (.ref a1)])) _
    refine XS.aloadN X_31.here hx rfl (hb hby d1_12) rfl rfl ?_
    show Steps p.tables e below (T_31.setTop (mkF m 13 #[.val (.ref a1), .val (.ref a1), .val (.ref a3), .val (.int (1 : Int32))] [(.ref a3), (.long x1), (.int (1 : Int32)), (.ref a1)])) _
    refine XS.iloadN X_31.here hx rfl (hb hby d1_13) rfl ?_
    show Steps p.tables e below (T_31.setTop (mkF m 14 #[.val (.ref a1), .val (.ref a1), .val (.ref a3), .val (.int (1 : Int32))] [(.int (1 : Int32)), (.ref a3), (.long x1), (.int (1 : Int32)), (.ref a1)])) _
    refine X_31.laload hx (j := (1 : Int32)) (v := (.long y1)) (by rw [e_31]; exact Ar_35.1) (State.isArrayOf_alike hZ.alike Ar_35.2.1) Ar_35.2.2 hin_35 hat_35 (g := (mkF m 14 #[.val (.ref a1), .val (.ref a1), .val (.ref a3), .val (.int (1 : Int32))] [(.int (1 : Int32)), (.ref a3), (.long x1), (.int (1 : Int32)), (.ref a1)])) rfl rfl (hb hby d1_14) _ ?_
    show Steps p.tables e below (T_31.setTop (mkF m 15 #[.val (.ref a1), .val (.ref a1), .val (.ref a3), .val (.int (1 : Int32))] [(.long y1), (.long x1), (.int (1 : Int32)), (.ref a1)])) _
    refine XS.lsub X_31.here hx rfl (hb hby d1_15) rfl ?_
    show Steps p.tables e below (T_31.setTop (mkF m 16 #[.val (.ref a1), .val (.ref a1), .val (.ref a3), .val (.int (1 : Int32))] [(.long (x1 - y1)), (.int (1 : Int32)), (.ref a1)])) _
    refine st_36 _ ?_
    show Steps p.tables e below (T_36.setTop (mkF m 17 #[.val (.ref a1), .val (.ref a1), .val (.ref a3), .val (.int (1 : Int32))] [])) _
    refine XS.iinc X_36.here hx rfl (hb hby d1_17) rfl (l' := #[.val (.ref a1), .val (.ref a1), .val (.ref a3), .val (.int (2 : Int32))]) rfl ?_
    show Steps p.tables e below (T_36.setTop (mkF m 20 #[.val (.ref a1), .val (.ref a1), .val (.ref a3), .val (.int (2 : Int32))] [])) _
    refine XS.goto X_36.here hx rfl (pc0 := 20) (pc' := 2) rfl (hb hby d1_20) (by decide) (by decide) ?_
    show Steps p.tables e below (T_36.setTop (mkF m 2 #[.val (.ref a1), .val (.ref a1), .val (.ref a3), .val (.int (2 : Int32))] [])) _
    refine XS.iloadN X_36.here hx rfl (hb hby d1_2) rfl ?_
    show Steps p.tables e below (T_36.setTop (mkF m 3 #[.val (.ref a1), .val (.ref a1), .val (.ref a3), .val (.int (2 : Int32))] [(.int (2 : Int32))])) _
    refine XS.iconst X_36.here hx rfl (hb hby d1_3) ?_
    show Steps p.tables e below (T_36.setTop (mkF m 4 #[.val (.ref a1), .val (.ref a1), .val (.ref a3), .val (.int (2 : Int32))] [(.int (5 : Int32)), (.int (2 : Int32))])) _
    refine XS.icmpNo X_36.here hx rfl (hb hby d1_4) rfl (tlt (by decide : (2 : Int32) < (5 : Int32))).2.1 ?_
    show Steps p.tables e below (T_36.setTop (mkF m 7 #[.val (.ref a1), .val (.ref a1), .val (.ref a3), .val (.int (2 : Int32))] [])) _
    refine XS.aloadN X_36.here hx rfl (hb hby d1_7) rfl rfl ?_
    show Steps p.tables e below (T_36.setTop (mkF m 8 #[.val (.ref a1), .val (.ref a1), .val (.ref a3), .val (.int (2 : Int32))] [(.ref a1)])) _
    refine XS.iloadN X_36.here hx rfl (hb hby d1_8) rfl ?_
    show Steps p.tables e below (T_36.setTop (mkF m 9 #[.val (.ref a1), .val (.ref a1), .val (.ref a3), .val (.int (2 : Int32))] [(.int (2 : Int32)), (.ref a1)])) _
    refine XS.aloadN X_36.here hx rfl (hb hby d1_9) rfl rfl ?_
    show Steps p.tables e below (T_36.setTop (mkF m 10 #[.val (.ref a1), .val (.ref a1), .val (.ref a3), .val (.int (2 : Int32))] [(.ref a1), (.int (2 : Int32)), (.ref a1)])) _
    refine XS.iloadN X_36.here hx rfl (hb hby d1_10) rfl ?_
    show Steps p.tables e below (T_36.setTop (mkF m 11 #[.val (.ref a1), .val (.ref a1), .val (.ref a3), .val (.int (2 : Int32))] [(.int (2 : Int32)), (.ref a1), (.int (2 : Int32)), (.ref a1)])) _
    refine X_36.laload hx (j := (2 : Int32)) (v := (.long x2)) (by rw [e_36]; exact Ar_38.1) (State.isArrayOf_alike hZ.alike Ar_38.2.1) Ar_38.2.2 hin_38 hat_38 (g := (mkF m 11 #[.val (.ref a1), .val (.ref a1), .val (.ref a3), .val (.int (2 : Int32))] [(.int (2 : Int32)), (.ref a1), (.int (2 : Int32)), (.ref a1)])) rfl rfl (hb hby d1_11) _ ?_
    show Steps p.tables e below (T_36.setTop (mkF m 12 #[.val (.ref a1), .val (.ref a1), .val (.ref a3), .val (.int (2 : Int32))] [(.long x2), (.int (2 : Int32)), (.ref a1)])) _
    refine XS.aloadN X_36.here hx rfl (hb hby d1_12) rfl rfl ?_
    show Steps p.tables e below (T_36.setTop (mkF m 13 #[.val (.ref a1), .val (.ref a1), .val (.ref a3), .val (.int (2 : Int32))] [(.ref a3), (.long x2), (.int (2 : Int32)), (.ref a1)])) _
    refine XS.iloadN X_36.here hx rfl (hb hby d1_13) rfl ?_
    show Steps p.tables e below (T_36.setTop (mkF m 14 #[.val (.ref a1), .val (.ref a1), .val (.ref a3), .val (.int (2 : Int32))] [(.int (2 : Int32)), (.ref a3), (.long x2), (.int (2 : Int32)), (.ref a1)])) _
    refine X_36.laload hx (j := (2 : Int32)) (v := (.long y2)) (by rw [e_36]; exact Ar_40.1) (State.isArrayOf_alike hZ.alike Ar_40.2.1) Ar_40.2.2 hin_40 hat_40 (g := (mkF m 14 #[.val (.ref a1), .val (.ref a1), .val (.ref a3), .val (.int (2 : Int32))] [(.int (2 : Int32)), (.ref a3), (.long x2), (.int (2 : Int32)), (.ref a1)])) rfl rfl (hb hby d1_14) _ ?_
    show Steps p.tables e below (T_36.setTop (mkF m 15 #[.val (.ref a1), .val (.ref a1), .val (.ref a3), .val (.int (2 : Int32))] [(.long y2), (.long x2), (.int (2 : Int32)), (.ref a1)])) _
    refine XS.lsub X_36.here hx rfl (hb hby d1_15) rfl ?_
    show Steps p.tables e below (T_36.setTop (mkF m 16 #[.val (.ref a1), .val (.ref a1), .val (.ref a3), .val (.int (2 : Int32))] [(.long (x2 - y2)), (.int (2 : Int32)), (.ref a1)])) _
    refine st_41 _ ?_
    show Steps p.tables e below (T_41.setTop (mkF m 17 #[.val (.ref a1), .val (.ref a1), .val (.ref a3), .val (.int (2 : Int32))] [])) _
    refine XS.iinc X_41.here hx rfl (hb hby d1_17) rfl (l' := #[.val (.ref a1), .val (.ref a1), .val (.ref a3), .val (.int (3 : Int32))]) rfl ?_
    show Steps p.tables e below (T_41.setTop (mkF m 20 #[.val (.ref a1), .val (.ref a1), .val (.ref a3), .val (.int (3 : Int32))] [])) _
    refine XS.goto X_41.here hx rfl (pc0 := 20) (pc' := 2) rfl (hb hby d1_20) (by decide) (by decide) ?_
    show Steps p.tables e below (T_41.setTop (mkF m 2 #[.val (.ref a1), .val (.ref a1), .val (.ref a3), .val (.int (3 : Int32))] [])) _
    refine XS.iloadN X_41.here hx rfl (hb hby d1_2) rfl ?_
    show Steps p.tables e below (T_41.setTop (mkF m 3 #[.val (.ref a1), .val (.ref a1), .val (.ref a3), .val (.int (3 : Int32))] [(.int (3 : Int32))])) _
    refine XS.iconst X_41.here hx rfl (hb hby d1_3) ?_
    show Steps p.tables e below (T_41.setTop (mkF m 4 #[.val (.ref a1), .val (.ref a1), .val (.ref a3), .val (.int (3 : Int32))] [(.int (5 : Int32)), (.int (3 : Int32))])) _
    refine XS.icmpNo X_41.here hx rfl (hb hby d1_4) rfl (tlt (by decide : (3 : Int32) < (5 : Int32))).2.1 ?_
    show Steps p.tables e below (T_41.setTop (mkF m 7 #[.val (.ref a1), .val (.ref a1), .val (.ref a3), .val (.int (3 : Int32))] [])) _
    refine XS.aloadN X_41.here hx rfl (hb hby d1_7) rfl rfl ?_
    show Steps p.tables e below (T_41.setTop (mkF m 8 #[.val (.ref a1), .val (.ref a1), .val (.ref a3), .val (.int (3 : Int32))] [(.ref a1)])) _
    refine XS.iloadN X_41.here hx rfl (hb hby d1_8) rfl ?_
    show Steps p.tables e below (T_41.setTop (mkF m 9 #[.val (.ref a1), .val (.ref a1), .val (.ref a3), .val (.int (3 : Int32))] [(.int (3 : Int32)), (.ref a1)])) _
    refine XS.aloadN X_41.here hx rfl (hb hby d1_9) rfl rfl ?_
    show Steps p.tables e below (T_41.setTop (mkF m 10 #[.val (.ref a1), .val (.ref a1), .val (.ref a3), .val (.int (3 : Int32))] [(.ref a1), (.int (3 : Int32)), (.ref a1)])) _
    refine XS.iloadN X_41.here hx rfl (hb hby d1_10) rfl ?_
    show Steps p.tables e below (T_41.setTop (mkF m 11 #[.val (.ref a1), .val (.ref a1), .val (.ref a3), .val (.int (3 : Int32))] [(.int (3 : Int32)), (.ref a1), (.int (3 : Int32)), (.ref a1)])) _
    refine X_41.laload hx (j := (3 : Int32)) (v := (.long x3)) (by rw [e_41]; exact Ar_43.1) (State.isArrayOf_alike hZ.alike Ar_43.2.1) Ar_43.2.2 hin_43 hat_43 (g := (mkF m 11 #[.val (.ref a1), .val (.ref a1), .val (.ref a3), .val (.int (3 : Int32))] [(.int (3 : Int32)), (.ref a1), (.int (3 : Int32)), (.ref a1)])) rfl rfl (hb hby d1_11) _ ?_
    show Steps p.tables e below (T_41.setTop (mkF m 12 #[.val (.ref a1), .val (.ref a1), .val (.ref a3), .val (.int (3 : Int32))] [(.long x3), (.int (3 : Int32)), (.ref a1)])) _
    refine XS.aloadN X_41.here hx rfl (hb hby d1_12) rfl rfl ?_
    show Steps p.tables e below (T_41.setTop (mkF m 13 #[.val (.ref a1), .val (.ref a1), .val (.ref a3), .val (.int (3 : Int32))] [(.ref a3), (.long x3), (.int (3 : Int32)), (.ref a1)])) _
    refine XS.iloadN X_41.here hx rfl (hb hby d1_13) rfl ?_
    show Steps p.tables e below (T_41.setTop (mkF m 14 #[.val (.ref a1), .val (.ref a1), .val (.ref a3), .val (.int (3 : Int32))] [(.int (3 : Int32)), (.ref a3), (.long x3), (.int (3 : Int32)), (.ref a1)])) _
    refine X_41.laload hx (j := (3 : Int32)) (v := (.long y3)) (by rw [e_41]; exact Ar_45.1) (State.isArrayOf_alike hZ.alike Ar_45.2.1) Ar_45.2.2 hin_45 hat_45 (g := (mkF m 14 #[.val (.ref a1), .val (.ref a1), .val (.ref a3), .val (.int (3 : Int32))] [(.int (3 : Int32)), (.ref a3), (.long x3), (.int (3 : Int32)), (.ref a1)])) rfl rfl (hb hby d1_14) _ ?_
    show Steps p.tables e below (T_41.setTop (mkF m 15 #[.val (.ref a1), .val (.ref a1), .val (.ref a3), .val (.int (3 : Int32))] [(.long y3), (.long x3), (.int (3 : Int32)), (.ref a1)])) _
    refine XS.lsub X_41.here hx rfl (hb hby d1_15) rfl ?_
    show Steps p.tables e below (T_41.setTop (mkF m 16 #[.val (.ref a1), .val (.ref a1), .val (.ref a3), .val (.int (3 : Int32))] [(.long (x3 - y3)), (.int (3 : Int32)), (.ref a1)])) _
    refine st_46 _ ?_
    show Steps p.tables e below (T_46.setTop (mkF m 17 #[.val (.ref a1), .val (.ref a1), .val (.ref a3), .val (.int (3 : Int32))] [])) _
    refine XS.iinc X_46.here hx rfl (hb hby d1_17) rfl (l' := #[.val (.ref a1), .val (.ref a1), .val (.ref a3), .val (.int (4 : Int32))]) rfl ?_
    show Steps p.tables e below (T_46.setTop (mkF m 20 #[.val (.ref a1), .val (.ref a1), .val (.ref a3), .val (.int (4 : Int32))] [])) _
    refine XS.goto X_46.here hx rfl (pc0 := 20) (pc' := 2) rfl (hb hby d1_20) (by decide) (by decide) ?_
    show Steps p.tables e below (T_46.setTop (mkF m 2 #[.val (.ref a1), .val (.ref a1), .val (.ref a3), .val (.int (4 : Int32))] [])) _
    refine XS.iloadN X_46.here hx rfl (hb hby d1_2) rfl ?_
    show Steps p.tables e below (T_46.setTop (mkF m 3 #[.val (.ref a1), .val (.ref a1), .val (.ref a3), .val (.int (4 : Int32))] [(.int (4 : Int32))])) _
    refine XS.iconst X_46.here hx rfl (hb hby d1_3) ?_
    show Steps p.tables e below (T_46.setTop (mkF m 4 #[.val (.ref a1), .val (.ref a1), .val (.ref a3), .val (.int (4 : Int32))] [(.int (5 : Int32)), (.int (4 : Int32))])) _
    refine XS.icmpNo X_46.here hx rfl (hb hby d1_4) rfl (tlt (by decide : (4 : Int32) < (5 : Int32))).2.1 ?_
    show Steps p.tables e below (T_46.setTop (mkF m 7 #[.val (.ref a1), .val (.ref a1), .val (.ref a3), .val (.int (4 : Int32))] [])) _
    refine XS.aloadN X_46.here hx rfl (hb hby d1_7) rfl rfl ?_
    show Steps p.tables e below (T_46.setTop (mkF m 8 #[.val (.ref a1), .val (.ref a1), .val (.ref a3), .val (.int (4 : Int32))] [(.ref a1)])) _
    refine XS.iloadN X_46.here hx rfl (hb hby d1_8) rfl ?_
    show Steps p.tables e below (T_46.setTop (mkF m 9 #[.val (.ref a1), .val (.ref a1), .val (.ref a3), .val (.int (4 : Int32))] [(.int (4 : Int32)), (.ref a1)])) _
    refine XS.aloadN X_46.here hx rfl (hb hby d1_9) rfl rfl ?_
    show Steps p.tables e below (T_46.setTop (mkF m 10 #[.val (.ref a1), .val (.ref a1), .val (.ref a3), .val (.int (4 : Int32))] [(.ref a1), (.int (4 : Int32)), (.ref a1)])) _
    refine XS.iloadN X_46.here hx rfl (hb hby d1_10) rfl ?_
    show Steps p.tables e below (T_46.setTop (mkF m 11 #[.val (.ref a1), .val (.ref a1), .val (.ref a3), .val (.int (4 : Int32))] [(.int (4 : Int32)), (.ref a1), (.int (4 : Int32)), (.ref a1)])) _
    refine X_46.laload hx (j := (4 : Int32)) (v := (.long x4)) (by rw [e_46]; exact Ar_48.1) (State.isArrayOf_alike hZ.alike Ar_48.2.1) Ar_48.2.2 hin_48 hat_48 (g := (mkF m 11 #[.val (.ref a1), .val (.ref a1), .val (.ref a3), .val (.int (4 : Int32))] [(.int (4 : Int32)), (.ref a1), (.int (4 : Int32)), (.ref a1)])) rfl rfl (hb hby d1_11) _ ?_
    show Steps p.tables e below (T_46.setTop (mkF m 12 #[.val (.ref a1), .val (.ref a1), .val (.ref a3), .val (.int (4 : Int32))] [(.long x4), (.int (4 : Int32)), (.ref a1)])) _
    refine XS.aloadN X_46.here hx rfl (hb hby d1_12) rfl rfl ?_
    show Steps p.tables e below (T_46.setTop (mkF m 13 #[.val (.ref a1), .val (.ref a1), .val (.ref a3), .val (.int (4 : Int32))] [(.ref a3), (.long x4), (.int (4 : Int32)), (.ref a1)])) _
    refine XS.iloadN X_46.here hx rfl (hb hby d1_13) rfl ?_
    show Steps p.tables e below (T_46.setTop (mkF m 14 #[.val (.ref a1), .val (.ref a1), .val (.ref a3), .val (.int (4 : Int32))] [(.int (4 : Int32)), (.ref a3), (.long x4), (.int (4 : Int32)), (.ref a1)])) _
    refine X_46.laload hx (j := (4 : Int32)) (v := (.long y4)) (by rw [e_46]; exact Ar_50.1) (State.isArrayOf_alike hZ.alike Ar_50.2.1) Ar_50.2.2 hin_50 hat_50 (g := (mkF m 14 #[.val (.ref a1), .val (.ref a1), .val (.ref a3), .val (.int (4 : Int32))] [(.int (4 : Int32)), (.ref a3), (.long x4), (.int (4 : Int32)), (.ref a1)])) rfl rfl (hb hby d1_14) _ ?_
    show Steps p.tables e below (T_46.setTop (mkF m 15 #[.val (.ref a1), .val (.ref a1), .val (.ref a3), .val (.int (4 : Int32))] [(.long y4), (.long x4), (.int (4 : Int32)), (.ref a1)])) _
    refine XS.lsub X_46.here hx rfl (hb hby d1_15) rfl ?_
    show Steps p.tables e below (T_46.setTop (mkF m 16 #[.val (.ref a1), .val (.ref a1), .val (.ref a3), .val (.int (4 : Int32))] [(.long (x4 - y4)), (.int (4 : Int32)), (.ref a1)])) _
    refine st_51 _ ?_
    show Steps p.tables e below (T_51.setTop (mkF m 17 #[.val (.ref a1), .val (.ref a1), .val (.ref a3), .val (.int (4 : Int32))] [])) _
    refine XS.iinc X_51.here hx rfl (hb hby d1_17) rfl (l' := #[.val (.ref a1), .val (.ref a1), .val (.ref a3), .val (.int (5 : Int32))]) rfl ?_
    show Steps p.tables e below (T_51.setTop (mkF m 20 #[.val (.ref a1), .val (.ref a1), .val (.ref a3), .val (.int (5 : Int32))] [])) _
    refine XS.goto X_51.here hx rfl (pc0 := 20) (pc' := 2) rfl (hb hby d1_20) (by decide) (by decide) ?_
    show Steps p.tables e below (T_51.setTop (mkF m 2 #[.val (.ref a1), .val (.ref a1), .val (.ref a3), .val (.int (5 : Int32))] [])) _
    refine XS.iloadN X_51.here hx rfl (hb hby d1_2) rfl ?_
    show Steps p.tables e below (T_51.setTop (mkF m 3 #[.val (.ref a1), .val (.ref a1), .val (.ref a3), .val (.int (5 : Int32))] [(.int (5 : Int32))])) _
    refine XS.iconst X_51.here hx rfl (hb hby d1_3) ?_
    show Steps p.tables e below (T_51.setTop (mkF m 4 #[.val (.ref a1), .val (.ref a1), .val (.ref a3), .val (.int (5 : Int32))] [(.int (5 : Int32)), (.int (5 : Int32))])) _
    refine XS.icmpYes X_51.here hx rfl (pc0 := 4) (pc' := 23) rfl (hb hby d1_4) rfl (flt (by decide : ¬ ((5 : Int32) < (5 : Int32)))).2.1 (by decide) (by decide) ?_
    show Steps p.tables e below (T_51.setTop (mkF m 23 #[.val (.ref a1), .val (.ref a1), .val (.ref a3), .val (.int (5 : Int32))] [])) _
    exact X_51.returnOut hx Bd.returns (hb hby d1_23) hr
  · show Q1b Z a1 a3 k1 k3 x0 x1 x2 x3 x4 y0 y1 y2 y3 y4 h0 n0 _ T_51.heap _
    rw [e_51]
    exact ⟨rfl, N_51, K_51, V_51⟩
theorem ef_1c (m : MethodId) (x0 : Addr) (x1 : Addr) (x2 : Addr) : entryFrame m #[(.ref x0), (.ref x1), (.ref x2)] 4 = mkF m 0 #[.val (.ref x0), .val (.ref x1), .val (.ref x2), .unset] [] := by first | (simp [entryFrame, mkF, argsToLocals, Value.category]; done) | rfl
def Q1c (Z : State) (a1 : Addr) (a2 : Addr) (k1 : ClassId) (k2 : ClassId) (x0 : Int64) (x1 : Int64) (x2 : Int64) (x3 : Int64) (x4 : Int64) (y0 : Int64) (y1 : Int64) (y2 : Int64) (y3 : Int64) (y4 : Int64) (h0 : Heap) (n0 : Nat) (v : Option Value) (h : Heap) (L : List Loc) : Prop := v = none ∧ Fr n0 L ∧ Keep h0 h [a1] ∧ Arv Z h a1 k1 .long (5 : Int32) [(.long (x0 - y0)), (.long (x1 - y1)), (.long (x2 - y2)), (.long (x3 - y3)), (.long (x4 - y4))] (.long (0 : Int64))
set_option maxRecDepth 65536 in
set_option maxHeartbeats 40000000 in
theorem rm1c (l : Launch) (Z : State) (a0 : Array Value) (hw : ∀ d ∈ tables_1, d.before a0 Z = true) (ws : List Jvm.Cond) (a1 : Addr) (a2 : Addr) (k1 : ClassId) (k2 : ClassId) (x0 : Int64) (x1 : Int64) (x2 : Int64) (x3 : Int64) (x4 : Int64) (y0 : Int64) (y1 : Int64) (y2 : Int64) (y3 : Int64) (y4 : Int64) (h0 : Heap) (n0 : Nat) (Z0 : n0 ≤ h0.size) (V_a1 : Arv Z h0 a1 k1 .long (5 : Int32) [(.long y0), (.long y1), (.long y2), (.long y3), (.long y4)] (.long (0 : Int64))) (V_a2 : Arv Z h0 a2 k2 .long (5 : Int32) [(.long x0), (.long x1), (.long x2), (.long x3), (.long x4)] (.long (0 : Int64))) (g_a1 : n0 ≤ a1) (ne_a2_a1 : a2 ≠ a1) :
    MetFree l (⟨"com/example/latchet/latchet/Field25519", "sub", "([J[J[J)V"⟩ : MethodName) (head1 (Jvm.Cond.code (⟨"com/example/latchet/latchet/Field25519", "sub", "([J[J[J)V"⟩ : MethodName) prog_10_method_7_code 4 none :: ws) ({ frames := 0, cells := 0, slots := 0, locals := 0 } : Room)) (fun a U => a = #[(.ref a1), (.ref a2), (.ref a1)] ∧ Z.Warmed39 U.vm ∧ U.heap = h0) (fun _ _ _ _ _ => True) (fun _ U o U' => ∃ v L, o = .returned v ∧ Q1c Z a1 a2 k1 k2 x0 x1 x2 x3 x4 y0 y1 y2 y3 y4 h0 n0 v U'.heap L ∧ FrameEnd U o U' L ({ frames := 0, cells := 0, slots := 0, locals := 0 } : Room).cells ({ frames := 0, cells := 0, slots := 0, locals := 0 } : Room).slots) := by
  refine MetFree.of_bodySF (plainFor_of_name pn_1) hisR ?_
  intro p e s m args below meth c s₁ Bd hml0 hP hK
  obtain ⟨rfl, hZ, hh⟩ := hP
  have hx := Bd.exec
  have hby := Bd.bytes
  have hml : c.maxLocals = 4 := hml0
  have hown : s.vm.findClass "com/example/latchet/latchet/Field25519" = some m.cls := findClass_of_methodNamed Bd.named
  have hnm := (name_of_methodNamed Bd.named Bd.method).1
  have X0 : Stand p l e ({ frames := 0, cells := 0, slots := 0, locals := 0 } : Room) s m #[(.ref a1), (.ref a2), (.ref a1)] below meth c s₁ [] 0 0 := Stand.of_body Bd
  have e0 : s₁.heap = h0 := by rw [← hh, Bd.state]; rfl
  have N0 := Fr.nil n0
  have pre0 : ∀ t, Steps p.tables e below (s₁.setTop (mkF m 0 #[.val (.ref a1), .val (.ref a2), .val (.ref a1), .unset] [])) t → Steps p.tables e below (s₁.setTop (entryFrame m #[(.ref a1), (.ref a2), (.ref a1)] 4)) t := fun t k => castTop (ef_1c m a1 a2 a1) k
  obtain ⟨cl_53, Ar_53, q_53, S_53, M_53, H_53, G_53⟩ := id V_a2
  have hin_53 : ¬ ((0 : Int32) < 0 ∨ cl_53.slots.size ≤ ((0 : Int32)).toNatClampNeg) := inb_of S_53 ⟨by decide, by decide⟩
  have hat_53 : cl_53.slots[((0 : Int32)).toNatClampNeg]? = some (.long x0) := H_53.at hin_53 rfl
  obtain ⟨cl_54, Ar_54, q_54, S_54, M_54, H_54, G_54⟩ := id V_a1
  have hin_54 : ¬ ((0 : Int32) < 0 ∨ cl_54.slots.size ≤ ((0 : Int32)).toNatClampNeg) := inb_of S_54 ⟨by decide, by decide⟩
  have hat_54 : cl_54.slots[((0 : Int32)).toNatClampNeg]? = some (.long y0) := H_54.at hin_54 rfl
  obtain ⟨cl_55, Ar_55, q_55, S_55, M_55, H_55, G_55⟩ := id V_a1
  have hin_55 : ¬ ((0 : Int32) < 0 ∨ cl_55.slots.size ≤ ((0 : Int32)).toNatClampNeg) := inb_of S_55 ⟨by decide, by decide⟩
  obtain ⟨T_55, h_55, X_55, e_55, W_55, st_55⟩ := stJ X0 hx hZ e0 Ar_55 (j := (0 : Int32)) hin_55 (g := (mkF m 16 #[.val (.ref a1), .val (.ref a2), .val (.ref a1), .val (.int (0 : Int32))] [(.long (x0 - y0)), (.int (0 : Int32)), (.ref a1)])) rfl rfl (hb hby d1_16)
  have z_56 : n0 ≤ h_55.size := Nat.le_trans Z0 (Keep.of_wr W_55).1
  have V_55 : Arv Z h_55 a1 k1 .long (5 : Int32) [(.long (x0 - y0)), (.long y1), (.long y2), (.long y3), (.long y4)] (.long (0 : Int64)) := Arv.set Ar_55 q_55 S_55 M_55 H_55 G_55 rfl W_55 0 rfl (Nat.le_of_ble_eq_true rfl)
  have N_55 := Fr.snoc X_55 N0 g_a1
  have K_55 : Keep h0 h_55 [a1] := (Keep.refl h0 [a1]).wr W_55 (Or.inl (List.mem_of_getElem? (i := 0) rfl))
  have f_57 : Arv Z h_55 a2 k2 .long (5 : Int32) [(.long x0), (.long x1), (.long x2), (.long x3), (.long x4)] (.long (0 : Int64)) := (V_a2.other W_55 ne_a2_a1)
  obtain ⟨cl_58, Ar_58, q_58, S_58, M_58, H_58, G_58⟩ := id f_57
  have hin_58 : ¬ ((1 : Int32) < 0 ∨ cl_58.slots.size ≤ ((1 : Int32)).toNatClampNeg) := inb_of S_58 ⟨by decide, by decide⟩
  have hat_58 : cl_58.slots[((1 : Int32)).toNatClampNeg]? = some (.long x1) := H_58.at hin_58 rfl
  obtain ⟨cl_59, Ar_59, q_59, S_59, M_59, H_59, G_59⟩ := id V_55
  have hin_59 : ¬ ((1 : Int32) < 0 ∨ cl_59.slots.size ≤ ((1 : Int32)).toNatClampNeg) := inb_of S_59 ⟨by decide, by decide⟩
  have hat_59 : cl_59.slots[((1 : Int32)).toNatClampNeg]? = some (.long y1) := H_59.at hin_59 rfl
  obtain ⟨cl_60, Ar_60, q_60, S_60, M_60, H_60, G_60⟩ := id V_55
  have hin_60 : ¬ ((1 : Int32) < 0 ∨ cl_60.slots.size ≤ ((1 : Int32)).toNatClampNeg) := inb_of S_60 ⟨by decide, by decide⟩
  obtain ⟨T_60, h_60, X_60, e_60, W_60, st_60⟩ := stJ X_55 hx hZ e_55 Ar_60 (j := (1 : Int32)) hin_60 (g := (mkF m 16 #[.val (.ref a1), .val (.ref a2), .val (.ref a1), .val (.int (1 : Int32))] [(.long (x1 - y1)), (.int (1 : Int32)), (.ref a1)])) rfl rfl (hb hby d1_16)
  have z_61 : n0 ≤ h_60.size := Nat.le_trans z_56 (Keep.of_wr W_60).1
  have V_60 : Arv Z h_60 a1 k1 .long (5 : Int32) [(.long (x0 - y0)), (.long (x1 - y1)), (.long y2), (.long y3), (.long y4)] (.long (0 : Int64)) := Arv.set Ar_60 q_60 S_60 M_60 H_60 G_60 rfl W_60 1 rfl (Nat.le_of_ble_eq_true rfl)
  have N_60 := Fr.snoc X_60 N_55 g_a1
  have K_60 : Keep h0 h_60 [a1] := K_55.wr W_60 (Or.inl (List.mem_of_getElem? (i := 0) rfl))
  have f_62 : Arv Z h_60 a2 k2 .long (5 : Int32) [(.long x0), (.long x1), (.long x2), (.long x3), (.long x4)] (.long (0 : Int64)) := (f_57.other W_60 ne_a2_a1)
  obtain ⟨cl_63, Ar_63, q_63, S_63, M_63, H_63, G_63⟩ := id f_62
  have hin_63 : ¬ ((2 : Int32) < 0 ∨ cl_63.slots.size ≤ ((2 : Int32)).toNatClampNeg) := inb_of S_63 ⟨by decide, by decide⟩
  have hat_63 : cl_63.slots[((2 : Int32)).toNatClampNeg]? = some (.long x2) := H_63.at hin_63 rfl
  obtain ⟨cl_64, Ar_64, q_64, S_64, M_64, H_64, G_64⟩ := id V_60
  have hin_64 : ¬ ((2 : Int32) < 0 ∨ cl_64.slots.size ≤ ((2 : Int32)).toNatClampNeg) := inb_of S_64 ⟨by decide, by decide⟩
  have hat_64 : cl_64.slots[((2 : Int32)).toNatClampNeg]? = some (.long y2) := H_64.at hin_64 rfl
  obtain ⟨cl_65, Ar_65, q_65, S_65, M_65, H_65, G_65⟩ := id V_60
  have hin_65 : ¬ ((2 : Int32) < 0 ∨ cl_65.slots.size ≤ ((2 : Int32)).toNatClampNeg) := inb_of S_65 ⟨by decide, by decide⟩
  obtain ⟨T_65, h_65, X_65, e_65, W_65, st_65⟩ := stJ X_60 hx hZ e_60 Ar_65 (j := (2 : Int32)) hin_65 (g := (mkF m 16 #[.val (.ref a1), .val (.ref a2), .val (.ref a1), .val (.int (2 : Int32))] [(.long (x2 - y2)), (.int (2 : Int32)), (.ref a1)])) rfl rfl (hb hby d1_16)
  have z_66 : n0 ≤ h_65.size := Nat.le_trans z_61 (Keep.of_wr W_65).1
  have V_65 : Arv Z h_65 a1 k1 .long (5 : Int32) [(.long (x0 - y0)), (.long (x1 - y1)), (.long (x2 - y2)), (.long y3), (.long y4)] (.long (0 : Int64)) := Arv.set Ar_65 q_65 S_65 M_65 H_65 G_65 rfl W_65 2 rfl (Nat.le_of_ble_eq_true rfl)
  have N_65 := Fr.snoc X_65 N_60 g_a1
  have K_65 : Keep h0 h_65 [a1] := K_60.wr W_65 (Or.inl (List.mem_of_getElem? (i := 0) rfl))
  have f_67 : Arv Z h_65 a2 k2 .long (5 : Int32) [(.long x0), (.long x1), (.long x2), (.long x3), (.long x4)] (.long (0 : Int64)) := (f_62.other W_65 ne_a2_a1)
  obtain ⟨cl_68, Ar_68, q_68, S_68, M_68, H_68, G_68⟩ := id f_67
  have hin_68 : ¬ ((3 : Int32) < 0 ∨ cl_68.slots.size ≤ ((3 : Int32)).toNatClampNeg) := inb_of S_68 ⟨by decide, by decide⟩
  have hat_68 : cl_68.slots[((3 : Int32)).toNatClampNeg]? = some (.long x3) := H_68.at hin_68 rfl
  obtain ⟨cl_69, Ar_69, q_69, S_69, M_69, H_69, G_69⟩ := id V_65
  have hin_69 : ¬ ((3 : Int32) < 0 ∨ cl_69.slots.size ≤ ((3 : Int32)).toNatClampNeg) := inb_of S_69 ⟨by decide, by decide⟩
  have hat_69 : cl_69.slots[((3 : Int32)).toNatClampNeg]? = some (.long y3) := H_69.at hin_69 rfl
  obtain ⟨cl_70, Ar_70, q_70, S_70, M_70, H_70, G_70⟩ := id V_65
  have hin_70 : ¬ ((3 : Int32) < 0 ∨ cl_70.slots.size ≤ ((3 : Int32)).toNatClampNeg) := inb_of S_70 ⟨by decide, by decide⟩
  obtain ⟨T_70, h_70, X_70, e_70, W_70, st_70⟩ := stJ X_65 hx hZ e_65 Ar_70 (j := (3 : Int32)) hin_70 (g := (mkF m 16 #[.val (.ref a1), .val (.ref a2), .val (.ref a1), .val (.int (3 : Int32))] [(.long (x3 - y3)), (.int (3 : Int32)), (.ref a1)])) rfl rfl (hb hby d1_16)
  have z_71 : n0 ≤ h_70.size := Nat.le_trans z_66 (Keep.of_wr W_70).1
  have V_70 : Arv Z h_70 a1 k1 .long (5 : Int32) [(.long (x0 - y0)), (.long (x1 - y1)), (.long (x2 - y2)), (.long (x3 - y3)), (.long y4)] (.long (0 : Int64)) := Arv.set Ar_70 q_70 S_70 M_70 H_70 G_70 rfl W_70 3 rfl (Nat.le_of_ble_eq_true rfl)
  have N_70 := Fr.snoc X_70 N_65 g_a1
  have K_70 : Keep h0 h_70 [a1] := K_65.wr W_70 (Or.inl (List.mem_of_getElem? (i := 0) rfl))
  have f_72 : Arv Z h_70 a2 k2 .long (5 : Int32) [(.long x0), (.long x1), (.long x2), (.long x3), (.long x4)] (.long (0 : Int64)) := (f_67.other W_70 ne_a2_a1)
  obtain ⟨cl_73, Ar_73, q_73, S_73, M_73, H_73, G_73⟩ := id f_72
  have hin_73 : ¬ ((4 : Int32) < 0 ∨ cl_73.slots.size ≤ ((4 : Int32)).toNatClampNeg) := inb_of S_73 ⟨by decide, by decide⟩
  have hat_73 : cl_73.slots[((4 : Int32)).toNatClampNeg]? = some (.long x4) := H_73.at hin_73 rfl
  obtain ⟨cl_74, Ar_74, q_74, S_74, M_74, H_74, G_74⟩ := id V_70
  have hin_74 : ¬ ((4 : Int32) < 0 ∨ cl_74.slots.size ≤ ((4 : Int32)).toNatClampNeg) := inb_of S_74 ⟨by decide, by decide⟩
  have hat_74 : cl_74.slots[((4 : Int32)).toNatClampNeg]? = some (.long y4) := H_74.at hin_74 rfl
  obtain ⟨cl_75, Ar_75, q_75, S_75, M_75, H_75, G_75⟩ := id V_70
  have hin_75 : ¬ ((4 : Int32) < 0 ∨ cl_75.slots.size ≤ ((4 : Int32)).toNatClampNeg) := inb_of S_75 ⟨by decide, by decide⟩
  obtain ⟨T_75, h_75, X_75, e_75, W_75, st_75⟩ := stJ X_70 hx hZ e_70 Ar_75 (j := (4 : Int32)) hin_75 (g := (mkF m 16 #[.val (.ref a1), .val (.ref a2), .val (.ref a1), .val (.int (4 : Int32))] [(.long (x4 - y4)), (.int (4 : Int32)), (.ref a1)])) rfl rfl (hb hby d1_16)
  have z_76 : n0 ≤ h_75.size := Nat.le_trans z_71 (Keep.of_wr W_75).1
  have V_75 : Arv Z h_75 a1 k1 .long (5 : Int32) [(.long (x0 - y0)), (.long (x1 - y1)), (.long (x2 - y2)), (.long (x3 - y3)), (.long (x4 - y4))] (.long (0 : Int64)) := Arv.set Ar_75 q_75 S_75 M_75 H_75 G_75 rfl W_75 4 rfl (Nat.le_of_ble_eq_true rfl)
  have N_75 := Fr.snoc X_75 N_70 g_a1
  have K_75 : Keep h0 h_75 [a1] := K_70.wr W_75 (Or.inl (List.mem_of_getElem? (i := 0) rfl))
  obtain ⟨fs, hr, hrun, hended, hW, hsame⟩ := X_75.leave (v := none) (fun _ => rfl)
  refine ⟨_, _, pre0 _ ?_, hrun, hended, _, _, rfl, ?_, ⟨_, rfl⟩, hW, hsame.mono (by decide) (by decide)⟩
  · show Steps p.tables e below (s₁.setTop (mkF m 0 #[.val (.ref a1), .val (.ref a2), .val (.ref a1), .unset] [])) _
    refine XS.iconst X0.here hx rfl (hb hby d1_0) ?_
    show Steps p.tables e below (s₁.setTop (mkF m 1 #[.val (.ref a1), .val (.ref a2), .val (.ref a1), .unset] [(.int (0 : Int32))])) _
    refine XS.istoreN X0.here hx rfl (hb hby d1_1) rfl (l' := #[.val (.ref a1), .val (.ref a2), .val (.ref a1), .val (.int (0 : Int32))]) rfl ?_
    show Steps p.tables e below (s₁.setTop (mkF m 2 #[.val (.ref a1), .val (.ref a2), .val (.ref a1), .val (.int (0 : Int32))] [])) _
    refine XS.iloadN X0.here hx rfl (hb hby d1_2) rfl ?_
    show Steps p.tables e below (s₁.setTop (mkF m 3 #[.val (.ref a1), .val (.ref a2), .val (.ref a1), .val (.int (0 : Int32))] [(.int (0 : Int32))])) _
    refine XS.iconst X0.here hx rfl (hb hby d1_3) ?_
    show Steps p.tables e below (s₁.setTop (mkF m 4 #[.val (.ref a1), .val (.ref a2), .val (.ref a1), .val (.int (0 : Int32))] [(.int (5 : Int32)), (.int (0 : Int32))])) _
    refine XS.icmpNo X0.here hx rfl (hb hby d1_4) rfl (tlt (by decide : (0 : Int32) < (5 : Int32))).2.1 ?_
    show Steps p.tables e below (s₁.setTop (mkF m 7 #[.val (.ref a1), .val (.ref a2), .val (.ref a1), .val (.int (0 : Int32))] [])) _
    refine XS.aloadN X0.here hx rfl (hb hby d1_7) rfl rfl ?_
    show Steps p.tables e below (s₁.setTop (mkF m 8 #[.val (.ref a1), .val (.ref a2), .val (.ref a1), .val (.int (0 : Int32))] [(.ref a1)])) _
    refine XS.iloadN X0.here hx rfl (hb hby d1_8) rfl ?_
    show Steps p.tables e below (s₁.setTop (mkF m 9 #[.val (.ref a1), .val (.ref a2), .val (.ref a1), .val (.int (0 : Int32))] [(.int (0 : Int32)), (.ref a1)])) _
    refine XS.aloadN X0.here hx rfl (hb hby d1_9) rfl rfl ?_
    show Steps p.tables e below (s₁.setTop (mkF m 10 #[.val (.ref a1), .val (.ref a2), .val (.ref a1), .val (.int (0 : Int32))] [(.ref a2), (.int (0 : Int32)), (.ref a1)])) _
    refine XS.iloadN X0.here hx rfl (hb hby d1_10) rfl ?_
    show Steps p.tables e below (s₁.setTop (mkF m 11 #[.val (.ref a1), .val (.ref a2), .val (.ref a1), .val (.int (0 : Int32))] [(.int (0 : Int32)), (.ref a2), (.int (0 : Int32)), (.ref a1)])) _
    refine X0.laload hx (j := (0 : Int32)) (v := (.long x0)) (by rw [e0]; exact Ar_53.1) (State.isArrayOf_alike hZ.alike Ar_53.2.1) Ar_53.2.2 hin_53 hat_53 (g := (mkF m 11 #[.val (.ref a1), .val (.ref a2), .val (.ref a1), .val (.int (0 : Int32))] [(.int (0 : Int32)), (.ref a2), (.int (0 : Int32)), (.ref a1)])) rfl rfl (hb hby d1_11) _ ?_
    show Steps p.tables e below (s₁.setTop (mkF m 12 #[.val (.ref a1), .val (.ref a2), .val (.ref a1), .val (.int (0 : Int32))] [(.long x0), (.int (0 : Int32)), (.ref a1)])) _
    refine XS.aloadN X0.here hx rfl (hb hby d1_12) rfl rfl ?_
    show Steps p.tables e below (s₁.setTop (mkF m 13 #[.val (.ref a1), .val (.ref a2), .val (.ref a1), .val (.int (0 : Int32))] [(.ref a1), (.long x0), (.int (0 : Int32)), (.ref a1)])) _
    refine XS.iloadN X0.here hx rfl (hb hby d1_13) rfl ?_
    show Steps p.tables e below (s₁.setTop (mkF m 14 #[.val (.ref a1), .val (.ref a2), .val (.ref a1), .val (.int (0 : Int32))] [(.int (0 : Int32)), (.ref a1), (.long x0), (.int (0 : Int32)), (.ref a1)])) _
    refine X0.laload hx (j := (0 : Int32)) (v := (.long y0)) (by rw [e0]; exact Ar_54.1) (State.isArrayOf_alike hZ.alike Ar_54.2.1) Ar_54.2.2 hin_54 hat_54 (g := (mkF m 14 #[.val (.ref a1), .val (.ref a2), .val (.ref a1), .val (.int (0 : Int32))] [(.int (0 : Int32)), (.ref a1), (.long x0), (.int (0 : Int32)), (.ref a1)])) rfl rfl (hb hby d1_14) _ ?_
    show Steps p.tables e below (s₁.setTop (mkF m 15 #[.val (.ref a1), .val (.ref a2), .val (.ref a1), .val (.int (0 : Int32))] [(.long y0), (.long x0), (.int (0 : Int32)), (.ref a1)])) _
    refine XS.lsub X0.here hx rfl (hb hby d1_15) rfl ?_
    show Steps p.tables e below (s₁.setTop (mkF m 16 #[.val (.ref a1), .val (.ref a2), .val (.ref a1), .val (.int (0 : Int32))] [(.long (x0 - y0)), (.int (0 : Int32)), (.ref a1)])) _
    refine st_55 _ ?_
    show Steps p.tables e below (T_55.setTop (mkF m 17 #[.val (.ref a1), .val (.ref a2), .val (.ref a1), .val (.int (0 : Int32))] [])) _
    refine XS.iinc X_55.here hx rfl (hb hby d1_17) rfl (l' := #[.val (.ref a1), .val (.ref a2), .val (.ref a1), .val (.int (1 : Int32))]) rfl ?_
    show Steps p.tables e below (T_55.setTop (mkF m 20 #[.val (.ref a1), .val (.ref a2), .val (.ref a1), .val (.int (1 : Int32))] [])) _
    refine XS.goto X_55.here hx rfl (pc0 := 20) (pc' := 2) rfl (hb hby d1_20) (by decide) (by decide) ?_
    show Steps p.tables e below (T_55.setTop (mkF m 2 #[.val (.ref a1), .val (.ref a2), .val (.ref a1), .val (.int (1 : Int32))] [])) _
    refine XS.iloadN X_55.here hx rfl (hb hby d1_2) rfl ?_
    show Steps p.tables e below (T_55.setTop (mkF m 3 #[.val (.ref a1), .val (.ref a2), .val (.ref a1), .val (.int (1 : Int32))] [(.int (1 : Int32))])) _
    refine XS.iconst X_55.here hx rfl (hb hby d1_3) ?_
    show Steps p.tables e below (T_55.setTop (mkF m 4 #[.val (.ref a1), .val (.ref a2), .val (.ref a1), .val (.int (1 : Int32))] [(.int (5 : Int32)), (.int (1 : Int32))])) _
    refine XS.icmpNo X_55.here hx rfl (hb hby d1_4) rfl (tlt (by decide : (1 : Int32) < (5 : Int32))).2.1 ?_
    show Steps p.tables e below (T_55.setTop (mkF m 7 #[.val (.ref a1), .val (.ref a2), .val (.ref a1), .val (.int (1 : Int32))] [])) _
    refine XS.aloadN X_55.here hx rfl (hb hby d1_7) rfl rfl ?_
    show Steps p.tables e below (T_55.setTop (mkF m 8 #[.val (.ref a1), .val (.ref a2), .val (.ref a1), .val (.int (1 : Int32))] [(.ref a1)])) _
    refine XS.iloadN X_55.here hx rfl (hb hby d1_8) rfl ?_
    show Steps p.tables e below (T_55.setTop (mkF m 9 #[.val (.ref a1), .val (.ref a2), .val (.ref a1), .val (.int (1 : Int32))] [(.int (1 : Int32)), (.ref a1)])) _
    refine XS.aloadN X_55.here hx rfl (hb hby d1_9) rfl rfl ?_
    show Steps p.tables e below (T_55.setTop (mkF m 10 #[.val (.ref a1), .val (.ref a2), .val (.ref a1), .val (.int (1 : Int32))] [(.ref a2), (.int (1 : Int32)), (.ref a1)])) _
    refine XS.iloadN X_55.here hx rfl (hb hby d1_10) rfl ?_
    show Steps p.tables e below (T_55.setTop (mkF m 11 #[.val (.ref a1), .val (.ref a2), .val (.ref a1), .val (.int (1 : Int32))] [(.int (1 : Int32)), (.ref a2), (.int (1 : Int32)), (.ref a1)])) _
    refine X_55.laload hx (j := (1 : Int32)) (v := (.long x1)) (by rw [e_55]; exact Ar_58.1) (State.isArrayOf_alike hZ.alike Ar_58.2.1) Ar_58.2.2 hin_58 hat_58 (g := (mkF m 11 #[.val (.ref a1), .val (.ref a2), .val (.ref a1), .val (.int (1 : Int32))] [(.int (1 : Int32)), (.ref a2), (.int (1 : Int32)), (.ref a1)])) rfl rfl (hb hby d1_11) _ ?_
    show Steps p.tables e below (T_55.setTop (mkF m 12 #[.val (.ref a1), .val (.ref a2), .val (.ref a1), .val (.int (1 : Int32))] [(.long x1), (.int (1 : Int32)), (.ref a1)])) _
    refine XS.aloadN X_55.here hx rfl (hb hby d1_12) rfl rfl ?_
    show Steps p.tables e below (T_55.setTop (mkF m 13 #[.val (.ref a1), .val (.ref a2), .val (.ref a1), .val (.int (1 : Int32))] [(.ref a1), (.long x1), (.int (1 : Int32)), (.ref a1)])) _
    refine XS.iloadN X_55.here hx rfl (hb hby d1_13) rfl ?_
    show Steps p.tables e below (T_55.setTop (mkF m 14 #[.val (.ref a1), .val (.ref a2), .val (.ref a1), .val (.int (1 : Int32))] [(.int (1 : Int32)), (.ref a1), (.long x1), (.int (1 : Int32)), (.ref a1)])) _
    refine X_55.laload hx (j := (1 : Int32)) (v := (.long y1)) (by rw [e_55]; exact Ar_59.1) (State.isArrayOf_alike hZ.alike Ar_59.2.1) Ar_59.2.2 hin_59 hat_59 (g := (mkF m 14 #[.val (.ref a1), .val (.ref a2), .val (.ref a1), .val (.int (1 : Int32))] [(.int (1 : Int32)), (.ref a1), (.long x1), (.int (1 : Int32)), (.ref a1)])) rfl rfl (hb hby d1_14) _ ?_
    show Steps p.tables e below (T_55.setTop (mkF m 15 #[.val (.ref a1), .val (.ref a2), .val (.ref a1), .val (.int (1 : Int32))] [(.long y1), (.long x1), (.int (1 : Int32)), (.ref a1)])) _
    refine XS.lsub X_55.here hx rfl (hb hby d1_15) rfl ?_
    show Steps p.tables e below (T_55.setTop (mkF m 16 #[.val (.ref a1), .val (.ref a2), .val (.ref a1), .val (.int (1 : Int32))] [(.long (x1 - y1)), (.int (1 : Int32)), (.ref a1)])) _
    refine st_60 _ ?_
    show Steps p.tables e below (T_60.setTop (mkF m 17 #[.val (.ref a1), .val (.ref a2), .val (.ref a1), .val (.int (1 : Int32))] [])) _
    refine XS.iinc X_60.here hx rfl (hb hby d1_17) rfl (l' := #[.val (.ref a1), .val (.ref a2), .val (.ref a1), .val (.int (2 : Int32))]) rfl ?_
    show Steps p.tables e below (T_60.setTop (mkF m 20 #[.val (.ref a1), .val (.ref a2), .val (.ref a1), .val (.int (2 : Int32))] [])) _
    refine XS.goto X_60.here hx rfl (pc0 := 20) (pc' := 2) rfl (hb hby d1_20) (by decide) (by decide) ?_
    show Steps p.tables e below (T_60.setTop (mkF m 2 #[.val (.ref a1), .val (.ref a2), .val (.ref a1), .val (.int (2 : Int32))] [])) _
    refine XS.iloadN X_60.here hx rfl (hb hby d1_2) rfl ?_
    show Steps p.tables e below (T_60.setTop (mkF m 3 #[.val (.ref a1), .val (.ref a2), .val (.ref a1), .val (.int (2 : Int32))] [(.int (2 : Int32))])) _
    refine XS.iconst X_60.here hx rfl (hb hby d1_3) ?_
    show Steps p.tables e below (T_60.setTop (mkF m 4 #[.val (.ref a1), .val (.ref a2), .val (.ref a1), .val (.int (2 : Int32))] [(.int (5 : Int32)), (.int (2 : Int32))])) _
    refine XS.icmpNo X_60.here hx rfl (hb hby d1_4) rfl (tlt (by decide : (2 : Int32) < (5 : Int32))).2.1 ?_
    show Steps p.tables e below (T_60.setTop (mkF m 7 #[.val (.ref a1), .val (.ref a2), .val (.ref a1), .val (.int (2 : Int32))] [])) _
    refine XS.aloadN X_60.here hx rfl (hb hby d1_7) rfl rfl ?_
    show Steps p.tables e below (T_60.setTop (mkF m 8 #[.val (.ref a1), .val (.ref a2), .val (.ref a1), .val (.int (2 : Int32))] [(.ref a1)])) _
    refine XS.iloadN X_60.here hx rfl (hb hby d1_8) rfl ?_
    show Steps p.tables e below (T_60.setTop (mkF m 9 #[.val (.ref a1), .val (.ref a2), .val (.ref a1), .val (.int (2 : Int32))] [(.int (2 : Int32)), (.ref a1)])) _
    refine XS.aloadN X_60.here hx rfl (hb hby d1_9) rfl rfl ?_
    show Steps p.tables e below (T_60.setTop (mkF m 10 #[.val (.ref a1), .val (.ref a2), .val (.ref a1), .val (.int (2 : Int32))] [(.ref a2), (.int (2 : Int32)), (.ref a1)])) _
    refine XS.iloadN X_60.here hx rfl (hb hby d1_10) rfl ?_
    show Steps p.tables e below (T_60.setTop (mkF m 11 #[.val (.ref a1), .val (.ref a2), .val (.ref a1), .val (.int (2 : Int32))] [(.int (2 : Int32)), (.ref a2), (.int (2 : Int32)), (.ref a1)])) _
    refine X_60.laload hx (j := (2 : Int32)) (v := (.long x2)) (by rw [e_60]; exact Ar_63.1) (State.isArrayOf_alike hZ.alike Ar_63.2.1) Ar_63.2.2 hin_63 hat_63 (g := (mkF m 11 #[.val (.ref a1), .val (.ref a2), .val (.ref a1), .val (.int (2 : Int32))] [(.int (2 : Int32)), (.ref a2), (.int (2 : Int32)), (.ref a1)])) rfl rfl (hb hby d1_11) _ ?_
    show Steps p.tables e below (T_60.setTop (mkF m 12 #[.val (.ref a1), .val (.ref a2), .val (.ref a1), .val (.int (2 : Int32))] [(.long x2), (.int (2 : Int32)), (.ref a1)])) _
    refine XS.aloadN X_60.here hx rfl (hb hby d1_12) rfl rfl ?_
    show Steps p.tables e below (T_60.setTop (mkF m 13 #[.val (.ref a1), .val (.ref a2), .val (.ref a1), .val (.int (2 : Int32))] [(.ref a1), (.long x2), (.int (2 : Int32)), (.ref a1)])) _
    refine XS.iloadN X_60.here hx rfl (hb hby d1_13) rfl ?_
    show Steps p.tables e below (T_60.setTop (mkF m 14 #[.val (.ref a1), .val (.ref a2), .val (.ref a1), .val (.int (2 : Int32))] [(.int (2 : Int32)), (.ref a1), (.long x2), (.int (2 : Int32)), (.ref a1)])) _
    refine X_60.laload hx (j := (2 : Int32)) (v := (.long y2)) (by rw [e_60]; exact Ar_64.1) (State.isArrayOf_alike hZ.alike Ar_64.2.1) Ar_64.2.2 hin_64 hat_64 (g := (mkF m 14 #[.val (.ref a1), .val (.ref a2), .val (.ref a1), .val (.int (2 : Int32))] [(.int (2 : Int32)), (.ref a1), (.long x2), (.int (2 : Int32)), (.ref a1)])) rfl rfl (hb hby d1_14) _ ?_
    show Steps p.tables e below (T_60.setTop (mkF m 15 #[.val (.ref a1), .val (.ref a2), .val (.ref a1), .val (.int (2 : Int32))] [(.long y2), (.long x2), (.int (2 : Int32)), (.ref a1)])) _
    refine XS.lsub X_60.here hx rfl (hb hby d1_15) rfl ?_
    show Steps p.tables e below (T_60.setTop (mkF m 16 #[.val (.ref a1), .val (.ref a2), .val (.ref a1), .val (.int (2 : Int32))] [(.long (x2 - y2)), (.int (2 : Int32)), (.ref a1)])) _
    refine st_65 _ ?_
    show Steps p.tables e below (T_65.setTop (mkF m 17 #[.val (.ref a1), .val (.ref a2), .val (.ref a1), .val (.int (2 : Int32))] [])) _
    refine XS.iinc X_65.here hx rfl (hb hby d1_17) rfl (l' := #[.val (.ref a1), .val (.ref a2), .val (.ref a1), .val (.int (3 : Int32))]) rfl ?_
    show Steps p.tables e below (T_65.setTop (mkF m 20 #[.val (.ref a1), .val (.ref a2), .val (.ref a1), .val (.int (3 : Int32))] [])) _
    refine XS.goto X_65.here hx rfl (pc0 := 20) (pc' := 2) rfl (hb hby d1_20) (by decide) (by decide) ?_
    show Steps p.tables e below (T_65.setTop (mkF m 2 #[.val (.ref a1), .val (.ref a2), .val (.ref a1), .val (.int (3 : Int32))] [])) _
    refine XS.iloadN X_65.here hx rfl (hb hby d1_2) rfl ?_
    show Steps p.tables e below (T_65.setTop (mkF m 3 #[.val (.ref a1), .val (.ref a2), .val (.ref a1), .val (.int (3 : Int32))] [(.int (3 : Int32))])) _
    refine XS.iconst X_65.here hx rfl (hb hby d1_3) ?_
    show Steps p.tables e below (T_65.setTop (mkF m 4 #[.val (.ref a1), .val (.ref a2), .val (.ref a1), .val (.int (3 : Int32))] [(.int (5 : Int32)), (.int (3 : Int32))])) _
    refine XS.icmpNo X_65.here hx rfl (hb hby d1_4) rfl (tlt (by decide : (3 : Int32) < (5 : Int32))).2.1 ?_
    show Steps p.tables e below (T_65.setTop (mkF m 7 #[.val (.ref a1), .val (.ref a2), .val (.ref a1), .val (.int (3 : Int32))] [])) _
    refine XS.aloadN X_65.here hx rfl (hb hby d1_7) rfl rfl ?_
    show Steps p.tables e below (T_65.setTop (mkF m 8 #[.val (.ref a1), .val (.ref a2), .val (.ref a1), .val (.int (3 : Int32))] [(.ref a1)])) _
    refine XS.iloadN X_65.here hx rfl (hb hby d1_8) rfl ?_
    show Steps p.tables e below (T_65.setTop (mkF m 9 #[.val (.ref a1), .val (.ref a2), .val (.ref a1), .val (.int (3 : Int32))] [(.int (3 : Int32)), (.ref a1)])) _
    refine XS.aloadN X_65.here hx rfl (hb hby d1_9) rfl rfl ?_
    show Steps p.tables e below (T_65.setTop (mkF m 10 #[.val (.ref a1), .val (.ref a2), .val (.ref a1), .val (.int (3 : Int32))] [(.ref a2), (.int (3 : Int32)), (.ref a1)])) _
    refine XS.iloadN X_65.here hx rfl (hb hby d1_10) rfl ?_
    show Steps p.tables e below (T_65.setTop (mkF m 11 #[.val (.ref a1), .val (.ref a2), .val (.ref a1), .val (.int (3 : Int32))] [(.int (3 : Int32)), (.ref a2), (.int (3 : Int32)), (.ref a1)])) _
    refine X_65.laload hx (j := (3 : Int32)) (v := (.long x3)) (by rw [e_65]; exact Ar_68.1) (State.isArrayOf_alike hZ.alike Ar_68.2.1) Ar_68.2.2 hin_68 hat_68 (g := (mkF m 11 #[.val (.ref a1), .val (.ref a2), .val (.ref a1), .val (.int (3 : Int32))] [(.int (3 : Int32)), (.ref a2), (.int (3 : Int32)), (.ref a1)])) rfl rfl (hb hby d1_11) _ ?_
    show Steps p.tables e below (T_65.setTop (mkF m 12 #[.val (.ref a1), .val (.ref a2), .val (.ref a1), .val (.int (3 : Int32))] [(.long x3), (.int (3 : Int32)), (.ref a1)])) _
    refine XS.aloadN X_65.here hx rfl (hb hby d1_12) rfl rfl ?_
    show Steps p.tables e below (T_65.setTop (mkF m 13 #[.val (.ref a1), .val (.ref a2), .val (.ref a1), .val (.int (3 : Int32))] [(.ref a1), (.long x3), (.int (3 : Int32)), (.ref a1)])) _
    refine XS.iloadN X_65.here hx rfl (hb hby d1_13) rfl ?_
    show Steps p.tables e below (T_65.setTop (mkF m 14 #[.val (.ref a1), .val (.ref a2), .val (.ref a1), .val (.int (3 : Int32))] [(.int (3 : Int32)), (.ref a1), (.long x3), (.int (3 : Int32)), (.ref a1)])) _
    refine X_65.laload hx (j := (3 : Int32)) (v := (.long y3)) (by rw [e_65]; exact Ar_69.1) (State.isArrayOf_alike hZ.alike Ar_69.2.1) Ar_69.2.2 hin_69 hat_69 (g := (mkF m 14 #[.val (.ref a1), .val (.ref a2), .val (.ref a1), .val (.int (3 : Int32))] [(.int (3 : Int32)), (.ref a1), (.long x3), (.int (3 : Int32)), (.ref a1)])) rfl rfl (hb hby d1_14) _ ?_
    show Steps p.tables e below (T_65.setTop (mkF m 15 #[.val (.ref a1), .val (.ref a2), .val (.ref a1), .val (.int (3 : Int32))] [(.long y3), (.long x3), (.int (3 : Int32)), (.ref a1)])) _
    refine XS.lsub X_65.here hx rfl (hb hby d1_15) rfl ?_
    show Steps p.tables e below (T_65.setTop (mkF m 16 #[.val (.ref a1), .val (.ref a2), .val (.ref a1), .val (.int (3 : Int32))] [(.long (x3 - y3)), (.int (3 : Int32)), (.ref a1)])) _
    refine st_70 _ ?_
    show Steps p.tables e below (T_70.setTop (mkF m 17 #[.val (.ref a1), .val (.ref a2), .val (.ref a1), .val (.int (3 : Int32))] [])) _
    refine XS.iinc X_70.here hx rfl (hb hby d1_17) rfl (l' := #[.val (.ref a1), .val (.ref a2), .val (.ref a1), .val (.int (4 : Int32))]) rfl ?_
    show Steps p.tables e below (T_70.setTop (mkF m 20 #[.val (.ref a1), .val (.ref a2), .val (.ref a1), .val (.int (4 : Int32))] [])) _
    refine XS.goto X_70.here hx rfl (pc0 := 20) (pc' := 2) rfl (hb hby d1_20) (by decide) (by decide) ?_
    show Steps p.tables e below (T_70.setTop (mkF m 2 #[.val (.ref a1), .val (.ref a2), .val (.ref a1), .val (.int (4 : Int32))] [])) _
    refine XS.iloadN X_70.here hx rfl (hb hby d1_2) rfl ?_
    show Steps p.tables e below (T_70.setTop (mkF m 3 #[.val (.ref a1), .val (.ref a2), .val (.ref a1), .val (.int (4 : Int32))] [(.int (4 : Int32))])) _
    refine XS.iconst X_70.here hx rfl (hb hby d1_3) ?_
    show Steps p.tables e below (T_70.setTop (mkF m 4 #[.val (.ref a1), .val (.ref a2), .val (.ref a1), .val (.int (4 : Int32))] [(.int (5 : Int32)), (.int (4 : Int32))])) _
    refine XS.icmpNo X_70.here hx rfl (hb hby d1_4) rfl (tlt (by decide : (4 : Int32) < (5 : Int32))).2.1 ?_
    show Steps p.tables e below (T_70.setTop (mkF m 7 #[.val (.ref a1), .val (.ref a2), .val (.ref a1), .val (.int (4 : Int32))] [])) _
    refine XS.aloadN X_70.here hx rfl (hb hby d1_7) rfl rfl ?_
    show Steps p.tables e below (T_70.setTop (mkF m 8 #[.val (.ref a1), .val (.ref a2), .val (.ref a1), .val (.int (4 : Int32))] [(.ref a1)])) _
    refine XS.iloadN X_70.here hx rfl (hb hby d1_8) rfl ?_
    show Steps p.tables e below (T_70.setTop (mkF m 9 #[.val (.ref a1), .val (.ref a2), .val (.ref a1), .val (.int (4 : Int32))] [(.int (4 : Int32)), (.ref a1)])) _
    refine XS.aloadN X_70.here hx rfl (hb hby d1_9) rfl rfl ?_
    show Steps p.tables e below (T_70.setTop (mkF m 10 #[.val (.ref a1), .val (.ref a2), .val (.ref a1), .val (.int (4 : Int32))] [(.ref a2), (.int (4 : Int32)), (.ref a1)])) _
    refine XS.iloadN X_70.here hx rfl (hb hby d1_10) rfl ?_
    show Steps p.tables e below (T_70.setTop (mkF m 11 #[.val (.ref a1), .val (.ref a2), .val (.ref a1), .val (.int (4 : Int32))] [(.int (4 : Int32)), (.ref a2), (.int (4 : Int32)), (.ref a1)])) _
    refine X_70.laload hx (j := (4 : Int32)) (v := (.long x4)) (by rw [e_70]; exact Ar_73.1) (State.isArrayOf_alike hZ.alike Ar_73.2.1) Ar_73.2.2 hin_73 hat_73 (g := (mkF m 11 #[.val (.ref a1), .val (.ref a2), .val (.ref a1), .val (.int (4 : Int32))] [(.int (4 : Int32)), (.ref a2), (.int (4 : Int32)), (.ref a1)])) rfl rfl (hb hby d1_11) _ ?_
    show Steps p.tables e below (T_70.setTop (mkF m 12 #[.val (.ref a1), .val (.ref a2), .val (.ref a1), .val (.int (4 : Int32))] [(.long x4), (.int (4 : Int32)), (.ref a1)])) _
    refine XS.aloadN X_70.here hx rfl (hb hby d1_12) rfl rfl ?_
    show Steps p.tables e below (T_70.setTop (mkF m 13 #[.val (.ref a1), .val (.ref a2), .val (.ref a1), .val (.int (4 : Int32))] [(.ref a1), (.long x4), (.int (4 : Int32)), (.ref a1)])) _
    refine XS.iloadN X_70.here hx rfl (hb hby d1_13) rfl ?_
    show Steps p.tables e below (T_70.setTop (mkF m 14 #[.val (.ref a1), .val (.ref a2), .val (.ref a1), .val (.int (4 : Int32))] [(.int (4 : Int32)), (.ref a1), (.long x4), (.int (4 : Int32)), (.ref a1)])) _
    refine X_70.laload hx (j := (4 : Int32)) (v := (.long y4)) (by rw [e_70]; exact Ar_74.1) (State.isArrayOf_alike hZ.alike Ar_74.2.1) Ar_74.2.2 hin_74 hat_74 (g := (mkF m 14 #[.val (.ref a1), .val (.ref a2), .val (.ref a1), .val (.int (4 : Int32))] [(.int (4 : Int32)), (.ref a1), (.long x4), (.int (4 : Int32)), (.ref a1)])) rfl rfl (hb hby d1_14) _ ?_
    show Steps p.tables e below (T_70.setTop (mkF m 15 #[.val (.ref a1), .val (.ref a2), .val (.ref a1), .val (.int (4 : Int32))] [(.long y4), (.long x4), (.int (4 : Int32)), (.ref a1)])) _
    refine XS.lsub X_70.here hx rfl (hb hby d1_15) rfl ?_
    show Steps p.tables e below (T_70.setTop (mkF m 16 #[.val (.ref a1), .val (.ref a2), .val (.ref a1), .val (.int (4 : Int32))] [(.long (x4 - y4)), (.int (4 : Int32)), (.ref a1)])) _
    refine st_75 _ ?_
    show Steps p.tables e below (T_75.setTop (mkF m 17 #[.val (.ref a1), .val (.ref a2), .val (.ref a1), .val (.int (4 : Int32))] [])) _
    refine XS.iinc X_75.here hx rfl (hb hby d1_17) rfl (l' := #[.val (.ref a1), .val (.ref a2), .val (.ref a1), .val (.int (5 : Int32))]) rfl ?_
    show Steps p.tables e below (T_75.setTop (mkF m 20 #[.val (.ref a1), .val (.ref a2), .val (.ref a1), .val (.int (5 : Int32))] [])) _
    refine XS.goto X_75.here hx rfl (pc0 := 20) (pc' := 2) rfl (hb hby d1_20) (by decide) (by decide) ?_
    show Steps p.tables e below (T_75.setTop (mkF m 2 #[.val (.ref a1), .val (.ref a2), .val (.ref a1), .val (.int (5 : Int32))] [])) _
    refine XS.iloadN X_75.here hx rfl (hb hby d1_2) rfl ?_
    show Steps p.tables e below (T_75.setTop (mkF m 3 #[.val (.ref a1), .val (.ref a2), .val (.ref a1), .val (.int (5 : Int32))] [(.int (5 : Int32))])) _
    refine XS.iconst X_75.here hx rfl (hb hby d1_3) ?_
    show Steps p.tables e below (T_75.setTop (mkF m 4 #[.val (.ref a1), .val (.ref a2), .val (.ref a1), .val (.int (5 : Int32))] [(.int (5 : Int32)), (.int (5 : Int32))])) _
    refine XS.icmpYes X_75.here hx rfl (pc0 := 4) (pc' := 23) rfl (hb hby d1_4) rfl (flt (by decide : ¬ ((5 : Int32) < (5 : Int32)))).2.1 (by decide) (by decide) ?_
    show Steps p.tables e below (T_75.setTop (mkF m 23 #[.val (.ref a1), .val (.ref a2), .val (.ref a1), .val (.int (5 : Int32))] [])) _
    exact X_75.returnOut hx Bd.returns (hb hby d1_23) hr
  · show Q1c Z a1 a2 k1 k2 x0 x1 x2 x3 x4 y0 y1 y2 y3 y4 h0 n0 _ T_75.heap _
    rw [e_75]
    exact ⟨rfl, N_75, K_75, V_75⟩
theorem ef_1d (m : MethodId) (x0 : Addr) (x1 : Addr) (x2 : Addr) : entryFrame m #[(.ref x0), (.ref x1), (.ref x2)] 4 = mkF m 0 #[.val (.ref x0), .val (.ref x1), .val (.ref x2), .unset] [] := by first | (simp [entryFrame, mkF, argsToLocals, Value.category]; done) | rfl
def Q1d (Z : State) (a1 : Addr) (k1 : ClassId) (x0 : Int64) (x1 : Int64) (x2 : Int64) (x3 : Int64) (x4 : Int64) (h0 : Heap) (n0 : Nat) (v : Option Value) (h : Heap) (L : List Loc) : Prop := v = none ∧ Fr n0 L ∧ Keep h0 h [a1] ∧ Arv Z h a1 k1 .long (5 : Int32) [(.long (x0 - x0)), (.long (x1 - x1)), (.long (x2 - x2)), (.long (x3 - x3)), (.long (x4 - x4))] (.long (0 : Int64))
set_option maxRecDepth 65536 in
set_option maxHeartbeats 40000000 in
theorem rm1d (l : Launch) (Z : State) (a0 : Array Value) (hw : ∀ d ∈ tables_1, d.before a0 Z = true) (ws : List Jvm.Cond) (a1 : Addr) (k1 : ClassId) (x0 : Int64) (x1 : Int64) (x2 : Int64) (x3 : Int64) (x4 : Int64) (h0 : Heap) (n0 : Nat) (Z0 : n0 ≤ h0.size) (V_a1 : Arv Z h0 a1 k1 .long (5 : Int32) [(.long x0), (.long x1), (.long x2), (.long x3), (.long x4)] (.long (0 : Int64))) (g_a1 : n0 ≤ a1) :
    MetFree l (⟨"com/example/latchet/latchet/Field25519", "sub", "([J[J[J)V"⟩ : MethodName) (head1 (Jvm.Cond.code (⟨"com/example/latchet/latchet/Field25519", "sub", "([J[J[J)V"⟩ : MethodName) prog_10_method_7_code 4 none :: ws) ({ frames := 0, cells := 0, slots := 0, locals := 0 } : Room)) (fun a U => a = #[(.ref a1), (.ref a1), (.ref a1)] ∧ Z.Warmed39 U.vm ∧ U.heap = h0) (fun _ _ _ _ _ => True) (fun _ U o U' => ∃ v L, o = .returned v ∧ Q1d Z a1 k1 x0 x1 x2 x3 x4 h0 n0 v U'.heap L ∧ FrameEnd U o U' L ({ frames := 0, cells := 0, slots := 0, locals := 0 } : Room).cells ({ frames := 0, cells := 0, slots := 0, locals := 0 } : Room).slots) := by
  refine MetFree.of_bodySF (plainFor_of_name pn_1) hisR ?_
  intro p e s m args below meth c s₁ Bd hml0 hP hK
  obtain ⟨rfl, hZ, hh⟩ := hP
  have hx := Bd.exec
  have hby := Bd.bytes
  have hml : c.maxLocals = 4 := hml0
  have hown : s.vm.findClass "com/example/latchet/latchet/Field25519" = some m.cls := findClass_of_methodNamed Bd.named
  have hnm := (name_of_methodNamed Bd.named Bd.method).1
  have X0 : Stand p l e ({ frames := 0, cells := 0, slots := 0, locals := 0 } : Room) s m #[(.ref a1), (.ref a1), (.ref a1)] below meth c s₁ [] 0 0 := Stand.of_body Bd
  have e0 : s₁.heap = h0 := by rw [← hh, Bd.state]; rfl
  have N0 := Fr.nil n0
  have pre0 : ∀ t, Steps p.tables e below (s₁.setTop (mkF m 0 #[.val (.ref a1), .val (.ref a1), .val (.ref a1), .unset] [])) t → Steps p.tables e below (s₁.setTop (entryFrame m #[(.ref a1), (.ref a1), (.ref a1)] 4)) t := fun t k => castTop (ef_1d m a1 a1 a1) k
  obtain ⟨cl_77, Ar_77, q_77, S_77, M_77, H_77, G_77⟩ := id V_a1
  have hin_77 : ¬ ((0 : Int32) < 0 ∨ cl_77.slots.size ≤ ((0 : Int32)).toNatClampNeg) := inb_of S_77 ⟨by decide, by decide⟩
  have hat_77 : cl_77.slots[((0 : Int32)).toNatClampNeg]? = some (.long x0) := H_77.at hin_77 rfl
  obtain ⟨cl_78, Ar_78, q_78, S_78, M_78, H_78, G_78⟩ := id V_a1
  have hin_78 : ¬ ((0 : Int32) < 0 ∨ cl_78.slots.size ≤ ((0 : Int32)).toNatClampNeg) := inb_of S_78 ⟨by decide, by decide⟩
  have hat_78 : cl_78.slots[((0 : Int32)).toNatClampNeg]? = some (.long x0) := H_78.at hin_78 rfl
  obtain ⟨cl_79, Ar_79, q_79, S_79, M_79, H_79, G_79⟩ := id V_a1
  have hin_79 : ¬ ((0 : Int32) < 0 ∨ cl_79.slots.size ≤ ((0 : Int32)).toNatClampNeg) := inb_of S_79 ⟨by decide, by decide⟩
  obtain ⟨T_79, h_79, X_79, e_79, W_79, st_79⟩ := stJ X0 hx hZ e0 Ar_79 (j := (0 : Int32)) hin_79 (g := (mkF m 16 #[.val (.ref a1), .val (.ref a1), .val (.ref a1), .val (.int (0 : Int32))] [(.long (x0 - x0)), (.int (0 : Int32)), (.ref a1)])) rfl rfl (hb hby d1_16)
  have z_80 : n0 ≤ h_79.size := Nat.le_trans Z0 (Keep.of_wr W_79).1
  have V_79 : Arv Z h_79 a1 k1 .long (5 : Int32) [(.long (x0 - x0)), (.long x1), (.long x2), (.long x3), (.long x4)] (.long (0 : Int64)) := Arv.set Ar_79 q_79 S_79 M_79 H_79 G_79 rfl W_79 0 rfl (Nat.le_of_ble_eq_true rfl)
  have N_79 := Fr.snoc X_79 N0 g_a1
  have K_79 : Keep h0 h_79 [a1] := (Keep.refl h0 [a1]).wr W_79 (Or.inl (List.mem_of_getElem? (i := 0) rfl))
  obtain ⟨cl_81, Ar_81, q_81, S_81, M_81, H_81, G_81⟩ := id V_79
  have hin_81 : ¬ ((1 : Int32) < 0 ∨ cl_81.slots.size ≤ ((1 : Int32)).toNatClampNeg) := inb_of S_81 ⟨by decide, by decide⟩
  have hat_81 : cl_81.slots[((1 : Int32)).toNatClampNeg]? = some (.long x1) := H_81.at hin_81 rfl
  obtain ⟨cl_82, Ar_82, q_82, S_82, M_82, H_82, G_82⟩ := id V_79
  have hin_82 : ¬ ((1 : Int32) < 0 ∨ cl_82.slots.size ≤ ((1 : Int32)).toNatClampNeg) := inb_of S_82 ⟨by decide, by decide⟩
  have hat_82 : cl_82.slots[((1 : Int32)).toNatClampNeg]? = some (.long x1) := H_82.at hin_82 rfl
  obtain ⟨cl_83, Ar_83, q_83, S_83, M_83, H_83, G_83⟩ := id V_79
  have hin_83 : ¬ ((1 : Int32) < 0 ∨ cl_83.slots.size ≤ ((1 : Int32)).toNatClampNeg) := inb_of S_83 ⟨by decide, by decide⟩
  obtain ⟨T_83, h_83, X_83, e_83, W_83, st_83⟩ := stJ X_79 hx hZ e_79 Ar_83 (j := (1 : Int32)) hin_83 (g := (mkF m 16 #[.val (.ref a1), .val (.ref a1), .val (.ref a1), .val (.int (1 : Int32))] [(.long (x1 - x1)), (.int (1 : Int32)), (.ref a1)])) rfl rfl (hb hby d1_16)
  have z_84 : n0 ≤ h_83.size := Nat.le_trans z_80 (Keep.of_wr W_83).1
  have V_83 : Arv Z h_83 a1 k1 .long (5 : Int32) [(.long (x0 - x0)), (.long (x1 - x1)), (.long x2), (.long x3), (.long x4)] (.long (0 : Int64)) := Arv.set Ar_83 q_83 S_83 M_83 H_83 G_83 rfl W_83 1 rfl (Nat.le_of_ble_eq_true rfl)
  have N_83 := Fr.snoc X_83 N_79 g_a1
  have K_83 : Keep h0 h_83 [a1] := K_79.wr W_83 (Or.inl (List.mem_of_getElem? (i := 0) rfl))
  obtain ⟨cl_85, Ar_85, q_85, S_85, M_85, H_85, G_85⟩ := id V_83
  have hin_85 : ¬ ((2 : Int32) < 0 ∨ cl_85.slots.size ≤ ((2 : Int32)).toNatClampNeg) := inb_of S_85 ⟨by decide, by decide⟩
  have hat_85 : cl_85.slots[((2 : Int32)).toNatClampNeg]? = some (.long x2) := H_85.at hin_85 rfl
  obtain ⟨cl_86, Ar_86, q_86, S_86, M_86, H_86, G_86⟩ := id V_83
  have hin_86 : ¬ ((2 : Int32) < 0 ∨ cl_86.slots.size ≤ ((2 : Int32)).toNatClampNeg) := inb_of S_86 ⟨by decide, by decide⟩
  have hat_86 : cl_86.slots[((2 : Int32)).toNatClampNeg]? = some (.long x2) := H_86.at hin_86 rfl
  obtain ⟨cl_87, Ar_87, q_87, S_87, M_87, H_87, G_87⟩ := id V_83
  have hin_87 : ¬ ((2 : Int32) < 0 ∨ cl_87.slots.size ≤ ((2 : Int32)).toNatClampNeg) := inb_of S_87 ⟨by decide, by decide⟩
  obtain ⟨T_87, h_87, X_87, e_87, W_87, st_87⟩ := stJ X_83 hx hZ e_83 Ar_87 (j := (2 : Int32)) hin_87 (g := (mkF m 16 #[.val (.ref a1), .val (.ref a1), .val (.ref a1), .val (.int (2 : Int32))] [(.long (x2 - x2)), (.int (2 : Int32)), (.ref a1)])) rfl rfl (hb hby d1_16)
  have z_88 : n0 ≤ h_87.size := Nat.le_trans z_84 (Keep.of_wr W_87).1
  have V_87 : Arv Z h_87 a1 k1 .long (5 : Int32) [(.long (x0 - x0)), (.long (x1 - x1)), (.long (x2 - x2)), (.long x3), (.long x4)] (.long (0 : Int64)) := Arv.set Ar_87 q_87 S_87 M_87 H_87 G_87 rfl W_87 2 rfl (Nat.le_of_ble_eq_true rfl)
  have N_87 := Fr.snoc X_87 N_83 g_a1
  have K_87 : Keep h0 h_87 [a1] := K_83.wr W_87 (Or.inl (List.mem_of_getElem? (i := 0) rfl))
  obtain ⟨cl_89, Ar_89, q_89, S_89, M_89, H_89, G_89⟩ := id V_87
  have hin_89 : ¬ ((3 : Int32) < 0 ∨ cl_89.slots.size ≤ ((3 : Int32)).toNatClampNeg) := inb_of S_89 ⟨by decide, by decide⟩
  have hat_89 : cl_89.slots[((3 : Int32)).toNatClampNeg]? = some (.long x3) := H_89.at hin_89 rfl
  obtain ⟨cl_90, Ar_90, q_90, S_90, M_90, H_90, G_90⟩ := id V_87
  have hin_90 : ¬ ((3 : Int32) < 0 ∨ cl_90.slots.size ≤ ((3 : Int32)).toNatClampNeg) := inb_of S_90 ⟨by decide, by decide⟩
  have hat_90 : cl_90.slots[((3 : Int32)).toNatClampNeg]? = some (.long x3) := H_90.at hin_90 rfl
  obtain ⟨cl_91, Ar_91, q_91, S_91, M_91, H_91, G_91⟩ := id V_87
  have hin_91 : ¬ ((3 : Int32) < 0 ∨ cl_91.slots.size ≤ ((3 : Int32)).toNatClampNeg) := inb_of S_91 ⟨by decide, by decide⟩
  obtain ⟨T_91, h_91, X_91, e_91, W_91, st_91⟩ := stJ X_87 hx hZ e_87 Ar_91 (j := (3 : Int32)) hin_91 (g := (mkF m 16 #[.val (.ref a1), .val (.ref a1), .val (.ref a1), .val (.int (3 : Int32))] [(.long (x3 - x3)), (.int (3 : Int32)), (.ref a1)])) rfl rfl (hb hby d1_16)
  have z_92 : n0 ≤ h_91.size := Nat.le_trans z_88 (Keep.of_wr W_91).1
  have V_91 : Arv Z h_91 a1 k1 .long (5 : Int32) [(.long (x0 - x0)), (.long (x1 - x1)), (.long (x2 - x2)), (.long (x3 - x3)), (.long x4)] (.long (0 : Int64)) := Arv.set Ar_91 q_91 S_91 M_91 H_91 G_91 rfl W_91 3 rfl (Nat.le_of_ble_eq_true rfl)
  have N_91 := Fr.snoc X_91 N_87 g_a1
  have K_91 : Keep h0 h_91 [a1] := K_87.wr W_91 (Or.inl (List.mem_of_getElem? (i := 0) rfl))
  obtain ⟨cl_93, Ar_93, q_93, S_93, M_93, H_93, G_93⟩ := id V_91
  have hin_93 : ¬ ((4 : Int32) < 0 ∨ cl_93.slots.size ≤ ((4 : Int32)).toNatClampNeg) := inb_of S_93 ⟨by decide, by decide⟩
  have hat_93 : cl_93.slots[((4 : Int32)).toNatClampNeg]? = some (.long x4) := H_93.at hin_93 rfl
  obtain ⟨cl_94, Ar_94, q_94, S_94, M_94, H_94, G_94⟩ := id V_91
  have hin_94 : ¬ ((4 : Int32) < 0 ∨ cl_94.slots.size ≤ ((4 : Int32)).toNatClampNeg) := inb_of S_94 ⟨by decide, by decide⟩
  have hat_94 : cl_94.slots[((4 : Int32)).toNatClampNeg]? = some (.long x4) := H_94.at hin_94 rfl
  obtain ⟨cl_95, Ar_95, q_95, S_95, M_95, H_95, G_95⟩ := id V_91
  have hin_95 : ¬ ((4 : Int32) < 0 ∨ cl_95.slots.size ≤ ((4 : Int32)).toNatClampNeg) := inb_of S_95 ⟨by decide, by decide⟩
  obtain ⟨T_95, h_95, X_95, e_95, W_95, st_95⟩ := stJ X_91 hx hZ e_91 Ar_95 (j := (4 : Int32)) hin_95 (g := (mkF m 16 #[.val (.ref a1), .val (.ref a1), .val (.ref a1), .val (.int (4 : Int32))] [(.long (x4 - x4)), (.int (4 : Int32)), (.ref a1)])) rfl rfl (hb hby d1_16)
  have z_96 : n0 ≤ h_95.size := Nat.le_trans z_92 (Keep.of_wr W_95).1
  have V_95 : Arv Z h_95 a1 k1 .long (5 : Int32) [(.long (x0 - x0)), (.long (x1 - x1)), (.long (x2 - x2)), (.long (x3 - x3)), (.long (x4 - x4))] (.long (0 : Int64)) := Arv.set Ar_95 q_95 S_95 M_95 H_95 G_95 rfl W_95 4 rfl (Nat.le_of_ble_eq_true rfl)
  have N_95 := Fr.snoc X_95 N_91 g_a1
  have K_95 : Keep h0 h_95 [a1] := K_91.wr W_95 (Or.inl (List.mem_of_getElem? (i := 0) rfl))
  obtain ⟨fs, hr, hrun, hended, hW, hsame⟩ := X_95.leave (v := none) (fun _ => rfl)
  refine ⟨_, _, pre0 _ ?_, hrun, hended, _, _, rfl, ?_, ⟨_, rfl⟩, hW, hsame.mono (by decide) (by decide)⟩
  · show Steps p.tables e below (s₁.setTop (mkF m 0 #[.val (.ref a1), .val (.ref a1), .val (.ref a1), .unset] [])) _
    refine XS.iconst X0.here hx rfl (hb hby d1_0) ?_
    show Steps p.tables e below (s₁.setTop (mkF m 1 #[.val (.ref a1), .val (.ref a1), .val (.ref a1), .unset] [(.int (0 : Int32))])) _
    refine XS.istoreN X0.here hx rfl (hb hby d1_1) rfl (l' := #[.val (.ref a1), .val (.ref a1), .val (.ref a1), .val (.int (0 : Int32))]) rfl ?_
    show Steps p.tables e below (s₁.setTop (mkF m 2 #[.val (.ref a1), .val (.ref a1), .val (.ref a1), .val (.int (0 : Int32))] [])) _
    refine XS.iloadN X0.here hx rfl (hb hby d1_2) rfl ?_
    show Steps p.tables e below (s₁.setTop (mkF m 3 #[.val (.ref a1), .val (.ref a1), .val (.ref a1), .val (.int (0 : Int32))] [(.int (0 : Int32))])) _
    refine XS.iconst X0.here hx rfl (hb hby d1_3) ?_
    show Steps p.tables e below (s₁.setTop (mkF m 4 #[.val (.ref a1), .val (.ref a1), .val (.ref a1), .val (.int (0 : Int32))] [(.int (5 : Int32)), (.int (0 : Int32))])) _
    refine XS.icmpNo X0.here hx rfl (hb hby d1_4) rfl (tlt (by decide : (0 : Int32) < (5 : Int32))).2.1 ?_
    show Steps p.tables e below (s₁.setTop (mkF m 7 #[.val (.ref a1), .val (.ref a1), .val (.ref a1), .val (.int (0 : Int32))] [])) _
    refine XS.aloadN X0.here hx rfl (hb hby d1_7) rfl rfl ?_
    show Steps p.tables e below (s₁.setTop (mkF m 8 #[.val (.ref a1), .val (.ref a1), .val (.ref a1), .val (.int (0 : Int32))] [(.ref a1)])) _
    refine XS.iloadN X0.here hx rfl (hb hby d1_8) rfl ?_
    show Steps p.tables e below (s₁.setTop (mkF m 9 #[.val (.ref a1), .val (.ref a1), .val (.ref a1), .val (.int (0 : Int32))] [(.int (0 : Int32)), (.ref a1)])) _
    refine XS.aloadN X0.here hx rfl (hb hby d1_9) rfl rfl ?_
    show Steps p.tables e below (s₁.setTop (mkF m 10 #[.val (.ref a1), .val (.ref a1), .val (.ref a1), .val (.int (0 : Int32))] [(.ref a1), (.int (0 : Int32)), (.ref a1)])) _
    refine XS.iloadN X0.here hx rfl (hb hby d1_10) rfl ?_
    show Steps p.tables e below (s₁.setTop (mkF m 11 #[.val (.ref a1), .val (.ref a1), .val (.ref a1), .val (.int (0 : Int32))] [(.int (0 : Int32)), (.ref a1), (.int (0 : Int32)), (.ref a1)])) _
    refine X0.laload hx (j := (0 : Int32)) (v := (.long x0)) (by rw [e0]; exact Ar_77.1) (State.isArrayOf_alike hZ.alike Ar_77.2.1) Ar_77.2.2 hin_77 hat_77 (g := (mkF m 11 #[.val (.ref a1), .val (.ref a1), .val (.ref a1), .val (.int (0 : Int32))] [(.int (0 : Int32)), (.ref a1), (.int (0 : Int32)), (.ref a1)])) rfl rfl (hb hby d1_11) _ ?_
    show Steps p.tables e below (s₁.setTop (mkF m 12 #[.val (.ref a1), .val (.ref a1), .val (.ref a1), .val (.int (0 : Int32))] [(.long x0), (.int (0 : Int32)), (.ref a1)])) _
    refine XS.aloadN X0.here hx rfl (hb hby d1_12) rfl rfl ?_
    show Steps p.tables e below (s₁.setTop (mkF m 13 #[.val (.ref a1), .val (.ref a1), .val (.ref a1), .val (.int (0 : Int32))] [(.ref a1), (.long x0), (.int (0 : Int32)), (.ref a1)])) _
    refine XS.iloadN X0.here hx rfl (hb hby d1_13) rfl ?_
    show Steps p.tables e below (s₁.setTop (mkF m 14 #[.val (.ref a1), .val (.ref a1), .val (.ref a1), .val (.int (0 : Int32))] [(.int (0 : Int32)), (.ref a1), (.long x0), (.int (0 : Int32)), (.ref a1)])) _
    refine X0.laload hx (j := (0 : Int32)) (v := (.long x0)) (by rw [e0]; exact Ar_78.1) (State.isArrayOf_alike hZ.alike Ar_78.2.1) Ar_78.2.2 hin_78 hat_78 (g := (mkF m 14 #[.val (.ref a1), .val (.ref a1), .val (.ref a1), .val (.int (0 : Int32))] [(.int (0 : Int32)), (.ref a1), (.long x0), (.int (0 : Int32)), (.ref a1)])) rfl rfl (hb hby d1_14) _ ?_
    show Steps p.tables e below (s₁.setTop (mkF m 15 #[.val (.ref a1), .val (.ref a1), .val (.ref a1), .val (.int (0 : Int32))] [(.long x0), (.long x0), (.int (0 : Int32)), (.ref a1)])) _
    refine XS.lsub X0.here hx rfl (hb hby d1_15) rfl ?_
    show Steps p.tables e below (s₁.setTop (mkF m 16 #[.val (.ref a1), .val (.ref a1), .val (.ref a1), .val (.int (0 : Int32))] [(.long (x0 - x0)), (.int (0 : Int32)), (.ref a1)])) _
    refine st_79 _ ?_
    show Steps p.tables e below (T_79.setTop (mkF m 17 #[.val (.ref a1), .val (.ref a1), .val (.ref a1), .val (.int (0 : Int32))] [])) _
    refine XS.iinc X_79.here hx rfl (hb hby d1_17) rfl (l' := #[.val (.ref a1), .val (.ref a1), .val (.ref a1), .val (.int (1 : Int32))]) rfl ?_
    show Steps p.tables e below (T_79.setTop (mkF m 20 #[.val (.ref a1), .val (.ref a1), .val (.ref a1), .val (.int (1 : Int32))] [])) _
    refine XS.goto X_79.here hx rfl (pc0 := 20) (pc' := 2) rfl (hb hby d1_20) (by decide) (by decide) ?_
    show Steps p.tables e below (T_79.setTop (mkF m 2 #[.val (.ref a1), .val (.ref a1), .val (.ref a1), .val (.int (1 : Int32))] [])) _
    refine XS.iloadN X_79.here hx rfl (hb hby d1_2) rfl ?_
    show Steps p.tables e below (T_79.setTop (mkF m 3 #[.val (.ref a1), .val (.ref a1), .val (.ref a1), .val (.int (1 : Int32))] [(.int (1 : Int32))])) _
    refine XS.iconst X_79.here hx rfl (hb hby d1_3) ?_
    show Steps p.tables e below (T_79.setTop (mkF m 4 #[.val (.ref a1), .val (.ref a1), .val (.ref a1), .val (.int (1 : Int32))] [(.int (5 : Int32)), (.int (1 : Int32))])) _
    refine XS.icmpNo X_79.here hx rfl (hb hby d1_4) rfl (tlt (by decide : (1 : Int32) < (5 : Int32))).2.1 ?_
    show Steps p.tables e below (T_79.setTop (mkF m 7 #[.val (.ref a1), .val (.ref a1), .val (.ref a1), .val (.int (1 : Int32))] [])) _
    refine XS.aloadN X_79.here hx rfl (hb hby d1_7) rfl rfl ?_
    show Steps p.tables e below (T_79.setTop (mkF m 8 #[.val (.ref a1), .val (.ref a1), .val (.ref a1), .val (.int (1 : Int32))] [(.ref a1)])) _
    refine XS.iloadN X_79.here hx rfl (hb hby d1_8) rfl ?_
    show Steps p.tables e below (T_79.setTop (mkF m 9 #[.val (.ref a1), .val (.ref a1), .val (.ref a1), .val (.int (1 : Int32))] [(.int (1 : Int32)), (.ref a1)])) _
    refine XS.aloadN X_79.here hx rfl (hb hby d1_9) rfl rfl ?_
    show Steps p.tables e below (T_79.setTop (mkF m 10 #[.val (.ref a1), .val (.ref a1), .val (.ref a1), .val (.int (1 : Int32))] [(.ref a1), (.int (1 : Int32)), (.ref a1)])) _
    refine XS.iloadN X_79.here hx rfl (hb hby d1_10) rfl ?_
    show Steps p.tables e below (T_79.setTop (mkF m 11 #[.val (.ref a1), .val (.ref a1), .val (.ref a1), .val (.int (1 : Int32))] [(.int (1 : Int32)), (.ref a1), (.int (1 : Int32)), (.ref a1)])) _
    refine X_79.laload hx (j := (1 : Int32)) (v := (.long x1)) (by rw [e_79]; exact Ar_81.1) (State.isArrayOf_alike hZ.alike Ar_81.2.1) Ar_81.2.2 hin_81 hat_81 (g := (mkF m 11 #[.val (.ref a1), .val (.ref a1), .val (.ref a1), .val (.int (1 : Int32))] [(.int (1 : Int32)), (.ref a1), (.int (1 : Int32)), (.ref a1)])) rfl rfl (hb hby d1_11) _ ?_
    show Steps p.tables e below (T_79.setTop (mkF m 12 #[.val (.ref a1), .val (.ref a1), .val (.ref a1), .val (.int (1 : Int32))] [(.long x1), (.int (1 : Int32)), (.ref a1)])) _
    refine XS.aloadN X_79.here hx rfl (hb hby d1_12) rfl rfl ?_
    show Steps p.tables e below (T_79.setTop (mkF m 13 #[.val (.ref a1), .val (.ref a1), .val (.ref a1), .val (.int (1 : Int32))] [(.ref a1), (.long x1), (.int (1 : Int32)), (.ref a1)])) _
    refine XS.iloadN X_79.here hx rfl (hb hby d1_13) rfl ?_
    show Steps p.tables e below (T_79.setTop (mkF m 14 #[.val (.ref a1), .val (.ref a1), .val (.ref a1), .val (.int (1 : Int32))] [(.int (1 : Int32)), (.ref a1), (.long x1), (.int (1 : Int32)), (.ref a1)])) _
    refine X_79.laload hx (j := (1 : Int32)) (v := (.long x1)) (by rw [e_79]; exact Ar_82.1) (State.isArrayOf_alike hZ.alike Ar_82.2.1) Ar_82.2.2 hin_82 hat_82 (g := (mkF m 14 #[.val (.ref a1), .val (.ref a1), .val (.ref a1), .val (.int (1 : Int32))] [(.int (1 : Int32)), (.ref a1), (.long x1), (.int (1 : Int32)), (.ref a1)])) rfl rfl (hb hby d1_14) _ ?_
    show Steps p.tables e below (T_79.setTop (mkF m 15 #[.val (.ref a1), .val (.ref a1), .val (.ref a1), .val (.int (1 : Int32))] [(.long x1), (.long x1), (.int (1 : Int32)), (.ref a1)])) _
    refine XS.lsub X_79.here hx rfl (hb hby d1_15) rfl ?_
    show Steps p.tables e below (T_79.setTop (mkF m 16 #[.val (.ref a1), .val (.ref a1), .val (.ref a1), .val (.int (1 : Int32))] [(.long (x1 - x1)), (.int (1 : Int32)), (.ref a1)])) _
    refine st_83 _ ?_
    show Steps p.tables e below (T_83.setTop (mkF m 17 #[.val (.ref a1), .val (.ref a1), .val (.ref a1), .val (.int (1 : Int32))] [])) _
    refine XS.iinc X_83.here hx rfl (hb hby d1_17) rfl (l' := #[.val (.ref a1), .val (.ref a1), .val (.ref a1), .val (.int (2 : Int32))]) rfl ?_
    show Steps p.tables e below (T_83.setTop (mkF m 20 #[.val (.ref a1), .val (.ref a1), .val (.ref a1), .val (.int (2 : Int32))] [])) _
    refine XS.goto X_83.here hx rfl (pc0 := 20) (pc' := 2) rfl (hb hby d1_20) (by decide) (by decide) ?_
    show Steps p.tables e below (T_83.setTop (mkF m 2 #[.val (.ref a1), .val (.ref a1), .val (.ref a1), .val (.int (2 : Int32))] [])) _
    refine XS.iloadN X_83.here hx rfl (hb hby d1_2) rfl ?_
    show Steps p.tables e below (T_83.setTop (mkF m 3 #[.val (.ref a1), .val (.ref a1), .val (.ref a1), .val (.int (2 : Int32))] [(.int (2 : Int32))])) _
    refine XS.iconst X_83.here hx rfl (hb hby d1_3) ?_
    show Steps p.tables e below (T_83.setTop (mkF m 4 #[.val (.ref a1), .val (.ref a1), .val (.ref a1), .val (.int (2 : Int32))] [(.int (5 : Int32)), (.int (2 : Int32))])) _
    refine XS.icmpNo X_83.here hx rfl (hb hby d1_4) rfl (tlt (by decide : (2 : Int32) < (5 : Int32))).2.1 ?_
    show Steps p.tables e below (T_83.setTop (mkF m 7 #[.val (.ref a1), .val (.ref a1), .val (.ref a1), .val (.int (2 : Int32))] [])) _
    refine XS.aloadN X_83.here hx rfl (hb hby d1_7) rfl rfl ?_
    show Steps p.tables e below (T_83.setTop (mkF m 8 #[.val (.ref a1), .val (.ref a1), .val (.ref a1), .val (.int (2 : Int32))] [(.ref a1)])) _
    refine XS.iloadN X_83.here hx rfl (hb hby d1_8) rfl ?_
    show Steps p.tables e below (T_83.setTop (mkF m 9 #[.val (.ref a1), .val (.ref a1), .val (.ref a1), .val (.int (2 : Int32))] [(.int (2 : Int32)), (.ref a1)])) _
    refine XS.aloadN X_83.here hx rfl (hb hby d1_9) rfl rfl ?_
    show Steps p.tables e below (T_83.setTop (mkF m 10 #[.val (.ref a1), .val (.ref a1), .val (.ref a1), .val (.int (2 : Int32))] [(.ref a1), (.int (2 : Int32)), (.ref a1)])) _
    refine XS.iloadN X_83.here hx rfl (hb hby d1_10) rfl ?_
    show Steps p.tables e below (T_83.setTop (mkF m 11 #[.val (.ref a1), .val (.ref a1), .val (.ref a1), .val (.int (2 : Int32))] [(.int (2 : Int32)), (.ref a1), (.int (2 : Int32)), (.ref a1)])) _
    refine X_83.laload hx (j := (2 : Int32)) (v := (.long x2)) (by rw [e_83]; exact Ar_85.1) (State.isArrayOf_alike hZ.alike Ar_85.2.1) Ar_85.2.2 hin_85 hat_85 (g := (mkF m 11 #[.val (.ref a1), .val (.ref a1), .val (.ref a1), .val (.int (2 : Int32))] [(.int (2 : Int32)), (.ref a1), (.int (2 : Int32)), (.ref a1)])) rfl rfl (hb hby d1_11) _ ?_
    show Steps p.tables e below (T_83.setTop (mkF m 12 #[.val (.ref a1), .val (.ref a1), .val (.ref a1), .val (.int (2 : Int32))] [(.long x2), (.int (2 : Int32)), (.ref a1)])) _
    refine XS.aloadN X_83.here hx rfl (hb hby d1_12) rfl rfl ?_
    show Steps p.tables e below (T_83.setTop (mkF m 13 #[.val (.ref a1), .val (.ref a1), .val (.ref a1), .val (.int (2 : Int32))] [(.ref a1), (.long x2), (.int (2 : Int32)), (.ref a1)])) _
    refine XS.iloadN X_83.here hx rfl (hb hby d1_13) rfl ?_
    show Steps p.tables e below (T_83.setTop (mkF m 14 #[.val (.ref a1), .val (.ref a1), .val (.ref a1), .val (.int (2 : Int32))] [(.int (2 : Int32)), (.ref a1), (.long x2), (.int (2 : Int32)), (.ref a1)])) _
    refine X_83.laload hx (j := (2 : Int32)) (v := (.long x2)) (by rw [e_83]; exact Ar_86.1) (State.isArrayOf_alike hZ.alike Ar_86.2.1) Ar_86.2.2 hin_86 hat_86 (g := (mkF m 14 #[.val (.ref a1), .val (.ref a1), .val (.ref a1), .val (.int (2 : Int32))] [(.int (2 : Int32)), (.ref a1), (.long x2), (.int (2 : Int32)), (.ref a1)])) rfl rfl (hb hby d1_14) _ ?_
    show Steps p.tables e below (T_83.setTop (mkF m 15 #[.val (.ref a1), .val (.ref a1), .val (.ref a1), .val (.int (2 : Int32))] [(.long x2), (.long x2), (.int (2 : Int32)), (.ref a1)])) _
    refine XS.lsub X_83.here hx rfl (hb hby d1_15) rfl ?_
    show Steps p.tables e below (T_83.setTop (mkF m 16 #[.val (.ref a1), .val (.ref a1), .val (.ref a1), .val (.int (2 : Int32))] [(.long (x2 - x2)), (.int (2 : Int32)), (.ref a1)])) _
    refine st_87 _ ?_
    show Steps p.tables e below (T_87.setTop (mkF m 17 #[.val (.ref a1), .val (.ref a1), .val (.ref a1), .val (.int (2 : Int32))] [])) _
    refine XS.iinc X_87.here hx rfl (hb hby d1_17) rfl (l' := #[.val (.ref a1), .val (.ref a1), .val (.ref a1), .val (.int (3 : Int32))]) rfl ?_
    show Steps p.tables e below (T_87.setTop (mkF m 20 #[.val (.ref a1), .val (.ref a1), .val (.ref a1), .val (.int (3 : Int32))] [])) _
    refine XS.goto X_87.here hx rfl (pc0 := 20) (pc' := 2) rfl (hb hby d1_20) (by decide) (by decide) ?_
    show Steps p.tables e below (T_87.setTop (mkF m 2 #[.val (.ref a1), .val (.ref a1), .val (.ref a1), .val (.int (3 : Int32))] [])) _
    refine XS.iloadN X_87.here hx rfl (hb hby d1_2) rfl ?_
    show Steps p.tables e below (T_87.setTop (mkF m 3 #[.val (.ref a1), .val (.ref a1), .val (.ref a1), .val (.int (3 : Int32))] [(.int (3 : Int32))])) _
    refine XS.iconst X_87.here hx rfl (hb hby d1_3) ?_
    show Steps p.tables e below (T_87.setTop (mkF m 4 #[.val (.ref a1), .val (.ref a1), .val (.ref a1), .val (.int (3 : Int32))] [(.int (5 : Int32)), (.int (3 : Int32))])) _
    refine XS.icmpNo X_87.here hx rfl (hb hby d1_4) rfl (tlt (by decide : (3 : Int32) < (5 : Int32))).2.1 ?_
    show Steps p.tables e below (T_87.setTop (mkF m 7 #[.val (.ref a1), .val (.ref a1), .val (.ref a1), .val (.int (3 : Int32))] [])) _
    refine XS.aloadN X_87.here hx rfl (hb hby d1_7) rfl rfl ?_
    show Steps p.tables e below (T_87.setTop (mkF m 8 #[.val (.ref a1), .val (.ref a1), .val (.ref a1), .val (.int (3 : Int32))] [(.ref a1)])) _
    refine XS.iloadN X_87.here hx rfl (hb hby d1_8) rfl ?_
    show Steps p.tables e below (T_87.setTop (mkF m 9 #[.val (.ref a1), .val (.ref a1), .val (.ref a1), .val (.int (3 : Int32))] [(.int (3 : Int32)), (.ref a1)])) _
    refine XS.aloadN X_87.here hx rfl (hb hby d1_9) rfl rfl ?_
    show Steps p.tables e below (T_87.setTop (mkF m 10 #[.val (.ref a1), .val (.ref a1), .val (.ref a1), .val (.int (3 : Int32))] [(.ref a1), (.int (3 : Int32)), (.ref a1)])) _
    refine XS.iloadN X_87.here hx rfl (hb hby d1_10) rfl ?_
    show Steps p.tables e below (T_87.setTop (mkF m 11 #[.val (.ref a1), .val (.ref a1), .val (.ref a1), .val (.int (3 : Int32))] [(.int (3 : Int32)), (.ref a1), (.int (3 : Int32)), (.ref a1)])) _
    refine X_87.laload hx (j := (3 : Int32)) (v := (.long x3)) (by rw [e_87]; exact Ar_89.1) (State.isArrayOf_alike hZ.alike Ar_89.2.1) Ar_89.2.2 hin_89 hat_89 (g := (mkF m 11 #[.val (.ref a1), .val (.ref a1), .val (.ref a1), .val (.int (3 : Int32))] [(.int (3 : Int32)), (.ref a1), (.int (3 : Int32)), (.ref a1)])) rfl rfl (hb hby d1_11) _ ?_
    show Steps p.tables e below (T_87.setTop (mkF m 12 #[.val (.ref a1), .val (.ref a1), .val (.ref a1), .val (.int (3 : Int32))] [(.long x3), (.int (3 : Int32)), (.ref a1)])) _
    refine XS.aloadN X_87.here hx rfl (hb hby d1_12) rfl rfl ?_
    show Steps p.tables e below (T_87.setTop (mkF m 13 #[.val (.ref a1), .val (.ref a1), .val (.ref a1), .val (.int (3 : Int32))] [(.ref a1), (.long x3), (.int (3 : Int32)), (.ref a1)])) _
    refine XS.iloadN X_87.here hx rfl (hb hby d1_13) rfl ?_
    show Steps p.tables e below (T_87.setTop (mkF m 14 #[.val (.ref a1), .val (.ref a1), .val (.ref a1), .val (.int (3 : Int32))] [(.int (3 : Int32)), (.ref a1), (.long x3), (.int (3 : Int32)), (.ref a1)])) _
    refine X_87.laload hx (j := (3 : Int32)) (v := (.long x3)) (by rw [e_87]; exact Ar_90.1) (State.isArrayOf_alike hZ.alike Ar_90.2.1) Ar_90.2.2 hin_90 hat_90 (g := (mkF m 14 #[.val (.ref a1), .val (.ref a1), .val (.ref a1), .val (.int (3 : Int32))] [(.int (3 : Int32)), (.ref a1), (.long x3), (.int (3 : Int32)), (.ref a1)])) rfl rfl (hb hby d1_14) _ ?_
    show Steps p.tables e below (T_87.setTop (mkF m 15 #[.val (.ref a1), .val (.ref a1), .val (.ref a1), .val (.int (3 : Int32))] [(.long x3), (.long x3), (.int (3 : Int32)), (.ref a1)])) _
    refine XS.lsub X_87.here hx rfl (hb hby d1_15) rfl ?_
    show Steps p.tables e below (T_87.setTop (mkF m 16 #[.val (.ref a1), .val (.ref a1), .val (.ref a1), .val (.int (3 : Int32))] [(.long (x3 - x3)), (.int (3 : Int32)), (.ref a1)])) _
    refine st_91 _ ?_
    show Steps p.tables e below (T_91.setTop (mkF m 17 #[.val (.ref a1), .val (.ref a1), .val (.ref a1), .val (.int (3 : Int32))] [])) _
    refine XS.iinc X_91.here hx rfl (hb hby d1_17) rfl (l' := #[.val (.ref a1), .val (.ref a1), .val (.ref a1), .val (.int (4 : Int32))]) rfl ?_
    show Steps p.tables e below (T_91.setTop (mkF m 20 #[.val (.ref a1), .val (.ref a1), .val (.ref a1), .val (.int (4 : Int32))] [])) _
    refine XS.goto X_91.here hx rfl (pc0 := 20) (pc' := 2) rfl (hb hby d1_20) (by decide) (by decide) ?_
    show Steps p.tables e below (T_91.setTop (mkF m 2 #[.val (.ref a1), .val (.ref a1), .val (.ref a1), .val (.int (4 : Int32))] [])) _
    refine XS.iloadN X_91.here hx rfl (hb hby d1_2) rfl ?_
    show Steps p.tables e below (T_91.setTop (mkF m 3 #[.val (.ref a1), .val (.ref a1), .val (.ref a1), .val (.int (4 : Int32))] [(.int (4 : Int32))])) _
    refine XS.iconst X_91.here hx rfl (hb hby d1_3) ?_
    show Steps p.tables e below (T_91.setTop (mkF m 4 #[.val (.ref a1), .val (.ref a1), .val (.ref a1), .val (.int (4 : Int32))] [(.int (5 : Int32)), (.int (4 : Int32))])) _
    refine XS.icmpNo X_91.here hx rfl (hb hby d1_4) rfl (tlt (by decide : (4 : Int32) < (5 : Int32))).2.1 ?_
    show Steps p.tables e below (T_91.setTop (mkF m 7 #[.val (.ref a1), .val (.ref a1), .val (.ref a1), .val (.int (4 : Int32))] [])) _
    refine XS.aloadN X_91.here hx rfl (hb hby d1_7) rfl rfl ?_
    show Steps p.tables e below (T_91.setTop (mkF m 8 #[.val (.ref a1), .val (.ref a1), .val (.ref a1), .val (.int (4 : Int32))] [(.ref a1)])) _
    refine XS.iloadN X_91.here hx rfl (hb hby d1_8) rfl ?_
    show Steps p.tables e below (T_91.setTop (mkF m 9 #[.val (.ref a1), .val (.ref a1), .val (.ref a1), .val (.int (4 : Int32))] [(.int (4 : Int32)), (.ref a1)])) _
    refine XS.aloadN X_91.here hx rfl (hb hby d1_9) rfl rfl ?_
    show Steps p.tables e below (T_91.setTop (mkF m 10 #[.val (.ref a1), .val (.ref a1), .val (.ref a1), .val (.int (4 : Int32))] [(.ref a1), (.int (4 : Int32)), (.ref a1)])) _
    refine XS.iloadN X_91.here hx rfl (hb hby d1_10) rfl ?_
    show Steps p.tables e below (T_91.setTop (mkF m 11 #[.val (.ref a1), .val (.ref a1), .val (.ref a1), .val (.int (4 : Int32))] [(.int (4 : Int32)), (.ref a1), (.int (4 : Int32)), (.ref a1)])) _
    refine X_91.laload hx (j := (4 : Int32)) (v := (.long x4)) (by rw [e_91]; exact Ar_93.1) (State.isArrayOf_alike hZ.alike Ar_93.2.1) Ar_93.2.2 hin_93 hat_93 (g := (mkF m 11 #[.val (.ref a1), .val (.ref a1), .val (.ref a1), .val (.int (4 : Int32))] [(.int (4 : Int32)), (.ref a1), (.int (4 : Int32)), (.ref a1)])) rfl rfl (hb hby d1_11) _ ?_
    show Steps p.tables e below (T_91.setTop (mkF m 12 #[.val (.ref a1), .val (.ref a1), .val (.ref a1), .val (.int (4 : Int32))] [(.long x4), (.int (4 : Int32)), (.ref a1)])) _
    refine XS.aloadN X_91.here hx rfl (hb hby d1_12) rfl rfl ?_
    show Steps p.tables e below (T_91.setTop (mkF m 13 #[.val (.ref a1), .val (.ref a1), .val (.ref a1), .val (.int (4 : Int32))] [(.ref a1), (.long x4), (.int (4 : Int32)), (.ref a1)])) _
    refine XS.iloadN X_91.here hx rfl (hb hby d1_13) rfl ?_
    show Steps p.tables e below (T_91.setTop (mkF m 14 #[.val (.ref a1), .val (.ref a1), .val (.ref a1), .val (.int (4 : Int32))] [(.int (4 : Int32)), (.ref a1), (.long x4), (.int (4 : Int32)), (.ref a1)])) _
    refine X_91.laload hx (j := (4 : Int32)) (v := (.long x4)) (by rw [e_91]; exact Ar_94.1) (State.isArrayOf_alike hZ.alike Ar_94.2.1) Ar_94.2.2 hin_94 hat_94 (g := (mkF m 14 #[.val (.ref a1), .val (.ref a1), .val (.ref a1), .val (.int (4 : Int32))] [(.int (4 : Int32)), (.ref a1), (.long x4), (.int (4 : Int32)), (.ref a1)])) rfl rfl (hb hby d1_14) _ ?_
    show Steps p.tables e below (T_91.setTop (mkF m 15 #[.val (.ref a1), .val (.ref a1), .val (.ref a1), .val (.int (4 : Int32))] [(.long x4), (.long x4), (.int (4 : Int32)), (.ref a1)])) _
    refine XS.lsub X_91.here hx rfl (hb hby d1_15) rfl ?_
    show Steps p.tables e below (T_91.setTop (mkF m 16 #[.val (.ref a1), .val (.ref a1), .val (.ref a1), .val (.int (4 : Int32))] [(.long (x4 - x4)), (.int (4 : Int32)), (.ref a1)])) _
    refine st_95 _ ?_
    show Steps p.tables e below (T_95.setTop (mkF m 17 #[.val (.ref a1), .val (.ref a1), .val (.ref a1), .val (.int (4 : Int32))] [])) _
    refine XS.iinc X_95.here hx rfl (hb hby d1_17) rfl (l' := #[.val (.ref a1), .val (.ref a1), .val (.ref a1), .val (.int (5 : Int32))]) rfl ?_
    show Steps p.tables e below (T_95.setTop (mkF m 20 #[.val (.ref a1), .val (.ref a1), .val (.ref a1), .val (.int (5 : Int32))] [])) _
    refine XS.goto X_95.here hx rfl (pc0 := 20) (pc' := 2) rfl (hb hby d1_20) (by decide) (by decide) ?_
    show Steps p.tables e below (T_95.setTop (mkF m 2 #[.val (.ref a1), .val (.ref a1), .val (.ref a1), .val (.int (5 : Int32))] [])) _
    refine XS.iloadN X_95.here hx rfl (hb hby d1_2) rfl ?_
    show Steps p.tables e below (T_95.setTop (mkF m 3 #[.val (.ref a1), .val (.ref a1), .val (.ref a1), .val (.int (5 : Int32))] [(.int (5 : Int32))])) _
    refine XS.iconst X_95.here hx rfl (hb hby d1_3) ?_
    show Steps p.tables e below (T_95.setTop (mkF m 4 #[.val (.ref a1), .val (.ref a1), .val (.ref a1), .val (.int (5 : Int32))] [(.int (5 : Int32)), (.int (5 : Int32))])) _
    refine XS.icmpYes X_95.here hx rfl (pc0 := 4) (pc' := 23) rfl (hb hby d1_4) rfl (flt (by decide : ¬ ((5 : Int32) < (5 : Int32)))).2.1 (by decide) (by decide) ?_
    show Steps p.tables e below (T_95.setTop (mkF m 23 #[.val (.ref a1), .val (.ref a1), .val (.ref a1), .val (.int (5 : Int32))] [])) _
    exact X_95.returnOut hx Bd.returns (hb hby d1_23) hr
  · show Q1d Z a1 k1 x0 x1 x2 x3 x4 h0 n0 _ T_95.heap _
    rw [e_95]
    exact ⟨rfl, N_95, K_95, V_95⟩
theorem d2_0 : decode method_2_code 0 = .ok (.aload_n 0, 1) := by decide +kernel
theorem d2_1 : decode method_2_code 1 = .ok (.iconst 0, 1) := by decide +kernel
theorem d2_2 : decode method_2_code 2 = .ok (.laload, 1) := by decide +kernel
theorem d2_3 : decode method_2_code 3 = .ok (.aload_n 1, 1) := by decide +kernel
theorem d2_4 : decode method_2_code 4 = .ok (.iconst 0, 1) := by decide +kernel
theorem d2_5 : decode method_2_code 5 = .ok (.laload, 1) := by decide +kernel
theorem d2_6 : decode method_2_code 6 = .ok (.lcmp, 1) := by decide +kernel
theorem d2_7 : decode method_2_code 7 = .ok (.ifCond .ne 47, 3) := by decide +kernel
theorem d2_10 : decode method_2_code 10 = .ok (.aload_n 0, 1) := by decide +kernel
theorem d2_11 : decode method_2_code 11 = .ok (.iconst 1, 1) := by decide +kernel
theorem d2_12 : decode method_2_code 12 = .ok (.laload, 1) := by decide +kernel
theorem d2_13 : decode method_2_code 13 = .ok (.aload_n 1, 1) := by decide +kernel
theorem d2_14 : decode method_2_code 14 = .ok (.iconst 1, 1) := by decide +kernel
theorem d2_15 : decode method_2_code 15 = .ok (.laload, 1) := by decide +kernel
theorem d2_16 : decode method_2_code 16 = .ok (.lcmp, 1) := by decide +kernel
theorem d2_17 : decode method_2_code 17 = .ok (.ifCond .ne 37, 3) := by decide +kernel
theorem d2_20 : decode method_2_code 20 = .ok (.aload_n 0, 1) := by decide +kernel
theorem d2_21 : decode method_2_code 21 = .ok (.iconst 2, 1) := by decide +kernel
theorem d2_22 : decode method_2_code 22 = .ok (.laload, 1) := by decide +kernel
theorem d2_23 : decode method_2_code 23 = .ok (.aload_n 1, 1) := by decide +kernel
theorem d2_24 : decode method_2_code 24 = .ok (.iconst 2, 1) := by decide +kernel
theorem d2_25 : decode method_2_code 25 = .ok (.laload, 1) := by decide +kernel
theorem d2_26 : decode method_2_code 26 = .ok (.lcmp, 1) := by decide +kernel
theorem d2_27 : decode method_2_code 27 = .ok (.ifCond .ne 27, 3) := by decide +kernel
theorem d2_30 : decode method_2_code 30 = .ok (.aload_n 0, 1) := by decide +kernel
theorem d2_31 : decode method_2_code 31 = .ok (.iconst 3, 1) := by decide +kernel
theorem d2_32 : decode method_2_code 32 = .ok (.laload, 1) := by decide +kernel
theorem d2_33 : decode method_2_code 33 = .ok (.aload_n 1, 1) := by decide +kernel
theorem d2_34 : decode method_2_code 34 = .ok (.iconst 3, 1) := by decide +kernel
theorem d2_35 : decode method_2_code 35 = .ok (.laload, 1) := by decide +kernel
theorem d2_36 : decode method_2_code 36 = .ok (.lcmp, 1) := by decide +kernel
theorem d2_37 : decode method_2_code 37 = .ok (.ifCond .ne 17, 3) := by decide +kernel
theorem d2_40 : decode method_2_code 40 = .ok (.aload_n 0, 1) := by decide +kernel
theorem d2_41 : decode method_2_code 41 = .ok (.iconst 4, 1) := by decide +kernel
theorem d2_42 : decode method_2_code 42 = .ok (.laload, 1) := by decide +kernel
theorem d2_43 : decode method_2_code 43 = .ok (.aload_n 1, 1) := by decide +kernel
theorem d2_44 : decode method_2_code 44 = .ok (.iconst 4, 1) := by decide +kernel
theorem d2_45 : decode method_2_code 45 = .ok (.laload, 1) := by decide +kernel
theorem d2_46 : decode method_2_code 46 = .ok (.lcmp, 1) := by decide +kernel
theorem d2_47 : decode method_2_code 47 = .ok (.ifCond .ne 7, 3) := by decide +kernel
theorem d2_50 : decode method_2_code 50 = .ok (.iconst 1, 1) := by decide +kernel
theorem d2_51 : decode method_2_code 51 = .ok (.goto 4, 3) := by decide +kernel
theorem d2_54 : decode method_2_code 54 = .ok (.iconst 0, 1) := by decide +kernel
theorem d2_55 : decode method_2_code 55 = .ok (.ireturn, 1) := by decide +kernel
theorem pn_2 : plainName "com/example/latchet/latchet/Field25519SubPinLaw" = true := by first | (simp [plainName, overriddenIn]; done) | decide +kernel
theorem ef_2 (m : MethodId) (x0 : Addr) (x1 : Addr) : entryFrame m #[(.ref x0), (.ref x1)] 2 = mkF m 0 #[.val (.ref x0), .val (.ref x1)] [] := by first | (simp [entryFrame, mkF, argsToLocals, Value.category]; done) | rfl
def Q2 (Z : State) (a1 : Addr) (a2 : Addr) (k1 : ClassId) (k2 : ClassId) (x0 : Int64) (x1 : Int64) (x2 : Int64) (x3 : Int64) (x4 : Int64) (h0 : Heap) (n0 : Nat) (v : Option Value) (h : Heap) (L : List Loc) : Prop := v = some (.int (1 : Int32)) ∧ Fr n0 L ∧ h = h0
set_option maxRecDepth 65536 in
set_option maxHeartbeats 40000000 in
theorem rm2 (l : Launch) (Z : State) (a0 : Array Value) (hw : ∀ d ∈ tables_1, d.before a0 Z = true) (ws : List Jvm.Cond) (a1 : Addr) (a2 : Addr) (k1 : ClassId) (k2 : ClassId) (x0 : Int64) (x1 : Int64) (x2 : Int64) (x3 : Int64) (x4 : Int64) (h0 : Heap) (n0 : Nat) (Z0 : n0 ≤ h0.size) (V_a1 : Arv Z h0 a1 k1 .long (5 : Int32) [(.long x0), (.long x1), (.long x2), (.long x3), (.long x4)] (.long (0 : Int64))) (V_a2 : Arv Z h0 a2 k2 .long (5 : Int32) [(.long x0), (.long x1), (.long x2), (.long x3), (.long x4)] (.long (0 : Int64))) :
    MetFree l (⟨"com/example/latchet/latchet/Field25519SubPinLaw", "same", "([J[J)Z"⟩ : MethodName) (head1 (Jvm.Cond.code (⟨"com/example/latchet/latchet/Field25519SubPinLaw", "same", "([J[J)Z"⟩ : MethodName) method_2_code 2 (some .boolean) :: ws) ({ frames := 0, cells := 0, slots := 0, locals := 0 } : Room)) (fun a U => a = #[(.ref a1), (.ref a2)] ∧ Z.Warmed39 U.vm ∧ U.heap = h0) (fun _ _ _ _ _ => True) (fun _ U o U' => ∃ v L, o = .returned v ∧ Q2 Z a1 a2 k1 k2 x0 x1 x2 x3 x4 h0 n0 v U'.heap L ∧ FrameEnd U o U' L ({ frames := 0, cells := 0, slots := 0, locals := 0 } : Room).cells ({ frames := 0, cells := 0, slots := 0, locals := 0 } : Room).slots) := by
  refine MetFree.of_bodySF (plainFor_of_name pn_2) hisR ?_
  intro p e s m args below meth c s₁ Bd hml0 hP hK
  obtain ⟨rfl, hZ, hh⟩ := hP
  have hx := Bd.exec
  have hby := Bd.bytes
  have hml : c.maxLocals = 2 := hml0
  have hown : s.vm.findClass "com/example/latchet/latchet/Field25519SubPinLaw" = some m.cls := findClass_of_methodNamed Bd.named
  have hnm := (name_of_methodNamed Bd.named Bd.method).1
  have X0 : Stand p l e ({ frames := 0, cells := 0, slots := 0, locals := 0 } : Room) s m #[(.ref a1), (.ref a2)] below meth c s₁ [] 0 0 := Stand.of_body Bd
  have e0 : s₁.heap = h0 := by rw [← hh, Bd.state]; rfl
  have N0 := Fr.nil n0
  have pre0 : ∀ t, Steps p.tables e below (s₁.setTop (mkF m 0 #[.val (.ref a1), .val (.ref a2)] [])) t → Steps p.tables e below (s₁.setTop (entryFrame m #[(.ref a1), (.ref a2)] 2)) t := fun t k => castTop (ef_2 m a1 a2) k
  obtain ⟨cl_97, Ar_97, q_97, S_97, M_97, H_97, G_97⟩ := id V_a1
  have hin_97 : ¬ ((0 : Int32) < 0 ∨ cl_97.slots.size ≤ ((0 : Int32)).toNatClampNeg) := inb_of S_97 ⟨by decide, by decide⟩
  have hat_97 : cl_97.slots[((0 : Int32)).toNatClampNeg]? = some (.long x0) := H_97.at hin_97 rfl
  obtain ⟨cl_98, Ar_98, q_98, S_98, M_98, H_98, G_98⟩ := id V_a2
  have hin_98 : ¬ ((0 : Int32) < 0 ∨ cl_98.slots.size ≤ ((0 : Int32)).toNatClampNeg) := inb_of S_98 ⟨by decide, by decide⟩
  have hat_98 : cl_98.slots[((0 : Int32)).toNatClampNeg]? = some (.long x0) := H_98.at hin_98 rfl
  obtain ⟨cl_99, Ar_99, q_99, S_99, M_99, H_99, G_99⟩ := id V_a1
  have hin_99 : ¬ ((1 : Int32) < 0 ∨ cl_99.slots.size ≤ ((1 : Int32)).toNatClampNeg) := inb_of S_99 ⟨by decide, by decide⟩
  have hat_99 : cl_99.slots[((1 : Int32)).toNatClampNeg]? = some (.long x1) := H_99.at hin_99 rfl
  obtain ⟨cl_100, Ar_100, q_100, S_100, M_100, H_100, G_100⟩ := id V_a2
  have hin_100 : ¬ ((1 : Int32) < 0 ∨ cl_100.slots.size ≤ ((1 : Int32)).toNatClampNeg) := inb_of S_100 ⟨by decide, by decide⟩
  have hat_100 : cl_100.slots[((1 : Int32)).toNatClampNeg]? = some (.long x1) := H_100.at hin_100 rfl
  obtain ⟨cl_101, Ar_101, q_101, S_101, M_101, H_101, G_101⟩ := id V_a1
  have hin_101 : ¬ ((2 : Int32) < 0 ∨ cl_101.slots.size ≤ ((2 : Int32)).toNatClampNeg) := inb_of S_101 ⟨by decide, by decide⟩
  have hat_101 : cl_101.slots[((2 : Int32)).toNatClampNeg]? = some (.long x2) := H_101.at hin_101 rfl
  obtain ⟨cl_102, Ar_102, q_102, S_102, M_102, H_102, G_102⟩ := id V_a2
  have hin_102 : ¬ ((2 : Int32) < 0 ∨ cl_102.slots.size ≤ ((2 : Int32)).toNatClampNeg) := inb_of S_102 ⟨by decide, by decide⟩
  have hat_102 : cl_102.slots[((2 : Int32)).toNatClampNeg]? = some (.long x2) := H_102.at hin_102 rfl
  obtain ⟨cl_103, Ar_103, q_103, S_103, M_103, H_103, G_103⟩ := id V_a1
  have hin_103 : ¬ ((3 : Int32) < 0 ∨ cl_103.slots.size ≤ ((3 : Int32)).toNatClampNeg) := inb_of S_103 ⟨by decide, by decide⟩
  have hat_103 : cl_103.slots[((3 : Int32)).toNatClampNeg]? = some (.long x3) := H_103.at hin_103 rfl
  obtain ⟨cl_104, Ar_104, q_104, S_104, M_104, H_104, G_104⟩ := id V_a2
  have hin_104 : ¬ ((3 : Int32) < 0 ∨ cl_104.slots.size ≤ ((3 : Int32)).toNatClampNeg) := inb_of S_104 ⟨by decide, by decide⟩
  have hat_104 : cl_104.slots[((3 : Int32)).toNatClampNeg]? = some (.long x3) := H_104.at hin_104 rfl
  obtain ⟨cl_105, Ar_105, q_105, S_105, M_105, H_105, G_105⟩ := id V_a1
  have hin_105 : ¬ ((4 : Int32) < 0 ∨ cl_105.slots.size ≤ ((4 : Int32)).toNatClampNeg) := inb_of S_105 ⟨by decide, by decide⟩
  have hat_105 : cl_105.slots[((4 : Int32)).toNatClampNeg]? = some (.long x4) := H_105.at hin_105 rfl
  obtain ⟨cl_106, Ar_106, q_106, S_106, M_106, H_106, G_106⟩ := id V_a2
  have hin_106 : ¬ ((4 : Int32) < 0 ∨ cl_106.slots.size ≤ ((4 : Int32)).toNatClampNeg) := inb_of S_106 ⟨by decide, by decide⟩
  have hat_106 : cl_106.slots[((4 : Int32)).toNatClampNeg]? = some (.long x4) := H_106.at hin_106 rfl
  obtain ⟨fs, hr, hrun, hended, hW, hsame⟩ := X0.leave (v := some (.int (1 : Int32))) (fun h => by rw [Bd.returns] at h; cases h)
  refine ⟨_, _, pre0 _ ?_, hrun, hended, _, _, rfl, ?_, ⟨_, rfl⟩, hW, hsame.mono (by decide) (by decide)⟩
  · show Steps p.tables e below (s₁.setTop (mkF m 0 #[.val (.ref a1), .val (.ref a2)] [])) _
    refine XS.aloadN X0.here hx rfl (hb hby d2_0) rfl rfl ?_
    show Steps p.tables e below (s₁.setTop (mkF m 1 #[.val (.ref a1), .val (.ref a2)] [(.ref a1)])) _
    refine XS.iconst X0.here hx rfl (hb hby d2_1) ?_
    show Steps p.tables e below (s₁.setTop (mkF m 2 #[.val (.ref a1), .val (.ref a2)] [(.int (0 : Int32)), (.ref a1)])) _
    refine X0.laload hx (j := (0 : Int32)) (v := (.long x0)) (by rw [e0]; exact Ar_97.1) (State.isArrayOf_alike hZ.alike Ar_97.2.1) Ar_97.2.2 hin_97 hat_97 (g := (mkF m 2 #[.val (.ref a1), .val (.ref a2)] [(.int (0 : Int32)), (.ref a1)])) rfl rfl (hb hby d2_2) _ ?_
    show Steps p.tables e below (s₁.setTop (mkF m 3 #[.val (.ref a1), .val (.ref a2)] [(.long x0)])) _
    refine XS.aloadN X0.here hx rfl (hb hby d2_3) rfl rfl ?_
    show Steps p.tables e below (s₁.setTop (mkF m 4 #[.val (.ref a1), .val (.ref a2)] [(.ref a2), (.long x0)])) _
    refine XS.iconst X0.here hx rfl (hb hby d2_4) ?_
    show Steps p.tables e below (s₁.setTop (mkF m 5 #[.val (.ref a1), .val (.ref a2)] [(.int (0 : Int32)), (.ref a2), (.long x0)])) _
    refine X0.laload hx (j := (0 : Int32)) (v := (.long x0)) (by rw [e0]; exact Ar_98.1) (State.isArrayOf_alike hZ.alike Ar_98.2.1) Ar_98.2.2 hin_98 hat_98 (g := (mkF m 5 #[.val (.ref a1), .val (.ref a2)] [(.int (0 : Int32)), (.ref a2), (.long x0)])) rfl rfl (hb hby d2_5) _ ?_
    show Steps p.tables e below (s₁.setTop (mkF m 6 #[.val (.ref a1), .val (.ref a2)] [(.long x0), (.long x0)])) _
    refine XS.lcmp X0.here hx rfl (hb hby d2_6) rfl ?_
    show Steps p.tables e below (s₁.setTop (mkF m 7 #[.val (.ref a1), .val (.ref a2)] [(.int (lcmpW x0 x0))])) _
    refine XS.ifNo X0.here hx rfl (hb hby d2_7) rfl ((if0 _ _).trans (teq ((lw_eq _ _).mpr (rfl : x0 = x0))).2) ?_
    show Steps p.tables e below (s₁.setTop (mkF m 10 #[.val (.ref a1), .val (.ref a2)] [])) _
    refine XS.aloadN X0.here hx rfl (hb hby d2_10) rfl rfl ?_
    show Steps p.tables e below (s₁.setTop (mkF m 11 #[.val (.ref a1), .val (.ref a2)] [(.ref a1)])) _
    refine XS.iconst X0.here hx rfl (hb hby d2_11) ?_
    show Steps p.tables e below (s₁.setTop (mkF m 12 #[.val (.ref a1), .val (.ref a2)] [(.int (1 : Int32)), (.ref a1)])) _
    refine X0.laload hx (j := (1 : Int32)) (v := (.long x1)) (by rw [e0]; exact Ar_99.1) (State.isArrayOf_alike hZ.alike Ar_99.2.1) Ar_99.2.2 hin_99 hat_99 (g := (mkF m 12 #[.val (.ref a1), .val (.ref a2)] [(.int (1 : Int32)), (.ref a1)])) rfl rfl (hb hby d2_12) _ ?_
    show Steps p.tables e below (s₁.setTop (mkF m 13 #[.val (.ref a1), .val (.ref a2)] [(.long x1)])) _
    refine XS.aloadN X0.here hx rfl (hb hby d2_13) rfl rfl ?_
    show Steps p.tables e below (s₁.setTop (mkF m 14 #[.val (.ref a1), .val (.ref a2)] [(.ref a2), (.long x1)])) _
    refine XS.iconst X0.here hx rfl (hb hby d2_14) ?_
    show Steps p.tables e below (s₁.setTop (mkF m 15 #[.val (.ref a1), .val (.ref a2)] [(.int (1 : Int32)), (.ref a2), (.long x1)])) _
    refine X0.laload hx (j := (1 : Int32)) (v := (.long x1)) (by rw [e0]; exact Ar_100.1) (State.isArrayOf_alike hZ.alike Ar_100.2.1) Ar_100.2.2 hin_100 hat_100 (g := (mkF m 15 #[.val (.ref a1), .val (.ref a2)] [(.int (1 : Int32)), (.ref a2), (.long x1)])) rfl rfl (hb hby d2_15) _ ?_
    show Steps p.tables e below (s₁.setTop (mkF m 16 #[.val (.ref a1), .val (.ref a2)] [(.long x1), (.long x1)])) _
    refine XS.lcmp X0.here hx rfl (hb hby d2_16) rfl ?_
    show Steps p.tables e below (s₁.setTop (mkF m 17 #[.val (.ref a1), .val (.ref a2)] [(.int (lcmpW x1 x1))])) _
    refine XS.ifNo X0.here hx rfl (hb hby d2_17) rfl ((if0 _ _).trans (teq ((lw_eq _ _).mpr (rfl : x1 = x1))).2) ?_
    show Steps p.tables e below (s₁.setTop (mkF m 20 #[.val (.ref a1), .val (.ref a2)] [])) _
    refine XS.aloadN X0.here hx rfl (hb hby d2_20) rfl rfl ?_
    show Steps p.tables e below (s₁.setTop (mkF m 21 #[.val (.ref a1), .val (.ref a2)] [(.ref a1)])) _
    refine XS.iconst X0.here hx rfl (hb hby d2_21) ?_
    show Steps p.tables e below (s₁.setTop (mkF m 22 #[.val (.ref a1), .val (.ref a2)] [(.int (2 : Int32)), (.ref a1)])) _
    refine X0.laload hx (j := (2 : Int32)) (v := (.long x2)) (by rw [e0]; exact Ar_101.1) (State.isArrayOf_alike hZ.alike Ar_101.2.1) Ar_101.2.2 hin_101 hat_101 (g := (mkF m 22 #[.val (.ref a1), .val (.ref a2)] [(.int (2 : Int32)), (.ref a1)])) rfl rfl (hb hby d2_22) _ ?_
    show Steps p.tables e below (s₁.setTop (mkF m 23 #[.val (.ref a1), .val (.ref a2)] [(.long x2)])) _
    refine XS.aloadN X0.here hx rfl (hb hby d2_23) rfl rfl ?_
    show Steps p.tables e below (s₁.setTop (mkF m 24 #[.val (.ref a1), .val (.ref a2)] [(.ref a2), (.long x2)])) _
    refine XS.iconst X0.here hx rfl (hb hby d2_24) ?_
    show Steps p.tables e below (s₁.setTop (mkF m 25 #[.val (.ref a1), .val (.ref a2)] [(.int (2 : Int32)), (.ref a2), (.long x2)])) _
    refine X0.laload hx (j := (2 : Int32)) (v := (.long x2)) (by rw [e0]; exact Ar_102.1) (State.isArrayOf_alike hZ.alike Ar_102.2.1) Ar_102.2.2 hin_102 hat_102 (g := (mkF m 25 #[.val (.ref a1), .val (.ref a2)] [(.int (2 : Int32)), (.ref a2), (.long x2)])) rfl rfl (hb hby d2_25) _ ?_
    show Steps p.tables e below (s₁.setTop (mkF m 26 #[.val (.ref a1), .val (.ref a2)] [(.long x2), (.long x2)])) _
    refine XS.lcmp X0.here hx rfl (hb hby d2_26) rfl ?_
    show Steps p.tables e below (s₁.setTop (mkF m 27 #[.val (.ref a1), .val (.ref a2)] [(.int (lcmpW x2 x2))])) _
    refine XS.ifNo X0.here hx rfl (hb hby d2_27) rfl ((if0 _ _).trans (teq ((lw_eq _ _).mpr (rfl : x2 = x2))).2) ?_
    show Steps p.tables e below (s₁.setTop (mkF m 30 #[.val (.ref a1), .val (.ref a2)] [])) _
    refine XS.aloadN X0.here hx rfl (hb hby d2_30) rfl rfl ?_
    show Steps p.tables e below (s₁.setTop (mkF m 31 #[.val (.ref a1), .val (.ref a2)] [(.ref a1)])) _
    refine XS.iconst X0.here hx rfl (hb hby d2_31) ?_
    show Steps p.tables e below (s₁.setTop (mkF m 32 #[.val (.ref a1), .val (.ref a2)] [(.int (3 : Int32)), (.ref a1)])) _
    refine X0.laload hx (j := (3 : Int32)) (v := (.long x3)) (by rw [e0]; exact Ar_103.1) (State.isArrayOf_alike hZ.alike Ar_103.2.1) Ar_103.2.2 hin_103 hat_103 (g := (mkF m 32 #[.val (.ref a1), .val (.ref a2)] [(.int (3 : Int32)), (.ref a1)])) rfl rfl (hb hby d2_32) _ ?_
    show Steps p.tables e below (s₁.setTop (mkF m 33 #[.val (.ref a1), .val (.ref a2)] [(.long x3)])) _
    refine XS.aloadN X0.here hx rfl (hb hby d2_33) rfl rfl ?_
    show Steps p.tables e below (s₁.setTop (mkF m 34 #[.val (.ref a1), .val (.ref a2)] [(.ref a2), (.long x3)])) _
    refine XS.iconst X0.here hx rfl (hb hby d2_34) ?_
    show Steps p.tables e below (s₁.setTop (mkF m 35 #[.val (.ref a1), .val (.ref a2)] [(.int (3 : Int32)), (.ref a2), (.long x3)])) _
    refine X0.laload hx (j := (3 : Int32)) (v := (.long x3)) (by rw [e0]; exact Ar_104.1) (State.isArrayOf_alike hZ.alike Ar_104.2.1) Ar_104.2.2 hin_104 hat_104 (g := (mkF m 35 #[.val (.ref a1), .val (.ref a2)] [(.int (3 : Int32)), (.ref a2), (.long x3)])) rfl rfl (hb hby d2_35) _ ?_
    show Steps p.tables e below (s₁.setTop (mkF m 36 #[.val (.ref a1), .val (.ref a2)] [(.long x3), (.long x3)])) _
    refine XS.lcmp X0.here hx rfl (hb hby d2_36) rfl ?_
    show Steps p.tables e below (s₁.setTop (mkF m 37 #[.val (.ref a1), .val (.ref a2)] [(.int (lcmpW x3 x3))])) _
    refine XS.ifNo X0.here hx rfl (hb hby d2_37) rfl ((if0 _ _).trans (teq ((lw_eq _ _).mpr (rfl : x3 = x3))).2) ?_
    show Steps p.tables e below (s₁.setTop (mkF m 40 #[.val (.ref a1), .val (.ref a2)] [])) _
    refine XS.aloadN X0.here hx rfl (hb hby d2_40) rfl rfl ?_
    show Steps p.tables e below (s₁.setTop (mkF m 41 #[.val (.ref a1), .val (.ref a2)] [(.ref a1)])) _
    refine XS.iconst X0.here hx rfl (hb hby d2_41) ?_
    show Steps p.tables e below (s₁.setTop (mkF m 42 #[.val (.ref a1), .val (.ref a2)] [(.int (4 : Int32)), (.ref a1)])) _
    refine X0.laload hx (j := (4 : Int32)) (v := (.long x4)) (by rw [e0]; exact Ar_105.1) (State.isArrayOf_alike hZ.alike Ar_105.2.1) Ar_105.2.2 hin_105 hat_105 (g := (mkF m 42 #[.val (.ref a1), .val (.ref a2)] [(.int (4 : Int32)), (.ref a1)])) rfl rfl (hb hby d2_42) _ ?_
    show Steps p.tables e below (s₁.setTop (mkF m 43 #[.val (.ref a1), .val (.ref a2)] [(.long x4)])) _
    refine XS.aloadN X0.here hx rfl (hb hby d2_43) rfl rfl ?_
    show Steps p.tables e below (s₁.setTop (mkF m 44 #[.val (.ref a1), .val (.ref a2)] [(.ref a2), (.long x4)])) _
    refine XS.iconst X0.here hx rfl (hb hby d2_44) ?_
    show Steps p.tables e below (s₁.setTop (mkF m 45 #[.val (.ref a1), .val (.ref a2)] [(.int (4 : Int32)), (.ref a2), (.long x4)])) _
    refine X0.laload hx (j := (4 : Int32)) (v := (.long x4)) (by rw [e0]; exact Ar_106.1) (State.isArrayOf_alike hZ.alike Ar_106.2.1) Ar_106.2.2 hin_106 hat_106 (g := (mkF m 45 #[.val (.ref a1), .val (.ref a2)] [(.int (4 : Int32)), (.ref a2), (.long x4)])) rfl rfl (hb hby d2_45) _ ?_
    show Steps p.tables e below (s₁.setTop (mkF m 46 #[.val (.ref a1), .val (.ref a2)] [(.long x4), (.long x4)])) _
    refine XS.lcmp X0.here hx rfl (hb hby d2_46) rfl ?_
    show Steps p.tables e below (s₁.setTop (mkF m 47 #[.val (.ref a1), .val (.ref a2)] [(.int (lcmpW x4 x4))])) _
    refine XS.ifNo X0.here hx rfl (hb hby d2_47) rfl ((if0 _ _).trans (teq ((lw_eq _ _).mpr (rfl : x4 = x4))).2) ?_
    show Steps p.tables e below (s₁.setTop (mkF m 50 #[.val (.ref a1), .val (.ref a2)] [])) _
    refine XS.iconst X0.here hx rfl (hb hby d2_50) ?_
    show Steps p.tables e below (s₁.setTop (mkF m 51 #[.val (.ref a1), .val (.ref a2)] [(.int (1 : Int32))])) _
    refine XS.goto X0.here hx rfl (pc0 := 51) (pc' := 55) rfl (hb hby d2_51) (by decide) (by decide) ?_
    show Steps p.tables e below (s₁.setTop (mkF m 55 #[.val (.ref a1), .val (.ref a2)] [(.int (1 : Int32))])) _
    exact retN X0 hx (t := .boolean) Bd.returns (by simp) (hb hby d2_55) hr
  · show Q2 Z a1 a2 k1 k2 x0 x1 x2 x3 x4 h0 n0 _ s₁.heap _
    rw [e0]
    exact ⟨rfl, N0, rfl⟩
theorem ef_0 (m : MethodId) (x0 : Int64) (x1 : Int64) (x2 : Int64) (x3 : Int64) (x4 : Int64) (x5 : Int32) : entryFrame m #[(.long x0), (.long x1), (.long x2), (.long x3), (.long x4), (.int x5)] maxLocals = mkF m 0 #[.val (.long x0), .second, .val (.long x1), .second, .val (.long x2), .second, .val (.long x3), .second, .val (.long x4), .second, .val (.int x5), .unset, .unset, .unset, .unset, .unset, .unset, .unset, .unset, .unset, .unset, .unset] [] := by first | (simp [entryFrame, mkF, argsToLocals, Value.category, maxLocals]; done) | rfl
def Q0 (Z : State) (q1 : Int64) (q2 : Int64) (q3 : Int64) (q4 : Int64) (q5 : Int64) (p6 : Int32) (h0 : Heap) (n0 : Nat) (v : Option Value) (h : Heap) (L : List Loc) : Prop := v = some (.int (1 : Int32)) ∧ Fr n0 L
theorem pd_0 : parseMethodDescriptor "([J[J[J)V" = some ⟨[(.array .long), (.array .long), (.array .long)], none⟩ := by decide +kernel
theorem pd_1 : parseMethodDescriptor "([J[J)Z" = some ⟨[(.array .long), (.array .long)], some .boolean⟩ := by decide +kernel
set_option maxRecDepth 65536 in
set_option maxHeartbeats 40000000 in
theorem rm0 (l : Launch) (Z : State) (a0 : Array Value) (hw : ∀ d ∈ tables_1, d.before a0 Z = true) (ws : List Jvm.Cond) (q1 : Int64) (q2 : Int64) (q3 : Int64) (q4 : Int64) (q5 : Int64) (p6 : Int32) (h0 : Heap) (n0 : Nat) (Z0 : n0 ≤ h0.size)  :
    MetFree l x (head1 (Jvm.Cond.code x code maxLocals ret :: ws) room_1) (fun a U => a = #[(.long q1), (.long q2), (.long q3), (.long q4), (.long q5), (.int p6)] ∧ Z.Warmed39 U.vm ∧ U.heap = h0) (fun _ _ _ _ _ => True) (fun _ U o U' => ∃ v L, o = .returned v ∧ Q0 Z q1 q2 q3 q4 q5 p6 h0 n0 v U'.heap L ∧ FrameEnd U o U' L room_1.cells room_1.slots) := by
  refine MetFree.of_bodySF (plainFor_of_name pn_2) hisR ?_
  intro p e s m args below meth c s₁ Bd hml0 hP hK
  obtain ⟨rfl, hZ, hh⟩ := hP
  have hx := Bd.exec
  have hby := Bd.bytes
  have hml : c.maxLocals = 22 := hml0
  have hown : s.vm.findClass "com/example/latchet/latchet/Field25519SubPinLaw" = some m.cls := findClass_of_methodNamed Bd.named
  have hnm := (name_of_methodNamed Bd.named Bd.method).1
  have X0 : Stand p l e room_1 s m #[(.long q1), (.long q2), (.long q3), (.long q4), (.long q5), (.int p6)] below meth c s₁ [] 0 0 := Stand.of_body Bd
  have e0 : s₁.heap = h0 := by rw [← hh, Bd.state]; rfl
  have N0 := Fr.nil n0
  have pre0 : ∀ t, Steps p.tables e below (s₁.setTop (mkF m 0 #[.val (.long q1), .second, .val (.long q2), .second, .val (.long q3), .second, .val (.long q4), .second, .val (.long q5), .second, .val (.int p6), .unset, .unset, .unset, .unset, .unset, .unset, .unset, .unset, .unset, .unset, .unset] [])) t → Steps p.tables e below (s₁.setTop (entryFrame m #[(.long q1), (.long q2), (.long q3), (.long q4), (.long q5), (.int p6)] maxLocals)) t := fun t k => castTop (ef_0 m q1 q2 q3 q4 q5 p6) k
  obtain ⟨T_107, h_107, k_107, X_107, e_107, E_107, A_107, st_107⟩ := newP X0 hx hZ (hw _ (List.mem_of_getElem? (i := 0) rfl)) e0 (g := (mkF m 7 #[.val (.long q1), .second, .val (.long q2), .second, .val (.long q3), .second, .val (.long q4), .second, .val (.long q5), .second, .val (.int p6), .val (.int (p6 &&& (3 : Int32))), .unset, .unset, .unset, .unset, .unset, .unset, .unset, .unset, .unset, .unset] [(.int (5 : Int32))])) rfl (hb hby at_7) rfl (by decide) (cap := 5) (by decide) (by decide) (by decide) (by decide)
  obtain ⟨b_107, g_107⟩ : ∃ z, z = h0.size := ⟨_, rfl⟩
  rw [← g_107] at A_107 st_107
  have g_b_107 : n0 ≤ b_107 := Nat.le_trans Z0 (Nat.le_of_eq g_107.symm)
  have z_108 : n0 ≤ h_107.size := Nat.le_trans Z0 E_107.1
  have V_107 : Arv Z h_107 b_107 k_107 .long (5 : Int32) [(.long (0 : Int64)), (.long (0 : Int64)), (.long (0 : Int64)), (.long (0 : Int64)), (.long (0 : Int64))] (.long (0 : Int64)) := (Arv.new A_107 (by decide)).pad (pad_rep [] (.long (0 : Int64)) 5)
  obtain ⟨cl_109, Ar_109, q_109, S_109, M_109, H_109, G_109⟩ := id V_107
  have hin_109 : ¬ ((0 : Int32) < 0 ∨ cl_109.slots.size ≤ ((0 : Int32)).toNatClampNeg) := inb_of S_109 ⟨by decide, by decide⟩
  obtain ⟨T_109, h_109, X_109, e_109, W_109, st_109⟩ := stJ X_107 hx hZ e_107 Ar_109 (j := (0 : Int32)) hin_109 (g := (mkF m 12 #[.val (.long q1), .second, .val (.long q2), .second, .val (.long q3), .second, .val (.long q4), .second, .val (.long q5), .second, .val (.int p6), .val (.int (p6 &&& (3 : Int32))), .unset, .unset, .unset, .unset, .unset, .unset, .unset, .unset, .unset, .unset] [(.long q1), (.int (0 : Int32)), (.ref b_107), (.ref b_107)])) rfl rfl (hb hby at_12)
  have z_110 : n0 ≤ h_109.size := Nat.le_trans z_108 (Keep.of_wr W_109).1
  have V_109 : Arv Z h_109 b_107 k_107 .long (5 : Int32) [(.long q1), (.long (0 : Int64)), (.long (0 : Int64)), (.long (0 : Int64)), (.long (0 : Int64))] (.long (0 : Int64)) := Arv.set Ar_109 q_109 S_109 M_109 H_109 G_109 rfl W_109 0 rfl (Nat.le_of_ble_eq_true rfl)
  have N_109 := Fr.snoc X_109 N0 g_b_107
  obtain ⟨cl_111, Ar_111, q_111, S_111, M_111, H_111, G_111⟩ := id V_109
  have hin_111 : ¬ ((1 : Int32) < 0 ∨ cl_111.slots.size ≤ ((1 : Int32)).toNatClampNeg) := inb_of S_111 ⟨by decide, by decide⟩
  obtain ⟨T_111, h_111, X_111, e_111, W_111, st_111⟩ := stJ X_109 hx hZ e_109 Ar_111 (j := (1 : Int32)) hin_111 (g := (mkF m 16 #[.val (.long q1), .second, .val (.long q2), .second, .val (.long q3), .second, .val (.long q4), .second, .val (.long q5), .second, .val (.int p6), .val (.int (p6 &&& (3 : Int32))), .unset, .unset, .unset, .unset, .unset, .unset, .unset, .unset, .unset, .unset] [(.long q2), (.int (1 : Int32)), (.ref b_107), (.ref b_107)])) rfl rfl (hb hby at_16)
  have z_112 : n0 ≤ h_111.size := Nat.le_trans z_110 (Keep.of_wr W_111).1
  have V_111 : Arv Z h_111 b_107 k_107 .long (5 : Int32) [(.long q1), (.long q2), (.long (0 : Int64)), (.long (0 : Int64)), (.long (0 : Int64))] (.long (0 : Int64)) := Arv.set Ar_111 q_111 S_111 M_111 H_111 G_111 rfl W_111 1 rfl (Nat.le_of_ble_eq_true rfl)
  have N_111 := Fr.snoc X_111 N_109 g_b_107
  obtain ⟨cl_113, Ar_113, q_113, S_113, M_113, H_113, G_113⟩ := id V_111
  have hin_113 : ¬ ((2 : Int32) < 0 ∨ cl_113.slots.size ≤ ((2 : Int32)).toNatClampNeg) := inb_of S_113 ⟨by decide, by decide⟩
  obtain ⟨T_113, h_113, X_113, e_113, W_113, st_113⟩ := stJ X_111 hx hZ e_111 Ar_113 (j := (2 : Int32)) hin_113 (g := (mkF m 21 #[.val (.long q1), .second, .val (.long q2), .second, .val (.long q3), .second, .val (.long q4), .second, .val (.long q5), .second, .val (.int p6), .val (.int (p6 &&& (3 : Int32))), .unset, .unset, .unset, .unset, .unset, .unset, .unset, .unset, .unset, .unset] [(.long q3), (.int (2 : Int32)), (.ref b_107), (.ref b_107)])) rfl rfl (hb hby at_21)
  have z_114 : n0 ≤ h_113.size := Nat.le_trans z_112 (Keep.of_wr W_113).1
  have V_113 : Arv Z h_113 b_107 k_107 .long (5 : Int32) [(.long q1), (.long q2), (.long q3), (.long (0 : Int64)), (.long (0 : Int64))] (.long (0 : Int64)) := Arv.set Ar_113 q_113 S_113 M_113 H_113 G_113 rfl W_113 2 rfl (Nat.le_of_ble_eq_true rfl)
  have N_113 := Fr.snoc X_113 N_111 g_b_107
  obtain ⟨cl_115, Ar_115, q_115, S_115, M_115, H_115, G_115⟩ := id V_113
  have hin_115 : ¬ ((3 : Int32) < 0 ∨ cl_115.slots.size ≤ ((3 : Int32)).toNatClampNeg) := inb_of S_115 ⟨by decide, by decide⟩
  obtain ⟨T_115, h_115, X_115, e_115, W_115, st_115⟩ := stJ X_113 hx hZ e_113 Ar_115 (j := (3 : Int32)) hin_115 (g := (mkF m 26 #[.val (.long q1), .second, .val (.long q2), .second, .val (.long q3), .second, .val (.long q4), .second, .val (.long q5), .second, .val (.int p6), .val (.int (p6 &&& (3 : Int32))), .unset, .unset, .unset, .unset, .unset, .unset, .unset, .unset, .unset, .unset] [(.long q4), (.int (3 : Int32)), (.ref b_107), (.ref b_107)])) rfl rfl (hb hby at_26)
  have z_116 : n0 ≤ h_115.size := Nat.le_trans z_114 (Keep.of_wr W_115).1
  have V_115 : Arv Z h_115 b_107 k_107 .long (5 : Int32) [(.long q1), (.long q2), (.long q3), (.long q4), (.long (0 : Int64))] (.long (0 : Int64)) := Arv.set Ar_115 q_115 S_115 M_115 H_115 G_115 rfl W_115 3 rfl (Nat.le_of_ble_eq_true rfl)
  have N_115 := Fr.snoc X_115 N_113 g_b_107
  obtain ⟨cl_117, Ar_117, q_117, S_117, M_117, H_117, G_117⟩ := id V_115
  have hin_117 : ¬ ((4 : Int32) < 0 ∨ cl_117.slots.size ≤ ((4 : Int32)).toNatClampNeg) := inb_of S_117 ⟨by decide, by decide⟩
  obtain ⟨T_117, h_117, X_117, e_117, W_117, st_117⟩ := stJ X_115 hx hZ e_115 Ar_117 (j := (4 : Int32)) hin_117 (g := (mkF m 31 #[.val (.long q1), .second, .val (.long q2), .second, .val (.long q3), .second, .val (.long q4), .second, .val (.long q5), .second, .val (.int p6), .val (.int (p6 &&& (3 : Int32))), .unset, .unset, .unset, .unset, .unset, .unset, .unset, .unset, .unset, .unset] [(.long q5), (.int (4 : Int32)), (.ref b_107), (.ref b_107)])) rfl rfl (hb hby at_31)
  have z_118 : n0 ≤ h_117.size := Nat.le_trans z_116 (Keep.of_wr W_117).1
  have V_117 : Arv Z h_117 b_107 k_107 .long (5 : Int32) [(.long q1), (.long q2), (.long q3), (.long q4), (.long q5)] (.long (0 : Int64)) := Arv.set Ar_117 q_117 S_117 M_117 H_117 G_117 rfl W_117 4 rfl (Nat.le_of_ble_eq_true rfl)
  have N_117 := Fr.snoc X_117 N_115 g_b_107
  obtain ⟨T_119, h_119, k_119, X_119, e_119, E_119, A_119, st_119⟩ := newP X_117 hx hZ (hw _ (List.mem_of_getElem? (i := 0) rfl)) e_117 (g := (mkF m 35 #[.val (.long q1), .second, .val (.long q2), .second, .val (.long q3), .second, .val (.long q4), .second, .val (.long q5), .second, .val (.int p6), .val (.int (p6 &&& (3 : Int32))), .val (.ref b_107), .unset, .unset, .unset, .unset, .unset, .unset, .unset, .unset, .unset] [(.int (5 : Int32))])) rfl (hb hby at_35) rfl (by decide) (cap := 5) (by decide) (by decide) (by decide) (by decide)
  obtain ⟨b_119, g_119⟩ : ∃ z, z = h_117.size := ⟨_, rfl⟩
  rw [← g_119] at A_119 st_119
  have g_b_119 : n0 ≤ b_119 := Nat.le_trans z_118 (Nat.le_of_eq g_119.symm)
  have ne_b_107_b_119 : b_107 ≠ b_119 := Nat.ne_of_lt (Nat.lt_of_lt_of_le V_117.lt (Nat.le_of_eq g_119.symm))
  have z_120 : n0 ≤ h_119.size := Nat.le_trans z_118 E_119.1
  have V_119 : Arv Z h_119 b_119 k_119 .long (5 : Int32) [(.long (0 : Int64)), (.long (0 : Int64)), (.long (0 : Int64)), (.long (0 : Int64)), (.long (0 : Int64))] (.long (0 : Int64)) := (Arv.new A_119 (by decide)).pad (pad_rep [] (.long (0 : Int64)) 5)
  obtain ⟨cl_121, Ar_121, q_121, S_121, M_121, H_121, G_121⟩ := id V_119
  have hin_121 : ¬ ((0 : Int32) < 0 ∨ cl_121.slots.size ≤ ((0 : Int32)).toNatClampNeg) := inb_of S_121 ⟨by decide, by decide⟩
  obtain ⟨T_121, h_121, X_121, e_121, W_121, st_121⟩ := stJ X_119 hx hZ e_119 Ar_121 (j := (0 : Int32)) hin_121 (g := (mkF m 41 #[.val (.long q1), .second, .val (.long q2), .second, .val (.long q3), .second, .val (.long q4), .second, .val (.long q5), .second, .val (.int p6), .val (.int (p6 &&& (3 : Int32))), .val (.ref b_107), .unset, .unset, .unset, .unset, .unset, .unset, .unset, .unset, .unset] [(.long q3), (.int (0 : Int32)), (.ref b_119), (.ref b_119)])) rfl rfl (hb hby at_41)
  have z_122 : n0 ≤ h_121.size := Nat.le_trans z_120 (Keep.of_wr W_121).1
  have V_121 : Arv Z h_121 b_119 k_119 .long (5 : Int32) [(.long q3), (.long (0 : Int64)), (.long (0 : Int64)), (.long (0 : Int64)), (.long (0 : Int64))] (.long (0 : Int64)) := Arv.set Ar_121 q_121 S_121 M_121 H_121 G_121 rfl W_121 0 rfl (Nat.le_of_ble_eq_true rfl)
  have N_121 := Fr.snoc X_121 N_117 g_b_119
  obtain ⟨cl_123, Ar_123, q_123, S_123, M_123, H_123, G_123⟩ := id V_121
  have hin_123 : ¬ ((1 : Int32) < 0 ∨ cl_123.slots.size ≤ ((1 : Int32)).toNatClampNeg) := inb_of S_123 ⟨by decide, by decide⟩
  obtain ⟨T_123, h_123, X_123, e_123, W_123, st_123⟩ := stJ X_121 hx hZ e_121 Ar_123 (j := (1 : Int32)) hin_123 (g := (mkF m 46 #[.val (.long q1), .second, .val (.long q2), .second, .val (.long q3), .second, .val (.long q4), .second, .val (.long q5), .second, .val (.int p6), .val (.int (p6 &&& (3 : Int32))), .val (.ref b_107), .unset, .unset, .unset, .unset, .unset, .unset, .unset, .unset, .unset] [(.long q5), (.int (1 : Int32)), (.ref b_119), (.ref b_119)])) rfl rfl (hb hby at_46)
  have z_124 : n0 ≤ h_123.size := Nat.le_trans z_122 (Keep.of_wr W_123).1
  have V_123 : Arv Z h_123 b_119 k_119 .long (5 : Int32) [(.long q3), (.long q5), (.long (0 : Int64)), (.long (0 : Int64)), (.long (0 : Int64))] (.long (0 : Int64)) := Arv.set Ar_123 q_123 S_123 M_123 H_123 G_123 rfl W_123 1 rfl (Nat.le_of_ble_eq_true rfl)
  have N_123 := Fr.snoc X_123 N_121 g_b_119
  obtain ⟨cl_125, Ar_125, q_125, S_125, M_125, H_125, G_125⟩ := id V_123
  have hin_125 : ¬ ((2 : Int32) < 0 ∨ cl_125.slots.size ≤ ((2 : Int32)).toNatClampNeg) := inb_of S_125 ⟨by decide, by decide⟩
  obtain ⟨T_125, h_125, X_125, e_125, W_125, st_125⟩ := stJ X_123 hx hZ e_123 Ar_125 (j := (2 : Int32)) hin_125 (g := (mkF m 50 #[.val (.long q1), .second, .val (.long q2), .second, .val (.long q3), .second, .val (.long q4), .second, .val (.long q5), .second, .val (.int p6), .val (.int (p6 &&& (3 : Int32))), .val (.ref b_107), .unset, .unset, .unset, .unset, .unset, .unset, .unset, .unset, .unset] [(.long q1), (.int (2 : Int32)), (.ref b_119), (.ref b_119)])) rfl rfl (hb hby at_50)
  have z_126 : n0 ≤ h_125.size := Nat.le_trans z_124 (Keep.of_wr W_125).1
  have V_125 : Arv Z h_125 b_119 k_119 .long (5 : Int32) [(.long q3), (.long q5), (.long q1), (.long (0 : Int64)), (.long (0 : Int64))] (.long (0 : Int64)) := Arv.set Ar_125 q_125 S_125 M_125 H_125 G_125 rfl W_125 2 rfl (Nat.le_of_ble_eq_true rfl)
  have N_125 := Fr.snoc X_125 N_123 g_b_119
  obtain ⟨cl_127, Ar_127, q_127, S_127, M_127, H_127, G_127⟩ := id V_125
  have hin_127 : ¬ ((3 : Int32) < 0 ∨ cl_127.slots.size ≤ ((3 : Int32)).toNatClampNeg) := inb_of S_127 ⟨by decide, by decide⟩
  obtain ⟨T_127, h_127, X_127, e_127, W_127, st_127⟩ := stJ X_125 hx hZ e_125 Ar_127 (j := (3 : Int32)) hin_127 (g := (mkF m 54 #[.val (.long q1), .second, .val (.long q2), .second, .val (.long q3), .second, .val (.long q4), .second, .val (.long q5), .second, .val (.int p6), .val (.int (p6 &&& (3 : Int32))), .val (.ref b_107), .unset, .unset, .unset, .unset, .unset, .unset, .unset, .unset, .unset] [(.long q2), (.int (3 : Int32)), (.ref b_119), (.ref b_119)])) rfl rfl (hb hby at_54)
  have z_128 : n0 ≤ h_127.size := Nat.le_trans z_126 (Keep.of_wr W_127).1
  have V_127 : Arv Z h_127 b_119 k_119 .long (5 : Int32) [(.long q3), (.long q5), (.long q1), (.long q2), (.long (0 : Int64))] (.long (0 : Int64)) := Arv.set Ar_127 q_127 S_127 M_127 H_127 G_127 rfl W_127 3 rfl (Nat.le_of_ble_eq_true rfl)
  have N_127 := Fr.snoc X_127 N_125 g_b_119
  obtain ⟨cl_129, Ar_129, q_129, S_129, M_129, H_129, G_129⟩ := id V_127
  have hin_129 : ¬ ((4 : Int32) < 0 ∨ cl_129.slots.size ≤ ((4 : Int32)).toNatClampNeg) := inb_of S_129 ⟨by decide, by decide⟩
  obtain ⟨T_129, h_129, X_129, e_129, W_129, st_129⟩ := stJ X_127 hx hZ e_127 Ar_129 (j := (4 : Int32)) hin_129 (g := (mkF m 59 #[.val (.long q1), .second, .val (.long q2), .second, .val (.long q3), .second, .val (.long q4), .second, .val (.long q5), .second, .val (.int p6), .val (.int (p6 &&& (3 : Int32))), .val (.ref b_107), .unset, .unset, .unset, .unset, .unset, .unset, .unset, .unset, .unset] [(.long q4), (.int (4 : Int32)), (.ref b_119), (.ref b_119)])) rfl rfl (hb hby at_59)
  have z_130 : n0 ≤ h_129.size := Nat.le_trans z_128 (Keep.of_wr W_129).1
  have V_129 : Arv Z h_129 b_119 k_119 .long (5 : Int32) [(.long q3), (.long q5), (.long q1), (.long q2), (.long q4)] (.long (0 : Int64)) := Arv.set Ar_129 q_129 S_129 M_129 H_129 G_129 rfl W_129 4 rfl (Nat.le_of_ble_eq_true rfl)
  have N_129 := Fr.snoc X_129 N_127 g_b_119
  have f_131 : Arv Z h_129 b_107 k_107 .long (5 : Int32) [(.long q1), (.long q2), (.long q3), (.long q4), (.long q5)] (.long (0 : Int64)) := ((((((V_117.ext E_119).other W_121 ne_b_107_b_119).other W_123 ne_b_107_b_119).other W_125 ne_b_107_b_119).other W_127 ne_b_107_b_119).other W_129 ne_b_107_b_119)
  obtain ⟨T_132, h_132, k_132, X_132, e_132, E_132, A_132, st_132⟩ := newP X_129 hx hZ (hw _ (List.mem_of_getElem? (i := 0) rfl)) e_129 (g := (mkF m 63 #[.val (.long q1), .second, .val (.long q2), .second, .val (.long q3), .second, .val (.long q4), .second, .val (.long q5), .second, .val (.int p6), .val (.int (p6 &&& (3 : Int32))), .val (.ref b_107), .val (.ref b_119), .unset, .unset, .unset, .unset, .unset, .unset, .unset, .unset] [(.int (5 : Int32))])) rfl (hb hby at_63) rfl (by decide) (cap := 5) (by decide) (by decide) (by decide) (by decide)
  obtain ⟨b_132, g_132⟩ : ∃ z, z = h_129.size := ⟨_, rfl⟩
  rw [← g_132] at A_132 st_132
  have g_b_132 : n0 ≤ b_132 := Nat.le_trans z_130 (Nat.le_of_eq g_132.symm)
  have ne_b_107_b_132 : b_107 ≠ b_132 := Nat.ne_of_lt (Nat.lt_of_lt_of_le f_131.lt (Nat.le_of_eq g_132.symm))
  have ne_b_119_b_132 : b_119 ≠ b_132 := Nat.ne_of_lt (Nat.lt_of_lt_of_le V_129.lt (Nat.le_of_eq g_132.symm))
  have z_133 : n0 ≤ h_132.size := Nat.le_trans z_130 E_132.1
  have V_132 : Arv Z h_132 b_132 k_132 .long (5 : Int32) [(.long (0 : Int64)), (.long (0 : Int64)), (.long (0 : Int64)), (.long (0 : Int64)), (.long (0 : Int64))] (.long (0 : Int64)) := (Arv.new A_132 (by decide)).pad (pad_rep [] (.long (0 : Int64)) 5)
  obtain ⟨cl_134, Ar_134, q_134, S_134, M_134, H_134, G_134⟩ := id V_132
  have hin_134 : ¬ ((0 : Int32) < 0 ∨ cl_134.slots.size ≤ ((0 : Int32)).toNatClampNeg) := inb_of S_134 ⟨by decide, by decide⟩
  obtain ⟨T_134, h_134, X_134, e_134, W_134, st_134⟩ := stJ X_132 hx hZ e_132 Ar_134 (j := (0 : Int32)) hin_134 (g := (mkF m 69 #[.val (.long q1), .second, .val (.long q2), .second, .val (.long q3), .second, .val (.long q4), .second, .val (.long q5), .second, .val (.int p6), .val (.int (p6 &&& (3 : Int32))), .val (.ref b_107), .val (.ref b_119), .unset, .unset, .unset, .unset, .unset, .unset, .unset, .unset] [(.long q5), (.int (0 : Int32)), (.ref b_132), (.ref b_132)])) rfl rfl (hb hby at_69)
  have z_135 : n0 ≤ h_134.size := Nat.le_trans z_133 (Keep.of_wr W_134).1
  have V_134 : Arv Z h_134 b_132 k_132 .long (5 : Int32) [(.long q5), (.long (0 : Int64)), (.long (0 : Int64)), (.long (0 : Int64)), (.long (0 : Int64))] (.long (0 : Int64)) := Arv.set Ar_134 q_134 S_134 M_134 H_134 G_134 rfl W_134 0 rfl (Nat.le_of_ble_eq_true rfl)
  have N_134 := Fr.snoc X_134 N_129 g_b_132
  obtain ⟨cl_136, Ar_136, q_136, S_136, M_136, H_136, G_136⟩ := id V_134
  have hin_136 : ¬ ((1 : Int32) < 0 ∨ cl_136.slots.size ≤ ((1 : Int32)).toNatClampNeg) := inb_of S_136 ⟨by decide, by decide⟩
  obtain ⟨T_136, h_136, X_136, e_136, W_136, st_136⟩ := stJ X_134 hx hZ e_134 Ar_136 (j := (1 : Int32)) hin_136 (g := (mkF m 74 #[.val (.long q1), .second, .val (.long q2), .second, .val (.long q3), .second, .val (.long q4), .second, .val (.long q5), .second, .val (.int p6), .val (.int (p6 &&& (3 : Int32))), .val (.ref b_107), .val (.ref b_119), .unset, .unset, .unset, .unset, .unset, .unset, .unset, .unset] [(.long q4), (.int (1 : Int32)), (.ref b_132), (.ref b_132)])) rfl rfl (hb hby at_74)
  have z_137 : n0 ≤ h_136.size := Nat.le_trans z_135 (Keep.of_wr W_136).1
  have V_136 : Arv Z h_136 b_132 k_132 .long (5 : Int32) [(.long q5), (.long q4), (.long (0 : Int64)), (.long (0 : Int64)), (.long (0 : Int64))] (.long (0 : Int64)) := Arv.set Ar_136 q_136 S_136 M_136 H_136 G_136 rfl W_136 1 rfl (Nat.le_of_ble_eq_true rfl)
  have N_136 := Fr.snoc X_136 N_134 g_b_132
  obtain ⟨cl_138, Ar_138, q_138, S_138, M_138, H_138, G_138⟩ := id V_136
  have hin_138 : ¬ ((2 : Int32) < 0 ∨ cl_138.slots.size ≤ ((2 : Int32)).toNatClampNeg) := inb_of S_138 ⟨by decide, by decide⟩
  obtain ⟨T_138, h_138, X_138, e_138, W_138, st_138⟩ := stJ X_136 hx hZ e_136 Ar_138 (j := (2 : Int32)) hin_138 (g := (mkF m 79 #[.val (.long q1), .second, .val (.long q2), .second, .val (.long q3), .second, .val (.long q4), .second, .val (.long q5), .second, .val (.int p6), .val (.int (p6 &&& (3 : Int32))), .val (.ref b_107), .val (.ref b_119), .unset, .unset, .unset, .unset, .unset, .unset, .unset, .unset] [(.long q3), (.int (2 : Int32)), (.ref b_132), (.ref b_132)])) rfl rfl (hb hby at_79)
  have z_139 : n0 ≤ h_138.size := Nat.le_trans z_137 (Keep.of_wr W_138).1
  have V_138 : Arv Z h_138 b_132 k_132 .long (5 : Int32) [(.long q5), (.long q4), (.long q3), (.long (0 : Int64)), (.long (0 : Int64))] (.long (0 : Int64)) := Arv.set Ar_138 q_138 S_138 M_138 H_138 G_138 rfl W_138 2 rfl (Nat.le_of_ble_eq_true rfl)
  have N_138 := Fr.snoc X_138 N_136 g_b_132
  obtain ⟨cl_140, Ar_140, q_140, S_140, M_140, H_140, G_140⟩ := id V_138
  have hin_140 : ¬ ((3 : Int32) < 0 ∨ cl_140.slots.size ≤ ((3 : Int32)).toNatClampNeg) := inb_of S_140 ⟨by decide, by decide⟩
  obtain ⟨T_140, h_140, X_140, e_140, W_140, st_140⟩ := stJ X_138 hx hZ e_138 Ar_140 (j := (3 : Int32)) hin_140 (g := (mkF m 83 #[.val (.long q1), .second, .val (.long q2), .second, .val (.long q3), .second, .val (.long q4), .second, .val (.long q5), .second, .val (.int p6), .val (.int (p6 &&& (3 : Int32))), .val (.ref b_107), .val (.ref b_119), .unset, .unset, .unset, .unset, .unset, .unset, .unset, .unset] [(.long q2), (.int (3 : Int32)), (.ref b_132), (.ref b_132)])) rfl rfl (hb hby at_83)
  have z_141 : n0 ≤ h_140.size := Nat.le_trans z_139 (Keep.of_wr W_140).1
  have V_140 : Arv Z h_140 b_132 k_132 .long (5 : Int32) [(.long q5), (.long q4), (.long q3), (.long q2), (.long (0 : Int64))] (.long (0 : Int64)) := Arv.set Ar_140 q_140 S_140 M_140 H_140 G_140 rfl W_140 3 rfl (Nat.le_of_ble_eq_true rfl)
  have N_140 := Fr.snoc X_140 N_138 g_b_132
  obtain ⟨cl_142, Ar_142, q_142, S_142, M_142, H_142, G_142⟩ := id V_140
  have hin_142 : ¬ ((4 : Int32) < 0 ∨ cl_142.slots.size ≤ ((4 : Int32)).toNatClampNeg) := inb_of S_142 ⟨by decide, by decide⟩
  obtain ⟨T_142, h_142, X_142, e_142, W_142, st_142⟩ := stJ X_140 hx hZ e_140 Ar_142 (j := (4 : Int32)) hin_142 (g := (mkF m 87 #[.val (.long q1), .second, .val (.long q2), .second, .val (.long q3), .second, .val (.long q4), .second, .val (.long q5), .second, .val (.int p6), .val (.int (p6 &&& (3 : Int32))), .val (.ref b_107), .val (.ref b_119), .unset, .unset, .unset, .unset, .unset, .unset, .unset, .unset] [(.long q1), (.int (4 : Int32)), (.ref b_132), (.ref b_132)])) rfl rfl (hb hby at_87)
  have z_143 : n0 ≤ h_142.size := Nat.le_trans z_141 (Keep.of_wr W_142).1
  have V_142 : Arv Z h_142 b_132 k_132 .long (5 : Int32) [(.long q5), (.long q4), (.long q3), (.long q2), (.long q1)] (.long (0 : Int64)) := Arv.set Ar_142 q_142 S_142 M_142 H_142 G_142 rfl W_142 4 rfl (Nat.le_of_ble_eq_true rfl)
  have N_142 := Fr.snoc X_142 N_140 g_b_132
  have f_144 : Arv Z h_142 b_107 k_107 .long (5 : Int32) [(.long q1), (.long q2), (.long q3), (.long q4), (.long q5)] (.long (0 : Int64)) := ((((((f_131.ext E_132).other W_134 ne_b_107_b_132).other W_136 ne_b_107_b_132).other W_138 ne_b_107_b_132).other W_140 ne_b_107_b_132).other W_142 ne_b_107_b_132)
  have f_145 : Arv Z h_142 b_119 k_119 .long (5 : Int32) [(.long q3), (.long q5), (.long q1), (.long q2), (.long q4)] (.long (0 : Int64)) := ((((((V_129.ext E_132).other W_134 ne_b_119_b_132).other W_136 ne_b_119_b_132).other W_138 ne_b_119_b_132).other W_140 ne_b_119_b_132).other W_142 ne_b_119_b_132)
  obtain ⟨T_146, h_146, k_146, X_146, e_146, E_146, A_146, st_146⟩ := newP X_142 hx hZ (hw _ (List.mem_of_getElem? (i := 0) rfl)) e_142 (g := (mkF m 91 #[.val (.long q1), .second, .val (.long q2), .second, .val (.long q3), .second, .val (.long q4), .second, .val (.long q5), .second, .val (.int p6), .val (.int (p6 &&& (3 : Int32))), .val (.ref b_107), .val (.ref b_119), .val (.ref b_132), .unset, .unset, .unset, .unset, .unset, .unset, .unset] [(.int (5 : Int32))])) rfl (hb hby at_91) rfl (by decide) (cap := 5) (by decide) (by decide) (by decide) (by decide)
  obtain ⟨b_146, g_146⟩ : ∃ z, z = h_142.size := ⟨_, rfl⟩
  rw [← g_146] at A_146 st_146
  have g_b_146 : n0 ≤ b_146 := Nat.le_trans z_143 (Nat.le_of_eq g_146.symm)
  have ne_b_107_b_146 : b_107 ≠ b_146 := Nat.ne_of_lt (Nat.lt_of_lt_of_le f_144.lt (Nat.le_of_eq g_146.symm))
  have ne_b_119_b_146 : b_119 ≠ b_146 := Nat.ne_of_lt (Nat.lt_of_lt_of_le f_145.lt (Nat.le_of_eq g_146.symm))
  have ne_b_132_b_146 : b_132 ≠ b_146 := Nat.ne_of_lt (Nat.lt_of_lt_of_le V_142.lt (Nat.le_of_eq g_146.symm))
  have z_147 : n0 ≤ h_146.size := Nat.le_trans z_143 E_146.1
  have V_146 : Arv Z h_146 b_146 k_146 .long (5 : Int32) [(.long (0 : Int64)), (.long (0 : Int64)), (.long (0 : Int64)), (.long (0 : Int64)), (.long (0 : Int64))] (.long (0 : Int64)) := (Arv.new A_146 (by decide)).pad (pad_rep [] (.long (0 : Int64)) 5)
  obtain ⟨cl_148, Ar_148, q_148, S_148, M_148, H_148, G_148⟩ := id V_146
  have hin_148 : ¬ ((0 : Int32) < 0 ∨ cl_148.slots.size ≤ ((0 : Int32)).toNatClampNeg) := inb_of S_148 ⟨by decide, by decide⟩
  obtain ⟨T_148, h_148, X_148, e_148, W_148, st_148⟩ := stJ X_146 hx hZ e_146 Ar_148 (j := (0 : Int32)) hin_148 (g := (mkF m 96 #[.val (.long q1), .second, .val (.long q2), .second, .val (.long q3), .second, .val (.long q4), .second, .val (.long q5), .second, .val (.int p6), .val (.int (p6 &&& (3 : Int32))), .val (.ref b_107), .val (.ref b_119), .val (.ref b_132), .unset, .unset, .unset, .unset, .unset, .unset, .unset] [(.long q1), (.int (0 : Int32)), (.ref b_146), (.ref b_146)])) rfl rfl (hb hby at_96)
  have z_149 : n0 ≤ h_148.size := Nat.le_trans z_147 (Keep.of_wr W_148).1
  have V_148 : Arv Z h_148 b_146 k_146 .long (5 : Int32) [(.long q1), (.long (0 : Int64)), (.long (0 : Int64)), (.long (0 : Int64)), (.long (0 : Int64))] (.long (0 : Int64)) := Arv.set Ar_148 q_148 S_148 M_148 H_148 G_148 rfl W_148 0 rfl (Nat.le_of_ble_eq_true rfl)
  have N_148 := Fr.snoc X_148 N_142 g_b_146
  obtain ⟨cl_150, Ar_150, q_150, S_150, M_150, H_150, G_150⟩ := id V_148
  have hin_150 : ¬ ((1 : Int32) < 0 ∨ cl_150.slots.size ≤ ((1 : Int32)).toNatClampNeg) := inb_of S_150 ⟨by decide, by decide⟩
  obtain ⟨T_150, h_150, X_150, e_150, W_150, st_150⟩ := stJ X_148 hx hZ e_148 Ar_150 (j := (1 : Int32)) hin_150 (g := (mkF m 100 #[.val (.long q1), .second, .val (.long q2), .second, .val (.long q3), .second, .val (.long q4), .second, .val (.long q5), .second, .val (.int p6), .val (.int (p6 &&& (3 : Int32))), .val (.ref b_107), .val (.ref b_119), .val (.ref b_132), .unset, .unset, .unset, .unset, .unset, .unset, .unset] [(.long q2), (.int (1 : Int32)), (.ref b_146), (.ref b_146)])) rfl rfl (hb hby at_100)
  have z_151 : n0 ≤ h_150.size := Nat.le_trans z_149 (Keep.of_wr W_150).1
  have V_150 : Arv Z h_150 b_146 k_146 .long (5 : Int32) [(.long q1), (.long q2), (.long (0 : Int64)), (.long (0 : Int64)), (.long (0 : Int64))] (.long (0 : Int64)) := Arv.set Ar_150 q_150 S_150 M_150 H_150 G_150 rfl W_150 1 rfl (Nat.le_of_ble_eq_true rfl)
  have N_150 := Fr.snoc X_150 N_148 g_b_146
  obtain ⟨cl_152, Ar_152, q_152, S_152, M_152, H_152, G_152⟩ := id V_150
  have hin_152 : ¬ ((2 : Int32) < 0 ∨ cl_152.slots.size ≤ ((2 : Int32)).toNatClampNeg) := inb_of S_152 ⟨by decide, by decide⟩
  obtain ⟨T_152, h_152, X_152, e_152, W_152, st_152⟩ := stJ X_150 hx hZ e_150 Ar_152 (j := (2 : Int32)) hin_152 (g := (mkF m 105 #[.val (.long q1), .second, .val (.long q2), .second, .val (.long q3), .second, .val (.long q4), .second, .val (.long q5), .second, .val (.int p6), .val (.int (p6 &&& (3 : Int32))), .val (.ref b_107), .val (.ref b_119), .val (.ref b_132), .unset, .unset, .unset, .unset, .unset, .unset, .unset] [(.long q3), (.int (2 : Int32)), (.ref b_146), (.ref b_146)])) rfl rfl (hb hby at_105)
  have z_153 : n0 ≤ h_152.size := Nat.le_trans z_151 (Keep.of_wr W_152).1
  have V_152 : Arv Z h_152 b_146 k_146 .long (5 : Int32) [(.long q1), (.long q2), (.long q3), (.long (0 : Int64)), (.long (0 : Int64))] (.long (0 : Int64)) := Arv.set Ar_152 q_152 S_152 M_152 H_152 G_152 rfl W_152 2 rfl (Nat.le_of_ble_eq_true rfl)
  have N_152 := Fr.snoc X_152 N_150 g_b_146
  obtain ⟨cl_154, Ar_154, q_154, S_154, M_154, H_154, G_154⟩ := id V_152
  have hin_154 : ¬ ((3 : Int32) < 0 ∨ cl_154.slots.size ≤ ((3 : Int32)).toNatClampNeg) := inb_of S_154 ⟨by decide, by decide⟩
  obtain ⟨T_154, h_154, X_154, e_154, W_154, st_154⟩ := stJ X_152 hx hZ e_152 Ar_154 (j := (3 : Int32)) hin_154 (g := (mkF m 110 #[.val (.long q1), .second, .val (.long q2), .second, .val (.long q3), .second, .val (.long q4), .second, .val (.long q5), .second, .val (.int p6), .val (.int (p6 &&& (3 : Int32))), .val (.ref b_107), .val (.ref b_119), .val (.ref b_132), .unset, .unset, .unset, .unset, .unset, .unset, .unset] [(.long q4), (.int (3 : Int32)), (.ref b_146), (.ref b_146)])) rfl rfl (hb hby at_110)
  have z_155 : n0 ≤ h_154.size := Nat.le_trans z_153 (Keep.of_wr W_154).1
  have V_154 : Arv Z h_154 b_146 k_146 .long (5 : Int32) [(.long q1), (.long q2), (.long q3), (.long q4), (.long (0 : Int64))] (.long (0 : Int64)) := Arv.set Ar_154 q_154 S_154 M_154 H_154 G_154 rfl W_154 3 rfl (Nat.le_of_ble_eq_true rfl)
  have N_154 := Fr.snoc X_154 N_152 g_b_146
  obtain ⟨cl_156, Ar_156, q_156, S_156, M_156, H_156, G_156⟩ := id V_154
  have hin_156 : ¬ ((4 : Int32) < 0 ∨ cl_156.slots.size ≤ ((4 : Int32)).toNatClampNeg) := inb_of S_156 ⟨by decide, by decide⟩
  obtain ⟨T_156, h_156, X_156, e_156, W_156, st_156⟩ := stJ X_154 hx hZ e_154 Ar_156 (j := (4 : Int32)) hin_156 (g := (mkF m 115 #[.val (.long q1), .second, .val (.long q2), .second, .val (.long q3), .second, .val (.long q4), .second, .val (.long q5), .second, .val (.int p6), .val (.int (p6 &&& (3 : Int32))), .val (.ref b_107), .val (.ref b_119), .val (.ref b_132), .unset, .unset, .unset, .unset, .unset, .unset, .unset] [(.long q5), (.int (4 : Int32)), (.ref b_146), (.ref b_146)])) rfl rfl (hb hby at_115)
  have z_157 : n0 ≤ h_156.size := Nat.le_trans z_155 (Keep.of_wr W_156).1
  have V_156 : Arv Z h_156 b_146 k_146 .long (5 : Int32) [(.long q1), (.long q2), (.long q3), (.long q4), (.long q5)] (.long (0 : Int64)) := Arv.set Ar_156 q_156 S_156 M_156 H_156 G_156 rfl W_156 4 rfl (Nat.le_of_ble_eq_true rfl)
  have N_156 := Fr.snoc X_156 N_154 g_b_146
  have f_158 : Arv Z h_156 b_107 k_107 .long (5 : Int32) [(.long q1), (.long q2), (.long q3), (.long q4), (.long q5)] (.long (0 : Int64)) := ((((((f_144.ext E_146).other W_148 ne_b_107_b_146).other W_150 ne_b_107_b_146).other W_152 ne_b_107_b_146).other W_154 ne_b_107_b_146).other W_156 ne_b_107_b_146)
  have f_159 : Arv Z h_156 b_119 k_119 .long (5 : Int32) [(.long q3), (.long q5), (.long q1), (.long q2), (.long q4)] (.long (0 : Int64)) := ((((((f_145.ext E_146).other W_148 ne_b_119_b_146).other W_150 ne_b_119_b_146).other W_152 ne_b_119_b_146).other W_154 ne_b_119_b_146).other W_156 ne_b_119_b_146)
  have f_160 : Arv Z h_156 b_132 k_132 .long (5 : Int32) [(.long q5), (.long q4), (.long q3), (.long q2), (.long q1)] (.long (0 : Int64)) := ((((((V_142.ext E_146).other W_148 ne_b_132_b_146).other W_150 ne_b_132_b_146).other W_152 ne_b_132_b_146).other W_154 ne_b_132_b_146).other W_156 ne_b_132_b_146)
  obtain ⟨T_161, h_161, k_161, X_161, e_161, E_161, A_161, st_161⟩ := newP X_156 hx hZ (hw _ (List.mem_of_getElem? (i := 0) rfl)) e_156 (g := (mkF m 119 #[.val (.long q1), .second, .val (.long q2), .second, .val (.long q3), .second, .val (.long q4), .second, .val (.long q5), .second, .val (.int p6), .val (.int (p6 &&& (3 : Int32))), .val (.ref b_107), .val (.ref b_119), .val (.ref b_132), .val (.ref b_146), .unset, .unset, .unset, .unset, .unset, .unset] [(.int (5 : Int32))])) rfl (hb hby at_119) rfl (by decide) (cap := 5) (by decide) (by decide) (by decide) (by decide)
  obtain ⟨b_161, g_161⟩ : ∃ z, z = h_156.size := ⟨_, rfl⟩
  rw [← g_161] at A_161 st_161
  have g_b_161 : n0 ≤ b_161 := Nat.le_trans z_157 (Nat.le_of_eq g_161.symm)
  have ne_b_107_b_161 : b_107 ≠ b_161 := Nat.ne_of_lt (Nat.lt_of_lt_of_le f_158.lt (Nat.le_of_eq g_161.symm))
  have ne_b_119_b_161 : b_119 ≠ b_161 := Nat.ne_of_lt (Nat.lt_of_lt_of_le f_159.lt (Nat.le_of_eq g_161.symm))
  have ne_b_132_b_161 : b_132 ≠ b_161 := Nat.ne_of_lt (Nat.lt_of_lt_of_le f_160.lt (Nat.le_of_eq g_161.symm))
  have ne_b_146_b_161 : b_146 ≠ b_161 := Nat.ne_of_lt (Nat.lt_of_lt_of_le V_156.lt (Nat.le_of_eq g_161.symm))
  have z_162 : n0 ≤ h_161.size := Nat.le_trans z_157 E_161.1
  have V_161 : Arv Z h_161 b_161 k_161 .long (5 : Int32) [(.long (0 : Int64)), (.long (0 : Int64)), (.long (0 : Int64)), (.long (0 : Int64)), (.long (0 : Int64))] (.long (0 : Int64)) := (Arv.new A_161 (by decide)).pad (pad_rep [] (.long (0 : Int64)) 5)
  obtain ⟨cl_163, Ar_163, q_163, S_163, M_163, H_163, G_163⟩ := id V_161
  have hin_163 : ¬ ((0 : Int32) < 0 ∨ cl_163.slots.size ≤ ((0 : Int32)).toNatClampNeg) := inb_of S_163 ⟨by decide, by decide⟩
  obtain ⟨T_163, h_163, X_163, e_163, W_163, st_163⟩ := stJ X_161 hx hZ e_161 Ar_163 (j := (0 : Int32)) hin_163 (g := (mkF m 125 #[.val (.long q1), .second, .val (.long q2), .second, .val (.long q3), .second, .val (.long q4), .second, .val (.long q5), .second, .val (.int p6), .val (.int (p6 &&& (3 : Int32))), .val (.ref b_107), .val (.ref b_119), .val (.ref b_132), .val (.ref b_146), .unset, .unset, .unset, .unset, .unset, .unset] [(.long q3), (.int (0 : Int32)), (.ref b_161), (.ref b_161)])) rfl rfl (hb hby at_125)
  have z_164 : n0 ≤ h_163.size := Nat.le_trans z_162 (Keep.of_wr W_163).1
  have V_163 : Arv Z h_163 b_161 k_161 .long (5 : Int32) [(.long q3), (.long (0 : Int64)), (.long (0 : Int64)), (.long (0 : Int64)), (.long (0 : Int64))] (.long (0 : Int64)) := Arv.set Ar_163 q_163 S_163 M_163 H_163 G_163 rfl W_163 0 rfl (Nat.le_of_ble_eq_true rfl)
  have N_163 := Fr.snoc X_163 N_156 g_b_161
  obtain ⟨cl_165, Ar_165, q_165, S_165, M_165, H_165, G_165⟩ := id V_163
  have hin_165 : ¬ ((1 : Int32) < 0 ∨ cl_165.slots.size ≤ ((1 : Int32)).toNatClampNeg) := inb_of S_165 ⟨by decide, by decide⟩
  obtain ⟨T_165, h_165, X_165, e_165, W_165, st_165⟩ := stJ X_163 hx hZ e_163 Ar_165 (j := (1 : Int32)) hin_165 (g := (mkF m 130 #[.val (.long q1), .second, .val (.long q2), .second, .val (.long q3), .second, .val (.long q4), .second, .val (.long q5), .second, .val (.int p6), .val (.int (p6 &&& (3 : Int32))), .val (.ref b_107), .val (.ref b_119), .val (.ref b_132), .val (.ref b_146), .unset, .unset, .unset, .unset, .unset, .unset] [(.long q5), (.int (1 : Int32)), (.ref b_161), (.ref b_161)])) rfl rfl (hb hby at_130)
  have z_166 : n0 ≤ h_165.size := Nat.le_trans z_164 (Keep.of_wr W_165).1
  have V_165 : Arv Z h_165 b_161 k_161 .long (5 : Int32) [(.long q3), (.long q5), (.long (0 : Int64)), (.long (0 : Int64)), (.long (0 : Int64))] (.long (0 : Int64)) := Arv.set Ar_165 q_165 S_165 M_165 H_165 G_165 rfl W_165 1 rfl (Nat.le_of_ble_eq_true rfl)
  have N_165 := Fr.snoc X_165 N_163 g_b_161
  obtain ⟨cl_167, Ar_167, q_167, S_167, M_167, H_167, G_167⟩ := id V_165
  have hin_167 : ¬ ((2 : Int32) < 0 ∨ cl_167.slots.size ≤ ((2 : Int32)).toNatClampNeg) := inb_of S_167 ⟨by decide, by decide⟩
  obtain ⟨T_167, h_167, X_167, e_167, W_167, st_167⟩ := stJ X_165 hx hZ e_165 Ar_167 (j := (2 : Int32)) hin_167 (g := (mkF m 134 #[.val (.long q1), .second, .val (.long q2), .second, .val (.long q3), .second, .val (.long q4), .second, .val (.long q5), .second, .val (.int p6), .val (.int (p6 &&& (3 : Int32))), .val (.ref b_107), .val (.ref b_119), .val (.ref b_132), .val (.ref b_146), .unset, .unset, .unset, .unset, .unset, .unset] [(.long q1), (.int (2 : Int32)), (.ref b_161), (.ref b_161)])) rfl rfl (hb hby at_134)
  have z_168 : n0 ≤ h_167.size := Nat.le_trans z_166 (Keep.of_wr W_167).1
  have V_167 : Arv Z h_167 b_161 k_161 .long (5 : Int32) [(.long q3), (.long q5), (.long q1), (.long (0 : Int64)), (.long (0 : Int64))] (.long (0 : Int64)) := Arv.set Ar_167 q_167 S_167 M_167 H_167 G_167 rfl W_167 2 rfl (Nat.le_of_ble_eq_true rfl)
  have N_167 := Fr.snoc X_167 N_165 g_b_161
  obtain ⟨cl_169, Ar_169, q_169, S_169, M_169, H_169, G_169⟩ := id V_167
  have hin_169 : ¬ ((3 : Int32) < 0 ∨ cl_169.slots.size ≤ ((3 : Int32)).toNatClampNeg) := inb_of S_169 ⟨by decide, by decide⟩
  obtain ⟨T_169, h_169, X_169, e_169, W_169, st_169⟩ := stJ X_167 hx hZ e_167 Ar_169 (j := (3 : Int32)) hin_169 (g := (mkF m 138 #[.val (.long q1), .second, .val (.long q2), .second, .val (.long q3), .second, .val (.long q4), .second, .val (.long q5), .second, .val (.int p6), .val (.int (p6 &&& (3 : Int32))), .val (.ref b_107), .val (.ref b_119), .val (.ref b_132), .val (.ref b_146), .unset, .unset, .unset, .unset, .unset, .unset] [(.long q2), (.int (3 : Int32)), (.ref b_161), (.ref b_161)])) rfl rfl (hb hby at_138)
  have z_170 : n0 ≤ h_169.size := Nat.le_trans z_168 (Keep.of_wr W_169).1
  have V_169 : Arv Z h_169 b_161 k_161 .long (5 : Int32) [(.long q3), (.long q5), (.long q1), (.long q2), (.long (0 : Int64))] (.long (0 : Int64)) := Arv.set Ar_169 q_169 S_169 M_169 H_169 G_169 rfl W_169 3 rfl (Nat.le_of_ble_eq_true rfl)
  have N_169 := Fr.snoc X_169 N_167 g_b_161
  obtain ⟨cl_171, Ar_171, q_171, S_171, M_171, H_171, G_171⟩ := id V_169
  have hin_171 : ¬ ((4 : Int32) < 0 ∨ cl_171.slots.size ≤ ((4 : Int32)).toNatClampNeg) := inb_of S_171 ⟨by decide, by decide⟩
  obtain ⟨T_171, h_171, X_171, e_171, W_171, st_171⟩ := stJ X_169 hx hZ e_169 Ar_171 (j := (4 : Int32)) hin_171 (g := (mkF m 143 #[.val (.long q1), .second, .val (.long q2), .second, .val (.long q3), .second, .val (.long q4), .second, .val (.long q5), .second, .val (.int p6), .val (.int (p6 &&& (3 : Int32))), .val (.ref b_107), .val (.ref b_119), .val (.ref b_132), .val (.ref b_146), .unset, .unset, .unset, .unset, .unset, .unset] [(.long q4), (.int (4 : Int32)), (.ref b_161), (.ref b_161)])) rfl rfl (hb hby at_143)
  have z_172 : n0 ≤ h_171.size := Nat.le_trans z_170 (Keep.of_wr W_171).1
  have V_171 : Arv Z h_171 b_161 k_161 .long (5 : Int32) [(.long q3), (.long q5), (.long q1), (.long q2), (.long q4)] (.long (0 : Int64)) := Arv.set Ar_171 q_171 S_171 M_171 H_171 G_171 rfl W_171 4 rfl (Nat.le_of_ble_eq_true rfl)
  have N_171 := Fr.snoc X_171 N_169 g_b_161
  have f_173 : Arv Z h_171 b_107 k_107 .long (5 : Int32) [(.long q1), (.long q2), (.long q3), (.long q4), (.long q5)] (.long (0 : Int64)) := ((((((f_158.ext E_161).other W_163 ne_b_107_b_161).other W_165 ne_b_107_b_161).other W_167 ne_b_107_b_161).other W_169 ne_b_107_b_161).other W_171 ne_b_107_b_161)
  have f_174 : Arv Z h_171 b_119 k_119 .long (5 : Int32) [(.long q3), (.long q5), (.long q1), (.long q2), (.long q4)] (.long (0 : Int64)) := ((((((f_159.ext E_161).other W_163 ne_b_119_b_161).other W_165 ne_b_119_b_161).other W_167 ne_b_119_b_161).other W_169 ne_b_119_b_161).other W_171 ne_b_119_b_161)
  have f_175 : Arv Z h_171 b_132 k_132 .long (5 : Int32) [(.long q5), (.long q4), (.long q3), (.long q2), (.long q1)] (.long (0 : Int64)) := ((((((f_160.ext E_161).other W_163 ne_b_132_b_161).other W_165 ne_b_132_b_161).other W_167 ne_b_132_b_161).other W_169 ne_b_132_b_161).other W_171 ne_b_132_b_161)
  have f_176 : Arv Z h_171 b_146 k_146 .long (5 : Int32) [(.long q1), (.long q2), (.long q3), (.long q4), (.long q5)] (.long (0 : Int64)) := ((((((V_156.ext E_161).other W_163 ne_b_146_b_161).other W_165 ne_b_146_b_161).other W_167 ne_b_146_b_161).other W_169 ne_b_146_b_161).other W_171 ne_b_146_b_161)
  obtain ⟨T_177, h_177, k_177, X_177, e_177, E_177, A_177, st_177⟩ := newP X_171 hx hZ (hw _ (List.mem_of_getElem? (i := 0) rfl)) e_171 (g := (mkF m 147 #[.val (.long q1), .second, .val (.long q2), .second, .val (.long q3), .second, .val (.long q4), .second, .val (.long q5), .second, .val (.int p6), .val (.int (p6 &&& (3 : Int32))), .val (.ref b_107), .val (.ref b_119), .val (.ref b_132), .val (.ref b_146), .val (.ref b_161), .unset, .unset, .unset, .unset, .unset] [(.int (5 : Int32))])) rfl (hb hby at_147) rfl (by decide) (cap := 5) (by decide) (by decide) (by decide) (by decide)
  obtain ⟨b_177, g_177⟩ : ∃ z, z = h_171.size := ⟨_, rfl⟩
  rw [← g_177] at A_177 st_177
  have g_b_177 : n0 ≤ b_177 := Nat.le_trans z_172 (Nat.le_of_eq g_177.symm)
  have ne_b_107_b_177 : b_107 ≠ b_177 := Nat.ne_of_lt (Nat.lt_of_lt_of_le f_173.lt (Nat.le_of_eq g_177.symm))
  have ne_b_119_b_177 : b_119 ≠ b_177 := Nat.ne_of_lt (Nat.lt_of_lt_of_le f_174.lt (Nat.le_of_eq g_177.symm))
  have ne_b_132_b_177 : b_132 ≠ b_177 := Nat.ne_of_lt (Nat.lt_of_lt_of_le f_175.lt (Nat.le_of_eq g_177.symm))
  have ne_b_146_b_177 : b_146 ≠ b_177 := Nat.ne_of_lt (Nat.lt_of_lt_of_le f_176.lt (Nat.le_of_eq g_177.symm))
  have ne_b_161_b_177 : b_161 ≠ b_177 := Nat.ne_of_lt (Nat.lt_of_lt_of_le V_171.lt (Nat.le_of_eq g_177.symm))
  have z_178 : n0 ≤ h_177.size := Nat.le_trans z_172 E_177.1
  have V_177 : Arv Z h_177 b_177 k_177 .long (5 : Int32) [(.long (0 : Int64)), (.long (0 : Int64)), (.long (0 : Int64)), (.long (0 : Int64)), (.long (0 : Int64))] (.long (0 : Int64)) := (Arv.new A_177 (by decide)).pad (pad_rep [] (.long (0 : Int64)) 5)
  obtain ⟨cl_179, Ar_179, q_179, S_179, M_179, H_179, G_179⟩ := id V_177
  have hin_179 : ¬ ((0 : Int32) < 0 ∨ cl_179.slots.size ≤ ((0 : Int32)).toNatClampNeg) := inb_of S_179 ⟨by decide, by decide⟩
  obtain ⟨T_179, h_179, X_179, e_179, W_179, st_179⟩ := stJ X_177 hx hZ e_177 Ar_179 (j := (0 : Int32)) hin_179 (g := (mkF m 152 #[.val (.long q1), .second, .val (.long q2), .second, .val (.long q3), .second, .val (.long q4), .second, .val (.long q5), .second, .val (.int p6), .val (.int (p6 &&& (3 : Int32))), .val (.ref b_107), .val (.ref b_119), .val (.ref b_132), .val (.ref b_146), .val (.ref b_161), .unset, .unset, .unset, .unset, .unset] [(.long q1), (.int (0 : Int32)), (.ref b_177), (.ref b_177)])) rfl rfl (hb hby at_152)
  have z_180 : n0 ≤ h_179.size := Nat.le_trans z_178 (Keep.of_wr W_179).1
  have V_179 : Arv Z h_179 b_177 k_177 .long (5 : Int32) [(.long q1), (.long (0 : Int64)), (.long (0 : Int64)), (.long (0 : Int64)), (.long (0 : Int64))] (.long (0 : Int64)) := Arv.set Ar_179 q_179 S_179 M_179 H_179 G_179 rfl W_179 0 rfl (Nat.le_of_ble_eq_true rfl)
  have N_179 := Fr.snoc X_179 N_171 g_b_177
  obtain ⟨cl_181, Ar_181, q_181, S_181, M_181, H_181, G_181⟩ := id V_179
  have hin_181 : ¬ ((1 : Int32) < 0 ∨ cl_181.slots.size ≤ ((1 : Int32)).toNatClampNeg) := inb_of S_181 ⟨by decide, by decide⟩
  obtain ⟨T_181, h_181, X_181, e_181, W_181, st_181⟩ := stJ X_179 hx hZ e_179 Ar_181 (j := (1 : Int32)) hin_181 (g := (mkF m 156 #[.val (.long q1), .second, .val (.long q2), .second, .val (.long q3), .second, .val (.long q4), .second, .val (.long q5), .second, .val (.int p6), .val (.int (p6 &&& (3 : Int32))), .val (.ref b_107), .val (.ref b_119), .val (.ref b_132), .val (.ref b_146), .val (.ref b_161), .unset, .unset, .unset, .unset, .unset] [(.long q2), (.int (1 : Int32)), (.ref b_177), (.ref b_177)])) rfl rfl (hb hby at_156)
  have z_182 : n0 ≤ h_181.size := Nat.le_trans z_180 (Keep.of_wr W_181).1
  have V_181 : Arv Z h_181 b_177 k_177 .long (5 : Int32) [(.long q1), (.long q2), (.long (0 : Int64)), (.long (0 : Int64)), (.long (0 : Int64))] (.long (0 : Int64)) := Arv.set Ar_181 q_181 S_181 M_181 H_181 G_181 rfl W_181 1 rfl (Nat.le_of_ble_eq_true rfl)
  have N_181 := Fr.snoc X_181 N_179 g_b_177
  obtain ⟨cl_183, Ar_183, q_183, S_183, M_183, H_183, G_183⟩ := id V_181
  have hin_183 : ¬ ((2 : Int32) < 0 ∨ cl_183.slots.size ≤ ((2 : Int32)).toNatClampNeg) := inb_of S_183 ⟨by decide, by decide⟩
  obtain ⟨T_183, h_183, X_183, e_183, W_183, st_183⟩ := stJ X_181 hx hZ e_181 Ar_183 (j := (2 : Int32)) hin_183 (g := (mkF m 161 #[.val (.long q1), .second, .val (.long q2), .second, .val (.long q3), .second, .val (.long q4), .second, .val (.long q5), .second, .val (.int p6), .val (.int (p6 &&& (3 : Int32))), .val (.ref b_107), .val (.ref b_119), .val (.ref b_132), .val (.ref b_146), .val (.ref b_161), .unset, .unset, .unset, .unset, .unset] [(.long q3), (.int (2 : Int32)), (.ref b_177), (.ref b_177)])) rfl rfl (hb hby at_161)
  have z_184 : n0 ≤ h_183.size := Nat.le_trans z_182 (Keep.of_wr W_183).1
  have V_183 : Arv Z h_183 b_177 k_177 .long (5 : Int32) [(.long q1), (.long q2), (.long q3), (.long (0 : Int64)), (.long (0 : Int64))] (.long (0 : Int64)) := Arv.set Ar_183 q_183 S_183 M_183 H_183 G_183 rfl W_183 2 rfl (Nat.le_of_ble_eq_true rfl)
  have N_183 := Fr.snoc X_183 N_181 g_b_177
  obtain ⟨cl_185, Ar_185, q_185, S_185, M_185, H_185, G_185⟩ := id V_183
  have hin_185 : ¬ ((3 : Int32) < 0 ∨ cl_185.slots.size ≤ ((3 : Int32)).toNatClampNeg) := inb_of S_185 ⟨by decide, by decide⟩
  obtain ⟨T_185, h_185, X_185, e_185, W_185, st_185⟩ := stJ X_183 hx hZ e_183 Ar_185 (j := (3 : Int32)) hin_185 (g := (mkF m 166 #[.val (.long q1), .second, .val (.long q2), .second, .val (.long q3), .second, .val (.long q4), .second, .val (.long q5), .second, .val (.int p6), .val (.int (p6 &&& (3 : Int32))), .val (.ref b_107), .val (.ref b_119), .val (.ref b_132), .val (.ref b_146), .val (.ref b_161), .unset, .unset, .unset, .unset, .unset] [(.long q4), (.int (3 : Int32)), (.ref b_177), (.ref b_177)])) rfl rfl (hb hby at_166)
  have z_186 : n0 ≤ h_185.size := Nat.le_trans z_184 (Keep.of_wr W_185).1
  have V_185 : Arv Z h_185 b_177 k_177 .long (5 : Int32) [(.long q1), (.long q2), (.long q3), (.long q4), (.long (0 : Int64))] (.long (0 : Int64)) := Arv.set Ar_185 q_185 S_185 M_185 H_185 G_185 rfl W_185 3 rfl (Nat.le_of_ble_eq_true rfl)
  have N_185 := Fr.snoc X_185 N_183 g_b_177
  obtain ⟨cl_187, Ar_187, q_187, S_187, M_187, H_187, G_187⟩ := id V_185
  have hin_187 : ¬ ((4 : Int32) < 0 ∨ cl_187.slots.size ≤ ((4 : Int32)).toNatClampNeg) := inb_of S_187 ⟨by decide, by decide⟩
  obtain ⟨T_187, h_187, X_187, e_187, W_187, st_187⟩ := stJ X_185 hx hZ e_185 Ar_187 (j := (4 : Int32)) hin_187 (g := (mkF m 171 #[.val (.long q1), .second, .val (.long q2), .second, .val (.long q3), .second, .val (.long q4), .second, .val (.long q5), .second, .val (.int p6), .val (.int (p6 &&& (3 : Int32))), .val (.ref b_107), .val (.ref b_119), .val (.ref b_132), .val (.ref b_146), .val (.ref b_161), .unset, .unset, .unset, .unset, .unset] [(.long q5), (.int (4 : Int32)), (.ref b_177), (.ref b_177)])) rfl rfl (hb hby at_171)
  have z_188 : n0 ≤ h_187.size := Nat.le_trans z_186 (Keep.of_wr W_187).1
  have V_187 : Arv Z h_187 b_177 k_177 .long (5 : Int32) [(.long q1), (.long q2), (.long q3), (.long q4), (.long q5)] (.long (0 : Int64)) := Arv.set Ar_187 q_187 S_187 M_187 H_187 G_187 rfl W_187 4 rfl (Nat.le_of_ble_eq_true rfl)
  have N_187 := Fr.snoc X_187 N_185 g_b_177
  have pre_189 : ∀ t, Steps p.tables e below (T_187.setTop (mkF m 177 #[.val (.long q1), .second, .val (.long q2), .second, .val (.long q3), .second, .val (.long q4), .second, .val (.long q5), .second, .val (.int p6), .val (.int (p6 &&& (3 : Int32))), .val (.ref b_107), .val (.ref b_119), .val (.ref b_132), .val (.ref b_146), .val (.ref b_161), .val (.ref b_177), .unset, .unset, .unset, .unset] [(.int (3 : Int32)), (.int (p6 &&& (3 : Int32)))])) t → Steps p.tables e below (s₁.setTop (entryFrame m #[(.long q1), (.long q2), (.long q3), (.long q4), (.long q5), (.int p6)] maxLocals)) t := fun t k => pre0 t (by
      show Steps p.tables e below (s₁.setTop (mkF m 0 #[.val (.long q1), .second, .val (.long q2), .second, .val (.long q3), .second, .val (.long q4), .second, .val (.long q5), .second, .val (.int p6), .unset, .unset, .unset, .unset, .unset, .unset, .unset, .unset, .unset, .unset, .unset] [])) _
      refine XS.iload X0.here hx rfl (hb hby at_0) rfl ?_
      show Steps p.tables e below (s₁.setTop (mkF m 2 #[.val (.long q1), .second, .val (.long q2), .second, .val (.long q3), .second, .val (.long q4), .second, .val (.long q5), .second, .val (.int p6), .unset, .unset, .unset, .unset, .unset, .unset, .unset, .unset, .unset, .unset, .unset] [(.int p6)])) _
      refine XS.iconst X0.here hx rfl (hb hby at_2) ?_
      show Steps p.tables e below (s₁.setTop (mkF m 3 #[.val (.long q1), .second, .val (.long q2), .second, .val (.long q3), .second, .val (.long q4), .second, .val (.long q5), .second, .val (.int p6), .unset, .unset, .unset, .unset, .unset, .unset, .unset, .unset, .unset, .unset, .unset] [(.int (3 : Int32)), (.int p6)])) _
      refine XS.iand X0.here hx rfl (hb hby at_3) rfl ?_
      show Steps p.tables e below (s₁.setTop (mkF m 4 #[.val (.long q1), .second, .val (.long q2), .second, .val (.long q3), .second, .val (.long q4), .second, .val (.long q5), .second, .val (.int p6), .unset, .unset, .unset, .unset, .unset, .unset, .unset, .unset, .unset, .unset, .unset] [(.int (p6 &&& (3 : Int32)))])) _
      refine XS.istore X0.here hx rfl (hb hby at_4) rfl (l' := #[.val (.long q1), .second, .val (.long q2), .second, .val (.long q3), .second, .val (.long q4), .second, .val (.long q5), .second, .val (.int p6), .val (.int (p6 &&& (3 : Int32))), .unset, .unset, .unset, .unset, .unset, .unset, .unset, .unset, .unset, .unset]) rfl ?_
      show Steps p.tables e below (s₁.setTop (mkF m 6 #[.val (.long q1), .second, .val (.long q2), .second, .val (.long q3), .second, .val (.long q4), .second, .val (.long q5), .second, .val (.int p6), .val (.int (p6 &&& (3 : Int32))), .unset, .unset, .unset, .unset, .unset, .unset, .unset, .unset, .unset, .unset] [])) _
      refine XS.iconst X0.here hx rfl (hb hby at_6) ?_
      show Steps p.tables e below (s₁.setTop (mkF m 7 #[.val (.long q1), .second, .val (.long q2), .second, .val (.long q3), .second, .val (.long q4), .second, .val (.long q5), .second, .val (.int p6), .val (.int (p6 &&& (3 : Int32))), .unset, .unset, .unset, .unset, .unset, .unset, .unset, .unset, .unset, .unset] [(.int (5 : Int32))])) _
      refine st_107 _ ?_
      show Steps p.tables e below (T_107.setTop (mkF m 9 #[.val (.long q1), .second, .val (.long q2), .second, .val (.long q3), .second, .val (.long q4), .second, .val (.long q5), .second, .val (.int p6), .val (.int (p6 &&& (3 : Int32))), .unset, .unset, .unset, .unset, .unset, .unset, .unset, .unset, .unset, .unset] [(.ref b_107)])) _
      refine XS.dup X_107.here hx rfl (hb hby at_9) rfl rfl ?_
      show Steps p.tables e below (T_107.setTop (mkF m 10 #[.val (.long q1), .second, .val (.long q2), .second, .val (.long q3), .second, .val (.long q4), .second, .val (.long q5), .second, .val (.int p6), .val (.int (p6 &&& (3 : Int32))), .unset, .unset, .unset, .unset, .unset, .unset, .unset, .unset, .unset, .unset] [(.ref b_107), (.ref b_107)])) _
      refine XS.iconst X_107.here hx rfl (hb hby at_10) ?_
      show Steps p.tables e below (T_107.setTop (mkF m 11 #[.val (.long q1), .second, .val (.long q2), .second, .val (.long q3), .second, .val (.long q4), .second, .val (.long q5), .second, .val (.int p6), .val (.int (p6 &&& (3 : Int32))), .unset, .unset, .unset, .unset, .unset, .unset, .unset, .unset, .unset, .unset] [(.int (0 : Int32)), (.ref b_107), (.ref b_107)])) _
      refine XS.lloadN X_107.here hx rfl (hb hby at_11) rfl ?_
      show Steps p.tables e below (T_107.setTop (mkF m 12 #[.val (.long q1), .second, .val (.long q2), .second, .val (.long q3), .second, .val (.long q4), .second, .val (.long q5), .second, .val (.int p6), .val (.int (p6 &&& (3 : Int32))), .unset, .unset, .unset, .unset, .unset, .unset, .unset, .unset, .unset, .unset] [(.long q1), (.int (0 : Int32)), (.ref b_107), (.ref b_107)])) _
      refine st_109 _ ?_
      show Steps p.tables e below (T_109.setTop (mkF m 13 #[.val (.long q1), .second, .val (.long q2), .second, .val (.long q3), .second, .val (.long q4), .second, .val (.long q5), .second, .val (.int p6), .val (.int (p6 &&& (3 : Int32))), .unset, .unset, .unset, .unset, .unset, .unset, .unset, .unset, .unset, .unset] [(.ref b_107)])) _
      refine XS.dup X_109.here hx rfl (hb hby at_13) rfl rfl ?_
      show Steps p.tables e below (T_109.setTop (mkF m 14 #[.val (.long q1), .second, .val (.long q2), .second, .val (.long q3), .second, .val (.long q4), .second, .val (.long q5), .second, .val (.int p6), .val (.int (p6 &&& (3 : Int32))), .unset, .unset, .unset, .unset, .unset, .unset, .unset, .unset, .unset, .unset] [(.ref b_107), (.ref b_107)])) _
      refine XS.iconst X_109.here hx rfl (hb hby at_14) ?_
      show Steps p.tables e below (T_109.setTop (mkF m 15 #[.val (.long q1), .second, .val (.long q2), .second, .val (.long q3), .second, .val (.long q4), .second, .val (.long q5), .second, .val (.int p6), .val (.int (p6 &&& (3 : Int32))), .unset, .unset, .unset, .unset, .unset, .unset, .unset, .unset, .unset, .unset] [(.int (1 : Int32)), (.ref b_107), (.ref b_107)])) _
      refine XS.lloadN X_109.here hx rfl (hb hby at_15) rfl ?_
      show Steps p.tables e below (T_109.setTop (mkF m 16 #[.val (.long q1), .second, .val (.long q2), .second, .val (.long q3), .second, .val (.long q4), .second, .val (.long q5), .second, .val (.int p6), .val (.int (p6 &&& (3 : Int32))), .unset, .unset, .unset, .unset, .unset, .unset, .unset, .unset, .unset, .unset] [(.long q2), (.int (1 : Int32)), (.ref b_107), (.ref b_107)])) _
      refine st_111 _ ?_
      show Steps p.tables e below (T_111.setTop (mkF m 17 #[.val (.long q1), .second, .val (.long q2), .second, .val (.long q3), .second, .val (.long q4), .second, .val (.long q5), .second, .val (.int p6), .val (.int (p6 &&& (3 : Int32))), .unset, .unset, .unset, .unset, .unset, .unset, .unset, .unset, .unset, .unset] [(.ref b_107)])) _
      refine XS.dup X_111.here hx rfl (hb hby at_17) rfl rfl ?_
      show Steps p.tables e below (T_111.setTop (mkF m 18 #[.val (.long q1), .second, .val (.long q2), .second, .val (.long q3), .second, .val (.long q4), .second, .val (.long q5), .second, .val (.int p6), .val (.int (p6 &&& (3 : Int32))), .unset, .unset, .unset, .unset, .unset, .unset, .unset, .unset, .unset, .unset] [(.ref b_107), (.ref b_107)])) _
      refine XS.iconst X_111.here hx rfl (hb hby at_18) ?_
      show Steps p.tables e below (T_111.setTop (mkF m 19 #[.val (.long q1), .second, .val (.long q2), .second, .val (.long q3), .second, .val (.long q4), .second, .val (.long q5), .second, .val (.int p6), .val (.int (p6 &&& (3 : Int32))), .unset, .unset, .unset, .unset, .unset, .unset, .unset, .unset, .unset, .unset] [(.int (2 : Int32)), (.ref b_107), (.ref b_107)])) _
      refine XS.lload X_111.here hx rfl (hb hby at_19) rfl ?_
      show Steps p.tables e below (T_111.setTop (mkF m 21 #[.val (.long q1), .second, .val (.long q2), .second, .val (.long q3), .second, .val (.long q4), .second, .val (.long q5), .second, .val (.int p6), .val (.int (p6 &&& (3 : Int32))), .unset, .unset, .unset, .unset, .unset, .unset, .unset, .unset, .unset, .unset] [(.long q3), (.int (2 : Int32)), (.ref b_107), (.ref b_107)])) _
      refine st_113 _ ?_
      show Steps p.tables e below (T_113.setTop (mkF m 22 #[.val (.long q1), .second, .val (.long q2), .second, .val (.long q3), .second, .val (.long q4), .second, .val (.long q5), .second, .val (.int p6), .val (.int (p6 &&& (3 : Int32))), .unset, .unset, .unset, .unset, .unset, .unset, .unset, .unset, .unset, .unset] [(.ref b_107)])) _
      refine XS.dup X_113.here hx rfl (hb hby at_22) rfl rfl ?_
      show Steps p.tables e below (T_113.setTop (mkF m 23 #[.val (.long q1), .second, .val (.long q2), .second, .val (.long q3), .second, .val (.long q4), .second, .val (.long q5), .second, .val (.int p6), .val (.int (p6 &&& (3 : Int32))), .unset, .unset, .unset, .unset, .unset, .unset, .unset, .unset, .unset, .unset] [(.ref b_107), (.ref b_107)])) _
      refine XS.iconst X_113.here hx rfl (hb hby at_23) ?_
      show Steps p.tables e below (T_113.setTop (mkF m 24 #[.val (.long q1), .second, .val (.long q2), .second, .val (.long q3), .second, .val (.long q4), .second, .val (.long q5), .second, .val (.int p6), .val (.int (p6 &&& (3 : Int32))), .unset, .unset, .unset, .unset, .unset, .unset, .unset, .unset, .unset, .unset] [(.int (3 : Int32)), (.ref b_107), (.ref b_107)])) _
      refine XS.lload X_113.here hx rfl (hb hby at_24) rfl ?_
      show Steps p.tables e below (T_113.setTop (mkF m 26 #[.val (.long q1), .second, .val (.long q2), .second, .val (.long q3), .second, .val (.long q4), .second, .val (.long q5), .second, .val (.int p6), .val (.int (p6 &&& (3 : Int32))), .unset, .unset, .unset, .unset, .unset, .unset, .unset, .unset, .unset, .unset] [(.long q4), (.int (3 : Int32)), (.ref b_107), (.ref b_107)])) _
      refine st_115 _ ?_
      show Steps p.tables e below (T_115.setTop (mkF m 27 #[.val (.long q1), .second, .val (.long q2), .second, .val (.long q3), .second, .val (.long q4), .second, .val (.long q5), .second, .val (.int p6), .val (.int (p6 &&& (3 : Int32))), .unset, .unset, .unset, .unset, .unset, .unset, .unset, .unset, .unset, .unset] [(.ref b_107)])) _
      refine XS.dup X_115.here hx rfl (hb hby at_27) rfl rfl ?_
      show Steps p.tables e below (T_115.setTop (mkF m 28 #[.val (.long q1), .second, .val (.long q2), .second, .val (.long q3), .second, .val (.long q4), .second, .val (.long q5), .second, .val (.int p6), .val (.int (p6 &&& (3 : Int32))), .unset, .unset, .unset, .unset, .unset, .unset, .unset, .unset, .unset, .unset] [(.ref b_107), (.ref b_107)])) _
      refine XS.iconst X_115.here hx rfl (hb hby at_28) ?_
      show Steps p.tables e below (T_115.setTop (mkF m 29 #[.val (.long q1), .second, .val (.long q2), .second, .val (.long q3), .second, .val (.long q4), .second, .val (.long q5), .second, .val (.int p6), .val (.int (p6 &&& (3 : Int32))), .unset, .unset, .unset, .unset, .unset, .unset, .unset, .unset, .unset, .unset] [(.int (4 : Int32)), (.ref b_107), (.ref b_107)])) _
      refine XS.lload X_115.here hx rfl (hb hby at_29) rfl ?_
      show Steps p.tables e below (T_115.setTop (mkF m 31 #[.val (.long q1), .second, .val (.long q2), .second, .val (.long q3), .second, .val (.long q4), .second, .val (.long q5), .second, .val (.int p6), .val (.int (p6 &&& (3 : Int32))), .unset, .unset, .unset, .unset, .unset, .unset, .unset, .unset, .unset, .unset] [(.long q5), (.int (4 : Int32)), (.ref b_107), (.ref b_107)])) _
      refine st_117 _ ?_
      show Steps p.tables e below (T_117.setTop (mkF m 32 #[.val (.long q1), .second, .val (.long q2), .second, .val (.long q3), .second, .val (.long q4), .second, .val (.long q5), .second, .val (.int p6), .val (.int (p6 &&& (3 : Int32))), .unset, .unset, .unset, .unset, .unset, .unset, .unset, .unset, .unset, .unset] [(.ref b_107)])) _
      refine XS.astore X_117.here hx rfl (hb hby at_32) rfl rfl (l' := #[.val (.long q1), .second, .val (.long q2), .second, .val (.long q3), .second, .val (.long q4), .second, .val (.long q5), .second, .val (.int p6), .val (.int (p6 &&& (3 : Int32))), .val (.ref b_107), .unset, .unset, .unset, .unset, .unset, .unset, .unset, .unset, .unset]) rfl ?_
      show Steps p.tables e below (T_117.setTop (mkF m 34 #[.val (.long q1), .second, .val (.long q2), .second, .val (.long q3), .second, .val (.long q4), .second, .val (.long q5), .second, .val (.int p6), .val (.int (p6 &&& (3 : Int32))), .val (.ref b_107), .unset, .unset, .unset, .unset, .unset, .unset, .unset, .unset, .unset] [])) _
      refine XS.iconst X_117.here hx rfl (hb hby at_34) ?_
      show Steps p.tables e below (T_117.setTop (mkF m 35 #[.val (.long q1), .second, .val (.long q2), .second, .val (.long q3), .second, .val (.long q4), .second, .val (.long q5), .second, .val (.int p6), .val (.int (p6 &&& (3 : Int32))), .val (.ref b_107), .unset, .unset, .unset, .unset, .unset, .unset, .unset, .unset, .unset] [(.int (5 : Int32))])) _
      refine st_119 _ ?_
      show Steps p.tables e below (T_119.setTop (mkF m 37 #[.val (.long q1), .second, .val (.long q2), .second, .val (.long q3), .second, .val (.long q4), .second, .val (.long q5), .second, .val (.int p6), .val (.int (p6 &&& (3 : Int32))), .val (.ref b_107), .unset, .unset, .unset, .unset, .unset, .unset, .unset, .unset, .unset] [(.ref b_119)])) _
      refine XS.dup X_119.here hx rfl (hb hby at_37) rfl rfl ?_
      show Steps p.tables e below (T_119.setTop (mkF m 38 #[.val (.long q1), .second, .val (.long q2), .second, .val (.long q3), .second, .val (.long q4), .second, .val (.long q5), .second, .val (.int p6), .val (.int (p6 &&& (3 : Int32))), .val (.ref b_107), .unset, .unset, .unset, .unset, .unset, .unset, .unset, .unset, .unset] [(.ref b_119), (.ref b_119)])) _
      refine XS.iconst X_119.here hx rfl (hb hby at_38) ?_
      show Steps p.tables e below (T_119.setTop (mkF m 39 #[.val (.long q1), .second, .val (.long q2), .second, .val (.long q3), .second, .val (.long q4), .second, .val (.long q5), .second, .val (.int p6), .val (.int (p6 &&& (3 : Int32))), .val (.ref b_107), .unset, .unset, .unset, .unset, .unset, .unset, .unset, .unset, .unset] [(.int (0 : Int32)), (.ref b_119), (.ref b_119)])) _
      refine XS.lload X_119.here hx rfl (hb hby at_39) rfl ?_
      show Steps p.tables e below (T_119.setTop (mkF m 41 #[.val (.long q1), .second, .val (.long q2), .second, .val (.long q3), .second, .val (.long q4), .second, .val (.long q5), .second, .val (.int p6), .val (.int (p6 &&& (3 : Int32))), .val (.ref b_107), .unset, .unset, .unset, .unset, .unset, .unset, .unset, .unset, .unset] [(.long q3), (.int (0 : Int32)), (.ref b_119), (.ref b_119)])) _
      refine st_121 _ ?_
      show Steps p.tables e below (T_121.setTop (mkF m 42 #[.val (.long q1), .second, .val (.long q2), .second, .val (.long q3), .second, .val (.long q4), .second, .val (.long q5), .second, .val (.int p6), .val (.int (p6 &&& (3 : Int32))), .val (.ref b_107), .unset, .unset, .unset, .unset, .unset, .unset, .unset, .unset, .unset] [(.ref b_119)])) _
      refine XS.dup X_121.here hx rfl (hb hby at_42) rfl rfl ?_
      show Steps p.tables e below (T_121.setTop (mkF m 43 #[.val (.long q1), .second, .val (.long q2), .second, .val (.long q3), .second, .val (.long q4), .second, .val (.long q5), .second, .val (.int p6), .val (.int (p6 &&& (3 : Int32))), .val (.ref b_107), .unset, .unset, .unset, .unset, .unset, .unset, .unset, .unset, .unset] [(.ref b_119), (.ref b_119)])) _
      refine XS.iconst X_121.here hx rfl (hb hby at_43) ?_
      show Steps p.tables e below (T_121.setTop (mkF m 44 #[.val (.long q1), .second, .val (.long q2), .second, .val (.long q3), .second, .val (.long q4), .second, .val (.long q5), .second, .val (.int p6), .val (.int (p6 &&& (3 : Int32))), .val (.ref b_107), .unset, .unset, .unset, .unset, .unset, .unset, .unset, .unset, .unset] [(.int (1 : Int32)), (.ref b_119), (.ref b_119)])) _
      refine XS.lload X_121.here hx rfl (hb hby at_44) rfl ?_
      show Steps p.tables e below (T_121.setTop (mkF m 46 #[.val (.long q1), .second, .val (.long q2), .second, .val (.long q3), .second, .val (.long q4), .second, .val (.long q5), .second, .val (.int p6), .val (.int (p6 &&& (3 : Int32))), .val (.ref b_107), .unset, .unset, .unset, .unset, .unset, .unset, .unset, .unset, .unset] [(.long q5), (.int (1 : Int32)), (.ref b_119), (.ref b_119)])) _
      refine st_123 _ ?_
      show Steps p.tables e below (T_123.setTop (mkF m 47 #[.val (.long q1), .second, .val (.long q2), .second, .val (.long q3), .second, .val (.long q4), .second, .val (.long q5), .second, .val (.int p6), .val (.int (p6 &&& (3 : Int32))), .val (.ref b_107), .unset, .unset, .unset, .unset, .unset, .unset, .unset, .unset, .unset] [(.ref b_119)])) _
      refine XS.dup X_123.here hx rfl (hb hby at_47) rfl rfl ?_
      show Steps p.tables e below (T_123.setTop (mkF m 48 #[.val (.long q1), .second, .val (.long q2), .second, .val (.long q3), .second, .val (.long q4), .second, .val (.long q5), .second, .val (.int p6), .val (.int (p6 &&& (3 : Int32))), .val (.ref b_107), .unset, .unset, .unset, .unset, .unset, .unset, .unset, .unset, .unset] [(.ref b_119), (.ref b_119)])) _
      refine XS.iconst X_123.here hx rfl (hb hby at_48) ?_
      show Steps p.tables e below (T_123.setTop (mkF m 49 #[.val (.long q1), .second, .val (.long q2), .second, .val (.long q3), .second, .val (.long q4), .second, .val (.long q5), .second, .val (.int p6), .val (.int (p6 &&& (3 : Int32))), .val (.ref b_107), .unset, .unset, .unset, .unset, .unset, .unset, .unset, .unset, .unset] [(.int (2 : Int32)), (.ref b_119), (.ref b_119)])) _
      refine XS.lloadN X_123.here hx rfl (hb hby at_49) rfl ?_
      show Steps p.tables e below (T_123.setTop (mkF m 50 #[.val (.long q1), .second, .val (.long q2), .second, .val (.long q3), .second, .val (.long q4), .second, .val (.long q5), .second, .val (.int p6), .val (.int (p6 &&& (3 : Int32))), .val (.ref b_107), .unset, .unset, .unset, .unset, .unset, .unset, .unset, .unset, .unset] [(.long q1), (.int (2 : Int32)), (.ref b_119), (.ref b_119)])) _
      refine st_125 _ ?_
      show Steps p.tables e below (T_125.setTop (mkF m 51 #[.val (.long q1), .second, .val (.long q2), .second, .val (.long q3), .second, .val (.long q4), .second, .val (.long q5), .second, .val (.int p6), .val (.int (p6 &&& (3 : Int32))), .val (.ref b_107), .unset, .unset, .unset, .unset, .unset, .unset, .unset, .unset, .unset] [(.ref b_119)])) _
      refine XS.dup X_125.here hx rfl (hb hby at_51) rfl rfl ?_
      show Steps p.tables e below (T_125.setTop (mkF m 52 #[.val (.long q1), .second, .val (.long q2), .second, .val (.long q3), .second, .val (.long q4), .second, .val (.long q5), .second, .val (.int p6), .val (.int (p6 &&& (3 : Int32))), .val (.ref b_107), .unset, .unset, .unset, .unset, .unset, .unset, .unset, .unset, .unset] [(.ref b_119), (.ref b_119)])) _
      refine XS.iconst X_125.here hx rfl (hb hby at_52) ?_
      show Steps p.tables e below (T_125.setTop (mkF m 53 #[.val (.long q1), .second, .val (.long q2), .second, .val (.long q3), .second, .val (.long q4), .second, .val (.long q5), .second, .val (.int p6), .val (.int (p6 &&& (3 : Int32))), .val (.ref b_107), .unset, .unset, .unset, .unset, .unset, .unset, .unset, .unset, .unset] [(.int (3 : Int32)), (.ref b_119), (.ref b_119)])) _
      refine XS.lloadN X_125.here hx rfl (hb hby at_53) rfl ?_
      show Steps p.tables e below (T_125.setTop (mkF m 54 #[.val (.long q1), .second, .val (.long q2), .second, .val (.long q3), .second, .val (.long q4), .second, .val (.long q5), .second, .val (.int p6), .val (.int (p6 &&& (3 : Int32))), .val (.ref b_107), .unset, .unset, .unset, .unset, .unset, .unset, .unset, .unset, .unset] [(.long q2), (.int (3 : Int32)), (.ref b_119), (.ref b_119)])) _
      refine st_127 _ ?_
      show Steps p.tables e below (T_127.setTop (mkF m 55 #[.val (.long q1), .second, .val (.long q2), .second, .val (.long q3), .second, .val (.long q4), .second, .val (.long q5), .second, .val (.int p6), .val (.int (p6 &&& (3 : Int32))), .val (.ref b_107), .unset, .unset, .unset, .unset, .unset, .unset, .unset, .unset, .unset] [(.ref b_119)])) _
      refine XS.dup X_127.here hx rfl (hb hby at_55) rfl rfl ?_
      show Steps p.tables e below (T_127.setTop (mkF m 56 #[.val (.long q1), .second, .val (.long q2), .second, .val (.long q3), .second, .val (.long q4), .second, .val (.long q5), .second, .val (.int p6), .val (.int (p6 &&& (3 : Int32))), .val (.ref b_107), .unset, .unset, .unset, .unset, .unset, .unset, .unset, .unset, .unset] [(.ref b_119), (.ref b_119)])) _
      refine XS.iconst X_127.here hx rfl (hb hby at_56) ?_
      show Steps p.tables e below (T_127.setTop (mkF m 57 #[.val (.long q1), .second, .val (.long q2), .second, .val (.long q3), .second, .val (.long q4), .second, .val (.long q5), .second, .val (.int p6), .val (.int (p6 &&& (3 : Int32))), .val (.ref b_107), .unset, .unset, .unset, .unset, .unset, .unset, .unset, .unset, .unset] [(.int (4 : Int32)), (.ref b_119), (.ref b_119)])) _
      refine XS.lload X_127.here hx rfl (hb hby at_57) rfl ?_
      show Steps p.tables e below (T_127.setTop (mkF m 59 #[.val (.long q1), .second, .val (.long q2), .second, .val (.long q3), .second, .val (.long q4), .second, .val (.long q5), .second, .val (.int p6), .val (.int (p6 &&& (3 : Int32))), .val (.ref b_107), .unset, .unset, .unset, .unset, .unset, .unset, .unset, .unset, .unset] [(.long q4), (.int (4 : Int32)), (.ref b_119), (.ref b_119)])) _
      refine st_129 _ ?_
      show Steps p.tables e below (T_129.setTop (mkF m 60 #[.val (.long q1), .second, .val (.long q2), .second, .val (.long q3), .second, .val (.long q4), .second, .val (.long q5), .second, .val (.int p6), .val (.int (p6 &&& (3 : Int32))), .val (.ref b_107), .unset, .unset, .unset, .unset, .unset, .unset, .unset, .unset, .unset] [(.ref b_119)])) _
      refine XS.astore X_129.here hx rfl (hb hby at_60) rfl rfl (l' := #[.val (.long q1), .second, .val (.long q2), .second, .val (.long q3), .second, .val (.long q4), .second, .val (.long q5), .second, .val (.int p6), .val (.int (p6 &&& (3 : Int32))), .val (.ref b_107), .val (.ref b_119), .unset, .unset, .unset, .unset, .unset, .unset, .unset, .unset]) rfl ?_
      show Steps p.tables e below (T_129.setTop (mkF m 62 #[.val (.long q1), .second, .val (.long q2), .second, .val (.long q3), .second, .val (.long q4), .second, .val (.long q5), .second, .val (.int p6), .val (.int (p6 &&& (3 : Int32))), .val (.ref b_107), .val (.ref b_119), .unset, .unset, .unset, .unset, .unset, .unset, .unset, .unset] [])) _
      refine XS.iconst X_129.here hx rfl (hb hby at_62) ?_
      show Steps p.tables e below (T_129.setTop (mkF m 63 #[.val (.long q1), .second, .val (.long q2), .second, .val (.long q3), .second, .val (.long q4), .second, .val (.long q5), .second, .val (.int p6), .val (.int (p6 &&& (3 : Int32))), .val (.ref b_107), .val (.ref b_119), .unset, .unset, .unset, .unset, .unset, .unset, .unset, .unset] [(.int (5 : Int32))])) _
      refine st_132 _ ?_
      show Steps p.tables e below (T_132.setTop (mkF m 65 #[.val (.long q1), .second, .val (.long q2), .second, .val (.long q3), .second, .val (.long q4), .second, .val (.long q5), .second, .val (.int p6), .val (.int (p6 &&& (3 : Int32))), .val (.ref b_107), .val (.ref b_119), .unset, .unset, .unset, .unset, .unset, .unset, .unset, .unset] [(.ref b_132)])) _
      refine XS.dup X_132.here hx rfl (hb hby at_65) rfl rfl ?_
      show Steps p.tables e below (T_132.setTop (mkF m 66 #[.val (.long q1), .second, .val (.long q2), .second, .val (.long q3), .second, .val (.long q4), .second, .val (.long q5), .second, .val (.int p6), .val (.int (p6 &&& (3 : Int32))), .val (.ref b_107), .val (.ref b_119), .unset, .unset, .unset, .unset, .unset, .unset, .unset, .unset] [(.ref b_132), (.ref b_132)])) _
      refine XS.iconst X_132.here hx rfl (hb hby at_66) ?_
      show Steps p.tables e below (T_132.setTop (mkF m 67 #[.val (.long q1), .second, .val (.long q2), .second, .val (.long q3), .second, .val (.long q4), .second, .val (.long q5), .second, .val (.int p6), .val (.int (p6 &&& (3 : Int32))), .val (.ref b_107), .val (.ref b_119), .unset, .unset, .unset, .unset, .unset, .unset, .unset, .unset] [(.int (0 : Int32)), (.ref b_132), (.ref b_132)])) _
      refine XS.lload X_132.here hx rfl (hb hby at_67) rfl ?_
      show Steps p.tables e below (T_132.setTop (mkF m 69 #[.val (.long q1), .second, .val (.long q2), .second, .val (.long q3), .second, .val (.long q4), .second, .val (.long q5), .second, .val (.int p6), .val (.int (p6 &&& (3 : Int32))), .val (.ref b_107), .val (.ref b_119), .unset, .unset, .unset, .unset, .unset, .unset, .unset, .unset] [(.long q5), (.int (0 : Int32)), (.ref b_132), (.ref b_132)])) _
      refine st_134 _ ?_
      show Steps p.tables e below (T_134.setTop (mkF m 70 #[.val (.long q1), .second, .val (.long q2), .second, .val (.long q3), .second, .val (.long q4), .second, .val (.long q5), .second, .val (.int p6), .val (.int (p6 &&& (3 : Int32))), .val (.ref b_107), .val (.ref b_119), .unset, .unset, .unset, .unset, .unset, .unset, .unset, .unset] [(.ref b_132)])) _
      refine XS.dup X_134.here hx rfl (hb hby at_70) rfl rfl ?_
      show Steps p.tables e below (T_134.setTop (mkF m 71 #[.val (.long q1), .second, .val (.long q2), .second, .val (.long q3), .second, .val (.long q4), .second, .val (.long q5), .second, .val (.int p6), .val (.int (p6 &&& (3 : Int32))), .val (.ref b_107), .val (.ref b_119), .unset, .unset, .unset, .unset, .unset, .unset, .unset, .unset] [(.ref b_132), (.ref b_132)])) _
      refine XS.iconst X_134.here hx rfl (hb hby at_71) ?_
      show Steps p.tables e below (T_134.setTop (mkF m 72 #[.val (.long q1), .second, .val (.long q2), .second, .val (.long q3), .second, .val (.long q4), .second, .val (.long q5), .second, .val (.int p6), .val (.int (p6 &&& (3 : Int32))), .val (.ref b_107), .val (.ref b_119), .unset, .unset, .unset, .unset, .unset, .unset, .unset, .unset] [(.int (1 : Int32)), (.ref b_132), (.ref b_132)])) _
      refine XS.lload X_134.here hx rfl (hb hby at_72) rfl ?_
      show Steps p.tables e below (T_134.setTop (mkF m 74 #[.val (.long q1), .second, .val (.long q2), .second, .val (.long q3), .second, .val (.long q4), .second, .val (.long q5), .second, .val (.int p6), .val (.int (p6 &&& (3 : Int32))), .val (.ref b_107), .val (.ref b_119), .unset, .unset, .unset, .unset, .unset, .unset, .unset, .unset] [(.long q4), (.int (1 : Int32)), (.ref b_132), (.ref b_132)])) _
      refine st_136 _ ?_
      show Steps p.tables e below (T_136.setTop (mkF m 75 #[.val (.long q1), .second, .val (.long q2), .second, .val (.long q3), .second, .val (.long q4), .second, .val (.long q5), .second, .val (.int p6), .val (.int (p6 &&& (3 : Int32))), .val (.ref b_107), .val (.ref b_119), .unset, .unset, .unset, .unset, .unset, .unset, .unset, .unset] [(.ref b_132)])) _
      refine XS.dup X_136.here hx rfl (hb hby at_75) rfl rfl ?_
      show Steps p.tables e below (T_136.setTop (mkF m 76 #[.val (.long q1), .second, .val (.long q2), .second, .val (.long q3), .second, .val (.long q4), .second, .val (.long q5), .second, .val (.int p6), .val (.int (p6 &&& (3 : Int32))), .val (.ref b_107), .val (.ref b_119), .unset, .unset, .unset, .unset, .unset, .unset, .unset, .unset] [(.ref b_132), (.ref b_132)])) _
      refine XS.iconst X_136.here hx rfl (hb hby at_76) ?_
      show Steps p.tables e below (T_136.setTop (mkF m 77 #[.val (.long q1), .second, .val (.long q2), .second, .val (.long q3), .second, .val (.long q4), .second, .val (.long q5), .second, .val (.int p6), .val (.int (p6 &&& (3 : Int32))), .val (.ref b_107), .val (.ref b_119), .unset, .unset, .unset, .unset, .unset, .unset, .unset, .unset] [(.int (2 : Int32)), (.ref b_132), (.ref b_132)])) _
      refine XS.lload X_136.here hx rfl (hb hby at_77) rfl ?_
      show Steps p.tables e below (T_136.setTop (mkF m 79 #[.val (.long q1), .second, .val (.long q2), .second, .val (.long q3), .second, .val (.long q4), .second, .val (.long q5), .second, .val (.int p6), .val (.int (p6 &&& (3 : Int32))), .val (.ref b_107), .val (.ref b_119), .unset, .unset, .unset, .unset, .unset, .unset, .unset, .unset] [(.long q3), (.int (2 : Int32)), (.ref b_132), (.ref b_132)])) _
      refine st_138 _ ?_
      show Steps p.tables e below (T_138.setTop (mkF m 80 #[.val (.long q1), .second, .val (.long q2), .second, .val (.long q3), .second, .val (.long q4), .second, .val (.long q5), .second, .val (.int p6), .val (.int (p6 &&& (3 : Int32))), .val (.ref b_107), .val (.ref b_119), .unset, .unset, .unset, .unset, .unset, .unset, .unset, .unset] [(.ref b_132)])) _
      refine XS.dup X_138.here hx rfl (hb hby at_80) rfl rfl ?_
      show Steps p.tables e below (T_138.setTop (mkF m 81 #[.val (.long q1), .second, .val (.long q2), .second, .val (.long q3), .second, .val (.long q4), .second, .val (.long q5), .second, .val (.int p6), .val (.int (p6 &&& (3 : Int32))), .val (.ref b_107), .val (.ref b_119), .unset, .unset, .unset, .unset, .unset, .unset, .unset, .unset] [(.ref b_132), (.ref b_132)])) _
      refine XS.iconst X_138.here hx rfl (hb hby at_81) ?_
      show Steps p.tables e below (T_138.setTop (mkF m 82 #[.val (.long q1), .second, .val (.long q2), .second, .val (.long q3), .second, .val (.long q4), .second, .val (.long q5), .second, .val (.int p6), .val (.int (p6 &&& (3 : Int32))), .val (.ref b_107), .val (.ref b_119), .unset, .unset, .unset, .unset, .unset, .unset, .unset, .unset] [(.int (3 : Int32)), (.ref b_132), (.ref b_132)])) _
      refine XS.lloadN X_138.here hx rfl (hb hby at_82) rfl ?_
      show Steps p.tables e below (T_138.setTop (mkF m 83 #[.val (.long q1), .second, .val (.long q2), .second, .val (.long q3), .second, .val (.long q4), .second, .val (.long q5), .second, .val (.int p6), .val (.int (p6 &&& (3 : Int32))), .val (.ref b_107), .val (.ref b_119), .unset, .unset, .unset, .unset, .unset, .unset, .unset, .unset] [(.long q2), (.int (3 : Int32)), (.ref b_132), (.ref b_132)])) _
      refine st_140 _ ?_
      show Steps p.tables e below (T_140.setTop (mkF m 84 #[.val (.long q1), .second, .val (.long q2), .second, .val (.long q3), .second, .val (.long q4), .second, .val (.long q5), .second, .val (.int p6), .val (.int (p6 &&& (3 : Int32))), .val (.ref b_107), .val (.ref b_119), .unset, .unset, .unset, .unset, .unset, .unset, .unset, .unset] [(.ref b_132)])) _
      refine XS.dup X_140.here hx rfl (hb hby at_84) rfl rfl ?_
      show Steps p.tables e below (T_140.setTop (mkF m 85 #[.val (.long q1), .second, .val (.long q2), .second, .val (.long q3), .second, .val (.long q4), .second, .val (.long q5), .second, .val (.int p6), .val (.int (p6 &&& (3 : Int32))), .val (.ref b_107), .val (.ref b_119), .unset, .unset, .unset, .unset, .unset, .unset, .unset, .unset] [(.ref b_132), (.ref b_132)])) _
      refine XS.iconst X_140.here hx rfl (hb hby at_85) ?_
      show Steps p.tables e below (T_140.setTop (mkF m 86 #[.val (.long q1), .second, .val (.long q2), .second, .val (.long q3), .second, .val (.long q4), .second, .val (.long q5), .second, .val (.int p6), .val (.int (p6 &&& (3 : Int32))), .val (.ref b_107), .val (.ref b_119), .unset, .unset, .unset, .unset, .unset, .unset, .unset, .unset] [(.int (4 : Int32)), (.ref b_132), (.ref b_132)])) _
      refine XS.lloadN X_140.here hx rfl (hb hby at_86) rfl ?_
      show Steps p.tables e below (T_140.setTop (mkF m 87 #[.val (.long q1), .second, .val (.long q2), .second, .val (.long q3), .second, .val (.long q4), .second, .val (.long q5), .second, .val (.int p6), .val (.int (p6 &&& (3 : Int32))), .val (.ref b_107), .val (.ref b_119), .unset, .unset, .unset, .unset, .unset, .unset, .unset, .unset] [(.long q1), (.int (4 : Int32)), (.ref b_132), (.ref b_132)])) _
      refine st_142 _ ?_
      show Steps p.tables e below (T_142.setTop (mkF m 88 #[.val (.long q1), .second, .val (.long q2), .second, .val (.long q3), .second, .val (.long q4), .second, .val (.long q5), .second, .val (.int p6), .val (.int (p6 &&& (3 : Int32))), .val (.ref b_107), .val (.ref b_119), .unset, .unset, .unset, .unset, .unset, .unset, .unset, .unset] [(.ref b_132)])) _
      refine XS.astore X_142.here hx rfl (hb hby at_88) rfl rfl (l' := #[.val (.long q1), .second, .val (.long q2), .second, .val (.long q3), .second, .val (.long q4), .second, .val (.long q5), .second, .val (.int p6), .val (.int (p6 &&& (3 : Int32))), .val (.ref b_107), .val (.ref b_119), .val (.ref b_132), .unset, .unset, .unset, .unset, .unset, .unset, .unset]) rfl ?_
      show Steps p.tables e below (T_142.setTop (mkF m 90 #[.val (.long q1), .second, .val (.long q2), .second, .val (.long q3), .second, .val (.long q4), .second, .val (.long q5), .second, .val (.int p6), .val (.int (p6 &&& (3 : Int32))), .val (.ref b_107), .val (.ref b_119), .val (.ref b_132), .unset, .unset, .unset, .unset, .unset, .unset, .unset] [])) _
      refine XS.iconst X_142.here hx rfl (hb hby at_90) ?_
      show Steps p.tables e below (T_142.setTop (mkF m 91 #[.val (.long q1), .second, .val (.long q2), .second, .val (.long q3), .second, .val (.long q4), .second, .val (.long q5), .second, .val (.int p6), .val (.int (p6 &&& (3 : Int32))), .val (.ref b_107), .val (.ref b_119), .val (.ref b_132), .unset, .unset, .unset, .unset, .unset, .unset, .unset] [(.int (5 : Int32))])) _
      refine st_146 _ ?_
      show Steps p.tables e below (T_146.setTop (mkF m 93 #[.val (.long q1), .second, .val (.long q2), .second, .val (.long q3), .second, .val (.long q4), .second, .val (.long q5), .second, .val (.int p6), .val (.int (p6 &&& (3 : Int32))), .val (.ref b_107), .val (.ref b_119), .val (.ref b_132), .unset, .unset, .unset, .unset, .unset, .unset, .unset] [(.ref b_146)])) _
      refine XS.dup X_146.here hx rfl (hb hby at_93) rfl rfl ?_
      show Steps p.tables e below (T_146.setTop (mkF m 94 #[.val (.long q1), .second, .val (.long q2), .second, .val (.long q3), .second, .val (.long q4), .second, .val (.long q5), .second, .val (.int p6), .val (.int (p6 &&& (3 : Int32))), .val (.ref b_107), .val (.ref b_119), .val (.ref b_132), .unset, .unset, .unset, .unset, .unset, .unset, .unset] [(.ref b_146), (.ref b_146)])) _
      refine XS.iconst X_146.here hx rfl (hb hby at_94) ?_
      show Steps p.tables e below (T_146.setTop (mkF m 95 #[.val (.long q1), .second, .val (.long q2), .second, .val (.long q3), .second, .val (.long q4), .second, .val (.long q5), .second, .val (.int p6), .val (.int (p6 &&& (3 : Int32))), .val (.ref b_107), .val (.ref b_119), .val (.ref b_132), .unset, .unset, .unset, .unset, .unset, .unset, .unset] [(.int (0 : Int32)), (.ref b_146), (.ref b_146)])) _
      refine XS.lloadN X_146.here hx rfl (hb hby at_95) rfl ?_
      show Steps p.tables e below (T_146.setTop (mkF m 96 #[.val (.long q1), .second, .val (.long q2), .second, .val (.long q3), .second, .val (.long q4), .second, .val (.long q5), .second, .val (.int p6), .val (.int (p6 &&& (3 : Int32))), .val (.ref b_107), .val (.ref b_119), .val (.ref b_132), .unset, .unset, .unset, .unset, .unset, .unset, .unset] [(.long q1), (.int (0 : Int32)), (.ref b_146), (.ref b_146)])) _
      refine st_148 _ ?_
      show Steps p.tables e below (T_148.setTop (mkF m 97 #[.val (.long q1), .second, .val (.long q2), .second, .val (.long q3), .second, .val (.long q4), .second, .val (.long q5), .second, .val (.int p6), .val (.int (p6 &&& (3 : Int32))), .val (.ref b_107), .val (.ref b_119), .val (.ref b_132), .unset, .unset, .unset, .unset, .unset, .unset, .unset] [(.ref b_146)])) _
      refine XS.dup X_148.here hx rfl (hb hby at_97) rfl rfl ?_
      show Steps p.tables e below (T_148.setTop (mkF m 98 #[.val (.long q1), .second, .val (.long q2), .second, .val (.long q3), .second, .val (.long q4), .second, .val (.long q5), .second, .val (.int p6), .val (.int (p6 &&& (3 : Int32))), .val (.ref b_107), .val (.ref b_119), .val (.ref b_132), .unset, .unset, .unset, .unset, .unset, .unset, .unset] [(.ref b_146), (.ref b_146)])) _
      refine XS.iconst X_148.here hx rfl (hb hby at_98) ?_
      show Steps p.tables e below (T_148.setTop (mkF m 99 #[.val (.long q1), .second, .val (.long q2), .second, .val (.long q3), .second, .val (.long q4), .second, .val (.long q5), .second, .val (.int p6), .val (.int (p6 &&& (3 : Int32))), .val (.ref b_107), .val (.ref b_119), .val (.ref b_132), .unset, .unset, .unset, .unset, .unset, .unset, .unset] [(.int (1 : Int32)), (.ref b_146), (.ref b_146)])) _
      refine XS.lloadN X_148.here hx rfl (hb hby at_99) rfl ?_
      show Steps p.tables e below (T_148.setTop (mkF m 100 #[.val (.long q1), .second, .val (.long q2), .second, .val (.long q3), .second, .val (.long q4), .second, .val (.long q5), .second, .val (.int p6), .val (.int (p6 &&& (3 : Int32))), .val (.ref b_107), .val (.ref b_119), .val (.ref b_132), .unset, .unset, .unset, .unset, .unset, .unset, .unset] [(.long q2), (.int (1 : Int32)), (.ref b_146), (.ref b_146)])) _
      refine st_150 _ ?_
      show Steps p.tables e below (T_150.setTop (mkF m 101 #[.val (.long q1), .second, .val (.long q2), .second, .val (.long q3), .second, .val (.long q4), .second, .val (.long q5), .second, .val (.int p6), .val (.int (p6 &&& (3 : Int32))), .val (.ref b_107), .val (.ref b_119), .val (.ref b_132), .unset, .unset, .unset, .unset, .unset, .unset, .unset] [(.ref b_146)])) _
      refine XS.dup X_150.here hx rfl (hb hby at_101) rfl rfl ?_
      show Steps p.tables e below (T_150.setTop (mkF m 102 #[.val (.long q1), .second, .val (.long q2), .second, .val (.long q3), .second, .val (.long q4), .second, .val (.long q5), .second, .val (.int p6), .val (.int (p6 &&& (3 : Int32))), .val (.ref b_107), .val (.ref b_119), .val (.ref b_132), .unset, .unset, .unset, .unset, .unset, .unset, .unset] [(.ref b_146), (.ref b_146)])) _
      refine XS.iconst X_150.here hx rfl (hb hby at_102) ?_
      show Steps p.tables e below (T_150.setTop (mkF m 103 #[.val (.long q1), .second, .val (.long q2), .second, .val (.long q3), .second, .val (.long q4), .second, .val (.long q5), .second, .val (.int p6), .val (.int (p6 &&& (3 : Int32))), .val (.ref b_107), .val (.ref b_119), .val (.ref b_132), .unset, .unset, .unset, .unset, .unset, .unset, .unset] [(.int (2 : Int32)), (.ref b_146), (.ref b_146)])) _
      refine XS.lload X_150.here hx rfl (hb hby at_103) rfl ?_
      show Steps p.tables e below (T_150.setTop (mkF m 105 #[.val (.long q1), .second, .val (.long q2), .second, .val (.long q3), .second, .val (.long q4), .second, .val (.long q5), .second, .val (.int p6), .val (.int (p6 &&& (3 : Int32))), .val (.ref b_107), .val (.ref b_119), .val (.ref b_132), .unset, .unset, .unset, .unset, .unset, .unset, .unset] [(.long q3), (.int (2 : Int32)), (.ref b_146), (.ref b_146)])) _
      refine st_152 _ ?_
      show Steps p.tables e below (T_152.setTop (mkF m 106 #[.val (.long q1), .second, .val (.long q2), .second, .val (.long q3), .second, .val (.long q4), .second, .val (.long q5), .second, .val (.int p6), .val (.int (p6 &&& (3 : Int32))), .val (.ref b_107), .val (.ref b_119), .val (.ref b_132), .unset, .unset, .unset, .unset, .unset, .unset, .unset] [(.ref b_146)])) _
      refine XS.dup X_152.here hx rfl (hb hby at_106) rfl rfl ?_
      show Steps p.tables e below (T_152.setTop (mkF m 107 #[.val (.long q1), .second, .val (.long q2), .second, .val (.long q3), .second, .val (.long q4), .second, .val (.long q5), .second, .val (.int p6), .val (.int (p6 &&& (3 : Int32))), .val (.ref b_107), .val (.ref b_119), .val (.ref b_132), .unset, .unset, .unset, .unset, .unset, .unset, .unset] [(.ref b_146), (.ref b_146)])) _
      refine XS.iconst X_152.here hx rfl (hb hby at_107) ?_
      show Steps p.tables e below (T_152.setTop (mkF m 108 #[.val (.long q1), .second, .val (.long q2), .second, .val (.long q3), .second, .val (.long q4), .second, .val (.long q5), .second, .val (.int p6), .val (.int (p6 &&& (3 : Int32))), .val (.ref b_107), .val (.ref b_119), .val (.ref b_132), .unset, .unset, .unset, .unset, .unset, .unset, .unset] [(.int (3 : Int32)), (.ref b_146), (.ref b_146)])) _
      refine XS.lload X_152.here hx rfl (hb hby at_108) rfl ?_
      show Steps p.tables e below (T_152.setTop (mkF m 110 #[.val (.long q1), .second, .val (.long q2), .second, .val (.long q3), .second, .val (.long q4), .second, .val (.long q5), .second, .val (.int p6), .val (.int (p6 &&& (3 : Int32))), .val (.ref b_107), .val (.ref b_119), .val (.ref b_132), .unset, .unset, .unset, .unset, .unset, .unset, .unset] [(.long q4), (.int (3 : Int32)), (.ref b_146), (.ref b_146)])) _
      refine st_154 _ ?_
      show Steps p.tables e below (T_154.setTop (mkF m 111 #[.val (.long q1), .second, .val (.long q2), .second, .val (.long q3), .second, .val (.long q4), .second, .val (.long q5), .second, .val (.int p6), .val (.int (p6 &&& (3 : Int32))), .val (.ref b_107), .val (.ref b_119), .val (.ref b_132), .unset, .unset, .unset, .unset, .unset, .unset, .unset] [(.ref b_146)])) _
      refine XS.dup X_154.here hx rfl (hb hby at_111) rfl rfl ?_
      show Steps p.tables e below (T_154.setTop (mkF m 112 #[.val (.long q1), .second, .val (.long q2), .second, .val (.long q3), .second, .val (.long q4), .second, .val (.long q5), .second, .val (.int p6), .val (.int (p6 &&& (3 : Int32))), .val (.ref b_107), .val (.ref b_119), .val (.ref b_132), .unset, .unset, .unset, .unset, .unset, .unset, .unset] [(.ref b_146), (.ref b_146)])) _
      refine XS.iconst X_154.here hx rfl (hb hby at_112) ?_
      show Steps p.tables e below (T_154.setTop (mkF m 113 #[.val (.long q1), .second, .val (.long q2), .second, .val (.long q3), .second, .val (.long q4), .second, .val (.long q5), .second, .val (.int p6), .val (.int (p6 &&& (3 : Int32))), .val (.ref b_107), .val (.ref b_119), .val (.ref b_132), .unset, .unset, .unset, .unset, .unset, .unset, .unset] [(.int (4 : Int32)), (.ref b_146), (.ref b_146)])) _
      refine XS.lload X_154.here hx rfl (hb hby at_113) rfl ?_
      show Steps p.tables e below (T_154.setTop (mkF m 115 #[.val (.long q1), .second, .val (.long q2), .second, .val (.long q3), .second, .val (.long q4), .second, .val (.long q5), .second, .val (.int p6), .val (.int (p6 &&& (3 : Int32))), .val (.ref b_107), .val (.ref b_119), .val (.ref b_132), .unset, .unset, .unset, .unset, .unset, .unset, .unset] [(.long q5), (.int (4 : Int32)), (.ref b_146), (.ref b_146)])) _
      refine st_156 _ ?_
      show Steps p.tables e below (T_156.setTop (mkF m 116 #[.val (.long q1), .second, .val (.long q2), .second, .val (.long q3), .second, .val (.long q4), .second, .val (.long q5), .second, .val (.int p6), .val (.int (p6 &&& (3 : Int32))), .val (.ref b_107), .val (.ref b_119), .val (.ref b_132), .unset, .unset, .unset, .unset, .unset, .unset, .unset] [(.ref b_146)])) _
      refine XS.astore X_156.here hx rfl (hb hby at_116) rfl rfl (l' := #[.val (.long q1), .second, .val (.long q2), .second, .val (.long q3), .second, .val (.long q4), .second, .val (.long q5), .second, .val (.int p6), .val (.int (p6 &&& (3 : Int32))), .val (.ref b_107), .val (.ref b_119), .val (.ref b_132), .val (.ref b_146), .unset, .unset, .unset, .unset, .unset, .unset]) rfl ?_
      show Steps p.tables e below (T_156.setTop (mkF m 118 #[.val (.long q1), .second, .val (.long q2), .second, .val (.long q3), .second, .val (.long q4), .second, .val (.long q5), .second, .val (.int p6), .val (.int (p6 &&& (3 : Int32))), .val (.ref b_107), .val (.ref b_119), .val (.ref b_132), .val (.ref b_146), .unset, .unset, .unset, .unset, .unset, .unset] [])) _
      refine XS.iconst X_156.here hx rfl (hb hby at_118) ?_
      show Steps p.tables e below (T_156.setTop (mkF m 119 #[.val (.long q1), .second, .val (.long q2), .second, .val (.long q3), .second, .val (.long q4), .second, .val (.long q5), .second, .val (.int p6), .val (.int (p6 &&& (3 : Int32))), .val (.ref b_107), .val (.ref b_119), .val (.ref b_132), .val (.ref b_146), .unset, .unset, .unset, .unset, .unset, .unset] [(.int (5 : Int32))])) _
      refine st_161 _ ?_
      show Steps p.tables e below (T_161.setTop (mkF m 121 #[.val (.long q1), .second, .val (.long q2), .second, .val (.long q3), .second, .val (.long q4), .second, .val (.long q5), .second, .val (.int p6), .val (.int (p6 &&& (3 : Int32))), .val (.ref b_107), .val (.ref b_119), .val (.ref b_132), .val (.ref b_146), .unset, .unset, .unset, .unset, .unset, .unset] [(.ref b_161)])) _
      refine XS.dup X_161.here hx rfl (hb hby at_121) rfl rfl ?_
      show Steps p.tables e below (T_161.setTop (mkF m 122 #[.val (.long q1), .second, .val (.long q2), .second, .val (.long q3), .second, .val (.long q4), .second, .val (.long q5), .second, .val (.int p6), .val (.int (p6 &&& (3 : Int32))), .val (.ref b_107), .val (.ref b_119), .val (.ref b_132), .val (.ref b_146), .unset, .unset, .unset, .unset, .unset, .unset] [(.ref b_161), (.ref b_161)])) _
      refine XS.iconst X_161.here hx rfl (hb hby at_122) ?_
      show Steps p.tables e below (T_161.setTop (mkF m 123 #[.val (.long q1), .second, .val (.long q2), .second, .val (.long q3), .second, .val (.long q4), .second, .val (.long q5), .second, .val (.int p6), .val (.int (p6 &&& (3 : Int32))), .val (.ref b_107), .val (.ref b_119), .val (.ref b_132), .val (.ref b_146), .unset, .unset, .unset, .unset, .unset, .unset] [(.int (0 : Int32)), (.ref b_161), (.ref b_161)])) _
      refine XS.lload X_161.here hx rfl (hb hby at_123) rfl ?_
      show Steps p.tables e below (T_161.setTop (mkF m 125 #[.val (.long q1), .second, .val (.long q2), .second, .val (.long q3), .second, .val (.long q4), .second, .val (.long q5), .second, .val (.int p6), .val (.int (p6 &&& (3 : Int32))), .val (.ref b_107), .val (.ref b_119), .val (.ref b_132), .val (.ref b_146), .unset, .unset, .unset, .unset, .unset, .unset] [(.long q3), (.int (0 : Int32)), (.ref b_161), (.ref b_161)])) _
      refine st_163 _ ?_
      show Steps p.tables e below (T_163.setTop (mkF m 126 #[.val (.long q1), .second, .val (.long q2), .second, .val (.long q3), .second, .val (.long q4), .second, .val (.long q5), .second, .val (.int p6), .val (.int (p6 &&& (3 : Int32))), .val (.ref b_107), .val (.ref b_119), .val (.ref b_132), .val (.ref b_146), .unset, .unset, .unset, .unset, .unset, .unset] [(.ref b_161)])) _
      refine XS.dup X_163.here hx rfl (hb hby at_126) rfl rfl ?_
      show Steps p.tables e below (T_163.setTop (mkF m 127 #[.val (.long q1), .second, .val (.long q2), .second, .val (.long q3), .second, .val (.long q4), .second, .val (.long q5), .second, .val (.int p6), .val (.int (p6 &&& (3 : Int32))), .val (.ref b_107), .val (.ref b_119), .val (.ref b_132), .val (.ref b_146), .unset, .unset, .unset, .unset, .unset, .unset] [(.ref b_161), (.ref b_161)])) _
      refine XS.iconst X_163.here hx rfl (hb hby at_127) ?_
      show Steps p.tables e below (T_163.setTop (mkF m 128 #[.val (.long q1), .second, .val (.long q2), .second, .val (.long q3), .second, .val (.long q4), .second, .val (.long q5), .second, .val (.int p6), .val (.int (p6 &&& (3 : Int32))), .val (.ref b_107), .val (.ref b_119), .val (.ref b_132), .val (.ref b_146), .unset, .unset, .unset, .unset, .unset, .unset] [(.int (1 : Int32)), (.ref b_161), (.ref b_161)])) _
      refine XS.lload X_163.here hx rfl (hb hby at_128) rfl ?_
      show Steps p.tables e below (T_163.setTop (mkF m 130 #[.val (.long q1), .second, .val (.long q2), .second, .val (.long q3), .second, .val (.long q4), .second, .val (.long q5), .second, .val (.int p6), .val (.int (p6 &&& (3 : Int32))), .val (.ref b_107), .val (.ref b_119), .val (.ref b_132), .val (.ref b_146), .unset, .unset, .unset, .unset, .unset, .unset] [(.long q5), (.int (1 : Int32)), (.ref b_161), (.ref b_161)])) _
      refine st_165 _ ?_
      show Steps p.tables e below (T_165.setTop (mkF m 131 #[.val (.long q1), .second, .val (.long q2), .second, .val (.long q3), .second, .val (.long q4), .second, .val (.long q5), .second, .val (.int p6), .val (.int (p6 &&& (3 : Int32))), .val (.ref b_107), .val (.ref b_119), .val (.ref b_132), .val (.ref b_146), .unset, .unset, .unset, .unset, .unset, .unset] [(.ref b_161)])) _
      refine XS.dup X_165.here hx rfl (hb hby at_131) rfl rfl ?_
      show Steps p.tables e below (T_165.setTop (mkF m 132 #[.val (.long q1), .second, .val (.long q2), .second, .val (.long q3), .second, .val (.long q4), .second, .val (.long q5), .second, .val (.int p6), .val (.int (p6 &&& (3 : Int32))), .val (.ref b_107), .val (.ref b_119), .val (.ref b_132), .val (.ref b_146), .unset, .unset, .unset, .unset, .unset, .unset] [(.ref b_161), (.ref b_161)])) _
      refine XS.iconst X_165.here hx rfl (hb hby at_132) ?_
      show Steps p.tables e below (T_165.setTop (mkF m 133 #[.val (.long q1), .second, .val (.long q2), .second, .val (.long q3), .second, .val (.long q4), .second, .val (.long q5), .second, .val (.int p6), .val (.int (p6 &&& (3 : Int32))), .val (.ref b_107), .val (.ref b_119), .val (.ref b_132), .val (.ref b_146), .unset, .unset, .unset, .unset, .unset, .unset] [(.int (2 : Int32)), (.ref b_161), (.ref b_161)])) _
      refine XS.lloadN X_165.here hx rfl (hb hby at_133) rfl ?_
      show Steps p.tables e below (T_165.setTop (mkF m 134 #[.val (.long q1), .second, .val (.long q2), .second, .val (.long q3), .second, .val (.long q4), .second, .val (.long q5), .second, .val (.int p6), .val (.int (p6 &&& (3 : Int32))), .val (.ref b_107), .val (.ref b_119), .val (.ref b_132), .val (.ref b_146), .unset, .unset, .unset, .unset, .unset, .unset] [(.long q1), (.int (2 : Int32)), (.ref b_161), (.ref b_161)])) _
      refine st_167 _ ?_
      show Steps p.tables e below (T_167.setTop (mkF m 135 #[.val (.long q1), .second, .val (.long q2), .second, .val (.long q3), .second, .val (.long q4), .second, .val (.long q5), .second, .val (.int p6), .val (.int (p6 &&& (3 : Int32))), .val (.ref b_107), .val (.ref b_119), .val (.ref b_132), .val (.ref b_146), .unset, .unset, .unset, .unset, .unset, .unset] [(.ref b_161)])) _
      refine XS.dup X_167.here hx rfl (hb hby at_135) rfl rfl ?_
      show Steps p.tables e below (T_167.setTop (mkF m 136 #[.val (.long q1), .second, .val (.long q2), .second, .val (.long q3), .second, .val (.long q4), .second, .val (.long q5), .second, .val (.int p6), .val (.int (p6 &&& (3 : Int32))), .val (.ref b_107), .val (.ref b_119), .val (.ref b_132), .val (.ref b_146), .unset, .unset, .unset, .unset, .unset, .unset] [(.ref b_161), (.ref b_161)])) _
      refine XS.iconst X_167.here hx rfl (hb hby at_136) ?_
      show Steps p.tables e below (T_167.setTop (mkF m 137 #[.val (.long q1), .second, .val (.long q2), .second, .val (.long q3), .second, .val (.long q4), .second, .val (.long q5), .second, .val (.int p6), .val (.int (p6 &&& (3 : Int32))), .val (.ref b_107), .val (.ref b_119), .val (.ref b_132), .val (.ref b_146), .unset, .unset, .unset, .unset, .unset, .unset] [(.int (3 : Int32)), (.ref b_161), (.ref b_161)])) _
      refine XS.lloadN X_167.here hx rfl (hb hby at_137) rfl ?_
      show Steps p.tables e below (T_167.setTop (mkF m 138 #[.val (.long q1), .second, .val (.long q2), .second, .val (.long q3), .second, .val (.long q4), .second, .val (.long q5), .second, .val (.int p6), .val (.int (p6 &&& (3 : Int32))), .val (.ref b_107), .val (.ref b_119), .val (.ref b_132), .val (.ref b_146), .unset, .unset, .unset, .unset, .unset, .unset] [(.long q2), (.int (3 : Int32)), (.ref b_161), (.ref b_161)])) _
      refine st_169 _ ?_
      show Steps p.tables e below (T_169.setTop (mkF m 139 #[.val (.long q1), .second, .val (.long q2), .second, .val (.long q3), .second, .val (.long q4), .second, .val (.long q5), .second, .val (.int p6), .val (.int (p6 &&& (3 : Int32))), .val (.ref b_107), .val (.ref b_119), .val (.ref b_132), .val (.ref b_146), .unset, .unset, .unset, .unset, .unset, .unset] [(.ref b_161)])) _
      refine XS.dup X_169.here hx rfl (hb hby at_139) rfl rfl ?_
      show Steps p.tables e below (T_169.setTop (mkF m 140 #[.val (.long q1), .second, .val (.long q2), .second, .val (.long q3), .second, .val (.long q4), .second, .val (.long q5), .second, .val (.int p6), .val (.int (p6 &&& (3 : Int32))), .val (.ref b_107), .val (.ref b_119), .val (.ref b_132), .val (.ref b_146), .unset, .unset, .unset, .unset, .unset, .unset] [(.ref b_161), (.ref b_161)])) _
      refine XS.iconst X_169.here hx rfl (hb hby at_140) ?_
      show Steps p.tables e below (T_169.setTop (mkF m 141 #[.val (.long q1), .second, .val (.long q2), .second, .val (.long q3), .second, .val (.long q4), .second, .val (.long q5), .second, .val (.int p6), .val (.int (p6 &&& (3 : Int32))), .val (.ref b_107), .val (.ref b_119), .val (.ref b_132), .val (.ref b_146), .unset, .unset, .unset, .unset, .unset, .unset] [(.int (4 : Int32)), (.ref b_161), (.ref b_161)])) _
      refine XS.lload X_169.here hx rfl (hb hby at_141) rfl ?_
      show Steps p.tables e below (T_169.setTop (mkF m 143 #[.val (.long q1), .second, .val (.long q2), .second, .val (.long q3), .second, .val (.long q4), .second, .val (.long q5), .second, .val (.int p6), .val (.int (p6 &&& (3 : Int32))), .val (.ref b_107), .val (.ref b_119), .val (.ref b_132), .val (.ref b_146), .unset, .unset, .unset, .unset, .unset, .unset] [(.long q4), (.int (4 : Int32)), (.ref b_161), (.ref b_161)])) _
      refine st_171 _ ?_
      show Steps p.tables e below (T_171.setTop (mkF m 144 #[.val (.long q1), .second, .val (.long q2), .second, .val (.long q3), .second, .val (.long q4), .second, .val (.long q5), .second, .val (.int p6), .val (.int (p6 &&& (3 : Int32))), .val (.ref b_107), .val (.ref b_119), .val (.ref b_132), .val (.ref b_146), .unset, .unset, .unset, .unset, .unset, .unset] [(.ref b_161)])) _
      refine XS.astore X_171.here hx rfl (hb hby at_144) rfl rfl (l' := #[.val (.long q1), .second, .val (.long q2), .second, .val (.long q3), .second, .val (.long q4), .second, .val (.long q5), .second, .val (.int p6), .val (.int (p6 &&& (3 : Int32))), .val (.ref b_107), .val (.ref b_119), .val (.ref b_132), .val (.ref b_146), .val (.ref b_161), .unset, .unset, .unset, .unset, .unset]) rfl ?_
      show Steps p.tables e below (T_171.setTop (mkF m 146 #[.val (.long q1), .second, .val (.long q2), .second, .val (.long q3), .second, .val (.long q4), .second, .val (.long q5), .second, .val (.int p6), .val (.int (p6 &&& (3 : Int32))), .val (.ref b_107), .val (.ref b_119), .val (.ref b_132), .val (.ref b_146), .val (.ref b_161), .unset, .unset, .unset, .unset, .unset] [])) _
      refine XS.iconst X_171.here hx rfl (hb hby at_146) ?_
      show Steps p.tables e below (T_171.setTop (mkF m 147 #[.val (.long q1), .second, .val (.long q2), .second, .val (.long q3), .second, .val (.long q4), .second, .val (.long q5), .second, .val (.int p6), .val (.int (p6 &&& (3 : Int32))), .val (.ref b_107), .val (.ref b_119), .val (.ref b_132), .val (.ref b_146), .val (.ref b_161), .unset, .unset, .unset, .unset, .unset] [(.int (5 : Int32))])) _
      refine st_177 _ ?_
      show Steps p.tables e below (T_177.setTop (mkF m 149 #[.val (.long q1), .second, .val (.long q2), .second, .val (.long q3), .second, .val (.long q4), .second, .val (.long q5), .second, .val (.int p6), .val (.int (p6 &&& (3 : Int32))), .val (.ref b_107), .val (.ref b_119), .val (.ref b_132), .val (.ref b_146), .val (.ref b_161), .unset, .unset, .unset, .unset, .unset] [(.ref b_177)])) _
      refine XS.dup X_177.here hx rfl (hb hby at_149) rfl rfl ?_
      show Steps p.tables e below (T_177.setTop (mkF m 150 #[.val (.long q1), .second, .val (.long q2), .second, .val (.long q3), .second, .val (.long q4), .second, .val (.long q5), .second, .val (.int p6), .val (.int (p6 &&& (3 : Int32))), .val (.ref b_107), .val (.ref b_119), .val (.ref b_132), .val (.ref b_146), .val (.ref b_161), .unset, .unset, .unset, .unset, .unset] [(.ref b_177), (.ref b_177)])) _
      refine XS.iconst X_177.here hx rfl (hb hby at_150) ?_
      show Steps p.tables e below (T_177.setTop (mkF m 151 #[.val (.long q1), .second, .val (.long q2), .second, .val (.long q3), .second, .val (.long q4), .second, .val (.long q5), .second, .val (.int p6), .val (.int (p6 &&& (3 : Int32))), .val (.ref b_107), .val (.ref b_119), .val (.ref b_132), .val (.ref b_146), .val (.ref b_161), .unset, .unset, .unset, .unset, .unset] [(.int (0 : Int32)), (.ref b_177), (.ref b_177)])) _
      refine XS.lloadN X_177.here hx rfl (hb hby at_151) rfl ?_
      show Steps p.tables e below (T_177.setTop (mkF m 152 #[.val (.long q1), .second, .val (.long q2), .second, .val (.long q3), .second, .val (.long q4), .second, .val (.long q5), .second, .val (.int p6), .val (.int (p6 &&& (3 : Int32))), .val (.ref b_107), .val (.ref b_119), .val (.ref b_132), .val (.ref b_146), .val (.ref b_161), .unset, .unset, .unset, .unset, .unset] [(.long q1), (.int (0 : Int32)), (.ref b_177), (.ref b_177)])) _
      refine st_179 _ ?_
      show Steps p.tables e below (T_179.setTop (mkF m 153 #[.val (.long q1), .second, .val (.long q2), .second, .val (.long q3), .second, .val (.long q4), .second, .val (.long q5), .second, .val (.int p6), .val (.int (p6 &&& (3 : Int32))), .val (.ref b_107), .val (.ref b_119), .val (.ref b_132), .val (.ref b_146), .val (.ref b_161), .unset, .unset, .unset, .unset, .unset] [(.ref b_177)])) _
      refine XS.dup X_179.here hx rfl (hb hby at_153) rfl rfl ?_
      show Steps p.tables e below (T_179.setTop (mkF m 154 #[.val (.long q1), .second, .val (.long q2), .second, .val (.long q3), .second, .val (.long q4), .second, .val (.long q5), .second, .val (.int p6), .val (.int (p6 &&& (3 : Int32))), .val (.ref b_107), .val (.ref b_119), .val (.ref b_132), .val (.ref b_146), .val (.ref b_161), .unset, .unset, .unset, .unset, .unset] [(.ref b_177), (.ref b_177)])) _
      refine XS.iconst X_179.here hx rfl (hb hby at_154) ?_
      show Steps p.tables e below (T_179.setTop (mkF m 155 #[.val (.long q1), .second, .val (.long q2), .second, .val (.long q3), .second, .val (.long q4), .second, .val (.long q5), .second, .val (.int p6), .val (.int (p6 &&& (3 : Int32))), .val (.ref b_107), .val (.ref b_119), .val (.ref b_132), .val (.ref b_146), .val (.ref b_161), .unset, .unset, .unset, .unset, .unset] [(.int (1 : Int32)), (.ref b_177), (.ref b_177)])) _
      refine XS.lloadN X_179.here hx rfl (hb hby at_155) rfl ?_
      show Steps p.tables e below (T_179.setTop (mkF m 156 #[.val (.long q1), .second, .val (.long q2), .second, .val (.long q3), .second, .val (.long q4), .second, .val (.long q5), .second, .val (.int p6), .val (.int (p6 &&& (3 : Int32))), .val (.ref b_107), .val (.ref b_119), .val (.ref b_132), .val (.ref b_146), .val (.ref b_161), .unset, .unset, .unset, .unset, .unset] [(.long q2), (.int (1 : Int32)), (.ref b_177), (.ref b_177)])) _
      refine st_181 _ ?_
      show Steps p.tables e below (T_181.setTop (mkF m 157 #[.val (.long q1), .second, .val (.long q2), .second, .val (.long q3), .second, .val (.long q4), .second, .val (.long q5), .second, .val (.int p6), .val (.int (p6 &&& (3 : Int32))), .val (.ref b_107), .val (.ref b_119), .val (.ref b_132), .val (.ref b_146), .val (.ref b_161), .unset, .unset, .unset, .unset, .unset] [(.ref b_177)])) _
      refine XS.dup X_181.here hx rfl (hb hby at_157) rfl rfl ?_
      show Steps p.tables e below (T_181.setTop (mkF m 158 #[.val (.long q1), .second, .val (.long q2), .second, .val (.long q3), .second, .val (.long q4), .second, .val (.long q5), .second, .val (.int p6), .val (.int (p6 &&& (3 : Int32))), .val (.ref b_107), .val (.ref b_119), .val (.ref b_132), .val (.ref b_146), .val (.ref b_161), .unset, .unset, .unset, .unset, .unset] [(.ref b_177), (.ref b_177)])) _
      refine XS.iconst X_181.here hx rfl (hb hby at_158) ?_
      show Steps p.tables e below (T_181.setTop (mkF m 159 #[.val (.long q1), .second, .val (.long q2), .second, .val (.long q3), .second, .val (.long q4), .second, .val (.long q5), .second, .val (.int p6), .val (.int (p6 &&& (3 : Int32))), .val (.ref b_107), .val (.ref b_119), .val (.ref b_132), .val (.ref b_146), .val (.ref b_161), .unset, .unset, .unset, .unset, .unset] [(.int (2 : Int32)), (.ref b_177), (.ref b_177)])) _
      refine XS.lload X_181.here hx rfl (hb hby at_159) rfl ?_
      show Steps p.tables e below (T_181.setTop (mkF m 161 #[.val (.long q1), .second, .val (.long q2), .second, .val (.long q3), .second, .val (.long q4), .second, .val (.long q5), .second, .val (.int p6), .val (.int (p6 &&& (3 : Int32))), .val (.ref b_107), .val (.ref b_119), .val (.ref b_132), .val (.ref b_146), .val (.ref b_161), .unset, .unset, .unset, .unset, .unset] [(.long q3), (.int (2 : Int32)), (.ref b_177), (.ref b_177)])) _
      refine st_183 _ ?_
      show Steps p.tables e below (T_183.setTop (mkF m 162 #[.val (.long q1), .second, .val (.long q2), .second, .val (.long q3), .second, .val (.long q4), .second, .val (.long q5), .second, .val (.int p6), .val (.int (p6 &&& (3 : Int32))), .val (.ref b_107), .val (.ref b_119), .val (.ref b_132), .val (.ref b_146), .val (.ref b_161), .unset, .unset, .unset, .unset, .unset] [(.ref b_177)])) _
      refine XS.dup X_183.here hx rfl (hb hby at_162) rfl rfl ?_
      show Steps p.tables e below (T_183.setTop (mkF m 163 #[.val (.long q1), .second, .val (.long q2), .second, .val (.long q3), .second, .val (.long q4), .second, .val (.long q5), .second, .val (.int p6), .val (.int (p6 &&& (3 : Int32))), .val (.ref b_107), .val (.ref b_119), .val (.ref b_132), .val (.ref b_146), .val (.ref b_161), .unset, .unset, .unset, .unset, .unset] [(.ref b_177), (.ref b_177)])) _
      refine XS.iconst X_183.here hx rfl (hb hby at_163) ?_
      show Steps p.tables e below (T_183.setTop (mkF m 164 #[.val (.long q1), .second, .val (.long q2), .second, .val (.long q3), .second, .val (.long q4), .second, .val (.long q5), .second, .val (.int p6), .val (.int (p6 &&& (3 : Int32))), .val (.ref b_107), .val (.ref b_119), .val (.ref b_132), .val (.ref b_146), .val (.ref b_161), .unset, .unset, .unset, .unset, .unset] [(.int (3 : Int32)), (.ref b_177), (.ref b_177)])) _
      refine XS.lload X_183.here hx rfl (hb hby at_164) rfl ?_
      show Steps p.tables e below (T_183.setTop (mkF m 166 #[.val (.long q1), .second, .val (.long q2), .second, .val (.long q3), .second, .val (.long q4), .second, .val (.long q5), .second, .val (.int p6), .val (.int (p6 &&& (3 : Int32))), .val (.ref b_107), .val (.ref b_119), .val (.ref b_132), .val (.ref b_146), .val (.ref b_161), .unset, .unset, .unset, .unset, .unset] [(.long q4), (.int (3 : Int32)), (.ref b_177), (.ref b_177)])) _
      refine st_185 _ ?_
      show Steps p.tables e below (T_185.setTop (mkF m 167 #[.val (.long q1), .second, .val (.long q2), .second, .val (.long q3), .second, .val (.long q4), .second, .val (.long q5), .second, .val (.int p6), .val (.int (p6 &&& (3 : Int32))), .val (.ref b_107), .val (.ref b_119), .val (.ref b_132), .val (.ref b_146), .val (.ref b_161), .unset, .unset, .unset, .unset, .unset] [(.ref b_177)])) _
      refine XS.dup X_185.here hx rfl (hb hby at_167) rfl rfl ?_
      show Steps p.tables e below (T_185.setTop (mkF m 168 #[.val (.long q1), .second, .val (.long q2), .second, .val (.long q3), .second, .val (.long q4), .second, .val (.long q5), .second, .val (.int p6), .val (.int (p6 &&& (3 : Int32))), .val (.ref b_107), .val (.ref b_119), .val (.ref b_132), .val (.ref b_146), .val (.ref b_161), .unset, .unset, .unset, .unset, .unset] [(.ref b_177), (.ref b_177)])) _
      refine XS.iconst X_185.here hx rfl (hb hby at_168) ?_
      show Steps p.tables e below (T_185.setTop (mkF m 169 #[.val (.long q1), .second, .val (.long q2), .second, .val (.long q3), .second, .val (.long q4), .second, .val (.long q5), .second, .val (.int p6), .val (.int (p6 &&& (3 : Int32))), .val (.ref b_107), .val (.ref b_119), .val (.ref b_132), .val (.ref b_146), .val (.ref b_161), .unset, .unset, .unset, .unset, .unset] [(.int (4 : Int32)), (.ref b_177), (.ref b_177)])) _
      refine XS.lload X_185.here hx rfl (hb hby at_169) rfl ?_
      show Steps p.tables e below (T_185.setTop (mkF m 171 #[.val (.long q1), .second, .val (.long q2), .second, .val (.long q3), .second, .val (.long q4), .second, .val (.long q5), .second, .val (.int p6), .val (.int (p6 &&& (3 : Int32))), .val (.ref b_107), .val (.ref b_119), .val (.ref b_132), .val (.ref b_146), .val (.ref b_161), .unset, .unset, .unset, .unset, .unset] [(.long q5), (.int (4 : Int32)), (.ref b_177), (.ref b_177)])) _
      refine st_187 _ ?_
      show Steps p.tables e below (T_187.setTop (mkF m 172 #[.val (.long q1), .second, .val (.long q2), .second, .val (.long q3), .second, .val (.long q4), .second, .val (.long q5), .second, .val (.int p6), .val (.int (p6 &&& (3 : Int32))), .val (.ref b_107), .val (.ref b_119), .val (.ref b_132), .val (.ref b_146), .val (.ref b_161), .unset, .unset, .unset, .unset, .unset] [(.ref b_177)])) _
      refine XS.astore X_187.here hx rfl (hb hby at_172) rfl rfl (l' := #[.val (.long q1), .second, .val (.long q2), .second, .val (.long q3), .second, .val (.long q4), .second, .val (.long q5), .second, .val (.int p6), .val (.int (p6 &&& (3 : Int32))), .val (.ref b_107), .val (.ref b_119), .val (.ref b_132), .val (.ref b_146), .val (.ref b_161), .val (.ref b_177), .unset, .unset, .unset, .unset]) rfl ?_
      show Steps p.tables e below (T_187.setTop (mkF m 174 #[.val (.long q1), .second, .val (.long q2), .second, .val (.long q3), .second, .val (.long q4), .second, .val (.long q5), .second, .val (.int p6), .val (.int (p6 &&& (3 : Int32))), .val (.ref b_107), .val (.ref b_119), .val (.ref b_132), .val (.ref b_146), .val (.ref b_161), .val (.ref b_177), .unset, .unset, .unset, .unset] [])) _
      refine XS.iload X_187.here hx rfl (hb hby at_174) rfl ?_
      show Steps p.tables e below (T_187.setTop (mkF m 176 #[.val (.long q1), .second, .val (.long q2), .second, .val (.long q3), .second, .val (.long q4), .second, .val (.long q5), .second, .val (.int p6), .val (.int (p6 &&& (3 : Int32))), .val (.ref b_107), .val (.ref b_119), .val (.ref b_132), .val (.ref b_146), .val (.ref b_161), .val (.ref b_177), .unset, .unset, .unset, .unset] [(.int (p6 &&& (3 : Int32)))])) _
      refine XS.iconst X_187.here hx rfl (hb hby at_176) ?_
      exact k)
  by_cases hc177__190 : (p6 &&& (3 : Int32)) = (3 : Int32)
  · have f_191 : Arv Z h_187 b_107 k_107 .long (5 : Int32) [(.long q1), (.long q2), (.long q3), (.long q4), (.long q5)] (.long (0 : Int64)) := ((((((f_173.ext E_177).other W_179 ne_b_107_b_177).other W_181 ne_b_107_b_177).other W_183 ne_b_107_b_177).other W_185 ne_b_107_b_177).other W_187 ne_b_107_b_177)
    obtain ⟨_, _, ⟨T_192, L_192, k_192, n_192⟩, -, X_192, ⟨Lc_192, hQ_192, l_192, y_192, z_192⟩, st_192⟩ := Jvm.LawKit.callS X_187 hx (y := (⟨"com/example/latchet/latchet/Field25519", "sub", "([J[J[J)V"⟩ : MethodName)) hown (mvT hZ (hw _ (List.mem_of_getElem? (i := 1) rfl))) (mvT hZ (hw _ (List.mem_of_getElem? (i := 2) rfl))) (mvT hZ (hw _ (List.mem_of_getElem? (i := 3) rfl))) (mvT hZ (hw _ (List.mem_of_getElem? (i := 4) rfl))) (by decide) (backOf (W := 0) (rm1d l Z a0 hw [] b_107 k_107 q1 q2 q3 q4 q5 h_187 n0 z_188 f_191 g_b_107) hZ (hw _ (List.mem_of_getElem? (i := 4) rfl)) (hw _ (List.mem_of_getElem? (i := 3) rfl)) (by decide) (by decide)) (g := (mkF m 252 #[.val (.long q1), .second, .val (.long q2), .second, .val (.long q3), .second, .val (.long q4), .second, .val (.long q5), .second, .val (.int p6), .val (.int (p6 &&& (3 : Int32))), .val (.ref b_107), .val (.ref b_119), .val (.ref b_132), .val (.ref b_146), .val (.ref b_161), .val (.ref b_177), .val (.ref b_177), .val (.ref b_107), .val (.ref b_107), .unset] [(.ref b_107), (.ref b_107), (.ref b_107)])) rfl (by rw [hml]; rfl) (argsL := [(.ref b_107), (.ref b_107), (.ref b_107)]) (rest := []) (lenOf pd_0 rfl) rfl (by show 2 * 0 + _ ≤ _; exact Nat.le_of_eq rfl) (hb hby at_252) (fun _ _ => ⟨rfl, e_187, (by decide : 6 + 0 ≤ _), (by decide : 30 + 0 ≤ _)⟩)
    dsimp only [Pt.U, Pt.locs, Pt.cells, Pt.slots] at X_192 l_192 y_192 z_192 st_192 hQ_192
    replace X_192 := castS l_192 y_192 z_192 X_192
    obtain ⟨rfl, Nq_192, K_192, po_192_0⟩ := hQ_192
    have z_193 : n0 ≤ T_192.heap.size := Nat.le_trans z_188 K_192.1
    have N_192 := Fr.app N_187 Nq_192
    obtain ⟨cl_194, Ar_194, q_194, S_194, M_194, H_194, G_194⟩ := id po_192_0
    have hin_194 : ¬ ((0 : Int32) < 0 ∨ cl_194.slots.size ≤ ((0 : Int32)).toNatClampNeg) := inb_of S_194 ⟨by decide, by decide⟩
    have hat_194 : cl_194.slots[((0 : Int32)).toNatClampNeg]? = some (.long (q1 - q1)) := H_194.at hin_194 rfl
    have f_195 : Arv Z T_192.heap b_177 k_177 .long (5 : Int32) [(.long q1), (.long q2), (.long q3), (.long q4), (.long q5)] (.long (0 : Int64)) := (V_187.keep K_192 (ninS (Ne.symm ne_b_107_b_177) nin0))
    obtain ⟨cl_196, Ar_196, q_196, S_196, M_196, H_196, G_196⟩ := id f_195
    have hin_196 : ¬ ((0 : Int32) < 0 ∨ cl_196.slots.size ≤ ((0 : Int32)).toNatClampNeg) := inb_of S_196 ⟨by decide, by decide⟩
    have hat_196 : cl_196.slots[((0 : Int32)).toNatClampNeg]? = some (.long q1) := H_196.at hin_196 rfl
    have f_197 : Arv Z T_192.heap b_146 k_146 .long (5 : Int32) [(.long q1), (.long q2), (.long q3), (.long q4), (.long q5)] (.long (0 : Int64)) := (((((((f_176.ext E_177).other W_179 ne_b_146_b_177).other W_181 ne_b_146_b_177).other W_183 ne_b_146_b_177).other W_185 ne_b_146_b_177).other W_187 ne_b_146_b_177).keep K_192 (ninS (Ne.symm ne_b_107_b_146) nin0))
    obtain ⟨cl_198, Ar_198, q_198, S_198, M_198, H_198, G_198⟩ := id f_197
    have hin_198 : ¬ ((0 : Int32) < 0 ∨ cl_198.slots.size ≤ ((0 : Int32)).toNatClampNeg) := inb_of S_198 ⟨by decide, by decide⟩
    have hat_198 : cl_198.slots[((0 : Int32)).toNatClampNeg]? = some (.long q1) := H_198.at hin_198 rfl
    obtain ⟨cl_199, Ar_199, q_199, S_199, M_199, H_199, G_199⟩ := id po_192_0
    have hin_199 : ¬ ((1 : Int32) < 0 ∨ cl_199.slots.size ≤ ((1 : Int32)).toNatClampNeg) := inb_of S_199 ⟨by decide, by decide⟩
    have hat_199 : cl_199.slots[((1 : Int32)).toNatClampNeg]? = some (.long (q2 - q2)) := H_199.at hin_199 rfl
    obtain ⟨cl_200, Ar_200, q_200, S_200, M_200, H_200, G_200⟩ := id f_195
    have hin_200 : ¬ ((1 : Int32) < 0 ∨ cl_200.slots.size ≤ ((1 : Int32)).toNatClampNeg) := inb_of S_200 ⟨by decide, by decide⟩
    have hat_200 : cl_200.slots[((1 : Int32)).toNatClampNeg]? = some (.long q2) := H_200.at hin_200 rfl
    obtain ⟨cl_201, Ar_201, q_201, S_201, M_201, H_201, G_201⟩ := id f_197
    have hin_201 : ¬ ((1 : Int32) < 0 ∨ cl_201.slots.size ≤ ((1 : Int32)).toNatClampNeg) := inb_of S_201 ⟨by decide, by decide⟩
    have hat_201 : cl_201.slots[((1 : Int32)).toNatClampNeg]? = some (.long q2) := H_201.at hin_201 rfl
    obtain ⟨cl_202, Ar_202, q_202, S_202, M_202, H_202, G_202⟩ := id po_192_0
    have hin_202 : ¬ ((2 : Int32) < 0 ∨ cl_202.slots.size ≤ ((2 : Int32)).toNatClampNeg) := inb_of S_202 ⟨by decide, by decide⟩
    have hat_202 : cl_202.slots[((2 : Int32)).toNatClampNeg]? = some (.long (q3 - q3)) := H_202.at hin_202 rfl
    obtain ⟨cl_203, Ar_203, q_203, S_203, M_203, H_203, G_203⟩ := id f_195
    have hin_203 : ¬ ((2 : Int32) < 0 ∨ cl_203.slots.size ≤ ((2 : Int32)).toNatClampNeg) := inb_of S_203 ⟨by decide, by decide⟩
    have hat_203 : cl_203.slots[((2 : Int32)).toNatClampNeg]? = some (.long q3) := H_203.at hin_203 rfl
    obtain ⟨cl_204, Ar_204, q_204, S_204, M_204, H_204, G_204⟩ := id f_197
    have hin_204 : ¬ ((2 : Int32) < 0 ∨ cl_204.slots.size ≤ ((2 : Int32)).toNatClampNeg) := inb_of S_204 ⟨by decide, by decide⟩
    have hat_204 : cl_204.slots[((2 : Int32)).toNatClampNeg]? = some (.long q3) := H_204.at hin_204 rfl
    obtain ⟨cl_205, Ar_205, q_205, S_205, M_205, H_205, G_205⟩ := id po_192_0
    have hin_205 : ¬ ((3 : Int32) < 0 ∨ cl_205.slots.size ≤ ((3 : Int32)).toNatClampNeg) := inb_of S_205 ⟨by decide, by decide⟩
    have hat_205 : cl_205.slots[((3 : Int32)).toNatClampNeg]? = some (.long (q4 - q4)) := H_205.at hin_205 rfl
    obtain ⟨cl_206, Ar_206, q_206, S_206, M_206, H_206, G_206⟩ := id f_195
    have hin_206 : ¬ ((3 : Int32) < 0 ∨ cl_206.slots.size ≤ ((3 : Int32)).toNatClampNeg) := inb_of S_206 ⟨by decide, by decide⟩
    have hat_206 : cl_206.slots[((3 : Int32)).toNatClampNeg]? = some (.long q4) := H_206.at hin_206 rfl
    obtain ⟨cl_207, Ar_207, q_207, S_207, M_207, H_207, G_207⟩ := id f_197
    have hin_207 : ¬ ((3 : Int32) < 0 ∨ cl_207.slots.size ≤ ((3 : Int32)).toNatClampNeg) := inb_of S_207 ⟨by decide, by decide⟩
    have hat_207 : cl_207.slots[((3 : Int32)).toNatClampNeg]? = some (.long q4) := H_207.at hin_207 rfl
    obtain ⟨cl_208, Ar_208, q_208, S_208, M_208, H_208, G_208⟩ := id po_192_0
    have hin_208 : ¬ ((4 : Int32) < 0 ∨ cl_208.slots.size ≤ ((4 : Int32)).toNatClampNeg) := inb_of S_208 ⟨by decide, by decide⟩
    have hat_208 : cl_208.slots[((4 : Int32)).toNatClampNeg]? = some (.long (q5 - q5)) := H_208.at hin_208 rfl
    obtain ⟨cl_209, Ar_209, q_209, S_209, M_209, H_209, G_209⟩ := id f_195
    have hin_209 : ¬ ((4 : Int32) < 0 ∨ cl_209.slots.size ≤ ((4 : Int32)).toNatClampNeg) := inb_of S_209 ⟨by decide, by decide⟩
    have hat_209 : cl_209.slots[((4 : Int32)).toNatClampNeg]? = some (.long q5) := H_209.at hin_209 rfl
    obtain ⟨cl_210, Ar_210, q_210, S_210, M_210, H_210, G_210⟩ := id f_197
    have hin_210 : ¬ ((4 : Int32) < 0 ∨ cl_210.slots.size ≤ ((4 : Int32)).toNatClampNeg) := inb_of S_210 ⟨by decide, by decide⟩
    have hat_210 : cl_210.slots[((4 : Int32)).toNatClampNeg]? = some (.long q5) := H_210.at hin_210 rfl
    obtain ⟨fs, hr, hrun, hended, hW, hsame⟩ := X_192.leave (v := some (.int (1 : Int32))) (fun h => by rw [Bd.returns] at h; cases h)
    refine ⟨_, _, pre_189 _ ?_, hrun, hended, _, _, rfl, ?_, ⟨_, rfl⟩, hW, hsame.mono (by decide) (by decide)⟩
    · show Steps p.tables e below (T_187.setTop (mkF m 177 #[.val (.long q1), .second, .val (.long q2), .second, .val (.long q3), .second, .val (.long q4), .second, .val (.long q5), .second, .val (.int p6), .val (.int (p6 &&& (3 : Int32))), .val (.ref b_107), .val (.ref b_119), .val (.ref b_132), .val (.ref b_146), .val (.ref b_161), .val (.ref b_177), .unset, .unset, .unset, .unset] [(.int (3 : Int32)), (.int (p6 &&& (3 : Int32)))])) _
      refine XS.icmpNo X_187.here hx rfl (hb hby at_177) rfl (teq hc177__190).2 ?_
      show Steps p.tables e below (T_187.setTop (mkF m 180 #[.val (.long q1), .second, .val (.long q2), .second, .val (.long q3), .second, .val (.long q4), .second, .val (.long q5), .second, .val (.int p6), .val (.int (p6 &&& (3 : Int32))), .val (.ref b_107), .val (.ref b_119), .val (.ref b_132), .val (.ref b_146), .val (.ref b_161), .val (.ref b_177), .unset, .unset, .unset, .unset] [])) _
      refine XS.aload X_187.here hx rfl (hb hby at_180) rfl rfl ?_
      show Steps p.tables e below (T_187.setTop (mkF m 182 #[.val (.long q1), .second, .val (.long q2), .second, .val (.long q3), .second, .val (.long q4), .second, .val (.long q5), .second, .val (.int p6), .val (.int (p6 &&& (3 : Int32))), .val (.ref b_107), .val (.ref b_119), .val (.ref b_132), .val (.ref b_146), .val (.ref b_161), .val (.ref b_177), .unset, .unset, .unset, .unset] [(.ref b_177)])) _
      refine XS.goto X_187.here hx rfl (pc0 := 182) (pc' := 187) rfl (hb hby at_182) (by decide) (by decide) ?_
      show Steps p.tables e below (T_187.setTop (mkF m 187 #[.val (.long q1), .second, .val (.long q2), .second, .val (.long q3), .second, .val (.long q4), .second, .val (.long q5), .second, .val (.int p6), .val (.int (p6 &&& (3 : Int32))), .val (.ref b_107), .val (.ref b_119), .val (.ref b_132), .val (.ref b_146), .val (.ref b_161), .val (.ref b_177), .unset, .unset, .unset, .unset] [(.ref b_177)])) _
      refine XS.astore X_187.here hx rfl (hb hby at_187) rfl rfl (l' := #[.val (.long q1), .second, .val (.long q2), .second, .val (.long q3), .second, .val (.long q4), .second, .val (.long q5), .second, .val (.int p6), .val (.int (p6 &&& (3 : Int32))), .val (.ref b_107), .val (.ref b_119), .val (.ref b_132), .val (.ref b_146), .val (.ref b_161), .val (.ref b_177), .val (.ref b_177), .unset, .unset, .unset]) rfl ?_
      show Steps p.tables e below (T_187.setTop (mkF m 189 #[.val (.long q1), .second, .val (.long q2), .second, .val (.long q3), .second, .val (.long q4), .second, .val (.long q5), .second, .val (.int p6), .val (.int (p6 &&& (3 : Int32))), .val (.ref b_107), .val (.ref b_119), .val (.ref b_132), .val (.ref b_146), .val (.ref b_161), .val (.ref b_177), .val (.ref b_177), .unset, .unset, .unset] [])) _
      refine XS.iload X_187.here hx rfl (hb hby at_189) rfl ?_
      show Steps p.tables e below (T_187.setTop (mkF m 191 #[.val (.long q1), .second, .val (.long q2), .second, .val (.long q3), .second, .val (.long q4), .second, .val (.long q5), .second, .val (.int p6), .val (.int (p6 &&& (3 : Int32))), .val (.ref b_107), .val (.ref b_119), .val (.ref b_132), .val (.ref b_146), .val (.ref b_161), .val (.ref b_177), .val (.ref b_177), .unset, .unset, .unset] [(.int (p6 &&& (3 : Int32)))])) _
      refine XS.iconst X_187.here hx rfl (hb hby at_191) ?_
      show Steps p.tables e below (T_187.setTop (mkF m 192 #[.val (.long q1), .second, .val (.long q2), .second, .val (.long q3), .second, .val (.long q4), .second, .val (.long q5), .second, .val (.int p6), .val (.int (p6 &&& (3 : Int32))), .val (.ref b_107), .val (.ref b_119), .val (.ref b_132), .val (.ref b_146), .val (.ref b_161), .val (.ref b_177), .val (.ref b_177), .unset, .unset, .unset] [(.int (3 : Int32)), (.int (p6 &&& (3 : Int32)))])) _
      refine XS.icmpNo X_187.here hx rfl (hb hby at_192) rfl (teq hc177__190).2 ?_
      show Steps p.tables e below (T_187.setTop (mkF m 195 #[.val (.long q1), .second, .val (.long q2), .second, .val (.long q3), .second, .val (.long q4), .second, .val (.long q5), .second, .val (.int p6), .val (.int (p6 &&& (3 : Int32))), .val (.ref b_107), .val (.ref b_119), .val (.ref b_132), .val (.ref b_146), .val (.ref b_161), .val (.ref b_177), .val (.ref b_177), .unset, .unset, .unset] [])) _
      refine XS.aload X_187.here hx rfl (hb hby at_195) rfl rfl ?_
      show Steps p.tables e below (T_187.setTop (mkF m 197 #[.val (.long q1), .second, .val (.long q2), .second, .val (.long q3), .second, .val (.long q4), .second, .val (.long q5), .second, .val (.int p6), .val (.int (p6 &&& (3 : Int32))), .val (.ref b_107), .val (.ref b_119), .val (.ref b_132), .val (.ref b_146), .val (.ref b_161), .val (.ref b_177), .val (.ref b_177), .unset, .unset, .unset] [(.ref b_107)])) _
      refine XS.goto X_187.here hx rfl (pc0 := 197) (pc' := 202) rfl (hb hby at_197) (by decide) (by decide) ?_
      show Steps p.tables e below (T_187.setTop (mkF m 202 #[.val (.long q1), .second, .val (.long q2), .second, .val (.long q3), .second, .val (.long q4), .second, .val (.long q5), .second, .val (.int p6), .val (.int (p6 &&& (3 : Int32))), .val (.ref b_107), .val (.ref b_119), .val (.ref b_132), .val (.ref b_146), .val (.ref b_161), .val (.ref b_177), .val (.ref b_177), .unset, .unset, .unset] [(.ref b_107)])) _
      refine XS.astore X_187.here hx rfl (hb hby at_202) rfl rfl (l' := #[.val (.long q1), .second, .val (.long q2), .second, .val (.long q3), .second, .val (.long q4), .second, .val (.long q5), .second, .val (.int p6), .val (.int (p6 &&& (3 : Int32))), .val (.ref b_107), .val (.ref b_119), .val (.ref b_132), .val (.ref b_146), .val (.ref b_161), .val (.ref b_177), .val (.ref b_177), .val (.ref b_107), .unset, .unset]) rfl ?_
      show Steps p.tables e below (T_187.setTop (mkF m 204 #[.val (.long q1), .second, .val (.long q2), .second, .val (.long q3), .second, .val (.long q4), .second, .val (.long q5), .second, .val (.int p6), .val (.int (p6 &&& (3 : Int32))), .val (.ref b_107), .val (.ref b_119), .val (.ref b_132), .val (.ref b_146), .val (.ref b_161), .val (.ref b_177), .val (.ref b_177), .val (.ref b_107), .unset, .unset] [])) _
      refine XS.iload X_187.here hx rfl (hb hby at_204) rfl ?_
      show Steps p.tables e below (T_187.setTop (mkF m 206 #[.val (.long q1), .second, .val (.long q2), .second, .val (.long q3), .second, .val (.long q4), .second, .val (.long q5), .second, .val (.int p6), .val (.int (p6 &&& (3 : Int32))), .val (.ref b_107), .val (.ref b_119), .val (.ref b_132), .val (.ref b_146), .val (.ref b_161), .val (.ref b_177), .val (.ref b_177), .val (.ref b_107), .unset, .unset] [(.int (p6 &&& (3 : Int32)))])) _
      refine XS.ifYes X_187.here hx rfl (pc0 := 206) (pc' := 216) rfl (hb hby at_206) rfl ((if0 _ _).trans (feq (by have q0 := hc177__190; simp only [Int32.lt_iff_toInt_lt, ← Int32.toInt_inj, show (0 : Int32).toInt = 0 from rfl, show (3 : Int32).toInt = 3 from rfl] at q0 ⊢; omega : ¬ ((p6 &&& (3 : Int32)) = (0 : Int32)))).2) (by decide) (by decide) ?_
      show Steps p.tables e below (T_187.setTop (mkF m 216 #[.val (.long q1), .second, .val (.long q2), .second, .val (.long q3), .second, .val (.long q4), .second, .val (.long q5), .second, .val (.int p6), .val (.int (p6 &&& (3 : Int32))), .val (.ref b_107), .val (.ref b_119), .val (.ref b_132), .val (.ref b_146), .val (.ref b_161), .val (.ref b_177), .val (.ref b_177), .val (.ref b_107), .unset, .unset] [])) _
      refine XS.iload X_187.here hx rfl (hb hby at_216) rfl ?_
      show Steps p.tables e below (T_187.setTop (mkF m 218 #[.val (.long q1), .second, .val (.long q2), .second, .val (.long q3), .second, .val (.long q4), .second, .val (.long q5), .second, .val (.int p6), .val (.int (p6 &&& (3 : Int32))), .val (.ref b_107), .val (.ref b_119), .val (.ref b_132), .val (.ref b_146), .val (.ref b_161), .val (.ref b_177), .val (.ref b_177), .val (.ref b_107), .unset, .unset] [(.int (p6 &&& (3 : Int32)))])) _
      refine XS.iconst X_187.here hx rfl (hb hby at_218) ?_
      show Steps p.tables e below (T_187.setTop (mkF m 219 #[.val (.long q1), .second, .val (.long q2), .second, .val (.long q3), .second, .val (.long q4), .second, .val (.long q5), .second, .val (.int p6), .val (.int (p6 &&& (3 : Int32))), .val (.ref b_107), .val (.ref b_119), .val (.ref b_132), .val (.ref b_146), .val (.ref b_161), .val (.ref b_177), .val (.ref b_177), .val (.ref b_107), .unset, .unset] [(.int (1 : Int32)), (.int (p6 &&& (3 : Int32)))])) _
      refine XS.icmpYes X_187.here hx rfl (pc0 := 219) (pc' := 229) rfl (hb hby at_219) rfl (feq (by have q0 := hc177__190; simp only [Int32.lt_iff_toInt_lt, ← Int32.toInt_inj, show (1 : Int32).toInt = 1 from rfl, show (3 : Int32).toInt = 3 from rfl] at q0 ⊢; omega : ¬ ((p6 &&& (3 : Int32)) = (1 : Int32)))).2 (by decide) (by decide) ?_
      show Steps p.tables e below (T_187.setTop (mkF m 229 #[.val (.long q1), .second, .val (.long q2), .second, .val (.long q3), .second, .val (.long q4), .second, .val (.long q5), .second, .val (.int p6), .val (.int (p6 &&& (3 : Int32))), .val (.ref b_107), .val (.ref b_119), .val (.ref b_132), .val (.ref b_146), .val (.ref b_161), .val (.ref b_177), .val (.ref b_177), .val (.ref b_107), .unset, .unset] [])) _
      refine XS.iload X_187.here hx rfl (hb hby at_229) rfl ?_
      show Steps p.tables e below (T_187.setTop (mkF m 231 #[.val (.long q1), .second, .val (.long q2), .second, .val (.long q3), .second, .val (.long q4), .second, .val (.long q5), .second, .val (.int p6), .val (.int (p6 &&& (3 : Int32))), .val (.ref b_107), .val (.ref b_119), .val (.ref b_132), .val (.ref b_146), .val (.ref b_161), .val (.ref b_177), .val (.ref b_177), .val (.ref b_107), .unset, .unset] [(.int (p6 &&& (3 : Int32)))])) _
      refine XS.iconst X_187.here hx rfl (hb hby at_231) ?_
      show Steps p.tables e below (T_187.setTop (mkF m 232 #[.val (.long q1), .second, .val (.long q2), .second, .val (.long q3), .second, .val (.long q4), .second, .val (.long q5), .second, .val (.int p6), .val (.int (p6 &&& (3 : Int32))), .val (.ref b_107), .val (.ref b_119), .val (.ref b_132), .val (.ref b_146), .val (.ref b_161), .val (.ref b_177), .val (.ref b_177), .val (.ref b_107), .unset, .unset] [(.int (2 : Int32)), (.int (p6 &&& (3 : Int32)))])) _
      refine XS.icmpYes X_187.here hx rfl (pc0 := 232) (pc' := 242) rfl (hb hby at_232) rfl (feq (by have q0 := hc177__190; simp only [Int32.lt_iff_toInt_lt, ← Int32.toInt_inj, show (2 : Int32).toInt = 2 from rfl, show (3 : Int32).toInt = 3 from rfl] at q0 ⊢; omega : ¬ ((p6 &&& (3 : Int32)) = (2 : Int32)))).2 (by decide) (by decide) ?_
      show Steps p.tables e below (T_187.setTop (mkF m 242 #[.val (.long q1), .second, .val (.long q2), .second, .val (.long q3), .second, .val (.long q4), .second, .val (.long q5), .second, .val (.int p6), .val (.int (p6 &&& (3 : Int32))), .val (.ref b_107), .val (.ref b_119), .val (.ref b_132), .val (.ref b_146), .val (.ref b_161), .val (.ref b_177), .val (.ref b_177), .val (.ref b_107), .unset, .unset] [])) _
      refine XS.aload X_187.here hx rfl (hb hby at_242) rfl rfl ?_
      show Steps p.tables e below (T_187.setTop (mkF m 244 #[.val (.long q1), .second, .val (.long q2), .second, .val (.long q3), .second, .val (.long q4), .second, .val (.long q5), .second, .val (.int p6), .val (.int (p6 &&& (3 : Int32))), .val (.ref b_107), .val (.ref b_119), .val (.ref b_132), .val (.ref b_146), .val (.ref b_161), .val (.ref b_177), .val (.ref b_177), .val (.ref b_107), .unset, .unset] [(.ref b_107)])) _
      refine XS.astore X_187.here hx rfl (hb hby at_244) rfl rfl (l' := #[.val (.long q1), .second, .val (.long q2), .second, .val (.long q3), .second, .val (.long q4), .second, .val (.long q5), .second, .val (.int p6), .val (.int (p6 &&& (3 : Int32))), .val (.ref b_107), .val (.ref b_119), .val (.ref b_132), .val (.ref b_146), .val (.ref b_161), .val (.ref b_177), .val (.ref b_177), .val (.ref b_107), .val (.ref b_107), .unset]) rfl ?_
      show Steps p.tables e below (T_187.setTop (mkF m 246 #[.val (.long q1), .second, .val (.long q2), .second, .val (.long q3), .second, .val (.long q4), .second, .val (.long q5), .second, .val (.int p6), .val (.int (p6 &&& (3 : Int32))), .val (.ref b_107), .val (.ref b_119), .val (.ref b_132), .val (.ref b_146), .val (.ref b_161), .val (.ref b_177), .val (.ref b_177), .val (.ref b_107), .val (.ref b_107), .unset] [])) _
      refine XS.aload X_187.here hx rfl (hb hby at_246) rfl rfl ?_
      show Steps p.tables e below (T_187.setTop (mkF m 248 #[.val (.long q1), .second, .val (.long q2), .second, .val (.long q3), .second, .val (.long q4), .second, .val (.long q5), .second, .val (.int p6), .val (.int (p6 &&& (3 : Int32))), .val (.ref b_107), .val (.ref b_119), .val (.ref b_132), .val (.ref b_146), .val (.ref b_161), .val (.ref b_177), .val (.ref b_177), .val (.ref b_107), .val (.ref b_107), .unset] [(.ref b_107)])) _
      refine XS.aload X_187.here hx rfl (hb hby at_248) rfl rfl ?_
      show Steps p.tables e below (T_187.setTop (mkF m 250 #[.val (.long q1), .second, .val (.long q2), .second, .val (.long q3), .second, .val (.long q4), .second, .val (.long q5), .second, .val (.int p6), .val (.int (p6 &&& (3 : Int32))), .val (.ref b_107), .val (.ref b_119), .val (.ref b_132), .val (.ref b_146), .val (.ref b_161), .val (.ref b_177), .val (.ref b_177), .val (.ref b_107), .val (.ref b_107), .unset] [(.ref b_107), (.ref b_107)])) _
      refine XS.aload X_187.here hx rfl (hb hby at_250) rfl rfl ?_
      show Steps p.tables e below (T_187.setTop (mkF m 252 #[.val (.long q1), .second, .val (.long q2), .second, .val (.long q3), .second, .val (.long q4), .second, .val (.long q5), .second, .val (.int p6), .val (.int (p6 &&& (3 : Int32))), .val (.ref b_107), .val (.ref b_119), .val (.ref b_132), .val (.ref b_146), .val (.ref b_161), .val (.ref b_177), .val (.ref b_177), .val (.ref b_107), .val (.ref b_107), .unset] [(.ref b_107), (.ref b_107), (.ref b_107)])) _
      refine st_192 _ ?_
      show Steps p.tables e below (T_192.setTop (mkF m 255 #[.val (.long q1), .second, .val (.long q2), .second, .val (.long q3), .second, .val (.long q4), .second, .val (.long q5), .second, .val (.int p6), .val (.int (p6 &&& (3 : Int32))), .val (.ref b_107), .val (.ref b_119), .val (.ref b_132), .val (.ref b_146), .val (.ref b_161), .val (.ref b_177), .val (.ref b_177), .val (.ref b_107), .val (.ref b_107), .unset] [])) _
      refine XS.aload X_192.here hx rfl (hb hby at_255) rfl rfl ?_
      show Steps p.tables e below (T_192.setTop (mkF m 257 #[.val (.long q1), .second, .val (.long q2), .second, .val (.long q3), .second, .val (.long q4), .second, .val (.long q5), .second, .val (.int p6), .val (.int (p6 &&& (3 : Int32))), .val (.ref b_107), .val (.ref b_119), .val (.ref b_132), .val (.ref b_146), .val (.ref b_161), .val (.ref b_177), .val (.ref b_177), .val (.ref b_107), .val (.ref b_107), .unset] [(.ref b_107)])) _
      refine XS.iconst X_192.here hx rfl (hb hby at_257) ?_
      show Steps p.tables e below (T_192.setTop (mkF m 258 #[.val (.long q1), .second, .val (.long q2), .second, .val (.long q3), .second, .val (.long q4), .second, .val (.long q5), .second, .val (.int p6), .val (.int (p6 &&& (3 : Int32))), .val (.ref b_107), .val (.ref b_119), .val (.ref b_132), .val (.ref b_146), .val (.ref b_161), .val (.ref b_177), .val (.ref b_177), .val (.ref b_107), .val (.ref b_107), .unset] [(.int (0 : Int32)), (.ref b_107)])) _
      refine X_192.laload hx (j := (0 : Int32)) (v := (.long (q1 - q1))) Ar_194.1 (State.isArrayOf_alike hZ.alike Ar_194.2.1) Ar_194.2.2 hin_194 hat_194 (g := (mkF m 258 #[.val (.long q1), .second, .val (.long q2), .second, .val (.long q3), .second, .val (.long q4), .second, .val (.long q5), .second, .val (.int p6), .val (.int (p6 &&& (3 : Int32))), .val (.ref b_107), .val (.ref b_119), .val (.ref b_132), .val (.ref b_146), .val (.ref b_161), .val (.ref b_177), .val (.ref b_177), .val (.ref b_107), .val (.ref b_107), .unset] [(.int (0 : Int32)), (.ref b_107)])) rfl rfl (hb hby at_258) _ ?_
      show Steps p.tables e below (T_192.setTop (mkF m 259 #[.val (.long q1), .second, .val (.long q2), .second, .val (.long q3), .second, .val (.long q4), .second, .val (.long q5), .second, .val (.int p6), .val (.int (p6 &&& (3 : Int32))), .val (.ref b_107), .val (.ref b_119), .val (.ref b_132), .val (.ref b_146), .val (.ref b_161), .val (.ref b_177), .val (.ref b_177), .val (.ref b_107), .val (.ref b_107), .unset] [(.long (q1 - q1))])) _
      refine XS.aload X_192.here hx rfl (hb hby at_259) rfl rfl ?_
      show Steps p.tables e below (T_192.setTop (mkF m 261 #[.val (.long q1), .second, .val (.long q2), .second, .val (.long q3), .second, .val (.long q4), .second, .val (.long q5), .second, .val (.int p6), .val (.int (p6 &&& (3 : Int32))), .val (.ref b_107), .val (.ref b_119), .val (.ref b_132), .val (.ref b_146), .val (.ref b_161), .val (.ref b_177), .val (.ref b_177), .val (.ref b_107), .val (.ref b_107), .unset] [(.ref b_177), (.long (q1 - q1))])) _
      refine XS.iconst X_192.here hx rfl (hb hby at_261) ?_
      show Steps p.tables e below (T_192.setTop (mkF m 262 #[.val (.long q1), .second, .val (.long q2), .second, .val (.long q3), .second, .val (.long q4), .second, .val (.long q5), .second, .val (.int p6), .val (.int (p6 &&& (3 : Int32))), .val (.ref b_107), .val (.ref b_119), .val (.ref b_132), .val (.ref b_146), .val (.ref b_161), .val (.ref b_177), .val (.ref b_177), .val (.ref b_107), .val (.ref b_107), .unset] [(.int (0 : Int32)), (.ref b_177), (.long (q1 - q1))])) _
      refine X_192.laload hx (j := (0 : Int32)) (v := (.long q1)) Ar_196.1 (State.isArrayOf_alike hZ.alike Ar_196.2.1) Ar_196.2.2 hin_196 hat_196 (g := (mkF m 262 #[.val (.long q1), .second, .val (.long q2), .second, .val (.long q3), .second, .val (.long q4), .second, .val (.long q5), .second, .val (.int p6), .val (.int (p6 &&& (3 : Int32))), .val (.ref b_107), .val (.ref b_119), .val (.ref b_132), .val (.ref b_146), .val (.ref b_161), .val (.ref b_177), .val (.ref b_177), .val (.ref b_107), .val (.ref b_107), .unset] [(.int (0 : Int32)), (.ref b_177), (.long (q1 - q1))])) rfl rfl (hb hby at_262) _ ?_
      show Steps p.tables e below (T_192.setTop (mkF m 263 #[.val (.long q1), .second, .val (.long q2), .second, .val (.long q3), .second, .val (.long q4), .second, .val (.long q5), .second, .val (.int p6), .val (.int (p6 &&& (3 : Int32))), .val (.ref b_107), .val (.ref b_119), .val (.ref b_132), .val (.ref b_146), .val (.ref b_161), .val (.ref b_177), .val (.ref b_177), .val (.ref b_107), .val (.ref b_107), .unset] [(.long q1), (.long (q1 - q1))])) _
      refine XS.ladd X_192.here hx rfl (hb hby at_263) rfl ?_
      show Steps p.tables e below (T_192.setTop (mkF m 264 #[.val (.long q1), .second, .val (.long q2), .second, .val (.long q3), .second, .val (.long q4), .second, .val (.long q5), .second, .val (.int p6), .val (.int (p6 &&& (3 : Int32))), .val (.ref b_107), .val (.ref b_119), .val (.ref b_132), .val (.ref b_146), .val (.ref b_161), .val (.ref b_177), .val (.ref b_177), .val (.ref b_107), .val (.ref b_107), .unset] [(.long ((q1 - q1) + q1))])) _
      refine XS.aload X_192.here hx rfl (hb hby at_264) rfl rfl ?_
      show Steps p.tables e below (T_192.setTop (mkF m 266 #[.val (.long q1), .second, .val (.long q2), .second, .val (.long q3), .second, .val (.long q4), .second, .val (.long q5), .second, .val (.int p6), .val (.int (p6 &&& (3 : Int32))), .val (.ref b_107), .val (.ref b_119), .val (.ref b_132), .val (.ref b_146), .val (.ref b_161), .val (.ref b_177), .val (.ref b_177), .val (.ref b_107), .val (.ref b_107), .unset] [(.ref b_146), (.long ((q1 - q1) + q1))])) _
      refine XS.iconst X_192.here hx rfl (hb hby at_266) ?_
      show Steps p.tables e below (T_192.setTop (mkF m 267 #[.val (.long q1), .second, .val (.long q2), .second, .val (.long q3), .second, .val (.long q4), .second, .val (.long q5), .second, .val (.int p6), .val (.int (p6 &&& (3 : Int32))), .val (.ref b_107), .val (.ref b_119), .val (.ref b_132), .val (.ref b_146), .val (.ref b_161), .val (.ref b_177), .val (.ref b_177), .val (.ref b_107), .val (.ref b_107), .unset] [(.int (0 : Int32)), (.ref b_146), (.long ((q1 - q1) + q1))])) _
      refine X_192.laload hx (j := (0 : Int32)) (v := (.long q1)) Ar_198.1 (State.isArrayOf_alike hZ.alike Ar_198.2.1) Ar_198.2.2 hin_198 hat_198 (g := (mkF m 267 #[.val (.long q1), .second, .val (.long q2), .second, .val (.long q3), .second, .val (.long q4), .second, .val (.long q5), .second, .val (.int p6), .val (.int (p6 &&& (3 : Int32))), .val (.ref b_107), .val (.ref b_119), .val (.ref b_132), .val (.ref b_146), .val (.ref b_161), .val (.ref b_177), .val (.ref b_177), .val (.ref b_107), .val (.ref b_107), .unset] [(.int (0 : Int32)), (.ref b_146), (.long ((q1 - q1) + q1))])) rfl rfl (hb hby at_267) _ ?_
      show Steps p.tables e below (T_192.setTop (mkF m 268 #[.val (.long q1), .second, .val (.long q2), .second, .val (.long q3), .second, .val (.long q4), .second, .val (.long q5), .second, .val (.int p6), .val (.int (p6 &&& (3 : Int32))), .val (.ref b_107), .val (.ref b_119), .val (.ref b_132), .val (.ref b_146), .val (.ref b_161), .val (.ref b_177), .val (.ref b_177), .val (.ref b_107), .val (.ref b_107), .unset] [(.long q1), (.long ((q1 - q1) + q1))])) _
      refine XS.lcmp X_192.here hx rfl (hb hby at_268) rfl ?_
      show Steps p.tables e below (T_192.setTop (mkF m 269 #[.val (.long q1), .second, .val (.long q2), .second, .val (.long q3), .second, .val (.long q4), .second, .val (.long q5), .second, .val (.int p6), .val (.int (p6 &&& (3 : Int32))), .val (.ref b_107), .val (.ref b_119), .val (.ref b_132), .val (.ref b_146), .val (.ref b_161), .val (.ref b_177), .val (.ref b_177), .val (.ref b_107), .val (.ref b_107), .unset] [(.int (lcmpW ((q1 - q1) + q1) q1))])) _
      refine XS.ifNo X_192.here hx rfl (hb hby at_269) rfl ((if0 _ _).trans (teq ((lw_eq _ _).mpr (Int64.sub_add_cancel _ _ : ((q1 - q1) + q1) = q1))).2) ?_
      show Steps p.tables e below (T_192.setTop (mkF m 272 #[.val (.long q1), .second, .val (.long q2), .second, .val (.long q3), .second, .val (.long q4), .second, .val (.long q5), .second, .val (.int p6), .val (.int (p6 &&& (3 : Int32))), .val (.ref b_107), .val (.ref b_119), .val (.ref b_132), .val (.ref b_146), .val (.ref b_161), .val (.ref b_177), .val (.ref b_177), .val (.ref b_107), .val (.ref b_107), .unset] [])) _
      refine XS.aload X_192.here hx rfl (hb hby at_272) rfl rfl ?_
      show Steps p.tables e below (T_192.setTop (mkF m 274 #[.val (.long q1), .second, .val (.long q2), .second, .val (.long q3), .second, .val (.long q4), .second, .val (.long q5), .second, .val (.int p6), .val (.int (p6 &&& (3 : Int32))), .val (.ref b_107), .val (.ref b_119), .val (.ref b_132), .val (.ref b_146), .val (.ref b_161), .val (.ref b_177), .val (.ref b_177), .val (.ref b_107), .val (.ref b_107), .unset] [(.ref b_107)])) _
      refine XS.iconst X_192.here hx rfl (hb hby at_274) ?_
      show Steps p.tables e below (T_192.setTop (mkF m 275 #[.val (.long q1), .second, .val (.long q2), .second, .val (.long q3), .second, .val (.long q4), .second, .val (.long q5), .second, .val (.int p6), .val (.int (p6 &&& (3 : Int32))), .val (.ref b_107), .val (.ref b_119), .val (.ref b_132), .val (.ref b_146), .val (.ref b_161), .val (.ref b_177), .val (.ref b_177), .val (.ref b_107), .val (.ref b_107), .unset] [(.int (1 : Int32)), (.ref b_107)])) _
      refine X_192.laload hx (j := (1 : Int32)) (v := (.long (q2 - q2))) Ar_199.1 (State.isArrayOf_alike hZ.alike Ar_199.2.1) Ar_199.2.2 hin_199 hat_199 (g := (mkF m 275 #[.val (.long q1), .second, .val (.long q2), .second, .val (.long q3), .second, .val (.long q4), .second, .val (.long q5), .second, .val (.int p6), .val (.int (p6 &&& (3 : Int32))), .val (.ref b_107), .val (.ref b_119), .val (.ref b_132), .val (.ref b_146), .val (.ref b_161), .val (.ref b_177), .val (.ref b_177), .val (.ref b_107), .val (.ref b_107), .unset] [(.int (1 : Int32)), (.ref b_107)])) rfl rfl (hb hby at_275) _ ?_
      show Steps p.tables e below (T_192.setTop (mkF m 276 #[.val (.long q1), .second, .val (.long q2), .second, .val (.long q3), .second, .val (.long q4), .second, .val (.long q5), .second, .val (.int p6), .val (.int (p6 &&& (3 : Int32))), .val (.ref b_107), .val (.ref b_119), .val (.ref b_132), .val (.ref b_146), .val (.ref b_161), .val (.ref b_177), .val (.ref b_177), .val (.ref b_107), .val (.ref b_107), .unset] [(.long (q2 - q2))])) _
      refine XS.aload X_192.here hx rfl (hb hby at_276) rfl rfl ?_
      show Steps p.tables e below (T_192.setTop (mkF m 278 #[.val (.long q1), .second, .val (.long q2), .second, .val (.long q3), .second, .val (.long q4), .second, .val (.long q5), .second, .val (.int p6), .val (.int (p6 &&& (3 : Int32))), .val (.ref b_107), .val (.ref b_119), .val (.ref b_132), .val (.ref b_146), .val (.ref b_161), .val (.ref b_177), .val (.ref b_177), .val (.ref b_107), .val (.ref b_107), .unset] [(.ref b_177), (.long (q2 - q2))])) _
      refine XS.iconst X_192.here hx rfl (hb hby at_278) ?_
      show Steps p.tables e below (T_192.setTop (mkF m 279 #[.val (.long q1), .second, .val (.long q2), .second, .val (.long q3), .second, .val (.long q4), .second, .val (.long q5), .second, .val (.int p6), .val (.int (p6 &&& (3 : Int32))), .val (.ref b_107), .val (.ref b_119), .val (.ref b_132), .val (.ref b_146), .val (.ref b_161), .val (.ref b_177), .val (.ref b_177), .val (.ref b_107), .val (.ref b_107), .unset] [(.int (1 : Int32)), (.ref b_177), (.long (q2 - q2))])) _
      refine X_192.laload hx (j := (1 : Int32)) (v := (.long q2)) Ar_200.1 (State.isArrayOf_alike hZ.alike Ar_200.2.1) Ar_200.2.2 hin_200 hat_200 (g := (mkF m 279 #[.val (.long q1), .second, .val (.long q2), .second, .val (.long q3), .second, .val (.long q4), .second, .val (.long q5), .second, .val (.int p6), .val (.int (p6 &&& (3 : Int32))), .val (.ref b_107), .val (.ref b_119), .val (.ref b_132), .val (.ref b_146), .val (.ref b_161), .val (.ref b_177), .val (.ref b_177), .val (.ref b_107), .val (.ref b_107), .unset] [(.int (1 : Int32)), (.ref b_177), (.long (q2 - q2))])) rfl rfl (hb hby at_279) _ ?_
      show Steps p.tables e below (T_192.setTop (mkF m 280 #[.val (.long q1), .second, .val (.long q2), .second, .val (.long q3), .second, .val (.long q4), .second, .val (.long q5), .second, .val (.int p6), .val (.int (p6 &&& (3 : Int32))), .val (.ref b_107), .val (.ref b_119), .val (.ref b_132), .val (.ref b_146), .val (.ref b_161), .val (.ref b_177), .val (.ref b_177), .val (.ref b_107), .val (.ref b_107), .unset] [(.long q2), (.long (q2 - q2))])) _
      refine XS.ladd X_192.here hx rfl (hb hby at_280) rfl ?_
      show Steps p.tables e below (T_192.setTop (mkF m 281 #[.val (.long q1), .second, .val (.long q2), .second, .val (.long q3), .second, .val (.long q4), .second, .val (.long q5), .second, .val (.int p6), .val (.int (p6 &&& (3 : Int32))), .val (.ref b_107), .val (.ref b_119), .val (.ref b_132), .val (.ref b_146), .val (.ref b_161), .val (.ref b_177), .val (.ref b_177), .val (.ref b_107), .val (.ref b_107), .unset] [(.long ((q2 - q2) + q2))])) _
      refine XS.aload X_192.here hx rfl (hb hby at_281) rfl rfl ?_
      show Steps p.tables e below (T_192.setTop (mkF m 283 #[.val (.long q1), .second, .val (.long q2), .second, .val (.long q3), .second, .val (.long q4), .second, .val (.long q5), .second, .val (.int p6), .val (.int (p6 &&& (3 : Int32))), .val (.ref b_107), .val (.ref b_119), .val (.ref b_132), .val (.ref b_146), .val (.ref b_161), .val (.ref b_177), .val (.ref b_177), .val (.ref b_107), .val (.ref b_107), .unset] [(.ref b_146), (.long ((q2 - q2) + q2))])) _
      refine XS.iconst X_192.here hx rfl (hb hby at_283) ?_
      show Steps p.tables e below (T_192.setTop (mkF m 284 #[.val (.long q1), .second, .val (.long q2), .second, .val (.long q3), .second, .val (.long q4), .second, .val (.long q5), .second, .val (.int p6), .val (.int (p6 &&& (3 : Int32))), .val (.ref b_107), .val (.ref b_119), .val (.ref b_132), .val (.ref b_146), .val (.ref b_161), .val (.ref b_177), .val (.ref b_177), .val (.ref b_107), .val (.ref b_107), .unset] [(.int (1 : Int32)), (.ref b_146), (.long ((q2 - q2) + q2))])) _
      refine X_192.laload hx (j := (1 : Int32)) (v := (.long q2)) Ar_201.1 (State.isArrayOf_alike hZ.alike Ar_201.2.1) Ar_201.2.2 hin_201 hat_201 (g := (mkF m 284 #[.val (.long q1), .second, .val (.long q2), .second, .val (.long q3), .second, .val (.long q4), .second, .val (.long q5), .second, .val (.int p6), .val (.int (p6 &&& (3 : Int32))), .val (.ref b_107), .val (.ref b_119), .val (.ref b_132), .val (.ref b_146), .val (.ref b_161), .val (.ref b_177), .val (.ref b_177), .val (.ref b_107), .val (.ref b_107), .unset] [(.int (1 : Int32)), (.ref b_146), (.long ((q2 - q2) + q2))])) rfl rfl (hb hby at_284) _ ?_
      show Steps p.tables e below (T_192.setTop (mkF m 285 #[.val (.long q1), .second, .val (.long q2), .second, .val (.long q3), .second, .val (.long q4), .second, .val (.long q5), .second, .val (.int p6), .val (.int (p6 &&& (3 : Int32))), .val (.ref b_107), .val (.ref b_119), .val (.ref b_132), .val (.ref b_146), .val (.ref b_161), .val (.ref b_177), .val (.ref b_177), .val (.ref b_107), .val (.ref b_107), .unset] [(.long q2), (.long ((q2 - q2) + q2))])) _
      refine XS.lcmp X_192.here hx rfl (hb hby at_285) rfl ?_
      show Steps p.tables e below (T_192.setTop (mkF m 286 #[.val (.long q1), .second, .val (.long q2), .second, .val (.long q3), .second, .val (.long q4), .second, .val (.long q5), .second, .val (.int p6), .val (.int (p6 &&& (3 : Int32))), .val (.ref b_107), .val (.ref b_119), .val (.ref b_132), .val (.ref b_146), .val (.ref b_161), .val (.ref b_177), .val (.ref b_177), .val (.ref b_107), .val (.ref b_107), .unset] [(.int (lcmpW ((q2 - q2) + q2) q2))])) _
      refine XS.ifNo X_192.here hx rfl (hb hby at_286) rfl ((if0 _ _).trans (teq ((lw_eq _ _).mpr (Int64.sub_add_cancel _ _ : ((q2 - q2) + q2) = q2))).2) ?_
      show Steps p.tables e below (T_192.setTop (mkF m 289 #[.val (.long q1), .second, .val (.long q2), .second, .val (.long q3), .second, .val (.long q4), .second, .val (.long q5), .second, .val (.int p6), .val (.int (p6 &&& (3 : Int32))), .val (.ref b_107), .val (.ref b_119), .val (.ref b_132), .val (.ref b_146), .val (.ref b_161), .val (.ref b_177), .val (.ref b_177), .val (.ref b_107), .val (.ref b_107), .unset] [])) _
      refine XS.aload X_192.here hx rfl (hb hby at_289) rfl rfl ?_
      show Steps p.tables e below (T_192.setTop (mkF m 291 #[.val (.long q1), .second, .val (.long q2), .second, .val (.long q3), .second, .val (.long q4), .second, .val (.long q5), .second, .val (.int p6), .val (.int (p6 &&& (3 : Int32))), .val (.ref b_107), .val (.ref b_119), .val (.ref b_132), .val (.ref b_146), .val (.ref b_161), .val (.ref b_177), .val (.ref b_177), .val (.ref b_107), .val (.ref b_107), .unset] [(.ref b_107)])) _
      refine XS.iconst X_192.here hx rfl (hb hby at_291) ?_
      show Steps p.tables e below (T_192.setTop (mkF m 292 #[.val (.long q1), .second, .val (.long q2), .second, .val (.long q3), .second, .val (.long q4), .second, .val (.long q5), .second, .val (.int p6), .val (.int (p6 &&& (3 : Int32))), .val (.ref b_107), .val (.ref b_119), .val (.ref b_132), .val (.ref b_146), .val (.ref b_161), .val (.ref b_177), .val (.ref b_177), .val (.ref b_107), .val (.ref b_107), .unset] [(.int (2 : Int32)), (.ref b_107)])) _
      refine X_192.laload hx (j := (2 : Int32)) (v := (.long (q3 - q3))) Ar_202.1 (State.isArrayOf_alike hZ.alike Ar_202.2.1) Ar_202.2.2 hin_202 hat_202 (g := (mkF m 292 #[.val (.long q1), .second, .val (.long q2), .second, .val (.long q3), .second, .val (.long q4), .second, .val (.long q5), .second, .val (.int p6), .val (.int (p6 &&& (3 : Int32))), .val (.ref b_107), .val (.ref b_119), .val (.ref b_132), .val (.ref b_146), .val (.ref b_161), .val (.ref b_177), .val (.ref b_177), .val (.ref b_107), .val (.ref b_107), .unset] [(.int (2 : Int32)), (.ref b_107)])) rfl rfl (hb hby at_292) _ ?_
      show Steps p.tables e below (T_192.setTop (mkF m 293 #[.val (.long q1), .second, .val (.long q2), .second, .val (.long q3), .second, .val (.long q4), .second, .val (.long q5), .second, .val (.int p6), .val (.int (p6 &&& (3 : Int32))), .val (.ref b_107), .val (.ref b_119), .val (.ref b_132), .val (.ref b_146), .val (.ref b_161), .val (.ref b_177), .val (.ref b_177), .val (.ref b_107), .val (.ref b_107), .unset] [(.long (q3 - q3))])) _
      refine XS.aload X_192.here hx rfl (hb hby at_293) rfl rfl ?_
      show Steps p.tables e below (T_192.setTop (mkF m 295 #[.val (.long q1), .second, .val (.long q2), .second, .val (.long q3), .second, .val (.long q4), .second, .val (.long q5), .second, .val (.int p6), .val (.int (p6 &&& (3 : Int32))), .val (.ref b_107), .val (.ref b_119), .val (.ref b_132), .val (.ref b_146), .val (.ref b_161), .val (.ref b_177), .val (.ref b_177), .val (.ref b_107), .val (.ref b_107), .unset] [(.ref b_177), (.long (q3 - q3))])) _
      refine XS.iconst X_192.here hx rfl (hb hby at_295) ?_
      show Steps p.tables e below (T_192.setTop (mkF m 296 #[.val (.long q1), .second, .val (.long q2), .second, .val (.long q3), .second, .val (.long q4), .second, .val (.long q5), .second, .val (.int p6), .val (.int (p6 &&& (3 : Int32))), .val (.ref b_107), .val (.ref b_119), .val (.ref b_132), .val (.ref b_146), .val (.ref b_161), .val (.ref b_177), .val (.ref b_177), .val (.ref b_107), .val (.ref b_107), .unset] [(.int (2 : Int32)), (.ref b_177), (.long (q3 - q3))])) _
      refine X_192.laload hx (j := (2 : Int32)) (v := (.long q3)) Ar_203.1 (State.isArrayOf_alike hZ.alike Ar_203.2.1) Ar_203.2.2 hin_203 hat_203 (g := (mkF m 296 #[.val (.long q1), .second, .val (.long q2), .second, .val (.long q3), .second, .val (.long q4), .second, .val (.long q5), .second, .val (.int p6), .val (.int (p6 &&& (3 : Int32))), .val (.ref b_107), .val (.ref b_119), .val (.ref b_132), .val (.ref b_146), .val (.ref b_161), .val (.ref b_177), .val (.ref b_177), .val (.ref b_107), .val (.ref b_107), .unset] [(.int (2 : Int32)), (.ref b_177), (.long (q3 - q3))])) rfl rfl (hb hby at_296) _ ?_
      show Steps p.tables e below (T_192.setTop (mkF m 297 #[.val (.long q1), .second, .val (.long q2), .second, .val (.long q3), .second, .val (.long q4), .second, .val (.long q5), .second, .val (.int p6), .val (.int (p6 &&& (3 : Int32))), .val (.ref b_107), .val (.ref b_119), .val (.ref b_132), .val (.ref b_146), .val (.ref b_161), .val (.ref b_177), .val (.ref b_177), .val (.ref b_107), .val (.ref b_107), .unset] [(.long q3), (.long (q3 - q3))])) _
      refine XS.ladd X_192.here hx rfl (hb hby at_297) rfl ?_
      show Steps p.tables e below (T_192.setTop (mkF m 298 #[.val (.long q1), .second, .val (.long q2), .second, .val (.long q3), .second, .val (.long q4), .second, .val (.long q5), .second, .val (.int p6), .val (.int (p6 &&& (3 : Int32))), .val (.ref b_107), .val (.ref b_119), .val (.ref b_132), .val (.ref b_146), .val (.ref b_161), .val (.ref b_177), .val (.ref b_177), .val (.ref b_107), .val (.ref b_107), .unset] [(.long ((q3 - q3) + q3))])) _
      refine XS.aload X_192.here hx rfl (hb hby at_298) rfl rfl ?_
      show Steps p.tables e below (T_192.setTop (mkF m 300 #[.val (.long q1), .second, .val (.long q2), .second, .val (.long q3), .second, .val (.long q4), .second, .val (.long q5), .second, .val (.int p6), .val (.int (p6 &&& (3 : Int32))), .val (.ref b_107), .val (.ref b_119), .val (.ref b_132), .val (.ref b_146), .val (.ref b_161), .val (.ref b_177), .val (.ref b_177), .val (.ref b_107), .val (.ref b_107), .unset] [(.ref b_146), (.long ((q3 - q3) + q3))])) _
      refine XS.iconst X_192.here hx rfl (hb hby at_300) ?_
      show Steps p.tables e below (T_192.setTop (mkF m 301 #[.val (.long q1), .second, .val (.long q2), .second, .val (.long q3), .second, .val (.long q4), .second, .val (.long q5), .second, .val (.int p6), .val (.int (p6 &&& (3 : Int32))), .val (.ref b_107), .val (.ref b_119), .val (.ref b_132), .val (.ref b_146), .val (.ref b_161), .val (.ref b_177), .val (.ref b_177), .val (.ref b_107), .val (.ref b_107), .unset] [(.int (2 : Int32)), (.ref b_146), (.long ((q3 - q3) + q3))])) _
      refine X_192.laload hx (j := (2 : Int32)) (v := (.long q3)) Ar_204.1 (State.isArrayOf_alike hZ.alike Ar_204.2.1) Ar_204.2.2 hin_204 hat_204 (g := (mkF m 301 #[.val (.long q1), .second, .val (.long q2), .second, .val (.long q3), .second, .val (.long q4), .second, .val (.long q5), .second, .val (.int p6), .val (.int (p6 &&& (3 : Int32))), .val (.ref b_107), .val (.ref b_119), .val (.ref b_132), .val (.ref b_146), .val (.ref b_161), .val (.ref b_177), .val (.ref b_177), .val (.ref b_107), .val (.ref b_107), .unset] [(.int (2 : Int32)), (.ref b_146), (.long ((q3 - q3) + q3))])) rfl rfl (hb hby at_301) _ ?_
      show Steps p.tables e below (T_192.setTop (mkF m 302 #[.val (.long q1), .second, .val (.long q2), .second, .val (.long q3), .second, .val (.long q4), .second, .val (.long q5), .second, .val (.int p6), .val (.int (p6 &&& (3 : Int32))), .val (.ref b_107), .val (.ref b_119), .val (.ref b_132), .val (.ref b_146), .val (.ref b_161), .val (.ref b_177), .val (.ref b_177), .val (.ref b_107), .val (.ref b_107), .unset] [(.long q3), (.long ((q3 - q3) + q3))])) _
      refine XS.lcmp X_192.here hx rfl (hb hby at_302) rfl ?_
      show Steps p.tables e below (T_192.setTop (mkF m 303 #[.val (.long q1), .second, .val (.long q2), .second, .val (.long q3), .second, .val (.long q4), .second, .val (.long q5), .second, .val (.int p6), .val (.int (p6 &&& (3 : Int32))), .val (.ref b_107), .val (.ref b_119), .val (.ref b_132), .val (.ref b_146), .val (.ref b_161), .val (.ref b_177), .val (.ref b_177), .val (.ref b_107), .val (.ref b_107), .unset] [(.int (lcmpW ((q3 - q3) + q3) q3))])) _
      refine XS.ifNo X_192.here hx rfl (hb hby at_303) rfl ((if0 _ _).trans (teq ((lw_eq _ _).mpr (Int64.sub_add_cancel _ _ : ((q3 - q3) + q3) = q3))).2) ?_
      show Steps p.tables e below (T_192.setTop (mkF m 306 #[.val (.long q1), .second, .val (.long q2), .second, .val (.long q3), .second, .val (.long q4), .second, .val (.long q5), .second, .val (.int p6), .val (.int (p6 &&& (3 : Int32))), .val (.ref b_107), .val (.ref b_119), .val (.ref b_132), .val (.ref b_146), .val (.ref b_161), .val (.ref b_177), .val (.ref b_177), .val (.ref b_107), .val (.ref b_107), .unset] [])) _
      refine XS.aload X_192.here hx rfl (hb hby at_306) rfl rfl ?_
      show Steps p.tables e below (T_192.setTop (mkF m 308 #[.val (.long q1), .second, .val (.long q2), .second, .val (.long q3), .second, .val (.long q4), .second, .val (.long q5), .second, .val (.int p6), .val (.int (p6 &&& (3 : Int32))), .val (.ref b_107), .val (.ref b_119), .val (.ref b_132), .val (.ref b_146), .val (.ref b_161), .val (.ref b_177), .val (.ref b_177), .val (.ref b_107), .val (.ref b_107), .unset] [(.ref b_107)])) _
      refine XS.iconst X_192.here hx rfl (hb hby at_308) ?_
      show Steps p.tables e below (T_192.setTop (mkF m 309 #[.val (.long q1), .second, .val (.long q2), .second, .val (.long q3), .second, .val (.long q4), .second, .val (.long q5), .second, .val (.int p6), .val (.int (p6 &&& (3 : Int32))), .val (.ref b_107), .val (.ref b_119), .val (.ref b_132), .val (.ref b_146), .val (.ref b_161), .val (.ref b_177), .val (.ref b_177), .val (.ref b_107), .val (.ref b_107), .unset] [(.int (3 : Int32)), (.ref b_107)])) _
      refine X_192.laload hx (j := (3 : Int32)) (v := (.long (q4 - q4))) Ar_205.1 (State.isArrayOf_alike hZ.alike Ar_205.2.1) Ar_205.2.2 hin_205 hat_205 (g := (mkF m 309 #[.val (.long q1), .second, .val (.long q2), .second, .val (.long q3), .second, .val (.long q4), .second, .val (.long q5), .second, .val (.int p6), .val (.int (p6 &&& (3 : Int32))), .val (.ref b_107), .val (.ref b_119), .val (.ref b_132), .val (.ref b_146), .val (.ref b_161), .val (.ref b_177), .val (.ref b_177), .val (.ref b_107), .val (.ref b_107), .unset] [(.int (3 : Int32)), (.ref b_107)])) rfl rfl (hb hby at_309) _ ?_
      show Steps p.tables e below (T_192.setTop (mkF m 310 #[.val (.long q1), .second, .val (.long q2), .second, .val (.long q3), .second, .val (.long q4), .second, .val (.long q5), .second, .val (.int p6), .val (.int (p6 &&& (3 : Int32))), .val (.ref b_107), .val (.ref b_119), .val (.ref b_132), .val (.ref b_146), .val (.ref b_161), .val (.ref b_177), .val (.ref b_177), .val (.ref b_107), .val (.ref b_107), .unset] [(.long (q4 - q4))])) _
      refine XS.aload X_192.here hx rfl (hb hby at_310) rfl rfl ?_
      show Steps p.tables e below (T_192.setTop (mkF m 312 #[.val (.long q1), .second, .val (.long q2), .second, .val (.long q3), .second, .val (.long q4), .second, .val (.long q5), .second, .val (.int p6), .val (.int (p6 &&& (3 : Int32))), .val (.ref b_107), .val (.ref b_119), .val (.ref b_132), .val (.ref b_146), .val (.ref b_161), .val (.ref b_177), .val (.ref b_177), .val (.ref b_107), .val (.ref b_107), .unset] [(.ref b_177), (.long (q4 - q4))])) _
      refine XS.iconst X_192.here hx rfl (hb hby at_312) ?_
      show Steps p.tables e below (T_192.setTop (mkF m 313 #[.val (.long q1), .second, .val (.long q2), .second, .val (.long q3), .second, .val (.long q4), .second, .val (.long q5), .second, .val (.int p6), .val (.int (p6 &&& (3 : Int32))), .val (.ref b_107), .val (.ref b_119), .val (.ref b_132), .val (.ref b_146), .val (.ref b_161), .val (.ref b_177), .val (.ref b_177), .val (.ref b_107), .val (.ref b_107), .unset] [(.int (3 : Int32)), (.ref b_177), (.long (q4 - q4))])) _
      refine X_192.laload hx (j := (3 : Int32)) (v := (.long q4)) Ar_206.1 (State.isArrayOf_alike hZ.alike Ar_206.2.1) Ar_206.2.2 hin_206 hat_206 (g := (mkF m 313 #[.val (.long q1), .second, .val (.long q2), .second, .val (.long q3), .second, .val (.long q4), .second, .val (.long q5), .second, .val (.int p6), .val (.int (p6 &&& (3 : Int32))), .val (.ref b_107), .val (.ref b_119), .val (.ref b_132), .val (.ref b_146), .val (.ref b_161), .val (.ref b_177), .val (.ref b_177), .val (.ref b_107), .val (.ref b_107), .unset] [(.int (3 : Int32)), (.ref b_177), (.long (q4 - q4))])) rfl rfl (hb hby at_313) _ ?_
      show Steps p.tables e below (T_192.setTop (mkF m 314 #[.val (.long q1), .second, .val (.long q2), .second, .val (.long q3), .second, .val (.long q4), .second, .val (.long q5), .second, .val (.int p6), .val (.int (p6 &&& (3 : Int32))), .val (.ref b_107), .val (.ref b_119), .val (.ref b_132), .val (.ref b_146), .val (.ref b_161), .val (.ref b_177), .val (.ref b_177), .val (.ref b_107), .val (.ref b_107), .unset] [(.long q4), (.long (q4 - q4))])) _
      refine XS.ladd X_192.here hx rfl (hb hby at_314) rfl ?_
      show Steps p.tables e below (T_192.setTop (mkF m 315 #[.val (.long q1), .second, .val (.long q2), .second, .val (.long q3), .second, .val (.long q4), .second, .val (.long q5), .second, .val (.int p6), .val (.int (p6 &&& (3 : Int32))), .val (.ref b_107), .val (.ref b_119), .val (.ref b_132), .val (.ref b_146), .val (.ref b_161), .val (.ref b_177), .val (.ref b_177), .val (.ref b_107), .val (.ref b_107), .unset] [(.long ((q4 - q4) + q4))])) _
      refine XS.aload X_192.here hx rfl (hb hby at_315) rfl rfl ?_
      show Steps p.tables e below (T_192.setTop (mkF m 317 #[.val (.long q1), .second, .val (.long q2), .second, .val (.long q3), .second, .val (.long q4), .second, .val (.long q5), .second, .val (.int p6), .val (.int (p6 &&& (3 : Int32))), .val (.ref b_107), .val (.ref b_119), .val (.ref b_132), .val (.ref b_146), .val (.ref b_161), .val (.ref b_177), .val (.ref b_177), .val (.ref b_107), .val (.ref b_107), .unset] [(.ref b_146), (.long ((q4 - q4) + q4))])) _
      refine XS.iconst X_192.here hx rfl (hb hby at_317) ?_
      show Steps p.tables e below (T_192.setTop (mkF m 318 #[.val (.long q1), .second, .val (.long q2), .second, .val (.long q3), .second, .val (.long q4), .second, .val (.long q5), .second, .val (.int p6), .val (.int (p6 &&& (3 : Int32))), .val (.ref b_107), .val (.ref b_119), .val (.ref b_132), .val (.ref b_146), .val (.ref b_161), .val (.ref b_177), .val (.ref b_177), .val (.ref b_107), .val (.ref b_107), .unset] [(.int (3 : Int32)), (.ref b_146), (.long ((q4 - q4) + q4))])) _
      refine X_192.laload hx (j := (3 : Int32)) (v := (.long q4)) Ar_207.1 (State.isArrayOf_alike hZ.alike Ar_207.2.1) Ar_207.2.2 hin_207 hat_207 (g := (mkF m 318 #[.val (.long q1), .second, .val (.long q2), .second, .val (.long q3), .second, .val (.long q4), .second, .val (.long q5), .second, .val (.int p6), .val (.int (p6 &&& (3 : Int32))), .val (.ref b_107), .val (.ref b_119), .val (.ref b_132), .val (.ref b_146), .val (.ref b_161), .val (.ref b_177), .val (.ref b_177), .val (.ref b_107), .val (.ref b_107), .unset] [(.int (3 : Int32)), (.ref b_146), (.long ((q4 - q4) + q4))])) rfl rfl (hb hby at_318) _ ?_
      show Steps p.tables e below (T_192.setTop (mkF m 319 #[.val (.long q1), .second, .val (.long q2), .second, .val (.long q3), .second, .val (.long q4), .second, .val (.long q5), .second, .val (.int p6), .val (.int (p6 &&& (3 : Int32))), .val (.ref b_107), .val (.ref b_119), .val (.ref b_132), .val (.ref b_146), .val (.ref b_161), .val (.ref b_177), .val (.ref b_177), .val (.ref b_107), .val (.ref b_107), .unset] [(.long q4), (.long ((q4 - q4) + q4))])) _
      refine XS.lcmp X_192.here hx rfl (hb hby at_319) rfl ?_
      show Steps p.tables e below (T_192.setTop (mkF m 320 #[.val (.long q1), .second, .val (.long q2), .second, .val (.long q3), .second, .val (.long q4), .second, .val (.long q5), .second, .val (.int p6), .val (.int (p6 &&& (3 : Int32))), .val (.ref b_107), .val (.ref b_119), .val (.ref b_132), .val (.ref b_146), .val (.ref b_161), .val (.ref b_177), .val (.ref b_177), .val (.ref b_107), .val (.ref b_107), .unset] [(.int (lcmpW ((q4 - q4) + q4) q4))])) _
      refine XS.ifNo X_192.here hx rfl (hb hby at_320) rfl ((if0 _ _).trans (teq ((lw_eq _ _).mpr (Int64.sub_add_cancel _ _ : ((q4 - q4) + q4) = q4))).2) ?_
      show Steps p.tables e below (T_192.setTop (mkF m 323 #[.val (.long q1), .second, .val (.long q2), .second, .val (.long q3), .second, .val (.long q4), .second, .val (.long q5), .second, .val (.int p6), .val (.int (p6 &&& (3 : Int32))), .val (.ref b_107), .val (.ref b_119), .val (.ref b_132), .val (.ref b_146), .val (.ref b_161), .val (.ref b_177), .val (.ref b_177), .val (.ref b_107), .val (.ref b_107), .unset] [])) _
      refine XS.aload X_192.here hx rfl (hb hby at_323) rfl rfl ?_
      show Steps p.tables e below (T_192.setTop (mkF m 325 #[.val (.long q1), .second, .val (.long q2), .second, .val (.long q3), .second, .val (.long q4), .second, .val (.long q5), .second, .val (.int p6), .val (.int (p6 &&& (3 : Int32))), .val (.ref b_107), .val (.ref b_119), .val (.ref b_132), .val (.ref b_146), .val (.ref b_161), .val (.ref b_177), .val (.ref b_177), .val (.ref b_107), .val (.ref b_107), .unset] [(.ref b_107)])) _
      refine XS.iconst X_192.here hx rfl (hb hby at_325) ?_
      show Steps p.tables e below (T_192.setTop (mkF m 326 #[.val (.long q1), .second, .val (.long q2), .second, .val (.long q3), .second, .val (.long q4), .second, .val (.long q5), .second, .val (.int p6), .val (.int (p6 &&& (3 : Int32))), .val (.ref b_107), .val (.ref b_119), .val (.ref b_132), .val (.ref b_146), .val (.ref b_161), .val (.ref b_177), .val (.ref b_177), .val (.ref b_107), .val (.ref b_107), .unset] [(.int (4 : Int32)), (.ref b_107)])) _
      refine X_192.laload hx (j := (4 : Int32)) (v := (.long (q5 - q5))) Ar_208.1 (State.isArrayOf_alike hZ.alike Ar_208.2.1) Ar_208.2.2 hin_208 hat_208 (g := (mkF m 326 #[.val (.long q1), .second, .val (.long q2), .second, .val (.long q3), .second, .val (.long q4), .second, .val (.long q5), .second, .val (.int p6), .val (.int (p6 &&& (3 : Int32))), .val (.ref b_107), .val (.ref b_119), .val (.ref b_132), .val (.ref b_146), .val (.ref b_161), .val (.ref b_177), .val (.ref b_177), .val (.ref b_107), .val (.ref b_107), .unset] [(.int (4 : Int32)), (.ref b_107)])) rfl rfl (hb hby at_326) _ ?_
      show Steps p.tables e below (T_192.setTop (mkF m 327 #[.val (.long q1), .second, .val (.long q2), .second, .val (.long q3), .second, .val (.long q4), .second, .val (.long q5), .second, .val (.int p6), .val (.int (p6 &&& (3 : Int32))), .val (.ref b_107), .val (.ref b_119), .val (.ref b_132), .val (.ref b_146), .val (.ref b_161), .val (.ref b_177), .val (.ref b_177), .val (.ref b_107), .val (.ref b_107), .unset] [(.long (q5 - q5))])) _
      refine XS.aload X_192.here hx rfl (hb hby at_327) rfl rfl ?_
      show Steps p.tables e below (T_192.setTop (mkF m 329 #[.val (.long q1), .second, .val (.long q2), .second, .val (.long q3), .second, .val (.long q4), .second, .val (.long q5), .second, .val (.int p6), .val (.int (p6 &&& (3 : Int32))), .val (.ref b_107), .val (.ref b_119), .val (.ref b_132), .val (.ref b_146), .val (.ref b_161), .val (.ref b_177), .val (.ref b_177), .val (.ref b_107), .val (.ref b_107), .unset] [(.ref b_177), (.long (q5 - q5))])) _
      refine XS.iconst X_192.here hx rfl (hb hby at_329) ?_
      show Steps p.tables e below (T_192.setTop (mkF m 330 #[.val (.long q1), .second, .val (.long q2), .second, .val (.long q3), .second, .val (.long q4), .second, .val (.long q5), .second, .val (.int p6), .val (.int (p6 &&& (3 : Int32))), .val (.ref b_107), .val (.ref b_119), .val (.ref b_132), .val (.ref b_146), .val (.ref b_161), .val (.ref b_177), .val (.ref b_177), .val (.ref b_107), .val (.ref b_107), .unset] [(.int (4 : Int32)), (.ref b_177), (.long (q5 - q5))])) _
      refine X_192.laload hx (j := (4 : Int32)) (v := (.long q5)) Ar_209.1 (State.isArrayOf_alike hZ.alike Ar_209.2.1) Ar_209.2.2 hin_209 hat_209 (g := (mkF m 330 #[.val (.long q1), .second, .val (.long q2), .second, .val (.long q3), .second, .val (.long q4), .second, .val (.long q5), .second, .val (.int p6), .val (.int (p6 &&& (3 : Int32))), .val (.ref b_107), .val (.ref b_119), .val (.ref b_132), .val (.ref b_146), .val (.ref b_161), .val (.ref b_177), .val (.ref b_177), .val (.ref b_107), .val (.ref b_107), .unset] [(.int (4 : Int32)), (.ref b_177), (.long (q5 - q5))])) rfl rfl (hb hby at_330) _ ?_
      show Steps p.tables e below (T_192.setTop (mkF m 331 #[.val (.long q1), .second, .val (.long q2), .second, .val (.long q3), .second, .val (.long q4), .second, .val (.long q5), .second, .val (.int p6), .val (.int (p6 &&& (3 : Int32))), .val (.ref b_107), .val (.ref b_119), .val (.ref b_132), .val (.ref b_146), .val (.ref b_161), .val (.ref b_177), .val (.ref b_177), .val (.ref b_107), .val (.ref b_107), .unset] [(.long q5), (.long (q5 - q5))])) _
      refine XS.ladd X_192.here hx rfl (hb hby at_331) rfl ?_
      show Steps p.tables e below (T_192.setTop (mkF m 332 #[.val (.long q1), .second, .val (.long q2), .second, .val (.long q3), .second, .val (.long q4), .second, .val (.long q5), .second, .val (.int p6), .val (.int (p6 &&& (3 : Int32))), .val (.ref b_107), .val (.ref b_119), .val (.ref b_132), .val (.ref b_146), .val (.ref b_161), .val (.ref b_177), .val (.ref b_177), .val (.ref b_107), .val (.ref b_107), .unset] [(.long ((q5 - q5) + q5))])) _
      refine XS.aload X_192.here hx rfl (hb hby at_332) rfl rfl ?_
      show Steps p.tables e below (T_192.setTop (mkF m 334 #[.val (.long q1), .second, .val (.long q2), .second, .val (.long q3), .second, .val (.long q4), .second, .val (.long q5), .second, .val (.int p6), .val (.int (p6 &&& (3 : Int32))), .val (.ref b_107), .val (.ref b_119), .val (.ref b_132), .val (.ref b_146), .val (.ref b_161), .val (.ref b_177), .val (.ref b_177), .val (.ref b_107), .val (.ref b_107), .unset] [(.ref b_146), (.long ((q5 - q5) + q5))])) _
      refine XS.iconst X_192.here hx rfl (hb hby at_334) ?_
      show Steps p.tables e below (T_192.setTop (mkF m 335 #[.val (.long q1), .second, .val (.long q2), .second, .val (.long q3), .second, .val (.long q4), .second, .val (.long q5), .second, .val (.int p6), .val (.int (p6 &&& (3 : Int32))), .val (.ref b_107), .val (.ref b_119), .val (.ref b_132), .val (.ref b_146), .val (.ref b_161), .val (.ref b_177), .val (.ref b_177), .val (.ref b_107), .val (.ref b_107), .unset] [(.int (4 : Int32)), (.ref b_146), (.long ((q5 - q5) + q5))])) _
      refine X_192.laload hx (j := (4 : Int32)) (v := (.long q5)) Ar_210.1 (State.isArrayOf_alike hZ.alike Ar_210.2.1) Ar_210.2.2 hin_210 hat_210 (g := (mkF m 335 #[.val (.long q1), .second, .val (.long q2), .second, .val (.long q3), .second, .val (.long q4), .second, .val (.long q5), .second, .val (.int p6), .val (.int (p6 &&& (3 : Int32))), .val (.ref b_107), .val (.ref b_119), .val (.ref b_132), .val (.ref b_146), .val (.ref b_161), .val (.ref b_177), .val (.ref b_177), .val (.ref b_107), .val (.ref b_107), .unset] [(.int (4 : Int32)), (.ref b_146), (.long ((q5 - q5) + q5))])) rfl rfl (hb hby at_335) _ ?_
      show Steps p.tables e below (T_192.setTop (mkF m 336 #[.val (.long q1), .second, .val (.long q2), .second, .val (.long q3), .second, .val (.long q4), .second, .val (.long q5), .second, .val (.int p6), .val (.int (p6 &&& (3 : Int32))), .val (.ref b_107), .val (.ref b_119), .val (.ref b_132), .val (.ref b_146), .val (.ref b_161), .val (.ref b_177), .val (.ref b_177), .val (.ref b_107), .val (.ref b_107), .unset] [(.long q5), (.long ((q5 - q5) + q5))])) _
      refine XS.lcmp X_192.here hx rfl (hb hby at_336) rfl ?_
      show Steps p.tables e below (T_192.setTop (mkF m 337 #[.val (.long q1), .second, .val (.long q2), .second, .val (.long q3), .second, .val (.long q4), .second, .val (.long q5), .second, .val (.int p6), .val (.int (p6 &&& (3 : Int32))), .val (.ref b_107), .val (.ref b_119), .val (.ref b_132), .val (.ref b_146), .val (.ref b_161), .val (.ref b_177), .val (.ref b_177), .val (.ref b_107), .val (.ref b_107), .unset] [(.int (lcmpW ((q5 - q5) + q5) q5))])) _
      refine XS.ifNo X_192.here hx rfl (hb hby at_337) rfl ((if0 _ _).trans (teq ((lw_eq _ _).mpr (Int64.sub_add_cancel _ _ : ((q5 - q5) + q5) = q5))).2) ?_
      show Steps p.tables e below (T_192.setTop (mkF m 340 #[.val (.long q1), .second, .val (.long q2), .second, .val (.long q3), .second, .val (.long q4), .second, .val (.long q5), .second, .val (.int p6), .val (.int (p6 &&& (3 : Int32))), .val (.ref b_107), .val (.ref b_119), .val (.ref b_132), .val (.ref b_146), .val (.ref b_161), .val (.ref b_177), .val (.ref b_177), .val (.ref b_107), .val (.ref b_107), .unset] [])) _
      refine XS.iconst X_192.here hx rfl (hb hby at_340) ?_
      show Steps p.tables e below (T_192.setTop (mkF m 341 #[.val (.long q1), .second, .val (.long q2), .second, .val (.long q3), .second, .val (.long q4), .second, .val (.long q5), .second, .val (.int p6), .val (.int (p6 &&& (3 : Int32))), .val (.ref b_107), .val (.ref b_119), .val (.ref b_132), .val (.ref b_146), .val (.ref b_161), .val (.ref b_177), .val (.ref b_177), .val (.ref b_107), .val (.ref b_107), .unset] [(.int (1 : Int32))])) _
      refine XS.goto X_192.here hx rfl (pc0 := 341) (pc' := 345) rfl (hb hby at_341) (by decide) (by decide) ?_
      show Steps p.tables e below (T_192.setTop (mkF m 345 #[.val (.long q1), .second, .val (.long q2), .second, .val (.long q3), .second, .val (.long q4), .second, .val (.long q5), .second, .val (.int p6), .val (.int (p6 &&& (3 : Int32))), .val (.ref b_107), .val (.ref b_119), .val (.ref b_132), .val (.ref b_146), .val (.ref b_161), .val (.ref b_177), .val (.ref b_177), .val (.ref b_107), .val (.ref b_107), .unset] [(.int (1 : Int32))])) _
      refine XS.istore X_192.here hx rfl (hb hby at_345) rfl (l' := #[.val (.long q1), .second, .val (.long q2), .second, .val (.long q3), .second, .val (.long q4), .second, .val (.long q5), .second, .val (.int p6), .val (.int (p6 &&& (3 : Int32))), .val (.ref b_107), .val (.ref b_119), .val (.ref b_132), .val (.ref b_146), .val (.ref b_161), .val (.ref b_177), .val (.ref b_177), .val (.ref b_107), .val (.ref b_107), .val (.int (1 : Int32))]) rfl ?_
      show Steps p.tables e below (T_192.setTop (mkF m 347 #[.val (.long q1), .second, .val (.long q2), .second, .val (.long q3), .second, .val (.long q4), .second, .val (.long q5), .second, .val (.int p6), .val (.int (p6 &&& (3 : Int32))), .val (.ref b_107), .val (.ref b_119), .val (.ref b_132), .val (.ref b_146), .val (.ref b_161), .val (.ref b_177), .val (.ref b_177), .val (.ref b_107), .val (.ref b_107), .val (.int (1 : Int32))] [])) _
      refine XS.iload X_192.here hx rfl (hb hby at_347) rfl ?_
      show Steps p.tables e below (T_192.setTop (mkF m 349 #[.val (.long q1), .second, .val (.long q2), .second, .val (.long q3), .second, .val (.long q4), .second, .val (.long q5), .second, .val (.int p6), .val (.int (p6 &&& (3 : Int32))), .val (.ref b_107), .val (.ref b_119), .val (.ref b_132), .val (.ref b_146), .val (.ref b_161), .val (.ref b_177), .val (.ref b_177), .val (.ref b_107), .val (.ref b_107), .val (.int (1 : Int32))] [(.int (p6 &&& (3 : Int32)))])) _
      refine XS.ifYes X_192.here hx rfl (pc0 := 349) (pc' := 387) rfl (hb hby at_349) rfl ((if0 _ _).trans (feq (by have q0 := hc177__190; simp only [Int32.lt_iff_toInt_lt, ← Int32.toInt_inj, show (0 : Int32).toInt = 0 from rfl, show (3 : Int32).toInt = 3 from rfl] at q0 ⊢; omega : ¬ ((p6 &&& (3 : Int32)) = (0 : Int32)))).2) (by decide) (by decide) ?_
      show Steps p.tables e below (T_192.setTop (mkF m 387 #[.val (.long q1), .second, .val (.long q2), .second, .val (.long q3), .second, .val (.long q4), .second, .val (.long q5), .second, .val (.int p6), .val (.int (p6 &&& (3 : Int32))), .val (.ref b_107), .val (.ref b_119), .val (.ref b_132), .val (.ref b_146), .val (.ref b_161), .val (.ref b_177), .val (.ref b_177), .val (.ref b_107), .val (.ref b_107), .val (.int (1 : Int32))] [])) _
      refine XS.iload X_192.here hx rfl (hb hby at_387) rfl ?_
      show Steps p.tables e below (T_192.setTop (mkF m 389 #[.val (.long q1), .second, .val (.long q2), .second, .val (.long q3), .second, .val (.long q4), .second, .val (.long q5), .second, .val (.int p6), .val (.int (p6 &&& (3 : Int32))), .val (.ref b_107), .val (.ref b_119), .val (.ref b_132), .val (.ref b_146), .val (.ref b_161), .val (.ref b_177), .val (.ref b_177), .val (.ref b_107), .val (.ref b_107), .val (.int (1 : Int32))] [(.int (p6 &&& (3 : Int32)))])) _
      refine XS.iconst X_192.here hx rfl (hb hby at_389) ?_
      show Steps p.tables e below (T_192.setTop (mkF m 390 #[.val (.long q1), .second, .val (.long q2), .second, .val (.long q3), .second, .val (.long q4), .second, .val (.long q5), .second, .val (.int p6), .val (.int (p6 &&& (3 : Int32))), .val (.ref b_107), .val (.ref b_119), .val (.ref b_132), .val (.ref b_146), .val (.ref b_161), .val (.ref b_177), .val (.ref b_177), .val (.ref b_107), .val (.ref b_107), .val (.int (1 : Int32))] [(.int (1 : Int32)), (.int (p6 &&& (3 : Int32)))])) _
      refine XS.icmpYes X_192.here hx rfl (pc0 := 390) (pc' := 418) rfl (hb hby at_390) rfl (feq (by have q0 := hc177__190; simp only [Int32.lt_iff_toInt_lt, ← Int32.toInt_inj, show (1 : Int32).toInt = 1 from rfl, show (3 : Int32).toInt = 3 from rfl] at q0 ⊢; omega : ¬ ((p6 &&& (3 : Int32)) = (1 : Int32)))).2 (by decide) (by decide) ?_
      show Steps p.tables e below (T_192.setTop (mkF m 418 #[.val (.long q1), .second, .val (.long q2), .second, .val (.long q3), .second, .val (.long q4), .second, .val (.long q5), .second, .val (.int p6), .val (.int (p6 &&& (3 : Int32))), .val (.ref b_107), .val (.ref b_119), .val (.ref b_132), .val (.ref b_146), .val (.ref b_161), .val (.ref b_177), .val (.ref b_177), .val (.ref b_107), .val (.ref b_107), .val (.int (1 : Int32))] [])) _
      refine XS.iload X_192.here hx rfl (hb hby at_418) rfl ?_
      show Steps p.tables e below (T_192.setTop (mkF m 420 #[.val (.long q1), .second, .val (.long q2), .second, .val (.long q3), .second, .val (.long q4), .second, .val (.long q5), .second, .val (.int p6), .val (.int (p6 &&& (3 : Int32))), .val (.ref b_107), .val (.ref b_119), .val (.ref b_132), .val (.ref b_146), .val (.ref b_161), .val (.ref b_177), .val (.ref b_177), .val (.ref b_107), .val (.ref b_107), .val (.int (1 : Int32))] [(.int (p6 &&& (3 : Int32)))])) _
      refine XS.iconst X_192.here hx rfl (hb hby at_420) ?_
      show Steps p.tables e below (T_192.setTop (mkF m 421 #[.val (.long q1), .second, .val (.long q2), .second, .val (.long q3), .second, .val (.long q4), .second, .val (.long q5), .second, .val (.int p6), .val (.int (p6 &&& (3 : Int32))), .val (.ref b_107), .val (.ref b_119), .val (.ref b_132), .val (.ref b_146), .val (.ref b_161), .val (.ref b_177), .val (.ref b_177), .val (.ref b_107), .val (.ref b_107), .val (.int (1 : Int32))] [(.int (2 : Int32)), (.int (p6 &&& (3 : Int32)))])) _
      refine XS.icmpYes X_192.here hx rfl (pc0 := 421) (pc' := 446) rfl (hb hby at_421) rfl (feq (by have q0 := hc177__190; simp only [Int32.lt_iff_toInt_lt, ← Int32.toInt_inj, show (2 : Int32).toInt = 2 from rfl, show (3 : Int32).toInt = 3 from rfl] at q0 ⊢; omega : ¬ ((p6 &&& (3 : Int32)) = (2 : Int32)))).2 (by decide) (by decide) ?_
      show Steps p.tables e below (T_192.setTop (mkF m 446 #[.val (.long q1), .second, .val (.long q2), .second, .val (.long q3), .second, .val (.long q4), .second, .val (.long q5), .second, .val (.int p6), .val (.int (p6 &&& (3 : Int32))), .val (.ref b_107), .val (.ref b_119), .val (.ref b_132), .val (.ref b_146), .val (.ref b_161), .val (.ref b_177), .val (.ref b_177), .val (.ref b_107), .val (.ref b_107), .val (.int (1 : Int32))] [])) _
      refine XS.iload X_192.here hx rfl (hb hby at_446) rfl ?_
      show Steps p.tables e below (T_192.setTop (mkF m 448 #[.val (.long q1), .second, .val (.long q2), .second, .val (.long q3), .second, .val (.long q4), .second, .val (.long q5), .second, .val (.int p6), .val (.int (p6 &&& (3 : Int32))), .val (.ref b_107), .val (.ref b_119), .val (.ref b_132), .val (.ref b_146), .val (.ref b_161), .val (.ref b_177), .val (.ref b_177), .val (.ref b_107), .val (.ref b_107), .val (.int (1 : Int32))] [(.int (1 : Int32))])) _
      exact retN X_192 hx (t := .boolean) Bd.returns (by simp) (hb hby at_448) hr
    · show Q0 Z q1 q2 q3 q4 q5 p6 h0 n0 _ T_192.heap _
      exact ⟨rfl, N_192⟩
  · have pre_211 : ∀ t, Steps p.tables e below (T_187.setTop (mkF m 206 #[.val (.long q1), .second, .val (.long q2), .second, .val (.long q3), .second, .val (.long q4), .second, .val (.long q5), .second, .val (.int p6), .val (.int (p6 &&& (3 : Int32))), .val (.ref b_107), .val (.ref b_119), .val (.ref b_132), .val (.ref b_146), .val (.ref b_161), .val (.ref b_177), .val (.ref b_161), .val (.ref b_119), .unset, .unset] [(.int (p6 &&& (3 : Int32)))])) t → Steps p.tables e below (s₁.setTop (entryFrame m #[(.long q1), (.long q2), (.long q3), (.long q4), (.long q5), (.int p6)] maxLocals)) t := fun t k => pre_189 t (by
        show Steps p.tables e below (T_187.setTop (mkF m 177 #[.val (.long q1), .second, .val (.long q2), .second, .val (.long q3), .second, .val (.long q4), .second, .val (.long q5), .second, .val (.int p6), .val (.int (p6 &&& (3 : Int32))), .val (.ref b_107), .val (.ref b_119), .val (.ref b_132), .val (.ref b_146), .val (.ref b_161), .val (.ref b_177), .unset, .unset, .unset, .unset] [(.int (3 : Int32)), (.int (p6 &&& (3 : Int32)))])) _
        refine XS.icmpYes X_187.here hx rfl (pc0 := 177) (pc' := 185) rfl (hb hby at_177) rfl (feq hc177__190).2 (by decide) (by decide) ?_
        show Steps p.tables e below (T_187.setTop (mkF m 185 #[.val (.long q1), .second, .val (.long q2), .second, .val (.long q3), .second, .val (.long q4), .second, .val (.long q5), .second, .val (.int p6), .val (.int (p6 &&& (3 : Int32))), .val (.ref b_107), .val (.ref b_119), .val (.ref b_132), .val (.ref b_146), .val (.ref b_161), .val (.ref b_177), .unset, .unset, .unset, .unset] [])) _
        refine XS.aload X_187.here hx rfl (hb hby at_185) rfl rfl ?_
        show Steps p.tables e below (T_187.setTop (mkF m 187 #[.val (.long q1), .second, .val (.long q2), .second, .val (.long q3), .second, .val (.long q4), .second, .val (.long q5), .second, .val (.int p6), .val (.int (p6 &&& (3 : Int32))), .val (.ref b_107), .val (.ref b_119), .val (.ref b_132), .val (.ref b_146), .val (.ref b_161), .val (.ref b_177), .unset, .unset, .unset, .unset] [(.ref b_161)])) _
        refine XS.astore X_187.here hx rfl (hb hby at_187) rfl rfl (l' := #[.val (.long q1), .second, .val (.long q2), .second, .val (.long q3), .second, .val (.long q4), .second, .val (.long q5), .second, .val (.int p6), .val (.int (p6 &&& (3 : Int32))), .val (.ref b_107), .val (.ref b_119), .val (.ref b_132), .val (.ref b_146), .val (.ref b_161), .val (.ref b_177), .val (.ref b_161), .unset, .unset, .unset]) rfl ?_
        show Steps p.tables e below (T_187.setTop (mkF m 189 #[.val (.long q1), .second, .val (.long q2), .second, .val (.long q3), .second, .val (.long q4), .second, .val (.long q5), .second, .val (.int p6), .val (.int (p6 &&& (3 : Int32))), .val (.ref b_107), .val (.ref b_119), .val (.ref b_132), .val (.ref b_146), .val (.ref b_161), .val (.ref b_177), .val (.ref b_161), .unset, .unset, .unset] [])) _
        refine XS.iload X_187.here hx rfl (hb hby at_189) rfl ?_
        show Steps p.tables e below (T_187.setTop (mkF m 191 #[.val (.long q1), .second, .val (.long q2), .second, .val (.long q3), .second, .val (.long q4), .second, .val (.long q5), .second, .val (.int p6), .val (.int (p6 &&& (3 : Int32))), .val (.ref b_107), .val (.ref b_119), .val (.ref b_132), .val (.ref b_146), .val (.ref b_161), .val (.ref b_177), .val (.ref b_161), .unset, .unset, .unset] [(.int (p6 &&& (3 : Int32)))])) _
        refine XS.iconst X_187.here hx rfl (hb hby at_191) ?_
        show Steps p.tables e below (T_187.setTop (mkF m 192 #[.val (.long q1), .second, .val (.long q2), .second, .val (.long q3), .second, .val (.long q4), .second, .val (.long q5), .second, .val (.int p6), .val (.int (p6 &&& (3 : Int32))), .val (.ref b_107), .val (.ref b_119), .val (.ref b_132), .val (.ref b_146), .val (.ref b_161), .val (.ref b_177), .val (.ref b_161), .unset, .unset, .unset] [(.int (3 : Int32)), (.int (p6 &&& (3 : Int32)))])) _
        refine XS.icmpYes X_187.here hx rfl (pc0 := 192) (pc' := 200) rfl (hb hby at_192) rfl (feq hc177__190).2 (by decide) (by decide) ?_
        show Steps p.tables e below (T_187.setTop (mkF m 200 #[.val (.long q1), .second, .val (.long q2), .second, .val (.long q3), .second, .val (.long q4), .second, .val (.long q5), .second, .val (.int p6), .val (.int (p6 &&& (3 : Int32))), .val (.ref b_107), .val (.ref b_119), .val (.ref b_132), .val (.ref b_146), .val (.ref b_161), .val (.ref b_177), .val (.ref b_161), .unset, .unset, .unset] [])) _
        refine XS.aload X_187.here hx rfl (hb hby at_200) rfl rfl ?_
        show Steps p.tables e below (T_187.setTop (mkF m 202 #[.val (.long q1), .second, .val (.long q2), .second, .val (.long q3), .second, .val (.long q4), .second, .val (.long q5), .second, .val (.int p6), .val (.int (p6 &&& (3 : Int32))), .val (.ref b_107), .val (.ref b_119), .val (.ref b_132), .val (.ref b_146), .val (.ref b_161), .val (.ref b_177), .val (.ref b_161), .unset, .unset, .unset] [(.ref b_119)])) _
        refine XS.astore X_187.here hx rfl (hb hby at_202) rfl rfl (l' := #[.val (.long q1), .second, .val (.long q2), .second, .val (.long q3), .second, .val (.long q4), .second, .val (.long q5), .second, .val (.int p6), .val (.int (p6 &&& (3 : Int32))), .val (.ref b_107), .val (.ref b_119), .val (.ref b_132), .val (.ref b_146), .val (.ref b_161), .val (.ref b_177), .val (.ref b_161), .val (.ref b_119), .unset, .unset]) rfl ?_
        show Steps p.tables e below (T_187.setTop (mkF m 204 #[.val (.long q1), .second, .val (.long q2), .second, .val (.long q3), .second, .val (.long q4), .second, .val (.long q5), .second, .val (.int p6), .val (.int (p6 &&& (3 : Int32))), .val (.ref b_107), .val (.ref b_119), .val (.ref b_132), .val (.ref b_146), .val (.ref b_161), .val (.ref b_177), .val (.ref b_161), .val (.ref b_119), .unset, .unset] [])) _
        refine XS.iload X_187.here hx rfl (hb hby at_204) rfl ?_
        exact k)
    by_cases hc206__212 : (p6 &&& (3 : Int32)) = (0 : Int32)
    · have f_213 : Arv Z h_187 b_132 k_132 .long (5 : Int32) [(.long q5), (.long q4), (.long q3), (.long q2), (.long q1)] (.long (0 : Int64)) := ((((((f_175.ext E_177).other W_179 ne_b_132_b_177).other W_181 ne_b_132_b_177).other W_183 ne_b_132_b_177).other W_185 ne_b_132_b_177).other W_187 ne_b_132_b_177)
      have f_214 : Arv Z h_187 b_107 k_107 .long (5 : Int32) [(.long q1), (.long q2), (.long q3), (.long q4), (.long q5)] (.long (0 : Int64)) := ((((((f_173.ext E_177).other W_179 ne_b_107_b_177).other W_181 ne_b_107_b_177).other W_183 ne_b_107_b_177).other W_185 ne_b_107_b_177).other W_187 ne_b_107_b_177)
      have f_215 : Arv Z h_187 b_119 k_119 .long (5 : Int32) [(.long q3), (.long q5), (.long q1), (.long q2), (.long q4)] (.long (0 : Int64)) := ((((((f_174.ext E_177).other W_179 ne_b_119_b_177).other W_181 ne_b_119_b_177).other W_183 ne_b_119_b_177).other W_185 ne_b_119_b_177).other W_187 ne_b_119_b_177)
      obtain ⟨_, _, ⟨T_216, L_216, k_216, n_216⟩, -, X_216, ⟨Lc_216, hQ_216, l_216, y_216, z_216⟩, st_216⟩ := Jvm.LawKit.callS X_187 hx (y := (⟨"com/example/latchet/latchet/Field25519", "sub", "([J[J[J)V"⟩ : MethodName)) hown (mvT hZ (hw _ (List.mem_of_getElem? (i := 1) rfl))) (mvT hZ (hw _ (List.mem_of_getElem? (i := 2) rfl))) (mvT hZ (hw _ (List.mem_of_getElem? (i := 3) rfl))) (mvT hZ (hw _ (List.mem_of_getElem? (i := 4) rfl))) (by decide) (backOf (W := 0) (rm1a l Z a0 hw [] b_132 b_107 b_119 k_132 k_107 k_119 q5 q4 q3 q2 q1 q1 q2 q3 q4 q5 q3 q5 q1 q2 q4 h_187 n0 z_188 f_213 f_214 f_215 g_b_132 ne_b_107_b_132 ne_b_119_b_132) hZ (hw _ (List.mem_of_getElem? (i := 4) rfl)) (hw _ (List.mem_of_getElem? (i := 3) rfl)) (by decide) (by decide)) (g := (mkF m 252 #[.val (.long q1), .second, .val (.long q2), .second, .val (.long q3), .second, .val (.long q4), .second, .val (.long q5), .second, .val (.int p6), .val (.int (p6 &&& (3 : Int32))), .val (.ref b_107), .val (.ref b_119), .val (.ref b_132), .val (.ref b_146), .val (.ref b_161), .val (.ref b_177), .val (.ref b_161), .val (.ref b_119), .val (.ref b_132), .unset] [(.ref b_119), (.ref b_107), (.ref b_132)])) rfl (by rw [hml]; rfl) (argsL := [(.ref b_132), (.ref b_107), (.ref b_119)]) (rest := []) (lenOf pd_0 rfl) rfl (by show 2 * 0 + _ ≤ _; exact Nat.le_of_eq rfl) (hb hby at_252) (fun _ _ => ⟨rfl, e_187, (by decide : 6 + 0 ≤ _), (by decide : 30 + 0 ≤ _)⟩)
      dsimp only [Pt.U, Pt.locs, Pt.cells, Pt.slots] at X_216 l_216 y_216 z_216 st_216 hQ_216
      replace X_216 := castS l_216 y_216 z_216 X_216
      obtain ⟨rfl, Nq_216, K_216, po_216_0⟩ := hQ_216
      have z_217 : n0 ≤ T_216.heap.size := Nat.le_trans z_188 K_216.1
      have N_216 := Fr.app N_187 Nq_216
      obtain ⟨cl_218, Ar_218, q_218, S_218, M_218, H_218, G_218⟩ := id po_216_0
      have hin_218 : ¬ ((0 : Int32) < 0 ∨ cl_218.slots.size ≤ ((0 : Int32)).toNatClampNeg) := inb_of S_218 ⟨by decide, by decide⟩
      have hat_218 : cl_218.slots[((0 : Int32)).toNatClampNeg]? = some (.long (q1 - q3)) := H_218.at hin_218 rfl
      have f_219 : Arv Z T_216.heap b_161 k_161 .long (5 : Int32) [(.long q3), (.long q5), (.long q1), (.long q2), (.long q4)] (.long (0 : Int64)) := (((((((V_171.ext E_177).other W_179 ne_b_161_b_177).other W_181 ne_b_161_b_177).other W_183 ne_b_161_b_177).other W_185 ne_b_161_b_177).other W_187 ne_b_161_b_177).keep K_216 (ninS (Ne.symm ne_b_132_b_161) nin0))
      obtain ⟨cl_220, Ar_220, q_220, S_220, M_220, H_220, G_220⟩ := id f_219
      have hin_220 : ¬ ((0 : Int32) < 0 ∨ cl_220.slots.size ≤ ((0 : Int32)).toNatClampNeg) := inb_of S_220 ⟨by decide, by decide⟩
      have hat_220 : cl_220.slots[((0 : Int32)).toNatClampNeg]? = some (.long q3) := H_220.at hin_220 rfl
      have f_221 : Arv Z T_216.heap b_146 k_146 .long (5 : Int32) [(.long q1), (.long q2), (.long q3), (.long q4), (.long q5)] (.long (0 : Int64)) := (((((((f_176.ext E_177).other W_179 ne_b_146_b_177).other W_181 ne_b_146_b_177).other W_183 ne_b_146_b_177).other W_185 ne_b_146_b_177).other W_187 ne_b_146_b_177).keep K_216 (ninS (Ne.symm ne_b_132_b_146) nin0))
      obtain ⟨cl_222, Ar_222, q_222, S_222, M_222, H_222, G_222⟩ := id f_221
      have hin_222 : ¬ ((0 : Int32) < 0 ∨ cl_222.slots.size ≤ ((0 : Int32)).toNatClampNeg) := inb_of S_222 ⟨by decide, by decide⟩
      have hat_222 : cl_222.slots[((0 : Int32)).toNatClampNeg]? = some (.long q1) := H_222.at hin_222 rfl
      obtain ⟨cl_223, Ar_223, q_223, S_223, M_223, H_223, G_223⟩ := id po_216_0
      have hin_223 : ¬ ((1 : Int32) < 0 ∨ cl_223.slots.size ≤ ((1 : Int32)).toNatClampNeg) := inb_of S_223 ⟨by decide, by decide⟩
      have hat_223 : cl_223.slots[((1 : Int32)).toNatClampNeg]? = some (.long (q2 - q5)) := H_223.at hin_223 rfl
      obtain ⟨cl_224, Ar_224, q_224, S_224, M_224, H_224, G_224⟩ := id f_219
      have hin_224 : ¬ ((1 : Int32) < 0 ∨ cl_224.slots.size ≤ ((1 : Int32)).toNatClampNeg) := inb_of S_224 ⟨by decide, by decide⟩
      have hat_224 : cl_224.slots[((1 : Int32)).toNatClampNeg]? = some (.long q5) := H_224.at hin_224 rfl
      obtain ⟨cl_225, Ar_225, q_225, S_225, M_225, H_225, G_225⟩ := id f_221
      have hin_225 : ¬ ((1 : Int32) < 0 ∨ cl_225.slots.size ≤ ((1 : Int32)).toNatClampNeg) := inb_of S_225 ⟨by decide, by decide⟩
      have hat_225 : cl_225.slots[((1 : Int32)).toNatClampNeg]? = some (.long q2) := H_225.at hin_225 rfl
      obtain ⟨cl_226, Ar_226, q_226, S_226, M_226, H_226, G_226⟩ := id po_216_0
      have hin_226 : ¬ ((2 : Int32) < 0 ∨ cl_226.slots.size ≤ ((2 : Int32)).toNatClampNeg) := inb_of S_226 ⟨by decide, by decide⟩
      have hat_226 : cl_226.slots[((2 : Int32)).toNatClampNeg]? = some (.long (q3 - q1)) := H_226.at hin_226 rfl
      obtain ⟨cl_227, Ar_227, q_227, S_227, M_227, H_227, G_227⟩ := id f_219
      have hin_227 : ¬ ((2 : Int32) < 0 ∨ cl_227.slots.size ≤ ((2 : Int32)).toNatClampNeg) := inb_of S_227 ⟨by decide, by decide⟩
      have hat_227 : cl_227.slots[((2 : Int32)).toNatClampNeg]? = some (.long q1) := H_227.at hin_227 rfl
      obtain ⟨cl_228, Ar_228, q_228, S_228, M_228, H_228, G_228⟩ := id f_221
      have hin_228 : ¬ ((2 : Int32) < 0 ∨ cl_228.slots.size ≤ ((2 : Int32)).toNatClampNeg) := inb_of S_228 ⟨by decide, by decide⟩
      have hat_228 : cl_228.slots[((2 : Int32)).toNatClampNeg]? = some (.long q3) := H_228.at hin_228 rfl
      obtain ⟨cl_229, Ar_229, q_229, S_229, M_229, H_229, G_229⟩ := id po_216_0
      have hin_229 : ¬ ((3 : Int32) < 0 ∨ cl_229.slots.size ≤ ((3 : Int32)).toNatClampNeg) := inb_of S_229 ⟨by decide, by decide⟩
      have hat_229 : cl_229.slots[((3 : Int32)).toNatClampNeg]? = some (.long (q4 - q2)) := H_229.at hin_229 rfl
      obtain ⟨cl_230, Ar_230, q_230, S_230, M_230, H_230, G_230⟩ := id f_219
      have hin_230 : ¬ ((3 : Int32) < 0 ∨ cl_230.slots.size ≤ ((3 : Int32)).toNatClampNeg) := inb_of S_230 ⟨by decide, by decide⟩
      have hat_230 : cl_230.slots[((3 : Int32)).toNatClampNeg]? = some (.long q2) := H_230.at hin_230 rfl
      obtain ⟨cl_231, Ar_231, q_231, S_231, M_231, H_231, G_231⟩ := id f_221
      have hin_231 : ¬ ((3 : Int32) < 0 ∨ cl_231.slots.size ≤ ((3 : Int32)).toNatClampNeg) := inb_of S_231 ⟨by decide, by decide⟩
      have hat_231 : cl_231.slots[((3 : Int32)).toNatClampNeg]? = some (.long q4) := H_231.at hin_231 rfl
      obtain ⟨cl_232, Ar_232, q_232, S_232, M_232, H_232, G_232⟩ := id po_216_0
      have hin_232 : ¬ ((4 : Int32) < 0 ∨ cl_232.slots.size ≤ ((4 : Int32)).toNatClampNeg) := inb_of S_232 ⟨by decide, by decide⟩
      have hat_232 : cl_232.slots[((4 : Int32)).toNatClampNeg]? = some (.long (q5 - q4)) := H_232.at hin_232 rfl
      obtain ⟨cl_233, Ar_233, q_233, S_233, M_233, H_233, G_233⟩ := id f_219
      have hin_233 : ¬ ((4 : Int32) < 0 ∨ cl_233.slots.size ≤ ((4 : Int32)).toNatClampNeg) := inb_of S_233 ⟨by decide, by decide⟩
      have hat_233 : cl_233.slots[((4 : Int32)).toNatClampNeg]? = some (.long q4) := H_233.at hin_233 rfl
      obtain ⟨cl_234, Ar_234, q_234, S_234, M_234, H_234, G_234⟩ := id f_221
      have hin_234 : ¬ ((4 : Int32) < 0 ∨ cl_234.slots.size ≤ ((4 : Int32)).toNatClampNeg) := inb_of S_234 ⟨by decide, by decide⟩
      have hat_234 : cl_234.slots[((4 : Int32)).toNatClampNeg]? = some (.long q5) := H_234.at hin_234 rfl
      have f_235 : Arv Z T_216.heap b_107 k_107 .long (5 : Int32) [(.long q1), (.long q2), (.long q3), (.long q4), (.long q5)] (.long (0 : Int64)) := (f_214.keep K_216 (ninS ne_b_107_b_132 nin0))
      obtain ⟨_, _, ⟨T_236, L_236, k_236, n_236⟩, -, X_236, ⟨Lc_236, hQ_236, l_236, y_236, z_236⟩, st_236⟩ := Jvm.LawKit.callS X_216 hx (y := (⟨"com/example/latchet/latchet/Field25519SubPinLaw", "same", "([J[J)Z"⟩ : MethodName)) hown (mvT hZ (hw _ (List.mem_of_getElem? (i := 5) rfl))) (mvT hZ (hw _ (List.mem_of_getElem? (i := 6) rfl))) (mvT hZ (hw _ (List.mem_of_getElem? (i := 7) rfl))) (mvT hZ (hw _ (List.mem_of_getElem? (i := 8) rfl))) (by decide) (backOf (W := 0) (rm2 l Z a0 hw [] b_107 b_146 k_107 k_146 q1 q2 q3 q4 q5 T_216.heap n0 z_217 f_235 f_221) hZ (hw _ (List.mem_of_getElem? (i := 8) rfl)) (hw _ (List.mem_of_getElem? (i := 7) rfl)) (by decide) (by decide)) (g := (mkF m 361 #[.val (.long q1), .second, .val (.long q2), .second, .val (.long q3), .second, .val (.long q4), .second, .val (.long q5), .second, .val (.int p6), .val (.int (p6 &&& (3 : Int32))), .val (.ref b_107), .val (.ref b_119), .val (.ref b_132), .val (.ref b_146), .val (.ref b_161), .val (.ref b_177), .val (.ref b_161), .val (.ref b_119), .val (.ref b_132), .val (.int (1 : Int32))] [(.ref b_146), (.ref b_107)])) rfl (by rw [hml]; rfl) (argsL := [(.ref b_107), (.ref b_146)]) (rest := []) (lenOf pd_1 rfl) rfl (by show 2 * 0 + _ ≤ _; exact Nat.le_of_eq rfl) (hb hby at_361) (fun _ _ => ⟨rfl, rfl, (by decide : 6 + 0 ≤ _), (by decide : 30 + 0 ≤ _)⟩)
      dsimp only [Pt.U, Pt.locs, Pt.cells, Pt.slots] at X_236 l_236 y_236 z_236 st_236 hQ_236
      replace X_236 := castS l_236 y_236 z_236 X_236
      obtain ⟨rfl, Nq_236, e_236⟩ := hQ_236
      have N_236 := Fr.app N_216 Nq_236
      have f_237 : Arv Z T_216.heap b_119 k_119 .long (5 : Int32) [(.long q3), (.long q5), (.long q1), (.long q2), (.long q4)] (.long (0 : Int64)) := (f_215.keep K_216 (ninS ne_b_119_b_132 nin0))
      obtain ⟨_, _, ⟨T_238, L_238, k_238, n_238⟩, -, X_238, ⟨Lc_238, hQ_238, l_238, y_238, z_238⟩, st_238⟩ := Jvm.LawKit.callS X_236 hx (y := (⟨"com/example/latchet/latchet/Field25519SubPinLaw", "same", "([J[J)Z"⟩ : MethodName)) hown (mvT hZ (hw _ (List.mem_of_getElem? (i := 5) rfl))) (mvT hZ (hw _ (List.mem_of_getElem? (i := 6) rfl))) (mvT hZ (hw _ (List.mem_of_getElem? (i := 7) rfl))) (mvT hZ (hw _ (List.mem_of_getElem? (i := 8) rfl))) (by decide) (backOf (W := 0) (rm2 l Z a0 hw [] b_119 b_161 k_119 k_161 q3 q5 q1 q2 q4 T_216.heap n0 z_217 f_237 f_219) hZ (hw _ (List.mem_of_getElem? (i := 8) rfl)) (hw _ (List.mem_of_getElem? (i := 7) rfl)) (by decide) (by decide)) (g := (mkF m 371 #[.val (.long q1), .second, .val (.long q2), .second, .val (.long q3), .second, .val (.long q4), .second, .val (.long q5), .second, .val (.int p6), .val (.int (p6 &&& (3 : Int32))), .val (.ref b_107), .val (.ref b_119), .val (.ref b_132), .val (.ref b_146), .val (.ref b_161), .val (.ref b_177), .val (.ref b_161), .val (.ref b_119), .val (.ref b_132), .val (.int (1 : Int32))] [(.ref b_161), (.ref b_119)])) rfl (by rw [hml]; rfl) (argsL := [(.ref b_119), (.ref b_161)]) (rest := []) (lenOf pd_1 rfl) rfl (by show 2 * 0 + _ ≤ _; exact Nat.le_of_eq rfl) (hb hby at_371) (fun _ _ => ⟨rfl, e_236, (by decide : 6 + 0 ≤ _), (by decide : 30 + 0 ≤ _)⟩)
      dsimp only [Pt.U, Pt.locs, Pt.cells, Pt.slots] at X_238 l_238 y_238 z_238 st_238 hQ_238
      replace X_238 := castS l_238 y_238 z_238 X_238
      obtain ⟨rfl, Nq_238, e_238⟩ := hQ_238
      have N_238 := Fr.app N_236 Nq_238
      obtain ⟨fs, hr, hrun, hended, hW, hsame⟩ := X_238.leave (v := some (.int (1 : Int32))) (fun h => by rw [Bd.returns] at h; cases h)
      refine ⟨_, _, pre_211 _ ?_, hrun, hended, _, _, rfl, ?_, ⟨_, rfl⟩, hW, hsame.mono (by decide) (by decide)⟩
      · show Steps p.tables e below (T_187.setTop (mkF m 206 #[.val (.long q1), .second, .val (.long q2), .second, .val (.long q3), .second, .val (.long q4), .second, .val (.long q5), .second, .val (.int p6), .val (.int (p6 &&& (3 : Int32))), .val (.ref b_107), .val (.ref b_119), .val (.ref b_132), .val (.ref b_146), .val (.ref b_161), .val (.ref b_177), .val (.ref b_161), .val (.ref b_119), .unset, .unset] [(.int (p6 &&& (3 : Int32)))])) _
        refine XS.ifNo X_187.here hx rfl (hb hby at_206) rfl ((if0 _ _).trans (teq hc206__212).2) ?_
        show Steps p.tables e below (T_187.setTop (mkF m 209 #[.val (.long q1), .second, .val (.long q2), .second, .val (.long q3), .second, .val (.long q4), .second, .val (.long q5), .second, .val (.int p6), .val (.int (p6 &&& (3 : Int32))), .val (.ref b_107), .val (.ref b_119), .val (.ref b_132), .val (.ref b_146), .val (.ref b_161), .val (.ref b_177), .val (.ref b_161), .val (.ref b_119), .unset, .unset] [])) _
        refine XS.aload X_187.here hx rfl (hb hby at_209) rfl rfl ?_
        show Steps p.tables e below (T_187.setTop (mkF m 211 #[.val (.long q1), .second, .val (.long q2), .second, .val (.long q3), .second, .val (.long q4), .second, .val (.long q5), .second, .val (.int p6), .val (.int (p6 &&& (3 : Int32))), .val (.ref b_107), .val (.ref b_119), .val (.ref b_132), .val (.ref b_146), .val (.ref b_161), .val (.ref b_177), .val (.ref b_161), .val (.ref b_119), .unset, .unset] [(.ref b_132)])) _
        refine XS.astore X_187.here hx rfl (hb hby at_211) rfl rfl (l' := #[.val (.long q1), .second, .val (.long q2), .second, .val (.long q3), .second, .val (.long q4), .second, .val (.long q5), .second, .val (.int p6), .val (.int (p6 &&& (3 : Int32))), .val (.ref b_107), .val (.ref b_119), .val (.ref b_132), .val (.ref b_146), .val (.ref b_161), .val (.ref b_177), .val (.ref b_161), .val (.ref b_119), .val (.ref b_132), .unset]) rfl ?_
        show Steps p.tables e below (T_187.setTop (mkF m 213 #[.val (.long q1), .second, .val (.long q2), .second, .val (.long q3), .second, .val (.long q4), .second, .val (.long q5), .second, .val (.int p6), .val (.int (p6 &&& (3 : Int32))), .val (.ref b_107), .val (.ref b_119), .val (.ref b_132), .val (.ref b_146), .val (.ref b_161), .val (.ref b_177), .val (.ref b_161), .val (.ref b_119), .val (.ref b_132), .unset] [])) _
        refine XS.goto X_187.here hx rfl (pc0 := 213) (pc' := 246) rfl (hb hby at_213) (by decide) (by decide) ?_
        show Steps p.tables e below (T_187.setTop (mkF m 246 #[.val (.long q1), .second, .val (.long q2), .second, .val (.long q3), .second, .val (.long q4), .second, .val (.long q5), .second, .val (.int p6), .val (.int (p6 &&& (3 : Int32))), .val (.ref b_107), .val (.ref b_119), .val (.ref b_132), .val (.ref b_146), .val (.ref b_161), .val (.ref b_177), .val (.ref b_161), .val (.ref b_119), .val (.ref b_132), .unset] [])) _
        refine XS.aload X_187.here hx rfl (hb hby at_246) rfl rfl ?_
        show Steps p.tables e below (T_187.setTop (mkF m 248 #[.val (.long q1), .second, .val (.long q2), .second, .val (.long q3), .second, .val (.long q4), .second, .val (.long q5), .second, .val (.int p6), .val (.int (p6 &&& (3 : Int32))), .val (.ref b_107), .val (.ref b_119), .val (.ref b_132), .val (.ref b_146), .val (.ref b_161), .val (.ref b_177), .val (.ref b_161), .val (.ref b_119), .val (.ref b_132), .unset] [(.ref b_132)])) _
        refine XS.aload X_187.here hx rfl (hb hby at_248) rfl rfl ?_
        show Steps p.tables e below (T_187.setTop (mkF m 250 #[.val (.long q1), .second, .val (.long q2), .second, .val (.long q3), .second, .val (.long q4), .second, .val (.long q5), .second, .val (.int p6), .val (.int (p6 &&& (3 : Int32))), .val (.ref b_107), .val (.ref b_119), .val (.ref b_132), .val (.ref b_146), .val (.ref b_161), .val (.ref b_177), .val (.ref b_161), .val (.ref b_119), .val (.ref b_132), .unset] [(.ref b_107), (.ref b_132)])) _
        refine XS.aload X_187.here hx rfl (hb hby at_250) rfl rfl ?_
        show Steps p.tables e below (T_187.setTop (mkF m 252 #[.val (.long q1), .second, .val (.long q2), .second, .val (.long q3), .second, .val (.long q4), .second, .val (.long q5), .second, .val (.int p6), .val (.int (p6 &&& (3 : Int32))), .val (.ref b_107), .val (.ref b_119), .val (.ref b_132), .val (.ref b_146), .val (.ref b_161), .val (.ref b_177), .val (.ref b_161), .val (.ref b_119), .val (.ref b_132), .unset] [(.ref b_119), (.ref b_107), (.ref b_132)])) _
        refine st_216 _ ?_
        show Steps p.tables e below (T_216.setTop (mkF m 255 #[.val (.long q1), .second, .val (.long q2), .second, .val (.long q3), .second, .val (.long q4), .second, .val (.long q5), .second, .val (.int p6), .val (.int (p6 &&& (3 : Int32))), .val (.ref b_107), .val (.ref b_119), .val (.ref b_132), .val (.ref b_146), .val (.ref b_161), .val (.ref b_177), .val (.ref b_161), .val (.ref b_119), .val (.ref b_132), .unset] [])) _
        refine XS.aload X_216.here hx rfl (hb hby at_255) rfl rfl ?_
        show Steps p.tables e below (T_216.setTop (mkF m 257 #[.val (.long q1), .second, .val (.long q2), .second, .val (.long q3), .second, .val (.long q4), .second, .val (.long q5), .second, .val (.int p6), .val (.int (p6 &&& (3 : Int32))), .val (.ref b_107), .val (.ref b_119), .val (.ref b_132), .val (.ref b_146), .val (.ref b_161), .val (.ref b_177), .val (.ref b_161), .val (.ref b_119), .val (.ref b_132), .unset] [(.ref b_132)])) _
        refine XS.iconst X_216.here hx rfl (hb hby at_257) ?_
        show Steps p.tables e below (T_216.setTop (mkF m 258 #[.val (.long q1), .second, .val (.long q2), .second, .val (.long q3), .second, .val (.long q4), .second, .val (.long q5), .second, .val (.int p6), .val (.int (p6 &&& (3 : Int32))), .val (.ref b_107), .val (.ref b_119), .val (.ref b_132), .val (.ref b_146), .val (.ref b_161), .val (.ref b_177), .val (.ref b_161), .val (.ref b_119), .val (.ref b_132), .unset] [(.int (0 : Int32)), (.ref b_132)])) _
        refine X_216.laload hx (j := (0 : Int32)) (v := (.long (q1 - q3))) Ar_218.1 (State.isArrayOf_alike hZ.alike Ar_218.2.1) Ar_218.2.2 hin_218 hat_218 (g := (mkF m 258 #[.val (.long q1), .second, .val (.long q2), .second, .val (.long q3), .second, .val (.long q4), .second, .val (.long q5), .second, .val (.int p6), .val (.int (p6 &&& (3 : Int32))), .val (.ref b_107), .val (.ref b_119), .val (.ref b_132), .val (.ref b_146), .val (.ref b_161), .val (.ref b_177), .val (.ref b_161), .val (.ref b_119), .val (.ref b_132), .unset] [(.int (0 : Int32)), (.ref b_132)])) rfl rfl (hb hby at_258) _ ?_
        show Steps p.tables e below (T_216.setTop (mkF m 259 #[.val (.long q1), .second, .val (.long q2), .second, .val (.long q3), .second, .val (.long q4), .second, .val (.long q5), .second, .val (.int p6), .val (.int (p6 &&& (3 : Int32))), .val (.ref b_107), .val (.ref b_119), .val (.ref b_132), .val (.ref b_146), .val (.ref b_161), .val (.ref b_177), .val (.ref b_161), .val (.ref b_119), .val (.ref b_132), .unset] [(.long (q1 - q3))])) _
        refine XS.aload X_216.here hx rfl (hb hby at_259) rfl rfl ?_
        show Steps p.tables e below (T_216.setTop (mkF m 261 #[.val (.long q1), .second, .val (.long q2), .second, .val (.long q3), .second, .val (.long q4), .second, .val (.long q5), .second, .val (.int p6), .val (.int (p6 &&& (3 : Int32))), .val (.ref b_107), .val (.ref b_119), .val (.ref b_132), .val (.ref b_146), .val (.ref b_161), .val (.ref b_177), .val (.ref b_161), .val (.ref b_119), .val (.ref b_132), .unset] [(.ref b_161), (.long (q1 - q3))])) _
        refine XS.iconst X_216.here hx rfl (hb hby at_261) ?_
        show Steps p.tables e below (T_216.setTop (mkF m 262 #[.val (.long q1), .second, .val (.long q2), .second, .val (.long q3), .second, .val (.long q4), .second, .val (.long q5), .second, .val (.int p6), .val (.int (p6 &&& (3 : Int32))), .val (.ref b_107), .val (.ref b_119), .val (.ref b_132), .val (.ref b_146), .val (.ref b_161), .val (.ref b_177), .val (.ref b_161), .val (.ref b_119), .val (.ref b_132), .unset] [(.int (0 : Int32)), (.ref b_161), (.long (q1 - q3))])) _
        refine X_216.laload hx (j := (0 : Int32)) (v := (.long q3)) Ar_220.1 (State.isArrayOf_alike hZ.alike Ar_220.2.1) Ar_220.2.2 hin_220 hat_220 (g := (mkF m 262 #[.val (.long q1), .second, .val (.long q2), .second, .val (.long q3), .second, .val (.long q4), .second, .val (.long q5), .second, .val (.int p6), .val (.int (p6 &&& (3 : Int32))), .val (.ref b_107), .val (.ref b_119), .val (.ref b_132), .val (.ref b_146), .val (.ref b_161), .val (.ref b_177), .val (.ref b_161), .val (.ref b_119), .val (.ref b_132), .unset] [(.int (0 : Int32)), (.ref b_161), (.long (q1 - q3))])) rfl rfl (hb hby at_262) _ ?_
        show Steps p.tables e below (T_216.setTop (mkF m 263 #[.val (.long q1), .second, .val (.long q2), .second, .val (.long q3), .second, .val (.long q4), .second, .val (.long q5), .second, .val (.int p6), .val (.int (p6 &&& (3 : Int32))), .val (.ref b_107), .val (.ref b_119), .val (.ref b_132), .val (.ref b_146), .val (.ref b_161), .val (.ref b_177), .val (.ref b_161), .val (.ref b_119), .val (.ref b_132), .unset] [(.long q3), (.long (q1 - q3))])) _
        refine XS.ladd X_216.here hx rfl (hb hby at_263) rfl ?_
        show Steps p.tables e below (T_216.setTop (mkF m 264 #[.val (.long q1), .second, .val (.long q2), .second, .val (.long q3), .second, .val (.long q4), .second, .val (.long q5), .second, .val (.int p6), .val (.int (p6 &&& (3 : Int32))), .val (.ref b_107), .val (.ref b_119), .val (.ref b_132), .val (.ref b_146), .val (.ref b_161), .val (.ref b_177), .val (.ref b_161), .val (.ref b_119), .val (.ref b_132), .unset] [(.long ((q1 - q3) + q3))])) _
        refine XS.aload X_216.here hx rfl (hb hby at_264) rfl rfl ?_
        show Steps p.tables e below (T_216.setTop (mkF m 266 #[.val (.long q1), .second, .val (.long q2), .second, .val (.long q3), .second, .val (.long q4), .second, .val (.long q5), .second, .val (.int p6), .val (.int (p6 &&& (3 : Int32))), .val (.ref b_107), .val (.ref b_119), .val (.ref b_132), .val (.ref b_146), .val (.ref b_161), .val (.ref b_177), .val (.ref b_161), .val (.ref b_119), .val (.ref b_132), .unset] [(.ref b_146), (.long ((q1 - q3) + q3))])) _
        refine XS.iconst X_216.here hx rfl (hb hby at_266) ?_
        show Steps p.tables e below (T_216.setTop (mkF m 267 #[.val (.long q1), .second, .val (.long q2), .second, .val (.long q3), .second, .val (.long q4), .second, .val (.long q5), .second, .val (.int p6), .val (.int (p6 &&& (3 : Int32))), .val (.ref b_107), .val (.ref b_119), .val (.ref b_132), .val (.ref b_146), .val (.ref b_161), .val (.ref b_177), .val (.ref b_161), .val (.ref b_119), .val (.ref b_132), .unset] [(.int (0 : Int32)), (.ref b_146), (.long ((q1 - q3) + q3))])) _
        refine X_216.laload hx (j := (0 : Int32)) (v := (.long q1)) Ar_222.1 (State.isArrayOf_alike hZ.alike Ar_222.2.1) Ar_222.2.2 hin_222 hat_222 (g := (mkF m 267 #[.val (.long q1), .second, .val (.long q2), .second, .val (.long q3), .second, .val (.long q4), .second, .val (.long q5), .second, .val (.int p6), .val (.int (p6 &&& (3 : Int32))), .val (.ref b_107), .val (.ref b_119), .val (.ref b_132), .val (.ref b_146), .val (.ref b_161), .val (.ref b_177), .val (.ref b_161), .val (.ref b_119), .val (.ref b_132), .unset] [(.int (0 : Int32)), (.ref b_146), (.long ((q1 - q3) + q3))])) rfl rfl (hb hby at_267) _ ?_
        show Steps p.tables e below (T_216.setTop (mkF m 268 #[.val (.long q1), .second, .val (.long q2), .second, .val (.long q3), .second, .val (.long q4), .second, .val (.long q5), .second, .val (.int p6), .val (.int (p6 &&& (3 : Int32))), .val (.ref b_107), .val (.ref b_119), .val (.ref b_132), .val (.ref b_146), .val (.ref b_161), .val (.ref b_177), .val (.ref b_161), .val (.ref b_119), .val (.ref b_132), .unset] [(.long q1), (.long ((q1 - q3) + q3))])) _
        refine XS.lcmp X_216.here hx rfl (hb hby at_268) rfl ?_
        show Steps p.tables e below (T_216.setTop (mkF m 269 #[.val (.long q1), .second, .val (.long q2), .second, .val (.long q3), .second, .val (.long q4), .second, .val (.long q5), .second, .val (.int p6), .val (.int (p6 &&& (3 : Int32))), .val (.ref b_107), .val (.ref b_119), .val (.ref b_132), .val (.ref b_146), .val (.ref b_161), .val (.ref b_177), .val (.ref b_161), .val (.ref b_119), .val (.ref b_132), .unset] [(.int (lcmpW ((q1 - q3) + q3) q1))])) _
        refine XS.ifNo X_216.here hx rfl (hb hby at_269) rfl ((if0 _ _).trans (teq ((lw_eq _ _).mpr (Int64.sub_add_cancel _ _ : ((q1 - q3) + q3) = q1))).2) ?_
        show Steps p.tables e below (T_216.setTop (mkF m 272 #[.val (.long q1), .second, .val (.long q2), .second, .val (.long q3), .second, .val (.long q4), .second, .val (.long q5), .second, .val (.int p6), .val (.int (p6 &&& (3 : Int32))), .val (.ref b_107), .val (.ref b_119), .val (.ref b_132), .val (.ref b_146), .val (.ref b_161), .val (.ref b_177), .val (.ref b_161), .val (.ref b_119), .val (.ref b_132), .unset] [])) _
        refine XS.aload X_216.here hx rfl (hb hby at_272) rfl rfl ?_
        show Steps p.tables e below (T_216.setTop (mkF m 274 #[.val (.long q1), .second, .val (.long q2), .second, .val (.long q3), .second, .val (.long q4), .second, .val (.long q5), .second, .val (.int p6), .val (.int (p6 &&& (3 : Int32))), .val (.ref b_107), .val (.ref b_119), .val (.ref b_132), .val (.ref b_146), .val (.ref b_161), .val (.ref b_177), .val (.ref b_161), .val (.ref b_119), .val (.ref b_132), .unset] [(.ref b_132)])) _
        refine XS.iconst X_216.here hx rfl (hb hby at_274) ?_
        show Steps p.tables e below (T_216.setTop (mkF m 275 #[.val (.long q1), .second, .val (.long q2), .second, .val (.long q3), .second, .val (.long q4), .second, .val (.long q5), .second, .val (.int p6), .val (.int (p6 &&& (3 : Int32))), .val (.ref b_107), .val (.ref b_119), .val (.ref b_132), .val (.ref b_146), .val (.ref b_161), .val (.ref b_177), .val (.ref b_161), .val (.ref b_119), .val (.ref b_132), .unset] [(.int (1 : Int32)), (.ref b_132)])) _
        refine X_216.laload hx (j := (1 : Int32)) (v := (.long (q2 - q5))) Ar_223.1 (State.isArrayOf_alike hZ.alike Ar_223.2.1) Ar_223.2.2 hin_223 hat_223 (g := (mkF m 275 #[.val (.long q1), .second, .val (.long q2), .second, .val (.long q3), .second, .val (.long q4), .second, .val (.long q5), .second, .val (.int p6), .val (.int (p6 &&& (3 : Int32))), .val (.ref b_107), .val (.ref b_119), .val (.ref b_132), .val (.ref b_146), .val (.ref b_161), .val (.ref b_177), .val (.ref b_161), .val (.ref b_119), .val (.ref b_132), .unset] [(.int (1 : Int32)), (.ref b_132)])) rfl rfl (hb hby at_275) _ ?_
        show Steps p.tables e below (T_216.setTop (mkF m 276 #[.val (.long q1), .second, .val (.long q2), .second, .val (.long q3), .second, .val (.long q4), .second, .val (.long q5), .second, .val (.int p6), .val (.int (p6 &&& (3 : Int32))), .val (.ref b_107), .val (.ref b_119), .val (.ref b_132), .val (.ref b_146), .val (.ref b_161), .val (.ref b_177), .val (.ref b_161), .val (.ref b_119), .val (.ref b_132), .unset] [(.long (q2 - q5))])) _
        refine XS.aload X_216.here hx rfl (hb hby at_276) rfl rfl ?_
        show Steps p.tables e below (T_216.setTop (mkF m 278 #[.val (.long q1), .second, .val (.long q2), .second, .val (.long q3), .second, .val (.long q4), .second, .val (.long q5), .second, .val (.int p6), .val (.int (p6 &&& (3 : Int32))), .val (.ref b_107), .val (.ref b_119), .val (.ref b_132), .val (.ref b_146), .val (.ref b_161), .val (.ref b_177), .val (.ref b_161), .val (.ref b_119), .val (.ref b_132), .unset] [(.ref b_161), (.long (q2 - q5))])) _
        refine XS.iconst X_216.here hx rfl (hb hby at_278) ?_
        show Steps p.tables e below (T_216.setTop (mkF m 279 #[.val (.long q1), .second, .val (.long q2), .second, .val (.long q3), .second, .val (.long q4), .second, .val (.long q5), .second, .val (.int p6), .val (.int (p6 &&& (3 : Int32))), .val (.ref b_107), .val (.ref b_119), .val (.ref b_132), .val (.ref b_146), .val (.ref b_161), .val (.ref b_177), .val (.ref b_161), .val (.ref b_119), .val (.ref b_132), .unset] [(.int (1 : Int32)), (.ref b_161), (.long (q2 - q5))])) _
        refine X_216.laload hx (j := (1 : Int32)) (v := (.long q5)) Ar_224.1 (State.isArrayOf_alike hZ.alike Ar_224.2.1) Ar_224.2.2 hin_224 hat_224 (g := (mkF m 279 #[.val (.long q1), .second, .val (.long q2), .second, .val (.long q3), .second, .val (.long q4), .second, .val (.long q5), .second, .val (.int p6), .val (.int (p6 &&& (3 : Int32))), .val (.ref b_107), .val (.ref b_119), .val (.ref b_132), .val (.ref b_146), .val (.ref b_161), .val (.ref b_177), .val (.ref b_161), .val (.ref b_119), .val (.ref b_132), .unset] [(.int (1 : Int32)), (.ref b_161), (.long (q2 - q5))])) rfl rfl (hb hby at_279) _ ?_
        show Steps p.tables e below (T_216.setTop (mkF m 280 #[.val (.long q1), .second, .val (.long q2), .second, .val (.long q3), .second, .val (.long q4), .second, .val (.long q5), .second, .val (.int p6), .val (.int (p6 &&& (3 : Int32))), .val (.ref b_107), .val (.ref b_119), .val (.ref b_132), .val (.ref b_146), .val (.ref b_161), .val (.ref b_177), .val (.ref b_161), .val (.ref b_119), .val (.ref b_132), .unset] [(.long q5), (.long (q2 - q5))])) _
        refine XS.ladd X_216.here hx rfl (hb hby at_280) rfl ?_
        show Steps p.tables e below (T_216.setTop (mkF m 281 #[.val (.long q1), .second, .val (.long q2), .second, .val (.long q3), .second, .val (.long q4), .second, .val (.long q5), .second, .val (.int p6), .val (.int (p6 &&& (3 : Int32))), .val (.ref b_107), .val (.ref b_119), .val (.ref b_132), .val (.ref b_146), .val (.ref b_161), .val (.ref b_177), .val (.ref b_161), .val (.ref b_119), .val (.ref b_132), .unset] [(.long ((q2 - q5) + q5))])) _
        refine XS.aload X_216.here hx rfl (hb hby at_281) rfl rfl ?_
        show Steps p.tables e below (T_216.setTop (mkF m 283 #[.val (.long q1), .second, .val (.long q2), .second, .val (.long q3), .second, .val (.long q4), .second, .val (.long q5), .second, .val (.int p6), .val (.int (p6 &&& (3 : Int32))), .val (.ref b_107), .val (.ref b_119), .val (.ref b_132), .val (.ref b_146), .val (.ref b_161), .val (.ref b_177), .val (.ref b_161), .val (.ref b_119), .val (.ref b_132), .unset] [(.ref b_146), (.long ((q2 - q5) + q5))])) _
        refine XS.iconst X_216.here hx rfl (hb hby at_283) ?_
        show Steps p.tables e below (T_216.setTop (mkF m 284 #[.val (.long q1), .second, .val (.long q2), .second, .val (.long q3), .second, .val (.long q4), .second, .val (.long q5), .second, .val (.int p6), .val (.int (p6 &&& (3 : Int32))), .val (.ref b_107), .val (.ref b_119), .val (.ref b_132), .val (.ref b_146), .val (.ref b_161), .val (.ref b_177), .val (.ref b_161), .val (.ref b_119), .val (.ref b_132), .unset] [(.int (1 : Int32)), (.ref b_146), (.long ((q2 - q5) + q5))])) _
        refine X_216.laload hx (j := (1 : Int32)) (v := (.long q2)) Ar_225.1 (State.isArrayOf_alike hZ.alike Ar_225.2.1) Ar_225.2.2 hin_225 hat_225 (g := (mkF m 284 #[.val (.long q1), .second, .val (.long q2), .second, .val (.long q3), .second, .val (.long q4), .second, .val (.long q5), .second, .val (.int p6), .val (.int (p6 &&& (3 : Int32))), .val (.ref b_107), .val (.ref b_119), .val (.ref b_132), .val (.ref b_146), .val (.ref b_161), .val (.ref b_177), .val (.ref b_161), .val (.ref b_119), .val (.ref b_132), .unset] [(.int (1 : Int32)), (.ref b_146), (.long ((q2 - q5) + q5))])) rfl rfl (hb hby at_284) _ ?_
        show Steps p.tables e below (T_216.setTop (mkF m 285 #[.val (.long q1), .second, .val (.long q2), .second, .val (.long q3), .second, .val (.long q4), .second, .val (.long q5), .second, .val (.int p6), .val (.int (p6 &&& (3 : Int32))), .val (.ref b_107), .val (.ref b_119), .val (.ref b_132), .val (.ref b_146), .val (.ref b_161), .val (.ref b_177), .val (.ref b_161), .val (.ref b_119), .val (.ref b_132), .unset] [(.long q2), (.long ((q2 - q5) + q5))])) _
        refine XS.lcmp X_216.here hx rfl (hb hby at_285) rfl ?_
        show Steps p.tables e below (T_216.setTop (mkF m 286 #[.val (.long q1), .second, .val (.long q2), .second, .val (.long q3), .second, .val (.long q4), .second, .val (.long q5), .second, .val (.int p6), .val (.int (p6 &&& (3 : Int32))), .val (.ref b_107), .val (.ref b_119), .val (.ref b_132), .val (.ref b_146), .val (.ref b_161), .val (.ref b_177), .val (.ref b_161), .val (.ref b_119), .val (.ref b_132), .unset] [(.int (lcmpW ((q2 - q5) + q5) q2))])) _
        refine XS.ifNo X_216.here hx rfl (hb hby at_286) rfl ((if0 _ _).trans (teq ((lw_eq _ _).mpr (Int64.sub_add_cancel _ _ : ((q2 - q5) + q5) = q2))).2) ?_
        show Steps p.tables e below (T_216.setTop (mkF m 289 #[.val (.long q1), .second, .val (.long q2), .second, .val (.long q3), .second, .val (.long q4), .second, .val (.long q5), .second, .val (.int p6), .val (.int (p6 &&& (3 : Int32))), .val (.ref b_107), .val (.ref b_119), .val (.ref b_132), .val (.ref b_146), .val (.ref b_161), .val (.ref b_177), .val (.ref b_161), .val (.ref b_119), .val (.ref b_132), .unset] [])) _
        refine XS.aload X_216.here hx rfl (hb hby at_289) rfl rfl ?_
        show Steps p.tables e below (T_216.setTop (mkF m 291 #[.val (.long q1), .second, .val (.long q2), .second, .val (.long q3), .second, .val (.long q4), .second, .val (.long q5), .second, .val (.int p6), .val (.int (p6 &&& (3 : Int32))), .val (.ref b_107), .val (.ref b_119), .val (.ref b_132), .val (.ref b_146), .val (.ref b_161), .val (.ref b_177), .val (.ref b_161), .val (.ref b_119), .val (.ref b_132), .unset] [(.ref b_132)])) _
        refine XS.iconst X_216.here hx rfl (hb hby at_291) ?_
        show Steps p.tables e below (T_216.setTop (mkF m 292 #[.val (.long q1), .second, .val (.long q2), .second, .val (.long q3), .second, .val (.long q4), .second, .val (.long q5), .second, .val (.int p6), .val (.int (p6 &&& (3 : Int32))), .val (.ref b_107), .val (.ref b_119), .val (.ref b_132), .val (.ref b_146), .val (.ref b_161), .val (.ref b_177), .val (.ref b_161), .val (.ref b_119), .val (.ref b_132), .unset] [(.int (2 : Int32)), (.ref b_132)])) _
        refine X_216.laload hx (j := (2 : Int32)) (v := (.long (q3 - q1))) Ar_226.1 (State.isArrayOf_alike hZ.alike Ar_226.2.1) Ar_226.2.2 hin_226 hat_226 (g := (mkF m 292 #[.val (.long q1), .second, .val (.long q2), .second, .val (.long q3), .second, .val (.long q4), .second, .val (.long q5), .second, .val (.int p6), .val (.int (p6 &&& (3 : Int32))), .val (.ref b_107), .val (.ref b_119), .val (.ref b_132), .val (.ref b_146), .val (.ref b_161), .val (.ref b_177), .val (.ref b_161), .val (.ref b_119), .val (.ref b_132), .unset] [(.int (2 : Int32)), (.ref b_132)])) rfl rfl (hb hby at_292) _ ?_
        show Steps p.tables e below (T_216.setTop (mkF m 293 #[.val (.long q1), .second, .val (.long q2), .second, .val (.long q3), .second, .val (.long q4), .second, .val (.long q5), .second, .val (.int p6), .val (.int (p6 &&& (3 : Int32))), .val (.ref b_107), .val (.ref b_119), .val (.ref b_132), .val (.ref b_146), .val (.ref b_161), .val (.ref b_177), .val (.ref b_161), .val (.ref b_119), .val (.ref b_132), .unset] [(.long (q3 - q1))])) _
        refine XS.aload X_216.here hx rfl (hb hby at_293) rfl rfl ?_
        show Steps p.tables e below (T_216.setTop (mkF m 295 #[.val (.long q1), .second, .val (.long q2), .second, .val (.long q3), .second, .val (.long q4), .second, .val (.long q5), .second, .val (.int p6), .val (.int (p6 &&& (3 : Int32))), .val (.ref b_107), .val (.ref b_119), .val (.ref b_132), .val (.ref b_146), .val (.ref b_161), .val (.ref b_177), .val (.ref b_161), .val (.ref b_119), .val (.ref b_132), .unset] [(.ref b_161), (.long (q3 - q1))])) _
        refine XS.iconst X_216.here hx rfl (hb hby at_295) ?_
        show Steps p.tables e below (T_216.setTop (mkF m 296 #[.val (.long q1), .second, .val (.long q2), .second, .val (.long q3), .second, .val (.long q4), .second, .val (.long q5), .second, .val (.int p6), .val (.int (p6 &&& (3 : Int32))), .val (.ref b_107), .val (.ref b_119), .val (.ref b_132), .val (.ref b_146), .val (.ref b_161), .val (.ref b_177), .val (.ref b_161), .val (.ref b_119), .val (.ref b_132), .unset] [(.int (2 : Int32)), (.ref b_161), (.long (q3 - q1))])) _
        refine X_216.laload hx (j := (2 : Int32)) (v := (.long q1)) Ar_227.1 (State.isArrayOf_alike hZ.alike Ar_227.2.1) Ar_227.2.2 hin_227 hat_227 (g := (mkF m 296 #[.val (.long q1), .second, .val (.long q2), .second, .val (.long q3), .second, .val (.long q4), .second, .val (.long q5), .second, .val (.int p6), .val (.int (p6 &&& (3 : Int32))), .val (.ref b_107), .val (.ref b_119), .val (.ref b_132), .val (.ref b_146), .val (.ref b_161), .val (.ref b_177), .val (.ref b_161), .val (.ref b_119), .val (.ref b_132), .unset] [(.int (2 : Int32)), (.ref b_161), (.long (q3 - q1))])) rfl rfl (hb hby at_296) _ ?_
        show Steps p.tables e below (T_216.setTop (mkF m 297 #[.val (.long q1), .second, .val (.long q2), .second, .val (.long q3), .second, .val (.long q4), .second, .val (.long q5), .second, .val (.int p6), .val (.int (p6 &&& (3 : Int32))), .val (.ref b_107), .val (.ref b_119), .val (.ref b_132), .val (.ref b_146), .val (.ref b_161), .val (.ref b_177), .val (.ref b_161), .val (.ref b_119), .val (.ref b_132), .unset] [(.long q1), (.long (q3 - q1))])) _
        refine XS.ladd X_216.here hx rfl (hb hby at_297) rfl ?_
        show Steps p.tables e below (T_216.setTop (mkF m 298 #[.val (.long q1), .second, .val (.long q2), .second, .val (.long q3), .second, .val (.long q4), .second, .val (.long q5), .second, .val (.int p6), .val (.int (p6 &&& (3 : Int32))), .val (.ref b_107), .val (.ref b_119), .val (.ref b_132), .val (.ref b_146), .val (.ref b_161), .val (.ref b_177), .val (.ref b_161), .val (.ref b_119), .val (.ref b_132), .unset] [(.long ((q3 - q1) + q1))])) _
        refine XS.aload X_216.here hx rfl (hb hby at_298) rfl rfl ?_
        show Steps p.tables e below (T_216.setTop (mkF m 300 #[.val (.long q1), .second, .val (.long q2), .second, .val (.long q3), .second, .val (.long q4), .second, .val (.long q5), .second, .val (.int p6), .val (.int (p6 &&& (3 : Int32))), .val (.ref b_107), .val (.ref b_119), .val (.ref b_132), .val (.ref b_146), .val (.ref b_161), .val (.ref b_177), .val (.ref b_161), .val (.ref b_119), .val (.ref b_132), .unset] [(.ref b_146), (.long ((q3 - q1) + q1))])) _
        refine XS.iconst X_216.here hx rfl (hb hby at_300) ?_
        show Steps p.tables e below (T_216.setTop (mkF m 301 #[.val (.long q1), .second, .val (.long q2), .second, .val (.long q3), .second, .val (.long q4), .second, .val (.long q5), .second, .val (.int p6), .val (.int (p6 &&& (3 : Int32))), .val (.ref b_107), .val (.ref b_119), .val (.ref b_132), .val (.ref b_146), .val (.ref b_161), .val (.ref b_177), .val (.ref b_161), .val (.ref b_119), .val (.ref b_132), .unset] [(.int (2 : Int32)), (.ref b_146), (.long ((q3 - q1) + q1))])) _
        refine X_216.laload hx (j := (2 : Int32)) (v := (.long q3)) Ar_228.1 (State.isArrayOf_alike hZ.alike Ar_228.2.1) Ar_228.2.2 hin_228 hat_228 (g := (mkF m 301 #[.val (.long q1), .second, .val (.long q2), .second, .val (.long q3), .second, .val (.long q4), .second, .val (.long q5), .second, .val (.int p6), .val (.int (p6 &&& (3 : Int32))), .val (.ref b_107), .val (.ref b_119), .val (.ref b_132), .val (.ref b_146), .val (.ref b_161), .val (.ref b_177), .val (.ref b_161), .val (.ref b_119), .val (.ref b_132), .unset] [(.int (2 : Int32)), (.ref b_146), (.long ((q3 - q1) + q1))])) rfl rfl (hb hby at_301) _ ?_
        show Steps p.tables e below (T_216.setTop (mkF m 302 #[.val (.long q1), .second, .val (.long q2), .second, .val (.long q3), .second, .val (.long q4), .second, .val (.long q5), .second, .val (.int p6), .val (.int (p6 &&& (3 : Int32))), .val (.ref b_107), .val (.ref b_119), .val (.ref b_132), .val (.ref b_146), .val (.ref b_161), .val (.ref b_177), .val (.ref b_161), .val (.ref b_119), .val (.ref b_132), .unset] [(.long q3), (.long ((q3 - q1) + q1))])) _
        refine XS.lcmp X_216.here hx rfl (hb hby at_302) rfl ?_
        show Steps p.tables e below (T_216.setTop (mkF m 303 #[.val (.long q1), .second, .val (.long q2), .second, .val (.long q3), .second, .val (.long q4), .second, .val (.long q5), .second, .val (.int p6), .val (.int (p6 &&& (3 : Int32))), .val (.ref b_107), .val (.ref b_119), .val (.ref b_132), .val (.ref b_146), .val (.ref b_161), .val (.ref b_177), .val (.ref b_161), .val (.ref b_119), .val (.ref b_132), .unset] [(.int (lcmpW ((q3 - q1) + q1) q3))])) _
        refine XS.ifNo X_216.here hx rfl (hb hby at_303) rfl ((if0 _ _).trans (teq ((lw_eq _ _).mpr (Int64.sub_add_cancel _ _ : ((q3 - q1) + q1) = q3))).2) ?_
        show Steps p.tables e below (T_216.setTop (mkF m 306 #[.val (.long q1), .second, .val (.long q2), .second, .val (.long q3), .second, .val (.long q4), .second, .val (.long q5), .second, .val (.int p6), .val (.int (p6 &&& (3 : Int32))), .val (.ref b_107), .val (.ref b_119), .val (.ref b_132), .val (.ref b_146), .val (.ref b_161), .val (.ref b_177), .val (.ref b_161), .val (.ref b_119), .val (.ref b_132), .unset] [])) _
        refine XS.aload X_216.here hx rfl (hb hby at_306) rfl rfl ?_
        show Steps p.tables e below (T_216.setTop (mkF m 308 #[.val (.long q1), .second, .val (.long q2), .second, .val (.long q3), .second, .val (.long q4), .second, .val (.long q5), .second, .val (.int p6), .val (.int (p6 &&& (3 : Int32))), .val (.ref b_107), .val (.ref b_119), .val (.ref b_132), .val (.ref b_146), .val (.ref b_161), .val (.ref b_177), .val (.ref b_161), .val (.ref b_119), .val (.ref b_132), .unset] [(.ref b_132)])) _
        refine XS.iconst X_216.here hx rfl (hb hby at_308) ?_
        show Steps p.tables e below (T_216.setTop (mkF m 309 #[.val (.long q1), .second, .val (.long q2), .second, .val (.long q3), .second, .val (.long q4), .second, .val (.long q5), .second, .val (.int p6), .val (.int (p6 &&& (3 : Int32))), .val (.ref b_107), .val (.ref b_119), .val (.ref b_132), .val (.ref b_146), .val (.ref b_161), .val (.ref b_177), .val (.ref b_161), .val (.ref b_119), .val (.ref b_132), .unset] [(.int (3 : Int32)), (.ref b_132)])) _
        refine X_216.laload hx (j := (3 : Int32)) (v := (.long (q4 - q2))) Ar_229.1 (State.isArrayOf_alike hZ.alike Ar_229.2.1) Ar_229.2.2 hin_229 hat_229 (g := (mkF m 309 #[.val (.long q1), .second, .val (.long q2), .second, .val (.long q3), .second, .val (.long q4), .second, .val (.long q5), .second, .val (.int p6), .val (.int (p6 &&& (3 : Int32))), .val (.ref b_107), .val (.ref b_119), .val (.ref b_132), .val (.ref b_146), .val (.ref b_161), .val (.ref b_177), .val (.ref b_161), .val (.ref b_119), .val (.ref b_132), .unset] [(.int (3 : Int32)), (.ref b_132)])) rfl rfl (hb hby at_309) _ ?_
        show Steps p.tables e below (T_216.setTop (mkF m 310 #[.val (.long q1), .second, .val (.long q2), .second, .val (.long q3), .second, .val (.long q4), .second, .val (.long q5), .second, .val (.int p6), .val (.int (p6 &&& (3 : Int32))), .val (.ref b_107), .val (.ref b_119), .val (.ref b_132), .val (.ref b_146), .val (.ref b_161), .val (.ref b_177), .val (.ref b_161), .val (.ref b_119), .val (.ref b_132), .unset] [(.long (q4 - q2))])) _
        refine XS.aload X_216.here hx rfl (hb hby at_310) rfl rfl ?_
        show Steps p.tables e below (T_216.setTop (mkF m 312 #[.val (.long q1), .second, .val (.long q2), .second, .val (.long q3), .second, .val (.long q4), .second, .val (.long q5), .second, .val (.int p6), .val (.int (p6 &&& (3 : Int32))), .val (.ref b_107), .val (.ref b_119), .val (.ref b_132), .val (.ref b_146), .val (.ref b_161), .val (.ref b_177), .val (.ref b_161), .val (.ref b_119), .val (.ref b_132), .unset] [(.ref b_161), (.long (q4 - q2))])) _
        refine XS.iconst X_216.here hx rfl (hb hby at_312) ?_
        show Steps p.tables e below (T_216.setTop (mkF m 313 #[.val (.long q1), .second, .val (.long q2), .second, .val (.long q3), .second, .val (.long q4), .second, .val (.long q5), .second, .val (.int p6), .val (.int (p6 &&& (3 : Int32))), .val (.ref b_107), .val (.ref b_119), .val (.ref b_132), .val (.ref b_146), .val (.ref b_161), .val (.ref b_177), .val (.ref b_161), .val (.ref b_119), .val (.ref b_132), .unset] [(.int (3 : Int32)), (.ref b_161), (.long (q4 - q2))])) _
        refine X_216.laload hx (j := (3 : Int32)) (v := (.long q2)) Ar_230.1 (State.isArrayOf_alike hZ.alike Ar_230.2.1) Ar_230.2.2 hin_230 hat_230 (g := (mkF m 313 #[.val (.long q1), .second, .val (.long q2), .second, .val (.long q3), .second, .val (.long q4), .second, .val (.long q5), .second, .val (.int p6), .val (.int (p6 &&& (3 : Int32))), .val (.ref b_107), .val (.ref b_119), .val (.ref b_132), .val (.ref b_146), .val (.ref b_161), .val (.ref b_177), .val (.ref b_161), .val (.ref b_119), .val (.ref b_132), .unset] [(.int (3 : Int32)), (.ref b_161), (.long (q4 - q2))])) rfl rfl (hb hby at_313) _ ?_
        show Steps p.tables e below (T_216.setTop (mkF m 314 #[.val (.long q1), .second, .val (.long q2), .second, .val (.long q3), .second, .val (.long q4), .second, .val (.long q5), .second, .val (.int p6), .val (.int (p6 &&& (3 : Int32))), .val (.ref b_107), .val (.ref b_119), .val (.ref b_132), .val (.ref b_146), .val (.ref b_161), .val (.ref b_177), .val (.ref b_161), .val (.ref b_119), .val (.ref b_132), .unset] [(.long q2), (.long (q4 - q2))])) _
        refine XS.ladd X_216.here hx rfl (hb hby at_314) rfl ?_
        show Steps p.tables e below (T_216.setTop (mkF m 315 #[.val (.long q1), .second, .val (.long q2), .second, .val (.long q3), .second, .val (.long q4), .second, .val (.long q5), .second, .val (.int p6), .val (.int (p6 &&& (3 : Int32))), .val (.ref b_107), .val (.ref b_119), .val (.ref b_132), .val (.ref b_146), .val (.ref b_161), .val (.ref b_177), .val (.ref b_161), .val (.ref b_119), .val (.ref b_132), .unset] [(.long ((q4 - q2) + q2))])) _
        refine XS.aload X_216.here hx rfl (hb hby at_315) rfl rfl ?_
        show Steps p.tables e below (T_216.setTop (mkF m 317 #[.val (.long q1), .second, .val (.long q2), .second, .val (.long q3), .second, .val (.long q4), .second, .val (.long q5), .second, .val (.int p6), .val (.int (p6 &&& (3 : Int32))), .val (.ref b_107), .val (.ref b_119), .val (.ref b_132), .val (.ref b_146), .val (.ref b_161), .val (.ref b_177), .val (.ref b_161), .val (.ref b_119), .val (.ref b_132), .unset] [(.ref b_146), (.long ((q4 - q2) + q2))])) _
        refine XS.iconst X_216.here hx rfl (hb hby at_317) ?_
        show Steps p.tables e below (T_216.setTop (mkF m 318 #[.val (.long q1), .second, .val (.long q2), .second, .val (.long q3), .second, .val (.long q4), .second, .val (.long q5), .second, .val (.int p6), .val (.int (p6 &&& (3 : Int32))), .val (.ref b_107), .val (.ref b_119), .val (.ref b_132), .val (.ref b_146), .val (.ref b_161), .val (.ref b_177), .val (.ref b_161), .val (.ref b_119), .val (.ref b_132), .unset] [(.int (3 : Int32)), (.ref b_146), (.long ((q4 - q2) + q2))])) _
        refine X_216.laload hx (j := (3 : Int32)) (v := (.long q4)) Ar_231.1 (State.isArrayOf_alike hZ.alike Ar_231.2.1) Ar_231.2.2 hin_231 hat_231 (g := (mkF m 318 #[.val (.long q1), .second, .val (.long q2), .second, .val (.long q3), .second, .val (.long q4), .second, .val (.long q5), .second, .val (.int p6), .val (.int (p6 &&& (3 : Int32))), .val (.ref b_107), .val (.ref b_119), .val (.ref b_132), .val (.ref b_146), .val (.ref b_161), .val (.ref b_177), .val (.ref b_161), .val (.ref b_119), .val (.ref b_132), .unset] [(.int (3 : Int32)), (.ref b_146), (.long ((q4 - q2) + q2))])) rfl rfl (hb hby at_318) _ ?_
        show Steps p.tables e below (T_216.setTop (mkF m 319 #[.val (.long q1), .second, .val (.long q2), .second, .val (.long q3), .second, .val (.long q4), .second, .val (.long q5), .second, .val (.int p6), .val (.int (p6 &&& (3 : Int32))), .val (.ref b_107), .val (.ref b_119), .val (.ref b_132), .val (.ref b_146), .val (.ref b_161), .val (.ref b_177), .val (.ref b_161), .val (.ref b_119), .val (.ref b_132), .unset] [(.long q4), (.long ((q4 - q2) + q2))])) _
        refine XS.lcmp X_216.here hx rfl (hb hby at_319) rfl ?_
        show Steps p.tables e below (T_216.setTop (mkF m 320 #[.val (.long q1), .second, .val (.long q2), .second, .val (.long q3), .second, .val (.long q4), .second, .val (.long q5), .second, .val (.int p6), .val (.int (p6 &&& (3 : Int32))), .val (.ref b_107), .val (.ref b_119), .val (.ref b_132), .val (.ref b_146), .val (.ref b_161), .val (.ref b_177), .val (.ref b_161), .val (.ref b_119), .val (.ref b_132), .unset] [(.int (lcmpW ((q4 - q2) + q2) q4))])) _
        refine XS.ifNo X_216.here hx rfl (hb hby at_320) rfl ((if0 _ _).trans (teq ((lw_eq _ _).mpr (Int64.sub_add_cancel _ _ : ((q4 - q2) + q2) = q4))).2) ?_
        show Steps p.tables e below (T_216.setTop (mkF m 323 #[.val (.long q1), .second, .val (.long q2), .second, .val (.long q3), .second, .val (.long q4), .second, .val (.long q5), .second, .val (.int p6), .val (.int (p6 &&& (3 : Int32))), .val (.ref b_107), .val (.ref b_119), .val (.ref b_132), .val (.ref b_146), .val (.ref b_161), .val (.ref b_177), .val (.ref b_161), .val (.ref b_119), .val (.ref b_132), .unset] [])) _
        refine XS.aload X_216.here hx rfl (hb hby at_323) rfl rfl ?_
        show Steps p.tables e below (T_216.setTop (mkF m 325 #[.val (.long q1), .second, .val (.long q2), .second, .val (.long q3), .second, .val (.long q4), .second, .val (.long q5), .second, .val (.int p6), .val (.int (p6 &&& (3 : Int32))), .val (.ref b_107), .val (.ref b_119), .val (.ref b_132), .val (.ref b_146), .val (.ref b_161), .val (.ref b_177), .val (.ref b_161), .val (.ref b_119), .val (.ref b_132), .unset] [(.ref b_132)])) _
        refine XS.iconst X_216.here hx rfl (hb hby at_325) ?_
        show Steps p.tables e below (T_216.setTop (mkF m 326 #[.val (.long q1), .second, .val (.long q2), .second, .val (.long q3), .second, .val (.long q4), .second, .val (.long q5), .second, .val (.int p6), .val (.int (p6 &&& (3 : Int32))), .val (.ref b_107), .val (.ref b_119), .val (.ref b_132), .val (.ref b_146), .val (.ref b_161), .val (.ref b_177), .val (.ref b_161), .val (.ref b_119), .val (.ref b_132), .unset] [(.int (4 : Int32)), (.ref b_132)])) _
        refine X_216.laload hx (j := (4 : Int32)) (v := (.long (q5 - q4))) Ar_232.1 (State.isArrayOf_alike hZ.alike Ar_232.2.1) Ar_232.2.2 hin_232 hat_232 (g := (mkF m 326 #[.val (.long q1), .second, .val (.long q2), .second, .val (.long q3), .second, .val (.long q4), .second, .val (.long q5), .second, .val (.int p6), .val (.int (p6 &&& (3 : Int32))), .val (.ref b_107), .val (.ref b_119), .val (.ref b_132), .val (.ref b_146), .val (.ref b_161), .val (.ref b_177), .val (.ref b_161), .val (.ref b_119), .val (.ref b_132), .unset] [(.int (4 : Int32)), (.ref b_132)])) rfl rfl (hb hby at_326) _ ?_
        show Steps p.tables e below (T_216.setTop (mkF m 327 #[.val (.long q1), .second, .val (.long q2), .second, .val (.long q3), .second, .val (.long q4), .second, .val (.long q5), .second, .val (.int p6), .val (.int (p6 &&& (3 : Int32))), .val (.ref b_107), .val (.ref b_119), .val (.ref b_132), .val (.ref b_146), .val (.ref b_161), .val (.ref b_177), .val (.ref b_161), .val (.ref b_119), .val (.ref b_132), .unset] [(.long (q5 - q4))])) _
        refine XS.aload X_216.here hx rfl (hb hby at_327) rfl rfl ?_
        show Steps p.tables e below (T_216.setTop (mkF m 329 #[.val (.long q1), .second, .val (.long q2), .second, .val (.long q3), .second, .val (.long q4), .second, .val (.long q5), .second, .val (.int p6), .val (.int (p6 &&& (3 : Int32))), .val (.ref b_107), .val (.ref b_119), .val (.ref b_132), .val (.ref b_146), .val (.ref b_161), .val (.ref b_177), .val (.ref b_161), .val (.ref b_119), .val (.ref b_132), .unset] [(.ref b_161), (.long (q5 - q4))])) _
        refine XS.iconst X_216.here hx rfl (hb hby at_329) ?_
        show Steps p.tables e below (T_216.setTop (mkF m 330 #[.val (.long q1), .second, .val (.long q2), .second, .val (.long q3), .second, .val (.long q4), .second, .val (.long q5), .second, .val (.int p6), .val (.int (p6 &&& (3 : Int32))), .val (.ref b_107), .val (.ref b_119), .val (.ref b_132), .val (.ref b_146), .val (.ref b_161), .val (.ref b_177), .val (.ref b_161), .val (.ref b_119), .val (.ref b_132), .unset] [(.int (4 : Int32)), (.ref b_161), (.long (q5 - q4))])) _
        refine X_216.laload hx (j := (4 : Int32)) (v := (.long q4)) Ar_233.1 (State.isArrayOf_alike hZ.alike Ar_233.2.1) Ar_233.2.2 hin_233 hat_233 (g := (mkF m 330 #[.val (.long q1), .second, .val (.long q2), .second, .val (.long q3), .second, .val (.long q4), .second, .val (.long q5), .second, .val (.int p6), .val (.int (p6 &&& (3 : Int32))), .val (.ref b_107), .val (.ref b_119), .val (.ref b_132), .val (.ref b_146), .val (.ref b_161), .val (.ref b_177), .val (.ref b_161), .val (.ref b_119), .val (.ref b_132), .unset] [(.int (4 : Int32)), (.ref b_161), (.long (q5 - q4))])) rfl rfl (hb hby at_330) _ ?_
        show Steps p.tables e below (T_216.setTop (mkF m 331 #[.val (.long q1), .second, .val (.long q2), .second, .val (.long q3), .second, .val (.long q4), .second, .val (.long q5), .second, .val (.int p6), .val (.int (p6 &&& (3 : Int32))), .val (.ref b_107), .val (.ref b_119), .val (.ref b_132), .val (.ref b_146), .val (.ref b_161), .val (.ref b_177), .val (.ref b_161), .val (.ref b_119), .val (.ref b_132), .unset] [(.long q4), (.long (q5 - q4))])) _
        refine XS.ladd X_216.here hx rfl (hb hby at_331) rfl ?_
        show Steps p.tables e below (T_216.setTop (mkF m 332 #[.val (.long q1), .second, .val (.long q2), .second, .val (.long q3), .second, .val (.long q4), .second, .val (.long q5), .second, .val (.int p6), .val (.int (p6 &&& (3 : Int32))), .val (.ref b_107), .val (.ref b_119), .val (.ref b_132), .val (.ref b_146), .val (.ref b_161), .val (.ref b_177), .val (.ref b_161), .val (.ref b_119), .val (.ref b_132), .unset] [(.long ((q5 - q4) + q4))])) _
        refine XS.aload X_216.here hx rfl (hb hby at_332) rfl rfl ?_
        show Steps p.tables e below (T_216.setTop (mkF m 334 #[.val (.long q1), .second, .val (.long q2), .second, .val (.long q3), .second, .val (.long q4), .second, .val (.long q5), .second, .val (.int p6), .val (.int (p6 &&& (3 : Int32))), .val (.ref b_107), .val (.ref b_119), .val (.ref b_132), .val (.ref b_146), .val (.ref b_161), .val (.ref b_177), .val (.ref b_161), .val (.ref b_119), .val (.ref b_132), .unset] [(.ref b_146), (.long ((q5 - q4) + q4))])) _
        refine XS.iconst X_216.here hx rfl (hb hby at_334) ?_
        show Steps p.tables e below (T_216.setTop (mkF m 335 #[.val (.long q1), .second, .val (.long q2), .second, .val (.long q3), .second, .val (.long q4), .second, .val (.long q5), .second, .val (.int p6), .val (.int (p6 &&& (3 : Int32))), .val (.ref b_107), .val (.ref b_119), .val (.ref b_132), .val (.ref b_146), .val (.ref b_161), .val (.ref b_177), .val (.ref b_161), .val (.ref b_119), .val (.ref b_132), .unset] [(.int (4 : Int32)), (.ref b_146), (.long ((q5 - q4) + q4))])) _
        refine X_216.laload hx (j := (4 : Int32)) (v := (.long q5)) Ar_234.1 (State.isArrayOf_alike hZ.alike Ar_234.2.1) Ar_234.2.2 hin_234 hat_234 (g := (mkF m 335 #[.val (.long q1), .second, .val (.long q2), .second, .val (.long q3), .second, .val (.long q4), .second, .val (.long q5), .second, .val (.int p6), .val (.int (p6 &&& (3 : Int32))), .val (.ref b_107), .val (.ref b_119), .val (.ref b_132), .val (.ref b_146), .val (.ref b_161), .val (.ref b_177), .val (.ref b_161), .val (.ref b_119), .val (.ref b_132), .unset] [(.int (4 : Int32)), (.ref b_146), (.long ((q5 - q4) + q4))])) rfl rfl (hb hby at_335) _ ?_
        show Steps p.tables e below (T_216.setTop (mkF m 336 #[.val (.long q1), .second, .val (.long q2), .second, .val (.long q3), .second, .val (.long q4), .second, .val (.long q5), .second, .val (.int p6), .val (.int (p6 &&& (3 : Int32))), .val (.ref b_107), .val (.ref b_119), .val (.ref b_132), .val (.ref b_146), .val (.ref b_161), .val (.ref b_177), .val (.ref b_161), .val (.ref b_119), .val (.ref b_132), .unset] [(.long q5), (.long ((q5 - q4) + q4))])) _
        refine XS.lcmp X_216.here hx rfl (hb hby at_336) rfl ?_
        show Steps p.tables e below (T_216.setTop (mkF m 337 #[.val (.long q1), .second, .val (.long q2), .second, .val (.long q3), .second, .val (.long q4), .second, .val (.long q5), .second, .val (.int p6), .val (.int (p6 &&& (3 : Int32))), .val (.ref b_107), .val (.ref b_119), .val (.ref b_132), .val (.ref b_146), .val (.ref b_161), .val (.ref b_177), .val (.ref b_161), .val (.ref b_119), .val (.ref b_132), .unset] [(.int (lcmpW ((q5 - q4) + q4) q5))])) _
        refine XS.ifNo X_216.here hx rfl (hb hby at_337) rfl ((if0 _ _).trans (teq ((lw_eq _ _).mpr (Int64.sub_add_cancel _ _ : ((q5 - q4) + q4) = q5))).2) ?_
        show Steps p.tables e below (T_216.setTop (mkF m 340 #[.val (.long q1), .second, .val (.long q2), .second, .val (.long q3), .second, .val (.long q4), .second, .val (.long q5), .second, .val (.int p6), .val (.int (p6 &&& (3 : Int32))), .val (.ref b_107), .val (.ref b_119), .val (.ref b_132), .val (.ref b_146), .val (.ref b_161), .val (.ref b_177), .val (.ref b_161), .val (.ref b_119), .val (.ref b_132), .unset] [])) _
        refine XS.iconst X_216.here hx rfl (hb hby at_340) ?_
        show Steps p.tables e below (T_216.setTop (mkF m 341 #[.val (.long q1), .second, .val (.long q2), .second, .val (.long q3), .second, .val (.long q4), .second, .val (.long q5), .second, .val (.int p6), .val (.int (p6 &&& (3 : Int32))), .val (.ref b_107), .val (.ref b_119), .val (.ref b_132), .val (.ref b_146), .val (.ref b_161), .val (.ref b_177), .val (.ref b_161), .val (.ref b_119), .val (.ref b_132), .unset] [(.int (1 : Int32))])) _
        refine XS.goto X_216.here hx rfl (pc0 := 341) (pc' := 345) rfl (hb hby at_341) (by decide) (by decide) ?_
        show Steps p.tables e below (T_216.setTop (mkF m 345 #[.val (.long q1), .second, .val (.long q2), .second, .val (.long q3), .second, .val (.long q4), .second, .val (.long q5), .second, .val (.int p6), .val (.int (p6 &&& (3 : Int32))), .val (.ref b_107), .val (.ref b_119), .val (.ref b_132), .val (.ref b_146), .val (.ref b_161), .val (.ref b_177), .val (.ref b_161), .val (.ref b_119), .val (.ref b_132), .unset] [(.int (1 : Int32))])) _
        refine XS.istore X_216.here hx rfl (hb hby at_345) rfl (l' := #[.val (.long q1), .second, .val (.long q2), .second, .val (.long q3), .second, .val (.long q4), .second, .val (.long q5), .second, .val (.int p6), .val (.int (p6 &&& (3 : Int32))), .val (.ref b_107), .val (.ref b_119), .val (.ref b_132), .val (.ref b_146), .val (.ref b_161), .val (.ref b_177), .val (.ref b_161), .val (.ref b_119), .val (.ref b_132), .val (.int (1 : Int32))]) rfl ?_
        show Steps p.tables e below (T_216.setTop (mkF m 347 #[.val (.long q1), .second, .val (.long q2), .second, .val (.long q3), .second, .val (.long q4), .second, .val (.long q5), .second, .val (.int p6), .val (.int (p6 &&& (3 : Int32))), .val (.ref b_107), .val (.ref b_119), .val (.ref b_132), .val (.ref b_146), .val (.ref b_161), .val (.ref b_177), .val (.ref b_161), .val (.ref b_119), .val (.ref b_132), .val (.int (1 : Int32))] [])) _
        refine XS.iload X_216.here hx rfl (hb hby at_347) rfl ?_
        show Steps p.tables e below (T_216.setTop (mkF m 349 #[.val (.long q1), .second, .val (.long q2), .second, .val (.long q3), .second, .val (.long q4), .second, .val (.long q5), .second, .val (.int p6), .val (.int (p6 &&& (3 : Int32))), .val (.ref b_107), .val (.ref b_119), .val (.ref b_132), .val (.ref b_146), .val (.ref b_161), .val (.ref b_177), .val (.ref b_161), .val (.ref b_119), .val (.ref b_132), .val (.int (1 : Int32))] [(.int (p6 &&& (3 : Int32)))])) _
        refine XS.ifNo X_216.here hx rfl (hb hby at_349) rfl ((if0 _ _).trans (teq hc206__212).2) ?_
        show Steps p.tables e below (T_216.setTop (mkF m 352 #[.val (.long q1), .second, .val (.long q2), .second, .val (.long q3), .second, .val (.long q4), .second, .val (.long q5), .second, .val (.int p6), .val (.int (p6 &&& (3 : Int32))), .val (.ref b_107), .val (.ref b_119), .val (.ref b_132), .val (.ref b_146), .val (.ref b_161), .val (.ref b_177), .val (.ref b_161), .val (.ref b_119), .val (.ref b_132), .val (.int (1 : Int32))] [])) _
        refine XS.iload X_216.here hx rfl (hb hby at_352) rfl ?_
        show Steps p.tables e below (T_216.setTop (mkF m 354 #[.val (.long q1), .second, .val (.long q2), .second, .val (.long q3), .second, .val (.long q4), .second, .val (.long q5), .second, .val (.int p6), .val (.int (p6 &&& (3 : Int32))), .val (.ref b_107), .val (.ref b_119), .val (.ref b_132), .val (.ref b_146), .val (.ref b_161), .val (.ref b_177), .val (.ref b_161), .val (.ref b_119), .val (.ref b_132), .val (.int (1 : Int32))] [(.int (1 : Int32))])) _
        refine XS.ifNo X_216.here hx rfl (hb hby at_354) rfl ((if0 _ _).trans (feq (by decide : ¬ ((1 : Int32) = (0 : Int32)))).1) ?_
        show Steps p.tables e below (T_216.setTop (mkF m 357 #[.val (.long q1), .second, .val (.long q2), .second, .val (.long q3), .second, .val (.long q4), .second, .val (.long q5), .second, .val (.int p6), .val (.int (p6 &&& (3 : Int32))), .val (.ref b_107), .val (.ref b_119), .val (.ref b_132), .val (.ref b_146), .val (.ref b_161), .val (.ref b_177), .val (.ref b_161), .val (.ref b_119), .val (.ref b_132), .val (.int (1 : Int32))] [])) _
        refine XS.aload X_216.here hx rfl (hb hby at_357) rfl rfl ?_
        show Steps p.tables e below (T_216.setTop (mkF m 359 #[.val (.long q1), .second, .val (.long q2), .second, .val (.long q3), .second, .val (.long q4), .second, .val (.long q5), .second, .val (.int p6), .val (.int (p6 &&& (3 : Int32))), .val (.ref b_107), .val (.ref b_119), .val (.ref b_132), .val (.ref b_146), .val (.ref b_161), .val (.ref b_177), .val (.ref b_161), .val (.ref b_119), .val (.ref b_132), .val (.int (1 : Int32))] [(.ref b_107)])) _
        refine XS.aload X_216.here hx rfl (hb hby at_359) rfl rfl ?_
        show Steps p.tables e below (T_216.setTop (mkF m 361 #[.val (.long q1), .second, .val (.long q2), .second, .val (.long q3), .second, .val (.long q4), .second, .val (.long q5), .second, .val (.int p6), .val (.int (p6 &&& (3 : Int32))), .val (.ref b_107), .val (.ref b_119), .val (.ref b_132), .val (.ref b_146), .val (.ref b_161), .val (.ref b_177), .val (.ref b_161), .val (.ref b_119), .val (.ref b_132), .val (.int (1 : Int32))] [(.ref b_146), (.ref b_107)])) _
        refine st_236 _ ?_
        show Steps p.tables e below (T_236.setTop (mkF m 364 #[.val (.long q1), .second, .val (.long q2), .second, .val (.long q3), .second, .val (.long q4), .second, .val (.long q5), .second, .val (.int p6), .val (.int (p6 &&& (3 : Int32))), .val (.ref b_107), .val (.ref b_119), .val (.ref b_132), .val (.ref b_146), .val (.ref b_161), .val (.ref b_177), .val (.ref b_161), .val (.ref b_119), .val (.ref b_132), .val (.int (1 : Int32))] [(.int (1 : Int32))])) _
        refine XS.ifNo X_236.here hx rfl (hb hby at_364) rfl ((if0 _ _).trans (feq (by decide : ¬ ((1 : Int32) = (0 : Int32)))).1) ?_
        show Steps p.tables e below (T_236.setTop (mkF m 367 #[.val (.long q1), .second, .val (.long q2), .second, .val (.long q3), .second, .val (.long q4), .second, .val (.long q5), .second, .val (.int p6), .val (.int (p6 &&& (3 : Int32))), .val (.ref b_107), .val (.ref b_119), .val (.ref b_132), .val (.ref b_146), .val (.ref b_161), .val (.ref b_177), .val (.ref b_161), .val (.ref b_119), .val (.ref b_132), .val (.int (1 : Int32))] [])) _
        refine XS.aload X_236.here hx rfl (hb hby at_367) rfl rfl ?_
        show Steps p.tables e below (T_236.setTop (mkF m 369 #[.val (.long q1), .second, .val (.long q2), .second, .val (.long q3), .second, .val (.long q4), .second, .val (.long q5), .second, .val (.int p6), .val (.int (p6 &&& (3 : Int32))), .val (.ref b_107), .val (.ref b_119), .val (.ref b_132), .val (.ref b_146), .val (.ref b_161), .val (.ref b_177), .val (.ref b_161), .val (.ref b_119), .val (.ref b_132), .val (.int (1 : Int32))] [(.ref b_119)])) _
        refine XS.aload X_236.here hx rfl (hb hby at_369) rfl rfl ?_
        show Steps p.tables e below (T_236.setTop (mkF m 371 #[.val (.long q1), .second, .val (.long q2), .second, .val (.long q3), .second, .val (.long q4), .second, .val (.long q5), .second, .val (.int p6), .val (.int (p6 &&& (3 : Int32))), .val (.ref b_107), .val (.ref b_119), .val (.ref b_132), .val (.ref b_146), .val (.ref b_161), .val (.ref b_177), .val (.ref b_161), .val (.ref b_119), .val (.ref b_132), .val (.int (1 : Int32))] [(.ref b_161), (.ref b_119)])) _
        refine st_238 _ ?_
        show Steps p.tables e below (T_238.setTop (mkF m 374 #[.val (.long q1), .second, .val (.long q2), .second, .val (.long q3), .second, .val (.long q4), .second, .val (.long q5), .second, .val (.int p6), .val (.int (p6 &&& (3 : Int32))), .val (.ref b_107), .val (.ref b_119), .val (.ref b_132), .val (.ref b_146), .val (.ref b_161), .val (.ref b_177), .val (.ref b_161), .val (.ref b_119), .val (.ref b_132), .val (.int (1 : Int32))] [(.int (1 : Int32))])) _
        refine XS.ifNo X_238.here hx rfl (hb hby at_374) rfl ((if0 _ _).trans (feq (by decide : ¬ ((1 : Int32) = (0 : Int32)))).1) ?_
        show Steps p.tables e below (T_238.setTop (mkF m 377 #[.val (.long q1), .second, .val (.long q2), .second, .val (.long q3), .second, .val (.long q4), .second, .val (.long q5), .second, .val (.int p6), .val (.int (p6 &&& (3 : Int32))), .val (.ref b_107), .val (.ref b_119), .val (.ref b_132), .val (.ref b_146), .val (.ref b_161), .val (.ref b_177), .val (.ref b_161), .val (.ref b_119), .val (.ref b_132), .val (.int (1 : Int32))] [])) _
        refine XS.iconst X_238.here hx rfl (hb hby at_377) ?_
        show Steps p.tables e below (T_238.setTop (mkF m 378 #[.val (.long q1), .second, .val (.long q2), .second, .val (.long q3), .second, .val (.long q4), .second, .val (.long q5), .second, .val (.int p6), .val (.int (p6 &&& (3 : Int32))), .val (.ref b_107), .val (.ref b_119), .val (.ref b_132), .val (.ref b_146), .val (.ref b_161), .val (.ref b_177), .val (.ref b_161), .val (.ref b_119), .val (.ref b_132), .val (.int (1 : Int32))] [(.int (1 : Int32))])) _
        refine XS.goto X_238.here hx rfl (pc0 := 378) (pc' := 382) rfl (hb hby at_378) (by decide) (by decide) ?_
        show Steps p.tables e below (T_238.setTop (mkF m 382 #[.val (.long q1), .second, .val (.long q2), .second, .val (.long q3), .second, .val (.long q4), .second, .val (.long q5), .second, .val (.int p6), .val (.int (p6 &&& (3 : Int32))), .val (.ref b_107), .val (.ref b_119), .val (.ref b_132), .val (.ref b_146), .val (.ref b_161), .val (.ref b_177), .val (.ref b_161), .val (.ref b_119), .val (.ref b_132), .val (.int (1 : Int32))] [(.int (1 : Int32))])) _
        refine XS.istore X_238.here hx rfl (hb hby at_382) rfl (l' := #[.val (.long q1), .second, .val (.long q2), .second, .val (.long q3), .second, .val (.long q4), .second, .val (.long q5), .second, .val (.int p6), .val (.int (p6 &&& (3 : Int32))), .val (.ref b_107), .val (.ref b_119), .val (.ref b_132), .val (.ref b_146), .val (.ref b_161), .val (.ref b_177), .val (.ref b_161), .val (.ref b_119), .val (.ref b_132), .val (.int (1 : Int32))]) rfl ?_
        show Steps p.tables e below (T_238.setTop (mkF m 384 #[.val (.long q1), .second, .val (.long q2), .second, .val (.long q3), .second, .val (.long q4), .second, .val (.long q5), .second, .val (.int p6), .val (.int (p6 &&& (3 : Int32))), .val (.ref b_107), .val (.ref b_119), .val (.ref b_132), .val (.ref b_146), .val (.ref b_161), .val (.ref b_177), .val (.ref b_161), .val (.ref b_119), .val (.ref b_132), .val (.int (1 : Int32))] [])) _
        refine XS.goto X_238.here hx rfl (pc0 := 384) (pc' := 446) rfl (hb hby at_384) (by decide) (by decide) ?_
        show Steps p.tables e below (T_238.setTop (mkF m 446 #[.val (.long q1), .second, .val (.long q2), .second, .val (.long q3), .second, .val (.long q4), .second, .val (.long q5), .second, .val (.int p6), .val (.int (p6 &&& (3 : Int32))), .val (.ref b_107), .val (.ref b_119), .val (.ref b_132), .val (.ref b_146), .val (.ref b_161), .val (.ref b_177), .val (.ref b_161), .val (.ref b_119), .val (.ref b_132), .val (.int (1 : Int32))] [])) _
        refine XS.iload X_238.here hx rfl (hb hby at_446) rfl ?_
        show Steps p.tables e below (T_238.setTop (mkF m 448 #[.val (.long q1), .second, .val (.long q2), .second, .val (.long q3), .second, .val (.long q4), .second, .val (.long q5), .second, .val (.int p6), .val (.int (p6 &&& (3 : Int32))), .val (.ref b_107), .val (.ref b_119), .val (.ref b_132), .val (.ref b_146), .val (.ref b_161), .val (.ref b_177), .val (.ref b_161), .val (.ref b_119), .val (.ref b_132), .val (.int (1 : Int32))] [(.int (1 : Int32))])) _
        exact retN X_238 hx (t := .boolean) Bd.returns (by simp) (hb hby at_448) hr
      · show Q0 Z q1 q2 q3 q4 q5 p6 h0 n0 _ T_238.heap _
        rw [e_238]
        exact ⟨rfl, N_238⟩
    · have pre_239 : ∀ t, Steps p.tables e below (T_187.setTop (mkF m 219 #[.val (.long q1), .second, .val (.long q2), .second, .val (.long q3), .second, .val (.long q4), .second, .val (.long q5), .second, .val (.int p6), .val (.int (p6 &&& (3 : Int32))), .val (.ref b_107), .val (.ref b_119), .val (.ref b_132), .val (.ref b_146), .val (.ref b_161), .val (.ref b_177), .val (.ref b_161), .val (.ref b_119), .unset, .unset] [(.int (1 : Int32)), (.int (p6 &&& (3 : Int32)))])) t → Steps p.tables e below (s₁.setTop (entryFrame m #[(.long q1), (.long q2), (.long q3), (.long q4), (.long q5), (.int p6)] maxLocals)) t := fun t k => pre_211 t (by
          show Steps p.tables e below (T_187.setTop (mkF m 206 #[.val (.long q1), .second, .val (.long q2), .second, .val (.long q3), .second, .val (.long q4), .second, .val (.long q5), .second, .val (.int p6), .val (.int (p6 &&& (3 : Int32))), .val (.ref b_107), .val (.ref b_119), .val (.ref b_132), .val (.ref b_146), .val (.ref b_161), .val (.ref b_177), .val (.ref b_161), .val (.ref b_119), .unset, .unset] [(.int (p6 &&& (3 : Int32)))])) _
          refine XS.ifYes X_187.here hx rfl (pc0 := 206) (pc' := 216) rfl (hb hby at_206) rfl ((if0 _ _).trans (feq hc206__212).2) (by decide) (by decide) ?_
          show Steps p.tables e below (T_187.setTop (mkF m 216 #[.val (.long q1), .second, .val (.long q2), .second, .val (.long q3), .second, .val (.long q4), .second, .val (.long q5), .second, .val (.int p6), .val (.int (p6 &&& (3 : Int32))), .val (.ref b_107), .val (.ref b_119), .val (.ref b_132), .val (.ref b_146), .val (.ref b_161), .val (.ref b_177), .val (.ref b_161), .val (.ref b_119), .unset, .unset] [])) _
          refine XS.iload X_187.here hx rfl (hb hby at_216) rfl ?_
          show Steps p.tables e below (T_187.setTop (mkF m 218 #[.val (.long q1), .second, .val (.long q2), .second, .val (.long q3), .second, .val (.long q4), .second, .val (.long q5), .second, .val (.int p6), .val (.int (p6 &&& (3 : Int32))), .val (.ref b_107), .val (.ref b_119), .val (.ref b_132), .val (.ref b_146), .val (.ref b_161), .val (.ref b_177), .val (.ref b_161), .val (.ref b_119), .unset, .unset] [(.int (p6 &&& (3 : Int32)))])) _
          refine XS.iconst X_187.here hx rfl (hb hby at_218) ?_
          exact k)
      by_cases hc219__240 : (p6 &&& (3 : Int32)) = (1 : Int32)
      · have f_241 : Arv Z h_187 b_107 k_107 .long (5 : Int32) [(.long q1), (.long q2), (.long q3), (.long q4), (.long q5)] (.long (0 : Int64)) := ((((((f_173.ext E_177).other W_179 ne_b_107_b_177).other W_181 ne_b_107_b_177).other W_183 ne_b_107_b_177).other W_185 ne_b_107_b_177).other W_187 ne_b_107_b_177)
        have f_242 : Arv Z h_187 b_119 k_119 .long (5 : Int32) [(.long q3), (.long q5), (.long q1), (.long q2), (.long q4)] (.long (0 : Int64)) := ((((((f_174.ext E_177).other W_179 ne_b_119_b_177).other W_181 ne_b_119_b_177).other W_183 ne_b_119_b_177).other W_185 ne_b_119_b_177).other W_187 ne_b_119_b_177)
        obtain ⟨_, _, ⟨T_243, L_243, k_243, n_243⟩, -, X_243, ⟨Lc_243, hQ_243, l_243, y_243, z_243⟩, st_243⟩ := Jvm.LawKit.callS X_187 hx (y := (⟨"com/example/latchet/latchet/Field25519", "sub", "([J[J[J)V"⟩ : MethodName)) hown (mvT hZ (hw _ (List.mem_of_getElem? (i := 1) rfl))) (mvT hZ (hw _ (List.mem_of_getElem? (i := 2) rfl))) (mvT hZ (hw _ (List.mem_of_getElem? (i := 3) rfl))) (mvT hZ (hw _ (List.mem_of_getElem? (i := 4) rfl))) (by decide) (backOf (W := 0) (rm1b l Z a0 hw [] b_107 b_119 k_107 k_119 q1 q2 q3 q4 q5 q3 q5 q1 q2 q4 h_187 n0 z_188 f_241 f_242 g_b_107 (Ne.symm ne_b_107_b_119)) hZ (hw _ (List.mem_of_getElem? (i := 4) rfl)) (hw _ (List.mem_of_getElem? (i := 3) rfl)) (by decide) (by decide)) (g := (mkF m 252 #[.val (.long q1), .second, .val (.long q2), .second, .val (.long q3), .second, .val (.long q4), .second, .val (.long q5), .second, .val (.int p6), .val (.int (p6 &&& (3 : Int32))), .val (.ref b_107), .val (.ref b_119), .val (.ref b_132), .val (.ref b_146), .val (.ref b_161), .val (.ref b_177), .val (.ref b_161), .val (.ref b_119), .val (.ref b_107), .unset] [(.ref b_119), (.ref b_107), (.ref b_107)])) rfl (by rw [hml]; rfl) (argsL := [(.ref b_107), (.ref b_107), (.ref b_119)]) (rest := []) (lenOf pd_0 rfl) rfl (by show 2 * 0 + _ ≤ _; exact Nat.le_of_eq rfl) (hb hby at_252) (fun _ _ => ⟨rfl, e_187, (by decide : 6 + 0 ≤ _), (by decide : 30 + 0 ≤ _)⟩)
        dsimp only [Pt.U, Pt.locs, Pt.cells, Pt.slots] at X_243 l_243 y_243 z_243 st_243 hQ_243
        replace X_243 := castS l_243 y_243 z_243 X_243
        obtain ⟨rfl, Nq_243, K_243, po_243_0⟩ := hQ_243
        have z_244 : n0 ≤ T_243.heap.size := Nat.le_trans z_188 K_243.1
        have N_243 := Fr.app N_187 Nq_243
        obtain ⟨cl_245, Ar_245, q_245, S_245, M_245, H_245, G_245⟩ := id po_243_0
        have hin_245 : ¬ ((0 : Int32) < 0 ∨ cl_245.slots.size ≤ ((0 : Int32)).toNatClampNeg) := inb_of S_245 ⟨by decide, by decide⟩
        have hat_245 : cl_245.slots[((0 : Int32)).toNatClampNeg]? = some (.long (q1 - q3)) := H_245.at hin_245 rfl
        have f_246 : Arv Z T_243.heap b_161 k_161 .long (5 : Int32) [(.long q3), (.long q5), (.long q1), (.long q2), (.long q4)] (.long (0 : Int64)) := (((((((V_171.ext E_177).other W_179 ne_b_161_b_177).other W_181 ne_b_161_b_177).other W_183 ne_b_161_b_177).other W_185 ne_b_161_b_177).other W_187 ne_b_161_b_177).keep K_243 (ninS (Ne.symm ne_b_107_b_161) nin0))
        obtain ⟨cl_247, Ar_247, q_247, S_247, M_247, H_247, G_247⟩ := id f_246
        have hin_247 : ¬ ((0 : Int32) < 0 ∨ cl_247.slots.size ≤ ((0 : Int32)).toNatClampNeg) := inb_of S_247 ⟨by decide, by decide⟩
        have hat_247 : cl_247.slots[((0 : Int32)).toNatClampNeg]? = some (.long q3) := H_247.at hin_247 rfl
        have f_248 : Arv Z T_243.heap b_146 k_146 .long (5 : Int32) [(.long q1), (.long q2), (.long q3), (.long q4), (.long q5)] (.long (0 : Int64)) := (((((((f_176.ext E_177).other W_179 ne_b_146_b_177).other W_181 ne_b_146_b_177).other W_183 ne_b_146_b_177).other W_185 ne_b_146_b_177).other W_187 ne_b_146_b_177).keep K_243 (ninS (Ne.symm ne_b_107_b_146) nin0))
        obtain ⟨cl_249, Ar_249, q_249, S_249, M_249, H_249, G_249⟩ := id f_248
        have hin_249 : ¬ ((0 : Int32) < 0 ∨ cl_249.slots.size ≤ ((0 : Int32)).toNatClampNeg) := inb_of S_249 ⟨by decide, by decide⟩
        have hat_249 : cl_249.slots[((0 : Int32)).toNatClampNeg]? = some (.long q1) := H_249.at hin_249 rfl
        obtain ⟨cl_250, Ar_250, q_250, S_250, M_250, H_250, G_250⟩ := id po_243_0
        have hin_250 : ¬ ((1 : Int32) < 0 ∨ cl_250.slots.size ≤ ((1 : Int32)).toNatClampNeg) := inb_of S_250 ⟨by decide, by decide⟩
        have hat_250 : cl_250.slots[((1 : Int32)).toNatClampNeg]? = some (.long (q2 - q5)) := H_250.at hin_250 rfl
        obtain ⟨cl_251, Ar_251, q_251, S_251, M_251, H_251, G_251⟩ := id f_246
        have hin_251 : ¬ ((1 : Int32) < 0 ∨ cl_251.slots.size ≤ ((1 : Int32)).toNatClampNeg) := inb_of S_251 ⟨by decide, by decide⟩
        have hat_251 : cl_251.slots[((1 : Int32)).toNatClampNeg]? = some (.long q5) := H_251.at hin_251 rfl
        obtain ⟨cl_252, Ar_252, q_252, S_252, M_252, H_252, G_252⟩ := id f_248
        have hin_252 : ¬ ((1 : Int32) < 0 ∨ cl_252.slots.size ≤ ((1 : Int32)).toNatClampNeg) := inb_of S_252 ⟨by decide, by decide⟩
        have hat_252 : cl_252.slots[((1 : Int32)).toNatClampNeg]? = some (.long q2) := H_252.at hin_252 rfl
        obtain ⟨cl_253, Ar_253, q_253, S_253, M_253, H_253, G_253⟩ := id po_243_0
        have hin_253 : ¬ ((2 : Int32) < 0 ∨ cl_253.slots.size ≤ ((2 : Int32)).toNatClampNeg) := inb_of S_253 ⟨by decide, by decide⟩
        have hat_253 : cl_253.slots[((2 : Int32)).toNatClampNeg]? = some (.long (q3 - q1)) := H_253.at hin_253 rfl
        obtain ⟨cl_254, Ar_254, q_254, S_254, M_254, H_254, G_254⟩ := id f_246
        have hin_254 : ¬ ((2 : Int32) < 0 ∨ cl_254.slots.size ≤ ((2 : Int32)).toNatClampNeg) := inb_of S_254 ⟨by decide, by decide⟩
        have hat_254 : cl_254.slots[((2 : Int32)).toNatClampNeg]? = some (.long q1) := H_254.at hin_254 rfl
        obtain ⟨cl_255, Ar_255, q_255, S_255, M_255, H_255, G_255⟩ := id f_248
        have hin_255 : ¬ ((2 : Int32) < 0 ∨ cl_255.slots.size ≤ ((2 : Int32)).toNatClampNeg) := inb_of S_255 ⟨by decide, by decide⟩
        have hat_255 : cl_255.slots[((2 : Int32)).toNatClampNeg]? = some (.long q3) := H_255.at hin_255 rfl
        obtain ⟨cl_256, Ar_256, q_256, S_256, M_256, H_256, G_256⟩ := id po_243_0
        have hin_256 : ¬ ((3 : Int32) < 0 ∨ cl_256.slots.size ≤ ((3 : Int32)).toNatClampNeg) := inb_of S_256 ⟨by decide, by decide⟩
        have hat_256 : cl_256.slots[((3 : Int32)).toNatClampNeg]? = some (.long (q4 - q2)) := H_256.at hin_256 rfl
        obtain ⟨cl_257, Ar_257, q_257, S_257, M_257, H_257, G_257⟩ := id f_246
        have hin_257 : ¬ ((3 : Int32) < 0 ∨ cl_257.slots.size ≤ ((3 : Int32)).toNatClampNeg) := inb_of S_257 ⟨by decide, by decide⟩
        have hat_257 : cl_257.slots[((3 : Int32)).toNatClampNeg]? = some (.long q2) := H_257.at hin_257 rfl
        obtain ⟨cl_258, Ar_258, q_258, S_258, M_258, H_258, G_258⟩ := id f_248
        have hin_258 : ¬ ((3 : Int32) < 0 ∨ cl_258.slots.size ≤ ((3 : Int32)).toNatClampNeg) := inb_of S_258 ⟨by decide, by decide⟩
        have hat_258 : cl_258.slots[((3 : Int32)).toNatClampNeg]? = some (.long q4) := H_258.at hin_258 rfl
        obtain ⟨cl_259, Ar_259, q_259, S_259, M_259, H_259, G_259⟩ := id po_243_0
        have hin_259 : ¬ ((4 : Int32) < 0 ∨ cl_259.slots.size ≤ ((4 : Int32)).toNatClampNeg) := inb_of S_259 ⟨by decide, by decide⟩
        have hat_259 : cl_259.slots[((4 : Int32)).toNatClampNeg]? = some (.long (q5 - q4)) := H_259.at hin_259 rfl
        obtain ⟨cl_260, Ar_260, q_260, S_260, M_260, H_260, G_260⟩ := id f_246
        have hin_260 : ¬ ((4 : Int32) < 0 ∨ cl_260.slots.size ≤ ((4 : Int32)).toNatClampNeg) := inb_of S_260 ⟨by decide, by decide⟩
        have hat_260 : cl_260.slots[((4 : Int32)).toNatClampNeg]? = some (.long q4) := H_260.at hin_260 rfl
        obtain ⟨cl_261, Ar_261, q_261, S_261, M_261, H_261, G_261⟩ := id f_248
        have hin_261 : ¬ ((4 : Int32) < 0 ∨ cl_261.slots.size ≤ ((4 : Int32)).toNatClampNeg) := inb_of S_261 ⟨by decide, by decide⟩
        have hat_261 : cl_261.slots[((4 : Int32)).toNatClampNeg]? = some (.long q5) := H_261.at hin_261 rfl
        have f_262 : Arv Z T_243.heap b_119 k_119 .long (5 : Int32) [(.long q3), (.long q5), (.long q1), (.long q2), (.long q4)] (.long (0 : Int64)) := (f_242.keep K_243 (ninS (Ne.symm ne_b_107_b_119) nin0))
        obtain ⟨_, _, ⟨T_263, L_263, k_263, n_263⟩, -, X_263, ⟨Lc_263, hQ_263, l_263, y_263, z_263⟩, st_263⟩ := Jvm.LawKit.callS X_243 hx (y := (⟨"com/example/latchet/latchet/Field25519SubPinLaw", "same", "([J[J)Z"⟩ : MethodName)) hown (mvT hZ (hw _ (List.mem_of_getElem? (i := 5) rfl))) (mvT hZ (hw _ (List.mem_of_getElem? (i := 6) rfl))) (mvT hZ (hw _ (List.mem_of_getElem? (i := 7) rfl))) (mvT hZ (hw _ (List.mem_of_getElem? (i := 8) rfl))) (by decide) (backOf (W := 0) (rm2 l Z a0 hw [] b_119 b_161 k_119 k_161 q3 q5 q1 q2 q4 T_243.heap n0 z_244 f_262 f_246) hZ (hw _ (List.mem_of_getElem? (i := 8) rfl)) (hw _ (List.mem_of_getElem? (i := 7) rfl)) (by decide) (by decide)) (g := (mkF m 402 #[.val (.long q1), .second, .val (.long q2), .second, .val (.long q3), .second, .val (.long q4), .second, .val (.long q5), .second, .val (.int p6), .val (.int (p6 &&& (3 : Int32))), .val (.ref b_107), .val (.ref b_119), .val (.ref b_132), .val (.ref b_146), .val (.ref b_161), .val (.ref b_177), .val (.ref b_161), .val (.ref b_119), .val (.ref b_107), .val (.int (1 : Int32))] [(.ref b_161), (.ref b_119)])) rfl (by rw [hml]; rfl) (argsL := [(.ref b_119), (.ref b_161)]) (rest := []) (lenOf pd_1 rfl) rfl (by show 2 * 0 + _ ≤ _; exact Nat.le_of_eq rfl) (hb hby at_402) (fun _ _ => ⟨rfl, rfl, (by decide : 6 + 0 ≤ _), (by decide : 30 + 0 ≤ _)⟩)
        dsimp only [Pt.U, Pt.locs, Pt.cells, Pt.slots] at X_263 l_263 y_263 z_263 st_263 hQ_263
        replace X_263 := castS l_263 y_263 z_263 X_263
        obtain ⟨rfl, Nq_263, e_263⟩ := hQ_263
        have N_263 := Fr.app N_243 Nq_263
        obtain ⟨fs, hr, hrun, hended, hW, hsame⟩ := X_263.leave (v := some (.int (1 : Int32))) (fun h => by rw [Bd.returns] at h; cases h)
        refine ⟨_, _, pre_239 _ ?_, hrun, hended, _, _, rfl, ?_, ⟨_, rfl⟩, hW, hsame.mono (by decide) (by decide)⟩
        · show Steps p.tables e below (T_187.setTop (mkF m 219 #[.val (.long q1), .second, .val (.long q2), .second, .val (.long q3), .second, .val (.long q4), .second, .val (.long q5), .second, .val (.int p6), .val (.int (p6 &&& (3 : Int32))), .val (.ref b_107), .val (.ref b_119), .val (.ref b_132), .val (.ref b_146), .val (.ref b_161), .val (.ref b_177), .val (.ref b_161), .val (.ref b_119), .unset, .unset] [(.int (1 : Int32)), (.int (p6 &&& (3 : Int32)))])) _
          refine XS.icmpNo X_187.here hx rfl (hb hby at_219) rfl (teq hc219__240).2 ?_
          show Steps p.tables e below (T_187.setTop (mkF m 222 #[.val (.long q1), .second, .val (.long q2), .second, .val (.long q3), .second, .val (.long q4), .second, .val (.long q5), .second, .val (.int p6), .val (.int (p6 &&& (3 : Int32))), .val (.ref b_107), .val (.ref b_119), .val (.ref b_132), .val (.ref b_146), .val (.ref b_161), .val (.ref b_177), .val (.ref b_161), .val (.ref b_119), .unset, .unset] [])) _
          refine XS.aload X_187.here hx rfl (hb hby at_222) rfl rfl ?_
          show Steps p.tables e below (T_187.setTop (mkF m 224 #[.val (.long q1), .second, .val (.long q2), .second, .val (.long q3), .second, .val (.long q4), .second, .val (.long q5), .second, .val (.int p6), .val (.int (p6 &&& (3 : Int32))), .val (.ref b_107), .val (.ref b_119), .val (.ref b_132), .val (.ref b_146), .val (.ref b_161), .val (.ref b_177), .val (.ref b_161), .val (.ref b_119), .unset, .unset] [(.ref b_107)])) _
          refine XS.astore X_187.here hx rfl (hb hby at_224) rfl rfl (l' := #[.val (.long q1), .second, .val (.long q2), .second, .val (.long q3), .second, .val (.long q4), .second, .val (.long q5), .second, .val (.int p6), .val (.int (p6 &&& (3 : Int32))), .val (.ref b_107), .val (.ref b_119), .val (.ref b_132), .val (.ref b_146), .val (.ref b_161), .val (.ref b_177), .val (.ref b_161), .val (.ref b_119), .val (.ref b_107), .unset]) rfl ?_
          show Steps p.tables e below (T_187.setTop (mkF m 226 #[.val (.long q1), .second, .val (.long q2), .second, .val (.long q3), .second, .val (.long q4), .second, .val (.long q5), .second, .val (.int p6), .val (.int (p6 &&& (3 : Int32))), .val (.ref b_107), .val (.ref b_119), .val (.ref b_132), .val (.ref b_146), .val (.ref b_161), .val (.ref b_177), .val (.ref b_161), .val (.ref b_119), .val (.ref b_107), .unset] [])) _
          refine XS.goto X_187.here hx rfl (pc0 := 226) (pc' := 246) rfl (hb hby at_226) (by decide) (by decide) ?_
          show Steps p.tables e below (T_187.setTop (mkF m 246 #[.val (.long q1), .second, .val (.long q2), .second, .val (.long q3), .second, .val (.long q4), .second, .val (.long q5), .second, .val (.int p6), .val (.int (p6 &&& (3 : Int32))), .val (.ref b_107), .val (.ref b_119), .val (.ref b_132), .val (.ref b_146), .val (.ref b_161), .val (.ref b_177), .val (.ref b_161), .val (.ref b_119), .val (.ref b_107), .unset] [])) _
          refine XS.aload X_187.here hx rfl (hb hby at_246) rfl rfl ?_
          show Steps p.tables e below (T_187.setTop (mkF m 248 #[.val (.long q1), .second, .val (.long q2), .second, .val (.long q3), .second, .val (.long q4), .second, .val (.long q5), .second, .val (.int p6), .val (.int (p6 &&& (3 : Int32))), .val (.ref b_107), .val (.ref b_119), .val (.ref b_132), .val (.ref b_146), .val (.ref b_161), .val (.ref b_177), .val (.ref b_161), .val (.ref b_119), .val (.ref b_107), .unset] [(.ref b_107)])) _
          refine XS.aload X_187.here hx rfl (hb hby at_248) rfl rfl ?_
          show Steps p.tables e below (T_187.setTop (mkF m 250 #[.val (.long q1), .second, .val (.long q2), .second, .val (.long q3), .second, .val (.long q4), .second, .val (.long q5), .second, .val (.int p6), .val (.int (p6 &&& (3 : Int32))), .val (.ref b_107), .val (.ref b_119), .val (.ref b_132), .val (.ref b_146), .val (.ref b_161), .val (.ref b_177), .val (.ref b_161), .val (.ref b_119), .val (.ref b_107), .unset] [(.ref b_107), (.ref b_107)])) _
          refine XS.aload X_187.here hx rfl (hb hby at_250) rfl rfl ?_
          show Steps p.tables e below (T_187.setTop (mkF m 252 #[.val (.long q1), .second, .val (.long q2), .second, .val (.long q3), .second, .val (.long q4), .second, .val (.long q5), .second, .val (.int p6), .val (.int (p6 &&& (3 : Int32))), .val (.ref b_107), .val (.ref b_119), .val (.ref b_132), .val (.ref b_146), .val (.ref b_161), .val (.ref b_177), .val (.ref b_161), .val (.ref b_119), .val (.ref b_107), .unset] [(.ref b_119), (.ref b_107), (.ref b_107)])) _
          refine st_243 _ ?_
          show Steps p.tables e below (T_243.setTop (mkF m 255 #[.val (.long q1), .second, .val (.long q2), .second, .val (.long q3), .second, .val (.long q4), .second, .val (.long q5), .second, .val (.int p6), .val (.int (p6 &&& (3 : Int32))), .val (.ref b_107), .val (.ref b_119), .val (.ref b_132), .val (.ref b_146), .val (.ref b_161), .val (.ref b_177), .val (.ref b_161), .val (.ref b_119), .val (.ref b_107), .unset] [])) _
          refine XS.aload X_243.here hx rfl (hb hby at_255) rfl rfl ?_
          show Steps p.tables e below (T_243.setTop (mkF m 257 #[.val (.long q1), .second, .val (.long q2), .second, .val (.long q3), .second, .val (.long q4), .second, .val (.long q5), .second, .val (.int p6), .val (.int (p6 &&& (3 : Int32))), .val (.ref b_107), .val (.ref b_119), .val (.ref b_132), .val (.ref b_146), .val (.ref b_161), .val (.ref b_177), .val (.ref b_161), .val (.ref b_119), .val (.ref b_107), .unset] [(.ref b_107)])) _
          refine XS.iconst X_243.here hx rfl (hb hby at_257) ?_
          show Steps p.tables e below (T_243.setTop (mkF m 258 #[.val (.long q1), .second, .val (.long q2), .second, .val (.long q3), .second, .val (.long q4), .second, .val (.long q5), .second, .val (.int p6), .val (.int (p6 &&& (3 : Int32))), .val (.ref b_107), .val (.ref b_119), .val (.ref b_132), .val (.ref b_146), .val (.ref b_161), .val (.ref b_177), .val (.ref b_161), .val (.ref b_119), .val (.ref b_107), .unset] [(.int (0 : Int32)), (.ref b_107)])) _
          refine X_243.laload hx (j := (0 : Int32)) (v := (.long (q1 - q3))) Ar_245.1 (State.isArrayOf_alike hZ.alike Ar_245.2.1) Ar_245.2.2 hin_245 hat_245 (g := (mkF m 258 #[.val (.long q1), .second, .val (.long q2), .second, .val (.long q3), .second, .val (.long q4), .second, .val (.long q5), .second, .val (.int p6), .val (.int (p6 &&& (3 : Int32))), .val (.ref b_107), .val (.ref b_119), .val (.ref b_132), .val (.ref b_146), .val (.ref b_161), .val (.ref b_177), .val (.ref b_161), .val (.ref b_119), .val (.ref b_107), .unset] [(.int (0 : Int32)), (.ref b_107)])) rfl rfl (hb hby at_258) _ ?_
          show Steps p.tables e below (T_243.setTop (mkF m 259 #[.val (.long q1), .second, .val (.long q2), .second, .val (.long q3), .second, .val (.long q4), .second, .val (.long q5), .second, .val (.int p6), .val (.int (p6 &&& (3 : Int32))), .val (.ref b_107), .val (.ref b_119), .val (.ref b_132), .val (.ref b_146), .val (.ref b_161), .val (.ref b_177), .val (.ref b_161), .val (.ref b_119), .val (.ref b_107), .unset] [(.long (q1 - q3))])) _
          refine XS.aload X_243.here hx rfl (hb hby at_259) rfl rfl ?_
          show Steps p.tables e below (T_243.setTop (mkF m 261 #[.val (.long q1), .second, .val (.long q2), .second, .val (.long q3), .second, .val (.long q4), .second, .val (.long q5), .second, .val (.int p6), .val (.int (p6 &&& (3 : Int32))), .val (.ref b_107), .val (.ref b_119), .val (.ref b_132), .val (.ref b_146), .val (.ref b_161), .val (.ref b_177), .val (.ref b_161), .val (.ref b_119), .val (.ref b_107), .unset] [(.ref b_161), (.long (q1 - q3))])) _
          refine XS.iconst X_243.here hx rfl (hb hby at_261) ?_
          show Steps p.tables e below (T_243.setTop (mkF m 262 #[.val (.long q1), .second, .val (.long q2), .second, .val (.long q3), .second, .val (.long q4), .second, .val (.long q5), .second, .val (.int p6), .val (.int (p6 &&& (3 : Int32))), .val (.ref b_107), .val (.ref b_119), .val (.ref b_132), .val (.ref b_146), .val (.ref b_161), .val (.ref b_177), .val (.ref b_161), .val (.ref b_119), .val (.ref b_107), .unset] [(.int (0 : Int32)), (.ref b_161), (.long (q1 - q3))])) _
          refine X_243.laload hx (j := (0 : Int32)) (v := (.long q3)) Ar_247.1 (State.isArrayOf_alike hZ.alike Ar_247.2.1) Ar_247.2.2 hin_247 hat_247 (g := (mkF m 262 #[.val (.long q1), .second, .val (.long q2), .second, .val (.long q3), .second, .val (.long q4), .second, .val (.long q5), .second, .val (.int p6), .val (.int (p6 &&& (3 : Int32))), .val (.ref b_107), .val (.ref b_119), .val (.ref b_132), .val (.ref b_146), .val (.ref b_161), .val (.ref b_177), .val (.ref b_161), .val (.ref b_119), .val (.ref b_107), .unset] [(.int (0 : Int32)), (.ref b_161), (.long (q1 - q3))])) rfl rfl (hb hby at_262) _ ?_
          show Steps p.tables e below (T_243.setTop (mkF m 263 #[.val (.long q1), .second, .val (.long q2), .second, .val (.long q3), .second, .val (.long q4), .second, .val (.long q5), .second, .val (.int p6), .val (.int (p6 &&& (3 : Int32))), .val (.ref b_107), .val (.ref b_119), .val (.ref b_132), .val (.ref b_146), .val (.ref b_161), .val (.ref b_177), .val (.ref b_161), .val (.ref b_119), .val (.ref b_107), .unset] [(.long q3), (.long (q1 - q3))])) _
          refine XS.ladd X_243.here hx rfl (hb hby at_263) rfl ?_
          show Steps p.tables e below (T_243.setTop (mkF m 264 #[.val (.long q1), .second, .val (.long q2), .second, .val (.long q3), .second, .val (.long q4), .second, .val (.long q5), .second, .val (.int p6), .val (.int (p6 &&& (3 : Int32))), .val (.ref b_107), .val (.ref b_119), .val (.ref b_132), .val (.ref b_146), .val (.ref b_161), .val (.ref b_177), .val (.ref b_161), .val (.ref b_119), .val (.ref b_107), .unset] [(.long ((q1 - q3) + q3))])) _
          refine XS.aload X_243.here hx rfl (hb hby at_264) rfl rfl ?_
          show Steps p.tables e below (T_243.setTop (mkF m 266 #[.val (.long q1), .second, .val (.long q2), .second, .val (.long q3), .second, .val (.long q4), .second, .val (.long q5), .second, .val (.int p6), .val (.int (p6 &&& (3 : Int32))), .val (.ref b_107), .val (.ref b_119), .val (.ref b_132), .val (.ref b_146), .val (.ref b_161), .val (.ref b_177), .val (.ref b_161), .val (.ref b_119), .val (.ref b_107), .unset] [(.ref b_146), (.long ((q1 - q3) + q3))])) _
          refine XS.iconst X_243.here hx rfl (hb hby at_266) ?_
          show Steps p.tables e below (T_243.setTop (mkF m 267 #[.val (.long q1), .second, .val (.long q2), .second, .val (.long q3), .second, .val (.long q4), .second, .val (.long q5), .second, .val (.int p6), .val (.int (p6 &&& (3 : Int32))), .val (.ref b_107), .val (.ref b_119), .val (.ref b_132), .val (.ref b_146), .val (.ref b_161), .val (.ref b_177), .val (.ref b_161), .val (.ref b_119), .val (.ref b_107), .unset] [(.int (0 : Int32)), (.ref b_146), (.long ((q1 - q3) + q3))])) _
          refine X_243.laload hx (j := (0 : Int32)) (v := (.long q1)) Ar_249.1 (State.isArrayOf_alike hZ.alike Ar_249.2.1) Ar_249.2.2 hin_249 hat_249 (g := (mkF m 267 #[.val (.long q1), .second, .val (.long q2), .second, .val (.long q3), .second, .val (.long q4), .second, .val (.long q5), .second, .val (.int p6), .val (.int (p6 &&& (3 : Int32))), .val (.ref b_107), .val (.ref b_119), .val (.ref b_132), .val (.ref b_146), .val (.ref b_161), .val (.ref b_177), .val (.ref b_161), .val (.ref b_119), .val (.ref b_107), .unset] [(.int (0 : Int32)), (.ref b_146), (.long ((q1 - q3) + q3))])) rfl rfl (hb hby at_267) _ ?_
          show Steps p.tables e below (T_243.setTop (mkF m 268 #[.val (.long q1), .second, .val (.long q2), .second, .val (.long q3), .second, .val (.long q4), .second, .val (.long q5), .second, .val (.int p6), .val (.int (p6 &&& (3 : Int32))), .val (.ref b_107), .val (.ref b_119), .val (.ref b_132), .val (.ref b_146), .val (.ref b_161), .val (.ref b_177), .val (.ref b_161), .val (.ref b_119), .val (.ref b_107), .unset] [(.long q1), (.long ((q1 - q3) + q3))])) _
          refine XS.lcmp X_243.here hx rfl (hb hby at_268) rfl ?_
          show Steps p.tables e below (T_243.setTop (mkF m 269 #[.val (.long q1), .second, .val (.long q2), .second, .val (.long q3), .second, .val (.long q4), .second, .val (.long q5), .second, .val (.int p6), .val (.int (p6 &&& (3 : Int32))), .val (.ref b_107), .val (.ref b_119), .val (.ref b_132), .val (.ref b_146), .val (.ref b_161), .val (.ref b_177), .val (.ref b_161), .val (.ref b_119), .val (.ref b_107), .unset] [(.int (lcmpW ((q1 - q3) + q3) q1))])) _
          refine XS.ifNo X_243.here hx rfl (hb hby at_269) rfl ((if0 _ _).trans (teq ((lw_eq _ _).mpr (Int64.sub_add_cancel _ _ : ((q1 - q3) + q3) = q1))).2) ?_
          show Steps p.tables e below (T_243.setTop (mkF m 272 #[.val (.long q1), .second, .val (.long q2), .second, .val (.long q3), .second, .val (.long q4), .second, .val (.long q5), .second, .val (.int p6), .val (.int (p6 &&& (3 : Int32))), .val (.ref b_107), .val (.ref b_119), .val (.ref b_132), .val (.ref b_146), .val (.ref b_161), .val (.ref b_177), .val (.ref b_161), .val (.ref b_119), .val (.ref b_107), .unset] [])) _
          refine XS.aload X_243.here hx rfl (hb hby at_272) rfl rfl ?_
          show Steps p.tables e below (T_243.setTop (mkF m 274 #[.val (.long q1), .second, .val (.long q2), .second, .val (.long q3), .second, .val (.long q4), .second, .val (.long q5), .second, .val (.int p6), .val (.int (p6 &&& (3 : Int32))), .val (.ref b_107), .val (.ref b_119), .val (.ref b_132), .val (.ref b_146), .val (.ref b_161), .val (.ref b_177), .val (.ref b_161), .val (.ref b_119), .val (.ref b_107), .unset] [(.ref b_107)])) _
          refine XS.iconst X_243.here hx rfl (hb hby at_274) ?_
          show Steps p.tables e below (T_243.setTop (mkF m 275 #[.val (.long q1), .second, .val (.long q2), .second, .val (.long q3), .second, .val (.long q4), .second, .val (.long q5), .second, .val (.int p6), .val (.int (p6 &&& (3 : Int32))), .val (.ref b_107), .val (.ref b_119), .val (.ref b_132), .val (.ref b_146), .val (.ref b_161), .val (.ref b_177), .val (.ref b_161), .val (.ref b_119), .val (.ref b_107), .unset] [(.int (1 : Int32)), (.ref b_107)])) _
          refine X_243.laload hx (j := (1 : Int32)) (v := (.long (q2 - q5))) Ar_250.1 (State.isArrayOf_alike hZ.alike Ar_250.2.1) Ar_250.2.2 hin_250 hat_250 (g := (mkF m 275 #[.val (.long q1), .second, .val (.long q2), .second, .val (.long q3), .second, .val (.long q4), .second, .val (.long q5), .second, .val (.int p6), .val (.int (p6 &&& (3 : Int32))), .val (.ref b_107), .val (.ref b_119), .val (.ref b_132), .val (.ref b_146), .val (.ref b_161), .val (.ref b_177), .val (.ref b_161), .val (.ref b_119), .val (.ref b_107), .unset] [(.int (1 : Int32)), (.ref b_107)])) rfl rfl (hb hby at_275) _ ?_
          show Steps p.tables e below (T_243.setTop (mkF m 276 #[.val (.long q1), .second, .val (.long q2), .second, .val (.long q3), .second, .val (.long q4), .second, .val (.long q5), .second, .val (.int p6), .val (.int (p6 &&& (3 : Int32))), .val (.ref b_107), .val (.ref b_119), .val (.ref b_132), .val (.ref b_146), .val (.ref b_161), .val (.ref b_177), .val (.ref b_161), .val (.ref b_119), .val (.ref b_107), .unset] [(.long (q2 - q5))])) _
          refine XS.aload X_243.here hx rfl (hb hby at_276) rfl rfl ?_
          show Steps p.tables e below (T_243.setTop (mkF m 278 #[.val (.long q1), .second, .val (.long q2), .second, .val (.long q3), .second, .val (.long q4), .second, .val (.long q5), .second, .val (.int p6), .val (.int (p6 &&& (3 : Int32))), .val (.ref b_107), .val (.ref b_119), .val (.ref b_132), .val (.ref b_146), .val (.ref b_161), .val (.ref b_177), .val (.ref b_161), .val (.ref b_119), .val (.ref b_107), .unset] [(.ref b_161), (.long (q2 - q5))])) _
          refine XS.iconst X_243.here hx rfl (hb hby at_278) ?_
          show Steps p.tables e below (T_243.setTop (mkF m 279 #[.val (.long q1), .second, .val (.long q2), .second, .val (.long q3), .second, .val (.long q4), .second, .val (.long q5), .second, .val (.int p6), .val (.int (p6 &&& (3 : Int32))), .val (.ref b_107), .val (.ref b_119), .val (.ref b_132), .val (.ref b_146), .val (.ref b_161), .val (.ref b_177), .val (.ref b_161), .val (.ref b_119), .val (.ref b_107), .unset] [(.int (1 : Int32)), (.ref b_161), (.long (q2 - q5))])) _
          refine X_243.laload hx (j := (1 : Int32)) (v := (.long q5)) Ar_251.1 (State.isArrayOf_alike hZ.alike Ar_251.2.1) Ar_251.2.2 hin_251 hat_251 (g := (mkF m 279 #[.val (.long q1), .second, .val (.long q2), .second, .val (.long q3), .second, .val (.long q4), .second, .val (.long q5), .second, .val (.int p6), .val (.int (p6 &&& (3 : Int32))), .val (.ref b_107), .val (.ref b_119), .val (.ref b_132), .val (.ref b_146), .val (.ref b_161), .val (.ref b_177), .val (.ref b_161), .val (.ref b_119), .val (.ref b_107), .unset] [(.int (1 : Int32)), (.ref b_161), (.long (q2 - q5))])) rfl rfl (hb hby at_279) _ ?_
          show Steps p.tables e below (T_243.setTop (mkF m 280 #[.val (.long q1), .second, .val (.long q2), .second, .val (.long q3), .second, .val (.long q4), .second, .val (.long q5), .second, .val (.int p6), .val (.int (p6 &&& (3 : Int32))), .val (.ref b_107), .val (.ref b_119), .val (.ref b_132), .val (.ref b_146), .val (.ref b_161), .val (.ref b_177), .val (.ref b_161), .val (.ref b_119), .val (.ref b_107), .unset] [(.long q5), (.long (q2 - q5))])) _
          refine XS.ladd X_243.here hx rfl (hb hby at_280) rfl ?_
          show Steps p.tables e below (T_243.setTop (mkF m 281 #[.val (.long q1), .second, .val (.long q2), .second, .val (.long q3), .second, .val (.long q4), .second, .val (.long q5), .second, .val (.int p6), .val (.int (p6 &&& (3 : Int32))), .val (.ref b_107), .val (.ref b_119), .val (.ref b_132), .val (.ref b_146), .val (.ref b_161), .val (.ref b_177), .val (.ref b_161), .val (.ref b_119), .val (.ref b_107), .unset] [(.long ((q2 - q5) + q5))])) _
          refine XS.aload X_243.here hx rfl (hb hby at_281) rfl rfl ?_
          show Steps p.tables e below (T_243.setTop (mkF m 283 #[.val (.long q1), .second, .val (.long q2), .second, .val (.long q3), .second, .val (.long q4), .second, .val (.long q5), .second, .val (.int p6), .val (.int (p6 &&& (3 : Int32))), .val (.ref b_107), .val (.ref b_119), .val (.ref b_132), .val (.ref b_146), .val (.ref b_161), .val (.ref b_177), .val (.ref b_161), .val (.ref b_119), .val (.ref b_107), .unset] [(.ref b_146), (.long ((q2 - q5) + q5))])) _
          refine XS.iconst X_243.here hx rfl (hb hby at_283) ?_
          show Steps p.tables e below (T_243.setTop (mkF m 284 #[.val (.long q1), .second, .val (.long q2), .second, .val (.long q3), .second, .val (.long q4), .second, .val (.long q5), .second, .val (.int p6), .val (.int (p6 &&& (3 : Int32))), .val (.ref b_107), .val (.ref b_119), .val (.ref b_132), .val (.ref b_146), .val (.ref b_161), .val (.ref b_177), .val (.ref b_161), .val (.ref b_119), .val (.ref b_107), .unset] [(.int (1 : Int32)), (.ref b_146), (.long ((q2 - q5) + q5))])) _
          refine X_243.laload hx (j := (1 : Int32)) (v := (.long q2)) Ar_252.1 (State.isArrayOf_alike hZ.alike Ar_252.2.1) Ar_252.2.2 hin_252 hat_252 (g := (mkF m 284 #[.val (.long q1), .second, .val (.long q2), .second, .val (.long q3), .second, .val (.long q4), .second, .val (.long q5), .second, .val (.int p6), .val (.int (p6 &&& (3 : Int32))), .val (.ref b_107), .val (.ref b_119), .val (.ref b_132), .val (.ref b_146), .val (.ref b_161), .val (.ref b_177), .val (.ref b_161), .val (.ref b_119), .val (.ref b_107), .unset] [(.int (1 : Int32)), (.ref b_146), (.long ((q2 - q5) + q5))])) rfl rfl (hb hby at_284) _ ?_
          show Steps p.tables e below (T_243.setTop (mkF m 285 #[.val (.long q1), .second, .val (.long q2), .second, .val (.long q3), .second, .val (.long q4), .second, .val (.long q5), .second, .val (.int p6), .val (.int (p6 &&& (3 : Int32))), .val (.ref b_107), .val (.ref b_119), .val (.ref b_132), .val (.ref b_146), .val (.ref b_161), .val (.ref b_177), .val (.ref b_161), .val (.ref b_119), .val (.ref b_107), .unset] [(.long q2), (.long ((q2 - q5) + q5))])) _
          refine XS.lcmp X_243.here hx rfl (hb hby at_285) rfl ?_
          show Steps p.tables e below (T_243.setTop (mkF m 286 #[.val (.long q1), .second, .val (.long q2), .second, .val (.long q3), .second, .val (.long q4), .second, .val (.long q5), .second, .val (.int p6), .val (.int (p6 &&& (3 : Int32))), .val (.ref b_107), .val (.ref b_119), .val (.ref b_132), .val (.ref b_146), .val (.ref b_161), .val (.ref b_177), .val (.ref b_161), .val (.ref b_119), .val (.ref b_107), .unset] [(.int (lcmpW ((q2 - q5) + q5) q2))])) _
          refine XS.ifNo X_243.here hx rfl (hb hby at_286) rfl ((if0 _ _).trans (teq ((lw_eq _ _).mpr (Int64.sub_add_cancel _ _ : ((q2 - q5) + q5) = q2))).2) ?_
          show Steps p.tables e below (T_243.setTop (mkF m 289 #[.val (.long q1), .second, .val (.long q2), .second, .val (.long q3), .second, .val (.long q4), .second, .val (.long q5), .second, .val (.int p6), .val (.int (p6 &&& (3 : Int32))), .val (.ref b_107), .val (.ref b_119), .val (.ref b_132), .val (.ref b_146), .val (.ref b_161), .val (.ref b_177), .val (.ref b_161), .val (.ref b_119), .val (.ref b_107), .unset] [])) _
          refine XS.aload X_243.here hx rfl (hb hby at_289) rfl rfl ?_
          show Steps p.tables e below (T_243.setTop (mkF m 291 #[.val (.long q1), .second, .val (.long q2), .second, .val (.long q3), .second, .val (.long q4), .second, .val (.long q5), .second, .val (.int p6), .val (.int (p6 &&& (3 : Int32))), .val (.ref b_107), .val (.ref b_119), .val (.ref b_132), .val (.ref b_146), .val (.ref b_161), .val (.ref b_177), .val (.ref b_161), .val (.ref b_119), .val (.ref b_107), .unset] [(.ref b_107)])) _
          refine XS.iconst X_243.here hx rfl (hb hby at_291) ?_
          show Steps p.tables e below (T_243.setTop (mkF m 292 #[.val (.long q1), .second, .val (.long q2), .second, .val (.long q3), .second, .val (.long q4), .second, .val (.long q5), .second, .val (.int p6), .val (.int (p6 &&& (3 : Int32))), .val (.ref b_107), .val (.ref b_119), .val (.ref b_132), .val (.ref b_146), .val (.ref b_161), .val (.ref b_177), .val (.ref b_161), .val (.ref b_119), .val (.ref b_107), .unset] [(.int (2 : Int32)), (.ref b_107)])) _
          refine X_243.laload hx (j := (2 : Int32)) (v := (.long (q3 - q1))) Ar_253.1 (State.isArrayOf_alike hZ.alike Ar_253.2.1) Ar_253.2.2 hin_253 hat_253 (g := (mkF m 292 #[.val (.long q1), .second, .val (.long q2), .second, .val (.long q3), .second, .val (.long q4), .second, .val (.long q5), .second, .val (.int p6), .val (.int (p6 &&& (3 : Int32))), .val (.ref b_107), .val (.ref b_119), .val (.ref b_132), .val (.ref b_146), .val (.ref b_161), .val (.ref b_177), .val (.ref b_161), .val (.ref b_119), .val (.ref b_107), .unset] [(.int (2 : Int32)), (.ref b_107)])) rfl rfl (hb hby at_292) _ ?_
          show Steps p.tables e below (T_243.setTop (mkF m 293 #[.val (.long q1), .second, .val (.long q2), .second, .val (.long q3), .second, .val (.long q4), .second, .val (.long q5), .second, .val (.int p6), .val (.int (p6 &&& (3 : Int32))), .val (.ref b_107), .val (.ref b_119), .val (.ref b_132), .val (.ref b_146), .val (.ref b_161), .val (.ref b_177), .val (.ref b_161), .val (.ref b_119), .val (.ref b_107), .unset] [(.long (q3 - q1))])) _
          refine XS.aload X_243.here hx rfl (hb hby at_293) rfl rfl ?_
          show Steps p.tables e below (T_243.setTop (mkF m 295 #[.val (.long q1), .second, .val (.long q2), .second, .val (.long q3), .second, .val (.long q4), .second, .val (.long q5), .second, .val (.int p6), .val (.int (p6 &&& (3 : Int32))), .val (.ref b_107), .val (.ref b_119), .val (.ref b_132), .val (.ref b_146), .val (.ref b_161), .val (.ref b_177), .val (.ref b_161), .val (.ref b_119), .val (.ref b_107), .unset] [(.ref b_161), (.long (q3 - q1))])) _
          refine XS.iconst X_243.here hx rfl (hb hby at_295) ?_
          show Steps p.tables e below (T_243.setTop (mkF m 296 #[.val (.long q1), .second, .val (.long q2), .second, .val (.long q3), .second, .val (.long q4), .second, .val (.long q5), .second, .val (.int p6), .val (.int (p6 &&& (3 : Int32))), .val (.ref b_107), .val (.ref b_119), .val (.ref b_132), .val (.ref b_146), .val (.ref b_161), .val (.ref b_177), .val (.ref b_161), .val (.ref b_119), .val (.ref b_107), .unset] [(.int (2 : Int32)), (.ref b_161), (.long (q3 - q1))])) _
          refine X_243.laload hx (j := (2 : Int32)) (v := (.long q1)) Ar_254.1 (State.isArrayOf_alike hZ.alike Ar_254.2.1) Ar_254.2.2 hin_254 hat_254 (g := (mkF m 296 #[.val (.long q1), .second, .val (.long q2), .second, .val (.long q3), .second, .val (.long q4), .second, .val (.long q5), .second, .val (.int p6), .val (.int (p6 &&& (3 : Int32))), .val (.ref b_107), .val (.ref b_119), .val (.ref b_132), .val (.ref b_146), .val (.ref b_161), .val (.ref b_177), .val (.ref b_161), .val (.ref b_119), .val (.ref b_107), .unset] [(.int (2 : Int32)), (.ref b_161), (.long (q3 - q1))])) rfl rfl (hb hby at_296) _ ?_
          show Steps p.tables e below (T_243.setTop (mkF m 297 #[.val (.long q1), .second, .val (.long q2), .second, .val (.long q3), .second, .val (.long q4), .second, .val (.long q5), .second, .val (.int p6), .val (.int (p6 &&& (3 : Int32))), .val (.ref b_107), .val (.ref b_119), .val (.ref b_132), .val (.ref b_146), .val (.ref b_161), .val (.ref b_177), .val (.ref b_161), .val (.ref b_119), .val (.ref b_107), .unset] [(.long q1), (.long (q3 - q1))])) _
          refine XS.ladd X_243.here hx rfl (hb hby at_297) rfl ?_
          show Steps p.tables e below (T_243.setTop (mkF m 298 #[.val (.long q1), .second, .val (.long q2), .second, .val (.long q3), .second, .val (.long q4), .second, .val (.long q5), .second, .val (.int p6), .val (.int (p6 &&& (3 : Int32))), .val (.ref b_107), .val (.ref b_119), .val (.ref b_132), .val (.ref b_146), .val (.ref b_161), .val (.ref b_177), .val (.ref b_161), .val (.ref b_119), .val (.ref b_107), .unset] [(.long ((q3 - q1) + q1))])) _
          refine XS.aload X_243.here hx rfl (hb hby at_298) rfl rfl ?_
          show Steps p.tables e below (T_243.setTop (mkF m 300 #[.val (.long q1), .second, .val (.long q2), .second, .val (.long q3), .second, .val (.long q4), .second, .val (.long q5), .second, .val (.int p6), .val (.int (p6 &&& (3 : Int32))), .val (.ref b_107), .val (.ref b_119), .val (.ref b_132), .val (.ref b_146), .val (.ref b_161), .val (.ref b_177), .val (.ref b_161), .val (.ref b_119), .val (.ref b_107), .unset] [(.ref b_146), (.long ((q3 - q1) + q1))])) _
          refine XS.iconst X_243.here hx rfl (hb hby at_300) ?_
          show Steps p.tables e below (T_243.setTop (mkF m 301 #[.val (.long q1), .second, .val (.long q2), .second, .val (.long q3), .second, .val (.long q4), .second, .val (.long q5), .second, .val (.int p6), .val (.int (p6 &&& (3 : Int32))), .val (.ref b_107), .val (.ref b_119), .val (.ref b_132), .val (.ref b_146), .val (.ref b_161), .val (.ref b_177), .val (.ref b_161), .val (.ref b_119), .val (.ref b_107), .unset] [(.int (2 : Int32)), (.ref b_146), (.long ((q3 - q1) + q1))])) _
          refine X_243.laload hx (j := (2 : Int32)) (v := (.long q3)) Ar_255.1 (State.isArrayOf_alike hZ.alike Ar_255.2.1) Ar_255.2.2 hin_255 hat_255 (g := (mkF m 301 #[.val (.long q1), .second, .val (.long q2), .second, .val (.long q3), .second, .val (.long q4), .second, .val (.long q5), .second, .val (.int p6), .val (.int (p6 &&& (3 : Int32))), .val (.ref b_107), .val (.ref b_119), .val (.ref b_132), .val (.ref b_146), .val (.ref b_161), .val (.ref b_177), .val (.ref b_161), .val (.ref b_119), .val (.ref b_107), .unset] [(.int (2 : Int32)), (.ref b_146), (.long ((q3 - q1) + q1))])) rfl rfl (hb hby at_301) _ ?_
          show Steps p.tables e below (T_243.setTop (mkF m 302 #[.val (.long q1), .second, .val (.long q2), .second, .val (.long q3), .second, .val (.long q4), .second, .val (.long q5), .second, .val (.int p6), .val (.int (p6 &&& (3 : Int32))), .val (.ref b_107), .val (.ref b_119), .val (.ref b_132), .val (.ref b_146), .val (.ref b_161), .val (.ref b_177), .val (.ref b_161), .val (.ref b_119), .val (.ref b_107), .unset] [(.long q3), (.long ((q3 - q1) + q1))])) _
          refine XS.lcmp X_243.here hx rfl (hb hby at_302) rfl ?_
          show Steps p.tables e below (T_243.setTop (mkF m 303 #[.val (.long q1), .second, .val (.long q2), .second, .val (.long q3), .second, .val (.long q4), .second, .val (.long q5), .second, .val (.int p6), .val (.int (p6 &&& (3 : Int32))), .val (.ref b_107), .val (.ref b_119), .val (.ref b_132), .val (.ref b_146), .val (.ref b_161), .val (.ref b_177), .val (.ref b_161), .val (.ref b_119), .val (.ref b_107), .unset] [(.int (lcmpW ((q3 - q1) + q1) q3))])) _
          refine XS.ifNo X_243.here hx rfl (hb hby at_303) rfl ((if0 _ _).trans (teq ((lw_eq _ _).mpr (Int64.sub_add_cancel _ _ : ((q3 - q1) + q1) = q3))).2) ?_
          show Steps p.tables e below (T_243.setTop (mkF m 306 #[.val (.long q1), .second, .val (.long q2), .second, .val (.long q3), .second, .val (.long q4), .second, .val (.long q5), .second, .val (.int p6), .val (.int (p6 &&& (3 : Int32))), .val (.ref b_107), .val (.ref b_119), .val (.ref b_132), .val (.ref b_146), .val (.ref b_161), .val (.ref b_177), .val (.ref b_161), .val (.ref b_119), .val (.ref b_107), .unset] [])) _
          refine XS.aload X_243.here hx rfl (hb hby at_306) rfl rfl ?_
          show Steps p.tables e below (T_243.setTop (mkF m 308 #[.val (.long q1), .second, .val (.long q2), .second, .val (.long q3), .second, .val (.long q4), .second, .val (.long q5), .second, .val (.int p6), .val (.int (p6 &&& (3 : Int32))), .val (.ref b_107), .val (.ref b_119), .val (.ref b_132), .val (.ref b_146), .val (.ref b_161), .val (.ref b_177), .val (.ref b_161), .val (.ref b_119), .val (.ref b_107), .unset] [(.ref b_107)])) _
          refine XS.iconst X_243.here hx rfl (hb hby at_308) ?_
          show Steps p.tables e below (T_243.setTop (mkF m 309 #[.val (.long q1), .second, .val (.long q2), .second, .val (.long q3), .second, .val (.long q4), .second, .val (.long q5), .second, .val (.int p6), .val (.int (p6 &&& (3 : Int32))), .val (.ref b_107), .val (.ref b_119), .val (.ref b_132), .val (.ref b_146), .val (.ref b_161), .val (.ref b_177), .val (.ref b_161), .val (.ref b_119), .val (.ref b_107), .unset] [(.int (3 : Int32)), (.ref b_107)])) _
          refine X_243.laload hx (j := (3 : Int32)) (v := (.long (q4 - q2))) Ar_256.1 (State.isArrayOf_alike hZ.alike Ar_256.2.1) Ar_256.2.2 hin_256 hat_256 (g := (mkF m 309 #[.val (.long q1), .second, .val (.long q2), .second, .val (.long q3), .second, .val (.long q4), .second, .val (.long q5), .second, .val (.int p6), .val (.int (p6 &&& (3 : Int32))), .val (.ref b_107), .val (.ref b_119), .val (.ref b_132), .val (.ref b_146), .val (.ref b_161), .val (.ref b_177), .val (.ref b_161), .val (.ref b_119), .val (.ref b_107), .unset] [(.int (3 : Int32)), (.ref b_107)])) rfl rfl (hb hby at_309) _ ?_
          show Steps p.tables e below (T_243.setTop (mkF m 310 #[.val (.long q1), .second, .val (.long q2), .second, .val (.long q3), .second, .val (.long q4), .second, .val (.long q5), .second, .val (.int p6), .val (.int (p6 &&& (3 : Int32))), .val (.ref b_107), .val (.ref b_119), .val (.ref b_132), .val (.ref b_146), .val (.ref b_161), .val (.ref b_177), .val (.ref b_161), .val (.ref b_119), .val (.ref b_107), .unset] [(.long (q4 - q2))])) _
          refine XS.aload X_243.here hx rfl (hb hby at_310) rfl rfl ?_
          show Steps p.tables e below (T_243.setTop (mkF m 312 #[.val (.long q1), .second, .val (.long q2), .second, .val (.long q3), .second, .val (.long q4), .second, .val (.long q5), .second, .val (.int p6), .val (.int (p6 &&& (3 : Int32))), .val (.ref b_107), .val (.ref b_119), .val (.ref b_132), .val (.ref b_146), .val (.ref b_161), .val (.ref b_177), .val (.ref b_161), .val (.ref b_119), .val (.ref b_107), .unset] [(.ref b_161), (.long (q4 - q2))])) _
          refine XS.iconst X_243.here hx rfl (hb hby at_312) ?_
          show Steps p.tables e below (T_243.setTop (mkF m 313 #[.val (.long q1), .second, .val (.long q2), .second, .val (.long q3), .second, .val (.long q4), .second, .val (.long q5), .second, .val (.int p6), .val (.int (p6 &&& (3 : Int32))), .val (.ref b_107), .val (.ref b_119), .val (.ref b_132), .val (.ref b_146), .val (.ref b_161), .val (.ref b_177), .val (.ref b_161), .val (.ref b_119), .val (.ref b_107), .unset] [(.int (3 : Int32)), (.ref b_161), (.long (q4 - q2))])) _
          refine X_243.laload hx (j := (3 : Int32)) (v := (.long q2)) Ar_257.1 (State.isArrayOf_alike hZ.alike Ar_257.2.1) Ar_257.2.2 hin_257 hat_257 (g := (mkF m 313 #[.val (.long q1), .second, .val (.long q2), .second, .val (.long q3), .second, .val (.long q4), .second, .val (.long q5), .second, .val (.int p6), .val (.int (p6 &&& (3 : Int32))), .val (.ref b_107), .val (.ref b_119), .val (.ref b_132), .val (.ref b_146), .val (.ref b_161), .val (.ref b_177), .val (.ref b_161), .val (.ref b_119), .val (.ref b_107), .unset] [(.int (3 : Int32)), (.ref b_161), (.long (q4 - q2))])) rfl rfl (hb hby at_313) _ ?_
          show Steps p.tables e below (T_243.setTop (mkF m 314 #[.val (.long q1), .second, .val (.long q2), .second, .val (.long q3), .second, .val (.long q4), .second, .val (.long q5), .second, .val (.int p6), .val (.int (p6 &&& (3 : Int32))), .val (.ref b_107), .val (.ref b_119), .val (.ref b_132), .val (.ref b_146), .val (.ref b_161), .val (.ref b_177), .val (.ref b_161), .val (.ref b_119), .val (.ref b_107), .unset] [(.long q2), (.long (q4 - q2))])) _
          refine XS.ladd X_243.here hx rfl (hb hby at_314) rfl ?_
          show Steps p.tables e below (T_243.setTop (mkF m 315 #[.val (.long q1), .second, .val (.long q2), .second, .val (.long q3), .second, .val (.long q4), .second, .val (.long q5), .second, .val (.int p6), .val (.int (p6 &&& (3 : Int32))), .val (.ref b_107), .val (.ref b_119), .val (.ref b_132), .val (.ref b_146), .val (.ref b_161), .val (.ref b_177), .val (.ref b_161), .val (.ref b_119), .val (.ref b_107), .unset] [(.long ((q4 - q2) + q2))])) _
          refine XS.aload X_243.here hx rfl (hb hby at_315) rfl rfl ?_
          show Steps p.tables e below (T_243.setTop (mkF m 317 #[.val (.long q1), .second, .val (.long q2), .second, .val (.long q3), .second, .val (.long q4), .second, .val (.long q5), .second, .val (.int p6), .val (.int (p6 &&& (3 : Int32))), .val (.ref b_107), .val (.ref b_119), .val (.ref b_132), .val (.ref b_146), .val (.ref b_161), .val (.ref b_177), .val (.ref b_161), .val (.ref b_119), .val (.ref b_107), .unset] [(.ref b_146), (.long ((q4 - q2) + q2))])) _
          refine XS.iconst X_243.here hx rfl (hb hby at_317) ?_
          show Steps p.tables e below (T_243.setTop (mkF m 318 #[.val (.long q1), .second, .val (.long q2), .second, .val (.long q3), .second, .val (.long q4), .second, .val (.long q5), .second, .val (.int p6), .val (.int (p6 &&& (3 : Int32))), .val (.ref b_107), .val (.ref b_119), .val (.ref b_132), .val (.ref b_146), .val (.ref b_161), .val (.ref b_177), .val (.ref b_161), .val (.ref b_119), .val (.ref b_107), .unset] [(.int (3 : Int32)), (.ref b_146), (.long ((q4 - q2) + q2))])) _
          refine X_243.laload hx (j := (3 : Int32)) (v := (.long q4)) Ar_258.1 (State.isArrayOf_alike hZ.alike Ar_258.2.1) Ar_258.2.2 hin_258 hat_258 (g := (mkF m 318 #[.val (.long q1), .second, .val (.long q2), .second, .val (.long q3), .second, .val (.long q4), .second, .val (.long q5), .second, .val (.int p6), .val (.int (p6 &&& (3 : Int32))), .val (.ref b_107), .val (.ref b_119), .val (.ref b_132), .val (.ref b_146), .val (.ref b_161), .val (.ref b_177), .val (.ref b_161), .val (.ref b_119), .val (.ref b_107), .unset] [(.int (3 : Int32)), (.ref b_146), (.long ((q4 - q2) + q2))])) rfl rfl (hb hby at_318) _ ?_
          show Steps p.tables e below (T_243.setTop (mkF m 319 #[.val (.long q1), .second, .val (.long q2), .second, .val (.long q3), .second, .val (.long q4), .second, .val (.long q5), .second, .val (.int p6), .val (.int (p6 &&& (3 : Int32))), .val (.ref b_107), .val (.ref b_119), .val (.ref b_132), .val (.ref b_146), .val (.ref b_161), .val (.ref b_177), .val (.ref b_161), .val (.ref b_119), .val (.ref b_107), .unset] [(.long q4), (.long ((q4 - q2) + q2))])) _
          refine XS.lcmp X_243.here hx rfl (hb hby at_319) rfl ?_
          show Steps p.tables e below (T_243.setTop (mkF m 320 #[.val (.long q1), .second, .val (.long q2), .second, .val (.long q3), .second, .val (.long q4), .second, .val (.long q5), .second, .val (.int p6), .val (.int (p6 &&& (3 : Int32))), .val (.ref b_107), .val (.ref b_119), .val (.ref b_132), .val (.ref b_146), .val (.ref b_161), .val (.ref b_177), .val (.ref b_161), .val (.ref b_119), .val (.ref b_107), .unset] [(.int (lcmpW ((q4 - q2) + q2) q4))])) _
          refine XS.ifNo X_243.here hx rfl (hb hby at_320) rfl ((if0 _ _).trans (teq ((lw_eq _ _).mpr (Int64.sub_add_cancel _ _ : ((q4 - q2) + q2) = q4))).2) ?_
          show Steps p.tables e below (T_243.setTop (mkF m 323 #[.val (.long q1), .second, .val (.long q2), .second, .val (.long q3), .second, .val (.long q4), .second, .val (.long q5), .second, .val (.int p6), .val (.int (p6 &&& (3 : Int32))), .val (.ref b_107), .val (.ref b_119), .val (.ref b_132), .val (.ref b_146), .val (.ref b_161), .val (.ref b_177), .val (.ref b_161), .val (.ref b_119), .val (.ref b_107), .unset] [])) _
          refine XS.aload X_243.here hx rfl (hb hby at_323) rfl rfl ?_
          show Steps p.tables e below (T_243.setTop (mkF m 325 #[.val (.long q1), .second, .val (.long q2), .second, .val (.long q3), .second, .val (.long q4), .second, .val (.long q5), .second, .val (.int p6), .val (.int (p6 &&& (3 : Int32))), .val (.ref b_107), .val (.ref b_119), .val (.ref b_132), .val (.ref b_146), .val (.ref b_161), .val (.ref b_177), .val (.ref b_161), .val (.ref b_119), .val (.ref b_107), .unset] [(.ref b_107)])) _
          refine XS.iconst X_243.here hx rfl (hb hby at_325) ?_
          show Steps p.tables e below (T_243.setTop (mkF m 326 #[.val (.long q1), .second, .val (.long q2), .second, .val (.long q3), .second, .val (.long q4), .second, .val (.long q5), .second, .val (.int p6), .val (.int (p6 &&& (3 : Int32))), .val (.ref b_107), .val (.ref b_119), .val (.ref b_132), .val (.ref b_146), .val (.ref b_161), .val (.ref b_177), .val (.ref b_161), .val (.ref b_119), .val (.ref b_107), .unset] [(.int (4 : Int32)), (.ref b_107)])) _
          refine X_243.laload hx (j := (4 : Int32)) (v := (.long (q5 - q4))) Ar_259.1 (State.isArrayOf_alike hZ.alike Ar_259.2.1) Ar_259.2.2 hin_259 hat_259 (g := (mkF m 326 #[.val (.long q1), .second, .val (.long q2), .second, .val (.long q3), .second, .val (.long q4), .second, .val (.long q5), .second, .val (.int p6), .val (.int (p6 &&& (3 : Int32))), .val (.ref b_107), .val (.ref b_119), .val (.ref b_132), .val (.ref b_146), .val (.ref b_161), .val (.ref b_177), .val (.ref b_161), .val (.ref b_119), .val (.ref b_107), .unset] [(.int (4 : Int32)), (.ref b_107)])) rfl rfl (hb hby at_326) _ ?_
          show Steps p.tables e below (T_243.setTop (mkF m 327 #[.val (.long q1), .second, .val (.long q2), .second, .val (.long q3), .second, .val (.long q4), .second, .val (.long q5), .second, .val (.int p6), .val (.int (p6 &&& (3 : Int32))), .val (.ref b_107), .val (.ref b_119), .val (.ref b_132), .val (.ref b_146), .val (.ref b_161), .val (.ref b_177), .val (.ref b_161), .val (.ref b_119), .val (.ref b_107), .unset] [(.long (q5 - q4))])) _
          refine XS.aload X_243.here hx rfl (hb hby at_327) rfl rfl ?_
          show Steps p.tables e below (T_243.setTop (mkF m 329 #[.val (.long q1), .second, .val (.long q2), .second, .val (.long q3), .second, .val (.long q4), .second, .val (.long q5), .second, .val (.int p6), .val (.int (p6 &&& (3 : Int32))), .val (.ref b_107), .val (.ref b_119), .val (.ref b_132), .val (.ref b_146), .val (.ref b_161), .val (.ref b_177), .val (.ref b_161), .val (.ref b_119), .val (.ref b_107), .unset] [(.ref b_161), (.long (q5 - q4))])) _
          refine XS.iconst X_243.here hx rfl (hb hby at_329) ?_
          show Steps p.tables e below (T_243.setTop (mkF m 330 #[.val (.long q1), .second, .val (.long q2), .second, .val (.long q3), .second, .val (.long q4), .second, .val (.long q5), .second, .val (.int p6), .val (.int (p6 &&& (3 : Int32))), .val (.ref b_107), .val (.ref b_119), .val (.ref b_132), .val (.ref b_146), .val (.ref b_161), .val (.ref b_177), .val (.ref b_161), .val (.ref b_119), .val (.ref b_107), .unset] [(.int (4 : Int32)), (.ref b_161), (.long (q5 - q4))])) _
          refine X_243.laload hx (j := (4 : Int32)) (v := (.long q4)) Ar_260.1 (State.isArrayOf_alike hZ.alike Ar_260.2.1) Ar_260.2.2 hin_260 hat_260 (g := (mkF m 330 #[.val (.long q1), .second, .val (.long q2), .second, .val (.long q3), .second, .val (.long q4), .second, .val (.long q5), .second, .val (.int p6), .val (.int (p6 &&& (3 : Int32))), .val (.ref b_107), .val (.ref b_119), .val (.ref b_132), .val (.ref b_146), .val (.ref b_161), .val (.ref b_177), .val (.ref b_161), .val (.ref b_119), .val (.ref b_107), .unset] [(.int (4 : Int32)), (.ref b_161), (.long (q5 - q4))])) rfl rfl (hb hby at_330) _ ?_
          show Steps p.tables e below (T_243.setTop (mkF m 331 #[.val (.long q1), .second, .val (.long q2), .second, .val (.long q3), .second, .val (.long q4), .second, .val (.long q5), .second, .val (.int p6), .val (.int (p6 &&& (3 : Int32))), .val (.ref b_107), .val (.ref b_119), .val (.ref b_132), .val (.ref b_146), .val (.ref b_161), .val (.ref b_177), .val (.ref b_161), .val (.ref b_119), .val (.ref b_107), .unset] [(.long q4), (.long (q5 - q4))])) _
          refine XS.ladd X_243.here hx rfl (hb hby at_331) rfl ?_
          show Steps p.tables e below (T_243.setTop (mkF m 332 #[.val (.long q1), .second, .val (.long q2), .second, .val (.long q3), .second, .val (.long q4), .second, .val (.long q5), .second, .val (.int p6), .val (.int (p6 &&& (3 : Int32))), .val (.ref b_107), .val (.ref b_119), .val (.ref b_132), .val (.ref b_146), .val (.ref b_161), .val (.ref b_177), .val (.ref b_161), .val (.ref b_119), .val (.ref b_107), .unset] [(.long ((q5 - q4) + q4))])) _
          refine XS.aload X_243.here hx rfl (hb hby at_332) rfl rfl ?_
          show Steps p.tables e below (T_243.setTop (mkF m 334 #[.val (.long q1), .second, .val (.long q2), .second, .val (.long q3), .second, .val (.long q4), .second, .val (.long q5), .second, .val (.int p6), .val (.int (p6 &&& (3 : Int32))), .val (.ref b_107), .val (.ref b_119), .val (.ref b_132), .val (.ref b_146), .val (.ref b_161), .val (.ref b_177), .val (.ref b_161), .val (.ref b_119), .val (.ref b_107), .unset] [(.ref b_146), (.long ((q5 - q4) + q4))])) _
          refine XS.iconst X_243.here hx rfl (hb hby at_334) ?_
          show Steps p.tables e below (T_243.setTop (mkF m 335 #[.val (.long q1), .second, .val (.long q2), .second, .val (.long q3), .second, .val (.long q4), .second, .val (.long q5), .second, .val (.int p6), .val (.int (p6 &&& (3 : Int32))), .val (.ref b_107), .val (.ref b_119), .val (.ref b_132), .val (.ref b_146), .val (.ref b_161), .val (.ref b_177), .val (.ref b_161), .val (.ref b_119), .val (.ref b_107), .unset] [(.int (4 : Int32)), (.ref b_146), (.long ((q5 - q4) + q4))])) _
          refine X_243.laload hx (j := (4 : Int32)) (v := (.long q5)) Ar_261.1 (State.isArrayOf_alike hZ.alike Ar_261.2.1) Ar_261.2.2 hin_261 hat_261 (g := (mkF m 335 #[.val (.long q1), .second, .val (.long q2), .second, .val (.long q3), .second, .val (.long q4), .second, .val (.long q5), .second, .val (.int p6), .val (.int (p6 &&& (3 : Int32))), .val (.ref b_107), .val (.ref b_119), .val (.ref b_132), .val (.ref b_146), .val (.ref b_161), .val (.ref b_177), .val (.ref b_161), .val (.ref b_119), .val (.ref b_107), .unset] [(.int (4 : Int32)), (.ref b_146), (.long ((q5 - q4) + q4))])) rfl rfl (hb hby at_335) _ ?_
          show Steps p.tables e below (T_243.setTop (mkF m 336 #[.val (.long q1), .second, .val (.long q2), .second, .val (.long q3), .second, .val (.long q4), .second, .val (.long q5), .second, .val (.int p6), .val (.int (p6 &&& (3 : Int32))), .val (.ref b_107), .val (.ref b_119), .val (.ref b_132), .val (.ref b_146), .val (.ref b_161), .val (.ref b_177), .val (.ref b_161), .val (.ref b_119), .val (.ref b_107), .unset] [(.long q5), (.long ((q5 - q4) + q4))])) _
          refine XS.lcmp X_243.here hx rfl (hb hby at_336) rfl ?_
          show Steps p.tables e below (T_243.setTop (mkF m 337 #[.val (.long q1), .second, .val (.long q2), .second, .val (.long q3), .second, .val (.long q4), .second, .val (.long q5), .second, .val (.int p6), .val (.int (p6 &&& (3 : Int32))), .val (.ref b_107), .val (.ref b_119), .val (.ref b_132), .val (.ref b_146), .val (.ref b_161), .val (.ref b_177), .val (.ref b_161), .val (.ref b_119), .val (.ref b_107), .unset] [(.int (lcmpW ((q5 - q4) + q4) q5))])) _
          refine XS.ifNo X_243.here hx rfl (hb hby at_337) rfl ((if0 _ _).trans (teq ((lw_eq _ _).mpr (Int64.sub_add_cancel _ _ : ((q5 - q4) + q4) = q5))).2) ?_
          show Steps p.tables e below (T_243.setTop (mkF m 340 #[.val (.long q1), .second, .val (.long q2), .second, .val (.long q3), .second, .val (.long q4), .second, .val (.long q5), .second, .val (.int p6), .val (.int (p6 &&& (3 : Int32))), .val (.ref b_107), .val (.ref b_119), .val (.ref b_132), .val (.ref b_146), .val (.ref b_161), .val (.ref b_177), .val (.ref b_161), .val (.ref b_119), .val (.ref b_107), .unset] [])) _
          refine XS.iconst X_243.here hx rfl (hb hby at_340) ?_
          show Steps p.tables e below (T_243.setTop (mkF m 341 #[.val (.long q1), .second, .val (.long q2), .second, .val (.long q3), .second, .val (.long q4), .second, .val (.long q5), .second, .val (.int p6), .val (.int (p6 &&& (3 : Int32))), .val (.ref b_107), .val (.ref b_119), .val (.ref b_132), .val (.ref b_146), .val (.ref b_161), .val (.ref b_177), .val (.ref b_161), .val (.ref b_119), .val (.ref b_107), .unset] [(.int (1 : Int32))])) _
          refine XS.goto X_243.here hx rfl (pc0 := 341) (pc' := 345) rfl (hb hby at_341) (by decide) (by decide) ?_
          show Steps p.tables e below (T_243.setTop (mkF m 345 #[.val (.long q1), .second, .val (.long q2), .second, .val (.long q3), .second, .val (.long q4), .second, .val (.long q5), .second, .val (.int p6), .val (.int (p6 &&& (3 : Int32))), .val (.ref b_107), .val (.ref b_119), .val (.ref b_132), .val (.ref b_146), .val (.ref b_161), .val (.ref b_177), .val (.ref b_161), .val (.ref b_119), .val (.ref b_107), .unset] [(.int (1 : Int32))])) _
          refine XS.istore X_243.here hx rfl (hb hby at_345) rfl (l' := #[.val (.long q1), .second, .val (.long q2), .second, .val (.long q3), .second, .val (.long q4), .second, .val (.long q5), .second, .val (.int p6), .val (.int (p6 &&& (3 : Int32))), .val (.ref b_107), .val (.ref b_119), .val (.ref b_132), .val (.ref b_146), .val (.ref b_161), .val (.ref b_177), .val (.ref b_161), .val (.ref b_119), .val (.ref b_107), .val (.int (1 : Int32))]) rfl ?_
          show Steps p.tables e below (T_243.setTop (mkF m 347 #[.val (.long q1), .second, .val (.long q2), .second, .val (.long q3), .second, .val (.long q4), .second, .val (.long q5), .second, .val (.int p6), .val (.int (p6 &&& (3 : Int32))), .val (.ref b_107), .val (.ref b_119), .val (.ref b_132), .val (.ref b_146), .val (.ref b_161), .val (.ref b_177), .val (.ref b_161), .val (.ref b_119), .val (.ref b_107), .val (.int (1 : Int32))] [])) _
          refine XS.iload X_243.here hx rfl (hb hby at_347) rfl ?_
          show Steps p.tables e below (T_243.setTop (mkF m 349 #[.val (.long q1), .second, .val (.long q2), .second, .val (.long q3), .second, .val (.long q4), .second, .val (.long q5), .second, .val (.int p6), .val (.int (p6 &&& (3 : Int32))), .val (.ref b_107), .val (.ref b_119), .val (.ref b_132), .val (.ref b_146), .val (.ref b_161), .val (.ref b_177), .val (.ref b_161), .val (.ref b_119), .val (.ref b_107), .val (.int (1 : Int32))] [(.int (p6 &&& (3 : Int32)))])) _
          refine XS.ifYes X_243.here hx rfl (pc0 := 349) (pc' := 387) rfl (hb hby at_349) rfl ((if0 _ _).trans (feq hc206__212).2) (by decide) (by decide) ?_
          show Steps p.tables e below (T_243.setTop (mkF m 387 #[.val (.long q1), .second, .val (.long q2), .second, .val (.long q3), .second, .val (.long q4), .second, .val (.long q5), .second, .val (.int p6), .val (.int (p6 &&& (3 : Int32))), .val (.ref b_107), .val (.ref b_119), .val (.ref b_132), .val (.ref b_146), .val (.ref b_161), .val (.ref b_177), .val (.ref b_161), .val (.ref b_119), .val (.ref b_107), .val (.int (1 : Int32))] [])) _
          refine XS.iload X_243.here hx rfl (hb hby at_387) rfl ?_
          show Steps p.tables e below (T_243.setTop (mkF m 389 #[.val (.long q1), .second, .val (.long q2), .second, .val (.long q3), .second, .val (.long q4), .second, .val (.long q5), .second, .val (.int p6), .val (.int (p6 &&& (3 : Int32))), .val (.ref b_107), .val (.ref b_119), .val (.ref b_132), .val (.ref b_146), .val (.ref b_161), .val (.ref b_177), .val (.ref b_161), .val (.ref b_119), .val (.ref b_107), .val (.int (1 : Int32))] [(.int (p6 &&& (3 : Int32)))])) _
          refine XS.iconst X_243.here hx rfl (hb hby at_389) ?_
          show Steps p.tables e below (T_243.setTop (mkF m 390 #[.val (.long q1), .second, .val (.long q2), .second, .val (.long q3), .second, .val (.long q4), .second, .val (.long q5), .second, .val (.int p6), .val (.int (p6 &&& (3 : Int32))), .val (.ref b_107), .val (.ref b_119), .val (.ref b_132), .val (.ref b_146), .val (.ref b_161), .val (.ref b_177), .val (.ref b_161), .val (.ref b_119), .val (.ref b_107), .val (.int (1 : Int32))] [(.int (1 : Int32)), (.int (p6 &&& (3 : Int32)))])) _
          refine XS.icmpNo X_243.here hx rfl (hb hby at_390) rfl (teq hc219__240).2 ?_
          show Steps p.tables e below (T_243.setTop (mkF m 393 #[.val (.long q1), .second, .val (.long q2), .second, .val (.long q3), .second, .val (.long q4), .second, .val (.long q5), .second, .val (.int p6), .val (.int (p6 &&& (3 : Int32))), .val (.ref b_107), .val (.ref b_119), .val (.ref b_132), .val (.ref b_146), .val (.ref b_161), .val (.ref b_177), .val (.ref b_161), .val (.ref b_119), .val (.ref b_107), .val (.int (1 : Int32))] [])) _
          refine XS.iload X_243.here hx rfl (hb hby at_393) rfl ?_
          show Steps p.tables e below (T_243.setTop (mkF m 395 #[.val (.long q1), .second, .val (.long q2), .second, .val (.long q3), .second, .val (.long q4), .second, .val (.long q5), .second, .val (.int p6), .val (.int (p6 &&& (3 : Int32))), .val (.ref b_107), .val (.ref b_119), .val (.ref b_132), .val (.ref b_146), .val (.ref b_161), .val (.ref b_177), .val (.ref b_161), .val (.ref b_119), .val (.ref b_107), .val (.int (1 : Int32))] [(.int (1 : Int32))])) _
          refine XS.ifNo X_243.here hx rfl (hb hby at_395) rfl ((if0 _ _).trans (feq (by decide : ¬ ((1 : Int32) = (0 : Int32)))).1) ?_
          show Steps p.tables e below (T_243.setTop (mkF m 398 #[.val (.long q1), .second, .val (.long q2), .second, .val (.long q3), .second, .val (.long q4), .second, .val (.long q5), .second, .val (.int p6), .val (.int (p6 &&& (3 : Int32))), .val (.ref b_107), .val (.ref b_119), .val (.ref b_132), .val (.ref b_146), .val (.ref b_161), .val (.ref b_177), .val (.ref b_161), .val (.ref b_119), .val (.ref b_107), .val (.int (1 : Int32))] [])) _
          refine XS.aload X_243.here hx rfl (hb hby at_398) rfl rfl ?_
          show Steps p.tables e below (T_243.setTop (mkF m 400 #[.val (.long q1), .second, .val (.long q2), .second, .val (.long q3), .second, .val (.long q4), .second, .val (.long q5), .second, .val (.int p6), .val (.int (p6 &&& (3 : Int32))), .val (.ref b_107), .val (.ref b_119), .val (.ref b_132), .val (.ref b_146), .val (.ref b_161), .val (.ref b_177), .val (.ref b_161), .val (.ref b_119), .val (.ref b_107), .val (.int (1 : Int32))] [(.ref b_119)])) _
          refine XS.aload X_243.here hx rfl (hb hby at_400) rfl rfl ?_
          show Steps p.tables e below (T_243.setTop (mkF m 402 #[.val (.long q1), .second, .val (.long q2), .second, .val (.long q3), .second, .val (.long q4), .second, .val (.long q5), .second, .val (.int p6), .val (.int (p6 &&& (3 : Int32))), .val (.ref b_107), .val (.ref b_119), .val (.ref b_132), .val (.ref b_146), .val (.ref b_161), .val (.ref b_177), .val (.ref b_161), .val (.ref b_119), .val (.ref b_107), .val (.int (1 : Int32))] [(.ref b_161), (.ref b_119)])) _
          refine st_263 _ ?_
          show Steps p.tables e below (T_263.setTop (mkF m 405 #[.val (.long q1), .second, .val (.long q2), .second, .val (.long q3), .second, .val (.long q4), .second, .val (.long q5), .second, .val (.int p6), .val (.int (p6 &&& (3 : Int32))), .val (.ref b_107), .val (.ref b_119), .val (.ref b_132), .val (.ref b_146), .val (.ref b_161), .val (.ref b_177), .val (.ref b_161), .val (.ref b_119), .val (.ref b_107), .val (.int (1 : Int32))] [(.int (1 : Int32))])) _
          refine XS.ifNo X_263.here hx rfl (hb hby at_405) rfl ((if0 _ _).trans (feq (by decide : ¬ ((1 : Int32) = (0 : Int32)))).1) ?_
          show Steps p.tables e below (T_263.setTop (mkF m 408 #[.val (.long q1), .second, .val (.long q2), .second, .val (.long q3), .second, .val (.long q4), .second, .val (.long q5), .second, .val (.int p6), .val (.int (p6 &&& (3 : Int32))), .val (.ref b_107), .val (.ref b_119), .val (.ref b_132), .val (.ref b_146), .val (.ref b_161), .val (.ref b_177), .val (.ref b_161), .val (.ref b_119), .val (.ref b_107), .val (.int (1 : Int32))] [])) _
          refine XS.iconst X_263.here hx rfl (hb hby at_408) ?_
          show Steps p.tables e below (T_263.setTop (mkF m 409 #[.val (.long q1), .second, .val (.long q2), .second, .val (.long q3), .second, .val (.long q4), .second, .val (.long q5), .second, .val (.int p6), .val (.int (p6 &&& (3 : Int32))), .val (.ref b_107), .val (.ref b_119), .val (.ref b_132), .val (.ref b_146), .val (.ref b_161), .val (.ref b_177), .val (.ref b_161), .val (.ref b_119), .val (.ref b_107), .val (.int (1 : Int32))] [(.int (1 : Int32))])) _
          refine XS.goto X_263.here hx rfl (pc0 := 409) (pc' := 413) rfl (hb hby at_409) (by decide) (by decide) ?_
          show Steps p.tables e below (T_263.setTop (mkF m 413 #[.val (.long q1), .second, .val (.long q2), .second, .val (.long q3), .second, .val (.long q4), .second, .val (.long q5), .second, .val (.int p6), .val (.int (p6 &&& (3 : Int32))), .val (.ref b_107), .val (.ref b_119), .val (.ref b_132), .val (.ref b_146), .val (.ref b_161), .val (.ref b_177), .val (.ref b_161), .val (.ref b_119), .val (.ref b_107), .val (.int (1 : Int32))] [(.int (1 : Int32))])) _
          refine XS.istore X_263.here hx rfl (hb hby at_413) rfl (l' := #[.val (.long q1), .second, .val (.long q2), .second, .val (.long q3), .second, .val (.long q4), .second, .val (.long q5), .second, .val (.int p6), .val (.int (p6 &&& (3 : Int32))), .val (.ref b_107), .val (.ref b_119), .val (.ref b_132), .val (.ref b_146), .val (.ref b_161), .val (.ref b_177), .val (.ref b_161), .val (.ref b_119), .val (.ref b_107), .val (.int (1 : Int32))]) rfl ?_
          show Steps p.tables e below (T_263.setTop (mkF m 415 #[.val (.long q1), .second, .val (.long q2), .second, .val (.long q3), .second, .val (.long q4), .second, .val (.long q5), .second, .val (.int p6), .val (.int (p6 &&& (3 : Int32))), .val (.ref b_107), .val (.ref b_119), .val (.ref b_132), .val (.ref b_146), .val (.ref b_161), .val (.ref b_177), .val (.ref b_161), .val (.ref b_119), .val (.ref b_107), .val (.int (1 : Int32))] [])) _
          refine XS.goto X_263.here hx rfl (pc0 := 415) (pc' := 446) rfl (hb hby at_415) (by decide) (by decide) ?_
          show Steps p.tables e below (T_263.setTop (mkF m 446 #[.val (.long q1), .second, .val (.long q2), .second, .val (.long q3), .second, .val (.long q4), .second, .val (.long q5), .second, .val (.int p6), .val (.int (p6 &&& (3 : Int32))), .val (.ref b_107), .val (.ref b_119), .val (.ref b_132), .val (.ref b_146), .val (.ref b_161), .val (.ref b_177), .val (.ref b_161), .val (.ref b_119), .val (.ref b_107), .val (.int (1 : Int32))] [])) _
          refine XS.iload X_263.here hx rfl (hb hby at_446) rfl ?_
          show Steps p.tables e below (T_263.setTop (mkF m 448 #[.val (.long q1), .second, .val (.long q2), .second, .val (.long q3), .second, .val (.long q4), .second, .val (.long q5), .second, .val (.int p6), .val (.int (p6 &&& (3 : Int32))), .val (.ref b_107), .val (.ref b_119), .val (.ref b_132), .val (.ref b_146), .val (.ref b_161), .val (.ref b_177), .val (.ref b_161), .val (.ref b_119), .val (.ref b_107), .val (.int (1 : Int32))] [(.int (1 : Int32))])) _
          exact retN X_263 hx (t := .boolean) Bd.returns (by simp) (hb hby at_448) hr
        · show Q0 Z q1 q2 q3 q4 q5 p6 h0 n0 _ T_263.heap _
          rw [e_263]
          exact ⟨rfl, N_263⟩
      · have pre_264 : ∀ t, Steps p.tables e below (T_187.setTop (mkF m 232 #[.val (.long q1), .second, .val (.long q2), .second, .val (.long q3), .second, .val (.long q4), .second, .val (.long q5), .second, .val (.int p6), .val (.int (p6 &&& (3 : Int32))), .val (.ref b_107), .val (.ref b_119), .val (.ref b_132), .val (.ref b_146), .val (.ref b_161), .val (.ref b_177), .val (.ref b_161), .val (.ref b_119), .unset, .unset] [(.int (2 : Int32)), (.int (p6 &&& (3 : Int32)))])) t → Steps p.tables e below (s₁.setTop (entryFrame m #[(.long q1), (.long q2), (.long q3), (.long q4), (.long q5), (.int p6)] maxLocals)) t := fun t k => pre_239 t (by
            show Steps p.tables e below (T_187.setTop (mkF m 219 #[.val (.long q1), .second, .val (.long q2), .second, .val (.long q3), .second, .val (.long q4), .second, .val (.long q5), .second, .val (.int p6), .val (.int (p6 &&& (3 : Int32))), .val (.ref b_107), .val (.ref b_119), .val (.ref b_132), .val (.ref b_146), .val (.ref b_161), .val (.ref b_177), .val (.ref b_161), .val (.ref b_119), .unset, .unset] [(.int (1 : Int32)), (.int (p6 &&& (3 : Int32)))])) _
            refine XS.icmpYes X_187.here hx rfl (pc0 := 219) (pc' := 229) rfl (hb hby at_219) rfl (feq hc219__240).2 (by decide) (by decide) ?_
            show Steps p.tables e below (T_187.setTop (mkF m 229 #[.val (.long q1), .second, .val (.long q2), .second, .val (.long q3), .second, .val (.long q4), .second, .val (.long q5), .second, .val (.int p6), .val (.int (p6 &&& (3 : Int32))), .val (.ref b_107), .val (.ref b_119), .val (.ref b_132), .val (.ref b_146), .val (.ref b_161), .val (.ref b_177), .val (.ref b_161), .val (.ref b_119), .unset, .unset] [])) _
            refine XS.iload X_187.here hx rfl (hb hby at_229) rfl ?_
            show Steps p.tables e below (T_187.setTop (mkF m 231 #[.val (.long q1), .second, .val (.long q2), .second, .val (.long q3), .second, .val (.long q4), .second, .val (.long q5), .second, .val (.int p6), .val (.int (p6 &&& (3 : Int32))), .val (.ref b_107), .val (.ref b_119), .val (.ref b_132), .val (.ref b_146), .val (.ref b_161), .val (.ref b_177), .val (.ref b_161), .val (.ref b_119), .unset, .unset] [(.int (p6 &&& (3 : Int32)))])) _
            refine XS.iconst X_187.here hx rfl (hb hby at_231) ?_
            exact k)
        by_cases hc232__265 : (p6 &&& (3 : Int32)) = (2 : Int32)
        · have f_266 : Arv Z h_187 b_119 k_119 .long (5 : Int32) [(.long q3), (.long q5), (.long q1), (.long q2), (.long q4)] (.long (0 : Int64)) := ((((((f_174.ext E_177).other W_179 ne_b_119_b_177).other W_181 ne_b_119_b_177).other W_183 ne_b_119_b_177).other W_185 ne_b_119_b_177).other W_187 ne_b_119_b_177)
          have f_267 : Arv Z h_187 b_107 k_107 .long (5 : Int32) [(.long q1), (.long q2), (.long q3), (.long q4), (.long q5)] (.long (0 : Int64)) := ((((((f_173.ext E_177).other W_179 ne_b_107_b_177).other W_181 ne_b_107_b_177).other W_183 ne_b_107_b_177).other W_185 ne_b_107_b_177).other W_187 ne_b_107_b_177)
          obtain ⟨_, _, ⟨T_268, L_268, k_268, n_268⟩, -, X_268, ⟨Lc_268, hQ_268, l_268, y_268, z_268⟩, st_268⟩ := Jvm.LawKit.callS X_187 hx (y := (⟨"com/example/latchet/latchet/Field25519", "sub", "([J[J[J)V"⟩ : MethodName)) hown (mvT hZ (hw _ (List.mem_of_getElem? (i := 1) rfl))) (mvT hZ (hw _ (List.mem_of_getElem? (i := 2) rfl))) (mvT hZ (hw _ (List.mem_of_getElem? (i := 3) rfl))) (mvT hZ (hw _ (List.mem_of_getElem? (i := 4) rfl))) (by decide) (backOf (W := 0) (rm1c l Z a0 hw [] b_119 b_107 k_119 k_107 q1 q2 q3 q4 q5 q3 q5 q1 q2 q4 h_187 n0 z_188 f_266 f_267 g_b_119 ne_b_107_b_119) hZ (hw _ (List.mem_of_getElem? (i := 4) rfl)) (hw _ (List.mem_of_getElem? (i := 3) rfl)) (by decide) (by decide)) (g := (mkF m 252 #[.val (.long q1), .second, .val (.long q2), .second, .val (.long q3), .second, .val (.long q4), .second, .val (.long q5), .second, .val (.int p6), .val (.int (p6 &&& (3 : Int32))), .val (.ref b_107), .val (.ref b_119), .val (.ref b_132), .val (.ref b_146), .val (.ref b_161), .val (.ref b_177), .val (.ref b_161), .val (.ref b_119), .val (.ref b_119), .unset] [(.ref b_119), (.ref b_107), (.ref b_119)])) rfl (by rw [hml]; rfl) (argsL := [(.ref b_119), (.ref b_107), (.ref b_119)]) (rest := []) (lenOf pd_0 rfl) rfl (by show 2 * 0 + _ ≤ _; exact Nat.le_of_eq rfl) (hb hby at_252) (fun _ _ => ⟨rfl, e_187, (by decide : 6 + 0 ≤ _), (by decide : 30 + 0 ≤ _)⟩)
          dsimp only [Pt.U, Pt.locs, Pt.cells, Pt.slots] at X_268 l_268 y_268 z_268 st_268 hQ_268
          replace X_268 := castS l_268 y_268 z_268 X_268
          obtain ⟨rfl, Nq_268, K_268, po_268_0⟩ := hQ_268
          have z_269 : n0 ≤ T_268.heap.size := Nat.le_trans z_188 K_268.1
          have N_268 := Fr.app N_187 Nq_268
          obtain ⟨cl_270, Ar_270, q_270, S_270, M_270, H_270, G_270⟩ := id po_268_0
          have hin_270 : ¬ ((0 : Int32) < 0 ∨ cl_270.slots.size ≤ ((0 : Int32)).toNatClampNeg) := inb_of S_270 ⟨by decide, by decide⟩
          have hat_270 : cl_270.slots[((0 : Int32)).toNatClampNeg]? = some (.long (q1 - q3)) := H_270.at hin_270 rfl
          have f_271 : Arv Z T_268.heap b_161 k_161 .long (5 : Int32) [(.long q3), (.long q5), (.long q1), (.long q2), (.long q4)] (.long (0 : Int64)) := (((((((V_171.ext E_177).other W_179 ne_b_161_b_177).other W_181 ne_b_161_b_177).other W_183 ne_b_161_b_177).other W_185 ne_b_161_b_177).other W_187 ne_b_161_b_177).keep K_268 (ninS (Ne.symm ne_b_119_b_161) nin0))
          obtain ⟨cl_272, Ar_272, q_272, S_272, M_272, H_272, G_272⟩ := id f_271
          have hin_272 : ¬ ((0 : Int32) < 0 ∨ cl_272.slots.size ≤ ((0 : Int32)).toNatClampNeg) := inb_of S_272 ⟨by decide, by decide⟩
          have hat_272 : cl_272.slots[((0 : Int32)).toNatClampNeg]? = some (.long q3) := H_272.at hin_272 rfl
          have f_273 : Arv Z T_268.heap b_146 k_146 .long (5 : Int32) [(.long q1), (.long q2), (.long q3), (.long q4), (.long q5)] (.long (0 : Int64)) := (((((((f_176.ext E_177).other W_179 ne_b_146_b_177).other W_181 ne_b_146_b_177).other W_183 ne_b_146_b_177).other W_185 ne_b_146_b_177).other W_187 ne_b_146_b_177).keep K_268 (ninS (Ne.symm ne_b_119_b_146) nin0))
          obtain ⟨cl_274, Ar_274, q_274, S_274, M_274, H_274, G_274⟩ := id f_273
          have hin_274 : ¬ ((0 : Int32) < 0 ∨ cl_274.slots.size ≤ ((0 : Int32)).toNatClampNeg) := inb_of S_274 ⟨by decide, by decide⟩
          have hat_274 : cl_274.slots[((0 : Int32)).toNatClampNeg]? = some (.long q1) := H_274.at hin_274 rfl
          obtain ⟨cl_275, Ar_275, q_275, S_275, M_275, H_275, G_275⟩ := id po_268_0
          have hin_275 : ¬ ((1 : Int32) < 0 ∨ cl_275.slots.size ≤ ((1 : Int32)).toNatClampNeg) := inb_of S_275 ⟨by decide, by decide⟩
          have hat_275 : cl_275.slots[((1 : Int32)).toNatClampNeg]? = some (.long (q2 - q5)) := H_275.at hin_275 rfl
          obtain ⟨cl_276, Ar_276, q_276, S_276, M_276, H_276, G_276⟩ := id f_271
          have hin_276 : ¬ ((1 : Int32) < 0 ∨ cl_276.slots.size ≤ ((1 : Int32)).toNatClampNeg) := inb_of S_276 ⟨by decide, by decide⟩
          have hat_276 : cl_276.slots[((1 : Int32)).toNatClampNeg]? = some (.long q5) := H_276.at hin_276 rfl
          obtain ⟨cl_277, Ar_277, q_277, S_277, M_277, H_277, G_277⟩ := id f_273
          have hin_277 : ¬ ((1 : Int32) < 0 ∨ cl_277.slots.size ≤ ((1 : Int32)).toNatClampNeg) := inb_of S_277 ⟨by decide, by decide⟩
          have hat_277 : cl_277.slots[((1 : Int32)).toNatClampNeg]? = some (.long q2) := H_277.at hin_277 rfl
          obtain ⟨cl_278, Ar_278, q_278, S_278, M_278, H_278, G_278⟩ := id po_268_0
          have hin_278 : ¬ ((2 : Int32) < 0 ∨ cl_278.slots.size ≤ ((2 : Int32)).toNatClampNeg) := inb_of S_278 ⟨by decide, by decide⟩
          have hat_278 : cl_278.slots[((2 : Int32)).toNatClampNeg]? = some (.long (q3 - q1)) := H_278.at hin_278 rfl
          obtain ⟨cl_279, Ar_279, q_279, S_279, M_279, H_279, G_279⟩ := id f_271
          have hin_279 : ¬ ((2 : Int32) < 0 ∨ cl_279.slots.size ≤ ((2 : Int32)).toNatClampNeg) := inb_of S_279 ⟨by decide, by decide⟩
          have hat_279 : cl_279.slots[((2 : Int32)).toNatClampNeg]? = some (.long q1) := H_279.at hin_279 rfl
          obtain ⟨cl_280, Ar_280, q_280, S_280, M_280, H_280, G_280⟩ := id f_273
          have hin_280 : ¬ ((2 : Int32) < 0 ∨ cl_280.slots.size ≤ ((2 : Int32)).toNatClampNeg) := inb_of S_280 ⟨by decide, by decide⟩
          have hat_280 : cl_280.slots[((2 : Int32)).toNatClampNeg]? = some (.long q3) := H_280.at hin_280 rfl
          obtain ⟨cl_281, Ar_281, q_281, S_281, M_281, H_281, G_281⟩ := id po_268_0
          have hin_281 : ¬ ((3 : Int32) < 0 ∨ cl_281.slots.size ≤ ((3 : Int32)).toNatClampNeg) := inb_of S_281 ⟨by decide, by decide⟩
          have hat_281 : cl_281.slots[((3 : Int32)).toNatClampNeg]? = some (.long (q4 - q2)) := H_281.at hin_281 rfl
          obtain ⟨cl_282, Ar_282, q_282, S_282, M_282, H_282, G_282⟩ := id f_271
          have hin_282 : ¬ ((3 : Int32) < 0 ∨ cl_282.slots.size ≤ ((3 : Int32)).toNatClampNeg) := inb_of S_282 ⟨by decide, by decide⟩
          have hat_282 : cl_282.slots[((3 : Int32)).toNatClampNeg]? = some (.long q2) := H_282.at hin_282 rfl
          obtain ⟨cl_283, Ar_283, q_283, S_283, M_283, H_283, G_283⟩ := id f_273
          have hin_283 : ¬ ((3 : Int32) < 0 ∨ cl_283.slots.size ≤ ((3 : Int32)).toNatClampNeg) := inb_of S_283 ⟨by decide, by decide⟩
          have hat_283 : cl_283.slots[((3 : Int32)).toNatClampNeg]? = some (.long q4) := H_283.at hin_283 rfl
          obtain ⟨cl_284, Ar_284, q_284, S_284, M_284, H_284, G_284⟩ := id po_268_0
          have hin_284 : ¬ ((4 : Int32) < 0 ∨ cl_284.slots.size ≤ ((4 : Int32)).toNatClampNeg) := inb_of S_284 ⟨by decide, by decide⟩
          have hat_284 : cl_284.slots[((4 : Int32)).toNatClampNeg]? = some (.long (q5 - q4)) := H_284.at hin_284 rfl
          obtain ⟨cl_285, Ar_285, q_285, S_285, M_285, H_285, G_285⟩ := id f_271
          have hin_285 : ¬ ((4 : Int32) < 0 ∨ cl_285.slots.size ≤ ((4 : Int32)).toNatClampNeg) := inb_of S_285 ⟨by decide, by decide⟩
          have hat_285 : cl_285.slots[((4 : Int32)).toNatClampNeg]? = some (.long q4) := H_285.at hin_285 rfl
          obtain ⟨cl_286, Ar_286, q_286, S_286, M_286, H_286, G_286⟩ := id f_273
          have hin_286 : ¬ ((4 : Int32) < 0 ∨ cl_286.slots.size ≤ ((4 : Int32)).toNatClampNeg) := inb_of S_286 ⟨by decide, by decide⟩
          have hat_286 : cl_286.slots[((4 : Int32)).toNatClampNeg]? = some (.long q5) := H_286.at hin_286 rfl
          have f_287 : Arv Z T_268.heap b_107 k_107 .long (5 : Int32) [(.long q1), (.long q2), (.long q3), (.long q4), (.long q5)] (.long (0 : Int64)) := (f_267.keep K_268 (ninS ne_b_107_b_119 nin0))
          obtain ⟨_, _, ⟨T_288, L_288, k_288, n_288⟩, -, X_288, ⟨Lc_288, hQ_288, l_288, y_288, z_288⟩, st_288⟩ := Jvm.LawKit.callS X_268 hx (y := (⟨"com/example/latchet/latchet/Field25519SubPinLaw", "same", "([J[J)Z"⟩ : MethodName)) hown (mvT hZ (hw _ (List.mem_of_getElem? (i := 5) rfl))) (mvT hZ (hw _ (List.mem_of_getElem? (i := 6) rfl))) (mvT hZ (hw _ (List.mem_of_getElem? (i := 7) rfl))) (mvT hZ (hw _ (List.mem_of_getElem? (i := 8) rfl))) (by decide) (backOf (W := 0) (rm2 l Z a0 hw [] b_107 b_146 k_107 k_146 q1 q2 q3 q4 q5 T_268.heap n0 z_269 f_287 f_273) hZ (hw _ (List.mem_of_getElem? (i := 8) rfl)) (hw _ (List.mem_of_getElem? (i := 7) rfl)) (by decide) (by decide)) (g := (mkF m 433 #[.val (.long q1), .second, .val (.long q2), .second, .val (.long q3), .second, .val (.long q4), .second, .val (.long q5), .second, .val (.int p6), .val (.int (p6 &&& (3 : Int32))), .val (.ref b_107), .val (.ref b_119), .val (.ref b_132), .val (.ref b_146), .val (.ref b_161), .val (.ref b_177), .val (.ref b_161), .val (.ref b_119), .val (.ref b_119), .val (.int (1 : Int32))] [(.ref b_146), (.ref b_107)])) rfl (by rw [hml]; rfl) (argsL := [(.ref b_107), (.ref b_146)]) (rest := []) (lenOf pd_1 rfl) rfl (by show 2 * 0 + _ ≤ _; exact Nat.le_of_eq rfl) (hb hby at_433) (fun _ _ => ⟨rfl, rfl, (by decide : 6 + 0 ≤ _), (by decide : 30 + 0 ≤ _)⟩)
          dsimp only [Pt.U, Pt.locs, Pt.cells, Pt.slots] at X_288 l_288 y_288 z_288 st_288 hQ_288
          replace X_288 := castS l_288 y_288 z_288 X_288
          obtain ⟨rfl, Nq_288, e_288⟩ := hQ_288
          have N_288 := Fr.app N_268 Nq_288
          obtain ⟨fs, hr, hrun, hended, hW, hsame⟩ := X_288.leave (v := some (.int (1 : Int32))) (fun h => by rw [Bd.returns] at h; cases h)
          refine ⟨_, _, pre_264 _ ?_, hrun, hended, _, _, rfl, ?_, ⟨_, rfl⟩, hW, hsame.mono (by decide) (by decide)⟩
          · show Steps p.tables e below (T_187.setTop (mkF m 232 #[.val (.long q1), .second, .val (.long q2), .second, .val (.long q3), .second, .val (.long q4), .second, .val (.long q5), .second, .val (.int p6), .val (.int (p6 &&& (3 : Int32))), .val (.ref b_107), .val (.ref b_119), .val (.ref b_132), .val (.ref b_146), .val (.ref b_161), .val (.ref b_177), .val (.ref b_161), .val (.ref b_119), .unset, .unset] [(.int (2 : Int32)), (.int (p6 &&& (3 : Int32)))])) _
            refine XS.icmpNo X_187.here hx rfl (hb hby at_232) rfl (teq hc232__265).2 ?_
            show Steps p.tables e below (T_187.setTop (mkF m 235 #[.val (.long q1), .second, .val (.long q2), .second, .val (.long q3), .second, .val (.long q4), .second, .val (.long q5), .second, .val (.int p6), .val (.int (p6 &&& (3 : Int32))), .val (.ref b_107), .val (.ref b_119), .val (.ref b_132), .val (.ref b_146), .val (.ref b_161), .val (.ref b_177), .val (.ref b_161), .val (.ref b_119), .unset, .unset] [])) _
            refine XS.aload X_187.here hx rfl (hb hby at_235) rfl rfl ?_
            show Steps p.tables e below (T_187.setTop (mkF m 237 #[.val (.long q1), .second, .val (.long q2), .second, .val (.long q3), .second, .val (.long q4), .second, .val (.long q5), .second, .val (.int p6), .val (.int (p6 &&& (3 : Int32))), .val (.ref b_107), .val (.ref b_119), .val (.ref b_132), .val (.ref b_146), .val (.ref b_161), .val (.ref b_177), .val (.ref b_161), .val (.ref b_119), .unset, .unset] [(.ref b_119)])) _
            refine XS.astore X_187.here hx rfl (hb hby at_237) rfl rfl (l' := #[.val (.long q1), .second, .val (.long q2), .second, .val (.long q3), .second, .val (.long q4), .second, .val (.long q5), .second, .val (.int p6), .val (.int (p6 &&& (3 : Int32))), .val (.ref b_107), .val (.ref b_119), .val (.ref b_132), .val (.ref b_146), .val (.ref b_161), .val (.ref b_177), .val (.ref b_161), .val (.ref b_119), .val (.ref b_119), .unset]) rfl ?_
            show Steps p.tables e below (T_187.setTop (mkF m 239 #[.val (.long q1), .second, .val (.long q2), .second, .val (.long q3), .second, .val (.long q4), .second, .val (.long q5), .second, .val (.int p6), .val (.int (p6 &&& (3 : Int32))), .val (.ref b_107), .val (.ref b_119), .val (.ref b_132), .val (.ref b_146), .val (.ref b_161), .val (.ref b_177), .val (.ref b_161), .val (.ref b_119), .val (.ref b_119), .unset] [])) _
            refine XS.goto X_187.here hx rfl (pc0 := 239) (pc' := 246) rfl (hb hby at_239) (by decide) (by decide) ?_
            show Steps p.tables e below (T_187.setTop (mkF m 246 #[.val (.long q1), .second, .val (.long q2), .second, .val (.long q3), .second, .val (.long q4), .second, .val (.long q5), .second, .val (.int p6), .val (.int (p6 &&& (3 : Int32))), .val (.ref b_107), .val (.ref b_119), .val (.ref b_132), .val (.ref b_146), .val (.ref b_161), .val (.ref b_177), .val (.ref b_161), .val (.ref b_119), .val (.ref b_119), .unset] [])) _
            refine XS.aload X_187.here hx rfl (hb hby at_246) rfl rfl ?_
            show Steps p.tables e below (T_187.setTop (mkF m 248 #[.val (.long q1), .second, .val (.long q2), .second, .val (.long q3), .second, .val (.long q4), .second, .val (.long q5), .second, .val (.int p6), .val (.int (p6 &&& (3 : Int32))), .val (.ref b_107), .val (.ref b_119), .val (.ref b_132), .val (.ref b_146), .val (.ref b_161), .val (.ref b_177), .val (.ref b_161), .val (.ref b_119), .val (.ref b_119), .unset] [(.ref b_119)])) _
            refine XS.aload X_187.here hx rfl (hb hby at_248) rfl rfl ?_
            show Steps p.tables e below (T_187.setTop (mkF m 250 #[.val (.long q1), .second, .val (.long q2), .second, .val (.long q3), .second, .val (.long q4), .second, .val (.long q5), .second, .val (.int p6), .val (.int (p6 &&& (3 : Int32))), .val (.ref b_107), .val (.ref b_119), .val (.ref b_132), .val (.ref b_146), .val (.ref b_161), .val (.ref b_177), .val (.ref b_161), .val (.ref b_119), .val (.ref b_119), .unset] [(.ref b_107), (.ref b_119)])) _
            refine XS.aload X_187.here hx rfl (hb hby at_250) rfl rfl ?_
            show Steps p.tables e below (T_187.setTop (mkF m 252 #[.val (.long q1), .second, .val (.long q2), .second, .val (.long q3), .second, .val (.long q4), .second, .val (.long q5), .second, .val (.int p6), .val (.int (p6 &&& (3 : Int32))), .val (.ref b_107), .val (.ref b_119), .val (.ref b_132), .val (.ref b_146), .val (.ref b_161), .val (.ref b_177), .val (.ref b_161), .val (.ref b_119), .val (.ref b_119), .unset] [(.ref b_119), (.ref b_107), (.ref b_119)])) _
            refine st_268 _ ?_
            show Steps p.tables e below (T_268.setTop (mkF m 255 #[.val (.long q1), .second, .val (.long q2), .second, .val (.long q3), .second, .val (.long q4), .second, .val (.long q5), .second, .val (.int p6), .val (.int (p6 &&& (3 : Int32))), .val (.ref b_107), .val (.ref b_119), .val (.ref b_132), .val (.ref b_146), .val (.ref b_161), .val (.ref b_177), .val (.ref b_161), .val (.ref b_119), .val (.ref b_119), .unset] [])) _
            refine XS.aload X_268.here hx rfl (hb hby at_255) rfl rfl ?_
            show Steps p.tables e below (T_268.setTop (mkF m 257 #[.val (.long q1), .second, .val (.long q2), .second, .val (.long q3), .second, .val (.long q4), .second, .val (.long q5), .second, .val (.int p6), .val (.int (p6 &&& (3 : Int32))), .val (.ref b_107), .val (.ref b_119), .val (.ref b_132), .val (.ref b_146), .val (.ref b_161), .val (.ref b_177), .val (.ref b_161), .val (.ref b_119), .val (.ref b_119), .unset] [(.ref b_119)])) _
            refine XS.iconst X_268.here hx rfl (hb hby at_257) ?_
            show Steps p.tables e below (T_268.setTop (mkF m 258 #[.val (.long q1), .second, .val (.long q2), .second, .val (.long q3), .second, .val (.long q4), .second, .val (.long q5), .second, .val (.int p6), .val (.int (p6 &&& (3 : Int32))), .val (.ref b_107), .val (.ref b_119), .val (.ref b_132), .val (.ref b_146), .val (.ref b_161), .val (.ref b_177), .val (.ref b_161), .val (.ref b_119), .val (.ref b_119), .unset] [(.int (0 : Int32)), (.ref b_119)])) _
            refine X_268.laload hx (j := (0 : Int32)) (v := (.long (q1 - q3))) Ar_270.1 (State.isArrayOf_alike hZ.alike Ar_270.2.1) Ar_270.2.2 hin_270 hat_270 (g := (mkF m 258 #[.val (.long q1), .second, .val (.long q2), .second, .val (.long q3), .second, .val (.long q4), .second, .val (.long q5), .second, .val (.int p6), .val (.int (p6 &&& (3 : Int32))), .val (.ref b_107), .val (.ref b_119), .val (.ref b_132), .val (.ref b_146), .val (.ref b_161), .val (.ref b_177), .val (.ref b_161), .val (.ref b_119), .val (.ref b_119), .unset] [(.int (0 : Int32)), (.ref b_119)])) rfl rfl (hb hby at_258) _ ?_
            show Steps p.tables e below (T_268.setTop (mkF m 259 #[.val (.long q1), .second, .val (.long q2), .second, .val (.long q3), .second, .val (.long q4), .second, .val (.long q5), .second, .val (.int p6), .val (.int (p6 &&& (3 : Int32))), .val (.ref b_107), .val (.ref b_119), .val (.ref b_132), .val (.ref b_146), .val (.ref b_161), .val (.ref b_177), .val (.ref b_161), .val (.ref b_119), .val (.ref b_119), .unset] [(.long (q1 - q3))])) _
            refine XS.aload X_268.here hx rfl (hb hby at_259) rfl rfl ?_
            show Steps p.tables e below (T_268.setTop (mkF m 261 #[.val (.long q1), .second, .val (.long q2), .second, .val (.long q3), .second, .val (.long q4), .second, .val (.long q5), .second, .val (.int p6), .val (.int (p6 &&& (3 : Int32))), .val (.ref b_107), .val (.ref b_119), .val (.ref b_132), .val (.ref b_146), .val (.ref b_161), .val (.ref b_177), .val (.ref b_161), .val (.ref b_119), .val (.ref b_119), .unset] [(.ref b_161), (.long (q1 - q3))])) _
            refine XS.iconst X_268.here hx rfl (hb hby at_261) ?_
            show Steps p.tables e below (T_268.setTop (mkF m 262 #[.val (.long q1), .second, .val (.long q2), .second, .val (.long q3), .second, .val (.long q4), .second, .val (.long q5), .second, .val (.int p6), .val (.int (p6 &&& (3 : Int32))), .val (.ref b_107), .val (.ref b_119), .val (.ref b_132), .val (.ref b_146), .val (.ref b_161), .val (.ref b_177), .val (.ref b_161), .val (.ref b_119), .val (.ref b_119), .unset] [(.int (0 : Int32)), (.ref b_161), (.long (q1 - q3))])) _
            refine X_268.laload hx (j := (0 : Int32)) (v := (.long q3)) Ar_272.1 (State.isArrayOf_alike hZ.alike Ar_272.2.1) Ar_272.2.2 hin_272 hat_272 (g := (mkF m 262 #[.val (.long q1), .second, .val (.long q2), .second, .val (.long q3), .second, .val (.long q4), .second, .val (.long q5), .second, .val (.int p6), .val (.int (p6 &&& (3 : Int32))), .val (.ref b_107), .val (.ref b_119), .val (.ref b_132), .val (.ref b_146), .val (.ref b_161), .val (.ref b_177), .val (.ref b_161), .val (.ref b_119), .val (.ref b_119), .unset] [(.int (0 : Int32)), (.ref b_161), (.long (q1 - q3))])) rfl rfl (hb hby at_262) _ ?_
            show Steps p.tables e below (T_268.setTop (mkF m 263 #[.val (.long q1), .second, .val (.long q2), .second, .val (.long q3), .second, .val (.long q4), .second, .val (.long q5), .second, .val (.int p6), .val (.int (p6 &&& (3 : Int32))), .val (.ref b_107), .val (.ref b_119), .val (.ref b_132), .val (.ref b_146), .val (.ref b_161), .val (.ref b_177), .val (.ref b_161), .val (.ref b_119), .val (.ref b_119), .unset] [(.long q3), (.long (q1 - q3))])) _
            refine XS.ladd X_268.here hx rfl (hb hby at_263) rfl ?_
            show Steps p.tables e below (T_268.setTop (mkF m 264 #[.val (.long q1), .second, .val (.long q2), .second, .val (.long q3), .second, .val (.long q4), .second, .val (.long q5), .second, .val (.int p6), .val (.int (p6 &&& (3 : Int32))), .val (.ref b_107), .val (.ref b_119), .val (.ref b_132), .val (.ref b_146), .val (.ref b_161), .val (.ref b_177), .val (.ref b_161), .val (.ref b_119), .val (.ref b_119), .unset] [(.long ((q1 - q3) + q3))])) _
            refine XS.aload X_268.here hx rfl (hb hby at_264) rfl rfl ?_
            show Steps p.tables e below (T_268.setTop (mkF m 266 #[.val (.long q1), .second, .val (.long q2), .second, .val (.long q3), .second, .val (.long q4), .second, .val (.long q5), .second, .val (.int p6), .val (.int (p6 &&& (3 : Int32))), .val (.ref b_107), .val (.ref b_119), .val (.ref b_132), .val (.ref b_146), .val (.ref b_161), .val (.ref b_177), .val (.ref b_161), .val (.ref b_119), .val (.ref b_119), .unset] [(.ref b_146), (.long ((q1 - q3) + q3))])) _
            refine XS.iconst X_268.here hx rfl (hb hby at_266) ?_
            show Steps p.tables e below (T_268.setTop (mkF m 267 #[.val (.long q1), .second, .val (.long q2), .second, .val (.long q3), .second, .val (.long q4), .second, .val (.long q5), .second, .val (.int p6), .val (.int (p6 &&& (3 : Int32))), .val (.ref b_107), .val (.ref b_119), .val (.ref b_132), .val (.ref b_146), .val (.ref b_161), .val (.ref b_177), .val (.ref b_161), .val (.ref b_119), .val (.ref b_119), .unset] [(.int (0 : Int32)), (.ref b_146), (.long ((q1 - q3) + q3))])) _
            refine X_268.laload hx (j := (0 : Int32)) (v := (.long q1)) Ar_274.1 (State.isArrayOf_alike hZ.alike Ar_274.2.1) Ar_274.2.2 hin_274 hat_274 (g := (mkF m 267 #[.val (.long q1), .second, .val (.long q2), .second, .val (.long q3), .second, .val (.long q4), .second, .val (.long q5), .second, .val (.int p6), .val (.int (p6 &&& (3 : Int32))), .val (.ref b_107), .val (.ref b_119), .val (.ref b_132), .val (.ref b_146), .val (.ref b_161), .val (.ref b_177), .val (.ref b_161), .val (.ref b_119), .val (.ref b_119), .unset] [(.int (0 : Int32)), (.ref b_146), (.long ((q1 - q3) + q3))])) rfl rfl (hb hby at_267) _ ?_
            show Steps p.tables e below (T_268.setTop (mkF m 268 #[.val (.long q1), .second, .val (.long q2), .second, .val (.long q3), .second, .val (.long q4), .second, .val (.long q5), .second, .val (.int p6), .val (.int (p6 &&& (3 : Int32))), .val (.ref b_107), .val (.ref b_119), .val (.ref b_132), .val (.ref b_146), .val (.ref b_161), .val (.ref b_177), .val (.ref b_161), .val (.ref b_119), .val (.ref b_119), .unset] [(.long q1), (.long ((q1 - q3) + q3))])) _
            refine XS.lcmp X_268.here hx rfl (hb hby at_268) rfl ?_
            show Steps p.tables e below (T_268.setTop (mkF m 269 #[.val (.long q1), .second, .val (.long q2), .second, .val (.long q3), .second, .val (.long q4), .second, .val (.long q5), .second, .val (.int p6), .val (.int (p6 &&& (3 : Int32))), .val (.ref b_107), .val (.ref b_119), .val (.ref b_132), .val (.ref b_146), .val (.ref b_161), .val (.ref b_177), .val (.ref b_161), .val (.ref b_119), .val (.ref b_119), .unset] [(.int (lcmpW ((q1 - q3) + q3) q1))])) _
            refine XS.ifNo X_268.here hx rfl (hb hby at_269) rfl ((if0 _ _).trans (teq ((lw_eq _ _).mpr (Int64.sub_add_cancel _ _ : ((q1 - q3) + q3) = q1))).2) ?_
            show Steps p.tables e below (T_268.setTop (mkF m 272 #[.val (.long q1), .second, .val (.long q2), .second, .val (.long q3), .second, .val (.long q4), .second, .val (.long q5), .second, .val (.int p6), .val (.int (p6 &&& (3 : Int32))), .val (.ref b_107), .val (.ref b_119), .val (.ref b_132), .val (.ref b_146), .val (.ref b_161), .val (.ref b_177), .val (.ref b_161), .val (.ref b_119), .val (.ref b_119), .unset] [])) _
            refine XS.aload X_268.here hx rfl (hb hby at_272) rfl rfl ?_
            show Steps p.tables e below (T_268.setTop (mkF m 274 #[.val (.long q1), .second, .val (.long q2), .second, .val (.long q3), .second, .val (.long q4), .second, .val (.long q5), .second, .val (.int p6), .val (.int (p6 &&& (3 : Int32))), .val (.ref b_107), .val (.ref b_119), .val (.ref b_132), .val (.ref b_146), .val (.ref b_161), .val (.ref b_177), .val (.ref b_161), .val (.ref b_119), .val (.ref b_119), .unset] [(.ref b_119)])) _
            refine XS.iconst X_268.here hx rfl (hb hby at_274) ?_
            show Steps p.tables e below (T_268.setTop (mkF m 275 #[.val (.long q1), .second, .val (.long q2), .second, .val (.long q3), .second, .val (.long q4), .second, .val (.long q5), .second, .val (.int p6), .val (.int (p6 &&& (3 : Int32))), .val (.ref b_107), .val (.ref b_119), .val (.ref b_132), .val (.ref b_146), .val (.ref b_161), .val (.ref b_177), .val (.ref b_161), .val (.ref b_119), .val (.ref b_119), .unset] [(.int (1 : Int32)), (.ref b_119)])) _
            refine X_268.laload hx (j := (1 : Int32)) (v := (.long (q2 - q5))) Ar_275.1 (State.isArrayOf_alike hZ.alike Ar_275.2.1) Ar_275.2.2 hin_275 hat_275 (g := (mkF m 275 #[.val (.long q1), .second, .val (.long q2), .second, .val (.long q3), .second, .val (.long q4), .second, .val (.long q5), .second, .val (.int p6), .val (.int (p6 &&& (3 : Int32))), .val (.ref b_107), .val (.ref b_119), .val (.ref b_132), .val (.ref b_146), .val (.ref b_161), .val (.ref b_177), .val (.ref b_161), .val (.ref b_119), .val (.ref b_119), .unset] [(.int (1 : Int32)), (.ref b_119)])) rfl rfl (hb hby at_275) _ ?_
            show Steps p.tables e below (T_268.setTop (mkF m 276 #[.val (.long q1), .second, .val (.long q2), .second, .val (.long q3), .second, .val (.long q4), .second, .val (.long q5), .second, .val (.int p6), .val (.int (p6 &&& (3 : Int32))), .val (.ref b_107), .val (.ref b_119), .val (.ref b_132), .val (.ref b_146), .val (.ref b_161), .val (.ref b_177), .val (.ref b_161), .val (.ref b_119), .val (.ref b_119), .unset] [(.long (q2 - q5))])) _
            refine XS.aload X_268.here hx rfl (hb hby at_276) rfl rfl ?_
            show Steps p.tables e below (T_268.setTop (mkF m 278 #[.val (.long q1), .second, .val (.long q2), .second, .val (.long q3), .second, .val (.long q4), .second, .val (.long q5), .second, .val (.int p6), .val (.int (p6 &&& (3 : Int32))), .val (.ref b_107), .val (.ref b_119), .val (.ref b_132), .val (.ref b_146), .val (.ref b_161), .val (.ref b_177), .val (.ref b_161), .val (.ref b_119), .val (.ref b_119), .unset] [(.ref b_161), (.long (q2 - q5))])) _
            refine XS.iconst X_268.here hx rfl (hb hby at_278) ?_
            show Steps p.tables e below (T_268.setTop (mkF m 279 #[.val (.long q1), .second, .val (.long q2), .second, .val (.long q3), .second, .val (.long q4), .second, .val (.long q5), .second, .val (.int p6), .val (.int (p6 &&& (3 : Int32))), .val (.ref b_107), .val (.ref b_119), .val (.ref b_132), .val (.ref b_146), .val (.ref b_161), .val (.ref b_177), .val (.ref b_161), .val (.ref b_119), .val (.ref b_119), .unset] [(.int (1 : Int32)), (.ref b_161), (.long (q2 - q5))])) _
            refine X_268.laload hx (j := (1 : Int32)) (v := (.long q5)) Ar_276.1 (State.isArrayOf_alike hZ.alike Ar_276.2.1) Ar_276.2.2 hin_276 hat_276 (g := (mkF m 279 #[.val (.long q1), .second, .val (.long q2), .second, .val (.long q3), .second, .val (.long q4), .second, .val (.long q5), .second, .val (.int p6), .val (.int (p6 &&& (3 : Int32))), .val (.ref b_107), .val (.ref b_119), .val (.ref b_132), .val (.ref b_146), .val (.ref b_161), .val (.ref b_177), .val (.ref b_161), .val (.ref b_119), .val (.ref b_119), .unset] [(.int (1 : Int32)), (.ref b_161), (.long (q2 - q5))])) rfl rfl (hb hby at_279) _ ?_
            show Steps p.tables e below (T_268.setTop (mkF m 280 #[.val (.long q1), .second, .val (.long q2), .second, .val (.long q3), .second, .val (.long q4), .second, .val (.long q5), .second, .val (.int p6), .val (.int (p6 &&& (3 : Int32))), .val (.ref b_107), .val (.ref b_119), .val (.ref b_132), .val (.ref b_146), .val (.ref b_161), .val (.ref b_177), .val (.ref b_161), .val (.ref b_119), .val (.ref b_119), .unset] [(.long q5), (.long (q2 - q5))])) _
            refine XS.ladd X_268.here hx rfl (hb hby at_280) rfl ?_
            show Steps p.tables e below (T_268.setTop (mkF m 281 #[.val (.long q1), .second, .val (.long q2), .second, .val (.long q3), .second, .val (.long q4), .second, .val (.long q5), .second, .val (.int p6), .val (.int (p6 &&& (3 : Int32))), .val (.ref b_107), .val (.ref b_119), .val (.ref b_132), .val (.ref b_146), .val (.ref b_161), .val (.ref b_177), .val (.ref b_161), .val (.ref b_119), .val (.ref b_119), .unset] [(.long ((q2 - q5) + q5))])) _
            refine XS.aload X_268.here hx rfl (hb hby at_281) rfl rfl ?_
            show Steps p.tables e below (T_268.setTop (mkF m 283 #[.val (.long q1), .second, .val (.long q2), .second, .val (.long q3), .second, .val (.long q4), .second, .val (.long q5), .second, .val (.int p6), .val (.int (p6 &&& (3 : Int32))), .val (.ref b_107), .val (.ref b_119), .val (.ref b_132), .val (.ref b_146), .val (.ref b_161), .val (.ref b_177), .val (.ref b_161), .val (.ref b_119), .val (.ref b_119), .unset] [(.ref b_146), (.long ((q2 - q5) + q5))])) _
            refine XS.iconst X_268.here hx rfl (hb hby at_283) ?_
            show Steps p.tables e below (T_268.setTop (mkF m 284 #[.val (.long q1), .second, .val (.long q2), .second, .val (.long q3), .second, .val (.long q4), .second, .val (.long q5), .second, .val (.int p6), .val (.int (p6 &&& (3 : Int32))), .val (.ref b_107), .val (.ref b_119), .val (.ref b_132), .val (.ref b_146), .val (.ref b_161), .val (.ref b_177), .val (.ref b_161), .val (.ref b_119), .val (.ref b_119), .unset] [(.int (1 : Int32)), (.ref b_146), (.long ((q2 - q5) + q5))])) _
            refine X_268.laload hx (j := (1 : Int32)) (v := (.long q2)) Ar_277.1 (State.isArrayOf_alike hZ.alike Ar_277.2.1) Ar_277.2.2 hin_277 hat_277 (g := (mkF m 284 #[.val (.long q1), .second, .val (.long q2), .second, .val (.long q3), .second, .val (.long q4), .second, .val (.long q5), .second, .val (.int p6), .val (.int (p6 &&& (3 : Int32))), .val (.ref b_107), .val (.ref b_119), .val (.ref b_132), .val (.ref b_146), .val (.ref b_161), .val (.ref b_177), .val (.ref b_161), .val (.ref b_119), .val (.ref b_119), .unset] [(.int (1 : Int32)), (.ref b_146), (.long ((q2 - q5) + q5))])) rfl rfl (hb hby at_284) _ ?_
            show Steps p.tables e below (T_268.setTop (mkF m 285 #[.val (.long q1), .second, .val (.long q2), .second, .val (.long q3), .second, .val (.long q4), .second, .val (.long q5), .second, .val (.int p6), .val (.int (p6 &&& (3 : Int32))), .val (.ref b_107), .val (.ref b_119), .val (.ref b_132), .val (.ref b_146), .val (.ref b_161), .val (.ref b_177), .val (.ref b_161), .val (.ref b_119), .val (.ref b_119), .unset] [(.long q2), (.long ((q2 - q5) + q5))])) _
            refine XS.lcmp X_268.here hx rfl (hb hby at_285) rfl ?_
            show Steps p.tables e below (T_268.setTop (mkF m 286 #[.val (.long q1), .second, .val (.long q2), .second, .val (.long q3), .second, .val (.long q4), .second, .val (.long q5), .second, .val (.int p6), .val (.int (p6 &&& (3 : Int32))), .val (.ref b_107), .val (.ref b_119), .val (.ref b_132), .val (.ref b_146), .val (.ref b_161), .val (.ref b_177), .val (.ref b_161), .val (.ref b_119), .val (.ref b_119), .unset] [(.int (lcmpW ((q2 - q5) + q5) q2))])) _
            refine XS.ifNo X_268.here hx rfl (hb hby at_286) rfl ((if0 _ _).trans (teq ((lw_eq _ _).mpr (Int64.sub_add_cancel _ _ : ((q2 - q5) + q5) = q2))).2) ?_
            show Steps p.tables e below (T_268.setTop (mkF m 289 #[.val (.long q1), .second, .val (.long q2), .second, .val (.long q3), .second, .val (.long q4), .second, .val (.long q5), .second, .val (.int p6), .val (.int (p6 &&& (3 : Int32))), .val (.ref b_107), .val (.ref b_119), .val (.ref b_132), .val (.ref b_146), .val (.ref b_161), .val (.ref b_177), .val (.ref b_161), .val (.ref b_119), .val (.ref b_119), .unset] [])) _
            refine XS.aload X_268.here hx rfl (hb hby at_289) rfl rfl ?_
            show Steps p.tables e below (T_268.setTop (mkF m 291 #[.val (.long q1), .second, .val (.long q2), .second, .val (.long q3), .second, .val (.long q4), .second, .val (.long q5), .second, .val (.int p6), .val (.int (p6 &&& (3 : Int32))), .val (.ref b_107), .val (.ref b_119), .val (.ref b_132), .val (.ref b_146), .val (.ref b_161), .val (.ref b_177), .val (.ref b_161), .val (.ref b_119), .val (.ref b_119), .unset] [(.ref b_119)])) _
            refine XS.iconst X_268.here hx rfl (hb hby at_291) ?_
            show Steps p.tables e below (T_268.setTop (mkF m 292 #[.val (.long q1), .second, .val (.long q2), .second, .val (.long q3), .second, .val (.long q4), .second, .val (.long q5), .second, .val (.int p6), .val (.int (p6 &&& (3 : Int32))), .val (.ref b_107), .val (.ref b_119), .val (.ref b_132), .val (.ref b_146), .val (.ref b_161), .val (.ref b_177), .val (.ref b_161), .val (.ref b_119), .val (.ref b_119), .unset] [(.int (2 : Int32)), (.ref b_119)])) _
            refine X_268.laload hx (j := (2 : Int32)) (v := (.long (q3 - q1))) Ar_278.1 (State.isArrayOf_alike hZ.alike Ar_278.2.1) Ar_278.2.2 hin_278 hat_278 (g := (mkF m 292 #[.val (.long q1), .second, .val (.long q2), .second, .val (.long q3), .second, .val (.long q4), .second, .val (.long q5), .second, .val (.int p6), .val (.int (p6 &&& (3 : Int32))), .val (.ref b_107), .val (.ref b_119), .val (.ref b_132), .val (.ref b_146), .val (.ref b_161), .val (.ref b_177), .val (.ref b_161), .val (.ref b_119), .val (.ref b_119), .unset] [(.int (2 : Int32)), (.ref b_119)])) rfl rfl (hb hby at_292) _ ?_
            show Steps p.tables e below (T_268.setTop (mkF m 293 #[.val (.long q1), .second, .val (.long q2), .second, .val (.long q3), .second, .val (.long q4), .second, .val (.long q5), .second, .val (.int p6), .val (.int (p6 &&& (3 : Int32))), .val (.ref b_107), .val (.ref b_119), .val (.ref b_132), .val (.ref b_146), .val (.ref b_161), .val (.ref b_177), .val (.ref b_161), .val (.ref b_119), .val (.ref b_119), .unset] [(.long (q3 - q1))])) _
            refine XS.aload X_268.here hx rfl (hb hby at_293) rfl rfl ?_
            show Steps p.tables e below (T_268.setTop (mkF m 295 #[.val (.long q1), .second, .val (.long q2), .second, .val (.long q3), .second, .val (.long q4), .second, .val (.long q5), .second, .val (.int p6), .val (.int (p6 &&& (3 : Int32))), .val (.ref b_107), .val (.ref b_119), .val (.ref b_132), .val (.ref b_146), .val (.ref b_161), .val (.ref b_177), .val (.ref b_161), .val (.ref b_119), .val (.ref b_119), .unset] [(.ref b_161), (.long (q3 - q1))])) _
            refine XS.iconst X_268.here hx rfl (hb hby at_295) ?_
            show Steps p.tables e below (T_268.setTop (mkF m 296 #[.val (.long q1), .second, .val (.long q2), .second, .val (.long q3), .second, .val (.long q4), .second, .val (.long q5), .second, .val (.int p6), .val (.int (p6 &&& (3 : Int32))), .val (.ref b_107), .val (.ref b_119), .val (.ref b_132), .val (.ref b_146), .val (.ref b_161), .val (.ref b_177), .val (.ref b_161), .val (.ref b_119), .val (.ref b_119), .unset] [(.int (2 : Int32)), (.ref b_161), (.long (q3 - q1))])) _
            refine X_268.laload hx (j := (2 : Int32)) (v := (.long q1)) Ar_279.1 (State.isArrayOf_alike hZ.alike Ar_279.2.1) Ar_279.2.2 hin_279 hat_279 (g := (mkF m 296 #[.val (.long q1), .second, .val (.long q2), .second, .val (.long q3), .second, .val (.long q4), .second, .val (.long q5), .second, .val (.int p6), .val (.int (p6 &&& (3 : Int32))), .val (.ref b_107), .val (.ref b_119), .val (.ref b_132), .val (.ref b_146), .val (.ref b_161), .val (.ref b_177), .val (.ref b_161), .val (.ref b_119), .val (.ref b_119), .unset] [(.int (2 : Int32)), (.ref b_161), (.long (q3 - q1))])) rfl rfl (hb hby at_296) _ ?_
            show Steps p.tables e below (T_268.setTop (mkF m 297 #[.val (.long q1), .second, .val (.long q2), .second, .val (.long q3), .second, .val (.long q4), .second, .val (.long q5), .second, .val (.int p6), .val (.int (p6 &&& (3 : Int32))), .val (.ref b_107), .val (.ref b_119), .val (.ref b_132), .val (.ref b_146), .val (.ref b_161), .val (.ref b_177), .val (.ref b_161), .val (.ref b_119), .val (.ref b_119), .unset] [(.long q1), (.long (q3 - q1))])) _
            refine XS.ladd X_268.here hx rfl (hb hby at_297) rfl ?_
            show Steps p.tables e below (T_268.setTop (mkF m 298 #[.val (.long q1), .second, .val (.long q2), .second, .val (.long q3), .second, .val (.long q4), .second, .val (.long q5), .second, .val (.int p6), .val (.int (p6 &&& (3 : Int32))), .val (.ref b_107), .val (.ref b_119), .val (.ref b_132), .val (.ref b_146), .val (.ref b_161), .val (.ref b_177), .val (.ref b_161), .val (.ref b_119), .val (.ref b_119), .unset] [(.long ((q3 - q1) + q1))])) _
            refine XS.aload X_268.here hx rfl (hb hby at_298) rfl rfl ?_
            show Steps p.tables e below (T_268.setTop (mkF m 300 #[.val (.long q1), .second, .val (.long q2), .second, .val (.long q3), .second, .val (.long q4), .second, .val (.long q5), .second, .val (.int p6), .val (.int (p6 &&& (3 : Int32))), .val (.ref b_107), .val (.ref b_119), .val (.ref b_132), .val (.ref b_146), .val (.ref b_161), .val (.ref b_177), .val (.ref b_161), .val (.ref b_119), .val (.ref b_119), .unset] [(.ref b_146), (.long ((q3 - q1) + q1))])) _
            refine XS.iconst X_268.here hx rfl (hb hby at_300) ?_
            show Steps p.tables e below (T_268.setTop (mkF m 301 #[.val (.long q1), .second, .val (.long q2), .second, .val (.long q3), .second, .val (.long q4), .second, .val (.long q5), .second, .val (.int p6), .val (.int (p6 &&& (3 : Int32))), .val (.ref b_107), .val (.ref b_119), .val (.ref b_132), .val (.ref b_146), .val (.ref b_161), .val (.ref b_177), .val (.ref b_161), .val (.ref b_119), .val (.ref b_119), .unset] [(.int (2 : Int32)), (.ref b_146), (.long ((q3 - q1) + q1))])) _
            refine X_268.laload hx (j := (2 : Int32)) (v := (.long q3)) Ar_280.1 (State.isArrayOf_alike hZ.alike Ar_280.2.1) Ar_280.2.2 hin_280 hat_280 (g := (mkF m 301 #[.val (.long q1), .second, .val (.long q2), .second, .val (.long q3), .second, .val (.long q4), .second, .val (.long q5), .second, .val (.int p6), .val (.int (p6 &&& (3 : Int32))), .val (.ref b_107), .val (.ref b_119), .val (.ref b_132), .val (.ref b_146), .val (.ref b_161), .val (.ref b_177), .val (.ref b_161), .val (.ref b_119), .val (.ref b_119), .unset] [(.int (2 : Int32)), (.ref b_146), (.long ((q3 - q1) + q1))])) rfl rfl (hb hby at_301) _ ?_
            show Steps p.tables e below (T_268.setTop (mkF m 302 #[.val (.long q1), .second, .val (.long q2), .second, .val (.long q3), .second, .val (.long q4), .second, .val (.long q5), .second, .val (.int p6), .val (.int (p6 &&& (3 : Int32))), .val (.ref b_107), .val (.ref b_119), .val (.ref b_132), .val (.ref b_146), .val (.ref b_161), .val (.ref b_177), .val (.ref b_161), .val (.ref b_119), .val (.ref b_119), .unset] [(.long q3), (.long ((q3 - q1) + q1))])) _
            refine XS.lcmp X_268.here hx rfl (hb hby at_302) rfl ?_
            show Steps p.tables e below (T_268.setTop (mkF m 303 #[.val (.long q1), .second, .val (.long q2), .second, .val (.long q3), .second, .val (.long q4), .second, .val (.long q5), .second, .val (.int p6), .val (.int (p6 &&& (3 : Int32))), .val (.ref b_107), .val (.ref b_119), .val (.ref b_132), .val (.ref b_146), .val (.ref b_161), .val (.ref b_177), .val (.ref b_161), .val (.ref b_119), .val (.ref b_119), .unset] [(.int (lcmpW ((q3 - q1) + q1) q3))])) _
            refine XS.ifNo X_268.here hx rfl (hb hby at_303) rfl ((if0 _ _).trans (teq ((lw_eq _ _).mpr (Int64.sub_add_cancel _ _ : ((q3 - q1) + q1) = q3))).2) ?_
            show Steps p.tables e below (T_268.setTop (mkF m 306 #[.val (.long q1), .second, .val (.long q2), .second, .val (.long q3), .second, .val (.long q4), .second, .val (.long q5), .second, .val (.int p6), .val (.int (p6 &&& (3 : Int32))), .val (.ref b_107), .val (.ref b_119), .val (.ref b_132), .val (.ref b_146), .val (.ref b_161), .val (.ref b_177), .val (.ref b_161), .val (.ref b_119), .val (.ref b_119), .unset] [])) _
            refine XS.aload X_268.here hx rfl (hb hby at_306) rfl rfl ?_
            show Steps p.tables e below (T_268.setTop (mkF m 308 #[.val (.long q1), .second, .val (.long q2), .second, .val (.long q3), .second, .val (.long q4), .second, .val (.long q5), .second, .val (.int p6), .val (.int (p6 &&& (3 : Int32))), .val (.ref b_107), .val (.ref b_119), .val (.ref b_132), .val (.ref b_146), .val (.ref b_161), .val (.ref b_177), .val (.ref b_161), .val (.ref b_119), .val (.ref b_119), .unset] [(.ref b_119)])) _
            refine XS.iconst X_268.here hx rfl (hb hby at_308) ?_
            show Steps p.tables e below (T_268.setTop (mkF m 309 #[.val (.long q1), .second, .val (.long q2), .second, .val (.long q3), .second, .val (.long q4), .second, .val (.long q5), .second, .val (.int p6), .val (.int (p6 &&& (3 : Int32))), .val (.ref b_107), .val (.ref b_119), .val (.ref b_132), .val (.ref b_146), .val (.ref b_161), .val (.ref b_177), .val (.ref b_161), .val (.ref b_119), .val (.ref b_119), .unset] [(.int (3 : Int32)), (.ref b_119)])) _
            refine X_268.laload hx (j := (3 : Int32)) (v := (.long (q4 - q2))) Ar_281.1 (State.isArrayOf_alike hZ.alike Ar_281.2.1) Ar_281.2.2 hin_281 hat_281 (g := (mkF m 309 #[.val (.long q1), .second, .val (.long q2), .second, .val (.long q3), .second, .val (.long q4), .second, .val (.long q5), .second, .val (.int p6), .val (.int (p6 &&& (3 : Int32))), .val (.ref b_107), .val (.ref b_119), .val (.ref b_132), .val (.ref b_146), .val (.ref b_161), .val (.ref b_177), .val (.ref b_161), .val (.ref b_119), .val (.ref b_119), .unset] [(.int (3 : Int32)), (.ref b_119)])) rfl rfl (hb hby at_309) _ ?_
            show Steps p.tables e below (T_268.setTop (mkF m 310 #[.val (.long q1), .second, .val (.long q2), .second, .val (.long q3), .second, .val (.long q4), .second, .val (.long q5), .second, .val (.int p6), .val (.int (p6 &&& (3 : Int32))), .val (.ref b_107), .val (.ref b_119), .val (.ref b_132), .val (.ref b_146), .val (.ref b_161), .val (.ref b_177), .val (.ref b_161), .val (.ref b_119), .val (.ref b_119), .unset] [(.long (q4 - q2))])) _
            refine XS.aload X_268.here hx rfl (hb hby at_310) rfl rfl ?_
            show Steps p.tables e below (T_268.setTop (mkF m 312 #[.val (.long q1), .second, .val (.long q2), .second, .val (.long q3), .second, .val (.long q4), .second, .val (.long q5), .second, .val (.int p6), .val (.int (p6 &&& (3 : Int32))), .val (.ref b_107), .val (.ref b_119), .val (.ref b_132), .val (.ref b_146), .val (.ref b_161), .val (.ref b_177), .val (.ref b_161), .val (.ref b_119), .val (.ref b_119), .unset] [(.ref b_161), (.long (q4 - q2))])) _
            refine XS.iconst X_268.here hx rfl (hb hby at_312) ?_
            show Steps p.tables e below (T_268.setTop (mkF m 313 #[.val (.long q1), .second, .val (.long q2), .second, .val (.long q3), .second, .val (.long q4), .second, .val (.long q5), .second, .val (.int p6), .val (.int (p6 &&& (3 : Int32))), .val (.ref b_107), .val (.ref b_119), .val (.ref b_132), .val (.ref b_146), .val (.ref b_161), .val (.ref b_177), .val (.ref b_161), .val (.ref b_119), .val (.ref b_119), .unset] [(.int (3 : Int32)), (.ref b_161), (.long (q4 - q2))])) _
            refine X_268.laload hx (j := (3 : Int32)) (v := (.long q2)) Ar_282.1 (State.isArrayOf_alike hZ.alike Ar_282.2.1) Ar_282.2.2 hin_282 hat_282 (g := (mkF m 313 #[.val (.long q1), .second, .val (.long q2), .second, .val (.long q3), .second, .val (.long q4), .second, .val (.long q5), .second, .val (.int p6), .val (.int (p6 &&& (3 : Int32))), .val (.ref b_107), .val (.ref b_119), .val (.ref b_132), .val (.ref b_146), .val (.ref b_161), .val (.ref b_177), .val (.ref b_161), .val (.ref b_119), .val (.ref b_119), .unset] [(.int (3 : Int32)), (.ref b_161), (.long (q4 - q2))])) rfl rfl (hb hby at_313) _ ?_
            show Steps p.tables e below (T_268.setTop (mkF m 314 #[.val (.long q1), .second, .val (.long q2), .second, .val (.long q3), .second, .val (.long q4), .second, .val (.long q5), .second, .val (.int p6), .val (.int (p6 &&& (3 : Int32))), .val (.ref b_107), .val (.ref b_119), .val (.ref b_132), .val (.ref b_146), .val (.ref b_161), .val (.ref b_177), .val (.ref b_161), .val (.ref b_119), .val (.ref b_119), .unset] [(.long q2), (.long (q4 - q2))])) _
            refine XS.ladd X_268.here hx rfl (hb hby at_314) rfl ?_
            show Steps p.tables e below (T_268.setTop (mkF m 315 #[.val (.long q1), .second, .val (.long q2), .second, .val (.long q3), .second, .val (.long q4), .second, .val (.long q5), .second, .val (.int p6), .val (.int (p6 &&& (3 : Int32))), .val (.ref b_107), .val (.ref b_119), .val (.ref b_132), .val (.ref b_146), .val (.ref b_161), .val (.ref b_177), .val (.ref b_161), .val (.ref b_119), .val (.ref b_119), .unset] [(.long ((q4 - q2) + q2))])) _
            refine XS.aload X_268.here hx rfl (hb hby at_315) rfl rfl ?_
            show Steps p.tables e below (T_268.setTop (mkF m 317 #[.val (.long q1), .second, .val (.long q2), .second, .val (.long q3), .second, .val (.long q4), .second, .val (.long q5), .second, .val (.int p6), .val (.int (p6 &&& (3 : Int32))), .val (.ref b_107), .val (.ref b_119), .val (.ref b_132), .val (.ref b_146), .val (.ref b_161), .val (.ref b_177), .val (.ref b_161), .val (.ref b_119), .val (.ref b_119), .unset] [(.ref b_146), (.long ((q4 - q2) + q2))])) _
            refine XS.iconst X_268.here hx rfl (hb hby at_317) ?_
            show Steps p.tables e below (T_268.setTop (mkF m 318 #[.val (.long q1), .second, .val (.long q2), .second, .val (.long q3), .second, .val (.long q4), .second, .val (.long q5), .second, .val (.int p6), .val (.int (p6 &&& (3 : Int32))), .val (.ref b_107), .val (.ref b_119), .val (.ref b_132), .val (.ref b_146), .val (.ref b_161), .val (.ref b_177), .val (.ref b_161), .val (.ref b_119), .val (.ref b_119), .unset] [(.int (3 : Int32)), (.ref b_146), (.long ((q4 - q2) + q2))])) _
            refine X_268.laload hx (j := (3 : Int32)) (v := (.long q4)) Ar_283.1 (State.isArrayOf_alike hZ.alike Ar_283.2.1) Ar_283.2.2 hin_283 hat_283 (g := (mkF m 318 #[.val (.long q1), .second, .val (.long q2), .second, .val (.long q3), .second, .val (.long q4), .second, .val (.long q5), .second, .val (.int p6), .val (.int (p6 &&& (3 : Int32))), .val (.ref b_107), .val (.ref b_119), .val (.ref b_132), .val (.ref b_146), .val (.ref b_161), .val (.ref b_177), .val (.ref b_161), .val (.ref b_119), .val (.ref b_119), .unset] [(.int (3 : Int32)), (.ref b_146), (.long ((q4 - q2) + q2))])) rfl rfl (hb hby at_318) _ ?_
            show Steps p.tables e below (T_268.setTop (mkF m 319 #[.val (.long q1), .second, .val (.long q2), .second, .val (.long q3), .second, .val (.long q4), .second, .val (.long q5), .second, .val (.int p6), .val (.int (p6 &&& (3 : Int32))), .val (.ref b_107), .val (.ref b_119), .val (.ref b_132), .val (.ref b_146), .val (.ref b_161), .val (.ref b_177), .val (.ref b_161), .val (.ref b_119), .val (.ref b_119), .unset] [(.long q4), (.long ((q4 - q2) + q2))])) _
            refine XS.lcmp X_268.here hx rfl (hb hby at_319) rfl ?_
            show Steps p.tables e below (T_268.setTop (mkF m 320 #[.val (.long q1), .second, .val (.long q2), .second, .val (.long q3), .second, .val (.long q4), .second, .val (.long q5), .second, .val (.int p6), .val (.int (p6 &&& (3 : Int32))), .val (.ref b_107), .val (.ref b_119), .val (.ref b_132), .val (.ref b_146), .val (.ref b_161), .val (.ref b_177), .val (.ref b_161), .val (.ref b_119), .val (.ref b_119), .unset] [(.int (lcmpW ((q4 - q2) + q2) q4))])) _
            refine XS.ifNo X_268.here hx rfl (hb hby at_320) rfl ((if0 _ _).trans (teq ((lw_eq _ _).mpr (Int64.sub_add_cancel _ _ : ((q4 - q2) + q2) = q4))).2) ?_
            show Steps p.tables e below (T_268.setTop (mkF m 323 #[.val (.long q1), .second, .val (.long q2), .second, .val (.long q3), .second, .val (.long q4), .second, .val (.long q5), .second, .val (.int p6), .val (.int (p6 &&& (3 : Int32))), .val (.ref b_107), .val (.ref b_119), .val (.ref b_132), .val (.ref b_146), .val (.ref b_161), .val (.ref b_177), .val (.ref b_161), .val (.ref b_119), .val (.ref b_119), .unset] [])) _
            refine XS.aload X_268.here hx rfl (hb hby at_323) rfl rfl ?_
            show Steps p.tables e below (T_268.setTop (mkF m 325 #[.val (.long q1), .second, .val (.long q2), .second, .val (.long q3), .second, .val (.long q4), .second, .val (.long q5), .second, .val (.int p6), .val (.int (p6 &&& (3 : Int32))), .val (.ref b_107), .val (.ref b_119), .val (.ref b_132), .val (.ref b_146), .val (.ref b_161), .val (.ref b_177), .val (.ref b_161), .val (.ref b_119), .val (.ref b_119), .unset] [(.ref b_119)])) _
            refine XS.iconst X_268.here hx rfl (hb hby at_325) ?_
            show Steps p.tables e below (T_268.setTop (mkF m 326 #[.val (.long q1), .second, .val (.long q2), .second, .val (.long q3), .second, .val (.long q4), .second, .val (.long q5), .second, .val (.int p6), .val (.int (p6 &&& (3 : Int32))), .val (.ref b_107), .val (.ref b_119), .val (.ref b_132), .val (.ref b_146), .val (.ref b_161), .val (.ref b_177), .val (.ref b_161), .val (.ref b_119), .val (.ref b_119), .unset] [(.int (4 : Int32)), (.ref b_119)])) _
            refine X_268.laload hx (j := (4 : Int32)) (v := (.long (q5 - q4))) Ar_284.1 (State.isArrayOf_alike hZ.alike Ar_284.2.1) Ar_284.2.2 hin_284 hat_284 (g := (mkF m 326 #[.val (.long q1), .second, .val (.long q2), .second, .val (.long q3), .second, .val (.long q4), .second, .val (.long q5), .second, .val (.int p6), .val (.int (p6 &&& (3 : Int32))), .val (.ref b_107), .val (.ref b_119), .val (.ref b_132), .val (.ref b_146), .val (.ref b_161), .val (.ref b_177), .val (.ref b_161), .val (.ref b_119), .val (.ref b_119), .unset] [(.int (4 : Int32)), (.ref b_119)])) rfl rfl (hb hby at_326) _ ?_
            show Steps p.tables e below (T_268.setTop (mkF m 327 #[.val (.long q1), .second, .val (.long q2), .second, .val (.long q3), .second, .val (.long q4), .second, .val (.long q5), .second, .val (.int p6), .val (.int (p6 &&& (3 : Int32))), .val (.ref b_107), .val (.ref b_119), .val (.ref b_132), .val (.ref b_146), .val (.ref b_161), .val (.ref b_177), .val (.ref b_161), .val (.ref b_119), .val (.ref b_119), .unset] [(.long (q5 - q4))])) _
            refine XS.aload X_268.here hx rfl (hb hby at_327) rfl rfl ?_
            show Steps p.tables e below (T_268.setTop (mkF m 329 #[.val (.long q1), .second, .val (.long q2), .second, .val (.long q3), .second, .val (.long q4), .second, .val (.long q5), .second, .val (.int p6), .val (.int (p6 &&& (3 : Int32))), .val (.ref b_107), .val (.ref b_119), .val (.ref b_132), .val (.ref b_146), .val (.ref b_161), .val (.ref b_177), .val (.ref b_161), .val (.ref b_119), .val (.ref b_119), .unset] [(.ref b_161), (.long (q5 - q4))])) _
            refine XS.iconst X_268.here hx rfl (hb hby at_329) ?_
            show Steps p.tables e below (T_268.setTop (mkF m 330 #[.val (.long q1), .second, .val (.long q2), .second, .val (.long q3), .second, .val (.long q4), .second, .val (.long q5), .second, .val (.int p6), .val (.int (p6 &&& (3 : Int32))), .val (.ref b_107), .val (.ref b_119), .val (.ref b_132), .val (.ref b_146), .val (.ref b_161), .val (.ref b_177), .val (.ref b_161), .val (.ref b_119), .val (.ref b_119), .unset] [(.int (4 : Int32)), (.ref b_161), (.long (q5 - q4))])) _
            refine X_268.laload hx (j := (4 : Int32)) (v := (.long q4)) Ar_285.1 (State.isArrayOf_alike hZ.alike Ar_285.2.1) Ar_285.2.2 hin_285 hat_285 (g := (mkF m 330 #[.val (.long q1), .second, .val (.long q2), .second, .val (.long q3), .second, .val (.long q4), .second, .val (.long q5), .second, .val (.int p6), .val (.int (p6 &&& (3 : Int32))), .val (.ref b_107), .val (.ref b_119), .val (.ref b_132), .val (.ref b_146), .val (.ref b_161), .val (.ref b_177), .val (.ref b_161), .val (.ref b_119), .val (.ref b_119), .unset] [(.int (4 : Int32)), (.ref b_161), (.long (q5 - q4))])) rfl rfl (hb hby at_330) _ ?_
            show Steps p.tables e below (T_268.setTop (mkF m 331 #[.val (.long q1), .second, .val (.long q2), .second, .val (.long q3), .second, .val (.long q4), .second, .val (.long q5), .second, .val (.int p6), .val (.int (p6 &&& (3 : Int32))), .val (.ref b_107), .val (.ref b_119), .val (.ref b_132), .val (.ref b_146), .val (.ref b_161), .val (.ref b_177), .val (.ref b_161), .val (.ref b_119), .val (.ref b_119), .unset] [(.long q4), (.long (q5 - q4))])) _
            refine XS.ladd X_268.here hx rfl (hb hby at_331) rfl ?_
            show Steps p.tables e below (T_268.setTop (mkF m 332 #[.val (.long q1), .second, .val (.long q2), .second, .val (.long q3), .second, .val (.long q4), .second, .val (.long q5), .second, .val (.int p6), .val (.int (p6 &&& (3 : Int32))), .val (.ref b_107), .val (.ref b_119), .val (.ref b_132), .val (.ref b_146), .val (.ref b_161), .val (.ref b_177), .val (.ref b_161), .val (.ref b_119), .val (.ref b_119), .unset] [(.long ((q5 - q4) + q4))])) _
            refine XS.aload X_268.here hx rfl (hb hby at_332) rfl rfl ?_
            show Steps p.tables e below (T_268.setTop (mkF m 334 #[.val (.long q1), .second, .val (.long q2), .second, .val (.long q3), .second, .val (.long q4), .second, .val (.long q5), .second, .val (.int p6), .val (.int (p6 &&& (3 : Int32))), .val (.ref b_107), .val (.ref b_119), .val (.ref b_132), .val (.ref b_146), .val (.ref b_161), .val (.ref b_177), .val (.ref b_161), .val (.ref b_119), .val (.ref b_119), .unset] [(.ref b_146), (.long ((q5 - q4) + q4))])) _
            refine XS.iconst X_268.here hx rfl (hb hby at_334) ?_
            show Steps p.tables e below (T_268.setTop (mkF m 335 #[.val (.long q1), .second, .val (.long q2), .second, .val (.long q3), .second, .val (.long q4), .second, .val (.long q5), .second, .val (.int p6), .val (.int (p6 &&& (3 : Int32))), .val (.ref b_107), .val (.ref b_119), .val (.ref b_132), .val (.ref b_146), .val (.ref b_161), .val (.ref b_177), .val (.ref b_161), .val (.ref b_119), .val (.ref b_119), .unset] [(.int (4 : Int32)), (.ref b_146), (.long ((q5 - q4) + q4))])) _
            refine X_268.laload hx (j := (4 : Int32)) (v := (.long q5)) Ar_286.1 (State.isArrayOf_alike hZ.alike Ar_286.2.1) Ar_286.2.2 hin_286 hat_286 (g := (mkF m 335 #[.val (.long q1), .second, .val (.long q2), .second, .val (.long q3), .second, .val (.long q4), .second, .val (.long q5), .second, .val (.int p6), .val (.int (p6 &&& (3 : Int32))), .val (.ref b_107), .val (.ref b_119), .val (.ref b_132), .val (.ref b_146), .val (.ref b_161), .val (.ref b_177), .val (.ref b_161), .val (.ref b_119), .val (.ref b_119), .unset] [(.int (4 : Int32)), (.ref b_146), (.long ((q5 - q4) + q4))])) rfl rfl (hb hby at_335) _ ?_
            show Steps p.tables e below (T_268.setTop (mkF m 336 #[.val (.long q1), .second, .val (.long q2), .second, .val (.long q3), .second, .val (.long q4), .second, .val (.long q5), .second, .val (.int p6), .val (.int (p6 &&& (3 : Int32))), .val (.ref b_107), .val (.ref b_119), .val (.ref b_132), .val (.ref b_146), .val (.ref b_161), .val (.ref b_177), .val (.ref b_161), .val (.ref b_119), .val (.ref b_119), .unset] [(.long q5), (.long ((q5 - q4) + q4))])) _
            refine XS.lcmp X_268.here hx rfl (hb hby at_336) rfl ?_
            show Steps p.tables e below (T_268.setTop (mkF m 337 #[.val (.long q1), .second, .val (.long q2), .second, .val (.long q3), .second, .val (.long q4), .second, .val (.long q5), .second, .val (.int p6), .val (.int (p6 &&& (3 : Int32))), .val (.ref b_107), .val (.ref b_119), .val (.ref b_132), .val (.ref b_146), .val (.ref b_161), .val (.ref b_177), .val (.ref b_161), .val (.ref b_119), .val (.ref b_119), .unset] [(.int (lcmpW ((q5 - q4) + q4) q5))])) _
            refine XS.ifNo X_268.here hx rfl (hb hby at_337) rfl ((if0 _ _).trans (teq ((lw_eq _ _).mpr (Int64.sub_add_cancel _ _ : ((q5 - q4) + q4) = q5))).2) ?_
            show Steps p.tables e below (T_268.setTop (mkF m 340 #[.val (.long q1), .second, .val (.long q2), .second, .val (.long q3), .second, .val (.long q4), .second, .val (.long q5), .second, .val (.int p6), .val (.int (p6 &&& (3 : Int32))), .val (.ref b_107), .val (.ref b_119), .val (.ref b_132), .val (.ref b_146), .val (.ref b_161), .val (.ref b_177), .val (.ref b_161), .val (.ref b_119), .val (.ref b_119), .unset] [])) _
            refine XS.iconst X_268.here hx rfl (hb hby at_340) ?_
            show Steps p.tables e below (T_268.setTop (mkF m 341 #[.val (.long q1), .second, .val (.long q2), .second, .val (.long q3), .second, .val (.long q4), .second, .val (.long q5), .second, .val (.int p6), .val (.int (p6 &&& (3 : Int32))), .val (.ref b_107), .val (.ref b_119), .val (.ref b_132), .val (.ref b_146), .val (.ref b_161), .val (.ref b_177), .val (.ref b_161), .val (.ref b_119), .val (.ref b_119), .unset] [(.int (1 : Int32))])) _
            refine XS.goto X_268.here hx rfl (pc0 := 341) (pc' := 345) rfl (hb hby at_341) (by decide) (by decide) ?_
            show Steps p.tables e below (T_268.setTop (mkF m 345 #[.val (.long q1), .second, .val (.long q2), .second, .val (.long q3), .second, .val (.long q4), .second, .val (.long q5), .second, .val (.int p6), .val (.int (p6 &&& (3 : Int32))), .val (.ref b_107), .val (.ref b_119), .val (.ref b_132), .val (.ref b_146), .val (.ref b_161), .val (.ref b_177), .val (.ref b_161), .val (.ref b_119), .val (.ref b_119), .unset] [(.int (1 : Int32))])) _
            refine XS.istore X_268.here hx rfl (hb hby at_345) rfl (l' := #[.val (.long q1), .second, .val (.long q2), .second, .val (.long q3), .second, .val (.long q4), .second, .val (.long q5), .second, .val (.int p6), .val (.int (p6 &&& (3 : Int32))), .val (.ref b_107), .val (.ref b_119), .val (.ref b_132), .val (.ref b_146), .val (.ref b_161), .val (.ref b_177), .val (.ref b_161), .val (.ref b_119), .val (.ref b_119), .val (.int (1 : Int32))]) rfl ?_
            show Steps p.tables e below (T_268.setTop (mkF m 347 #[.val (.long q1), .second, .val (.long q2), .second, .val (.long q3), .second, .val (.long q4), .second, .val (.long q5), .second, .val (.int p6), .val (.int (p6 &&& (3 : Int32))), .val (.ref b_107), .val (.ref b_119), .val (.ref b_132), .val (.ref b_146), .val (.ref b_161), .val (.ref b_177), .val (.ref b_161), .val (.ref b_119), .val (.ref b_119), .val (.int (1 : Int32))] [])) _
            refine XS.iload X_268.here hx rfl (hb hby at_347) rfl ?_
            show Steps p.tables e below (T_268.setTop (mkF m 349 #[.val (.long q1), .second, .val (.long q2), .second, .val (.long q3), .second, .val (.long q4), .second, .val (.long q5), .second, .val (.int p6), .val (.int (p6 &&& (3 : Int32))), .val (.ref b_107), .val (.ref b_119), .val (.ref b_132), .val (.ref b_146), .val (.ref b_161), .val (.ref b_177), .val (.ref b_161), .val (.ref b_119), .val (.ref b_119), .val (.int (1 : Int32))] [(.int (p6 &&& (3 : Int32)))])) _
            refine XS.ifYes X_268.here hx rfl (pc0 := 349) (pc' := 387) rfl (hb hby at_349) rfl ((if0 _ _).trans (feq hc206__212).2) (by decide) (by decide) ?_
            show Steps p.tables e below (T_268.setTop (mkF m 387 #[.val (.long q1), .second, .val (.long q2), .second, .val (.long q3), .second, .val (.long q4), .second, .val (.long q5), .second, .val (.int p6), .val (.int (p6 &&& (3 : Int32))), .val (.ref b_107), .val (.ref b_119), .val (.ref b_132), .val (.ref b_146), .val (.ref b_161), .val (.ref b_177), .val (.ref b_161), .val (.ref b_119), .val (.ref b_119), .val (.int (1 : Int32))] [])) _
            refine XS.iload X_268.here hx rfl (hb hby at_387) rfl ?_
            show Steps p.tables e below (T_268.setTop (mkF m 389 #[.val (.long q1), .second, .val (.long q2), .second, .val (.long q3), .second, .val (.long q4), .second, .val (.long q5), .second, .val (.int p6), .val (.int (p6 &&& (3 : Int32))), .val (.ref b_107), .val (.ref b_119), .val (.ref b_132), .val (.ref b_146), .val (.ref b_161), .val (.ref b_177), .val (.ref b_161), .val (.ref b_119), .val (.ref b_119), .val (.int (1 : Int32))] [(.int (p6 &&& (3 : Int32)))])) _
            refine XS.iconst X_268.here hx rfl (hb hby at_389) ?_
            show Steps p.tables e below (T_268.setTop (mkF m 390 #[.val (.long q1), .second, .val (.long q2), .second, .val (.long q3), .second, .val (.long q4), .second, .val (.long q5), .second, .val (.int p6), .val (.int (p6 &&& (3 : Int32))), .val (.ref b_107), .val (.ref b_119), .val (.ref b_132), .val (.ref b_146), .val (.ref b_161), .val (.ref b_177), .val (.ref b_161), .val (.ref b_119), .val (.ref b_119), .val (.int (1 : Int32))] [(.int (1 : Int32)), (.int (p6 &&& (3 : Int32)))])) _
            refine XS.icmpYes X_268.here hx rfl (pc0 := 390) (pc' := 418) rfl (hb hby at_390) rfl (feq hc219__240).2 (by decide) (by decide) ?_
            show Steps p.tables e below (T_268.setTop (mkF m 418 #[.val (.long q1), .second, .val (.long q2), .second, .val (.long q3), .second, .val (.long q4), .second, .val (.long q5), .second, .val (.int p6), .val (.int (p6 &&& (3 : Int32))), .val (.ref b_107), .val (.ref b_119), .val (.ref b_132), .val (.ref b_146), .val (.ref b_161), .val (.ref b_177), .val (.ref b_161), .val (.ref b_119), .val (.ref b_119), .val (.int (1 : Int32))] [])) _
            refine XS.iload X_268.here hx rfl (hb hby at_418) rfl ?_
            show Steps p.tables e below (T_268.setTop (mkF m 420 #[.val (.long q1), .second, .val (.long q2), .second, .val (.long q3), .second, .val (.long q4), .second, .val (.long q5), .second, .val (.int p6), .val (.int (p6 &&& (3 : Int32))), .val (.ref b_107), .val (.ref b_119), .val (.ref b_132), .val (.ref b_146), .val (.ref b_161), .val (.ref b_177), .val (.ref b_161), .val (.ref b_119), .val (.ref b_119), .val (.int (1 : Int32))] [(.int (p6 &&& (3 : Int32)))])) _
            refine XS.iconst X_268.here hx rfl (hb hby at_420) ?_
            show Steps p.tables e below (T_268.setTop (mkF m 421 #[.val (.long q1), .second, .val (.long q2), .second, .val (.long q3), .second, .val (.long q4), .second, .val (.long q5), .second, .val (.int p6), .val (.int (p6 &&& (3 : Int32))), .val (.ref b_107), .val (.ref b_119), .val (.ref b_132), .val (.ref b_146), .val (.ref b_161), .val (.ref b_177), .val (.ref b_161), .val (.ref b_119), .val (.ref b_119), .val (.int (1 : Int32))] [(.int (2 : Int32)), (.int (p6 &&& (3 : Int32)))])) _
            refine XS.icmpNo X_268.here hx rfl (hb hby at_421) rfl (teq hc232__265).2 ?_
            show Steps p.tables e below (T_268.setTop (mkF m 424 #[.val (.long q1), .second, .val (.long q2), .second, .val (.long q3), .second, .val (.long q4), .second, .val (.long q5), .second, .val (.int p6), .val (.int (p6 &&& (3 : Int32))), .val (.ref b_107), .val (.ref b_119), .val (.ref b_132), .val (.ref b_146), .val (.ref b_161), .val (.ref b_177), .val (.ref b_161), .val (.ref b_119), .val (.ref b_119), .val (.int (1 : Int32))] [])) _
            refine XS.iload X_268.here hx rfl (hb hby at_424) rfl ?_
            show Steps p.tables e below (T_268.setTop (mkF m 426 #[.val (.long q1), .second, .val (.long q2), .second, .val (.long q3), .second, .val (.long q4), .second, .val (.long q5), .second, .val (.int p6), .val (.int (p6 &&& (3 : Int32))), .val (.ref b_107), .val (.ref b_119), .val (.ref b_132), .val (.ref b_146), .val (.ref b_161), .val (.ref b_177), .val (.ref b_161), .val (.ref b_119), .val (.ref b_119), .val (.int (1 : Int32))] [(.int (1 : Int32))])) _
            refine XS.ifNo X_268.here hx rfl (hb hby at_426) rfl ((if0 _ _).trans (feq (by decide : ¬ ((1 : Int32) = (0 : Int32)))).1) ?_
            show Steps p.tables e below (T_268.setTop (mkF m 429 #[.val (.long q1), .second, .val (.long q2), .second, .val (.long q3), .second, .val (.long q4), .second, .val (.long q5), .second, .val (.int p6), .val (.int (p6 &&& (3 : Int32))), .val (.ref b_107), .val (.ref b_119), .val (.ref b_132), .val (.ref b_146), .val (.ref b_161), .val (.ref b_177), .val (.ref b_161), .val (.ref b_119), .val (.ref b_119), .val (.int (1 : Int32))] [])) _
            refine XS.aload X_268.here hx rfl (hb hby at_429) rfl rfl ?_
            show Steps p.tables e below (T_268.setTop (mkF m 431 #[.val (.long q1), .second, .val (.long q2), .second, .val (.long q3), .second, .val (.long q4), .second, .val (.long q5), .second, .val (.int p6), .val (.int (p6 &&& (3 : Int32))), .val (.ref b_107), .val (.ref b_119), .val (.ref b_132), .val (.ref b_146), .val (.ref b_161), .val (.ref b_177), .val (.ref b_161), .val (.ref b_119), .val (.ref b_119), .val (.int (1 : Int32))] [(.ref b_107)])) _
            refine XS.aload X_268.here hx rfl (hb hby at_431) rfl rfl ?_
            show Steps p.tables e below (T_268.setTop (mkF m 433 #[.val (.long q1), .second, .val (.long q2), .second, .val (.long q3), .second, .val (.long q4), .second, .val (.long q5), .second, .val (.int p6), .val (.int (p6 &&& (3 : Int32))), .val (.ref b_107), .val (.ref b_119), .val (.ref b_132), .val (.ref b_146), .val (.ref b_161), .val (.ref b_177), .val (.ref b_161), .val (.ref b_119), .val (.ref b_119), .val (.int (1 : Int32))] [(.ref b_146), (.ref b_107)])) _
            refine st_288 _ ?_
            show Steps p.tables e below (T_288.setTop (mkF m 436 #[.val (.long q1), .second, .val (.long q2), .second, .val (.long q3), .second, .val (.long q4), .second, .val (.long q5), .second, .val (.int p6), .val (.int (p6 &&& (3 : Int32))), .val (.ref b_107), .val (.ref b_119), .val (.ref b_132), .val (.ref b_146), .val (.ref b_161), .val (.ref b_177), .val (.ref b_161), .val (.ref b_119), .val (.ref b_119), .val (.int (1 : Int32))] [(.int (1 : Int32))])) _
            refine XS.ifNo X_288.here hx rfl (hb hby at_436) rfl ((if0 _ _).trans (feq (by decide : ¬ ((1 : Int32) = (0 : Int32)))).1) ?_
            show Steps p.tables e below (T_288.setTop (mkF m 439 #[.val (.long q1), .second, .val (.long q2), .second, .val (.long q3), .second, .val (.long q4), .second, .val (.long q5), .second, .val (.int p6), .val (.int (p6 &&& (3 : Int32))), .val (.ref b_107), .val (.ref b_119), .val (.ref b_132), .val (.ref b_146), .val (.ref b_161), .val (.ref b_177), .val (.ref b_161), .val (.ref b_119), .val (.ref b_119), .val (.int (1 : Int32))] [])) _
            refine XS.iconst X_288.here hx rfl (hb hby at_439) ?_
            show Steps p.tables e below (T_288.setTop (mkF m 440 #[.val (.long q1), .second, .val (.long q2), .second, .val (.long q3), .second, .val (.long q4), .second, .val (.long q5), .second, .val (.int p6), .val (.int (p6 &&& (3 : Int32))), .val (.ref b_107), .val (.ref b_119), .val (.ref b_132), .val (.ref b_146), .val (.ref b_161), .val (.ref b_177), .val (.ref b_161), .val (.ref b_119), .val (.ref b_119), .val (.int (1 : Int32))] [(.int (1 : Int32))])) _
            refine XS.goto X_288.here hx rfl (pc0 := 440) (pc' := 444) rfl (hb hby at_440) (by decide) (by decide) ?_
            show Steps p.tables e below (T_288.setTop (mkF m 444 #[.val (.long q1), .second, .val (.long q2), .second, .val (.long q3), .second, .val (.long q4), .second, .val (.long q5), .second, .val (.int p6), .val (.int (p6 &&& (3 : Int32))), .val (.ref b_107), .val (.ref b_119), .val (.ref b_132), .val (.ref b_146), .val (.ref b_161), .val (.ref b_177), .val (.ref b_161), .val (.ref b_119), .val (.ref b_119), .val (.int (1 : Int32))] [(.int (1 : Int32))])) _
            refine XS.istore X_288.here hx rfl (hb hby at_444) rfl (l' := #[.val (.long q1), .second, .val (.long q2), .second, .val (.long q3), .second, .val (.long q4), .second, .val (.long q5), .second, .val (.int p6), .val (.int (p6 &&& (3 : Int32))), .val (.ref b_107), .val (.ref b_119), .val (.ref b_132), .val (.ref b_146), .val (.ref b_161), .val (.ref b_177), .val (.ref b_161), .val (.ref b_119), .val (.ref b_119), .val (.int (1 : Int32))]) rfl ?_
            show Steps p.tables e below (T_288.setTop (mkF m 446 #[.val (.long q1), .second, .val (.long q2), .second, .val (.long q3), .second, .val (.long q4), .second, .val (.long q5), .second, .val (.int p6), .val (.int (p6 &&& (3 : Int32))), .val (.ref b_107), .val (.ref b_119), .val (.ref b_132), .val (.ref b_146), .val (.ref b_161), .val (.ref b_177), .val (.ref b_161), .val (.ref b_119), .val (.ref b_119), .val (.int (1 : Int32))] [])) _
            refine XS.iload X_288.here hx rfl (hb hby at_446) rfl ?_
            show Steps p.tables e below (T_288.setTop (mkF m 448 #[.val (.long q1), .second, .val (.long q2), .second, .val (.long q3), .second, .val (.long q4), .second, .val (.long q5), .second, .val (.int p6), .val (.int (p6 &&& (3 : Int32))), .val (.ref b_107), .val (.ref b_119), .val (.ref b_132), .val (.ref b_146), .val (.ref b_161), .val (.ref b_177), .val (.ref b_161), .val (.ref b_119), .val (.ref b_119), .val (.int (1 : Int32))] [(.int (1 : Int32))])) _
            exact retN X_288 hx (t := .boolean) Bd.returns (by simp) (hb hby at_448) hr
          · show Q0 Z q1 q2 q3 q4 q5 p6 h0 n0 _ T_288.heap _
            rw [e_288]
            exact ⟨rfl, N_288⟩
        · have f_289 : Arv Z h_187 b_107 k_107 .long (5 : Int32) [(.long q1), (.long q2), (.long q3), (.long q4), (.long q5)] (.long (0 : Int64)) := ((((((f_173.ext E_177).other W_179 ne_b_107_b_177).other W_181 ne_b_107_b_177).other W_183 ne_b_107_b_177).other W_185 ne_b_107_b_177).other W_187 ne_b_107_b_177)
          have f_290 : Arv Z h_187 b_119 k_119 .long (5 : Int32) [(.long q3), (.long q5), (.long q1), (.long q2), (.long q4)] (.long (0 : Int64)) := ((((((f_174.ext E_177).other W_179 ne_b_119_b_177).other W_181 ne_b_119_b_177).other W_183 ne_b_119_b_177).other W_185 ne_b_119_b_177).other W_187 ne_b_119_b_177)
          obtain ⟨_, _, ⟨T_291, L_291, k_291, n_291⟩, -, X_291, ⟨Lc_291, hQ_291, l_291, y_291, z_291⟩, st_291⟩ := Jvm.LawKit.callS X_187 hx (y := (⟨"com/example/latchet/latchet/Field25519", "sub", "([J[J[J)V"⟩ : MethodName)) hown (mvT hZ (hw _ (List.mem_of_getElem? (i := 1) rfl))) (mvT hZ (hw _ (List.mem_of_getElem? (i := 2) rfl))) (mvT hZ (hw _ (List.mem_of_getElem? (i := 3) rfl))) (mvT hZ (hw _ (List.mem_of_getElem? (i := 4) rfl))) (by decide) (backOf (W := 0) (rm1b l Z a0 hw [] b_107 b_119 k_107 k_119 q1 q2 q3 q4 q5 q3 q5 q1 q2 q4 h_187 n0 z_188 f_289 f_290 g_b_107 (Ne.symm ne_b_107_b_119)) hZ (hw _ (List.mem_of_getElem? (i := 4) rfl)) (hw _ (List.mem_of_getElem? (i := 3) rfl)) (by decide) (by decide)) (g := (mkF m 252 #[.val (.long q1), .second, .val (.long q2), .second, .val (.long q3), .second, .val (.long q4), .second, .val (.long q5), .second, .val (.int p6), .val (.int (p6 &&& (3 : Int32))), .val (.ref b_107), .val (.ref b_119), .val (.ref b_132), .val (.ref b_146), .val (.ref b_161), .val (.ref b_177), .val (.ref b_161), .val (.ref b_119), .val (.ref b_107), .unset] [(.ref b_119), (.ref b_107), (.ref b_107)])) rfl (by rw [hml]; rfl) (argsL := [(.ref b_107), (.ref b_107), (.ref b_119)]) (rest := []) (lenOf pd_0 rfl) rfl (by show 2 * 0 + _ ≤ _; exact Nat.le_of_eq rfl) (hb hby at_252) (fun _ _ => ⟨rfl, e_187, (by decide : 6 + 0 ≤ _), (by decide : 30 + 0 ≤ _)⟩)
          dsimp only [Pt.U, Pt.locs, Pt.cells, Pt.slots] at X_291 l_291 y_291 z_291 st_291 hQ_291
          replace X_291 := castS l_291 y_291 z_291 X_291
          obtain ⟨rfl, Nq_291, K_291, po_291_0⟩ := hQ_291
          have z_292 : n0 ≤ T_291.heap.size := Nat.le_trans z_188 K_291.1
          have N_291 := Fr.app N_187 Nq_291
          obtain ⟨cl_293, Ar_293, q_293, S_293, M_293, H_293, G_293⟩ := id po_291_0
          have hin_293 : ¬ ((0 : Int32) < 0 ∨ cl_293.slots.size ≤ ((0 : Int32)).toNatClampNeg) := inb_of S_293 ⟨by decide, by decide⟩
          have hat_293 : cl_293.slots[((0 : Int32)).toNatClampNeg]? = some (.long (q1 - q3)) := H_293.at hin_293 rfl
          have f_294 : Arv Z T_291.heap b_161 k_161 .long (5 : Int32) [(.long q3), (.long q5), (.long q1), (.long q2), (.long q4)] (.long (0 : Int64)) := (((((((V_171.ext E_177).other W_179 ne_b_161_b_177).other W_181 ne_b_161_b_177).other W_183 ne_b_161_b_177).other W_185 ne_b_161_b_177).other W_187 ne_b_161_b_177).keep K_291 (ninS (Ne.symm ne_b_107_b_161) nin0))
          obtain ⟨cl_295, Ar_295, q_295, S_295, M_295, H_295, G_295⟩ := id f_294
          have hin_295 : ¬ ((0 : Int32) < 0 ∨ cl_295.slots.size ≤ ((0 : Int32)).toNatClampNeg) := inb_of S_295 ⟨by decide, by decide⟩
          have hat_295 : cl_295.slots[((0 : Int32)).toNatClampNeg]? = some (.long q3) := H_295.at hin_295 rfl
          have f_296 : Arv Z T_291.heap b_146 k_146 .long (5 : Int32) [(.long q1), (.long q2), (.long q3), (.long q4), (.long q5)] (.long (0 : Int64)) := (((((((f_176.ext E_177).other W_179 ne_b_146_b_177).other W_181 ne_b_146_b_177).other W_183 ne_b_146_b_177).other W_185 ne_b_146_b_177).other W_187 ne_b_146_b_177).keep K_291 (ninS (Ne.symm ne_b_107_b_146) nin0))
          obtain ⟨cl_297, Ar_297, q_297, S_297, M_297, H_297, G_297⟩ := id f_296
          have hin_297 : ¬ ((0 : Int32) < 0 ∨ cl_297.slots.size ≤ ((0 : Int32)).toNatClampNeg) := inb_of S_297 ⟨by decide, by decide⟩
          have hat_297 : cl_297.slots[((0 : Int32)).toNatClampNeg]? = some (.long q1) := H_297.at hin_297 rfl
          obtain ⟨cl_298, Ar_298, q_298, S_298, M_298, H_298, G_298⟩ := id po_291_0
          have hin_298 : ¬ ((1 : Int32) < 0 ∨ cl_298.slots.size ≤ ((1 : Int32)).toNatClampNeg) := inb_of S_298 ⟨by decide, by decide⟩
          have hat_298 : cl_298.slots[((1 : Int32)).toNatClampNeg]? = some (.long (q2 - q5)) := H_298.at hin_298 rfl
          obtain ⟨cl_299, Ar_299, q_299, S_299, M_299, H_299, G_299⟩ := id f_294
          have hin_299 : ¬ ((1 : Int32) < 0 ∨ cl_299.slots.size ≤ ((1 : Int32)).toNatClampNeg) := inb_of S_299 ⟨by decide, by decide⟩
          have hat_299 : cl_299.slots[((1 : Int32)).toNatClampNeg]? = some (.long q5) := H_299.at hin_299 rfl
          obtain ⟨cl_300, Ar_300, q_300, S_300, M_300, H_300, G_300⟩ := id f_296
          have hin_300 : ¬ ((1 : Int32) < 0 ∨ cl_300.slots.size ≤ ((1 : Int32)).toNatClampNeg) := inb_of S_300 ⟨by decide, by decide⟩
          have hat_300 : cl_300.slots[((1 : Int32)).toNatClampNeg]? = some (.long q2) := H_300.at hin_300 rfl
          obtain ⟨cl_301, Ar_301, q_301, S_301, M_301, H_301, G_301⟩ := id po_291_0
          have hin_301 : ¬ ((2 : Int32) < 0 ∨ cl_301.slots.size ≤ ((2 : Int32)).toNatClampNeg) := inb_of S_301 ⟨by decide, by decide⟩
          have hat_301 : cl_301.slots[((2 : Int32)).toNatClampNeg]? = some (.long (q3 - q1)) := H_301.at hin_301 rfl
          obtain ⟨cl_302, Ar_302, q_302, S_302, M_302, H_302, G_302⟩ := id f_294
          have hin_302 : ¬ ((2 : Int32) < 0 ∨ cl_302.slots.size ≤ ((2 : Int32)).toNatClampNeg) := inb_of S_302 ⟨by decide, by decide⟩
          have hat_302 : cl_302.slots[((2 : Int32)).toNatClampNeg]? = some (.long q1) := H_302.at hin_302 rfl
          obtain ⟨cl_303, Ar_303, q_303, S_303, M_303, H_303, G_303⟩ := id f_296
          have hin_303 : ¬ ((2 : Int32) < 0 ∨ cl_303.slots.size ≤ ((2 : Int32)).toNatClampNeg) := inb_of S_303 ⟨by decide, by decide⟩
          have hat_303 : cl_303.slots[((2 : Int32)).toNatClampNeg]? = some (.long q3) := H_303.at hin_303 rfl
          obtain ⟨cl_304, Ar_304, q_304, S_304, M_304, H_304, G_304⟩ := id po_291_0
          have hin_304 : ¬ ((3 : Int32) < 0 ∨ cl_304.slots.size ≤ ((3 : Int32)).toNatClampNeg) := inb_of S_304 ⟨by decide, by decide⟩
          have hat_304 : cl_304.slots[((3 : Int32)).toNatClampNeg]? = some (.long (q4 - q2)) := H_304.at hin_304 rfl
          obtain ⟨cl_305, Ar_305, q_305, S_305, M_305, H_305, G_305⟩ := id f_294
          have hin_305 : ¬ ((3 : Int32) < 0 ∨ cl_305.slots.size ≤ ((3 : Int32)).toNatClampNeg) := inb_of S_305 ⟨by decide, by decide⟩
          have hat_305 : cl_305.slots[((3 : Int32)).toNatClampNeg]? = some (.long q2) := H_305.at hin_305 rfl
          obtain ⟨cl_306, Ar_306, q_306, S_306, M_306, H_306, G_306⟩ := id f_296
          have hin_306 : ¬ ((3 : Int32) < 0 ∨ cl_306.slots.size ≤ ((3 : Int32)).toNatClampNeg) := inb_of S_306 ⟨by decide, by decide⟩
          have hat_306 : cl_306.slots[((3 : Int32)).toNatClampNeg]? = some (.long q4) := H_306.at hin_306 rfl
          obtain ⟨cl_307, Ar_307, q_307, S_307, M_307, H_307, G_307⟩ := id po_291_0
          have hin_307 : ¬ ((4 : Int32) < 0 ∨ cl_307.slots.size ≤ ((4 : Int32)).toNatClampNeg) := inb_of S_307 ⟨by decide, by decide⟩
          have hat_307 : cl_307.slots[((4 : Int32)).toNatClampNeg]? = some (.long (q5 - q4)) := H_307.at hin_307 rfl
          obtain ⟨cl_308, Ar_308, q_308, S_308, M_308, H_308, G_308⟩ := id f_294
          have hin_308 : ¬ ((4 : Int32) < 0 ∨ cl_308.slots.size ≤ ((4 : Int32)).toNatClampNeg) := inb_of S_308 ⟨by decide, by decide⟩
          have hat_308 : cl_308.slots[((4 : Int32)).toNatClampNeg]? = some (.long q4) := H_308.at hin_308 rfl
          obtain ⟨cl_309, Ar_309, q_309, S_309, M_309, H_309, G_309⟩ := id f_296
          have hin_309 : ¬ ((4 : Int32) < 0 ∨ cl_309.slots.size ≤ ((4 : Int32)).toNatClampNeg) := inb_of S_309 ⟨by decide, by decide⟩
          have hat_309 : cl_309.slots[((4 : Int32)).toNatClampNeg]? = some (.long q5) := H_309.at hin_309 rfl
          obtain ⟨fs, hr, hrun, hended, hW, hsame⟩ := X_291.leave (v := some (.int (1 : Int32))) (fun h => by rw [Bd.returns] at h; cases h)
          refine ⟨_, _, pre_264 _ ?_, hrun, hended, _, _, rfl, ?_, ⟨_, rfl⟩, hW, hsame.mono (by decide) (by decide)⟩
          · show Steps p.tables e below (T_187.setTop (mkF m 232 #[.val (.long q1), .second, .val (.long q2), .second, .val (.long q3), .second, .val (.long q4), .second, .val (.long q5), .second, .val (.int p6), .val (.int (p6 &&& (3 : Int32))), .val (.ref b_107), .val (.ref b_119), .val (.ref b_132), .val (.ref b_146), .val (.ref b_161), .val (.ref b_177), .val (.ref b_161), .val (.ref b_119), .unset, .unset] [(.int (2 : Int32)), (.int (p6 &&& (3 : Int32)))])) _
            refine XS.icmpYes X_187.here hx rfl (pc0 := 232) (pc' := 242) rfl (hb hby at_232) rfl (feq hc232__265).2 (by decide) (by decide) ?_
            show Steps p.tables e below (T_187.setTop (mkF m 242 #[.val (.long q1), .second, .val (.long q2), .second, .val (.long q3), .second, .val (.long q4), .second, .val (.long q5), .second, .val (.int p6), .val (.int (p6 &&& (3 : Int32))), .val (.ref b_107), .val (.ref b_119), .val (.ref b_132), .val (.ref b_146), .val (.ref b_161), .val (.ref b_177), .val (.ref b_161), .val (.ref b_119), .unset, .unset] [])) _
            refine XS.aload X_187.here hx rfl (hb hby at_242) rfl rfl ?_
            show Steps p.tables e below (T_187.setTop (mkF m 244 #[.val (.long q1), .second, .val (.long q2), .second, .val (.long q3), .second, .val (.long q4), .second, .val (.long q5), .second, .val (.int p6), .val (.int (p6 &&& (3 : Int32))), .val (.ref b_107), .val (.ref b_119), .val (.ref b_132), .val (.ref b_146), .val (.ref b_161), .val (.ref b_177), .val (.ref b_161), .val (.ref b_119), .unset, .unset] [(.ref b_107)])) _
            refine XS.astore X_187.here hx rfl (hb hby at_244) rfl rfl (l' := #[.val (.long q1), .second, .val (.long q2), .second, .val (.long q3), .second, .val (.long q4), .second, .val (.long q5), .second, .val (.int p6), .val (.int (p6 &&& (3 : Int32))), .val (.ref b_107), .val (.ref b_119), .val (.ref b_132), .val (.ref b_146), .val (.ref b_161), .val (.ref b_177), .val (.ref b_161), .val (.ref b_119), .val (.ref b_107), .unset]) rfl ?_
            show Steps p.tables e below (T_187.setTop (mkF m 246 #[.val (.long q1), .second, .val (.long q2), .second, .val (.long q3), .second, .val (.long q4), .second, .val (.long q5), .second, .val (.int p6), .val (.int (p6 &&& (3 : Int32))), .val (.ref b_107), .val (.ref b_119), .val (.ref b_132), .val (.ref b_146), .val (.ref b_161), .val (.ref b_177), .val (.ref b_161), .val (.ref b_119), .val (.ref b_107), .unset] [])) _
            refine XS.aload X_187.here hx rfl (hb hby at_246) rfl rfl ?_
            show Steps p.tables e below (T_187.setTop (mkF m 248 #[.val (.long q1), .second, .val (.long q2), .second, .val (.long q3), .second, .val (.long q4), .second, .val (.long q5), .second, .val (.int p6), .val (.int (p6 &&& (3 : Int32))), .val (.ref b_107), .val (.ref b_119), .val (.ref b_132), .val (.ref b_146), .val (.ref b_161), .val (.ref b_177), .val (.ref b_161), .val (.ref b_119), .val (.ref b_107), .unset] [(.ref b_107)])) _
            refine XS.aload X_187.here hx rfl (hb hby at_248) rfl rfl ?_
            show Steps p.tables e below (T_187.setTop (mkF m 250 #[.val (.long q1), .second, .val (.long q2), .second, .val (.long q3), .second, .val (.long q4), .second, .val (.long q5), .second, .val (.int p6), .val (.int (p6 &&& (3 : Int32))), .val (.ref b_107), .val (.ref b_119), .val (.ref b_132), .val (.ref b_146), .val (.ref b_161), .val (.ref b_177), .val (.ref b_161), .val (.ref b_119), .val (.ref b_107), .unset] [(.ref b_107), (.ref b_107)])) _
            refine XS.aload X_187.here hx rfl (hb hby at_250) rfl rfl ?_
            show Steps p.tables e below (T_187.setTop (mkF m 252 #[.val (.long q1), .second, .val (.long q2), .second, .val (.long q3), .second, .val (.long q4), .second, .val (.long q5), .second, .val (.int p6), .val (.int (p6 &&& (3 : Int32))), .val (.ref b_107), .val (.ref b_119), .val (.ref b_132), .val (.ref b_146), .val (.ref b_161), .val (.ref b_177), .val (.ref b_161), .val (.ref b_119), .val (.ref b_107), .unset] [(.ref b_119), (.ref b_107), (.ref b_107)])) _
            refine st_291 _ ?_
            show Steps p.tables e below (T_291.setTop (mkF m 255 #[.val (.long q1), .second, .val (.long q2), .second, .val (.long q3), .second, .val (.long q4), .second, .val (.long q5), .second, .val (.int p6), .val (.int (p6 &&& (3 : Int32))), .val (.ref b_107), .val (.ref b_119), .val (.ref b_132), .val (.ref b_146), .val (.ref b_161), .val (.ref b_177), .val (.ref b_161), .val (.ref b_119), .val (.ref b_107), .unset] [])) _
            refine XS.aload X_291.here hx rfl (hb hby at_255) rfl rfl ?_
            show Steps p.tables e below (T_291.setTop (mkF m 257 #[.val (.long q1), .second, .val (.long q2), .second, .val (.long q3), .second, .val (.long q4), .second, .val (.long q5), .second, .val (.int p6), .val (.int (p6 &&& (3 : Int32))), .val (.ref b_107), .val (.ref b_119), .val (.ref b_132), .val (.ref b_146), .val (.ref b_161), .val (.ref b_177), .val (.ref b_161), .val (.ref b_119), .val (.ref b_107), .unset] [(.ref b_107)])) _
            refine XS.iconst X_291.here hx rfl (hb hby at_257) ?_
            show Steps p.tables e below (T_291.setTop (mkF m 258 #[.val (.long q1), .second, .val (.long q2), .second, .val (.long q3), .second, .val (.long q4), .second, .val (.long q5), .second, .val (.int p6), .val (.int (p6 &&& (3 : Int32))), .val (.ref b_107), .val (.ref b_119), .val (.ref b_132), .val (.ref b_146), .val (.ref b_161), .val (.ref b_177), .val (.ref b_161), .val (.ref b_119), .val (.ref b_107), .unset] [(.int (0 : Int32)), (.ref b_107)])) _
            refine X_291.laload hx (j := (0 : Int32)) (v := (.long (q1 - q3))) Ar_293.1 (State.isArrayOf_alike hZ.alike Ar_293.2.1) Ar_293.2.2 hin_293 hat_293 (g := (mkF m 258 #[.val (.long q1), .second, .val (.long q2), .second, .val (.long q3), .second, .val (.long q4), .second, .val (.long q5), .second, .val (.int p6), .val (.int (p6 &&& (3 : Int32))), .val (.ref b_107), .val (.ref b_119), .val (.ref b_132), .val (.ref b_146), .val (.ref b_161), .val (.ref b_177), .val (.ref b_161), .val (.ref b_119), .val (.ref b_107), .unset] [(.int (0 : Int32)), (.ref b_107)])) rfl rfl (hb hby at_258) _ ?_
            show Steps p.tables e below (T_291.setTop (mkF m 259 #[.val (.long q1), .second, .val (.long q2), .second, .val (.long q3), .second, .val (.long q4), .second, .val (.long q5), .second, .val (.int p6), .val (.int (p6 &&& (3 : Int32))), .val (.ref b_107), .val (.ref b_119), .val (.ref b_132), .val (.ref b_146), .val (.ref b_161), .val (.ref b_177), .val (.ref b_161), .val (.ref b_119), .val (.ref b_107), .unset] [(.long (q1 - q3))])) _
            refine XS.aload X_291.here hx rfl (hb hby at_259) rfl rfl ?_
            show Steps p.tables e below (T_291.setTop (mkF m 261 #[.val (.long q1), .second, .val (.long q2), .second, .val (.long q3), .second, .val (.long q4), .second, .val (.long q5), .second, .val (.int p6), .val (.int (p6 &&& (3 : Int32))), .val (.ref b_107), .val (.ref b_119), .val (.ref b_132), .val (.ref b_146), .val (.ref b_161), .val (.ref b_177), .val (.ref b_161), .val (.ref b_119), .val (.ref b_107), .unset] [(.ref b_161), (.long (q1 - q3))])) _
            refine XS.iconst X_291.here hx rfl (hb hby at_261) ?_
            show Steps p.tables e below (T_291.setTop (mkF m 262 #[.val (.long q1), .second, .val (.long q2), .second, .val (.long q3), .second, .val (.long q4), .second, .val (.long q5), .second, .val (.int p6), .val (.int (p6 &&& (3 : Int32))), .val (.ref b_107), .val (.ref b_119), .val (.ref b_132), .val (.ref b_146), .val (.ref b_161), .val (.ref b_177), .val (.ref b_161), .val (.ref b_119), .val (.ref b_107), .unset] [(.int (0 : Int32)), (.ref b_161), (.long (q1 - q3))])) _
            refine X_291.laload hx (j := (0 : Int32)) (v := (.long q3)) Ar_295.1 (State.isArrayOf_alike hZ.alike Ar_295.2.1) Ar_295.2.2 hin_295 hat_295 (g := (mkF m 262 #[.val (.long q1), .second, .val (.long q2), .second, .val (.long q3), .second, .val (.long q4), .second, .val (.long q5), .second, .val (.int p6), .val (.int (p6 &&& (3 : Int32))), .val (.ref b_107), .val (.ref b_119), .val (.ref b_132), .val (.ref b_146), .val (.ref b_161), .val (.ref b_177), .val (.ref b_161), .val (.ref b_119), .val (.ref b_107), .unset] [(.int (0 : Int32)), (.ref b_161), (.long (q1 - q3))])) rfl rfl (hb hby at_262) _ ?_
            show Steps p.tables e below (T_291.setTop (mkF m 263 #[.val (.long q1), .second, .val (.long q2), .second, .val (.long q3), .second, .val (.long q4), .second, .val (.long q5), .second, .val (.int p6), .val (.int (p6 &&& (3 : Int32))), .val (.ref b_107), .val (.ref b_119), .val (.ref b_132), .val (.ref b_146), .val (.ref b_161), .val (.ref b_177), .val (.ref b_161), .val (.ref b_119), .val (.ref b_107), .unset] [(.long q3), (.long (q1 - q3))])) _
            refine XS.ladd X_291.here hx rfl (hb hby at_263) rfl ?_
            show Steps p.tables e below (T_291.setTop (mkF m 264 #[.val (.long q1), .second, .val (.long q2), .second, .val (.long q3), .second, .val (.long q4), .second, .val (.long q5), .second, .val (.int p6), .val (.int (p6 &&& (3 : Int32))), .val (.ref b_107), .val (.ref b_119), .val (.ref b_132), .val (.ref b_146), .val (.ref b_161), .val (.ref b_177), .val (.ref b_161), .val (.ref b_119), .val (.ref b_107), .unset] [(.long ((q1 - q3) + q3))])) _
            refine XS.aload X_291.here hx rfl (hb hby at_264) rfl rfl ?_
            show Steps p.tables e below (T_291.setTop (mkF m 266 #[.val (.long q1), .second, .val (.long q2), .second, .val (.long q3), .second, .val (.long q4), .second, .val (.long q5), .second, .val (.int p6), .val (.int (p6 &&& (3 : Int32))), .val (.ref b_107), .val (.ref b_119), .val (.ref b_132), .val (.ref b_146), .val (.ref b_161), .val (.ref b_177), .val (.ref b_161), .val (.ref b_119), .val (.ref b_107), .unset] [(.ref b_146), (.long ((q1 - q3) + q3))])) _
            refine XS.iconst X_291.here hx rfl (hb hby at_266) ?_
            show Steps p.tables e below (T_291.setTop (mkF m 267 #[.val (.long q1), .second, .val (.long q2), .second, .val (.long q3), .second, .val (.long q4), .second, .val (.long q5), .second, .val (.int p6), .val (.int (p6 &&& (3 : Int32))), .val (.ref b_107), .val (.ref b_119), .val (.ref b_132), .val (.ref b_146), .val (.ref b_161), .val (.ref b_177), .val (.ref b_161), .val (.ref b_119), .val (.ref b_107), .unset] [(.int (0 : Int32)), (.ref b_146), (.long ((q1 - q3) + q3))])) _
            refine X_291.laload hx (j := (0 : Int32)) (v := (.long q1)) Ar_297.1 (State.isArrayOf_alike hZ.alike Ar_297.2.1) Ar_297.2.2 hin_297 hat_297 (g := (mkF m 267 #[.val (.long q1), .second, .val (.long q2), .second, .val (.long q3), .second, .val (.long q4), .second, .val (.long q5), .second, .val (.int p6), .val (.int (p6 &&& (3 : Int32))), .val (.ref b_107), .val (.ref b_119), .val (.ref b_132), .val (.ref b_146), .val (.ref b_161), .val (.ref b_177), .val (.ref b_161), .val (.ref b_119), .val (.ref b_107), .unset] [(.int (0 : Int32)), (.ref b_146), (.long ((q1 - q3) + q3))])) rfl rfl (hb hby at_267) _ ?_
            show Steps p.tables e below (T_291.setTop (mkF m 268 #[.val (.long q1), .second, .val (.long q2), .second, .val (.long q3), .second, .val (.long q4), .second, .val (.long q5), .second, .val (.int p6), .val (.int (p6 &&& (3 : Int32))), .val (.ref b_107), .val (.ref b_119), .val (.ref b_132), .val (.ref b_146), .val (.ref b_161), .val (.ref b_177), .val (.ref b_161), .val (.ref b_119), .val (.ref b_107), .unset] [(.long q1), (.long ((q1 - q3) + q3))])) _
            refine XS.lcmp X_291.here hx rfl (hb hby at_268) rfl ?_
            show Steps p.tables e below (T_291.setTop (mkF m 269 #[.val (.long q1), .second, .val (.long q2), .second, .val (.long q3), .second, .val (.long q4), .second, .val (.long q5), .second, .val (.int p6), .val (.int (p6 &&& (3 : Int32))), .val (.ref b_107), .val (.ref b_119), .val (.ref b_132), .val (.ref b_146), .val (.ref b_161), .val (.ref b_177), .val (.ref b_161), .val (.ref b_119), .val (.ref b_107), .unset] [(.int (lcmpW ((q1 - q3) + q3) q1))])) _
            refine XS.ifNo X_291.here hx rfl (hb hby at_269) rfl ((if0 _ _).trans (teq ((lw_eq _ _).mpr (Int64.sub_add_cancel _ _ : ((q1 - q3) + q3) = q1))).2) ?_
            show Steps p.tables e below (T_291.setTop (mkF m 272 #[.val (.long q1), .second, .val (.long q2), .second, .val (.long q3), .second, .val (.long q4), .second, .val (.long q5), .second, .val (.int p6), .val (.int (p6 &&& (3 : Int32))), .val (.ref b_107), .val (.ref b_119), .val (.ref b_132), .val (.ref b_146), .val (.ref b_161), .val (.ref b_177), .val (.ref b_161), .val (.ref b_119), .val (.ref b_107), .unset] [])) _
            refine XS.aload X_291.here hx rfl (hb hby at_272) rfl rfl ?_
            show Steps p.tables e below (T_291.setTop (mkF m 274 #[.val (.long q1), .second, .val (.long q2), .second, .val (.long q3), .second, .val (.long q4), .second, .val (.long q5), .second, .val (.int p6), .val (.int (p6 &&& (3 : Int32))), .val (.ref b_107), .val (.ref b_119), .val (.ref b_132), .val (.ref b_146), .val (.ref b_161), .val (.ref b_177), .val (.ref b_161), .val (.ref b_119), .val (.ref b_107), .unset] [(.ref b_107)])) _
            refine XS.iconst X_291.here hx rfl (hb hby at_274) ?_
            show Steps p.tables e below (T_291.setTop (mkF m 275 #[.val (.long q1), .second, .val (.long q2), .second, .val (.long q3), .second, .val (.long q4), .second, .val (.long q5), .second, .val (.int p6), .val (.int (p6 &&& (3 : Int32))), .val (.ref b_107), .val (.ref b_119), .val (.ref b_132), .val (.ref b_146), .val (.ref b_161), .val (.ref b_177), .val (.ref b_161), .val (.ref b_119), .val (.ref b_107), .unset] [(.int (1 : Int32)), (.ref b_107)])) _
            refine X_291.laload hx (j := (1 : Int32)) (v := (.long (q2 - q5))) Ar_298.1 (State.isArrayOf_alike hZ.alike Ar_298.2.1) Ar_298.2.2 hin_298 hat_298 (g := (mkF m 275 #[.val (.long q1), .second, .val (.long q2), .second, .val (.long q3), .second, .val (.long q4), .second, .val (.long q5), .second, .val (.int p6), .val (.int (p6 &&& (3 : Int32))), .val (.ref b_107), .val (.ref b_119), .val (.ref b_132), .val (.ref b_146), .val (.ref b_161), .val (.ref b_177), .val (.ref b_161), .val (.ref b_119), .val (.ref b_107), .unset] [(.int (1 : Int32)), (.ref b_107)])) rfl rfl (hb hby at_275) _ ?_
            show Steps p.tables e below (T_291.setTop (mkF m 276 #[.val (.long q1), .second, .val (.long q2), .second, .val (.long q3), .second, .val (.long q4), .second, .val (.long q5), .second, .val (.int p6), .val (.int (p6 &&& (3 : Int32))), .val (.ref b_107), .val (.ref b_119), .val (.ref b_132), .val (.ref b_146), .val (.ref b_161), .val (.ref b_177), .val (.ref b_161), .val (.ref b_119), .val (.ref b_107), .unset] [(.long (q2 - q5))])) _
            refine XS.aload X_291.here hx rfl (hb hby at_276) rfl rfl ?_
            show Steps p.tables e below (T_291.setTop (mkF m 278 #[.val (.long q1), .second, .val (.long q2), .second, .val (.long q3), .second, .val (.long q4), .second, .val (.long q5), .second, .val (.int p6), .val (.int (p6 &&& (3 : Int32))), .val (.ref b_107), .val (.ref b_119), .val (.ref b_132), .val (.ref b_146), .val (.ref b_161), .val (.ref b_177), .val (.ref b_161), .val (.ref b_119), .val (.ref b_107), .unset] [(.ref b_161), (.long (q2 - q5))])) _
            refine XS.iconst X_291.here hx rfl (hb hby at_278) ?_
            show Steps p.tables e below (T_291.setTop (mkF m 279 #[.val (.long q1), .second, .val (.long q2), .second, .val (.long q3), .second, .val (.long q4), .second, .val (.long q5), .second, .val (.int p6), .val (.int (p6 &&& (3 : Int32))), .val (.ref b_107), .val (.ref b_119), .val (.ref b_132), .val (.ref b_146), .val (.ref b_161), .val (.ref b_177), .val (.ref b_161), .val (.ref b_119), .val (.ref b_107), .unset] [(.int (1 : Int32)), (.ref b_161), (.long (q2 - q5))])) _
            refine X_291.laload hx (j := (1 : Int32)) (v := (.long q5)) Ar_299.1 (State.isArrayOf_alike hZ.alike Ar_299.2.1) Ar_299.2.2 hin_299 hat_299 (g := (mkF m 279 #[.val (.long q1), .second, .val (.long q2), .second, .val (.long q3), .second, .val (.long q4), .second, .val (.long q5), .second, .val (.int p6), .val (.int (p6 &&& (3 : Int32))), .val (.ref b_107), .val (.ref b_119), .val (.ref b_132), .val (.ref b_146), .val (.ref b_161), .val (.ref b_177), .val (.ref b_161), .val (.ref b_119), .val (.ref b_107), .unset] [(.int (1 : Int32)), (.ref b_161), (.long (q2 - q5))])) rfl rfl (hb hby at_279) _ ?_
            show Steps p.tables e below (T_291.setTop (mkF m 280 #[.val (.long q1), .second, .val (.long q2), .second, .val (.long q3), .second, .val (.long q4), .second, .val (.long q5), .second, .val (.int p6), .val (.int (p6 &&& (3 : Int32))), .val (.ref b_107), .val (.ref b_119), .val (.ref b_132), .val (.ref b_146), .val (.ref b_161), .val (.ref b_177), .val (.ref b_161), .val (.ref b_119), .val (.ref b_107), .unset] [(.long q5), (.long (q2 - q5))])) _
            refine XS.ladd X_291.here hx rfl (hb hby at_280) rfl ?_
            show Steps p.tables e below (T_291.setTop (mkF m 281 #[.val (.long q1), .second, .val (.long q2), .second, .val (.long q3), .second, .val (.long q4), .second, .val (.long q5), .second, .val (.int p6), .val (.int (p6 &&& (3 : Int32))), .val (.ref b_107), .val (.ref b_119), .val (.ref b_132), .val (.ref b_146), .val (.ref b_161), .val (.ref b_177), .val (.ref b_161), .val (.ref b_119), .val (.ref b_107), .unset] [(.long ((q2 - q5) + q5))])) _
            refine XS.aload X_291.here hx rfl (hb hby at_281) rfl rfl ?_
            show Steps p.tables e below (T_291.setTop (mkF m 283 #[.val (.long q1), .second, .val (.long q2), .second, .val (.long q3), .second, .val (.long q4), .second, .val (.long q5), .second, .val (.int p6), .val (.int (p6 &&& (3 : Int32))), .val (.ref b_107), .val (.ref b_119), .val (.ref b_132), .val (.ref b_146), .val (.ref b_161), .val (.ref b_177), .val (.ref b_161), .val (.ref b_119), .val (.ref b_107), .unset] [(.ref b_146), (.long ((q2 - q5) + q5))])) _
            refine XS.iconst X_291.here hx rfl (hb hby at_283) ?_
            show Steps p.tables e below (T_291.setTop (mkF m 284 #[.val (.long q1), .second, .val (.long q2), .second, .val (.long q3), .second, .val (.long q4), .second, .val (.long q5), .second, .val (.int p6), .val (.int (p6 &&& (3 : Int32))), .val (.ref b_107), .val (.ref b_119), .val (.ref b_132), .val (.ref b_146), .val (.ref b_161), .val (.ref b_177), .val (.ref b_161), .val (.ref b_119), .val (.ref b_107), .unset] [(.int (1 : Int32)), (.ref b_146), (.long ((q2 - q5) + q5))])) _
            refine X_291.laload hx (j := (1 : Int32)) (v := (.long q2)) Ar_300.1 (State.isArrayOf_alike hZ.alike Ar_300.2.1) Ar_300.2.2 hin_300 hat_300 (g := (mkF m 284 #[.val (.long q1), .second, .val (.long q2), .second, .val (.long q3), .second, .val (.long q4), .second, .val (.long q5), .second, .val (.int p6), .val (.int (p6 &&& (3 : Int32))), .val (.ref b_107), .val (.ref b_119), .val (.ref b_132), .val (.ref b_146), .val (.ref b_161), .val (.ref b_177), .val (.ref b_161), .val (.ref b_119), .val (.ref b_107), .unset] [(.int (1 : Int32)), (.ref b_146), (.long ((q2 - q5) + q5))])) rfl rfl (hb hby at_284) _ ?_
            show Steps p.tables e below (T_291.setTop (mkF m 285 #[.val (.long q1), .second, .val (.long q2), .second, .val (.long q3), .second, .val (.long q4), .second, .val (.long q5), .second, .val (.int p6), .val (.int (p6 &&& (3 : Int32))), .val (.ref b_107), .val (.ref b_119), .val (.ref b_132), .val (.ref b_146), .val (.ref b_161), .val (.ref b_177), .val (.ref b_161), .val (.ref b_119), .val (.ref b_107), .unset] [(.long q2), (.long ((q2 - q5) + q5))])) _
            refine XS.lcmp X_291.here hx rfl (hb hby at_285) rfl ?_
            show Steps p.tables e below (T_291.setTop (mkF m 286 #[.val (.long q1), .second, .val (.long q2), .second, .val (.long q3), .second, .val (.long q4), .second, .val (.long q5), .second, .val (.int p6), .val (.int (p6 &&& (3 : Int32))), .val (.ref b_107), .val (.ref b_119), .val (.ref b_132), .val (.ref b_146), .val (.ref b_161), .val (.ref b_177), .val (.ref b_161), .val (.ref b_119), .val (.ref b_107), .unset] [(.int (lcmpW ((q2 - q5) + q5) q2))])) _
            refine XS.ifNo X_291.here hx rfl (hb hby at_286) rfl ((if0 _ _).trans (teq ((lw_eq _ _).mpr (Int64.sub_add_cancel _ _ : ((q2 - q5) + q5) = q2))).2) ?_
            show Steps p.tables e below (T_291.setTop (mkF m 289 #[.val (.long q1), .second, .val (.long q2), .second, .val (.long q3), .second, .val (.long q4), .second, .val (.long q5), .second, .val (.int p6), .val (.int (p6 &&& (3 : Int32))), .val (.ref b_107), .val (.ref b_119), .val (.ref b_132), .val (.ref b_146), .val (.ref b_161), .val (.ref b_177), .val (.ref b_161), .val (.ref b_119), .val (.ref b_107), .unset] [])) _
            refine XS.aload X_291.here hx rfl (hb hby at_289) rfl rfl ?_
            show Steps p.tables e below (T_291.setTop (mkF m 291 #[.val (.long q1), .second, .val (.long q2), .second, .val (.long q3), .second, .val (.long q4), .second, .val (.long q5), .second, .val (.int p6), .val (.int (p6 &&& (3 : Int32))), .val (.ref b_107), .val (.ref b_119), .val (.ref b_132), .val (.ref b_146), .val (.ref b_161), .val (.ref b_177), .val (.ref b_161), .val (.ref b_119), .val (.ref b_107), .unset] [(.ref b_107)])) _
            refine XS.iconst X_291.here hx rfl (hb hby at_291) ?_
            show Steps p.tables e below (T_291.setTop (mkF m 292 #[.val (.long q1), .second, .val (.long q2), .second, .val (.long q3), .second, .val (.long q4), .second, .val (.long q5), .second, .val (.int p6), .val (.int (p6 &&& (3 : Int32))), .val (.ref b_107), .val (.ref b_119), .val (.ref b_132), .val (.ref b_146), .val (.ref b_161), .val (.ref b_177), .val (.ref b_161), .val (.ref b_119), .val (.ref b_107), .unset] [(.int (2 : Int32)), (.ref b_107)])) _
            refine X_291.laload hx (j := (2 : Int32)) (v := (.long (q3 - q1))) Ar_301.1 (State.isArrayOf_alike hZ.alike Ar_301.2.1) Ar_301.2.2 hin_301 hat_301 (g := (mkF m 292 #[.val (.long q1), .second, .val (.long q2), .second, .val (.long q3), .second, .val (.long q4), .second, .val (.long q5), .second, .val (.int p6), .val (.int (p6 &&& (3 : Int32))), .val (.ref b_107), .val (.ref b_119), .val (.ref b_132), .val (.ref b_146), .val (.ref b_161), .val (.ref b_177), .val (.ref b_161), .val (.ref b_119), .val (.ref b_107), .unset] [(.int (2 : Int32)), (.ref b_107)])) rfl rfl (hb hby at_292) _ ?_
            show Steps p.tables e below (T_291.setTop (mkF m 293 #[.val (.long q1), .second, .val (.long q2), .second, .val (.long q3), .second, .val (.long q4), .second, .val (.long q5), .second, .val (.int p6), .val (.int (p6 &&& (3 : Int32))), .val (.ref b_107), .val (.ref b_119), .val (.ref b_132), .val (.ref b_146), .val (.ref b_161), .val (.ref b_177), .val (.ref b_161), .val (.ref b_119), .val (.ref b_107), .unset] [(.long (q3 - q1))])) _
            refine XS.aload X_291.here hx rfl (hb hby at_293) rfl rfl ?_
            show Steps p.tables e below (T_291.setTop (mkF m 295 #[.val (.long q1), .second, .val (.long q2), .second, .val (.long q3), .second, .val (.long q4), .second, .val (.long q5), .second, .val (.int p6), .val (.int (p6 &&& (3 : Int32))), .val (.ref b_107), .val (.ref b_119), .val (.ref b_132), .val (.ref b_146), .val (.ref b_161), .val (.ref b_177), .val (.ref b_161), .val (.ref b_119), .val (.ref b_107), .unset] [(.ref b_161), (.long (q3 - q1))])) _
            refine XS.iconst X_291.here hx rfl (hb hby at_295) ?_
            show Steps p.tables e below (T_291.setTop (mkF m 296 #[.val (.long q1), .second, .val (.long q2), .second, .val (.long q3), .second, .val (.long q4), .second, .val (.long q5), .second, .val (.int p6), .val (.int (p6 &&& (3 : Int32))), .val (.ref b_107), .val (.ref b_119), .val (.ref b_132), .val (.ref b_146), .val (.ref b_161), .val (.ref b_177), .val (.ref b_161), .val (.ref b_119), .val (.ref b_107), .unset] [(.int (2 : Int32)), (.ref b_161), (.long (q3 - q1))])) _
            refine X_291.laload hx (j := (2 : Int32)) (v := (.long q1)) Ar_302.1 (State.isArrayOf_alike hZ.alike Ar_302.2.1) Ar_302.2.2 hin_302 hat_302 (g := (mkF m 296 #[.val (.long q1), .second, .val (.long q2), .second, .val (.long q3), .second, .val (.long q4), .second, .val (.long q5), .second, .val (.int p6), .val (.int (p6 &&& (3 : Int32))), .val (.ref b_107), .val (.ref b_119), .val (.ref b_132), .val (.ref b_146), .val (.ref b_161), .val (.ref b_177), .val (.ref b_161), .val (.ref b_119), .val (.ref b_107), .unset] [(.int (2 : Int32)), (.ref b_161), (.long (q3 - q1))])) rfl rfl (hb hby at_296) _ ?_
            show Steps p.tables e below (T_291.setTop (mkF m 297 #[.val (.long q1), .second, .val (.long q2), .second, .val (.long q3), .second, .val (.long q4), .second, .val (.long q5), .second, .val (.int p6), .val (.int (p6 &&& (3 : Int32))), .val (.ref b_107), .val (.ref b_119), .val (.ref b_132), .val (.ref b_146), .val (.ref b_161), .val (.ref b_177), .val (.ref b_161), .val (.ref b_119), .val (.ref b_107), .unset] [(.long q1), (.long (q3 - q1))])) _
            refine XS.ladd X_291.here hx rfl (hb hby at_297) rfl ?_
            show Steps p.tables e below (T_291.setTop (mkF m 298 #[.val (.long q1), .second, .val (.long q2), .second, .val (.long q3), .second, .val (.long q4), .second, .val (.long q5), .second, .val (.int p6), .val (.int (p6 &&& (3 : Int32))), .val (.ref b_107), .val (.ref b_119), .val (.ref b_132), .val (.ref b_146), .val (.ref b_161), .val (.ref b_177), .val (.ref b_161), .val (.ref b_119), .val (.ref b_107), .unset] [(.long ((q3 - q1) + q1))])) _
            refine XS.aload X_291.here hx rfl (hb hby at_298) rfl rfl ?_
            show Steps p.tables e below (T_291.setTop (mkF m 300 #[.val (.long q1), .second, .val (.long q2), .second, .val (.long q3), .second, .val (.long q4), .second, .val (.long q5), .second, .val (.int p6), .val (.int (p6 &&& (3 : Int32))), .val (.ref b_107), .val (.ref b_119), .val (.ref b_132), .val (.ref b_146), .val (.ref b_161), .val (.ref b_177), .val (.ref b_161), .val (.ref b_119), .val (.ref b_107), .unset] [(.ref b_146), (.long ((q3 - q1) + q1))])) _
            refine XS.iconst X_291.here hx rfl (hb hby at_300) ?_
            show Steps p.tables e below (T_291.setTop (mkF m 301 #[.val (.long q1), .second, .val (.long q2), .second, .val (.long q3), .second, .val (.long q4), .second, .val (.long q5), .second, .val (.int p6), .val (.int (p6 &&& (3 : Int32))), .val (.ref b_107), .val (.ref b_119), .val (.ref b_132), .val (.ref b_146), .val (.ref b_161), .val (.ref b_177), .val (.ref b_161), .val (.ref b_119), .val (.ref b_107), .unset] [(.int (2 : Int32)), (.ref b_146), (.long ((q3 - q1) + q1))])) _
            refine X_291.laload hx (j := (2 : Int32)) (v := (.long q3)) Ar_303.1 (State.isArrayOf_alike hZ.alike Ar_303.2.1) Ar_303.2.2 hin_303 hat_303 (g := (mkF m 301 #[.val (.long q1), .second, .val (.long q2), .second, .val (.long q3), .second, .val (.long q4), .second, .val (.long q5), .second, .val (.int p6), .val (.int (p6 &&& (3 : Int32))), .val (.ref b_107), .val (.ref b_119), .val (.ref b_132), .val (.ref b_146), .val (.ref b_161), .val (.ref b_177), .val (.ref b_161), .val (.ref b_119), .val (.ref b_107), .unset] [(.int (2 : Int32)), (.ref b_146), (.long ((q3 - q1) + q1))])) rfl rfl (hb hby at_301) _ ?_
            show Steps p.tables e below (T_291.setTop (mkF m 302 #[.val (.long q1), .second, .val (.long q2), .second, .val (.long q3), .second, .val (.long q4), .second, .val (.long q5), .second, .val (.int p6), .val (.int (p6 &&& (3 : Int32))), .val (.ref b_107), .val (.ref b_119), .val (.ref b_132), .val (.ref b_146), .val (.ref b_161), .val (.ref b_177), .val (.ref b_161), .val (.ref b_119), .val (.ref b_107), .unset] [(.long q3), (.long ((q3 - q1) + q1))])) _
            refine XS.lcmp X_291.here hx rfl (hb hby at_302) rfl ?_
            show Steps p.tables e below (T_291.setTop (mkF m 303 #[.val (.long q1), .second, .val (.long q2), .second, .val (.long q3), .second, .val (.long q4), .second, .val (.long q5), .second, .val (.int p6), .val (.int (p6 &&& (3 : Int32))), .val (.ref b_107), .val (.ref b_119), .val (.ref b_132), .val (.ref b_146), .val (.ref b_161), .val (.ref b_177), .val (.ref b_161), .val (.ref b_119), .val (.ref b_107), .unset] [(.int (lcmpW ((q3 - q1) + q1) q3))])) _
            refine XS.ifNo X_291.here hx rfl (hb hby at_303) rfl ((if0 _ _).trans (teq ((lw_eq _ _).mpr (Int64.sub_add_cancel _ _ : ((q3 - q1) + q1) = q3))).2) ?_
            show Steps p.tables e below (T_291.setTop (mkF m 306 #[.val (.long q1), .second, .val (.long q2), .second, .val (.long q3), .second, .val (.long q4), .second, .val (.long q5), .second, .val (.int p6), .val (.int (p6 &&& (3 : Int32))), .val (.ref b_107), .val (.ref b_119), .val (.ref b_132), .val (.ref b_146), .val (.ref b_161), .val (.ref b_177), .val (.ref b_161), .val (.ref b_119), .val (.ref b_107), .unset] [])) _
            refine XS.aload X_291.here hx rfl (hb hby at_306) rfl rfl ?_
            show Steps p.tables e below (T_291.setTop (mkF m 308 #[.val (.long q1), .second, .val (.long q2), .second, .val (.long q3), .second, .val (.long q4), .second, .val (.long q5), .second, .val (.int p6), .val (.int (p6 &&& (3 : Int32))), .val (.ref b_107), .val (.ref b_119), .val (.ref b_132), .val (.ref b_146), .val (.ref b_161), .val (.ref b_177), .val (.ref b_161), .val (.ref b_119), .val (.ref b_107), .unset] [(.ref b_107)])) _
            refine XS.iconst X_291.here hx rfl (hb hby at_308) ?_
            show Steps p.tables e below (T_291.setTop (mkF m 309 #[.val (.long q1), .second, .val (.long q2), .second, .val (.long q3), .second, .val (.long q4), .second, .val (.long q5), .second, .val (.int p6), .val (.int (p6 &&& (3 : Int32))), .val (.ref b_107), .val (.ref b_119), .val (.ref b_132), .val (.ref b_146), .val (.ref b_161), .val (.ref b_177), .val (.ref b_161), .val (.ref b_119), .val (.ref b_107), .unset] [(.int (3 : Int32)), (.ref b_107)])) _
            refine X_291.laload hx (j := (3 : Int32)) (v := (.long (q4 - q2))) Ar_304.1 (State.isArrayOf_alike hZ.alike Ar_304.2.1) Ar_304.2.2 hin_304 hat_304 (g := (mkF m 309 #[.val (.long q1), .second, .val (.long q2), .second, .val (.long q3), .second, .val (.long q4), .second, .val (.long q5), .second, .val (.int p6), .val (.int (p6 &&& (3 : Int32))), .val (.ref b_107), .val (.ref b_119), .val (.ref b_132), .val (.ref b_146), .val (.ref b_161), .val (.ref b_177), .val (.ref b_161), .val (.ref b_119), .val (.ref b_107), .unset] [(.int (3 : Int32)), (.ref b_107)])) rfl rfl (hb hby at_309) _ ?_
            show Steps p.tables e below (T_291.setTop (mkF m 310 #[.val (.long q1), .second, .val (.long q2), .second, .val (.long q3), .second, .val (.long q4), .second, .val (.long q5), .second, .val (.int p6), .val (.int (p6 &&& (3 : Int32))), .val (.ref b_107), .val (.ref b_119), .val (.ref b_132), .val (.ref b_146), .val (.ref b_161), .val (.ref b_177), .val (.ref b_161), .val (.ref b_119), .val (.ref b_107), .unset] [(.long (q4 - q2))])) _
            refine XS.aload X_291.here hx rfl (hb hby at_310) rfl rfl ?_
            show Steps p.tables e below (T_291.setTop (mkF m 312 #[.val (.long q1), .second, .val (.long q2), .second, .val (.long q3), .second, .val (.long q4), .second, .val (.long q5), .second, .val (.int p6), .val (.int (p6 &&& (3 : Int32))), .val (.ref b_107), .val (.ref b_119), .val (.ref b_132), .val (.ref b_146), .val (.ref b_161), .val (.ref b_177), .val (.ref b_161), .val (.ref b_119), .val (.ref b_107), .unset] [(.ref b_161), (.long (q4 - q2))])) _
            refine XS.iconst X_291.here hx rfl (hb hby at_312) ?_
            show Steps p.tables e below (T_291.setTop (mkF m 313 #[.val (.long q1), .second, .val (.long q2), .second, .val (.long q3), .second, .val (.long q4), .second, .val (.long q5), .second, .val (.int p6), .val (.int (p6 &&& (3 : Int32))), .val (.ref b_107), .val (.ref b_119), .val (.ref b_132), .val (.ref b_146), .val (.ref b_161), .val (.ref b_177), .val (.ref b_161), .val (.ref b_119), .val (.ref b_107), .unset] [(.int (3 : Int32)), (.ref b_161), (.long (q4 - q2))])) _
            refine X_291.laload hx (j := (3 : Int32)) (v := (.long q2)) Ar_305.1 (State.isArrayOf_alike hZ.alike Ar_305.2.1) Ar_305.2.2 hin_305 hat_305 (g := (mkF m 313 #[.val (.long q1), .second, .val (.long q2), .second, .val (.long q3), .second, .val (.long q4), .second, .val (.long q5), .second, .val (.int p6), .val (.int (p6 &&& (3 : Int32))), .val (.ref b_107), .val (.ref b_119), .val (.ref b_132), .val (.ref b_146), .val (.ref b_161), .val (.ref b_177), .val (.ref b_161), .val (.ref b_119), .val (.ref b_107), .unset] [(.int (3 : Int32)), (.ref b_161), (.long (q4 - q2))])) rfl rfl (hb hby at_313) _ ?_
            show Steps p.tables e below (T_291.setTop (mkF m 314 #[.val (.long q1), .second, .val (.long q2), .second, .val (.long q3), .second, .val (.long q4), .second, .val (.long q5), .second, .val (.int p6), .val (.int (p6 &&& (3 : Int32))), .val (.ref b_107), .val (.ref b_119), .val (.ref b_132), .val (.ref b_146), .val (.ref b_161), .val (.ref b_177), .val (.ref b_161), .val (.ref b_119), .val (.ref b_107), .unset] [(.long q2), (.long (q4 - q2))])) _
            refine XS.ladd X_291.here hx rfl (hb hby at_314) rfl ?_
            show Steps p.tables e below (T_291.setTop (mkF m 315 #[.val (.long q1), .second, .val (.long q2), .second, .val (.long q3), .second, .val (.long q4), .second, .val (.long q5), .second, .val (.int p6), .val (.int (p6 &&& (3 : Int32))), .val (.ref b_107), .val (.ref b_119), .val (.ref b_132), .val (.ref b_146), .val (.ref b_161), .val (.ref b_177), .val (.ref b_161), .val (.ref b_119), .val (.ref b_107), .unset] [(.long ((q4 - q2) + q2))])) _
            refine XS.aload X_291.here hx rfl (hb hby at_315) rfl rfl ?_
            show Steps p.tables e below (T_291.setTop (mkF m 317 #[.val (.long q1), .second, .val (.long q2), .second, .val (.long q3), .second, .val (.long q4), .second, .val (.long q5), .second, .val (.int p6), .val (.int (p6 &&& (3 : Int32))), .val (.ref b_107), .val (.ref b_119), .val (.ref b_132), .val (.ref b_146), .val (.ref b_161), .val (.ref b_177), .val (.ref b_161), .val (.ref b_119), .val (.ref b_107), .unset] [(.ref b_146), (.long ((q4 - q2) + q2))])) _
            refine XS.iconst X_291.here hx rfl (hb hby at_317) ?_
            show Steps p.tables e below (T_291.setTop (mkF m 318 #[.val (.long q1), .second, .val (.long q2), .second, .val (.long q3), .second, .val (.long q4), .second, .val (.long q5), .second, .val (.int p6), .val (.int (p6 &&& (3 : Int32))), .val (.ref b_107), .val (.ref b_119), .val (.ref b_132), .val (.ref b_146), .val (.ref b_161), .val (.ref b_177), .val (.ref b_161), .val (.ref b_119), .val (.ref b_107), .unset] [(.int (3 : Int32)), (.ref b_146), (.long ((q4 - q2) + q2))])) _
            refine X_291.laload hx (j := (3 : Int32)) (v := (.long q4)) Ar_306.1 (State.isArrayOf_alike hZ.alike Ar_306.2.1) Ar_306.2.2 hin_306 hat_306 (g := (mkF m 318 #[.val (.long q1), .second, .val (.long q2), .second, .val (.long q3), .second, .val (.long q4), .second, .val (.long q5), .second, .val (.int p6), .val (.int (p6 &&& (3 : Int32))), .val (.ref b_107), .val (.ref b_119), .val (.ref b_132), .val (.ref b_146), .val (.ref b_161), .val (.ref b_177), .val (.ref b_161), .val (.ref b_119), .val (.ref b_107), .unset] [(.int (3 : Int32)), (.ref b_146), (.long ((q4 - q2) + q2))])) rfl rfl (hb hby at_318) _ ?_
            show Steps p.tables e below (T_291.setTop (mkF m 319 #[.val (.long q1), .second, .val (.long q2), .second, .val (.long q3), .second, .val (.long q4), .second, .val (.long q5), .second, .val (.int p6), .val (.int (p6 &&& (3 : Int32))), .val (.ref b_107), .val (.ref b_119), .val (.ref b_132), .val (.ref b_146), .val (.ref b_161), .val (.ref b_177), .val (.ref b_161), .val (.ref b_119), .val (.ref b_107), .unset] [(.long q4), (.long ((q4 - q2) + q2))])) _
            refine XS.lcmp X_291.here hx rfl (hb hby at_319) rfl ?_
            show Steps p.tables e below (T_291.setTop (mkF m 320 #[.val (.long q1), .second, .val (.long q2), .second, .val (.long q3), .second, .val (.long q4), .second, .val (.long q5), .second, .val (.int p6), .val (.int (p6 &&& (3 : Int32))), .val (.ref b_107), .val (.ref b_119), .val (.ref b_132), .val (.ref b_146), .val (.ref b_161), .val (.ref b_177), .val (.ref b_161), .val (.ref b_119), .val (.ref b_107), .unset] [(.int (lcmpW ((q4 - q2) + q2) q4))])) _
            refine XS.ifNo X_291.here hx rfl (hb hby at_320) rfl ((if0 _ _).trans (teq ((lw_eq _ _).mpr (Int64.sub_add_cancel _ _ : ((q4 - q2) + q2) = q4))).2) ?_
            show Steps p.tables e below (T_291.setTop (mkF m 323 #[.val (.long q1), .second, .val (.long q2), .second, .val (.long q3), .second, .val (.long q4), .second, .val (.long q5), .second, .val (.int p6), .val (.int (p6 &&& (3 : Int32))), .val (.ref b_107), .val (.ref b_119), .val (.ref b_132), .val (.ref b_146), .val (.ref b_161), .val (.ref b_177), .val (.ref b_161), .val (.ref b_119), .val (.ref b_107), .unset] [])) _
            refine XS.aload X_291.here hx rfl (hb hby at_323) rfl rfl ?_
            show Steps p.tables e below (T_291.setTop (mkF m 325 #[.val (.long q1), .second, .val (.long q2), .second, .val (.long q3), .second, .val (.long q4), .second, .val (.long q5), .second, .val (.int p6), .val (.int (p6 &&& (3 : Int32))), .val (.ref b_107), .val (.ref b_119), .val (.ref b_132), .val (.ref b_146), .val (.ref b_161), .val (.ref b_177), .val (.ref b_161), .val (.ref b_119), .val (.ref b_107), .unset] [(.ref b_107)])) _
            refine XS.iconst X_291.here hx rfl (hb hby at_325) ?_
            show Steps p.tables e below (T_291.setTop (mkF m 326 #[.val (.long q1), .second, .val (.long q2), .second, .val (.long q3), .second, .val (.long q4), .second, .val (.long q5), .second, .val (.int p6), .val (.int (p6 &&& (3 : Int32))), .val (.ref b_107), .val (.ref b_119), .val (.ref b_132), .val (.ref b_146), .val (.ref b_161), .val (.ref b_177), .val (.ref b_161), .val (.ref b_119), .val (.ref b_107), .unset] [(.int (4 : Int32)), (.ref b_107)])) _
            refine X_291.laload hx (j := (4 : Int32)) (v := (.long (q5 - q4))) Ar_307.1 (State.isArrayOf_alike hZ.alike Ar_307.2.1) Ar_307.2.2 hin_307 hat_307 (g := (mkF m 326 #[.val (.long q1), .second, .val (.long q2), .second, .val (.long q3), .second, .val (.long q4), .second, .val (.long q5), .second, .val (.int p6), .val (.int (p6 &&& (3 : Int32))), .val (.ref b_107), .val (.ref b_119), .val (.ref b_132), .val (.ref b_146), .val (.ref b_161), .val (.ref b_177), .val (.ref b_161), .val (.ref b_119), .val (.ref b_107), .unset] [(.int (4 : Int32)), (.ref b_107)])) rfl rfl (hb hby at_326) _ ?_
            show Steps p.tables e below (T_291.setTop (mkF m 327 #[.val (.long q1), .second, .val (.long q2), .second, .val (.long q3), .second, .val (.long q4), .second, .val (.long q5), .second, .val (.int p6), .val (.int (p6 &&& (3 : Int32))), .val (.ref b_107), .val (.ref b_119), .val (.ref b_132), .val (.ref b_146), .val (.ref b_161), .val (.ref b_177), .val (.ref b_161), .val (.ref b_119), .val (.ref b_107), .unset] [(.long (q5 - q4))])) _
            refine XS.aload X_291.here hx rfl (hb hby at_327) rfl rfl ?_
            show Steps p.tables e below (T_291.setTop (mkF m 329 #[.val (.long q1), .second, .val (.long q2), .second, .val (.long q3), .second, .val (.long q4), .second, .val (.long q5), .second, .val (.int p6), .val (.int (p6 &&& (3 : Int32))), .val (.ref b_107), .val (.ref b_119), .val (.ref b_132), .val (.ref b_146), .val (.ref b_161), .val (.ref b_177), .val (.ref b_161), .val (.ref b_119), .val (.ref b_107), .unset] [(.ref b_161), (.long (q5 - q4))])) _
            refine XS.iconst X_291.here hx rfl (hb hby at_329) ?_
            show Steps p.tables e below (T_291.setTop (mkF m 330 #[.val (.long q1), .second, .val (.long q2), .second, .val (.long q3), .second, .val (.long q4), .second, .val (.long q5), .second, .val (.int p6), .val (.int (p6 &&& (3 : Int32))), .val (.ref b_107), .val (.ref b_119), .val (.ref b_132), .val (.ref b_146), .val (.ref b_161), .val (.ref b_177), .val (.ref b_161), .val (.ref b_119), .val (.ref b_107), .unset] [(.int (4 : Int32)), (.ref b_161), (.long (q5 - q4))])) _
            refine X_291.laload hx (j := (4 : Int32)) (v := (.long q4)) Ar_308.1 (State.isArrayOf_alike hZ.alike Ar_308.2.1) Ar_308.2.2 hin_308 hat_308 (g := (mkF m 330 #[.val (.long q1), .second, .val (.long q2), .second, .val (.long q3), .second, .val (.long q4), .second, .val (.long q5), .second, .val (.int p6), .val (.int (p6 &&& (3 : Int32))), .val (.ref b_107), .val (.ref b_119), .val (.ref b_132), .val (.ref b_146), .val (.ref b_161), .val (.ref b_177), .val (.ref b_161), .val (.ref b_119), .val (.ref b_107), .unset] [(.int (4 : Int32)), (.ref b_161), (.long (q5 - q4))])) rfl rfl (hb hby at_330) _ ?_
            show Steps p.tables e below (T_291.setTop (mkF m 331 #[.val (.long q1), .second, .val (.long q2), .second, .val (.long q3), .second, .val (.long q4), .second, .val (.long q5), .second, .val (.int p6), .val (.int (p6 &&& (3 : Int32))), .val (.ref b_107), .val (.ref b_119), .val (.ref b_132), .val (.ref b_146), .val (.ref b_161), .val (.ref b_177), .val (.ref b_161), .val (.ref b_119), .val (.ref b_107), .unset] [(.long q4), (.long (q5 - q4))])) _
            refine XS.ladd X_291.here hx rfl (hb hby at_331) rfl ?_
            show Steps p.tables e below (T_291.setTop (mkF m 332 #[.val (.long q1), .second, .val (.long q2), .second, .val (.long q3), .second, .val (.long q4), .second, .val (.long q5), .second, .val (.int p6), .val (.int (p6 &&& (3 : Int32))), .val (.ref b_107), .val (.ref b_119), .val (.ref b_132), .val (.ref b_146), .val (.ref b_161), .val (.ref b_177), .val (.ref b_161), .val (.ref b_119), .val (.ref b_107), .unset] [(.long ((q5 - q4) + q4))])) _
            refine XS.aload X_291.here hx rfl (hb hby at_332) rfl rfl ?_
            show Steps p.tables e below (T_291.setTop (mkF m 334 #[.val (.long q1), .second, .val (.long q2), .second, .val (.long q3), .second, .val (.long q4), .second, .val (.long q5), .second, .val (.int p6), .val (.int (p6 &&& (3 : Int32))), .val (.ref b_107), .val (.ref b_119), .val (.ref b_132), .val (.ref b_146), .val (.ref b_161), .val (.ref b_177), .val (.ref b_161), .val (.ref b_119), .val (.ref b_107), .unset] [(.ref b_146), (.long ((q5 - q4) + q4))])) _
            refine XS.iconst X_291.here hx rfl (hb hby at_334) ?_
            show Steps p.tables e below (T_291.setTop (mkF m 335 #[.val (.long q1), .second, .val (.long q2), .second, .val (.long q3), .second, .val (.long q4), .second, .val (.long q5), .second, .val (.int p6), .val (.int (p6 &&& (3 : Int32))), .val (.ref b_107), .val (.ref b_119), .val (.ref b_132), .val (.ref b_146), .val (.ref b_161), .val (.ref b_177), .val (.ref b_161), .val (.ref b_119), .val (.ref b_107), .unset] [(.int (4 : Int32)), (.ref b_146), (.long ((q5 - q4) + q4))])) _
            refine X_291.laload hx (j := (4 : Int32)) (v := (.long q5)) Ar_309.1 (State.isArrayOf_alike hZ.alike Ar_309.2.1) Ar_309.2.2 hin_309 hat_309 (g := (mkF m 335 #[.val (.long q1), .second, .val (.long q2), .second, .val (.long q3), .second, .val (.long q4), .second, .val (.long q5), .second, .val (.int p6), .val (.int (p6 &&& (3 : Int32))), .val (.ref b_107), .val (.ref b_119), .val (.ref b_132), .val (.ref b_146), .val (.ref b_161), .val (.ref b_177), .val (.ref b_161), .val (.ref b_119), .val (.ref b_107), .unset] [(.int (4 : Int32)), (.ref b_146), (.long ((q5 - q4) + q4))])) rfl rfl (hb hby at_335) _ ?_
            show Steps p.tables e below (T_291.setTop (mkF m 336 #[.val (.long q1), .second, .val (.long q2), .second, .val (.long q3), .second, .val (.long q4), .second, .val (.long q5), .second, .val (.int p6), .val (.int (p6 &&& (3 : Int32))), .val (.ref b_107), .val (.ref b_119), .val (.ref b_132), .val (.ref b_146), .val (.ref b_161), .val (.ref b_177), .val (.ref b_161), .val (.ref b_119), .val (.ref b_107), .unset] [(.long q5), (.long ((q5 - q4) + q4))])) _
            refine XS.lcmp X_291.here hx rfl (hb hby at_336) rfl ?_
            show Steps p.tables e below (T_291.setTop (mkF m 337 #[.val (.long q1), .second, .val (.long q2), .second, .val (.long q3), .second, .val (.long q4), .second, .val (.long q5), .second, .val (.int p6), .val (.int (p6 &&& (3 : Int32))), .val (.ref b_107), .val (.ref b_119), .val (.ref b_132), .val (.ref b_146), .val (.ref b_161), .val (.ref b_177), .val (.ref b_161), .val (.ref b_119), .val (.ref b_107), .unset] [(.int (lcmpW ((q5 - q4) + q4) q5))])) _
            refine XS.ifNo X_291.here hx rfl (hb hby at_337) rfl ((if0 _ _).trans (teq ((lw_eq _ _).mpr (Int64.sub_add_cancel _ _ : ((q5 - q4) + q4) = q5))).2) ?_
            show Steps p.tables e below (T_291.setTop (mkF m 340 #[.val (.long q1), .second, .val (.long q2), .second, .val (.long q3), .second, .val (.long q4), .second, .val (.long q5), .second, .val (.int p6), .val (.int (p6 &&& (3 : Int32))), .val (.ref b_107), .val (.ref b_119), .val (.ref b_132), .val (.ref b_146), .val (.ref b_161), .val (.ref b_177), .val (.ref b_161), .val (.ref b_119), .val (.ref b_107), .unset] [])) _
            refine XS.iconst X_291.here hx rfl (hb hby at_340) ?_
            show Steps p.tables e below (T_291.setTop (mkF m 341 #[.val (.long q1), .second, .val (.long q2), .second, .val (.long q3), .second, .val (.long q4), .second, .val (.long q5), .second, .val (.int p6), .val (.int (p6 &&& (3 : Int32))), .val (.ref b_107), .val (.ref b_119), .val (.ref b_132), .val (.ref b_146), .val (.ref b_161), .val (.ref b_177), .val (.ref b_161), .val (.ref b_119), .val (.ref b_107), .unset] [(.int (1 : Int32))])) _
            refine XS.goto X_291.here hx rfl (pc0 := 341) (pc' := 345) rfl (hb hby at_341) (by decide) (by decide) ?_
            show Steps p.tables e below (T_291.setTop (mkF m 345 #[.val (.long q1), .second, .val (.long q2), .second, .val (.long q3), .second, .val (.long q4), .second, .val (.long q5), .second, .val (.int p6), .val (.int (p6 &&& (3 : Int32))), .val (.ref b_107), .val (.ref b_119), .val (.ref b_132), .val (.ref b_146), .val (.ref b_161), .val (.ref b_177), .val (.ref b_161), .val (.ref b_119), .val (.ref b_107), .unset] [(.int (1 : Int32))])) _
            refine XS.istore X_291.here hx rfl (hb hby at_345) rfl (l' := #[.val (.long q1), .second, .val (.long q2), .second, .val (.long q3), .second, .val (.long q4), .second, .val (.long q5), .second, .val (.int p6), .val (.int (p6 &&& (3 : Int32))), .val (.ref b_107), .val (.ref b_119), .val (.ref b_132), .val (.ref b_146), .val (.ref b_161), .val (.ref b_177), .val (.ref b_161), .val (.ref b_119), .val (.ref b_107), .val (.int (1 : Int32))]) rfl ?_
            show Steps p.tables e below (T_291.setTop (mkF m 347 #[.val (.long q1), .second, .val (.long q2), .second, .val (.long q3), .second, .val (.long q4), .second, .val (.long q5), .second, .val (.int p6), .val (.int (p6 &&& (3 : Int32))), .val (.ref b_107), .val (.ref b_119), .val (.ref b_132), .val (.ref b_146), .val (.ref b_161), .val (.ref b_177), .val (.ref b_161), .val (.ref b_119), .val (.ref b_107), .val (.int (1 : Int32))] [])) _
            refine XS.iload X_291.here hx rfl (hb hby at_347) rfl ?_
            show Steps p.tables e below (T_291.setTop (mkF m 349 #[.val (.long q1), .second, .val (.long q2), .second, .val (.long q3), .second, .val (.long q4), .second, .val (.long q5), .second, .val (.int p6), .val (.int (p6 &&& (3 : Int32))), .val (.ref b_107), .val (.ref b_119), .val (.ref b_132), .val (.ref b_146), .val (.ref b_161), .val (.ref b_177), .val (.ref b_161), .val (.ref b_119), .val (.ref b_107), .val (.int (1 : Int32))] [(.int (p6 &&& (3 : Int32)))])) _
            refine XS.ifYes X_291.here hx rfl (pc0 := 349) (pc' := 387) rfl (hb hby at_349) rfl ((if0 _ _).trans (feq hc206__212).2) (by decide) (by decide) ?_
            show Steps p.tables e below (T_291.setTop (mkF m 387 #[.val (.long q1), .second, .val (.long q2), .second, .val (.long q3), .second, .val (.long q4), .second, .val (.long q5), .second, .val (.int p6), .val (.int (p6 &&& (3 : Int32))), .val (.ref b_107), .val (.ref b_119), .val (.ref b_132), .val (.ref b_146), .val (.ref b_161), .val (.ref b_177), .val (.ref b_161), .val (.ref b_119), .val (.ref b_107), .val (.int (1 : Int32))] [])) _
            refine XS.iload X_291.here hx rfl (hb hby at_387) rfl ?_
            show Steps p.tables e below (T_291.setTop (mkF m 389 #[.val (.long q1), .second, .val (.long q2), .second, .val (.long q3), .second, .val (.long q4), .second, .val (.long q5), .second, .val (.int p6), .val (.int (p6 &&& (3 : Int32))), .val (.ref b_107), .val (.ref b_119), .val (.ref b_132), .val (.ref b_146), .val (.ref b_161), .val (.ref b_177), .val (.ref b_161), .val (.ref b_119), .val (.ref b_107), .val (.int (1 : Int32))] [(.int (p6 &&& (3 : Int32)))])) _
            refine XS.iconst X_291.here hx rfl (hb hby at_389) ?_
            show Steps p.tables e below (T_291.setTop (mkF m 390 #[.val (.long q1), .second, .val (.long q2), .second, .val (.long q3), .second, .val (.long q4), .second, .val (.long q5), .second, .val (.int p6), .val (.int (p6 &&& (3 : Int32))), .val (.ref b_107), .val (.ref b_119), .val (.ref b_132), .val (.ref b_146), .val (.ref b_161), .val (.ref b_177), .val (.ref b_161), .val (.ref b_119), .val (.ref b_107), .val (.int (1 : Int32))] [(.int (1 : Int32)), (.int (p6 &&& (3 : Int32)))])) _
            refine XS.icmpYes X_291.here hx rfl (pc0 := 390) (pc' := 418) rfl (hb hby at_390) rfl (feq hc219__240).2 (by decide) (by decide) ?_
            show Steps p.tables e below (T_291.setTop (mkF m 418 #[.val (.long q1), .second, .val (.long q2), .second, .val (.long q3), .second, .val (.long q4), .second, .val (.long q5), .second, .val (.int p6), .val (.int (p6 &&& (3 : Int32))), .val (.ref b_107), .val (.ref b_119), .val (.ref b_132), .val (.ref b_146), .val (.ref b_161), .val (.ref b_177), .val (.ref b_161), .val (.ref b_119), .val (.ref b_107), .val (.int (1 : Int32))] [])) _
            refine XS.iload X_291.here hx rfl (hb hby at_418) rfl ?_
            show Steps p.tables e below (T_291.setTop (mkF m 420 #[.val (.long q1), .second, .val (.long q2), .second, .val (.long q3), .second, .val (.long q4), .second, .val (.long q5), .second, .val (.int p6), .val (.int (p6 &&& (3 : Int32))), .val (.ref b_107), .val (.ref b_119), .val (.ref b_132), .val (.ref b_146), .val (.ref b_161), .val (.ref b_177), .val (.ref b_161), .val (.ref b_119), .val (.ref b_107), .val (.int (1 : Int32))] [(.int (p6 &&& (3 : Int32)))])) _
            refine XS.iconst X_291.here hx rfl (hb hby at_420) ?_
            show Steps p.tables e below (T_291.setTop (mkF m 421 #[.val (.long q1), .second, .val (.long q2), .second, .val (.long q3), .second, .val (.long q4), .second, .val (.long q5), .second, .val (.int p6), .val (.int (p6 &&& (3 : Int32))), .val (.ref b_107), .val (.ref b_119), .val (.ref b_132), .val (.ref b_146), .val (.ref b_161), .val (.ref b_177), .val (.ref b_161), .val (.ref b_119), .val (.ref b_107), .val (.int (1 : Int32))] [(.int (2 : Int32)), (.int (p6 &&& (3 : Int32)))])) _
            refine XS.icmpYes X_291.here hx rfl (pc0 := 421) (pc' := 446) rfl (hb hby at_421) rfl (feq hc232__265).2 (by decide) (by decide) ?_
            show Steps p.tables e below (T_291.setTop (mkF m 446 #[.val (.long q1), .second, .val (.long q2), .second, .val (.long q3), .second, .val (.long q4), .second, .val (.long q5), .second, .val (.int p6), .val (.int (p6 &&& (3 : Int32))), .val (.ref b_107), .val (.ref b_119), .val (.ref b_132), .val (.ref b_146), .val (.ref b_161), .val (.ref b_177), .val (.ref b_161), .val (.ref b_119), .val (.ref b_107), .val (.int (1 : Int32))] [])) _
            refine XS.iload X_291.here hx rfl (hb hby at_446) rfl ?_
            show Steps p.tables e below (T_291.setTop (mkF m 448 #[.val (.long q1), .second, .val (.long q2), .second, .val (.long q3), .second, .val (.long q4), .second, .val (.long q5), .second, .val (.int p6), .val (.int (p6 &&& (3 : Int32))), .val (.ref b_107), .val (.ref b_119), .val (.ref b_132), .val (.ref b_146), .val (.ref b_161), .val (.ref b_177), .val (.ref b_161), .val (.ref b_119), .val (.ref b_107), .val (.int (1 : Int32))] [(.int (1 : Int32))])) _
            exact retN X_291 hx (t := .boolean) Bd.returns (by simp) (hb hby at_448) hr
          · show Q0 Z q1 q2 q3 q4 q5 p6 h0 n0 _ T_291.heap _
            exact ⟨rfl, N_291⟩
set_option maxRecDepth 65536 in
set_option maxHeartbeats 40000000 in
theorem comes_1 {Post : Tables → Env → Array Value → State → Outcome → State → Prop} (hpost : ∀ tb e args s v u, (limb_1_1.after args s (.returned v) u = true ∧ limb_1_2.after args s (.returned v) u = true ∧ True) → FrameEnd s (.returned v) u (Jvm.fieldLocs frame_1_writes args s ++ Jvm.arrayLocs frame_1_arrays args s ++ Jvm.staticLocs frame_1_statics s) 24 128 → Post tb e args s (.returned v) u) :
    ArmFor flags0 classFile x code maxLocals ret World_1 tables_1 room_1 Calls_1 rest_1 Pre_1 Post := by
  intro l hfl _ _ p e ha hc hk s m args below hf hA hF happ hP
  obtain ⟨hcalls, hrest, hpre⟩ := hP
  obtain ⟨-, -, -, hnamed, -, -, -, hat⟩ := (Spec.applies_iff hf).mp happ
  obtain ⟨hg, hn⟩ := and_e (Cond.before_iff.mp (show (Jvm.Cond.and given_1 narrow_1).before args s = true from hpre))
  obtain ⟨g_310, g_311⟩ := and_e hg
  obtain ⟨g_312, g_313⟩ := and_e g_311
  obtain ⟨g_314, g_315⟩ := and_e g_313
  obtain ⟨g_316, g_317⟩ := and_e g_315
  obtain ⟨g_318, g_319⟩ := and_e g_317
  obtain ⟨g_320, g_321⟩ := and_e g_319
  obtain ⟨w0, w1, w2, w3, w4, w5, rfl⟩ : ∃ w0 w1 w2 w3 w4 w5 : Value, args = #[w0, w1, w2, w3, w4, w5] := by
    have hs : args.size = 6 := by simpa [Cond.value, given_1] using g_310
    obtain ⟨L⟩ := args
    match L, hs with
    | [w0, w1, w2, w3, w4, w5], _ => exact ⟨w0, w1, w2, w3, w4, w5, rfl⟩
  have hw := fun d (hd : d ∈ tables_1) => atoms_spec (ws := Jvm.Cond.code x code maxLocals ret :: tables_1) hat d (List.mem_cons_of_mem _ hd)
  obtain ⟨i0, ei0⟩ := isL_v g_312
  obtain rfl : w0 = (.long i0) := Option.some.inj ei0
  obtain ⟨i1, ei1⟩ := isL_v g_314
  obtain rfl : w1 = (.long i1) := Option.some.inj ei1
  obtain ⟨i2, ei2⟩ := isL_v g_316
  obtain rfl : w2 = (.long i2) := Option.some.inj ei2
  obtain ⟨i3, ei3⟩ := isL_v g_318
  obtain rfl : w3 = (.long i3) := Option.some.inj ei3
  obtain ⟨i4, ei4⟩ := isL_v g_320
  obtain rfl : w4 = (.long i4) := Option.some.inj ei4
  obtain ⟨i5, ei5⟩ := is_v g_321
  obtain rfl : w5 = (.int i5) := Option.some.inj ei5
  obtain ⟨n, o, h1, h2, h3, _, L, rfl, ⟨rfl, N⟩, hq⟩ := rm0 l s _ hw tables_1 i0 i1 i2 i3 i4 i5 s.heap s.heap.size (Nat.le_refl _) p e ha hc hk s m _ below hf ((Spec.applies_iff_loose hf).mp happ).1 ⟨rfl, State.Warmed39.refl s, rfl⟩ trivial
  refine ⟨n, _, h1, h2, h3, hpost _ _ _ _ _ _ ⟨Cond.after_iff.mpr rfl, Cond.after_iff.mpr (eq_i res_at (Term.int_eval (1)) rfl), trivial⟩ ⟨hq.1, hq.2.1, (hq.2.2.sift fun y hy => Or.inr (N y hy)).mono (by decide) (by decide)⟩⟩
theorem main_1_1 : Claimed_1_1 := comes_1 fun _ _ _ _ _ _ h hF => ⟨h.1, hF⟩
theorem main_1_2 : Claimed_1_2 := comes_1 fun _ _ _ _ _ _ h hF => ⟨h.2.1, hF⟩
end Jvm.Pilot.@@N@@
namespace Jvm.Pilot.@@N@@
open Jvm Jvm.ClassFile Sem Op Lib Jvm.Free Jvm.Stand Jvm.Pilot.@@N@@.Jvm.D
/-! MADE BY PROGRAM (witnessworld.py) out of the Statement's table words and the real class files: 11 classes; the members and pool entries that the words name. The judged class is class 1, her method 2. -/
namespace start1
open Jvm.ClassFile
def u (s : String) : CpInfo := .utf8 (stringToUtf16 s)
/-- a pool by its gaps: so many unusable entries, then the entry; so many at the end -/
def gap : Nat → List CpInfo → List CpInfo
  | 0, r => r
  | n + 1, r => .unusable :: gap n r
def poolList (es : List (Nat × CpInfo)) (last : Nat) : List CpInfo := es.foldr (fun e r => gap e.1 (e.2 :: r)) (gap last [])
def pool (es : List (Nat × CpInfo)) (last : Nat) : Array CpInfo := ⟨poolList es last⟩
def fileOf (pool : Array CpInfo) (this : Nat) (attrs : Array Attribute := #[]) (ms : Array MethodInfo := #[]) (fl : Nat := 33) (sup : Nat := 0) (ifs : Array Nat := #[]) (fds : Array FieldInfo := #[]) : ClassFile where
  minorVersion := 0
  majorVersion := 65
  constantPool := pool
  accessFlags := fl
  thisClass := this
  superClass := sup
  interfaces := ifs
  fields := fds
  methods := ms
  attributes := attrs
def plain (name : String) (sup : Option ClassId) : Class where
  name := name
  kind := .ordinary
  loader := none
  accessFlags := 33
  super := sup
  interfaces := #[]
  cf := none
  fields := #[]
  methods := #[]
  instanceTypes := #[]
  staticTypes := #[]
  resolved := #[]
  callSites := []
  init := .initialized
  statics := none
  mirror := none

def pool0 : Array CpInfo := pool [(5, u "<init>"), (0, u "()V"), (1, .class_ 10), (1, u "java/lang/Object")] 113

def k0m0 : Method := { name := "<init>", desc := "()V", sig := { parameters := [], returnType := none }, accessFlags := 1, code := none }
/-- java/lang/Object -/
def k0 : Class := { plain "java/lang/Object" none with
  accessFlags := 33
  interfaces := #[]
  cf := some (fileOf pool0 8 #[] #[{ accessFlags := 1, nameIndex := 5, descriptorIndex := 6, attributes := #[] }] 33 0 #[] #[])
  fields := #[]
  methods := #[k0m0]
  instanceTypes := #[]
  staticTypes := #[]
  resolved := Array.replicate 124 none
  statics := none }

def pool1 : Array CpInfo := pool [(2, .class_ 4), (1, u "java/lang/Object"), (0, u "<init>"), (0, u "()V"), (0, .methodref 8 9), (0, .class_ 10), (0, .nameAndType 11 12), (0, u "com/example/latchet/latchet/Field25519"), (0, u "sub"), (0, u "([J[J[J)V"), (0, .methodref 14 15), (0, .class_ 16), (0, .nameAndType 17 18), (0, u "com/example/latchet/latchet/Field25519SubPinLaw"), (0, u "same"), (0, u "([J[J)Z"), (3, u "law"), (0, u "(JJJJJI)Z")] 4

def k1m0 : Method := { name := "<init>", desc := "()V", sig := { parameters := [], returnType := none }, accessFlags := 2, code := none }
def k1c1 : Code := { maxStack := 4, maxLocals := 2, code := method_2_code, exceptionTable := #[], attributes := #[] }
def k1m1 : Method := { name := "same", desc := "([J[J)Z", sig := { parameters := [(.array .long), (.array .long)], returnType := some .boolean }, accessFlags := 10, code := some k1c1 }
def k1c2 : Code := { maxStack := 5, maxLocals := 22, code := code, exceptionTable := #[], attributes := #[] }
def k1m2 : Method := { name := "law", desc := "(JJJJJI)Z", sig := { parameters := [.long, .long, .long, .long, .long, .int], returnType := some .boolean }, accessFlags := 9, code := some k1c2 }
/-- com/example/latchet/latchet/Field25519SubPinLaw -/
def k1 : Class := { plain "com/example/latchet/latchet/Field25519SubPinLaw" (some 0) with
  accessFlags := 49
  interfaces := #[]
  cf := some (fileOf pool1 14 #[] #[{ accessFlags := 2, nameIndex := 5, descriptorIndex := 6, attributes := #[] }, { accessFlags := 10, nameIndex := 17, descriptorIndex := 18, attributes := #[] }, { accessFlags := 9, nameIndex := 22, descriptorIndex := 23, attributes := #[] }] 49 2 #[] #[])
  fields := #[]
  methods := #[k1m0, k1m1, k1m2]
  instanceTypes := #[]
  staticTypes := #[]
  resolved := Array.replicate 28 none
  statics := none }

def pool2 : Array CpInfo := pool [(1, .class_ 2), (0, u "com/example/latchet/latchet/Field25519"), (3, .class_ 8), (1, u "java/lang/Object"), (0, u "<init>"), (0, u "()V"), (7, u "[J"), (31, u "([J[J[J)V"), (15, u "sub"), (9, u "SQRT_M1"), (21, u "LIMBS"), (0, u "I"), (2, u "BYTES"), (1, u "LIMB_BITS"), (1, u "LIMB_MASK"), (0, u "J"), (0, u "SPLIT_BITS"), (1, u "HIGH_SHIFT")] 14

def k2m0 : Method := { name := "<init>", desc := "()V", sig := { parameters := [], returnType := none }, accessFlags := 2, code := none }
def k2c1 : Code := { maxStack := 6, maxLocals := 4, code := prog_10_method_7_code, exceptionTable := #[], attributes := #[] }
def k2m1 : Method := { name := "sub", desc := "([J[J[J)V", sig := { parameters := [(.array .long), (.array .long), (.array .long)], returnType := none }, accessFlags := 8, code := some k2c1 }
/-- com/example/latchet/latchet/Field25519 -/
def k2 : Class := { plain "com/example/latchet/latchet/Field25519" (some 0) with
  accessFlags := 48
  interfaces := #[]
  cf := some (fileOf pool2 1 #[] #[{ accessFlags := 2, nameIndex := 9, descriptorIndex := 10, attributes := #[] }, { accessFlags := 8, nameIndex := 66, descriptorIndex := 50, attributes := #[] }] 48 6 #[] #[{ accessFlags := 24, nameIndex := 98, descriptorIndex := 99, attributes := #[] }, { accessFlags := 24, nameIndex := 102, descriptorIndex := 99, attributes := #[] }, { accessFlags := 26, nameIndex := 104, descriptorIndex := 99, attributes := #[] }, { accessFlags := 26, nameIndex := 106, descriptorIndex := 107, attributes := #[] }, { accessFlags := 26, nameIndex := 108, descriptorIndex := 99, attributes := #[] }, { accessFlags := 26, nameIndex := 110, descriptorIndex := 99, attributes := #[] }, { accessFlags := 26, nameIndex := 76, descriptorIndex := 18, attributes := #[] }])
  fields := #[{ name := "LIMBS", type := .int, accessFlags := 24, slot := 0, constantValue := 0 }, { name := "BYTES", type := .int, accessFlags := 24, slot := 1, constantValue := 0 }, { name := "LIMB_BITS", type := .int, accessFlags := 26, slot := 2, constantValue := 0 }, { name := "LIMB_MASK", type := .long, accessFlags := 26, slot := 3, constantValue := 0 }, { name := "SPLIT_BITS", type := .int, accessFlags := 26, slot := 4, constantValue := 0 }, { name := "HIGH_SHIFT", type := .int, accessFlags := 26, slot := 5, constantValue := 0 }, { name := "SQRT_M1", type := (.array .long), accessFlags := 26, slot := 6, constantValue := 0 }]
  methods := #[k2m0, k2m1]
  instanceTypes := #[]
  staticTypes := #[.int, .int, .int, .long, .int, .int, (.array .long)]
  resolved := Array.replicate 125 none
  statics := none }

def pool3 : Array CpInfo := pool [(1, u "java/lang/Cloneable"), (0, .class_ 1), (0, u "java/lang/Object"), (0, .class_ 3)] 3

/-- java/lang/Cloneable -/
def k3 : Class := { plain "java/lang/Cloneable" (some 0) with
  accessFlags := 1537
  interfaces := #[]
  cf := some (fileOf pool3 2 #[] #[] 1537 4 #[] #[])
  fields := #[]
  methods := #[]
  instanceTypes := #[]
  staticTypes := #[]
  resolved := Array.replicate 8 none
  statics := none }

def pool4 : Array CpInfo := pool [(1, u "java/io/Serializable"), (0, .class_ 1), (0, u "java/lang/Object"), (0, .class_ 3)] 3

/-- java/io/Serializable -/
def k4 : Class := { plain "java/io/Serializable" (some 0) with
  accessFlags := 1537
  interfaces := #[]
  cf := some (fileOf pool4 2 #[] #[] 1537 4 #[] #[])
  fields := #[]
  methods := #[]
  instanceTypes := #[]
  staticTypes := #[]
  resolved := Array.replicate 8 none
  statics := none }

/-- the primitive byte -/
def k5 : Class := { plain "byte" none with kind := .primitive 'B', accessFlags := 0x411 }
/-- [B -/
def k6 : Class := { plain "[B" (some 0) with kind := .array 5 .byte, interfaces := #[3, 4], accessFlags := 1041 }

/-- the primitive int -/
def k7 : Class := { plain "int" none with kind := .primitive 'I', accessFlags := 0x411 }
/-- [I -/
def k8 : Class := { plain "[I" (some 0) with kind := .array 7 .int, interfaces := #[3, 4], accessFlags := 1041 }

/-- the primitive long -/
def k9 : Class := { plain "long" none with kind := .primitive 'J', accessFlags := 0x411 }
/-- [J -/
def k10 : Class := { plain "[J" (some 0) with kind := .array 9 .long, interfaces := #[3, 4], accessFlags := 1041 }

def heap : Heap := #[]
def classes : Array Class := #[k0, k1, k2, k3, k4, k5, k6, k7, k8, k9, k10]
def interned : List (Array UInt16 × Addr) := []
def slotsUsed : Nat := 0
def theMethod : MethodId := ⟨1, 2⟩
def args0 : Array Value := #[.long 5, .long 5, .long 5, .long 5, .long 5, .int 1]
def aboutOver (below : List Frame) : State where
  vm := { classes := classes, interned := interned.toArray }
  heap := heap
  slotsUsed := slotsUsed
  threads := #[{ frames := .invoking theMethod args0 :: below }]
def below0 : List Frame := [.native { method := ⟨0, 0⟩, args := #[] }]
def about1 : State := aboutOver below0
def p0 : Program := .bare "" "" ""
def e0 : Env := launch0.env 0 0 0
theorem w_frames : about1.frames = Frame.invoking theMethod args0 :: below0 := rfl
set_option maxRecDepth 65536 in
theorem w_args : argsFit about1.vm theMethod args0 = true := by decide +kernel
set_option maxRecDepth 65536 in
theorem w_heap : heapFits about1 = true := by decide +kernel
set_option maxRecDepth 65536 in
theorem w_runnable : about1.curStatus? = some .runnable := by decide +kernel
set_option maxRecDepth 65536 in
theorem w_alone : about1.alone = true := by decide +kernel
set_option maxRecDepth 65536 in
theorem w_named : about1.methodNamed? x = some theMethod := by decide +kernel
set_option maxRecDepth 65536 in
theorem w_hears : about1.hears theMethod below0 = true := by decide +kernel
set_option maxRecDepth 65536 in
theorem w_ripe : about1.ripe theMethod args0 below0 = true := by decide +kernel
theorem w_running : about1.status = .running := rfl
set_option maxRecDepth 65536 in
theorem w_room : about1.hasRoom e0.platform room_1 = true :=
  launch0.hasRoom_least _ room_1 (by decide +kernel) (by decide +kernel) (by decide +kernel) (by decide +kernel) (by decide +kernel) (by decide +kernel)
theorem allAtoms_all (ts : List Jvm.Cond) (a : Array Jvm.Value) (st : Jvm.State) : (allAtoms ts).before a st = ts.all (fun c => c.before a st) := by
  induction ts with
  | nil => rfl
  | cons c t ih =>
    show (Jvm.Cond.and c (allAtoms t)).before a st = _
    rw [Jvm.Cond.before_and, ih, List.all_cons]
def words1 : List Jvm.Cond := Jvm.Cond.code x code maxLocals ret :: tables_1
/-- a 'code' word, met by the world's own term for the bytes: nothing is compared byte by byte -/
theorem code_word {y : MethodName} {bytes : ByteArray} {mx : Nat} {rt : Option FieldType} {a : Array Value} {s : State} {m : MethodId} {meth : Method} {c : Code} (h1 : s.methodNamed? y = some m) (h2 : s.vm.method? m = some meth) (h3 : meth.code = some c) (h4 : c.code = bytes)
    (h5 : (c.maxLocals == mx && c.exceptionTable.isEmpty && decide (c.maxStack ≤ mostOperands) && decide (meth.sig.returnType = rt) && !meth.locks && decide (parseMethodDescriptor y.desc = some meth.sig)) = true) : (Jvm.Cond.code y bytes mx rt).before a s = true := by
  simp only [Bool.and_eq_true, beq_iff_eq, Bool.not_eq_true', decide_eq_true_eq] at h5
  obtain ⟨⟨⟨⟨⟨g1, g2⟩, g3⟩, g4⟩, g5⟩, g6⟩ := h5
  simp [Cond.before, Cond.holds, Cond.value, h1, h2, h3, h4, g1, g2, g3, g4, g5, g6]
def isCode : Jvm.Cond → Bool
  | .code _ _ _ _ => true
  | _ => false
theorem all_split {L : List Jvm.Cond} {P : Jvm.Cond → Bool} (h1 : L.all (fun c => isCode c || P c) = true) (h2 : ∀ c ∈ L.filter isCode, P c = true) : L.all P = true := by
  refine List.all_eq_true.mpr fun c hc => ?_
  have h := List.all_eq_true.mp h1 c hc
  rcases Bool.eq_false_or_eq_true (isCode c) with hi | hi
  · exact h2 c (List.mem_filter.mpr ⟨hc, hi⟩)
  · simpa [hi] using h
set_option maxRecDepth 65536 in
theorem w_c0 : (Jvm.Cond.code x code maxLocals ret).before args0 about1 = true := code_word (m := ⟨1, 2⟩) (meth := k1m2) (c := k1c2) (by decide +kernel) rfl rfl rfl (by decide +kernel)
set_option maxRecDepth 65536 in
theorem w_c1 : (Jvm.Cond.code ({ cls := "com/example/latchet/latchet/Field25519", name := "sub", desc := "([J[J[J)V" } : Jvm.MethodName) prog_10_method_7_code (4 : Nat) (Option.none : Option Jvm.ClassFile.FieldType)).before args0 about1 = true := code_word (m := ⟨2, 1⟩) (meth := k2m1) (c := k2c1) (by decide +kernel) rfl rfl rfl (by decide +kernel)
set_option maxRecDepth 65536 in
theorem w_c2 : (Jvm.Cond.code ({ cls := "com/example/latchet/latchet/Field25519SubPinLaw", name := "same", desc := "([J[J)Z" } : Jvm.MethodName) method_2_code (2 : Nat) (Option.some Jvm.ClassFile.FieldType.boolean)).before args0 about1 = true := code_word (m := ⟨1, 1⟩) (meth := k1m1) (c := k1c1) (by decide +kernel) rfl rfl rfl (by decide +kernel)
def codes1 : List Jvm.Cond := [Jvm.Cond.code x code maxLocals ret, Jvm.Cond.code ({ cls := "com/example/latchet/latchet/Field25519", name := "sub", desc := "([J[J[J)V" } : Jvm.MethodName) prog_10_method_7_code (4 : Nat) (Option.none : Option Jvm.ClassFile.FieldType), Jvm.Cond.code ({ cls := "com/example/latchet/latchet/Field25519SubPinLaw", name := "same", desc := "([J[J)Z" } : Jvm.MethodName) method_2_code (2 : Nat) (Option.some Jvm.ClassFile.FieldType.boolean)]
set_option maxRecDepth 65536 in
theorem codes_eq : words1.filter isCode = codes1 := rfl
theorem w_codes : ∀ c ∈ words1.filter isCode, c.before args0 about1 = true := by
  rw [codes_eq]
  intro c hc
  simp only [codes1, List.mem_cons, List.not_mem_nil, or_false] at hc
  rcases hc with rfl | rfl | rfl
  · exact w_c0
  · exact w_c1
  · exact w_c2
set_option maxRecDepth 65536 in
theorem w_t1 : words1.all (fun c => isCode c || c.before args0 about1) = true := by decide +kernel
theorem w_tables : (allAtoms (Jvm.Cond.code x code maxLocals ret :: tables_1)).before args0 about1 = true := by
  rw [allAtoms_all]
  show words1.all (fun c => c.before args0 about1) = true
  refine all_split ?_ w_codes
  rw [w_t1]
set_option maxRecDepth 65536 in
theorem w_case : (Jvm.Cond.and given_1 narrow_1).before args0 about1 = true := by decide +kernel
theorem w_applies : (headSpec (Jvm.Cond.code x code maxLocals ret :: tables_1) room_1).applies x e0.platform about1 = true :=
  (Spec.applies_iff w_frames).mpr ⟨w_running, w_runnable, w_alone, w_named, w_hears, w_ripe, w_room, w_tables⟩
theorem atStart : AtStart classFile x code maxLocals ret World_1 tables_1 room_1 Calls_1 rest_1 Pre_1 launch0 p0 e0 about1 theMethod args0 below0 :=
  ⟨lists_1, trivial, launch0.admits_env _ _ _, launch0.least_env, fairChoices_fair.cas, fairChoices_fair.clock, w_frames, w_args, w_heap, w_applies, trivial, trivial, w_case⟩
end start1
theorem witness_1 : WitnessClaimed_1 := ⟨start1.p0, start1.e0, start1.about1, start1.theMethod, start1.args0, start1.below0, start1.atStart⟩
end Jvm.Pilot.@@N@@
