import JvmDerived
import JvmDerived.Pilot.@@N@@Statement
import JvmDerived.Pilot.@@N@@Code
set_option linter.unusedVariables false
set_option linter.unusedSimpArgs false
namespace Jvm.RoadKit
open Sem ClassFile Op Lib Jvm.Stand Jvm.Free Jvm.LawKit
section New
variable {p : Program} {l : Launch} {e : Env} {R : Room} {s : State} {m : MethodId} {args : Array Value} {below : List Frame} {meth : Method} {c : Code} {T : State} {locs : List Loc} {cells slots : Nat}
theorem retI (X : Stand p l e R s m args below meth c T locs cells slots) (hx : p.tables.exec = Jvm.exec) {pc : Nat} {Ls : Array Slot} {z : Int32} {rest : List Value} (hret : meth.sig.returnType = some .int) (hd : decode c.code pc = .ok (.ireturn, 1)) {fs : List Frame}
    (hl : ∀ (f : JFrame) (acts : List Action), f.method = m → f.locked = none → f.entered = [] → (doReturn e (T.setTop f) acts (some (.int z))).1 = T.setFrames fs) : Steps p.tables e below (T.setTop (mkF m pc Ls (.int z :: rest))) (T.setFrames fs) := by
  have hm' : T.vm.method? m = some meth := X.method'
  have hn : narrow .int (.int z) = .int z := rfl
  show Steps p.tables e below (T.setTop { method := m, pc := pc, locals := Ls, stack := _ :: rest, locked := none }) _
  jvm_step X.here [X.here.top, hx, hd, hm', hret, hn]
  first | (intro acts; rw [hl _ acts rfl rfl rfl]) | rw [hl _ _ rfl rfl rfl]
  exact Steps.refl _
theorem retL (X : Stand p l e R s m args below meth c T locs cells slots) (hx : p.tables.exec = Jvm.exec) {pc : Nat} {Ls : Array Slot} {z : Int64} {rest : List Value} (hret : meth.sig.returnType = some .long) (hd : decode c.code pc = .ok (.lreturn, 1)) {fs : List Frame}
    (hl : ∀ (f : JFrame) (acts : List Action), f.method = m → f.locked = none → f.entered = [] → (doReturn e (T.setTop f) acts (some (.long z))).1 = T.setFrames fs) : Steps p.tables e below (T.setTop (mkF m pc Ls (.long z :: rest))) (T.setFrames fs) := by
  have hm' : T.vm.method? m = some meth := X.method'
  have hn : narrow .long (.long z) = .long z := rfl
  show Steps p.tables e below (T.setTop { method := m, pc := pc, locals := Ls, stack := _ :: rest, locked := none }) _
  jvm_step X.here [X.here.top, hx, hd, hm', hret, hn]
  first | (intro acts; rw [hl _ acts rfl rfl rfl]) | rw [hl _ _ rfl rfl rfl]
  exact Steps.refl _
theorem castS {locs' : List Loc} {cells' slots' : Nat} (h1 : locs = locs') (h2 : cells = cells') (h3 : slots = slots') (X : Stand p l e R s m args below meth c T locs cells slots) : Stand p l e R s m args below meth c T locs' cells' slots' := by
  subst h1 h2 h3; exact X
end New
end Jvm.RoadKit
namespace Jvm.Pilot.@@N@@
open Jvm Jvm.ClassFile Sem Op Lib Jvm.Free Jvm.Stand Jvm.LawKit Jvm.RoadKit Bundle Jvm.Pilot.@@N@@.Jvm.D
def own_ar (q w : Int64) : Int64 := if q = (0 : Int64) then w else w + q
def own_ap (q r p s : Int64) : Int64 := if q = (0 : Int64) then p else if p < (r + q) + s then (r + q) + s else p
theorem own_ar_eq (q w : Int64) : own_ar q w = w + q := by
  unfold own_ar
  by_cases h : q = (0 : Int64)
  · rw [if_pos h, h, Int64.add_zero]
  · rw [if_neg h]
theorem own_kept (a s k : Int64) : ((a - s) + k) + ((0 : Int64) + s) = a + k := by
  rw [Int64.zero_add, Int64.add_assoc, Int64.add_comm k s, ← Int64.add_assoc, Int64.sub_add_cancel]
theorem d2_0 : decode prog_68_method_2_code 0 = .ok (.aload_n 0, 1) := by decide +kernel
theorem d2_1 : decode prog_68_method_2_code 1 = .ok (.invokespecial 7, 3) := by decide +kernel
theorem d2_4 : decode prog_68_method_2_code 4 = .ok (.aload_n 0, 1) := by decide +kernel
theorem d2_5 : decode prog_68_method_2_code 5 = .ok (.aload_n 1, 1) := by decide +kernel
theorem d2_6 : decode prog_68_method_2_code 6 = .ok (.putfield 12, 3) := by decide +kernel
theorem d2_9 : decode prog_68_method_2_code 9 = .ok (.return_, 1) := by decide +kernel
theorem pn_2 : plainName "org/millrace/engine/Footprint" = true := by first | (simp [plainName, overriddenIn]; done) | decide +kernel
theorem ef_2n (m : MethodId) (x0 : Addr) : entryFrame m #[(.ref x0), .null] 2 = mkF m 0 #[.val (.ref x0), .val .null] [] := by first | (simp [entryFrame, mkF, argsToLocals, Value.category]; done) | rfl
def Q2n (Z : State) (a1 : Addr) (h0 : Heap) (n0 : Nat) (v : Option Value) (h : Heap) (L : List Loc) : Prop := v = none ∧ Fr n0 L ∧ Keep h0 h [a1] ∧ Exa Z h a1 "org/millrace/engine/Footprint" ∧ Fld Z h a1 "org/millrace/engine/Footprint" "rows" "J" (.long (0 : Int64)) ∧ Fld Z h a1 "org/millrace/engine/Footprint" "peak" "J" (.long (0 : Int64)) ∧ Fld Z h a1 "org/millrace/engine/Footprint" "aside" "J" (.long (0 : Int64)) ∧ Fld Z h a1 "org/millrace/engine/Footprint" "whole" "Lorg/millrace/engine/Footprint;" .null
set_option maxRecDepth 65536 in
set_option maxHeartbeats 40000000 in
theorem rm2n (l : Launch) (Z : State) (a0 : Array Value) (hw : ∀ d ∈ tables_1, d.before a0 Z = true) (ws : List Jvm.Cond) (a1 : Addr) (h0 : Heap) (n0 : Nat) (Z0 : n0 ≤ h0.size) (E_a1 : Exa Z h0 a1 "org/millrace/engine/Footprint") (F_a1_rows : Fld Z h0 a1 "org/millrace/engine/Footprint" "rows" "J" (.long (0 : Int64))) (F_a1_peak : Fld Z h0 a1 "org/millrace/engine/Footprint" "peak" "J" (.long (0 : Int64))) (F_a1_aside : Fld Z h0 a1 "org/millrace/engine/Footprint" "aside" "J" (.long (0 : Int64))) (F_a1_whole : Fld Z h0 a1 "org/millrace/engine/Footprint" "whole" "Lorg/millrace/engine/Footprint;" .null) (g_a1 : n0 ≤ a1) :
    MetFree l (⟨"org/millrace/engine/Footprint", "<init>", "(Lorg/millrace/engine/Footprint;)V"⟩ : MethodName) (head1 (Jvm.Cond.code (⟨"org/millrace/engine/Footprint", "<init>", "(Lorg/millrace/engine/Footprint;)V"⟩ : MethodName) prog_68_method_2_code 2 none :: ws) ({ frames := 1, cells := 0, slots := 0, locals := 12 } : Room)) (fun a U => a = #[(.ref a1), .null] ∧ Z.Warmed39 U.vm ∧ U.heap = h0) (fun _ _ _ _ _ => True) (fun _ U o U' => ∃ v L, o = .returned v ∧ Q2n Z a1 h0 n0 v U'.heap L ∧ FrameEnd U o U' L ({ frames := 1, cells := 0, slots := 0, locals := 12 } : Room).cells ({ frames := 1, cells := 0, slots := 0, locals := 12 } : Room).slots) := by
  refine MetFree.of_bodySF (plainFor_of_name pn_2) hisR ?_
  intro p e s m args below meth c s₁ Bd hml0 hP hK
  obtain ⟨rfl, hZ, hh⟩ := hP
  have hx := Bd.exec
  have hby := Bd.bytes
  have hml : c.maxLocals = 2 := hml0
  have hown : s.vm.findClass "org/millrace/engine/Footprint" = some m.cls := findClass_of_methodNamed Bd.named
  have hnm := (name_of_methodNamed Bd.named Bd.method).1
  have X0 : Stand p l e ({ frames := 1, cells := 0, slots := 0, locals := 12 } : Room) s m #[(.ref a1), .null] below meth c s₁ [] 0 0 := Stand.of_body Bd
  have e0 : s₁.heap = h0 := by rw [← hh, Bd.state]; rfl
  have N0 := Fr.nil n0
  have pre0 : ∀ t, Steps p.tables e below (s₁.setTop (mkF m 0 #[.val (.ref a1), .val .null] [])) t → Steps p.tables e below (s₁.setTop (entryFrame m #[(.ref a1), .null] 2)) t := fun t k => castTop (ef_2n m a1) k
  obtain ⟨T_1, X_1, e_1, st_1⟩ := initO X0 hx hZ hown (hw _ (List.mem_of_getElem? (i := 9) rfl)) (hw _ (List.mem_of_getElem? (i := 10) rfl)) (hw _ (List.mem_of_getElem? (i := 11) rfl)) e0 (g := (mkF m 1 #[.val (.ref a1), .val .null] [(.ref a1)])) rfl (by rw [hml]; rfl) rfl (hb hby d2_1) (by decide) (W := 0) (by show 2 * 0 + _ ≤ _; exact Nat.le_of_eq rfl) (by decide)
  obtain ⟨T_2, h_2, X_2, e_2, W_2, st_2⟩ := putF X_1 hx hZ hown (host := "") (Or.inl (hw _ (List.mem_of_getElem? (i := 12) rfl))) Via.refl e_1 F_a1_whole E_a1 (Or.inr ⟨(hw _ (List.mem_of_getElem? (i := 13) rfl)), rfl, hnm⟩) (hw _ (List.mem_of_getElem? (i := 1) rfl)) (ty := (.object "org/millrace/engine/Footprint")) (by decide) rfl rfl (g := (mkF m 6 #[.val (.ref a1), .val .null] [.null, (.ref a1)])) rfl rfl (hb hby d2_6)
  have z_3 : n0 ≤ h_2.size := Nat.le_trans Z0 (Keep.of_wr W_2).1
  have fw_2 : Fld Z h_2 a1 "org/millrace/engine/Footprint" "whole" "Lorg/millrace/engine/Footprint;" .null := F_a1_whole.same W_2
  have N_2 := Fr.snoc X_2 N0 g_a1
  have K_2 : Keep h0 h_2 [a1] := (Keep.refl h0 [a1]).wr W_2 (Or.inl (List.mem_of_getElem? (i := 0) rfl))
  obtain ⟨fs, hr, hrun, hended, hW, hsame⟩ := X_2.leave (v := none) (fun _ => rfl)
  refine ⟨_, _, pre0 _ ?_, hrun, hended, _, _, rfl, ?_, ⟨_, rfl⟩, hW, hsame.mono (by decide) (by decide)⟩
  · show Steps p.tables e below (s₁.setTop (mkF m 0 #[.val (.ref a1), .val .null] [])) _
    refine XS.aloadN X0.here hx rfl (hb hby d2_0) rfl rfl ?_
    show Steps p.tables e below (s₁.setTop (mkF m 1 #[.val (.ref a1), .val .null] [(.ref a1)])) _
    refine st_1 _ ?_
    show Steps p.tables e below (T_1.setTop (mkF m 4 #[.val (.ref a1), .val .null] [])) _
    refine XS.aloadN X_1.here hx rfl (hb hby d2_4) rfl rfl ?_
    show Steps p.tables e below (T_1.setTop (mkF m 5 #[.val (.ref a1), .val .null] [(.ref a1)])) _
    refine XS.aloadN X_1.here hx rfl (hb hby d2_5) rfl rfl ?_
    show Steps p.tables e below (T_1.setTop (mkF m 6 #[.val (.ref a1), .val .null] [.null, (.ref a1)])) _
    refine st_2 _ ?_
    show Steps p.tables e below (T_2.setTop (mkF m 9 #[.val (.ref a1), .val .null] [])) _
    exact X_2.returnOut hx Bd.returns (hb hby d2_9) hr
  have f_4 : Exa Z h_2 a1 "org/millrace/engine/Footprint" := (E_a1.wr W_2)
  have f_5 : Fld Z h_2 a1 "org/millrace/engine/Footprint" "rows" "J" (.long (0 : Int64)) := (F_a1_rows.other W_2 (Or.inr (slot_ne (Or.inl (hw _ (List.mem_of_getElem? (i := 20) rfl))) (Or.inr (hw _ (List.mem_of_getElem? (i := 13) rfl))) (by decide) (t := .long) (t' := (.object "org/millrace/engine/Footprint")) (by decide) (by decide))))
  have f_6 : Fld Z h_2 a1 "org/millrace/engine/Footprint" "peak" "J" (.long (0 : Int64)) := (F_a1_peak.other W_2 (Or.inr (slot_ne (Or.inl (hw _ (List.mem_of_getElem? (i := 24) rfl))) (Or.inr (hw _ (List.mem_of_getElem? (i := 13) rfl))) (by decide) (t := .long) (t' := (.object "org/millrace/engine/Footprint")) (by decide) (by decide))))
  have f_7 : Fld Z h_2 a1 "org/millrace/engine/Footprint" "aside" "J" (.long (0 : Int64)) := (F_a1_aside.other W_2 (Or.inr (slot_ne (Or.inl (hw _ (List.mem_of_getElem? (i := 22) rfl))) (Or.inr (hw _ (List.mem_of_getElem? (i := 13) rfl))) (by decide) (t := .long) (t' := (.object "org/millrace/engine/Footprint")) (by decide) (by decide))))
  · show Q2n Z a1 h0 n0 _ T_2.heap _
    rw [e_2]
    exact ⟨rfl, N_2, K_2, f_4, f_5, f_6, f_7, fw_2⟩
theorem ef_2r (m : MethodId) (x0 : Addr) (x1 : Addr) : entryFrame m #[(.ref x0), (.ref x1)] 2 = mkF m 0 #[.val (.ref x0), .val (.ref x1)] [] := by first | (simp [entryFrame, mkF, argsToLocals, Value.category]; done) | rfl
def Q2r (Z : State) (a1 : Addr) (a2 : Addr) (h0 : Heap) (n0 : Nat) (v : Option Value) (h : Heap) (L : List Loc) : Prop := v = none ∧ Fr n0 L ∧ Keep h0 h [a1] ∧ Exa Z h a1 "org/millrace/engine/Footprint" ∧ Fld Z h a1 "org/millrace/engine/Footprint" "rows" "J" (.long (0 : Int64)) ∧ Fld Z h a1 "org/millrace/engine/Footprint" "peak" "J" (.long (0 : Int64)) ∧ Fld Z h a1 "org/millrace/engine/Footprint" "aside" "J" (.long (0 : Int64)) ∧ Fld Z h a1 "org/millrace/engine/Footprint" "whole" "Lorg/millrace/engine/Footprint;" (.ref a2)
set_option maxRecDepth 65536 in
set_option maxHeartbeats 40000000 in
theorem rm2r (l : Launch) (Z : State) (a0 : Array Value) (hw : ∀ d ∈ tables_1, d.before a0 Z = true) (ws : List Jvm.Cond) (a1 : Addr) (a2 : Addr) (h0 : Heap) (n0 : Nat) (Z0 : n0 ≤ h0.size) (E_a1 : Exa Z h0 a1 "org/millrace/engine/Footprint") (F_a1_rows : Fld Z h0 a1 "org/millrace/engine/Footprint" "rows" "J" (.long (0 : Int64))) (F_a1_peak : Fld Z h0 a1 "org/millrace/engine/Footprint" "peak" "J" (.long (0 : Int64))) (F_a1_aside : Fld Z h0 a1 "org/millrace/engine/Footprint" "aside" "J" (.long (0 : Int64))) (F_a1_whole : Fld Z h0 a1 "org/millrace/engine/Footprint" "whole" "Lorg/millrace/engine/Footprint;" .null) (g_a1 : n0 ≤ a1) :
    MetFree l (⟨"org/millrace/engine/Footprint", "<init>", "(Lorg/millrace/engine/Footprint;)V"⟩ : MethodName) (head1 (Jvm.Cond.code (⟨"org/millrace/engine/Footprint", "<init>", "(Lorg/millrace/engine/Footprint;)V"⟩ : MethodName) prog_68_method_2_code 2 none :: ws) ({ frames := 1, cells := 0, slots := 0, locals := 12 } : Room)) (fun a U => a = #[(.ref a1), (.ref a2)] ∧ Z.Warmed39 U.vm ∧ U.heap = h0) (fun _ _ _ _ _ => True) (fun _ U o U' => ∃ v L, o = .returned v ∧ Q2r Z a1 a2 h0 n0 v U'.heap L ∧ FrameEnd U o U' L ({ frames := 1, cells := 0, slots := 0, locals := 12 } : Room).cells ({ frames := 1, cells := 0, slots := 0, locals := 12 } : Room).slots) := by
  refine MetFree.of_bodySF (plainFor_of_name pn_2) hisR ?_
  intro p e s m args below meth c s₁ Bd hml0 hP hK
  obtain ⟨rfl, hZ, hh⟩ := hP
  have hx := Bd.exec
  have hby := Bd.bytes
  have hml : c.maxLocals = 2 := hml0
  have hown : s.vm.findClass "org/millrace/engine/Footprint" = some m.cls := findClass_of_methodNamed Bd.named
  have hnm := (name_of_methodNamed Bd.named Bd.method).1
  have X0 : Stand p l e ({ frames := 1, cells := 0, slots := 0, locals := 12 } : Room) s m #[(.ref a1), (.ref a2)] below meth c s₁ [] 0 0 := Stand.of_body Bd
  have e0 : s₁.heap = h0 := by rw [← hh, Bd.state]; rfl
  have N0 := Fr.nil n0
  have pre0 : ∀ t, Steps p.tables e below (s₁.setTop (mkF m 0 #[.val (.ref a1), .val (.ref a2)] [])) t → Steps p.tables e below (s₁.setTop (entryFrame m #[(.ref a1), (.ref a2)] 2)) t := fun t k => castTop (ef_2r m a1 a2) k
  obtain ⟨T_8, X_8, e_8, st_8⟩ := initO X0 hx hZ hown (hw _ (List.mem_of_getElem? (i := 9) rfl)) (hw _ (List.mem_of_getElem? (i := 10) rfl)) (hw _ (List.mem_of_getElem? (i := 11) rfl)) e0 (g := (mkF m 1 #[.val (.ref a1), .val (.ref a2)] [(.ref a1)])) rfl (by rw [hml]; rfl) rfl (hb hby d2_1) (by decide) (W := 0) (by show 2 * 0 + _ ≤ _; exact Nat.le_of_eq rfl) (by decide)
  obtain ⟨T_9, h_9, X_9, e_9, W_9, st_9⟩ := putF X_8 hx hZ hown (host := "") (Or.inl (hw _ (List.mem_of_getElem? (i := 12) rfl))) Via.refl e_8 F_a1_whole E_a1 (Or.inr ⟨(hw _ (List.mem_of_getElem? (i := 13) rfl)), rfl, hnm⟩) (hw _ (List.mem_of_getElem? (i := 1) rfl)) (ty := (.object "org/millrace/engine/Footprint")) (by decide) rfl rfl (g := (mkF m 6 #[.val (.ref a1), .val (.ref a2)] [(.ref a2), (.ref a1)])) rfl rfl (hb hby d2_6)
  have z_10 : n0 ≤ h_9.size := Nat.le_trans Z0 (Keep.of_wr W_9).1
  have fw_9 : Fld Z h_9 a1 "org/millrace/engine/Footprint" "whole" "Lorg/millrace/engine/Footprint;" (.ref a2) := F_a1_whole.same W_9
  have N_9 := Fr.snoc X_9 N0 g_a1
  have K_9 : Keep h0 h_9 [a1] := (Keep.refl h0 [a1]).wr W_9 (Or.inl (List.mem_of_getElem? (i := 0) rfl))
  obtain ⟨fs, hr, hrun, hended, hW, hsame⟩ := X_9.leave (v := none) (fun _ => rfl)
  refine ⟨_, _, pre0 _ ?_, hrun, hended, _, _, rfl, ?_, ⟨_, rfl⟩, hW, hsame.mono (by decide) (by decide)⟩
  · show Steps p.tables e below (s₁.setTop (mkF m 0 #[.val (.ref a1), .val (.ref a2)] [])) _
    refine XS.aloadN X0.here hx rfl (hb hby d2_0) rfl rfl ?_
    show Steps p.tables e below (s₁.setTop (mkF m 1 #[.val (.ref a1), .val (.ref a2)] [(.ref a1)])) _
    refine st_8 _ ?_
    show Steps p.tables e below (T_8.setTop (mkF m 4 #[.val (.ref a1), .val (.ref a2)] [])) _
    refine XS.aloadN X_8.here hx rfl (hb hby d2_4) rfl rfl ?_
    show Steps p.tables e below (T_8.setTop (mkF m 5 #[.val (.ref a1), .val (.ref a2)] [(.ref a1)])) _
    refine XS.aloadN X_8.here hx rfl (hb hby d2_5) rfl rfl ?_
    show Steps p.tables e below (T_8.setTop (mkF m 6 #[.val (.ref a1), .val (.ref a2)] [(.ref a2), (.ref a1)])) _
    refine st_9 _ ?_
    show Steps p.tables e below (T_9.setTop (mkF m 9 #[.val (.ref a1), .val (.ref a2)] [])) _
    exact X_9.returnOut hx Bd.returns (hb hby d2_9) hr
  have f_11 : Exa Z h_9 a1 "org/millrace/engine/Footprint" := (E_a1.wr W_9)
  have f_12 : Fld Z h_9 a1 "org/millrace/engine/Footprint" "rows" "J" (.long (0 : Int64)) := (F_a1_rows.other W_9 (Or.inr (slot_ne (Or.inl (hw _ (List.mem_of_getElem? (i := 20) rfl))) (Or.inr (hw _ (List.mem_of_getElem? (i := 13) rfl))) (by decide) (t := .long) (t' := (.object "org/millrace/engine/Footprint")) (by decide) (by decide))))
  have f_13 : Fld Z h_9 a1 "org/millrace/engine/Footprint" "peak" "J" (.long (0 : Int64)) := (F_a1_peak.other W_9 (Or.inr (slot_ne (Or.inl (hw _ (List.mem_of_getElem? (i := 24) rfl))) (Or.inr (hw _ (List.mem_of_getElem? (i := 13) rfl))) (by decide) (t := .long) (t' := (.object "org/millrace/engine/Footprint")) (by decide) (by decide))))
  have f_14 : Fld Z h_9 a1 "org/millrace/engine/Footprint" "aside" "J" (.long (0 : Int64)) := (F_a1_aside.other W_9 (Or.inr (slot_ne (Or.inl (hw _ (List.mem_of_getElem? (i := 22) rfl))) (Or.inr (hw _ (List.mem_of_getElem? (i := 13) rfl))) (by decide) (t := .long) (t' := (.object "org/millrace/engine/Footprint")) (by decide) (by decide))))
  · show Q2r Z a1 a2 h0 n0 _ T_9.heap _
    rw [e_9]
    exact ⟨rfl, N_9, K_9, f_11, f_12, f_13, f_14, fw_9⟩
theorem d1_0 : decode prog_68_method_1_code 0 = .ok (.aload_n 0, 1) := by decide +kernel
theorem d1_1 : decode prog_68_method_1_code 1 = .ok (.aconst_null, 1) := by decide +kernel
theorem d1_2 : decode prog_68_method_1_code 2 = .ok (.invokespecial 1, 3) := by decide +kernel
theorem d1_5 : decode prog_68_method_1_code 5 = .ok (.return_, 1) := by decide +kernel
theorem ef_1 (m : MethodId) (x0 : Addr) : entryFrame m #[(.ref x0)] 1 = mkF m 0 #[.val (.ref x0)] [] := by first | (simp [entryFrame, mkF, argsToLocals, Value.category]; done) | rfl
def Q1 (Z : State) (a1 : Addr) (h0 : Heap) (n0 : Nat) (v : Option Value) (h : Heap) (L : List Loc) : Prop := v = none ∧ Fr n0 L ∧ Keep h0 h [a1] ∧ Exa Z h a1 "org/millrace/engine/Footprint" ∧ Fld Z h a1 "org/millrace/engine/Footprint" "rows" "J" (.long (0 : Int64)) ∧ Fld Z h a1 "org/millrace/engine/Footprint" "peak" "J" (.long (0 : Int64)) ∧ Fld Z h a1 "org/millrace/engine/Footprint" "aside" "J" (.long (0 : Int64)) ∧ Fld Z h a1 "org/millrace/engine/Footprint" "whole" "Lorg/millrace/engine/Footprint;" .null
theorem pd_1 : parseMethodDescriptor "(Lorg/millrace/engine/Footprint;)V" = some ⟨[(.object "org/millrace/engine/Footprint")], none⟩ := by decide +kernel
set_option maxRecDepth 65536 in
set_option maxHeartbeats 40000000 in
theorem rm1 (l : Launch) (Z : State) (a0 : Array Value) (hw : ∀ d ∈ tables_1, d.before a0 Z = true) (ws : List Jvm.Cond) (a1 : Addr) (h0 : Heap) (n0 : Nat) (Z0 : n0 ≤ h0.size) (E_a1 : Exa Z h0 a1 "org/millrace/engine/Footprint") (F_a1_rows : Fld Z h0 a1 "org/millrace/engine/Footprint" "rows" "J" (.long (0 : Int64))) (F_a1_peak : Fld Z h0 a1 "org/millrace/engine/Footprint" "peak" "J" (.long (0 : Int64))) (F_a1_aside : Fld Z h0 a1 "org/millrace/engine/Footprint" "aside" "J" (.long (0 : Int64))) (F_a1_whole : Fld Z h0 a1 "org/millrace/engine/Footprint" "whole" "Lorg/millrace/engine/Footprint;" .null) (g_a1 : n0 ≤ a1) :
    MetFree l (⟨"org/millrace/engine/Footprint", "<init>", "()V"⟩ : MethodName) (head1 (Jvm.Cond.code (⟨"org/millrace/engine/Footprint", "<init>", "()V"⟩ : MethodName) prog_68_method_1_code 1 none :: ws) ({ frames := 2, cells := 0, slots := 0, locals := 25 } : Room)) (fun a U => a = #[(.ref a1)] ∧ Z.Warmed39 U.vm ∧ U.heap = h0) (fun _ _ _ _ _ => True) (fun _ U o U' => ∃ v L, o = .returned v ∧ Q1 Z a1 h0 n0 v U'.heap L ∧ FrameEnd U o U' L ({ frames := 2, cells := 0, slots := 0, locals := 25 } : Room).cells ({ frames := 2, cells := 0, slots := 0, locals := 25 } : Room).slots) := by
  refine MetFree.of_bodySF (plainFor_of_name pn_2) hisR ?_
  intro p e s m args below meth c s₁ Bd hml0 hP hK
  obtain ⟨rfl, hZ, hh⟩ := hP
  have hx := Bd.exec
  have hby := Bd.bytes
  have hml : c.maxLocals = 1 := hml0
  have hown : s.vm.findClass "org/millrace/engine/Footprint" = some m.cls := findClass_of_methodNamed Bd.named
  have hnm := (name_of_methodNamed Bd.named Bd.method).1
  have X0 : Stand p l e ({ frames := 2, cells := 0, slots := 0, locals := 25 } : Room) s m #[(.ref a1)] below meth c s₁ [] 0 0 := Stand.of_body Bd
  have e0 : s₁.heap = h0 := by rw [← hh, Bd.state]; rfl
  have N0 := Fr.nil n0
  have pre0 : ∀ t, Steps p.tables e below (s₁.setTop (mkF m 0 #[.val (.ref a1)] [])) t → Steps p.tables e below (s₁.setTop (entryFrame m #[(.ref a1)] 1)) t := fun t k => castTop (ef_1 m a1) k
  obtain ⟨_, _, ⟨T_15, L_15, k_15, n_15⟩, -, X_15, ⟨Lc_15, hQ_15, l_15, y_15, z_15⟩, st_15⟩ := X0.specialBack hx (y := (⟨"org/millrace/engine/Footprint", "<init>", "(Lorg/millrace/engine/Footprint;)V"⟩ : MethodName)) rfl hown (mvT hZ (hw _ (List.mem_of_getElem? (i := 6) rfl))) (mvT hZ (hw _ (List.mem_of_getElem? (i := 7) rfl))) (mvT hZ (hw _ (List.mem_of_getElem? (i := 8) rfl))) (by decide) (backOf (W := 0) (rm2n l Z a0 hw [] a1 h0 n0 Z0 E_a1 F_a1_rows F_a1_peak F_a1_aside F_a1_whole g_a1) hZ (hw _ (List.mem_of_getElem? (i := 8) rfl)) (hw _ (List.mem_of_getElem? (i := 2) rfl)) (by decide) (by decide)) (g := (mkF m 2 #[.val (.ref a1)] [.null, (.ref a1)])) rfl (by rw [hml]; rfl) (Steps.refl _) (a := a1) (argsL := [.null]) (rest := []) (lenOf pd_1 rfl) rfl (by show 2 * 0 + _ ≤ _; exact Nat.le_of_eq rfl) (hb hby d1_2) (fun _ _ => ⟨rfl, e0, (by decide : 0 + 0 ≤ _), (by decide : 0 + 0 ≤ _)⟩)
  dsimp only [Pt.U, Pt.locs, Pt.cells, Pt.slots] at X_15 l_15 y_15 z_15 st_15 hQ_15
  replace X_15 := castS l_15 y_15 z_15 X_15
  obtain ⟨rfl, Nq_15, K_15, po_15_0, po_15_1, po_15_2, po_15_3, po_15_4⟩ := hQ_15
  have z_16 : n0 ≤ T_15.heap.size := Nat.le_trans Z0 K_15.1
  have KK_15 : Keep h0 T_15.heap [a1] := (Keep.refl h0 [a1]).trans K_15 (allS (Or.inl (List.mem_of_getElem? (i := 0) rfl)) all0)
  have N_15 := Fr.app N0 Nq_15
  obtain ⟨fs, hr, hrun, hended, hW, hsame⟩ := X_15.leave (v := none) (fun _ => rfl)
  refine ⟨_, _, pre0 _ ?_, hrun, hended, _, _, rfl, ?_, ⟨_, rfl⟩, hW, hsame.mono (by decide) (by decide)⟩
  · show Steps p.tables e below (s₁.setTop (mkF m 0 #[.val (.ref a1)] [])) _
    refine XS.aloadN X0.here hx rfl (hb hby d1_0) rfl rfl ?_
    show Steps p.tables e below (s₁.setTop (mkF m 1 #[.val (.ref a1)] [(.ref a1)])) _
    refine XS.aconstNull X0.here hx rfl (hb hby d1_1) ?_
    show Steps p.tables e below (s₁.setTop (mkF m 2 #[.val (.ref a1)] [.null, (.ref a1)])) _
    refine st_15.trans ?_
    show Steps p.tables e below (T_15.setTop (mkF m 5 #[.val (.ref a1)] [])) _
    exact X_15.returnOut hx Bd.returns (hb hby d1_5) hr
  · show Q1 Z a1 h0 n0 _ T_15.heap _
    exact ⟨rfl, N_15, KK_15, po_15_0, po_15_1, po_15_2, po_15_3, po_15_4⟩
theorem d4_0 : decode prog_68_method_5_code 0 = .ok (.lload_n 1, 1) := by decide +kernel
theorem d4_1 : decode prog_68_method_5_code 1 = .ok (.lconst 0, 1) := by decide +kernel
theorem d4_2 : decode prog_68_method_5_code 2 = .ok (.lcmp, 1) := by decide +kernel
theorem d4_3 : decode prog_68_method_5_code 3 = .ok (.ifCond .ne 4, 3) := by decide +kernel
theorem d4_6 : decode prog_68_method_5_code 6 = .ok (.return_, 1) := by decide +kernel
theorem d4_7 : decode prog_68_method_5_code 7 = .ok (.aload_n 0, 1) := by decide +kernel
theorem d4_8 : decode prog_68_method_5_code 8 = .ok (.astore_n 3, 1) := by decide +kernel
theorem d4_9 : decode prog_68_method_5_code 9 = .ok (.aload_n 3, 1) := by decide +kernel
theorem d4_10 : decode prog_68_method_5_code 10 = .ok (.ifnull 48, 3) := by decide +kernel
theorem d4_13 : decode prog_68_method_5_code 13 = .ok (.aload_n 3, 1) := by decide +kernel
theorem d4_14 : decode prog_68_method_5_code 14 = .ok (.dup, 1) := by decide +kernel
theorem d4_15 : decode prog_68_method_5_code 15 = .ok (.getfield 16, 3) := by decide +kernel
theorem d4_18 : decode prog_68_method_5_code 18 = .ok (.lload_n 1, 1) := by decide +kernel
theorem d4_19 : decode prog_68_method_5_code 19 = .ok (.ladd, 1) := by decide +kernel
theorem d4_20 : decode prog_68_method_5_code 20 = .ok (.putfield 16, 3) := by decide +kernel
theorem d4_23 : decode prog_68_method_5_code 23 = .ok (.aload_n 3, 1) := by decide +kernel
theorem d4_24 : decode prog_68_method_5_code 24 = .ok (.getfield 16, 3) := by decide +kernel
theorem d4_27 : decode prog_68_method_5_code 27 = .ok (.aload_n 3, 1) := by decide +kernel
theorem d4_28 : decode prog_68_method_5_code 28 = .ok (.getfield 23, 3) := by decide +kernel
theorem d4_31 : decode prog_68_method_5_code 31 = .ok (.ladd, 1) := by decide +kernel
theorem d4_32 : decode prog_68_method_5_code 32 = .ok (.lstore 4, 2) := by decide +kernel
theorem d4_34 : decode prog_68_method_5_code 34 = .ok (.lload 4, 2) := by decide +kernel
theorem d4_36 : decode prog_68_method_5_code 36 = .ok (.aload_n 3, 1) := by decide +kernel
theorem d4_37 : decode prog_68_method_5_code 37 = .ok (.getfield 20, 3) := by decide +kernel
theorem d4_40 : decode prog_68_method_5_code 40 = .ok (.lcmp, 1) := by decide +kernel
theorem d4_41 : decode prog_68_method_5_code 41 = .ok (.ifCond .le 9, 3) := by decide +kernel
theorem d4_44 : decode prog_68_method_5_code 44 = .ok (.aload_n 3, 1) := by decide +kernel
theorem d4_45 : decode prog_68_method_5_code 45 = .ok (.lload 4, 2) := by decide +kernel
theorem d4_47 : decode prog_68_method_5_code 47 = .ok (.putfield 20, 3) := by decide +kernel
theorem d4_50 : decode prog_68_method_5_code 50 = .ok (.aload_n 3, 1) := by decide +kernel
theorem d4_51 : decode prog_68_method_5_code 51 = .ok (.getfield 12, 3) := by decide +kernel
theorem d4_54 : decode prog_68_method_5_code 54 = .ok (.astore_n 3, 1) := by decide +kernel
theorem d4_55 : decode prog_68_method_5_code 55 = .ok (.goto (-46), 3) := by decide +kernel
theorem d4_58 : decode prog_68_method_5_code 58 = .ok (.return_, 1) := by decide +kernel
theorem ef_4n (m : MethodId) (x0 : Addr) (x1 : Int64) : entryFrame m #[(.ref x0), (.long x1)] 6 = mkF m 0 #[.val (.ref x0), .val (.long x1), .second, .unset, .unset, .unset] [] := by first | (simp [entryFrame, mkF, argsToLocals, Value.category]; done) | rfl
def Q4n (Z : State) (a1 : Addr) (q2 : Int64) (w1 : Int64) (w2 : Int64) (w3 : Int64) (h0 : Heap) (n0 : Nat) (v : Option Value) (h : Heap) (L : List Loc) : Prop := v = none ∧ Fr n0 L ∧ Keep h0 h [a1] ∧ Exa Z h a1 "org/millrace/engine/Footprint" ∧ Fld Z h a1 "org/millrace/engine/Footprint" "rows" "J" (.long (own_ar q2 w1)) ∧ Fld Z h a1 "org/millrace/engine/Footprint" "peak" "J" (.long (own_ap q2 w1 w2 w3)) ∧ Fld Z h a1 "org/millrace/engine/Footprint" "aside" "J" (.long w3) ∧ Fld Z h a1 "org/millrace/engine/Footprint" "whole" "Lorg/millrace/engine/Footprint;" .null
set_option maxRecDepth 65536 in
set_option maxHeartbeats 40000000 in
theorem rm4n (l : Launch) (Z : State) (a0 : Array Value) (hw : ∀ d ∈ tables_1, d.before a0 Z = true) (ws : List Jvm.Cond) (a1 : Addr) (q2 : Int64) (w1 : Int64) (w2 : Int64) (w3 : Int64) (h0 : Heap) (n0 : Nat) (Z0 : n0 ≤ h0.size) (E_a1 : Exa Z h0 a1 "org/millrace/engine/Footprint") (F_a1_rows : Fld Z h0 a1 "org/millrace/engine/Footprint" "rows" "J" (.long w1)) (F_a1_peak : Fld Z h0 a1 "org/millrace/engine/Footprint" "peak" "J" (.long w2)) (F_a1_aside : Fld Z h0 a1 "org/millrace/engine/Footprint" "aside" "J" (.long w3)) (F_a1_whole : Fld Z h0 a1 "org/millrace/engine/Footprint" "whole" "Lorg/millrace/engine/Footprint;" .null) (g_a1 : n0 ≤ a1) :
    MetFree l (⟨"org/millrace/engine/Footprint", "add", "(J)V"⟩ : MethodName) (head1 (Jvm.Cond.code (⟨"org/millrace/engine/Footprint", "add", "(J)V"⟩ : MethodName) prog_68_method_5_code 6 none :: ws) ({ frames := 0, cells := 0, slots := 0, locals := 0 } : Room)) (fun a U => a = #[(.ref a1), (.long q2)] ∧ Z.Warmed39 U.vm ∧ U.heap = h0) (fun _ _ _ _ _ => True) (fun _ U o U' => ∃ v L, o = .returned v ∧ Q4n Z a1 q2 w1 w2 w3 h0 n0 v U'.heap L ∧ FrameEnd U o U' L ({ frames := 0, cells := 0, slots := 0, locals := 0 } : Room).cells ({ frames := 0, cells := 0, slots := 0, locals := 0 } : Room).slots) := by
  refine MetFree.of_bodySF (plainFor_of_name pn_2) hisR ?_
  intro p e s m args below meth c s₁ Bd hml0 hP hK
  obtain ⟨rfl, hZ, hh⟩ := hP
  have hx := Bd.exec
  have hby := Bd.bytes
  have hml : c.maxLocals = 6 := hml0
  have hown : s.vm.findClass "org/millrace/engine/Footprint" = some m.cls := findClass_of_methodNamed Bd.named
  have hnm := (name_of_methodNamed Bd.named Bd.method).1
  have X0 : Stand p l e ({ frames := 0, cells := 0, slots := 0, locals := 0 } : Room) s m #[(.ref a1), (.long q2)] below meth c s₁ [] 0 0 := Stand.of_body Bd
  have e0 : s₁.heap = h0 := by rw [← hh, Bd.state]; rfl
  have N0 := Fr.nil n0
  have pre0 : ∀ t, Steps p.tables e below (s₁.setTop (mkF m 0 #[.val (.ref a1), .val (.long q2), .second, .unset, .unset, .unset] [])) t → Steps p.tables e below (s₁.setTop (entryFrame m #[(.ref a1), (.long q2)] 6)) t := fun t k => castTop (ef_4n m a1 q2) k
  have pre_17 : ∀ t, Steps p.tables e below (s₁.setTop (mkF m 3 #[.val (.ref a1), .val (.long q2), .second, .unset, .unset, .unset] [(.int (lcmpW q2 (0 : Int64)))])) t → Steps p.tables e below (s₁.setTop (entryFrame m #[(.ref a1), (.long q2)] 6)) t := fun t k => pre0 t (by
      show Steps p.tables e below (s₁.setTop (mkF m 0 #[.val (.ref a1), .val (.long q2), .second, .unset, .unset, .unset] [])) _
      refine XS.lloadN X0.here hx rfl (hb hby d4_0) rfl ?_
      show Steps p.tables e below (s₁.setTop (mkF m 1 #[.val (.ref a1), .val (.long q2), .second, .unset, .unset, .unset] [(.long q2)])) _
      refine XS.lconst X0.here hx rfl (hb hby d4_1) ?_
      show Steps p.tables e below (s₁.setTop (mkF m 2 #[.val (.ref a1), .val (.long q2), .second, .unset, .unset, .unset] [(.long (0 : Int64)), (.long q2)])) _
      refine XS.lcmp X0.here hx rfl (hb hby d4_2) rfl ?_
      exact k)
  by_cases hc3__18 : q2 = (0 : Int64)
  · obtain ⟨fs, hr, hrun, hended, hW, hsame⟩ := X0.leave (v := none) (fun _ => rfl)
    refine ⟨_, _, pre_17 _ ?_, hrun, hended, _, _, rfl, ?_, ⟨_, rfl⟩, hW, hsame.mono (by decide) (by decide)⟩
    · show Steps p.tables e below (s₁.setTop (mkF m 3 #[.val (.ref a1), .val (.long q2), .second, .unset, .unset, .unset] [(.int (lcmpW q2 (0 : Int64)))])) _
      refine XS.ifNo X0.here hx rfl (hb hby d4_3) rfl ((if0 _ _).trans (teq ((lw_eq _ _).mpr hc3__18)).2) ?_
      show Steps p.tables e below (s₁.setTop (mkF m 6 #[.val (.ref a1), .val (.long q2), .second, .unset, .unset, .unset] [])) _
      exact X0.returnOut hx Bd.returns (hb hby d4_6) hr
    · show Q4n Z a1 q2 w1 w2 w3 h0 n0 _ s₁.heap _
      rw [e0]
      exact ⟨rfl, N0, (Keep.refl h0 [a1]), E_a1, (by have q : w1 = (own_ar q2 w1) := (by simp only [own_ar, if_pos hc3__18]); rw [← q]; exact F_a1_rows), (by have q : w2 = (own_ap q2 w1 w2 w3) := (by simp only [own_ap, if_pos hc3__18]); rw [← q]; exact F_a1_peak), F_a1_aside, F_a1_whole⟩
  · obtain ⟨T_19, X_19, e_19, st_19⟩ := getF X0 hx hZ hown (host := "") (Or.inl (hw _ (List.mem_of_getElem? (i := 19) rfl))) Via.refl e0 F_a1_rows (g := (mkF m 15 #[.val (.ref a1), .val (.long q2), .second, .val (.ref a1), .unset, .unset] [(.ref a1), (.ref a1)])) rfl rfl (hb hby d4_15)
    obtain ⟨T_20, h_20, X_20, e_20, W_20, st_20⟩ := putF X_19 hx hZ hown (host := "") (Or.inl (hw _ (List.mem_of_getElem? (i := 19) rfl))) Via.refl e_19 F_a1_rows E_a1 (Or.inl (hw _ (List.mem_of_getElem? (i := 20) rfl))) (hw _ (List.mem_of_getElem? (i := 1) rfl)) (ty := .long) (by decide) rfl rfl (g := (mkF m 20 #[.val (.ref a1), .val (.long q2), .second, .val (.ref a1), .unset, .unset] [(.long (w1 + q2)), (.ref a1)])) rfl rfl (hb hby d4_20)
    have z_21 : n0 ≤ h_20.size := Nat.le_trans Z0 (Keep.of_wr W_20).1
    have fw_20 : Fld Z h_20 a1 "org/millrace/engine/Footprint" "rows" "J" (.long (w1 + q2)) := F_a1_rows.same W_20
    have N_20 := Fr.snoc X_20 N0 g_a1
    have K_20 : Keep h0 h_20 [a1] := (Keep.refl h0 [a1]).wr W_20 (Or.inl (List.mem_of_getElem? (i := 0) rfl))
    obtain ⟨T_22, X_22, e_22, st_22⟩ := getF X_20 hx hZ hown (host := "") (Or.inl (hw _ (List.mem_of_getElem? (i := 19) rfl))) Via.refl e_20 fw_20 (g := (mkF m 24 #[.val (.ref a1), .val (.long q2), .second, .val (.ref a1), .unset, .unset] [(.ref a1)])) rfl rfl (hb hby d4_24)
    have f_23 : Fld Z h_20 a1 "org/millrace/engine/Footprint" "aside" "J" (.long w3) := (F_a1_aside.other W_20 (Or.inr (slot_ne (Or.inl (hw _ (List.mem_of_getElem? (i := 22) rfl))) (Or.inl (hw _ (List.mem_of_getElem? (i := 20) rfl))) (by decide) (t := .long) (t' := .long) (by decide) (by decide))))
    obtain ⟨T_24, X_24, e_24, st_24⟩ := getF X_22 hx hZ hown (host := "") (Or.inl (hw _ (List.mem_of_getElem? (i := 21) rfl))) Via.refl e_22 f_23 (g := (mkF m 28 #[.val (.ref a1), .val (.long q2), .second, .val (.ref a1), .unset, .unset] [(.ref a1), (.long (w1 + q2))])) rfl rfl (hb hby d4_28)
    have f_25 : Fld Z h_20 a1 "org/millrace/engine/Footprint" "peak" "J" (.long w2) := (F_a1_peak.other W_20 (Or.inr (slot_ne (Or.inl (hw _ (List.mem_of_getElem? (i := 24) rfl))) (Or.inl (hw _ (List.mem_of_getElem? (i := 20) rfl))) (by decide) (t := .long) (t' := .long) (by decide) (by decide))))
    obtain ⟨T_26, X_26, e_26, st_26⟩ := getF X_24 hx hZ hown (host := "") (Or.inl (hw _ (List.mem_of_getElem? (i := 23) rfl))) Via.refl e_24 f_25 (g := (mkF m 37 #[.val (.ref a1), .val (.long q2), .second, .val (.ref a1), .val (.long ((w1 + q2) + w3)), .second] [(.ref a1), (.long ((w1 + q2) + w3))])) rfl rfl (hb hby d4_37)
    have pre_27 : ∀ t, Steps p.tables e below (T_26.setTop (mkF m 41 #[.val (.ref a1), .val (.long q2), .second, .val (.ref a1), .val (.long ((w1 + q2) + w3)), .second] [(.int (lcmpW ((w1 + q2) + w3) w2))])) t → Steps p.tables e below (s₁.setTop (entryFrame m #[(.ref a1), (.long q2)] 6)) t := fun t k => pre_17 t (by
        show Steps p.tables e below (s₁.setTop (mkF m 3 #[.val (.ref a1), .val (.long q2), .second, .unset, .unset, .unset] [(.int (lcmpW q2 (0 : Int64)))])) _
        refine XS.ifYes X0.here hx rfl (pc0 := 3) (pc' := 7) rfl (hb hby d4_3) rfl ((if0 _ _).trans (feq (mt (lw_eq _ _).mp hc3__18)).2) (by decide) (by decide) ?_
        show Steps p.tables e below (s₁.setTop (mkF m 7 #[.val (.ref a1), .val (.long q2), .second, .unset, .unset, .unset] [])) _
        refine XS.aloadN X0.here hx rfl (hb hby d4_7) rfl rfl ?_
        show Steps p.tables e below (s₁.setTop (mkF m 8 #[.val (.ref a1), .val (.long q2), .second, .unset, .unset, .unset] [(.ref a1)])) _
        refine XS.astoreN X0.here hx rfl (hb hby d4_8) rfl rfl (l' := #[.val (.ref a1), .val (.long q2), .second, .val (.ref a1), .unset, .unset]) rfl ?_
        show Steps p.tables e below (s₁.setTop (mkF m 9 #[.val (.ref a1), .val (.long q2), .second, .val (.ref a1), .unset, .unset] [])) _
        refine XS.aloadN X0.here hx rfl (hb hby d4_9) rfl rfl ?_
        show Steps p.tables e below (s₁.setTop (mkF m 10 #[.val (.ref a1), .val (.long q2), .second, .val (.ref a1), .unset, .unset] [(.ref a1)])) _
        refine XS.ifnullNo X0.here hx rfl (hb hby d4_10) rfl ?_
        show Steps p.tables e below (s₁.setTop (mkF m 13 #[.val (.ref a1), .val (.long q2), .second, .val (.ref a1), .unset, .unset] [])) _
        refine XS.aloadN X0.here hx rfl (hb hby d4_13) rfl rfl ?_
        show Steps p.tables e below (s₁.setTop (mkF m 14 #[.val (.ref a1), .val (.long q2), .second, .val (.ref a1), .unset, .unset] [(.ref a1)])) _
        refine XS.dup X0.here hx rfl (hb hby d4_14) rfl rfl ?_
        show Steps p.tables e below (s₁.setTop (mkF m 15 #[.val (.ref a1), .val (.long q2), .second, .val (.ref a1), .unset, .unset] [(.ref a1), (.ref a1)])) _
        refine st_19 _ ?_
        show Steps p.tables e below (T_19.setTop (mkF m 18 #[.val (.ref a1), .val (.long q2), .second, .val (.ref a1), .unset, .unset] [(.long w1), (.ref a1)])) _
        refine XS.lloadN X_19.here hx rfl (hb hby d4_18) rfl ?_
        show Steps p.tables e below (T_19.setTop (mkF m 19 #[.val (.ref a1), .val (.long q2), .second, .val (.ref a1), .unset, .unset] [(.long q2), (.long w1), (.ref a1)])) _
        refine XS.ladd X_19.here hx rfl (hb hby d4_19) rfl ?_
        show Steps p.tables e below (T_19.setTop (mkF m 20 #[.val (.ref a1), .val (.long q2), .second, .val (.ref a1), .unset, .unset] [(.long (w1 + q2)), (.ref a1)])) _
        refine st_20 _ ?_
        show Steps p.tables e below (T_20.setTop (mkF m 23 #[.val (.ref a1), .val (.long q2), .second, .val (.ref a1), .unset, .unset] [])) _
        refine XS.aloadN X_20.here hx rfl (hb hby d4_23) rfl rfl ?_
        show Steps p.tables e below (T_20.setTop (mkF m 24 #[.val (.ref a1), .val (.long q2), .second, .val (.ref a1), .unset, .unset] [(.ref a1)])) _
        refine st_22 _ ?_
        show Steps p.tables e below (T_22.setTop (mkF m 27 #[.val (.ref a1), .val (.long q2), .second, .val (.ref a1), .unset, .unset] [(.long (w1 + q2))])) _
        refine XS.aloadN X_22.here hx rfl (hb hby d4_27) rfl rfl ?_
        show Steps p.tables e below (T_22.setTop (mkF m 28 #[.val (.ref a1), .val (.long q2), .second, .val (.ref a1), .unset, .unset] [(.ref a1), (.long (w1 + q2))])) _
        refine st_24 _ ?_
        show Steps p.tables e below (T_24.setTop (mkF m 31 #[.val (.ref a1), .val (.long q2), .second, .val (.ref a1), .unset, .unset] [(.long w3), (.long (w1 + q2))])) _
        refine XS.ladd X_24.here hx rfl (hb hby d4_31) rfl ?_
        show Steps p.tables e below (T_24.setTop (mkF m 32 #[.val (.ref a1), .val (.long q2), .second, .val (.ref a1), .unset, .unset] [(.long ((w1 + q2) + w3))])) _
        refine XS.lstore X_24.here hx rfl (hb hby d4_32) rfl (l' := #[.val (.ref a1), .val (.long q2), .second, .val (.ref a1), .val (.long ((w1 + q2) + w3)), .second]) rfl ?_
        show Steps p.tables e below (T_24.setTop (mkF m 34 #[.val (.ref a1), .val (.long q2), .second, .val (.ref a1), .val (.long ((w1 + q2) + w3)), .second] [])) _
        refine XS.lload X_24.here hx rfl (hb hby d4_34) rfl ?_
        show Steps p.tables e below (T_24.setTop (mkF m 36 #[.val (.ref a1), .val (.long q2), .second, .val (.ref a1), .val (.long ((w1 + q2) + w3)), .second] [(.long ((w1 + q2) + w3))])) _
        refine XS.aloadN X_24.here hx rfl (hb hby d4_36) rfl rfl ?_
        show Steps p.tables e below (T_24.setTop (mkF m 37 #[.val (.ref a1), .val (.long q2), .second, .val (.ref a1), .val (.long ((w1 + q2) + w3)), .second] [(.ref a1), (.long ((w1 + q2) + w3))])) _
        refine st_26 _ ?_
        show Steps p.tables e below (T_26.setTop (mkF m 40 #[.val (.ref a1), .val (.long q2), .second, .val (.ref a1), .val (.long ((w1 + q2) + w3)), .second] [(.long w2), (.long ((w1 + q2) + w3))])) _
        refine XS.lcmp X_26.here hx rfl (hb hby d4_40) rfl ?_
        exact k)
    by_cases hc41__28 : w2 < ((w1 + q2) + w3)
    · have f_29 : Exa Z h_20 a1 "org/millrace/engine/Footprint" := (E_a1.wr W_20)
      obtain ⟨T_30, h_30, X_30, e_30, W_30, st_30⟩ := putF X_26 hx hZ hown (host := "") (Or.inl (hw _ (List.mem_of_getElem? (i := 23) rfl))) Via.refl e_26 f_25 f_29 (Or.inl (hw _ (List.mem_of_getElem? (i := 24) rfl))) (hw _ (List.mem_of_getElem? (i := 1) rfl)) (ty := .long) (by decide) rfl rfl (g := (mkF m 47 #[.val (.ref a1), .val (.long q2), .second, .val (.ref a1), .val (.long ((w1 + q2) + w3)), .second] [(.long ((w1 + q2) + w3)), (.ref a1)])) rfl rfl (hb hby d4_47)
      have z_31 : n0 ≤ h_30.size := Nat.le_trans z_21 (Keep.of_wr W_30).1
      have fw_30 : Fld Z h_30 a1 "org/millrace/engine/Footprint" "peak" "J" (.long ((w1 + q2) + w3)) := f_25.same W_30
      have N_30 := Fr.snoc X_30 N_20 g_a1
      have K_30 : Keep h0 h_30 [a1] := K_20.wr W_30 (Or.inl (List.mem_of_getElem? (i := 0) rfl))
      have f_32 : Fld Z h_30 a1 "org/millrace/engine/Footprint" "whole" "Lorg/millrace/engine/Footprint;" .null := ((F_a1_whole.other W_20 (Or.inr (slot_ne (Or.inr (hw _ (List.mem_of_getElem? (i := 13) rfl))) (Or.inl (hw _ (List.mem_of_getElem? (i := 20) rfl))) (by decide) (t := (.object "org/millrace/engine/Footprint")) (t' := .long) (by decide) (by decide)))).other W_30 (Or.inr (slot_ne (Or.inr (hw _ (List.mem_of_getElem? (i := 13) rfl))) (Or.inl (hw _ (List.mem_of_getElem? (i := 24) rfl))) (by decide) (t := (.object "org/millrace/engine/Footprint")) (t' := .long) (by decide) (by decide))))
      obtain ⟨T_33, X_33, e_33, st_33⟩ := getF X_30 hx hZ hown (host := "") (Or.inl (hw _ (List.mem_of_getElem? (i := 12) rfl))) Via.refl e_30 f_32 (g := (mkF m 51 #[.val (.ref a1), .val (.long q2), .second, .val (.ref a1), .val (.long ((w1 + q2) + w3)), .second] [(.ref a1)])) rfl rfl (hb hby d4_51)
      obtain ⟨fs, hr, hrun, hended, hW, hsame⟩ := X_33.leave (v := none) (fun _ => rfl)
      refine ⟨_, _, pre_27 _ ?_, hrun, hended, _, _, rfl, ?_, ⟨_, rfl⟩, hW, hsame.mono (by decide) (by decide)⟩
      · show Steps p.tables e below (T_26.setTop (mkF m 41 #[.val (.ref a1), .val (.long q2), .second, .val (.ref a1), .val (.long ((w1 + q2) + w3)), .second] [(.int (lcmpW ((w1 + q2) + w3) w2))])) _
        refine XS.ifNo X_26.here hx rfl (hb hby d4_41) rfl ((if0 _ _).trans (tlt ((lw_gt _ _).mpr hc41__28)).2.2.2) ?_
        show Steps p.tables e below (T_26.setTop (mkF m 44 #[.val (.ref a1), .val (.long q2), .second, .val (.ref a1), .val (.long ((w1 + q2) + w3)), .second] [])) _
        refine XS.aloadN X_26.here hx rfl (hb hby d4_44) rfl rfl ?_
        show Steps p.tables e below (T_26.setTop (mkF m 45 #[.val (.ref a1), .val (.long q2), .second, .val (.ref a1), .val (.long ((w1 + q2) + w3)), .second] [(.ref a1)])) _
        refine XS.lload X_26.here hx rfl (hb hby d4_45) rfl ?_
        show Steps p.tables e below (T_26.setTop (mkF m 47 #[.val (.ref a1), .val (.long q2), .second, .val (.ref a1), .val (.long ((w1 + q2) + w3)), .second] [(.long ((w1 + q2) + w3)), (.ref a1)])) _
        refine st_30 _ ?_
        show Steps p.tables e below (T_30.setTop (mkF m 50 #[.val (.ref a1), .val (.long q2), .second, .val (.ref a1), .val (.long ((w1 + q2) + w3)), .second] [])) _
        refine XS.aloadN X_30.here hx rfl (hb hby d4_50) rfl rfl ?_
        show Steps p.tables e below (T_30.setTop (mkF m 51 #[.val (.ref a1), .val (.long q2), .second, .val (.ref a1), .val (.long ((w1 + q2) + w3)), .second] [(.ref a1)])) _
        refine st_33 _ ?_
        show Steps p.tables e below (T_33.setTop (mkF m 54 #[.val (.ref a1), .val (.long q2), .second, .val (.ref a1), .val (.long ((w1 + q2) + w3)), .second] [.null])) _
        refine XS.astoreN X_33.here hx rfl (hb hby d4_54) rfl rfl (l' := #[.val (.ref a1), .val (.long q2), .second, .val .null, .val (.long ((w1 + q2) + w3)), .second]) rfl ?_
        show Steps p.tables e below (T_33.setTop (mkF m 55 #[.val (.ref a1), .val (.long q2), .second, .val .null, .val (.long ((w1 + q2) + w3)), .second] [])) _
        refine XS.goto X_33.here hx rfl (pc0 := 55) (pc' := 9) rfl (hb hby d4_55) (by decide) (by decide) ?_
        show Steps p.tables e below (T_33.setTop (mkF m 9 #[.val (.ref a1), .val (.long q2), .second, .val .null, .val (.long ((w1 + q2) + w3)), .second] [])) _
        refine XS.aloadN X_33.here hx rfl (hb hby d4_9) rfl rfl ?_
        show Steps p.tables e below (T_33.setTop (mkF m 10 #[.val (.ref a1), .val (.long q2), .second, .val .null, .val (.long ((w1 + q2) + w3)), .second] [.null])) _
        refine XS.ifnullYes X_33.here hx rfl (pc0 := 10) (pc' := 58) rfl (hb hby d4_10) rfl (by decide) (by decide) ?_
        show Steps p.tables e below (T_33.setTop (mkF m 58 #[.val (.ref a1), .val (.long q2), .second, .val .null, .val (.long ((w1 + q2) + w3)), .second] [])) _
        exact X_33.returnOut hx Bd.returns (hb hby d4_58) hr
      have f_34 : Exa Z h_30 a1 "org/millrace/engine/Footprint" := (f_29.wr W_30)
      have f_35 : Fld Z h_30 a1 "org/millrace/engine/Footprint" "rows" "J" (.long (w1 + q2)) := (fw_20.other W_30 (Or.inr (slot_ne (Or.inl (hw _ (List.mem_of_getElem? (i := 20) rfl))) (Or.inl (hw _ (List.mem_of_getElem? (i := 24) rfl))) (by decide) (t := .long) (t' := .long) (by decide) (by decide))))
      have f_36 : Fld Z h_30 a1 "org/millrace/engine/Footprint" "aside" "J" (.long w3) := (f_23.other W_30 (Or.inr (slot_ne (Or.inl (hw _ (List.mem_of_getElem? (i := 22) rfl))) (Or.inl (hw _ (List.mem_of_getElem? (i := 24) rfl))) (by decide) (t := .long) (t' := .long) (by decide) (by decide))))
      · show Q4n Z a1 q2 w1 w2 w3 h0 n0 _ T_33.heap _
        rw [e_33]
        exact ⟨rfl, N_30, K_30, f_34, (by have q : (w1 + q2) = (own_ar q2 w1) := (by simp only [own_ar, if_neg hc3__18, if_pos hc41__28]); rw [← q]; exact f_35), (by have q : ((w1 + q2) + w3) = (own_ap q2 w1 w2 w3) := (by simp only [own_ap, if_neg hc3__18, if_pos hc41__28]); rw [← q]; exact fw_30), f_36, f_32⟩
    · have f_37 : Fld Z h_20 a1 "org/millrace/engine/Footprint" "whole" "Lorg/millrace/engine/Footprint;" .null := (F_a1_whole.other W_20 (Or.inr (slot_ne (Or.inr (hw _ (List.mem_of_getElem? (i := 13) rfl))) (Or.inl (hw _ (List.mem_of_getElem? (i := 20) rfl))) (by decide) (t := (.object "org/millrace/engine/Footprint")) (t' := .long) (by decide) (by decide))))
      obtain ⟨T_38, X_38, e_38, st_38⟩ := getF X_26 hx hZ hown (host := "") (Or.inl (hw _ (List.mem_of_getElem? (i := 12) rfl))) Via.refl e_26 f_37 (g := (mkF m 51 #[.val (.ref a1), .val (.long q2), .second, .val (.ref a1), .val (.long ((w1 + q2) + w3)), .second] [(.ref a1)])) rfl rfl (hb hby d4_51)
      obtain ⟨fs, hr, hrun, hended, hW, hsame⟩ := X_38.leave (v := none) (fun _ => rfl)
      refine ⟨_, _, pre_27 _ ?_, hrun, hended, _, _, rfl, ?_, ⟨_, rfl⟩, hW, hsame.mono (by decide) (by decide)⟩
      · show Steps p.tables e below (T_26.setTop (mkF m 41 #[.val (.ref a1), .val (.long q2), .second, .val (.ref a1), .val (.long ((w1 + q2) + w3)), .second] [(.int (lcmpW ((w1 + q2) + w3) w2))])) _
        refine XS.ifYes X_26.here hx rfl (pc0 := 41) (pc' := 50) rfl (hb hby d4_41) rfl ((if0 _ _).trans (flt (mt (lw_gt _ _).mp hc41__28)).2.2.2) (by decide) (by decide) ?_
        show Steps p.tables e below (T_26.setTop (mkF m 50 #[.val (.ref a1), .val (.long q2), .second, .val (.ref a1), .val (.long ((w1 + q2) + w3)), .second] [])) _
        refine XS.aloadN X_26.here hx rfl (hb hby d4_50) rfl rfl ?_
        show Steps p.tables e below (T_26.setTop (mkF m 51 #[.val (.ref a1), .val (.long q2), .second, .val (.ref a1), .val (.long ((w1 + q2) + w3)), .second] [(.ref a1)])) _
        refine st_38 _ ?_
        show Steps p.tables e below (T_38.setTop (mkF m 54 #[.val (.ref a1), .val (.long q2), .second, .val (.ref a1), .val (.long ((w1 + q2) + w3)), .second] [.null])) _
        refine XS.astoreN X_38.here hx rfl (hb hby d4_54) rfl rfl (l' := #[.val (.ref a1), .val (.long q2), .second, .val .null, .val (.long ((w1 + q2) + w3)), .second]) rfl ?_
        show Steps p.tables e below (T_38.setTop (mkF m 55 #[.val (.ref a1), .val (.long q2), .second, .val .null, .val (.long ((w1 + q2) + w3)), .second] [])) _
        refine XS.goto X_38.here hx rfl (pc0 := 55) (pc' := 9) rfl (hb hby d4_55) (by decide) (by decide) ?_
        show Steps p.tables e below (T_38.setTop (mkF m 9 #[.val (.ref a1), .val (.long q2), .second, .val .null, .val (.long ((w1 + q2) + w3)), .second] [])) _
        refine XS.aloadN X_38.here hx rfl (hb hby d4_9) rfl rfl ?_
        show Steps p.tables e below (T_38.setTop (mkF m 10 #[.val (.ref a1), .val (.long q2), .second, .val .null, .val (.long ((w1 + q2) + w3)), .second] [.null])) _
        refine XS.ifnullYes X_38.here hx rfl (pc0 := 10) (pc' := 58) rfl (hb hby d4_10) rfl (by decide) (by decide) ?_
        show Steps p.tables e below (T_38.setTop (mkF m 58 #[.val (.ref a1), .val (.long q2), .second, .val .null, .val (.long ((w1 + q2) + w3)), .second] [])) _
        exact X_38.returnOut hx Bd.returns (hb hby d4_58) hr
      have f_39 : Exa Z h_20 a1 "org/millrace/engine/Footprint" := (E_a1.wr W_20)
      · show Q4n Z a1 q2 w1 w2 w3 h0 n0 _ T_38.heap _
        rw [e_38]
        exact ⟨rfl, N_20, K_20, f_39, (by have q : (w1 + q2) = (own_ar q2 w1) := (by simp only [own_ar, if_neg hc3__18, if_neg hc41__28]); rw [← q]; exact fw_20), (by have q : w2 = (own_ap q2 w1 w2 w3) := (by simp only [own_ap, if_neg hc3__18, if_neg hc41__28]); rw [← q]; exact f_25), f_23, f_37⟩
theorem ef_4r (m : MethodId) (x0 : Addr) (x1 : Int64) : entryFrame m #[(.ref x0), (.long x1)] 6 = mkF m 0 #[.val (.ref x0), .val (.long x1), .second, .unset, .unset, .unset] [] := by first | (simp [entryFrame, mkF, argsToLocals, Value.category]; done) | rfl
def Q4r (Z : State) (a1 : Addr) (a3 : Addr) (q2 : Int64) (w1 : Int64) (w2 : Int64) (w3 : Int64) (u1 : Int64) (u2 : Int64) (u3 : Int64) (h0 : Heap) (n0 : Nat) (v : Option Value) (h : Heap) (L : List Loc) : Prop := v = none ∧ Fr n0 L ∧ Keep h0 h [a1, a3] ∧ Exa Z h a1 "org/millrace/engine/Footprint" ∧ Fld Z h a1 "org/millrace/engine/Footprint" "rows" "J" (.long (own_ar q2 w1)) ∧ Fld Z h a1 "org/millrace/engine/Footprint" "peak" "J" (.long (own_ap q2 w1 w2 w3)) ∧ Fld Z h a1 "org/millrace/engine/Footprint" "aside" "J" (.long w3) ∧ Fld Z h a1 "org/millrace/engine/Footprint" "whole" "Lorg/millrace/engine/Footprint;" (.ref a3) ∧ Exa Z h a3 "org/millrace/engine/Footprint" ∧ Fld Z h a3 "org/millrace/engine/Footprint" "rows" "J" (.long (own_ar q2 u1)) ∧ Fld Z h a3 "org/millrace/engine/Footprint" "peak" "J" (.long (own_ap q2 u1 u2 u3)) ∧ Fld Z h a3 "org/millrace/engine/Footprint" "aside" "J" (.long u3) ∧ Fld Z h a3 "org/millrace/engine/Footprint" "whole" "Lorg/millrace/engine/Footprint;" .null
set_option maxRecDepth 65536 in
set_option maxHeartbeats 40000000 in
theorem rm4r (l : Launch) (Z : State) (a0 : Array Value) (hw : ∀ d ∈ tables_1, d.before a0 Z = true) (ws : List Jvm.Cond) (a1 : Addr) (a3 : Addr) (q2 : Int64) (w1 : Int64) (w2 : Int64) (w3 : Int64) (u1 : Int64) (u2 : Int64) (u3 : Int64) (h0 : Heap) (n0 : Nat) (Z0 : n0 ≤ h0.size) (E_a1 : Exa Z h0 a1 "org/millrace/engine/Footprint") (F_a1_rows : Fld Z h0 a1 "org/millrace/engine/Footprint" "rows" "J" (.long w1)) (F_a1_peak : Fld Z h0 a1 "org/millrace/engine/Footprint" "peak" "J" (.long w2)) (F_a1_aside : Fld Z h0 a1 "org/millrace/engine/Footprint" "aside" "J" (.long w3)) (F_a1_whole : Fld Z h0 a1 "org/millrace/engine/Footprint" "whole" "Lorg/millrace/engine/Footprint;" (.ref a3)) (E_a3 : Exa Z h0 a3 "org/millrace/engine/Footprint") (F_a3_rows : Fld Z h0 a3 "org/millrace/engine/Footprint" "rows" "J" (.long u1)) (F_a3_peak : Fld Z h0 a3 "org/millrace/engine/Footprint" "peak" "J" (.long u2)) (F_a3_aside : Fld Z h0 a3 "org/millrace/engine/Footprint" "aside" "J" (.long u3)) (F_a3_whole : Fld Z h0 a3 "org/millrace/engine/Footprint" "whole" "Lorg/millrace/engine/Footprint;" .null) (g_a1 : n0 ≤ a1) (g_a3 : n0 ≤ a3) (ne_a1_a3 : a1 ≠ a3) :
    MetFree l (⟨"org/millrace/engine/Footprint", "add", "(J)V"⟩ : MethodName) (head1 (Jvm.Cond.code (⟨"org/millrace/engine/Footprint", "add", "(J)V"⟩ : MethodName) prog_68_method_5_code 6 none :: ws) ({ frames := 0, cells := 0, slots := 0, locals := 0 } : Room)) (fun a U => a = #[(.ref a1), (.long q2)] ∧ Z.Warmed39 U.vm ∧ U.heap = h0) (fun _ _ _ _ _ => True) (fun _ U o U' => ∃ v L, o = .returned v ∧ Q4r Z a1 a3 q2 w1 w2 w3 u1 u2 u3 h0 n0 v U'.heap L ∧ FrameEnd U o U' L ({ frames := 0, cells := 0, slots := 0, locals := 0 } : Room).cells ({ frames := 0, cells := 0, slots := 0, locals := 0 } : Room).slots) := by
  refine MetFree.of_bodySF (plainFor_of_name pn_2) hisR ?_
  intro p e s m args below meth c s₁ Bd hml0 hP hK
  obtain ⟨rfl, hZ, hh⟩ := hP
  have hx := Bd.exec
  have hby := Bd.bytes
  have hml : c.maxLocals = 6 := hml0
  have hown : s.vm.findClass "org/millrace/engine/Footprint" = some m.cls := findClass_of_methodNamed Bd.named
  have hnm := (name_of_methodNamed Bd.named Bd.method).1
  have X0 : Stand p l e ({ frames := 0, cells := 0, slots := 0, locals := 0 } : Room) s m #[(.ref a1), (.long q2)] below meth c s₁ [] 0 0 := Stand.of_body Bd
  have e0 : s₁.heap = h0 := by rw [← hh, Bd.state]; rfl
  have N0 := Fr.nil n0
  have pre0 : ∀ t, Steps p.tables e below (s₁.setTop (mkF m 0 #[.val (.ref a1), .val (.long q2), .second, .unset, .unset, .unset] [])) t → Steps p.tables e below (s₁.setTop (entryFrame m #[(.ref a1), (.long q2)] 6)) t := fun t k => castTop (ef_4r m a1 q2) k
  have pre_40 : ∀ t, Steps p.tables e below (s₁.setTop (mkF m 3 #[.val (.ref a1), .val (.long q2), .second, .unset, .unset, .unset] [(.int (lcmpW q2 (0 : Int64)))])) t → Steps p.tables e below (s₁.setTop (entryFrame m #[(.ref a1), (.long q2)] 6)) t := fun t k => pre0 t (by
      show Steps p.tables e below (s₁.setTop (mkF m 0 #[.val (.ref a1), .val (.long q2), .second, .unset, .unset, .unset] [])) _
      refine XS.lloadN X0.here hx rfl (hb hby d4_0) rfl ?_
      show Steps p.tables e below (s₁.setTop (mkF m 1 #[.val (.ref a1), .val (.long q2), .second, .unset, .unset, .unset] [(.long q2)])) _
      refine XS.lconst X0.here hx rfl (hb hby d4_1) ?_
      show Steps p.tables e below (s₁.setTop (mkF m 2 #[.val (.ref a1), .val (.long q2), .second, .unset, .unset, .unset] [(.long (0 : Int64)), (.long q2)])) _
      refine XS.lcmp X0.here hx rfl (hb hby d4_2) rfl ?_
      exact k)
  by_cases hc3__41 : q2 = (0 : Int64)
  · obtain ⟨fs, hr, hrun, hended, hW, hsame⟩ := X0.leave (v := none) (fun _ => rfl)
    refine ⟨_, _, pre_40 _ ?_, hrun, hended, _, _, rfl, ?_, ⟨_, rfl⟩, hW, hsame.mono (by decide) (by decide)⟩
    · show Steps p.tables e below (s₁.setTop (mkF m 3 #[.val (.ref a1), .val (.long q2), .second, .unset, .unset, .unset] [(.int (lcmpW q2 (0 : Int64)))])) _
      refine XS.ifNo X0.here hx rfl (hb hby d4_3) rfl ((if0 _ _).trans (teq ((lw_eq _ _).mpr hc3__41)).2) ?_
      show Steps p.tables e below (s₁.setTop (mkF m 6 #[.val (.ref a1), .val (.long q2), .second, .unset, .unset, .unset] [])) _
      exact X0.returnOut hx Bd.returns (hb hby d4_6) hr
    · show Q4r Z a1 a3 q2 w1 w2 w3 u1 u2 u3 h0 n0 _ s₁.heap _
      rw [e0]
      exact ⟨rfl, N0, (Keep.refl h0 [a1, a3]), E_a1, (by have q : w1 = (own_ar q2 w1) := (by simp only [own_ar, if_pos hc3__41]); rw [← q]; exact F_a1_rows), (by have q : w2 = (own_ap q2 w1 w2 w3) := (by simp only [own_ap, if_pos hc3__41]); rw [← q]; exact F_a1_peak), F_a1_aside, F_a1_whole, E_a3, (by have q : u1 = (own_ar q2 u1) := (by simp only [own_ar, if_pos hc3__41]); rw [← q]; exact F_a3_rows), (by have q : u2 = (own_ap q2 u1 u2 u3) := (by simp only [own_ap, if_pos hc3__41]); rw [← q]; exact F_a3_peak), F_a3_aside, F_a3_whole⟩
  · obtain ⟨T_42, X_42, e_42, st_42⟩ := getF X0 hx hZ hown (host := "") (Or.inl (hw _ (List.mem_of_getElem? (i := 19) rfl))) Via.refl e0 F_a1_rows (g := (mkF m 15 #[.val (.ref a1), .val (.long q2), .second, .val (.ref a1), .unset, .unset] [(.ref a1), (.ref a1)])) rfl rfl (hb hby d4_15)
    obtain ⟨T_43, h_43, X_43, e_43, W_43, st_43⟩ := putF X_42 hx hZ hown (host := "") (Or.inl (hw _ (List.mem_of_getElem? (i := 19) rfl))) Via.refl e_42 F_a1_rows E_a1 (Or.inl (hw _ (List.mem_of_getElem? (i := 20) rfl))) (hw _ (List.mem_of_getElem? (i := 1) rfl)) (ty := .long) (by decide) rfl rfl (g := (mkF m 20 #[.val (.ref a1), .val (.long q2), .second, .val (.ref a1), .unset, .unset] [(.long (w1 + q2)), (.ref a1)])) rfl rfl (hb hby d4_20)
    have z_44 : n0 ≤ h_43.size := Nat.le_trans Z0 (Keep.of_wr W_43).1
    have fw_43 : Fld Z h_43 a1 "org/millrace/engine/Footprint" "rows" "J" (.long (w1 + q2)) := F_a1_rows.same W_43
    have N_43 := Fr.snoc X_43 N0 g_a1
    have K_43 : Keep h0 h_43 [a1, a3] := (Keep.refl h0 [a1, a3]).wr W_43 (Or.inl (List.mem_of_getElem? (i := 0) rfl))
    obtain ⟨T_45, X_45, e_45, st_45⟩ := getF X_43 hx hZ hown (host := "") (Or.inl (hw _ (List.mem_of_getElem? (i := 19) rfl))) Via.refl e_43 fw_43 (g := (mkF m 24 #[.val (.ref a1), .val (.long q2), .second, .val (.ref a1), .unset, .unset] [(.ref a1)])) rfl rfl (hb hby d4_24)
    have f_46 : Fld Z h_43 a1 "org/millrace/engine/Footprint" "aside" "J" (.long w3) := (F_a1_aside.other W_43 (Or.inr (slot_ne (Or.inl (hw _ (List.mem_of_getElem? (i := 22) rfl))) (Or.inl (hw _ (List.mem_of_getElem? (i := 20) rfl))) (by decide) (t := .long) (t' := .long) (by decide) (by decide))))
    obtain ⟨T_47, X_47, e_47, st_47⟩ := getF X_45 hx hZ hown (host := "") (Or.inl (hw _ (List.mem_of_getElem? (i := 21) rfl))) Via.refl e_45 f_46 (g := (mkF m 28 #[.val (.ref a1), .val (.long q2), .second, .val (.ref a1), .unset, .unset] [(.ref a1), (.long (w1 + q2))])) rfl rfl (hb hby d4_28)
    have f_48 : Fld Z h_43 a1 "org/millrace/engine/Footprint" "peak" "J" (.long w2) := (F_a1_peak.other W_43 (Or.inr (slot_ne (Or.inl (hw _ (List.mem_of_getElem? (i := 24) rfl))) (Or.inl (hw _ (List.mem_of_getElem? (i := 20) rfl))) (by decide) (t := .long) (t' := .long) (by decide) (by decide))))
    obtain ⟨T_49, X_49, e_49, st_49⟩ := getF X_47 hx hZ hown (host := "") (Or.inl (hw _ (List.mem_of_getElem? (i := 23) rfl))) Via.refl e_47 f_48 (g := (mkF m 37 #[.val (.ref a1), .val (.long q2), .second, .val (.ref a1), .val (.long ((w1 + q2) + w3)), .second] [(.ref a1), (.long ((w1 + q2) + w3))])) rfl rfl (hb hby d4_37)
    have pre_50 : ∀ t, Steps p.tables e below (T_49.setTop (mkF m 41 #[.val (.ref a1), .val (.long q2), .second, .val (.ref a1), .val (.long ((w1 + q2) + w3)), .second] [(.int (lcmpW ((w1 + q2) + w3) w2))])) t → Steps p.tables e below (s₁.setTop (entryFrame m #[(.ref a1), (.long q2)] 6)) t := fun t k => pre_40 t (by
        show Steps p.tables e below (s₁.setTop (mkF m 3 #[.val (.ref a1), .val (.long q2), .second, .unset, .unset, .unset] [(.int (lcmpW q2 (0 : Int64)))])) _
        refine XS.ifYes X0.here hx rfl (pc0 := 3) (pc' := 7) rfl (hb hby d4_3) rfl ((if0 _ _).trans (feq (mt (lw_eq _ _).mp hc3__41)).2) (by decide) (by decide) ?_
        show Steps p.tables e below (s₁.setTop (mkF m 7 #[.val (.ref a1), .val (.long q2), .second, .unset, .unset, .unset] [])) _
        refine XS.aloadN X0.here hx rfl (hb hby d4_7) rfl rfl ?_
        show Steps p.tables e below (s₁.setTop (mkF m 8 #[.val (.ref a1), .val (.long q2), .second, .unset, .unset, .unset] [(.ref a1)])) _
        refine XS.astoreN X0.here hx rfl (hb hby d4_8) rfl rfl (l' := #[.val (.ref a1), .val (.long q2), .second, .val (.ref a1), .unset, .unset]) rfl ?_
        show Steps p.tables e below (s₁.setTop (mkF m 9 #[.val (.ref a1), .val (.long q2), .second, .val (.ref a1), .unset, .unset] [])) _
        refine XS.aloadN X0.here hx rfl (hb hby d4_9) rfl rfl ?_
        show Steps p.tables e below (s₁.setTop (mkF m 10 #[.val (.ref a1), .val (.long q2), .second, .val (.ref a1), .unset, .unset] [(.ref a1)])) _
        refine XS.ifnullNo X0.here hx rfl (hb hby d4_10) rfl ?_
        show Steps p.tables e below (s₁.setTop (mkF m 13 #[.val (.ref a1), .val (.long q2), .second, .val (.ref a1), .unset, .unset] [])) _
        refine XS.aloadN X0.here hx rfl (hb hby d4_13) rfl rfl ?_
        show Steps p.tables e below (s₁.setTop (mkF m 14 #[.val (.ref a1), .val (.long q2), .second, .val (.ref a1), .unset, .unset] [(.ref a1)])) _
        refine XS.dup X0.here hx rfl (hb hby d4_14) rfl rfl ?_
        show Steps p.tables e below (s₁.setTop (mkF m 15 #[.val (.ref a1), .val (.long q2), .second, .val (.ref a1), .unset, .unset] [(.ref a1), (.ref a1)])) _
        refine st_42 _ ?_
        show Steps p.tables e below (T_42.setTop (mkF m 18 #[.val (.ref a1), .val (.long q2), .second, .val (.ref a1), .unset, .unset] [(.long w1), (.ref a1)])) _
        refine XS.lloadN X_42.here hx rfl (hb hby d4_18) rfl ?_
        show Steps p.tables e below (T_42.setTop (mkF m 19 #[.val (.ref a1), .val (.long q2), .second, .val (.ref a1), .unset, .unset] [(.long q2), (.long w1), (.ref a1)])) _
        refine XS.ladd X_42.here hx rfl (hb hby d4_19) rfl ?_
        show Steps p.tables e below (T_42.setTop (mkF m 20 #[.val (.ref a1), .val (.long q2), .second, .val (.ref a1), .unset, .unset] [(.long (w1 + q2)), (.ref a1)])) _
        refine st_43 _ ?_
        show Steps p.tables e below (T_43.setTop (mkF m 23 #[.val (.ref a1), .val (.long q2), .second, .val (.ref a1), .unset, .unset] [])) _
        refine XS.aloadN X_43.here hx rfl (hb hby d4_23) rfl rfl ?_
        show Steps p.tables e below (T_43.setTop (mkF m 24 #[.val (.ref a1), .val (.long q2), .second, .val (.ref a1), .unset, .unset] [(.ref a1)])) _
        refine st_45 _ ?_
        show Steps p.tables e below (T_45.setTop (mkF m 27 #[.val (.ref a1), .val (.long q2), .second, .val (.ref a1), .unset, .unset] [(.long (w1 + q2))])) _
        refine XS.aloadN X_45.here hx rfl (hb hby d4_27) rfl rfl ?_
        show Steps p.tables e below (T_45.setTop (mkF m 28 #[.val (.ref a1), .val (.long q2), .second, .val (.ref a1), .unset, .unset] [(.ref a1), (.long (w1 + q2))])) _
        refine st_47 _ ?_
        show Steps p.tables e below (T_47.setTop (mkF m 31 #[.val (.ref a1), .val (.long q2), .second, .val (.ref a1), .unset, .unset] [(.long w3), (.long (w1 + q2))])) _
        refine XS.ladd X_47.here hx rfl (hb hby d4_31) rfl ?_
        show Steps p.tables e below (T_47.setTop (mkF m 32 #[.val (.ref a1), .val (.long q2), .second, .val (.ref a1), .unset, .unset] [(.long ((w1 + q2) + w3))])) _
        refine XS.lstore X_47.here hx rfl (hb hby d4_32) rfl (l' := #[.val (.ref a1), .val (.long q2), .second, .val (.ref a1), .val (.long ((w1 + q2) + w3)), .second]) rfl ?_
        show Steps p.tables e below (T_47.setTop (mkF m 34 #[.val (.ref a1), .val (.long q2), .second, .val (.ref a1), .val (.long ((w1 + q2) + w3)), .second] [])) _
        refine XS.lload X_47.here hx rfl (hb hby d4_34) rfl ?_
        show Steps p.tables e below (T_47.setTop (mkF m 36 #[.val (.ref a1), .val (.long q2), .second, .val (.ref a1), .val (.long ((w1 + q2) + w3)), .second] [(.long ((w1 + q2) + w3))])) _
        refine XS.aloadN X_47.here hx rfl (hb hby d4_36) rfl rfl ?_
        show Steps p.tables e below (T_47.setTop (mkF m 37 #[.val (.ref a1), .val (.long q2), .second, .val (.ref a1), .val (.long ((w1 + q2) + w3)), .second] [(.ref a1), (.long ((w1 + q2) + w3))])) _
        refine st_49 _ ?_
        show Steps p.tables e below (T_49.setTop (mkF m 40 #[.val (.ref a1), .val (.long q2), .second, .val (.ref a1), .val (.long ((w1 + q2) + w3)), .second] [(.long w2), (.long ((w1 + q2) + w3))])) _
        refine XS.lcmp X_49.here hx rfl (hb hby d4_40) rfl ?_
        exact k)
    by_cases hc41__51 : w2 < ((w1 + q2) + w3)
    · have f_52 : Exa Z h_43 a1 "org/millrace/engine/Footprint" := (E_a1.wr W_43)
      obtain ⟨T_53, h_53, X_53, e_53, W_53, st_53⟩ := putF X_49 hx hZ hown (host := "") (Or.inl (hw _ (List.mem_of_getElem? (i := 23) rfl))) Via.refl e_49 f_48 f_52 (Or.inl (hw _ (List.mem_of_getElem? (i := 24) rfl))) (hw _ (List.mem_of_getElem? (i := 1) rfl)) (ty := .long) (by decide) rfl rfl (g := (mkF m 47 #[.val (.ref a1), .val (.long q2), .second, .val (.ref a1), .val (.long ((w1 + q2) + w3)), .second] [(.long ((w1 + q2) + w3)), (.ref a1)])) rfl rfl (hb hby d4_47)
      have z_54 : n0 ≤ h_53.size := Nat.le_trans z_44 (Keep.of_wr W_53).1
      have fw_53 : Fld Z h_53 a1 "org/millrace/engine/Footprint" "peak" "J" (.long ((w1 + q2) + w3)) := f_48.same W_53
      have N_53 := Fr.snoc X_53 N_43 g_a1
      have K_53 : Keep h0 h_53 [a1, a3] := K_43.wr W_53 (Or.inl (List.mem_of_getElem? (i := 0) rfl))
      have f_55 : Fld Z h_53 a1 "org/millrace/engine/Footprint" "whole" "Lorg/millrace/engine/Footprint;" (.ref a3) := ((F_a1_whole.other W_43 (Or.inr (slot_ne (Or.inr (hw _ (List.mem_of_getElem? (i := 13) rfl))) (Or.inl (hw _ (List.mem_of_getElem? (i := 20) rfl))) (by decide) (t := (.object "org/millrace/engine/Footprint")) (t' := .long) (by decide) (by decide)))).other W_53 (Or.inr (slot_ne (Or.inr (hw _ (List.mem_of_getElem? (i := 13) rfl))) (Or.inl (hw _ (List.mem_of_getElem? (i := 24) rfl))) (by decide) (t := (.object "org/millrace/engine/Footprint")) (t' := .long) (by decide) (by decide))))
      obtain ⟨T_56, X_56, e_56, st_56⟩ := getF X_53 hx hZ hown (host := "") (Or.inl (hw _ (List.mem_of_getElem? (i := 12) rfl))) Via.refl e_53 f_55 (g := (mkF m 51 #[.val (.ref a1), .val (.long q2), .second, .val (.ref a1), .val (.long ((w1 + q2) + w3)), .second] [(.ref a1)])) rfl rfl (hb hby d4_51)
      have f_57 : Fld Z h_53 a3 "org/millrace/engine/Footprint" "rows" "J" (.long u1) := ((F_a3_rows.other W_43 (Or.inl (Ne.symm ne_a1_a3))).other W_53 (Or.inl (Ne.symm ne_a1_a3)))
      obtain ⟨T_58, X_58, e_58, st_58⟩ := getF X_56 hx hZ hown (host := "") (Or.inl (hw _ (List.mem_of_getElem? (i := 19) rfl))) Via.refl e_56 f_57 (g := (mkF m 15 #[.val (.ref a1), .val (.long q2), .second, .val (.ref a3), .val (.long ((w1 + q2) + w3)), .second] [(.ref a3), (.ref a3)])) rfl rfl (hb hby d4_15)
      have f_59 : Exa Z h_53 a3 "org/millrace/engine/Footprint" := ((E_a3.wr W_43).wr W_53)
      obtain ⟨T_60, h_60, X_60, e_60, W_60, st_60⟩ := putF X_58 hx hZ hown (host := "") (Or.inl (hw _ (List.mem_of_getElem? (i := 19) rfl))) Via.refl e_58 f_57 f_59 (Or.inl (hw _ (List.mem_of_getElem? (i := 20) rfl))) (hw _ (List.mem_of_getElem? (i := 1) rfl)) (ty := .long) (by decide) rfl rfl (g := (mkF m 20 #[.val (.ref a1), .val (.long q2), .second, .val (.ref a3), .val (.long ((w1 + q2) + w3)), .second] [(.long (u1 + q2)), (.ref a3)])) rfl rfl (hb hby d4_20)
      have z_61 : n0 ≤ h_60.size := Nat.le_trans z_54 (Keep.of_wr W_60).1
      have fw_60 : Fld Z h_60 a3 "org/millrace/engine/Footprint" "rows" "J" (.long (u1 + q2)) := f_57.same W_60
      have N_60 := Fr.snoc X_60 N_53 g_a3
      have K_60 : Keep h0 h_60 [a1, a3] := K_53.wr W_60 (Or.inl (List.mem_of_getElem? (i := 1) rfl))
      obtain ⟨T_62, X_62, e_62, st_62⟩ := getF X_60 hx hZ hown (host := "") (Or.inl (hw _ (List.mem_of_getElem? (i := 19) rfl))) Via.refl e_60 fw_60 (g := (mkF m 24 #[.val (.ref a1), .val (.long q2), .second, .val (.ref a3), .val (.long ((w1 + q2) + w3)), .second] [(.ref a3)])) rfl rfl (hb hby d4_24)
      have f_63 : Fld Z h_60 a3 "org/millrace/engine/Footprint" "aside" "J" (.long u3) := (((F_a3_aside.other W_43 (Or.inl (Ne.symm ne_a1_a3))).other W_53 (Or.inl (Ne.symm ne_a1_a3))).other W_60 (Or.inr (slot_ne (Or.inl (hw _ (List.mem_of_getElem? (i := 22) rfl))) (Or.inl (hw _ (List.mem_of_getElem? (i := 20) rfl))) (by decide) (t := .long) (t' := .long) (by decide) (by decide))))
      obtain ⟨T_64, X_64, e_64, st_64⟩ := getF X_62 hx hZ hown (host := "") (Or.inl (hw _ (List.mem_of_getElem? (i := 21) rfl))) Via.refl e_62 f_63 (g := (mkF m 28 #[.val (.ref a1), .val (.long q2), .second, .val (.ref a3), .val (.long ((w1 + q2) + w3)), .second] [(.ref a3), (.long (u1 + q2))])) rfl rfl (hb hby d4_28)
      have f_65 : Fld Z h_60 a3 "org/millrace/engine/Footprint" "peak" "J" (.long u2) := (((F_a3_peak.other W_43 (Or.inl (Ne.symm ne_a1_a3))).other W_53 (Or.inl (Ne.symm ne_a1_a3))).other W_60 (Or.inr (slot_ne (Or.inl (hw _ (List.mem_of_getElem? (i := 24) rfl))) (Or.inl (hw _ (List.mem_of_getElem? (i := 20) rfl))) (by decide) (t := .long) (t' := .long) (by decide) (by decide))))
      obtain ⟨T_66, X_66, e_66, st_66⟩ := getF X_64 hx hZ hown (host := "") (Or.inl (hw _ (List.mem_of_getElem? (i := 23) rfl))) Via.refl e_64 f_65 (g := (mkF m 37 #[.val (.ref a1), .val (.long q2), .second, .val (.ref a3), .val (.long ((u1 + q2) + u3)), .second] [(.ref a3), (.long ((u1 + q2) + u3))])) rfl rfl (hb hby d4_37)
      have pre_67 : ∀ t, Steps p.tables e below (T_66.setTop (mkF m 41 #[.val (.ref a1), .val (.long q2), .second, .val (.ref a3), .val (.long ((u1 + q2) + u3)), .second] [(.int (lcmpW ((u1 + q2) + u3) u2))])) t → Steps p.tables e below (s₁.setTop (entryFrame m #[(.ref a1), (.long q2)] 6)) t := fun t k => pre_50 t (by
          show Steps p.tables e below (T_49.setTop (mkF m 41 #[.val (.ref a1), .val (.long q2), .second, .val (.ref a1), .val (.long ((w1 + q2) + w3)), .second] [(.int (lcmpW ((w1 + q2) + w3) w2))])) _
          refine XS.ifNo X_49.here hx rfl (hb hby d4_41) rfl ((if0 _ _).trans (tlt ((lw_gt _ _).mpr hc41__51)).2.2.2) ?_
          show Steps p.tables e below (T_49.setTop (mkF m 44 #[.val (.ref a1), .val (.long q2), .second, .val (.ref a1), .val (.long ((w1 + q2) + w3)), .second] [])) _
          refine XS.aloadN X_49.here hx rfl (hb hby d4_44) rfl rfl ?_
          show Steps p.tables e below (T_49.setTop (mkF m 45 #[.val (.ref a1), .val (.long q2), .second, .val (.ref a1), .val (.long ((w1 + q2) + w3)), .second] [(.ref a1)])) _
          refine XS.lload X_49.here hx rfl (hb hby d4_45) rfl ?_
          show Steps p.tables e below (T_49.setTop (mkF m 47 #[.val (.ref a1), .val (.long q2), .second, .val (.ref a1), .val (.long ((w1 + q2) + w3)), .second] [(.long ((w1 + q2) + w3)), (.ref a1)])) _
          refine st_53 _ ?_
          show Steps p.tables e below (T_53.setTop (mkF m 50 #[.val (.ref a1), .val (.long q2), .second, .val (.ref a1), .val (.long ((w1 + q2) + w3)), .second] [])) _
          refine XS.aloadN X_53.here hx rfl (hb hby d4_50) rfl rfl ?_
          show Steps p.tables e below (T_53.setTop (mkF m 51 #[.val (.ref a1), .val (.long q2), .second, .val (.ref a1), .val (.long ((w1 + q2) + w3)), .second] [(.ref a1)])) _
          refine st_56 _ ?_
          show Steps p.tables e below (T_56.setTop (mkF m 54 #[.val (.ref a1), .val (.long q2), .second, .val (.ref a1), .val (.long ((w1 + q2) + w3)), .second] [(.ref a3)])) _
          refine XS.astoreN X_56.here hx rfl (hb hby d4_54) rfl rfl (l' := #[.val (.ref a1), .val (.long q2), .second, .val (.ref a3), .val (.long ((w1 + q2) + w3)), .second]) rfl ?_
          show Steps p.tables e below (T_56.setTop (mkF m 55 #[.val (.ref a1), .val (.long q2), .second, .val (.ref a3), .val (.long ((w1 + q2) + w3)), .second] [])) _
          refine XS.goto X_56.here hx rfl (pc0 := 55) (pc' := 9) rfl (hb hby d4_55) (by decide) (by decide) ?_
          show Steps p.tables e below (T_56.setTop (mkF m 9 #[.val (.ref a1), .val (.long q2), .second, .val (.ref a3), .val (.long ((w1 + q2) + w3)), .second] [])) _
          refine XS.aloadN X_56.here hx rfl (hb hby d4_9) rfl rfl ?_
          show Steps p.tables e below (T_56.setTop (mkF m 10 #[.val (.ref a1), .val (.long q2), .second, .val (.ref a3), .val (.long ((w1 + q2) + w3)), .second] [(.ref a3)])) _
          refine XS.ifnullNo X_56.here hx rfl (hb hby d4_10) rfl ?_
          show Steps p.tables e below (T_56.setTop (mkF m 13 #[.val (.ref a1), .val (.long q2), .second, .val (.ref a3), .val (.long ((w1 + q2) + w3)), .second] [])) _
          refine XS.aloadN X_56.here hx rfl (hb hby d4_13) rfl rfl ?_
          show Steps p.tables e below (T_56.setTop (mkF m 14 #[.val (.ref a1), .val (.long q2), .second, .val (.ref a3), .val (.long ((w1 + q2) + w3)), .second] [(.ref a3)])) _
          refine XS.dup X_56.here hx rfl (hb hby d4_14) rfl rfl ?_
          show Steps p.tables e below (T_56.setTop (mkF m 15 #[.val (.ref a1), .val (.long q2), .second, .val (.ref a3), .val (.long ((w1 + q2) + w3)), .second] [(.ref a3), (.ref a3)])) _
          refine st_58 _ ?_
          show Steps p.tables e below (T_58.setTop (mkF m 18 #[.val (.ref a1), .val (.long q2), .second, .val (.ref a3), .val (.long ((w1 + q2) + w3)), .second] [(.long u1), (.ref a3)])) _
          refine XS.lloadN X_58.here hx rfl (hb hby d4_18) rfl ?_
          show Steps p.tables e below (T_58.setTop (mkF m 19 #[.val (.ref a1), .val (.long q2), .second, .val (.ref a3), .val (.long ((w1 + q2) + w3)), .second] [(.long q2), (.long u1), (.ref a3)])) _
          refine XS.ladd X_58.here hx rfl (hb hby d4_19) rfl ?_
          show Steps p.tables e below (T_58.setTop (mkF m 20 #[.val (.ref a1), .val (.long q2), .second, .val (.ref a3), .val (.long ((w1 + q2) + w3)), .second] [(.long (u1 + q2)), (.ref a3)])) _
          refine st_60 _ ?_
          show Steps p.tables e below (T_60.setTop (mkF m 23 #[.val (.ref a1), .val (.long q2), .second, .val (.ref a3), .val (.long ((w1 + q2) + w3)), .second] [])) _
          refine XS.aloadN X_60.here hx rfl (hb hby d4_23) rfl rfl ?_
          show Steps p.tables e below (T_60.setTop (mkF m 24 #[.val (.ref a1), .val (.long q2), .second, .val (.ref a3), .val (.long ((w1 + q2) + w3)), .second] [(.ref a3)])) _
          refine st_62 _ ?_
          show Steps p.tables e below (T_62.setTop (mkF m 27 #[.val (.ref a1), .val (.long q2), .second, .val (.ref a3), .val (.long ((w1 + q2) + w3)), .second] [(.long (u1 + q2))])) _
          refine XS.aloadN X_62.here hx rfl (hb hby d4_27) rfl rfl ?_
          show Steps p.tables e below (T_62.setTop (mkF m 28 #[.val (.ref a1), .val (.long q2), .second, .val (.ref a3), .val (.long ((w1 + q2) + w3)), .second] [(.ref a3), (.long (u1 + q2))])) _
          refine st_64 _ ?_
          show Steps p.tables e below (T_64.setTop (mkF m 31 #[.val (.ref a1), .val (.long q2), .second, .val (.ref a3), .val (.long ((w1 + q2) + w3)), .second] [(.long u3), (.long (u1 + q2))])) _
          refine XS.ladd X_64.here hx rfl (hb hby d4_31) rfl ?_
          show Steps p.tables e below (T_64.setTop (mkF m 32 #[.val (.ref a1), .val (.long q2), .second, .val (.ref a3), .val (.long ((w1 + q2) + w3)), .second] [(.long ((u1 + q2) + u3))])) _
          refine XS.lstore X_64.here hx rfl (hb hby d4_32) rfl (l' := #[.val (.ref a1), .val (.long q2), .second, .val (.ref a3), .val (.long ((u1 + q2) + u3)), .second]) rfl ?_
          show Steps p.tables e below (T_64.setTop (mkF m 34 #[.val (.ref a1), .val (.long q2), .second, .val (.ref a3), .val (.long ((u1 + q2) + u3)), .second] [])) _
          refine XS.lload X_64.here hx rfl (hb hby d4_34) rfl ?_
          show Steps p.tables e below (T_64.setTop (mkF m 36 #[.val (.ref a1), .val (.long q2), .second, .val (.ref a3), .val (.long ((u1 + q2) + u3)), .second] [(.long ((u1 + q2) + u3))])) _
          refine XS.aloadN X_64.here hx rfl (hb hby d4_36) rfl rfl ?_
          show Steps p.tables e below (T_64.setTop (mkF m 37 #[.val (.ref a1), .val (.long q2), .second, .val (.ref a3), .val (.long ((u1 + q2) + u3)), .second] [(.ref a3), (.long ((u1 + q2) + u3))])) _
          refine st_66 _ ?_
          show Steps p.tables e below (T_66.setTop (mkF m 40 #[.val (.ref a1), .val (.long q2), .second, .val (.ref a3), .val (.long ((u1 + q2) + u3)), .second] [(.long u2), (.long ((u1 + q2) + u3))])) _
          refine XS.lcmp X_66.here hx rfl (hb hby d4_40) rfl ?_
          exact k)
      by_cases hc41__68 : u2 < ((u1 + q2) + u3)
      · have f_69 : Exa Z h_60 a3 "org/millrace/engine/Footprint" := (f_59.wr W_60)
        obtain ⟨T_70, h_70, X_70, e_70, W_70, st_70⟩ := putF X_66 hx hZ hown (host := "") (Or.inl (hw _ (List.mem_of_getElem? (i := 23) rfl))) Via.refl e_66 f_65 f_69 (Or.inl (hw _ (List.mem_of_getElem? (i := 24) rfl))) (hw _ (List.mem_of_getElem? (i := 1) rfl)) (ty := .long) (by decide) rfl rfl (g := (mkF m 47 #[.val (.ref a1), .val (.long q2), .second, .val (.ref a3), .val (.long ((u1 + q2) + u3)), .second] [(.long ((u1 + q2) + u3)), (.ref a3)])) rfl rfl (hb hby d4_47)
        have z_71 : n0 ≤ h_70.size := Nat.le_trans z_61 (Keep.of_wr W_70).1
        have fw_70 : Fld Z h_70 a3 "org/millrace/engine/Footprint" "peak" "J" (.long ((u1 + q2) + u3)) := f_65.same W_70
        have N_70 := Fr.snoc X_70 N_60 g_a3
        have K_70 : Keep h0 h_70 [a1, a3] := K_60.wr W_70 (Or.inl (List.mem_of_getElem? (i := 1) rfl))
        have f_72 : Fld Z h_70 a3 "org/millrace/engine/Footprint" "whole" "Lorg/millrace/engine/Footprint;" .null := ((((F_a3_whole.other W_43 (Or.inl (Ne.symm ne_a1_a3))).other W_53 (Or.inl (Ne.symm ne_a1_a3))).other W_60 (Or.inr (slot_ne (Or.inr (hw _ (List.mem_of_getElem? (i := 13) rfl))) (Or.inl (hw _ (List.mem_of_getElem? (i := 20) rfl))) (by decide) (t := (.object "org/millrace/engine/Footprint")) (t' := .long) (by decide) (by decide)))).other W_70 (Or.inr (slot_ne (Or.inr (hw _ (List.mem_of_getElem? (i := 13) rfl))) (Or.inl (hw _ (List.mem_of_getElem? (i := 24) rfl))) (by decide) (t := (.object "org/millrace/engine/Footprint")) (t' := .long) (by decide) (by decide))))
        obtain ⟨T_73, X_73, e_73, st_73⟩ := getF X_70 hx hZ hown (host := "") (Or.inl (hw _ (List.mem_of_getElem? (i := 12) rfl))) Via.refl e_70 f_72 (g := (mkF m 51 #[.val (.ref a1), .val (.long q2), .second, .val (.ref a3), .val (.long ((u1 + q2) + u3)), .second] [(.ref a3)])) rfl rfl (hb hby d4_51)
        obtain ⟨fs, hr, hrun, hended, hW, hsame⟩ := X_73.leave (v := none) (fun _ => rfl)
        refine ⟨_, _, pre_67 _ ?_, hrun, hended, _, _, rfl, ?_, ⟨_, rfl⟩, hW, hsame.mono (by decide) (by decide)⟩
        · show Steps p.tables e below (T_66.setTop (mkF m 41 #[.val (.ref a1), .val (.long q2), .second, .val (.ref a3), .val (.long ((u1 + q2) + u3)), .second] [(.int (lcmpW ((u1 + q2) + u3) u2))])) _
          refine XS.ifNo X_66.here hx rfl (hb hby d4_41) rfl ((if0 _ _).trans (tlt ((lw_gt _ _).mpr hc41__68)).2.2.2) ?_
          show Steps p.tables e below (T_66.setTop (mkF m 44 #[.val (.ref a1), .val (.long q2), .second, .val (.ref a3), .val (.long ((u1 + q2) + u3)), .second] [])) _
          refine XS.aloadN X_66.here hx rfl (hb hby d4_44) rfl rfl ?_
          show Steps p.tables e below (T_66.setTop (mkF m 45 #[.val (.ref a1), .val (.long q2), .second, .val (.ref a3), .val (.long ((u1 + q2) + u3)), .second] [(.ref a3)])) _
          refine XS.lload X_66.here hx rfl (hb hby d4_45) rfl ?_
          show Steps p.tables e below (T_66.setTop (mkF m 47 #[.val (.ref a1), .val (.long q2), .second, .val (.ref a3), .val (.long ((u1 + q2) + u3)), .second] [(.long ((u1 + q2) + u3)), (.ref a3)])) _
          refine st_70 _ ?_
          show Steps p.tables e below (T_70.setTop (mkF m 50 #[.val (.ref a1), .val (.long q2), .second, .val (.ref a3), .val (.long ((u1 + q2) + u3)), .second] [])) _
          refine XS.aloadN X_70.here hx rfl (hb hby d4_50) rfl rfl ?_
          show Steps p.tables e below (T_70.setTop (mkF m 51 #[.val (.ref a1), .val (.long q2), .second, .val (.ref a3), .val (.long ((u1 + q2) + u3)), .second] [(.ref a3)])) _
          refine st_73 _ ?_
          show Steps p.tables e below (T_73.setTop (mkF m 54 #[.val (.ref a1), .val (.long q2), .second, .val (.ref a3), .val (.long ((u1 + q2) + u3)), .second] [.null])) _
          refine XS.astoreN X_73.here hx rfl (hb hby d4_54) rfl rfl (l' := #[.val (.ref a1), .val (.long q2), .second, .val .null, .val (.long ((u1 + q2) + u3)), .second]) rfl ?_
          show Steps p.tables e below (T_73.setTop (mkF m 55 #[.val (.ref a1), .val (.long q2), .second, .val .null, .val (.long ((u1 + q2) + u3)), .second] [])) _
          refine XS.goto X_73.here hx rfl (pc0 := 55) (pc' := 9) rfl (hb hby d4_55) (by decide) (by decide) ?_
          show Steps p.tables e below (T_73.setTop (mkF m 9 #[.val (.ref a1), .val (.long q2), .second, .val .null, .val (.long ((u1 + q2) + u3)), .second] [])) _
          refine XS.aloadN X_73.here hx rfl (hb hby d4_9) rfl rfl ?_
          show Steps p.tables e below (T_73.setTop (mkF m 10 #[.val (.ref a1), .val (.long q2), .second, .val .null, .val (.long ((u1 + q2) + u3)), .second] [.null])) _
          refine XS.ifnullYes X_73.here hx rfl (pc0 := 10) (pc' := 58) rfl (hb hby d4_10) rfl (by decide) (by decide) ?_
          show Steps p.tables e below (T_73.setTop (mkF m 58 #[.val (.ref a1), .val (.long q2), .second, .val .null, .val (.long ((u1 + q2) + u3)), .second] [])) _
          exact X_73.returnOut hx Bd.returns (hb hby d4_58) hr
        have f_74 : Exa Z h_70 a1 "org/millrace/engine/Footprint" := (((f_52.wr W_53).wr W_60).wr W_70)
        have f_75 : Fld Z h_70 a1 "org/millrace/engine/Footprint" "rows" "J" (.long (w1 + q2)) := (((fw_43.other W_53 (Or.inr (slot_ne (Or.inl (hw _ (List.mem_of_getElem? (i := 20) rfl))) (Or.inl (hw _ (List.mem_of_getElem? (i := 24) rfl))) (by decide) (t := .long) (t' := .long) (by decide) (by decide)))).other W_60 (Or.inl ne_a1_a3)).other W_70 (Or.inl ne_a1_a3))
        have f_76 : Fld Z h_70 a1 "org/millrace/engine/Footprint" "peak" "J" (.long ((w1 + q2) + w3)) := ((fw_53.other W_60 (Or.inl ne_a1_a3)).other W_70 (Or.inl ne_a1_a3))
        have f_77 : Fld Z h_70 a1 "org/millrace/engine/Footprint" "aside" "J" (.long w3) := (((f_46.other W_53 (Or.inr (slot_ne (Or.inl (hw _ (List.mem_of_getElem? (i := 22) rfl))) (Or.inl (hw _ (List.mem_of_getElem? (i := 24) rfl))) (by decide) (t := .long) (t' := .long) (by decide) (by decide)))).other W_60 (Or.inl ne_a1_a3)).other W_70 (Or.inl ne_a1_a3))
        have f_78 : Fld Z h_70 a1 "org/millrace/engine/Footprint" "whole" "Lorg/millrace/engine/Footprint;" (.ref a3) := ((f_55.other W_60 (Or.inl ne_a1_a3)).other W_70 (Or.inl ne_a1_a3))
        have f_79 : Exa Z h_70 a3 "org/millrace/engine/Footprint" := (f_69.wr W_70)
        have f_80 : Fld Z h_70 a3 "org/millrace/engine/Footprint" "rows" "J" (.long (u1 + q2)) := (fw_60.other W_70 (Or.inr (slot_ne (Or.inl (hw _ (List.mem_of_getElem? (i := 20) rfl))) (Or.inl (hw _ (List.mem_of_getElem? (i := 24) rfl))) (by decide) (t := .long) (t' := .long) (by decide) (by decide))))
        have f_81 : Fld Z h_70 a3 "org/millrace/engine/Footprint" "aside" "J" (.long u3) := (f_63.other W_70 (Or.inr (slot_ne (Or.inl (hw _ (List.mem_of_getElem? (i := 22) rfl))) (Or.inl (hw _ (List.mem_of_getElem? (i := 24) rfl))) (by decide) (t := .long) (t' := .long) (by decide) (by decide))))
        · show Q4r Z a1 a3 q2 w1 w2 w3 u1 u2 u3 h0 n0 _ T_73.heap _
          rw [e_73]
          exact ⟨rfl, N_70, K_70, f_74, (by have q : (w1 + q2) = (own_ar q2 w1) := (by simp only [own_ar, if_neg hc3__41, if_pos hc41__51, if_pos hc41__68]); rw [← q]; exact f_75), (by have q : ((w1 + q2) + w3) = (own_ap q2 w1 w2 w3) := (by simp only [own_ap, if_neg hc3__41, if_pos hc41__51, if_pos hc41__68]); rw [← q]; exact f_76), f_77, f_78, f_79, (by have q : (u1 + q2) = (own_ar q2 u1) := (by simp only [own_ar, if_neg hc3__41, if_pos hc41__51, if_pos hc41__68]); rw [← q]; exact f_80), (by have q : ((u1 + q2) + u3) = (own_ap q2 u1 u2 u3) := (by simp only [own_ap, if_neg hc3__41, if_pos hc41__51, if_pos hc41__68]); rw [← q]; exact fw_70), f_81, f_72⟩
      · have f_82 : Fld Z h_60 a3 "org/millrace/engine/Footprint" "whole" "Lorg/millrace/engine/Footprint;" .null := (((F_a3_whole.other W_43 (Or.inl (Ne.symm ne_a1_a3))).other W_53 (Or.inl (Ne.symm ne_a1_a3))).other W_60 (Or.inr (slot_ne (Or.inr (hw _ (List.mem_of_getElem? (i := 13) rfl))) (Or.inl (hw _ (List.mem_of_getElem? (i := 20) rfl))) (by decide) (t := (.object "org/millrace/engine/Footprint")) (t' := .long) (by decide) (by decide))))
        obtain ⟨T_83, X_83, e_83, st_83⟩ := getF X_66 hx hZ hown (host := "") (Or.inl (hw _ (List.mem_of_getElem? (i := 12) rfl))) Via.refl e_66 f_82 (g := (mkF m 51 #[.val (.ref a1), .val (.long q2), .second, .val (.ref a3), .val (.long ((u1 + q2) + u3)), .second] [(.ref a3)])) rfl rfl (hb hby d4_51)
        obtain ⟨fs, hr, hrun, hended, hW, hsame⟩ := X_83.leave (v := none) (fun _ => rfl)
        refine ⟨_, _, pre_67 _ ?_, hrun, hended, _, _, rfl, ?_, ⟨_, rfl⟩, hW, hsame.mono (by decide) (by decide)⟩
        · show Steps p.tables e below (T_66.setTop (mkF m 41 #[.val (.ref a1), .val (.long q2), .second, .val (.ref a3), .val (.long ((u1 + q2) + u3)), .second] [(.int (lcmpW ((u1 + q2) + u3) u2))])) _
          refine XS.ifYes X_66.here hx rfl (pc0 := 41) (pc' := 50) rfl (hb hby d4_41) rfl ((if0 _ _).trans (flt (mt (lw_gt _ _).mp hc41__68)).2.2.2) (by decide) (by decide) ?_
          show Steps p.tables e below (T_66.setTop (mkF m 50 #[.val (.ref a1), .val (.long q2), .second, .val (.ref a3), .val (.long ((u1 + q2) + u3)), .second] [])) _
          refine XS.aloadN X_66.here hx rfl (hb hby d4_50) rfl rfl ?_
          show Steps p.tables e below (T_66.setTop (mkF m 51 #[.val (.ref a1), .val (.long q2), .second, .val (.ref a3), .val (.long ((u1 + q2) + u3)), .second] [(.ref a3)])) _
          refine st_83 _ ?_
          show Steps p.tables e below (T_83.setTop (mkF m 54 #[.val (.ref a1), .val (.long q2), .second, .val (.ref a3), .val (.long ((u1 + q2) + u3)), .second] [.null])) _
          refine XS.astoreN X_83.here hx rfl (hb hby d4_54) rfl rfl (l' := #[.val (.ref a1), .val (.long q2), .second, .val .null, .val (.long ((u1 + q2) + u3)), .second]) rfl ?_
          show Steps p.tables e below (T_83.setTop (mkF m 55 #[.val (.ref a1), .val (.long q2), .second, .val .null, .val (.long ((u1 + q2) + u3)), .second] [])) _
          refine XS.goto X_83.here hx rfl (pc0 := 55) (pc' := 9) rfl (hb hby d4_55) (by decide) (by decide) ?_
          show Steps p.tables e below (T_83.setTop (mkF m 9 #[.val (.ref a1), .val (.long q2), .second, .val .null, .val (.long ((u1 + q2) + u3)), .second] [])) _
          refine XS.aloadN X_83.here hx rfl (hb hby d4_9) rfl rfl ?_
          show Steps p.tables e below (T_83.setTop (mkF m 10 #[.val (.ref a1), .val (.long q2), .second, .val .null, .val (.long ((u1 + q2) + u3)), .second] [.null])) _
          refine XS.ifnullYes X_83.here hx rfl (pc0 := 10) (pc' := 58) rfl (hb hby d4_10) rfl (by decide) (by decide) ?_
          show Steps p.tables e below (T_83.setTop (mkF m 58 #[.val (.ref a1), .val (.long q2), .second, .val .null, .val (.long ((u1 + q2) + u3)), .second] [])) _
          exact X_83.returnOut hx Bd.returns (hb hby d4_58) hr
        have f_84 : Exa Z h_60 a1 "org/millrace/engine/Footprint" := ((f_52.wr W_53).wr W_60)
        have f_85 : Fld Z h_60 a1 "org/millrace/engine/Footprint" "rows" "J" (.long (w1 + q2)) := ((fw_43.other W_53 (Or.inr (slot_ne (Or.inl (hw _ (List.mem_of_getElem? (i := 20) rfl))) (Or.inl (hw _ (List.mem_of_getElem? (i := 24) rfl))) (by decide) (t := .long) (t' := .long) (by decide) (by decide)))).other W_60 (Or.inl ne_a1_a3))
        have f_86 : Fld Z h_60 a1 "org/millrace/engine/Footprint" "peak" "J" (.long ((w1 + q2) + w3)) := (fw_53.other W_60 (Or.inl ne_a1_a3))
        have f_87 : Fld Z h_60 a1 "org/millrace/engine/Footprint" "aside" "J" (.long w3) := ((f_46.other W_53 (Or.inr (slot_ne (Or.inl (hw _ (List.mem_of_getElem? (i := 22) rfl))) (Or.inl (hw _ (List.mem_of_getElem? (i := 24) rfl))) (by decide) (t := .long) (t' := .long) (by decide) (by decide)))).other W_60 (Or.inl ne_a1_a3))
        have f_88 : Fld Z h_60 a1 "org/millrace/engine/Footprint" "whole" "Lorg/millrace/engine/Footprint;" (.ref a3) := (f_55.other W_60 (Or.inl ne_a1_a3))
        have f_89 : Exa Z h_60 a3 "org/millrace/engine/Footprint" := (f_59.wr W_60)
        · show Q4r Z a1 a3 q2 w1 w2 w3 u1 u2 u3 h0 n0 _ T_83.heap _
          rw [e_83]
          exact ⟨rfl, N_60, K_60, f_84, (by have q : (w1 + q2) = (own_ar q2 w1) := (by simp only [own_ar, if_neg hc3__41, if_pos hc41__51, if_neg hc41__68]); rw [← q]; exact f_85), (by have q : ((w1 + q2) + w3) = (own_ap q2 w1 w2 w3) := (by simp only [own_ap, if_neg hc3__41, if_pos hc41__51, if_neg hc41__68]); rw [← q]; exact f_86), f_87, f_88, f_89, (by have q : (u1 + q2) = (own_ar q2 u1) := (by simp only [own_ar, if_neg hc3__41, if_pos hc41__51, if_neg hc41__68]); rw [← q]; exact fw_60), (by have q : u2 = (own_ap q2 u1 u2 u3) := (by simp only [own_ap, if_neg hc3__41, if_pos hc41__51, if_neg hc41__68]); rw [← q]; exact f_65), f_63, f_82⟩
    · have f_90 : Fld Z h_43 a1 "org/millrace/engine/Footprint" "whole" "Lorg/millrace/engine/Footprint;" (.ref a3) := (F_a1_whole.other W_43 (Or.inr (slot_ne (Or.inr (hw _ (List.mem_of_getElem? (i := 13) rfl))) (Or.inl (hw _ (List.mem_of_getElem? (i := 20) rfl))) (by decide) (t := (.object "org/millrace/engine/Footprint")) (t' := .long) (by decide) (by decide))))
      obtain ⟨T_91, X_91, e_91, st_91⟩ := getF X_49 hx hZ hown (host := "") (Or.inl (hw _ (List.mem_of_getElem? (i := 12) rfl))) Via.refl e_49 f_90 (g := (mkF m 51 #[.val (.ref a1), .val (.long q2), .second, .val (.ref a1), .val (.long ((w1 + q2) + w3)), .second] [(.ref a1)])) rfl rfl (hb hby d4_51)
      have f_92 : Fld Z h_43 a3 "org/millrace/engine/Footprint" "rows" "J" (.long u1) := (F_a3_rows.other W_43 (Or.inl (Ne.symm ne_a1_a3)))
      obtain ⟨T_93, X_93, e_93, st_93⟩ := getF X_91 hx hZ hown (host := "") (Or.inl (hw _ (List.mem_of_getElem? (i := 19) rfl))) Via.refl e_91 f_92 (g := (mkF m 15 #[.val (.ref a1), .val (.long q2), .second, .val (.ref a3), .val (.long ((w1 + q2) + w3)), .second] [(.ref a3), (.ref a3)])) rfl rfl (hb hby d4_15)
      have f_94 : Exa Z h_43 a3 "org/millrace/engine/Footprint" := (E_a3.wr W_43)
      obtain ⟨T_95, h_95, X_95, e_95, W_95, st_95⟩ := putF X_93 hx hZ hown (host := "") (Or.inl (hw _ (List.mem_of_getElem? (i := 19) rfl))) Via.refl e_93 f_92 f_94 (Or.inl (hw _ (List.mem_of_getElem? (i := 20) rfl))) (hw _ (List.mem_of_getElem? (i := 1) rfl)) (ty := .long) (by decide) rfl rfl (g := (mkF m 20 #[.val (.ref a1), .val (.long q2), .second, .val (.ref a3), .val (.long ((w1 + q2) + w3)), .second] [(.long (u1 + q2)), (.ref a3)])) rfl rfl (hb hby d4_20)
      have z_96 : n0 ≤ h_95.size := Nat.le_trans z_44 (Keep.of_wr W_95).1
      have fw_95 : Fld Z h_95 a3 "org/millrace/engine/Footprint" "rows" "J" (.long (u1 + q2)) := f_92.same W_95
      have N_95 := Fr.snoc X_95 N_43 g_a3
      have K_95 : Keep h0 h_95 [a1, a3] := K_43.wr W_95 (Or.inl (List.mem_of_getElem? (i := 1) rfl))
      obtain ⟨T_97, X_97, e_97, st_97⟩ := getF X_95 hx hZ hown (host := "") (Or.inl (hw _ (List.mem_of_getElem? (i := 19) rfl))) Via.refl e_95 fw_95 (g := (mkF m 24 #[.val (.ref a1), .val (.long q2), .second, .val (.ref a3), .val (.long ((w1 + q2) + w3)), .second] [(.ref a3)])) rfl rfl (hb hby d4_24)
      have f_98 : Fld Z h_95 a3 "org/millrace/engine/Footprint" "aside" "J" (.long u3) := ((F_a3_aside.other W_43 (Or.inl (Ne.symm ne_a1_a3))).other W_95 (Or.inr (slot_ne (Or.inl (hw _ (List.mem_of_getElem? (i := 22) rfl))) (Or.inl (hw _ (List.mem_of_getElem? (i := 20) rfl))) (by decide) (t := .long) (t' := .long) (by decide) (by decide))))
      obtain ⟨T_99, X_99, e_99, st_99⟩ := getF X_97 hx hZ hown (host := "") (Or.inl (hw _ (List.mem_of_getElem? (i := 21) rfl))) Via.refl e_97 f_98 (g := (mkF m 28 #[.val (.ref a1), .val (.long q2), .second, .val (.ref a3), .val (.long ((w1 + q2) + w3)), .second] [(.ref a3), (.long (u1 + q2))])) rfl rfl (hb hby d4_28)
      have f_100 : Fld Z h_95 a3 "org/millrace/engine/Footprint" "peak" "J" (.long u2) := ((F_a3_peak.other W_43 (Or.inl (Ne.symm ne_a1_a3))).other W_95 (Or.inr (slot_ne (Or.inl (hw _ (List.mem_of_getElem? (i := 24) rfl))) (Or.inl (hw _ (List.mem_of_getElem? (i := 20) rfl))) (by decide) (t := .long) (t' := .long) (by decide) (by decide))))
      obtain ⟨T_101, X_101, e_101, st_101⟩ := getF X_99 hx hZ hown (host := "") (Or.inl (hw _ (List.mem_of_getElem? (i := 23) rfl))) Via.refl e_99 f_100 (g := (mkF m 37 #[.val (.ref a1), .val (.long q2), .second, .val (.ref a3), .val (.long ((u1 + q2) + u3)), .second] [(.ref a3), (.long ((u1 + q2) + u3))])) rfl rfl (hb hby d4_37)
      have pre_102 : ∀ t, Steps p.tables e below (T_101.setTop (mkF m 41 #[.val (.ref a1), .val (.long q2), .second, .val (.ref a3), .val (.long ((u1 + q2) + u3)), .second] [(.int (lcmpW ((u1 + q2) + u3) u2))])) t → Steps p.tables e below (s₁.setTop (entryFrame m #[(.ref a1), (.long q2)] 6)) t := fun t k => pre_50 t (by
          show Steps p.tables e below (T_49.setTop (mkF m 41 #[.val (.ref a1), .val (.long q2), .second, .val (.ref a1), .val (.long ((w1 + q2) + w3)), .second] [(.int (lcmpW ((w1 + q2) + w3) w2))])) _
          refine XS.ifYes X_49.here hx rfl (pc0 := 41) (pc' := 50) rfl (hb hby d4_41) rfl ((if0 _ _).trans (flt (mt (lw_gt _ _).mp hc41__51)).2.2.2) (by decide) (by decide) ?_
          show Steps p.tables e below (T_49.setTop (mkF m 50 #[.val (.ref a1), .val (.long q2), .second, .val (.ref a1), .val (.long ((w1 + q2) + w3)), .second] [])) _
          refine XS.aloadN X_49.here hx rfl (hb hby d4_50) rfl rfl ?_
          show Steps p.tables e below (T_49.setTop (mkF m 51 #[.val (.ref a1), .val (.long q2), .second, .val (.ref a1), .val (.long ((w1 + q2) + w3)), .second] [(.ref a1)])) _
          refine st_91 _ ?_
          show Steps p.tables e below (T_91.setTop (mkF m 54 #[.val (.ref a1), .val (.long q2), .second, .val (.ref a1), .val (.long ((w1 + q2) + w3)), .second] [(.ref a3)])) _
          refine XS.astoreN X_91.here hx rfl (hb hby d4_54) rfl rfl (l' := #[.val (.ref a1), .val (.long q2), .second, .val (.ref a3), .val (.long ((w1 + q2) + w3)), .second]) rfl ?_
          show Steps p.tables e below (T_91.setTop (mkF m 55 #[.val (.ref a1), .val (.long q2), .second, .val (.ref a3), .val (.long ((w1 + q2) + w3)), .second] [])) _
          refine XS.goto X_91.here hx rfl (pc0 := 55) (pc' := 9) rfl (hb hby d4_55) (by decide) (by decide) ?_
          show Steps p.tables e below (T_91.setTop (mkF m 9 #[.val (.ref a1), .val (.long q2), .second, .val (.ref a3), .val (.long ((w1 + q2) + w3)), .second] [])) _
          refine XS.aloadN X_91.here hx rfl (hb hby d4_9) rfl rfl ?_
          show Steps p.tables e below (T_91.setTop (mkF m 10 #[.val (.ref a1), .val (.long q2), .second, .val (.ref a3), .val (.long ((w1 + q2) + w3)), .second] [(.ref a3)])) _
          refine XS.ifnullNo X_91.here hx rfl (hb hby d4_10) rfl ?_
          show Steps p.tables e below (T_91.setTop (mkF m 13 #[.val (.ref a1), .val (.long q2), .second, .val (.ref a3), .val (.long ((w1 + q2) + w3)), .second] [])) _
          refine XS.aloadN X_91.here hx rfl (hb hby d4_13) rfl rfl ?_
          show Steps p.tables e below (T_91.setTop (mkF m 14 #[.val (.ref a1), .val (.long q2), .second, .val (.ref a3), .val (.long ((w1 + q2) + w3)), .second] [(.ref a3)])) _
          refine XS.dup X_91.here hx rfl (hb hby d4_14) rfl rfl ?_
          show Steps p.tables e below (T_91.setTop (mkF m 15 #[.val (.ref a1), .val (.long q2), .second, .val (.ref a3), .val (.long ((w1 + q2) + w3)), .second] [(.ref a3), (.ref a3)])) _
          refine st_93 _ ?_
          show Steps p.tables e below (T_93.setTop (mkF m 18 #[.val (.ref a1), .val (.long q2), .second, .val (.ref a3), .val (.long ((w1 + q2) + w3)), .second] [(.long u1), (.ref a3)])) _
          refine XS.lloadN X_93.here hx rfl (hb hby d4_18) rfl ?_
          show Steps p.tables e below (T_93.setTop (mkF m 19 #[.val (.ref a1), .val (.long q2), .second, .val (.ref a3), .val (.long ((w1 + q2) + w3)), .second] [(.long q2), (.long u1), (.ref a3)])) _
          refine XS.ladd X_93.here hx rfl (hb hby d4_19) rfl ?_
          show Steps p.tables e below (T_93.setTop (mkF m 20 #[.val (.ref a1), .val (.long q2), .second, .val (.ref a3), .val (.long ((w1 + q2) + w3)), .second] [(.long (u1 + q2)), (.ref a3)])) _
          refine st_95 _ ?_
          show Steps p.tables e below (T_95.setTop (mkF m 23 #[.val (.ref a1), .val (.long q2), .second, .val (.ref a3), .val (.long ((w1 + q2) + w3)), .second] [])) _
          refine XS.aloadN X_95.here hx rfl (hb hby d4_23) rfl rfl ?_
          show Steps p.tables e below (T_95.setTop (mkF m 24 #[.val (.ref a1), .val (.long q2), .second, .val (.ref a3), .val (.long ((w1 + q2) + w3)), .second] [(.ref a3)])) _
          refine st_97 _ ?_
          show Steps p.tables e below (T_97.setTop (mkF m 27 #[.val (.ref a1), .val (.long q2), .second, .val (.ref a3), .val (.long ((w1 + q2) + w3)), .second] [(.long (u1 + q2))])) _
          refine XS.aloadN X_97.here hx rfl (hb hby d4_27) rfl rfl ?_
          show Steps p.tables e below (T_97.setTop (mkF m 28 #[.val (.ref a1), .val (.long q2), .second, .val (.ref a3), .val (.long ((w1 + q2) + w3)), .second] [(.ref a3), (.long (u1 + q2))])) _
          refine st_99 _ ?_
          show Steps p.tables e below (T_99.setTop (mkF m 31 #[.val (.ref a1), .val (.long q2), .second, .val (.ref a3), .val (.long ((w1 + q2) + w3)), .second] [(.long u3), (.long (u1 + q2))])) _
          refine XS.ladd X_99.here hx rfl (hb hby d4_31) rfl ?_
          show Steps p.tables e below (T_99.setTop (mkF m 32 #[.val (.ref a1), .val (.long q2), .second, .val (.ref a3), .val (.long ((w1 + q2) + w3)), .second] [(.long ((u1 + q2) + u3))])) _
          refine XS.lstore X_99.here hx rfl (hb hby d4_32) rfl (l' := #[.val (.ref a1), .val (.long q2), .second, .val (.ref a3), .val (.long ((u1 + q2) + u3)), .second]) rfl ?_
          show Steps p.tables e below (T_99.setTop (mkF m 34 #[.val (.ref a1), .val (.long q2), .second, .val (.ref a3), .val (.long ((u1 + q2) + u3)), .second] [])) _
          refine XS.lload X_99.here hx rfl (hb hby d4_34) rfl ?_
          show Steps p.tables e below (T_99.setTop (mkF m 36 #[.val (.ref a1), .val (.long q2), .second, .val (.ref a3), .val (.long ((u1 + q2) + u3)), .second] [(.long ((u1 + q2) + u3))])) _
          refine XS.aloadN X_99.here hx rfl (hb hby d4_36) rfl rfl ?_
          show Steps p.tables e below (T_99.setTop (mkF m 37 #[.val (.ref a1), .val (.long q2), .second, .val (.ref a3), .val (.long ((u1 + q2) + u3)), .second] [(.ref a3), (.long ((u1 + q2) + u3))])) _
          refine st_101 _ ?_
          show Steps p.tables e below (T_101.setTop (mkF m 40 #[.val (.ref a1), .val (.long q2), .second, .val (.ref a3), .val (.long ((u1 + q2) + u3)), .second] [(.long u2), (.long ((u1 + q2) + u3))])) _
          refine XS.lcmp X_101.here hx rfl (hb hby d4_40) rfl ?_
          exact k)
      by_cases hc41__103 : u2 < ((u1 + q2) + u3)
      · have f_104 : Exa Z h_95 a3 "org/millrace/engine/Footprint" := (f_94.wr W_95)
        obtain ⟨T_105, h_105, X_105, e_105, W_105, st_105⟩ := putF X_101 hx hZ hown (host := "") (Or.inl (hw _ (List.mem_of_getElem? (i := 23) rfl))) Via.refl e_101 f_100 f_104 (Or.inl (hw _ (List.mem_of_getElem? (i := 24) rfl))) (hw _ (List.mem_of_getElem? (i := 1) rfl)) (ty := .long) (by decide) rfl rfl (g := (mkF m 47 #[.val (.ref a1), .val (.long q2), .second, .val (.ref a3), .val (.long ((u1 + q2) + u3)), .second] [(.long ((u1 + q2) + u3)), (.ref a3)])) rfl rfl (hb hby d4_47)
        have z_106 : n0 ≤ h_105.size := Nat.le_trans z_96 (Keep.of_wr W_105).1
        have fw_105 : Fld Z h_105 a3 "org/millrace/engine/Footprint" "peak" "J" (.long ((u1 + q2) + u3)) := f_100.same W_105
        have N_105 := Fr.snoc X_105 N_95 g_a3
        have K_105 : Keep h0 h_105 [a1, a3] := K_95.wr W_105 (Or.inl (List.mem_of_getElem? (i := 1) rfl))
        have f_107 : Fld Z h_105 a3 "org/millrace/engine/Footprint" "whole" "Lorg/millrace/engine/Footprint;" .null := (((F_a3_whole.other W_43 (Or.inl (Ne.symm ne_a1_a3))).other W_95 (Or.inr (slot_ne (Or.inr (hw _ (List.mem_of_getElem? (i := 13) rfl))) (Or.inl (hw _ (List.mem_of_getElem? (i := 20) rfl))) (by decide) (t := (.object "org/millrace/engine/Footprint")) (t' := .long) (by decide) (by decide)))).other W_105 (Or.inr (slot_ne (Or.inr (hw _ (List.mem_of_getElem? (i := 13) rfl))) (Or.inl (hw _ (List.mem_of_getElem? (i := 24) rfl))) (by decide) (t := (.object "org/millrace/engine/Footprint")) (t' := .long) (by decide) (by decide))))
        obtain ⟨T_108, X_108, e_108, st_108⟩ := getF X_105 hx hZ hown (host := "") (Or.inl (hw _ (List.mem_of_getElem? (i := 12) rfl))) Via.refl e_105 f_107 (g := (mkF m 51 #[.val (.ref a1), .val (.long q2), .second, .val (.ref a3), .val (.long ((u1 + q2) + u3)), .second] [(.ref a3)])) rfl rfl (hb hby d4_51)
        obtain ⟨fs, hr, hrun, hended, hW, hsame⟩ := X_108.leave (v := none) (fun _ => rfl)
        refine ⟨_, _, pre_102 _ ?_, hrun, hended, _, _, rfl, ?_, ⟨_, rfl⟩, hW, hsame.mono (by decide) (by decide)⟩
        · show Steps p.tables e below (T_101.setTop (mkF m 41 #[.val (.ref a1), .val (.long q2), .second, .val (.ref a3), .val (.long ((u1 + q2) + u3)), .second] [(.int (lcmpW ((u1 + q2) + u3) u2))])) _
          refine XS.ifNo X_101.here hx rfl (hb hby d4_41) rfl ((if0 _ _).trans (tlt ((lw_gt _ _).mpr hc41__103)).2.2.2) ?_
          show Steps p.tables e below (T_101.setTop (mkF m 44 #[.val (.ref a1), .val (.long q2), .second, .val (.ref a3), .val (.long ((u1 + q2) + u3)), .second] [])) _
          refine XS.aloadN X_101.here hx rfl (hb hby d4_44) rfl rfl ?_
          show Steps p.tables e below (T_101.setTop (mkF m 45 #[.val (.ref a1), .val (.long q2), .second, .val (.ref a3), .val (.long ((u1 + q2) + u3)), .second] [(.ref a3)])) _
          refine XS.lload X_101.here hx rfl (hb hby d4_45) rfl ?_
          show Steps p.tables e below (T_101.setTop (mkF m 47 #[.val (.ref a1), .val (.long q2), .second, .val (.ref a3), .val (.long ((u1 + q2) + u3)), .second] [(.long ((u1 + q2) + u3)), (.ref a3)])) _
          refine st_105 _ ?_
          show Steps p.tables e below (T_105.setTop (mkF m 50 #[.val (.ref a1), .val (.long q2), .second, .val (.ref a3), .val (.long ((u1 + q2) + u3)), .second] [])) _
          refine XS.aloadN X_105.here hx rfl (hb hby d4_50) rfl rfl ?_
          show Steps p.tables e below (T_105.setTop (mkF m 51 #[.val (.ref a1), .val (.long q2), .second, .val (.ref a3), .val (.long ((u1 + q2) + u3)), .second] [(.ref a3)])) _
          refine st_108 _ ?_
          show Steps p.tables e below (T_108.setTop (mkF m 54 #[.val (.ref a1), .val (.long q2), .second, .val (.ref a3), .val (.long ((u1 + q2) + u3)), .second] [.null])) _
          refine XS.astoreN X_108.here hx rfl (hb hby d4_54) rfl rfl (l' := #[.val (.ref a1), .val (.long q2), .second, .val .null, .val (.long ((u1 + q2) + u3)), .second]) rfl ?_
          show Steps p.tables e below (T_108.setTop (mkF m 55 #[.val (.ref a1), .val (.long q2), .second, .val .null, .val (.long ((u1 + q2) + u3)), .second] [])) _
          refine XS.goto X_108.here hx rfl (pc0 := 55) (pc' := 9) rfl (hb hby d4_55) (by decide) (by decide) ?_
          show Steps p.tables e below (T_108.setTop (mkF m 9 #[.val (.ref a1), .val (.long q2), .second, .val .null, .val (.long ((u1 + q2) + u3)), .second] [])) _
          refine XS.aloadN X_108.here hx rfl (hb hby d4_9) rfl rfl ?_
          show Steps p.tables e below (T_108.setTop (mkF m 10 #[.val (.ref a1), .val (.long q2), .second, .val .null, .val (.long ((u1 + q2) + u3)), .second] [.null])) _
          refine XS.ifnullYes X_108.here hx rfl (pc0 := 10) (pc' := 58) rfl (hb hby d4_10) rfl (by decide) (by decide) ?_
          show Steps p.tables e below (T_108.setTop (mkF m 58 #[.val (.ref a1), .val (.long q2), .second, .val .null, .val (.long ((u1 + q2) + u3)), .second] [])) _
          exact X_108.returnOut hx Bd.returns (hb hby d4_58) hr
        have f_109 : Exa Z h_105 a1 "org/millrace/engine/Footprint" := (((E_a1.wr W_43).wr W_95).wr W_105)
        have f_110 : Fld Z h_105 a1 "org/millrace/engine/Footprint" "rows" "J" (.long (w1 + q2)) := ((fw_43.other W_95 (Or.inl ne_a1_a3)).other W_105 (Or.inl ne_a1_a3))
        have f_111 : Fld Z h_105 a1 "org/millrace/engine/Footprint" "peak" "J" (.long w2) := ((f_48.other W_95 (Or.inl ne_a1_a3)).other W_105 (Or.inl ne_a1_a3))
        have f_112 : Fld Z h_105 a1 "org/millrace/engine/Footprint" "aside" "J" (.long w3) := ((f_46.other W_95 (Or.inl ne_a1_a3)).other W_105 (Or.inl ne_a1_a3))
        have f_113 : Fld Z h_105 a1 "org/millrace/engine/Footprint" "whole" "Lorg/millrace/engine/Footprint;" (.ref a3) := ((f_90.other W_95 (Or.inl ne_a1_a3)).other W_105 (Or.inl ne_a1_a3))
        have f_114 : Exa Z h_105 a3 "org/millrace/engine/Footprint" := (f_104.wr W_105)
        have f_115 : Fld Z h_105 a3 "org/millrace/engine/Footprint" "rows" "J" (.long (u1 + q2)) := (fw_95.other W_105 (Or.inr (slot_ne (Or.inl (hw _ (List.mem_of_getElem? (i := 20) rfl))) (Or.inl (hw _ (List.mem_of_getElem? (i := 24) rfl))) (by decide) (t := .long) (t' := .long) (by decide) (by decide))))
        have f_116 : Fld Z h_105 a3 "org/millrace/engine/Footprint" "aside" "J" (.long u3) := (f_98.other W_105 (Or.inr (slot_ne (Or.inl (hw _ (List.mem_of_getElem? (i := 22) rfl))) (Or.inl (hw _ (List.mem_of_getElem? (i := 24) rfl))) (by decide) (t := .long) (t' := .long) (by decide) (by decide))))
        · show Q4r Z a1 a3 q2 w1 w2 w3 u1 u2 u3 h0 n0 _ T_108.heap _
          rw [e_108]
          exact ⟨rfl, N_105, K_105, f_109, (by have q : (w1 + q2) = (own_ar q2 w1) := (by simp only [own_ar, if_neg hc3__41, if_neg hc41__51, if_pos hc41__103]); rw [← q]; exact f_110), (by have q : w2 = (own_ap q2 w1 w2 w3) := (by simp only [own_ap, if_neg hc3__41, if_neg hc41__51, if_pos hc41__103]); rw [← q]; exact f_111), f_112, f_113, f_114, (by have q : (u1 + q2) = (own_ar q2 u1) := (by simp only [own_ar, if_neg hc3__41, if_neg hc41__51, if_pos hc41__103]); rw [← q]; exact f_115), (by have q : ((u1 + q2) + u3) = (own_ap q2 u1 u2 u3) := (by simp only [own_ap, if_neg hc3__41, if_neg hc41__51, if_pos hc41__103]); rw [← q]; exact fw_105), f_116, f_107⟩
      · have f_117 : Fld Z h_95 a3 "org/millrace/engine/Footprint" "whole" "Lorg/millrace/engine/Footprint;" .null := ((F_a3_whole.other W_43 (Or.inl (Ne.symm ne_a1_a3))).other W_95 (Or.inr (slot_ne (Or.inr (hw _ (List.mem_of_getElem? (i := 13) rfl))) (Or.inl (hw _ (List.mem_of_getElem? (i := 20) rfl))) (by decide) (t := (.object "org/millrace/engine/Footprint")) (t' := .long) (by decide) (by decide))))
        obtain ⟨T_118, X_118, e_118, st_118⟩ := getF X_101 hx hZ hown (host := "") (Or.inl (hw _ (List.mem_of_getElem? (i := 12) rfl))) Via.refl e_101 f_117 (g := (mkF m 51 #[.val (.ref a1), .val (.long q2), .second, .val (.ref a3), .val (.long ((u1 + q2) + u3)), .second] [(.ref a3)])) rfl rfl (hb hby d4_51)
        obtain ⟨fs, hr, hrun, hended, hW, hsame⟩ := X_118.leave (v := none) (fun _ => rfl)
        refine ⟨_, _, pre_102 _ ?_, hrun, hended, _, _, rfl, ?_, ⟨_, rfl⟩, hW, hsame.mono (by decide) (by decide)⟩
        · show Steps p.tables e below (T_101.setTop (mkF m 41 #[.val (.ref a1), .val (.long q2), .second, .val (.ref a3), .val (.long ((u1 + q2) + u3)), .second] [(.int (lcmpW ((u1 + q2) + u3) u2))])) _
          refine XS.ifYes X_101.here hx rfl (pc0 := 41) (pc' := 50) rfl (hb hby d4_41) rfl ((if0 _ _).trans (flt (mt (lw_gt _ _).mp hc41__103)).2.2.2) (by decide) (by decide) ?_
          show Steps p.tables e below (T_101.setTop (mkF m 50 #[.val (.ref a1), .val (.long q2), .second, .val (.ref a3), .val (.long ((u1 + q2) + u3)), .second] [])) _
          refine XS.aloadN X_101.here hx rfl (hb hby d4_50) rfl rfl ?_
          show Steps p.tables e below (T_101.setTop (mkF m 51 #[.val (.ref a1), .val (.long q2), .second, .val (.ref a3), .val (.long ((u1 + q2) + u3)), .second] [(.ref a3)])) _
          refine st_118 _ ?_
          show Steps p.tables e below (T_118.setTop (mkF m 54 #[.val (.ref a1), .val (.long q2), .second, .val (.ref a3), .val (.long ((u1 + q2) + u3)), .second] [.null])) _
          refine XS.astoreN X_118.here hx rfl (hb hby d4_54) rfl rfl (l' := #[.val (.ref a1), .val (.long q2), .second, .val .null, .val (.long ((u1 + q2) + u3)), .second]) rfl ?_
          show Steps p.tables e below (T_118.setTop (mkF m 55 #[.val (.ref a1), .val (.long q2), .second, .val .null, .val (.long ((u1 + q2) + u3)), .second] [])) _
          refine XS.goto X_118.here hx rfl (pc0 := 55) (pc' := 9) rfl (hb hby d4_55) (by decide) (by decide) ?_
          show Steps p.tables e below (T_118.setTop (mkF m 9 #[.val (.ref a1), .val (.long q2), .second, .val .null, .val (.long ((u1 + q2) + u3)), .second] [])) _
          refine XS.aloadN X_118.here hx rfl (hb hby d4_9) rfl rfl ?_
          show Steps p.tables e below (T_118.setTop (mkF m 10 #[.val (.ref a1), .val (.long q2), .second, .val .null, .val (.long ((u1 + q2) + u3)), .second] [.null])) _
          refine XS.ifnullYes X_118.here hx rfl (pc0 := 10) (pc' := 58) rfl (hb hby d4_10) rfl (by decide) (by decide) ?_
          show Steps p.tables e below (T_118.setTop (mkF m 58 #[.val (.ref a1), .val (.long q2), .second, .val .null, .val (.long ((u1 + q2) + u3)), .second] [])) _
          exact X_118.returnOut hx Bd.returns (hb hby d4_58) hr
        have f_119 : Exa Z h_95 a1 "org/millrace/engine/Footprint" := ((E_a1.wr W_43).wr W_95)
        have f_120 : Fld Z h_95 a1 "org/millrace/engine/Footprint" "rows" "J" (.long (w1 + q2)) := (fw_43.other W_95 (Or.inl ne_a1_a3))
        have f_121 : Fld Z h_95 a1 "org/millrace/engine/Footprint" "peak" "J" (.long w2) := (f_48.other W_95 (Or.inl ne_a1_a3))
        have f_122 : Fld Z h_95 a1 "org/millrace/engine/Footprint" "aside" "J" (.long w3) := (f_46.other W_95 (Or.inl ne_a1_a3))
        have f_123 : Fld Z h_95 a1 "org/millrace/engine/Footprint" "whole" "Lorg/millrace/engine/Footprint;" (.ref a3) := (f_90.other W_95 (Or.inl ne_a1_a3))
        have f_124 : Exa Z h_95 a3 "org/millrace/engine/Footprint" := (f_94.wr W_95)
        · show Q4r Z a1 a3 q2 w1 w2 w3 u1 u2 u3 h0 n0 _ T_118.heap _
          rw [e_118]
          exact ⟨rfl, N_95, K_95, f_119, (by have q : (w1 + q2) = (own_ar q2 w1) := (by simp only [own_ar, if_neg hc3__41, if_neg hc41__51, if_neg hc41__103]); rw [← q]; exact f_120), (by have q : w2 = (own_ap q2 w1 w2 w3) := (by simp only [own_ap, if_neg hc3__41, if_neg hc41__51, if_neg hc41__103]); rw [← q]; exact f_121), f_122, f_123, f_124, (by have q : (u1 + q2) = (own_ar q2 u1) := (by simp only [own_ar, if_neg hc3__41, if_neg hc41__51, if_neg hc41__103]); rw [← q]; exact fw_95), (by have q : u2 = (own_ap q2 u1 u2 u3) := (by simp only [own_ap, if_neg hc3__41, if_neg hc41__51, if_neg hc41__103]); rw [← q]; exact f_100), f_98, f_117⟩
theorem d5_0 : decode prog_68_method_6_code 0 = .ok (.aload_n 0, 1) := by decide +kernel
theorem d5_1 : decode prog_68_method_6_code 1 = .ok (.astore_n 3, 1) := by decide +kernel
theorem d5_2 : decode prog_68_method_6_code 2 = .ok (.aload_n 3, 1) := by decide +kernel
theorem d5_3 : decode prog_68_method_6_code 3 = .ok (.ifnull 31, 3) := by decide +kernel
theorem d5_6 : decode prog_68_method_6_code 6 = .ok (.aload_n 3, 1) := by decide +kernel
theorem d5_7 : decode prog_68_method_6_code 7 = .ok (.dup, 1) := by decide +kernel
theorem d5_8 : decode prog_68_method_6_code 8 = .ok (.getfield 16, 3) := by decide +kernel
theorem d5_11 : decode prog_68_method_6_code 11 = .ok (.lload_n 1, 1) := by decide +kernel
theorem d5_12 : decode prog_68_method_6_code 12 = .ok (.lsub, 1) := by decide +kernel
theorem d5_13 : decode prog_68_method_6_code 13 = .ok (.putfield 16, 3) := by decide +kernel
theorem d5_16 : decode prog_68_method_6_code 16 = .ok (.aload_n 3, 1) := by decide +kernel
theorem d5_17 : decode prog_68_method_6_code 17 = .ok (.dup, 1) := by decide +kernel
theorem d5_18 : decode prog_68_method_6_code 18 = .ok (.getfield 23, 3) := by decide +kernel
theorem d5_21 : decode prog_68_method_6_code 21 = .ok (.lload_n 1, 1) := by decide +kernel
theorem d5_22 : decode prog_68_method_6_code 22 = .ok (.ladd, 1) := by decide +kernel
theorem d5_23 : decode prog_68_method_6_code 23 = .ok (.putfield 23, 3) := by decide +kernel
theorem d5_26 : decode prog_68_method_6_code 26 = .ok (.aload_n 3, 1) := by decide +kernel
theorem d5_27 : decode prog_68_method_6_code 27 = .ok (.getfield 12, 3) := by decide +kernel
theorem d5_30 : decode prog_68_method_6_code 30 = .ok (.astore_n 3, 1) := by decide +kernel
theorem d5_31 : decode prog_68_method_6_code 31 = .ok (.goto (-29), 3) := by decide +kernel
theorem d5_34 : decode prog_68_method_6_code 34 = .ok (.return_, 1) := by decide +kernel
theorem ef_5n (m : MethodId) (x0 : Addr) (x1 : Int64) : entryFrame m #[(.ref x0), (.long x1)] 4 = mkF m 0 #[.val (.ref x0), .val (.long x1), .second, .unset] [] := by first | (simp [entryFrame, mkF, argsToLocals, Value.category]; done) | rfl
def Q5n (Z : State) (a1 : Addr) (q2 : Int64) (w1 : Int64) (w2 : Int64) (w3 : Int64) (h0 : Heap) (n0 : Nat) (v : Option Value) (h : Heap) (L : List Loc) : Prop := v = none ∧ Fr n0 L ∧ Keep h0 h [a1] ∧ Exa Z h a1 "org/millrace/engine/Footprint" ∧ Fld Z h a1 "org/millrace/engine/Footprint" "rows" "J" (.long (w1 - q2)) ∧ Fld Z h a1 "org/millrace/engine/Footprint" "peak" "J" (.long w2) ∧ Fld Z h a1 "org/millrace/engine/Footprint" "aside" "J" (.long (w3 + q2)) ∧ Fld Z h a1 "org/millrace/engine/Footprint" "whole" "Lorg/millrace/engine/Footprint;" .null
set_option maxRecDepth 65536 in
set_option maxHeartbeats 40000000 in
theorem rm5n (l : Launch) (Z : State) (a0 : Array Value) (hw : ∀ d ∈ tables_1, d.before a0 Z = true) (ws : List Jvm.Cond) (a1 : Addr) (q2 : Int64) (w1 : Int64) (w2 : Int64) (w3 : Int64) (h0 : Heap) (n0 : Nat) (Z0 : n0 ≤ h0.size) (E_a1 : Exa Z h0 a1 "org/millrace/engine/Footprint") (F_a1_rows : Fld Z h0 a1 "org/millrace/engine/Footprint" "rows" "J" (.long w1)) (F_a1_peak : Fld Z h0 a1 "org/millrace/engine/Footprint" "peak" "J" (.long w2)) (F_a1_aside : Fld Z h0 a1 "org/millrace/engine/Footprint" "aside" "J" (.long w3)) (F_a1_whole : Fld Z h0 a1 "org/millrace/engine/Footprint" "whole" "Lorg/millrace/engine/Footprint;" .null) (g_a1 : n0 ≤ a1) :
    MetFree l (⟨"org/millrace/engine/Footprint", "setAside", "(J)V"⟩ : MethodName) (head1 (Jvm.Cond.code (⟨"org/millrace/engine/Footprint", "setAside", "(J)V"⟩ : MethodName) prog_68_method_6_code 4 none :: ws) ({ frames := 0, cells := 0, slots := 0, locals := 0 } : Room)) (fun a U => a = #[(.ref a1), (.long q2)] ∧ Z.Warmed39 U.vm ∧ U.heap = h0) (fun _ _ _ _ _ => True) (fun _ U o U' => ∃ v L, o = .returned v ∧ Q5n Z a1 q2 w1 w2 w3 h0 n0 v U'.heap L ∧ FrameEnd U o U' L ({ frames := 0, cells := 0, slots := 0, locals := 0 } : Room).cells ({ frames := 0, cells := 0, slots := 0, locals := 0 } : Room).slots) := by
  refine MetFree.of_bodySF (plainFor_of_name pn_2) hisR ?_
  intro p e s m args below meth c s₁ Bd hml0 hP hK
  obtain ⟨rfl, hZ, hh⟩ := hP
  have hx := Bd.exec
  have hby := Bd.bytes
  have hml : c.maxLocals = 4 := hml0
  have hown : s.vm.findClass "org/millrace/engine/Footprint" = some m.cls := findClass_of_methodNamed Bd.named
  have hnm := (name_of_methodNamed Bd.named Bd.method).1
  have X0 : Stand p l e ({ frames := 0, cells := 0, slots := 0, locals := 0 } : Room) s m #[(.ref a1), (.long q2)] below meth c s₁ [] 0 0 := Stand.of_body Bd
  have e0 : s₁.heap = h0 := by rw [← hh, Bd.state]; rfl
  have N0 := Fr.nil n0
  have pre0 : ∀ t, Steps p.tables e below (s₁.setTop (mkF m 0 #[.val (.ref a1), .val (.long q2), .second, .unset] [])) t → Steps p.tables e below (s₁.setTop (entryFrame m #[(.ref a1), (.long q2)] 4)) t := fun t k => castTop (ef_5n m a1 q2) k
  obtain ⟨T_125, X_125, e_125, st_125⟩ := getF X0 hx hZ hown (host := "") (Or.inl (hw _ (List.mem_of_getElem? (i := 19) rfl))) Via.refl e0 F_a1_rows (g := (mkF m 8 #[.val (.ref a1), .val (.long q2), .second, .val (.ref a1)] [(.ref a1), (.ref a1)])) rfl rfl (hb hby d5_8)
  obtain ⟨T_126, h_126, X_126, e_126, W_126, st_126⟩ := putF X_125 hx hZ hown (host := "") (Or.inl (hw _ (List.mem_of_getElem? (i := 19) rfl))) Via.refl e_125 F_a1_rows E_a1 (Or.inl (hw _ (List.mem_of_getElem? (i := 20) rfl))) (hw _ (List.mem_of_getElem? (i := 1) rfl)) (ty := .long) (by decide) rfl rfl (g := (mkF m 13 #[.val (.ref a1), .val (.long q2), .second, .val (.ref a1)] [(.long (w1 - q2)), (.ref a1)])) rfl rfl (hb hby d5_13)
  have z_127 : n0 ≤ h_126.size := Nat.le_trans Z0 (Keep.of_wr W_126).1
  have fw_126 : Fld Z h_126 a1 "org/millrace/engine/Footprint" "rows" "J" (.long (w1 - q2)) := F_a1_rows.same W_126
  have N_126 := Fr.snoc X_126 N0 g_a1
  have K_126 : Keep h0 h_126 [a1] := (Keep.refl h0 [a1]).wr W_126 (Or.inl (List.mem_of_getElem? (i := 0) rfl))
  have f_128 : Fld Z h_126 a1 "org/millrace/engine/Footprint" "aside" "J" (.long w3) := (F_a1_aside.other W_126 (Or.inr (slot_ne (Or.inl (hw _ (List.mem_of_getElem? (i := 22) rfl))) (Or.inl (hw _ (List.mem_of_getElem? (i := 20) rfl))) (by decide) (t := .long) (t' := .long) (by decide) (by decide))))
  obtain ⟨T_129, X_129, e_129, st_129⟩ := getF X_126 hx hZ hown (host := "") (Or.inl (hw _ (List.mem_of_getElem? (i := 21) rfl))) Via.refl e_126 f_128 (g := (mkF m 18 #[.val (.ref a1), .val (.long q2), .second, .val (.ref a1)] [(.ref a1), (.ref a1)])) rfl rfl (hb hby d5_18)
  have f_130 : Exa Z h_126 a1 "org/millrace/engine/Footprint" := (E_a1.wr W_126)
  obtain ⟨T_131, h_131, X_131, e_131, W_131, st_131⟩ := putF X_129 hx hZ hown (host := "") (Or.inl (hw _ (List.mem_of_getElem? (i := 21) rfl))) Via.refl e_129 f_128 f_130 (Or.inl (hw _ (List.mem_of_getElem? (i := 22) rfl))) (hw _ (List.mem_of_getElem? (i := 1) rfl)) (ty := .long) (by decide) rfl rfl (g := (mkF m 23 #[.val (.ref a1), .val (.long q2), .second, .val (.ref a1)] [(.long (w3 + q2)), (.ref a1)])) rfl rfl (hb hby d5_23)
  have z_132 : n0 ≤ h_131.size := Nat.le_trans z_127 (Keep.of_wr W_131).1
  have fw_131 : Fld Z h_131 a1 "org/millrace/engine/Footprint" "aside" "J" (.long (w3 + q2)) := f_128.same W_131
  have N_131 := Fr.snoc X_131 N_126 g_a1
  have K_131 : Keep h0 h_131 [a1] := K_126.wr W_131 (Or.inl (List.mem_of_getElem? (i := 0) rfl))
  have f_133 : Fld Z h_131 a1 "org/millrace/engine/Footprint" "whole" "Lorg/millrace/engine/Footprint;" .null := ((F_a1_whole.other W_126 (Or.inr (slot_ne (Or.inr (hw _ (List.mem_of_getElem? (i := 13) rfl))) (Or.inl (hw _ (List.mem_of_getElem? (i := 20) rfl))) (by decide) (t := (.object "org/millrace/engine/Footprint")) (t' := .long) (by decide) (by decide)))).other W_131 (Or.inr (slot_ne (Or.inr (hw _ (List.mem_of_getElem? (i := 13) rfl))) (Or.inl (hw _ (List.mem_of_getElem? (i := 22) rfl))) (by decide) (t := (.object "org/millrace/engine/Footprint")) (t' := .long) (by decide) (by decide))))
  obtain ⟨T_134, X_134, e_134, st_134⟩ := getF X_131 hx hZ hown (host := "") (Or.inl (hw _ (List.mem_of_getElem? (i := 12) rfl))) Via.refl e_131 f_133 (g := (mkF m 27 #[.val (.ref a1), .val (.long q2), .second, .val (.ref a1)] [(.ref a1)])) rfl rfl (hb hby d5_27)
  obtain ⟨fs, hr, hrun, hended, hW, hsame⟩ := X_134.leave (v := none) (fun _ => rfl)
  refine ⟨_, _, pre0 _ ?_, hrun, hended, _, _, rfl, ?_, ⟨_, rfl⟩, hW, hsame.mono (by decide) (by decide)⟩
  · show Steps p.tables e below (s₁.setTop (mkF m 0 #[.val (.ref a1), .val (.long q2), .second, .unset] [])) _
    refine XS.aloadN X0.here hx rfl (hb hby d5_0) rfl rfl ?_
    show Steps p.tables e below (s₁.setTop (mkF m 1 #[.val (.ref a1), .val (.long q2), .second, .unset] [(.ref a1)])) _
    refine XS.astoreN X0.here hx rfl (hb hby d5_1) rfl rfl (l' := #[.val (.ref a1), .val (.long q2), .second, .val (.ref a1)]) rfl ?_
    show Steps p.tables e below (s₁.setTop (mkF m 2 #[.val (.ref a1), .val (.long q2), .second, .val (.ref a1)] [])) _
    refine XS.aloadN X0.here hx rfl (hb hby d5_2) rfl rfl ?_
    show Steps p.tables e below (s₁.setTop (mkF m 3 #[.val (.ref a1), .val (.long q2), .second, .val (.ref a1)] [(.ref a1)])) _
    refine XS.ifnullNo X0.here hx rfl (hb hby d5_3) rfl ?_
    show Steps p.tables e below (s₁.setTop (mkF m 6 #[.val (.ref a1), .val (.long q2), .second, .val (.ref a1)] [])) _
    refine XS.aloadN X0.here hx rfl (hb hby d5_6) rfl rfl ?_
    show Steps p.tables e below (s₁.setTop (mkF m 7 #[.val (.ref a1), .val (.long q2), .second, .val (.ref a1)] [(.ref a1)])) _
    refine XS.dup X0.here hx rfl (hb hby d5_7) rfl rfl ?_
    show Steps p.tables e below (s₁.setTop (mkF m 8 #[.val (.ref a1), .val (.long q2), .second, .val (.ref a1)] [(.ref a1), (.ref a1)])) _
    refine st_125 _ ?_
    show Steps p.tables e below (T_125.setTop (mkF m 11 #[.val (.ref a1), .val (.long q2), .second, .val (.ref a1)] [(.long w1), (.ref a1)])) _
    refine XS.lloadN X_125.here hx rfl (hb hby d5_11) rfl ?_
    show Steps p.tables e below (T_125.setTop (mkF m 12 #[.val (.ref a1), .val (.long q2), .second, .val (.ref a1)] [(.long q2), (.long w1), (.ref a1)])) _
    refine XS.lsub X_125.here hx rfl (hb hby d5_12) rfl ?_
    show Steps p.tables e below (T_125.setTop (mkF m 13 #[.val (.ref a1), .val (.long q2), .second, .val (.ref a1)] [(.long (w1 - q2)), (.ref a1)])) _
    refine st_126 _ ?_
    show Steps p.tables e below (T_126.setTop (mkF m 16 #[.val (.ref a1), .val (.long q2), .second, .val (.ref a1)] [])) _
    refine XS.aloadN X_126.here hx rfl (hb hby d5_16) rfl rfl ?_
    show Steps p.tables e below (T_126.setTop (mkF m 17 #[.val (.ref a1), .val (.long q2), .second, .val (.ref a1)] [(.ref a1)])) _
    refine XS.dup X_126.here hx rfl (hb hby d5_17) rfl rfl ?_
    show Steps p.tables e below (T_126.setTop (mkF m 18 #[.val (.ref a1), .val (.long q2), .second, .val (.ref a1)] [(.ref a1), (.ref a1)])) _
    refine st_129 _ ?_
    show Steps p.tables e below (T_129.setTop (mkF m 21 #[.val (.ref a1), .val (.long q2), .second, .val (.ref a1)] [(.long w3), (.ref a1)])) _
    refine XS.lloadN X_129.here hx rfl (hb hby d5_21) rfl ?_
    show Steps p.tables e below (T_129.setTop (mkF m 22 #[.val (.ref a1), .val (.long q2), .second, .val (.ref a1)] [(.long q2), (.long w3), (.ref a1)])) _
    refine XS.ladd X_129.here hx rfl (hb hby d5_22) rfl ?_
    show Steps p.tables e below (T_129.setTop (mkF m 23 #[.val (.ref a1), .val (.long q2), .second, .val (.ref a1)] [(.long (w3 + q2)), (.ref a1)])) _
    refine st_131 _ ?_
    show Steps p.tables e below (T_131.setTop (mkF m 26 #[.val (.ref a1), .val (.long q2), .second, .val (.ref a1)] [])) _
    refine XS.aloadN X_131.here hx rfl (hb hby d5_26) rfl rfl ?_
    show Steps p.tables e below (T_131.setTop (mkF m 27 #[.val (.ref a1), .val (.long q2), .second, .val (.ref a1)] [(.ref a1)])) _
    refine st_134 _ ?_
    show Steps p.tables e below (T_134.setTop (mkF m 30 #[.val (.ref a1), .val (.long q2), .second, .val (.ref a1)] [.null])) _
    refine XS.astoreN X_134.here hx rfl (hb hby d5_30) rfl rfl (l' := #[.val (.ref a1), .val (.long q2), .second, .val .null]) rfl ?_
    show Steps p.tables e below (T_134.setTop (mkF m 31 #[.val (.ref a1), .val (.long q2), .second, .val .null] [])) _
    refine XS.goto X_134.here hx rfl (pc0 := 31) (pc' := 2) rfl (hb hby d5_31) (by decide) (by decide) ?_
    show Steps p.tables e below (T_134.setTop (mkF m 2 #[.val (.ref a1), .val (.long q2), .second, .val .null] [])) _
    refine XS.aloadN X_134.here hx rfl (hb hby d5_2) rfl rfl ?_
    show Steps p.tables e below (T_134.setTop (mkF m 3 #[.val (.ref a1), .val (.long q2), .second, .val .null] [.null])) _
    refine XS.ifnullYes X_134.here hx rfl (pc0 := 3) (pc' := 34) rfl (hb hby d5_3) rfl (by decide) (by decide) ?_
    show Steps p.tables e below (T_134.setTop (mkF m 34 #[.val (.ref a1), .val (.long q2), .second, .val .null] [])) _
    exact X_134.returnOut hx Bd.returns (hb hby d5_34) hr
  have f_135 : Exa Z h_131 a1 "org/millrace/engine/Footprint" := (f_130.wr W_131)
  have f_136 : Fld Z h_131 a1 "org/millrace/engine/Footprint" "rows" "J" (.long (w1 - q2)) := (fw_126.other W_131 (Or.inr (slot_ne (Or.inl (hw _ (List.mem_of_getElem? (i := 20) rfl))) (Or.inl (hw _ (List.mem_of_getElem? (i := 22) rfl))) (by decide) (t := .long) (t' := .long) (by decide) (by decide))))
  have f_137 : Fld Z h_131 a1 "org/millrace/engine/Footprint" "peak" "J" (.long w2) := ((F_a1_peak.other W_126 (Or.inr (slot_ne (Or.inl (hw _ (List.mem_of_getElem? (i := 24) rfl))) (Or.inl (hw _ (List.mem_of_getElem? (i := 20) rfl))) (by decide) (t := .long) (t' := .long) (by decide) (by decide)))).other W_131 (Or.inr (slot_ne (Or.inl (hw _ (List.mem_of_getElem? (i := 24) rfl))) (Or.inl (hw _ (List.mem_of_getElem? (i := 22) rfl))) (by decide) (t := .long) (t' := .long) (by decide) (by decide))))
  · show Q5n Z a1 q2 w1 w2 w3 h0 n0 _ T_134.heap _
    rw [e_134]
    exact ⟨rfl, N_131, K_131, f_135, f_136, f_137, fw_131, f_133⟩
theorem ef_5r (m : MethodId) (x0 : Addr) (x1 : Int64) : entryFrame m #[(.ref x0), (.long x1)] 4 = mkF m 0 #[.val (.ref x0), .val (.long x1), .second, .unset] [] := by first | (simp [entryFrame, mkF, argsToLocals, Value.category]; done) | rfl
def Q5r (Z : State) (a1 : Addr) (a3 : Addr) (q2 : Int64) (w1 : Int64) (w2 : Int64) (w3 : Int64) (u1 : Int64) (u2 : Int64) (u3 : Int64) (h0 : Heap) (n0 : Nat) (v : Option Value) (h : Heap) (L : List Loc) : Prop := v = none ∧ Fr n0 L ∧ Keep h0 h [a1, a3] ∧ Exa Z h a1 "org/millrace/engine/Footprint" ∧ Fld Z h a1 "org/millrace/engine/Footprint" "rows" "J" (.long (w1 - q2)) ∧ Fld Z h a1 "org/millrace/engine/Footprint" "peak" "J" (.long w2) ∧ Fld Z h a1 "org/millrace/engine/Footprint" "aside" "J" (.long (w3 + q2)) ∧ Fld Z h a1 "org/millrace/engine/Footprint" "whole" "Lorg/millrace/engine/Footprint;" (.ref a3) ∧ Exa Z h a3 "org/millrace/engine/Footprint" ∧ Fld Z h a3 "org/millrace/engine/Footprint" "rows" "J" (.long (u1 - q2)) ∧ Fld Z h a3 "org/millrace/engine/Footprint" "peak" "J" (.long u2) ∧ Fld Z h a3 "org/millrace/engine/Footprint" "aside" "J" (.long (u3 + q2)) ∧ Fld Z h a3 "org/millrace/engine/Footprint" "whole" "Lorg/millrace/engine/Footprint;" .null
set_option maxRecDepth 65536 in
set_option maxHeartbeats 40000000 in
theorem rm5r (l : Launch) (Z : State) (a0 : Array Value) (hw : ∀ d ∈ tables_1, d.before a0 Z = true) (ws : List Jvm.Cond) (a1 : Addr) (a3 : Addr) (q2 : Int64) (w1 : Int64) (w2 : Int64) (w3 : Int64) (u1 : Int64) (u2 : Int64) (u3 : Int64) (h0 : Heap) (n0 : Nat) (Z0 : n0 ≤ h0.size) (E_a1 : Exa Z h0 a1 "org/millrace/engine/Footprint") (F_a1_rows : Fld Z h0 a1 "org/millrace/engine/Footprint" "rows" "J" (.long w1)) (F_a1_peak : Fld Z h0 a1 "org/millrace/engine/Footprint" "peak" "J" (.long w2)) (F_a1_aside : Fld Z h0 a1 "org/millrace/engine/Footprint" "aside" "J" (.long w3)) (F_a1_whole : Fld Z h0 a1 "org/millrace/engine/Footprint" "whole" "Lorg/millrace/engine/Footprint;" (.ref a3)) (E_a3 : Exa Z h0 a3 "org/millrace/engine/Footprint") (F_a3_rows : Fld Z h0 a3 "org/millrace/engine/Footprint" "rows" "J" (.long u1)) (F_a3_peak : Fld Z h0 a3 "org/millrace/engine/Footprint" "peak" "J" (.long u2)) (F_a3_aside : Fld Z h0 a3 "org/millrace/engine/Footprint" "aside" "J" (.long u3)) (F_a3_whole : Fld Z h0 a3 "org/millrace/engine/Footprint" "whole" "Lorg/millrace/engine/Footprint;" .null) (g_a1 : n0 ≤ a1) (g_a3 : n0 ≤ a3) (ne_a1_a3 : a1 ≠ a3) :
    MetFree l (⟨"org/millrace/engine/Footprint", "setAside", "(J)V"⟩ : MethodName) (head1 (Jvm.Cond.code (⟨"org/millrace/engine/Footprint", "setAside", "(J)V"⟩ : MethodName) prog_68_method_6_code 4 none :: ws) ({ frames := 0, cells := 0, slots := 0, locals := 0 } : Room)) (fun a U => a = #[(.ref a1), (.long q2)] ∧ Z.Warmed39 U.vm ∧ U.heap = h0) (fun _ _ _ _ _ => True) (fun _ U o U' => ∃ v L, o = .returned v ∧ Q5r Z a1 a3 q2 w1 w2 w3 u1 u2 u3 h0 n0 v U'.heap L ∧ FrameEnd U o U' L ({ frames := 0, cells := 0, slots := 0, locals := 0 } : Room).cells ({ frames := 0, cells := 0, slots := 0, locals := 0 } : Room).slots) := by
  refine MetFree.of_bodySF (plainFor_of_name pn_2) hisR ?_
  intro p e s m args below meth c s₁ Bd hml0 hP hK
  obtain ⟨rfl, hZ, hh⟩ := hP
  have hx := Bd.exec
  have hby := Bd.bytes
  have hml : c.maxLocals = 4 := hml0
  have hown : s.vm.findClass "org/millrace/engine/Footprint" = some m.cls := findClass_of_methodNamed Bd.named
  have hnm := (name_of_methodNamed Bd.named Bd.method).1
  have X0 : Stand p l e ({ frames := 0, cells := 0, slots := 0, locals := 0 } : Room) s m #[(.ref a1), (.long q2)] below meth c s₁ [] 0 0 := Stand.of_body Bd
  have e0 : s₁.heap = h0 := by rw [← hh, Bd.state]; rfl
  have N0 := Fr.nil n0
  have pre0 : ∀ t, Steps p.tables e below (s₁.setTop (mkF m 0 #[.val (.ref a1), .val (.long q2), .second, .unset] [])) t → Steps p.tables e below (s₁.setTop (entryFrame m #[(.ref a1), (.long q2)] 4)) t := fun t k => castTop (ef_5r m a1 q2) k
  obtain ⟨T_138, X_138, e_138, st_138⟩ := getF X0 hx hZ hown (host := "") (Or.inl (hw _ (List.mem_of_getElem? (i := 19) rfl))) Via.refl e0 F_a1_rows (g := (mkF m 8 #[.val (.ref a1), .val (.long q2), .second, .val (.ref a1)] [(.ref a1), (.ref a1)])) rfl rfl (hb hby d5_8)
  obtain ⟨T_139, h_139, X_139, e_139, W_139, st_139⟩ := putF X_138 hx hZ hown (host := "") (Or.inl (hw _ (List.mem_of_getElem? (i := 19) rfl))) Via.refl e_138 F_a1_rows E_a1 (Or.inl (hw _ (List.mem_of_getElem? (i := 20) rfl))) (hw _ (List.mem_of_getElem? (i := 1) rfl)) (ty := .long) (by decide) rfl rfl (g := (mkF m 13 #[.val (.ref a1), .val (.long q2), .second, .val (.ref a1)] [(.long (w1 - q2)), (.ref a1)])) rfl rfl (hb hby d5_13)
  have z_140 : n0 ≤ h_139.size := Nat.le_trans Z0 (Keep.of_wr W_139).1
  have fw_139 : Fld Z h_139 a1 "org/millrace/engine/Footprint" "rows" "J" (.long (w1 - q2)) := F_a1_rows.same W_139
  have N_139 := Fr.snoc X_139 N0 g_a1
  have K_139 : Keep h0 h_139 [a1, a3] := (Keep.refl h0 [a1, a3]).wr W_139 (Or.inl (List.mem_of_getElem? (i := 0) rfl))
  have f_141 : Fld Z h_139 a1 "org/millrace/engine/Footprint" "aside" "J" (.long w3) := (F_a1_aside.other W_139 (Or.inr (slot_ne (Or.inl (hw _ (List.mem_of_getElem? (i := 22) rfl))) (Or.inl (hw _ (List.mem_of_getElem? (i := 20) rfl))) (by decide) (t := .long) (t' := .long) (by decide) (by decide))))
  obtain ⟨T_142, X_142, e_142, st_142⟩ := getF X_139 hx hZ hown (host := "") (Or.inl (hw _ (List.mem_of_getElem? (i := 21) rfl))) Via.refl e_139 f_141 (g := (mkF m 18 #[.val (.ref a1), .val (.long q2), .second, .val (.ref a1)] [(.ref a1), (.ref a1)])) rfl rfl (hb hby d5_18)
  have f_143 : Exa Z h_139 a1 "org/millrace/engine/Footprint" := (E_a1.wr W_139)
  obtain ⟨T_144, h_144, X_144, e_144, W_144, st_144⟩ := putF X_142 hx hZ hown (host := "") (Or.inl (hw _ (List.mem_of_getElem? (i := 21) rfl))) Via.refl e_142 f_141 f_143 (Or.inl (hw _ (List.mem_of_getElem? (i := 22) rfl))) (hw _ (List.mem_of_getElem? (i := 1) rfl)) (ty := .long) (by decide) rfl rfl (g := (mkF m 23 #[.val (.ref a1), .val (.long q2), .second, .val (.ref a1)] [(.long (w3 + q2)), (.ref a1)])) rfl rfl (hb hby d5_23)
  have z_145 : n0 ≤ h_144.size := Nat.le_trans z_140 (Keep.of_wr W_144).1
  have fw_144 : Fld Z h_144 a1 "org/millrace/engine/Footprint" "aside" "J" (.long (w3 + q2)) := f_141.same W_144
  have N_144 := Fr.snoc X_144 N_139 g_a1
  have K_144 : Keep h0 h_144 [a1, a3] := K_139.wr W_144 (Or.inl (List.mem_of_getElem? (i := 0) rfl))
  have f_146 : Fld Z h_144 a1 "org/millrace/engine/Footprint" "whole" "Lorg/millrace/engine/Footprint;" (.ref a3) := ((F_a1_whole.other W_139 (Or.inr (slot_ne (Or.inr (hw _ (List.mem_of_getElem? (i := 13) rfl))) (Or.inl (hw _ (List.mem_of_getElem? (i := 20) rfl))) (by decide) (t := (.object "org/millrace/engine/Footprint")) (t' := .long) (by decide) (by decide)))).other W_144 (Or.inr (slot_ne (Or.inr (hw _ (List.mem_of_getElem? (i := 13) rfl))) (Or.inl (hw _ (List.mem_of_getElem? (i := 22) rfl))) (by decide) (t := (.object "org/millrace/engine/Footprint")) (t' := .long) (by decide) (by decide))))
  obtain ⟨T_147, X_147, e_147, st_147⟩ := getF X_144 hx hZ hown (host := "") (Or.inl (hw _ (List.mem_of_getElem? (i := 12) rfl))) Via.refl e_144 f_146 (g := (mkF m 27 #[.val (.ref a1), .val (.long q2), .second, .val (.ref a1)] [(.ref a1)])) rfl rfl (hb hby d5_27)
  have f_148 : Fld Z h_144 a3 "org/millrace/engine/Footprint" "rows" "J" (.long u1) := ((F_a3_rows.other W_139 (Or.inl (Ne.symm ne_a1_a3))).other W_144 (Or.inl (Ne.symm ne_a1_a3)))
  obtain ⟨T_149, X_149, e_149, st_149⟩ := getF X_147 hx hZ hown (host := "") (Or.inl (hw _ (List.mem_of_getElem? (i := 19) rfl))) Via.refl e_147 f_148 (g := (mkF m 8 #[.val (.ref a1), .val (.long q2), .second, .val (.ref a3)] [(.ref a3), (.ref a3)])) rfl rfl (hb hby d5_8)
  have f_150 : Exa Z h_144 a3 "org/millrace/engine/Footprint" := ((E_a3.wr W_139).wr W_144)
  obtain ⟨T_151, h_151, X_151, e_151, W_151, st_151⟩ := putF X_149 hx hZ hown (host := "") (Or.inl (hw _ (List.mem_of_getElem? (i := 19) rfl))) Via.refl e_149 f_148 f_150 (Or.inl (hw _ (List.mem_of_getElem? (i := 20) rfl))) (hw _ (List.mem_of_getElem? (i := 1) rfl)) (ty := .long) (by decide) rfl rfl (g := (mkF m 13 #[.val (.ref a1), .val (.long q2), .second, .val (.ref a3)] [(.long (u1 - q2)), (.ref a3)])) rfl rfl (hb hby d5_13)
  have z_152 : n0 ≤ h_151.size := Nat.le_trans z_145 (Keep.of_wr W_151).1
  have fw_151 : Fld Z h_151 a3 "org/millrace/engine/Footprint" "rows" "J" (.long (u1 - q2)) := f_148.same W_151
  have N_151 := Fr.snoc X_151 N_144 g_a3
  have K_151 : Keep h0 h_151 [a1, a3] := K_144.wr W_151 (Or.inl (List.mem_of_getElem? (i := 1) rfl))
  have f_153 : Fld Z h_151 a3 "org/millrace/engine/Footprint" "aside" "J" (.long u3) := (((F_a3_aside.other W_139 (Or.inl (Ne.symm ne_a1_a3))).other W_144 (Or.inl (Ne.symm ne_a1_a3))).other W_151 (Or.inr (slot_ne (Or.inl (hw _ (List.mem_of_getElem? (i := 22) rfl))) (Or.inl (hw _ (List.mem_of_getElem? (i := 20) rfl))) (by decide) (t := .long) (t' := .long) (by decide) (by decide))))
  obtain ⟨T_154, X_154, e_154, st_154⟩ := getF X_151 hx hZ hown (host := "") (Or.inl (hw _ (List.mem_of_getElem? (i := 21) rfl))) Via.refl e_151 f_153 (g := (mkF m 18 #[.val (.ref a1), .val (.long q2), .second, .val (.ref a3)] [(.ref a3), (.ref a3)])) rfl rfl (hb hby d5_18)
  have f_155 : Exa Z h_151 a3 "org/millrace/engine/Footprint" := (f_150.wr W_151)
  obtain ⟨T_156, h_156, X_156, e_156, W_156, st_156⟩ := putF X_154 hx hZ hown (host := "") (Or.inl (hw _ (List.mem_of_getElem? (i := 21) rfl))) Via.refl e_154 f_153 f_155 (Or.inl (hw _ (List.mem_of_getElem? (i := 22) rfl))) (hw _ (List.mem_of_getElem? (i := 1) rfl)) (ty := .long) (by decide) rfl rfl (g := (mkF m 23 #[.val (.ref a1), .val (.long q2), .second, .val (.ref a3)] [(.long (u3 + q2)), (.ref a3)])) rfl rfl (hb hby d5_23)
  have z_157 : n0 ≤ h_156.size := Nat.le_trans z_152 (Keep.of_wr W_156).1
  have fw_156 : Fld Z h_156 a3 "org/millrace/engine/Footprint" "aside" "J" (.long (u3 + q2)) := f_153.same W_156
  have N_156 := Fr.snoc X_156 N_151 g_a3
  have K_156 : Keep h0 h_156 [a1, a3] := K_151.wr W_156 (Or.inl (List.mem_of_getElem? (i := 1) rfl))
  have f_158 : Fld Z h_156 a3 "org/millrace/engine/Footprint" "whole" "Lorg/millrace/engine/Footprint;" .null := ((((F_a3_whole.other W_139 (Or.inl (Ne.symm ne_a1_a3))).other W_144 (Or.inl (Ne.symm ne_a1_a3))).other W_151 (Or.inr (slot_ne (Or.inr (hw _ (List.mem_of_getElem? (i := 13) rfl))) (Or.inl (hw _ (List.mem_of_getElem? (i := 20) rfl))) (by decide) (t := (.object "org/millrace/engine/Footprint")) (t' := .long) (by decide) (by decide)))).other W_156 (Or.inr (slot_ne (Or.inr (hw _ (List.mem_of_getElem? (i := 13) rfl))) (Or.inl (hw _ (List.mem_of_getElem? (i := 22) rfl))) (by decide) (t := (.object "org/millrace/engine/Footprint")) (t' := .long) (by decide) (by decide))))
  obtain ⟨T_159, X_159, e_159, st_159⟩ := getF X_156 hx hZ hown (host := "") (Or.inl (hw _ (List.mem_of_getElem? (i := 12) rfl))) Via.refl e_156 f_158 (g := (mkF m 27 #[.val (.ref a1), .val (.long q2), .second, .val (.ref a3)] [(.ref a3)])) rfl rfl (hb hby d5_27)
  obtain ⟨fs, hr, hrun, hended, hW, hsame⟩ := X_159.leave (v := none) (fun _ => rfl)
  refine ⟨_, _, pre0 _ ?_, hrun, hended, _, _, rfl, ?_, ⟨_, rfl⟩, hW, hsame.mono (by decide) (by decide)⟩
  · show Steps p.tables e below (s₁.setTop (mkF m 0 #[.val (.ref a1), .val (.long q2), .second, .unset] [])) _
    refine XS.aloadN X0.here hx rfl (hb hby d5_0) rfl rfl ?_
    show Steps p.tables e below (s₁.setTop (mkF m 1 #[.val (.ref a1), .val (.long q2), .second, .unset] [(.ref a1)])) _
    refine XS.astoreN X0.here hx rfl (hb hby d5_1) rfl rfl (l' := #[.val (.ref a1), .val (.long q2), .second, .val (.ref a1)]) rfl ?_
    show Steps p.tables e below (s₁.setTop (mkF m 2 #[.val (.ref a1), .val (.long q2), .second, .val (.ref a1)] [])) _
    refine XS.aloadN X0.here hx rfl (hb hby d5_2) rfl rfl ?_
    show Steps p.tables e below (s₁.setTop (mkF m 3 #[.val (.ref a1), .val (.long q2), .second, .val (.ref a1)] [(.ref a1)])) _
    refine XS.ifnullNo X0.here hx rfl (hb hby d5_3) rfl ?_
    show Steps p.tables e below (s₁.setTop (mkF m 6 #[.val (.ref a1), .val (.long q2), .second, .val (.ref a1)] [])) _
    refine XS.aloadN X0.here hx rfl (hb hby d5_6) rfl rfl ?_
    show Steps p.tables e below (s₁.setTop (mkF m 7 #[.val (.ref a1), .val (.long q2), .second, .val (.ref a1)] [(.ref a1)])) _
    refine XS.dup X0.here hx rfl (hb hby d5_7) rfl rfl ?_
    show Steps p.tables e below (s₁.setTop (mkF m 8 #[.val (.ref a1), .val (.long q2), .second, .val (.ref a1)] [(.ref a1), (.ref a1)])) _
    refine st_138 _ ?_
    show Steps p.tables e below (T_138.setTop (mkF m 11 #[.val (.ref a1), .val (.long q2), .second, .val (.ref a1)] [(.long w1), (.ref a1)])) _
    refine XS.lloadN X_138.here hx rfl (hb hby d5_11) rfl ?_
    show Steps p.tables e below (T_138.setTop (mkF m 12 #[.val (.ref a1), .val (.long q2), .second, .val (.ref a1)] [(.long q2), (.long w1), (.ref a1)])) _
    refine XS.lsub X_138.here hx rfl (hb hby d5_12) rfl ?_
    show Steps p.tables e below (T_138.setTop (mkF m 13 #[.val (.ref a1), .val (.long q2), .second, .val (.ref a1)] [(.long (w1 - q2)), (.ref a1)])) _
    refine st_139 _ ?_
    show Steps p.tables e below (T_139.setTop (mkF m 16 #[.val (.ref a1), .val (.long q2), .second, .val (.ref a1)] [])) _
    refine XS.aloadN X_139.here hx rfl (hb hby d5_16) rfl rfl ?_
    show Steps p.tables e below (T_139.setTop (mkF m 17 #[.val (.ref a1), .val (.long q2), .second, .val (.ref a1)] [(.ref a1)])) _
    refine XS.dup X_139.here hx rfl (hb hby d5_17) rfl rfl ?_
    show Steps p.tables e below (T_139.setTop (mkF m 18 #[.val (.ref a1), .val (.long q2), .second, .val (.ref a1)] [(.ref a1), (.ref a1)])) _
    refine st_142 _ ?_
    show Steps p.tables e below (T_142.setTop (mkF m 21 #[.val (.ref a1), .val (.long q2), .second, .val (.ref a1)] [(.long w3), (.ref a1)])) _
    refine XS.lloadN X_142.here hx rfl (hb hby d5_21) rfl ?_
    show Steps p.tables e below (T_142.setTop (mkF m 22 #[.val (.ref a1), .val (.long q2), .second, .val (.ref a1)] [(.long q2), (.long w3), (.ref a1)])) _
    refine XS.ladd X_142.here hx rfl (hb hby d5_22) rfl ?_
    show Steps p.tables e below (T_142.setTop (mkF m 23 #[.val (.ref a1), .val (.long q2), .second, .val (.ref a1)] [(.long (w3 + q2)), (.ref a1)])) _
    refine st_144 _ ?_
    show Steps p.tables e below (T_144.setTop (mkF m 26 #[.val (.ref a1), .val (.long q2), .second, .val (.ref a1)] [])) _
    refine XS.aloadN X_144.here hx rfl (hb hby d5_26) rfl rfl ?_
    show Steps p.tables e below (T_144.setTop (mkF m 27 #[.val (.ref a1), .val (.long q2), .second, .val (.ref a1)] [(.ref a1)])) _
    refine st_147 _ ?_
    show Steps p.tables e below (T_147.setTop (mkF m 30 #[.val (.ref a1), .val (.long q2), .second, .val (.ref a1)] [(.ref a3)])) _
    refine XS.astoreN X_147.here hx rfl (hb hby d5_30) rfl rfl (l' := #[.val (.ref a1), .val (.long q2), .second, .val (.ref a3)]) rfl ?_
    show Steps p.tables e below (T_147.setTop (mkF m 31 #[.val (.ref a1), .val (.long q2), .second, .val (.ref a3)] [])) _
    refine XS.goto X_147.here hx rfl (pc0 := 31) (pc' := 2) rfl (hb hby d5_31) (by decide) (by decide) ?_
    show Steps p.tables e below (T_147.setTop (mkF m 2 #[.val (.ref a1), .val (.long q2), .second, .val (.ref a3)] [])) _
    refine XS.aloadN X_147.here hx rfl (hb hby d5_2) rfl rfl ?_
    show Steps p.tables e below (T_147.setTop (mkF m 3 #[.val (.ref a1), .val (.long q2), .second, .val (.ref a3)] [(.ref a3)])) _
    refine XS.ifnullNo X_147.here hx rfl (hb hby d5_3) rfl ?_
    show Steps p.tables e below (T_147.setTop (mkF m 6 #[.val (.ref a1), .val (.long q2), .second, .val (.ref a3)] [])) _
    refine XS.aloadN X_147.here hx rfl (hb hby d5_6) rfl rfl ?_
    show Steps p.tables e below (T_147.setTop (mkF m 7 #[.val (.ref a1), .val (.long q2), .second, .val (.ref a3)] [(.ref a3)])) _
    refine XS.dup X_147.here hx rfl (hb hby d5_7) rfl rfl ?_
    show Steps p.tables e below (T_147.setTop (mkF m 8 #[.val (.ref a1), .val (.long q2), .second, .val (.ref a3)] [(.ref a3), (.ref a3)])) _
    refine st_149 _ ?_
    show Steps p.tables e below (T_149.setTop (mkF m 11 #[.val (.ref a1), .val (.long q2), .second, .val (.ref a3)] [(.long u1), (.ref a3)])) _
    refine XS.lloadN X_149.here hx rfl (hb hby d5_11) rfl ?_
    show Steps p.tables e below (T_149.setTop (mkF m 12 #[.val (.ref a1), .val (.long q2), .second, .val (.ref a3)] [(.long q2), (.long u1), (.ref a3)])) _
    refine XS.lsub X_149.here hx rfl (hb hby d5_12) rfl ?_
    show Steps p.tables e below (T_149.setTop (mkF m 13 #[.val (.ref a1), .val (.long q2), .second, .val (.ref a3)] [(.long (u1 - q2)), (.ref a3)])) _
    refine st_151 _ ?_
    show Steps p.tables e below (T_151.setTop (mkF m 16 #[.val (.ref a1), .val (.long q2), .second, .val (.ref a3)] [])) _
    refine XS.aloadN X_151.here hx rfl (hb hby d5_16) rfl rfl ?_
    show Steps p.tables e below (T_151.setTop (mkF m 17 #[.val (.ref a1), .val (.long q2), .second, .val (.ref a3)] [(.ref a3)])) _
    refine XS.dup X_151.here hx rfl (hb hby d5_17) rfl rfl ?_
    show Steps p.tables e below (T_151.setTop (mkF m 18 #[.val (.ref a1), .val (.long q2), .second, .val (.ref a3)] [(.ref a3), (.ref a3)])) _
    refine st_154 _ ?_
    show Steps p.tables e below (T_154.setTop (mkF m 21 #[.val (.ref a1), .val (.long q2), .second, .val (.ref a3)] [(.long u3), (.ref a3)])) _
    refine XS.lloadN X_154.here hx rfl (hb hby d5_21) rfl ?_
    show Steps p.tables e below (T_154.setTop (mkF m 22 #[.val (.ref a1), .val (.long q2), .second, .val (.ref a3)] [(.long q2), (.long u3), (.ref a3)])) _
    refine XS.ladd X_154.here hx rfl (hb hby d5_22) rfl ?_
    show Steps p.tables e below (T_154.setTop (mkF m 23 #[.val (.ref a1), .val (.long q2), .second, .val (.ref a3)] [(.long (u3 + q2)), (.ref a3)])) _
    refine st_156 _ ?_
    show Steps p.tables e below (T_156.setTop (mkF m 26 #[.val (.ref a1), .val (.long q2), .second, .val (.ref a3)] [])) _
    refine XS.aloadN X_156.here hx rfl (hb hby d5_26) rfl rfl ?_
    show Steps p.tables e below (T_156.setTop (mkF m 27 #[.val (.ref a1), .val (.long q2), .second, .val (.ref a3)] [(.ref a3)])) _
    refine st_159 _ ?_
    show Steps p.tables e below (T_159.setTop (mkF m 30 #[.val (.ref a1), .val (.long q2), .second, .val (.ref a3)] [.null])) _
    refine XS.astoreN X_159.here hx rfl (hb hby d5_30) rfl rfl (l' := #[.val (.ref a1), .val (.long q2), .second, .val .null]) rfl ?_
    show Steps p.tables e below (T_159.setTop (mkF m 31 #[.val (.ref a1), .val (.long q2), .second, .val .null] [])) _
    refine XS.goto X_159.here hx rfl (pc0 := 31) (pc' := 2) rfl (hb hby d5_31) (by decide) (by decide) ?_
    show Steps p.tables e below (T_159.setTop (mkF m 2 #[.val (.ref a1), .val (.long q2), .second, .val .null] [])) _
    refine XS.aloadN X_159.here hx rfl (hb hby d5_2) rfl rfl ?_
    show Steps p.tables e below (T_159.setTop (mkF m 3 #[.val (.ref a1), .val (.long q2), .second, .val .null] [.null])) _
    refine XS.ifnullYes X_159.here hx rfl (pc0 := 3) (pc' := 34) rfl (hb hby d5_3) rfl (by decide) (by decide) ?_
    show Steps p.tables e below (T_159.setTop (mkF m 34 #[.val (.ref a1), .val (.long q2), .second, .val .null] [])) _
    exact X_159.returnOut hx Bd.returns (hb hby d5_34) hr
  have f_160 : Exa Z h_156 a1 "org/millrace/engine/Footprint" := (((f_143.wr W_144).wr W_151).wr W_156)
  have f_161 : Fld Z h_156 a1 "org/millrace/engine/Footprint" "rows" "J" (.long (w1 - q2)) := (((fw_139.other W_144 (Or.inr (slot_ne (Or.inl (hw _ (List.mem_of_getElem? (i := 20) rfl))) (Or.inl (hw _ (List.mem_of_getElem? (i := 22) rfl))) (by decide) (t := .long) (t' := .long) (by decide) (by decide)))).other W_151 (Or.inl ne_a1_a3)).other W_156 (Or.inl ne_a1_a3))
  have f_162 : Fld Z h_156 a1 "org/millrace/engine/Footprint" "peak" "J" (.long w2) := ((((F_a1_peak.other W_139 (Or.inr (slot_ne (Or.inl (hw _ (List.mem_of_getElem? (i := 24) rfl))) (Or.inl (hw _ (List.mem_of_getElem? (i := 20) rfl))) (by decide) (t := .long) (t' := .long) (by decide) (by decide)))).other W_144 (Or.inr (slot_ne (Or.inl (hw _ (List.mem_of_getElem? (i := 24) rfl))) (Or.inl (hw _ (List.mem_of_getElem? (i := 22) rfl))) (by decide) (t := .long) (t' := .long) (by decide) (by decide)))).other W_151 (Or.inl ne_a1_a3)).other W_156 (Or.inl ne_a1_a3))
  have f_163 : Fld Z h_156 a1 "org/millrace/engine/Footprint" "aside" "J" (.long (w3 + q2)) := ((fw_144.other W_151 (Or.inl ne_a1_a3)).other W_156 (Or.inl ne_a1_a3))
  have f_164 : Fld Z h_156 a1 "org/millrace/engine/Footprint" "whole" "Lorg/millrace/engine/Footprint;" (.ref a3) := ((f_146.other W_151 (Or.inl ne_a1_a3)).other W_156 (Or.inl ne_a1_a3))
  have f_165 : Exa Z h_156 a3 "org/millrace/engine/Footprint" := (f_155.wr W_156)
  have f_166 : Fld Z h_156 a3 "org/millrace/engine/Footprint" "rows" "J" (.long (u1 - q2)) := (fw_151.other W_156 (Or.inr (slot_ne (Or.inl (hw _ (List.mem_of_getElem? (i := 20) rfl))) (Or.inl (hw _ (List.mem_of_getElem? (i := 22) rfl))) (by decide) (t := .long) (t' := .long) (by decide) (by decide))))
  have f_167 : Fld Z h_156 a3 "org/millrace/engine/Footprint" "peak" "J" (.long u2) := ((((F_a3_peak.other W_139 (Or.inl (Ne.symm ne_a1_a3))).other W_144 (Or.inl (Ne.symm ne_a1_a3))).other W_151 (Or.inr (slot_ne (Or.inl (hw _ (List.mem_of_getElem? (i := 24) rfl))) (Or.inl (hw _ (List.mem_of_getElem? (i := 20) rfl))) (by decide) (t := .long) (t' := .long) (by decide) (by decide)))).other W_156 (Or.inr (slot_ne (Or.inl (hw _ (List.mem_of_getElem? (i := 24) rfl))) (Or.inl (hw _ (List.mem_of_getElem? (i := 22) rfl))) (by decide) (t := .long) (t' := .long) (by decide) (by decide))))
  · show Q5r Z a1 a3 q2 w1 w2 w3 u1 u2 u3 h0 n0 _ T_159.heap _
    rw [e_159]
    exact ⟨rfl, N_156, K_156, f_160, f_161, f_162, f_163, f_164, f_165, f_166, f_167, fw_156, f_158⟩
theorem d6_0 : decode prog_68_method_3_code 0 = .ok (.aload_n 0, 1) := by decide +kernel
theorem d6_1 : decode prog_68_method_3_code 1 = .ok (.getfield 16, 3) := by decide +kernel
theorem d6_4 : decode prog_68_method_3_code 4 = .ok (.lreturn, 1) := by decide +kernel
theorem ef_6 (m : MethodId) (x0 : Addr) : entryFrame m #[(.ref x0)] 1 = mkF m 0 #[.val (.ref x0)] [] := by first | (simp [entryFrame, mkF, argsToLocals, Value.category]; done) | rfl
def Q6 (Z : State) (a1 : Addr) (w1 : Int64) (h0 : Heap) (n0 : Nat) (v : Option Value) (h : Heap) (L : List Loc) : Prop := v = some (.long w1) ∧ Fr n0 L ∧ h = h0
set_option maxRecDepth 65536 in
set_option maxHeartbeats 40000000 in
theorem rm6 (l : Launch) (Z : State) (a0 : Array Value) (hw : ∀ d ∈ tables_1, d.before a0 Z = true) (ws : List Jvm.Cond) (a1 : Addr) (w1 : Int64) (h0 : Heap) (n0 : Nat) (Z0 : n0 ≤ h0.size) (E_a1 : Exa Z h0 a1 "org/millrace/engine/Footprint") (F_a1_rows : Fld Z h0 a1 "org/millrace/engine/Footprint" "rows" "J" (.long w1)) :
    MetFree l (⟨"org/millrace/engine/Footprint", "rows", "()J"⟩ : MethodName) (head1 (Jvm.Cond.code (⟨"org/millrace/engine/Footprint", "rows", "()J"⟩ : MethodName) prog_68_method_3_code 1 (some .long) :: ws) ({ frames := 0, cells := 0, slots := 0, locals := 0 } : Room)) (fun a U => a = #[(.ref a1)] ∧ Z.Warmed39 U.vm ∧ U.heap = h0) (fun _ _ _ _ _ => True) (fun _ U o U' => ∃ v L, o = .returned v ∧ Q6 Z a1 w1 h0 n0 v U'.heap L ∧ FrameEnd U o U' L ({ frames := 0, cells := 0, slots := 0, locals := 0 } : Room).cells ({ frames := 0, cells := 0, slots := 0, locals := 0 } : Room).slots) := by
  refine MetFree.of_bodySF (plainFor_of_name pn_2) hisR ?_
  intro p e s m args below meth c s₁ Bd hml0 hP hK
  obtain ⟨rfl, hZ, hh⟩ := hP
  have hx := Bd.exec
  have hby := Bd.bytes
  have hml : c.maxLocals = 1 := hml0
  have hown : s.vm.findClass "org/millrace/engine/Footprint" = some m.cls := findClass_of_methodNamed Bd.named
  have hnm := (name_of_methodNamed Bd.named Bd.method).1
  have X0 : Stand p l e ({ frames := 0, cells := 0, slots := 0, locals := 0 } : Room) s m #[(.ref a1)] below meth c s₁ [] 0 0 := Stand.of_body Bd
  have e0 : s₁.heap = h0 := by rw [← hh, Bd.state]; rfl
  have N0 := Fr.nil n0
  have pre0 : ∀ t, Steps p.tables e below (s₁.setTop (mkF m 0 #[.val (.ref a1)] [])) t → Steps p.tables e below (s₁.setTop (entryFrame m #[(.ref a1)] 1)) t := fun t k => castTop (ef_6 m a1) k
  obtain ⟨T_168, X_168, e_168, st_168⟩ := getF X0 hx hZ hown (host := "") (Or.inl (hw _ (List.mem_of_getElem? (i := 19) rfl))) Via.refl e0 F_a1_rows (g := (mkF m 1 #[.val (.ref a1)] [(.ref a1)])) rfl rfl (hb hby d6_1)
  obtain ⟨fs, hr, hrun, hended, hW, hsame⟩ := X_168.leave (v := some (.long w1)) (fun h => by rw [Bd.returns] at h; cases h)
  refine ⟨_, _, pre0 _ ?_, hrun, hended, _, _, rfl, ?_, ⟨_, rfl⟩, hW, hsame.mono (by decide) (by decide)⟩
  · show Steps p.tables e below (s₁.setTop (mkF m 0 #[.val (.ref a1)] [])) _
    refine XS.aloadN X0.here hx rfl (hb hby d6_0) rfl rfl ?_
    show Steps p.tables e below (s₁.setTop (mkF m 1 #[.val (.ref a1)] [(.ref a1)])) _
    refine st_168 _ ?_
    show Steps p.tables e below (T_168.setTop (mkF m 4 #[.val (.ref a1)] [(.long w1)])) _
    exact retL X_168 hx Bd.returns (hb hby d6_4) hr
  · show Q6 Z a1 w1 h0 n0 _ T_168.heap _
    rw [e_168]
    exact ⟨rfl, N0, rfl⟩
theorem d7_0 : decode prog_68_method_4_code 0 = .ok (.aload_n 0, 1) := by decide +kernel
theorem d7_1 : decode prog_68_method_4_code 1 = .ok (.getfield 20, 3) := by decide +kernel
theorem d7_4 : decode prog_68_method_4_code 4 = .ok (.lreturn, 1) := by decide +kernel
theorem ef_7 (m : MethodId) (x0 : Addr) : entryFrame m #[(.ref x0)] 1 = mkF m 0 #[.val (.ref x0)] [] := by first | (simp [entryFrame, mkF, argsToLocals, Value.category]; done) | rfl
def Q7 (Z : State) (a1 : Addr) (w1 : Int64) (h0 : Heap) (n0 : Nat) (v : Option Value) (h : Heap) (L : List Loc) : Prop := v = some (.long w1) ∧ Fr n0 L ∧ h = h0
set_option maxRecDepth 65536 in
set_option maxHeartbeats 40000000 in
theorem rm7 (l : Launch) (Z : State) (a0 : Array Value) (hw : ∀ d ∈ tables_1, d.before a0 Z = true) (ws : List Jvm.Cond) (a1 : Addr) (w1 : Int64) (h0 : Heap) (n0 : Nat) (Z0 : n0 ≤ h0.size) (E_a1 : Exa Z h0 a1 "org/millrace/engine/Footprint") (F_a1_peak : Fld Z h0 a1 "org/millrace/engine/Footprint" "peak" "J" (.long w1)) :
    MetFree l (⟨"org/millrace/engine/Footprint", "peak", "()J"⟩ : MethodName) (head1 (Jvm.Cond.code (⟨"org/millrace/engine/Footprint", "peak", "()J"⟩ : MethodName) prog_68_method_4_code 1 (some .long) :: ws) ({ frames := 0, cells := 0, slots := 0, locals := 0 } : Room)) (fun a U => a = #[(.ref a1)] ∧ Z.Warmed39 U.vm ∧ U.heap = h0) (fun _ _ _ _ _ => True) (fun _ U o U' => ∃ v L, o = .returned v ∧ Q7 Z a1 w1 h0 n0 v U'.heap L ∧ FrameEnd U o U' L ({ frames := 0, cells := 0, slots := 0, locals := 0 } : Room).cells ({ frames := 0, cells := 0, slots := 0, locals := 0 } : Room).slots) := by
  refine MetFree.of_bodySF (plainFor_of_name pn_2) hisR ?_
  intro p e s m args below meth c s₁ Bd hml0 hP hK
  obtain ⟨rfl, hZ, hh⟩ := hP
  have hx := Bd.exec
  have hby := Bd.bytes
  have hml : c.maxLocals = 1 := hml0
  have hown : s.vm.findClass "org/millrace/engine/Footprint" = some m.cls := findClass_of_methodNamed Bd.named
  have hnm := (name_of_methodNamed Bd.named Bd.method).1
  have X0 : Stand p l e ({ frames := 0, cells := 0, slots := 0, locals := 0 } : Room) s m #[(.ref a1)] below meth c s₁ [] 0 0 := Stand.of_body Bd
  have e0 : s₁.heap = h0 := by rw [← hh, Bd.state]; rfl
  have N0 := Fr.nil n0
  have pre0 : ∀ t, Steps p.tables e below (s₁.setTop (mkF m 0 #[.val (.ref a1)] [])) t → Steps p.tables e below (s₁.setTop (entryFrame m #[(.ref a1)] 1)) t := fun t k => castTop (ef_7 m a1) k
  obtain ⟨T_169, X_169, e_169, st_169⟩ := getF X0 hx hZ hown (host := "") (Or.inl (hw _ (List.mem_of_getElem? (i := 23) rfl))) Via.refl e0 F_a1_peak (g := (mkF m 1 #[.val (.ref a1)] [(.ref a1)])) rfl rfl (hb hby d7_1)
  obtain ⟨fs, hr, hrun, hended, hW, hsame⟩ := X_169.leave (v := some (.long w1)) (fun h => by rw [Bd.returns] at h; cases h)
  refine ⟨_, _, pre0 _ ?_, hrun, hended, _, _, rfl, ?_, ⟨_, rfl⟩, hW, hsame.mono (by decide) (by decide)⟩
  · show Steps p.tables e below (s₁.setTop (mkF m 0 #[.val (.ref a1)] [])) _
    refine XS.aloadN X0.here hx rfl (hb hby d7_0) rfl rfl ?_
    show Steps p.tables e below (s₁.setTop (mkF m 1 #[.val (.ref a1)] [(.ref a1)])) _
    refine st_169 _ ?_
    show Steps p.tables e below (T_169.setTop (mkF m 4 #[.val (.ref a1)] [(.long w1)])) _
    exact retL X_169 hx Bd.returns (hb hby d7_4) hr
  · show Q7 Z a1 w1 h0 n0 _ T_169.heap _
    rw [e_169]
    exact ⟨rfl, N0, rfl⟩
theorem own_p0 (a : Int64) : own_ap a (0 : Int64) (0 : Int64) (0 : Int64) = if (0 : Int64) < a then a else (0 : Int64) := by
  unfold own_ap
  rw [Int64.zero_add, Int64.add_zero]
  by_cases h : a = (0 : Int64)
  · rw [if_pos h, h]; rfl
  · rw [if_neg h]
theorem own_pk (a s k : Int64) : own_ap k (own_ar a (0 : Int64) - s) (own_ap a (0 : Int64) (0 : Int64) (0 : Int64)) ((0 : Int64) + s) = if k = (0 : Int64) then (if (0 : Int64) < a then a else (0 : Int64)) else if (if (0 : Int64) < a then a else (0 : Int64)) < a + k then a + k else (if (0 : Int64) < a then a else (0 : Int64)) := by
  rw [own_ap, own_ar_eq, Int64.zero_add, own_kept, own_p0]
theorem pn_0 : plainName "org/millrace/engine/FootprintSetAsidePinLaw" = true := by first | (simp [plainName, overriddenIn]; done) | decide +kernel
theorem ef_0 (m : MethodId) (x0 : Int64) (x1 : Int64) (x2 : Int64) (x3 : Int32) : entryFrame m #[(.long x0), (.long x1), (.long x2), (.int x3)] maxLocals = mkF m 0 #[.val (.long x0), .second, .val (.long x1), .second, .val (.long x2), .second, .val (.int x3), .unset, .unset, .unset, .unset, .unset, .unset, .unset, .unset, .unset, .unset, .unset, .unset, .unset] [] := by first | (simp [entryFrame, mkF, argsToLocals, Value.category, maxLocals]; done) | rfl
def Q0 (Z : State) (q1 : Int64) (q2 : Int64) (q3 : Int64) (p4 : Int32) (h0 : Heap) (n0 : Nat) (v : Option Value) (h : Heap) (L : List Loc) : Prop := v = some (.int (1 : Int32)) ∧ Fr n0 L
theorem pd_0 : parseMethodDescriptor "()V" = some ⟨[], none⟩ := by decide +kernel
theorem pd_2 : parseMethodDescriptor "(J)V" = some ⟨[.long], none⟩ := by decide +kernel
theorem pd_3 : parseMethodDescriptor "()J" = some ⟨[], some .long⟩ := by decide +kernel
set_option maxRecDepth 65536 in
set_option maxHeartbeats 40000000 in
theorem rm0 (l : Launch) (Z : State) (a0 : Array Value) (hw : ∀ d ∈ tables_1, d.before a0 Z = true) (ws : List Jvm.Cond) (q1 : Int64) (q2 : Int64) (q3 : Int64) (p4 : Int32) (h0 : Heap) (n0 : Nat) (Z0 : n0 ≤ h0.size)  :
    MetFree l x (head1 (Jvm.Cond.code x code maxLocals ret :: ws) room_1) (fun a U => a = #[(.long q1), (.long q2), (.long q3), (.int p4)] ∧ Z.Warmed39 U.vm ∧ U.heap = h0) (fun _ _ _ _ _ => True) (fun _ U o U' => ∃ v L, o = .returned v ∧ Q0 Z q1 q2 q3 p4 h0 n0 v U'.heap L ∧ FrameEnd U o U' L room_1.cells room_1.slots) := by
  refine MetFree.of_bodySF (plainFor_of_name pn_0) hisR ?_
  intro p e s m args below meth c s₁ Bd hml0 hP hK
  obtain ⟨rfl, hZ, hh⟩ := hP
  have hx := Bd.exec
  have hby := Bd.bytes
  have hml : c.maxLocals = 20 := hml0
  have hown : s.vm.findClass "org/millrace/engine/FootprintSetAsidePinLaw" = some m.cls := findClass_of_methodNamed Bd.named
  have hnm := (name_of_methodNamed Bd.named Bd.method).1
  have X0 : Stand p l e room_1 s m #[(.long q1), (.long q2), (.long q3), (.int p4)] below meth c s₁ [] 0 0 := Stand.of_body Bd
  have e0 : s₁.heap = h0 := by rw [← hh, Bd.state]; rfl
  have N0 := Fr.nil n0
  have pre0 : ∀ t, Steps p.tables e below (s₁.setTop (mkF m 0 #[.val (.long q1), .second, .val (.long q2), .second, .val (.long q3), .second, .val (.int p4), .unset, .unset, .unset, .unset, .unset, .unset, .unset, .unset, .unset, .unset, .unset, .unset, .unset] [])) t → Steps p.tables e below (s₁.setTop (entryFrame m #[(.long q1), (.long q2), (.long q3), (.int p4)] maxLocals)) t := fun t k => castTop (ef_0 m q1 q2 q3 p4) k
  obtain ⟨T_170, h_170, X_170, e_170, E_170, A_170, D_170, -, st_170⟩ := newO X0 hx hZ hown (hw _ (List.mem_of_getElem? (i := 0) rfl)) (hw _ (List.mem_of_getElem? (i := 1) rfl)) (hw _ (List.mem_of_getElem? (i := 2) rfl)) e0 (g := (mkF m 0 #[.val (.long q1), .second, .val (.long q2), .second, .val (.long q3), .second, .val (.int p4), .unset, .unset, .unset, .unset, .unset, .unset, .unset, .unset, .unset, .unset, .unset, .unset, .unset] [])) rfl (hb hby at_0) (by decide) (by decide)
  obtain ⟨b_170, g_170⟩ : ∃ z, z = h0.size := ⟨_, rfl⟩
  rw [← g_170] at A_170 D_170 st_170
  have g_b_170 : n0 ≤ b_170 := Nat.le_trans Z0 (Nat.le_of_eq g_170.symm)
  have z_171 : n0 ≤ h_170.size := Nat.le_trans Z0 E_170.1
  have fi_170_whole : Fld Z h_170 b_170 "org/millrace/engine/Footprint" "whole" "Lorg/millrace/engine/Footprint;" .null := D_170 (Or.inr (hw _ (List.mem_of_getElem? (i := 13) rfl))) (ty := (.object "org/millrace/engine/Footprint")) (by decide)
  have fi_170_rows : Fld Z h_170 b_170 "org/millrace/engine/Footprint" "rows" "J" (.long (0 : Int64)) := D_170 (Or.inl (hw _ (List.mem_of_getElem? (i := 20) rfl))) (ty := .long) (by decide)
  have fi_170_aside : Fld Z h_170 b_170 "org/millrace/engine/Footprint" "aside" "J" (.long (0 : Int64)) := D_170 (Or.inl (hw _ (List.mem_of_getElem? (i := 22) rfl))) (ty := .long) (by decide)
  have fi_170_peak : Fld Z h_170 b_170 "org/millrace/engine/Footprint" "peak" "J" (.long (0 : Int64)) := D_170 (Or.inl (hw _ (List.mem_of_getElem? (i := 24) rfl))) (ty := .long) (by decide)
  obtain ⟨_, _, ⟨T_172, L_172, k_172, n_172⟩, -, X_172, ⟨Lc_172, hQ_172, l_172, y_172, z_172⟩, st_172⟩ := X_170.specialBack hx (y := (⟨"org/millrace/engine/Footprint", "<init>", "()V"⟩ : MethodName)) rfl hown (mvT hZ (hw _ (List.mem_of_getElem? (i := 3) rfl))) (mvT hZ (hw _ (List.mem_of_getElem? (i := 4) rfl))) (mvT hZ (hw _ (List.mem_of_getElem? (i := 5) rfl))) (by decide) (backOf (W := 1) (rm1 l Z a0 hw [] b_170 h_170 n0 z_171 A_170 fi_170_rows fi_170_peak fi_170_aside fi_170_whole g_b_170) hZ (hw _ (List.mem_of_getElem? (i := 5) rfl)) (hw _ (List.mem_of_getElem? (i := 2) rfl)) (by decide) (by decide)) (g := (mkF m 4 #[.val (.long q1), .second, .val (.long q2), .second, .val (.long q3), .second, .val (.int p4), .unset, .unset, .unset, .unset, .unset, .unset, .unset, .unset, .unset, .unset, .unset, .unset, .unset] [(.ref b_170), (.ref b_170)])) rfl (by rw [hml]; rfl) (Steps.refl _) (a := b_170) (argsL := []) (rest := [(.ref b_170)]) (lenOf pd_0 rfl) rfl (by show 2 * 0 + _ ≤ _; exact Nat.le_of_eq rfl) (hb hby at_4) (fun _ _ => ⟨rfl, e_170, (by decide : 1 + 0 ≤ _), (by decide : 4 + 0 ≤ _)⟩)
  dsimp only [Pt.U, Pt.locs, Pt.cells, Pt.slots] at X_172 l_172 y_172 z_172 st_172 hQ_172
  replace X_172 := castS l_172 y_172 z_172 X_172
  obtain ⟨rfl, Nq_172, K_172, po_172_0, po_172_1, po_172_2, po_172_3, po_172_4⟩ := hQ_172
  have z_173 : n0 ≤ T_172.heap.size := Nat.le_trans z_171 K_172.1
  have N_172 := Fr.app N0 Nq_172
  have pre_174 : ∀ t, Steps p.tables e below (T_172.setTop (mkF m 13 #[.val (.long q1), .second, .val (.long q2), .second, .val (.long q3), .second, .val (.int p4), .val (.ref b_170), .unset, .unset, .unset, .unset, .unset, .unset, .unset, .unset, .unset, .unset, .unset, .unset] [(.int (p4 &&& (1 : Int32)))])) t → Steps p.tables e below (s₁.setTop (entryFrame m #[(.long q1), (.long q2), (.long q3), (.int p4)] maxLocals)) t := fun t k => pre0 t (by
      show Steps p.tables e below (s₁.setTop (mkF m 0 #[.val (.long q1), .second, .val (.long q2), .second, .val (.long q3), .second, .val (.int p4), .unset, .unset, .unset, .unset, .unset, .unset, .unset, .unset, .unset, .unset, .unset, .unset, .unset] [])) _
      refine st_170 _ ?_
      show Steps p.tables e below (T_170.setTop (mkF m 3 #[.val (.long q1), .second, .val (.long q2), .second, .val (.long q3), .second, .val (.int p4), .unset, .unset, .unset, .unset, .unset, .unset, .unset, .unset, .unset, .unset, .unset, .unset, .unset] [(.ref b_170)])) _
      refine XS.dup X_170.here hx rfl (hb hby at_3) rfl rfl ?_
      show Steps p.tables e below (T_170.setTop (mkF m 4 #[.val (.long q1), .second, .val (.long q2), .second, .val (.long q3), .second, .val (.int p4), .unset, .unset, .unset, .unset, .unset, .unset, .unset, .unset, .unset, .unset, .unset, .unset, .unset] [(.ref b_170), (.ref b_170)])) _
      refine st_172.trans ?_
      show Steps p.tables e below (T_172.setTop (mkF m 7 #[.val (.long q1), .second, .val (.long q2), .second, .val (.long q3), .second, .val (.int p4), .unset, .unset, .unset, .unset, .unset, .unset, .unset, .unset, .unset, .unset, .unset, .unset, .unset] [(.ref b_170)])) _
      refine XS.astore X_172.here hx rfl (hb hby at_7) rfl rfl (l' := #[.val (.long q1), .second, .val (.long q2), .second, .val (.long q3), .second, .val (.int p4), .val (.ref b_170), .unset, .unset, .unset, .unset, .unset, .unset, .unset, .unset, .unset, .unset, .unset, .unset]) rfl ?_
      show Steps p.tables e below (T_172.setTop (mkF m 9 #[.val (.long q1), .second, .val (.long q2), .second, .val (.long q3), .second, .val (.int p4), .val (.ref b_170), .unset, .unset, .unset, .unset, .unset, .unset, .unset, .unset, .unset, .unset, .unset, .unset] [])) _
      refine XS.iload X_172.here hx rfl (hb hby at_9) rfl ?_
      show Steps p.tables e below (T_172.setTop (mkF m 11 #[.val (.long q1), .second, .val (.long q2), .second, .val (.long q3), .second, .val (.int p4), .val (.ref b_170), .unset, .unset, .unset, .unset, .unset, .unset, .unset, .unset, .unset, .unset, .unset, .unset] [(.int p4)])) _
      refine XS.iconst X_172.here hx rfl (hb hby at_11) ?_
      show Steps p.tables e below (T_172.setTop (mkF m 12 #[.val (.long q1), .second, .val (.long q2), .second, .val (.long q3), .second, .val (.int p4), .val (.ref b_170), .unset, .unset, .unset, .unset, .unset, .unset, .unset, .unset, .unset, .unset, .unset, .unset] [(.int (1 : Int32)), (.int p4)])) _
      refine XS.iand X_172.here hx rfl (hb hby at_12) rfl ?_
      exact k)
  by_cases hc13__175 : (p4 &&& (1 : Int32)) = (0 : Int32)
  · obtain ⟨cq_176, kq_176, qa_176, qb_176, qc_176⟩ := isOf hZ rfl po_172_0
    obtain ⟨_, _, ⟨T_176, L_176, k_176, n_176⟩, -, X_176, ⟨Lc_176, hQ_176, l_176, y_176, z_176⟩, st_176⟩ := X_172.virtualBack hx (y := (⟨"org/millrace/engine/Footprint", "add", "(J)V"⟩ : MethodName)) (z := (⟨"org/millrace/engine/Footprint", "add", "(J)V"⟩ : MethodName)) hown (mvT hZ (hw _ (List.mem_of_getElem? (i := 14) rfl))) (mvT hZ (hw _ (List.mem_of_getElem? (i := 15) rfl))) (notFace_of_selects (args := #[]) (mvT hZ (hw _ (List.mem_of_getElem? (i := 17) rfl)))) (mvT hZ (hw _ (List.mem_of_getElem? (i := 17) rfl))) (mvT hZ (hw _ (List.mem_of_getElem? (i := 16) rfl))) (by decide) (backOf (W := 0) (rm4n l Z a0 hw [] b_170 q1 (0 : Int64) (0 : Int64) (0 : Int64) T_172.heap n0 z_173 po_172_0 po_172_1 po_172_2 po_172_3 po_172_4 g_b_170) hZ (hw _ (List.mem_of_getElem? (i := 18) rfl)) (hw _ (List.mem_of_getElem? (i := 2) rfl)) (by decide) (by decide)) qa_176 qc_176 (g := (mkF m 35 #[.val (.long q1), .second, .val (.long q2), .second, .val (.long q3), .second, .val (.int p4), .val (.ref b_170), .val (.ref b_170), .unset, .unset, .unset, .unset, .unset, .unset, .unset, .unset, .unset, .unset, .unset] [(.long q1), (.ref b_170)])) rfl (by rw [hml]; rfl) (Steps.refl _) (argsL := [(.long q1)]) (rest := []) (lenOf pd_2 rfl) rfl (by show 2 * 0 + _ ≤ _; exact Nat.le_of_eq rfl) (hb hby at_35) (fun _ _ => ⟨rfl, rfl, (by decide : 1 + 0 ≤ _), (by decide : 4 + 0 ≤ _)⟩)
    dsimp only [Pt.U, Pt.locs, Pt.cells, Pt.slots] at X_176 l_176 y_176 z_176 st_176 hQ_176
    replace X_176 := castS l_176 y_176 z_176 X_176
    obtain ⟨rfl, Nq_176, K_176, po_176_0, po_176_1, po_176_2, po_176_3, po_176_4⟩ := hQ_176
    have z_177 : n0 ≤ T_176.heap.size := Nat.le_trans z_173 K_176.1
    have N_176 := Fr.app N_172 Nq_176
    obtain ⟨cq_178, kq_178, qa_178, qb_178, qc_178⟩ := isOf hZ rfl po_176_0
    obtain ⟨_, _, ⟨T_178, L_178, k_178, n_178⟩, -, X_178, ⟨Lc_178, hQ_178, l_178, y_178, z_178⟩, st_178⟩ := X_176.virtualBack hx (y := (⟨"org/millrace/engine/Footprint", "setAside", "(J)V"⟩ : MethodName)) (z := (⟨"org/millrace/engine/Footprint", "setAside", "(J)V"⟩ : MethodName)) hown (mvT hZ (hw _ (List.mem_of_getElem? (i := 25) rfl))) (mvT hZ (hw _ (List.mem_of_getElem? (i := 26) rfl))) (notFace_of_selects (args := #[]) (mvT hZ (hw _ (List.mem_of_getElem? (i := 28) rfl)))) (mvT hZ (hw _ (List.mem_of_getElem? (i := 28) rfl))) (mvT hZ (hw _ (List.mem_of_getElem? (i := 27) rfl))) (by decide) (backOf (W := 0) (rm5n l Z a0 hw [] b_170 q2 (own_ar q1 (0 : Int64)) (own_ap q1 (0 : Int64) (0 : Int64) (0 : Int64)) (0 : Int64) T_176.heap n0 z_177 po_176_0 po_176_1 po_176_2 po_176_3 po_176_4 g_b_170) hZ (hw _ (List.mem_of_getElem? (i := 29) rfl)) (hw _ (List.mem_of_getElem? (i := 2) rfl)) (by decide) (by decide)) qa_178 qc_178 (g := (mkF m 41 #[.val (.long q1), .second, .val (.long q2), .second, .val (.long q3), .second, .val (.int p4), .val (.ref b_170), .val (.ref b_170), .unset, .unset, .unset, .unset, .unset, .unset, .unset, .unset, .unset, .unset, .unset] [(.long q2), (.ref b_170)])) rfl (by rw [hml]; rfl) (Steps.refl _) (argsL := [(.long q2)]) (rest := []) (lenOf pd_2 rfl) rfl (by show 2 * 0 + _ ≤ _; exact Nat.le_of_eq rfl) (hb hby at_41) (fun _ _ => ⟨rfl, rfl, (by decide : 1 + 0 ≤ _), (by decide : 4 + 0 ≤ _)⟩)
    dsimp only [Pt.U, Pt.locs, Pt.cells, Pt.slots] at X_178 l_178 y_178 z_178 st_178 hQ_178
    replace X_178 := castS l_178 y_178 z_178 X_178
    obtain ⟨rfl, Nq_178, K_178, po_178_0, po_178_1, po_178_2, po_178_3, po_178_4⟩ := hQ_178
    have z_179 : n0 ≤ T_178.heap.size := Nat.le_trans z_177 K_178.1
    have N_178 := Fr.app N_176 Nq_178
    have pre_180 : ∀ t, Steps p.tables e below (T_178.setTop (mkF m 47 #[.val (.long q1), .second, .val (.long q2), .second, .val (.long q3), .second, .val (.int p4), .val (.ref b_170), .val (.ref b_170), .unset, .unset, .unset, .unset, .unset, .unset, .unset, .unset, .unset, .unset, .unset] [(.int (lcmpW q1 (0 : Int64)))])) t → Steps p.tables e below (s₁.setTop (entryFrame m #[(.long q1), (.long q2), (.long q3), (.int p4)] maxLocals)) t := fun t k => pre_174 t (by
        show Steps p.tables e below (T_172.setTop (mkF m 13 #[.val (.long q1), .second, .val (.long q2), .second, .val (.long q3), .second, .val (.int p4), .val (.ref b_170), .unset, .unset, .unset, .unset, .unset, .unset, .unset, .unset, .unset, .unset, .unset, .unset] [(.int (p4 &&& (1 : Int32)))])) _
        refine XS.ifYes X_172.here hx rfl (pc0 := 13) (pc' := 28) rfl (hb hby at_13) rfl ((if0 _ _).trans (teq hc13__175).1) (by decide) (by decide) ?_
        show Steps p.tables e below (T_172.setTop (mkF m 28 #[.val (.long q1), .second, .val (.long q2), .second, .val (.long q3), .second, .val (.int p4), .val (.ref b_170), .unset, .unset, .unset, .unset, .unset, .unset, .unset, .unset, .unset, .unset, .unset, .unset] [])) _
        refine XS.aload X_172.here hx rfl (hb hby at_28) rfl rfl ?_
        show Steps p.tables e below (T_172.setTop (mkF m 30 #[.val (.long q1), .second, .val (.long q2), .second, .val (.long q3), .second, .val (.int p4), .val (.ref b_170), .unset, .unset, .unset, .unset, .unset, .unset, .unset, .unset, .unset, .unset, .unset, .unset] [(.ref b_170)])) _
        refine XS.astore X_172.here hx rfl (hb hby at_30) rfl rfl (l' := #[.val (.long q1), .second, .val (.long q2), .second, .val (.long q3), .second, .val (.int p4), .val (.ref b_170), .val (.ref b_170), .unset, .unset, .unset, .unset, .unset, .unset, .unset, .unset, .unset, .unset, .unset]) rfl ?_
        show Steps p.tables e below (T_172.setTop (mkF m 32 #[.val (.long q1), .second, .val (.long q2), .second, .val (.long q3), .second, .val (.int p4), .val (.ref b_170), .val (.ref b_170), .unset, .unset, .unset, .unset, .unset, .unset, .unset, .unset, .unset, .unset, .unset] [])) _
        refine XS.aload X_172.here hx rfl (hb hby at_32) rfl rfl ?_
        show Steps p.tables e below (T_172.setTop (mkF m 34 #[.val (.long q1), .second, .val (.long q2), .second, .val (.long q3), .second, .val (.int p4), .val (.ref b_170), .val (.ref b_170), .unset, .unset, .unset, .unset, .unset, .unset, .unset, .unset, .unset, .unset, .unset] [(.ref b_170)])) _
        refine XS.lloadN X_172.here hx rfl (hb hby at_34) rfl ?_
        show Steps p.tables e below (T_172.setTop (mkF m 35 #[.val (.long q1), .second, .val (.long q2), .second, .val (.long q3), .second, .val (.int p4), .val (.ref b_170), .val (.ref b_170), .unset, .unset, .unset, .unset, .unset, .unset, .unset, .unset, .unset, .unset, .unset] [(.long q1), (.ref b_170)])) _
        refine st_176.trans ?_
        show Steps p.tables e below (T_176.setTop (mkF m 38 #[.val (.long q1), .second, .val (.long q2), .second, .val (.long q3), .second, .val (.int p4), .val (.ref b_170), .val (.ref b_170), .unset, .unset, .unset, .unset, .unset, .unset, .unset, .unset, .unset, .unset, .unset] [])) _
        refine XS.aload X_176.here hx rfl (hb hby at_38) rfl rfl ?_
        show Steps p.tables e below (T_176.setTop (mkF m 40 #[.val (.long q1), .second, .val (.long q2), .second, .val (.long q3), .second, .val (.int p4), .val (.ref b_170), .val (.ref b_170), .unset, .unset, .unset, .unset, .unset, .unset, .unset, .unset, .unset, .unset, .unset] [(.ref b_170)])) _
        refine XS.lloadN X_176.here hx rfl (hb hby at_40) rfl ?_
        show Steps p.tables e below (T_176.setTop (mkF m 41 #[.val (.long q1), .second, .val (.long q2), .second, .val (.long q3), .second, .val (.int p4), .val (.ref b_170), .val (.ref b_170), .unset, .unset, .unset, .unset, .unset, .unset, .unset, .unset, .unset, .unset, .unset] [(.long q2), (.ref b_170)])) _
        refine st_178.trans ?_
        show Steps p.tables e below (T_178.setTop (mkF m 44 #[.val (.long q1), .second, .val (.long q2), .second, .val (.long q3), .second, .val (.int p4), .val (.ref b_170), .val (.ref b_170), .unset, .unset, .unset, .unset, .unset, .unset, .unset, .unset, .unset, .unset, .unset] [])) _
        refine XS.lloadN X_178.here hx rfl (hb hby at_44) rfl ?_
        show Steps p.tables e below (T_178.setTop (mkF m 45 #[.val (.long q1), .second, .val (.long q2), .second, .val (.long q3), .second, .val (.int p4), .val (.ref b_170), .val (.ref b_170), .unset, .unset, .unset, .unset, .unset, .unset, .unset, .unset, .unset, .unset, .unset] [(.long q1)])) _
        refine XS.lconst X_178.here hx rfl (hb hby at_45) ?_
        show Steps p.tables e below (T_178.setTop (mkF m 46 #[.val (.long q1), .second, .val (.long q2), .second, .val (.long q3), .second, .val (.int p4), .val (.ref b_170), .val (.ref b_170), .unset, .unset, .unset, .unset, .unset, .unset, .unset, .unset, .unset, .unset, .unset] [(.long (0 : Int64)), (.long q1)])) _
        refine XS.lcmp X_178.here hx rfl (hb hby at_46) rfl ?_
        exact k)
    by_cases hc47__181 : (0 : Int64) < q1
    · obtain ⟨cq_182, kq_182, qa_182, qb_182, qc_182⟩ := isOf hZ rfl po_178_0
      obtain ⟨_, _, ⟨T_182, L_182, k_182, n_182⟩, -, X_182, ⟨Lc_182, hQ_182, l_182, y_182, z_182⟩, st_182⟩ := X_178.virtualBack hx (y := (⟨"org/millrace/engine/Footprint", "rows", "()J"⟩ : MethodName)) (z := (⟨"org/millrace/engine/Footprint", "rows", "()J"⟩ : MethodName)) hown (mvT hZ (hw _ (List.mem_of_getElem? (i := 30) rfl))) (mvT hZ (hw _ (List.mem_of_getElem? (i := 31) rfl))) (notFace_of_selects (args := #[]) (mvT hZ (hw _ (List.mem_of_getElem? (i := 33) rfl)))) (mvT hZ (hw _ (List.mem_of_getElem? (i := 33) rfl))) (mvT hZ (hw _ (List.mem_of_getElem? (i := 32) rfl))) (by decide) (backOf (W := 0) (rm6 l Z a0 hw [] b_170 ((own_ar q1 (0 : Int64)) - q2) T_178.heap n0 z_179 po_178_0 po_178_1) hZ (hw _ (List.mem_of_getElem? (i := 34) rfl)) (hw _ (List.mem_of_getElem? (i := 2) rfl)) (by decide) (by decide)) qa_182 qc_182 (g := (mkF m 64 #[.val (.long q1), .second, .val (.long q2), .second, .val (.long q3), .second, .val (.int p4), .val (.ref b_170), .val (.ref b_170), .val (.long q1), .second, .val (.long (q1 - q2)), .second, .unset, .unset, .unset, .unset, .unset, .unset, .unset] [(.ref b_170)])) rfl (by rw [hml]; rfl) (Steps.refl _) (argsL := []) (rest := []) (lenOf pd_3 rfl) rfl (by show 2 * 0 + _ ≤ _; exact Nat.le_of_eq rfl) (hb hby at_64) (fun _ _ => ⟨rfl, rfl, (by decide : 1 + 0 ≤ _), (by decide : 4 + 0 ≤ _)⟩)
      dsimp only [Pt.U, Pt.locs, Pt.cells, Pt.slots] at X_182 l_182 y_182 z_182 st_182 hQ_182
      replace X_182 := castS l_182 y_182 z_182 X_182
      obtain ⟨rfl, Nq_182, e_182⟩ := hQ_182
      have N_182 := Fr.app N_178 Nq_182
      obtain ⟨cq_183, kq_183, qa_183, qb_183, qc_183⟩ := isOf hZ e_182 po_178_0
      obtain ⟨_, _, ⟨T_183, L_183, k_183, n_183⟩, -, X_183, ⟨Lc_183, hQ_183, l_183, y_183, z_183⟩, st_183⟩ := X_182.virtualBack hx (y := (⟨"org/millrace/engine/Footprint", "add", "(J)V"⟩ : MethodName)) (z := (⟨"org/millrace/engine/Footprint", "add", "(J)V"⟩ : MethodName)) hown (mvT hZ (hw _ (List.mem_of_getElem? (i := 14) rfl))) (mvT hZ (hw _ (List.mem_of_getElem? (i := 15) rfl))) (notFace_of_selects (args := #[]) (mvT hZ (hw _ (List.mem_of_getElem? (i := 17) rfl)))) (mvT hZ (hw _ (List.mem_of_getElem? (i := 17) rfl))) (mvT hZ (hw _ (List.mem_of_getElem? (i := 16) rfl))) (by decide) (backOf (W := 0) (rm4n l Z a0 hw [] b_170 q3 ((own_ar q1 (0 : Int64)) - q2) (own_ap q1 (0 : Int64) (0 : Int64) (0 : Int64)) ((0 : Int64) + q2) T_178.heap n0 z_179 po_178_0 po_178_1 po_178_2 po_178_3 po_178_4 g_b_170) hZ (hw _ (List.mem_of_getElem? (i := 18) rfl)) (hw _ (List.mem_of_getElem? (i := 2) rfl)) (by decide) (by decide)) qa_183 qc_183 (g := (mkF m 84 #[.val (.long q1), .second, .val (.long q2), .second, .val (.long q3), .second, .val (.int p4), .val (.ref b_170), .val (.ref b_170), .val (.long q1), .second, .val (.long (q1 - q2)), .second, .val (.int (1 : Int32)), .unset, .unset, .unset, .unset, .unset, .unset] [(.long q3), (.ref b_170)])) rfl (by rw [hml]; rfl) (Steps.refl _) (argsL := [(.long q3)]) (rest := []) (lenOf pd_2 rfl) rfl (by show 2 * 0 + _ ≤ _; exact Nat.le_of_eq rfl) (hb hby at_84) (fun _ _ => ⟨rfl, e_182, (by decide : 1 + 0 ≤ _), (by decide : 4 + 0 ≤ _)⟩)
      dsimp only [Pt.U, Pt.locs, Pt.cells, Pt.slots] at X_183 l_183 y_183 z_183 st_183 hQ_183
      replace X_183 := castS l_183 y_183 z_183 X_183
      obtain ⟨rfl, Nq_183, K_183, po_183_0, po_183_1, po_183_2, po_183_3, po_183_4⟩ := hQ_183
      have z_184 : n0 ≤ T_183.heap.size := Nat.le_trans z_179 K_183.1
      have N_183 := Fr.app N_182 Nq_183
      have pre_185 : ∀ t, Steps p.tables e below (T_183.setTop (mkF m 102 #[.val (.long q1), .second, .val (.long q2), .second, .val (.long q3), .second, .val (.int p4), .val (.ref b_170), .val (.ref b_170), .val (.long q1), .second, .val (.long (q1 - q2)), .second, .val (.int (1 : Int32)), .val (.long ((q1 - q2) + q3)), .second, .val (.long q1), .second, .unset, .unset] [(.int (lcmpW q3 (0 : Int64)))])) t → Steps p.tables e below (s₁.setTop (entryFrame m #[(.long q1), (.long q2), (.long q3), (.int p4)] maxLocals)) t := fun t k => pre_180 t (by
          show Steps p.tables e below (T_178.setTop (mkF m 47 #[.val (.long q1), .second, .val (.long q2), .second, .val (.long q3), .second, .val (.int p4), .val (.ref b_170), .val (.ref b_170), .unset, .unset, .unset, .unset, .unset, .unset, .unset, .unset, .unset, .unset, .unset] [(.int (lcmpW q1 (0 : Int64)))])) _
          refine XS.ifNo X_178.here hx rfl (hb hby at_47) rfl ((if0 _ _).trans (tlt ((lw_gt _ _).mpr hc47__181)).2.2.2) ?_
          show Steps p.tables e below (T_178.setTop (mkF m 50 #[.val (.long q1), .second, .val (.long q2), .second, .val (.long q3), .second, .val (.int p4), .val (.ref b_170), .val (.ref b_170), .unset, .unset, .unset, .unset, .unset, .unset, .unset, .unset, .unset, .unset, .unset] [])) _
          refine XS.lloadN X_178.here hx rfl (hb hby at_50) rfl ?_
          show Steps p.tables e below (T_178.setTop (mkF m 51 #[.val (.long q1), .second, .val (.long q2), .second, .val (.long q3), .second, .val (.int p4), .val (.ref b_170), .val (.ref b_170), .unset, .unset, .unset, .unset, .unset, .unset, .unset, .unset, .unset, .unset, .unset] [(.long q1)])) _
          refine XS.goto X_178.here hx rfl (pc0 := 51) (pc' := 55) rfl (hb hby at_51) (by decide) (by decide) ?_
          show Steps p.tables e below (T_178.setTop (mkF m 55 #[.val (.long q1), .second, .val (.long q2), .second, .val (.long q3), .second, .val (.int p4), .val (.ref b_170), .val (.ref b_170), .unset, .unset, .unset, .unset, .unset, .unset, .unset, .unset, .unset, .unset, .unset] [(.long q1)])) _
          refine XS.lstore X_178.here hx rfl (hb hby at_55) rfl (l' := #[.val (.long q1), .second, .val (.long q2), .second, .val (.long q3), .second, .val (.int p4), .val (.ref b_170), .val (.ref b_170), .val (.long q1), .second, .unset, .unset, .unset, .unset, .unset, .unset, .unset, .unset, .unset]) rfl ?_
          show Steps p.tables e below (T_178.setTop (mkF m 57 #[.val (.long q1), .second, .val (.long q2), .second, .val (.long q3), .second, .val (.int p4), .val (.ref b_170), .val (.ref b_170), .val (.long q1), .second, .unset, .unset, .unset, .unset, .unset, .unset, .unset, .unset, .unset] [])) _
          refine XS.lloadN X_178.here hx rfl (hb hby at_57) rfl ?_
          show Steps p.tables e below (T_178.setTop (mkF m 58 #[.val (.long q1), .second, .val (.long q2), .second, .val (.long q3), .second, .val (.int p4), .val (.ref b_170), .val (.ref b_170), .val (.long q1), .second, .unset, .unset, .unset, .unset, .unset, .unset, .unset, .unset, .unset] [(.long q1)])) _
          refine XS.lloadN X_178.here hx rfl (hb hby at_58) rfl ?_
          show Steps p.tables e below (T_178.setTop (mkF m 59 #[.val (.long q1), .second, .val (.long q2), .second, .val (.long q3), .second, .val (.int p4), .val (.ref b_170), .val (.ref b_170), .val (.long q1), .second, .unset, .unset, .unset, .unset, .unset, .unset, .unset, .unset, .unset] [(.long q2), (.long q1)])) _
          refine XS.lsub X_178.here hx rfl (hb hby at_59) rfl ?_
          show Steps p.tables e below (T_178.setTop (mkF m 60 #[.val (.long q1), .second, .val (.long q2), .second, .val (.long q3), .second, .val (.int p4), .val (.ref b_170), .val (.ref b_170), .val (.long q1), .second, .unset, .unset, .unset, .unset, .unset, .unset, .unset, .unset, .unset] [(.long (q1 - q2))])) _
          refine XS.lstore X_178.here hx rfl (hb hby at_60) rfl (l' := #[.val (.long q1), .second, .val (.long q2), .second, .val (.long q3), .second, .val (.int p4), .val (.ref b_170), .val (.ref b_170), .val (.long q1), .second, .val (.long (q1 - q2)), .second, .unset, .unset, .unset, .unset, .unset, .unset, .unset]) rfl ?_
          show Steps p.tables e below (T_178.setTop (mkF m 62 #[.val (.long q1), .second, .val (.long q2), .second, .val (.long q3), .second, .val (.int p4), .val (.ref b_170), .val (.ref b_170), .val (.long q1), .second, .val (.long (q1 - q2)), .second, .unset, .unset, .unset, .unset, .unset, .unset, .unset] [])) _
          refine XS.aload X_178.here hx rfl (hb hby at_62) rfl rfl ?_
          show Steps p.tables e below (T_178.setTop (mkF m 64 #[.val (.long q1), .second, .val (.long q2), .second, .val (.long q3), .second, .val (.int p4), .val (.ref b_170), .val (.ref b_170), .val (.long q1), .second, .val (.long (q1 - q2)), .second, .unset, .unset, .unset, .unset, .unset, .unset, .unset] [(.ref b_170)])) _
          refine st_182.trans ?_
          show Steps p.tables e below (T_182.setTop (mkF m 67 #[.val (.long q1), .second, .val (.long q2), .second, .val (.long q3), .second, .val (.int p4), .val (.ref b_170), .val (.ref b_170), .val (.long q1), .second, .val (.long (q1 - q2)), .second, .unset, .unset, .unset, .unset, .unset, .unset, .unset] [(.long ((own_ar q1 (0 : Int64)) - q2))])) _
          refine XS.lload X_182.here hx rfl (hb hby at_67) rfl ?_
          show Steps p.tables e below (T_182.setTop (mkF m 69 #[.val (.long q1), .second, .val (.long q2), .second, .val (.long q3), .second, .val (.int p4), .val (.ref b_170), .val (.ref b_170), .val (.long q1), .second, .val (.long (q1 - q2)), .second, .unset, .unset, .unset, .unset, .unset, .unset, .unset] [(.long (q1 - q2)), (.long ((own_ar q1 (0 : Int64)) - q2))])) _
          refine XS.lcmp X_182.here hx rfl (hb hby at_69) rfl ?_
          show Steps p.tables e below (T_182.setTop (mkF m 70 #[.val (.long q1), .second, .val (.long q2), .second, .val (.long q3), .second, .val (.int p4), .val (.ref b_170), .val (.ref b_170), .val (.long q1), .second, .val (.long (q1 - q2)), .second, .unset, .unset, .unset, .unset, .unset, .unset, .unset] [(.int (lcmpW ((own_ar q1 (0 : Int64)) - q2) (q1 - q2)))])) _
          refine XS.ifNo X_182.here hx rfl (hb hby at_70) rfl ((if0 _ _).trans (teq ((lw_eq _ _).mpr (by rw [own_ar_eq, Int64.zero_add] : ((own_ar q1 (0 : Int64)) - q2) = (q1 - q2)))).2) ?_
          show Steps p.tables e below (T_182.setTop (mkF m 73 #[.val (.long q1), .second, .val (.long q2), .second, .val (.long q3), .second, .val (.int p4), .val (.ref b_170), .val (.ref b_170), .val (.long q1), .second, .val (.long (q1 - q2)), .second, .unset, .unset, .unset, .unset, .unset, .unset, .unset] [])) _
          refine XS.iconst X_182.here hx rfl (hb hby at_73) ?_
          show Steps p.tables e below (T_182.setTop (mkF m 74 #[.val (.long q1), .second, .val (.long q2), .second, .val (.long q3), .second, .val (.int p4), .val (.ref b_170), .val (.ref b_170), .val (.long q1), .second, .val (.long (q1 - q2)), .second, .unset, .unset, .unset, .unset, .unset, .unset, .unset] [(.int (1 : Int32))])) _
          refine XS.goto X_182.here hx rfl (pc0 := 74) (pc' := 78) rfl (hb hby at_74) (by decide) (by decide) ?_
          show Steps p.tables e below (T_182.setTop (mkF m 78 #[.val (.long q1), .second, .val (.long q2), .second, .val (.long q3), .second, .val (.int p4), .val (.ref b_170), .val (.ref b_170), .val (.long q1), .second, .val (.long (q1 - q2)), .second, .unset, .unset, .unset, .unset, .unset, .unset, .unset] [(.int (1 : Int32))])) _
          refine XS.istore X_182.here hx rfl (hb hby at_78) rfl (l' := #[.val (.long q1), .second, .val (.long q2), .second, .val (.long q3), .second, .val (.int p4), .val (.ref b_170), .val (.ref b_170), .val (.long q1), .second, .val (.long (q1 - q2)), .second, .val (.int (1 : Int32)), .unset, .unset, .unset, .unset, .unset, .unset]) rfl ?_
          show Steps p.tables e below (T_182.setTop (mkF m 80 #[.val (.long q1), .second, .val (.long q2), .second, .val (.long q3), .second, .val (.int p4), .val (.ref b_170), .val (.ref b_170), .val (.long q1), .second, .val (.long (q1 - q2)), .second, .val (.int (1 : Int32)), .unset, .unset, .unset, .unset, .unset, .unset] [])) _
          refine XS.aload X_182.here hx rfl (hb hby at_80) rfl rfl ?_
          show Steps p.tables e below (T_182.setTop (mkF m 82 #[.val (.long q1), .second, .val (.long q2), .second, .val (.long q3), .second, .val (.int p4), .val (.ref b_170), .val (.ref b_170), .val (.long q1), .second, .val (.long (q1 - q2)), .second, .val (.int (1 : Int32)), .unset, .unset, .unset, .unset, .unset, .unset] [(.ref b_170)])) _
          refine XS.lload X_182.here hx rfl (hb hby at_82) rfl ?_
          show Steps p.tables e below (T_182.setTop (mkF m 84 #[.val (.long q1), .second, .val (.long q2), .second, .val (.long q3), .second, .val (.int p4), .val (.ref b_170), .val (.ref b_170), .val (.long q1), .second, .val (.long (q1 - q2)), .second, .val (.int (1 : Int32)), .unset, .unset, .unset, .unset, .unset, .unset] [(.long q3), (.ref b_170)])) _
          refine st_183.trans ?_
          show Steps p.tables e below (T_183.setTop (mkF m 87 #[.val (.long q1), .second, .val (.long q2), .second, .val (.long q3), .second, .val (.int p4), .val (.ref b_170), .val (.ref b_170), .val (.long q1), .second, .val (.long (q1 - q2)), .second, .val (.int (1 : Int32)), .unset, .unset, .unset, .unset, .unset, .unset] [])) _
          refine XS.lload X_183.here hx rfl (hb hby at_87) rfl ?_
          show Steps p.tables e below (T_183.setTop (mkF m 89 #[.val (.long q1), .second, .val (.long q2), .second, .val (.long q3), .second, .val (.int p4), .val (.ref b_170), .val (.ref b_170), .val (.long q1), .second, .val (.long (q1 - q2)), .second, .val (.int (1 : Int32)), .unset, .unset, .unset, .unset, .unset, .unset] [(.long (q1 - q2))])) _
          refine XS.lload X_183.here hx rfl (hb hby at_89) rfl ?_
          show Steps p.tables e below (T_183.setTop (mkF m 91 #[.val (.long q1), .second, .val (.long q2), .second, .val (.long q3), .second, .val (.int p4), .val (.ref b_170), .val (.ref b_170), .val (.long q1), .second, .val (.long (q1 - q2)), .second, .val (.int (1 : Int32)), .unset, .unset, .unset, .unset, .unset, .unset] [(.long q3), (.long (q1 - q2))])) _
          refine XS.ladd X_183.here hx rfl (hb hby at_91) rfl ?_
          show Steps p.tables e below (T_183.setTop (mkF m 92 #[.val (.long q1), .second, .val (.long q2), .second, .val (.long q3), .second, .val (.int p4), .val (.ref b_170), .val (.ref b_170), .val (.long q1), .second, .val (.long (q1 - q2)), .second, .val (.int (1 : Int32)), .unset, .unset, .unset, .unset, .unset, .unset] [(.long ((q1 - q2) + q3))])) _
          refine XS.lstore X_183.here hx rfl (hb hby at_92) rfl (l' := #[.val (.long q1), .second, .val (.long q2), .second, .val (.long q3), .second, .val (.int p4), .val (.ref b_170), .val (.ref b_170), .val (.long q1), .second, .val (.long (q1 - q2)), .second, .val (.int (1 : Int32)), .val (.long ((q1 - q2) + q3)), .second, .unset, .unset, .unset, .unset]) rfl ?_
          show Steps p.tables e below (T_183.setTop (mkF m 94 #[.val (.long q1), .second, .val (.long q2), .second, .val (.long q3), .second, .val (.int p4), .val (.ref b_170), .val (.ref b_170), .val (.long q1), .second, .val (.long (q1 - q2)), .second, .val (.int (1 : Int32)), .val (.long ((q1 - q2) + q3)), .second, .unset, .unset, .unset, .unset] [])) _
          refine XS.lload X_183.here hx rfl (hb hby at_94) rfl ?_
          show Steps p.tables e below (T_183.setTop (mkF m 96 #[.val (.long q1), .second, .val (.long q2), .second, .val (.long q3), .second, .val (.int p4), .val (.ref b_170), .val (.ref b_170), .val (.long q1), .second, .val (.long (q1 - q2)), .second, .val (.int (1 : Int32)), .val (.long ((q1 - q2) + q3)), .second, .unset, .unset, .unset, .unset] [(.long q1)])) _
          refine XS.lstore X_183.here hx rfl (hb hby at_96) rfl (l' := #[.val (.long q1), .second, .val (.long q2), .second, .val (.long q3), .second, .val (.int p4), .val (.ref b_170), .val (.ref b_170), .val (.long q1), .second, .val (.long (q1 - q2)), .second, .val (.int (1 : Int32)), .val (.long ((q1 - q2) + q3)), .second, .val (.long q1), .second, .unset, .unset]) rfl ?_
          show Steps p.tables e below (T_183.setTop (mkF m 98 #[.val (.long q1), .second, .val (.long q2), .second, .val (.long q3), .second, .val (.int p4), .val (.ref b_170), .val (.ref b_170), .val (.long q1), .second, .val (.long (q1 - q2)), .second, .val (.int (1 : Int32)), .val (.long ((q1 - q2) + q3)), .second, .val (.long q1), .second, .unset, .unset] [])) _
          refine XS.lload X_183.here hx rfl (hb hby at_98) rfl ?_
          show Steps p.tables e below (T_183.setTop (mkF m 100 #[.val (.long q1), .second, .val (.long q2), .second, .val (.long q3), .second, .val (.int p4), .val (.ref b_170), .val (.ref b_170), .val (.long q1), .second, .val (.long (q1 - q2)), .second, .val (.int (1 : Int32)), .val (.long ((q1 - q2) + q3)), .second, .val (.long q1), .second, .unset, .unset] [(.long q3)])) _
          refine XS.lconst X_183.here hx rfl (hb hby at_100) ?_
          show Steps p.tables e below (T_183.setTop (mkF m 101 #[.val (.long q1), .second, .val (.long q2), .second, .val (.long q3), .second, .val (.int p4), .val (.ref b_170), .val (.ref b_170), .val (.long q1), .second, .val (.long (q1 - q2)), .second, .val (.int (1 : Int32)), .val (.long ((q1 - q2) + q3)), .second, .val (.long q1), .second, .unset, .unset] [(.long (0 : Int64)), (.long q3)])) _
          refine XS.lcmp X_183.here hx rfl (hb hby at_101) rfl ?_
          exact k)
      by_cases hc102__186 : q3 = (0 : Int64)
      · obtain ⟨cq_187, kq_187, qa_187, qb_187, qc_187⟩ := isOf hZ rfl po_183_0
        obtain ⟨_, _, ⟨T_187, L_187, k_187, n_187⟩, -, X_187, ⟨Lc_187, hQ_187, l_187, y_187, z_187⟩, st_187⟩ := X_183.virtualBack hx (y := (⟨"org/millrace/engine/Footprint", "rows", "()J"⟩ : MethodName)) (z := (⟨"org/millrace/engine/Footprint", "rows", "()J"⟩ : MethodName)) hown (mvT hZ (hw _ (List.mem_of_getElem? (i := 30) rfl))) (mvT hZ (hw _ (List.mem_of_getElem? (i := 31) rfl))) (notFace_of_selects (args := #[]) (mvT hZ (hw _ (List.mem_of_getElem? (i := 33) rfl)))) (mvT hZ (hw _ (List.mem_of_getElem? (i := 33) rfl))) (mvT hZ (hw _ (List.mem_of_getElem? (i := 32) rfl))) (by decide) (backOf (W := 0) (rm6 l Z a0 hw [] b_170 (own_ar q3 ((own_ar q1 (0 : Int64)) - q2)) T_183.heap n0 z_184 po_183_0 po_183_1) hZ (hw _ (List.mem_of_getElem? (i := 34) rfl)) (hw _ (List.mem_of_getElem? (i := 2) rfl)) (by decide) (by decide)) qa_187 qc_187 (g := (mkF m 130 #[.val (.long q1), .second, .val (.long q2), .second, .val (.long q3), .second, .val (.int p4), .val (.ref b_170), .val (.ref b_170), .val (.long q1), .second, .val (.long (q1 - q2)), .second, .val (.int (1 : Int32)), .val (.long ((q1 - q2) + q3)), .second, .val (.long q1), .second, .unset, .unset] [(.ref b_170)])) rfl (by rw [hml]; rfl) (Steps.refl _) (argsL := []) (rest := []) (lenOf pd_3 rfl) rfl (by show 2 * 0 + _ ≤ _; exact Nat.le_of_eq rfl) (hb hby at_130) (fun _ _ => ⟨rfl, rfl, (by decide : 1 + 0 ≤ _), (by decide : 4 + 0 ≤ _)⟩)
        dsimp only [Pt.U, Pt.locs, Pt.cells, Pt.slots] at X_187 l_187 y_187 z_187 st_187 hQ_187
        replace X_187 := castS l_187 y_187 z_187 X_187
        obtain ⟨rfl, Nq_187, e_187⟩ := hQ_187
        have N_187 := Fr.app N_183 Nq_187
        obtain ⟨cq_188, kq_188, qa_188, qb_188, qc_188⟩ := isOf hZ e_187 po_183_0
        obtain ⟨_, _, ⟨T_188, L_188, k_188, n_188⟩, -, X_188, ⟨Lc_188, hQ_188, l_188, y_188, z_188⟩, st_188⟩ := X_187.virtualBack hx (y := (⟨"org/millrace/engine/Footprint", "peak", "()J"⟩ : MethodName)) (z := (⟨"org/millrace/engine/Footprint", "peak", "()J"⟩ : MethodName)) hown (mvT hZ (hw _ (List.mem_of_getElem? (i := 35) rfl))) (mvT hZ (hw _ (List.mem_of_getElem? (i := 36) rfl))) (notFace_of_selects (args := #[]) (mvT hZ (hw _ (List.mem_of_getElem? (i := 38) rfl)))) (mvT hZ (hw _ (List.mem_of_getElem? (i := 38) rfl))) (mvT hZ (hw _ (List.mem_of_getElem? (i := 37) rfl))) (by decide) (backOf (W := 0) (rm7 l Z a0 hw [] b_170 (own_ap q3 ((own_ar q1 (0 : Int64)) - q2) (own_ap q1 (0 : Int64) (0 : Int64) (0 : Int64)) ((0 : Int64) + q2)) T_183.heap n0 z_184 po_183_0 po_183_2) hZ (hw _ (List.mem_of_getElem? (i := 39) rfl)) (hw _ (List.mem_of_getElem? (i := 2) rfl)) (by decide) (by decide)) qa_188 qc_188 (g := (mkF m 141 #[.val (.long q1), .second, .val (.long q2), .second, .val (.long q3), .second, .val (.int p4), .val (.ref b_170), .val (.ref b_170), .val (.long q1), .second, .val (.long (q1 - q2)), .second, .val (.int (1 : Int32)), .val (.long ((q1 - q2) + q3)), .second, .val (.long q1), .second, .unset, .unset] [(.ref b_170)])) rfl (by rw [hml]; rfl) (Steps.refl _) (argsL := []) (rest := []) (lenOf pd_3 rfl) rfl (by show 2 * 0 + _ ≤ _; exact Nat.le_of_eq rfl) (hb hby at_141) (fun _ _ => ⟨rfl, e_187, (by decide : 1 + 0 ≤ _), (by decide : 4 + 0 ≤ _)⟩)
        dsimp only [Pt.U, Pt.locs, Pt.cells, Pt.slots] at X_188 l_188 y_188 z_188 st_188 hQ_188
        replace X_188 := castS l_188 y_188 z_188 X_188
        obtain ⟨rfl, Nq_188, e_188⟩ := hQ_188
        have N_188 := Fr.app N_187 Nq_188
        obtain ⟨cq_189, kq_189, qa_189, qb_189, qc_189⟩ := isOf hZ e_188 po_183_0
        obtain ⟨_, _, ⟨T_189, L_189, k_189, n_189⟩, -, X_189, ⟨Lc_189, hQ_189, l_189, y_189, z_189⟩, st_189⟩ := X_188.virtualBack hx (y := (⟨"org/millrace/engine/Footprint", "rows", "()J"⟩ : MethodName)) (z := (⟨"org/millrace/engine/Footprint", "rows", "()J"⟩ : MethodName)) hown (mvT hZ (hw _ (List.mem_of_getElem? (i := 30) rfl))) (mvT hZ (hw _ (List.mem_of_getElem? (i := 31) rfl))) (notFace_of_selects (args := #[]) (mvT hZ (hw _ (List.mem_of_getElem? (i := 33) rfl)))) (mvT hZ (hw _ (List.mem_of_getElem? (i := 33) rfl))) (mvT hZ (hw _ (List.mem_of_getElem? (i := 32) rfl))) (by decide) (backOf (W := 0) (rm6 l Z a0 hw [] b_170 (own_ar q3 ((own_ar q1 (0 : Int64)) - q2)) T_183.heap n0 z_184 po_183_0 po_183_1) hZ (hw _ (List.mem_of_getElem? (i := 34) rfl)) (hw _ (List.mem_of_getElem? (i := 2) rfl)) (by decide) (by decide)) qa_189 qc_189 (g := (mkF m 152 #[.val (.long q1), .second, .val (.long q2), .second, .val (.long q3), .second, .val (.int p4), .val (.ref b_170), .val (.ref b_170), .val (.long q1), .second, .val (.long (q1 - q2)), .second, .val (.int (1 : Int32)), .val (.long ((q1 - q2) + q3)), .second, .val (.long q1), .second, .unset, .unset] [(.ref b_170)])) rfl (by rw [hml]; rfl) (Steps.refl _) (argsL := []) (rest := []) (lenOf pd_3 rfl) rfl (by show 2 * 0 + _ ≤ _; exact Nat.le_of_eq rfl) (hb hby at_152) (fun _ _ => ⟨rfl, e_188, (by decide : 1 + 0 ≤ _), (by decide : 4 + 0 ≤ _)⟩)
        dsimp only [Pt.U, Pt.locs, Pt.cells, Pt.slots] at X_189 l_189 y_189 z_189 st_189 hQ_189
        replace X_189 := castS l_189 y_189 z_189 X_189
        obtain ⟨rfl, Nq_189, e_189⟩ := hQ_189
        have N_189 := Fr.app N_188 Nq_189
        obtain ⟨cq_190, kq_190, qa_190, qb_190, qc_190⟩ := isOf hZ e_189 po_183_0
        obtain ⟨_, _, ⟨T_190, L_190, k_190, n_190⟩, -, X_190, ⟨Lc_190, hQ_190, l_190, y_190, z_190⟩, st_190⟩ := X_189.virtualBack hx (y := (⟨"org/millrace/engine/Footprint", "peak", "()J"⟩ : MethodName)) (z := (⟨"org/millrace/engine/Footprint", "peak", "()J"⟩ : MethodName)) hown (mvT hZ (hw _ (List.mem_of_getElem? (i := 35) rfl))) (mvT hZ (hw _ (List.mem_of_getElem? (i := 36) rfl))) (notFace_of_selects (args := #[]) (mvT hZ (hw _ (List.mem_of_getElem? (i := 38) rfl)))) (mvT hZ (hw _ (List.mem_of_getElem? (i := 38) rfl))) (mvT hZ (hw _ (List.mem_of_getElem? (i := 37) rfl))) (by decide) (backOf (W := 0) (rm7 l Z a0 hw [] b_170 (own_ap q3 ((own_ar q1 (0 : Int64)) - q2) (own_ap q1 (0 : Int64) (0 : Int64) (0 : Int64)) ((0 : Int64) + q2)) T_183.heap n0 z_184 po_183_0 po_183_2) hZ (hw _ (List.mem_of_getElem? (i := 39) rfl)) (hw _ (List.mem_of_getElem? (i := 2) rfl)) (by decide) (by decide)) qa_190 qc_190 (g := (mkF m 163 #[.val (.long q1), .second, .val (.long q2), .second, .val (.long q3), .second, .val (.int p4), .val (.ref b_170), .val (.ref b_170), .val (.long q1), .second, .val (.long (q1 - q2)), .second, .val (.int (1 : Int32)), .val (.long ((q1 - q2) + q3)), .second, .val (.long q1), .second, .unset, .unset] [(.ref b_170)])) rfl (by rw [hml]; rfl) (Steps.refl _) (argsL := []) (rest := []) (lenOf pd_3 rfl) rfl (by show 2 * 0 + _ ≤ _; exact Nat.le_of_eq rfl) (hb hby at_163) (fun _ _ => ⟨rfl, e_189, (by decide : 1 + 0 ≤ _), (by decide : 4 + 0 ≤ _)⟩)
        dsimp only [Pt.U, Pt.locs, Pt.cells, Pt.slots] at X_190 l_190 y_190 z_190 st_190 hQ_190
        replace X_190 := castS l_190 y_190 z_190 X_190
        obtain ⟨rfl, Nq_190, e_190⟩ := hQ_190
        have N_190 := Fr.app N_189 Nq_190
        obtain ⟨fs, hr, hrun, hended, hW, hsame⟩ := X_190.leave (v := some (.int (1 : Int32))) (fun h => by rw [Bd.returns] at h; cases h)
        refine ⟨_, _, pre_185 _ ?_, hrun, hended, _, _, rfl, ?_, ⟨_, rfl⟩, hW, hsame.mono (by decide) (by decide)⟩
        · show Steps p.tables e below (T_183.setTop (mkF m 102 #[.val (.long q1), .second, .val (.long q2), .second, .val (.long q3), .second, .val (.int p4), .val (.ref b_170), .val (.ref b_170), .val (.long q1), .second, .val (.long (q1 - q2)), .second, .val (.int (1 : Int32)), .val (.long ((q1 - q2) + q3)), .second, .val (.long q1), .second, .unset, .unset] [(.int (lcmpW q3 (0 : Int64)))])) _
          refine XS.ifYes X_183.here hx rfl (pc0 := 102) (pc' := 123) rfl (hb hby at_102) rfl ((if0 _ _).trans (teq ((lw_eq _ _).mpr hc102__186)).1) (by decide) (by decide) ?_
          show Steps p.tables e below (T_183.setTop (mkF m 123 #[.val (.long q1), .second, .val (.long q2), .second, .val (.long q3), .second, .val (.int p4), .val (.ref b_170), .val (.ref b_170), .val (.long q1), .second, .val (.long (q1 - q2)), .second, .val (.int (1 : Int32)), .val (.long ((q1 - q2) + q3)), .second, .val (.long q1), .second, .unset, .unset] [])) _
          refine XS.iload X_183.here hx rfl (hb hby at_123) rfl ?_
          show Steps p.tables e below (T_183.setTop (mkF m 125 #[.val (.long q1), .second, .val (.long q2), .second, .val (.long q3), .second, .val (.int p4), .val (.ref b_170), .val (.ref b_170), .val (.long q1), .second, .val (.long (q1 - q2)), .second, .val (.int (1 : Int32)), .val (.long ((q1 - q2) + q3)), .second, .val (.long q1), .second, .unset, .unset] [(.int (1 : Int32))])) _
          refine XS.ifNo X_183.here hx rfl (hb hby at_125) rfl ((if0 _ _).trans (feq (by decide : ¬ ((1 : Int32) = (0 : Int32)))).1) ?_
          show Steps p.tables e below (T_183.setTop (mkF m 128 #[.val (.long q1), .second, .val (.long q2), .second, .val (.long q3), .second, .val (.int p4), .val (.ref b_170), .val (.ref b_170), .val (.long q1), .second, .val (.long (q1 - q2)), .second, .val (.int (1 : Int32)), .val (.long ((q1 - q2) + q3)), .second, .val (.long q1), .second, .unset, .unset] [])) _
          refine XS.aload X_183.here hx rfl (hb hby at_128) rfl rfl ?_
          show Steps p.tables e below (T_183.setTop (mkF m 130 #[.val (.long q1), .second, .val (.long q2), .second, .val (.long q3), .second, .val (.int p4), .val (.ref b_170), .val (.ref b_170), .val (.long q1), .second, .val (.long (q1 - q2)), .second, .val (.int (1 : Int32)), .val (.long ((q1 - q2) + q3)), .second, .val (.long q1), .second, .unset, .unset] [(.ref b_170)])) _
          refine st_187.trans ?_
          show Steps p.tables e below (T_187.setTop (mkF m 133 #[.val (.long q1), .second, .val (.long q2), .second, .val (.long q3), .second, .val (.int p4), .val (.ref b_170), .val (.ref b_170), .val (.long q1), .second, .val (.long (q1 - q2)), .second, .val (.int (1 : Int32)), .val (.long ((q1 - q2) + q3)), .second, .val (.long q1), .second, .unset, .unset] [(.long (own_ar q3 ((own_ar q1 (0 : Int64)) - q2)))])) _
          refine XS.lload X_187.here hx rfl (hb hby at_133) rfl ?_
          show Steps p.tables e below (T_187.setTop (mkF m 135 #[.val (.long q1), .second, .val (.long q2), .second, .val (.long q3), .second, .val (.int p4), .val (.ref b_170), .val (.ref b_170), .val (.long q1), .second, .val (.long (q1 - q2)), .second, .val (.int (1 : Int32)), .val (.long ((q1 - q2) + q3)), .second, .val (.long q1), .second, .unset, .unset] [(.long ((q1 - q2) + q3)), (.long (own_ar q3 ((own_ar q1 (0 : Int64)) - q2)))])) _
          refine XS.lcmp X_187.here hx rfl (hb hby at_135) rfl ?_
          show Steps p.tables e below (T_187.setTop (mkF m 136 #[.val (.long q1), .second, .val (.long q2), .second, .val (.long q3), .second, .val (.int p4), .val (.ref b_170), .val (.ref b_170), .val (.long q1), .second, .val (.long (q1 - q2)), .second, .val (.int (1 : Int32)), .val (.long ((q1 - q2) + q3)), .second, .val (.long q1), .second, .unset, .unset] [(.int (lcmpW (own_ar q3 ((own_ar q1 (0 : Int64)) - q2)) ((q1 - q2) + q3)))])) _
          refine XS.ifNo X_187.here hx rfl (hb hby at_136) rfl ((if0 _ _).trans (teq ((lw_eq _ _).mpr (by rw [own_ar_eq, own_ar_eq, Int64.zero_add] : (own_ar q3 ((own_ar q1 (0 : Int64)) - q2)) = ((q1 - q2) + q3)))).2) ?_
          show Steps p.tables e below (T_187.setTop (mkF m 139 #[.val (.long q1), .second, .val (.long q2), .second, .val (.long q3), .second, .val (.int p4), .val (.ref b_170), .val (.ref b_170), .val (.long q1), .second, .val (.long (q1 - q2)), .second, .val (.int (1 : Int32)), .val (.long ((q1 - q2) + q3)), .second, .val (.long q1), .second, .unset, .unset] [])) _
          refine XS.aload X_187.here hx rfl (hb hby at_139) rfl rfl ?_
          show Steps p.tables e below (T_187.setTop (mkF m 141 #[.val (.long q1), .second, .val (.long q2), .second, .val (.long q3), .second, .val (.int p4), .val (.ref b_170), .val (.ref b_170), .val (.long q1), .second, .val (.long (q1 - q2)), .second, .val (.int (1 : Int32)), .val (.long ((q1 - q2) + q3)), .second, .val (.long q1), .second, .unset, .unset] [(.ref b_170)])) _
          refine st_188.trans ?_
          show Steps p.tables e below (T_188.setTop (mkF m 144 #[.val (.long q1), .second, .val (.long q2), .second, .val (.long q3), .second, .val (.int p4), .val (.ref b_170), .val (.ref b_170), .val (.long q1), .second, .val (.long (q1 - q2)), .second, .val (.int (1 : Int32)), .val (.long ((q1 - q2) + q3)), .second, .val (.long q1), .second, .unset, .unset] [(.long (own_ap q3 ((own_ar q1 (0 : Int64)) - q2) (own_ap q1 (0 : Int64) (0 : Int64) (0 : Int64)) ((0 : Int64) + q2)))])) _
          refine XS.lload X_188.here hx rfl (hb hby at_144) rfl ?_
          show Steps p.tables e below (T_188.setTop (mkF m 146 #[.val (.long q1), .second, .val (.long q2), .second, .val (.long q3), .second, .val (.int p4), .val (.ref b_170), .val (.ref b_170), .val (.long q1), .second, .val (.long (q1 - q2)), .second, .val (.int (1 : Int32)), .val (.long ((q1 - q2) + q3)), .second, .val (.long q1), .second, .unset, .unset] [(.long q1), (.long (own_ap q3 ((own_ar q1 (0 : Int64)) - q2) (own_ap q1 (0 : Int64) (0 : Int64) (0 : Int64)) ((0 : Int64) + q2)))])) _
          refine XS.lcmp X_188.here hx rfl (hb hby at_146) rfl ?_
          show Steps p.tables e below (T_188.setTop (mkF m 147 #[.val (.long q1), .second, .val (.long q2), .second, .val (.long q3), .second, .val (.int p4), .val (.ref b_170), .val (.ref b_170), .val (.long q1), .second, .val (.long (q1 - q2)), .second, .val (.int (1 : Int32)), .val (.long ((q1 - q2) + q3)), .second, .val (.long q1), .second, .unset, .unset] [(.int (lcmpW (own_ap q3 ((own_ar q1 (0 : Int64)) - q2) (own_ap q1 (0 : Int64) (0 : Int64) (0 : Int64)) ((0 : Int64) + q2)) q1))])) _
          refine XS.ifNo X_188.here hx rfl (hb hby at_147) rfl ((if0 _ _).trans (teq ((lw_eq _ _).mpr (by rw [own_pk]; simp only [if_pos hc47__181, if_pos hc102__186] : (own_ap q3 ((own_ar q1 (0 : Int64)) - q2) (own_ap q1 (0 : Int64) (0 : Int64) (0 : Int64)) ((0 : Int64) + q2)) = q1))).2) ?_
          show Steps p.tables e below (T_188.setTop (mkF m 150 #[.val (.long q1), .second, .val (.long q2), .second, .val (.long q3), .second, .val (.int p4), .val (.ref b_170), .val (.ref b_170), .val (.long q1), .second, .val (.long (q1 - q2)), .second, .val (.int (1 : Int32)), .val (.long ((q1 - q2) + q3)), .second, .val (.long q1), .second, .unset, .unset] [])) _
          refine XS.aload X_188.here hx rfl (hb hby at_150) rfl rfl ?_
          show Steps p.tables e below (T_188.setTop (mkF m 152 #[.val (.long q1), .second, .val (.long q2), .second, .val (.long q3), .second, .val (.int p4), .val (.ref b_170), .val (.ref b_170), .val (.long q1), .second, .val (.long (q1 - q2)), .second, .val (.int (1 : Int32)), .val (.long ((q1 - q2) + q3)), .second, .val (.long q1), .second, .unset, .unset] [(.ref b_170)])) _
          refine st_189.trans ?_
          show Steps p.tables e below (T_189.setTop (mkF m 155 #[.val (.long q1), .second, .val (.long q2), .second, .val (.long q3), .second, .val (.int p4), .val (.ref b_170), .val (.ref b_170), .val (.long q1), .second, .val (.long (q1 - q2)), .second, .val (.int (1 : Int32)), .val (.long ((q1 - q2) + q3)), .second, .val (.long q1), .second, .unset, .unset] [(.long (own_ar q3 ((own_ar q1 (0 : Int64)) - q2)))])) _
          refine XS.lload X_189.here hx rfl (hb hby at_155) rfl ?_
          show Steps p.tables e below (T_189.setTop (mkF m 157 #[.val (.long q1), .second, .val (.long q2), .second, .val (.long q3), .second, .val (.int p4), .val (.ref b_170), .val (.ref b_170), .val (.long q1), .second, .val (.long (q1 - q2)), .second, .val (.int (1 : Int32)), .val (.long ((q1 - q2) + q3)), .second, .val (.long q1), .second, .unset, .unset] [(.long ((q1 - q2) + q3)), (.long (own_ar q3 ((own_ar q1 (0 : Int64)) - q2)))])) _
          refine XS.lcmp X_189.here hx rfl (hb hby at_157) rfl ?_
          show Steps p.tables e below (T_189.setTop (mkF m 158 #[.val (.long q1), .second, .val (.long q2), .second, .val (.long q3), .second, .val (.int p4), .val (.ref b_170), .val (.ref b_170), .val (.long q1), .second, .val (.long (q1 - q2)), .second, .val (.int (1 : Int32)), .val (.long ((q1 - q2) + q3)), .second, .val (.long q1), .second, .unset, .unset] [(.int (lcmpW (own_ar q3 ((own_ar q1 (0 : Int64)) - q2)) ((q1 - q2) + q3)))])) _
          refine XS.ifNo X_189.here hx rfl (hb hby at_158) rfl ((if0 _ _).trans (teq ((lw_eq _ _).mpr (by rw [own_ar_eq, own_ar_eq, Int64.zero_add] : (own_ar q3 ((own_ar q1 (0 : Int64)) - q2)) = ((q1 - q2) + q3)))).2) ?_
          show Steps p.tables e below (T_189.setTop (mkF m 161 #[.val (.long q1), .second, .val (.long q2), .second, .val (.long q3), .second, .val (.int p4), .val (.ref b_170), .val (.ref b_170), .val (.long q1), .second, .val (.long (q1 - q2)), .second, .val (.int (1 : Int32)), .val (.long ((q1 - q2) + q3)), .second, .val (.long q1), .second, .unset, .unset] [])) _
          refine XS.aload X_189.here hx rfl (hb hby at_161) rfl rfl ?_
          show Steps p.tables e below (T_189.setTop (mkF m 163 #[.val (.long q1), .second, .val (.long q2), .second, .val (.long q3), .second, .val (.int p4), .val (.ref b_170), .val (.ref b_170), .val (.long q1), .second, .val (.long (q1 - q2)), .second, .val (.int (1 : Int32)), .val (.long ((q1 - q2) + q3)), .second, .val (.long q1), .second, .unset, .unset] [(.ref b_170)])) _
          refine st_190.trans ?_
          show Steps p.tables e below (T_190.setTop (mkF m 166 #[.val (.long q1), .second, .val (.long q2), .second, .val (.long q3), .second, .val (.int p4), .val (.ref b_170), .val (.ref b_170), .val (.long q1), .second, .val (.long (q1 - q2)), .second, .val (.int (1 : Int32)), .val (.long ((q1 - q2) + q3)), .second, .val (.long q1), .second, .unset, .unset] [(.long (own_ap q3 ((own_ar q1 (0 : Int64)) - q2) (own_ap q1 (0 : Int64) (0 : Int64) (0 : Int64)) ((0 : Int64) + q2)))])) _
          refine XS.lload X_190.here hx rfl (hb hby at_166) rfl ?_
          show Steps p.tables e below (T_190.setTop (mkF m 168 #[.val (.long q1), .second, .val (.long q2), .second, .val (.long q3), .second, .val (.int p4), .val (.ref b_170), .val (.ref b_170), .val (.long q1), .second, .val (.long (q1 - q2)), .second, .val (.int (1 : Int32)), .val (.long ((q1 - q2) + q3)), .second, .val (.long q1), .second, .unset, .unset] [(.long q1), (.long (own_ap q3 ((own_ar q1 (0 : Int64)) - q2) (own_ap q1 (0 : Int64) (0 : Int64) (0 : Int64)) ((0 : Int64) + q2)))])) _
          refine XS.lcmp X_190.here hx rfl (hb hby at_168) rfl ?_
          show Steps p.tables e below (T_190.setTop (mkF m 169 #[.val (.long q1), .second, .val (.long q2), .second, .val (.long q3), .second, .val (.int p4), .val (.ref b_170), .val (.ref b_170), .val (.long q1), .second, .val (.long (q1 - q2)), .second, .val (.int (1 : Int32)), .val (.long ((q1 - q2) + q3)), .second, .val (.long q1), .second, .unset, .unset] [(.int (lcmpW (own_ap q3 ((own_ar q1 (0 : Int64)) - q2) (own_ap q1 (0 : Int64) (0 : Int64) (0 : Int64)) ((0 : Int64) + q2)) q1))])) _
          refine XS.ifNo X_190.here hx rfl (hb hby at_169) rfl ((if0 _ _).trans (teq ((lw_eq _ _).mpr (by rw [own_pk]; simp only [if_pos hc47__181, if_pos hc102__186] : (own_ap q3 ((own_ar q1 (0 : Int64)) - q2) (own_ap q1 (0 : Int64) (0 : Int64) (0 : Int64)) ((0 : Int64) + q2)) = q1))).2) ?_
          show Steps p.tables e below (T_190.setTop (mkF m 172 #[.val (.long q1), .second, .val (.long q2), .second, .val (.long q3), .second, .val (.int p4), .val (.ref b_170), .val (.ref b_170), .val (.long q1), .second, .val (.long (q1 - q2)), .second, .val (.int (1 : Int32)), .val (.long ((q1 - q2) + q3)), .second, .val (.long q1), .second, .unset, .unset] [])) _
          refine XS.iconst X_190.here hx rfl (hb hby at_172) ?_
          show Steps p.tables e below (T_190.setTop (mkF m 173 #[.val (.long q1), .second, .val (.long q2), .second, .val (.long q3), .second, .val (.int p4), .val (.ref b_170), .val (.ref b_170), .val (.long q1), .second, .val (.long (q1 - q2)), .second, .val (.int (1 : Int32)), .val (.long ((q1 - q2) + q3)), .second, .val (.long q1), .second, .unset, .unset] [(.int (1 : Int32))])) _
          refine XS.goto X_190.here hx rfl (pc0 := 173) (pc' := 177) rfl (hb hby at_173) (by decide) (by decide) ?_
          show Steps p.tables e below (T_190.setTop (mkF m 177 #[.val (.long q1), .second, .val (.long q2), .second, .val (.long q3), .second, .val (.int p4), .val (.ref b_170), .val (.ref b_170), .val (.long q1), .second, .val (.long (q1 - q2)), .second, .val (.int (1 : Int32)), .val (.long ((q1 - q2) + q3)), .second, .val (.long q1), .second, .unset, .unset] [(.int (1 : Int32))])) _
          refine XS.istore X_190.here hx rfl (hb hby at_177) rfl (l' := #[.val (.long q1), .second, .val (.long q2), .second, .val (.long q3), .second, .val (.int p4), .val (.ref b_170), .val (.ref b_170), .val (.long q1), .second, .val (.long (q1 - q2)), .second, .val (.int (1 : Int32)), .val (.long ((q1 - q2) + q3)), .second, .val (.long q1), .second, .unset, .unset]) rfl ?_
          show Steps p.tables e below (T_190.setTop (mkF m 179 #[.val (.long q1), .second, .val (.long q2), .second, .val (.long q3), .second, .val (.int p4), .val (.ref b_170), .val (.ref b_170), .val (.long q1), .second, .val (.long (q1 - q2)), .second, .val (.int (1 : Int32)), .val (.long ((q1 - q2) + q3)), .second, .val (.long q1), .second, .unset, .unset] [])) _
          refine XS.iload X_190.here hx rfl (hb hby at_179) rfl ?_
          show Steps p.tables e below (T_190.setTop (mkF m 181 #[.val (.long q1), .second, .val (.long q2), .second, .val (.long q3), .second, .val (.int p4), .val (.ref b_170), .val (.ref b_170), .val (.long q1), .second, .val (.long (q1 - q2)), .second, .val (.int (1 : Int32)), .val (.long ((q1 - q2) + q3)), .second, .val (.long q1), .second, .unset, .unset] [(.int (1 : Int32))])) _
          exact retN X_190 hx (t := .boolean) Bd.returns (by simp) (hb hby at_181) hr
        · show Q0 Z q1 q2 q3 p4 h0 n0 _ T_190.heap _
          rw [e_190]
          exact ⟨rfl, N_190⟩
      · have pre_191 : ∀ t, Steps p.tables e below (T_183.setTop (mkF m 116 #[.val (.long q1), .second, .val (.long q2), .second, .val (.long q3), .second, .val (.int p4), .val (.ref b_170), .val (.ref b_170), .val (.long q1), .second, .val (.long (q1 - q2)), .second, .val (.int (1 : Int32)), .val (.long ((q1 - q2) + q3)), .second, .val (.long q1), .second, .val (.long (q1 + q3)), .second] [(.int (lcmpW (q1 + q3) q1))])) t → Steps p.tables e below (s₁.setTop (entryFrame m #[(.long q1), (.long q2), (.long q3), (.int p4)] maxLocals)) t := fun t k => pre_185 t (by
            show Steps p.tables e below (T_183.setTop (mkF m 102 #[.val (.long q1), .second, .val (.long q2), .second, .val (.long q3), .second, .val (.int p4), .val (.ref b_170), .val (.ref b_170), .val (.long q1), .second, .val (.long (q1 - q2)), .second, .val (.int (1 : Int32)), .val (.long ((q1 - q2) + q3)), .second, .val (.long q1), .second, .unset, .unset] [(.int (lcmpW q3 (0 : Int64)))])) _
            refine XS.ifNo X_183.here hx rfl (hb hby at_102) rfl ((if0 _ _).trans (feq (mt (lw_eq _ _).mp hc102__186)).1) ?_
            show Steps p.tables e below (T_183.setTop (mkF m 105 #[.val (.long q1), .second, .val (.long q2), .second, .val (.long q3), .second, .val (.int p4), .val (.ref b_170), .val (.ref b_170), .val (.long q1), .second, .val (.long (q1 - q2)), .second, .val (.int (1 : Int32)), .val (.long ((q1 - q2) + q3)), .second, .val (.long q1), .second, .unset, .unset] [])) _
            refine XS.lloadN X_183.here hx rfl (hb hby at_105) rfl ?_
            show Steps p.tables e below (T_183.setTop (mkF m 106 #[.val (.long q1), .second, .val (.long q2), .second, .val (.long q3), .second, .val (.int p4), .val (.ref b_170), .val (.ref b_170), .val (.long q1), .second, .val (.long (q1 - q2)), .second, .val (.int (1 : Int32)), .val (.long ((q1 - q2) + q3)), .second, .val (.long q1), .second, .unset, .unset] [(.long q1)])) _
            refine XS.lload X_183.here hx rfl (hb hby at_106) rfl ?_
            show Steps p.tables e below (T_183.setTop (mkF m 108 #[.val (.long q1), .second, .val (.long q2), .second, .val (.long q3), .second, .val (.int p4), .val (.ref b_170), .val (.ref b_170), .val (.long q1), .second, .val (.long (q1 - q2)), .second, .val (.int (1 : Int32)), .val (.long ((q1 - q2) + q3)), .second, .val (.long q1), .second, .unset, .unset] [(.long q3), (.long q1)])) _
            refine XS.ladd X_183.here hx rfl (hb hby at_108) rfl ?_
            show Steps p.tables e below (T_183.setTop (mkF m 109 #[.val (.long q1), .second, .val (.long q2), .second, .val (.long q3), .second, .val (.int p4), .val (.ref b_170), .val (.ref b_170), .val (.long q1), .second, .val (.long (q1 - q2)), .second, .val (.int (1 : Int32)), .val (.long ((q1 - q2) + q3)), .second, .val (.long q1), .second, .unset, .unset] [(.long (q1 + q3))])) _
            refine XS.lstore X_183.here hx rfl (hb hby at_109) rfl (l' := #[.val (.long q1), .second, .val (.long q2), .second, .val (.long q3), .second, .val (.int p4), .val (.ref b_170), .val (.ref b_170), .val (.long q1), .second, .val (.long (q1 - q2)), .second, .val (.int (1 : Int32)), .val (.long ((q1 - q2) + q3)), .second, .val (.long q1), .second, .val (.long (q1 + q3)), .second]) rfl ?_
            show Steps p.tables e below (T_183.setTop (mkF m 111 #[.val (.long q1), .second, .val (.long q2), .second, .val (.long q3), .second, .val (.int p4), .val (.ref b_170), .val (.ref b_170), .val (.long q1), .second, .val (.long (q1 - q2)), .second, .val (.int (1 : Int32)), .val (.long ((q1 - q2) + q3)), .second, .val (.long q1), .second, .val (.long (q1 + q3)), .second] [])) _
            refine XS.lload X_183.here hx rfl (hb hby at_111) rfl ?_
            show Steps p.tables e below (T_183.setTop (mkF m 113 #[.val (.long q1), .second, .val (.long q2), .second, .val (.long q3), .second, .val (.int p4), .val (.ref b_170), .val (.ref b_170), .val (.long q1), .second, .val (.long (q1 - q2)), .second, .val (.int (1 : Int32)), .val (.long ((q1 - q2) + q3)), .second, .val (.long q1), .second, .val (.long (q1 + q3)), .second] [(.long (q1 + q3))])) _
            refine XS.lload X_183.here hx rfl (hb hby at_113) rfl ?_
            show Steps p.tables e below (T_183.setTop (mkF m 115 #[.val (.long q1), .second, .val (.long q2), .second, .val (.long q3), .second, .val (.int p4), .val (.ref b_170), .val (.ref b_170), .val (.long q1), .second, .val (.long (q1 - q2)), .second, .val (.int (1 : Int32)), .val (.long ((q1 - q2) + q3)), .second, .val (.long q1), .second, .val (.long (q1 + q3)), .second] [(.long q1), (.long (q1 + q3))])) _
            refine XS.lcmp X_183.here hx rfl (hb hby at_115) rfl ?_
            exact k)
        by_cases hc116__192 : q1 < (q1 + q3)
        · obtain ⟨cq_193, kq_193, qa_193, qb_193, qc_193⟩ := isOf hZ rfl po_183_0
          obtain ⟨_, _, ⟨T_193, L_193, k_193, n_193⟩, -, X_193, ⟨Lc_193, hQ_193, l_193, y_193, z_193⟩, st_193⟩ := X_183.virtualBack hx (y := (⟨"org/millrace/engine/Footprint", "rows", "()J"⟩ : MethodName)) (z := (⟨"org/millrace/engine/Footprint", "rows", "()J"⟩ : MethodName)) hown (mvT hZ (hw _ (List.mem_of_getElem? (i := 30) rfl))) (mvT hZ (hw _ (List.mem_of_getElem? (i := 31) rfl))) (notFace_of_selects (args := #[]) (mvT hZ (hw _ (List.mem_of_getElem? (i := 33) rfl)))) (mvT hZ (hw _ (List.mem_of_getElem? (i := 33) rfl))) (mvT hZ (hw _ (List.mem_of_getElem? (i := 32) rfl))) (by decide) (backOf (W := 0) (rm6 l Z a0 hw [] b_170 (own_ar q3 ((own_ar q1 (0 : Int64)) - q2)) T_183.heap n0 z_184 po_183_0 po_183_1) hZ (hw _ (List.mem_of_getElem? (i := 34) rfl)) (hw _ (List.mem_of_getElem? (i := 2) rfl)) (by decide) (by decide)) qa_193 qc_193 (g := (mkF m 130 #[.val (.long q1), .second, .val (.long q2), .second, .val (.long q3), .second, .val (.int p4), .val (.ref b_170), .val (.ref b_170), .val (.long q1), .second, .val (.long (q1 - q2)), .second, .val (.int (1 : Int32)), .val (.long ((q1 - q2) + q3)), .second, .val (.long (q1 + q3)), .second, .val (.long (q1 + q3)), .second] [(.ref b_170)])) rfl (by rw [hml]; rfl) (Steps.refl _) (argsL := []) (rest := []) (lenOf pd_3 rfl) rfl (by show 2 * 0 + _ ≤ _; exact Nat.le_of_eq rfl) (hb hby at_130) (fun _ _ => ⟨rfl, rfl, (by decide : 1 + 0 ≤ _), (by decide : 4 + 0 ≤ _)⟩)
          dsimp only [Pt.U, Pt.locs, Pt.cells, Pt.slots] at X_193 l_193 y_193 z_193 st_193 hQ_193
          replace X_193 := castS l_193 y_193 z_193 X_193
          obtain ⟨rfl, Nq_193, e_193⟩ := hQ_193
          have N_193 := Fr.app N_183 Nq_193
          obtain ⟨cq_194, kq_194, qa_194, qb_194, qc_194⟩ := isOf hZ e_193 po_183_0
          obtain ⟨_, _, ⟨T_194, L_194, k_194, n_194⟩, -, X_194, ⟨Lc_194, hQ_194, l_194, y_194, z_194⟩, st_194⟩ := X_193.virtualBack hx (y := (⟨"org/millrace/engine/Footprint", "peak", "()J"⟩ : MethodName)) (z := (⟨"org/millrace/engine/Footprint", "peak", "()J"⟩ : MethodName)) hown (mvT hZ (hw _ (List.mem_of_getElem? (i := 35) rfl))) (mvT hZ (hw _ (List.mem_of_getElem? (i := 36) rfl))) (notFace_of_selects (args := #[]) (mvT hZ (hw _ (List.mem_of_getElem? (i := 38) rfl)))) (mvT hZ (hw _ (List.mem_of_getElem? (i := 38) rfl))) (mvT hZ (hw _ (List.mem_of_getElem? (i := 37) rfl))) (by decide) (backOf (W := 0) (rm7 l Z a0 hw [] b_170 (own_ap q3 ((own_ar q1 (0 : Int64)) - q2) (own_ap q1 (0 : Int64) (0 : Int64) (0 : Int64)) ((0 : Int64) + q2)) T_183.heap n0 z_184 po_183_0 po_183_2) hZ (hw _ (List.mem_of_getElem? (i := 39) rfl)) (hw _ (List.mem_of_getElem? (i := 2) rfl)) (by decide) (by decide)) qa_194 qc_194 (g := (mkF m 141 #[.val (.long q1), .second, .val (.long q2), .second, .val (.long q3), .second, .val (.int p4), .val (.ref b_170), .val (.ref b_170), .val (.long q1), .second, .val (.long (q1 - q2)), .second, .val (.int (1 : Int32)), .val (.long ((q1 - q2) + q3)), .second, .val (.long (q1 + q3)), .second, .val (.long (q1 + q3)), .second] [(.ref b_170)])) rfl (by rw [hml]; rfl) (Steps.refl _) (argsL := []) (rest := []) (lenOf pd_3 rfl) rfl (by show 2 * 0 + _ ≤ _; exact Nat.le_of_eq rfl) (hb hby at_141) (fun _ _ => ⟨rfl, e_193, (by decide : 1 + 0 ≤ _), (by decide : 4 + 0 ≤ _)⟩)
          dsimp only [Pt.U, Pt.locs, Pt.cells, Pt.slots] at X_194 l_194 y_194 z_194 st_194 hQ_194
          replace X_194 := castS l_194 y_194 z_194 X_194
          obtain ⟨rfl, Nq_194, e_194⟩ := hQ_194
          have N_194 := Fr.app N_193 Nq_194
          obtain ⟨cq_195, kq_195, qa_195, qb_195, qc_195⟩ := isOf hZ e_194 po_183_0
          obtain ⟨_, _, ⟨T_195, L_195, k_195, n_195⟩, -, X_195, ⟨Lc_195, hQ_195, l_195, y_195, z_195⟩, st_195⟩ := X_194.virtualBack hx (y := (⟨"org/millrace/engine/Footprint", "rows", "()J"⟩ : MethodName)) (z := (⟨"org/millrace/engine/Footprint", "rows", "()J"⟩ : MethodName)) hown (mvT hZ (hw _ (List.mem_of_getElem? (i := 30) rfl))) (mvT hZ (hw _ (List.mem_of_getElem? (i := 31) rfl))) (notFace_of_selects (args := #[]) (mvT hZ (hw _ (List.mem_of_getElem? (i := 33) rfl)))) (mvT hZ (hw _ (List.mem_of_getElem? (i := 33) rfl))) (mvT hZ (hw _ (List.mem_of_getElem? (i := 32) rfl))) (by decide) (backOf (W := 0) (rm6 l Z a0 hw [] b_170 (own_ar q3 ((own_ar q1 (0 : Int64)) - q2)) T_183.heap n0 z_184 po_183_0 po_183_1) hZ (hw _ (List.mem_of_getElem? (i := 34) rfl)) (hw _ (List.mem_of_getElem? (i := 2) rfl)) (by decide) (by decide)) qa_195 qc_195 (g := (mkF m 152 #[.val (.long q1), .second, .val (.long q2), .second, .val (.long q3), .second, .val (.int p4), .val (.ref b_170), .val (.ref b_170), .val (.long q1), .second, .val (.long (q1 - q2)), .second, .val (.int (1 : Int32)), .val (.long ((q1 - q2) + q3)), .second, .val (.long (q1 + q3)), .second, .val (.long (q1 + q3)), .second] [(.ref b_170)])) rfl (by rw [hml]; rfl) (Steps.refl _) (argsL := []) (rest := []) (lenOf pd_3 rfl) rfl (by show 2 * 0 + _ ≤ _; exact Nat.le_of_eq rfl) (hb hby at_152) (fun _ _ => ⟨rfl, e_194, (by decide : 1 + 0 ≤ _), (by decide : 4 + 0 ≤ _)⟩)
          dsimp only [Pt.U, Pt.locs, Pt.cells, Pt.slots] at X_195 l_195 y_195 z_195 st_195 hQ_195
          replace X_195 := castS l_195 y_195 z_195 X_195
          obtain ⟨rfl, Nq_195, e_195⟩ := hQ_195
          have N_195 := Fr.app N_194 Nq_195
          obtain ⟨cq_196, kq_196, qa_196, qb_196, qc_196⟩ := isOf hZ e_195 po_183_0
          obtain ⟨_, _, ⟨T_196, L_196, k_196, n_196⟩, -, X_196, ⟨Lc_196, hQ_196, l_196, y_196, z_196⟩, st_196⟩ := X_195.virtualBack hx (y := (⟨"org/millrace/engine/Footprint", "peak", "()J"⟩ : MethodName)) (z := (⟨"org/millrace/engine/Footprint", "peak", "()J"⟩ : MethodName)) hown (mvT hZ (hw _ (List.mem_of_getElem? (i := 35) rfl))) (mvT hZ (hw _ (List.mem_of_getElem? (i := 36) rfl))) (notFace_of_selects (args := #[]) (mvT hZ (hw _ (List.mem_of_getElem? (i := 38) rfl)))) (mvT hZ (hw _ (List.mem_of_getElem? (i := 38) rfl))) (mvT hZ (hw _ (List.mem_of_getElem? (i := 37) rfl))) (by decide) (backOf (W := 0) (rm7 l Z a0 hw [] b_170 (own_ap q3 ((own_ar q1 (0 : Int64)) - q2) (own_ap q1 (0 : Int64) (0 : Int64) (0 : Int64)) ((0 : Int64) + q2)) T_183.heap n0 z_184 po_183_0 po_183_2) hZ (hw _ (List.mem_of_getElem? (i := 39) rfl)) (hw _ (List.mem_of_getElem? (i := 2) rfl)) (by decide) (by decide)) qa_196 qc_196 (g := (mkF m 163 #[.val (.long q1), .second, .val (.long q2), .second, .val (.long q3), .second, .val (.int p4), .val (.ref b_170), .val (.ref b_170), .val (.long q1), .second, .val (.long (q1 - q2)), .second, .val (.int (1 : Int32)), .val (.long ((q1 - q2) + q3)), .second, .val (.long (q1 + q3)), .second, .val (.long (q1 + q3)), .second] [(.ref b_170)])) rfl (by rw [hml]; rfl) (Steps.refl _) (argsL := []) (rest := []) (lenOf pd_3 rfl) rfl (by show 2 * 0 + _ ≤ _; exact Nat.le_of_eq rfl) (hb hby at_163) (fun _ _ => ⟨rfl, e_195, (by decide : 1 + 0 ≤ _), (by decide : 4 + 0 ≤ _)⟩)
          dsimp only [Pt.U, Pt.locs, Pt.cells, Pt.slots] at X_196 l_196 y_196 z_196 st_196 hQ_196
          replace X_196 := castS l_196 y_196 z_196 X_196
          obtain ⟨rfl, Nq_196, e_196⟩ := hQ_196
          have N_196 := Fr.app N_195 Nq_196
          obtain ⟨fs, hr, hrun, hended, hW, hsame⟩ := X_196.leave (v := some (.int (1 : Int32))) (fun h => by rw [Bd.returns] at h; cases h)
          refine ⟨_, _, pre_191 _ ?_, hrun, hended, _, _, rfl, ?_, ⟨_, rfl⟩, hW, hsame.mono (by decide) (by decide)⟩
          · show Steps p.tables e below (T_183.setTop (mkF m 116 #[.val (.long q1), .second, .val (.long q2), .second, .val (.long q3), .second, .val (.int p4), .val (.ref b_170), .val (.ref b_170), .val (.long q1), .second, .val (.long (q1 - q2)), .second, .val (.int (1 : Int32)), .val (.long ((q1 - q2) + q3)), .second, .val (.long q1), .second, .val (.long (q1 + q3)), .second] [(.int (lcmpW (q1 + q3) q1))])) _
            refine XS.ifNo X_183.here hx rfl (hb hby at_116) rfl ((if0 _ _).trans (tlt ((lw_gt _ _).mpr hc116__192)).2.2.2) ?_
            show Steps p.tables e below (T_183.setTop (mkF m 119 #[.val (.long q1), .second, .val (.long q2), .second, .val (.long q3), .second, .val (.int p4), .val (.ref b_170), .val (.ref b_170), .val (.long q1), .second, .val (.long (q1 - q2)), .second, .val (.int (1 : Int32)), .val (.long ((q1 - q2) + q3)), .second, .val (.long q1), .second, .val (.long (q1 + q3)), .second] [])) _
            refine XS.lload X_183.here hx rfl (hb hby at_119) rfl ?_
            show Steps p.tables e below (T_183.setTop (mkF m 121 #[.val (.long q1), .second, .val (.long q2), .second, .val (.long q3), .second, .val (.int p4), .val (.ref b_170), .val (.ref b_170), .val (.long q1), .second, .val (.long (q1 - q2)), .second, .val (.int (1 : Int32)), .val (.long ((q1 - q2) + q3)), .second, .val (.long q1), .second, .val (.long (q1 + q3)), .second] [(.long (q1 + q3))])) _
            refine XS.lstore X_183.here hx rfl (hb hby at_121) rfl (l' := #[.val (.long q1), .second, .val (.long q2), .second, .val (.long q3), .second, .val (.int p4), .val (.ref b_170), .val (.ref b_170), .val (.long q1), .second, .val (.long (q1 - q2)), .second, .val (.int (1 : Int32)), .val (.long ((q1 - q2) + q3)), .second, .val (.long (q1 + q3)), .second, .val (.long (q1 + q3)), .second]) rfl ?_
            show Steps p.tables e below (T_183.setTop (mkF m 123 #[.val (.long q1), .second, .val (.long q2), .second, .val (.long q3), .second, .val (.int p4), .val (.ref b_170), .val (.ref b_170), .val (.long q1), .second, .val (.long (q1 - q2)), .second, .val (.int (1 : Int32)), .val (.long ((q1 - q2) + q3)), .second, .val (.long (q1 + q3)), .second, .val (.long (q1 + q3)), .second] [])) _
            refine XS.iload X_183.here hx rfl (hb hby at_123) rfl ?_
            show Steps p.tables e below (T_183.setTop (mkF m 125 #[.val (.long q1), .second, .val (.long q2), .second, .val (.long q3), .second, .val (.int p4), .val (.ref b_170), .val (.ref b_170), .val (.long q1), .second, .val (.long (q1 - q2)), .second, .val (.int (1 : Int32)), .val (.long ((q1 - q2) + q3)), .second, .val (.long (q1 + q3)), .second, .val (.long (q1 + q3)), .second] [(.int (1 : Int32))])) _
            refine XS.ifNo X_183.here hx rfl (hb hby at_125) rfl ((if0 _ _).trans (feq (by decide : ¬ ((1 : Int32) = (0 : Int32)))).1) ?_
            show Steps p.tables e below (T_183.setTop (mkF m 128 #[.val (.long q1), .second, .val (.long q2), .second, .val (.long q3), .second, .val (.int p4), .val (.ref b_170), .val (.ref b_170), .val (.long q1), .second, .val (.long (q1 - q2)), .second, .val (.int (1 : Int32)), .val (.long ((q1 - q2) + q3)), .second, .val (.long (q1 + q3)), .second, .val (.long (q1 + q3)), .second] [])) _
            refine XS.aload X_183.here hx rfl (hb hby at_128) rfl rfl ?_
            show Steps p.tables e below (T_183.setTop (mkF m 130 #[.val (.long q1), .second, .val (.long q2), .second, .val (.long q3), .second, .val (.int p4), .val (.ref b_170), .val (.ref b_170), .val (.long q1), .second, .val (.long (q1 - q2)), .second, .val (.int (1 : Int32)), .val (.long ((q1 - q2) + q3)), .second, .val (.long (q1 + q3)), .second, .val (.long (q1 + q3)), .second] [(.ref b_170)])) _
            refine st_193.trans ?_
            show Steps p.tables e below (T_193.setTop (mkF m 133 #[.val (.long q1), .second, .val (.long q2), .second, .val (.long q3), .second, .val (.int p4), .val (.ref b_170), .val (.ref b_170), .val (.long q1), .second, .val (.long (q1 - q2)), .second, .val (.int (1 : Int32)), .val (.long ((q1 - q2) + q3)), .second, .val (.long (q1 + q3)), .second, .val (.long (q1 + q3)), .second] [(.long (own_ar q3 ((own_ar q1 (0 : Int64)) - q2)))])) _
            refine XS.lload X_193.here hx rfl (hb hby at_133) rfl ?_
            show Steps p.tables e below (T_193.setTop (mkF m 135 #[.val (.long q1), .second, .val (.long q2), .second, .val (.long q3), .second, .val (.int p4), .val (.ref b_170), .val (.ref b_170), .val (.long q1), .second, .val (.long (q1 - q2)), .second, .val (.int (1 : Int32)), .val (.long ((q1 - q2) + q3)), .second, .val (.long (q1 + q3)), .second, .val (.long (q1 + q3)), .second] [(.long ((q1 - q2) + q3)), (.long (own_ar q3 ((own_ar q1 (0 : Int64)) - q2)))])) _
            refine XS.lcmp X_193.here hx rfl (hb hby at_135) rfl ?_
            show Steps p.tables e below (T_193.setTop (mkF m 136 #[.val (.long q1), .second, .val (.long q2), .second, .val (.long q3), .second, .val (.int p4), .val (.ref b_170), .val (.ref b_170), .val (.long q1), .second, .val (.long (q1 - q2)), .second, .val (.int (1 : Int32)), .val (.long ((q1 - q2) + q3)), .second, .val (.long (q1 + q3)), .second, .val (.long (q1 + q3)), .second] [(.int (lcmpW (own_ar q3 ((own_ar q1 (0 : Int64)) - q2)) ((q1 - q2) + q3)))])) _
            refine XS.ifNo X_193.here hx rfl (hb hby at_136) rfl ((if0 _ _).trans (teq ((lw_eq _ _).mpr (by rw [own_ar_eq, own_ar_eq, Int64.zero_add] : (own_ar q3 ((own_ar q1 (0 : Int64)) - q2)) = ((q1 - q2) + q3)))).2) ?_
            show Steps p.tables e below (T_193.setTop (mkF m 139 #[.val (.long q1), .second, .val (.long q2), .second, .val (.long q3), .second, .val (.int p4), .val (.ref b_170), .val (.ref b_170), .val (.long q1), .second, .val (.long (q1 - q2)), .second, .val (.int (1 : Int32)), .val (.long ((q1 - q2) + q3)), .second, .val (.long (q1 + q3)), .second, .val (.long (q1 + q3)), .second] [])) _
            refine XS.aload X_193.here hx rfl (hb hby at_139) rfl rfl ?_
            show Steps p.tables e below (T_193.setTop (mkF m 141 #[.val (.long q1), .second, .val (.long q2), .second, .val (.long q3), .second, .val (.int p4), .val (.ref b_170), .val (.ref b_170), .val (.long q1), .second, .val (.long (q1 - q2)), .second, .val (.int (1 : Int32)), .val (.long ((q1 - q2) + q3)), .second, .val (.long (q1 + q3)), .second, .val (.long (q1 + q3)), .second] [(.ref b_170)])) _
            refine st_194.trans ?_
            show Steps p.tables e below (T_194.setTop (mkF m 144 #[.val (.long q1), .second, .val (.long q2), .second, .val (.long q3), .second, .val (.int p4), .val (.ref b_170), .val (.ref b_170), .val (.long q1), .second, .val (.long (q1 - q2)), .second, .val (.int (1 : Int32)), .val (.long ((q1 - q2) + q3)), .second, .val (.long (q1 + q3)), .second, .val (.long (q1 + q3)), .second] [(.long (own_ap q3 ((own_ar q1 (0 : Int64)) - q2) (own_ap q1 (0 : Int64) (0 : Int64) (0 : Int64)) ((0 : Int64) + q2)))])) _
            refine XS.lload X_194.here hx rfl (hb hby at_144) rfl ?_
            show Steps p.tables e below (T_194.setTop (mkF m 146 #[.val (.long q1), .second, .val (.long q2), .second, .val (.long q3), .second, .val (.int p4), .val (.ref b_170), .val (.ref b_170), .val (.long q1), .second, .val (.long (q1 - q2)), .second, .val (.int (1 : Int32)), .val (.long ((q1 - q2) + q3)), .second, .val (.long (q1 + q3)), .second, .val (.long (q1 + q3)), .second] [(.long (q1 + q3)), (.long (own_ap q3 ((own_ar q1 (0 : Int64)) - q2) (own_ap q1 (0 : Int64) (0 : Int64) (0 : Int64)) ((0 : Int64) + q2)))])) _
            refine XS.lcmp X_194.here hx rfl (hb hby at_146) rfl ?_
            show Steps p.tables e below (T_194.setTop (mkF m 147 #[.val (.long q1), .second, .val (.long q2), .second, .val (.long q3), .second, .val (.int p4), .val (.ref b_170), .val (.ref b_170), .val (.long q1), .second, .val (.long (q1 - q2)), .second, .val (.int (1 : Int32)), .val (.long ((q1 - q2) + q3)), .second, .val (.long (q1 + q3)), .second, .val (.long (q1 + q3)), .second] [(.int (lcmpW (own_ap q3 ((own_ar q1 (0 : Int64)) - q2) (own_ap q1 (0 : Int64) (0 : Int64) (0 : Int64)) ((0 : Int64) + q2)) (q1 + q3)))])) _
            refine XS.ifNo X_194.here hx rfl (hb hby at_147) rfl ((if0 _ _).trans (teq ((lw_eq _ _).mpr (by rw [own_pk]; simp only [if_pos hc47__181, if_neg hc102__186, if_pos hc116__192] : (own_ap q3 ((own_ar q1 (0 : Int64)) - q2) (own_ap q1 (0 : Int64) (0 : Int64) (0 : Int64)) ((0 : Int64) + q2)) = (q1 + q3)))).2) ?_
            show Steps p.tables e below (T_194.setTop (mkF m 150 #[.val (.long q1), .second, .val (.long q2), .second, .val (.long q3), .second, .val (.int p4), .val (.ref b_170), .val (.ref b_170), .val (.long q1), .second, .val (.long (q1 - q2)), .second, .val (.int (1 : Int32)), .val (.long ((q1 - q2) + q3)), .second, .val (.long (q1 + q3)), .second, .val (.long (q1 + q3)), .second] [])) _
            refine XS.aload X_194.here hx rfl (hb hby at_150) rfl rfl ?_
            show Steps p.tables e below (T_194.setTop (mkF m 152 #[.val (.long q1), .second, .val (.long q2), .second, .val (.long q3), .second, .val (.int p4), .val (.ref b_170), .val (.ref b_170), .val (.long q1), .second, .val (.long (q1 - q2)), .second, .val (.int (1 : Int32)), .val (.long ((q1 - q2) + q3)), .second, .val (.long (q1 + q3)), .second, .val (.long (q1 + q3)), .second] [(.ref b_170)])) _
            refine st_195.trans ?_
            show Steps p.tables e below (T_195.setTop (mkF m 155 #[.val (.long q1), .second, .val (.long q2), .second, .val (.long q3), .second, .val (.int p4), .val (.ref b_170), .val (.ref b_170), .val (.long q1), .second, .val (.long (q1 - q2)), .second, .val (.int (1 : Int32)), .val (.long ((q1 - q2) + q3)), .second, .val (.long (q1 + q3)), .second, .val (.long (q1 + q3)), .second] [(.long (own_ar q3 ((own_ar q1 (0 : Int64)) - q2)))])) _
            refine XS.lload X_195.here hx rfl (hb hby at_155) rfl ?_
            show Steps p.tables e below (T_195.setTop (mkF m 157 #[.val (.long q1), .second, .val (.long q2), .second, .val (.long q3), .second, .val (.int p4), .val (.ref b_170), .val (.ref b_170), .val (.long q1), .second, .val (.long (q1 - q2)), .second, .val (.int (1 : Int32)), .val (.long ((q1 - q2) + q3)), .second, .val (.long (q1 + q3)), .second, .val (.long (q1 + q3)), .second] [(.long ((q1 - q2) + q3)), (.long (own_ar q3 ((own_ar q1 (0 : Int64)) - q2)))])) _
            refine XS.lcmp X_195.here hx rfl (hb hby at_157) rfl ?_
            show Steps p.tables e below (T_195.setTop (mkF m 158 #[.val (.long q1), .second, .val (.long q2), .second, .val (.long q3), .second, .val (.int p4), .val (.ref b_170), .val (.ref b_170), .val (.long q1), .second, .val (.long (q1 - q2)), .second, .val (.int (1 : Int32)), .val (.long ((q1 - q2) + q3)), .second, .val (.long (q1 + q3)), .second, .val (.long (q1 + q3)), .second] [(.int (lcmpW (own_ar q3 ((own_ar q1 (0 : Int64)) - q2)) ((q1 - q2) + q3)))])) _
            refine XS.ifNo X_195.here hx rfl (hb hby at_158) rfl ((if0 _ _).trans (teq ((lw_eq _ _).mpr (by rw [own_ar_eq, own_ar_eq, Int64.zero_add] : (own_ar q3 ((own_ar q1 (0 : Int64)) - q2)) = ((q1 - q2) + q3)))).2) ?_
            show Steps p.tables e below (T_195.setTop (mkF m 161 #[.val (.long q1), .second, .val (.long q2), .second, .val (.long q3), .second, .val (.int p4), .val (.ref b_170), .val (.ref b_170), .val (.long q1), .second, .val (.long (q1 - q2)), .second, .val (.int (1 : Int32)), .val (.long ((q1 - q2) + q3)), .second, .val (.long (q1 + q3)), .second, .val (.long (q1 + q3)), .second] [])) _
            refine XS.aload X_195.here hx rfl (hb hby at_161) rfl rfl ?_
            show Steps p.tables e below (T_195.setTop (mkF m 163 #[.val (.long q1), .second, .val (.long q2), .second, .val (.long q3), .second, .val (.int p4), .val (.ref b_170), .val (.ref b_170), .val (.long q1), .second, .val (.long (q1 - q2)), .second, .val (.int (1 : Int32)), .val (.long ((q1 - q2) + q3)), .second, .val (.long (q1 + q3)), .second, .val (.long (q1 + q3)), .second] [(.ref b_170)])) _
            refine st_196.trans ?_
            show Steps p.tables e below (T_196.setTop (mkF m 166 #[.val (.long q1), .second, .val (.long q2), .second, .val (.long q3), .second, .val (.int p4), .val (.ref b_170), .val (.ref b_170), .val (.long q1), .second, .val (.long (q1 - q2)), .second, .val (.int (1 : Int32)), .val (.long ((q1 - q2) + q3)), .second, .val (.long (q1 + q3)), .second, .val (.long (q1 + q3)), .second] [(.long (own_ap q3 ((own_ar q1 (0 : Int64)) - q2) (own_ap q1 (0 : Int64) (0 : Int64) (0 : Int64)) ((0 : Int64) + q2)))])) _
            refine XS.lload X_196.here hx rfl (hb hby at_166) rfl ?_
            show Steps p.tables e below (T_196.setTop (mkF m 168 #[.val (.long q1), .second, .val (.long q2), .second, .val (.long q3), .second, .val (.int p4), .val (.ref b_170), .val (.ref b_170), .val (.long q1), .second, .val (.long (q1 - q2)), .second, .val (.int (1 : Int32)), .val (.long ((q1 - q2) + q3)), .second, .val (.long (q1 + q3)), .second, .val (.long (q1 + q3)), .second] [(.long (q1 + q3)), (.long (own_ap q3 ((own_ar q1 (0 : Int64)) - q2) (own_ap q1 (0 : Int64) (0 : Int64) (0 : Int64)) ((0 : Int64) + q2)))])) _
            refine XS.lcmp X_196.here hx rfl (hb hby at_168) rfl ?_
            show Steps p.tables e below (T_196.setTop (mkF m 169 #[.val (.long q1), .second, .val (.long q2), .second, .val (.long q3), .second, .val (.int p4), .val (.ref b_170), .val (.ref b_170), .val (.long q1), .second, .val (.long (q1 - q2)), .second, .val (.int (1 : Int32)), .val (.long ((q1 - q2) + q3)), .second, .val (.long (q1 + q3)), .second, .val (.long (q1 + q3)), .second] [(.int (lcmpW (own_ap q3 ((own_ar q1 (0 : Int64)) - q2) (own_ap q1 (0 : Int64) (0 : Int64) (0 : Int64)) ((0 : Int64) + q2)) (q1 + q3)))])) _
            refine XS.ifNo X_196.here hx rfl (hb hby at_169) rfl ((if0 _ _).trans (teq ((lw_eq _ _).mpr (by rw [own_pk]; simp only [if_pos hc47__181, if_neg hc102__186, if_pos hc116__192] : (own_ap q3 ((own_ar q1 (0 : Int64)) - q2) (own_ap q1 (0 : Int64) (0 : Int64) (0 : Int64)) ((0 : Int64) + q2)) = (q1 + q3)))).2) ?_
            show Steps p.tables e below (T_196.setTop (mkF m 172 #[.val (.long q1), .second, .val (.long q2), .second, .val (.long q3), .second, .val (.int p4), .val (.ref b_170), .val (.ref b_170), .val (.long q1), .second, .val (.long (q1 - q2)), .second, .val (.int (1 : Int32)), .val (.long ((q1 - q2) + q3)), .second, .val (.long (q1 + q3)), .second, .val (.long (q1 + q3)), .second] [])) _
            refine XS.iconst X_196.here hx rfl (hb hby at_172) ?_
            show Steps p.tables e below (T_196.setTop (mkF m 173 #[.val (.long q1), .second, .val (.long q2), .second, .val (.long q3), .second, .val (.int p4), .val (.ref b_170), .val (.ref b_170), .val (.long q1), .second, .val (.long (q1 - q2)), .second, .val (.int (1 : Int32)), .val (.long ((q1 - q2) + q3)), .second, .val (.long (q1 + q3)), .second, .val (.long (q1 + q3)), .second] [(.int (1 : Int32))])) _
            refine XS.goto X_196.here hx rfl (pc0 := 173) (pc' := 177) rfl (hb hby at_173) (by decide) (by decide) ?_
            show Steps p.tables e below (T_196.setTop (mkF m 177 #[.val (.long q1), .second, .val (.long q2), .second, .val (.long q3), .second, .val (.int p4), .val (.ref b_170), .val (.ref b_170), .val (.long q1), .second, .val (.long (q1 - q2)), .second, .val (.int (1 : Int32)), .val (.long ((q1 - q2) + q3)), .second, .val (.long (q1 + q3)), .second, .val (.long (q1 + q3)), .second] [(.int (1 : Int32))])) _
            refine XS.istore X_196.here hx rfl (hb hby at_177) rfl (l' := #[.val (.long q1), .second, .val (.long q2), .second, .val (.long q3), .second, .val (.int p4), .val (.ref b_170), .val (.ref b_170), .val (.long q1), .second, .val (.long (q1 - q2)), .second, .val (.int (1 : Int32)), .val (.long ((q1 - q2) + q3)), .second, .val (.long (q1 + q3)), .second, .val (.long (q1 + q3)), .second]) rfl ?_
            show Steps p.tables e below (T_196.setTop (mkF m 179 #[.val (.long q1), .second, .val (.long q2), .second, .val (.long q3), .second, .val (.int p4), .val (.ref b_170), .val (.ref b_170), .val (.long q1), .second, .val (.long (q1 - q2)), .second, .val (.int (1 : Int32)), .val (.long ((q1 - q2) + q3)), .second, .val (.long (q1 + q3)), .second, .val (.long (q1 + q3)), .second] [])) _
            refine XS.iload X_196.here hx rfl (hb hby at_179) rfl ?_
            show Steps p.tables e below (T_196.setTop (mkF m 181 #[.val (.long q1), .second, .val (.long q2), .second, .val (.long q3), .second, .val (.int p4), .val (.ref b_170), .val (.ref b_170), .val (.long q1), .second, .val (.long (q1 - q2)), .second, .val (.int (1 : Int32)), .val (.long ((q1 - q2) + q3)), .second, .val (.long (q1 + q3)), .second, .val (.long (q1 + q3)), .second] [(.int (1 : Int32))])) _
            exact retN X_196 hx (t := .boolean) Bd.returns (by simp) (hb hby at_181) hr
          · show Q0 Z q1 q2 q3 p4 h0 n0 _ T_196.heap _
            rw [e_196]
            exact ⟨rfl, N_196⟩
        · obtain ⟨cq_197, kq_197, qa_197, qb_197, qc_197⟩ := isOf hZ rfl po_183_0
          obtain ⟨_, _, ⟨T_197, L_197, k_197, n_197⟩, -, X_197, ⟨Lc_197, hQ_197, l_197, y_197, z_197⟩, st_197⟩ := X_183.virtualBack hx (y := (⟨"org/millrace/engine/Footprint", "rows", "()J"⟩ : MethodName)) (z := (⟨"org/millrace/engine/Footprint", "rows", "()J"⟩ : MethodName)) hown (mvT hZ (hw _ (List.mem_of_getElem? (i := 30) rfl))) (mvT hZ (hw _ (List.mem_of_getElem? (i := 31) rfl))) (notFace_of_selects (args := #[]) (mvT hZ (hw _ (List.mem_of_getElem? (i := 33) rfl)))) (mvT hZ (hw _ (List.mem_of_getElem? (i := 33) rfl))) (mvT hZ (hw _ (List.mem_of_getElem? (i := 32) rfl))) (by decide) (backOf (W := 0) (rm6 l Z a0 hw [] b_170 (own_ar q3 ((own_ar q1 (0 : Int64)) - q2)) T_183.heap n0 z_184 po_183_0 po_183_1) hZ (hw _ (List.mem_of_getElem? (i := 34) rfl)) (hw _ (List.mem_of_getElem? (i := 2) rfl)) (by decide) (by decide)) qa_197 qc_197 (g := (mkF m 130 #[.val (.long q1), .second, .val (.long q2), .second, .val (.long q3), .second, .val (.int p4), .val (.ref b_170), .val (.ref b_170), .val (.long q1), .second, .val (.long (q1 - q2)), .second, .val (.int (1 : Int32)), .val (.long ((q1 - q2) + q3)), .second, .val (.long q1), .second, .val (.long (q1 + q3)), .second] [(.ref b_170)])) rfl (by rw [hml]; rfl) (Steps.refl _) (argsL := []) (rest := []) (lenOf pd_3 rfl) rfl (by show 2 * 0 + _ ≤ _; exact Nat.le_of_eq rfl) (hb hby at_130) (fun _ _ => ⟨rfl, rfl, (by decide : 1 + 0 ≤ _), (by decide : 4 + 0 ≤ _)⟩)
          dsimp only [Pt.U, Pt.locs, Pt.cells, Pt.slots] at X_197 l_197 y_197 z_197 st_197 hQ_197
          replace X_197 := castS l_197 y_197 z_197 X_197
          obtain ⟨rfl, Nq_197, e_197⟩ := hQ_197
          have N_197 := Fr.app N_183 Nq_197
          obtain ⟨cq_198, kq_198, qa_198, qb_198, qc_198⟩ := isOf hZ e_197 po_183_0
          obtain ⟨_, _, ⟨T_198, L_198, k_198, n_198⟩, -, X_198, ⟨Lc_198, hQ_198, l_198, y_198, z_198⟩, st_198⟩ := X_197.virtualBack hx (y := (⟨"org/millrace/engine/Footprint", "peak", "()J"⟩ : MethodName)) (z := (⟨"org/millrace/engine/Footprint", "peak", "()J"⟩ : MethodName)) hown (mvT hZ (hw _ (List.mem_of_getElem? (i := 35) rfl))) (mvT hZ (hw _ (List.mem_of_getElem? (i := 36) rfl))) (notFace_of_selects (args := #[]) (mvT hZ (hw _ (List.mem_of_getElem? (i := 38) rfl)))) (mvT hZ (hw _ (List.mem_of_getElem? (i := 38) rfl))) (mvT hZ (hw _ (List.mem_of_getElem? (i := 37) rfl))) (by decide) (backOf (W := 0) (rm7 l Z a0 hw [] b_170 (own_ap q3 ((own_ar q1 (0 : Int64)) - q2) (own_ap q1 (0 : Int64) (0 : Int64) (0 : Int64)) ((0 : Int64) + q2)) T_183.heap n0 z_184 po_183_0 po_183_2) hZ (hw _ (List.mem_of_getElem? (i := 39) rfl)) (hw _ (List.mem_of_getElem? (i := 2) rfl)) (by decide) (by decide)) qa_198 qc_198 (g := (mkF m 141 #[.val (.long q1), .second, .val (.long q2), .second, .val (.long q3), .second, .val (.int p4), .val (.ref b_170), .val (.ref b_170), .val (.long q1), .second, .val (.long (q1 - q2)), .second, .val (.int (1 : Int32)), .val (.long ((q1 - q2) + q3)), .second, .val (.long q1), .second, .val (.long (q1 + q3)), .second] [(.ref b_170)])) rfl (by rw [hml]; rfl) (Steps.refl _) (argsL := []) (rest := []) (lenOf pd_3 rfl) rfl (by show 2 * 0 + _ ≤ _; exact Nat.le_of_eq rfl) (hb hby at_141) (fun _ _ => ⟨rfl, e_197, (by decide : 1 + 0 ≤ _), (by decide : 4 + 0 ≤ _)⟩)
          dsimp only [Pt.U, Pt.locs, Pt.cells, Pt.slots] at X_198 l_198 y_198 z_198 st_198 hQ_198
          replace X_198 := castS l_198 y_198 z_198 X_198
          obtain ⟨rfl, Nq_198, e_198⟩ := hQ_198
          have N_198 := Fr.app N_197 Nq_198
          obtain ⟨cq_199, kq_199, qa_199, qb_199, qc_199⟩ := isOf hZ e_198 po_183_0
          obtain ⟨_, _, ⟨T_199, L_199, k_199, n_199⟩, -, X_199, ⟨Lc_199, hQ_199, l_199, y_199, z_199⟩, st_199⟩ := X_198.virtualBack hx (y := (⟨"org/millrace/engine/Footprint", "rows", "()J"⟩ : MethodName)) (z := (⟨"org/millrace/engine/Footprint", "rows", "()J"⟩ : MethodName)) hown (mvT hZ (hw _ (List.mem_of_getElem? (i := 30) rfl))) (mvT hZ (hw _ (List.mem_of_getElem? (i := 31) rfl))) (notFace_of_selects (args := #[]) (mvT hZ (hw _ (List.mem_of_getElem? (i := 33) rfl)))) (mvT hZ (hw _ (List.mem_of_getElem? (i := 33) rfl))) (mvT hZ (hw _ (List.mem_of_getElem? (i := 32) rfl))) (by decide) (backOf (W := 0) (rm6 l Z a0 hw [] b_170 (own_ar q3 ((own_ar q1 (0 : Int64)) - q2)) T_183.heap n0 z_184 po_183_0 po_183_1) hZ (hw _ (List.mem_of_getElem? (i := 34) rfl)) (hw _ (List.mem_of_getElem? (i := 2) rfl)) (by decide) (by decide)) qa_199 qc_199 (g := (mkF m 152 #[.val (.long q1), .second, .val (.long q2), .second, .val (.long q3), .second, .val (.int p4), .val (.ref b_170), .val (.ref b_170), .val (.long q1), .second, .val (.long (q1 - q2)), .second, .val (.int (1 : Int32)), .val (.long ((q1 - q2) + q3)), .second, .val (.long q1), .second, .val (.long (q1 + q3)), .second] [(.ref b_170)])) rfl (by rw [hml]; rfl) (Steps.refl _) (argsL := []) (rest := []) (lenOf pd_3 rfl) rfl (by show 2 * 0 + _ ≤ _; exact Nat.le_of_eq rfl) (hb hby at_152) (fun _ _ => ⟨rfl, e_198, (by decide : 1 + 0 ≤ _), (by decide : 4 + 0 ≤ _)⟩)
          dsimp only [Pt.U, Pt.locs, Pt.cells, Pt.slots] at X_199 l_199 y_199 z_199 st_199 hQ_199
          replace X_199 := castS l_199 y_199 z_199 X_199
          obtain ⟨rfl, Nq_199, e_199⟩ := hQ_199
          have N_199 := Fr.app N_198 Nq_199
          obtain ⟨cq_200, kq_200, qa_200, qb_200, qc_200⟩ := isOf hZ e_199 po_183_0
          obtain ⟨_, _, ⟨T_200, L_200, k_200, n_200⟩, -, X_200, ⟨Lc_200, hQ_200, l_200, y_200, z_200⟩, st_200⟩ := X_199.virtualBack hx (y := (⟨"org/millrace/engine/Footprint", "peak", "()J"⟩ : MethodName)) (z := (⟨"org/millrace/engine/Footprint", "peak", "()J"⟩ : MethodName)) hown (mvT hZ (hw _ (List.mem_of_getElem? (i := 35) rfl))) (mvT hZ (hw _ (List.mem_of_getElem? (i := 36) rfl))) (notFace_of_selects (args := #[]) (mvT hZ (hw _ (List.mem_of_getElem? (i := 38) rfl)))) (mvT hZ (hw _ (List.mem_of_getElem? (i := 38) rfl))) (mvT hZ (hw _ (List.mem_of_getElem? (i := 37) rfl))) (by decide) (backOf (W := 0) (rm7 l Z a0 hw [] b_170 (own_ap q3 ((own_ar q1 (0 : Int64)) - q2) (own_ap q1 (0 : Int64) (0 : Int64) (0 : Int64)) ((0 : Int64) + q2)) T_183.heap n0 z_184 po_183_0 po_183_2) hZ (hw _ (List.mem_of_getElem? (i := 39) rfl)) (hw _ (List.mem_of_getElem? (i := 2) rfl)) (by decide) (by decide)) qa_200 qc_200 (g := (mkF m 163 #[.val (.long q1), .second, .val (.long q2), .second, .val (.long q3), .second, .val (.int p4), .val (.ref b_170), .val (.ref b_170), .val (.long q1), .second, .val (.long (q1 - q2)), .second, .val (.int (1 : Int32)), .val (.long ((q1 - q2) + q3)), .second, .val (.long q1), .second, .val (.long (q1 + q3)), .second] [(.ref b_170)])) rfl (by rw [hml]; rfl) (Steps.refl _) (argsL := []) (rest := []) (lenOf pd_3 rfl) rfl (by show 2 * 0 + _ ≤ _; exact Nat.le_of_eq rfl) (hb hby at_163) (fun _ _ => ⟨rfl, e_199, (by decide : 1 + 0 ≤ _), (by decide : 4 + 0 ≤ _)⟩)
          dsimp only [Pt.U, Pt.locs, Pt.cells, Pt.slots] at X_200 l_200 y_200 z_200 st_200 hQ_200
          replace X_200 := castS l_200 y_200 z_200 X_200
          obtain ⟨rfl, Nq_200, e_200⟩ := hQ_200
          have N_200 := Fr.app N_199 Nq_200
          obtain ⟨fs, hr, hrun, hended, hW, hsame⟩ := X_200.leave (v := some (.int (1 : Int32))) (fun h => by rw [Bd.returns] at h; cases h)
          refine ⟨_, _, pre_191 _ ?_, hrun, hended, _, _, rfl, ?_, ⟨_, rfl⟩, hW, hsame.mono (by decide) (by decide)⟩
          · show Steps p.tables e below (T_183.setTop (mkF m 116 #[.val (.long q1), .second, .val (.long q2), .second, .val (.long q3), .second, .val (.int p4), .val (.ref b_170), .val (.ref b_170), .val (.long q1), .second, .val (.long (q1 - q2)), .second, .val (.int (1 : Int32)), .val (.long ((q1 - q2) + q3)), .second, .val (.long q1), .second, .val (.long (q1 + q3)), .second] [(.int (lcmpW (q1 + q3) q1))])) _
            refine XS.ifYes X_183.here hx rfl (pc0 := 116) (pc' := 123) rfl (hb hby at_116) rfl ((if0 _ _).trans (flt (mt (lw_gt _ _).mp hc116__192)).2.2.2) (by decide) (by decide) ?_
            show Steps p.tables e below (T_183.setTop (mkF m 123 #[.val (.long q1), .second, .val (.long q2), .second, .val (.long q3), .second, .val (.int p4), .val (.ref b_170), .val (.ref b_170), .val (.long q1), .second, .val (.long (q1 - q2)), .second, .val (.int (1 : Int32)), .val (.long ((q1 - q2) + q3)), .second, .val (.long q1), .second, .val (.long (q1 + q3)), .second] [])) _
            refine XS.iload X_183.here hx rfl (hb hby at_123) rfl ?_
            show Steps p.tables e below (T_183.setTop (mkF m 125 #[.val (.long q1), .second, .val (.long q2), .second, .val (.long q3), .second, .val (.int p4), .val (.ref b_170), .val (.ref b_170), .val (.long q1), .second, .val (.long (q1 - q2)), .second, .val (.int (1 : Int32)), .val (.long ((q1 - q2) + q3)), .second, .val (.long q1), .second, .val (.long (q1 + q3)), .second] [(.int (1 : Int32))])) _
            refine XS.ifNo X_183.here hx rfl (hb hby at_125) rfl ((if0 _ _).trans (feq (by decide : ¬ ((1 : Int32) = (0 : Int32)))).1) ?_
            show Steps p.tables e below (T_183.setTop (mkF m 128 #[.val (.long q1), .second, .val (.long q2), .second, .val (.long q3), .second, .val (.int p4), .val (.ref b_170), .val (.ref b_170), .val (.long q1), .second, .val (.long (q1 - q2)), .second, .val (.int (1 : Int32)), .val (.long ((q1 - q2) + q3)), .second, .val (.long q1), .second, .val (.long (q1 + q3)), .second] [])) _
            refine XS.aload X_183.here hx rfl (hb hby at_128) rfl rfl ?_
            show Steps p.tables e below (T_183.setTop (mkF m 130 #[.val (.long q1), .second, .val (.long q2), .second, .val (.long q3), .second, .val (.int p4), .val (.ref b_170), .val (.ref b_170), .val (.long q1), .second, .val (.long (q1 - q2)), .second, .val (.int (1 : Int32)), .val (.long ((q1 - q2) + q3)), .second, .val (.long q1), .second, .val (.long (q1 + q3)), .second] [(.ref b_170)])) _
            refine st_197.trans ?_
            show Steps p.tables e below (T_197.setTop (mkF m 133 #[.val (.long q1), .second, .val (.long q2), .second, .val (.long q3), .second, .val (.int p4), .val (.ref b_170), .val (.ref b_170), .val (.long q1), .second, .val (.long (q1 - q2)), .second, .val (.int (1 : Int32)), .val (.long ((q1 - q2) + q3)), .second, .val (.long q1), .second, .val (.long (q1 + q3)), .second] [(.long (own_ar q3 ((own_ar q1 (0 : Int64)) - q2)))])) _
            refine XS.lload X_197.here hx rfl (hb hby at_133) rfl ?_
            show Steps p.tables e below (T_197.setTop (mkF m 135 #[.val (.long q1), .second, .val (.long q2), .second, .val (.long q3), .second, .val (.int p4), .val (.ref b_170), .val (.ref b_170), .val (.long q1), .second, .val (.long (q1 - q2)), .second, .val (.int (1 : Int32)), .val (.long ((q1 - q2) + q3)), .second, .val (.long q1), .second, .val (.long (q1 + q3)), .second] [(.long ((q1 - q2) + q3)), (.long (own_ar q3 ((own_ar q1 (0 : Int64)) - q2)))])) _
            refine XS.lcmp X_197.here hx rfl (hb hby at_135) rfl ?_
            show Steps p.tables e below (T_197.setTop (mkF m 136 #[.val (.long q1), .second, .val (.long q2), .second, .val (.long q3), .second, .val (.int p4), .val (.ref b_170), .val (.ref b_170), .val (.long q1), .second, .val (.long (q1 - q2)), .second, .val (.int (1 : Int32)), .val (.long ((q1 - q2) + q3)), .second, .val (.long q1), .second, .val (.long (q1 + q3)), .second] [(.int (lcmpW (own_ar q3 ((own_ar q1 (0 : Int64)) - q2)) ((q1 - q2) + q3)))])) _
            refine XS.ifNo X_197.here hx rfl (hb hby at_136) rfl ((if0 _ _).trans (teq ((lw_eq _ _).mpr (by rw [own_ar_eq, own_ar_eq, Int64.zero_add] : (own_ar q3 ((own_ar q1 (0 : Int64)) - q2)) = ((q1 - q2) + q3)))).2) ?_
            show Steps p.tables e below (T_197.setTop (mkF m 139 #[.val (.long q1), .second, .val (.long q2), .second, .val (.long q3), .second, .val (.int p4), .val (.ref b_170), .val (.ref b_170), .val (.long q1), .second, .val (.long (q1 - q2)), .second, .val (.int (1 : Int32)), .val (.long ((q1 - q2) + q3)), .second, .val (.long q1), .second, .val (.long (q1 + q3)), .second] [])) _
            refine XS.aload X_197.here hx rfl (hb hby at_139) rfl rfl ?_
            show Steps p.tables e below (T_197.setTop (mkF m 141 #[.val (.long q1), .second, .val (.long q2), .second, .val (.long q3), .second, .val (.int p4), .val (.ref b_170), .val (.ref b_170), .val (.long q1), .second, .val (.long (q1 - q2)), .second, .val (.int (1 : Int32)), .val (.long ((q1 - q2) + q3)), .second, .val (.long q1), .second, .val (.long (q1 + q3)), .second] [(.ref b_170)])) _
            refine st_198.trans ?_
            show Steps p.tables e below (T_198.setTop (mkF m 144 #[.val (.long q1), .second, .val (.long q2), .second, .val (.long q3), .second, .val (.int p4), .val (.ref b_170), .val (.ref b_170), .val (.long q1), .second, .val (.long (q1 - q2)), .second, .val (.int (1 : Int32)), .val (.long ((q1 - q2) + q3)), .second, .val (.long q1), .second, .val (.long (q1 + q3)), .second] [(.long (own_ap q3 ((own_ar q1 (0 : Int64)) - q2) (own_ap q1 (0 : Int64) (0 : Int64) (0 : Int64)) ((0 : Int64) + q2)))])) _
            refine XS.lload X_198.here hx rfl (hb hby at_144) rfl ?_
            show Steps p.tables e below (T_198.setTop (mkF m 146 #[.val (.long q1), .second, .val (.long q2), .second, .val (.long q3), .second, .val (.int p4), .val (.ref b_170), .val (.ref b_170), .val (.long q1), .second, .val (.long (q1 - q2)), .second, .val (.int (1 : Int32)), .val (.long ((q1 - q2) + q3)), .second, .val (.long q1), .second, .val (.long (q1 + q3)), .second] [(.long q1), (.long (own_ap q3 ((own_ar q1 (0 : Int64)) - q2) (own_ap q1 (0 : Int64) (0 : Int64) (0 : Int64)) ((0 : Int64) + q2)))])) _
            refine XS.lcmp X_198.here hx rfl (hb hby at_146) rfl ?_
            show Steps p.tables e below (T_198.setTop (mkF m 147 #[.val (.long q1), .second, .val (.long q2), .second, .val (.long q3), .second, .val (.int p4), .val (.ref b_170), .val (.ref b_170), .val (.long q1), .second, .val (.long (q1 - q2)), .second, .val (.int (1 : Int32)), .val (.long ((q1 - q2) + q3)), .second, .val (.long q1), .second, .val (.long (q1 + q3)), .second] [(.int (lcmpW (own_ap q3 ((own_ar q1 (0 : Int64)) - q2) (own_ap q1 (0 : Int64) (0 : Int64) (0 : Int64)) ((0 : Int64) + q2)) q1))])) _
            refine XS.ifNo X_198.here hx rfl (hb hby at_147) rfl ((if0 _ _).trans (teq ((lw_eq _ _).mpr (by rw [own_pk]; simp only [if_pos hc47__181, if_neg hc102__186, if_neg hc116__192] : (own_ap q3 ((own_ar q1 (0 : Int64)) - q2) (own_ap q1 (0 : Int64) (0 : Int64) (0 : Int64)) ((0 : Int64) + q2)) = q1))).2) ?_
            show Steps p.tables e below (T_198.setTop (mkF m 150 #[.val (.long q1), .second, .val (.long q2), .second, .val (.long q3), .second, .val (.int p4), .val (.ref b_170), .val (.ref b_170), .val (.long q1), .second, .val (.long (q1 - q2)), .second, .val (.int (1 : Int32)), .val (.long ((q1 - q2) + q3)), .second, .val (.long q1), .second, .val (.long (q1 + q3)), .second] [])) _
            refine XS.aload X_198.here hx rfl (hb hby at_150) rfl rfl ?_
            show Steps p.tables e below (T_198.setTop (mkF m 152 #[.val (.long q1), .second, .val (.long q2), .second, .val (.long q3), .second, .val (.int p4), .val (.ref b_170), .val (.ref b_170), .val (.long q1), .second, .val (.long (q1 - q2)), .second, .val (.int (1 : Int32)), .val (.long ((q1 - q2) + q3)), .second, .val (.long q1), .second, .val (.long (q1 + q3)), .second] [(.ref b_170)])) _
            refine st_199.trans ?_
            show Steps p.tables e below (T_199.setTop (mkF m 155 #[.val (.long q1), .second, .val (.long q2), .second, .val (.long q3), .second, .val (.int p4), .val (.ref b_170), .val (.ref b_170), .val (.long q1), .second, .val (.long (q1 - q2)), .second, .val (.int (1 : Int32)), .val (.long ((q1 - q2) + q3)), .second, .val (.long q1), .second, .val (.long (q1 + q3)), .second] [(.long (own_ar q3 ((own_ar q1 (0 : Int64)) - q2)))])) _
            refine XS.lload X_199.here hx rfl (hb hby at_155) rfl ?_
            show Steps p.tables e below (T_199.setTop (mkF m 157 #[.val (.long q1), .second, .val (.long q2), .second, .val (.long q3), .second, .val (.int p4), .val (.ref b_170), .val (.ref b_170), .val (.long q1), .second, .val (.long (q1 - q2)), .second, .val (.int (1 : Int32)), .val (.long ((q1 - q2) + q3)), .second, .val (.long q1), .second, .val (.long (q1 + q3)), .second] [(.long ((q1 - q2) + q3)), (.long (own_ar q3 ((own_ar q1 (0 : Int64)) - q2)))])) _
            refine XS.lcmp X_199.here hx rfl (hb hby at_157) rfl ?_
            show Steps p.tables e below (T_199.setTop (mkF m 158 #[.val (.long q1), .second, .val (.long q2), .second, .val (.long q3), .second, .val (.int p4), .val (.ref b_170), .val (.ref b_170), .val (.long q1), .second, .val (.long (q1 - q2)), .second, .val (.int (1 : Int32)), .val (.long ((q1 - q2) + q3)), .second, .val (.long q1), .second, .val (.long (q1 + q3)), .second] [(.int (lcmpW (own_ar q3 ((own_ar q1 (0 : Int64)) - q2)) ((q1 - q2) + q3)))])) _
            refine XS.ifNo X_199.here hx rfl (hb hby at_158) rfl ((if0 _ _).trans (teq ((lw_eq _ _).mpr (by rw [own_ar_eq, own_ar_eq, Int64.zero_add] : (own_ar q3 ((own_ar q1 (0 : Int64)) - q2)) = ((q1 - q2) + q3)))).2) ?_
            show Steps p.tables e below (T_199.setTop (mkF m 161 #[.val (.long q1), .second, .val (.long q2), .second, .val (.long q3), .second, .val (.int p4), .val (.ref b_170), .val (.ref b_170), .val (.long q1), .second, .val (.long (q1 - q2)), .second, .val (.int (1 : Int32)), .val (.long ((q1 - q2) + q3)), .second, .val (.long q1), .second, .val (.long (q1 + q3)), .second] [])) _
            refine XS.aload X_199.here hx rfl (hb hby at_161) rfl rfl ?_
            show Steps p.tables e below (T_199.setTop (mkF m 163 #[.val (.long q1), .second, .val (.long q2), .second, .val (.long q3), .second, .val (.int p4), .val (.ref b_170), .val (.ref b_170), .val (.long q1), .second, .val (.long (q1 - q2)), .second, .val (.int (1 : Int32)), .val (.long ((q1 - q2) + q3)), .second, .val (.long q1), .second, .val (.long (q1 + q3)), .second] [(.ref b_170)])) _
            refine st_200.trans ?_
            show Steps p.tables e below (T_200.setTop (mkF m 166 #[.val (.long q1), .second, .val (.long q2), .second, .val (.long q3), .second, .val (.int p4), .val (.ref b_170), .val (.ref b_170), .val (.long q1), .second, .val (.long (q1 - q2)), .second, .val (.int (1 : Int32)), .val (.long ((q1 - q2) + q3)), .second, .val (.long q1), .second, .val (.long (q1 + q3)), .second] [(.long (own_ap q3 ((own_ar q1 (0 : Int64)) - q2) (own_ap q1 (0 : Int64) (0 : Int64) (0 : Int64)) ((0 : Int64) + q2)))])) _
            refine XS.lload X_200.here hx rfl (hb hby at_166) rfl ?_
            show Steps p.tables e below (T_200.setTop (mkF m 168 #[.val (.long q1), .second, .val (.long q2), .second, .val (.long q3), .second, .val (.int p4), .val (.ref b_170), .val (.ref b_170), .val (.long q1), .second, .val (.long (q1 - q2)), .second, .val (.int (1 : Int32)), .val (.long ((q1 - q2) + q3)), .second, .val (.long q1), .second, .val (.long (q1 + q3)), .second] [(.long q1), (.long (own_ap q3 ((own_ar q1 (0 : Int64)) - q2) (own_ap q1 (0 : Int64) (0 : Int64) (0 : Int64)) ((0 : Int64) + q2)))])) _
            refine XS.lcmp X_200.here hx rfl (hb hby at_168) rfl ?_
            show Steps p.tables e below (T_200.setTop (mkF m 169 #[.val (.long q1), .second, .val (.long q2), .second, .val (.long q3), .second, .val (.int p4), .val (.ref b_170), .val (.ref b_170), .val (.long q1), .second, .val (.long (q1 - q2)), .second, .val (.int (1 : Int32)), .val (.long ((q1 - q2) + q3)), .second, .val (.long q1), .second, .val (.long (q1 + q3)), .second] [(.int (lcmpW (own_ap q3 ((own_ar q1 (0 : Int64)) - q2) (own_ap q1 (0 : Int64) (0 : Int64) (0 : Int64)) ((0 : Int64) + q2)) q1))])) _
            refine XS.ifNo X_200.here hx rfl (hb hby at_169) rfl ((if0 _ _).trans (teq ((lw_eq _ _).mpr (by rw [own_pk]; simp only [if_pos hc47__181, if_neg hc102__186, if_neg hc116__192] : (own_ap q3 ((own_ar q1 (0 : Int64)) - q2) (own_ap q1 (0 : Int64) (0 : Int64) (0 : Int64)) ((0 : Int64) + q2)) = q1))).2) ?_
            show Steps p.tables e below (T_200.setTop (mkF m 172 #[.val (.long q1), .second, .val (.long q2), .second, .val (.long q3), .second, .val (.int p4), .val (.ref b_170), .val (.ref b_170), .val (.long q1), .second, .val (.long (q1 - q2)), .second, .val (.int (1 : Int32)), .val (.long ((q1 - q2) + q3)), .second, .val (.long q1), .second, .val (.long (q1 + q3)), .second] [])) _
            refine XS.iconst X_200.here hx rfl (hb hby at_172) ?_
            show Steps p.tables e below (T_200.setTop (mkF m 173 #[.val (.long q1), .second, .val (.long q2), .second, .val (.long q3), .second, .val (.int p4), .val (.ref b_170), .val (.ref b_170), .val (.long q1), .second, .val (.long (q1 - q2)), .second, .val (.int (1 : Int32)), .val (.long ((q1 - q2) + q3)), .second, .val (.long q1), .second, .val (.long (q1 + q3)), .second] [(.int (1 : Int32))])) _
            refine XS.goto X_200.here hx rfl (pc0 := 173) (pc' := 177) rfl (hb hby at_173) (by decide) (by decide) ?_
            show Steps p.tables e below (T_200.setTop (mkF m 177 #[.val (.long q1), .second, .val (.long q2), .second, .val (.long q3), .second, .val (.int p4), .val (.ref b_170), .val (.ref b_170), .val (.long q1), .second, .val (.long (q1 - q2)), .second, .val (.int (1 : Int32)), .val (.long ((q1 - q2) + q3)), .second, .val (.long q1), .second, .val (.long (q1 + q3)), .second] [(.int (1 : Int32))])) _
            refine XS.istore X_200.here hx rfl (hb hby at_177) rfl (l' := #[.val (.long q1), .second, .val (.long q2), .second, .val (.long q3), .second, .val (.int p4), .val (.ref b_170), .val (.ref b_170), .val (.long q1), .second, .val (.long (q1 - q2)), .second, .val (.int (1 : Int32)), .val (.long ((q1 - q2) + q3)), .second, .val (.long q1), .second, .val (.long (q1 + q3)), .second]) rfl ?_
            show Steps p.tables e below (T_200.setTop (mkF m 179 #[.val (.long q1), .second, .val (.long q2), .second, .val (.long q3), .second, .val (.int p4), .val (.ref b_170), .val (.ref b_170), .val (.long q1), .second, .val (.long (q1 - q2)), .second, .val (.int (1 : Int32)), .val (.long ((q1 - q2) + q3)), .second, .val (.long q1), .second, .val (.long (q1 + q3)), .second] [])) _
            refine XS.iload X_200.here hx rfl (hb hby at_179) rfl ?_
            show Steps p.tables e below (T_200.setTop (mkF m 181 #[.val (.long q1), .second, .val (.long q2), .second, .val (.long q3), .second, .val (.int p4), .val (.ref b_170), .val (.ref b_170), .val (.long q1), .second, .val (.long (q1 - q2)), .second, .val (.int (1 : Int32)), .val (.long ((q1 - q2) + q3)), .second, .val (.long q1), .second, .val (.long (q1 + q3)), .second] [(.int (1 : Int32))])) _
            exact retN X_200 hx (t := .boolean) Bd.returns (by simp) (hb hby at_181) hr
          · show Q0 Z q1 q2 q3 p4 h0 n0 _ T_200.heap _
            rw [e_200]
            exact ⟨rfl, N_200⟩
    · obtain ⟨cq_201, kq_201, qa_201, qb_201, qc_201⟩ := isOf hZ rfl po_178_0
      obtain ⟨_, _, ⟨T_201, L_201, k_201, n_201⟩, -, X_201, ⟨Lc_201, hQ_201, l_201, y_201, z_201⟩, st_201⟩ := X_178.virtualBack hx (y := (⟨"org/millrace/engine/Footprint", "rows", "()J"⟩ : MethodName)) (z := (⟨"org/millrace/engine/Footprint", "rows", "()J"⟩ : MethodName)) hown (mvT hZ (hw _ (List.mem_of_getElem? (i := 30) rfl))) (mvT hZ (hw _ (List.mem_of_getElem? (i := 31) rfl))) (notFace_of_selects (args := #[]) (mvT hZ (hw _ (List.mem_of_getElem? (i := 33) rfl)))) (mvT hZ (hw _ (List.mem_of_getElem? (i := 33) rfl))) (mvT hZ (hw _ (List.mem_of_getElem? (i := 32) rfl))) (by decide) (backOf (W := 0) (rm6 l Z a0 hw [] b_170 ((own_ar q1 (0 : Int64)) - q2) T_178.heap n0 z_179 po_178_0 po_178_1) hZ (hw _ (List.mem_of_getElem? (i := 34) rfl)) (hw _ (List.mem_of_getElem? (i := 2) rfl)) (by decide) (by decide)) qa_201 qc_201 (g := (mkF m 64 #[.val (.long q1), .second, .val (.long q2), .second, .val (.long q3), .second, .val (.int p4), .val (.ref b_170), .val (.ref b_170), .val (.long (0 : Int64)), .second, .val (.long (q1 - q2)), .second, .unset, .unset, .unset, .unset, .unset, .unset, .unset] [(.ref b_170)])) rfl (by rw [hml]; rfl) (Steps.refl _) (argsL := []) (rest := []) (lenOf pd_3 rfl) rfl (by show 2 * 0 + _ ≤ _; exact Nat.le_of_eq rfl) (hb hby at_64) (fun _ _ => ⟨rfl, rfl, (by decide : 1 + 0 ≤ _), (by decide : 4 + 0 ≤ _)⟩)
      dsimp only [Pt.U, Pt.locs, Pt.cells, Pt.slots] at X_201 l_201 y_201 z_201 st_201 hQ_201
      replace X_201 := castS l_201 y_201 z_201 X_201
      obtain ⟨rfl, Nq_201, e_201⟩ := hQ_201
      have N_201 := Fr.app N_178 Nq_201
      obtain ⟨cq_202, kq_202, qa_202, qb_202, qc_202⟩ := isOf hZ e_201 po_178_0
      obtain ⟨_, _, ⟨T_202, L_202, k_202, n_202⟩, -, X_202, ⟨Lc_202, hQ_202, l_202, y_202, z_202⟩, st_202⟩ := X_201.virtualBack hx (y := (⟨"org/millrace/engine/Footprint", "add", "(J)V"⟩ : MethodName)) (z := (⟨"org/millrace/engine/Footprint", "add", "(J)V"⟩ : MethodName)) hown (mvT hZ (hw _ (List.mem_of_getElem? (i := 14) rfl))) (mvT hZ (hw _ (List.mem_of_getElem? (i := 15) rfl))) (notFace_of_selects (args := #[]) (mvT hZ (hw _ (List.mem_of_getElem? (i := 17) rfl)))) (mvT hZ (hw _ (List.mem_of_getElem? (i := 17) rfl))) (mvT hZ (hw _ (List.mem_of_getElem? (i := 16) rfl))) (by decide) (backOf (W := 0) (rm4n l Z a0 hw [] b_170 q3 ((own_ar q1 (0 : Int64)) - q2) (own_ap q1 (0 : Int64) (0 : Int64) (0 : Int64)) ((0 : Int64) + q2) T_178.heap n0 z_179 po_178_0 po_178_1 po_178_2 po_178_3 po_178_4 g_b_170) hZ (hw _ (List.mem_of_getElem? (i := 18) rfl)) (hw _ (List.mem_of_getElem? (i := 2) rfl)) (by decide) (by decide)) qa_202 qc_202 (g := (mkF m 84 #[.val (.long q1), .second, .val (.long q2), .second, .val (.long q3), .second, .val (.int p4), .val (.ref b_170), .val (.ref b_170), .val (.long (0 : Int64)), .second, .val (.long (q1 - q2)), .second, .val (.int (1 : Int32)), .unset, .unset, .unset, .unset, .unset, .unset] [(.long q3), (.ref b_170)])) rfl (by rw [hml]; rfl) (Steps.refl _) (argsL := [(.long q3)]) (rest := []) (lenOf pd_2 rfl) rfl (by show 2 * 0 + _ ≤ _; exact Nat.le_of_eq rfl) (hb hby at_84) (fun _ _ => ⟨rfl, e_201, (by decide : 1 + 0 ≤ _), (by decide : 4 + 0 ≤ _)⟩)
      dsimp only [Pt.U, Pt.locs, Pt.cells, Pt.slots] at X_202 l_202 y_202 z_202 st_202 hQ_202
      replace X_202 := castS l_202 y_202 z_202 X_202
      obtain ⟨rfl, Nq_202, K_202, po_202_0, po_202_1, po_202_2, po_202_3, po_202_4⟩ := hQ_202
      have z_203 : n0 ≤ T_202.heap.size := Nat.le_trans z_179 K_202.1
      have N_202 := Fr.app N_201 Nq_202
      have pre_204 : ∀ t, Steps p.tables e below (T_202.setTop (mkF m 102 #[.val (.long q1), .second, .val (.long q2), .second, .val (.long q3), .second, .val (.int p4), .val (.ref b_170), .val (.ref b_170), .val (.long (0 : Int64)), .second, .val (.long (q1 - q2)), .second, .val (.int (1 : Int32)), .val (.long ((q1 - q2) + q3)), .second, .val (.long (0 : Int64)), .second, .unset, .unset] [(.int (lcmpW q3 (0 : Int64)))])) t → Steps p.tables e below (s₁.setTop (entryFrame m #[(.long q1), (.long q2), (.long q3), (.int p4)] maxLocals)) t := fun t k => pre_180 t (by
          show Steps p.tables e below (T_178.setTop (mkF m 47 #[.val (.long q1), .second, .val (.long q2), .second, .val (.long q3), .second, .val (.int p4), .val (.ref b_170), .val (.ref b_170), .unset, .unset, .unset, .unset, .unset, .unset, .unset, .unset, .unset, .unset, .unset] [(.int (lcmpW q1 (0 : Int64)))])) _
          refine XS.ifYes X_178.here hx rfl (pc0 := 47) (pc' := 54) rfl (hb hby at_47) rfl ((if0 _ _).trans (flt (mt (lw_gt _ _).mp hc47__181)).2.2.2) (by decide) (by decide) ?_
          show Steps p.tables e below (T_178.setTop (mkF m 54 #[.val (.long q1), .second, .val (.long q2), .second, .val (.long q3), .second, .val (.int p4), .val (.ref b_170), .val (.ref b_170), .unset, .unset, .unset, .unset, .unset, .unset, .unset, .unset, .unset, .unset, .unset] [])) _
          refine XS.lconst X_178.here hx rfl (hb hby at_54) ?_
          show Steps p.tables e below (T_178.setTop (mkF m 55 #[.val (.long q1), .second, .val (.long q2), .second, .val (.long q3), .second, .val (.int p4), .val (.ref b_170), .val (.ref b_170), .unset, .unset, .unset, .unset, .unset, .unset, .unset, .unset, .unset, .unset, .unset] [(.long (0 : Int64))])) _
          refine XS.lstore X_178.here hx rfl (hb hby at_55) rfl (l' := #[.val (.long q1), .second, .val (.long q2), .second, .val (.long q3), .second, .val (.int p4), .val (.ref b_170), .val (.ref b_170), .val (.long (0 : Int64)), .second, .unset, .unset, .unset, .unset, .unset, .unset, .unset, .unset, .unset]) rfl ?_
          show Steps p.tables e below (T_178.setTop (mkF m 57 #[.val (.long q1), .second, .val (.long q2), .second, .val (.long q3), .second, .val (.int p4), .val (.ref b_170), .val (.ref b_170), .val (.long (0 : Int64)), .second, .unset, .unset, .unset, .unset, .unset, .unset, .unset, .unset, .unset] [])) _
          refine XS.lloadN X_178.here hx rfl (hb hby at_57) rfl ?_
          show Steps p.tables e below (T_178.setTop (mkF m 58 #[.val (.long q1), .second, .val (.long q2), .second, .val (.long q3), .second, .val (.int p4), .val (.ref b_170), .val (.ref b_170), .val (.long (0 : Int64)), .second, .unset, .unset, .unset, .unset, .unset, .unset, .unset, .unset, .unset] [(.long q1)])) _
          refine XS.lloadN X_178.here hx rfl (hb hby at_58) rfl ?_
          show Steps p.tables e below (T_178.setTop (mkF m 59 #[.val (.long q1), .second, .val (.long q2), .second, .val (.long q3), .second, .val (.int p4), .val (.ref b_170), .val (.ref b_170), .val (.long (0 : Int64)), .second, .unset, .unset, .unset, .unset, .unset, .unset, .unset, .unset, .unset] [(.long q2), (.long q1)])) _
          refine XS.lsub X_178.here hx rfl (hb hby at_59) rfl ?_
          show Steps p.tables e below (T_178.setTop (mkF m 60 #[.val (.long q1), .second, .val (.long q2), .second, .val (.long q3), .second, .val (.int p4), .val (.ref b_170), .val (.ref b_170), .val (.long (0 : Int64)), .second, .unset, .unset, .unset, .unset, .unset, .unset, .unset, .unset, .unset] [(.long (q1 - q2))])) _
          refine XS.lstore X_178.here hx rfl (hb hby at_60) rfl (l' := #[.val (.long q1), .second, .val (.long q2), .second, .val (.long q3), .second, .val (.int p4), .val (.ref b_170), .val (.ref b_170), .val (.long (0 : Int64)), .second, .val (.long (q1 - q2)), .second, .unset, .unset, .unset, .unset, .unset, .unset, .unset]) rfl ?_
          show Steps p.tables e below (T_178.setTop (mkF m 62 #[.val (.long q1), .second, .val (.long q2), .second, .val (.long q3), .second, .val (.int p4), .val (.ref b_170), .val (.ref b_170), .val (.long (0 : Int64)), .second, .val (.long (q1 - q2)), .second, .unset, .unset, .unset, .unset, .unset, .unset, .unset] [])) _
          refine XS.aload X_178.here hx rfl (hb hby at_62) rfl rfl ?_
          show Steps p.tables e below (T_178.setTop (mkF m 64 #[.val (.long q1), .second, .val (.long q2), .second, .val (.long q3), .second, .val (.int p4), .val (.ref b_170), .val (.ref b_170), .val (.long (0 : Int64)), .second, .val (.long (q1 - q2)), .second, .unset, .unset, .unset, .unset, .unset, .unset, .unset] [(.ref b_170)])) _
          refine st_201.trans ?_
          show Steps p.tables e below (T_201.setTop (mkF m 67 #[.val (.long q1), .second, .val (.long q2), .second, .val (.long q3), .second, .val (.int p4), .val (.ref b_170), .val (.ref b_170), .val (.long (0 : Int64)), .second, .val (.long (q1 - q2)), .second, .unset, .unset, .unset, .unset, .unset, .unset, .unset] [(.long ((own_ar q1 (0 : Int64)) - q2))])) _
          refine XS.lload X_201.here hx rfl (hb hby at_67) rfl ?_
          show Steps p.tables e below (T_201.setTop (mkF m 69 #[.val (.long q1), .second, .val (.long q2), .second, .val (.long q3), .second, .val (.int p4), .val (.ref b_170), .val (.ref b_170), .val (.long (0 : Int64)), .second, .val (.long (q1 - q2)), .second, .unset, .unset, .unset, .unset, .unset, .unset, .unset] [(.long (q1 - q2)), (.long ((own_ar q1 (0 : Int64)) - q2))])) _
          refine XS.lcmp X_201.here hx rfl (hb hby at_69) rfl ?_
          show Steps p.tables e below (T_201.setTop (mkF m 70 #[.val (.long q1), .second, .val (.long q2), .second, .val (.long q3), .second, .val (.int p4), .val (.ref b_170), .val (.ref b_170), .val (.long (0 : Int64)), .second, .val (.long (q1 - q2)), .second, .unset, .unset, .unset, .unset, .unset, .unset, .unset] [(.int (lcmpW ((own_ar q1 (0 : Int64)) - q2) (q1 - q2)))])) _
          refine XS.ifNo X_201.here hx rfl (hb hby at_70) rfl ((if0 _ _).trans (teq ((lw_eq _ _).mpr (by rw [own_ar_eq, Int64.zero_add] : ((own_ar q1 (0 : Int64)) - q2) = (q1 - q2)))).2) ?_
          show Steps p.tables e below (T_201.setTop (mkF m 73 #[.val (.long q1), .second, .val (.long q2), .second, .val (.long q3), .second, .val (.int p4), .val (.ref b_170), .val (.ref b_170), .val (.long (0 : Int64)), .second, .val (.long (q1 - q2)), .second, .unset, .unset, .unset, .unset, .unset, .unset, .unset] [])) _
          refine XS.iconst X_201.here hx rfl (hb hby at_73) ?_
          show Steps p.tables e below (T_201.setTop (mkF m 74 #[.val (.long q1), .second, .val (.long q2), .second, .val (.long q3), .second, .val (.int p4), .val (.ref b_170), .val (.ref b_170), .val (.long (0 : Int64)), .second, .val (.long (q1 - q2)), .second, .unset, .unset, .unset, .unset, .unset, .unset, .unset] [(.int (1 : Int32))])) _
          refine XS.goto X_201.here hx rfl (pc0 := 74) (pc' := 78) rfl (hb hby at_74) (by decide) (by decide) ?_
          show Steps p.tables e below (T_201.setTop (mkF m 78 #[.val (.long q1), .second, .val (.long q2), .second, .val (.long q3), .second, .val (.int p4), .val (.ref b_170), .val (.ref b_170), .val (.long (0 : Int64)), .second, .val (.long (q1 - q2)), .second, .unset, .unset, .unset, .unset, .unset, .unset, .unset] [(.int (1 : Int32))])) _
          refine XS.istore X_201.here hx rfl (hb hby at_78) rfl (l' := #[.val (.long q1), .second, .val (.long q2), .second, .val (.long q3), .second, .val (.int p4), .val (.ref b_170), .val (.ref b_170), .val (.long (0 : Int64)), .second, .val (.long (q1 - q2)), .second, .val (.int (1 : Int32)), .unset, .unset, .unset, .unset, .unset, .unset]) rfl ?_
          show Steps p.tables e below (T_201.setTop (mkF m 80 #[.val (.long q1), .second, .val (.long q2), .second, .val (.long q3), .second, .val (.int p4), .val (.ref b_170), .val (.ref b_170), .val (.long (0 : Int64)), .second, .val (.long (q1 - q2)), .second, .val (.int (1 : Int32)), .unset, .unset, .unset, .unset, .unset, .unset] [])) _
          refine XS.aload X_201.here hx rfl (hb hby at_80) rfl rfl ?_
          show Steps p.tables e below (T_201.setTop (mkF m 82 #[.val (.long q1), .second, .val (.long q2), .second, .val (.long q3), .second, .val (.int p4), .val (.ref b_170), .val (.ref b_170), .val (.long (0 : Int64)), .second, .val (.long (q1 - q2)), .second, .val (.int (1 : Int32)), .unset, .unset, .unset, .unset, .unset, .unset] [(.ref b_170)])) _
          refine XS.lload X_201.here hx rfl (hb hby at_82) rfl ?_
          show Steps p.tables e below (T_201.setTop (mkF m 84 #[.val (.long q1), .second, .val (.long q2), .second, .val (.long q3), .second, .val (.int p4), .val (.ref b_170), .val (.ref b_170), .val (.long (0 : Int64)), .second, .val (.long (q1 - q2)), .second, .val (.int (1 : Int32)), .unset, .unset, .unset, .unset, .unset, .unset] [(.long q3), (.ref b_170)])) _
          refine st_202.trans ?_
          show Steps p.tables e below (T_202.setTop (mkF m 87 #[.val (.long q1), .second, .val (.long q2), .second, .val (.long q3), .second, .val (.int p4), .val (.ref b_170), .val (.ref b_170), .val (.long (0 : Int64)), .second, .val (.long (q1 - q2)), .second, .val (.int (1 : Int32)), .unset, .unset, .unset, .unset, .unset, .unset] [])) _
          refine XS.lload X_202.here hx rfl (hb hby at_87) rfl ?_
          show Steps p.tables e below (T_202.setTop (mkF m 89 #[.val (.long q1), .second, .val (.long q2), .second, .val (.long q3), .second, .val (.int p4), .val (.ref b_170), .val (.ref b_170), .val (.long (0 : Int64)), .second, .val (.long (q1 - q2)), .second, .val (.int (1 : Int32)), .unset, .unset, .unset, .unset, .unset, .unset] [(.long (q1 - q2))])) _
          refine XS.lload X_202.here hx rfl (hb hby at_89) rfl ?_
          show Steps p.tables e below (T_202.setTop (mkF m 91 #[.val (.long q1), .second, .val (.long q2), .second, .val (.long q3), .second, .val (.int p4), .val (.ref b_170), .val (.ref b_170), .val (.long (0 : Int64)), .second, .val (.long (q1 - q2)), .second, .val (.int (1 : Int32)), .unset, .unset, .unset, .unset, .unset, .unset] [(.long q3), (.long (q1 - q2))])) _
          refine XS.ladd X_202.here hx rfl (hb hby at_91) rfl ?_
          show Steps p.tables e below (T_202.setTop (mkF m 92 #[.val (.long q1), .second, .val (.long q2), .second, .val (.long q3), .second, .val (.int p4), .val (.ref b_170), .val (.ref b_170), .val (.long (0 : Int64)), .second, .val (.long (q1 - q2)), .second, .val (.int (1 : Int32)), .unset, .unset, .unset, .unset, .unset, .unset] [(.long ((q1 - q2) + q3))])) _
          refine XS.lstore X_202.here hx rfl (hb hby at_92) rfl (l' := #[.val (.long q1), .second, .val (.long q2), .second, .val (.long q3), .second, .val (.int p4), .val (.ref b_170), .val (.ref b_170), .val (.long (0 : Int64)), .second, .val (.long (q1 - q2)), .second, .val (.int (1 : Int32)), .val (.long ((q1 - q2) + q3)), .second, .unset, .unset, .unset, .unset]) rfl ?_
          show Steps p.tables e below (T_202.setTop (mkF m 94 #[.val (.long q1), .second, .val (.long q2), .second, .val (.long q3), .second, .val (.int p4), .val (.ref b_170), .val (.ref b_170), .val (.long (0 : Int64)), .second, .val (.long (q1 - q2)), .second, .val (.int (1 : Int32)), .val (.long ((q1 - q2) + q3)), .second, .unset, .unset, .unset, .unset] [])) _
          refine XS.lload X_202.here hx rfl (hb hby at_94) rfl ?_
          show Steps p.tables e below (T_202.setTop (mkF m 96 #[.val (.long q1), .second, .val (.long q2), .second, .val (.long q3), .second, .val (.int p4), .val (.ref b_170), .val (.ref b_170), .val (.long (0 : Int64)), .second, .val (.long (q1 - q2)), .second, .val (.int (1 : Int32)), .val (.long ((q1 - q2) + q3)), .second, .unset, .unset, .unset, .unset] [(.long (0 : Int64))])) _
          refine XS.lstore X_202.here hx rfl (hb hby at_96) rfl (l' := #[.val (.long q1), .second, .val (.long q2), .second, .val (.long q3), .second, .val (.int p4), .val (.ref b_170), .val (.ref b_170), .val (.long (0 : Int64)), .second, .val (.long (q1 - q2)), .second, .val (.int (1 : Int32)), .val (.long ((q1 - q2) + q3)), .second, .val (.long (0 : Int64)), .second, .unset, .unset]) rfl ?_
          show Steps p.tables e below (T_202.setTop (mkF m 98 #[.val (.long q1), .second, .val (.long q2), .second, .val (.long q3), .second, .val (.int p4), .val (.ref b_170), .val (.ref b_170), .val (.long (0 : Int64)), .second, .val (.long (q1 - q2)), .second, .val (.int (1 : Int32)), .val (.long ((q1 - q2) + q3)), .second, .val (.long (0 : Int64)), .second, .unset, .unset] [])) _
          refine XS.lload X_202.here hx rfl (hb hby at_98) rfl ?_
          show Steps p.tables e below (T_202.setTop (mkF m 100 #[.val (.long q1), .second, .val (.long q2), .second, .val (.long q3), .second, .val (.int p4), .val (.ref b_170), .val (.ref b_170), .val (.long (0 : Int64)), .second, .val (.long (q1 - q2)), .second, .val (.int (1 : Int32)), .val (.long ((q1 - q2) + q3)), .second, .val (.long (0 : Int64)), .second, .unset, .unset] [(.long q3)])) _
          refine XS.lconst X_202.here hx rfl (hb hby at_100) ?_
          show Steps p.tables e below (T_202.setTop (mkF m 101 #[.val (.long q1), .second, .val (.long q2), .second, .val (.long q3), .second, .val (.int p4), .val (.ref b_170), .val (.ref b_170), .val (.long (0 : Int64)), .second, .val (.long (q1 - q2)), .second, .val (.int (1 : Int32)), .val (.long ((q1 - q2) + q3)), .second, .val (.long (0 : Int64)), .second, .unset, .unset] [(.long (0 : Int64)), (.long q3)])) _
          refine XS.lcmp X_202.here hx rfl (hb hby at_101) rfl ?_
          exact k)
      by_cases hc102__205 : q3 = (0 : Int64)
      · obtain ⟨cq_206, kq_206, qa_206, qb_206, qc_206⟩ := isOf hZ rfl po_202_0
        obtain ⟨_, _, ⟨T_206, L_206, k_206, n_206⟩, -, X_206, ⟨Lc_206, hQ_206, l_206, y_206, z_206⟩, st_206⟩ := X_202.virtualBack hx (y := (⟨"org/millrace/engine/Footprint", "rows", "()J"⟩ : MethodName)) (z := (⟨"org/millrace/engine/Footprint", "rows", "()J"⟩ : MethodName)) hown (mvT hZ (hw _ (List.mem_of_getElem? (i := 30) rfl))) (mvT hZ (hw _ (List.mem_of_getElem? (i := 31) rfl))) (notFace_of_selects (args := #[]) (mvT hZ (hw _ (List.mem_of_getElem? (i := 33) rfl)))) (mvT hZ (hw _ (List.mem_of_getElem? (i := 33) rfl))) (mvT hZ (hw _ (List.mem_of_getElem? (i := 32) rfl))) (by decide) (backOf (W := 0) (rm6 l Z a0 hw [] b_170 (own_ar q3 ((own_ar q1 (0 : Int64)) - q2)) T_202.heap n0 z_203 po_202_0 po_202_1) hZ (hw _ (List.mem_of_getElem? (i := 34) rfl)) (hw _ (List.mem_of_getElem? (i := 2) rfl)) (by decide) (by decide)) qa_206 qc_206 (g := (mkF m 130 #[.val (.long q1), .second, .val (.long q2), .second, .val (.long q3), .second, .val (.int p4), .val (.ref b_170), .val (.ref b_170), .val (.long (0 : Int64)), .second, .val (.long (q1 - q2)), .second, .val (.int (1 : Int32)), .val (.long ((q1 - q2) + q3)), .second, .val (.long (0 : Int64)), .second, .unset, .unset] [(.ref b_170)])) rfl (by rw [hml]; rfl) (Steps.refl _) (argsL := []) (rest := []) (lenOf pd_3 rfl) rfl (by show 2 * 0 + _ ≤ _; exact Nat.le_of_eq rfl) (hb hby at_130) (fun _ _ => ⟨rfl, rfl, (by decide : 1 + 0 ≤ _), (by decide : 4 + 0 ≤ _)⟩)
        dsimp only [Pt.U, Pt.locs, Pt.cells, Pt.slots] at X_206 l_206 y_206 z_206 st_206 hQ_206
        replace X_206 := castS l_206 y_206 z_206 X_206
        obtain ⟨rfl, Nq_206, e_206⟩ := hQ_206
        have N_206 := Fr.app N_202 Nq_206
        obtain ⟨cq_207, kq_207, qa_207, qb_207, qc_207⟩ := isOf hZ e_206 po_202_0
        obtain ⟨_, _, ⟨T_207, L_207, k_207, n_207⟩, -, X_207, ⟨Lc_207, hQ_207, l_207, y_207, z_207⟩, st_207⟩ := X_206.virtualBack hx (y := (⟨"org/millrace/engine/Footprint", "peak", "()J"⟩ : MethodName)) (z := (⟨"org/millrace/engine/Footprint", "peak", "()J"⟩ : MethodName)) hown (mvT hZ (hw _ (List.mem_of_getElem? (i := 35) rfl))) (mvT hZ (hw _ (List.mem_of_getElem? (i := 36) rfl))) (notFace_of_selects (args := #[]) (mvT hZ (hw _ (List.mem_of_getElem? (i := 38) rfl)))) (mvT hZ (hw _ (List.mem_of_getElem? (i := 38) rfl))) (mvT hZ (hw _ (List.mem_of_getElem? (i := 37) rfl))) (by decide) (backOf (W := 0) (rm7 l Z a0 hw [] b_170 (own_ap q3 ((own_ar q1 (0 : Int64)) - q2) (own_ap q1 (0 : Int64) (0 : Int64) (0 : Int64)) ((0 : Int64) + q2)) T_202.heap n0 z_203 po_202_0 po_202_2) hZ (hw _ (List.mem_of_getElem? (i := 39) rfl)) (hw _ (List.mem_of_getElem? (i := 2) rfl)) (by decide) (by decide)) qa_207 qc_207 (g := (mkF m 141 #[.val (.long q1), .second, .val (.long q2), .second, .val (.long q3), .second, .val (.int p4), .val (.ref b_170), .val (.ref b_170), .val (.long (0 : Int64)), .second, .val (.long (q1 - q2)), .second, .val (.int (1 : Int32)), .val (.long ((q1 - q2) + q3)), .second, .val (.long (0 : Int64)), .second, .unset, .unset] [(.ref b_170)])) rfl (by rw [hml]; rfl) (Steps.refl _) (argsL := []) (rest := []) (lenOf pd_3 rfl) rfl (by show 2 * 0 + _ ≤ _; exact Nat.le_of_eq rfl) (hb hby at_141) (fun _ _ => ⟨rfl, e_206, (by decide : 1 + 0 ≤ _), (by decide : 4 + 0 ≤ _)⟩)
        dsimp only [Pt.U, Pt.locs, Pt.cells, Pt.slots] at X_207 l_207 y_207 z_207 st_207 hQ_207
        replace X_207 := castS l_207 y_207 z_207 X_207
        obtain ⟨rfl, Nq_207, e_207⟩ := hQ_207
        have N_207 := Fr.app N_206 Nq_207
        obtain ⟨cq_208, kq_208, qa_208, qb_208, qc_208⟩ := isOf hZ e_207 po_202_0
        obtain ⟨_, _, ⟨T_208, L_208, k_208, n_208⟩, -, X_208, ⟨Lc_208, hQ_208, l_208, y_208, z_208⟩, st_208⟩ := X_207.virtualBack hx (y := (⟨"org/millrace/engine/Footprint", "rows", "()J"⟩ : MethodName)) (z := (⟨"org/millrace/engine/Footprint", "rows", "()J"⟩ : MethodName)) hown (mvT hZ (hw _ (List.mem_of_getElem? (i := 30) rfl))) (mvT hZ (hw _ (List.mem_of_getElem? (i := 31) rfl))) (notFace_of_selects (args := #[]) (mvT hZ (hw _ (List.mem_of_getElem? (i := 33) rfl)))) (mvT hZ (hw _ (List.mem_of_getElem? (i := 33) rfl))) (mvT hZ (hw _ (List.mem_of_getElem? (i := 32) rfl))) (by decide) (backOf (W := 0) (rm6 l Z a0 hw [] b_170 (own_ar q3 ((own_ar q1 (0 : Int64)) - q2)) T_202.heap n0 z_203 po_202_0 po_202_1) hZ (hw _ (List.mem_of_getElem? (i := 34) rfl)) (hw _ (List.mem_of_getElem? (i := 2) rfl)) (by decide) (by decide)) qa_208 qc_208 (g := (mkF m 152 #[.val (.long q1), .second, .val (.long q2), .second, .val (.long q3), .second, .val (.int p4), .val (.ref b_170), .val (.ref b_170), .val (.long (0 : Int64)), .second, .val (.long (q1 - q2)), .second, .val (.int (1 : Int32)), .val (.long ((q1 - q2) + q3)), .second, .val (.long (0 : Int64)), .second, .unset, .unset] [(.ref b_170)])) rfl (by rw [hml]; rfl) (Steps.refl _) (argsL := []) (rest := []) (lenOf pd_3 rfl) rfl (by show 2 * 0 + _ ≤ _; exact Nat.le_of_eq rfl) (hb hby at_152) (fun _ _ => ⟨rfl, e_207, (by decide : 1 + 0 ≤ _), (by decide : 4 + 0 ≤ _)⟩)
        dsimp only [Pt.U, Pt.locs, Pt.cells, Pt.slots] at X_208 l_208 y_208 z_208 st_208 hQ_208
        replace X_208 := castS l_208 y_208 z_208 X_208
        obtain ⟨rfl, Nq_208, e_208⟩ := hQ_208
        have N_208 := Fr.app N_207 Nq_208
        obtain ⟨cq_209, kq_209, qa_209, qb_209, qc_209⟩ := isOf hZ e_208 po_202_0
        obtain ⟨_, _, ⟨T_209, L_209, k_209, n_209⟩, -, X_209, ⟨Lc_209, hQ_209, l_209, y_209, z_209⟩, st_209⟩ := X_208.virtualBack hx (y := (⟨"org/millrace/engine/Footprint", "peak", "()J"⟩ : MethodName)) (z := (⟨"org/millrace/engine/Footprint", "peak", "()J"⟩ : MethodName)) hown (mvT hZ (hw _ (List.mem_of_getElem? (i := 35) rfl))) (mvT hZ (hw _ (List.mem_of_getElem? (i := 36) rfl))) (notFace_of_selects (args := #[]) (mvT hZ (hw _ (List.mem_of_getElem? (i := 38) rfl)))) (mvT hZ (hw _ (List.mem_of_getElem? (i := 38) rfl))) (mvT hZ (hw _ (List.mem_of_getElem? (i := 37) rfl))) (by decide) (backOf (W := 0) (rm7 l Z a0 hw [] b_170 (own_ap q3 ((own_ar q1 (0 : Int64)) - q2) (own_ap q1 (0 : Int64) (0 : Int64) (0 : Int64)) ((0 : Int64) + q2)) T_202.heap n0 z_203 po_202_0 po_202_2) hZ (hw _ (List.mem_of_getElem? (i := 39) rfl)) (hw _ (List.mem_of_getElem? (i := 2) rfl)) (by decide) (by decide)) qa_209 qc_209 (g := (mkF m 163 #[.val (.long q1), .second, .val (.long q2), .second, .val (.long q3), .second, .val (.int p4), .val (.ref b_170), .val (.ref b_170), .val (.long (0 : Int64)), .second, .val (.long (q1 - q2)), .second, .val (.int (1 : Int32)), .val (.long ((q1 - q2) + q3)), .second, .val (.long (0 : Int64)), .second, .unset, .unset] [(.ref b_170)])) rfl (by rw [hml]; rfl) (Steps.refl _) (argsL := []) (rest := []) (lenOf pd_3 rfl) rfl (by show 2 * 0 + _ ≤ _; exact Nat.le_of_eq rfl) (hb hby at_163) (fun _ _ => ⟨rfl, e_208, (by decide : 1 + 0 ≤ _), (by decide : 4 + 0 ≤ _)⟩)
        dsimp only [Pt.U, Pt.locs, Pt.cells, Pt.slots] at X_209 l_209 y_209 z_209 st_209 hQ_209
        replace X_209 := castS l_209 y_209 z_209 X_209
        obtain ⟨rfl, Nq_209, e_209⟩ := hQ_209
        have N_209 := Fr.app N_208 Nq_209
        obtain ⟨fs, hr, hrun, hended, hW, hsame⟩ := X_209.leave (v := some (.int (1 : Int32))) (fun h => by rw [Bd.returns] at h; cases h)
        refine ⟨_, _, pre_204 _ ?_, hrun, hended, _, _, rfl, ?_, ⟨_, rfl⟩, hW, hsame.mono (by decide) (by decide)⟩
        · show Steps p.tables e below (T_202.setTop (mkF m 102 #[.val (.long q1), .second, .val (.long q2), .second, .val (.long q3), .second, .val (.int p4), .val (.ref b_170), .val (.ref b_170), .val (.long (0 : Int64)), .second, .val (.long (q1 - q2)), .second, .val (.int (1 : Int32)), .val (.long ((q1 - q2) + q3)), .second, .val (.long (0 : Int64)), .second, .unset, .unset] [(.int (lcmpW q3 (0 : Int64)))])) _
          refine XS.ifYes X_202.here hx rfl (pc0 := 102) (pc' := 123) rfl (hb hby at_102) rfl ((if0 _ _).trans (teq ((lw_eq _ _).mpr hc102__205)).1) (by decide) (by decide) ?_
          show Steps p.tables e below (T_202.setTop (mkF m 123 #[.val (.long q1), .second, .val (.long q2), .second, .val (.long q3), .second, .val (.int p4), .val (.ref b_170), .val (.ref b_170), .val (.long (0 : Int64)), .second, .val (.long (q1 - q2)), .second, .val (.int (1 : Int32)), .val (.long ((q1 - q2) + q3)), .second, .val (.long (0 : Int64)), .second, .unset, .unset] [])) _
          refine XS.iload X_202.here hx rfl (hb hby at_123) rfl ?_
          show Steps p.tables e below (T_202.setTop (mkF m 125 #[.val (.long q1), .second, .val (.long q2), .second, .val (.long q3), .second, .val (.int p4), .val (.ref b_170), .val (.ref b_170), .val (.long (0 : Int64)), .second, .val (.long (q1 - q2)), .second, .val (.int (1 : Int32)), .val (.long ((q1 - q2) + q3)), .second, .val (.long (0 : Int64)), .second, .unset, .unset] [(.int (1 : Int32))])) _
          refine XS.ifNo X_202.here hx rfl (hb hby at_125) rfl ((if0 _ _).trans (feq (by decide : ¬ ((1 : Int32) = (0 : Int32)))).1) ?_
          show Steps p.tables e below (T_202.setTop (mkF m 128 #[.val (.long q1), .second, .val (.long q2), .second, .val (.long q3), .second, .val (.int p4), .val (.ref b_170), .val (.ref b_170), .val (.long (0 : Int64)), .second, .val (.long (q1 - q2)), .second, .val (.int (1 : Int32)), .val (.long ((q1 - q2) + q3)), .second, .val (.long (0 : Int64)), .second, .unset, .unset] [])) _
          refine XS.aload X_202.here hx rfl (hb hby at_128) rfl rfl ?_
          show Steps p.tables e below (T_202.setTop (mkF m 130 #[.val (.long q1), .second, .val (.long q2), .second, .val (.long q3), .second, .val (.int p4), .val (.ref b_170), .val (.ref b_170), .val (.long (0 : Int64)), .second, .val (.long (q1 - q2)), .second, .val (.int (1 : Int32)), .val (.long ((q1 - q2) + q3)), .second, .val (.long (0 : Int64)), .second, .unset, .unset] [(.ref b_170)])) _
          refine st_206.trans ?_
          show Steps p.tables e below (T_206.setTop (mkF m 133 #[.val (.long q1), .second, .val (.long q2), .second, .val (.long q3), .second, .val (.int p4), .val (.ref b_170), .val (.ref b_170), .val (.long (0 : Int64)), .second, .val (.long (q1 - q2)), .second, .val (.int (1 : Int32)), .val (.long ((q1 - q2) + q3)), .second, .val (.long (0 : Int64)), .second, .unset, .unset] [(.long (own_ar q3 ((own_ar q1 (0 : Int64)) - q2)))])) _
          refine XS.lload X_206.here hx rfl (hb hby at_133) rfl ?_
          show Steps p.tables e below (T_206.setTop (mkF m 135 #[.val (.long q1), .second, .val (.long q2), .second, .val (.long q3), .second, .val (.int p4), .val (.ref b_170), .val (.ref b_170), .val (.long (0 : Int64)), .second, .val (.long (q1 - q2)), .second, .val (.int (1 : Int32)), .val (.long ((q1 - q2) + q3)), .second, .val (.long (0 : Int64)), .second, .unset, .unset] [(.long ((q1 - q2) + q3)), (.long (own_ar q3 ((own_ar q1 (0 : Int64)) - q2)))])) _
          refine XS.lcmp X_206.here hx rfl (hb hby at_135) rfl ?_
          show Steps p.tables e below (T_206.setTop (mkF m 136 #[.val (.long q1), .second, .val (.long q2), .second, .val (.long q3), .second, .val (.int p4), .val (.ref b_170), .val (.ref b_170), .val (.long (0 : Int64)), .second, .val (.long (q1 - q2)), .second, .val (.int (1 : Int32)), .val (.long ((q1 - q2) + q3)), .second, .val (.long (0 : Int64)), .second, .unset, .unset] [(.int (lcmpW (own_ar q3 ((own_ar q1 (0 : Int64)) - q2)) ((q1 - q2) + q3)))])) _
          refine XS.ifNo X_206.here hx rfl (hb hby at_136) rfl ((if0 _ _).trans (teq ((lw_eq _ _).mpr (by rw [own_ar_eq, own_ar_eq, Int64.zero_add] : (own_ar q3 ((own_ar q1 (0 : Int64)) - q2)) = ((q1 - q2) + q3)))).2) ?_
          show Steps p.tables e below (T_206.setTop (mkF m 139 #[.val (.long q1), .second, .val (.long q2), .second, .val (.long q3), .second, .val (.int p4), .val (.ref b_170), .val (.ref b_170), .val (.long (0 : Int64)), .second, .val (.long (q1 - q2)), .second, .val (.int (1 : Int32)), .val (.long ((q1 - q2) + q3)), .second, .val (.long (0 : Int64)), .second, .unset, .unset] [])) _
          refine XS.aload X_206.here hx rfl (hb hby at_139) rfl rfl ?_
          show Steps p.tables e below (T_206.setTop (mkF m 141 #[.val (.long q1), .second, .val (.long q2), .second, .val (.long q3), .second, .val (.int p4), .val (.ref b_170), .val (.ref b_170), .val (.long (0 : Int64)), .second, .val (.long (q1 - q2)), .second, .val (.int (1 : Int32)), .val (.long ((q1 - q2) + q3)), .second, .val (.long (0 : Int64)), .second, .unset, .unset] [(.ref b_170)])) _
          refine st_207.trans ?_
          show Steps p.tables e below (T_207.setTop (mkF m 144 #[.val (.long q1), .second, .val (.long q2), .second, .val (.long q3), .second, .val (.int p4), .val (.ref b_170), .val (.ref b_170), .val (.long (0 : Int64)), .second, .val (.long (q1 - q2)), .second, .val (.int (1 : Int32)), .val (.long ((q1 - q2) + q3)), .second, .val (.long (0 : Int64)), .second, .unset, .unset] [(.long (own_ap q3 ((own_ar q1 (0 : Int64)) - q2) (own_ap q1 (0 : Int64) (0 : Int64) (0 : Int64)) ((0 : Int64) + q2)))])) _
          refine XS.lload X_207.here hx rfl (hb hby at_144) rfl ?_
          show Steps p.tables e below (T_207.setTop (mkF m 146 #[.val (.long q1), .second, .val (.long q2), .second, .val (.long q3), .second, .val (.int p4), .val (.ref b_170), .val (.ref b_170), .val (.long (0 : Int64)), .second, .val (.long (q1 - q2)), .second, .val (.int (1 : Int32)), .val (.long ((q1 - q2) + q3)), .second, .val (.long (0 : Int64)), .second, .unset, .unset] [(.long (0 : Int64)), (.long (own_ap q3 ((own_ar q1 (0 : Int64)) - q2) (own_ap q1 (0 : Int64) (0 : Int64) (0 : Int64)) ((0 : Int64) + q2)))])) _
          refine XS.lcmp X_207.here hx rfl (hb hby at_146) rfl ?_
          show Steps p.tables e below (T_207.setTop (mkF m 147 #[.val (.long q1), .second, .val (.long q2), .second, .val (.long q3), .second, .val (.int p4), .val (.ref b_170), .val (.ref b_170), .val (.long (0 : Int64)), .second, .val (.long (q1 - q2)), .second, .val (.int (1 : Int32)), .val (.long ((q1 - q2) + q3)), .second, .val (.long (0 : Int64)), .second, .unset, .unset] [(.int (lcmpW (own_ap q3 ((own_ar q1 (0 : Int64)) - q2) (own_ap q1 (0 : Int64) (0 : Int64) (0 : Int64)) ((0 : Int64) + q2)) (0 : Int64)))])) _
          refine XS.ifNo X_207.here hx rfl (hb hby at_147) rfl ((if0 _ _).trans (teq ((lw_eq _ _).mpr (by rw [own_pk]; simp only [if_neg hc47__181, if_pos hc102__205] : (own_ap q3 ((own_ar q1 (0 : Int64)) - q2) (own_ap q1 (0 : Int64) (0 : Int64) (0 : Int64)) ((0 : Int64) + q2)) = (0 : Int64)))).2) ?_
          show Steps p.tables e below (T_207.setTop (mkF m 150 #[.val (.long q1), .second, .val (.long q2), .second, .val (.long q3), .second, .val (.int p4), .val (.ref b_170), .val (.ref b_170), .val (.long (0 : Int64)), .second, .val (.long (q1 - q2)), .second, .val (.int (1 : Int32)), .val (.long ((q1 - q2) + q3)), .second, .val (.long (0 : Int64)), .second, .unset, .unset] [])) _
          refine XS.aload X_207.here hx rfl (hb hby at_150) rfl rfl ?_
          show Steps p.tables e below (T_207.setTop (mkF m 152 #[.val (.long q1), .second, .val (.long q2), .second, .val (.long q3), .second, .val (.int p4), .val (.ref b_170), .val (.ref b_170), .val (.long (0 : Int64)), .second, .val (.long (q1 - q2)), .second, .val (.int (1 : Int32)), .val (.long ((q1 - q2) + q3)), .second, .val (.long (0 : Int64)), .second, .unset, .unset] [(.ref b_170)])) _
          refine st_208.trans ?_
          show Steps p.tables e below (T_208.setTop (mkF m 155 #[.val (.long q1), .second, .val (.long q2), .second, .val (.long q3), .second, .val (.int p4), .val (.ref b_170), .val (.ref b_170), .val (.long (0 : Int64)), .second, .val (.long (q1 - q2)), .second, .val (.int (1 : Int32)), .val (.long ((q1 - q2) + q3)), .second, .val (.long (0 : Int64)), .second, .unset, .unset] [(.long (own_ar q3 ((own_ar q1 (0 : Int64)) - q2)))])) _
          refine XS.lload X_208.here hx rfl (hb hby at_155) rfl ?_
          show Steps p.tables e below (T_208.setTop (mkF m 157 #[.val (.long q1), .second, .val (.long q2), .second, .val (.long q3), .second, .val (.int p4), .val (.ref b_170), .val (.ref b_170), .val (.long (0 : Int64)), .second, .val (.long (q1 - q2)), .second, .val (.int (1 : Int32)), .val (.long ((q1 - q2) + q3)), .second, .val (.long (0 : Int64)), .second, .unset, .unset] [(.long ((q1 - q2) + q3)), (.long (own_ar q3 ((own_ar q1 (0 : Int64)) - q2)))])) _
          refine XS.lcmp X_208.here hx rfl (hb hby at_157) rfl ?_
          show Steps p.tables e below (T_208.setTop (mkF m 158 #[.val (.long q1), .second, .val (.long q2), .second, .val (.long q3), .second, .val (.int p4), .val (.ref b_170), .val (.ref b_170), .val (.long (0 : Int64)), .second, .val (.long (q1 - q2)), .second, .val (.int (1 : Int32)), .val (.long ((q1 - q2) + q3)), .second, .val (.long (0 : Int64)), .second, .unset, .unset] [(.int (lcmpW (own_ar q3 ((own_ar q1 (0 : Int64)) - q2)) ((q1 - q2) + q3)))])) _
          refine XS.ifNo X_208.here hx rfl (hb hby at_158) rfl ((if0 _ _).trans (teq ((lw_eq _ _).mpr (by rw [own_ar_eq, own_ar_eq, Int64.zero_add] : (own_ar q3 ((own_ar q1 (0 : Int64)) - q2)) = ((q1 - q2) + q3)))).2) ?_
          show Steps p.tables e below (T_208.setTop (mkF m 161 #[.val (.long q1), .second, .val (.long q2), .second, .val (.long q3), .second, .val (.int p4), .val (.ref b_170), .val (.ref b_170), .val (.long (0 : Int64)), .second, .val (.long (q1 - q2)), .second, .val (.int (1 : Int32)), .val (.long ((q1 - q2) + q3)), .second, .val (.long (0 : Int64)), .second, .unset, .unset] [])) _
          refine XS.aload X_208.here hx rfl (hb hby at_161) rfl rfl ?_
          show Steps p.tables e below (T_208.setTop (mkF m 163 #[.val (.long q1), .second, .val (.long q2), .second, .val (.long q3), .second, .val (.int p4), .val (.ref b_170), .val (.ref b_170), .val (.long (0 : Int64)), .second, .val (.long (q1 - q2)), .second, .val (.int (1 : Int32)), .val (.long ((q1 - q2) + q3)), .second, .val (.long (0 : Int64)), .second, .unset, .unset] [(.ref b_170)])) _
          refine st_209.trans ?_
          show Steps p.tables e below (T_209.setTop (mkF m 166 #[.val (.long q1), .second, .val (.long q2), .second, .val (.long q3), .second, .val (.int p4), .val (.ref b_170), .val (.ref b_170), .val (.long (0 : Int64)), .second, .val (.long (q1 - q2)), .second, .val (.int (1 : Int32)), .val (.long ((q1 - q2) + q3)), .second, .val (.long (0 : Int64)), .second, .unset, .unset] [(.long (own_ap q3 ((own_ar q1 (0 : Int64)) - q2) (own_ap q1 (0 : Int64) (0 : Int64) (0 : Int64)) ((0 : Int64) + q2)))])) _
          refine XS.lload X_209.here hx rfl (hb hby at_166) rfl ?_
          show Steps p.tables e below (T_209.setTop (mkF m 168 #[.val (.long q1), .second, .val (.long q2), .second, .val (.long q3), .second, .val (.int p4), .val (.ref b_170), .val (.ref b_170), .val (.long (0 : Int64)), .second, .val (.long (q1 - q2)), .second, .val (.int (1 : Int32)), .val (.long ((q1 - q2) + q3)), .second, .val (.long (0 : Int64)), .second, .unset, .unset] [(.long (0 : Int64)), (.long (own_ap q3 ((own_ar q1 (0 : Int64)) - q2) (own_ap q1 (0 : Int64) (0 : Int64) (0 : Int64)) ((0 : Int64) + q2)))])) _
          refine XS.lcmp X_209.here hx rfl (hb hby at_168) rfl ?_
          show Steps p.tables e below (T_209.setTop (mkF m 169 #[.val (.long q1), .second, .val (.long q2), .second, .val (.long q3), .second, .val (.int p4), .val (.ref b_170), .val (.ref b_170), .val (.long (0 : Int64)), .second, .val (.long (q1 - q2)), .second, .val (.int (1 : Int32)), .val (.long ((q1 - q2) + q3)), .second, .val (.long (0 : Int64)), .second, .unset, .unset] [(.int (lcmpW (own_ap q3 ((own_ar q1 (0 : Int64)) - q2) (own_ap q1 (0 : Int64) (0 : Int64) (0 : Int64)) ((0 : Int64) + q2)) (0 : Int64)))])) _
          refine XS.ifNo X_209.here hx rfl (hb hby at_169) rfl ((if0 _ _).trans (teq ((lw_eq _ _).mpr (by rw [own_pk]; simp only [if_neg hc47__181, if_pos hc102__205] : (own_ap q3 ((own_ar q1 (0 : Int64)) - q2) (own_ap q1 (0 : Int64) (0 : Int64) (0 : Int64)) ((0 : Int64) + q2)) = (0 : Int64)))).2) ?_
          show Steps p.tables e below (T_209.setTop (mkF m 172 #[.val (.long q1), .second, .val (.long q2), .second, .val (.long q3), .second, .val (.int p4), .val (.ref b_170), .val (.ref b_170), .val (.long (0 : Int64)), .second, .val (.long (q1 - q2)), .second, .val (.int (1 : Int32)), .val (.long ((q1 - q2) + q3)), .second, .val (.long (0 : Int64)), .second, .unset, .unset] [])) _
          refine XS.iconst X_209.here hx rfl (hb hby at_172) ?_
          show Steps p.tables e below (T_209.setTop (mkF m 173 #[.val (.long q1), .second, .val (.long q2), .second, .val (.long q3), .second, .val (.int p4), .val (.ref b_170), .val (.ref b_170), .val (.long (0 : Int64)), .second, .val (.long (q1 - q2)), .second, .val (.int (1 : Int32)), .val (.long ((q1 - q2) + q3)), .second, .val (.long (0 : Int64)), .second, .unset, .unset] [(.int (1 : Int32))])) _
          refine XS.goto X_209.here hx rfl (pc0 := 173) (pc' := 177) rfl (hb hby at_173) (by decide) (by decide) ?_
          show Steps p.tables e below (T_209.setTop (mkF m 177 #[.val (.long q1), .second, .val (.long q2), .second, .val (.long q3), .second, .val (.int p4), .val (.ref b_170), .val (.ref b_170), .val (.long (0 : Int64)), .second, .val (.long (q1 - q2)), .second, .val (.int (1 : Int32)), .val (.long ((q1 - q2) + q3)), .second, .val (.long (0 : Int64)), .second, .unset, .unset] [(.int (1 : Int32))])) _
          refine XS.istore X_209.here hx rfl (hb hby at_177) rfl (l' := #[.val (.long q1), .second, .val (.long q2), .second, .val (.long q3), .second, .val (.int p4), .val (.ref b_170), .val (.ref b_170), .val (.long (0 : Int64)), .second, .val (.long (q1 - q2)), .second, .val (.int (1 : Int32)), .val (.long ((q1 - q2) + q3)), .second, .val (.long (0 : Int64)), .second, .unset, .unset]) rfl ?_
          show Steps p.tables e below (T_209.setTop (mkF m 179 #[.val (.long q1), .second, .val (.long q2), .second, .val (.long q3), .second, .val (.int p4), .val (.ref b_170), .val (.ref b_170), .val (.long (0 : Int64)), .second, .val (.long (q1 - q2)), .second, .val (.int (1 : Int32)), .val (.long ((q1 - q2) + q3)), .second, .val (.long (0 : Int64)), .second, .unset, .unset] [])) _
          refine XS.iload X_209.here hx rfl (hb hby at_179) rfl ?_
          show Steps p.tables e below (T_209.setTop (mkF m 181 #[.val (.long q1), .second, .val (.long q2), .second, .val (.long q3), .second, .val (.int p4), .val (.ref b_170), .val (.ref b_170), .val (.long (0 : Int64)), .second, .val (.long (q1 - q2)), .second, .val (.int (1 : Int32)), .val (.long ((q1 - q2) + q3)), .second, .val (.long (0 : Int64)), .second, .unset, .unset] [(.int (1 : Int32))])) _
          exact retN X_209 hx (t := .boolean) Bd.returns (by simp) (hb hby at_181) hr
        · show Q0 Z q1 q2 q3 p4 h0 n0 _ T_209.heap _
          rw [e_209]
          exact ⟨rfl, N_209⟩
      · have pre_210 : ∀ t, Steps p.tables e below (T_202.setTop (mkF m 116 #[.val (.long q1), .second, .val (.long q2), .second, .val (.long q3), .second, .val (.int p4), .val (.ref b_170), .val (.ref b_170), .val (.long (0 : Int64)), .second, .val (.long (q1 - q2)), .second, .val (.int (1 : Int32)), .val (.long ((q1 - q2) + q3)), .second, .val (.long (0 : Int64)), .second, .val (.long (q1 + q3)), .second] [(.int (lcmpW (q1 + q3) (0 : Int64)))])) t → Steps p.tables e below (s₁.setTop (entryFrame m #[(.long q1), (.long q2), (.long q3), (.int p4)] maxLocals)) t := fun t k => pre_204 t (by
            show Steps p.tables e below (T_202.setTop (mkF m 102 #[.val (.long q1), .second, .val (.long q2), .second, .val (.long q3), .second, .val (.int p4), .val (.ref b_170), .val (.ref b_170), .val (.long (0 : Int64)), .second, .val (.long (q1 - q2)), .second, .val (.int (1 : Int32)), .val (.long ((q1 - q2) + q3)), .second, .val (.long (0 : Int64)), .second, .unset, .unset] [(.int (lcmpW q3 (0 : Int64)))])) _
            refine XS.ifNo X_202.here hx rfl (hb hby at_102) rfl ((if0 _ _).trans (feq (mt (lw_eq _ _).mp hc102__205)).1) ?_
            show Steps p.tables e below (T_202.setTop (mkF m 105 #[.val (.long q1), .second, .val (.long q2), .second, .val (.long q3), .second, .val (.int p4), .val (.ref b_170), .val (.ref b_170), .val (.long (0 : Int64)), .second, .val (.long (q1 - q2)), .second, .val (.int (1 : Int32)), .val (.long ((q1 - q2) + q3)), .second, .val (.long (0 : Int64)), .second, .unset, .unset] [])) _
            refine XS.lloadN X_202.here hx rfl (hb hby at_105) rfl ?_
            show Steps p.tables e below (T_202.setTop (mkF m 106 #[.val (.long q1), .second, .val (.long q2), .second, .val (.long q3), .second, .val (.int p4), .val (.ref b_170), .val (.ref b_170), .val (.long (0 : Int64)), .second, .val (.long (q1 - q2)), .second, .val (.int (1 : Int32)), .val (.long ((q1 - q2) + q3)), .second, .val (.long (0 : Int64)), .second, .unset, .unset] [(.long q1)])) _
            refine XS.lload X_202.here hx rfl (hb hby at_106) rfl ?_
            show Steps p.tables e below (T_202.setTop (mkF m 108 #[.val (.long q1), .second, .val (.long q2), .second, .val (.long q3), .second, .val (.int p4), .val (.ref b_170), .val (.ref b_170), .val (.long (0 : Int64)), .second, .val (.long (q1 - q2)), .second, .val (.int (1 : Int32)), .val (.long ((q1 - q2) + q3)), .second, .val (.long (0 : Int64)), .second, .unset, .unset] [(.long q3), (.long q1)])) _
            refine XS.ladd X_202.here hx rfl (hb hby at_108) rfl ?_
            show Steps p.tables e below (T_202.setTop (mkF m 109 #[.val (.long q1), .second, .val (.long q2), .second, .val (.long q3), .second, .val (.int p4), .val (.ref b_170), .val (.ref b_170), .val (.long (0 : Int64)), .second, .val (.long (q1 - q2)), .second, .val (.int (1 : Int32)), .val (.long ((q1 - q2) + q3)), .second, .val (.long (0 : Int64)), .second, .unset, .unset] [(.long (q1 + q3))])) _
            refine XS.lstore X_202.here hx rfl (hb hby at_109) rfl (l' := #[.val (.long q1), .second, .val (.long q2), .second, .val (.long q3), .second, .val (.int p4), .val (.ref b_170), .val (.ref b_170), .val (.long (0 : Int64)), .second, .val (.long (q1 - q2)), .second, .val (.int (1 : Int32)), .val (.long ((q1 - q2) + q3)), .second, .val (.long (0 : Int64)), .second, .val (.long (q1 + q3)), .second]) rfl ?_
            show Steps p.tables e below (T_202.setTop (mkF m 111 #[.val (.long q1), .second, .val (.long q2), .second, .val (.long q3), .second, .val (.int p4), .val (.ref b_170), .val (.ref b_170), .val (.long (0 : Int64)), .second, .val (.long (q1 - q2)), .second, .val (.int (1 : Int32)), .val (.long ((q1 - q2) + q3)), .second, .val (.long (0 : Int64)), .second, .val (.long (q1 + q3)), .second] [])) _
            refine XS.lload X_202.here hx rfl (hb hby at_111) rfl ?_
            show Steps p.tables e below (T_202.setTop (mkF m 113 #[.val (.long q1), .second, .val (.long q2), .second, .val (.long q3), .second, .val (.int p4), .val (.ref b_170), .val (.ref b_170), .val (.long (0 : Int64)), .second, .val (.long (q1 - q2)), .second, .val (.int (1 : Int32)), .val (.long ((q1 - q2) + q3)), .second, .val (.long (0 : Int64)), .second, .val (.long (q1 + q3)), .second] [(.long (q1 + q3))])) _
            refine XS.lload X_202.here hx rfl (hb hby at_113) rfl ?_
            show Steps p.tables e below (T_202.setTop (mkF m 115 #[.val (.long q1), .second, .val (.long q2), .second, .val (.long q3), .second, .val (.int p4), .val (.ref b_170), .val (.ref b_170), .val (.long (0 : Int64)), .second, .val (.long (q1 - q2)), .second, .val (.int (1 : Int32)), .val (.long ((q1 - q2) + q3)), .second, .val (.long (0 : Int64)), .second, .val (.long (q1 + q3)), .second] [(.long (0 : Int64)), (.long (q1 + q3))])) _
            refine XS.lcmp X_202.here hx rfl (hb hby at_115) rfl ?_
            exact k)
        by_cases hc116__211 : (0 : Int64) < (q1 + q3)
        · obtain ⟨cq_212, kq_212, qa_212, qb_212, qc_212⟩ := isOf hZ rfl po_202_0
          obtain ⟨_, _, ⟨T_212, L_212, k_212, n_212⟩, -, X_212, ⟨Lc_212, hQ_212, l_212, y_212, z_212⟩, st_212⟩ := X_202.virtualBack hx (y := (⟨"org/millrace/engine/Footprint", "rows", "()J"⟩ : MethodName)) (z := (⟨"org/millrace/engine/Footprint", "rows", "()J"⟩ : MethodName)) hown (mvT hZ (hw _ (List.mem_of_getElem? (i := 30) rfl))) (mvT hZ (hw _ (List.mem_of_getElem? (i := 31) rfl))) (notFace_of_selects (args := #[]) (mvT hZ (hw _ (List.mem_of_getElem? (i := 33) rfl)))) (mvT hZ (hw _ (List.mem_of_getElem? (i := 33) rfl))) (mvT hZ (hw _ (List.mem_of_getElem? (i := 32) rfl))) (by decide) (backOf (W := 0) (rm6 l Z a0 hw [] b_170 (own_ar q3 ((own_ar q1 (0 : Int64)) - q2)) T_202.heap n0 z_203 po_202_0 po_202_1) hZ (hw _ (List.mem_of_getElem? (i := 34) rfl)) (hw _ (List.mem_of_getElem? (i := 2) rfl)) (by decide) (by decide)) qa_212 qc_212 (g := (mkF m 130 #[.val (.long q1), .second, .val (.long q2), .second, .val (.long q3), .second, .val (.int p4), .val (.ref b_170), .val (.ref b_170), .val (.long (0 : Int64)), .second, .val (.long (q1 - q2)), .second, .val (.int (1 : Int32)), .val (.long ((q1 - q2) + q3)), .second, .val (.long (q1 + q3)), .second, .val (.long (q1 + q3)), .second] [(.ref b_170)])) rfl (by rw [hml]; rfl) (Steps.refl _) (argsL := []) (rest := []) (lenOf pd_3 rfl) rfl (by show 2 * 0 + _ ≤ _; exact Nat.le_of_eq rfl) (hb hby at_130) (fun _ _ => ⟨rfl, rfl, (by decide : 1 + 0 ≤ _), (by decide : 4 + 0 ≤ _)⟩)
          dsimp only [Pt.U, Pt.locs, Pt.cells, Pt.slots] at X_212 l_212 y_212 z_212 st_212 hQ_212
          replace X_212 := castS l_212 y_212 z_212 X_212
          obtain ⟨rfl, Nq_212, e_212⟩ := hQ_212
          have N_212 := Fr.app N_202 Nq_212
          obtain ⟨cq_213, kq_213, qa_213, qb_213, qc_213⟩ := isOf hZ e_212 po_202_0
          obtain ⟨_, _, ⟨T_213, L_213, k_213, n_213⟩, -, X_213, ⟨Lc_213, hQ_213, l_213, y_213, z_213⟩, st_213⟩ := X_212.virtualBack hx (y := (⟨"org/millrace/engine/Footprint", "peak", "()J"⟩ : MethodName)) (z := (⟨"org/millrace/engine/Footprint", "peak", "()J"⟩ : MethodName)) hown (mvT hZ (hw _ (List.mem_of_getElem? (i := 35) rfl))) (mvT hZ (hw _ (List.mem_of_getElem? (i := 36) rfl))) (notFace_of_selects (args := #[]) (mvT hZ (hw _ (List.mem_of_getElem? (i := 38) rfl)))) (mvT hZ (hw _ (List.mem_of_getElem? (i := 38) rfl))) (mvT hZ (hw _ (List.mem_of_getElem? (i := 37) rfl))) (by decide) (backOf (W := 0) (rm7 l Z a0 hw [] b_170 (own_ap q3 ((own_ar q1 (0 : Int64)) - q2) (own_ap q1 (0 : Int64) (0 : Int64) (0 : Int64)) ((0 : Int64) + q2)) T_202.heap n0 z_203 po_202_0 po_202_2) hZ (hw _ (List.mem_of_getElem? (i := 39) rfl)) (hw _ (List.mem_of_getElem? (i := 2) rfl)) (by decide) (by decide)) qa_213 qc_213 (g := (mkF m 141 #[.val (.long q1), .second, .val (.long q2), .second, .val (.long q3), .second, .val (.int p4), .val (.ref b_170), .val (.ref b_170), .val (.long (0 : Int64)), .second, .val (.long (q1 - q2)), .second, .val (.int (1 : Int32)), .val (.long ((q1 - q2) + q3)), .second, .val (.long (q1 + q3)), .second, .val (.long (q1 + q3)), .second] [(.ref b_170)])) rfl (by rw [hml]; rfl) (Steps.refl _) (argsL := []) (rest := []) (lenOf pd_3 rfl) rfl (by show 2 * 0 + _ ≤ _; exact Nat.le_of_eq rfl) (hb hby at_141) (fun _ _ => ⟨rfl, e_212, (by decide : 1 + 0 ≤ _), (by decide : 4 + 0 ≤ _)⟩)
          dsimp only [Pt.U, Pt.locs, Pt.cells, Pt.slots] at X_213 l_213 y_213 z_213 st_213 hQ_213
          replace X_213 := castS l_213 y_213 z_213 X_213
          obtain ⟨rfl, Nq_213, e_213⟩ := hQ_213
          have N_213 := Fr.app N_212 Nq_213
          obtain ⟨cq_214, kq_214, qa_214, qb_214, qc_214⟩ := isOf hZ e_213 po_202_0
          obtain ⟨_, _, ⟨T_214, L_214, k_214, n_214⟩, -, X_214, ⟨Lc_214, hQ_214, l_214, y_214, z_214⟩, st_214⟩ := X_213.virtualBack hx (y := (⟨"org/millrace/engine/Footprint", "rows", "()J"⟩ : MethodName)) (z := (⟨"org/millrace/engine/Footprint", "rows", "()J"⟩ : MethodName)) hown (mvT hZ (hw _ (List.mem_of_getElem? (i := 30) rfl))) (mvT hZ (hw _ (List.mem_of_getElem? (i := 31) rfl))) (notFace_of_selects (args := #[]) (mvT hZ (hw _ (List.mem_of_getElem? (i := 33) rfl)))) (mvT hZ (hw _ (List.mem_of_getElem? (i := 33) rfl))) (mvT hZ (hw _ (List.mem_of_getElem? (i := 32) rfl))) (by decide) (backOf (W := 0) (rm6 l Z a0 hw [] b_170 (own_ar q3 ((own_ar q1 (0 : Int64)) - q2)) T_202.heap n0 z_203 po_202_0 po_202_1) hZ (hw _ (List.mem_of_getElem? (i := 34) rfl)) (hw _ (List.mem_of_getElem? (i := 2) rfl)) (by decide) (by decide)) qa_214 qc_214 (g := (mkF m 152 #[.val (.long q1), .second, .val (.long q2), .second, .val (.long q3), .second, .val (.int p4), .val (.ref b_170), .val (.ref b_170), .val (.long (0 : Int64)), .second, .val (.long (q1 - q2)), .second, .val (.int (1 : Int32)), .val (.long ((q1 - q2) + q3)), .second, .val (.long (q1 + q3)), .second, .val (.long (q1 + q3)), .second] [(.ref b_170)])) rfl (by rw [hml]; rfl) (Steps.refl _) (argsL := []) (rest := []) (lenOf pd_3 rfl) rfl (by show 2 * 0 + _ ≤ _; exact Nat.le_of_eq rfl) (hb hby at_152) (fun _ _ => ⟨rfl, e_213, (by decide : 1 + 0 ≤ _), (by decide : 4 + 0 ≤ _)⟩)
          dsimp only [Pt.U, Pt.locs, Pt.cells, Pt.slots] at X_214 l_214 y_214 z_214 st_214 hQ_214
          replace X_214 := castS l_214 y_214 z_214 X_214
          obtain ⟨rfl, Nq_214, e_214⟩ := hQ_214
          have N_214 := Fr.app N_213 Nq_214
          obtain ⟨cq_215, kq_215, qa_215, qb_215, qc_215⟩ := isOf hZ e_214 po_202_0
          obtain ⟨_, _, ⟨T_215, L_215, k_215, n_215⟩, -, X_215, ⟨Lc_215, hQ_215, l_215, y_215, z_215⟩, st_215⟩ := X_214.virtualBack hx (y := (⟨"org/millrace/engine/Footprint", "peak", "()J"⟩ : MethodName)) (z := (⟨"org/millrace/engine/Footprint", "peak", "()J"⟩ : MethodName)) hown (mvT hZ (hw _ (List.mem_of_getElem? (i := 35) rfl))) (mvT hZ (hw _ (List.mem_of_getElem? (i := 36) rfl))) (notFace_of_selects (args := #[]) (mvT hZ (hw _ (List.mem_of_getElem? (i := 38) rfl)))) (mvT hZ (hw _ (List.mem_of_getElem? (i := 38) rfl))) (mvT hZ (hw _ (List.mem_of_getElem? (i := 37) rfl))) (by decide) (backOf (W := 0) (rm7 l Z a0 hw [] b_170 (own_ap q3 ((own_ar q1 (0 : Int64)) - q2) (own_ap q1 (0 : Int64) (0 : Int64) (0 : Int64)) ((0 : Int64) + q2)) T_202.heap n0 z_203 po_202_0 po_202_2) hZ (hw _ (List.mem_of_getElem? (i := 39) rfl)) (hw _ (List.mem_of_getElem? (i := 2) rfl)) (by decide) (by decide)) qa_215 qc_215 (g := (mkF m 163 #[.val (.long q1), .second, .val (.long q2), .second, .val (.long q3), .second, .val (.int p4), .val (.ref b_170), .val (.ref b_170), .val (.long (0 : Int64)), .second, .val (.long (q1 - q2)), .second, .val (.int (1 : Int32)), .val (.long ((q1 - q2) + q3)), .second, .val (.long (q1 + q3)), .second, .val (.long (q1 + q3)), .second] [(.ref b_170)])) rfl (by rw [hml]; rfl) (Steps.refl _) (argsL := []) (rest := []) (lenOf pd_3 rfl) rfl (by show 2 * 0 + _ ≤ _; exact Nat.le_of_eq rfl) (hb hby at_163) (fun _ _ => ⟨rfl, e_214, (by decide : 1 + 0 ≤ _), (by decide : 4 + 0 ≤ _)⟩)
          dsimp only [Pt.U, Pt.locs, Pt.cells, Pt.slots] at X_215 l_215 y_215 z_215 st_215 hQ_215
          replace X_215 := castS l_215 y_215 z_215 X_215
          obtain ⟨rfl, Nq_215, e_215⟩ := hQ_215
          have N_215 := Fr.app N_214 Nq_215
          obtain ⟨fs, hr, hrun, hended, hW, hsame⟩ := X_215.leave (v := some (.int (1 : Int32))) (fun h => by rw [Bd.returns] at h; cases h)
          refine ⟨_, _, pre_210 _ ?_, hrun, hended, _, _, rfl, ?_, ⟨_, rfl⟩, hW, hsame.mono (by decide) (by decide)⟩
          · show Steps p.tables e below (T_202.setTop (mkF m 116 #[.val (.long q1), .second, .val (.long q2), .second, .val (.long q3), .second, .val (.int p4), .val (.ref b_170), .val (.ref b_170), .val (.long (0 : Int64)), .second, .val (.long (q1 - q2)), .second, .val (.int (1 : Int32)), .val (.long ((q1 - q2) + q3)), .second, .val (.long (0 : Int64)), .second, .val (.long (q1 + q3)), .second] [(.int (lcmpW (q1 + q3) (0 : Int64)))])) _
            refine XS.ifNo X_202.here hx rfl (hb hby at_116) rfl ((if0 _ _).trans (tlt ((lw_gt _ _).mpr hc116__211)).2.2.2) ?_
            show Steps p.tables e below (T_202.setTop (mkF m 119 #[.val (.long q1), .second, .val (.long q2), .second, .val (.long q3), .second, .val (.int p4), .val (.ref b_170), .val (.ref b_170), .val (.long (0 : Int64)), .second, .val (.long (q1 - q2)), .second, .val (.int (1 : Int32)), .val (.long ((q1 - q2) + q3)), .second, .val (.long (0 : Int64)), .second, .val (.long (q1 + q3)), .second] [])) _
            refine XS.lload X_202.here hx rfl (hb hby at_119) rfl ?_
            show Steps p.tables e below (T_202.setTop (mkF m 121 #[.val (.long q1), .second, .val (.long q2), .second, .val (.long q3), .second, .val (.int p4), .val (.ref b_170), .val (.ref b_170), .val (.long (0 : Int64)), .second, .val (.long (q1 - q2)), .second, .val (.int (1 : Int32)), .val (.long ((q1 - q2) + q3)), .second, .val (.long (0 : Int64)), .second, .val (.long (q1 + q3)), .second] [(.long (q1 + q3))])) _
            refine XS.lstore X_202.here hx rfl (hb hby at_121) rfl (l' := #[.val (.long q1), .second, .val (.long q2), .second, .val (.long q3), .second, .val (.int p4), .val (.ref b_170), .val (.ref b_170), .val (.long (0 : Int64)), .second, .val (.long (q1 - q2)), .second, .val (.int (1 : Int32)), .val (.long ((q1 - q2) + q3)), .second, .val (.long (q1 + q3)), .second, .val (.long (q1 + q3)), .second]) rfl ?_
            show Steps p.tables e below (T_202.setTop (mkF m 123 #[.val (.long q1), .second, .val (.long q2), .second, .val (.long q3), .second, .val (.int p4), .val (.ref b_170), .val (.ref b_170), .val (.long (0 : Int64)), .second, .val (.long (q1 - q2)), .second, .val (.int (1 : Int32)), .val (.long ((q1 - q2) + q3)), .second, .val (.long (q1 + q3)), .second, .val (.long (q1 + q3)), .second] [])) _
            refine XS.iload X_202.here hx rfl (hb hby at_123) rfl ?_
            show Steps p.tables e below (T_202.setTop (mkF m 125 #[.val (.long q1), .second, .val (.long q2), .second, .val (.long q3), .second, .val (.int p4), .val (.ref b_170), .val (.ref b_170), .val (.long (0 : Int64)), .second, .val (.long (q1 - q2)), .second, .val (.int (1 : Int32)), .val (.long ((q1 - q2) + q3)), .second, .val (.long (q1 + q3)), .second, .val (.long (q1 + q3)), .second] [(.int (1 : Int32))])) _
            refine XS.ifNo X_202.here hx rfl (hb hby at_125) rfl ((if0 _ _).trans (feq (by decide : ¬ ((1 : Int32) = (0 : Int32)))).1) ?_
            show Steps p.tables e below (T_202.setTop (mkF m 128 #[.val (.long q1), .second, .val (.long q2), .second, .val (.long q3), .second, .val (.int p4), .val (.ref b_170), .val (.ref b_170), .val (.long (0 : Int64)), .second, .val (.long (q1 - q2)), .second, .val (.int (1 : Int32)), .val (.long ((q1 - q2) + q3)), .second, .val (.long (q1 + q3)), .second, .val (.long (q1 + q3)), .second] [])) _
            refine XS.aload X_202.here hx rfl (hb hby at_128) rfl rfl ?_
            show Steps p.tables e below (T_202.setTop (mkF m 130 #[.val (.long q1), .second, .val (.long q2), .second, .val (.long q3), .second, .val (.int p4), .val (.ref b_170), .val (.ref b_170), .val (.long (0 : Int64)), .second, .val (.long (q1 - q2)), .second, .val (.int (1 : Int32)), .val (.long ((q1 - q2) + q3)), .second, .val (.long (q1 + q3)), .second, .val (.long (q1 + q3)), .second] [(.ref b_170)])) _
            refine st_212.trans ?_
            show Steps p.tables e below (T_212.setTop (mkF m 133 #[.val (.long q1), .second, .val (.long q2), .second, .val (.long q3), .second, .val (.int p4), .val (.ref b_170), .val (.ref b_170), .val (.long (0 : Int64)), .second, .val (.long (q1 - q2)), .second, .val (.int (1 : Int32)), .val (.long ((q1 - q2) + q3)), .second, .val (.long (q1 + q3)), .second, .val (.long (q1 + q3)), .second] [(.long (own_ar q3 ((own_ar q1 (0 : Int64)) - q2)))])) _
            refine XS.lload X_212.here hx rfl (hb hby at_133) rfl ?_
            show Steps p.tables e below (T_212.setTop (mkF m 135 #[.val (.long q1), .second, .val (.long q2), .second, .val (.long q3), .second, .val (.int p4), .val (.ref b_170), .val (.ref b_170), .val (.long (0 : Int64)), .second, .val (.long (q1 - q2)), .second, .val (.int (1 : Int32)), .val (.long ((q1 - q2) + q3)), .second, .val (.long (q1 + q3)), .second, .val (.long (q1 + q3)), .second] [(.long ((q1 - q2) + q3)), (.long (own_ar q3 ((own_ar q1 (0 : Int64)) - q2)))])) _
            refine XS.lcmp X_212.here hx rfl (hb hby at_135) rfl ?_
            show Steps p.tables e below (T_212.setTop (mkF m 136 #[.val (.long q1), .second, .val (.long q2), .second, .val (.long q3), .second, .val (.int p4), .val (.ref b_170), .val (.ref b_170), .val (.long (0 : Int64)), .second, .val (.long (q1 - q2)), .second, .val (.int (1 : Int32)), .val (.long ((q1 - q2) + q3)), .second, .val (.long (q1 + q3)), .second, .val (.long (q1 + q3)), .second] [(.int (lcmpW (own_ar q3 ((own_ar q1 (0 : Int64)) - q2)) ((q1 - q2) + q3)))])) _
            refine XS.ifNo X_212.here hx rfl (hb hby at_136) rfl ((if0 _ _).trans (teq ((lw_eq _ _).mpr (by rw [own_ar_eq, own_ar_eq, Int64.zero_add] : (own_ar q3 ((own_ar q1 (0 : Int64)) - q2)) = ((q1 - q2) + q3)))).2) ?_
            show Steps p.tables e below (T_212.setTop (mkF m 139 #[.val (.long q1), .second, .val (.long q2), .second, .val (.long q3), .second, .val (.int p4), .val (.ref b_170), .val (.ref b_170), .val (.long (0 : Int64)), .second, .val (.long (q1 - q2)), .second, .val (.int (1 : Int32)), .val (.long ((q1 - q2) + q3)), .second, .val (.long (q1 + q3)), .second, .val (.long (q1 + q3)), .second] [])) _
            refine XS.aload X_212.here hx rfl (hb hby at_139) rfl rfl ?_
            show Steps p.tables e below (T_212.setTop (mkF m 141 #[.val (.long q1), .second, .val (.long q2), .second, .val (.long q3), .second, .val (.int p4), .val (.ref b_170), .val (.ref b_170), .val (.long (0 : Int64)), .second, .val (.long (q1 - q2)), .second, .val (.int (1 : Int32)), .val (.long ((q1 - q2) + q3)), .second, .val (.long (q1 + q3)), .second, .val (.long (q1 + q3)), .second] [(.ref b_170)])) _
            refine st_213.trans ?_
            show Steps p.tables e below (T_213.setTop (mkF m 144 #[.val (.long q1), .second, .val (.long q2), .second, .val (.long q3), .second, .val (.int p4), .val (.ref b_170), .val (.ref b_170), .val (.long (0 : Int64)), .second, .val (.long (q1 - q2)), .second, .val (.int (1 : Int32)), .val (.long ((q1 - q2) + q3)), .second, .val (.long (q1 + q3)), .second, .val (.long (q1 + q3)), .second] [(.long (own_ap q3 ((own_ar q1 (0 : Int64)) - q2) (own_ap q1 (0 : Int64) (0 : Int64) (0 : Int64)) ((0 : Int64) + q2)))])) _
            refine XS.lload X_213.here hx rfl (hb hby at_144) rfl ?_
            show Steps p.tables e below (T_213.setTop (mkF m 146 #[.val (.long q1), .second, .val (.long q2), .second, .val (.long q3), .second, .val (.int p4), .val (.ref b_170), .val (.ref b_170), .val (.long (0 : Int64)), .second, .val (.long (q1 - q2)), .second, .val (.int (1 : Int32)), .val (.long ((q1 - q2) + q3)), .second, .val (.long (q1 + q3)), .second, .val (.long (q1 + q3)), .second] [(.long (q1 + q3)), (.long (own_ap q3 ((own_ar q1 (0 : Int64)) - q2) (own_ap q1 (0 : Int64) (0 : Int64) (0 : Int64)) ((0 : Int64) + q2)))])) _
            refine XS.lcmp X_213.here hx rfl (hb hby at_146) rfl ?_
            show Steps p.tables e below (T_213.setTop (mkF m 147 #[.val (.long q1), .second, .val (.long q2), .second, .val (.long q3), .second, .val (.int p4), .val (.ref b_170), .val (.ref b_170), .val (.long (0 : Int64)), .second, .val (.long (q1 - q2)), .second, .val (.int (1 : Int32)), .val (.long ((q1 - q2) + q3)), .second, .val (.long (q1 + q3)), .second, .val (.long (q1 + q3)), .second] [(.int (lcmpW (own_ap q3 ((own_ar q1 (0 : Int64)) - q2) (own_ap q1 (0 : Int64) (0 : Int64) (0 : Int64)) ((0 : Int64) + q2)) (q1 + q3)))])) _
            refine XS.ifNo X_213.here hx rfl (hb hby at_147) rfl ((if0 _ _).trans (teq ((lw_eq _ _).mpr (by rw [own_pk]; simp only [if_neg hc47__181, if_neg hc102__205, if_pos hc116__211] : (own_ap q3 ((own_ar q1 (0 : Int64)) - q2) (own_ap q1 (0 : Int64) (0 : Int64) (0 : Int64)) ((0 : Int64) + q2)) = (q1 + q3)))).2) ?_
            show Steps p.tables e below (T_213.setTop (mkF m 150 #[.val (.long q1), .second, .val (.long q2), .second, .val (.long q3), .second, .val (.int p4), .val (.ref b_170), .val (.ref b_170), .val (.long (0 : Int64)), .second, .val (.long (q1 - q2)), .second, .val (.int (1 : Int32)), .val (.long ((q1 - q2) + q3)), .second, .val (.long (q1 + q3)), .second, .val (.long (q1 + q3)), .second] [])) _
            refine XS.aload X_213.here hx rfl (hb hby at_150) rfl rfl ?_
            show Steps p.tables e below (T_213.setTop (mkF m 152 #[.val (.long q1), .second, .val (.long q2), .second, .val (.long q3), .second, .val (.int p4), .val (.ref b_170), .val (.ref b_170), .val (.long (0 : Int64)), .second, .val (.long (q1 - q2)), .second, .val (.int (1 : Int32)), .val (.long ((q1 - q2) + q3)), .second, .val (.long (q1 + q3)), .second, .val (.long (q1 + q3)), .second] [(.ref b_170)])) _
            refine st_214.trans ?_
            show Steps p.tables e below (T_214.setTop (mkF m 155 #[.val (.long q1), .second, .val (.long q2), .second, .val (.long q3), .second, .val (.int p4), .val (.ref b_170), .val (.ref b_170), .val (.long (0 : Int64)), .second, .val (.long (q1 - q2)), .second, .val (.int (1 : Int32)), .val (.long ((q1 - q2) + q3)), .second, .val (.long (q1 + q3)), .second, .val (.long (q1 + q3)), .second] [(.long (own_ar q3 ((own_ar q1 (0 : Int64)) - q2)))])) _
            refine XS.lload X_214.here hx rfl (hb hby at_155) rfl ?_
            show Steps p.tables e below (T_214.setTop (mkF m 157 #[.val (.long q1), .second, .val (.long q2), .second, .val (.long q3), .second, .val (.int p4), .val (.ref b_170), .val (.ref b_170), .val (.long (0 : Int64)), .second, .val (.long (q1 - q2)), .second, .val (.int (1 : Int32)), .val (.long ((q1 - q2) + q3)), .second, .val (.long (q1 + q3)), .second, .val (.long (q1 + q3)), .second] [(.long ((q1 - q2) + q3)), (.long (own_ar q3 ((own_ar q1 (0 : Int64)) - q2)))])) _
            refine XS.lcmp X_214.here hx rfl (hb hby at_157) rfl ?_
            show Steps p.tables e below (T_214.setTop (mkF m 158 #[.val (.long q1), .second, .val (.long q2), .second, .val (.long q3), .second, .val (.int p4), .val (.ref b_170), .val (.ref b_170), .val (.long (0 : Int64)), .second, .val (.long (q1 - q2)), .second, .val (.int (1 : Int32)), .val (.long ((q1 - q2) + q3)), .second, .val (.long (q1 + q3)), .second, .val (.long (q1 + q3)), .second] [(.int (lcmpW (own_ar q3 ((own_ar q1 (0 : Int64)) - q2)) ((q1 - q2) + q3)))])) _
            refine XS.ifNo X_214.here hx rfl (hb hby at_158) rfl ((if0 _ _).trans (teq ((lw_eq _ _).mpr (by rw [own_ar_eq, own_ar_eq, Int64.zero_add] : (own_ar q3 ((own_ar q1 (0 : Int64)) - q2)) = ((q1 - q2) + q3)))).2) ?_
            show Steps p.tables e below (T_214.setTop (mkF m 161 #[.val (.long q1), .second, .val (.long q2), .second, .val (.long q3), .second, .val (.int p4), .val (.ref b_170), .val (.ref b_170), .val (.long (0 : Int64)), .second, .val (.long (q1 - q2)), .second, .val (.int (1 : Int32)), .val (.long ((q1 - q2) + q3)), .second, .val (.long (q1 + q3)), .second, .val (.long (q1 + q3)), .second] [])) _
            refine XS.aload X_214.here hx rfl (hb hby at_161) rfl rfl ?_
            show Steps p.tables e below (T_214.setTop (mkF m 163 #[.val (.long q1), .second, .val (.long q2), .second, .val (.long q3), .second, .val (.int p4), .val (.ref b_170), .val (.ref b_170), .val (.long (0 : Int64)), .second, .val (.long (q1 - q2)), .second, .val (.int (1 : Int32)), .val (.long ((q1 - q2) + q3)), .second, .val (.long (q1 + q3)), .second, .val (.long (q1 + q3)), .second] [(.ref b_170)])) _
            refine st_215.trans ?_
            show Steps p.tables e below (T_215.setTop (mkF m 166 #[.val (.long q1), .second, .val (.long q2), .second, .val (.long q3), .second, .val (.int p4), .val (.ref b_170), .val (.ref b_170), .val (.long (0 : Int64)), .second, .val (.long (q1 - q2)), .second, .val (.int (1 : Int32)), .val (.long ((q1 - q2) + q3)), .second, .val (.long (q1 + q3)), .second, .val (.long (q1 + q3)), .second] [(.long (own_ap q3 ((own_ar q1 (0 : Int64)) - q2) (own_ap q1 (0 : Int64) (0 : Int64) (0 : Int64)) ((0 : Int64) + q2)))])) _
            refine XS.lload X_215.here hx rfl (hb hby at_166) rfl ?_
            show Steps p.tables e below (T_215.setTop (mkF m 168 #[.val (.long q1), .second, .val (.long q2), .second, .val (.long q3), .second, .val (.int p4), .val (.ref b_170), .val (.ref b_170), .val (.long (0 : Int64)), .second, .val (.long (q1 - q2)), .second, .val (.int (1 : Int32)), .val (.long ((q1 - q2) + q3)), .second, .val (.long (q1 + q3)), .second, .val (.long (q1 + q3)), .second] [(.long (q1 + q3)), (.long (own_ap q3 ((own_ar q1 (0 : Int64)) - q2) (own_ap q1 (0 : Int64) (0 : Int64) (0 : Int64)) ((0 : Int64) + q2)))])) _
            refine XS.lcmp X_215.here hx rfl (hb hby at_168) rfl ?_
            show Steps p.tables e below (T_215.setTop (mkF m 169 #[.val (.long q1), .second, .val (.long q2), .second, .val (.long q3), .second, .val (.int p4), .val (.ref b_170), .val (.ref b_170), .val (.long (0 : Int64)), .second, .val (.long (q1 - q2)), .second, .val (.int (1 : Int32)), .val (.long ((q1 - q2) + q3)), .second, .val (.long (q1 + q3)), .second, .val (.long (q1 + q3)), .second] [(.int (lcmpW (own_ap q3 ((own_ar q1 (0 : Int64)) - q2) (own_ap q1 (0 : Int64) (0 : Int64) (0 : Int64)) ((0 : Int64) + q2)) (q1 + q3)))])) _
            refine XS.ifNo X_215.here hx rfl (hb hby at_169) rfl ((if0 _ _).trans (teq ((lw_eq _ _).mpr (by rw [own_pk]; simp only [if_neg hc47__181, if_neg hc102__205, if_pos hc116__211] : (own_ap q3 ((own_ar q1 (0 : Int64)) - q2) (own_ap q1 (0 : Int64) (0 : Int64) (0 : Int64)) ((0 : Int64) + q2)) = (q1 + q3)))).2) ?_
            show Steps p.tables e below (T_215.setTop (mkF m 172 #[.val (.long q1), .second, .val (.long q2), .second, .val (.long q3), .second, .val (.int p4), .val (.ref b_170), .val (.ref b_170), .val (.long (0 : Int64)), .second, .val (.long (q1 - q2)), .second, .val (.int (1 : Int32)), .val (.long ((q1 - q2) + q3)), .second, .val (.long (q1 + q3)), .second, .val (.long (q1 + q3)), .second] [])) _
            refine XS.iconst X_215.here hx rfl (hb hby at_172) ?_
            show Steps p.tables e below (T_215.setTop (mkF m 173 #[.val (.long q1), .second, .val (.long q2), .second, .val (.long q3), .second, .val (.int p4), .val (.ref b_170), .val (.ref b_170), .val (.long (0 : Int64)), .second, .val (.long (q1 - q2)), .second, .val (.int (1 : Int32)), .val (.long ((q1 - q2) + q3)), .second, .val (.long (q1 + q3)), .second, .val (.long (q1 + q3)), .second] [(.int (1 : Int32))])) _
            refine XS.goto X_215.here hx rfl (pc0 := 173) (pc' := 177) rfl (hb hby at_173) (by decide) (by decide) ?_
            show Steps p.tables e below (T_215.setTop (mkF m 177 #[.val (.long q1), .second, .val (.long q2), .second, .val (.long q3), .second, .val (.int p4), .val (.ref b_170), .val (.ref b_170), .val (.long (0 : Int64)), .second, .val (.long (q1 - q2)), .second, .val (.int (1 : Int32)), .val (.long ((q1 - q2) + q3)), .second, .val (.long (q1 + q3)), .second, .val (.long (q1 + q3)), .second] [(.int (1 : Int32))])) _
            refine XS.istore X_215.here hx rfl (hb hby at_177) rfl (l' := #[.val (.long q1), .second, .val (.long q2), .second, .val (.long q3), .second, .val (.int p4), .val (.ref b_170), .val (.ref b_170), .val (.long (0 : Int64)), .second, .val (.long (q1 - q2)), .second, .val (.int (1 : Int32)), .val (.long ((q1 - q2) + q3)), .second, .val (.long (q1 + q3)), .second, .val (.long (q1 + q3)), .second]) rfl ?_
            show Steps p.tables e below (T_215.setTop (mkF m 179 #[.val (.long q1), .second, .val (.long q2), .second, .val (.long q3), .second, .val (.int p4), .val (.ref b_170), .val (.ref b_170), .val (.long (0 : Int64)), .second, .val (.long (q1 - q2)), .second, .val (.int (1 : Int32)), .val (.long ((q1 - q2) + q3)), .second, .val (.long (q1 + q3)), .second, .val (.long (q1 + q3)), .second] [])) _
            refine XS.iload X_215.here hx rfl (hb hby at_179) rfl ?_
            show Steps p.tables e below (T_215.setTop (mkF m 181 #[.val (.long q1), .second, .val (.long q2), .second, .val (.long q3), .second, .val (.int p4), .val (.ref b_170), .val (.ref b_170), .val (.long (0 : Int64)), .second, .val (.long (q1 - q2)), .second, .val (.int (1 : Int32)), .val (.long ((q1 - q2) + q3)), .second, .val (.long (q1 + q3)), .second, .val (.long (q1 + q3)), .second] [(.int (1 : Int32))])) _
            exact retN X_215 hx (t := .boolean) Bd.returns (by simp) (hb hby at_181) hr
          · show Q0 Z q1 q2 q3 p4 h0 n0 _ T_215.heap _
            rw [e_215]
            exact ⟨rfl, N_215⟩
        · obtain ⟨cq_216, kq_216, qa_216, qb_216, qc_216⟩ := isOf hZ rfl po_202_0
          obtain ⟨_, _, ⟨T_216, L_216, k_216, n_216⟩, -, X_216, ⟨Lc_216, hQ_216, l_216, y_216, z_216⟩, st_216⟩ := X_202.virtualBack hx (y := (⟨"org/millrace/engine/Footprint", "rows", "()J"⟩ : MethodName)) (z := (⟨"org/millrace/engine/Footprint", "rows", "()J"⟩ : MethodName)) hown (mvT hZ (hw _ (List.mem_of_getElem? (i := 30) rfl))) (mvT hZ (hw _ (List.mem_of_getElem? (i := 31) rfl))) (notFace_of_selects (args := #[]) (mvT hZ (hw _ (List.mem_of_getElem? (i := 33) rfl)))) (mvT hZ (hw _ (List.mem_of_getElem? (i := 33) rfl))) (mvT hZ (hw _ (List.mem_of_getElem? (i := 32) rfl))) (by decide) (backOf (W := 0) (rm6 l Z a0 hw [] b_170 (own_ar q3 ((own_ar q1 (0 : Int64)) - q2)) T_202.heap n0 z_203 po_202_0 po_202_1) hZ (hw _ (List.mem_of_getElem? (i := 34) rfl)) (hw _ (List.mem_of_getElem? (i := 2) rfl)) (by decide) (by decide)) qa_216 qc_216 (g := (mkF m 130 #[.val (.long q1), .second, .val (.long q2), .second, .val (.long q3), .second, .val (.int p4), .val (.ref b_170), .val (.ref b_170), .val (.long (0 : Int64)), .second, .val (.long (q1 - q2)), .second, .val (.int (1 : Int32)), .val (.long ((q1 - q2) + q3)), .second, .val (.long (0 : Int64)), .second, .val (.long (q1 + q3)), .second] [(.ref b_170)])) rfl (by rw [hml]; rfl) (Steps.refl _) (argsL := []) (rest := []) (lenOf pd_3 rfl) rfl (by show 2 * 0 + _ ≤ _; exact Nat.le_of_eq rfl) (hb hby at_130) (fun _ _ => ⟨rfl, rfl, (by decide : 1 + 0 ≤ _), (by decide : 4 + 0 ≤ _)⟩)
          dsimp only [Pt.U, Pt.locs, Pt.cells, Pt.slots] at X_216 l_216 y_216 z_216 st_216 hQ_216
          replace X_216 := castS l_216 y_216 z_216 X_216
          obtain ⟨rfl, Nq_216, e_216⟩ := hQ_216
          have N_216 := Fr.app N_202 Nq_216
          obtain ⟨cq_217, kq_217, qa_217, qb_217, qc_217⟩ := isOf hZ e_216 po_202_0
          obtain ⟨_, _, ⟨T_217, L_217, k_217, n_217⟩, -, X_217, ⟨Lc_217, hQ_217, l_217, y_217, z_217⟩, st_217⟩ := X_216.virtualBack hx (y := (⟨"org/millrace/engine/Footprint", "peak", "()J"⟩ : MethodName)) (z := (⟨"org/millrace/engine/Footprint", "peak", "()J"⟩ : MethodName)) hown (mvT hZ (hw _ (List.mem_of_getElem? (i := 35) rfl))) (mvT hZ (hw _ (List.mem_of_getElem? (i := 36) rfl))) (notFace_of_selects (args := #[]) (mvT hZ (hw _ (List.mem_of_getElem? (i := 38) rfl)))) (mvT hZ (hw _ (List.mem_of_getElem? (i := 38) rfl))) (mvT hZ (hw _ (List.mem_of_getElem? (i := 37) rfl))) (by decide) (backOf (W := 0) (rm7 l Z a0 hw [] b_170 (own_ap q3 ((own_ar q1 (0 : Int64)) - q2) (own_ap q1 (0 : Int64) (0 : Int64) (0 : Int64)) ((0 : Int64) + q2)) T_202.heap n0 z_203 po_202_0 po_202_2) hZ (hw _ (List.mem_of_getElem? (i := 39) rfl)) (hw _ (List.mem_of_getElem? (i := 2) rfl)) (by decide) (by decide)) qa_217 qc_217 (g := (mkF m 141 #[.val (.long q1), .second, .val (.long q2), .second, .val (.long q3), .second, .val (.int p4), .val (.ref b_170), .val (.ref b_170), .val (.long (0 : Int64)), .second, .val (.long (q1 - q2)), .second, .val (.int (1 : Int32)), .val (.long ((q1 - q2) + q3)), .second, .val (.long (0 : Int64)), .second, .val (.long (q1 + q3)), .second] [(.ref b_170)])) rfl (by rw [hml]; rfl) (Steps.refl _) (argsL := []) (rest := []) (lenOf pd_3 rfl) rfl (by show 2 * 0 + _ ≤ _; exact Nat.le_of_eq rfl) (hb hby at_141) (fun _ _ => ⟨rfl, e_216, (by decide : 1 + 0 ≤ _), (by decide : 4 + 0 ≤ _)⟩)
          dsimp only [Pt.U, Pt.locs, Pt.cells, Pt.slots] at X_217 l_217 y_217 z_217 st_217 hQ_217
          replace X_217 := castS l_217 y_217 z_217 X_217
          obtain ⟨rfl, Nq_217, e_217⟩ := hQ_217
          have N_217 := Fr.app N_216 Nq_217
          obtain ⟨cq_218, kq_218, qa_218, qb_218, qc_218⟩ := isOf hZ e_217 po_202_0
          obtain ⟨_, _, ⟨T_218, L_218, k_218, n_218⟩, -, X_218, ⟨Lc_218, hQ_218, l_218, y_218, z_218⟩, st_218⟩ := X_217.virtualBack hx (y := (⟨"org/millrace/engine/Footprint", "rows", "()J"⟩ : MethodName)) (z := (⟨"org/millrace/engine/Footprint", "rows", "()J"⟩ : MethodName)) hown (mvT hZ (hw _ (List.mem_of_getElem? (i := 30) rfl))) (mvT hZ (hw _ (List.mem_of_getElem? (i := 31) rfl))) (notFace_of_selects (args := #[]) (mvT hZ (hw _ (List.mem_of_getElem? (i := 33) rfl)))) (mvT hZ (hw _ (List.mem_of_getElem? (i := 33) rfl))) (mvT hZ (hw _ (List.mem_of_getElem? (i := 32) rfl))) (by decide) (backOf (W := 0) (rm6 l Z a0 hw [] b_170 (own_ar q3 ((own_ar q1 (0 : Int64)) - q2)) T_202.heap n0 z_203 po_202_0 po_202_1) hZ (hw _ (List.mem_of_getElem? (i := 34) rfl)) (hw _ (List.mem_of_getElem? (i := 2) rfl)) (by decide) (by decide)) qa_218 qc_218 (g := (mkF m 152 #[.val (.long q1), .second, .val (.long q2), .second, .val (.long q3), .second, .val (.int p4), .val (.ref b_170), .val (.ref b_170), .val (.long (0 : Int64)), .second, .val (.long (q1 - q2)), .second, .val (.int (1 : Int32)), .val (.long ((q1 - q2) + q3)), .second, .val (.long (0 : Int64)), .second, .val (.long (q1 + q3)), .second] [(.ref b_170)])) rfl (by rw [hml]; rfl) (Steps.refl _) (argsL := []) (rest := []) (lenOf pd_3 rfl) rfl (by show 2 * 0 + _ ≤ _; exact Nat.le_of_eq rfl) (hb hby at_152) (fun _ _ => ⟨rfl, e_217, (by decide : 1 + 0 ≤ _), (by decide : 4 + 0 ≤ _)⟩)
          dsimp only [Pt.U, Pt.locs, Pt.cells, Pt.slots] at X_218 l_218 y_218 z_218 st_218 hQ_218
          replace X_218 := castS l_218 y_218 z_218 X_218
          obtain ⟨rfl, Nq_218, e_218⟩ := hQ_218
          have N_218 := Fr.app N_217 Nq_218
          obtain ⟨cq_219, kq_219, qa_219, qb_219, qc_219⟩ := isOf hZ e_218 po_202_0
          obtain ⟨_, _, ⟨T_219, L_219, k_219, n_219⟩, -, X_219, ⟨Lc_219, hQ_219, l_219, y_219, z_219⟩, st_219⟩ := X_218.virtualBack hx (y := (⟨"org/millrace/engine/Footprint", "peak", "()J"⟩ : MethodName)) (z := (⟨"org/millrace/engine/Footprint", "peak", "()J"⟩ : MethodName)) hown (mvT hZ (hw _ (List.mem_of_getElem? (i := 35) rfl))) (mvT hZ (hw _ (List.mem_of_getElem? (i := 36) rfl))) (notFace_of_selects (args := #[]) (mvT hZ (hw _ (List.mem_of_getElem? (i := 38) rfl)))) (mvT hZ (hw _ (List.mem_of_getElem? (i := 38) rfl))) (mvT hZ (hw _ (List.mem_of_getElem? (i := 37) rfl))) (by decide) (backOf (W := 0) (rm7 l Z a0 hw [] b_170 (own_ap q3 ((own_ar q1 (0 : Int64)) - q2) (own_ap q1 (0 : Int64) (0 : Int64) (0 : Int64)) ((0 : Int64) + q2)) T_202.heap n0 z_203 po_202_0 po_202_2) hZ (hw _ (List.mem_of_getElem? (i := 39) rfl)) (hw _ (List.mem_of_getElem? (i := 2) rfl)) (by decide) (by decide)) qa_219 qc_219 (g := (mkF m 163 #[.val (.long q1), .second, .val (.long q2), .second, .val (.long q3), .second, .val (.int p4), .val (.ref b_170), .val (.ref b_170), .val (.long (0 : Int64)), .second, .val (.long (q1 - q2)), .second, .val (.int (1 : Int32)), .val (.long ((q1 - q2) + q3)), .second, .val (.long (0 : Int64)), .second, .val (.long (q1 + q3)), .second] [(.ref b_170)])) rfl (by rw [hml]; rfl) (Steps.refl _) (argsL := []) (rest := []) (lenOf pd_3 rfl) rfl (by show 2 * 0 + _ ≤ _; exact Nat.le_of_eq rfl) (hb hby at_163) (fun _ _ => ⟨rfl, e_218, (by decide : 1 + 0 ≤ _), (by decide : 4 + 0 ≤ _)⟩)
          dsimp only [Pt.U, Pt.locs, Pt.cells, Pt.slots] at X_219 l_219 y_219 z_219 st_219 hQ_219
          replace X_219 := castS l_219 y_219 z_219 X_219
          obtain ⟨rfl, Nq_219, e_219⟩ := hQ_219
          have N_219 := Fr.app N_218 Nq_219
          obtain ⟨fs, hr, hrun, hended, hW, hsame⟩ := X_219.leave (v := some (.int (1 : Int32))) (fun h => by rw [Bd.returns] at h; cases h)
          refine ⟨_, _, pre_210 _ ?_, hrun, hended, _, _, rfl, ?_, ⟨_, rfl⟩, hW, hsame.mono (by decide) (by decide)⟩
          · show Steps p.tables e below (T_202.setTop (mkF m 116 #[.val (.long q1), .second, .val (.long q2), .second, .val (.long q3), .second, .val (.int p4), .val (.ref b_170), .val (.ref b_170), .val (.long (0 : Int64)), .second, .val (.long (q1 - q2)), .second, .val (.int (1 : Int32)), .val (.long ((q1 - q2) + q3)), .second, .val (.long (0 : Int64)), .second, .val (.long (q1 + q3)), .second] [(.int (lcmpW (q1 + q3) (0 : Int64)))])) _
            refine XS.ifYes X_202.here hx rfl (pc0 := 116) (pc' := 123) rfl (hb hby at_116) rfl ((if0 _ _).trans (flt (mt (lw_gt _ _).mp hc116__211)).2.2.2) (by decide) (by decide) ?_
            show Steps p.tables e below (T_202.setTop (mkF m 123 #[.val (.long q1), .second, .val (.long q2), .second, .val (.long q3), .second, .val (.int p4), .val (.ref b_170), .val (.ref b_170), .val (.long (0 : Int64)), .second, .val (.long (q1 - q2)), .second, .val (.int (1 : Int32)), .val (.long ((q1 - q2) + q3)), .second, .val (.long (0 : Int64)), .second, .val (.long (q1 + q3)), .second] [])) _
            refine XS.iload X_202.here hx rfl (hb hby at_123) rfl ?_
            show Steps p.tables e below (T_202.setTop (mkF m 125 #[.val (.long q1), .second, .val (.long q2), .second, .val (.long q3), .second, .val (.int p4), .val (.ref b_170), .val (.ref b_170), .val (.long (0 : Int64)), .second, .val (.long (q1 - q2)), .second, .val (.int (1 : Int32)), .val (.long ((q1 - q2) + q3)), .second, .val (.long (0 : Int64)), .second, .val (.long (q1 + q3)), .second] [(.int (1 : Int32))])) _
            refine XS.ifNo X_202.here hx rfl (hb hby at_125) rfl ((if0 _ _).trans (feq (by decide : ¬ ((1 : Int32) = (0 : Int32)))).1) ?_
            show Steps p.tables e below (T_202.setTop (mkF m 128 #[.val (.long q1), .second, .val (.long q2), .second, .val (.long q3), .second, .val (.int p4), .val (.ref b_170), .val (.ref b_170), .val (.long (0 : Int64)), .second, .val (.long (q1 - q2)), .second, .val (.int (1 : Int32)), .val (.long ((q1 - q2) + q3)), .second, .val (.long (0 : Int64)), .second, .val (.long (q1 + q3)), .second] [])) _
            refine XS.aload X_202.here hx rfl (hb hby at_128) rfl rfl ?_
            show Steps p.tables e below (T_202.setTop (mkF m 130 #[.val (.long q1), .second, .val (.long q2), .second, .val (.long q3), .second, .val (.int p4), .val (.ref b_170), .val (.ref b_170), .val (.long (0 : Int64)), .second, .val (.long (q1 - q2)), .second, .val (.int (1 : Int32)), .val (.long ((q1 - q2) + q3)), .second, .val (.long (0 : Int64)), .second, .val (.long (q1 + q3)), .second] [(.ref b_170)])) _
            refine st_216.trans ?_
            show Steps p.tables e below (T_216.setTop (mkF m 133 #[.val (.long q1), .second, .val (.long q2), .second, .val (.long q3), .second, .val (.int p4), .val (.ref b_170), .val (.ref b_170), .val (.long (0 : Int64)), .second, .val (.long (q1 - q2)), .second, .val (.int (1 : Int32)), .val (.long ((q1 - q2) + q3)), .second, .val (.long (0 : Int64)), .second, .val (.long (q1 + q3)), .second] [(.long (own_ar q3 ((own_ar q1 (0 : Int64)) - q2)))])) _
            refine XS.lload X_216.here hx rfl (hb hby at_133) rfl ?_
            show Steps p.tables e below (T_216.setTop (mkF m 135 #[.val (.long q1), .second, .val (.long q2), .second, .val (.long q3), .second, .val (.int p4), .val (.ref b_170), .val (.ref b_170), .val (.long (0 : Int64)), .second, .val (.long (q1 - q2)), .second, .val (.int (1 : Int32)), .val (.long ((q1 - q2) + q3)), .second, .val (.long (0 : Int64)), .second, .val (.long (q1 + q3)), .second] [(.long ((q1 - q2) + q3)), (.long (own_ar q3 ((own_ar q1 (0 : Int64)) - q2)))])) _
            refine XS.lcmp X_216.here hx rfl (hb hby at_135) rfl ?_
            show Steps p.tables e below (T_216.setTop (mkF m 136 #[.val (.long q1), .second, .val (.long q2), .second, .val (.long q3), .second, .val (.int p4), .val (.ref b_170), .val (.ref b_170), .val (.long (0 : Int64)), .second, .val (.long (q1 - q2)), .second, .val (.int (1 : Int32)), .val (.long ((q1 - q2) + q3)), .second, .val (.long (0 : Int64)), .second, .val (.long (q1 + q3)), .second] [(.int (lcmpW (own_ar q3 ((own_ar q1 (0 : Int64)) - q2)) ((q1 - q2) + q3)))])) _
            refine XS.ifNo X_216.here hx rfl (hb hby at_136) rfl ((if0 _ _).trans (teq ((lw_eq _ _).mpr (by rw [own_ar_eq, own_ar_eq, Int64.zero_add] : (own_ar q3 ((own_ar q1 (0 : Int64)) - q2)) = ((q1 - q2) + q3)))).2) ?_
            show Steps p.tables e below (T_216.setTop (mkF m 139 #[.val (.long q1), .second, .val (.long q2), .second, .val (.long q3), .second, .val (.int p4), .val (.ref b_170), .val (.ref b_170), .val (.long (0 : Int64)), .second, .val (.long (q1 - q2)), .second, .val (.int (1 : Int32)), .val (.long ((q1 - q2) + q3)), .second, .val (.long (0 : Int64)), .second, .val (.long (q1 + q3)), .second] [])) _
            refine XS.aload X_216.here hx rfl (hb hby at_139) rfl rfl ?_
            show Steps p.tables e below (T_216.setTop (mkF m 141 #[.val (.long q1), .second, .val (.long q2), .second, .val (.long q3), .second, .val (.int p4), .val (.ref b_170), .val (.ref b_170), .val (.long (0 : Int64)), .second, .val (.long (q1 - q2)), .second, .val (.int (1 : Int32)), .val (.long ((q1 - q2) + q3)), .second, .val (.long (0 : Int64)), .second, .val (.long (q1 + q3)), .second] [(.ref b_170)])) _
            refine st_217.trans ?_
            show Steps p.tables e below (T_217.setTop (mkF m 144 #[.val (.long q1), .second, .val (.long q2), .second, .val (.long q3), .second, .val (.int p4), .val (.ref b_170), .val (.ref b_170), .val (.long (0 : Int64)), .second, .val (.long (q1 - q2)), .second, .val (.int (1 : Int32)), .val (.long ((q1 - q2) + q3)), .second, .val (.long (0 : Int64)), .second, .val (.long (q1 + q3)), .second] [(.long (own_ap q3 ((own_ar q1 (0 : Int64)) - q2) (own_ap q1 (0 : Int64) (0 : Int64) (0 : Int64)) ((0 : Int64) + q2)))])) _
            refine XS.lload X_217.here hx rfl (hb hby at_144) rfl ?_
            show Steps p.tables e below (T_217.setTop (mkF m 146 #[.val (.long q1), .second, .val (.long q2), .second, .val (.long q3), .second, .val (.int p4), .val (.ref b_170), .val (.ref b_170), .val (.long (0 : Int64)), .second, .val (.long (q1 - q2)), .second, .val (.int (1 : Int32)), .val (.long ((q1 - q2) + q3)), .second, .val (.long (0 : Int64)), .second, .val (.long (q1 + q3)), .second] [(.long (0 : Int64)), (.long (own_ap q3 ((own_ar q1 (0 : Int64)) - q2) (own_ap q1 (0 : Int64) (0 : Int64) (0 : Int64)) ((0 : Int64) + q2)))])) _
            refine XS.lcmp X_217.here hx rfl (hb hby at_146) rfl ?_
            show Steps p.tables e below (T_217.setTop (mkF m 147 #[.val (.long q1), .second, .val (.long q2), .second, .val (.long q3), .second, .val (.int p4), .val (.ref b_170), .val (.ref b_170), .val (.long (0 : Int64)), .second, .val (.long (q1 - q2)), .second, .val (.int (1 : Int32)), .val (.long ((q1 - q2) + q3)), .second, .val (.long (0 : Int64)), .second, .val (.long (q1 + q3)), .second] [(.int (lcmpW (own_ap q3 ((own_ar q1 (0 : Int64)) - q2) (own_ap q1 (0 : Int64) (0 : Int64) (0 : Int64)) ((0 : Int64) + q2)) (0 : Int64)))])) _
            refine XS.ifNo X_217.here hx rfl (hb hby at_147) rfl ((if0 _ _).trans (teq ((lw_eq _ _).mpr (by rw [own_pk]; simp only [if_neg hc47__181, if_neg hc102__205, if_neg hc116__211] : (own_ap q3 ((own_ar q1 (0 : Int64)) - q2) (own_ap q1 (0 : Int64) (0 : Int64) (0 : Int64)) ((0 : Int64) + q2)) = (0 : Int64)))).2) ?_
            show Steps p.tables e below (T_217.setTop (mkF m 150 #[.val (.long q1), .second, .val (.long q2), .second, .val (.long q3), .second, .val (.int p4), .val (.ref b_170), .val (.ref b_170), .val (.long (0 : Int64)), .second, .val (.long (q1 - q2)), .second, .val (.int (1 : Int32)), .val (.long ((q1 - q2) + q3)), .second, .val (.long (0 : Int64)), .second, .val (.long (q1 + q3)), .second] [])) _
            refine XS.aload X_217.here hx rfl (hb hby at_150) rfl rfl ?_
            show Steps p.tables e below (T_217.setTop (mkF m 152 #[.val (.long q1), .second, .val (.long q2), .second, .val (.long q3), .second, .val (.int p4), .val (.ref b_170), .val (.ref b_170), .val (.long (0 : Int64)), .second, .val (.long (q1 - q2)), .second, .val (.int (1 : Int32)), .val (.long ((q1 - q2) + q3)), .second, .val (.long (0 : Int64)), .second, .val (.long (q1 + q3)), .second] [(.ref b_170)])) _
            refine st_218.trans ?_
            show Steps p.tables e below (T_218.setTop (mkF m 155 #[.val (.long q1), .second, .val (.long q2), .second, .val (.long q3), .second, .val (.int p4), .val (.ref b_170), .val (.ref b_170), .val (.long (0 : Int64)), .second, .val (.long (q1 - q2)), .second, .val (.int (1 : Int32)), .val (.long ((q1 - q2) + q3)), .second, .val (.long (0 : Int64)), .second, .val (.long (q1 + q3)), .second] [(.long (own_ar q3 ((own_ar q1 (0 : Int64)) - q2)))])) _
            refine XS.lload X_218.here hx rfl (hb hby at_155) rfl ?_
            show Steps p.tables e below (T_218.setTop (mkF m 157 #[.val (.long q1), .second, .val (.long q2), .second, .val (.long q3), .second, .val (.int p4), .val (.ref b_170), .val (.ref b_170), .val (.long (0 : Int64)), .second, .val (.long (q1 - q2)), .second, .val (.int (1 : Int32)), .val (.long ((q1 - q2) + q3)), .second, .val (.long (0 : Int64)), .second, .val (.long (q1 + q3)), .second] [(.long ((q1 - q2) + q3)), (.long (own_ar q3 ((own_ar q1 (0 : Int64)) - q2)))])) _
            refine XS.lcmp X_218.here hx rfl (hb hby at_157) rfl ?_
            show Steps p.tables e below (T_218.setTop (mkF m 158 #[.val (.long q1), .second, .val (.long q2), .second, .val (.long q3), .second, .val (.int p4), .val (.ref b_170), .val (.ref b_170), .val (.long (0 : Int64)), .second, .val (.long (q1 - q2)), .second, .val (.int (1 : Int32)), .val (.long ((q1 - q2) + q3)), .second, .val (.long (0 : Int64)), .second, .val (.long (q1 + q3)), .second] [(.int (lcmpW (own_ar q3 ((own_ar q1 (0 : Int64)) - q2)) ((q1 - q2) + q3)))])) _
            refine XS.ifNo X_218.here hx rfl (hb hby at_158) rfl ((if0 _ _).trans (teq ((lw_eq _ _).mpr (by rw [own_ar_eq, own_ar_eq, Int64.zero_add] : (own_ar q3 ((own_ar q1 (0 : Int64)) - q2)) = ((q1 - q2) + q3)))).2) ?_
            show Steps p.tables e below (T_218.setTop (mkF m 161 #[.val (.long q1), .second, .val (.long q2), .second, .val (.long q3), .second, .val (.int p4), .val (.ref b_170), .val (.ref b_170), .val (.long (0 : Int64)), .second, .val (.long (q1 - q2)), .second, .val (.int (1 : Int32)), .val (.long ((q1 - q2) + q3)), .second, .val (.long (0 : Int64)), .second, .val (.long (q1 + q3)), .second] [])) _
            refine XS.aload X_218.here hx rfl (hb hby at_161) rfl rfl ?_
            show Steps p.tables e below (T_218.setTop (mkF m 163 #[.val (.long q1), .second, .val (.long q2), .second, .val (.long q3), .second, .val (.int p4), .val (.ref b_170), .val (.ref b_170), .val (.long (0 : Int64)), .second, .val (.long (q1 - q2)), .second, .val (.int (1 : Int32)), .val (.long ((q1 - q2) + q3)), .second, .val (.long (0 : Int64)), .second, .val (.long (q1 + q3)), .second] [(.ref b_170)])) _
            refine st_219.trans ?_
            show Steps p.tables e below (T_219.setTop (mkF m 166 #[.val (.long q1), .second, .val (.long q2), .second, .val (.long q3), .second, .val (.int p4), .val (.ref b_170), .val (.ref b_170), .val (.long (0 : Int64)), .second, .val (.long (q1 - q2)), .second, .val (.int (1 : Int32)), .val (.long ((q1 - q2) + q3)), .second, .val (.long (0 : Int64)), .second, .val (.long (q1 + q3)), .second] [(.long (own_ap q3 ((own_ar q1 (0 : Int64)) - q2) (own_ap q1 (0 : Int64) (0 : Int64) (0 : Int64)) ((0 : Int64) + q2)))])) _
            refine XS.lload X_219.here hx rfl (hb hby at_166) rfl ?_
            show Steps p.tables e below (T_219.setTop (mkF m 168 #[.val (.long q1), .second, .val (.long q2), .second, .val (.long q3), .second, .val (.int p4), .val (.ref b_170), .val (.ref b_170), .val (.long (0 : Int64)), .second, .val (.long (q1 - q2)), .second, .val (.int (1 : Int32)), .val (.long ((q1 - q2) + q3)), .second, .val (.long (0 : Int64)), .second, .val (.long (q1 + q3)), .second] [(.long (0 : Int64)), (.long (own_ap q3 ((own_ar q1 (0 : Int64)) - q2) (own_ap q1 (0 : Int64) (0 : Int64) (0 : Int64)) ((0 : Int64) + q2)))])) _
            refine XS.lcmp X_219.here hx rfl (hb hby at_168) rfl ?_
            show Steps p.tables e below (T_219.setTop (mkF m 169 #[.val (.long q1), .second, .val (.long q2), .second, .val (.long q3), .second, .val (.int p4), .val (.ref b_170), .val (.ref b_170), .val (.long (0 : Int64)), .second, .val (.long (q1 - q2)), .second, .val (.int (1 : Int32)), .val (.long ((q1 - q2) + q3)), .second, .val (.long (0 : Int64)), .second, .val (.long (q1 + q3)), .second] [(.int (lcmpW (own_ap q3 ((own_ar q1 (0 : Int64)) - q2) (own_ap q1 (0 : Int64) (0 : Int64) (0 : Int64)) ((0 : Int64) + q2)) (0 : Int64)))])) _
            refine XS.ifNo X_219.here hx rfl (hb hby at_169) rfl ((if0 _ _).trans (teq ((lw_eq _ _).mpr (by rw [own_pk]; simp only [if_neg hc47__181, if_neg hc102__205, if_neg hc116__211] : (own_ap q3 ((own_ar q1 (0 : Int64)) - q2) (own_ap q1 (0 : Int64) (0 : Int64) (0 : Int64)) ((0 : Int64) + q2)) = (0 : Int64)))).2) ?_
            show Steps p.tables e below (T_219.setTop (mkF m 172 #[.val (.long q1), .second, .val (.long q2), .second, .val (.long q3), .second, .val (.int p4), .val (.ref b_170), .val (.ref b_170), .val (.long (0 : Int64)), .second, .val (.long (q1 - q2)), .second, .val (.int (1 : Int32)), .val (.long ((q1 - q2) + q3)), .second, .val (.long (0 : Int64)), .second, .val (.long (q1 + q3)), .second] [])) _
            refine XS.iconst X_219.here hx rfl (hb hby at_172) ?_
            show Steps p.tables e below (T_219.setTop (mkF m 173 #[.val (.long q1), .second, .val (.long q2), .second, .val (.long q3), .second, .val (.int p4), .val (.ref b_170), .val (.ref b_170), .val (.long (0 : Int64)), .second, .val (.long (q1 - q2)), .second, .val (.int (1 : Int32)), .val (.long ((q1 - q2) + q3)), .second, .val (.long (0 : Int64)), .second, .val (.long (q1 + q3)), .second] [(.int (1 : Int32))])) _
            refine XS.goto X_219.here hx rfl (pc0 := 173) (pc' := 177) rfl (hb hby at_173) (by decide) (by decide) ?_
            show Steps p.tables e below (T_219.setTop (mkF m 177 #[.val (.long q1), .second, .val (.long q2), .second, .val (.long q3), .second, .val (.int p4), .val (.ref b_170), .val (.ref b_170), .val (.long (0 : Int64)), .second, .val (.long (q1 - q2)), .second, .val (.int (1 : Int32)), .val (.long ((q1 - q2) + q3)), .second, .val (.long (0 : Int64)), .second, .val (.long (q1 + q3)), .second] [(.int (1 : Int32))])) _
            refine XS.istore X_219.here hx rfl (hb hby at_177) rfl (l' := #[.val (.long q1), .second, .val (.long q2), .second, .val (.long q3), .second, .val (.int p4), .val (.ref b_170), .val (.ref b_170), .val (.long (0 : Int64)), .second, .val (.long (q1 - q2)), .second, .val (.int (1 : Int32)), .val (.long ((q1 - q2) + q3)), .second, .val (.long (0 : Int64)), .second, .val (.long (q1 + q3)), .second]) rfl ?_
            show Steps p.tables e below (T_219.setTop (mkF m 179 #[.val (.long q1), .second, .val (.long q2), .second, .val (.long q3), .second, .val (.int p4), .val (.ref b_170), .val (.ref b_170), .val (.long (0 : Int64)), .second, .val (.long (q1 - q2)), .second, .val (.int (1 : Int32)), .val (.long ((q1 - q2) + q3)), .second, .val (.long (0 : Int64)), .second, .val (.long (q1 + q3)), .second] [])) _
            refine XS.iload X_219.here hx rfl (hb hby at_179) rfl ?_
            show Steps p.tables e below (T_219.setTop (mkF m 181 #[.val (.long q1), .second, .val (.long q2), .second, .val (.long q3), .second, .val (.int p4), .val (.ref b_170), .val (.ref b_170), .val (.long (0 : Int64)), .second, .val (.long (q1 - q2)), .second, .val (.int (1 : Int32)), .val (.long ((q1 - q2) + q3)), .second, .val (.long (0 : Int64)), .second, .val (.long (q1 + q3)), .second] [(.int (1 : Int32))])) _
            exact retN X_219 hx (t := .boolean) Bd.returns (by simp) (hb hby at_181) hr
          · show Q0 Z q1 q2 q3 p4 h0 n0 _ T_219.heap _
            rw [e_219]
            exact ⟨rfl, N_219⟩
  · obtain ⟨T_220, h_220, X_220, e_220, E_220, A_220, D_220, -, st_220⟩ := newO X_172 hx hZ hown (hw _ (List.mem_of_getElem? (i := 0) rfl)) (hw _ (List.mem_of_getElem? (i := 1) rfl)) (hw _ (List.mem_of_getElem? (i := 2) rfl)) rfl (g := (mkF m 16 #[.val (.long q1), .second, .val (.long q2), .second, .val (.long q3), .second, .val (.int p4), .val (.ref b_170), .unset, .unset, .unset, .unset, .unset, .unset, .unset, .unset, .unset, .unset, .unset, .unset] [])) rfl (hb hby at_16) (by decide) (by decide)
    obtain ⟨b_220, g_220⟩ : ∃ z, z = T_172.heap.size := ⟨_, rfl⟩
    rw [← g_220] at A_220 D_220 st_220
    have g_b_220 : n0 ≤ b_220 := Nat.le_trans z_173 (Nat.le_of_eq g_220.symm)
    have ne_b_170_b_220 : b_170 ≠ b_220 := Nat.ne_of_lt (Nat.lt_of_lt_of_le po_172_2.lt (Nat.le_of_eq g_220.symm))
    have z_221 : n0 ≤ h_220.size := Nat.le_trans z_173 E_220.1
    have fi_220_whole : Fld Z h_220 b_220 "org/millrace/engine/Footprint" "whole" "Lorg/millrace/engine/Footprint;" .null := D_220 (Or.inr (hw _ (List.mem_of_getElem? (i := 13) rfl))) (ty := (.object "org/millrace/engine/Footprint")) (by decide)
    have fi_220_rows : Fld Z h_220 b_220 "org/millrace/engine/Footprint" "rows" "J" (.long (0 : Int64)) := D_220 (Or.inl (hw _ (List.mem_of_getElem? (i := 20) rfl))) (ty := .long) (by decide)
    have fi_220_aside : Fld Z h_220 b_220 "org/millrace/engine/Footprint" "aside" "J" (.long (0 : Int64)) := D_220 (Or.inl (hw _ (List.mem_of_getElem? (i := 22) rfl))) (ty := .long) (by decide)
    have fi_220_peak : Fld Z h_220 b_220 "org/millrace/engine/Footprint" "peak" "J" (.long (0 : Int64)) := D_220 (Or.inl (hw _ (List.mem_of_getElem? (i := 24) rfl))) (ty := .long) (by decide)
    obtain ⟨_, _, ⟨T_222, L_222, k_222, n_222⟩, -, X_222, ⟨Lc_222, hQ_222, l_222, y_222, z_222⟩, st_222⟩ := X_220.specialBack hx (y := (⟨"org/millrace/engine/Footprint", "<init>", "(Lorg/millrace/engine/Footprint;)V"⟩ : MethodName)) rfl hown (mvT hZ (hw _ (List.mem_of_getElem? (i := 40) rfl))) (mvT hZ (hw _ (List.mem_of_getElem? (i := 7) rfl))) (mvT hZ (hw _ (List.mem_of_getElem? (i := 8) rfl))) (by decide) (backOf (W := 1) (rm2r l Z a0 hw [] b_220 b_170 h_220 n0 z_221 A_220 fi_220_rows fi_220_peak fi_220_aside fi_220_whole g_b_220) hZ (hw _ (List.mem_of_getElem? (i := 8) rfl)) (hw _ (List.mem_of_getElem? (i := 2) rfl)) (by decide) (by decide)) (g := (mkF m 22 #[.val (.long q1), .second, .val (.long q2), .second, .val (.long q3), .second, .val (.int p4), .val (.ref b_170), .unset, .unset, .unset, .unset, .unset, .unset, .unset, .unset, .unset, .unset, .unset, .unset] [(.ref b_170), (.ref b_220), (.ref b_220)])) rfl (by rw [hml]; rfl) (Steps.refl _) (a := b_220) (argsL := [(.ref b_170)]) (rest := [(.ref b_220)]) (lenOf pd_1 rfl) rfl (by show 2 * 0 + _ ≤ _; exact Nat.le_of_eq rfl) (hb hby at_22) (fun _ _ => ⟨rfl, e_220, (by decide : 2 + 0 ≤ _), (by decide : 8 + 0 ≤ _)⟩)
    dsimp only [Pt.U, Pt.locs, Pt.cells, Pt.slots] at X_222 l_222 y_222 z_222 st_222 hQ_222
    replace X_222 := castS l_222 y_222 z_222 X_222
    obtain ⟨rfl, Nq_222, K_222, po_222_0, po_222_1, po_222_2, po_222_3, po_222_4⟩ := hQ_222
    have z_223 : n0 ≤ T_222.heap.size := Nat.le_trans z_221 K_222.1
    have N_222 := Fr.app N_172 Nq_222
    have f_224 : Exa Z T_222.heap b_170 "org/millrace/engine/Footprint" := ((po_172_0.ext E_220).keep K_222)
    have f_225 : Fld Z T_222.heap b_170 "org/millrace/engine/Footprint" "rows" "J" (.long (0 : Int64)) := ((po_172_1.ext E_220).keep K_222 (ninS ne_b_170_b_220 nin0))
    have f_226 : Fld Z T_222.heap b_170 "org/millrace/engine/Footprint" "peak" "J" (.long (0 : Int64)) := ((po_172_2.ext E_220).keep K_222 (ninS ne_b_170_b_220 nin0))
    have f_227 : Fld Z T_222.heap b_170 "org/millrace/engine/Footprint" "aside" "J" (.long (0 : Int64)) := ((po_172_3.ext E_220).keep K_222 (ninS ne_b_170_b_220 nin0))
    have f_228 : Fld Z T_222.heap b_170 "org/millrace/engine/Footprint" "whole" "Lorg/millrace/engine/Footprint;" .null := ((po_172_4.ext E_220).keep K_222 (ninS ne_b_170_b_220 nin0))
    obtain ⟨cq_229, kq_229, qa_229, qb_229, qc_229⟩ := isOf hZ rfl po_222_0
    obtain ⟨_, _, ⟨T_229, L_229, k_229, n_229⟩, -, X_229, ⟨Lc_229, hQ_229, l_229, y_229, z_229⟩, st_229⟩ := X_222.virtualBack hx (y := (⟨"org/millrace/engine/Footprint", "add", "(J)V"⟩ : MethodName)) (z := (⟨"org/millrace/engine/Footprint", "add", "(J)V"⟩ : MethodName)) hown (mvT hZ (hw _ (List.mem_of_getElem? (i := 14) rfl))) (mvT hZ (hw _ (List.mem_of_getElem? (i := 15) rfl))) (notFace_of_selects (args := #[]) (mvT hZ (hw _ (List.mem_of_getElem? (i := 17) rfl)))) (mvT hZ (hw _ (List.mem_of_getElem? (i := 17) rfl))) (mvT hZ (hw _ (List.mem_of_getElem? (i := 16) rfl))) (by decide) (backOf (W := 0) (rm4r l Z a0 hw [] b_220 b_170 q1 (0 : Int64) (0 : Int64) (0 : Int64) (0 : Int64) (0 : Int64) (0 : Int64) T_222.heap n0 z_223 po_222_0 po_222_1 po_222_2 po_222_3 po_222_4 f_224 f_225 f_226 f_227 f_228 g_b_220 g_b_170 (Ne.symm ne_b_170_b_220)) hZ (hw _ (List.mem_of_getElem? (i := 18) rfl)) (hw _ (List.mem_of_getElem? (i := 2) rfl)) (by decide) (by decide)) qa_229 qc_229 (g := (mkF m 35 #[.val (.long q1), .second, .val (.long q2), .second, .val (.long q3), .second, .val (.int p4), .val (.ref b_170), .val (.ref b_220), .unset, .unset, .unset, .unset, .unset, .unset, .unset, .unset, .unset, .unset, .unset] [(.long q1), (.ref b_220)])) rfl (by rw [hml]; rfl) (Steps.refl _) (argsL := [(.long q1)]) (rest := []) (lenOf pd_2 rfl) rfl (by show 2 * 0 + _ ≤ _; exact Nat.le_of_eq rfl) (hb hby at_35) (fun _ _ => ⟨rfl, rfl, (by decide : 2 + 0 ≤ _), (by decide : 8 + 0 ≤ _)⟩)
    dsimp only [Pt.U, Pt.locs, Pt.cells, Pt.slots] at X_229 l_229 y_229 z_229 st_229 hQ_229
    replace X_229 := castS l_229 y_229 z_229 X_229
    obtain ⟨rfl, Nq_229, K_229, po_229_0, po_229_1, po_229_2, po_229_3, po_229_4, po_229_5, po_229_6, po_229_7, po_229_8, po_229_9⟩ := hQ_229
    have z_230 : n0 ≤ T_229.heap.size := Nat.le_trans z_223 K_229.1
    have N_229 := Fr.app N_222 Nq_229
    obtain ⟨cq_231, kq_231, qa_231, qb_231, qc_231⟩ := isOf hZ rfl po_229_0
    obtain ⟨_, _, ⟨T_231, L_231, k_231, n_231⟩, -, X_231, ⟨Lc_231, hQ_231, l_231, y_231, z_231⟩, st_231⟩ := X_229.virtualBack hx (y := (⟨"org/millrace/engine/Footprint", "setAside", "(J)V"⟩ : MethodName)) (z := (⟨"org/millrace/engine/Footprint", "setAside", "(J)V"⟩ : MethodName)) hown (mvT hZ (hw _ (List.mem_of_getElem? (i := 25) rfl))) (mvT hZ (hw _ (List.mem_of_getElem? (i := 26) rfl))) (notFace_of_selects (args := #[]) (mvT hZ (hw _ (List.mem_of_getElem? (i := 28) rfl)))) (mvT hZ (hw _ (List.mem_of_getElem? (i := 28) rfl))) (mvT hZ (hw _ (List.mem_of_getElem? (i := 27) rfl))) (by decide) (backOf (W := 0) (rm5r l Z a0 hw [] b_220 b_170 q2 (own_ar q1 (0 : Int64)) (own_ap q1 (0 : Int64) (0 : Int64) (0 : Int64)) (0 : Int64) (own_ar q1 (0 : Int64)) (own_ap q1 (0 : Int64) (0 : Int64) (0 : Int64)) (0 : Int64) T_229.heap n0 z_230 po_229_0 po_229_1 po_229_2 po_229_3 po_229_4 po_229_5 po_229_6 po_229_7 po_229_8 po_229_9 g_b_220 g_b_170 (Ne.symm ne_b_170_b_220)) hZ (hw _ (List.mem_of_getElem? (i := 29) rfl)) (hw _ (List.mem_of_getElem? (i := 2) rfl)) (by decide) (by decide)) qa_231 qc_231 (g := (mkF m 41 #[.val (.long q1), .second, .val (.long q2), .second, .val (.long q3), .second, .val (.int p4), .val (.ref b_170), .val (.ref b_220), .unset, .unset, .unset, .unset, .unset, .unset, .unset, .unset, .unset, .unset, .unset] [(.long q2), (.ref b_220)])) rfl (by rw [hml]; rfl) (Steps.refl _) (argsL := [(.long q2)]) (rest := []) (lenOf pd_2 rfl) rfl (by show 2 * 0 + _ ≤ _; exact Nat.le_of_eq rfl) (hb hby at_41) (fun _ _ => ⟨rfl, rfl, (by decide : 2 + 0 ≤ _), (by decide : 8 + 0 ≤ _)⟩)
    dsimp only [Pt.U, Pt.locs, Pt.cells, Pt.slots] at X_231 l_231 y_231 z_231 st_231 hQ_231
    replace X_231 := castS l_231 y_231 z_231 X_231
    obtain ⟨rfl, Nq_231, K_231, po_231_0, po_231_1, po_231_2, po_231_3, po_231_4, po_231_5, po_231_6, po_231_7, po_231_8, po_231_9⟩ := hQ_231
    have z_232 : n0 ≤ T_231.heap.size := Nat.le_trans z_230 K_231.1
    have N_231 := Fr.app N_229 Nq_231
    have pre_233 : ∀ t, Steps p.tables e below (T_231.setTop (mkF m 47 #[.val (.long q1), .second, .val (.long q2), .second, .val (.long q3), .second, .val (.int p4), .val (.ref b_170), .val (.ref b_220), .unset, .unset, .unset, .unset, .unset, .unset, .unset, .unset, .unset, .unset, .unset] [(.int (lcmpW q1 (0 : Int64)))])) t → Steps p.tables e below (s₁.setTop (entryFrame m #[(.long q1), (.long q2), (.long q3), (.int p4)] maxLocals)) t := fun t k => pre_174 t (by
        show Steps p.tables e below (T_172.setTop (mkF m 13 #[.val (.long q1), .second, .val (.long q2), .second, .val (.long q3), .second, .val (.int p4), .val (.ref b_170), .unset, .unset, .unset, .unset, .unset, .unset, .unset, .unset, .unset, .unset, .unset, .unset] [(.int (p4 &&& (1 : Int32)))])) _
        refine XS.ifNo X_172.here hx rfl (hb hby at_13) rfl ((if0 _ _).trans (feq hc13__175).1) ?_
        show Steps p.tables e below (T_172.setTop (mkF m 16 #[.val (.long q1), .second, .val (.long q2), .second, .val (.long q3), .second, .val (.int p4), .val (.ref b_170), .unset, .unset, .unset, .unset, .unset, .unset, .unset, .unset, .unset, .unset, .unset, .unset] [])) _
        refine st_220 _ ?_
        show Steps p.tables e below (T_220.setTop (mkF m 19 #[.val (.long q1), .second, .val (.long q2), .second, .val (.long q3), .second, .val (.int p4), .val (.ref b_170), .unset, .unset, .unset, .unset, .unset, .unset, .unset, .unset, .unset, .unset, .unset, .unset] [(.ref b_220)])) _
        refine XS.dup X_220.here hx rfl (hb hby at_19) rfl rfl ?_
        show Steps p.tables e below (T_220.setTop (mkF m 20 #[.val (.long q1), .second, .val (.long q2), .second, .val (.long q3), .second, .val (.int p4), .val (.ref b_170), .unset, .unset, .unset, .unset, .unset, .unset, .unset, .unset, .unset, .unset, .unset, .unset] [(.ref b_220), (.ref b_220)])) _
        refine XS.aload X_220.here hx rfl (hb hby at_20) rfl rfl ?_
        show Steps p.tables e below (T_220.setTop (mkF m 22 #[.val (.long q1), .second, .val (.long q2), .second, .val (.long q3), .second, .val (.int p4), .val (.ref b_170), .unset, .unset, .unset, .unset, .unset, .unset, .unset, .unset, .unset, .unset, .unset, .unset] [(.ref b_170), (.ref b_220), (.ref b_220)])) _
        refine st_222.trans ?_
        show Steps p.tables e below (T_222.setTop (mkF m 25 #[.val (.long q1), .second, .val (.long q2), .second, .val (.long q3), .second, .val (.int p4), .val (.ref b_170), .unset, .unset, .unset, .unset, .unset, .unset, .unset, .unset, .unset, .unset, .unset, .unset] [(.ref b_220)])) _
        refine XS.goto X_222.here hx rfl (pc0 := 25) (pc' := 30) rfl (hb hby at_25) (by decide) (by decide) ?_
        show Steps p.tables e below (T_222.setTop (mkF m 30 #[.val (.long q1), .second, .val (.long q2), .second, .val (.long q3), .second, .val (.int p4), .val (.ref b_170), .unset, .unset, .unset, .unset, .unset, .unset, .unset, .unset, .unset, .unset, .unset, .unset] [(.ref b_220)])) _
        refine XS.astore X_222.here hx rfl (hb hby at_30) rfl rfl (l' := #[.val (.long q1), .second, .val (.long q2), .second, .val (.long q3), .second, .val (.int p4), .val (.ref b_170), .val (.ref b_220), .unset, .unset, .unset, .unset, .unset, .unset, .unset, .unset, .unset, .unset, .unset]) rfl ?_
        show Steps p.tables e below (T_222.setTop (mkF m 32 #[.val (.long q1), .second, .val (.long q2), .second, .val (.long q3), .second, .val (.int p4), .val (.ref b_170), .val (.ref b_220), .unset, .unset, .unset, .unset, .unset, .unset, .unset, .unset, .unset, .unset, .unset] [])) _
        refine XS.aload X_222.here hx rfl (hb hby at_32) rfl rfl ?_
        show Steps p.tables e below (T_222.setTop (mkF m 34 #[.val (.long q1), .second, .val (.long q2), .second, .val (.long q3), .second, .val (.int p4), .val (.ref b_170), .val (.ref b_220), .unset, .unset, .unset, .unset, .unset, .unset, .unset, .unset, .unset, .unset, .unset] [(.ref b_220)])) _
        refine XS.lloadN X_222.here hx rfl (hb hby at_34) rfl ?_
        show Steps p.tables e below (T_222.setTop (mkF m 35 #[.val (.long q1), .second, .val (.long q2), .second, .val (.long q3), .second, .val (.int p4), .val (.ref b_170), .val (.ref b_220), .unset, .unset, .unset, .unset, .unset, .unset, .unset, .unset, .unset, .unset, .unset] [(.long q1), (.ref b_220)])) _
        refine st_229.trans ?_
        show Steps p.tables e below (T_229.setTop (mkF m 38 #[.val (.long q1), .second, .val (.long q2), .second, .val (.long q3), .second, .val (.int p4), .val (.ref b_170), .val (.ref b_220), .unset, .unset, .unset, .unset, .unset, .unset, .unset, .unset, .unset, .unset, .unset] [])) _
        refine XS.aload X_229.here hx rfl (hb hby at_38) rfl rfl ?_
        show Steps p.tables e below (T_229.setTop (mkF m 40 #[.val (.long q1), .second, .val (.long q2), .second, .val (.long q3), .second, .val (.int p4), .val (.ref b_170), .val (.ref b_220), .unset, .unset, .unset, .unset, .unset, .unset, .unset, .unset, .unset, .unset, .unset] [(.ref b_220)])) _
        refine XS.lloadN X_229.here hx rfl (hb hby at_40) rfl ?_
        show Steps p.tables e below (T_229.setTop (mkF m 41 #[.val (.long q1), .second, .val (.long q2), .second, .val (.long q3), .second, .val (.int p4), .val (.ref b_170), .val (.ref b_220), .unset, .unset, .unset, .unset, .unset, .unset, .unset, .unset, .unset, .unset, .unset] [(.long q2), (.ref b_220)])) _
        refine st_231.trans ?_
        show Steps p.tables e below (T_231.setTop (mkF m 44 #[.val (.long q1), .second, .val (.long q2), .second, .val (.long q3), .second, .val (.int p4), .val (.ref b_170), .val (.ref b_220), .unset, .unset, .unset, .unset, .unset, .unset, .unset, .unset, .unset, .unset, .unset] [])) _
        refine XS.lloadN X_231.here hx rfl (hb hby at_44) rfl ?_
        show Steps p.tables e below (T_231.setTop (mkF m 45 #[.val (.long q1), .second, .val (.long q2), .second, .val (.long q3), .second, .val (.int p4), .val (.ref b_170), .val (.ref b_220), .unset, .unset, .unset, .unset, .unset, .unset, .unset, .unset, .unset, .unset, .unset] [(.long q1)])) _
        refine XS.lconst X_231.here hx rfl (hb hby at_45) ?_
        show Steps p.tables e below (T_231.setTop (mkF m 46 #[.val (.long q1), .second, .val (.long q2), .second, .val (.long q3), .second, .val (.int p4), .val (.ref b_170), .val (.ref b_220), .unset, .unset, .unset, .unset, .unset, .unset, .unset, .unset, .unset, .unset, .unset] [(.long (0 : Int64)), (.long q1)])) _
        refine XS.lcmp X_231.here hx rfl (hb hby at_46) rfl ?_
        exact k)
    by_cases hc47__234 : (0 : Int64) < q1
    · obtain ⟨cq_235, kq_235, qa_235, qb_235, qc_235⟩ := isOf hZ rfl po_231_0
      obtain ⟨_, _, ⟨T_235, L_235, k_235, n_235⟩, -, X_235, ⟨Lc_235, hQ_235, l_235, y_235, z_235⟩, st_235⟩ := X_231.virtualBack hx (y := (⟨"org/millrace/engine/Footprint", "rows", "()J"⟩ : MethodName)) (z := (⟨"org/millrace/engine/Footprint", "rows", "()J"⟩ : MethodName)) hown (mvT hZ (hw _ (List.mem_of_getElem? (i := 30) rfl))) (mvT hZ (hw _ (List.mem_of_getElem? (i := 31) rfl))) (notFace_of_selects (args := #[]) (mvT hZ (hw _ (List.mem_of_getElem? (i := 33) rfl)))) (mvT hZ (hw _ (List.mem_of_getElem? (i := 33) rfl))) (mvT hZ (hw _ (List.mem_of_getElem? (i := 32) rfl))) (by decide) (backOf (W := 0) (rm6 l Z a0 hw [] b_220 ((own_ar q1 (0 : Int64)) - q2) T_231.heap n0 z_232 po_231_0 po_231_1) hZ (hw _ (List.mem_of_getElem? (i := 34) rfl)) (hw _ (List.mem_of_getElem? (i := 2) rfl)) (by decide) (by decide)) qa_235 qc_235 (g := (mkF m 64 #[.val (.long q1), .second, .val (.long q2), .second, .val (.long q3), .second, .val (.int p4), .val (.ref b_170), .val (.ref b_220), .val (.long q1), .second, .val (.long (q1 - q2)), .second, .unset, .unset, .unset, .unset, .unset, .unset, .unset] [(.ref b_220)])) rfl (by rw [hml]; rfl) (Steps.refl _) (argsL := []) (rest := []) (lenOf pd_3 rfl) rfl (by show 2 * 0 + _ ≤ _; exact Nat.le_of_eq rfl) (hb hby at_64) (fun _ _ => ⟨rfl, rfl, (by decide : 2 + 0 ≤ _), (by decide : 8 + 0 ≤ _)⟩)
      dsimp only [Pt.U, Pt.locs, Pt.cells, Pt.slots] at X_235 l_235 y_235 z_235 st_235 hQ_235
      replace X_235 := castS l_235 y_235 z_235 X_235
      obtain ⟨rfl, Nq_235, e_235⟩ := hQ_235
      have N_235 := Fr.app N_231 Nq_235
      obtain ⟨cq_236, kq_236, qa_236, qb_236, qc_236⟩ := isOf hZ e_235 po_231_0
      obtain ⟨_, _, ⟨T_236, L_236, k_236, n_236⟩, -, X_236, ⟨Lc_236, hQ_236, l_236, y_236, z_236⟩, st_236⟩ := X_235.virtualBack hx (y := (⟨"org/millrace/engine/Footprint", "add", "(J)V"⟩ : MethodName)) (z := (⟨"org/millrace/engine/Footprint", "add", "(J)V"⟩ : MethodName)) hown (mvT hZ (hw _ (List.mem_of_getElem? (i := 14) rfl))) (mvT hZ (hw _ (List.mem_of_getElem? (i := 15) rfl))) (notFace_of_selects (args := #[]) (mvT hZ (hw _ (List.mem_of_getElem? (i := 17) rfl)))) (mvT hZ (hw _ (List.mem_of_getElem? (i := 17) rfl))) (mvT hZ (hw _ (List.mem_of_getElem? (i := 16) rfl))) (by decide) (backOf (W := 0) (rm4r l Z a0 hw [] b_220 b_170 q3 ((own_ar q1 (0 : Int64)) - q2) (own_ap q1 (0 : Int64) (0 : Int64) (0 : Int64)) ((0 : Int64) + q2) ((own_ar q1 (0 : Int64)) - q2) (own_ap q1 (0 : Int64) (0 : Int64) (0 : Int64)) ((0 : Int64) + q2) T_231.heap n0 z_232 po_231_0 po_231_1 po_231_2 po_231_3 po_231_4 po_231_5 po_231_6 po_231_7 po_231_8 po_231_9 g_b_220 g_b_170 (Ne.symm ne_b_170_b_220)) hZ (hw _ (List.mem_of_getElem? (i := 18) rfl)) (hw _ (List.mem_of_getElem? (i := 2) rfl)) (by decide) (by decide)) qa_236 qc_236 (g := (mkF m 84 #[.val (.long q1), .second, .val (.long q2), .second, .val (.long q3), .second, .val (.int p4), .val (.ref b_170), .val (.ref b_220), .val (.long q1), .second, .val (.long (q1 - q2)), .second, .val (.int (1 : Int32)), .unset, .unset, .unset, .unset, .unset, .unset] [(.long q3), (.ref b_220)])) rfl (by rw [hml]; rfl) (Steps.refl _) (argsL := [(.long q3)]) (rest := []) (lenOf pd_2 rfl) rfl (by show 2 * 0 + _ ≤ _; exact Nat.le_of_eq rfl) (hb hby at_84) (fun _ _ => ⟨rfl, e_235, (by decide : 2 + 0 ≤ _), (by decide : 8 + 0 ≤ _)⟩)
      dsimp only [Pt.U, Pt.locs, Pt.cells, Pt.slots] at X_236 l_236 y_236 z_236 st_236 hQ_236
      replace X_236 := castS l_236 y_236 z_236 X_236
      obtain ⟨rfl, Nq_236, K_236, po_236_0, po_236_1, po_236_2, po_236_3, po_236_4, po_236_5, po_236_6, po_236_7, po_236_8, po_236_9⟩ := hQ_236
      have z_237 : n0 ≤ T_236.heap.size := Nat.le_trans z_232 K_236.1
      have N_236 := Fr.app N_235 Nq_236
      have pre_238 : ∀ t, Steps p.tables e below (T_236.setTop (mkF m 102 #[.val (.long q1), .second, .val (.long q2), .second, .val (.long q3), .second, .val (.int p4), .val (.ref b_170), .val (.ref b_220), .val (.long q1), .second, .val (.long (q1 - q2)), .second, .val (.int (1 : Int32)), .val (.long ((q1 - q2) + q3)), .second, .val (.long q1), .second, .unset, .unset] [(.int (lcmpW q3 (0 : Int64)))])) t → Steps p.tables e below (s₁.setTop (entryFrame m #[(.long q1), (.long q2), (.long q3), (.int p4)] maxLocals)) t := fun t k => pre_233 t (by
          show Steps p.tables e below (T_231.setTop (mkF m 47 #[.val (.long q1), .second, .val (.long q2), .second, .val (.long q3), .second, .val (.int p4), .val (.ref b_170), .val (.ref b_220), .unset, .unset, .unset, .unset, .unset, .unset, .unset, .unset, .unset, .unset, .unset] [(.int (lcmpW q1 (0 : Int64)))])) _
          refine XS.ifNo X_231.here hx rfl (hb hby at_47) rfl ((if0 _ _).trans (tlt ((lw_gt _ _).mpr hc47__234)).2.2.2) ?_
          show Steps p.tables e below (T_231.setTop (mkF m 50 #[.val (.long q1), .second, .val (.long q2), .second, .val (.long q3), .second, .val (.int p4), .val (.ref b_170), .val (.ref b_220), .unset, .unset, .unset, .unset, .unset, .unset, .unset, .unset, .unset, .unset, .unset] [])) _
          refine XS.lloadN X_231.here hx rfl (hb hby at_50) rfl ?_
          show Steps p.tables e below (T_231.setTop (mkF m 51 #[.val (.long q1), .second, .val (.long q2), .second, .val (.long q3), .second, .val (.int p4), .val (.ref b_170), .val (.ref b_220), .unset, .unset, .unset, .unset, .unset, .unset, .unset, .unset, .unset, .unset, .unset] [(.long q1)])) _
          refine XS.goto X_231.here hx rfl (pc0 := 51) (pc' := 55) rfl (hb hby at_51) (by decide) (by decide) ?_
          show Steps p.tables e below (T_231.setTop (mkF m 55 #[.val (.long q1), .second, .val (.long q2), .second, .val (.long q3), .second, .val (.int p4), .val (.ref b_170), .val (.ref b_220), .unset, .unset, .unset, .unset, .unset, .unset, .unset, .unset, .unset, .unset, .unset] [(.long q1)])) _
          refine XS.lstore X_231.here hx rfl (hb hby at_55) rfl (l' := #[.val (.long q1), .second, .val (.long q2), .second, .val (.long q3), .second, .val (.int p4), .val (.ref b_170), .val (.ref b_220), .val (.long q1), .second, .unset, .unset, .unset, .unset, .unset, .unset, .unset, .unset, .unset]) rfl ?_
          show Steps p.tables e below (T_231.setTop (mkF m 57 #[.val (.long q1), .second, .val (.long q2), .second, .val (.long q3), .second, .val (.int p4), .val (.ref b_170), .val (.ref b_220), .val (.long q1), .second, .unset, .unset, .unset, .unset, .unset, .unset, .unset, .unset, .unset] [])) _
          refine XS.lloadN X_231.here hx rfl (hb hby at_57) rfl ?_
          show Steps p.tables e below (T_231.setTop (mkF m 58 #[.val (.long q1), .second, .val (.long q2), .second, .val (.long q3), .second, .val (.int p4), .val (.ref b_170), .val (.ref b_220), .val (.long q1), .second, .unset, .unset, .unset, .unset, .unset, .unset, .unset, .unset, .unset] [(.long q1)])) _
          refine XS.lloadN X_231.here hx rfl (hb hby at_58) rfl ?_
          show Steps p.tables e below (T_231.setTop (mkF m 59 #[.val (.long q1), .second, .val (.long q2), .second, .val (.long q3), .second, .val (.int p4), .val (.ref b_170), .val (.ref b_220), .val (.long q1), .second, .unset, .unset, .unset, .unset, .unset, .unset, .unset, .unset, .unset] [(.long q2), (.long q1)])) _
          refine XS.lsub X_231.here hx rfl (hb hby at_59) rfl ?_
          show Steps p.tables e below (T_231.setTop (mkF m 60 #[.val (.long q1), .second, .val (.long q2), .second, .val (.long q3), .second, .val (.int p4), .val (.ref b_170), .val (.ref b_220), .val (.long q1), .second, .unset, .unset, .unset, .unset, .unset, .unset, .unset, .unset, .unset] [(.long (q1 - q2))])) _
          refine XS.lstore X_231.here hx rfl (hb hby at_60) rfl (l' := #[.val (.long q1), .second, .val (.long q2), .second, .val (.long q3), .second, .val (.int p4), .val (.ref b_170), .val (.ref b_220), .val (.long q1), .second, .val (.long (q1 - q2)), .second, .unset, .unset, .unset, .unset, .unset, .unset, .unset]) rfl ?_
          show Steps p.tables e below (T_231.setTop (mkF m 62 #[.val (.long q1), .second, .val (.long q2), .second, .val (.long q3), .second, .val (.int p4), .val (.ref b_170), .val (.ref b_220), .val (.long q1), .second, .val (.long (q1 - q2)), .second, .unset, .unset, .unset, .unset, .unset, .unset, .unset] [])) _
          refine XS.aload X_231.here hx rfl (hb hby at_62) rfl rfl ?_
          show Steps p.tables e below (T_231.setTop (mkF m 64 #[.val (.long q1), .second, .val (.long q2), .second, .val (.long q3), .second, .val (.int p4), .val (.ref b_170), .val (.ref b_220), .val (.long q1), .second, .val (.long (q1 - q2)), .second, .unset, .unset, .unset, .unset, .unset, .unset, .unset] [(.ref b_220)])) _
          refine st_235.trans ?_
          show Steps p.tables e below (T_235.setTop (mkF m 67 #[.val (.long q1), .second, .val (.long q2), .second, .val (.long q3), .second, .val (.int p4), .val (.ref b_170), .val (.ref b_220), .val (.long q1), .second, .val (.long (q1 - q2)), .second, .unset, .unset, .unset, .unset, .unset, .unset, .unset] [(.long ((own_ar q1 (0 : Int64)) - q2))])) _
          refine XS.lload X_235.here hx rfl (hb hby at_67) rfl ?_
          show Steps p.tables e below (T_235.setTop (mkF m 69 #[.val (.long q1), .second, .val (.long q2), .second, .val (.long q3), .second, .val (.int p4), .val (.ref b_170), .val (.ref b_220), .val (.long q1), .second, .val (.long (q1 - q2)), .second, .unset, .unset, .unset, .unset, .unset, .unset, .unset] [(.long (q1 - q2)), (.long ((own_ar q1 (0 : Int64)) - q2))])) _
          refine XS.lcmp X_235.here hx rfl (hb hby at_69) rfl ?_
          show Steps p.tables e below (T_235.setTop (mkF m 70 #[.val (.long q1), .second, .val (.long q2), .second, .val (.long q3), .second, .val (.int p4), .val (.ref b_170), .val (.ref b_220), .val (.long q1), .second, .val (.long (q1 - q2)), .second, .unset, .unset, .unset, .unset, .unset, .unset, .unset] [(.int (lcmpW ((own_ar q1 (0 : Int64)) - q2) (q1 - q2)))])) _
          refine XS.ifNo X_235.here hx rfl (hb hby at_70) rfl ((if0 _ _).trans (teq ((lw_eq _ _).mpr (by rw [own_ar_eq, Int64.zero_add] : ((own_ar q1 (0 : Int64)) - q2) = (q1 - q2)))).2) ?_
          show Steps p.tables e below (T_235.setTop (mkF m 73 #[.val (.long q1), .second, .val (.long q2), .second, .val (.long q3), .second, .val (.int p4), .val (.ref b_170), .val (.ref b_220), .val (.long q1), .second, .val (.long (q1 - q2)), .second, .unset, .unset, .unset, .unset, .unset, .unset, .unset] [])) _
          refine XS.iconst X_235.here hx rfl (hb hby at_73) ?_
          show Steps p.tables e below (T_235.setTop (mkF m 74 #[.val (.long q1), .second, .val (.long q2), .second, .val (.long q3), .second, .val (.int p4), .val (.ref b_170), .val (.ref b_220), .val (.long q1), .second, .val (.long (q1 - q2)), .second, .unset, .unset, .unset, .unset, .unset, .unset, .unset] [(.int (1 : Int32))])) _
          refine XS.goto X_235.here hx rfl (pc0 := 74) (pc' := 78) rfl (hb hby at_74) (by decide) (by decide) ?_
          show Steps p.tables e below (T_235.setTop (mkF m 78 #[.val (.long q1), .second, .val (.long q2), .second, .val (.long q3), .second, .val (.int p4), .val (.ref b_170), .val (.ref b_220), .val (.long q1), .second, .val (.long (q1 - q2)), .second, .unset, .unset, .unset, .unset, .unset, .unset, .unset] [(.int (1 : Int32))])) _
          refine XS.istore X_235.here hx rfl (hb hby at_78) rfl (l' := #[.val (.long q1), .second, .val (.long q2), .second, .val (.long q3), .second, .val (.int p4), .val (.ref b_170), .val (.ref b_220), .val (.long q1), .second, .val (.long (q1 - q2)), .second, .val (.int (1 : Int32)), .unset, .unset, .unset, .unset, .unset, .unset]) rfl ?_
          show Steps p.tables e below (T_235.setTop (mkF m 80 #[.val (.long q1), .second, .val (.long q2), .second, .val (.long q3), .second, .val (.int p4), .val (.ref b_170), .val (.ref b_220), .val (.long q1), .second, .val (.long (q1 - q2)), .second, .val (.int (1 : Int32)), .unset, .unset, .unset, .unset, .unset, .unset] [])) _
          refine XS.aload X_235.here hx rfl (hb hby at_80) rfl rfl ?_
          show Steps p.tables e below (T_235.setTop (mkF m 82 #[.val (.long q1), .second, .val (.long q2), .second, .val (.long q3), .second, .val (.int p4), .val (.ref b_170), .val (.ref b_220), .val (.long q1), .second, .val (.long (q1 - q2)), .second, .val (.int (1 : Int32)), .unset, .unset, .unset, .unset, .unset, .unset] [(.ref b_220)])) _
          refine XS.lload X_235.here hx rfl (hb hby at_82) rfl ?_
          show Steps p.tables e below (T_235.setTop (mkF m 84 #[.val (.long q1), .second, .val (.long q2), .second, .val (.long q3), .second, .val (.int p4), .val (.ref b_170), .val (.ref b_220), .val (.long q1), .second, .val (.long (q1 - q2)), .second, .val (.int (1 : Int32)), .unset, .unset, .unset, .unset, .unset, .unset] [(.long q3), (.ref b_220)])) _
          refine st_236.trans ?_
          show Steps p.tables e below (T_236.setTop (mkF m 87 #[.val (.long q1), .second, .val (.long q2), .second, .val (.long q3), .second, .val (.int p4), .val (.ref b_170), .val (.ref b_220), .val (.long q1), .second, .val (.long (q1 - q2)), .second, .val (.int (1 : Int32)), .unset, .unset, .unset, .unset, .unset, .unset] [])) _
          refine XS.lload X_236.here hx rfl (hb hby at_87) rfl ?_
          show Steps p.tables e below (T_236.setTop (mkF m 89 #[.val (.long q1), .second, .val (.long q2), .second, .val (.long q3), .second, .val (.int p4), .val (.ref b_170), .val (.ref b_220), .val (.long q1), .second, .val (.long (q1 - q2)), .second, .val (.int (1 : Int32)), .unset, .unset, .unset, .unset, .unset, .unset] [(.long (q1 - q2))])) _
          refine XS.lload X_236.here hx rfl (hb hby at_89) rfl ?_
          show Steps p.tables e below (T_236.setTop (mkF m 91 #[.val (.long q1), .second, .val (.long q2), .second, .val (.long q3), .second, .val (.int p4), .val (.ref b_170), .val (.ref b_220), .val (.long q1), .second, .val (.long (q1 - q2)), .second, .val (.int (1 : Int32)), .unset, .unset, .unset, .unset, .unset, .unset] [(.long q3), (.long (q1 - q2))])) _
          refine XS.ladd X_236.here hx rfl (hb hby at_91) rfl ?_
          show Steps p.tables e below (T_236.setTop (mkF m 92 #[.val (.long q1), .second, .val (.long q2), .second, .val (.long q3), .second, .val (.int p4), .val (.ref b_170), .val (.ref b_220), .val (.long q1), .second, .val (.long (q1 - q2)), .second, .val (.int (1 : Int32)), .unset, .unset, .unset, .unset, .unset, .unset] [(.long ((q1 - q2) + q3))])) _
          refine XS.lstore X_236.here hx rfl (hb hby at_92) rfl (l' := #[.val (.long q1), .second, .val (.long q2), .second, .val (.long q3), .second, .val (.int p4), .val (.ref b_170), .val (.ref b_220), .val (.long q1), .second, .val (.long (q1 - q2)), .second, .val (.int (1 : Int32)), .val (.long ((q1 - q2) + q3)), .second, .unset, .unset, .unset, .unset]) rfl ?_
          show Steps p.tables e below (T_236.setTop (mkF m 94 #[.val (.long q1), .second, .val (.long q2), .second, .val (.long q3), .second, .val (.int p4), .val (.ref b_170), .val (.ref b_220), .val (.long q1), .second, .val (.long (q1 - q2)), .second, .val (.int (1 : Int32)), .val (.long ((q1 - q2) + q3)), .second, .unset, .unset, .unset, .unset] [])) _
          refine XS.lload X_236.here hx rfl (hb hby at_94) rfl ?_
          show Steps p.tables e below (T_236.setTop (mkF m 96 #[.val (.long q1), .second, .val (.long q2), .second, .val (.long q3), .second, .val (.int p4), .val (.ref b_170), .val (.ref b_220), .val (.long q1), .second, .val (.long (q1 - q2)), .second, .val (.int (1 : Int32)), .val (.long ((q1 - q2) + q3)), .second, .unset, .unset, .unset, .unset] [(.long q1)])) _
          refine XS.lstore X_236.here hx rfl (hb hby at_96) rfl (l' := #[.val (.long q1), .second, .val (.long q2), .second, .val (.long q3), .second, .val (.int p4), .val (.ref b_170), .val (.ref b_220), .val (.long q1), .second, .val (.long (q1 - q2)), .second, .val (.int (1 : Int32)), .val (.long ((q1 - q2) + q3)), .second, .val (.long q1), .second, .unset, .unset]) rfl ?_
          show Steps p.tables e below (T_236.setTop (mkF m 98 #[.val (.long q1), .second, .val (.long q2), .second, .val (.long q3), .second, .val (.int p4), .val (.ref b_170), .val (.ref b_220), .val (.long q1), .second, .val (.long (q1 - q2)), .second, .val (.int (1 : Int32)), .val (.long ((q1 - q2) + q3)), .second, .val (.long q1), .second, .unset, .unset] [])) _
          refine XS.lload X_236.here hx rfl (hb hby at_98) rfl ?_
          show Steps p.tables e below (T_236.setTop (mkF m 100 #[.val (.long q1), .second, .val (.long q2), .second, .val (.long q3), .second, .val (.int p4), .val (.ref b_170), .val (.ref b_220), .val (.long q1), .second, .val (.long (q1 - q2)), .second, .val (.int (1 : Int32)), .val (.long ((q1 - q2) + q3)), .second, .val (.long q1), .second, .unset, .unset] [(.long q3)])) _
          refine XS.lconst X_236.here hx rfl (hb hby at_100) ?_
          show Steps p.tables e below (T_236.setTop (mkF m 101 #[.val (.long q1), .second, .val (.long q2), .second, .val (.long q3), .second, .val (.int p4), .val (.ref b_170), .val (.ref b_220), .val (.long q1), .second, .val (.long (q1 - q2)), .second, .val (.int (1 : Int32)), .val (.long ((q1 - q2) + q3)), .second, .val (.long q1), .second, .unset, .unset] [(.long (0 : Int64)), (.long q3)])) _
          refine XS.lcmp X_236.here hx rfl (hb hby at_101) rfl ?_
          exact k)
      by_cases hc102__239 : q3 = (0 : Int64)
      · obtain ⟨cq_240, kq_240, qa_240, qb_240, qc_240⟩ := isOf hZ rfl po_236_0
        obtain ⟨_, _, ⟨T_240, L_240, k_240, n_240⟩, -, X_240, ⟨Lc_240, hQ_240, l_240, y_240, z_240⟩, st_240⟩ := X_236.virtualBack hx (y := (⟨"org/millrace/engine/Footprint", "rows", "()J"⟩ : MethodName)) (z := (⟨"org/millrace/engine/Footprint", "rows", "()J"⟩ : MethodName)) hown (mvT hZ (hw _ (List.mem_of_getElem? (i := 30) rfl))) (mvT hZ (hw _ (List.mem_of_getElem? (i := 31) rfl))) (notFace_of_selects (args := #[]) (mvT hZ (hw _ (List.mem_of_getElem? (i := 33) rfl)))) (mvT hZ (hw _ (List.mem_of_getElem? (i := 33) rfl))) (mvT hZ (hw _ (List.mem_of_getElem? (i := 32) rfl))) (by decide) (backOf (W := 0) (rm6 l Z a0 hw [] b_220 (own_ar q3 ((own_ar q1 (0 : Int64)) - q2)) T_236.heap n0 z_237 po_236_0 po_236_1) hZ (hw _ (List.mem_of_getElem? (i := 34) rfl)) (hw _ (List.mem_of_getElem? (i := 2) rfl)) (by decide) (by decide)) qa_240 qc_240 (g := (mkF m 130 #[.val (.long q1), .second, .val (.long q2), .second, .val (.long q3), .second, .val (.int p4), .val (.ref b_170), .val (.ref b_220), .val (.long q1), .second, .val (.long (q1 - q2)), .second, .val (.int (1 : Int32)), .val (.long ((q1 - q2) + q3)), .second, .val (.long q1), .second, .unset, .unset] [(.ref b_220)])) rfl (by rw [hml]; rfl) (Steps.refl _) (argsL := []) (rest := []) (lenOf pd_3 rfl) rfl (by show 2 * 0 + _ ≤ _; exact Nat.le_of_eq rfl) (hb hby at_130) (fun _ _ => ⟨rfl, rfl, (by decide : 2 + 0 ≤ _), (by decide : 8 + 0 ≤ _)⟩)
        dsimp only [Pt.U, Pt.locs, Pt.cells, Pt.slots] at X_240 l_240 y_240 z_240 st_240 hQ_240
        replace X_240 := castS l_240 y_240 z_240 X_240
        obtain ⟨rfl, Nq_240, e_240⟩ := hQ_240
        have N_240 := Fr.app N_236 Nq_240
        obtain ⟨cq_241, kq_241, qa_241, qb_241, qc_241⟩ := isOf hZ e_240 po_236_0
        obtain ⟨_, _, ⟨T_241, L_241, k_241, n_241⟩, -, X_241, ⟨Lc_241, hQ_241, l_241, y_241, z_241⟩, st_241⟩ := X_240.virtualBack hx (y := (⟨"org/millrace/engine/Footprint", "peak", "()J"⟩ : MethodName)) (z := (⟨"org/millrace/engine/Footprint", "peak", "()J"⟩ : MethodName)) hown (mvT hZ (hw _ (List.mem_of_getElem? (i := 35) rfl))) (mvT hZ (hw _ (List.mem_of_getElem? (i := 36) rfl))) (notFace_of_selects (args := #[]) (mvT hZ (hw _ (List.mem_of_getElem? (i := 38) rfl)))) (mvT hZ (hw _ (List.mem_of_getElem? (i := 38) rfl))) (mvT hZ (hw _ (List.mem_of_getElem? (i := 37) rfl))) (by decide) (backOf (W := 0) (rm7 l Z a0 hw [] b_220 (own_ap q3 ((own_ar q1 (0 : Int64)) - q2) (own_ap q1 (0 : Int64) (0 : Int64) (0 : Int64)) ((0 : Int64) + q2)) T_236.heap n0 z_237 po_236_0 po_236_2) hZ (hw _ (List.mem_of_getElem? (i := 39) rfl)) (hw _ (List.mem_of_getElem? (i := 2) rfl)) (by decide) (by decide)) qa_241 qc_241 (g := (mkF m 141 #[.val (.long q1), .second, .val (.long q2), .second, .val (.long q3), .second, .val (.int p4), .val (.ref b_170), .val (.ref b_220), .val (.long q1), .second, .val (.long (q1 - q2)), .second, .val (.int (1 : Int32)), .val (.long ((q1 - q2) + q3)), .second, .val (.long q1), .second, .unset, .unset] [(.ref b_220)])) rfl (by rw [hml]; rfl) (Steps.refl _) (argsL := []) (rest := []) (lenOf pd_3 rfl) rfl (by show 2 * 0 + _ ≤ _; exact Nat.le_of_eq rfl) (hb hby at_141) (fun _ _ => ⟨rfl, e_240, (by decide : 2 + 0 ≤ _), (by decide : 8 + 0 ≤ _)⟩)
        dsimp only [Pt.U, Pt.locs, Pt.cells, Pt.slots] at X_241 l_241 y_241 z_241 st_241 hQ_241
        replace X_241 := castS l_241 y_241 z_241 X_241
        obtain ⟨rfl, Nq_241, e_241⟩ := hQ_241
        have N_241 := Fr.app N_240 Nq_241
        obtain ⟨cq_242, kq_242, qa_242, qb_242, qc_242⟩ := isOf hZ e_241 po_236_5
        obtain ⟨_, _, ⟨T_242, L_242, k_242, n_242⟩, -, X_242, ⟨Lc_242, hQ_242, l_242, y_242, z_242⟩, st_242⟩ := X_241.virtualBack hx (y := (⟨"org/millrace/engine/Footprint", "rows", "()J"⟩ : MethodName)) (z := (⟨"org/millrace/engine/Footprint", "rows", "()J"⟩ : MethodName)) hown (mvT hZ (hw _ (List.mem_of_getElem? (i := 30) rfl))) (mvT hZ (hw _ (List.mem_of_getElem? (i := 31) rfl))) (notFace_of_selects (args := #[]) (mvT hZ (hw _ (List.mem_of_getElem? (i := 33) rfl)))) (mvT hZ (hw _ (List.mem_of_getElem? (i := 33) rfl))) (mvT hZ (hw _ (List.mem_of_getElem? (i := 32) rfl))) (by decide) (backOf (W := 0) (rm6 l Z a0 hw [] b_170 (own_ar q3 ((own_ar q1 (0 : Int64)) - q2)) T_236.heap n0 z_237 po_236_5 po_236_6) hZ (hw _ (List.mem_of_getElem? (i := 34) rfl)) (hw _ (List.mem_of_getElem? (i := 2) rfl)) (by decide) (by decide)) qa_242 qc_242 (g := (mkF m 152 #[.val (.long q1), .second, .val (.long q2), .second, .val (.long q3), .second, .val (.int p4), .val (.ref b_170), .val (.ref b_220), .val (.long q1), .second, .val (.long (q1 - q2)), .second, .val (.int (1 : Int32)), .val (.long ((q1 - q2) + q3)), .second, .val (.long q1), .second, .unset, .unset] [(.ref b_170)])) rfl (by rw [hml]; rfl) (Steps.refl _) (argsL := []) (rest := []) (lenOf pd_3 rfl) rfl (by show 2 * 0 + _ ≤ _; exact Nat.le_of_eq rfl) (hb hby at_152) (fun _ _ => ⟨rfl, e_241, (by decide : 2 + 0 ≤ _), (by decide : 8 + 0 ≤ _)⟩)
        dsimp only [Pt.U, Pt.locs, Pt.cells, Pt.slots] at X_242 l_242 y_242 z_242 st_242 hQ_242
        replace X_242 := castS l_242 y_242 z_242 X_242
        obtain ⟨rfl, Nq_242, e_242⟩ := hQ_242
        have N_242 := Fr.app N_241 Nq_242
        obtain ⟨cq_243, kq_243, qa_243, qb_243, qc_243⟩ := isOf hZ e_242 po_236_5
        obtain ⟨_, _, ⟨T_243, L_243, k_243, n_243⟩, -, X_243, ⟨Lc_243, hQ_243, l_243, y_243, z_243⟩, st_243⟩ := X_242.virtualBack hx (y := (⟨"org/millrace/engine/Footprint", "peak", "()J"⟩ : MethodName)) (z := (⟨"org/millrace/engine/Footprint", "peak", "()J"⟩ : MethodName)) hown (mvT hZ (hw _ (List.mem_of_getElem? (i := 35) rfl))) (mvT hZ (hw _ (List.mem_of_getElem? (i := 36) rfl))) (notFace_of_selects (args := #[]) (mvT hZ (hw _ (List.mem_of_getElem? (i := 38) rfl)))) (mvT hZ (hw _ (List.mem_of_getElem? (i := 38) rfl))) (mvT hZ (hw _ (List.mem_of_getElem? (i := 37) rfl))) (by decide) (backOf (W := 0) (rm7 l Z a0 hw [] b_170 (own_ap q3 ((own_ar q1 (0 : Int64)) - q2) (own_ap q1 (0 : Int64) (0 : Int64) (0 : Int64)) ((0 : Int64) + q2)) T_236.heap n0 z_237 po_236_5 po_236_7) hZ (hw _ (List.mem_of_getElem? (i := 39) rfl)) (hw _ (List.mem_of_getElem? (i := 2) rfl)) (by decide) (by decide)) qa_243 qc_243 (g := (mkF m 163 #[.val (.long q1), .second, .val (.long q2), .second, .val (.long q3), .second, .val (.int p4), .val (.ref b_170), .val (.ref b_220), .val (.long q1), .second, .val (.long (q1 - q2)), .second, .val (.int (1 : Int32)), .val (.long ((q1 - q2) + q3)), .second, .val (.long q1), .second, .unset, .unset] [(.ref b_170)])) rfl (by rw [hml]; rfl) (Steps.refl _) (argsL := []) (rest := []) (lenOf pd_3 rfl) rfl (by show 2 * 0 + _ ≤ _; exact Nat.le_of_eq rfl) (hb hby at_163) (fun _ _ => ⟨rfl, e_242, (by decide : 2 + 0 ≤ _), (by decide : 8 + 0 ≤ _)⟩)
        dsimp only [Pt.U, Pt.locs, Pt.cells, Pt.slots] at X_243 l_243 y_243 z_243 st_243 hQ_243
        replace X_243 := castS l_243 y_243 z_243 X_243
        obtain ⟨rfl, Nq_243, e_243⟩ := hQ_243
        have N_243 := Fr.app N_242 Nq_243
        obtain ⟨fs, hr, hrun, hended, hW, hsame⟩ := X_243.leave (v := some (.int (1 : Int32))) (fun h => by rw [Bd.returns] at h; cases h)
        refine ⟨_, _, pre_238 _ ?_, hrun, hended, _, _, rfl, ?_, ⟨_, rfl⟩, hW, hsame.mono (by decide) (by decide)⟩
        · show Steps p.tables e below (T_236.setTop (mkF m 102 #[.val (.long q1), .second, .val (.long q2), .second, .val (.long q3), .second, .val (.int p4), .val (.ref b_170), .val (.ref b_220), .val (.long q1), .second, .val (.long (q1 - q2)), .second, .val (.int (1 : Int32)), .val (.long ((q1 - q2) + q3)), .second, .val (.long q1), .second, .unset, .unset] [(.int (lcmpW q3 (0 : Int64)))])) _
          refine XS.ifYes X_236.here hx rfl (pc0 := 102) (pc' := 123) rfl (hb hby at_102) rfl ((if0 _ _).trans (teq ((lw_eq _ _).mpr hc102__239)).1) (by decide) (by decide) ?_
          show Steps p.tables e below (T_236.setTop (mkF m 123 #[.val (.long q1), .second, .val (.long q2), .second, .val (.long q3), .second, .val (.int p4), .val (.ref b_170), .val (.ref b_220), .val (.long q1), .second, .val (.long (q1 - q2)), .second, .val (.int (1 : Int32)), .val (.long ((q1 - q2) + q3)), .second, .val (.long q1), .second, .unset, .unset] [])) _
          refine XS.iload X_236.here hx rfl (hb hby at_123) rfl ?_
          show Steps p.tables e below (T_236.setTop (mkF m 125 #[.val (.long q1), .second, .val (.long q2), .second, .val (.long q3), .second, .val (.int p4), .val (.ref b_170), .val (.ref b_220), .val (.long q1), .second, .val (.long (q1 - q2)), .second, .val (.int (1 : Int32)), .val (.long ((q1 - q2) + q3)), .second, .val (.long q1), .second, .unset, .unset] [(.int (1 : Int32))])) _
          refine XS.ifNo X_236.here hx rfl (hb hby at_125) rfl ((if0 _ _).trans (feq (by decide : ¬ ((1 : Int32) = (0 : Int32)))).1) ?_
          show Steps p.tables e below (T_236.setTop (mkF m 128 #[.val (.long q1), .second, .val (.long q2), .second, .val (.long q3), .second, .val (.int p4), .val (.ref b_170), .val (.ref b_220), .val (.long q1), .second, .val (.long (q1 - q2)), .second, .val (.int (1 : Int32)), .val (.long ((q1 - q2) + q3)), .second, .val (.long q1), .second, .unset, .unset] [])) _
          refine XS.aload X_236.here hx rfl (hb hby at_128) rfl rfl ?_
          show Steps p.tables e below (T_236.setTop (mkF m 130 #[.val (.long q1), .second, .val (.long q2), .second, .val (.long q3), .second, .val (.int p4), .val (.ref b_170), .val (.ref b_220), .val (.long q1), .second, .val (.long (q1 - q2)), .second, .val (.int (1 : Int32)), .val (.long ((q1 - q2) + q3)), .second, .val (.long q1), .second, .unset, .unset] [(.ref b_220)])) _
          refine st_240.trans ?_
          show Steps p.tables e below (T_240.setTop (mkF m 133 #[.val (.long q1), .second, .val (.long q2), .second, .val (.long q3), .second, .val (.int p4), .val (.ref b_170), .val (.ref b_220), .val (.long q1), .second, .val (.long (q1 - q2)), .second, .val (.int (1 : Int32)), .val (.long ((q1 - q2) + q3)), .second, .val (.long q1), .second, .unset, .unset] [(.long (own_ar q3 ((own_ar q1 (0 : Int64)) - q2)))])) _
          refine XS.lload X_240.here hx rfl (hb hby at_133) rfl ?_
          show Steps p.tables e below (T_240.setTop (mkF m 135 #[.val (.long q1), .second, .val (.long q2), .second, .val (.long q3), .second, .val (.int p4), .val (.ref b_170), .val (.ref b_220), .val (.long q1), .second, .val (.long (q1 - q2)), .second, .val (.int (1 : Int32)), .val (.long ((q1 - q2) + q3)), .second, .val (.long q1), .second, .unset, .unset] [(.long ((q1 - q2) + q3)), (.long (own_ar q3 ((own_ar q1 (0 : Int64)) - q2)))])) _
          refine XS.lcmp X_240.here hx rfl (hb hby at_135) rfl ?_
          show Steps p.tables e below (T_240.setTop (mkF m 136 #[.val (.long q1), .second, .val (.long q2), .second, .val (.long q3), .second, .val (.int p4), .val (.ref b_170), .val (.ref b_220), .val (.long q1), .second, .val (.long (q1 - q2)), .second, .val (.int (1 : Int32)), .val (.long ((q1 - q2) + q3)), .second, .val (.long q1), .second, .unset, .unset] [(.int (lcmpW (own_ar q3 ((own_ar q1 (0 : Int64)) - q2)) ((q1 - q2) + q3)))])) _
          refine XS.ifNo X_240.here hx rfl (hb hby at_136) rfl ((if0 _ _).trans (teq ((lw_eq _ _).mpr (by rw [own_ar_eq, own_ar_eq, Int64.zero_add] : (own_ar q3 ((own_ar q1 (0 : Int64)) - q2)) = ((q1 - q2) + q3)))).2) ?_
          show Steps p.tables e below (T_240.setTop (mkF m 139 #[.val (.long q1), .second, .val (.long q2), .second, .val (.long q3), .second, .val (.int p4), .val (.ref b_170), .val (.ref b_220), .val (.long q1), .second, .val (.long (q1 - q2)), .second, .val (.int (1 : Int32)), .val (.long ((q1 - q2) + q3)), .second, .val (.long q1), .second, .unset, .unset] [])) _
          refine XS.aload X_240.here hx rfl (hb hby at_139) rfl rfl ?_
          show Steps p.tables e below (T_240.setTop (mkF m 141 #[.val (.long q1), .second, .val (.long q2), .second, .val (.long q3), .second, .val (.int p4), .val (.ref b_170), .val (.ref b_220), .val (.long q1), .second, .val (.long (q1 - q2)), .second, .val (.int (1 : Int32)), .val (.long ((q1 - q2) + q3)), .second, .val (.long q1), .second, .unset, .unset] [(.ref b_220)])) _
          refine st_241.trans ?_
          show Steps p.tables e below (T_241.setTop (mkF m 144 #[.val (.long q1), .second, .val (.long q2), .second, .val (.long q3), .second, .val (.int p4), .val (.ref b_170), .val (.ref b_220), .val (.long q1), .second, .val (.long (q1 - q2)), .second, .val (.int (1 : Int32)), .val (.long ((q1 - q2) + q3)), .second, .val (.long q1), .second, .unset, .unset] [(.long (own_ap q3 ((own_ar q1 (0 : Int64)) - q2) (own_ap q1 (0 : Int64) (0 : Int64) (0 : Int64)) ((0 : Int64) + q2)))])) _
          refine XS.lload X_241.here hx rfl (hb hby at_144) rfl ?_
          show Steps p.tables e below (T_241.setTop (mkF m 146 #[.val (.long q1), .second, .val (.long q2), .second, .val (.long q3), .second, .val (.int p4), .val (.ref b_170), .val (.ref b_220), .val (.long q1), .second, .val (.long (q1 - q2)), .second, .val (.int (1 : Int32)), .val (.long ((q1 - q2) + q3)), .second, .val (.long q1), .second, .unset, .unset] [(.long q1), (.long (own_ap q3 ((own_ar q1 (0 : Int64)) - q2) (own_ap q1 (0 : Int64) (0 : Int64) (0 : Int64)) ((0 : Int64) + q2)))])) _
          refine XS.lcmp X_241.here hx rfl (hb hby at_146) rfl ?_
          show Steps p.tables e below (T_241.setTop (mkF m 147 #[.val (.long q1), .second, .val (.long q2), .second, .val (.long q3), .second, .val (.int p4), .val (.ref b_170), .val (.ref b_220), .val (.long q1), .second, .val (.long (q1 - q2)), .second, .val (.int (1 : Int32)), .val (.long ((q1 - q2) + q3)), .second, .val (.long q1), .second, .unset, .unset] [(.int (lcmpW (own_ap q3 ((own_ar q1 (0 : Int64)) - q2) (own_ap q1 (0 : Int64) (0 : Int64) (0 : Int64)) ((0 : Int64) + q2)) q1))])) _
          refine XS.ifNo X_241.here hx rfl (hb hby at_147) rfl ((if0 _ _).trans (teq ((lw_eq _ _).mpr (by rw [own_pk]; simp only [if_pos hc47__234, if_pos hc102__239] : (own_ap q3 ((own_ar q1 (0 : Int64)) - q2) (own_ap q1 (0 : Int64) (0 : Int64) (0 : Int64)) ((0 : Int64) + q2)) = q1))).2) ?_
          show Steps p.tables e below (T_241.setTop (mkF m 150 #[.val (.long q1), .second, .val (.long q2), .second, .val (.long q3), .second, .val (.int p4), .val (.ref b_170), .val (.ref b_220), .val (.long q1), .second, .val (.long (q1 - q2)), .second, .val (.int (1 : Int32)), .val (.long ((q1 - q2) + q3)), .second, .val (.long q1), .second, .unset, .unset] [])) _
          refine XS.aload X_241.here hx rfl (hb hby at_150) rfl rfl ?_
          show Steps p.tables e below (T_241.setTop (mkF m 152 #[.val (.long q1), .second, .val (.long q2), .second, .val (.long q3), .second, .val (.int p4), .val (.ref b_170), .val (.ref b_220), .val (.long q1), .second, .val (.long (q1 - q2)), .second, .val (.int (1 : Int32)), .val (.long ((q1 - q2) + q3)), .second, .val (.long q1), .second, .unset, .unset] [(.ref b_170)])) _
          refine st_242.trans ?_
          show Steps p.tables e below (T_242.setTop (mkF m 155 #[.val (.long q1), .second, .val (.long q2), .second, .val (.long q3), .second, .val (.int p4), .val (.ref b_170), .val (.ref b_220), .val (.long q1), .second, .val (.long (q1 - q2)), .second, .val (.int (1 : Int32)), .val (.long ((q1 - q2) + q3)), .second, .val (.long q1), .second, .unset, .unset] [(.long (own_ar q3 ((own_ar q1 (0 : Int64)) - q2)))])) _
          refine XS.lload X_242.here hx rfl (hb hby at_155) rfl ?_
          show Steps p.tables e below (T_242.setTop (mkF m 157 #[.val (.long q1), .second, .val (.long q2), .second, .val (.long q3), .second, .val (.int p4), .val (.ref b_170), .val (.ref b_220), .val (.long q1), .second, .val (.long (q1 - q2)), .second, .val (.int (1 : Int32)), .val (.long ((q1 - q2) + q3)), .second, .val (.long q1), .second, .unset, .unset] [(.long ((q1 - q2) + q3)), (.long (own_ar q3 ((own_ar q1 (0 : Int64)) - q2)))])) _
          refine XS.lcmp X_242.here hx rfl (hb hby at_157) rfl ?_
          show Steps p.tables e below (T_242.setTop (mkF m 158 #[.val (.long q1), .second, .val (.long q2), .second, .val (.long q3), .second, .val (.int p4), .val (.ref b_170), .val (.ref b_220), .val (.long q1), .second, .val (.long (q1 - q2)), .second, .val (.int (1 : Int32)), .val (.long ((q1 - q2) + q3)), .second, .val (.long q1), .second, .unset, .unset] [(.int (lcmpW (own_ar q3 ((own_ar q1 (0 : Int64)) - q2)) ((q1 - q2) + q3)))])) _
          refine XS.ifNo X_242.here hx rfl (hb hby at_158) rfl ((if0 _ _).trans (teq ((lw_eq _ _).mpr (by rw [own_ar_eq, own_ar_eq, Int64.zero_add] : (own_ar q3 ((own_ar q1 (0 : Int64)) - q2)) = ((q1 - q2) + q3)))).2) ?_
          show Steps p.tables e below (T_242.setTop (mkF m 161 #[.val (.long q1), .second, .val (.long q2), .second, .val (.long q3), .second, .val (.int p4), .val (.ref b_170), .val (.ref b_220), .val (.long q1), .second, .val (.long (q1 - q2)), .second, .val (.int (1 : Int32)), .val (.long ((q1 - q2) + q3)), .second, .val (.long q1), .second, .unset, .unset] [])) _
          refine XS.aload X_242.here hx rfl (hb hby at_161) rfl rfl ?_
          show Steps p.tables e below (T_242.setTop (mkF m 163 #[.val (.long q1), .second, .val (.long q2), .second, .val (.long q3), .second, .val (.int p4), .val (.ref b_170), .val (.ref b_220), .val (.long q1), .second, .val (.long (q1 - q2)), .second, .val (.int (1 : Int32)), .val (.long ((q1 - q2) + q3)), .second, .val (.long q1), .second, .unset, .unset] [(.ref b_170)])) _
          refine st_243.trans ?_
          show Steps p.tables e below (T_243.setTop (mkF m 166 #[.val (.long q1), .second, .val (.long q2), .second, .val (.long q3), .second, .val (.int p4), .val (.ref b_170), .val (.ref b_220), .val (.long q1), .second, .val (.long (q1 - q2)), .second, .val (.int (1 : Int32)), .val (.long ((q1 - q2) + q3)), .second, .val (.long q1), .second, .unset, .unset] [(.long (own_ap q3 ((own_ar q1 (0 : Int64)) - q2) (own_ap q1 (0 : Int64) (0 : Int64) (0 : Int64)) ((0 : Int64) + q2)))])) _
          refine XS.lload X_243.here hx rfl (hb hby at_166) rfl ?_
          show Steps p.tables e below (T_243.setTop (mkF m 168 #[.val (.long q1), .second, .val (.long q2), .second, .val (.long q3), .second, .val (.int p4), .val (.ref b_170), .val (.ref b_220), .val (.long q1), .second, .val (.long (q1 - q2)), .second, .val (.int (1 : Int32)), .val (.long ((q1 - q2) + q3)), .second, .val (.long q1), .second, .unset, .unset] [(.long q1), (.long (own_ap q3 ((own_ar q1 (0 : Int64)) - q2) (own_ap q1 (0 : Int64) (0 : Int64) (0 : Int64)) ((0 : Int64) + q2)))])) _
          refine XS.lcmp X_243.here hx rfl (hb hby at_168) rfl ?_
          show Steps p.tables e below (T_243.setTop (mkF m 169 #[.val (.long q1), .second, .val (.long q2), .second, .val (.long q3), .second, .val (.int p4), .val (.ref b_170), .val (.ref b_220), .val (.long q1), .second, .val (.long (q1 - q2)), .second, .val (.int (1 : Int32)), .val (.long ((q1 - q2) + q3)), .second, .val (.long q1), .second, .unset, .unset] [(.int (lcmpW (own_ap q3 ((own_ar q1 (0 : Int64)) - q2) (own_ap q1 (0 : Int64) (0 : Int64) (0 : Int64)) ((0 : Int64) + q2)) q1))])) _
          refine XS.ifNo X_243.here hx rfl (hb hby at_169) rfl ((if0 _ _).trans (teq ((lw_eq _ _).mpr (by rw [own_pk]; simp only [if_pos hc47__234, if_pos hc102__239] : (own_ap q3 ((own_ar q1 (0 : Int64)) - q2) (own_ap q1 (0 : Int64) (0 : Int64) (0 : Int64)) ((0 : Int64) + q2)) = q1))).2) ?_
          show Steps p.tables e below (T_243.setTop (mkF m 172 #[.val (.long q1), .second, .val (.long q2), .second, .val (.long q3), .second, .val (.int p4), .val (.ref b_170), .val (.ref b_220), .val (.long q1), .second, .val (.long (q1 - q2)), .second, .val (.int (1 : Int32)), .val (.long ((q1 - q2) + q3)), .second, .val (.long q1), .second, .unset, .unset] [])) _
          refine XS.iconst X_243.here hx rfl (hb hby at_172) ?_
          show Steps p.tables e below (T_243.setTop (mkF m 173 #[.val (.long q1), .second, .val (.long q2), .second, .val (.long q3), .second, .val (.int p4), .val (.ref b_170), .val (.ref b_220), .val (.long q1), .second, .val (.long (q1 - q2)), .second, .val (.int (1 : Int32)), .val (.long ((q1 - q2) + q3)), .second, .val (.long q1), .second, .unset, .unset] [(.int (1 : Int32))])) _
          refine XS.goto X_243.here hx rfl (pc0 := 173) (pc' := 177) rfl (hb hby at_173) (by decide) (by decide) ?_
          show Steps p.tables e below (T_243.setTop (mkF m 177 #[.val (.long q1), .second, .val (.long q2), .second, .val (.long q3), .second, .val (.int p4), .val (.ref b_170), .val (.ref b_220), .val (.long q1), .second, .val (.long (q1 - q2)), .second, .val (.int (1 : Int32)), .val (.long ((q1 - q2) + q3)), .second, .val (.long q1), .second, .unset, .unset] [(.int (1 : Int32))])) _
          refine XS.istore X_243.here hx rfl (hb hby at_177) rfl (l' := #[.val (.long q1), .second, .val (.long q2), .second, .val (.long q3), .second, .val (.int p4), .val (.ref b_170), .val (.ref b_220), .val (.long q1), .second, .val (.long (q1 - q2)), .second, .val (.int (1 : Int32)), .val (.long ((q1 - q2) + q3)), .second, .val (.long q1), .second, .unset, .unset]) rfl ?_
          show Steps p.tables e below (T_243.setTop (mkF m 179 #[.val (.long q1), .second, .val (.long q2), .second, .val (.long q3), .second, .val (.int p4), .val (.ref b_170), .val (.ref b_220), .val (.long q1), .second, .val (.long (q1 - q2)), .second, .val (.int (1 : Int32)), .val (.long ((q1 - q2) + q3)), .second, .val (.long q1), .second, .unset, .unset] [])) _
          refine XS.iload X_243.here hx rfl (hb hby at_179) rfl ?_
          show Steps p.tables e below (T_243.setTop (mkF m 181 #[.val (.long q1), .second, .val (.long q2), .second, .val (.long q3), .second, .val (.int p4), .val (.ref b_170), .val (.ref b_220), .val (.long q1), .second, .val (.long (q1 - q2)), .second, .val (.int (1 : Int32)), .val (.long ((q1 - q2) + q3)), .second, .val (.long q1), .second, .unset, .unset] [(.int (1 : Int32))])) _
          exact retN X_243 hx (t := .boolean) Bd.returns (by simp) (hb hby at_181) hr
        · show Q0 Z q1 q2 q3 p4 h0 n0 _ T_243.heap _
          rw [e_243]
          exact ⟨rfl, N_243⟩
      · have pre_244 : ∀ t, Steps p.tables e below (T_236.setTop (mkF m 116 #[.val (.long q1), .second, .val (.long q2), .second, .val (.long q3), .second, .val (.int p4), .val (.ref b_170), .val (.ref b_220), .val (.long q1), .second, .val (.long (q1 - q2)), .second, .val (.int (1 : Int32)), .val (.long ((q1 - q2) + q3)), .second, .val (.long q1), .second, .val (.long (q1 + q3)), .second] [(.int (lcmpW (q1 + q3) q1))])) t → Steps p.tables e below (s₁.setTop (entryFrame m #[(.long q1), (.long q2), (.long q3), (.int p4)] maxLocals)) t := fun t k => pre_238 t (by
            show Steps p.tables e below (T_236.setTop (mkF m 102 #[.val (.long q1), .second, .val (.long q2), .second, .val (.long q3), .second, .val (.int p4), .val (.ref b_170), .val (.ref b_220), .val (.long q1), .second, .val (.long (q1 - q2)), .second, .val (.int (1 : Int32)), .val (.long ((q1 - q2) + q3)), .second, .val (.long q1), .second, .unset, .unset] [(.int (lcmpW q3 (0 : Int64)))])) _
            refine XS.ifNo X_236.here hx rfl (hb hby at_102) rfl ((if0 _ _).trans (feq (mt (lw_eq _ _).mp hc102__239)).1) ?_
            show Steps p.tables e below (T_236.setTop (mkF m 105 #[.val (.long q1), .second, .val (.long q2), .second, .val (.long q3), .second, .val (.int p4), .val (.ref b_170), .val (.ref b_220), .val (.long q1), .second, .val (.long (q1 - q2)), .second, .val (.int (1 : Int32)), .val (.long ((q1 - q2) + q3)), .second, .val (.long q1), .second, .unset, .unset] [])) _
            refine XS.lloadN X_236.here hx rfl (hb hby at_105) rfl ?_
            show Steps p.tables e below (T_236.setTop (mkF m 106 #[.val (.long q1), .second, .val (.long q2), .second, .val (.long q3), .second, .val (.int p4), .val (.ref b_170), .val (.ref b_220), .val (.long q1), .second, .val (.long (q1 - q2)), .second, .val (.int (1 : Int32)), .val (.long ((q1 - q2) + q3)), .second, .val (.long q1), .second, .unset, .unset] [(.long q1)])) _
            refine XS.lload X_236.here hx rfl (hb hby at_106) rfl ?_
            show Steps p.tables e below (T_236.setTop (mkF m 108 #[.val (.long q1), .second, .val (.long q2), .second, .val (.long q3), .second, .val (.int p4), .val (.ref b_170), .val (.ref b_220), .val (.long q1), .second, .val (.long (q1 - q2)), .second, .val (.int (1 : Int32)), .val (.long ((q1 - q2) + q3)), .second, .val (.long q1), .second, .unset, .unset] [(.long q3), (.long q1)])) _
            refine XS.ladd X_236.here hx rfl (hb hby at_108) rfl ?_
            show Steps p.tables e below (T_236.setTop (mkF m 109 #[.val (.long q1), .second, .val (.long q2), .second, .val (.long q3), .second, .val (.int p4), .val (.ref b_170), .val (.ref b_220), .val (.long q1), .second, .val (.long (q1 - q2)), .second, .val (.int (1 : Int32)), .val (.long ((q1 - q2) + q3)), .second, .val (.long q1), .second, .unset, .unset] [(.long (q1 + q3))])) _
            refine XS.lstore X_236.here hx rfl (hb hby at_109) rfl (l' := #[.val (.long q1), .second, .val (.long q2), .second, .val (.long q3), .second, .val (.int p4), .val (.ref b_170), .val (.ref b_220), .val (.long q1), .second, .val (.long (q1 - q2)), .second, .val (.int (1 : Int32)), .val (.long ((q1 - q2) + q3)), .second, .val (.long q1), .second, .val (.long (q1 + q3)), .second]) rfl ?_
            show Steps p.tables e below (T_236.setTop (mkF m 111 #[.val (.long q1), .second, .val (.long q2), .second, .val (.long q3), .second, .val (.int p4), .val (.ref b_170), .val (.ref b_220), .val (.long q1), .second, .val (.long (q1 - q2)), .second, .val (.int (1 : Int32)), .val (.long ((q1 - q2) + q3)), .second, .val (.long q1), .second, .val (.long (q1 + q3)), .second] [])) _
            refine XS.lload X_236.here hx rfl (hb hby at_111) rfl ?_
            show Steps p.tables e below (T_236.setTop (mkF m 113 #[.val (.long q1), .second, .val (.long q2), .second, .val (.long q3), .second, .val (.int p4), .val (.ref b_170), .val (.ref b_220), .val (.long q1), .second, .val (.long (q1 - q2)), .second, .val (.int (1 : Int32)), .val (.long ((q1 - q2) + q3)), .second, .val (.long q1), .second, .val (.long (q1 + q3)), .second] [(.long (q1 + q3))])) _
            refine XS.lload X_236.here hx rfl (hb hby at_113) rfl ?_
            show Steps p.tables e below (T_236.setTop (mkF m 115 #[.val (.long q1), .second, .val (.long q2), .second, .val (.long q3), .second, .val (.int p4), .val (.ref b_170), .val (.ref b_220), .val (.long q1), .second, .val (.long (q1 - q2)), .second, .val (.int (1 : Int32)), .val (.long ((q1 - q2) + q3)), .second, .val (.long q1), .second, .val (.long (q1 + q3)), .second] [(.long q1), (.long (q1 + q3))])) _
            refine XS.lcmp X_236.here hx rfl (hb hby at_115) rfl ?_
            exact k)
        by_cases hc116__245 : q1 < (q1 + q3)
        · obtain ⟨cq_246, kq_246, qa_246, qb_246, qc_246⟩ := isOf hZ rfl po_236_0
          obtain ⟨_, _, ⟨T_246, L_246, k_246, n_246⟩, -, X_246, ⟨Lc_246, hQ_246, l_246, y_246, z_246⟩, st_246⟩ := X_236.virtualBack hx (y := (⟨"org/millrace/engine/Footprint", "rows", "()J"⟩ : MethodName)) (z := (⟨"org/millrace/engine/Footprint", "rows", "()J"⟩ : MethodName)) hown (mvT hZ (hw _ (List.mem_of_getElem? (i := 30) rfl))) (mvT hZ (hw _ (List.mem_of_getElem? (i := 31) rfl))) (notFace_of_selects (args := #[]) (mvT hZ (hw _ (List.mem_of_getElem? (i := 33) rfl)))) (mvT hZ (hw _ (List.mem_of_getElem? (i := 33) rfl))) (mvT hZ (hw _ (List.mem_of_getElem? (i := 32) rfl))) (by decide) (backOf (W := 0) (rm6 l Z a0 hw [] b_220 (own_ar q3 ((own_ar q1 (0 : Int64)) - q2)) T_236.heap n0 z_237 po_236_0 po_236_1) hZ (hw _ (List.mem_of_getElem? (i := 34) rfl)) (hw _ (List.mem_of_getElem? (i := 2) rfl)) (by decide) (by decide)) qa_246 qc_246 (g := (mkF m 130 #[.val (.long q1), .second, .val (.long q2), .second, .val (.long q3), .second, .val (.int p4), .val (.ref b_170), .val (.ref b_220), .val (.long q1), .second, .val (.long (q1 - q2)), .second, .val (.int (1 : Int32)), .val (.long ((q1 - q2) + q3)), .second, .val (.long (q1 + q3)), .second, .val (.long (q1 + q3)), .second] [(.ref b_220)])) rfl (by rw [hml]; rfl) (Steps.refl _) (argsL := []) (rest := []) (lenOf pd_3 rfl) rfl (by show 2 * 0 + _ ≤ _; exact Nat.le_of_eq rfl) (hb hby at_130) (fun _ _ => ⟨rfl, rfl, (by decide : 2 + 0 ≤ _), (by decide : 8 + 0 ≤ _)⟩)
          dsimp only [Pt.U, Pt.locs, Pt.cells, Pt.slots] at X_246 l_246 y_246 z_246 st_246 hQ_246
          replace X_246 := castS l_246 y_246 z_246 X_246
          obtain ⟨rfl, Nq_246, e_246⟩ := hQ_246
          have N_246 := Fr.app N_236 Nq_246
          obtain ⟨cq_247, kq_247, qa_247, qb_247, qc_247⟩ := isOf hZ e_246 po_236_0
          obtain ⟨_, _, ⟨T_247, L_247, k_247, n_247⟩, -, X_247, ⟨Lc_247, hQ_247, l_247, y_247, z_247⟩, st_247⟩ := X_246.virtualBack hx (y := (⟨"org/millrace/engine/Footprint", "peak", "()J"⟩ : MethodName)) (z := (⟨"org/millrace/engine/Footprint", "peak", "()J"⟩ : MethodName)) hown (mvT hZ (hw _ (List.mem_of_getElem? (i := 35) rfl))) (mvT hZ (hw _ (List.mem_of_getElem? (i := 36) rfl))) (notFace_of_selects (args := #[]) (mvT hZ (hw _ (List.mem_of_getElem? (i := 38) rfl)))) (mvT hZ (hw _ (List.mem_of_getElem? (i := 38) rfl))) (mvT hZ (hw _ (List.mem_of_getElem? (i := 37) rfl))) (by decide) (backOf (W := 0) (rm7 l Z a0 hw [] b_220 (own_ap q3 ((own_ar q1 (0 : Int64)) - q2) (own_ap q1 (0 : Int64) (0 : Int64) (0 : Int64)) ((0 : Int64) + q2)) T_236.heap n0 z_237 po_236_0 po_236_2) hZ (hw _ (List.mem_of_getElem? (i := 39) rfl)) (hw _ (List.mem_of_getElem? (i := 2) rfl)) (by decide) (by decide)) qa_247 qc_247 (g := (mkF m 141 #[.val (.long q1), .second, .val (.long q2), .second, .val (.long q3), .second, .val (.int p4), .val (.ref b_170), .val (.ref b_220), .val (.long q1), .second, .val (.long (q1 - q2)), .second, .val (.int (1 : Int32)), .val (.long ((q1 - q2) + q3)), .second, .val (.long (q1 + q3)), .second, .val (.long (q1 + q3)), .second] [(.ref b_220)])) rfl (by rw [hml]; rfl) (Steps.refl _) (argsL := []) (rest := []) (lenOf pd_3 rfl) rfl (by show 2 * 0 + _ ≤ _; exact Nat.le_of_eq rfl) (hb hby at_141) (fun _ _ => ⟨rfl, e_246, (by decide : 2 + 0 ≤ _), (by decide : 8 + 0 ≤ _)⟩)
          dsimp only [Pt.U, Pt.locs, Pt.cells, Pt.slots] at X_247 l_247 y_247 z_247 st_247 hQ_247
          replace X_247 := castS l_247 y_247 z_247 X_247
          obtain ⟨rfl, Nq_247, e_247⟩ := hQ_247
          have N_247 := Fr.app N_246 Nq_247
          obtain ⟨cq_248, kq_248, qa_248, qb_248, qc_248⟩ := isOf hZ e_247 po_236_5
          obtain ⟨_, _, ⟨T_248, L_248, k_248, n_248⟩, -, X_248, ⟨Lc_248, hQ_248, l_248, y_248, z_248⟩, st_248⟩ := X_247.virtualBack hx (y := (⟨"org/millrace/engine/Footprint", "rows", "()J"⟩ : MethodName)) (z := (⟨"org/millrace/engine/Footprint", "rows", "()J"⟩ : MethodName)) hown (mvT hZ (hw _ (List.mem_of_getElem? (i := 30) rfl))) (mvT hZ (hw _ (List.mem_of_getElem? (i := 31) rfl))) (notFace_of_selects (args := #[]) (mvT hZ (hw _ (List.mem_of_getElem? (i := 33) rfl)))) (mvT hZ (hw _ (List.mem_of_getElem? (i := 33) rfl))) (mvT hZ (hw _ (List.mem_of_getElem? (i := 32) rfl))) (by decide) (backOf (W := 0) (rm6 l Z a0 hw [] b_170 (own_ar q3 ((own_ar q1 (0 : Int64)) - q2)) T_236.heap n0 z_237 po_236_5 po_236_6) hZ (hw _ (List.mem_of_getElem? (i := 34) rfl)) (hw _ (List.mem_of_getElem? (i := 2) rfl)) (by decide) (by decide)) qa_248 qc_248 (g := (mkF m 152 #[.val (.long q1), .second, .val (.long q2), .second, .val (.long q3), .second, .val (.int p4), .val (.ref b_170), .val (.ref b_220), .val (.long q1), .second, .val (.long (q1 - q2)), .second, .val (.int (1 : Int32)), .val (.long ((q1 - q2) + q3)), .second, .val (.long (q1 + q3)), .second, .val (.long (q1 + q3)), .second] [(.ref b_170)])) rfl (by rw [hml]; rfl) (Steps.refl _) (argsL := []) (rest := []) (lenOf pd_3 rfl) rfl (by show 2 * 0 + _ ≤ _; exact Nat.le_of_eq rfl) (hb hby at_152) (fun _ _ => ⟨rfl, e_247, (by decide : 2 + 0 ≤ _), (by decide : 8 + 0 ≤ _)⟩)
          dsimp only [Pt.U, Pt.locs, Pt.cells, Pt.slots] at X_248 l_248 y_248 z_248 st_248 hQ_248
          replace X_248 := castS l_248 y_248 z_248 X_248
          obtain ⟨rfl, Nq_248, e_248⟩ := hQ_248
          have N_248 := Fr.app N_247 Nq_248
          obtain ⟨cq_249, kq_249, qa_249, qb_249, qc_249⟩ := isOf hZ e_248 po_236_5
          obtain ⟨_, _, ⟨T_249, L_249, k_249, n_249⟩, -, X_249, ⟨Lc_249, hQ_249, l_249, y_249, z_249⟩, st_249⟩ := X_248.virtualBack hx (y := (⟨"org/millrace/engine/Footprint", "peak", "()J"⟩ : MethodName)) (z := (⟨"org/millrace/engine/Footprint", "peak", "()J"⟩ : MethodName)) hown (mvT hZ (hw _ (List.mem_of_getElem? (i := 35) rfl))) (mvT hZ (hw _ (List.mem_of_getElem? (i := 36) rfl))) (notFace_of_selects (args := #[]) (mvT hZ (hw _ (List.mem_of_getElem? (i := 38) rfl)))) (mvT hZ (hw _ (List.mem_of_getElem? (i := 38) rfl))) (mvT hZ (hw _ (List.mem_of_getElem? (i := 37) rfl))) (by decide) (backOf (W := 0) (rm7 l Z a0 hw [] b_170 (own_ap q3 ((own_ar q1 (0 : Int64)) - q2) (own_ap q1 (0 : Int64) (0 : Int64) (0 : Int64)) ((0 : Int64) + q2)) T_236.heap n0 z_237 po_236_5 po_236_7) hZ (hw _ (List.mem_of_getElem? (i := 39) rfl)) (hw _ (List.mem_of_getElem? (i := 2) rfl)) (by decide) (by decide)) qa_249 qc_249 (g := (mkF m 163 #[.val (.long q1), .second, .val (.long q2), .second, .val (.long q3), .second, .val (.int p4), .val (.ref b_170), .val (.ref b_220), .val (.long q1), .second, .val (.long (q1 - q2)), .second, .val (.int (1 : Int32)), .val (.long ((q1 - q2) + q3)), .second, .val (.long (q1 + q3)), .second, .val (.long (q1 + q3)), .second] [(.ref b_170)])) rfl (by rw [hml]; rfl) (Steps.refl _) (argsL := []) (rest := []) (lenOf pd_3 rfl) rfl (by show 2 * 0 + _ ≤ _; exact Nat.le_of_eq rfl) (hb hby at_163) (fun _ _ => ⟨rfl, e_248, (by decide : 2 + 0 ≤ _), (by decide : 8 + 0 ≤ _)⟩)
          dsimp only [Pt.U, Pt.locs, Pt.cells, Pt.slots] at X_249 l_249 y_249 z_249 st_249 hQ_249
          replace X_249 := castS l_249 y_249 z_249 X_249
          obtain ⟨rfl, Nq_249, e_249⟩ := hQ_249
          have N_249 := Fr.app N_248 Nq_249
          obtain ⟨fs, hr, hrun, hended, hW, hsame⟩ := X_249.leave (v := some (.int (1 : Int32))) (fun h => by rw [Bd.returns] at h; cases h)
          refine ⟨_, _, pre_244 _ ?_, hrun, hended, _, _, rfl, ?_, ⟨_, rfl⟩, hW, hsame.mono (by decide) (by decide)⟩
          · show Steps p.tables e below (T_236.setTop (mkF m 116 #[.val (.long q1), .second, .val (.long q2), .second, .val (.long q3), .second, .val (.int p4), .val (.ref b_170), .val (.ref b_220), .val (.long q1), .second, .val (.long (q1 - q2)), .second, .val (.int (1 : Int32)), .val (.long ((q1 - q2) + q3)), .second, .val (.long q1), .second, .val (.long (q1 + q3)), .second] [(.int (lcmpW (q1 + q3) q1))])) _
            refine XS.ifNo X_236.here hx rfl (hb hby at_116) rfl ((if0 _ _).trans (tlt ((lw_gt _ _).mpr hc116__245)).2.2.2) ?_
            show Steps p.tables e below (T_236.setTop (mkF m 119 #[.val (.long q1), .second, .val (.long q2), .second, .val (.long q3), .second, .val (.int p4), .val (.ref b_170), .val (.ref b_220), .val (.long q1), .second, .val (.long (q1 - q2)), .second, .val (.int (1 : Int32)), .val (.long ((q1 - q2) + q3)), .second, .val (.long q1), .second, .val (.long (q1 + q3)), .second] [])) _
            refine XS.lload X_236.here hx rfl (hb hby at_119) rfl ?_
            show Steps p.tables e below (T_236.setTop (mkF m 121 #[.val (.long q1), .second, .val (.long q2), .second, .val (.long q3), .second, .val (.int p4), .val (.ref b_170), .val (.ref b_220), .val (.long q1), .second, .val (.long (q1 - q2)), .second, .val (.int (1 : Int32)), .val (.long ((q1 - q2) + q3)), .second, .val (.long q1), .second, .val (.long (q1 + q3)), .second] [(.long (q1 + q3))])) _
            refine XS.lstore X_236.here hx rfl (hb hby at_121) rfl (l' := #[.val (.long q1), .second, .val (.long q2), .second, .val (.long q3), .second, .val (.int p4), .val (.ref b_170), .val (.ref b_220), .val (.long q1), .second, .val (.long (q1 - q2)), .second, .val (.int (1 : Int32)), .val (.long ((q1 - q2) + q3)), .second, .val (.long (q1 + q3)), .second, .val (.long (q1 + q3)), .second]) rfl ?_
            show Steps p.tables e below (T_236.setTop (mkF m 123 #[.val (.long q1), .second, .val (.long q2), .second, .val (.long q3), .second, .val (.int p4), .val (.ref b_170), .val (.ref b_220), .val (.long q1), .second, .val (.long (q1 - q2)), .second, .val (.int (1 : Int32)), .val (.long ((q1 - q2) + q3)), .second, .val (.long (q1 + q3)), .second, .val (.long (q1 + q3)), .second] [])) _
            refine XS.iload X_236.here hx rfl (hb hby at_123) rfl ?_
            show Steps p.tables e below (T_236.setTop (mkF m 125 #[.val (.long q1), .second, .val (.long q2), .second, .val (.long q3), .second, .val (.int p4), .val (.ref b_170), .val (.ref b_220), .val (.long q1), .second, .val (.long (q1 - q2)), .second, .val (.int (1 : Int32)), .val (.long ((q1 - q2) + q3)), .second, .val (.long (q1 + q3)), .second, .val (.long (q1 + q3)), .second] [(.int (1 : Int32))])) _
            refine XS.ifNo X_236.here hx rfl (hb hby at_125) rfl ((if0 _ _).trans (feq (by decide : ¬ ((1 : Int32) = (0 : Int32)))).1) ?_
            show Steps p.tables e below (T_236.setTop (mkF m 128 #[.val (.long q1), .second, .val (.long q2), .second, .val (.long q3), .second, .val (.int p4), .val (.ref b_170), .val (.ref b_220), .val (.long q1), .second, .val (.long (q1 - q2)), .second, .val (.int (1 : Int32)), .val (.long ((q1 - q2) + q3)), .second, .val (.long (q1 + q3)), .second, .val (.long (q1 + q3)), .second] [])) _
            refine XS.aload X_236.here hx rfl (hb hby at_128) rfl rfl ?_
            show Steps p.tables e below (T_236.setTop (mkF m 130 #[.val (.long q1), .second, .val (.long q2), .second, .val (.long q3), .second, .val (.int p4), .val (.ref b_170), .val (.ref b_220), .val (.long q1), .second, .val (.long (q1 - q2)), .second, .val (.int (1 : Int32)), .val (.long ((q1 - q2) + q3)), .second, .val (.long (q1 + q3)), .second, .val (.long (q1 + q3)), .second] [(.ref b_220)])) _
            refine st_246.trans ?_
            show Steps p.tables e below (T_246.setTop (mkF m 133 #[.val (.long q1), .second, .val (.long q2), .second, .val (.long q3), .second, .val (.int p4), .val (.ref b_170), .val (.ref b_220), .val (.long q1), .second, .val (.long (q1 - q2)), .second, .val (.int (1 : Int32)), .val (.long ((q1 - q2) + q3)), .second, .val (.long (q1 + q3)), .second, .val (.long (q1 + q3)), .second] [(.long (own_ar q3 ((own_ar q1 (0 : Int64)) - q2)))])) _
            refine XS.lload X_246.here hx rfl (hb hby at_133) rfl ?_
            show Steps p.tables e below (T_246.setTop (mkF m 135 #[.val (.long q1), .second, .val (.long q2), .second, .val (.long q3), .second, .val (.int p4), .val (.ref b_170), .val (.ref b_220), .val (.long q1), .second, .val (.long (q1 - q2)), .second, .val (.int (1 : Int32)), .val (.long ((q1 - q2) + q3)), .second, .val (.long (q1 + q3)), .second, .val (.long (q1 + q3)), .second] [(.long ((q1 - q2) + q3)), (.long (own_ar q3 ((own_ar q1 (0 : Int64)) - q2)))])) _
            refine XS.lcmp X_246.here hx rfl (hb hby at_135) rfl ?_
            show Steps p.tables e below (T_246.setTop (mkF m 136 #[.val (.long q1), .second, .val (.long q2), .second, .val (.long q3), .second, .val (.int p4), .val (.ref b_170), .val (.ref b_220), .val (.long q1), .second, .val (.long (q1 - q2)), .second, .val (.int (1 : Int32)), .val (.long ((q1 - q2) + q3)), .second, .val (.long (q1 + q3)), .second, .val (.long (q1 + q3)), .second] [(.int (lcmpW (own_ar q3 ((own_ar q1 (0 : Int64)) - q2)) ((q1 - q2) + q3)))])) _
            refine XS.ifNo X_246.here hx rfl (hb hby at_136) rfl ((if0 _ _).trans (teq ((lw_eq _ _).mpr (by rw [own_ar_eq, own_ar_eq, Int64.zero_add] : (own_ar q3 ((own_ar q1 (0 : Int64)) - q2)) = ((q1 - q2) + q3)))).2) ?_
            show Steps p.tables e below (T_246.setTop (mkF m 139 #[.val (.long q1), .second, .val (.long q2), .second, .val (.long q3), .second, .val (.int p4), .val (.ref b_170), .val (.ref b_220), .val (.long q1), .second, .val (.long (q1 - q2)), .second, .val (.int (1 : Int32)), .val (.long ((q1 - q2) + q3)), .second, .val (.long (q1 + q3)), .second, .val (.long (q1 + q3)), .second] [])) _
            refine XS.aload X_246.here hx rfl (hb hby at_139) rfl rfl ?_
            show Steps p.tables e below (T_246.setTop (mkF m 141 #[.val (.long q1), .second, .val (.long q2), .second, .val (.long q3), .second, .val (.int p4), .val (.ref b_170), .val (.ref b_220), .val (.long q1), .second, .val (.long (q1 - q2)), .second, .val (.int (1 : Int32)), .val (.long ((q1 - q2) + q3)), .second, .val (.long (q1 + q3)), .second, .val (.long (q1 + q3)), .second] [(.ref b_220)])) _
            refine st_247.trans ?_
            show Steps p.tables e below (T_247.setTop (mkF m 144 #[.val (.long q1), .second, .val (.long q2), .second, .val (.long q3), .second, .val (.int p4), .val (.ref b_170), .val (.ref b_220), .val (.long q1), .second, .val (.long (q1 - q2)), .second, .val (.int (1 : Int32)), .val (.long ((q1 - q2) + q3)), .second, .val (.long (q1 + q3)), .second, .val (.long (q1 + q3)), .second] [(.long (own_ap q3 ((own_ar q1 (0 : Int64)) - q2) (own_ap q1 (0 : Int64) (0 : Int64) (0 : Int64)) ((0 : Int64) + q2)))])) _
            refine XS.lload X_247.here hx rfl (hb hby at_144) rfl ?_
            show Steps p.tables e below (T_247.setTop (mkF m 146 #[.val (.long q1), .second, .val (.long q2), .second, .val (.long q3), .second, .val (.int p4), .val (.ref b_170), .val (.ref b_220), .val (.long q1), .second, .val (.long (q1 - q2)), .second, .val (.int (1 : Int32)), .val (.long ((q1 - q2) + q3)), .second, .val (.long (q1 + q3)), .second, .val (.long (q1 + q3)), .second] [(.long (q1 + q3)), (.long (own_ap q3 ((own_ar q1 (0 : Int64)) - q2) (own_ap q1 (0 : Int64) (0 : Int64) (0 : Int64)) ((0 : Int64) + q2)))])) _
            refine XS.lcmp X_247.here hx rfl (hb hby at_146) rfl ?_
            show Steps p.tables e below (T_247.setTop (mkF m 147 #[.val (.long q1), .second, .val (.long q2), .second, .val (.long q3), .second, .val (.int p4), .val (.ref b_170), .val (.ref b_220), .val (.long q1), .second, .val (.long (q1 - q2)), .second, .val (.int (1 : Int32)), .val (.long ((q1 - q2) + q3)), .second, .val (.long (q1 + q3)), .second, .val (.long (q1 + q3)), .second] [(.int (lcmpW (own_ap q3 ((own_ar q1 (0 : Int64)) - q2) (own_ap q1 (0 : Int64) (0 : Int64) (0 : Int64)) ((0 : Int64) + q2)) (q1 + q3)))])) _
            refine XS.ifNo X_247.here hx rfl (hb hby at_147) rfl ((if0 _ _).trans (teq ((lw_eq _ _).mpr (by rw [own_pk]; simp only [if_pos hc47__234, if_neg hc102__239, if_pos hc116__245] : (own_ap q3 ((own_ar q1 (0 : Int64)) - q2) (own_ap q1 (0 : Int64) (0 : Int64) (0 : Int64)) ((0 : Int64) + q2)) = (q1 + q3)))).2) ?_
            show Steps p.tables e below (T_247.setTop (mkF m 150 #[.val (.long q1), .second, .val (.long q2), .second, .val (.long q3), .second, .val (.int p4), .val (.ref b_170), .val (.ref b_220), .val (.long q1), .second, .val (.long (q1 - q2)), .second, .val (.int (1 : Int32)), .val (.long ((q1 - q2) + q3)), .second, .val (.long (q1 + q3)), .second, .val (.long (q1 + q3)), .second] [])) _
            refine XS.aload X_247.here hx rfl (hb hby at_150) rfl rfl ?_
            show Steps p.tables e below (T_247.setTop (mkF m 152 #[.val (.long q1), .second, .val (.long q2), .second, .val (.long q3), .second, .val (.int p4), .val (.ref b_170), .val (.ref b_220), .val (.long q1), .second, .val (.long (q1 - q2)), .second, .val (.int (1 : Int32)), .val (.long ((q1 - q2) + q3)), .second, .val (.long (q1 + q3)), .second, .val (.long (q1 + q3)), .second] [(.ref b_170)])) _
            refine st_248.trans ?_
            show Steps p.tables e below (T_248.setTop (mkF m 155 #[.val (.long q1), .second, .val (.long q2), .second, .val (.long q3), .second, .val (.int p4), .val (.ref b_170), .val (.ref b_220), .val (.long q1), .second, .val (.long (q1 - q2)), .second, .val (.int (1 : Int32)), .val (.long ((q1 - q2) + q3)), .second, .val (.long (q1 + q3)), .second, .val (.long (q1 + q3)), .second] [(.long (own_ar q3 ((own_ar q1 (0 : Int64)) - q2)))])) _
            refine XS.lload X_248.here hx rfl (hb hby at_155) rfl ?_
            show Steps p.tables e below (T_248.setTop (mkF m 157 #[.val (.long q1), .second, .val (.long q2), .second, .val (.long q3), .second, .val (.int p4), .val (.ref b_170), .val (.ref b_220), .val (.long q1), .second, .val (.long (q1 - q2)), .second, .val (.int (1 : Int32)), .val (.long ((q1 - q2) + q3)), .second, .val (.long (q1 + q3)), .second, .val (.long (q1 + q3)), .second] [(.long ((q1 - q2) + q3)), (.long (own_ar q3 ((own_ar q1 (0 : Int64)) - q2)))])) _
            refine XS.lcmp X_248.here hx rfl (hb hby at_157) rfl ?_
            show Steps p.tables e below (T_248.setTop (mkF m 158 #[.val (.long q1), .second, .val (.long q2), .second, .val (.long q3), .second, .val (.int p4), .val (.ref b_170), .val (.ref b_220), .val (.long q1), .second, .val (.long (q1 - q2)), .second, .val (.int (1 : Int32)), .val (.long ((q1 - q2) + q3)), .second, .val (.long (q1 + q3)), .second, .val (.long (q1 + q3)), .second] [(.int (lcmpW (own_ar q3 ((own_ar q1 (0 : Int64)) - q2)) ((q1 - q2) + q3)))])) _
            refine XS.ifNo X_248.here hx rfl (hb hby at_158) rfl ((if0 _ _).trans (teq ((lw_eq _ _).mpr (by rw [own_ar_eq, own_ar_eq, Int64.zero_add] : (own_ar q3 ((own_ar q1 (0 : Int64)) - q2)) = ((q1 - q2) + q3)))).2) ?_
            show Steps p.tables e below (T_248.setTop (mkF m 161 #[.val (.long q1), .second, .val (.long q2), .second, .val (.long q3), .second, .val (.int p4), .val (.ref b_170), .val (.ref b_220), .val (.long q1), .second, .val (.long (q1 - q2)), .second, .val (.int (1 : Int32)), .val (.long ((q1 - q2) + q3)), .second, .val (.long (q1 + q3)), .second, .val (.long (q1 + q3)), .second] [])) _
            refine XS.aload X_248.here hx rfl (hb hby at_161) rfl rfl ?_
            show Steps p.tables e below (T_248.setTop (mkF m 163 #[.val (.long q1), .second, .val (.long q2), .second, .val (.long q3), .second, .val (.int p4), .val (.ref b_170), .val (.ref b_220), .val (.long q1), .second, .val (.long (q1 - q2)), .second, .val (.int (1 : Int32)), .val (.long ((q1 - q2) + q3)), .second, .val (.long (q1 + q3)), .second, .val (.long (q1 + q3)), .second] [(.ref b_170)])) _
            refine st_249.trans ?_
            show Steps p.tables e below (T_249.setTop (mkF m 166 #[.val (.long q1), .second, .val (.long q2), .second, .val (.long q3), .second, .val (.int p4), .val (.ref b_170), .val (.ref b_220), .val (.long q1), .second, .val (.long (q1 - q2)), .second, .val (.int (1 : Int32)), .val (.long ((q1 - q2) + q3)), .second, .val (.long (q1 + q3)), .second, .val (.long (q1 + q3)), .second] [(.long (own_ap q3 ((own_ar q1 (0 : Int64)) - q2) (own_ap q1 (0 : Int64) (0 : Int64) (0 : Int64)) ((0 : Int64) + q2)))])) _
            refine XS.lload X_249.here hx rfl (hb hby at_166) rfl ?_
            show Steps p.tables e below (T_249.setTop (mkF m 168 #[.val (.long q1), .second, .val (.long q2), .second, .val (.long q3), .second, .val (.int p4), .val (.ref b_170), .val (.ref b_220), .val (.long q1), .second, .val (.long (q1 - q2)), .second, .val (.int (1 : Int32)), .val (.long ((q1 - q2) + q3)), .second, .val (.long (q1 + q3)), .second, .val (.long (q1 + q3)), .second] [(.long (q1 + q3)), (.long (own_ap q3 ((own_ar q1 (0 : Int64)) - q2) (own_ap q1 (0 : Int64) (0 : Int64) (0 : Int64)) ((0 : Int64) + q2)))])) _
            refine XS.lcmp X_249.here hx rfl (hb hby at_168) rfl ?_
            show Steps p.tables e below (T_249.setTop (mkF m 169 #[.val (.long q1), .second, .val (.long q2), .second, .val (.long q3), .second, .val (.int p4), .val (.ref b_170), .val (.ref b_220), .val (.long q1), .second, .val (.long (q1 - q2)), .second, .val (.int (1 : Int32)), .val (.long ((q1 - q2) + q3)), .second, .val (.long (q1 + q3)), .second, .val (.long (q1 + q3)), .second] [(.int (lcmpW (own_ap q3 ((own_ar q1 (0 : Int64)) - q2) (own_ap q1 (0 : Int64) (0 : Int64) (0 : Int64)) ((0 : Int64) + q2)) (q1 + q3)))])) _
            refine XS.ifNo X_249.here hx rfl (hb hby at_169) rfl ((if0 _ _).trans (teq ((lw_eq _ _).mpr (by rw [own_pk]; simp only [if_pos hc47__234, if_neg hc102__239, if_pos hc116__245] : (own_ap q3 ((own_ar q1 (0 : Int64)) - q2) (own_ap q1 (0 : Int64) (0 : Int64) (0 : Int64)) ((0 : Int64) + q2)) = (q1 + q3)))).2) ?_
            show Steps p.tables e below (T_249.setTop (mkF m 172 #[.val (.long q1), .second, .val (.long q2), .second, .val (.long q3), .second, .val (.int p4), .val (.ref b_170), .val (.ref b_220), .val (.long q1), .second, .val (.long (q1 - q2)), .second, .val (.int (1 : Int32)), .val (.long ((q1 - q2) + q3)), .second, .val (.long (q1 + q3)), .second, .val (.long (q1 + q3)), .second] [])) _
            refine XS.iconst X_249.here hx rfl (hb hby at_172) ?_
            show Steps p.tables e below (T_249.setTop (mkF m 173 #[.val (.long q1), .second, .val (.long q2), .second, .val (.long q3), .second, .val (.int p4), .val (.ref b_170), .val (.ref b_220), .val (.long q1), .second, .val (.long (q1 - q2)), .second, .val (.int (1 : Int32)), .val (.long ((q1 - q2) + q3)), .second, .val (.long (q1 + q3)), .second, .val (.long (q1 + q3)), .second] [(.int (1 : Int32))])) _
            refine XS.goto X_249.here hx rfl (pc0 := 173) (pc' := 177) rfl (hb hby at_173) (by decide) (by decide) ?_
            show Steps p.tables e below (T_249.setTop (mkF m 177 #[.val (.long q1), .second, .val (.long q2), .second, .val (.long q3), .second, .val (.int p4), .val (.ref b_170), .val (.ref b_220), .val (.long q1), .second, .val (.long (q1 - q2)), .second, .val (.int (1 : Int32)), .val (.long ((q1 - q2) + q3)), .second, .val (.long (q1 + q3)), .second, .val (.long (q1 + q3)), .second] [(.int (1 : Int32))])) _
            refine XS.istore X_249.here hx rfl (hb hby at_177) rfl (l' := #[.val (.long q1), .second, .val (.long q2), .second, .val (.long q3), .second, .val (.int p4), .val (.ref b_170), .val (.ref b_220), .val (.long q1), .second, .val (.long (q1 - q2)), .second, .val (.int (1 : Int32)), .val (.long ((q1 - q2) + q3)), .second, .val (.long (q1 + q3)), .second, .val (.long (q1 + q3)), .second]) rfl ?_
            show Steps p.tables e below (T_249.setTop (mkF m 179 #[.val (.long q1), .second, .val (.long q2), .second, .val (.long q3), .second, .val (.int p4), .val (.ref b_170), .val (.ref b_220), .val (.long q1), .second, .val (.long (q1 - q2)), .second, .val (.int (1 : Int32)), .val (.long ((q1 - q2) + q3)), .second, .val (.long (q1 + q3)), .second, .val (.long (q1 + q3)), .second] [])) _
            refine XS.iload X_249.here hx rfl (hb hby at_179) rfl ?_
            show Steps p.tables e below (T_249.setTop (mkF m 181 #[.val (.long q1), .second, .val (.long q2), .second, .val (.long q3), .second, .val (.int p4), .val (.ref b_170), .val (.ref b_220), .val (.long q1), .second, .val (.long (q1 - q2)), .second, .val (.int (1 : Int32)), .val (.long ((q1 - q2) + q3)), .second, .val (.long (q1 + q3)), .second, .val (.long (q1 + q3)), .second] [(.int (1 : Int32))])) _
            exact retN X_249 hx (t := .boolean) Bd.returns (by simp) (hb hby at_181) hr
          · show Q0 Z q1 q2 q3 p4 h0 n0 _ T_249.heap _
            rw [e_249]
            exact ⟨rfl, N_249⟩
        · obtain ⟨cq_250, kq_250, qa_250, qb_250, qc_250⟩ := isOf hZ rfl po_236_0
          obtain ⟨_, _, ⟨T_250, L_250, k_250, n_250⟩, -, X_250, ⟨Lc_250, hQ_250, l_250, y_250, z_250⟩, st_250⟩ := X_236.virtualBack hx (y := (⟨"org/millrace/engine/Footprint", "rows", "()J"⟩ : MethodName)) (z := (⟨"org/millrace/engine/Footprint", "rows", "()J"⟩ : MethodName)) hown (mvT hZ (hw _ (List.mem_of_getElem? (i := 30) rfl))) (mvT hZ (hw _ (List.mem_of_getElem? (i := 31) rfl))) (notFace_of_selects (args := #[]) (mvT hZ (hw _ (List.mem_of_getElem? (i := 33) rfl)))) (mvT hZ (hw _ (List.mem_of_getElem? (i := 33) rfl))) (mvT hZ (hw _ (List.mem_of_getElem? (i := 32) rfl))) (by decide) (backOf (W := 0) (rm6 l Z a0 hw [] b_220 (own_ar q3 ((own_ar q1 (0 : Int64)) - q2)) T_236.heap n0 z_237 po_236_0 po_236_1) hZ (hw _ (List.mem_of_getElem? (i := 34) rfl)) (hw _ (List.mem_of_getElem? (i := 2) rfl)) (by decide) (by decide)) qa_250 qc_250 (g := (mkF m 130 #[.val (.long q1), .second, .val (.long q2), .second, .val (.long q3), .second, .val (.int p4), .val (.ref b_170), .val (.ref b_220), .val (.long q1), .second, .val (.long (q1 - q2)), .second, .val (.int (1 : Int32)), .val (.long ((q1 - q2) + q3)), .second, .val (.long q1), .second, .val (.long (q1 + q3)), .second] [(.ref b_220)])) rfl (by rw [hml]; rfl) (Steps.refl _) (argsL := []) (rest := []) (lenOf pd_3 rfl) rfl (by show 2 * 0 + _ ≤ _; exact Nat.le_of_eq rfl) (hb hby at_130) (fun _ _ => ⟨rfl, rfl, (by decide : 2 + 0 ≤ _), (by decide : 8 + 0 ≤ _)⟩)
          dsimp only [Pt.U, Pt.locs, Pt.cells, Pt.slots] at X_250 l_250 y_250 z_250 st_250 hQ_250
          replace X_250 := castS l_250 y_250 z_250 X_250
          obtain ⟨rfl, Nq_250, e_250⟩ := hQ_250
          have N_250 := Fr.app N_236 Nq_250
          obtain ⟨cq_251, kq_251, qa_251, qb_251, qc_251⟩ := isOf hZ e_250 po_236_0
          obtain ⟨_, _, ⟨T_251, L_251, k_251, n_251⟩, -, X_251, ⟨Lc_251, hQ_251, l_251, y_251, z_251⟩, st_251⟩ := X_250.virtualBack hx (y := (⟨"org/millrace/engine/Footprint", "peak", "()J"⟩ : MethodName)) (z := (⟨"org/millrace/engine/Footprint", "peak", "()J"⟩ : MethodName)) hown (mvT hZ (hw _ (List.mem_of_getElem? (i := 35) rfl))) (mvT hZ (hw _ (List.mem_of_getElem? (i := 36) rfl))) (notFace_of_selects (args := #[]) (mvT hZ (hw _ (List.mem_of_getElem? (i := 38) rfl)))) (mvT hZ (hw _ (List.mem_of_getElem? (i := 38) rfl))) (mvT hZ (hw _ (List.mem_of_getElem? (i := 37) rfl))) (by decide) (backOf (W := 0) (rm7 l Z a0 hw [] b_220 (own_ap q3 ((own_ar q1 (0 : Int64)) - q2) (own_ap q1 (0 : Int64) (0 : Int64) (0 : Int64)) ((0 : Int64) + q2)) T_236.heap n0 z_237 po_236_0 po_236_2) hZ (hw _ (List.mem_of_getElem? (i := 39) rfl)) (hw _ (List.mem_of_getElem? (i := 2) rfl)) (by decide) (by decide)) qa_251 qc_251 (g := (mkF m 141 #[.val (.long q1), .second, .val (.long q2), .second, .val (.long q3), .second, .val (.int p4), .val (.ref b_170), .val (.ref b_220), .val (.long q1), .second, .val (.long (q1 - q2)), .second, .val (.int (1 : Int32)), .val (.long ((q1 - q2) + q3)), .second, .val (.long q1), .second, .val (.long (q1 + q3)), .second] [(.ref b_220)])) rfl (by rw [hml]; rfl) (Steps.refl _) (argsL := []) (rest := []) (lenOf pd_3 rfl) rfl (by show 2 * 0 + _ ≤ _; exact Nat.le_of_eq rfl) (hb hby at_141) (fun _ _ => ⟨rfl, e_250, (by decide : 2 + 0 ≤ _), (by decide : 8 + 0 ≤ _)⟩)
          dsimp only [Pt.U, Pt.locs, Pt.cells, Pt.slots] at X_251 l_251 y_251 z_251 st_251 hQ_251
          replace X_251 := castS l_251 y_251 z_251 X_251
          obtain ⟨rfl, Nq_251, e_251⟩ := hQ_251
          have N_251 := Fr.app N_250 Nq_251
          obtain ⟨cq_252, kq_252, qa_252, qb_252, qc_252⟩ := isOf hZ e_251 po_236_5
          obtain ⟨_, _, ⟨T_252, L_252, k_252, n_252⟩, -, X_252, ⟨Lc_252, hQ_252, l_252, y_252, z_252⟩, st_252⟩ := X_251.virtualBack hx (y := (⟨"org/millrace/engine/Footprint", "rows", "()J"⟩ : MethodName)) (z := (⟨"org/millrace/engine/Footprint", "rows", "()J"⟩ : MethodName)) hown (mvT hZ (hw _ (List.mem_of_getElem? (i := 30) rfl))) (mvT hZ (hw _ (List.mem_of_getElem? (i := 31) rfl))) (notFace_of_selects (args := #[]) (mvT hZ (hw _ (List.mem_of_getElem? (i := 33) rfl)))) (mvT hZ (hw _ (List.mem_of_getElem? (i := 33) rfl))) (mvT hZ (hw _ (List.mem_of_getElem? (i := 32) rfl))) (by decide) (backOf (W := 0) (rm6 l Z a0 hw [] b_170 (own_ar q3 ((own_ar q1 (0 : Int64)) - q2)) T_236.heap n0 z_237 po_236_5 po_236_6) hZ (hw _ (List.mem_of_getElem? (i := 34) rfl)) (hw _ (List.mem_of_getElem? (i := 2) rfl)) (by decide) (by decide)) qa_252 qc_252 (g := (mkF m 152 #[.val (.long q1), .second, .val (.long q2), .second, .val (.long q3), .second, .val (.int p4), .val (.ref b_170), .val (.ref b_220), .val (.long q1), .second, .val (.long (q1 - q2)), .second, .val (.int (1 : Int32)), .val (.long ((q1 - q2) + q3)), .second, .val (.long q1), .second, .val (.long (q1 + q3)), .second] [(.ref b_170)])) rfl (by rw [hml]; rfl) (Steps.refl _) (argsL := []) (rest := []) (lenOf pd_3 rfl) rfl (by show 2 * 0 + _ ≤ _; exact Nat.le_of_eq rfl) (hb hby at_152) (fun _ _ => ⟨rfl, e_251, (by decide : 2 + 0 ≤ _), (by decide : 8 + 0 ≤ _)⟩)
          dsimp only [Pt.U, Pt.locs, Pt.cells, Pt.slots] at X_252 l_252 y_252 z_252 st_252 hQ_252
          replace X_252 := castS l_252 y_252 z_252 X_252
          obtain ⟨rfl, Nq_252, e_252⟩ := hQ_252
          have N_252 := Fr.app N_251 Nq_252
          obtain ⟨cq_253, kq_253, qa_253, qb_253, qc_253⟩ := isOf hZ e_252 po_236_5
          obtain ⟨_, _, ⟨T_253, L_253, k_253, n_253⟩, -, X_253, ⟨Lc_253, hQ_253, l_253, y_253, z_253⟩, st_253⟩ := X_252.virtualBack hx (y := (⟨"org/millrace/engine/Footprint", "peak", "()J"⟩ : MethodName)) (z := (⟨"org/millrace/engine/Footprint", "peak", "()J"⟩ : MethodName)) hown (mvT hZ (hw _ (List.mem_of_getElem? (i := 35) rfl))) (mvT hZ (hw _ (List.mem_of_getElem? (i := 36) rfl))) (notFace_of_selects (args := #[]) (mvT hZ (hw _ (List.mem_of_getElem? (i := 38) rfl)))) (mvT hZ (hw _ (List.mem_of_getElem? (i := 38) rfl))) (mvT hZ (hw _ (List.mem_of_getElem? (i := 37) rfl))) (by decide) (backOf (W := 0) (rm7 l Z a0 hw [] b_170 (own_ap q3 ((own_ar q1 (0 : Int64)) - q2) (own_ap q1 (0 : Int64) (0 : Int64) (0 : Int64)) ((0 : Int64) + q2)) T_236.heap n0 z_237 po_236_5 po_236_7) hZ (hw _ (List.mem_of_getElem? (i := 39) rfl)) (hw _ (List.mem_of_getElem? (i := 2) rfl)) (by decide) (by decide)) qa_253 qc_253 (g := (mkF m 163 #[.val (.long q1), .second, .val (.long q2), .second, .val (.long q3), .second, .val (.int p4), .val (.ref b_170), .val (.ref b_220), .val (.long q1), .second, .val (.long (q1 - q2)), .second, .val (.int (1 : Int32)), .val (.long ((q1 - q2) + q3)), .second, .val (.long q1), .second, .val (.long (q1 + q3)), .second] [(.ref b_170)])) rfl (by rw [hml]; rfl) (Steps.refl _) (argsL := []) (rest := []) (lenOf pd_3 rfl) rfl (by show 2 * 0 + _ ≤ _; exact Nat.le_of_eq rfl) (hb hby at_163) (fun _ _ => ⟨rfl, e_252, (by decide : 2 + 0 ≤ _), (by decide : 8 + 0 ≤ _)⟩)
          dsimp only [Pt.U, Pt.locs, Pt.cells, Pt.slots] at X_253 l_253 y_253 z_253 st_253 hQ_253
          replace X_253 := castS l_253 y_253 z_253 X_253
          obtain ⟨rfl, Nq_253, e_253⟩ := hQ_253
          have N_253 := Fr.app N_252 Nq_253
          obtain ⟨fs, hr, hrun, hended, hW, hsame⟩ := X_253.leave (v := some (.int (1 : Int32))) (fun h => by rw [Bd.returns] at h; cases h)
          refine ⟨_, _, pre_244 _ ?_, hrun, hended, _, _, rfl, ?_, ⟨_, rfl⟩, hW, hsame.mono (by decide) (by decide)⟩
          · show Steps p.tables e below (T_236.setTop (mkF m 116 #[.val (.long q1), .second, .val (.long q2), .second, .val (.long q3), .second, .val (.int p4), .val (.ref b_170), .val (.ref b_220), .val (.long q1), .second, .val (.long (q1 - q2)), .second, .val (.int (1 : Int32)), .val (.long ((q1 - q2) + q3)), .second, .val (.long q1), .second, .val (.long (q1 + q3)), .second] [(.int (lcmpW (q1 + q3) q1))])) _
            refine XS.ifYes X_236.here hx rfl (pc0 := 116) (pc' := 123) rfl (hb hby at_116) rfl ((if0 _ _).trans (flt (mt (lw_gt _ _).mp hc116__245)).2.2.2) (by decide) (by decide) ?_
            show Steps p.tables e below (T_236.setTop (mkF m 123 #[.val (.long q1), .second, .val (.long q2), .second, .val (.long q3), .second, .val (.int p4), .val (.ref b_170), .val (.ref b_220), .val (.long q1), .second, .val (.long (q1 - q2)), .second, .val (.int (1 : Int32)), .val (.long ((q1 - q2) + q3)), .second, .val (.long q1), .second, .val (.long (q1 + q3)), .second] [])) _
            refine XS.iload X_236.here hx rfl (hb hby at_123) rfl ?_
            show Steps p.tables e below (T_236.setTop (mkF m 125 #[.val (.long q1), .second, .val (.long q2), .second, .val (.long q3), .second, .val (.int p4), .val (.ref b_170), .val (.ref b_220), .val (.long q1), .second, .val (.long (q1 - q2)), .second, .val (.int (1 : Int32)), .val (.long ((q1 - q2) + q3)), .second, .val (.long q1), .second, .val (.long (q1 + q3)), .second] [(.int (1 : Int32))])) _
            refine XS.ifNo X_236.here hx rfl (hb hby at_125) rfl ((if0 _ _).trans (feq (by decide : ¬ ((1 : Int32) = (0 : Int32)))).1) ?_
            show Steps p.tables e below (T_236.setTop (mkF m 128 #[.val (.long q1), .second, .val (.long q2), .second, .val (.long q3), .second, .val (.int p4), .val (.ref b_170), .val (.ref b_220), .val (.long q1), .second, .val (.long (q1 - q2)), .second, .val (.int (1 : Int32)), .val (.long ((q1 - q2) + q3)), .second, .val (.long q1), .second, .val (.long (q1 + q3)), .second] [])) _
            refine XS.aload X_236.here hx rfl (hb hby at_128) rfl rfl ?_
            show Steps p.tables e below (T_236.setTop (mkF m 130 #[.val (.long q1), .second, .val (.long q2), .second, .val (.long q3), .second, .val (.int p4), .val (.ref b_170), .val (.ref b_220), .val (.long q1), .second, .val (.long (q1 - q2)), .second, .val (.int (1 : Int32)), .val (.long ((q1 - q2) + q3)), .second, .val (.long q1), .second, .val (.long (q1 + q3)), .second] [(.ref b_220)])) _
            refine st_250.trans ?_
            show Steps p.tables e below (T_250.setTop (mkF m 133 #[.val (.long q1), .second, .val (.long q2), .second, .val (.long q3), .second, .val (.int p4), .val (.ref b_170), .val (.ref b_220), .val (.long q1), .second, .val (.long (q1 - q2)), .second, .val (.int (1 : Int32)), .val (.long ((q1 - q2) + q3)), .second, .val (.long q1), .second, .val (.long (q1 + q3)), .second] [(.long (own_ar q3 ((own_ar q1 (0 : Int64)) - q2)))])) _
            refine XS.lload X_250.here hx rfl (hb hby at_133) rfl ?_
            show Steps p.tables e below (T_250.setTop (mkF m 135 #[.val (.long q1), .second, .val (.long q2), .second, .val (.long q3), .second, .val (.int p4), .val (.ref b_170), .val (.ref b_220), .val (.long q1), .second, .val (.long (q1 - q2)), .second, .val (.int (1 : Int32)), .val (.long ((q1 - q2) + q3)), .second, .val (.long q1), .second, .val (.long (q1 + q3)), .second] [(.long ((q1 - q2) + q3)), (.long (own_ar q3 ((own_ar q1 (0 : Int64)) - q2)))])) _
            refine XS.lcmp X_250.here hx rfl (hb hby at_135) rfl ?_
            show Steps p.tables e below (T_250.setTop (mkF m 136 #[.val (.long q1), .second, .val (.long q2), .second, .val (.long q3), .second, .val (.int p4), .val (.ref b_170), .val (.ref b_220), .val (.long q1), .second, .val (.long (q1 - q2)), .second, .val (.int (1 : Int32)), .val (.long ((q1 - q2) + q3)), .second, .val (.long q1), .second, .val (.long (q1 + q3)), .second] [(.int (lcmpW (own_ar q3 ((own_ar q1 (0 : Int64)) - q2)) ((q1 - q2) + q3)))])) _
            refine XS.ifNo X_250.here hx rfl (hb hby at_136) rfl ((if0 _ _).trans (teq ((lw_eq _ _).mpr (by rw [own_ar_eq, own_ar_eq, Int64.zero_add] : (own_ar q3 ((own_ar q1 (0 : Int64)) - q2)) = ((q1 - q2) + q3)))).2) ?_
            show Steps p.tables e below (T_250.setTop (mkF m 139 #[.val (.long q1), .second, .val (.long q2), .second, .val (.long q3), .second, .val (.int p4), .val (.ref b_170), .val (.ref b_220), .val (.long q1), .second, .val (.long (q1 - q2)), .second, .val (.int (1 : Int32)), .val (.long ((q1 - q2) + q3)), .second, .val (.long q1), .second, .val (.long (q1 + q3)), .second] [])) _
            refine XS.aload X_250.here hx rfl (hb hby at_139) rfl rfl ?_
            show Steps p.tables e below (T_250.setTop (mkF m 141 #[.val (.long q1), .second, .val (.long q2), .second, .val (.long q3), .second, .val (.int p4), .val (.ref b_170), .val (.ref b_220), .val (.long q1), .second, .val (.long (q1 - q2)), .second, .val (.int (1 : Int32)), .val (.long ((q1 - q2) + q3)), .second, .val (.long q1), .second, .val (.long (q1 + q3)), .second] [(.ref b_220)])) _
            refine st_251.trans ?_
            show Steps p.tables e below (T_251.setTop (mkF m 144 #[.val (.long q1), .second, .val (.long q2), .second, .val (.long q3), .second, .val (.int p4), .val (.ref b_170), .val (.ref b_220), .val (.long q1), .second, .val (.long (q1 - q2)), .second, .val (.int (1 : Int32)), .val (.long ((q1 - q2) + q3)), .second, .val (.long q1), .second, .val (.long (q1 + q3)), .second] [(.long (own_ap q3 ((own_ar q1 (0 : Int64)) - q2) (own_ap q1 (0 : Int64) (0 : Int64) (0 : Int64)) ((0 : Int64) + q2)))])) _
            refine XS.lload X_251.here hx rfl (hb hby at_144) rfl ?_
            show Steps p.tables e below (T_251.setTop (mkF m 146 #[.val (.long q1), .second, .val (.long q2), .second, .val (.long q3), .second, .val (.int p4), .val (.ref b_170), .val (.ref b_220), .val (.long q1), .second, .val (.long (q1 - q2)), .second, .val (.int (1 : Int32)), .val (.long ((q1 - q2) + q3)), .second, .val (.long q1), .second, .val (.long (q1 + q3)), .second] [(.long q1), (.long (own_ap q3 ((own_ar q1 (0 : Int64)) - q2) (own_ap q1 (0 : Int64) (0 : Int64) (0 : Int64)) ((0 : Int64) + q2)))])) _
            refine XS.lcmp X_251.here hx rfl (hb hby at_146) rfl ?_
            show Steps p.tables e below (T_251.setTop (mkF m 147 #[.val (.long q1), .second, .val (.long q2), .second, .val (.long q3), .second, .val (.int p4), .val (.ref b_170), .val (.ref b_220), .val (.long q1), .second, .val (.long (q1 - q2)), .second, .val (.int (1 : Int32)), .val (.long ((q1 - q2) + q3)), .second, .val (.long q1), .second, .val (.long (q1 + q3)), .second] [(.int (lcmpW (own_ap q3 ((own_ar q1 (0 : Int64)) - q2) (own_ap q1 (0 : Int64) (0 : Int64) (0 : Int64)) ((0 : Int64) + q2)) q1))])) _
            refine XS.ifNo X_251.here hx rfl (hb hby at_147) rfl ((if0 _ _).trans (teq ((lw_eq _ _).mpr (by rw [own_pk]; simp only [if_pos hc47__234, if_neg hc102__239, if_neg hc116__245] : (own_ap q3 ((own_ar q1 (0 : Int64)) - q2) (own_ap q1 (0 : Int64) (0 : Int64) (0 : Int64)) ((0 : Int64) + q2)) = q1))).2) ?_
            show Steps p.tables e below (T_251.setTop (mkF m 150 #[.val (.long q1), .second, .val (.long q2), .second, .val (.long q3), .second, .val (.int p4), .val (.ref b_170), .val (.ref b_220), .val (.long q1), .second, .val (.long (q1 - q2)), .second, .val (.int (1 : Int32)), .val (.long ((q1 - q2) + q3)), .second, .val (.long q1), .second, .val (.long (q1 + q3)), .second] [])) _
            refine XS.aload X_251.here hx rfl (hb hby at_150) rfl rfl ?_
            show Steps p.tables e below (T_251.setTop (mkF m 152 #[.val (.long q1), .second, .val (.long q2), .second, .val (.long q3), .second, .val (.int p4), .val (.ref b_170), .val (.ref b_220), .val (.long q1), .second, .val (.long (q1 - q2)), .second, .val (.int (1 : Int32)), .val (.long ((q1 - q2) + q3)), .second, .val (.long q1), .second, .val (.long (q1 + q3)), .second] [(.ref b_170)])) _
            refine st_252.trans ?_
            show Steps p.tables e below (T_252.setTop (mkF m 155 #[.val (.long q1), .second, .val (.long q2), .second, .val (.long q3), .second, .val (.int p4), .val (.ref b_170), .val (.ref b_220), .val (.long q1), .second, .val (.long (q1 - q2)), .second, .val (.int (1 : Int32)), .val (.long ((q1 - q2) + q3)), .second, .val (.long q1), .second, .val (.long (q1 + q3)), .second] [(.long (own_ar q3 ((own_ar q1 (0 : Int64)) - q2)))])) _
            refine XS.lload X_252.here hx rfl (hb hby at_155) rfl ?_
            show Steps p.tables e below (T_252.setTop (mkF m 157 #[.val (.long q1), .second, .val (.long q2), .second, .val (.long q3), .second, .val (.int p4), .val (.ref b_170), .val (.ref b_220), .val (.long q1), .second, .val (.long (q1 - q2)), .second, .val (.int (1 : Int32)), .val (.long ((q1 - q2) + q3)), .second, .val (.long q1), .second, .val (.long (q1 + q3)), .second] [(.long ((q1 - q2) + q3)), (.long (own_ar q3 ((own_ar q1 (0 : Int64)) - q2)))])) _
            refine XS.lcmp X_252.here hx rfl (hb hby at_157) rfl ?_
            show Steps p.tables e below (T_252.setTop (mkF m 158 #[.val (.long q1), .second, .val (.long q2), .second, .val (.long q3), .second, .val (.int p4), .val (.ref b_170), .val (.ref b_220), .val (.long q1), .second, .val (.long (q1 - q2)), .second, .val (.int (1 : Int32)), .val (.long ((q1 - q2) + q3)), .second, .val (.long q1), .second, .val (.long (q1 + q3)), .second] [(.int (lcmpW (own_ar q3 ((own_ar q1 (0 : Int64)) - q2)) ((q1 - q2) + q3)))])) _
            refine XS.ifNo X_252.here hx rfl (hb hby at_158) rfl ((if0 _ _).trans (teq ((lw_eq _ _).mpr (by rw [own_ar_eq, own_ar_eq, Int64.zero_add] : (own_ar q3 ((own_ar q1 (0 : Int64)) - q2)) = ((q1 - q2) + q3)))).2) ?_
            show Steps p.tables e below (T_252.setTop (mkF m 161 #[.val (.long q1), .second, .val (.long q2), .second, .val (.long q3), .second, .val (.int p4), .val (.ref b_170), .val (.ref b_220), .val (.long q1), .second, .val (.long (q1 - q2)), .second, .val (.int (1 : Int32)), .val (.long ((q1 - q2) + q3)), .second, .val (.long q1), .second, .val (.long (q1 + q3)), .second] [])) _
            refine XS.aload X_252.here hx rfl (hb hby at_161) rfl rfl ?_
            show Steps p.tables e below (T_252.setTop (mkF m 163 #[.val (.long q1), .second, .val (.long q2), .second, .val (.long q3), .second, .val (.int p4), .val (.ref b_170), .val (.ref b_220), .val (.long q1), .second, .val (.long (q1 - q2)), .second, .val (.int (1 : Int32)), .val (.long ((q1 - q2) + q3)), .second, .val (.long q1), .second, .val (.long (q1 + q3)), .second] [(.ref b_170)])) _
            refine st_253.trans ?_
            show Steps p.tables e below (T_253.setTop (mkF m 166 #[.val (.long q1), .second, .val (.long q2), .second, .val (.long q3), .second, .val (.int p4), .val (.ref b_170), .val (.ref b_220), .val (.long q1), .second, .val (.long (q1 - q2)), .second, .val (.int (1 : Int32)), .val (.long ((q1 - q2) + q3)), .second, .val (.long q1), .second, .val (.long (q1 + q3)), .second] [(.long (own_ap q3 ((own_ar q1 (0 : Int64)) - q2) (own_ap q1 (0 : Int64) (0 : Int64) (0 : Int64)) ((0 : Int64) + q2)))])) _
            refine XS.lload X_253.here hx rfl (hb hby at_166) rfl ?_
            show Steps p.tables e below (T_253.setTop (mkF m 168 #[.val (.long q1), .second, .val (.long q2), .second, .val (.long q3), .second, .val (.int p4), .val (.ref b_170), .val (.ref b_220), .val (.long q1), .second, .val (.long (q1 - q2)), .second, .val (.int (1 : Int32)), .val (.long ((q1 - q2) + q3)), .second, .val (.long q1), .second, .val (.long (q1 + q3)), .second] [(.long q1), (.long (own_ap q3 ((own_ar q1 (0 : Int64)) - q2) (own_ap q1 (0 : Int64) (0 : Int64) (0 : Int64)) ((0 : Int64) + q2)))])) _
            refine XS.lcmp X_253.here hx rfl (hb hby at_168) rfl ?_
            show Steps p.tables e below (T_253.setTop (mkF m 169 #[.val (.long q1), .second, .val (.long q2), .second, .val (.long q3), .second, .val (.int p4), .val (.ref b_170), .val (.ref b_220), .val (.long q1), .second, .val (.long (q1 - q2)), .second, .val (.int (1 : Int32)), .val (.long ((q1 - q2) + q3)), .second, .val (.long q1), .second, .val (.long (q1 + q3)), .second] [(.int (lcmpW (own_ap q3 ((own_ar q1 (0 : Int64)) - q2) (own_ap q1 (0 : Int64) (0 : Int64) (0 : Int64)) ((0 : Int64) + q2)) q1))])) _
            refine XS.ifNo X_253.here hx rfl (hb hby at_169) rfl ((if0 _ _).trans (teq ((lw_eq _ _).mpr (by rw [own_pk]; simp only [if_pos hc47__234, if_neg hc102__239, if_neg hc116__245] : (own_ap q3 ((own_ar q1 (0 : Int64)) - q2) (own_ap q1 (0 : Int64) (0 : Int64) (0 : Int64)) ((0 : Int64) + q2)) = q1))).2) ?_
            show Steps p.tables e below (T_253.setTop (mkF m 172 #[.val (.long q1), .second, .val (.long q2), .second, .val (.long q3), .second, .val (.int p4), .val (.ref b_170), .val (.ref b_220), .val (.long q1), .second, .val (.long (q1 - q2)), .second, .val (.int (1 : Int32)), .val (.long ((q1 - q2) + q3)), .second, .val (.long q1), .second, .val (.long (q1 + q3)), .second] [])) _
            refine XS.iconst X_253.here hx rfl (hb hby at_172) ?_
            show Steps p.tables e below (T_253.setTop (mkF m 173 #[.val (.long q1), .second, .val (.long q2), .second, .val (.long q3), .second, .val (.int p4), .val (.ref b_170), .val (.ref b_220), .val (.long q1), .second, .val (.long (q1 - q2)), .second, .val (.int (1 : Int32)), .val (.long ((q1 - q2) + q3)), .second, .val (.long q1), .second, .val (.long (q1 + q3)), .second] [(.int (1 : Int32))])) _
            refine XS.goto X_253.here hx rfl (pc0 := 173) (pc' := 177) rfl (hb hby at_173) (by decide) (by decide) ?_
            show Steps p.tables e below (T_253.setTop (mkF m 177 #[.val (.long q1), .second, .val (.long q2), .second, .val (.long q3), .second, .val (.int p4), .val (.ref b_170), .val (.ref b_220), .val (.long q1), .second, .val (.long (q1 - q2)), .second, .val (.int (1 : Int32)), .val (.long ((q1 - q2) + q3)), .second, .val (.long q1), .second, .val (.long (q1 + q3)), .second] [(.int (1 : Int32))])) _
            refine XS.istore X_253.here hx rfl (hb hby at_177) rfl (l' := #[.val (.long q1), .second, .val (.long q2), .second, .val (.long q3), .second, .val (.int p4), .val (.ref b_170), .val (.ref b_220), .val (.long q1), .second, .val (.long (q1 - q2)), .second, .val (.int (1 : Int32)), .val (.long ((q1 - q2) + q3)), .second, .val (.long q1), .second, .val (.long (q1 + q3)), .second]) rfl ?_
            show Steps p.tables e below (T_253.setTop (mkF m 179 #[.val (.long q1), .second, .val (.long q2), .second, .val (.long q3), .second, .val (.int p4), .val (.ref b_170), .val (.ref b_220), .val (.long q1), .second, .val (.long (q1 - q2)), .second, .val (.int (1 : Int32)), .val (.long ((q1 - q2) + q3)), .second, .val (.long q1), .second, .val (.long (q1 + q3)), .second] [])) _
            refine XS.iload X_253.here hx rfl (hb hby at_179) rfl ?_
            show Steps p.tables e below (T_253.setTop (mkF m 181 #[.val (.long q1), .second, .val (.long q2), .second, .val (.long q3), .second, .val (.int p4), .val (.ref b_170), .val (.ref b_220), .val (.long q1), .second, .val (.long (q1 - q2)), .second, .val (.int (1 : Int32)), .val (.long ((q1 - q2) + q3)), .second, .val (.long q1), .second, .val (.long (q1 + q3)), .second] [(.int (1 : Int32))])) _
            exact retN X_253 hx (t := .boolean) Bd.returns (by simp) (hb hby at_181) hr
          · show Q0 Z q1 q2 q3 p4 h0 n0 _ T_253.heap _
            rw [e_253]
            exact ⟨rfl, N_253⟩
    · obtain ⟨cq_254, kq_254, qa_254, qb_254, qc_254⟩ := isOf hZ rfl po_231_0
      obtain ⟨_, _, ⟨T_254, L_254, k_254, n_254⟩, -, X_254, ⟨Lc_254, hQ_254, l_254, y_254, z_254⟩, st_254⟩ := X_231.virtualBack hx (y := (⟨"org/millrace/engine/Footprint", "rows", "()J"⟩ : MethodName)) (z := (⟨"org/millrace/engine/Footprint", "rows", "()J"⟩ : MethodName)) hown (mvT hZ (hw _ (List.mem_of_getElem? (i := 30) rfl))) (mvT hZ (hw _ (List.mem_of_getElem? (i := 31) rfl))) (notFace_of_selects (args := #[]) (mvT hZ (hw _ (List.mem_of_getElem? (i := 33) rfl)))) (mvT hZ (hw _ (List.mem_of_getElem? (i := 33) rfl))) (mvT hZ (hw _ (List.mem_of_getElem? (i := 32) rfl))) (by decide) (backOf (W := 0) (rm6 l Z a0 hw [] b_220 ((own_ar q1 (0 : Int64)) - q2) T_231.heap n0 z_232 po_231_0 po_231_1) hZ (hw _ (List.mem_of_getElem? (i := 34) rfl)) (hw _ (List.mem_of_getElem? (i := 2) rfl)) (by decide) (by decide)) qa_254 qc_254 (g := (mkF m 64 #[.val (.long q1), .second, .val (.long q2), .second, .val (.long q3), .second, .val (.int p4), .val (.ref b_170), .val (.ref b_220), .val (.long (0 : Int64)), .second, .val (.long (q1 - q2)), .second, .unset, .unset, .unset, .unset, .unset, .unset, .unset] [(.ref b_220)])) rfl (by rw [hml]; rfl) (Steps.refl _) (argsL := []) (rest := []) (lenOf pd_3 rfl) rfl (by show 2 * 0 + _ ≤ _; exact Nat.le_of_eq rfl) (hb hby at_64) (fun _ _ => ⟨rfl, rfl, (by decide : 2 + 0 ≤ _), (by decide : 8 + 0 ≤ _)⟩)
      dsimp only [Pt.U, Pt.locs, Pt.cells, Pt.slots] at X_254 l_254 y_254 z_254 st_254 hQ_254
      replace X_254 := castS l_254 y_254 z_254 X_254
      obtain ⟨rfl, Nq_254, e_254⟩ := hQ_254
      have N_254 := Fr.app N_231 Nq_254
      obtain ⟨cq_255, kq_255, qa_255, qb_255, qc_255⟩ := isOf hZ e_254 po_231_0
      obtain ⟨_, _, ⟨T_255, L_255, k_255, n_255⟩, -, X_255, ⟨Lc_255, hQ_255, l_255, y_255, z_255⟩, st_255⟩ := X_254.virtualBack hx (y := (⟨"org/millrace/engine/Footprint", "add", "(J)V"⟩ : MethodName)) (z := (⟨"org/millrace/engine/Footprint", "add", "(J)V"⟩ : MethodName)) hown (mvT hZ (hw _ (List.mem_of_getElem? (i := 14) rfl))) (mvT hZ (hw _ (List.mem_of_getElem? (i := 15) rfl))) (notFace_of_selects (args := #[]) (mvT hZ (hw _ (List.mem_of_getElem? (i := 17) rfl)))) (mvT hZ (hw _ (List.mem_of_getElem? (i := 17) rfl))) (mvT hZ (hw _ (List.mem_of_getElem? (i := 16) rfl))) (by decide) (backOf (W := 0) (rm4r l Z a0 hw [] b_220 b_170 q3 ((own_ar q1 (0 : Int64)) - q2) (own_ap q1 (0 : Int64) (0 : Int64) (0 : Int64)) ((0 : Int64) + q2) ((own_ar q1 (0 : Int64)) - q2) (own_ap q1 (0 : Int64) (0 : Int64) (0 : Int64)) ((0 : Int64) + q2) T_231.heap n0 z_232 po_231_0 po_231_1 po_231_2 po_231_3 po_231_4 po_231_5 po_231_6 po_231_7 po_231_8 po_231_9 g_b_220 g_b_170 (Ne.symm ne_b_170_b_220)) hZ (hw _ (List.mem_of_getElem? (i := 18) rfl)) (hw _ (List.mem_of_getElem? (i := 2) rfl)) (by decide) (by decide)) qa_255 qc_255 (g := (mkF m 84 #[.val (.long q1), .second, .val (.long q2), .second, .val (.long q3), .second, .val (.int p4), .val (.ref b_170), .val (.ref b_220), .val (.long (0 : Int64)), .second, .val (.long (q1 - q2)), .second, .val (.int (1 : Int32)), .unset, .unset, .unset, .unset, .unset, .unset] [(.long q3), (.ref b_220)])) rfl (by rw [hml]; rfl) (Steps.refl _) (argsL := [(.long q3)]) (rest := []) (lenOf pd_2 rfl) rfl (by show 2 * 0 + _ ≤ _; exact Nat.le_of_eq rfl) (hb hby at_84) (fun _ _ => ⟨rfl, e_254, (by decide : 2 + 0 ≤ _), (by decide : 8 + 0 ≤ _)⟩)
      dsimp only [Pt.U, Pt.locs, Pt.cells, Pt.slots] at X_255 l_255 y_255 z_255 st_255 hQ_255
      replace X_255 := castS l_255 y_255 z_255 X_255
      obtain ⟨rfl, Nq_255, K_255, po_255_0, po_255_1, po_255_2, po_255_3, po_255_4, po_255_5, po_255_6, po_255_7, po_255_8, po_255_9⟩ := hQ_255
      have z_256 : n0 ≤ T_255.heap.size := Nat.le_trans z_232 K_255.1
      have N_255 := Fr.app N_254 Nq_255
      have pre_257 : ∀ t, Steps p.tables e below (T_255.setTop (mkF m 102 #[.val (.long q1), .second, .val (.long q2), .second, .val (.long q3), .second, .val (.int p4), .val (.ref b_170), .val (.ref b_220), .val (.long (0 : Int64)), .second, .val (.long (q1 - q2)), .second, .val (.int (1 : Int32)), .val (.long ((q1 - q2) + q3)), .second, .val (.long (0 : Int64)), .second, .unset, .unset] [(.int (lcmpW q3 (0 : Int64)))])) t → Steps p.tables e below (s₁.setTop (entryFrame m #[(.long q1), (.long q2), (.long q3), (.int p4)] maxLocals)) t := fun t k => pre_233 t (by
          show Steps p.tables e below (T_231.setTop (mkF m 47 #[.val (.long q1), .second, .val (.long q2), .second, .val (.long q3), .second, .val (.int p4), .val (.ref b_170), .val (.ref b_220), .unset, .unset, .unset, .unset, .unset, .unset, .unset, .unset, .unset, .unset, .unset] [(.int (lcmpW q1 (0 : Int64)))])) _
          refine XS.ifYes X_231.here hx rfl (pc0 := 47) (pc' := 54) rfl (hb hby at_47) rfl ((if0 _ _).trans (flt (mt (lw_gt _ _).mp hc47__234)).2.2.2) (by decide) (by decide) ?_
          show Steps p.tables e below (T_231.setTop (mkF m 54 #[.val (.long q1), .second, .val (.long q2), .second, .val (.long q3), .second, .val (.int p4), .val (.ref b_170), .val (.ref b_220), .unset, .unset, .unset, .unset, .unset, .unset, .unset, .unset, .unset, .unset, .unset] [])) _
          refine XS.lconst X_231.here hx rfl (hb hby at_54) ?_
          show Steps p.tables e below (T_231.setTop (mkF m 55 #[.val (.long q1), .second, .val (.long q2), .second, .val (.long q3), .second, .val (.int p4), .val (.ref b_170), .val (.ref b_220), .unset, .unset, .unset, .unset, .unset, .unset, .unset, .unset, .unset, .unset, .unset] [(.long (0 : Int64))])) _
          refine XS.lstore X_231.here hx rfl (hb hby at_55) rfl (l' := #[.val (.long q1), .second, .val (.long q2), .second, .val (.long q3), .second, .val (.int p4), .val (.ref b_170), .val (.ref b_220), .val (.long (0 : Int64)), .second, .unset, .unset, .unset, .unset, .unset, .unset, .unset, .unset, .unset]) rfl ?_
          show Steps p.tables e below (T_231.setTop (mkF m 57 #[.val (.long q1), .second, .val (.long q2), .second, .val (.long q3), .second, .val (.int p4), .val (.ref b_170), .val (.ref b_220), .val (.long (0 : Int64)), .second, .unset, .unset, .unset, .unset, .unset, .unset, .unset, .unset, .unset] [])) _
          refine XS.lloadN X_231.here hx rfl (hb hby at_57) rfl ?_
          show Steps p.tables e below (T_231.setTop (mkF m 58 #[.val (.long q1), .second, .val (.long q2), .second, .val (.long q3), .second, .val (.int p4), .val (.ref b_170), .val (.ref b_220), .val (.long (0 : Int64)), .second, .unset, .unset, .unset, .unset, .unset, .unset, .unset, .unset, .unset] [(.long q1)])) _
          refine XS.lloadN X_231.here hx rfl (hb hby at_58) rfl ?_
          show Steps p.tables e below (T_231.setTop (mkF m 59 #[.val (.long q1), .second, .val (.long q2), .second, .val (.long q3), .second, .val (.int p4), .val (.ref b_170), .val (.ref b_220), .val (.long (0 : Int64)), .second, .unset, .unset, .unset, .unset, .unset, .unset, .unset, .unset, .unset] [(.long q2), (.long q1)])) _
          refine XS.lsub X_231.here hx rfl (hb hby at_59) rfl ?_
          show Steps p.tables e below (T_231.setTop (mkF m 60 #[.val (.long q1), .second, .val (.long q2), .second, .val (.long q3), .second, .val (.int p4), .val (.ref b_170), .val (.ref b_220), .val (.long (0 : Int64)), .second, .unset, .unset, .unset, .unset, .unset, .unset, .unset, .unset, .unset] [(.long (q1 - q2))])) _
          refine XS.lstore X_231.here hx rfl (hb hby at_60) rfl (l' := #[.val (.long q1), .second, .val (.long q2), .second, .val (.long q3), .second, .val (.int p4), .val (.ref b_170), .val (.ref b_220), .val (.long (0 : Int64)), .second, .val (.long (q1 - q2)), .second, .unset, .unset, .unset, .unset, .unset, .unset, .unset]) rfl ?_
          show Steps p.tables e below (T_231.setTop (mkF m 62 #[.val (.long q1), .second, .val (.long q2), .second, .val (.long q3), .second, .val (.int p4), .val (.ref b_170), .val (.ref b_220), .val (.long (0 : Int64)), .second, .val (.long (q1 - q2)), .second, .unset, .unset, .unset, .unset, .unset, .unset, .unset] [])) _
          refine XS.aload X_231.here hx rfl (hb hby at_62) rfl rfl ?_
          show Steps p.tables e below (T_231.setTop (mkF m 64 #[.val (.long q1), .second, .val (.long q2), .second, .val (.long q3), .second, .val (.int p4), .val (.ref b_170), .val (.ref b_220), .val (.long (0 : Int64)), .second, .val (.long (q1 - q2)), .second, .unset, .unset, .unset, .unset, .unset, .unset, .unset] [(.ref b_220)])) _
          refine st_254.trans ?_
          show Steps p.tables e below (T_254.setTop (mkF m 67 #[.val (.long q1), .second, .val (.long q2), .second, .val (.long q3), .second, .val (.int p4), .val (.ref b_170), .val (.ref b_220), .val (.long (0 : Int64)), .second, .val (.long (q1 - q2)), .second, .unset, .unset, .unset, .unset, .unset, .unset, .unset] [(.long ((own_ar q1 (0 : Int64)) - q2))])) _
          refine XS.lload X_254.here hx rfl (hb hby at_67) rfl ?_
          show Steps p.tables e below (T_254.setTop (mkF m 69 #[.val (.long q1), .second, .val (.long q2), .second, .val (.long q3), .second, .val (.int p4), .val (.ref b_170), .val (.ref b_220), .val (.long (0 : Int64)), .second, .val (.long (q1 - q2)), .second, .unset, .unset, .unset, .unset, .unset, .unset, .unset] [(.long (q1 - q2)), (.long ((own_ar q1 (0 : Int64)) - q2))])) _
          refine XS.lcmp X_254.here hx rfl (hb hby at_69) rfl ?_
          show Steps p.tables e below (T_254.setTop (mkF m 70 #[.val (.long q1), .second, .val (.long q2), .second, .val (.long q3), .second, .val (.int p4), .val (.ref b_170), .val (.ref b_220), .val (.long (0 : Int64)), .second, .val (.long (q1 - q2)), .second, .unset, .unset, .unset, .unset, .unset, .unset, .unset] [(.int (lcmpW ((own_ar q1 (0 : Int64)) - q2) (q1 - q2)))])) _
          refine XS.ifNo X_254.here hx rfl (hb hby at_70) rfl ((if0 _ _).trans (teq ((lw_eq _ _).mpr (by rw [own_ar_eq, Int64.zero_add] : ((own_ar q1 (0 : Int64)) - q2) = (q1 - q2)))).2) ?_
          show Steps p.tables e below (T_254.setTop (mkF m 73 #[.val (.long q1), .second, .val (.long q2), .second, .val (.long q3), .second, .val (.int p4), .val (.ref b_170), .val (.ref b_220), .val (.long (0 : Int64)), .second, .val (.long (q1 - q2)), .second, .unset, .unset, .unset, .unset, .unset, .unset, .unset] [])) _
          refine XS.iconst X_254.here hx rfl (hb hby at_73) ?_
          show Steps p.tables e below (T_254.setTop (mkF m 74 #[.val (.long q1), .second, .val (.long q2), .second, .val (.long q3), .second, .val (.int p4), .val (.ref b_170), .val (.ref b_220), .val (.long (0 : Int64)), .second, .val (.long (q1 - q2)), .second, .unset, .unset, .unset, .unset, .unset, .unset, .unset] [(.int (1 : Int32))])) _
          refine XS.goto X_254.here hx rfl (pc0 := 74) (pc' := 78) rfl (hb hby at_74) (by decide) (by decide) ?_
          show Steps p.tables e below (T_254.setTop (mkF m 78 #[.val (.long q1), .second, .val (.long q2), .second, .val (.long q3), .second, .val (.int p4), .val (.ref b_170), .val (.ref b_220), .val (.long (0 : Int64)), .second, .val (.long (q1 - q2)), .second, .unset, .unset, .unset, .unset, .unset, .unset, .unset] [(.int (1 : Int32))])) _
          refine XS.istore X_254.here hx rfl (hb hby at_78) rfl (l' := #[.val (.long q1), .second, .val (.long q2), .second, .val (.long q3), .second, .val (.int p4), .val (.ref b_170), .val (.ref b_220), .val (.long (0 : Int64)), .second, .val (.long (q1 - q2)), .second, .val (.int (1 : Int32)), .unset, .unset, .unset, .unset, .unset, .unset]) rfl ?_
          show Steps p.tables e below (T_254.setTop (mkF m 80 #[.val (.long q1), .second, .val (.long q2), .second, .val (.long q3), .second, .val (.int p4), .val (.ref b_170), .val (.ref b_220), .val (.long (0 : Int64)), .second, .val (.long (q1 - q2)), .second, .val (.int (1 : Int32)), .unset, .unset, .unset, .unset, .unset, .unset] [])) _
          refine XS.aload X_254.here hx rfl (hb hby at_80) rfl rfl ?_
          show Steps p.tables e below (T_254.setTop (mkF m 82 #[.val (.long q1), .second, .val (.long q2), .second, .val (.long q3), .second, .val (.int p4), .val (.ref b_170), .val (.ref b_220), .val (.long (0 : Int64)), .second, .val (.long (q1 - q2)), .second, .val (.int (1 : Int32)), .unset, .unset, .unset, .unset, .unset, .unset] [(.ref b_220)])) _
          refine XS.lload X_254.here hx rfl (hb hby at_82) rfl ?_
          show Steps p.tables e below (T_254.setTop (mkF m 84 #[.val (.long q1), .second, .val (.long q2), .second, .val (.long q3), .second, .val (.int p4), .val (.ref b_170), .val (.ref b_220), .val (.long (0 : Int64)), .second, .val (.long (q1 - q2)), .second, .val (.int (1 : Int32)), .unset, .unset, .unset, .unset, .unset, .unset] [(.long q3), (.ref b_220)])) _
          refine st_255.trans ?_
          show Steps p.tables e below (T_255.setTop (mkF m 87 #[.val (.long q1), .second, .val (.long q2), .second, .val (.long q3), .second, .val (.int p4), .val (.ref b_170), .val (.ref b_220), .val (.long (0 : Int64)), .second, .val (.long (q1 - q2)), .second, .val (.int (1 : Int32)), .unset, .unset, .unset, .unset, .unset, .unset] [])) _
          refine XS.lload X_255.here hx rfl (hb hby at_87) rfl ?_
          show Steps p.tables e below (T_255.setTop (mkF m 89 #[.val (.long q1), .second, .val (.long q2), .second, .val (.long q3), .second, .val (.int p4), .val (.ref b_170), .val (.ref b_220), .val (.long (0 : Int64)), .second, .val (.long (q1 - q2)), .second, .val (.int (1 : Int32)), .unset, .unset, .unset, .unset, .unset, .unset] [(.long (q1 - q2))])) _
          refine XS.lload X_255.here hx rfl (hb hby at_89) rfl ?_
          show Steps p.tables e below (T_255.setTop (mkF m 91 #[.val (.long q1), .second, .val (.long q2), .second, .val (.long q3), .second, .val (.int p4), .val (.ref b_170), .val (.ref b_220), .val (.long (0 : Int64)), .second, .val (.long (q1 - q2)), .second, .val (.int (1 : Int32)), .unset, .unset, .unset, .unset, .unset, .unset] [(.long q3), (.long (q1 - q2))])) _
          refine XS.ladd X_255.here hx rfl (hb hby at_91) rfl ?_
          show Steps p.tables e below (T_255.setTop (mkF m 92 #[.val (.long q1), .second, .val (.long q2), .second, .val (.long q3), .second, .val (.int p4), .val (.ref b_170), .val (.ref b_220), .val (.long (0 : Int64)), .second, .val (.long (q1 - q2)), .second, .val (.int (1 : Int32)), .unset, .unset, .unset, .unset, .unset, .unset] [(.long ((q1 - q2) + q3))])) _
          refine XS.lstore X_255.here hx rfl (hb hby at_92) rfl (l' := #[.val (.long q1), .second, .val (.long q2), .second, .val (.long q3), .second, .val (.int p4), .val (.ref b_170), .val (.ref b_220), .val (.long (0 : Int64)), .second, .val (.long (q1 - q2)), .second, .val (.int (1 : Int32)), .val (.long ((q1 - q2) + q3)), .second, .unset, .unset, .unset, .unset]) rfl ?_
          show Steps p.tables e below (T_255.setTop (mkF m 94 #[.val (.long q1), .second, .val (.long q2), .second, .val (.long q3), .second, .val (.int p4), .val (.ref b_170), .val (.ref b_220), .val (.long (0 : Int64)), .second, .val (.long (q1 - q2)), .second, .val (.int (1 : Int32)), .val (.long ((q1 - q2) + q3)), .second, .unset, .unset, .unset, .unset] [])) _
          refine XS.lload X_255.here hx rfl (hb hby at_94) rfl ?_
          show Steps p.tables e below (T_255.setTop (mkF m 96 #[.val (.long q1), .second, .val (.long q2), .second, .val (.long q3), .second, .val (.int p4), .val (.ref b_170), .val (.ref b_220), .val (.long (0 : Int64)), .second, .val (.long (q1 - q2)), .second, .val (.int (1 : Int32)), .val (.long ((q1 - q2) + q3)), .second, .unset, .unset, .unset, .unset] [(.long (0 : Int64))])) _
          refine XS.lstore X_255.here hx rfl (hb hby at_96) rfl (l' := #[.val (.long q1), .second, .val (.long q2), .second, .val (.long q3), .second, .val (.int p4), .val (.ref b_170), .val (.ref b_220), .val (.long (0 : Int64)), .second, .val (.long (q1 - q2)), .second, .val (.int (1 : Int32)), .val (.long ((q1 - q2) + q3)), .second, .val (.long (0 : Int64)), .second, .unset, .unset]) rfl ?_
          show Steps p.tables e below (T_255.setTop (mkF m 98 #[.val (.long q1), .second, .val (.long q2), .second, .val (.long q3), .second, .val (.int p4), .val (.ref b_170), .val (.ref b_220), .val (.long (0 : Int64)), .second, .val (.long (q1 - q2)), .second, .val (.int (1 : Int32)), .val (.long ((q1 - q2) + q3)), .second, .val (.long (0 : Int64)), .second, .unset, .unset] [])) _
          refine XS.lload X_255.here hx rfl (hb hby at_98) rfl ?_
          show Steps p.tables e below (T_255.setTop (mkF m 100 #[.val (.long q1), .second, .val (.long q2), .second, .val (.long q3), .second, .val (.int p4), .val (.ref b_170), .val (.ref b_220), .val (.long (0 : Int64)), .second, .val (.long (q1 - q2)), .second, .val (.int (1 : Int32)), .val (.long ((q1 - q2) + q3)), .second, .val (.long (0 : Int64)), .second, .unset, .unset] [(.long q3)])) _
          refine XS.lconst X_255.here hx rfl (hb hby at_100) ?_
          show Steps p.tables e below (T_255.setTop (mkF m 101 #[.val (.long q1), .second, .val (.long q2), .second, .val (.long q3), .second, .val (.int p4), .val (.ref b_170), .val (.ref b_220), .val (.long (0 : Int64)), .second, .val (.long (q1 - q2)), .second, .val (.int (1 : Int32)), .val (.long ((q1 - q2) + q3)), .second, .val (.long (0 : Int64)), .second, .unset, .unset] [(.long (0 : Int64)), (.long q3)])) _
          refine XS.lcmp X_255.here hx rfl (hb hby at_101) rfl ?_
          exact k)
      by_cases hc102__258 : q3 = (0 : Int64)
      · obtain ⟨cq_259, kq_259, qa_259, qb_259, qc_259⟩ := isOf hZ rfl po_255_0
        obtain ⟨_, _, ⟨T_259, L_259, k_259, n_259⟩, -, X_259, ⟨Lc_259, hQ_259, l_259, y_259, z_259⟩, st_259⟩ := X_255.virtualBack hx (y := (⟨"org/millrace/engine/Footprint", "rows", "()J"⟩ : MethodName)) (z := (⟨"org/millrace/engine/Footprint", "rows", "()J"⟩ : MethodName)) hown (mvT hZ (hw _ (List.mem_of_getElem? (i := 30) rfl))) (mvT hZ (hw _ (List.mem_of_getElem? (i := 31) rfl))) (notFace_of_selects (args := #[]) (mvT hZ (hw _ (List.mem_of_getElem? (i := 33) rfl)))) (mvT hZ (hw _ (List.mem_of_getElem? (i := 33) rfl))) (mvT hZ (hw _ (List.mem_of_getElem? (i := 32) rfl))) (by decide) (backOf (W := 0) (rm6 l Z a0 hw [] b_220 (own_ar q3 ((own_ar q1 (0 : Int64)) - q2)) T_255.heap n0 z_256 po_255_0 po_255_1) hZ (hw _ (List.mem_of_getElem? (i := 34) rfl)) (hw _ (List.mem_of_getElem? (i := 2) rfl)) (by decide) (by decide)) qa_259 qc_259 (g := (mkF m 130 #[.val (.long q1), .second, .val (.long q2), .second, .val (.long q3), .second, .val (.int p4), .val (.ref b_170), .val (.ref b_220), .val (.long (0 : Int64)), .second, .val (.long (q1 - q2)), .second, .val (.int (1 : Int32)), .val (.long ((q1 - q2) + q3)), .second, .val (.long (0 : Int64)), .second, .unset, .unset] [(.ref b_220)])) rfl (by rw [hml]; rfl) (Steps.refl _) (argsL := []) (rest := []) (lenOf pd_3 rfl) rfl (by show 2 * 0 + _ ≤ _; exact Nat.le_of_eq rfl) (hb hby at_130) (fun _ _ => ⟨rfl, rfl, (by decide : 2 + 0 ≤ _), (by decide : 8 + 0 ≤ _)⟩)
        dsimp only [Pt.U, Pt.locs, Pt.cells, Pt.slots] at X_259 l_259 y_259 z_259 st_259 hQ_259
        replace X_259 := castS l_259 y_259 z_259 X_259
        obtain ⟨rfl, Nq_259, e_259⟩ := hQ_259
        have N_259 := Fr.app N_255 Nq_259
        obtain ⟨cq_260, kq_260, qa_260, qb_260, qc_260⟩ := isOf hZ e_259 po_255_0
        obtain ⟨_, _, ⟨T_260, L_260, k_260, n_260⟩, -, X_260, ⟨Lc_260, hQ_260, l_260, y_260, z_260⟩, st_260⟩ := X_259.virtualBack hx (y := (⟨"org/millrace/engine/Footprint", "peak", "()J"⟩ : MethodName)) (z := (⟨"org/millrace/engine/Footprint", "peak", "()J"⟩ : MethodName)) hown (mvT hZ (hw _ (List.mem_of_getElem? (i := 35) rfl))) (mvT hZ (hw _ (List.mem_of_getElem? (i := 36) rfl))) (notFace_of_selects (args := #[]) (mvT hZ (hw _ (List.mem_of_getElem? (i := 38) rfl)))) (mvT hZ (hw _ (List.mem_of_getElem? (i := 38) rfl))) (mvT hZ (hw _ (List.mem_of_getElem? (i := 37) rfl))) (by decide) (backOf (W := 0) (rm7 l Z a0 hw [] b_220 (own_ap q3 ((own_ar q1 (0 : Int64)) - q2) (own_ap q1 (0 : Int64) (0 : Int64) (0 : Int64)) ((0 : Int64) + q2)) T_255.heap n0 z_256 po_255_0 po_255_2) hZ (hw _ (List.mem_of_getElem? (i := 39) rfl)) (hw _ (List.mem_of_getElem? (i := 2) rfl)) (by decide) (by decide)) qa_260 qc_260 (g := (mkF m 141 #[.val (.long q1), .second, .val (.long q2), .second, .val (.long q3), .second, .val (.int p4), .val (.ref b_170), .val (.ref b_220), .val (.long (0 : Int64)), .second, .val (.long (q1 - q2)), .second, .val (.int (1 : Int32)), .val (.long ((q1 - q2) + q3)), .second, .val (.long (0 : Int64)), .second, .unset, .unset] [(.ref b_220)])) rfl (by rw [hml]; rfl) (Steps.refl _) (argsL := []) (rest := []) (lenOf pd_3 rfl) rfl (by show 2 * 0 + _ ≤ _; exact Nat.le_of_eq rfl) (hb hby at_141) (fun _ _ => ⟨rfl, e_259, (by decide : 2 + 0 ≤ _), (by decide : 8 + 0 ≤ _)⟩)
        dsimp only [Pt.U, Pt.locs, Pt.cells, Pt.slots] at X_260 l_260 y_260 z_260 st_260 hQ_260
        replace X_260 := castS l_260 y_260 z_260 X_260
        obtain ⟨rfl, Nq_260, e_260⟩ := hQ_260
        have N_260 := Fr.app N_259 Nq_260
        obtain ⟨cq_261, kq_261, qa_261, qb_261, qc_261⟩ := isOf hZ e_260 po_255_5
        obtain ⟨_, _, ⟨T_261, L_261, k_261, n_261⟩, -, X_261, ⟨Lc_261, hQ_261, l_261, y_261, z_261⟩, st_261⟩ := X_260.virtualBack hx (y := (⟨"org/millrace/engine/Footprint", "rows", "()J"⟩ : MethodName)) (z := (⟨"org/millrace/engine/Footprint", "rows", "()J"⟩ : MethodName)) hown (mvT hZ (hw _ (List.mem_of_getElem? (i := 30) rfl))) (mvT hZ (hw _ (List.mem_of_getElem? (i := 31) rfl))) (notFace_of_selects (args := #[]) (mvT hZ (hw _ (List.mem_of_getElem? (i := 33) rfl)))) (mvT hZ (hw _ (List.mem_of_getElem? (i := 33) rfl))) (mvT hZ (hw _ (List.mem_of_getElem? (i := 32) rfl))) (by decide) (backOf (W := 0) (rm6 l Z a0 hw [] b_170 (own_ar q3 ((own_ar q1 (0 : Int64)) - q2)) T_255.heap n0 z_256 po_255_5 po_255_6) hZ (hw _ (List.mem_of_getElem? (i := 34) rfl)) (hw _ (List.mem_of_getElem? (i := 2) rfl)) (by decide) (by decide)) qa_261 qc_261 (g := (mkF m 152 #[.val (.long q1), .second, .val (.long q2), .second, .val (.long q3), .second, .val (.int p4), .val (.ref b_170), .val (.ref b_220), .val (.long (0 : Int64)), .second, .val (.long (q1 - q2)), .second, .val (.int (1 : Int32)), .val (.long ((q1 - q2) + q3)), .second, .val (.long (0 : Int64)), .second, .unset, .unset] [(.ref b_170)])) rfl (by rw [hml]; rfl) (Steps.refl _) (argsL := []) (rest := []) (lenOf pd_3 rfl) rfl (by show 2 * 0 + _ ≤ _; exact Nat.le_of_eq rfl) (hb hby at_152) (fun _ _ => ⟨rfl, e_260, (by decide : 2 + 0 ≤ _), (by decide : 8 + 0 ≤ _)⟩)
        dsimp only [Pt.U, Pt.locs, Pt.cells, Pt.slots] at X_261 l_261 y_261 z_261 st_261 hQ_261
        replace X_261 := castS l_261 y_261 z_261 X_261
        obtain ⟨rfl, Nq_261, e_261⟩ := hQ_261
        have N_261 := Fr.app N_260 Nq_261
        obtain ⟨cq_262, kq_262, qa_262, qb_262, qc_262⟩ := isOf hZ e_261 po_255_5
        obtain ⟨_, _, ⟨T_262, L_262, k_262, n_262⟩, -, X_262, ⟨Lc_262, hQ_262, l_262, y_262, z_262⟩, st_262⟩ := X_261.virtualBack hx (y := (⟨"org/millrace/engine/Footprint", "peak", "()J"⟩ : MethodName)) (z := (⟨"org/millrace/engine/Footprint", "peak", "()J"⟩ : MethodName)) hown (mvT hZ (hw _ (List.mem_of_getElem? (i := 35) rfl))) (mvT hZ (hw _ (List.mem_of_getElem? (i := 36) rfl))) (notFace_of_selects (args := #[]) (mvT hZ (hw _ (List.mem_of_getElem? (i := 38) rfl)))) (mvT hZ (hw _ (List.mem_of_getElem? (i := 38) rfl))) (mvT hZ (hw _ (List.mem_of_getElem? (i := 37) rfl))) (by decide) (backOf (W := 0) (rm7 l Z a0 hw [] b_170 (own_ap q3 ((own_ar q1 (0 : Int64)) - q2) (own_ap q1 (0 : Int64) (0 : Int64) (0 : Int64)) ((0 : Int64) + q2)) T_255.heap n0 z_256 po_255_5 po_255_7) hZ (hw _ (List.mem_of_getElem? (i := 39) rfl)) (hw _ (List.mem_of_getElem? (i := 2) rfl)) (by decide) (by decide)) qa_262 qc_262 (g := (mkF m 163 #[.val (.long q1), .second, .val (.long q2), .second, .val (.long q3), .second, .val (.int p4), .val (.ref b_170), .val (.ref b_220), .val (.long (0 : Int64)), .second, .val (.long (q1 - q2)), .second, .val (.int (1 : Int32)), .val (.long ((q1 - q2) + q3)), .second, .val (.long (0 : Int64)), .second, .unset, .unset] [(.ref b_170)])) rfl (by rw [hml]; rfl) (Steps.refl _) (argsL := []) (rest := []) (lenOf pd_3 rfl) rfl (by show 2 * 0 + _ ≤ _; exact Nat.le_of_eq rfl) (hb hby at_163) (fun _ _ => ⟨rfl, e_261, (by decide : 2 + 0 ≤ _), (by decide : 8 + 0 ≤ _)⟩)
        dsimp only [Pt.U, Pt.locs, Pt.cells, Pt.slots] at X_262 l_262 y_262 z_262 st_262 hQ_262
        replace X_262 := castS l_262 y_262 z_262 X_262
        obtain ⟨rfl, Nq_262, e_262⟩ := hQ_262
        have N_262 := Fr.app N_261 Nq_262
        obtain ⟨fs, hr, hrun, hended, hW, hsame⟩ := X_262.leave (v := some (.int (1 : Int32))) (fun h => by rw [Bd.returns] at h; cases h)
        refine ⟨_, _, pre_257 _ ?_, hrun, hended, _, _, rfl, ?_, ⟨_, rfl⟩, hW, hsame.mono (by decide) (by decide)⟩
        · show Steps p.tables e below (T_255.setTop (mkF m 102 #[.val (.long q1), .second, .val (.long q2), .second, .val (.long q3), .second, .val (.int p4), .val (.ref b_170), .val (.ref b_220), .val (.long (0 : Int64)), .second, .val (.long (q1 - q2)), .second, .val (.int (1 : Int32)), .val (.long ((q1 - q2) + q3)), .second, .val (.long (0 : Int64)), .second, .unset, .unset] [(.int (lcmpW q3 (0 : Int64)))])) _
          refine XS.ifYes X_255.here hx rfl (pc0 := 102) (pc' := 123) rfl (hb hby at_102) rfl ((if0 _ _).trans (teq ((lw_eq _ _).mpr hc102__258)).1) (by decide) (by decide) ?_
          show Steps p.tables e below (T_255.setTop (mkF m 123 #[.val (.long q1), .second, .val (.long q2), .second, .val (.long q3), .second, .val (.int p4), .val (.ref b_170), .val (.ref b_220), .val (.long (0 : Int64)), .second, .val (.long (q1 - q2)), .second, .val (.int (1 : Int32)), .val (.long ((q1 - q2) + q3)), .second, .val (.long (0 : Int64)), .second, .unset, .unset] [])) _
          refine XS.iload X_255.here hx rfl (hb hby at_123) rfl ?_
          show Steps p.tables e below (T_255.setTop (mkF m 125 #[.val (.long q1), .second, .val (.long q2), .second, .val (.long q3), .second, .val (.int p4), .val (.ref b_170), .val (.ref b_220), .val (.long (0 : Int64)), .second, .val (.long (q1 - q2)), .second, .val (.int (1 : Int32)), .val (.long ((q1 - q2) + q3)), .second, .val (.long (0 : Int64)), .second, .unset, .unset] [(.int (1 : Int32))])) _
          refine XS.ifNo X_255.here hx rfl (hb hby at_125) rfl ((if0 _ _).trans (feq (by decide : ¬ ((1 : Int32) = (0 : Int32)))).1) ?_
          show Steps p.tables e below (T_255.setTop (mkF m 128 #[.val (.long q1), .second, .val (.long q2), .second, .val (.long q3), .second, .val (.int p4), .val (.ref b_170), .val (.ref b_220), .val (.long (0 : Int64)), .second, .val (.long (q1 - q2)), .second, .val (.int (1 : Int32)), .val (.long ((q1 - q2) + q3)), .second, .val (.long (0 : Int64)), .second, .unset, .unset] [])) _
          refine XS.aload X_255.here hx rfl (hb hby at_128) rfl rfl ?_
          show Steps p.tables e below (T_255.setTop (mkF m 130 #[.val (.long q1), .second, .val (.long q2), .second, .val (.long q3), .second, .val (.int p4), .val (.ref b_170), .val (.ref b_220), .val (.long (0 : Int64)), .second, .val (.long (q1 - q2)), .second, .val (.int (1 : Int32)), .val (.long ((q1 - q2) + q3)), .second, .val (.long (0 : Int64)), .second, .unset, .unset] [(.ref b_220)])) _
          refine st_259.trans ?_
          show Steps p.tables e below (T_259.setTop (mkF m 133 #[.val (.long q1), .second, .val (.long q2), .second, .val (.long q3), .second, .val (.int p4), .val (.ref b_170), .val (.ref b_220), .val (.long (0 : Int64)), .second, .val (.long (q1 - q2)), .second, .val (.int (1 : Int32)), .val (.long ((q1 - q2) + q3)), .second, .val (.long (0 : Int64)), .second, .unset, .unset] [(.long (own_ar q3 ((own_ar q1 (0 : Int64)) - q2)))])) _
          refine XS.lload X_259.here hx rfl (hb hby at_133) rfl ?_
          show Steps p.tables e below (T_259.setTop (mkF m 135 #[.val (.long q1), .second, .val (.long q2), .second, .val (.long q3), .second, .val (.int p4), .val (.ref b_170), .val (.ref b_220), .val (.long (0 : Int64)), .second, .val (.long (q1 - q2)), .second, .val (.int (1 : Int32)), .val (.long ((q1 - q2) + q3)), .second, .val (.long (0 : Int64)), .second, .unset, .unset] [(.long ((q1 - q2) + q3)), (.long (own_ar q3 ((own_ar q1 (0 : Int64)) - q2)))])) _
          refine XS.lcmp X_259.here hx rfl (hb hby at_135) rfl ?_
          show Steps p.tables e below (T_259.setTop (mkF m 136 #[.val (.long q1), .second, .val (.long q2), .second, .val (.long q3), .second, .val (.int p4), .val (.ref b_170), .val (.ref b_220), .val (.long (0 : Int64)), .second, .val (.long (q1 - q2)), .second, .val (.int (1 : Int32)), .val (.long ((q1 - q2) + q3)), .second, .val (.long (0 : Int64)), .second, .unset, .unset] [(.int (lcmpW (own_ar q3 ((own_ar q1 (0 : Int64)) - q2)) ((q1 - q2) + q3)))])) _
          refine XS.ifNo X_259.here hx rfl (hb hby at_136) rfl ((if0 _ _).trans (teq ((lw_eq _ _).mpr (by rw [own_ar_eq, own_ar_eq, Int64.zero_add] : (own_ar q3 ((own_ar q1 (0 : Int64)) - q2)) = ((q1 - q2) + q3)))).2) ?_
          show Steps p.tables e below (T_259.setTop (mkF m 139 #[.val (.long q1), .second, .val (.long q2), .second, .val (.long q3), .second, .val (.int p4), .val (.ref b_170), .val (.ref b_220), .val (.long (0 : Int64)), .second, .val (.long (q1 - q2)), .second, .val (.int (1 : Int32)), .val (.long ((q1 - q2) + q3)), .second, .val (.long (0 : Int64)), .second, .unset, .unset] [])) _
          refine XS.aload X_259.here hx rfl (hb hby at_139) rfl rfl ?_
          show Steps p.tables e below (T_259.setTop (mkF m 141 #[.val (.long q1), .second, .val (.long q2), .second, .val (.long q3), .second, .val (.int p4), .val (.ref b_170), .val (.ref b_220), .val (.long (0 : Int64)), .second, .val (.long (q1 - q2)), .second, .val (.int (1 : Int32)), .val (.long ((q1 - q2) + q3)), .second, .val (.long (0 : Int64)), .second, .unset, .unset] [(.ref b_220)])) _
          refine st_260.trans ?_
          show Steps p.tables e below (T_260.setTop (mkF m 144 #[.val (.long q1), .second, .val (.long q2), .second, .val (.long q3), .second, .val (.int p4), .val (.ref b_170), .val (.ref b_220), .val (.long (0 : Int64)), .second, .val (.long (q1 - q2)), .second, .val (.int (1 : Int32)), .val (.long ((q1 - q2) + q3)), .second, .val (.long (0 : Int64)), .second, .unset, .unset] [(.long (own_ap q3 ((own_ar q1 (0 : Int64)) - q2) (own_ap q1 (0 : Int64) (0 : Int64) (0 : Int64)) ((0 : Int64) + q2)))])) _
          refine XS.lload X_260.here hx rfl (hb hby at_144) rfl ?_
          show Steps p.tables e below (T_260.setTop (mkF m 146 #[.val (.long q1), .second, .val (.long q2), .second, .val (.long q3), .second, .val (.int p4), .val (.ref b_170), .val (.ref b_220), .val (.long (0 : Int64)), .second, .val (.long (q1 - q2)), .second, .val (.int (1 : Int32)), .val (.long ((q1 - q2) + q3)), .second, .val (.long (0 : Int64)), .second, .unset, .unset] [(.long (0 : Int64)), (.long (own_ap q3 ((own_ar q1 (0 : Int64)) - q2) (own_ap q1 (0 : Int64) (0 : Int64) (0 : Int64)) ((0 : Int64) + q2)))])) _
          refine XS.lcmp X_260.here hx rfl (hb hby at_146) rfl ?_
          show Steps p.tables e below (T_260.setTop (mkF m 147 #[.val (.long q1), .second, .val (.long q2), .second, .val (.long q3), .second, .val (.int p4), .val (.ref b_170), .val (.ref b_220), .val (.long (0 : Int64)), .second, .val (.long (q1 - q2)), .second, .val (.int (1 : Int32)), .val (.long ((q1 - q2) + q3)), .second, .val (.long (0 : Int64)), .second, .unset, .unset] [(.int (lcmpW (own_ap q3 ((own_ar q1 (0 : Int64)) - q2) (own_ap q1 (0 : Int64) (0 : Int64) (0 : Int64)) ((0 : Int64) + q2)) (0 : Int64)))])) _
          refine XS.ifNo X_260.here hx rfl (hb hby at_147) rfl ((if0 _ _).trans (teq ((lw_eq _ _).mpr (by rw [own_pk]; simp only [if_neg hc47__234, if_pos hc102__258] : (own_ap q3 ((own_ar q1 (0 : Int64)) - q2) (own_ap q1 (0 : Int64) (0 : Int64) (0 : Int64)) ((0 : Int64) + q2)) = (0 : Int64)))).2) ?_
          show Steps p.tables e below (T_260.setTop (mkF m 150 #[.val (.long q1), .second, .val (.long q2), .second, .val (.long q3), .second, .val (.int p4), .val (.ref b_170), .val (.ref b_220), .val (.long (0 : Int64)), .second, .val (.long (q1 - q2)), .second, .val (.int (1 : Int32)), .val (.long ((q1 - q2) + q3)), .second, .val (.long (0 : Int64)), .second, .unset, .unset] [])) _
          refine XS.aload X_260.here hx rfl (hb hby at_150) rfl rfl ?_
          show Steps p.tables e below (T_260.setTop (mkF m 152 #[.val (.long q1), .second, .val (.long q2), .second, .val (.long q3), .second, .val (.int p4), .val (.ref b_170), .val (.ref b_220), .val (.long (0 : Int64)), .second, .val (.long (q1 - q2)), .second, .val (.int (1 : Int32)), .val (.long ((q1 - q2) + q3)), .second, .val (.long (0 : Int64)), .second, .unset, .unset] [(.ref b_170)])) _
          refine st_261.trans ?_
          show Steps p.tables e below (T_261.setTop (mkF m 155 #[.val (.long q1), .second, .val (.long q2), .second, .val (.long q3), .second, .val (.int p4), .val (.ref b_170), .val (.ref b_220), .val (.long (0 : Int64)), .second, .val (.long (q1 - q2)), .second, .val (.int (1 : Int32)), .val (.long ((q1 - q2) + q3)), .second, .val (.long (0 : Int64)), .second, .unset, .unset] [(.long (own_ar q3 ((own_ar q1 (0 : Int64)) - q2)))])) _
          refine XS.lload X_261.here hx rfl (hb hby at_155) rfl ?_
          show Steps p.tables e below (T_261.setTop (mkF m 157 #[.val (.long q1), .second, .val (.long q2), .second, .val (.long q3), .second, .val (.int p4), .val (.ref b_170), .val (.ref b_220), .val (.long (0 : Int64)), .second, .val (.long (q1 - q2)), .second, .val (.int (1 : Int32)), .val (.long ((q1 - q2) + q3)), .second, .val (.long (0 : Int64)), .second, .unset, .unset] [(.long ((q1 - q2) + q3)), (.long (own_ar q3 ((own_ar q1 (0 : Int64)) - q2)))])) _
          refine XS.lcmp X_261.here hx rfl (hb hby at_157) rfl ?_
          show Steps p.tables e below (T_261.setTop (mkF m 158 #[.val (.long q1), .second, .val (.long q2), .second, .val (.long q3), .second, .val (.int p4), .val (.ref b_170), .val (.ref b_220), .val (.long (0 : Int64)), .second, .val (.long (q1 - q2)), .second, .val (.int (1 : Int32)), .val (.long ((q1 - q2) + q3)), .second, .val (.long (0 : Int64)), .second, .unset, .unset] [(.int (lcmpW (own_ar q3 ((own_ar q1 (0 : Int64)) - q2)) ((q1 - q2) + q3)))])) _
          refine XS.ifNo X_261.here hx rfl (hb hby at_158) rfl ((if0 _ _).trans (teq ((lw_eq _ _).mpr (by rw [own_ar_eq, own_ar_eq, Int64.zero_add] : (own_ar q3 ((own_ar q1 (0 : Int64)) - q2)) = ((q1 - q2) + q3)))).2) ?_
          show Steps p.tables e below (T_261.setTop (mkF m 161 #[.val (.long q1), .second, .val (.long q2), .second, .val (.long q3), .second, .val (.int p4), .val (.ref b_170), .val (.ref b_220), .val (.long (0 : Int64)), .second, .val (.long (q1 - q2)), .second, .val (.int (1 : Int32)), .val (.long ((q1 - q2) + q3)), .second, .val (.long (0 : Int64)), .second, .unset, .unset] [])) _
          refine XS.aload X_261.here hx rfl (hb hby at_161) rfl rfl ?_
          show Steps p.tables e below (T_261.setTop (mkF m 163 #[.val (.long q1), .second, .val (.long q2), .second, .val (.long q3), .second, .val (.int p4), .val (.ref b_170), .val (.ref b_220), .val (.long (0 : Int64)), .second, .val (.long (q1 - q2)), .second, .val (.int (1 : Int32)), .val (.long ((q1 - q2) + q3)), .second, .val (.long (0 : Int64)), .second, .unset, .unset] [(.ref b_170)])) _
          refine st_262.trans ?_
          show Steps p.tables e below (T_262.setTop (mkF m 166 #[.val (.long q1), .second, .val (.long q2), .second, .val (.long q3), .second, .val (.int p4), .val (.ref b_170), .val (.ref b_220), .val (.long (0 : Int64)), .second, .val (.long (q1 - q2)), .second, .val (.int (1 : Int32)), .val (.long ((q1 - q2) + q3)), .second, .val (.long (0 : Int64)), .second, .unset, .unset] [(.long (own_ap q3 ((own_ar q1 (0 : Int64)) - q2) (own_ap q1 (0 : Int64) (0 : Int64) (0 : Int64)) ((0 : Int64) + q2)))])) _
          refine XS.lload X_262.here hx rfl (hb hby at_166) rfl ?_
          show Steps p.tables e below (T_262.setTop (mkF m 168 #[.val (.long q1), .second, .val (.long q2), .second, .val (.long q3), .second, .val (.int p4), .val (.ref b_170), .val (.ref b_220), .val (.long (0 : Int64)), .second, .val (.long (q1 - q2)), .second, .val (.int (1 : Int32)), .val (.long ((q1 - q2) + q3)), .second, .val (.long (0 : Int64)), .second, .unset, .unset] [(.long (0 : Int64)), (.long (own_ap q3 ((own_ar q1 (0 : Int64)) - q2) (own_ap q1 (0 : Int64) (0 : Int64) (0 : Int64)) ((0 : Int64) + q2)))])) _
          refine XS.lcmp X_262.here hx rfl (hb hby at_168) rfl ?_
          show Steps p.tables e below (T_262.setTop (mkF m 169 #[.val (.long q1), .second, .val (.long q2), .second, .val (.long q3), .second, .val (.int p4), .val (.ref b_170), .val (.ref b_220), .val (.long (0 : Int64)), .second, .val (.long (q1 - q2)), .second, .val (.int (1 : Int32)), .val (.long ((q1 - q2) + q3)), .second, .val (.long (0 : Int64)), .second, .unset, .unset] [(.int (lcmpW (own_ap q3 ((own_ar q1 (0 : Int64)) - q2) (own_ap q1 (0 : Int64) (0 : Int64) (0 : Int64)) ((0 : Int64) + q2)) (0 : Int64)))])) _
          refine XS.ifNo X_262.here hx rfl (hb hby at_169) rfl ((if0 _ _).trans (teq ((lw_eq _ _).mpr (by rw [own_pk]; simp only [if_neg hc47__234, if_pos hc102__258] : (own_ap q3 ((own_ar q1 (0 : Int64)) - q2) (own_ap q1 (0 : Int64) (0 : Int64) (0 : Int64)) ((0 : Int64) + q2)) = (0 : Int64)))).2) ?_
          show Steps p.tables e below (T_262.setTop (mkF m 172 #[.val (.long q1), .second, .val (.long q2), .second, .val (.long q3), .second, .val (.int p4), .val (.ref b_170), .val (.ref b_220), .val (.long (0 : Int64)), .second, .val (.long (q1 - q2)), .second, .val (.int (1 : Int32)), .val (.long ((q1 - q2) + q3)), .second, .val (.long (0 : Int64)), .second, .unset, .unset] [])) _
          refine XS.iconst X_262.here hx rfl (hb hby at_172) ?_
          show Steps p.tables e below (T_262.setTop (mkF m 173 #[.val (.long q1), .second, .val (.long q2), .second, .val (.long q3), .second, .val (.int p4), .val (.ref b_170), .val (.ref b_220), .val (.long (0 : Int64)), .second, .val (.long (q1 - q2)), .second, .val (.int (1 : Int32)), .val (.long ((q1 - q2) + q3)), .second, .val (.long (0 : Int64)), .second, .unset, .unset] [(.int (1 : Int32))])) _
          refine XS.goto X_262.here hx rfl (pc0 := 173) (pc' := 177) rfl (hb hby at_173) (by decide) (by decide) ?_
          show Steps p.tables e below (T_262.setTop (mkF m 177 #[.val (.long q1), .second, .val (.long q2), .second, .val (.long q3), .second, .val (.int p4), .val (.ref b_170), .val (.ref b_220), .val (.long (0 : Int64)), .second, .val (.long (q1 - q2)), .second, .val (.int (1 : Int32)), .val (.long ((q1 - q2) + q3)), .second, .val (.long (0 : Int64)), .second, .unset, .unset] [(.int (1 : Int32))])) _
          refine XS.istore X_262.here hx rfl (hb hby at_177) rfl (l' := #[.val (.long q1), .second, .val (.long q2), .second, .val (.long q3), .second, .val (.int p4), .val (.ref b_170), .val (.ref b_220), .val (.long (0 : Int64)), .second, .val (.long (q1 - q2)), .second, .val (.int (1 : Int32)), .val (.long ((q1 - q2) + q3)), .second, .val (.long (0 : Int64)), .second, .unset, .unset]) rfl ?_
          show Steps p.tables e below (T_262.setTop (mkF m 179 #[.val (.long q1), .second, .val (.long q2), .second, .val (.long q3), .second, .val (.int p4), .val (.ref b_170), .val (.ref b_220), .val (.long (0 : Int64)), .second, .val (.long (q1 - q2)), .second, .val (.int (1 : Int32)), .val (.long ((q1 - q2) + q3)), .second, .val (.long (0 : Int64)), .second, .unset, .unset] [])) _
          refine XS.iload X_262.here hx rfl (hb hby at_179) rfl ?_
          show Steps p.tables e below (T_262.setTop (mkF m 181 #[.val (.long q1), .second, .val (.long q2), .second, .val (.long q3), .second, .val (.int p4), .val (.ref b_170), .val (.ref b_220), .val (.long (0 : Int64)), .second, .val (.long (q1 - q2)), .second, .val (.int (1 : Int32)), .val (.long ((q1 - q2) + q3)), .second, .val (.long (0 : Int64)), .second, .unset, .unset] [(.int (1 : Int32))])) _
          exact retN X_262 hx (t := .boolean) Bd.returns (by simp) (hb hby at_181) hr
        · show Q0 Z q1 q2 q3 p4 h0 n0 _ T_262.heap _
          rw [e_262]
          exact ⟨rfl, N_262⟩
      · have pre_263 : ∀ t, Steps p.tables e below (T_255.setTop (mkF m 116 #[.val (.long q1), .second, .val (.long q2), .second, .val (.long q3), .second, .val (.int p4), .val (.ref b_170), .val (.ref b_220), .val (.long (0 : Int64)), .second, .val (.long (q1 - q2)), .second, .val (.int (1 : Int32)), .val (.long ((q1 - q2) + q3)), .second, .val (.long (0 : Int64)), .second, .val (.long (q1 + q3)), .second] [(.int (lcmpW (q1 + q3) (0 : Int64)))])) t → Steps p.tables e below (s₁.setTop (entryFrame m #[(.long q1), (.long q2), (.long q3), (.int p4)] maxLocals)) t := fun t k => pre_257 t (by
            show Steps p.tables e below (T_255.setTop (mkF m 102 #[.val (.long q1), .second, .val (.long q2), .second, .val (.long q3), .second, .val (.int p4), .val (.ref b_170), .val (.ref b_220), .val (.long (0 : Int64)), .second, .val (.long (q1 - q2)), .second, .val (.int (1 : Int32)), .val (.long ((q1 - q2) + q3)), .second, .val (.long (0 : Int64)), .second, .unset, .unset] [(.int (lcmpW q3 (0 : Int64)))])) _
            refine XS.ifNo X_255.here hx rfl (hb hby at_102) rfl ((if0 _ _).trans (feq (mt (lw_eq _ _).mp hc102__258)).1) ?_
            show Steps p.tables e below (T_255.setTop (mkF m 105 #[.val (.long q1), .second, .val (.long q2), .second, .val (.long q3), .second, .val (.int p4), .val (.ref b_170), .val (.ref b_220), .val (.long (0 : Int64)), .second, .val (.long (q1 - q2)), .second, .val (.int (1 : Int32)), .val (.long ((q1 - q2) + q3)), .second, .val (.long (0 : Int64)), .second, .unset, .unset] [])) _
            refine XS.lloadN X_255.here hx rfl (hb hby at_105) rfl ?_
            show Steps p.tables e below (T_255.setTop (mkF m 106 #[.val (.long q1), .second, .val (.long q2), .second, .val (.long q3), .second, .val (.int p4), .val (.ref b_170), .val (.ref b_220), .val (.long (0 : Int64)), .second, .val (.long (q1 - q2)), .second, .val (.int (1 : Int32)), .val (.long ((q1 - q2) + q3)), .second, .val (.long (0 : Int64)), .second, .unset, .unset] [(.long q1)])) _
            refine XS.lload X_255.here hx rfl (hb hby at_106) rfl ?_
            show Steps p.tables e below (T_255.setTop (mkF m 108 #[.val (.long q1), .second, .val (.long q2), .second, .val (.long q3), .second, .val (.int p4), .val (.ref b_170), .val (.ref b_220), .val (.long (0 : Int64)), .second, .val (.long (q1 - q2)), .second, .val (.int (1 : Int32)), .val (.long ((q1 - q2) + q3)), .second, .val (.long (0 : Int64)), .second, .unset, .unset] [(.long q3), (.long q1)])) _
            refine XS.ladd X_255.here hx rfl (hb hby at_108) rfl ?_
            show Steps p.tables e below (T_255.setTop (mkF m 109 #[.val (.long q1), .second, .val (.long q2), .second, .val (.long q3), .second, .val (.int p4), .val (.ref b_170), .val (.ref b_220), .val (.long (0 : Int64)), .second, .val (.long (q1 - q2)), .second, .val (.int (1 : Int32)), .val (.long ((q1 - q2) + q3)), .second, .val (.long (0 : Int64)), .second, .unset, .unset] [(.long (q1 + q3))])) _
            refine XS.lstore X_255.here hx rfl (hb hby at_109) rfl (l' := #[.val (.long q1), .second, .val (.long q2), .second, .val (.long q3), .second, .val (.int p4), .val (.ref b_170), .val (.ref b_220), .val (.long (0 : Int64)), .second, .val (.long (q1 - q2)), .second, .val (.int (1 : Int32)), .val (.long ((q1 - q2) + q3)), .second, .val (.long (0 : Int64)), .second, .val (.long (q1 + q3)), .second]) rfl ?_
            show Steps p.tables e below (T_255.setTop (mkF m 111 #[.val (.long q1), .second, .val (.long q2), .second, .val (.long q3), .second, .val (.int p4), .val (.ref b_170), .val (.ref b_220), .val (.long (0 : Int64)), .second, .val (.long (q1 - q2)), .second, .val (.int (1 : Int32)), .val (.long ((q1 - q2) + q3)), .second, .val (.long (0 : Int64)), .second, .val (.long (q1 + q3)), .second] [])) _
            refine XS.lload X_255.here hx rfl (hb hby at_111) rfl ?_
            show Steps p.tables e below (T_255.setTop (mkF m 113 #[.val (.long q1), .second, .val (.long q2), .second, .val (.long q3), .second, .val (.int p4), .val (.ref b_170), .val (.ref b_220), .val (.long (0 : Int64)), .second, .val (.long (q1 - q2)), .second, .val (.int (1 : Int32)), .val (.long ((q1 - q2) + q3)), .second, .val (.long (0 : Int64)), .second, .val (.long (q1 + q3)), .second] [(.long (q1 + q3))])) _
            refine XS.lload X_255.here hx rfl (hb hby at_113) rfl ?_
            show Steps p.tables e below (T_255.setTop (mkF m 115 #[.val (.long q1), .second, .val (.long q2), .second, .val (.long q3), .second, .val (.int p4), .val (.ref b_170), .val (.ref b_220), .val (.long (0 : Int64)), .second, .val (.long (q1 - q2)), .second, .val (.int (1 : Int32)), .val (.long ((q1 - q2) + q3)), .second, .val (.long (0 : Int64)), .second, .val (.long (q1 + q3)), .second] [(.long (0 : Int64)), (.long (q1 + q3))])) _
            refine XS.lcmp X_255.here hx rfl (hb hby at_115) rfl ?_
            exact k)
        by_cases hc116__264 : (0 : Int64) < (q1 + q3)
        · obtain ⟨cq_265, kq_265, qa_265, qb_265, qc_265⟩ := isOf hZ rfl po_255_0
          obtain ⟨_, _, ⟨T_265, L_265, k_265, n_265⟩, -, X_265, ⟨Lc_265, hQ_265, l_265, y_265, z_265⟩, st_265⟩ := X_255.virtualBack hx (y := (⟨"org/millrace/engine/Footprint", "rows", "()J"⟩ : MethodName)) (z := (⟨"org/millrace/engine/Footprint", "rows", "()J"⟩ : MethodName)) hown (mvT hZ (hw _ (List.mem_of_getElem? (i := 30) rfl))) (mvT hZ (hw _ (List.mem_of_getElem? (i := 31) rfl))) (notFace_of_selects (args := #[]) (mvT hZ (hw _ (List.mem_of_getElem? (i := 33) rfl)))) (mvT hZ (hw _ (List.mem_of_getElem? (i := 33) rfl))) (mvT hZ (hw _ (List.mem_of_getElem? (i := 32) rfl))) (by decide) (backOf (W := 0) (rm6 l Z a0 hw [] b_220 (own_ar q3 ((own_ar q1 (0 : Int64)) - q2)) T_255.heap n0 z_256 po_255_0 po_255_1) hZ (hw _ (List.mem_of_getElem? (i := 34) rfl)) (hw _ (List.mem_of_getElem? (i := 2) rfl)) (by decide) (by decide)) qa_265 qc_265 (g := (mkF m 130 #[.val (.long q1), .second, .val (.long q2), .second, .val (.long q3), .second, .val (.int p4), .val (.ref b_170), .val (.ref b_220), .val (.long (0 : Int64)), .second, .val (.long (q1 - q2)), .second, .val (.int (1 : Int32)), .val (.long ((q1 - q2) + q3)), .second, .val (.long (q1 + q3)), .second, .val (.long (q1 + q3)), .second] [(.ref b_220)])) rfl (by rw [hml]; rfl) (Steps.refl _) (argsL := []) (rest := []) (lenOf pd_3 rfl) rfl (by show 2 * 0 + _ ≤ _; exact Nat.le_of_eq rfl) (hb hby at_130) (fun _ _ => ⟨rfl, rfl, (by decide : 2 + 0 ≤ _), (by decide : 8 + 0 ≤ _)⟩)
          dsimp only [Pt.U, Pt.locs, Pt.cells, Pt.slots] at X_265 l_265 y_265 z_265 st_265 hQ_265
          replace X_265 := castS l_265 y_265 z_265 X_265
          obtain ⟨rfl, Nq_265, e_265⟩ := hQ_265
          have N_265 := Fr.app N_255 Nq_265
          obtain ⟨cq_266, kq_266, qa_266, qb_266, qc_266⟩ := isOf hZ e_265 po_255_0
          obtain ⟨_, _, ⟨T_266, L_266, k_266, n_266⟩, -, X_266, ⟨Lc_266, hQ_266, l_266, y_266, z_266⟩, st_266⟩ := X_265.virtualBack hx (y := (⟨"org/millrace/engine/Footprint", "peak", "()J"⟩ : MethodName)) (z := (⟨"org/millrace/engine/Footprint", "peak", "()J"⟩ : MethodName)) hown (mvT hZ (hw _ (List.mem_of_getElem? (i := 35) rfl))) (mvT hZ (hw _ (List.mem_of_getElem? (i := 36) rfl))) (notFace_of_selects (args := #[]) (mvT hZ (hw _ (List.mem_of_getElem? (i := 38) rfl)))) (mvT hZ (hw _ (List.mem_of_getElem? (i := 38) rfl))) (mvT hZ (hw _ (List.mem_of_getElem? (i := 37) rfl))) (by decide) (backOf (W := 0) (rm7 l Z a0 hw [] b_220 (own_ap q3 ((own_ar q1 (0 : Int64)) - q2) (own_ap q1 (0 : Int64) (0 : Int64) (0 : Int64)) ((0 : Int64) + q2)) T_255.heap n0 z_256 po_255_0 po_255_2) hZ (hw _ (List.mem_of_getElem? (i := 39) rfl)) (hw _ (List.mem_of_getElem? (i := 2) rfl)) (by decide) (by decide)) qa_266 qc_266 (g := (mkF m 141 #[.val (.long q1), .second, .val (.long q2), .second, .val (.long q3), .second, .val (.int p4), .val (.ref b_170), .val (.ref b_220), .val (.long (0 : Int64)), .second, .val (.long (q1 - q2)), .second, .val (.int (1 : Int32)), .val (.long ((q1 - q2) + q3)), .second, .val (.long (q1 + q3)), .second, .val (.long (q1 + q3)), .second] [(.ref b_220)])) rfl (by rw [hml]; rfl) (Steps.refl _) (argsL := []) (rest := []) (lenOf pd_3 rfl) rfl (by show 2 * 0 + _ ≤ _; exact Nat.le_of_eq rfl) (hb hby at_141) (fun _ _ => ⟨rfl, e_265, (by decide : 2 + 0 ≤ _), (by decide : 8 + 0 ≤ _)⟩)
          dsimp only [Pt.U, Pt.locs, Pt.cells, Pt.slots] at X_266 l_266 y_266 z_266 st_266 hQ_266
          replace X_266 := castS l_266 y_266 z_266 X_266
          obtain ⟨rfl, Nq_266, e_266⟩ := hQ_266
          have N_266 := Fr.app N_265 Nq_266
          obtain ⟨cq_267, kq_267, qa_267, qb_267, qc_267⟩ := isOf hZ e_266 po_255_5
          obtain ⟨_, _, ⟨T_267, L_267, k_267, n_267⟩, -, X_267, ⟨Lc_267, hQ_267, l_267, y_267, z_267⟩, st_267⟩ := X_266.virtualBack hx (y := (⟨"org/millrace/engine/Footprint", "rows", "()J"⟩ : MethodName)) (z := (⟨"org/millrace/engine/Footprint", "rows", "()J"⟩ : MethodName)) hown (mvT hZ (hw _ (List.mem_of_getElem? (i := 30) rfl))) (mvT hZ (hw _ (List.mem_of_getElem? (i := 31) rfl))) (notFace_of_selects (args := #[]) (mvT hZ (hw _ (List.mem_of_getElem? (i := 33) rfl)))) (mvT hZ (hw _ (List.mem_of_getElem? (i := 33) rfl))) (mvT hZ (hw _ (List.mem_of_getElem? (i := 32) rfl))) (by decide) (backOf (W := 0) (rm6 l Z a0 hw [] b_170 (own_ar q3 ((own_ar q1 (0 : Int64)) - q2)) T_255.heap n0 z_256 po_255_5 po_255_6) hZ (hw _ (List.mem_of_getElem? (i := 34) rfl)) (hw _ (List.mem_of_getElem? (i := 2) rfl)) (by decide) (by decide)) qa_267 qc_267 (g := (mkF m 152 #[.val (.long q1), .second, .val (.long q2), .second, .val (.long q3), .second, .val (.int p4), .val (.ref b_170), .val (.ref b_220), .val (.long (0 : Int64)), .second, .val (.long (q1 - q2)), .second, .val (.int (1 : Int32)), .val (.long ((q1 - q2) + q3)), .second, .val (.long (q1 + q3)), .second, .val (.long (q1 + q3)), .second] [(.ref b_170)])) rfl (by rw [hml]; rfl) (Steps.refl _) (argsL := []) (rest := []) (lenOf pd_3 rfl) rfl (by show 2 * 0 + _ ≤ _; exact Nat.le_of_eq rfl) (hb hby at_152) (fun _ _ => ⟨rfl, e_266, (by decide : 2 + 0 ≤ _), (by decide : 8 + 0 ≤ _)⟩)
          dsimp only [Pt.U, Pt.locs, Pt.cells, Pt.slots] at X_267 l_267 y_267 z_267 st_267 hQ_267
          replace X_267 := castS l_267 y_267 z_267 X_267
          obtain ⟨rfl, Nq_267, e_267⟩ := hQ_267
          have N_267 := Fr.app N_266 Nq_267
          obtain ⟨cq_268, kq_268, qa_268, qb_268, qc_268⟩ := isOf hZ e_267 po_255_5
          obtain ⟨_, _, ⟨T_268, L_268, k_268, n_268⟩, -, X_268, ⟨Lc_268, hQ_268, l_268, y_268, z_268⟩, st_268⟩ := X_267.virtualBack hx (y := (⟨"org/millrace/engine/Footprint", "peak", "()J"⟩ : MethodName)) (z := (⟨"org/millrace/engine/Footprint", "peak", "()J"⟩ : MethodName)) hown (mvT hZ (hw _ (List.mem_of_getElem? (i := 35) rfl))) (mvT hZ (hw _ (List.mem_of_getElem? (i := 36) rfl))) (notFace_of_selects (args := #[]) (mvT hZ (hw _ (List.mem_of_getElem? (i := 38) rfl)))) (mvT hZ (hw _ (List.mem_of_getElem? (i := 38) rfl))) (mvT hZ (hw _ (List.mem_of_getElem? (i := 37) rfl))) (by decide) (backOf (W := 0) (rm7 l Z a0 hw [] b_170 (own_ap q3 ((own_ar q1 (0 : Int64)) - q2) (own_ap q1 (0 : Int64) (0 : Int64) (0 : Int64)) ((0 : Int64) + q2)) T_255.heap n0 z_256 po_255_5 po_255_7) hZ (hw _ (List.mem_of_getElem? (i := 39) rfl)) (hw _ (List.mem_of_getElem? (i := 2) rfl)) (by decide) (by decide)) qa_268 qc_268 (g := (mkF m 163 #[.val (.long q1), .second, .val (.long q2), .second, .val (.long q3), .second, .val (.int p4), .val (.ref b_170), .val (.ref b_220), .val (.long (0 : Int64)), .second, .val (.long (q1 - q2)), .second, .val (.int (1 : Int32)), .val (.long ((q1 - q2) + q3)), .second, .val (.long (q1 + q3)), .second, .val (.long (q1 + q3)), .second] [(.ref b_170)])) rfl (by rw [hml]; rfl) (Steps.refl _) (argsL := []) (rest := []) (lenOf pd_3 rfl) rfl (by show 2 * 0 + _ ≤ _; exact Nat.le_of_eq rfl) (hb hby at_163) (fun _ _ => ⟨rfl, e_267, (by decide : 2 + 0 ≤ _), (by decide : 8 + 0 ≤ _)⟩)
          dsimp only [Pt.U, Pt.locs, Pt.cells, Pt.slots] at X_268 l_268 y_268 z_268 st_268 hQ_268
          replace X_268 := castS l_268 y_268 z_268 X_268
          obtain ⟨rfl, Nq_268, e_268⟩ := hQ_268
          have N_268 := Fr.app N_267 Nq_268
          obtain ⟨fs, hr, hrun, hended, hW, hsame⟩ := X_268.leave (v := some (.int (1 : Int32))) (fun h => by rw [Bd.returns] at h; cases h)
          refine ⟨_, _, pre_263 _ ?_, hrun, hended, _, _, rfl, ?_, ⟨_, rfl⟩, hW, hsame.mono (by decide) (by decide)⟩
          · show Steps p.tables e below (T_255.setTop (mkF m 116 #[.val (.long q1), .second, .val (.long q2), .second, .val (.long q3), .second, .val (.int p4), .val (.ref b_170), .val (.ref b_220), .val (.long (0 : Int64)), .second, .val (.long (q1 - q2)), .second, .val (.int (1 : Int32)), .val (.long ((q1 - q2) + q3)), .second, .val (.long (0 : Int64)), .second, .val (.long (q1 + q3)), .second] [(.int (lcmpW (q1 + q3) (0 : Int64)))])) _
            refine XS.ifNo X_255.here hx rfl (hb hby at_116) rfl ((if0 _ _).trans (tlt ((lw_gt _ _).mpr hc116__264)).2.2.2) ?_
            show Steps p.tables e below (T_255.setTop (mkF m 119 #[.val (.long q1), .second, .val (.long q2), .second, .val (.long q3), .second, .val (.int p4), .val (.ref b_170), .val (.ref b_220), .val (.long (0 : Int64)), .second, .val (.long (q1 - q2)), .second, .val (.int (1 : Int32)), .val (.long ((q1 - q2) + q3)), .second, .val (.long (0 : Int64)), .second, .val (.long (q1 + q3)), .second] [])) _
            refine XS.lload X_255.here hx rfl (hb hby at_119) rfl ?_
            show Steps p.tables e below (T_255.setTop (mkF m 121 #[.val (.long q1), .second, .val (.long q2), .second, .val (.long q3), .second, .val (.int p4), .val (.ref b_170), .val (.ref b_220), .val (.long (0 : Int64)), .second, .val (.long (q1 - q2)), .second, .val (.int (1 : Int32)), .val (.long ((q1 - q2) + q3)), .second, .val (.long (0 : Int64)), .second, .val (.long (q1 + q3)), .second] [(.long (q1 + q3))])) _
            refine XS.lstore X_255.here hx rfl (hb hby at_121) rfl (l' := #[.val (.long q1), .second, .val (.long q2), .second, .val (.long q3), .second, .val (.int p4), .val (.ref b_170), .val (.ref b_220), .val (.long (0 : Int64)), .second, .val (.long (q1 - q2)), .second, .val (.int (1 : Int32)), .val (.long ((q1 - q2) + q3)), .second, .val (.long (q1 + q3)), .second, .val (.long (q1 + q3)), .second]) rfl ?_
            show Steps p.tables e below (T_255.setTop (mkF m 123 #[.val (.long q1), .second, .val (.long q2), .second, .val (.long q3), .second, .val (.int p4), .val (.ref b_170), .val (.ref b_220), .val (.long (0 : Int64)), .second, .val (.long (q1 - q2)), .second, .val (.int (1 : Int32)), .val (.long ((q1 - q2) + q3)), .second, .val (.long (q1 + q3)), .second, .val (.long (q1 + q3)), .second] [])) _
            refine XS.iload X_255.here hx rfl (hb hby at_123) rfl ?_
            show Steps p.tables e below (T_255.setTop (mkF m 125 #[.val (.long q1), .second, .val (.long q2), .second, .val (.long q3), .second, .val (.int p4), .val (.ref b_170), .val (.ref b_220), .val (.long (0 : Int64)), .second, .val (.long (q1 - q2)), .second, .val (.int (1 : Int32)), .val (.long ((q1 - q2) + q3)), .second, .val (.long (q1 + q3)), .second, .val (.long (q1 + q3)), .second] [(.int (1 : Int32))])) _
            refine XS.ifNo X_255.here hx rfl (hb hby at_125) rfl ((if0 _ _).trans (feq (by decide : ¬ ((1 : Int32) = (0 : Int32)))).1) ?_
            show Steps p.tables e below (T_255.setTop (mkF m 128 #[.val (.long q1), .second, .val (.long q2), .second, .val (.long q3), .second, .val (.int p4), .val (.ref b_170), .val (.ref b_220), .val (.long (0 : Int64)), .second, .val (.long (q1 - q2)), .second, .val (.int (1 : Int32)), .val (.long ((q1 - q2) + q3)), .second, .val (.long (q1 + q3)), .second, .val (.long (q1 + q3)), .second] [])) _
            refine XS.aload X_255.here hx rfl (hb hby at_128) rfl rfl ?_
            show Steps p.tables e below (T_255.setTop (mkF m 130 #[.val (.long q1), .second, .val (.long q2), .second, .val (.long q3), .second, .val (.int p4), .val (.ref b_170), .val (.ref b_220), .val (.long (0 : Int64)), .second, .val (.long (q1 - q2)), .second, .val (.int (1 : Int32)), .val (.long ((q1 - q2) + q3)), .second, .val (.long (q1 + q3)), .second, .val (.long (q1 + q3)), .second] [(.ref b_220)])) _
            refine st_265.trans ?_
            show Steps p.tables e below (T_265.setTop (mkF m 133 #[.val (.long q1), .second, .val (.long q2), .second, .val (.long q3), .second, .val (.int p4), .val (.ref b_170), .val (.ref b_220), .val (.long (0 : Int64)), .second, .val (.long (q1 - q2)), .second, .val (.int (1 : Int32)), .val (.long ((q1 - q2) + q3)), .second, .val (.long (q1 + q3)), .second, .val (.long (q1 + q3)), .second] [(.long (own_ar q3 ((own_ar q1 (0 : Int64)) - q2)))])) _
            refine XS.lload X_265.here hx rfl (hb hby at_133) rfl ?_
            show Steps p.tables e below (T_265.setTop (mkF m 135 #[.val (.long q1), .second, .val (.long q2), .second, .val (.long q3), .second, .val (.int p4), .val (.ref b_170), .val (.ref b_220), .val (.long (0 : Int64)), .second, .val (.long (q1 - q2)), .second, .val (.int (1 : Int32)), .val (.long ((q1 - q2) + q3)), .second, .val (.long (q1 + q3)), .second, .val (.long (q1 + q3)), .second] [(.long ((q1 - q2) + q3)), (.long (own_ar q3 ((own_ar q1 (0 : Int64)) - q2)))])) _
            refine XS.lcmp X_265.here hx rfl (hb hby at_135) rfl ?_
            show Steps p.tables e below (T_265.setTop (mkF m 136 #[.val (.long q1), .second, .val (.long q2), .second, .val (.long q3), .second, .val (.int p4), .val (.ref b_170), .val (.ref b_220), .val (.long (0 : Int64)), .second, .val (.long (q1 - q2)), .second, .val (.int (1 : Int32)), .val (.long ((q1 - q2) + q3)), .second, .val (.long (q1 + q3)), .second, .val (.long (q1 + q3)), .second] [(.int (lcmpW (own_ar q3 ((own_ar q1 (0 : Int64)) - q2)) ((q1 - q2) + q3)))])) _
            refine XS.ifNo X_265.here hx rfl (hb hby at_136) rfl ((if0 _ _).trans (teq ((lw_eq _ _).mpr (by rw [own_ar_eq, own_ar_eq, Int64.zero_add] : (own_ar q3 ((own_ar q1 (0 : Int64)) - q2)) = ((q1 - q2) + q3)))).2) ?_
            show Steps p.tables e below (T_265.setTop (mkF m 139 #[.val (.long q1), .second, .val (.long q2), .second, .val (.long q3), .second, .val (.int p4), .val (.ref b_170), .val (.ref b_220), .val (.long (0 : Int64)), .second, .val (.long (q1 - q2)), .second, .val (.int (1 : Int32)), .val (.long ((q1 - q2) + q3)), .second, .val (.long (q1 + q3)), .second, .val (.long (q1 + q3)), .second] [])) _
            refine XS.aload X_265.here hx rfl (hb hby at_139) rfl rfl ?_
            show Steps p.tables e below (T_265.setTop (mkF m 141 #[.val (.long q1), .second, .val (.long q2), .second, .val (.long q3), .second, .val (.int p4), .val (.ref b_170), .val (.ref b_220), .val (.long (0 : Int64)), .second, .val (.long (q1 - q2)), .second, .val (.int (1 : Int32)), .val (.long ((q1 - q2) + q3)), .second, .val (.long (q1 + q3)), .second, .val (.long (q1 + q3)), .second] [(.ref b_220)])) _
            refine st_266.trans ?_
            show Steps p.tables e below (T_266.setTop (mkF m 144 #[.val (.long q1), .second, .val (.long q2), .second, .val (.long q3), .second, .val (.int p4), .val (.ref b_170), .val (.ref b_220), .val (.long (0 : Int64)), .second, .val (.long (q1 - q2)), .second, .val (.int (1 : Int32)), .val (.long ((q1 - q2) + q3)), .second, .val (.long (q1 + q3)), .second, .val (.long (q1 + q3)), .second] [(.long (own_ap q3 ((own_ar q1 (0 : Int64)) - q2) (own_ap q1 (0 : Int64) (0 : Int64) (0 : Int64)) ((0 : Int64) + q2)))])) _
            refine XS.lload X_266.here hx rfl (hb hby at_144) rfl ?_
            show Steps p.tables e below (T_266.setTop (mkF m 146 #[.val (.long q1), .second, .val (.long q2), .second, .val (.long q3), .second, .val (.int p4), .val (.ref b_170), .val (.ref b_220), .val (.long (0 : Int64)), .second, .val (.long (q1 - q2)), .second, .val (.int (1 : Int32)), .val (.long ((q1 - q2) + q3)), .second, .val (.long (q1 + q3)), .second, .val (.long (q1 + q3)), .second] [(.long (q1 + q3)), (.long (own_ap q3 ((own_ar q1 (0 : Int64)) - q2) (own_ap q1 (0 : Int64) (0 : Int64) (0 : Int64)) ((0 : Int64) + q2)))])) _
            refine XS.lcmp X_266.here hx rfl (hb hby at_146) rfl ?_
            show Steps p.tables e below (T_266.setTop (mkF m 147 #[.val (.long q1), .second, .val (.long q2), .second, .val (.long q3), .second, .val (.int p4), .val (.ref b_170), .val (.ref b_220), .val (.long (0 : Int64)), .second, .val (.long (q1 - q2)), .second, .val (.int (1 : Int32)), .val (.long ((q1 - q2) + q3)), .second, .val (.long (q1 + q3)), .second, .val (.long (q1 + q3)), .second] [(.int (lcmpW (own_ap q3 ((own_ar q1 (0 : Int64)) - q2) (own_ap q1 (0 : Int64) (0 : Int64) (0 : Int64)) ((0 : Int64) + q2)) (q1 + q3)))])) _
            refine XS.ifNo X_266.here hx rfl (hb hby at_147) rfl ((if0 _ _).trans (teq ((lw_eq _ _).mpr (by rw [own_pk]; simp only [if_neg hc47__234, if_neg hc102__258, if_pos hc116__264] : (own_ap q3 ((own_ar q1 (0 : Int64)) - q2) (own_ap q1 (0 : Int64) (0 : Int64) (0 : Int64)) ((0 : Int64) + q2)) = (q1 + q3)))).2) ?_
            show Steps p.tables e below (T_266.setTop (mkF m 150 #[.val (.long q1), .second, .val (.long q2), .second, .val (.long q3), .second, .val (.int p4), .val (.ref b_170), .val (.ref b_220), .val (.long (0 : Int64)), .second, .val (.long (q1 - q2)), .second, .val (.int (1 : Int32)), .val (.long ((q1 - q2) + q3)), .second, .val (.long (q1 + q3)), .second, .val (.long (q1 + q3)), .second] [])) _
            refine XS.aload X_266.here hx rfl (hb hby at_150) rfl rfl ?_
            show Steps p.tables e below (T_266.setTop (mkF m 152 #[.val (.long q1), .second, .val (.long q2), .second, .val (.long q3), .second, .val (.int p4), .val (.ref b_170), .val (.ref b_220), .val (.long (0 : Int64)), .second, .val (.long (q1 - q2)), .second, .val (.int (1 : Int32)), .val (.long ((q1 - q2) + q3)), .second, .val (.long (q1 + q3)), .second, .val (.long (q1 + q3)), .second] [(.ref b_170)])) _
            refine st_267.trans ?_
            show Steps p.tables e below (T_267.setTop (mkF m 155 #[.val (.long q1), .second, .val (.long q2), .second, .val (.long q3), .second, .val (.int p4), .val (.ref b_170), .val (.ref b_220), .val (.long (0 : Int64)), .second, .val (.long (q1 - q2)), .second, .val (.int (1 : Int32)), .val (.long ((q1 - q2) + q3)), .second, .val (.long (q1 + q3)), .second, .val (.long (q1 + q3)), .second] [(.long (own_ar q3 ((own_ar q1 (0 : Int64)) - q2)))])) _
            refine XS.lload X_267.here hx rfl (hb hby at_155) rfl ?_
            show Steps p.tables e below (T_267.setTop (mkF m 157 #[.val (.long q1), .second, .val (.long q2), .second, .val (.long q3), .second, .val (.int p4), .val (.ref b_170), .val (.ref b_220), .val (.long (0 : Int64)), .second, .val (.long (q1 - q2)), .second, .val (.int (1 : Int32)), .val (.long ((q1 - q2) + q3)), .second, .val (.long (q1 + q3)), .second, .val (.long (q1 + q3)), .second] [(.long ((q1 - q2) + q3)), (.long (own_ar q3 ((own_ar q1 (0 : Int64)) - q2)))])) _
            refine XS.lcmp X_267.here hx rfl (hb hby at_157) rfl ?_
            show Steps p.tables e below (T_267.setTop (mkF m 158 #[.val (.long q1), .second, .val (.long q2), .second, .val (.long q3), .second, .val (.int p4), .val (.ref b_170), .val (.ref b_220), .val (.long (0 : Int64)), .second, .val (.long (q1 - q2)), .second, .val (.int (1 : Int32)), .val (.long ((q1 - q2) + q3)), .second, .val (.long (q1 + q3)), .second, .val (.long (q1 + q3)), .second] [(.int (lcmpW (own_ar q3 ((own_ar q1 (0 : Int64)) - q2)) ((q1 - q2) + q3)))])) _
            refine XS.ifNo X_267.here hx rfl (hb hby at_158) rfl ((if0 _ _).trans (teq ((lw_eq _ _).mpr (by rw [own_ar_eq, own_ar_eq, Int64.zero_add] : (own_ar q3 ((own_ar q1 (0 : Int64)) - q2)) = ((q1 - q2) + q3)))).2) ?_
            show Steps p.tables e below (T_267.setTop (mkF m 161 #[.val (.long q1), .second, .val (.long q2), .second, .val (.long q3), .second, .val (.int p4), .val (.ref b_170), .val (.ref b_220), .val (.long (0 : Int64)), .second, .val (.long (q1 - q2)), .second, .val (.int (1 : Int32)), .val (.long ((q1 - q2) + q3)), .second, .val (.long (q1 + q3)), .second, .val (.long (q1 + q3)), .second] [])) _
            refine XS.aload X_267.here hx rfl (hb hby at_161) rfl rfl ?_
            show Steps p.tables e below (T_267.setTop (mkF m 163 #[.val (.long q1), .second, .val (.long q2), .second, .val (.long q3), .second, .val (.int p4), .val (.ref b_170), .val (.ref b_220), .val (.long (0 : Int64)), .second, .val (.long (q1 - q2)), .second, .val (.int (1 : Int32)), .val (.long ((q1 - q2) + q3)), .second, .val (.long (q1 + q3)), .second, .val (.long (q1 + q3)), .second] [(.ref b_170)])) _
            refine st_268.trans ?_
            show Steps p.tables e below (T_268.setTop (mkF m 166 #[.val (.long q1), .second, .val (.long q2), .second, .val (.long q3), .second, .val (.int p4), .val (.ref b_170), .val (.ref b_220), .val (.long (0 : Int64)), .second, .val (.long (q1 - q2)), .second, .val (.int (1 : Int32)), .val (.long ((q1 - q2) + q3)), .second, .val (.long (q1 + q3)), .second, .val (.long (q1 + q3)), .second] [(.long (own_ap q3 ((own_ar q1 (0 : Int64)) - q2) (own_ap q1 (0 : Int64) (0 : Int64) (0 : Int64)) ((0 : Int64) + q2)))])) _
            refine XS.lload X_268.here hx rfl (hb hby at_166) rfl ?_
            show Steps p.tables e below (T_268.setTop (mkF m 168 #[.val (.long q1), .second, .val (.long q2), .second, .val (.long q3), .second, .val (.int p4), .val (.ref b_170), .val (.ref b_220), .val (.long (0 : Int64)), .second, .val (.long (q1 - q2)), .second, .val (.int (1 : Int32)), .val (.long ((q1 - q2) + q3)), .second, .val (.long (q1 + q3)), .second, .val (.long (q1 + q3)), .second] [(.long (q1 + q3)), (.long (own_ap q3 ((own_ar q1 (0 : Int64)) - q2) (own_ap q1 (0 : Int64) (0 : Int64) (0 : Int64)) ((0 : Int64) + q2)))])) _
            refine XS.lcmp X_268.here hx rfl (hb hby at_168) rfl ?_
            show Steps p.tables e below (T_268.setTop (mkF m 169 #[.val (.long q1), .second, .val (.long q2), .second, .val (.long q3), .second, .val (.int p4), .val (.ref b_170), .val (.ref b_220), .val (.long (0 : Int64)), .second, .val (.long (q1 - q2)), .second, .val (.int (1 : Int32)), .val (.long ((q1 - q2) + q3)), .second, .val (.long (q1 + q3)), .second, .val (.long (q1 + q3)), .second] [(.int (lcmpW (own_ap q3 ((own_ar q1 (0 : Int64)) - q2) (own_ap q1 (0 : Int64) (0 : Int64) (0 : Int64)) ((0 : Int64) + q2)) (q1 + q3)))])) _
            refine XS.ifNo X_268.here hx rfl (hb hby at_169) rfl ((if0 _ _).trans (teq ((lw_eq _ _).mpr (by rw [own_pk]; simp only [if_neg hc47__234, if_neg hc102__258, if_pos hc116__264] : (own_ap q3 ((own_ar q1 (0 : Int64)) - q2) (own_ap q1 (0 : Int64) (0 : Int64) (0 : Int64)) ((0 : Int64) + q2)) = (q1 + q3)))).2) ?_
            show Steps p.tables e below (T_268.setTop (mkF m 172 #[.val (.long q1), .second, .val (.long q2), .second, .val (.long q3), .second, .val (.int p4), .val (.ref b_170), .val (.ref b_220), .val (.long (0 : Int64)), .second, .val (.long (q1 - q2)), .second, .val (.int (1 : Int32)), .val (.long ((q1 - q2) + q3)), .second, .val (.long (q1 + q3)), .second, .val (.long (q1 + q3)), .second] [])) _
            refine XS.iconst X_268.here hx rfl (hb hby at_172) ?_
            show Steps p.tables e below (T_268.setTop (mkF m 173 #[.val (.long q1), .second, .val (.long q2), .second, .val (.long q3), .second, .val (.int p4), .val (.ref b_170), .val (.ref b_220), .val (.long (0 : Int64)), .second, .val (.long (q1 - q2)), .second, .val (.int (1 : Int32)), .val (.long ((q1 - q2) + q3)), .second, .val (.long (q1 + q3)), .second, .val (.long (q1 + q3)), .second] [(.int (1 : Int32))])) _
            refine XS.goto X_268.here hx rfl (pc0 := 173) (pc' := 177) rfl (hb hby at_173) (by decide) (by decide) ?_
            show Steps p.tables e below (T_268.setTop (mkF m 177 #[.val (.long q1), .second, .val (.long q2), .second, .val (.long q3), .second, .val (.int p4), .val (.ref b_170), .val (.ref b_220), .val (.long (0 : Int64)), .second, .val (.long (q1 - q2)), .second, .val (.int (1 : Int32)), .val (.long ((q1 - q2) + q3)), .second, .val (.long (q1 + q3)), .second, .val (.long (q1 + q3)), .second] [(.int (1 : Int32))])) _
            refine XS.istore X_268.here hx rfl (hb hby at_177) rfl (l' := #[.val (.long q1), .second, .val (.long q2), .second, .val (.long q3), .second, .val (.int p4), .val (.ref b_170), .val (.ref b_220), .val (.long (0 : Int64)), .second, .val (.long (q1 - q2)), .second, .val (.int (1 : Int32)), .val (.long ((q1 - q2) + q3)), .second, .val (.long (q1 + q3)), .second, .val (.long (q1 + q3)), .second]) rfl ?_
            show Steps p.tables e below (T_268.setTop (mkF m 179 #[.val (.long q1), .second, .val (.long q2), .second, .val (.long q3), .second, .val (.int p4), .val (.ref b_170), .val (.ref b_220), .val (.long (0 : Int64)), .second, .val (.long (q1 - q2)), .second, .val (.int (1 : Int32)), .val (.long ((q1 - q2) + q3)), .second, .val (.long (q1 + q3)), .second, .val (.long (q1 + q3)), .second] [])) _
            refine XS.iload X_268.here hx rfl (hb hby at_179) rfl ?_
            show Steps p.tables e below (T_268.setTop (mkF m 181 #[.val (.long q1), .second, .val (.long q2), .second, .val (.long q3), .second, .val (.int p4), .val (.ref b_170), .val (.ref b_220), .val (.long (0 : Int64)), .second, .val (.long (q1 - q2)), .second, .val (.int (1 : Int32)), .val (.long ((q1 - q2) + q3)), .second, .val (.long (q1 + q3)), .second, .val (.long (q1 + q3)), .second] [(.int (1 : Int32))])) _
            exact retN X_268 hx (t := .boolean) Bd.returns (by simp) (hb hby at_181) hr
          · show Q0 Z q1 q2 q3 p4 h0 n0 _ T_268.heap _
            rw [e_268]
            exact ⟨rfl, N_268⟩
        · obtain ⟨cq_269, kq_269, qa_269, qb_269, qc_269⟩ := isOf hZ rfl po_255_0
          obtain ⟨_, _, ⟨T_269, L_269, k_269, n_269⟩, -, X_269, ⟨Lc_269, hQ_269, l_269, y_269, z_269⟩, st_269⟩ := X_255.virtualBack hx (y := (⟨"org/millrace/engine/Footprint", "rows", "()J"⟩ : MethodName)) (z := (⟨"org/millrace/engine/Footprint", "rows", "()J"⟩ : MethodName)) hown (mvT hZ (hw _ (List.mem_of_getElem? (i := 30) rfl))) (mvT hZ (hw _ (List.mem_of_getElem? (i := 31) rfl))) (notFace_of_selects (args := #[]) (mvT hZ (hw _ (List.mem_of_getElem? (i := 33) rfl)))) (mvT hZ (hw _ (List.mem_of_getElem? (i := 33) rfl))) (mvT hZ (hw _ (List.mem_of_getElem? (i := 32) rfl))) (by decide) (backOf (W := 0) (rm6 l Z a0 hw [] b_220 (own_ar q3 ((own_ar q1 (0 : Int64)) - q2)) T_255.heap n0 z_256 po_255_0 po_255_1) hZ (hw _ (List.mem_of_getElem? (i := 34) rfl)) (hw _ (List.mem_of_getElem? (i := 2) rfl)) (by decide) (by decide)) qa_269 qc_269 (g := (mkF m 130 #[.val (.long q1), .second, .val (.long q2), .second, .val (.long q3), .second, .val (.int p4), .val (.ref b_170), .val (.ref b_220), .val (.long (0 : Int64)), .second, .val (.long (q1 - q2)), .second, .val (.int (1 : Int32)), .val (.long ((q1 - q2) + q3)), .second, .val (.long (0 : Int64)), .second, .val (.long (q1 + q3)), .second] [(.ref b_220)])) rfl (by rw [hml]; rfl) (Steps.refl _) (argsL := []) (rest := []) (lenOf pd_3 rfl) rfl (by show 2 * 0 + _ ≤ _; exact Nat.le_of_eq rfl) (hb hby at_130) (fun _ _ => ⟨rfl, rfl, (by decide : 2 + 0 ≤ _), (by decide : 8 + 0 ≤ _)⟩)
          dsimp only [Pt.U, Pt.locs, Pt.cells, Pt.slots] at X_269 l_269 y_269 z_269 st_269 hQ_269
          replace X_269 := castS l_269 y_269 z_269 X_269
          obtain ⟨rfl, Nq_269, e_269⟩ := hQ_269
          have N_269 := Fr.app N_255 Nq_269
          obtain ⟨cq_270, kq_270, qa_270, qb_270, qc_270⟩ := isOf hZ e_269 po_255_0
          obtain ⟨_, _, ⟨T_270, L_270, k_270, n_270⟩, -, X_270, ⟨Lc_270, hQ_270, l_270, y_270, z_270⟩, st_270⟩ := X_269.virtualBack hx (y := (⟨"org/millrace/engine/Footprint", "peak", "()J"⟩ : MethodName)) (z := (⟨"org/millrace/engine/Footprint", "peak", "()J"⟩ : MethodName)) hown (mvT hZ (hw _ (List.mem_of_getElem? (i := 35) rfl))) (mvT hZ (hw _ (List.mem_of_getElem? (i := 36) rfl))) (notFace_of_selects (args := #[]) (mvT hZ (hw _ (List.mem_of_getElem? (i := 38) rfl)))) (mvT hZ (hw _ (List.mem_of_getElem? (i := 38) rfl))) (mvT hZ (hw _ (List.mem_of_getElem? (i := 37) rfl))) (by decide) (backOf (W := 0) (rm7 l Z a0 hw [] b_220 (own_ap q3 ((own_ar q1 (0 : Int64)) - q2) (own_ap q1 (0 : Int64) (0 : Int64) (0 : Int64)) ((0 : Int64) + q2)) T_255.heap n0 z_256 po_255_0 po_255_2) hZ (hw _ (List.mem_of_getElem? (i := 39) rfl)) (hw _ (List.mem_of_getElem? (i := 2) rfl)) (by decide) (by decide)) qa_270 qc_270 (g := (mkF m 141 #[.val (.long q1), .second, .val (.long q2), .second, .val (.long q3), .second, .val (.int p4), .val (.ref b_170), .val (.ref b_220), .val (.long (0 : Int64)), .second, .val (.long (q1 - q2)), .second, .val (.int (1 : Int32)), .val (.long ((q1 - q2) + q3)), .second, .val (.long (0 : Int64)), .second, .val (.long (q1 + q3)), .second] [(.ref b_220)])) rfl (by rw [hml]; rfl) (Steps.refl _) (argsL := []) (rest := []) (lenOf pd_3 rfl) rfl (by show 2 * 0 + _ ≤ _; exact Nat.le_of_eq rfl) (hb hby at_141) (fun _ _ => ⟨rfl, e_269, (by decide : 2 + 0 ≤ _), (by decide : 8 + 0 ≤ _)⟩)
          dsimp only [Pt.U, Pt.locs, Pt.cells, Pt.slots] at X_270 l_270 y_270 z_270 st_270 hQ_270
          replace X_270 := castS l_270 y_270 z_270 X_270
          obtain ⟨rfl, Nq_270, e_270⟩ := hQ_270
          have N_270 := Fr.app N_269 Nq_270
          obtain ⟨cq_271, kq_271, qa_271, qb_271, qc_271⟩ := isOf hZ e_270 po_255_5
          obtain ⟨_, _, ⟨T_271, L_271, k_271, n_271⟩, -, X_271, ⟨Lc_271, hQ_271, l_271, y_271, z_271⟩, st_271⟩ := X_270.virtualBack hx (y := (⟨"org/millrace/engine/Footprint", "rows", "()J"⟩ : MethodName)) (z := (⟨"org/millrace/engine/Footprint", "rows", "()J"⟩ : MethodName)) hown (mvT hZ (hw _ (List.mem_of_getElem? (i := 30) rfl))) (mvT hZ (hw _ (List.mem_of_getElem? (i := 31) rfl))) (notFace_of_selects (args := #[]) (mvT hZ (hw _ (List.mem_of_getElem? (i := 33) rfl)))) (mvT hZ (hw _ (List.mem_of_getElem? (i := 33) rfl))) (mvT hZ (hw _ (List.mem_of_getElem? (i := 32) rfl))) (by decide) (backOf (W := 0) (rm6 l Z a0 hw [] b_170 (own_ar q3 ((own_ar q1 (0 : Int64)) - q2)) T_255.heap n0 z_256 po_255_5 po_255_6) hZ (hw _ (List.mem_of_getElem? (i := 34) rfl)) (hw _ (List.mem_of_getElem? (i := 2) rfl)) (by decide) (by decide)) qa_271 qc_271 (g := (mkF m 152 #[.val (.long q1), .second, .val (.long q2), .second, .val (.long q3), .second, .val (.int p4), .val (.ref b_170), .val (.ref b_220), .val (.long (0 : Int64)), .second, .val (.long (q1 - q2)), .second, .val (.int (1 : Int32)), .val (.long ((q1 - q2) + q3)), .second, .val (.long (0 : Int64)), .second, .val (.long (q1 + q3)), .second] [(.ref b_170)])) rfl (by rw [hml]; rfl) (Steps.refl _) (argsL := []) (rest := []) (lenOf pd_3 rfl) rfl (by show 2 * 0 + _ ≤ _; exact Nat.le_of_eq rfl) (hb hby at_152) (fun _ _ => ⟨rfl, e_270, (by decide : 2 + 0 ≤ _), (by decide : 8 + 0 ≤ _)⟩)
          dsimp only [Pt.U, Pt.locs, Pt.cells, Pt.slots] at X_271 l_271 y_271 z_271 st_271 hQ_271
          replace X_271 := castS l_271 y_271 z_271 X_271
          obtain ⟨rfl, Nq_271, e_271⟩ := hQ_271
          have N_271 := Fr.app N_270 Nq_271
          obtain ⟨cq_272, kq_272, qa_272, qb_272, qc_272⟩ := isOf hZ e_271 po_255_5
          obtain ⟨_, _, ⟨T_272, L_272, k_272, n_272⟩, -, X_272, ⟨Lc_272, hQ_272, l_272, y_272, z_272⟩, st_272⟩ := X_271.virtualBack hx (y := (⟨"org/millrace/engine/Footprint", "peak", "()J"⟩ : MethodName)) (z := (⟨"org/millrace/engine/Footprint", "peak", "()J"⟩ : MethodName)) hown (mvT hZ (hw _ (List.mem_of_getElem? (i := 35) rfl))) (mvT hZ (hw _ (List.mem_of_getElem? (i := 36) rfl))) (notFace_of_selects (args := #[]) (mvT hZ (hw _ (List.mem_of_getElem? (i := 38) rfl)))) (mvT hZ (hw _ (List.mem_of_getElem? (i := 38) rfl))) (mvT hZ (hw _ (List.mem_of_getElem? (i := 37) rfl))) (by decide) (backOf (W := 0) (rm7 l Z a0 hw [] b_170 (own_ap q3 ((own_ar q1 (0 : Int64)) - q2) (own_ap q1 (0 : Int64) (0 : Int64) (0 : Int64)) ((0 : Int64) + q2)) T_255.heap n0 z_256 po_255_5 po_255_7) hZ (hw _ (List.mem_of_getElem? (i := 39) rfl)) (hw _ (List.mem_of_getElem? (i := 2) rfl)) (by decide) (by decide)) qa_272 qc_272 (g := (mkF m 163 #[.val (.long q1), .second, .val (.long q2), .second, .val (.long q3), .second, .val (.int p4), .val (.ref b_170), .val (.ref b_220), .val (.long (0 : Int64)), .second, .val (.long (q1 - q2)), .second, .val (.int (1 : Int32)), .val (.long ((q1 - q2) + q3)), .second, .val (.long (0 : Int64)), .second, .val (.long (q1 + q3)), .second] [(.ref b_170)])) rfl (by rw [hml]; rfl) (Steps.refl _) (argsL := []) (rest := []) (lenOf pd_3 rfl) rfl (by show 2 * 0 + _ ≤ _; exact Nat.le_of_eq rfl) (hb hby at_163) (fun _ _ => ⟨rfl, e_271, (by decide : 2 + 0 ≤ _), (by decide : 8 + 0 ≤ _)⟩)
          dsimp only [Pt.U, Pt.locs, Pt.cells, Pt.slots] at X_272 l_272 y_272 z_272 st_272 hQ_272
          replace X_272 := castS l_272 y_272 z_272 X_272
          obtain ⟨rfl, Nq_272, e_272⟩ := hQ_272
          have N_272 := Fr.app N_271 Nq_272
          obtain ⟨fs, hr, hrun, hended, hW, hsame⟩ := X_272.leave (v := some (.int (1 : Int32))) (fun h => by rw [Bd.returns] at h; cases h)
          refine ⟨_, _, pre_263 _ ?_, hrun, hended, _, _, rfl, ?_, ⟨_, rfl⟩, hW, hsame.mono (by decide) (by decide)⟩
          · show Steps p.tables e below (T_255.setTop (mkF m 116 #[.val (.long q1), .second, .val (.long q2), .second, .val (.long q3), .second, .val (.int p4), .val (.ref b_170), .val (.ref b_220), .val (.long (0 : Int64)), .second, .val (.long (q1 - q2)), .second, .val (.int (1 : Int32)), .val (.long ((q1 - q2) + q3)), .second, .val (.long (0 : Int64)), .second, .val (.long (q1 + q3)), .second] [(.int (lcmpW (q1 + q3) (0 : Int64)))])) _
            refine XS.ifYes X_255.here hx rfl (pc0 := 116) (pc' := 123) rfl (hb hby at_116) rfl ((if0 _ _).trans (flt (mt (lw_gt _ _).mp hc116__264)).2.2.2) (by decide) (by decide) ?_
            show Steps p.tables e below (T_255.setTop (mkF m 123 #[.val (.long q1), .second, .val (.long q2), .second, .val (.long q3), .second, .val (.int p4), .val (.ref b_170), .val (.ref b_220), .val (.long (0 : Int64)), .second, .val (.long (q1 - q2)), .second, .val (.int (1 : Int32)), .val (.long ((q1 - q2) + q3)), .second, .val (.long (0 : Int64)), .second, .val (.long (q1 + q3)), .second] [])) _
            refine XS.iload X_255.here hx rfl (hb hby at_123) rfl ?_
            show Steps p.tables e below (T_255.setTop (mkF m 125 #[.val (.long q1), .second, .val (.long q2), .second, .val (.long q3), .second, .val (.int p4), .val (.ref b_170), .val (.ref b_220), .val (.long (0 : Int64)), .second, .val (.long (q1 - q2)), .second, .val (.int (1 : Int32)), .val (.long ((q1 - q2) + q3)), .second, .val (.long (0 : Int64)), .second, .val (.long (q1 + q3)), .second] [(.int (1 : Int32))])) _
            refine XS.ifNo X_255.here hx rfl (hb hby at_125) rfl ((if0 _ _).trans (feq (by decide : ¬ ((1 : Int32) = (0 : Int32)))).1) ?_
            show Steps p.tables e below (T_255.setTop (mkF m 128 #[.val (.long q1), .second, .val (.long q2), .second, .val (.long q3), .second, .val (.int p4), .val (.ref b_170), .val (.ref b_220), .val (.long (0 : Int64)), .second, .val (.long (q1 - q2)), .second, .val (.int (1 : Int32)), .val (.long ((q1 - q2) + q3)), .second, .val (.long (0 : Int64)), .second, .val (.long (q1 + q3)), .second] [])) _
            refine XS.aload X_255.here hx rfl (hb hby at_128) rfl rfl ?_
            show Steps p.tables e below (T_255.setTop (mkF m 130 #[.val (.long q1), .second, .val (.long q2), .second, .val (.long q3), .second, .val (.int p4), .val (.ref b_170), .val (.ref b_220), .val (.long (0 : Int64)), .second, .val (.long (q1 - q2)), .second, .val (.int (1 : Int32)), .val (.long ((q1 - q2) + q3)), .second, .val (.long (0 : Int64)), .second, .val (.long (q1 + q3)), .second] [(.ref b_220)])) _
            refine st_269.trans ?_
            show Steps p.tables e below (T_269.setTop (mkF m 133 #[.val (.long q1), .second, .val (.long q2), .second, .val (.long q3), .second, .val (.int p4), .val (.ref b_170), .val (.ref b_220), .val (.long (0 : Int64)), .second, .val (.long (q1 - q2)), .second, .val (.int (1 : Int32)), .val (.long ((q1 - q2) + q3)), .second, .val (.long (0 : Int64)), .second, .val (.long (q1 + q3)), .second] [(.long (own_ar q3 ((own_ar q1 (0 : Int64)) - q2)))])) _
            refine XS.lload X_269.here hx rfl (hb hby at_133) rfl ?_
            show Steps p.tables e below (T_269.setTop (mkF m 135 #[.val (.long q1), .second, .val (.long q2), .second, .val (.long q3), .second, .val (.int p4), .val (.ref b_170), .val (.ref b_220), .val (.long (0 : Int64)), .second, .val (.long (q1 - q2)), .second, .val (.int (1 : Int32)), .val (.long ((q1 - q2) + q3)), .second, .val (.long (0 : Int64)), .second, .val (.long (q1 + q3)), .second] [(.long ((q1 - q2) + q3)), (.long (own_ar q3 ((own_ar q1 (0 : Int64)) - q2)))])) _
            refine XS.lcmp X_269.here hx rfl (hb hby at_135) rfl ?_
            show Steps p.tables e below (T_269.setTop (mkF m 136 #[.val (.long q1), .second, .val (.long q2), .second, .val (.long q3), .second, .val (.int p4), .val (.ref b_170), .val (.ref b_220), .val (.long (0 : Int64)), .second, .val (.long (q1 - q2)), .second, .val (.int (1 : Int32)), .val (.long ((q1 - q2) + q3)), .second, .val (.long (0 : Int64)), .second, .val (.long (q1 + q3)), .second] [(.int (lcmpW (own_ar q3 ((own_ar q1 (0 : Int64)) - q2)) ((q1 - q2) + q3)))])) _
            refine XS.ifNo X_269.here hx rfl (hb hby at_136) rfl ((if0 _ _).trans (teq ((lw_eq _ _).mpr (by rw [own_ar_eq, own_ar_eq, Int64.zero_add] : (own_ar q3 ((own_ar q1 (0 : Int64)) - q2)) = ((q1 - q2) + q3)))).2) ?_
            show Steps p.tables e below (T_269.setTop (mkF m 139 #[.val (.long q1), .second, .val (.long q2), .second, .val (.long q3), .second, .val (.int p4), .val (.ref b_170), .val (.ref b_220), .val (.long (0 : Int64)), .second, .val (.long (q1 - q2)), .second, .val (.int (1 : Int32)), .val (.long ((q1 - q2) + q3)), .second, .val (.long (0 : Int64)), .second, .val (.long (q1 + q3)), .second] [])) _
            refine XS.aload X_269.here hx rfl (hb hby at_139) rfl rfl ?_
            show Steps p.tables e below (T_269.setTop (mkF m 141 #[.val (.long q1), .second, .val (.long q2), .second, .val (.long q3), .second, .val (.int p4), .val (.ref b_170), .val (.ref b_220), .val (.long (0 : Int64)), .second, .val (.long (q1 - q2)), .second, .val (.int (1 : Int32)), .val (.long ((q1 - q2) + q3)), .second, .val (.long (0 : Int64)), .second, .val (.long (q1 + q3)), .second] [(.ref b_220)])) _
            refine st_270.trans ?_
            show Steps p.tables e below (T_270.setTop (mkF m 144 #[.val (.long q1), .second, .val (.long q2), .second, .val (.long q3), .second, .val (.int p4), .val (.ref b_170), .val (.ref b_220), .val (.long (0 : Int64)), .second, .val (.long (q1 - q2)), .second, .val (.int (1 : Int32)), .val (.long ((q1 - q2) + q3)), .second, .val (.long (0 : Int64)), .second, .val (.long (q1 + q3)), .second] [(.long (own_ap q3 ((own_ar q1 (0 : Int64)) - q2) (own_ap q1 (0 : Int64) (0 : Int64) (0 : Int64)) ((0 : Int64) + q2)))])) _
            refine XS.lload X_270.here hx rfl (hb hby at_144) rfl ?_
            show Steps p.tables e below (T_270.setTop (mkF m 146 #[.val (.long q1), .second, .val (.long q2), .second, .val (.long q3), .second, .val (.int p4), .val (.ref b_170), .val (.ref b_220), .val (.long (0 : Int64)), .second, .val (.long (q1 - q2)), .second, .val (.int (1 : Int32)), .val (.long ((q1 - q2) + q3)), .second, .val (.long (0 : Int64)), .second, .val (.long (q1 + q3)), .second] [(.long (0 : Int64)), (.long (own_ap q3 ((own_ar q1 (0 : Int64)) - q2) (own_ap q1 (0 : Int64) (0 : Int64) (0 : Int64)) ((0 : Int64) + q2)))])) _
            refine XS.lcmp X_270.here hx rfl (hb hby at_146) rfl ?_
            show Steps p.tables e below (T_270.setTop (mkF m 147 #[.val (.long q1), .second, .val (.long q2), .second, .val (.long q3), .second, .val (.int p4), .val (.ref b_170), .val (.ref b_220), .val (.long (0 : Int64)), .second, .val (.long (q1 - q2)), .second, .val (.int (1 : Int32)), .val (.long ((q1 - q2) + q3)), .second, .val (.long (0 : Int64)), .second, .val (.long (q1 + q3)), .second] [(.int (lcmpW (own_ap q3 ((own_ar q1 (0 : Int64)) - q2) (own_ap q1 (0 : Int64) (0 : Int64) (0 : Int64)) ((0 : Int64) + q2)) (0 : Int64)))])) _
            refine XS.ifNo X_270.here hx rfl (hb hby at_147) rfl ((if0 _ _).trans (teq ((lw_eq _ _).mpr (by rw [own_pk]; simp only [if_neg hc47__234, if_neg hc102__258, if_neg hc116__264] : (own_ap q3 ((own_ar q1 (0 : Int64)) - q2) (own_ap q1 (0 : Int64) (0 : Int64) (0 : Int64)) ((0 : Int64) + q2)) = (0 : Int64)))).2) ?_
            show Steps p.tables e below (T_270.setTop (mkF m 150 #[.val (.long q1), .second, .val (.long q2), .second, .val (.long q3), .second, .val (.int p4), .val (.ref b_170), .val (.ref b_220), .val (.long (0 : Int64)), .second, .val (.long (q1 - q2)), .second, .val (.int (1 : Int32)), .val (.long ((q1 - q2) + q3)), .second, .val (.long (0 : Int64)), .second, .val (.long (q1 + q3)), .second] [])) _
            refine XS.aload X_270.here hx rfl (hb hby at_150) rfl rfl ?_
            show Steps p.tables e below (T_270.setTop (mkF m 152 #[.val (.long q1), .second, .val (.long q2), .second, .val (.long q3), .second, .val (.int p4), .val (.ref b_170), .val (.ref b_220), .val (.long (0 : Int64)), .second, .val (.long (q1 - q2)), .second, .val (.int (1 : Int32)), .val (.long ((q1 - q2) + q3)), .second, .val (.long (0 : Int64)), .second, .val (.long (q1 + q3)), .second] [(.ref b_170)])) _
            refine st_271.trans ?_
            show Steps p.tables e below (T_271.setTop (mkF m 155 #[.val (.long q1), .second, .val (.long q2), .second, .val (.long q3), .second, .val (.int p4), .val (.ref b_170), .val (.ref b_220), .val (.long (0 : Int64)), .second, .val (.long (q1 - q2)), .second, .val (.int (1 : Int32)), .val (.long ((q1 - q2) + q3)), .second, .val (.long (0 : Int64)), .second, .val (.long (q1 + q3)), .second] [(.long (own_ar q3 ((own_ar q1 (0 : Int64)) - q2)))])) _
            refine XS.lload X_271.here hx rfl (hb hby at_155) rfl ?_
            show Steps p.tables e below (T_271.setTop (mkF m 157 #[.val (.long q1), .second, .val (.long q2), .second, .val (.long q3), .second, .val (.int p4), .val (.ref b_170), .val (.ref b_220), .val (.long (0 : Int64)), .second, .val (.long (q1 - q2)), .second, .val (.int (1 : Int32)), .val (.long ((q1 - q2) + q3)), .second, .val (.long (0 : Int64)), .second, .val (.long (q1 + q3)), .second] [(.long ((q1 - q2) + q3)), (.long (own_ar q3 ((own_ar q1 (0 : Int64)) - q2)))])) _
            refine XS.lcmp X_271.here hx rfl (hb hby at_157) rfl ?_
            show Steps p.tables e below (T_271.setTop (mkF m 158 #[.val (.long q1), .second, .val (.long q2), .second, .val (.long q3), .second, .val (.int p4), .val (.ref b_170), .val (.ref b_220), .val (.long (0 : Int64)), .second, .val (.long (q1 - q2)), .second, .val (.int (1 : Int32)), .val (.long ((q1 - q2) + q3)), .second, .val (.long (0 : Int64)), .second, .val (.long (q1 + q3)), .second] [(.int (lcmpW (own_ar q3 ((own_ar q1 (0 : Int64)) - q2)) ((q1 - q2) + q3)))])) _
            refine XS.ifNo X_271.here hx rfl (hb hby at_158) rfl ((if0 _ _).trans (teq ((lw_eq _ _).mpr (by rw [own_ar_eq, own_ar_eq, Int64.zero_add] : (own_ar q3 ((own_ar q1 (0 : Int64)) - q2)) = ((q1 - q2) + q3)))).2) ?_
            show Steps p.tables e below (T_271.setTop (mkF m 161 #[.val (.long q1), .second, .val (.long q2), .second, .val (.long q3), .second, .val (.int p4), .val (.ref b_170), .val (.ref b_220), .val (.long (0 : Int64)), .second, .val (.long (q1 - q2)), .second, .val (.int (1 : Int32)), .val (.long ((q1 - q2) + q3)), .second, .val (.long (0 : Int64)), .second, .val (.long (q1 + q3)), .second] [])) _
            refine XS.aload X_271.here hx rfl (hb hby at_161) rfl rfl ?_
            show Steps p.tables e below (T_271.setTop (mkF m 163 #[.val (.long q1), .second, .val (.long q2), .second, .val (.long q3), .second, .val (.int p4), .val (.ref b_170), .val (.ref b_220), .val (.long (0 : Int64)), .second, .val (.long (q1 - q2)), .second, .val (.int (1 : Int32)), .val (.long ((q1 - q2) + q3)), .second, .val (.long (0 : Int64)), .second, .val (.long (q1 + q3)), .second] [(.ref b_170)])) _
            refine st_272.trans ?_
            show Steps p.tables e below (T_272.setTop (mkF m 166 #[.val (.long q1), .second, .val (.long q2), .second, .val (.long q3), .second, .val (.int p4), .val (.ref b_170), .val (.ref b_220), .val (.long (0 : Int64)), .second, .val (.long (q1 - q2)), .second, .val (.int (1 : Int32)), .val (.long ((q1 - q2) + q3)), .second, .val (.long (0 : Int64)), .second, .val (.long (q1 + q3)), .second] [(.long (own_ap q3 ((own_ar q1 (0 : Int64)) - q2) (own_ap q1 (0 : Int64) (0 : Int64) (0 : Int64)) ((0 : Int64) + q2)))])) _
            refine XS.lload X_272.here hx rfl (hb hby at_166) rfl ?_
            show Steps p.tables e below (T_272.setTop (mkF m 168 #[.val (.long q1), .second, .val (.long q2), .second, .val (.long q3), .second, .val (.int p4), .val (.ref b_170), .val (.ref b_220), .val (.long (0 : Int64)), .second, .val (.long (q1 - q2)), .second, .val (.int (1 : Int32)), .val (.long ((q1 - q2) + q3)), .second, .val (.long (0 : Int64)), .second, .val (.long (q1 + q3)), .second] [(.long (0 : Int64)), (.long (own_ap q3 ((own_ar q1 (0 : Int64)) - q2) (own_ap q1 (0 : Int64) (0 : Int64) (0 : Int64)) ((0 : Int64) + q2)))])) _
            refine XS.lcmp X_272.here hx rfl (hb hby at_168) rfl ?_
            show Steps p.tables e below (T_272.setTop (mkF m 169 #[.val (.long q1), .second, .val (.long q2), .second, .val (.long q3), .second, .val (.int p4), .val (.ref b_170), .val (.ref b_220), .val (.long (0 : Int64)), .second, .val (.long (q1 - q2)), .second, .val (.int (1 : Int32)), .val (.long ((q1 - q2) + q3)), .second, .val (.long (0 : Int64)), .second, .val (.long (q1 + q3)), .second] [(.int (lcmpW (own_ap q3 ((own_ar q1 (0 : Int64)) - q2) (own_ap q1 (0 : Int64) (0 : Int64) (0 : Int64)) ((0 : Int64) + q2)) (0 : Int64)))])) _
            refine XS.ifNo X_272.here hx rfl (hb hby at_169) rfl ((if0 _ _).trans (teq ((lw_eq _ _).mpr (by rw [own_pk]; simp only [if_neg hc47__234, if_neg hc102__258, if_neg hc116__264] : (own_ap q3 ((own_ar q1 (0 : Int64)) - q2) (own_ap q1 (0 : Int64) (0 : Int64) (0 : Int64)) ((0 : Int64) + q2)) = (0 : Int64)))).2) ?_
            show Steps p.tables e below (T_272.setTop (mkF m 172 #[.val (.long q1), .second, .val (.long q2), .second, .val (.long q3), .second, .val (.int p4), .val (.ref b_170), .val (.ref b_220), .val (.long (0 : Int64)), .second, .val (.long (q1 - q2)), .second, .val (.int (1 : Int32)), .val (.long ((q1 - q2) + q3)), .second, .val (.long (0 : Int64)), .second, .val (.long (q1 + q3)), .second] [])) _
            refine XS.iconst X_272.here hx rfl (hb hby at_172) ?_
            show Steps p.tables e below (T_272.setTop (mkF m 173 #[.val (.long q1), .second, .val (.long q2), .second, .val (.long q3), .second, .val (.int p4), .val (.ref b_170), .val (.ref b_220), .val (.long (0 : Int64)), .second, .val (.long (q1 - q2)), .second, .val (.int (1 : Int32)), .val (.long ((q1 - q2) + q3)), .second, .val (.long (0 : Int64)), .second, .val (.long (q1 + q3)), .second] [(.int (1 : Int32))])) _
            refine XS.goto X_272.here hx rfl (pc0 := 173) (pc' := 177) rfl (hb hby at_173) (by decide) (by decide) ?_
            show Steps p.tables e below (T_272.setTop (mkF m 177 #[.val (.long q1), .second, .val (.long q2), .second, .val (.long q3), .second, .val (.int p4), .val (.ref b_170), .val (.ref b_220), .val (.long (0 : Int64)), .second, .val (.long (q1 - q2)), .second, .val (.int (1 : Int32)), .val (.long ((q1 - q2) + q3)), .second, .val (.long (0 : Int64)), .second, .val (.long (q1 + q3)), .second] [(.int (1 : Int32))])) _
            refine XS.istore X_272.here hx rfl (hb hby at_177) rfl (l' := #[.val (.long q1), .second, .val (.long q2), .second, .val (.long q3), .second, .val (.int p4), .val (.ref b_170), .val (.ref b_220), .val (.long (0 : Int64)), .second, .val (.long (q1 - q2)), .second, .val (.int (1 : Int32)), .val (.long ((q1 - q2) + q3)), .second, .val (.long (0 : Int64)), .second, .val (.long (q1 + q3)), .second]) rfl ?_
            show Steps p.tables e below (T_272.setTop (mkF m 179 #[.val (.long q1), .second, .val (.long q2), .second, .val (.long q3), .second, .val (.int p4), .val (.ref b_170), .val (.ref b_220), .val (.long (0 : Int64)), .second, .val (.long (q1 - q2)), .second, .val (.int (1 : Int32)), .val (.long ((q1 - q2) + q3)), .second, .val (.long (0 : Int64)), .second, .val (.long (q1 + q3)), .second] [])) _
            refine XS.iload X_272.here hx rfl (hb hby at_179) rfl ?_
            show Steps p.tables e below (T_272.setTop (mkF m 181 #[.val (.long q1), .second, .val (.long q2), .second, .val (.long q3), .second, .val (.int p4), .val (.ref b_170), .val (.ref b_220), .val (.long (0 : Int64)), .second, .val (.long (q1 - q2)), .second, .val (.int (1 : Int32)), .val (.long ((q1 - q2) + q3)), .second, .val (.long (0 : Int64)), .second, .val (.long (q1 + q3)), .second] [(.int (1 : Int32))])) _
            exact retN X_272 hx (t := .boolean) Bd.returns (by simp) (hb hby at_181) hr
          · show Q0 Z q1 q2 q3 p4 h0 n0 _ T_272.heap _
            rw [e_272]
            exact ⟨rfl, N_272⟩
set_option maxRecDepth 65536 in
set_option maxHeartbeats 40000000 in
theorem comes_1 {Post : Tables → Env → Array Value → State → Outcome → State → Prop} (hpost : ∀ tb e args s v u, (limb_1_1.after args s (.returned v) u = true ∧ limb_1_2.after args s (.returned v) u = true ∧ True) → FrameEnd s (.returned v) u (Jvm.fieldLocs frame_1_writes args s ++ Jvm.arrayLocs frame_1_arrays args s ++ Jvm.staticLocs frame_1_statics s) 16 128 → Post tb e args s (.returned v) u) :
    ArmFor flags0 classFile x code maxLocals ret World_1 tables_1 room_1 Calls_1 rest_1 Pre_1 Post := by
  intro l hfl _ _ p e ha hc hk s m args below hf hA hF happ hP
  obtain ⟨hcalls, hrest, hpre⟩ := hP
  obtain ⟨-, -, -, hnamed, -, -, -, hat⟩ := (Spec.applies_iff hf).mp happ
  obtain ⟨hg, hn⟩ := and_e (Cond.before_iff.mp (show (Jvm.Cond.and given_1 narrow_1).before args s = true from hpre))
  obtain ⟨g_273, g_274⟩ := and_e hg
  obtain ⟨g_275, g_276⟩ := and_e g_274
  obtain ⟨g_277, g_278⟩ := and_e g_276
  obtain ⟨g_279, g_280⟩ := and_e g_278
  obtain ⟨w0, w1, w2, w3, rfl⟩ : ∃ w0 w1 w2 w3 : Value, args = #[w0, w1, w2, w3] := by
    have hs : args.size = 4 := by simpa [Cond.value, given_1] using g_273
    obtain ⟨L⟩ := args
    match L, hs with
    | [w0, w1, w2, w3], _ => exact ⟨w0, w1, w2, w3, rfl⟩
  have hw := fun d (hd : d ∈ tables_1) => atoms_spec (ws := Jvm.Cond.code x code maxLocals ret :: tables_1) hat d (List.mem_cons_of_mem _ hd)
  obtain ⟨i0, ei0⟩ := isL_v g_275
  obtain rfl : w0 = (.long i0) := Option.some.inj ei0
  obtain ⟨i1, ei1⟩ := isL_v g_277
  obtain rfl : w1 = (.long i1) := Option.some.inj ei1
  obtain ⟨i2, ei2⟩ := isL_v g_279
  obtain rfl : w2 = (.long i2) := Option.some.inj ei2
  obtain ⟨i3, ei3⟩ := is_v g_280
  obtain rfl : w3 = (.int i3) := Option.some.inj ei3
  obtain ⟨n, o, h1, h2, h3, _, L, rfl, ⟨rfl, N⟩, hq⟩ := rm0 l s _ hw tables_1 i0 i1 i2 i3 s.heap s.heap.size (Nat.le_refl _) p e ha hc hk s m _ below hf ((Spec.applies_iff_loose hf).mp happ).1 ⟨rfl, State.Warmed39.refl s, rfl⟩ trivial
  refine ⟨n, _, h1, h2, h3, hpost _ _ _ _ _ _ ⟨Cond.after_iff.mpr rfl, Cond.after_iff.mpr (eq_i res_at (Term.int_eval (1)) rfl), trivial⟩ ⟨hq.1, hq.2.1, (hq.2.2.sift fun y hy => Or.inr (N y hy)).mono (by decide) (by decide)⟩⟩
theorem main_1_1 : Claimed_1_1 := comes_1 fun _ _ _ _ _ _ h hF => ⟨h.1, hF⟩
theorem main_1_2 : Claimed_1_2 := comes_1 fun _ _ _ _ _ _ h hF => ⟨h.2.1, hF⟩
end Jvm.Pilot.@@N@@
namespace Jvm.Pilot.@@N@@
open Jvm Jvm.ClassFile Sem Op Lib Jvm.Free Jvm.Stand Jvm.Pilot.@@N@@.Jvm.D
/-! MADE BY PROGRAM (witnessworld.py) out of the Statement's table words and the real class files: 9 classes; the members and pool entries that the words name. The judged class is class 1, her method 1. -/
namespace start1
open Jvm.ClassFile
def u (s : String) : CpInfo := .utf8 (stringToUtf16 s)
/-- a pool by its gaps: so many unusable entries, then the entry; so many at the end -/
def gap : Nat → List CpInfo → List CpInfo
  | 0, r => r
  | n + 1, r => .unusable :: gap n r
def poolList (es : List (Nat × CpInfo)) (last : Nat) : List CpInfo := es.foldr (fun e r => gap e.1 (e.2 :: r)) (gap last [])
def pool (es : List (Nat × CpInfo)) (last : Nat) : Array CpInfo := ⟨poolList es last⟩
def fileOf (pool : Array CpInfo) (this : Nat) (attrs : Array Attribute := #[]) (ms : Array MethodInfo := #[]) (fl : Nat := 33) (sup : Nat := 0) (ifs : Array Nat := #[]) (fds : Array FieldInfo := #[]) : ClassFile where
  minorVersion := 0
  majorVersion := 65
  constantPool := pool
  accessFlags := fl
  thisClass := this
  superClass := sup
  interfaces := ifs
  fields := fds
  methods := ms
  attributes := attrs
def plain (name : String) (sup : Option ClassId) : Class where
  name := name
  kind := .ordinary
  loader := none
  accessFlags := 33
  super := sup
  interfaces := #[]
  cf := none
  fields := #[]
  methods := #[]
  instanceTypes := #[]
  staticTypes := #[]
  resolved := #[]
  callSites := []
  init := .initialized
  statics := none
  mirror := none

def pool0 : Array CpInfo := pool [(5, u "<init>"), (0, u "()V"), (1, .class_ 10), (1, u "java/lang/Object")] 113

def k0c0 : Code := { maxStack := 0, maxLocals := 1, code := object_method_1_code, exceptionTable := #[], attributes := #[] }
def k0m0 : Method := { name := "<init>", desc := "()V", sig := { parameters := [], returnType := none }, accessFlags := 1, code := some k0c0 }
/-- java/lang/Object -/
def k0 : Class := { plain "java/lang/Object" none with
  accessFlags := 33
  interfaces := #[]
  cf := some (fileOf pool0 8 #[] #[{ accessFlags := 1, nameIndex := 5, descriptorIndex := 6, attributes := #[] }] 33 0 #[] #[])
  fields := #[]
  methods := #[k0m0]
  instanceTypes := #[]
  staticTypes := #[]
  resolved := Array.replicate 124 none
  statics := none }

def pool1 : Array CpInfo := pool [(2, .class_ 4), (0, .nameAndType 5 6), (0, u "java/lang/Object"), (0, u "<init>"), (0, u "()V"), (0, .class_ 8), (0, u "org/millrace/engine/Footprint"), (0, .methodref 7 3), (0, .methodref 7 11), (0, .nameAndType 5 12), (0, u "(Lorg/millrace/engine/Footprint;)V"), (0, .methodref 7 14), (0, .nameAndType 15 16), (0, u "add"), (0, u "(J)V"), (0, .methodref 7 18), (0, .nameAndType 19 16), (0, u "setAside"), (0, .methodref 7 21), (0, .nameAndType 22 23), (0, u "rows"), (0, u "()J"), (0, .methodref 7 25), (0, .nameAndType 26 23), (0, u "peak"), (0, .class_ 28), (0, u "org/millrace/engine/FootprintSetAsidePinLaw"), (2, u "law"), (0, u "(JJJI)Z")] 3

def k1m0 : Method := { name := "<init>", desc := "()V", sig := { parameters := [], returnType := none }, accessFlags := 1, code := none }
def k1c1 : Code := { maxStack := 4, maxLocals := 20, code := code, exceptionTable := #[], attributes := #[] }
def k1m1 : Method := { name := "law", desc := "(JJJI)Z", sig := { parameters := [.long, .long, .long, .int], returnType := some .boolean }, accessFlags := 9, code := some k1c1 }
/-- org/millrace/engine/FootprintSetAsidePinLaw -/
def k1 : Class := { plain "org/millrace/engine/FootprintSetAsidePinLaw" (some 0) with
  accessFlags := 49
  interfaces := #[]
  cf := some (fileOf pool1 27 #[] #[{ accessFlags := 1, nameIndex := 5, descriptorIndex := 6, attributes := #[] }, { accessFlags := 9, nameIndex := 31, descriptorIndex := 32, attributes := #[] }] 49 2 #[] #[])
  fields := #[]
  methods := #[k1m0, k1m1]
  instanceTypes := #[]
  staticTypes := #[]
  resolved := Array.replicate 36 none
  statics := none }

def pool2 : Array CpInfo := pool [(1, .methodref 2 3), (0, .class_ 4), (0, .nameAndType 5 6), (0, u "org/millrace/engine/Footprint"), (0, u "<init>"), (0, u "(Lorg/millrace/engine/Footprint;)V"), (0, .methodref 8 9), (0, .class_ 10), (0, .nameAndType 5 11), (0, u "java/lang/Object"), (0, u "()V"), (0, .fieldref 2 13), (0, .nameAndType 14 15), (0, u "whole"), (0, u "Lorg/millrace/engine/Footprint;"), (0, .fieldref 2 17), (0, .nameAndType 18 19), (0, u "rows"), (0, u "J"), (0, .fieldref 2 21), (0, .nameAndType 22 19), (0, u "peak"), (0, .fieldref 2 24), (0, .nameAndType 25 19), (0, u "aside"), (24, u "add"), (0, u "(J)V"), (2, u "()J"), (1, u "setAside")] 6

def k2c0 : Code := { maxStack := 2, maxLocals := 1, code := prog_68_method_1_code, exceptionTable := #[], attributes := #[] }
def k2m0 : Method := { name := "<init>", desc := "()V", sig := { parameters := [], returnType := none }, accessFlags := 1, code := some k2c0 }
def k2c1 : Code := { maxStack := 2, maxLocals := 2, code := prog_68_method_2_code, exceptionTable := #[], attributes := #[] }
def k2m1 : Method := { name := "<init>", desc := "(Lorg/millrace/engine/Footprint;)V", sig := { parameters := [(.object "org/millrace/engine/Footprint")], returnType := none }, accessFlags := 0, code := some k2c1 }
def k2c2 : Code := { maxStack := 2, maxLocals := 1, code := prog_68_method_3_code, exceptionTable := #[], attributes := #[] }
def k2m2 : Method := { name := "rows", desc := "()J", sig := { parameters := [], returnType := some .long }, accessFlags := 1, code := some k2c2 }
def k2c3 : Code := { maxStack := 2, maxLocals := 1, code := prog_68_method_4_code, exceptionTable := #[], attributes := #[] }
def k2m3 : Method := { name := "peak", desc := "()J", sig := { parameters := [], returnType := some .long }, accessFlags := 1, code := some k2c3 }
def k2c4 : Code := { maxStack := 5, maxLocals := 6, code := prog_68_method_5_code, exceptionTable := #[], attributes := #[] }
def k2m4 : Method := { name := "add", desc := "(J)V", sig := { parameters := [.long], returnType := none }, accessFlags := 0, code := some k2c4 }
def k2c5 : Code := { maxStack := 5, maxLocals := 4, code := prog_68_method_6_code, exceptionTable := #[], attributes := #[] }
def k2m5 : Method := { name := "setAside", desc := "(J)V", sig := { parameters := [.long], returnType := none }, accessFlags := 0, code := some k2c5 }
/-- org/millrace/engine/Footprint -/
def k2 : Class := { plain "org/millrace/engine/Footprint" (some 0) with
  accessFlags := 49
  interfaces := #[]
  cf := some (fileOf pool2 2 #[] #[{ accessFlags := 1, nameIndex := 5, descriptorIndex := 11, attributes := #[] }, { accessFlags := 0, nameIndex := 5, descriptorIndex := 6, attributes := #[] }, { accessFlags := 1, nameIndex := 18, descriptorIndex := 54, attributes := #[] }, { accessFlags := 1, nameIndex := 22, descriptorIndex := 54, attributes := #[] }, { accessFlags := 0, nameIndex := 50, descriptorIndex := 51, attributes := #[] }, { accessFlags := 0, nameIndex := 56, descriptorIndex := 51, attributes := #[] }] 49 8 #[] #[{ accessFlags := 18, nameIndex := 14, descriptorIndex := 15, attributes := #[] }, { accessFlags := 2, nameIndex := 18, descriptorIndex := 19, attributes := #[] }, { accessFlags := 2, nameIndex := 25, descriptorIndex := 19, attributes := #[] }, { accessFlags := 2, nameIndex := 22, descriptorIndex := 19, attributes := #[] }])
  fields := #[{ name := "whole", type := (.object "org/millrace/engine/Footprint"), accessFlags := 18, slot := 0, constantValue := 0 }, { name := "rows", type := .long, accessFlags := 2, slot := 1, constantValue := 0 }, { name := "aside", type := .long, accessFlags := 2, slot := 2, constantValue := 0 }, { name := "peak", type := .long, accessFlags := 2, slot := 3, constantValue := 0 }]
  methods := #[k2m0, k2m1, k2m2, k2m3, k2m4, k2m5]
  instanceTypes := #[(.object "org/millrace/engine/Footprint"), .long, .long, .long]
  staticTypes := #[]
  resolved := Array.replicate 63 none
  statics := none }

def pool3 : Array CpInfo := pool [(1, u "java/lang/Cloneable"), (0, .class_ 1), (0, u "java/lang/Object"), (0, .class_ 3)] 3

/-- java/lang/Cloneable -/
def k3 : Class := { plain "java/lang/Cloneable" (some 0) with
  accessFlags := 1537
  interfaces := #[]
  cf := some (fileOf pool3 2 #[] #[] 1537 4 #[] #[])
  fields := #[]
  methods := #[]
  instanceTypes := #[]
  staticTypes := #[]
  resolved := Array.replicate 8 none
  statics := none }

def pool4 : Array CpInfo := pool [(1, u "java/io/Serializable"), (0, .class_ 1), (0, u "java/lang/Object"), (0, .class_ 3)] 3

/-- java/io/Serializable -/
def k4 : Class := { plain "java/io/Serializable" (some 0) with
  accessFlags := 1537
  interfaces := #[]
  cf := some (fileOf pool4 2 #[] #[] 1537 4 #[] #[])
  fields := #[]
  methods := #[]
  instanceTypes := #[]
  staticTypes := #[]
  resolved := Array.replicate 8 none
  statics := none }

/-- the primitive byte -/
def k5 : Class := { plain "byte" none with kind := .primitive 'B', accessFlags := 0x411 }
/-- [B -/
def k6 : Class := { plain "[B" (some 0) with kind := .array 5 .byte, interfaces := #[3, 4], accessFlags := 1041 }

/-- the primitive int -/
def k7 : Class := { plain "int" none with kind := .primitive 'I', accessFlags := 0x411 }
/-- [I -/
def k8 : Class := { plain "[I" (some 0) with kind := .array 7 .int, interfaces := #[3, 4], accessFlags := 1041 }

def heap : Heap := #[]
def classes : Array Class := #[k0, k1, k2, k3, k4, k5, k6, k7, k8]
def interned : List (Array UInt16 × Addr) := []
def slotsUsed : Nat := 0
def theMethod : MethodId := ⟨1, 1⟩
def args0 : Array Value := #[.long 5, .long 5, .long 5, .int 1]
def aboutOver (below : List Frame) : State where
  vm := { classes := classes, interned := interned.toArray }
  heap := heap
  slotsUsed := slotsUsed
  threads := #[{ frames := .invoking theMethod args0 :: below }]
def below0 : List Frame := [.native { method := ⟨0, 0⟩, args := #[] }]
def about1 : State := aboutOver below0
def p0 : Program := .bare "" "" ""
def e0 : Env := launch0.env 0 0 0
theorem w_frames : about1.frames = Frame.invoking theMethod args0 :: below0 := rfl
set_option maxRecDepth 65536 in
theorem w_args : argsFit about1.vm theMethod args0 = true := by decide +kernel
set_option maxRecDepth 65536 in
theorem w_heap : heapFits about1 = true := by decide +kernel
set_option maxRecDepth 65536 in
theorem w_runnable : about1.curStatus? = some .runnable := by decide +kernel
set_option maxRecDepth 65536 in
theorem w_alone : about1.alone = true := by decide +kernel
set_option maxRecDepth 65536 in
theorem w_named : about1.methodNamed? x = some theMethod := by decide +kernel
set_option maxRecDepth 65536 in
theorem w_hears : about1.hears theMethod below0 = true := by decide +kernel
set_option maxRecDepth 65536 in
theorem w_ripe : about1.ripe theMethod args0 below0 = true := by decide +kernel
theorem w_running : about1.status = .running := rfl
set_option maxRecDepth 65536 in
theorem w_room : about1.hasRoom e0.platform room_1 = true :=
  launch0.hasRoom_least _ room_1 (by decide +kernel) (by decide +kernel) (by decide +kernel) (by decide +kernel) (by decide +kernel) (by decide +kernel)
theorem allAtoms_all (ts : List Jvm.Cond) (a : Array Jvm.Value) (st : Jvm.State) : (allAtoms ts).before a st = ts.all (fun c => c.before a st) := by
  induction ts with
  | nil => rfl
  | cons c t ih =>
    show (Jvm.Cond.and c (allAtoms t)).before a st = _
    rw [Jvm.Cond.before_and, ih, List.all_cons]
def words1 : List Jvm.Cond := Jvm.Cond.code x code maxLocals ret :: tables_1
/-- a 'code' word, met by the world's own term for the bytes: nothing is compared byte by byte -/
theorem code_word {y : MethodName} {bytes : ByteArray} {mx : Nat} {rt : Option FieldType} {a : Array Value} {s : State} {m : MethodId} {meth : Method} {c : Code} (h1 : s.methodNamed? y = some m) (h2 : s.vm.method? m = some meth) (h3 : meth.code = some c) (h4 : c.code = bytes)
    (h5 : (c.maxLocals == mx && c.exceptionTable.isEmpty && decide (c.maxStack ≤ mostOperands) && decide (meth.sig.returnType = rt) && !meth.locks && decide (parseMethodDescriptor y.desc = some meth.sig)) = true) : (Jvm.Cond.code y bytes mx rt).before a s = true := by
  simp only [Bool.and_eq_true, beq_iff_eq, Bool.not_eq_true', decide_eq_true_eq] at h5
  obtain ⟨⟨⟨⟨⟨g1, g2⟩, g3⟩, g4⟩, g5⟩, g6⟩ := h5
  simp [Cond.before, Cond.holds, Cond.value, h1, h2, h3, h4, g1, g2, g3, g4, g5, g6]
def isCode : Jvm.Cond → Bool
  | .code _ _ _ _ => true
  | _ => false
theorem all_split {L : List Jvm.Cond} {P : Jvm.Cond → Bool} (h1 : L.all (fun c => isCode c || P c) = true) (h2 : ∀ c ∈ L.filter isCode, P c = true) : L.all P = true := by
  refine List.all_eq_true.mpr fun c hc => ?_
  have h := List.all_eq_true.mp h1 c hc
  rcases Bool.eq_false_or_eq_true (isCode c) with hi | hi
  · exact h2 c (List.mem_filter.mpr ⟨hc, hi⟩)
  · simpa [hi] using h
set_option maxRecDepth 65536 in
theorem w_c0 : (Jvm.Cond.code x code maxLocals ret).before args0 about1 = true := code_word (m := ⟨1, 1⟩) (meth := k1m1) (c := k1c1) (by decide +kernel) rfl rfl rfl (by decide +kernel)
set_option maxRecDepth 65536 in
theorem w_c1 : (Jvm.Cond.code ({ cls := "org/millrace/engine/Footprint", name := "<init>", desc := "()V" } : Jvm.MethodName) prog_68_method_1_code (1 : Nat) (Option.none : Option Jvm.ClassFile.FieldType)).before args0 about1 = true := code_word (m := ⟨2, 0⟩) (meth := k2m0) (c := k2c0) (by decide +kernel) rfl rfl rfl (by decide +kernel)
set_option maxRecDepth 65536 in
theorem w_c2 : (Jvm.Cond.code ({ cls := "org/millrace/engine/Footprint", name := "<init>", desc := "(Lorg/millrace/engine/Footprint;)V" } : Jvm.MethodName) prog_68_method_2_code (2 : Nat) (Option.none : Option Jvm.ClassFile.FieldType)).before args0 about1 = true := code_word (m := ⟨2, 1⟩) (meth := k2m1) (c := k2c1) (by decide +kernel) rfl rfl rfl (by decide +kernel)
set_option maxRecDepth 65536 in
theorem w_c3 : (Jvm.Cond.code ({ cls := "java/lang/Object", name := "<init>", desc := "()V" } : Jvm.MethodName) object_method_1_code (1 : Nat) (Option.none : Option Jvm.ClassFile.FieldType)).before args0 about1 = true := code_word (m := ⟨0, 0⟩) (meth := k0m0) (c := k0c0) (by decide +kernel) rfl rfl rfl (by decide +kernel)
set_option maxRecDepth 65536 in
theorem w_c4 : (Jvm.Cond.code ({ cls := "org/millrace/engine/Footprint", name := "add", desc := "(J)V" } : Jvm.MethodName) prog_68_method_5_code (6 : Nat) (Option.none : Option Jvm.ClassFile.FieldType)).before args0 about1 = true := code_word (m := ⟨2, 4⟩) (meth := k2m4) (c := k2c4) (by decide +kernel) rfl rfl rfl (by decide +kernel)
set_option maxRecDepth 65536 in
theorem w_c5 : (Jvm.Cond.code ({ cls := "org/millrace/engine/Footprint", name := "setAside", desc := "(J)V" } : Jvm.MethodName) prog_68_method_6_code (4 : Nat) (Option.none : Option Jvm.ClassFile.FieldType)).before args0 about1 = true := code_word (m := ⟨2, 5⟩) (meth := k2m5) (c := k2c5) (by decide +kernel) rfl rfl rfl (by decide +kernel)
set_option maxRecDepth 65536 in
theorem w_c6 : (Jvm.Cond.code ({ cls := "org/millrace/engine/Footprint", name := "rows", desc := "()J" } : Jvm.MethodName) prog_68_method_3_code (1 : Nat) (Option.some Jvm.ClassFile.FieldType.long)).before args0 about1 = true := code_word (m := ⟨2, 2⟩) (meth := k2m2) (c := k2c2) (by decide +kernel) rfl rfl rfl (by decide +kernel)
set_option maxRecDepth 65536 in
theorem w_c7 : (Jvm.Cond.code ({ cls := "org/millrace/engine/Footprint", name := "peak", desc := "()J" } : Jvm.MethodName) prog_68_method_4_code (1 : Nat) (Option.some Jvm.ClassFile.FieldType.long)).before args0 about1 = true := code_word (m := ⟨2, 3⟩) (meth := k2m3) (c := k2c3) (by decide +kernel) rfl rfl rfl (by decide +kernel)
def codes1 : List Jvm.Cond := [Jvm.Cond.code x code maxLocals ret, Jvm.Cond.code ({ cls := "org/millrace/engine/Footprint", name := "<init>", desc := "()V" } : Jvm.MethodName) prog_68_method_1_code (1 : Nat) (Option.none : Option Jvm.ClassFile.FieldType), Jvm.Cond.code ({ cls := "org/millrace/engine/Footprint", name := "<init>", desc := "(Lorg/millrace/engine/Footprint;)V" } : Jvm.MethodName) prog_68_method_2_code (2 : Nat) (Option.none : Option Jvm.ClassFile.FieldType), Jvm.Cond.code ({ cls := "java/lang/Object", name := "<init>", desc := "()V" } : Jvm.MethodName) object_method_1_code (1 : Nat) (Option.none : Option Jvm.ClassFile.FieldType), Jvm.Cond.code ({ cls := "org/millrace/engine/Footprint", name := "add", desc := "(J)V" } : Jvm.MethodName) prog_68_method_5_code (6 : Nat) (Option.none : Option Jvm.ClassFile.FieldType), Jvm.Cond.code ({ cls := "org/millrace/engine/Footprint", name := "setAside", desc := "(J)V" } : Jvm.MethodName) prog_68_method_6_code (4 : Nat) (Option.none : Option Jvm.ClassFile.FieldType), Jvm.Cond.code ({ cls := "org/millrace/engine/Footprint", name := "rows", desc := "()J" } : Jvm.MethodName) prog_68_method_3_code (1 : Nat) (Option.some Jvm.ClassFile.FieldType.long), Jvm.Cond.code ({ cls := "org/millrace/engine/Footprint", name := "peak", desc := "()J" } : Jvm.MethodName) prog_68_method_4_code (1 : Nat) (Option.some Jvm.ClassFile.FieldType.long)]
set_option maxRecDepth 65536 in
theorem codes_eq : words1.filter isCode = codes1 := rfl
theorem w_codes : ∀ c ∈ words1.filter isCode, c.before args0 about1 = true := by
  rw [codes_eq]
  intro c hc
  simp only [codes1, List.mem_cons, List.not_mem_nil, or_false] at hc
  rcases hc with rfl | rfl | rfl | rfl | rfl | rfl | rfl | rfl
  · exact w_c0
  · exact w_c1
  · exact w_c2
  · exact w_c3
  · exact w_c4
  · exact w_c5
  · exact w_c6
  · exact w_c7
set_option maxRecDepth 65536 in
theorem w_t1 : (words1.take 24).all (fun c => isCode c || c.before args0 about1) = true := by decide +kernel
set_option maxRecDepth 65536 in
theorem w_t2 : (words1.drop 24).all (fun c => isCode c || c.before args0 about1) = true := by decide +kernel
theorem w_tables : (allAtoms (Jvm.Cond.code x code maxLocals ret :: tables_1)).before args0 about1 = true := by
  rw [allAtoms_all]
  show words1.all (fun c => c.before args0 about1) = true
  refine all_split ?_ w_codes
  rw [← List.take_append_drop 24 words1, List.all_append, w_t1, w_t2]
  rfl
set_option maxRecDepth 65536 in
theorem w_case : (Jvm.Cond.and given_1 narrow_1).before args0 about1 = true := by decide +kernel
theorem w_applies : (headSpec (Jvm.Cond.code x code maxLocals ret :: tables_1) room_1).applies x e0.platform about1 = true :=
  (Spec.applies_iff w_frames).mpr ⟨w_running, w_runnable, w_alone, w_named, w_hears, w_ripe, w_room, w_tables⟩
theorem atStart : AtStart classFile x code maxLocals ret World_1 tables_1 room_1 Calls_1 rest_1 Pre_1 launch0 p0 e0 about1 theMethod args0 below0 :=
  ⟨lists_1, trivial, launch0.admits_env _ _ _, launch0.least_env, fairChoices_fair.cas, fairChoices_fair.clock, w_frames, w_args, w_heap, w_applies, trivial, trivial, w_case⟩
end start1
theorem witness_1 : WitnessClaimed_1 := ⟨start1.p0, start1.e0, start1.about1, start1.theMethod, start1.args0, start1.below0, start1.atStart⟩
end Jvm.Pilot.@@N@@
