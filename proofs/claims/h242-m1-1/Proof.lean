import JvmDerived
import JvmDerived.Pilot.@@N@@Statement
import JvmDerived.Pilot.@@N@@Code
set_option linter.unusedVariables false
set_option linter.unusedSimpArgs false
namespace Jvm.RoadKit
open Sem ClassFile Op Lib Jvm.Stand Jvm.Free Jvm.LawKit
section New
variable {p : Program} {l : Launch} {e : Env} {R : Room} {s : State} {m : MethodId} {args : Array Value} {below : List Frame} {meth : Method} {c : Code} {T : State} {locs : List Loc} {cells slots : Nat}
theorem retI (X : Stand p l e R s m args below meth c T locs cells slots) (hx : p.tables.exec = Jvm.exec) {pc : Nat} {Ls : Array Slot} {z : Int32} {rest : List Value} (hret : meth.sig.returnType = some .int) (hd : decode c.code pc = .ok (.ireturn, 1)) {fs : List Frame}
    (hl : ∀ (f : JFrame) (acts : List Action), f.method = m → f.locked = none → f.entered = [] → (doReturn e (T.setTop f) acts (some (.int z))).1 = T.setFrames fs) : Steps p.tables e below (T.setTop (mkF m pc Ls (.int z :: rest))) (T.setFrames fs) := by
  have hm' : T.vm.method? m = some meth := X.method'
  have hn : narrow .int (.int z) = .int z := rfl
  show Steps p.tables e below (T.setTop { method := m, pc := pc, locals := Ls, stack := _ :: rest, locked := none }) _
  jvm_step X.here [X.here.top, hx, hd, hm', hret, hn]
  first | (intro acts; rw [hl _ acts rfl rfl rfl]) | rw [hl _ _ rfl rfl rfl]
  exact Steps.refl _
theorem retL (X : Stand p l e R s m args below meth c T locs cells slots) (hx : p.tables.exec = Jvm.exec) {pc : Nat} {Ls : Array Slot} {z : Int64} {rest : List Value} (hret : meth.sig.returnType = some .long) (hd : decode c.code pc = .ok (.lreturn, 1)) {fs : List Frame}
    (hl : ∀ (f : JFrame) (acts : List Action), f.method = m → f.locked = none → f.entered = [] → (doReturn e (T.setTop f) acts (some (.long z))).1 = T.setFrames fs) : Steps p.tables e below (T.setTop (mkF m pc Ls (.long z :: rest))) (T.setFrames fs) := by
  have hm' : T.vm.method? m = some meth := X.method'
  have hn : narrow .long (.long z) = .long z := rfl
  show Steps p.tables e below (T.setTop { method := m, pc := pc, locals := Ls, stack := _ :: rest, locked := none }) _
  jvm_step X.here [X.here.top, hx, hd, hm', hret, hn]
  first | (intro acts; rw [hl _ acts rfl rfl rfl]) | rw [hl _ _ rfl rfl rfl]
  exact Steps.refl _
end New
end Jvm.RoadKit
namespace Jvm.Pilot.@@N@@
open Jvm Jvm.ClassFile Sem Op Lib Jvm.Free Jvm.Stand Jvm.LawKit Jvm.RoadKit Bundle Jvm.Pilot.@@N@@.Jvm.D
def own_ar (q w : Int64) : Int64 := if q = (0 : Int64) then w else w + q
def own_ap (q r p s : Int64) : Int64 := if q = (0 : Int64) then p else if p < (r + q) + s then (r + q) + s else p
theorem own_ar_eq (q w : Int64) : own_ar q w = w + q := by
  unfold own_ar
  by_cases h : q = (0 : Int64)
  · rw [if_pos h, h, Int64.add_zero]
  · rw [if_neg h]
theorem own_kept (a s k : Int64) : ((a - s) + k) + ((0 : Int64) + s) = a + k := by
  rw [Int64.zero_add, Int64.add_assoc, Int64.add_comm k s, ← Int64.add_assoc, Int64.sub_add_cancel]
theorem d2_0 : decode prog_68_method_2_code 0 = .ok (.aload_n 0, 1) := by decide +kernel
theorem d2_1 : decode prog_68_method_2_code 1 = .ok (.invokespecial 7, 3) := by decide +kernel
theorem d2_4 : decode prog_68_method_2_code 4 = .ok (.aload_n 0, 1) := by decide +kernel
theorem d2_5 : decode prog_68_method_2_code 5 = .ok (.aload_n 1, 1) := by decide +kernel
theorem d2_6 : decode prog_68_method_2_code 6 = .ok (.putfield 12, 3) := by decide +kernel
theorem d2_9 : decode prog_68_method_2_code 9 = .ok (.return_, 1) := by decide +kernel
theorem pn_2 : plainName "org/millrace/engine/Footprint" = true := by first | (simp [plainName, overriddenIn]; done) | decide +kernel
theorem ef_2n (m : MethodId) (x0 : Addr) : entryFrame m #[(.ref x0), .null] 2 = mkF m 0 #[.val (.ref x0), .val .null] [] := by first | (simp [entryFrame, mkF, argsToLocals, Value.category]; done) | rfl
def Q2n (Z : State) (a1 : Addr) (h0 : Heap) (n0 : Nat) (v : Option Value) (h : Heap) (L : List Loc) : Prop := v = none ∧ Fr n0 L ∧ Keep h0 h [a1] ∧ Exa Z h a1 "org/millrace/engine/Footprint" ∧ Fld Z h a1 "org/millrace/engine/Footprint" "rows" "J" (.long (0 : Int64)) ∧ Fld Z h a1 "org/millrace/engine/Footprint" "peak" "J" (.long (0 : Int64)) ∧ Fld Z h a1 "org/millrace/engine/Footprint" "aside" "J" (.long (0 : Int64)) ∧ Fld Z h a1 "org/millrace/engine/Footprint" "whole" "Lorg/millrace/engine/Footprint;" .null
set_option maxRecDepth 65536 in
set_option maxHeartbeats 40000000 in
theorem rm2n (l : Launch) (Z : State) (a0 : Array Value) (hw : ∀ d ∈ tables_1, d.before a0 Z = true) (ws : List Jvm.Cond) (a1 : Addr) (h0 : Heap) (n0 : Nat) (Z0 : n0 ≤ h0.size) (E_a1 : Exa Z h0 a1 "org/millrace/engine/Footprint") (F_a1_rows : Fld Z h0 a1 "org/millrace/engine/Footprint" "rows" "J" (.long (0 : Int64))) (F_a1_peak : Fld Z h0 a1 "org/millrace/engine/Footprint" "peak" "J" (.long (0 : Int64))) (F_a1_aside : Fld Z h0 a1 "org/millrace/engine/Footprint" "aside" "J" (.long (0 : Int64))) (F_a1_whole : Fld Z h0 a1 "org/millrace/engine/Footprint" "whole" "Lorg/millrace/engine/Footprint;" .null) (g_a1 : n0 ≤ a1) :
    MetFree l (⟨"org/millrace/engine/Footprint", "<init>", "(Lorg/millrace/engine/Footprint;)V"⟩ : MethodName) (head1 (Jvm.Cond.code (⟨"org/millrace/engine/Footprint", "<init>", "(Lorg/millrace/engine/Footprint;)V"⟩ : MethodName) prog_68_method_2_code 2 none :: ws) ({ frames := 1, cells := 0, slots := 0, locals := 12 } : Room)) (fun a U => a = #[(.ref a1), .null] ∧ Z.Warmed39 U.vm ∧ U.heap = h0) (fun _ _ _ _ _ => True) (fun _ U o U' => ∃ v L, o = .returned v ∧ Q2n Z a1 h0 n0 v U'.heap L ∧ FrameEnd U o U' L ({ frames := 1, cells := 0, slots := 0, locals := 12 } : Room).cells ({ frames := 1, cells := 0, slots := 0, locals := 12 } : Room).slots) := by
  refine MetFree.of_bodySF (plainFor_of_name pn_2) hisR ?_
  intro p e s m args below meth c s₁ Bd hml0 hP hK
  obtain ⟨rfl, hZ, hh⟩ := hP
  have hx := Bd.exec
  have hby := Bd.bytes
  have hml : c.maxLocals = 2 := hml0
  have hown : s.vm.findClass "org/millrace/engine/Footprint" = some m.cls := findClass_of_methodNamed Bd.named
  have hnm := (name_of_methodNamed Bd.named Bd.method).1
  have X0 : Stand p l e ({ frames := 1, cells := 0, slots := 0, locals := 12 } : Room) s m #[(.ref a1), .null] below meth c s₁ [] 0 0 := Stand.of_body Bd
  have e0 : s₁.heap = h0 := by rw [← hh, Bd.state]; rfl
  have N0 := Fr.nil n0
  have pre0 : ∀ t, Steps p.tables e below (s₁.setTop (mkF m 0 #[.val (.ref a1), .val .null] [])) t → Steps p.tables e below (s₁.setTop (entryFrame m #[(.ref a1), .null] 2)) t := fun t k => castTop (ef_2n m a1) k
  obtain ⟨T1, X1, e1, st1⟩ := initO X0 hx hZ hown (hw _ (List.mem_of_getElem? (i := 9) rfl)) (hw _ (List.mem_of_getElem? (i := 10) rfl)) (hw _ (List.mem_of_getElem? (i := 11) rfl)) e0 (g := (mkF m 1 #[.val (.ref a1), .val .null] [(.ref a1)])) rfl (by rw [hml]; rfl) rfl (hb hby d2_1) (by decide) (W := 0) (by show 2 * 0 + _ ≤ _; exact Nat.le_of_eq rfl) (by decide)
  obtain ⟨T2, h2, X2, e2, W2, st2⟩ := putF X1 hx hZ hown (host := "") (Or.inl (hw _ (List.mem_of_getElem? (i := 12) rfl))) Via.refl e1 F_a1_whole E_a1 (Or.inr ⟨(hw _ (List.mem_of_getElem? (i := 13) rfl)), rfl, hnm⟩) (hw _ (List.mem_of_getElem? (i := 1) rfl)) (ty := (.object "org/millrace/engine/Footprint")) (by decide) rfl rfl (g := (mkF m 6 #[.val (.ref a1), .val .null] [.null, (.ref a1)])) rfl rfl (hb hby d2_6)
  have z3 : n0 ≤ h2.size := Nat.le_trans Z0 (Keep.of_wr W2).1
  have fw2 : Fld Z h2 a1 "org/millrace/engine/Footprint" "whole" "Lorg/millrace/engine/Footprint;" .null := F_a1_whole.same W2
  have N2 := Fr.snoc X2 N0 g_a1
  have K2 : Keep h0 h2 [a1] := (Keep.refl h0 [a1]).wr W2 (Or.inl (List.mem_of_getElem? (i := 0) rfl))
  obtain ⟨fs, hr, hrun, hended, hW, hsame⟩ := X2.leave (v := none) (fun _ => rfl)
  refine ⟨_, _, pre0 _ ?_, hrun, hended, _, _, rfl, ?_, ⟨_, rfl⟩, hW, hsame.mono (by decide) (by decide)⟩
  · show Steps p.tables e below (s₁.setTop (mkF m 0 #[.val (.ref a1), .val .null] [])) _
    refine XS.aloadN X0.here hx rfl (hb hby d2_0) rfl rfl ?_
    show Steps p.tables e below (s₁.setTop (mkF m 1 #[.val (.ref a1), .val .null] [(.ref a1)])) _
    refine st1 _ ?_
    show Steps p.tables e below (T1.setTop (mkF m 4 #[.val (.ref a1), .val .null] [])) _
    refine XS.aloadN X1.here hx rfl (hb hby d2_4) rfl rfl ?_
    show Steps p.tables e below (T1.setTop (mkF m 5 #[.val (.ref a1), .val .null] [(.ref a1)])) _
    refine XS.aloadN X1.here hx rfl (hb hby d2_5) rfl rfl ?_
    show Steps p.tables e below (T1.setTop (mkF m 6 #[.val (.ref a1), .val .null] [.null, (.ref a1)])) _
    refine st2 _ ?_
    show Steps p.tables e below (T2.setTop (mkF m 9 #[.val (.ref a1), .val .null] [])) _
    exact X2.returnOut hx Bd.returns (hb hby d2_9) hr
  have f4 : Exa Z h2 a1 "org/millrace/engine/Footprint" := (E_a1.wr W2)
  have f5 : Fld Z h2 a1 "org/millrace/engine/Footprint" "rows" "J" (.long (0 : Int64)) := (F_a1_rows.other W2 (Or.inr (slot_ne (Or.inl (hw _ (List.mem_of_getElem? (i := 21) rfl))) (Or.inr (hw _ (List.mem_of_getElem? (i := 13) rfl))) (by decide) (t := .long) (t' := (.object "org/millrace/engine/Footprint")) (by decide) (by decide))))
  have f6 : Fld Z h2 a1 "org/millrace/engine/Footprint" "peak" "J" (.long (0 : Int64)) := (F_a1_peak.other W2 (Or.inr (slot_ne (Or.inl (hw _ (List.mem_of_getElem? (i := 25) rfl))) (Or.inr (hw _ (List.mem_of_getElem? (i := 13) rfl))) (by decide) (t := .long) (t' := (.object "org/millrace/engine/Footprint")) (by decide) (by decide))))
  have f7 : Fld Z h2 a1 "org/millrace/engine/Footprint" "aside" "J" (.long (0 : Int64)) := (F_a1_aside.other W2 (Or.inr (slot_ne (Or.inl (hw _ (List.mem_of_getElem? (i := 23) rfl))) (Or.inr (hw _ (List.mem_of_getElem? (i := 13) rfl))) (by decide) (t := .long) (t' := (.object "org/millrace/engine/Footprint")) (by decide) (by decide))))
  · show Q2n Z a1 h0 n0 _ T2.heap _
    rw [e2]
    exact ⟨rfl, N2, K2, f4, f5, f6, f7, fw2⟩
theorem ef_2r (m : MethodId) (x0 : Addr) (x1 : Addr) : entryFrame m #[(.ref x0), (.ref x1)] 2 = mkF m 0 #[.val (.ref x0), .val (.ref x1)] [] := by first | (simp [entryFrame, mkF, argsToLocals, Value.category]; done) | rfl
def Q2r (Z : State) (a1 : Addr) (a2 : Addr) (h0 : Heap) (n0 : Nat) (v : Option Value) (h : Heap) (L : List Loc) : Prop := v = none ∧ Fr n0 L ∧ Keep h0 h [a1] ∧ Exa Z h a1 "org/millrace/engine/Footprint" ∧ Fld Z h a1 "org/millrace/engine/Footprint" "rows" "J" (.long (0 : Int64)) ∧ Fld Z h a1 "org/millrace/engine/Footprint" "peak" "J" (.long (0 : Int64)) ∧ Fld Z h a1 "org/millrace/engine/Footprint" "aside" "J" (.long (0 : Int64)) ∧ Fld Z h a1 "org/millrace/engine/Footprint" "whole" "Lorg/millrace/engine/Footprint;" (.ref a2)
set_option maxRecDepth 65536 in
set_option maxHeartbeats 40000000 in
theorem rm2r (l : Launch) (Z : State) (a0 : Array Value) (hw : ∀ d ∈ tables_1, d.before a0 Z = true) (ws : List Jvm.Cond) (a1 : Addr) (a2 : Addr) (h0 : Heap) (n0 : Nat) (Z0 : n0 ≤ h0.size) (E_a1 : Exa Z h0 a1 "org/millrace/engine/Footprint") (F_a1_rows : Fld Z h0 a1 "org/millrace/engine/Footprint" "rows" "J" (.long (0 : Int64))) (F_a1_peak : Fld Z h0 a1 "org/millrace/engine/Footprint" "peak" "J" (.long (0 : Int64))) (F_a1_aside : Fld Z h0 a1 "org/millrace/engine/Footprint" "aside" "J" (.long (0 : Int64))) (F_a1_whole : Fld Z h0 a1 "org/millrace/engine/Footprint" "whole" "Lorg/millrace/engine/Footprint;" .null) (g_a1 : n0 ≤ a1) :
    MetFree l (⟨"org/millrace/engine/Footprint", "<init>", "(Lorg/millrace/engine/Footprint;)V"⟩ : MethodName) (head1 (Jvm.Cond.code (⟨"org/millrace/engine/Footprint", "<init>", "(Lorg/millrace/engine/Footprint;)V"⟩ : MethodName) prog_68_method_2_code 2 none :: ws) ({ frames := 1, cells := 0, slots := 0, locals := 12 } : Room)) (fun a U => a = #[(.ref a1), (.ref a2)] ∧ Z.Warmed39 U.vm ∧ U.heap = h0) (fun _ _ _ _ _ => True) (fun _ U o U' => ∃ v L, o = .returned v ∧ Q2r Z a1 a2 h0 n0 v U'.heap L ∧ FrameEnd U o U' L ({ frames := 1, cells := 0, slots := 0, locals := 12 } : Room).cells ({ frames := 1, cells := 0, slots := 0, locals := 12 } : Room).slots) := by
  refine MetFree.of_bodySF (plainFor_of_name pn_2) hisR ?_
  intro p e s m args below meth c s₁ Bd hml0 hP hK
  obtain ⟨rfl, hZ, hh⟩ := hP
  have hx := Bd.exec
  have hby := Bd.bytes
  have hml : c.maxLocals = 2 := hml0
  have hown : s.vm.findClass "org/millrace/engine/Footprint" = some m.cls := findClass_of_methodNamed Bd.named
  have hnm := (name_of_methodNamed Bd.named Bd.method).1
  have X0 : Stand p l e ({ frames := 1, cells := 0, slots := 0, locals := 12 } : Room) s m #[(.ref a1), (.ref a2)] below meth c s₁ [] 0 0 := Stand.of_body Bd
  have e0 : s₁.heap = h0 := by rw [← hh, Bd.state]; rfl
  have N0 := Fr.nil n0
  have pre0 : ∀ t, Steps p.tables e below (s₁.setTop (mkF m 0 #[.val (.ref a1), .val (.ref a2)] [])) t → Steps p.tables e below (s₁.setTop (entryFrame m #[(.ref a1), (.ref a2)] 2)) t := fun t k => castTop (ef_2r m a1 a2) k
  obtain ⟨T8, X8, e8, st8⟩ := initO X0 hx hZ hown (hw _ (List.mem_of_getElem? (i := 9) rfl)) (hw _ (List.mem_of_getElem? (i := 10) rfl)) (hw _ (List.mem_of_getElem? (i := 11) rfl)) e0 (g := (mkF m 1 #[.val (.ref a1), .val (.ref a2)] [(.ref a1)])) rfl (by rw [hml]; rfl) rfl (hb hby d2_1) (by decide) (W := 0) (by show 2 * 0 + _ ≤ _; exact Nat.le_of_eq rfl) (by decide)
  obtain ⟨T9, h9, X9, e9, W9, st9⟩ := putF X8 hx hZ hown (host := "") (Or.inl (hw _ (List.mem_of_getElem? (i := 12) rfl))) Via.refl e8 F_a1_whole E_a1 (Or.inr ⟨(hw _ (List.mem_of_getElem? (i := 13) rfl)), rfl, hnm⟩) (hw _ (List.mem_of_getElem? (i := 1) rfl)) (ty := (.object "org/millrace/engine/Footprint")) (by decide) rfl rfl (g := (mkF m 6 #[.val (.ref a1), .val (.ref a2)] [(.ref a2), (.ref a1)])) rfl rfl (hb hby d2_6)
  have z10 : n0 ≤ h9.size := Nat.le_trans Z0 (Keep.of_wr W9).1
  have fw9 : Fld Z h9 a1 "org/millrace/engine/Footprint" "whole" "Lorg/millrace/engine/Footprint;" (.ref a2) := F_a1_whole.same W9
  have N9 := Fr.snoc X9 N0 g_a1
  have K9 : Keep h0 h9 [a1] := (Keep.refl h0 [a1]).wr W9 (Or.inl (List.mem_of_getElem? (i := 0) rfl))
  obtain ⟨fs, hr, hrun, hended, hW, hsame⟩ := X9.leave (v := none) (fun _ => rfl)
  refine ⟨_, _, pre0 _ ?_, hrun, hended, _, _, rfl, ?_, ⟨_, rfl⟩, hW, hsame.mono (by decide) (by decide)⟩
  · show Steps p.tables e below (s₁.setTop (mkF m 0 #[.val (.ref a1), .val (.ref a2)] [])) _
    refine XS.aloadN X0.here hx rfl (hb hby d2_0) rfl rfl ?_
    show Steps p.tables e below (s₁.setTop (mkF m 1 #[.val (.ref a1), .val (.ref a2)] [(.ref a1)])) _
    refine st8 _ ?_
    show Steps p.tables e below (T8.setTop (mkF m 4 #[.val (.ref a1), .val (.ref a2)] [])) _
    refine XS.aloadN X8.here hx rfl (hb hby d2_4) rfl rfl ?_
    show Steps p.tables e below (T8.setTop (mkF m 5 #[.val (.ref a1), .val (.ref a2)] [(.ref a1)])) _
    refine XS.aloadN X8.here hx rfl (hb hby d2_5) rfl rfl ?_
    show Steps p.tables e below (T8.setTop (mkF m 6 #[.val (.ref a1), .val (.ref a2)] [(.ref a2), (.ref a1)])) _
    refine st9 _ ?_
    show Steps p.tables e below (T9.setTop (mkF m 9 #[.val (.ref a1), .val (.ref a2)] [])) _
    exact X9.returnOut hx Bd.returns (hb hby d2_9) hr
  have f11 : Exa Z h9 a1 "org/millrace/engine/Footprint" := (E_a1.wr W9)
  have f12 : Fld Z h9 a1 "org/millrace/engine/Footprint" "rows" "J" (.long (0 : Int64)) := (F_a1_rows.other W9 (Or.inr (slot_ne (Or.inl (hw _ (List.mem_of_getElem? (i := 21) rfl))) (Or.inr (hw _ (List.mem_of_getElem? (i := 13) rfl))) (by decide) (t := .long) (t' := (.object "org/millrace/engine/Footprint")) (by decide) (by decide))))
  have f13 : Fld Z h9 a1 "org/millrace/engine/Footprint" "peak" "J" (.long (0 : Int64)) := (F_a1_peak.other W9 (Or.inr (slot_ne (Or.inl (hw _ (List.mem_of_getElem? (i := 25) rfl))) (Or.inr (hw _ (List.mem_of_getElem? (i := 13) rfl))) (by decide) (t := .long) (t' := (.object "org/millrace/engine/Footprint")) (by decide) (by decide))))
  have f14 : Fld Z h9 a1 "org/millrace/engine/Footprint" "aside" "J" (.long (0 : Int64)) := (F_a1_aside.other W9 (Or.inr (slot_ne (Or.inl (hw _ (List.mem_of_getElem? (i := 23) rfl))) (Or.inr (hw _ (List.mem_of_getElem? (i := 13) rfl))) (by decide) (t := .long) (t' := (.object "org/millrace/engine/Footprint")) (by decide) (by decide))))
  · show Q2r Z a1 a2 h0 n0 _ T9.heap _
    rw [e9]
    exact ⟨rfl, N9, K9, f11, f12, f13, f14, fw9⟩
theorem d1_0 : decode prog_68_method_1_code 0 = .ok (.aload_n 0, 1) := by decide +kernel
theorem d1_1 : decode prog_68_method_1_code 1 = .ok (.aconst_null, 1) := by decide +kernel
theorem d1_2 : decode prog_68_method_1_code 2 = .ok (.invokespecial 1, 3) := by decide +kernel
theorem d1_5 : decode prog_68_method_1_code 5 = .ok (.return_, 1) := by decide +kernel
theorem ef_1 (m : MethodId) (x0 : Addr) : entryFrame m #[(.ref x0)] 1 = mkF m 0 #[.val (.ref x0)] [] := by first | (simp [entryFrame, mkF, argsToLocals, Value.category]; done) | rfl
def Q1 (Z : State) (a1 : Addr) (h0 : Heap) (n0 : Nat) (v : Option Value) (h : Heap) (L : List Loc) : Prop := v = none ∧ Fr n0 L ∧ Keep h0 h [a1] ∧ Exa Z h a1 "org/millrace/engine/Footprint" ∧ Fld Z h a1 "org/millrace/engine/Footprint" "rows" "J" (.long (0 : Int64)) ∧ Fld Z h a1 "org/millrace/engine/Footprint" "peak" "J" (.long (0 : Int64)) ∧ Fld Z h a1 "org/millrace/engine/Footprint" "aside" "J" (.long (0 : Int64)) ∧ Fld Z h a1 "org/millrace/engine/Footprint" "whole" "Lorg/millrace/engine/Footprint;" .null
theorem pd_1 : parseMethodDescriptor "(Lorg/millrace/engine/Footprint;)V" = some ⟨[(.object "org/millrace/engine/Footprint")], none⟩ := by decide +kernel
set_option maxRecDepth 65536 in
set_option maxHeartbeats 40000000 in
theorem rm1 (l : Launch) (Z : State) (a0 : Array Value) (hw : ∀ d ∈ tables_1, d.before a0 Z = true) (ws : List Jvm.Cond) (a1 : Addr) (h0 : Heap) (n0 : Nat) (Z0 : n0 ≤ h0.size) (E_a1 : Exa Z h0 a1 "org/millrace/engine/Footprint") (F_a1_rows : Fld Z h0 a1 "org/millrace/engine/Footprint" "rows" "J" (.long (0 : Int64))) (F_a1_peak : Fld Z h0 a1 "org/millrace/engine/Footprint" "peak" "J" (.long (0 : Int64))) (F_a1_aside : Fld Z h0 a1 "org/millrace/engine/Footprint" "aside" "J" (.long (0 : Int64))) (F_a1_whole : Fld Z h0 a1 "org/millrace/engine/Footprint" "whole" "Lorg/millrace/engine/Footprint;" .null) (g_a1 : n0 ≤ a1) :
    MetFree l (⟨"org/millrace/engine/Footprint", "<init>", "()V"⟩ : MethodName) (head1 (Jvm.Cond.code (⟨"org/millrace/engine/Footprint", "<init>", "()V"⟩ : MethodName) prog_68_method_1_code 1 none :: ws) ({ frames := 2, cells := 0, slots := 0, locals := 25 } : Room)) (fun a U => a = #[(.ref a1)] ∧ Z.Warmed39 U.vm ∧ U.heap = h0) (fun _ _ _ _ _ => True) (fun _ U o U' => ∃ v L, o = .returned v ∧ Q1 Z a1 h0 n0 v U'.heap L ∧ FrameEnd U o U' L ({ frames := 2, cells := 0, slots := 0, locals := 25 } : Room).cells ({ frames := 2, cells := 0, slots := 0, locals := 25 } : Room).slots) := by
  refine MetFree.of_bodySF (plainFor_of_name pn_2) hisR ?_
  intro p e s m args below meth c s₁ Bd hml0 hP hK
  obtain ⟨rfl, hZ, hh⟩ := hP
  have hx := Bd.exec
  have hby := Bd.bytes
  have hml : c.maxLocals = 1 := hml0
  have hown : s.vm.findClass "org/millrace/engine/Footprint" = some m.cls := findClass_of_methodNamed Bd.named
  have hnm := (name_of_methodNamed Bd.named Bd.method).1
  have X0 : Stand p l e ({ frames := 2, cells := 0, slots := 0, locals := 25 } : Room) s m #[(.ref a1)] below meth c s₁ [] 0 0 := Stand.of_body Bd
  have e0 : s₁.heap = h0 := by rw [← hh, Bd.state]; rfl
  have N0 := Fr.nil n0
  have pre0 : ∀ t, Steps p.tables e below (s₁.setTop (mkF m 0 #[.val (.ref a1)] [])) t → Steps p.tables e below (s₁.setTop (entryFrame m #[(.ref a1)] 1)) t := fun t k => castTop (ef_1 m a1) k
  obtain ⟨_, _, ⟨T15, L15, k15, n15⟩, -, X15, ⟨Lc15, hQ15, l15, y15, z15⟩, st15⟩ := X0.specialBack hx (y := (⟨"org/millrace/engine/Footprint", "<init>", "(Lorg/millrace/engine/Footprint;)V"⟩ : MethodName)) rfl hown (mvT hZ (hw _ (List.mem_of_getElem? (i := 6) rfl))) (mvT hZ (hw _ (List.mem_of_getElem? (i := 7) rfl))) (mvT hZ (hw _ (List.mem_of_getElem? (i := 8) rfl))) (by decide) (backOf (W := 0) (rm2n l Z a0 hw [] a1 h0 n0 Z0 E_a1 F_a1_rows F_a1_peak F_a1_aside F_a1_whole g_a1) hZ (hw _ (List.mem_of_getElem? (i := 8) rfl)) (hw _ (List.mem_of_getElem? (i := 2) rfl)) (by decide) (by decide)) (g := (mkF m 2 #[.val (.ref a1)] [.null, (.ref a1)])) rfl (by rw [hml]; rfl) (Steps.refl _) (a := a1) (argsL := [.null]) (rest := []) (lenOf pd_1 rfl) rfl (by show 2 * 0 + _ ≤ _; exact Nat.le_of_eq rfl) (hb hby d1_2) (fun _ _ => ⟨rfl, e0, (by decide : 0 + 0 ≤ _), (by decide : 0 + 0 ≤ _)⟩)
  dsimp only [Pt.U, Pt.locs, Pt.cells, Pt.slots] at X15 l15 y15 z15 st15 hQ15
  subst l15 y15 z15
  obtain ⟨rfl, Nq15, K15, po15_0, po15_1, po15_2, po15_3, po15_4⟩ := hQ15
  have z16 : n0 ≤ T15.heap.size := Nat.le_trans Z0 K15.1
  have KK15 : Keep h0 T15.heap [a1] := (Keep.refl h0 [a1]).trans K15 (allS (Or.inl (List.mem_of_getElem? (i := 0) rfl)) all0)
  have N15 := Fr.app N0 Nq15
  obtain ⟨fs, hr, hrun, hended, hW, hsame⟩ := X15.leave (v := none) (fun _ => rfl)
  refine ⟨_, _, pre0 _ ?_, hrun, hended, _, _, rfl, ?_, ⟨_, rfl⟩, hW, hsame.mono (by decide) (by decide)⟩
  · show Steps p.tables e below (s₁.setTop (mkF m 0 #[.val (.ref a1)] [])) _
    refine XS.aloadN X0.here hx rfl (hb hby d1_0) rfl rfl ?_
    show Steps p.tables e below (s₁.setTop (mkF m 1 #[.val (.ref a1)] [(.ref a1)])) _
    refine XS.aconstNull X0.here hx rfl (hb hby d1_1) ?_
    show Steps p.tables e below (s₁.setTop (mkF m 2 #[.val (.ref a1)] [.null, (.ref a1)])) _
    refine st15.trans ?_
    show Steps p.tables e below (T15.setTop (mkF m 5 #[.val (.ref a1)] [])) _
    exact X15.returnOut hx Bd.returns (hb hby d1_5) hr
  · show Q1 Z a1 h0 n0 _ T15.heap _
    exact ⟨rfl, N15, KK15, po15_0, po15_1, po15_2, po15_3, po15_4⟩
theorem d4_0 : decode prog_68_method_5_code 0 = .ok (.lload_n 1, 1) := by decide +kernel
theorem d4_1 : decode prog_68_method_5_code 1 = .ok (.lconst 0, 1) := by decide +kernel
theorem d4_2 : decode prog_68_method_5_code 2 = .ok (.lcmp, 1) := by decide +kernel
theorem d4_3 : decode prog_68_method_5_code 3 = .ok (.ifCond .ne 4, 3) := by decide +kernel
theorem d4_6 : decode prog_68_method_5_code 6 = .ok (.return_, 1) := by decide +kernel
theorem d4_7 : decode prog_68_method_5_code 7 = .ok (.aload_n 0, 1) := by decide +kernel
theorem d4_8 : decode prog_68_method_5_code 8 = .ok (.astore_n 3, 1) := by decide +kernel
theorem d4_9 : decode prog_68_method_5_code 9 = .ok (.aload_n 3, 1) := by decide +kernel
theorem d4_10 : decode prog_68_method_5_code 10 = .ok (.ifnull 48, 3) := by decide +kernel
theorem d4_13 : decode prog_68_method_5_code 13 = .ok (.aload_n 3, 1) := by decide +kernel
theorem d4_14 : decode prog_68_method_5_code 14 = .ok (.dup, 1) := by decide +kernel
theorem d4_15 : decode prog_68_method_5_code 15 = .ok (.getfield 16, 3) := by decide +kernel
theorem d4_18 : decode prog_68_method_5_code 18 = .ok (.lload_n 1, 1) := by decide +kernel
theorem d4_19 : decode prog_68_method_5_code 19 = .ok (.ladd, 1) := by decide +kernel
theorem d4_20 : decode prog_68_method_5_code 20 = .ok (.putfield 16, 3) := by decide +kernel
theorem d4_23 : decode prog_68_method_5_code 23 = .ok (.aload_n 3, 1) := by decide +kernel
theorem d4_24 : decode prog_68_method_5_code 24 = .ok (.getfield 16, 3) := by decide +kernel
theorem d4_27 : decode prog_68_method_5_code 27 = .ok (.aload_n 3, 1) := by decide +kernel
theorem d4_28 : decode prog_68_method_5_code 28 = .ok (.getfield 23, 3) := by decide +kernel
theorem d4_31 : decode prog_68_method_5_code 31 = .ok (.ladd, 1) := by decide +kernel
theorem d4_32 : decode prog_68_method_5_code 32 = .ok (.lstore 4, 2) := by decide +kernel
theorem d4_34 : decode prog_68_method_5_code 34 = .ok (.lload 4, 2) := by decide +kernel
theorem d4_36 : decode prog_68_method_5_code 36 = .ok (.aload_n 3, 1) := by decide +kernel
theorem d4_37 : decode prog_68_method_5_code 37 = .ok (.getfield 20, 3) := by decide +kernel
theorem d4_40 : decode prog_68_method_5_code 40 = .ok (.lcmp, 1) := by decide +kernel
theorem d4_41 : decode prog_68_method_5_code 41 = .ok (.ifCond .le 9, 3) := by decide +kernel
theorem d4_44 : decode prog_68_method_5_code 44 = .ok (.aload_n 3, 1) := by decide +kernel
theorem d4_45 : decode prog_68_method_5_code 45 = .ok (.lload 4, 2) := by decide +kernel
theorem d4_47 : decode prog_68_method_5_code 47 = .ok (.putfield 20, 3) := by decide +kernel
theorem d4_50 : decode prog_68_method_5_code 50 = .ok (.aload_n 3, 1) := by decide +kernel
theorem d4_51 : decode prog_68_method_5_code 51 = .ok (.getfield 12, 3) := by decide +kernel
theorem d4_54 : decode prog_68_method_5_code 54 = .ok (.astore_n 3, 1) := by decide +kernel
theorem d4_55 : decode prog_68_method_5_code 55 = .ok (.goto (-46), 3) := by decide +kernel
theorem d4_58 : decode prog_68_method_5_code 58 = .ok (.return_, 1) := by decide +kernel
theorem ef_4n (m : MethodId) (x0 : Addr) (x1 : Int64) : entryFrame m #[(.ref x0), (.long x1)] 6 = mkF m 0 #[.val (.ref x0), .val (.long x1), .second, .unset, .unset, .unset] [] := by first | (simp [entryFrame, mkF, argsToLocals, Value.category]; done) | rfl
def Q4n (Z : State) (a1 : Addr) (q2 : Int64) (w1 : Int64) (w2 : Int64) (w3 : Int64) (h0 : Heap) (n0 : Nat) (v : Option Value) (h : Heap) (L : List Loc) : Prop := v = none ∧ Fr n0 L ∧ Keep h0 h [a1] ∧ Exa Z h a1 "org/millrace/engine/Footprint" ∧ Fld Z h a1 "org/millrace/engine/Footprint" "rows" "J" (.long (own_ar q2 w1)) ∧ Fld Z h a1 "org/millrace/engine/Footprint" "peak" "J" (.long (own_ap q2 w1 w2 w3)) ∧ Fld Z h a1 "org/millrace/engine/Footprint" "aside" "J" (.long w3) ∧ Fld Z h a1 "org/millrace/engine/Footprint" "whole" "Lorg/millrace/engine/Footprint;" .null
set_option maxRecDepth 65536 in
set_option maxHeartbeats 40000000 in
theorem rm4n (l : Launch) (Z : State) (a0 : Array Value) (hw : ∀ d ∈ tables_1, d.before a0 Z = true) (ws : List Jvm.Cond) (a1 : Addr) (q2 : Int64) (w1 : Int64) (w2 : Int64) (w3 : Int64) (h0 : Heap) (n0 : Nat) (Z0 : n0 ≤ h0.size) (E_a1 : Exa Z h0 a1 "org/millrace/engine/Footprint") (F_a1_rows : Fld Z h0 a1 "org/millrace/engine/Footprint" "rows" "J" (.long w1)) (F_a1_peak : Fld Z h0 a1 "org/millrace/engine/Footprint" "peak" "J" (.long w2)) (F_a1_aside : Fld Z h0 a1 "org/millrace/engine/Footprint" "aside" "J" (.long w3)) (F_a1_whole : Fld Z h0 a1 "org/millrace/engine/Footprint" "whole" "Lorg/millrace/engine/Footprint;" .null) (g_a1 : n0 ≤ a1) :
    MetFree l (⟨"org/millrace/engine/Footprint", "add", "(J)V"⟩ : MethodName) (head1 (Jvm.Cond.code (⟨"org/millrace/engine/Footprint", "add", "(J)V"⟩ : MethodName) prog_68_method_5_code 6 none :: ws) ({ frames := 0, cells := 0, slots := 0, locals := 0 } : Room)) (fun a U => a = #[(.ref a1), (.long q2)] ∧ Z.Warmed39 U.vm ∧ U.heap = h0) (fun _ _ _ _ _ => True) (fun _ U o U' => ∃ v L, o = .returned v ∧ Q4n Z a1 q2 w1 w2 w3 h0 n0 v U'.heap L ∧ FrameEnd U o U' L ({ frames := 0, cells := 0, slots := 0, locals := 0 } : Room).cells ({ frames := 0, cells := 0, slots := 0, locals := 0 } : Room).slots) := by
  refine MetFree.of_bodySF (plainFor_of_name pn_2) hisR ?_
  intro p e s m args below meth c s₁ Bd hml0 hP hK
  obtain ⟨rfl, hZ, hh⟩ := hP
  have hx := Bd.exec
  have hby := Bd.bytes
  have hml : c.maxLocals = 6 := hml0
  have hown : s.vm.findClass "org/millrace/engine/Footprint" = some m.cls := findClass_of_methodNamed Bd.named
  have hnm := (name_of_methodNamed Bd.named Bd.method).1
  have X0 : Stand p l e ({ frames := 0, cells := 0, slots := 0, locals := 0 } : Room) s m #[(.ref a1), (.long q2)] below meth c s₁ [] 0 0 := Stand.of_body Bd
  have e0 : s₁.heap = h0 := by rw [← hh, Bd.state]; rfl
  have N0 := Fr.nil n0
  have pre0 : ∀ t, Steps p.tables e below (s₁.setTop (mkF m 0 #[.val (.ref a1), .val (.long q2), .second, .unset, .unset, .unset] [])) t → Steps p.tables e below (s₁.setTop (entryFrame m #[(.ref a1), (.long q2)] 6)) t := fun t k => castTop (ef_4n m a1 q2) k
  have pre17 : ∀ t, Steps p.tables e below (s₁.setTop (mkF m 3 #[.val (.ref a1), .val (.long q2), .second, .unset, .unset, .unset] [(.int (lcmpW q2 (0 : Int64)))])) t → Steps p.tables e below (s₁.setTop (entryFrame m #[(.ref a1), (.long q2)] 6)) t := fun t k => pre0 t (by
      show Steps p.tables e below (s₁.setTop (mkF m 0 #[.val (.ref a1), .val (.long q2), .second, .unset, .unset, .unset] [])) _
      refine XS.lloadN X0.here hx rfl (hb hby d4_0) rfl ?_
      show Steps p.tables e below (s₁.setTop (mkF m 1 #[.val (.ref a1), .val (.long q2), .second, .unset, .unset, .unset] [(.long q2)])) _
      refine XS.lconst X0.here hx rfl (hb hby d4_1) ?_
      show Steps p.tables e below (s₁.setTop (mkF m 2 #[.val (.ref a1), .val (.long q2), .second, .unset, .unset, .unset] [(.long (0 : Int64)), (.long q2)])) _
      refine XS.lcmp X0.here hx rfl (hb hby d4_2) rfl ?_
      exact k)
  by_cases hc3_18 : q2 = (0 : Int64)
  · obtain ⟨fs, hr, hrun, hended, hW, hsame⟩ := X0.leave (v := none) (fun _ => rfl)
    refine ⟨_, _, pre17 _ ?_, hrun, hended, _, _, rfl, ?_, ⟨_, rfl⟩, hW, hsame.mono (by decide) (by decide)⟩
    · show Steps p.tables e below (s₁.setTop (mkF m 3 #[.val (.ref a1), .val (.long q2), .second, .unset, .unset, .unset] [(.int (lcmpW q2 (0 : Int64)))])) _
      refine XS.ifNo X0.here hx rfl (hb hby d4_3) rfl ((if0 _ _).trans (teq ((lw_eq _ _).mpr hc3_18)).2) ?_
      show Steps p.tables e below (s₁.setTop (mkF m 6 #[.val (.ref a1), .val (.long q2), .second, .unset, .unset, .unset] [])) _
      exact X0.returnOut hx Bd.returns (hb hby d4_6) hr
    · show Q4n Z a1 q2 w1 w2 w3 h0 n0 _ s₁.heap _
      rw [e0]
      exact ⟨rfl, N0, (Keep.refl h0 [a1]), E_a1, (by have q : w1 = (own_ar q2 w1) := (by simp only [own_ar, if_pos hc3_18]); rw [← q]; exact F_a1_rows), (by have q : w2 = (own_ap q2 w1 w2 w3) := (by simp only [own_ap, if_pos hc3_18]); rw [← q]; exact F_a1_peak), F_a1_aside, F_a1_whole⟩
  · obtain ⟨T19, X19, e19, st19⟩ := getF X0 hx hZ hown (host := "") (Or.inl (hw _ (List.mem_of_getElem? (i := 20) rfl))) Via.refl e0 F_a1_rows (g := (mkF m 15 #[.val (.ref a1), .val (.long q2), .second, .val (.ref a1), .unset, .unset] [(.ref a1), (.ref a1)])) rfl rfl (hb hby d4_15)
    obtain ⟨T20, h20, X20, e20, W20, st20⟩ := putF X19 hx hZ hown (host := "") (Or.inl (hw _ (List.mem_of_getElem? (i := 20) rfl))) Via.refl e19 F_a1_rows E_a1 (Or.inl (hw _ (List.mem_of_getElem? (i := 21) rfl))) (hw _ (List.mem_of_getElem? (i := 1) rfl)) (ty := .long) (by decide) rfl rfl (g := (mkF m 20 #[.val (.ref a1), .val (.long q2), .second, .val (.ref a1), .unset, .unset] [(.long (w1 + q2)), (.ref a1)])) rfl rfl (hb hby d4_20)
    have z21 : n0 ≤ h20.size := Nat.le_trans Z0 (Keep.of_wr W20).1
    have fw20 : Fld Z h20 a1 "org/millrace/engine/Footprint" "rows" "J" (.long (w1 + q2)) := F_a1_rows.same W20
    have N20 := Fr.snoc X20 N0 g_a1
    have K20 : Keep h0 h20 [a1] := (Keep.refl h0 [a1]).wr W20 (Or.inl (List.mem_of_getElem? (i := 0) rfl))
    obtain ⟨T22, X22, e22, st22⟩ := getF X20 hx hZ hown (host := "") (Or.inl (hw _ (List.mem_of_getElem? (i := 20) rfl))) Via.refl e20 fw20 (g := (mkF m 24 #[.val (.ref a1), .val (.long q2), .second, .val (.ref a1), .unset, .unset] [(.ref a1)])) rfl rfl (hb hby d4_24)
    have f23 : Fld Z h20 a1 "org/millrace/engine/Footprint" "aside" "J" (.long w3) := (F_a1_aside.other W20 (Or.inr (slot_ne (Or.inl (hw _ (List.mem_of_getElem? (i := 23) rfl))) (Or.inl (hw _ (List.mem_of_getElem? (i := 21) rfl))) (by decide) (t := .long) (t' := .long) (by decide) (by decide))))
    obtain ⟨T24, X24, e24, st24⟩ := getF X22 hx hZ hown (host := "") (Or.inl (hw _ (List.mem_of_getElem? (i := 22) rfl))) Via.refl e22 f23 (g := (mkF m 28 #[.val (.ref a1), .val (.long q2), .second, .val (.ref a1), .unset, .unset] [(.ref a1), (.long (w1 + q2))])) rfl rfl (hb hby d4_28)
    have f25 : Fld Z h20 a1 "org/millrace/engine/Footprint" "peak" "J" (.long w2) := (F_a1_peak.other W20 (Or.inr (slot_ne (Or.inl (hw _ (List.mem_of_getElem? (i := 25) rfl))) (Or.inl (hw _ (List.mem_of_getElem? (i := 21) rfl))) (by decide) (t := .long) (t' := .long) (by decide) (by decide))))
    obtain ⟨T26, X26, e26, st26⟩ := getF X24 hx hZ hown (host := "") (Or.inl (hw _ (List.mem_of_getElem? (i := 24) rfl))) Via.refl e24 f25 (g := (mkF m 37 #[.val (.ref a1), .val (.long q2), .second, .val (.ref a1), .val (.long ((w1 + q2) + w3)), .second] [(.ref a1), (.long ((w1 + q2) + w3))])) rfl rfl (hb hby d4_37)
    have pre27 : ∀ t, Steps p.tables e below (T26.setTop (mkF m 41 #[.val (.ref a1), .val (.long q2), .second, .val (.ref a1), .val (.long ((w1 + q2) + w3)), .second] [(.int (lcmpW ((w1 + q2) + w3) w2))])) t → Steps p.tables e below (s₁.setTop (entryFrame m #[(.ref a1), (.long q2)] 6)) t := fun t k => pre17 t (by
        show Steps p.tables e below (s₁.setTop (mkF m 3 #[.val (.ref a1), .val (.long q2), .second, .unset, .unset, .unset] [(.int (lcmpW q2 (0 : Int64)))])) _
        refine XS.ifYes X0.here hx rfl (pc0 := 3) (pc' := 7) rfl (hb hby d4_3) rfl ((if0 _ _).trans (feq (mt (lw_eq _ _).mp hc3_18)).2) (by decide) (by decide) ?_
        show Steps p.tables e below (s₁.setTop (mkF m 7 #[.val (.ref a1), .val (.long q2), .second, .unset, .unset, .unset] [])) _
        refine XS.aloadN X0.here hx rfl (hb hby d4_7) rfl rfl ?_
        show Steps p.tables e below (s₁.setTop (mkF m 8 #[.val (.ref a1), .val (.long q2), .second, .unset, .unset, .unset] [(.ref a1)])) _
        refine XS.astoreN X0.here hx rfl (hb hby d4_8) rfl rfl (l' := #[.val (.ref a1), .val (.long q2), .second, .val (.ref a1), .unset, .unset]) rfl ?_
        show Steps p.tables e below (s₁.setTop (mkF m 9 #[.val (.ref a1), .val (.long q2), .second, .val (.ref a1), .unset, .unset] [])) _
        refine XS.aloadN X0.here hx rfl (hb hby d4_9) rfl rfl ?_
        show Steps p.tables e below (s₁.setTop (mkF m 10 #[.val (.ref a1), .val (.long q2), .second, .val (.ref a1), .unset, .unset] [(.ref a1)])) _
        refine XS.ifnullNo X0.here hx rfl (hb hby d4_10) rfl ?_
        show Steps p.tables e below (s₁.setTop (mkF m 13 #[.val (.ref a1), .val (.long q2), .second, .val (.ref a1), .unset, .unset] [])) _
        refine XS.aloadN X0.here hx rfl (hb hby d4_13) rfl rfl ?_
        show Steps p.tables e below (s₁.setTop (mkF m 14 #[.val (.ref a1), .val (.long q2), .second, .val (.ref a1), .unset, .unset] [(.ref a1)])) _
        refine XS.dup X0.here hx rfl (hb hby d4_14) rfl rfl ?_
        show Steps p.tables e below (s₁.setTop (mkF m 15 #[.val (.ref a1), .val (.long q2), .second, .val (.ref a1), .unset, .unset] [(.ref a1), (.ref a1)])) _
        refine st19 _ ?_
        show Steps p.tables e below (T19.setTop (mkF m 18 #[.val (.ref a1), .val (.long q2), .second, .val (.ref a1), .unset, .unset] [(.long w1), (.ref a1)])) _
        refine XS.lloadN X19.here hx rfl (hb hby d4_18) rfl ?_
        show Steps p.tables e below (T19.setTop (mkF m 19 #[.val (.ref a1), .val (.long q2), .second, .val (.ref a1), .unset, .unset] [(.long q2), (.long w1), (.ref a1)])) _
        refine XS.ladd X19.here hx rfl (hb hby d4_19) rfl ?_
        show Steps p.tables e below (T19.setTop (mkF m 20 #[.val (.ref a1), .val (.long q2), .second, .val (.ref a1), .unset, .unset] [(.long (w1 + q2)), (.ref a1)])) _
        refine st20 _ ?_
        show Steps p.tables e below (T20.setTop (mkF m 23 #[.val (.ref a1), .val (.long q2), .second, .val (.ref a1), .unset, .unset] [])) _
        refine XS.aloadN X20.here hx rfl (hb hby d4_23) rfl rfl ?_
        show Steps p.tables e below (T20.setTop (mkF m 24 #[.val (.ref a1), .val (.long q2), .second, .val (.ref a1), .unset, .unset] [(.ref a1)])) _
        refine st22 _ ?_
        show Steps p.tables e below (T22.setTop (mkF m 27 #[.val (.ref a1), .val (.long q2), .second, .val (.ref a1), .unset, .unset] [(.long (w1 + q2))])) _
        refine XS.aloadN X22.here hx rfl (hb hby d4_27) rfl rfl ?_
        show Steps p.tables e below (T22.setTop (mkF m 28 #[.val (.ref a1), .val (.long q2), .second, .val (.ref a1), .unset, .unset] [(.ref a1), (.long (w1 + q2))])) _
        refine st24 _ ?_
        show Steps p.tables e below (T24.setTop (mkF m 31 #[.val (.ref a1), .val (.long q2), .second, .val (.ref a1), .unset, .unset] [(.long w3), (.long (w1 + q2))])) _
        refine XS.ladd X24.here hx rfl (hb hby d4_31) rfl ?_
        show Steps p.tables e below (T24.setTop (mkF m 32 #[.val (.ref a1), .val (.long q2), .second, .val (.ref a1), .unset, .unset] [(.long ((w1 + q2) + w3))])) _
        refine XS.lstore X24.here hx rfl (hb hby d4_32) rfl (l' := #[.val (.ref a1), .val (.long q2), .second, .val (.ref a1), .val (.long ((w1 + q2) + w3)), .second]) rfl ?_
        show Steps p.tables e below (T24.setTop (mkF m 34 #[.val (.ref a1), .val (.long q2), .second, .val (.ref a1), .val (.long ((w1 + q2) + w3)), .second] [])) _
        refine XS.lload X24.here hx rfl (hb hby d4_34) rfl ?_
        show Steps p.tables e below (T24.setTop (mkF m 36 #[.val (.ref a1), .val (.long q2), .second, .val (.ref a1), .val (.long ((w1 + q2) + w3)), .second] [(.long ((w1 + q2) + w3))])) _
        refine XS.aloadN X24.here hx rfl (hb hby d4_36) rfl rfl ?_
        show Steps p.tables e below (T24.setTop (mkF m 37 #[.val (.ref a1), .val (.long q2), .second, .val (.ref a1), .val (.long ((w1 + q2) + w3)), .second] [(.ref a1), (.long ((w1 + q2) + w3))])) _
        refine st26 _ ?_
        show Steps p.tables e below (T26.setTop (mkF m 40 #[.val (.ref a1), .val (.long q2), .second, .val (.ref a1), .val (.long ((w1 + q2) + w3)), .second] [(.long w2), (.long ((w1 + q2) + w3))])) _
        refine XS.lcmp X26.here hx rfl (hb hby d4_40) rfl ?_
        exact k)
    by_cases hc41_28 : w2 < ((w1 + q2) + w3)
    · have f29 : Exa Z h20 a1 "org/millrace/engine/Footprint" := (E_a1.wr W20)
      obtain ⟨T30, h30, X30, e30, W30, st30⟩ := putF X26 hx hZ hown (host := "") (Or.inl (hw _ (List.mem_of_getElem? (i := 24) rfl))) Via.refl e26 f25 f29 (Or.inl (hw _ (List.mem_of_getElem? (i := 25) rfl))) (hw _ (List.mem_of_getElem? (i := 1) rfl)) (ty := .long) (by decide) rfl rfl (g := (mkF m 47 #[.val (.ref a1), .val (.long q2), .second, .val (.ref a1), .val (.long ((w1 + q2) + w3)), .second] [(.long ((w1 + q2) + w3)), (.ref a1)])) rfl rfl (hb hby d4_47)
      have z31 : n0 ≤ h30.size := Nat.le_trans z21 (Keep.of_wr W30).1
      have fw30 : Fld Z h30 a1 "org/millrace/engine/Footprint" "peak" "J" (.long ((w1 + q2) + w3)) := f25.same W30
      have N30 := Fr.snoc X30 N20 g_a1
      have K30 : Keep h0 h30 [a1] := K20.wr W30 (Or.inl (List.mem_of_getElem? (i := 0) rfl))
      have f32 : Fld Z h30 a1 "org/millrace/engine/Footprint" "whole" "Lorg/millrace/engine/Footprint;" .null := ((F_a1_whole.other W20 (Or.inr (slot_ne (Or.inr (hw _ (List.mem_of_getElem? (i := 13) rfl))) (Or.inl (hw _ (List.mem_of_getElem? (i := 21) rfl))) (by decide) (t := (.object "org/millrace/engine/Footprint")) (t' := .long) (by decide) (by decide)))).other W30 (Or.inr (slot_ne (Or.inr (hw _ (List.mem_of_getElem? (i := 13) rfl))) (Or.inl (hw _ (List.mem_of_getElem? (i := 25) rfl))) (by decide) (t := (.object "org/millrace/engine/Footprint")) (t' := .long) (by decide) (by decide))))
      obtain ⟨T33, X33, e33, st33⟩ := getF X30 hx hZ hown (host := "") (Or.inl (hw _ (List.mem_of_getElem? (i := 12) rfl))) Via.refl e30 f32 (g := (mkF m 51 #[.val (.ref a1), .val (.long q2), .second, .val (.ref a1), .val (.long ((w1 + q2) + w3)), .second] [(.ref a1)])) rfl rfl (hb hby d4_51)
      obtain ⟨fs, hr, hrun, hended, hW, hsame⟩ := X33.leave (v := none) (fun _ => rfl)
      refine ⟨_, _, pre27 _ ?_, hrun, hended, _, _, rfl, ?_, ⟨_, rfl⟩, hW, hsame.mono (by decide) (by decide)⟩
      · show Steps p.tables e below (T26.setTop (mkF m 41 #[.val (.ref a1), .val (.long q2), .second, .val (.ref a1), .val (.long ((w1 + q2) + w3)), .second] [(.int (lcmpW ((w1 + q2) + w3) w2))])) _
        refine XS.ifNo X26.here hx rfl (hb hby d4_41) rfl ((if0 _ _).trans (tlt ((lw_gt _ _).mpr hc41_28)).2.2.2) ?_
        show Steps p.tables e below (T26.setTop (mkF m 44 #[.val (.ref a1), .val (.long q2), .second, .val (.ref a1), .val (.long ((w1 + q2) + w3)), .second] [])) _
        refine XS.aloadN X26.here hx rfl (hb hby d4_44) rfl rfl ?_
        show Steps p.tables e below (T26.setTop (mkF m 45 #[.val (.ref a1), .val (.long q2), .second, .val (.ref a1), .val (.long ((w1 + q2) + w3)), .second] [(.ref a1)])) _
        refine XS.lload X26.here hx rfl (hb hby d4_45) rfl ?_
        show Steps p.tables e below (T26.setTop (mkF m 47 #[.val (.ref a1), .val (.long q2), .second, .val (.ref a1), .val (.long ((w1 + q2) + w3)), .second] [(.long ((w1 + q2) + w3)), (.ref a1)])) _
        refine st30 _ ?_
        show Steps p.tables e below (T30.setTop (mkF m 50 #[.val (.ref a1), .val (.long q2), .second, .val (.ref a1), .val (.long ((w1 + q2) + w3)), .second] [])) _
        refine XS.aloadN X30.here hx rfl (hb hby d4_50) rfl rfl ?_
        show Steps p.tables e below (T30.setTop (mkF m 51 #[.val (.ref a1), .val (.long q2), .second, .val (.ref a1), .val (.long ((w1 + q2) + w3)), .second] [(.ref a1)])) _
        refine st33 _ ?_
        show Steps p.tables e below (T33.setTop (mkF m 54 #[.val (.ref a1), .val (.long q2), .second, .val (.ref a1), .val (.long ((w1 + q2) + w3)), .second] [.null])) _
        refine XS.astoreN X33.here hx rfl (hb hby d4_54) rfl rfl (l' := #[.val (.ref a1), .val (.long q2), .second, .val .null, .val (.long ((w1 + q2) + w3)), .second]) rfl ?_
        show Steps p.tables e below (T33.setTop (mkF m 55 #[.val (.ref a1), .val (.long q2), .second, .val .null, .val (.long ((w1 + q2) + w3)), .second] [])) _
        refine XS.goto X33.here hx rfl (pc0 := 55) (pc' := 9) rfl (hb hby d4_55) (by decide) (by decide) ?_
        show Steps p.tables e below (T33.setTop (mkF m 9 #[.val (.ref a1), .val (.long q2), .second, .val .null, .val (.long ((w1 + q2) + w3)), .second] [])) _
        refine XS.aloadN X33.here hx rfl (hb hby d4_9) rfl rfl ?_
        show Steps p.tables e below (T33.setTop (mkF m 10 #[.val (.ref a1), .val (.long q2), .second, .val .null, .val (.long ((w1 + q2) + w3)), .second] [.null])) _
        refine XS.ifnullYes X33.here hx rfl (pc0 := 10) (pc' := 58) rfl (hb hby d4_10) rfl (by decide) (by decide) ?_
        show Steps p.tables e below (T33.setTop (mkF m 58 #[.val (.ref a1), .val (.long q2), .second, .val .null, .val (.long ((w1 + q2) + w3)), .second] [])) _
        exact X33.returnOut hx Bd.returns (hb hby d4_58) hr
      have f34 : Exa Z h30 a1 "org/millrace/engine/Footprint" := (f29.wr W30)
      have f35 : Fld Z h30 a1 "org/millrace/engine/Footprint" "rows" "J" (.long (w1 + q2)) := (fw20.other W30 (Or.inr (slot_ne (Or.inl (hw _ (List.mem_of_getElem? (i := 21) rfl))) (Or.inl (hw _ (List.mem_of_getElem? (i := 25) rfl))) (by decide) (t := .long) (t' := .long) (by decide) (by decide))))
      have f36 : Fld Z h30 a1 "org/millrace/engine/Footprint" "aside" "J" (.long w3) := (f23.other W30 (Or.inr (slot_ne (Or.inl (hw _ (List.mem_of_getElem? (i := 23) rfl))) (Or.inl (hw _ (List.mem_of_getElem? (i := 25) rfl))) (by decide) (t := .long) (t' := .long) (by decide) (by decide))))
      · show Q4n Z a1 q2 w1 w2 w3 h0 n0 _ T33.heap _
        rw [e33]
        exact ⟨rfl, N30, K30, f34, (by have q : (w1 + q2) = (own_ar q2 w1) := (by simp only [own_ar, if_neg hc3_18, if_pos hc41_28]); rw [← q]; exact f35), (by have q : ((w1 + q2) + w3) = (own_ap q2 w1 w2 w3) := (by simp only [own_ap, if_neg hc3_18, if_pos hc41_28]); rw [← q]; exact fw30), f36, f32⟩
    · have f37 : Fld Z h20 a1 "org/millrace/engine/Footprint" "whole" "Lorg/millrace/engine/Footprint;" .null := (F_a1_whole.other W20 (Or.inr (slot_ne (Or.inr (hw _ (List.mem_of_getElem? (i := 13) rfl))) (Or.inl (hw _ (List.mem_of_getElem? (i := 21) rfl))) (by decide) (t := (.object "org/millrace/engine/Footprint")) (t' := .long) (by decide) (by decide))))
      obtain ⟨T38, X38, e38, st38⟩ := getF X26 hx hZ hown (host := "") (Or.inl (hw _ (List.mem_of_getElem? (i := 12) rfl))) Via.refl e26 f37 (g := (mkF m 51 #[.val (.ref a1), .val (.long q2), .second, .val (.ref a1), .val (.long ((w1 + q2) + w3)), .second] [(.ref a1)])) rfl rfl (hb hby d4_51)
      obtain ⟨fs, hr, hrun, hended, hW, hsame⟩ := X38.leave (v := none) (fun _ => rfl)
      refine ⟨_, _, pre27 _ ?_, hrun, hended, _, _, rfl, ?_, ⟨_, rfl⟩, hW, hsame.mono (by decide) (by decide)⟩
      · show Steps p.tables e below (T26.setTop (mkF m 41 #[.val (.ref a1), .val (.long q2), .second, .val (.ref a1), .val (.long ((w1 + q2) + w3)), .second] [(.int (lcmpW ((w1 + q2) + w3) w2))])) _
        refine XS.ifYes X26.here hx rfl (pc0 := 41) (pc' := 50) rfl (hb hby d4_41) rfl ((if0 _ _).trans (flt (mt (lw_gt _ _).mp hc41_28)).2.2.2) (by decide) (by decide) ?_
        show Steps p.tables e below (T26.setTop (mkF m 50 #[.val (.ref a1), .val (.long q2), .second, .val (.ref a1), .val (.long ((w1 + q2) + w3)), .second] [])) _
        refine XS.aloadN X26.here hx rfl (hb hby d4_50) rfl rfl ?_
        show Steps p.tables e below (T26.setTop (mkF m 51 #[.val (.ref a1), .val (.long q2), .second, .val (.ref a1), .val (.long ((w1 + q2) + w3)), .second] [(.ref a1)])) _
        refine st38 _ ?_
        show Steps p.tables e below (T38.setTop (mkF m 54 #[.val (.ref a1), .val (.long q2), .second, .val (.ref a1), .val (.long ((w1 + q2) + w3)), .second] [.null])) _
        refine XS.astoreN X38.here hx rfl (hb hby d4_54) rfl rfl (l' := #[.val (.ref a1), .val (.long q2), .second, .val .null, .val (.long ((w1 + q2) + w3)), .second]) rfl ?_
        show Steps p.tables e below (T38.setTop (mkF m 55 #[.val (.ref a1), .val (.long q2), .second, .val .null, .val (.long ((w1 + q2) + w3)), .second] [])) _
        refine XS.goto X38.here hx rfl (pc0 := 55) (pc' := 9) rfl (hb hby d4_55) (by decide) (by decide) ?_
        show Steps p.tables e below (T38.setTop (mkF m 9 #[.val (.ref a1), .val (.long q2), .second, .val .null, .val (.long ((w1 + q2) + w3)), .second] [])) _
        refine XS.aloadN X38.here hx rfl (hb hby d4_9) rfl rfl ?_
        show Steps p.tables e below (T38.setTop (mkF m 10 #[.val (.ref a1), .val (.long q2), .second, .val .null, .val (.long ((w1 + q2) + w3)), .second] [.null])) _
        refine XS.ifnullYes X38.here hx rfl (pc0 := 10) (pc' := 58) rfl (hb hby d4_10) rfl (by decide) (by decide) ?_
        show Steps p.tables e below (T38.setTop (mkF m 58 #[.val (.ref a1), .val (.long q2), .second, .val .null, .val (.long ((w1 + q2) + w3)), .second] [])) _
        exact X38.returnOut hx Bd.returns (hb hby d4_58) hr
      have f39 : Exa Z h20 a1 "org/millrace/engine/Footprint" := (E_a1.wr W20)
      · show Q4n Z a1 q2 w1 w2 w3 h0 n0 _ T38.heap _
        rw [e38]
        exact ⟨rfl, N20, K20, f39, (by have q : (w1 + q2) = (own_ar q2 w1) := (by simp only [own_ar, if_neg hc3_18, if_neg hc41_28]); rw [← q]; exact fw20), (by have q : w2 = (own_ap q2 w1 w2 w3) := (by simp only [own_ap, if_neg hc3_18, if_neg hc41_28]); rw [← q]; exact f25), f23, f37⟩
theorem ef_4r (m : MethodId) (x0 : Addr) (x1 : Int64) : entryFrame m #[(.ref x0), (.long x1)] 6 = mkF m 0 #[.val (.ref x0), .val (.long x1), .second, .unset, .unset, .unset] [] := by first | (simp [entryFrame, mkF, argsToLocals, Value.category]; done) | rfl
def Q4r (Z : State) (a1 : Addr) (a3 : Addr) (q2 : Int64) (w1 : Int64) (w2 : Int64) (w3 : Int64) (u1 : Int64) (u2 : Int64) (u3 : Int64) (h0 : Heap) (n0 : Nat) (v : Option Value) (h : Heap) (L : List Loc) : Prop := v = none ∧ Fr n0 L ∧ Keep h0 h [a1, a3] ∧ Exa Z h a1 "org/millrace/engine/Footprint" ∧ Fld Z h a1 "org/millrace/engine/Footprint" "rows" "J" (.long (own_ar q2 w1)) ∧ Fld Z h a1 "org/millrace/engine/Footprint" "peak" "J" (.long (own_ap q2 w1 w2 w3)) ∧ Fld Z h a1 "org/millrace/engine/Footprint" "aside" "J" (.long w3) ∧ Fld Z h a1 "org/millrace/engine/Footprint" "whole" "Lorg/millrace/engine/Footprint;" (.ref a3) ∧ Exa Z h a3 "org/millrace/engine/Footprint" ∧ Fld Z h a3 "org/millrace/engine/Footprint" "rows" "J" (.long (own_ar q2 u1)) ∧ Fld Z h a3 "org/millrace/engine/Footprint" "peak" "J" (.long (own_ap q2 u1 u2 u3)) ∧ Fld Z h a3 "org/millrace/engine/Footprint" "aside" "J" (.long u3) ∧ Fld Z h a3 "org/millrace/engine/Footprint" "whole" "Lorg/millrace/engine/Footprint;" .null
set_option maxRecDepth 65536 in
set_option maxHeartbeats 40000000 in
theorem rm4r (l : Launch) (Z : State) (a0 : Array Value) (hw : ∀ d ∈ tables_1, d.before a0 Z = true) (ws : List Jvm.Cond) (a1 : Addr) (a3 : Addr) (q2 : Int64) (w1 : Int64) (w2 : Int64) (w3 : Int64) (u1 : Int64) (u2 : Int64) (u3 : Int64) (h0 : Heap) (n0 : Nat) (Z0 : n0 ≤ h0.size) (E_a1 : Exa Z h0 a1 "org/millrace/engine/Footprint") (F_a1_rows : Fld Z h0 a1 "org/millrace/engine/Footprint" "rows" "J" (.long w1)) (F_a1_peak : Fld Z h0 a1 "org/millrace/engine/Footprint" "peak" "J" (.long w2)) (F_a1_aside : Fld Z h0 a1 "org/millrace/engine/Footprint" "aside" "J" (.long w3)) (F_a1_whole : Fld Z h0 a1 "org/millrace/engine/Footprint" "whole" "Lorg/millrace/engine/Footprint;" (.ref a3)) (E_a3 : Exa Z h0 a3 "org/millrace/engine/Footprint") (F_a3_rows : Fld Z h0 a3 "org/millrace/engine/Footprint" "rows" "J" (.long u1)) (F_a3_peak : Fld Z h0 a3 "org/millrace/engine/Footprint" "peak" "J" (.long u2)) (F_a3_aside : Fld Z h0 a3 "org/millrace/engine/Footprint" "aside" "J" (.long u3)) (F_a3_whole : Fld Z h0 a3 "org/millrace/engine/Footprint" "whole" "Lorg/millrace/engine/Footprint;" .null) (g_a1 : n0 ≤ a1) (g_a3 : n0 ≤ a3) (ne_a1_a3 : a1 ≠ a3) :
    MetFree l (⟨"org/millrace/engine/Footprint", "add", "(J)V"⟩ : MethodName) (head1 (Jvm.Cond.code (⟨"org/millrace/engine/Footprint", "add", "(J)V"⟩ : MethodName) prog_68_method_5_code 6 none :: ws) ({ frames := 0, cells := 0, slots := 0, locals := 0 } : Room)) (fun a U => a = #[(.ref a1), (.long q2)] ∧ Z.Warmed39 U.vm ∧ U.heap = h0) (fun _ _ _ _ _ => True) (fun _ U o U' => ∃ v L, o = .returned v ∧ Q4r Z a1 a3 q2 w1 w2 w3 u1 u2 u3 h0 n0 v U'.heap L ∧ FrameEnd U o U' L ({ frames := 0, cells := 0, slots := 0, locals := 0 } : Room).cells ({ frames := 0, cells := 0, slots := 0, locals := 0 } : Room).slots) := by
  refine MetFree.of_bodySF (plainFor_of_name pn_2) hisR ?_
  intro p e s m args below meth c s₁ Bd hml0 hP hK
  obtain ⟨rfl, hZ, hh⟩ := hP
  have hx := Bd.exec
  have hby := Bd.bytes
  have hml : c.maxLocals = 6 := hml0
  have hown : s.vm.findClass "org/millrace/engine/Footprint" = some m.cls := findClass_of_methodNamed Bd.named
  have hnm := (name_of_methodNamed Bd.named Bd.method).1
  have X0 : Stand p l e ({ frames := 0, cells := 0, slots := 0, locals := 0 } : Room) s m #[(.ref a1), (.long q2)] below meth c s₁ [] 0 0 := Stand.of_body Bd
  have e0 : s₁.heap = h0 := by rw [← hh, Bd.state]; rfl
  have N0 := Fr.nil n0
  have pre0 : ∀ t, Steps p.tables e below (s₁.setTop (mkF m 0 #[.val (.ref a1), .val (.long q2), .second, .unset, .unset, .unset] [])) t → Steps p.tables e below (s₁.setTop (entryFrame m #[(.ref a1), (.long q2)] 6)) t := fun t k => castTop (ef_4r m a1 q2) k
  have pre40 : ∀ t, Steps p.tables e below (s₁.setTop (mkF m 3 #[.val (.ref a1), .val (.long q2), .second, .unset, .unset, .unset] [(.int (lcmpW q2 (0 : Int64)))])) t → Steps p.tables e below (s₁.setTop (entryFrame m #[(.ref a1), (.long q2)] 6)) t := fun t k => pre0 t (by
      show Steps p.tables e below (s₁.setTop (mkF m 0 #[.val (.ref a1), .val (.long q2), .second, .unset, .unset, .unset] [])) _
      refine XS.lloadN X0.here hx rfl (hb hby d4_0) rfl ?_
      show Steps p.tables e below (s₁.setTop (mkF m 1 #[.val (.ref a1), .val (.long q2), .second, .unset, .unset, .unset] [(.long q2)])) _
      refine XS.lconst X0.here hx rfl (hb hby d4_1) ?_
      show Steps p.tables e below (s₁.setTop (mkF m 2 #[.val (.ref a1), .val (.long q2), .second, .unset, .unset, .unset] [(.long (0 : Int64)), (.long q2)])) _
      refine XS.lcmp X0.here hx rfl (hb hby d4_2) rfl ?_
      exact k)
  by_cases hc3_41 : q2 = (0 : Int64)
  · obtain ⟨fs, hr, hrun, hended, hW, hsame⟩ := X0.leave (v := none) (fun _ => rfl)
    refine ⟨_, _, pre40 _ ?_, hrun, hended, _, _, rfl, ?_, ⟨_, rfl⟩, hW, hsame.mono (by decide) (by decide)⟩
    · show Steps p.tables e below (s₁.setTop (mkF m 3 #[.val (.ref a1), .val (.long q2), .second, .unset, .unset, .unset] [(.int (lcmpW q2 (0 : Int64)))])) _
      refine XS.ifNo X0.here hx rfl (hb hby d4_3) rfl ((if0 _ _).trans (teq ((lw_eq _ _).mpr hc3_41)).2) ?_
      show Steps p.tables e below (s₁.setTop (mkF m 6 #[.val (.ref a1), .val (.long q2), .second, .unset, .unset, .unset] [])) _
      exact X0.returnOut hx Bd.returns (hb hby d4_6) hr
    · show Q4r Z a1 a3 q2 w1 w2 w3 u1 u2 u3 h0 n0 _ s₁.heap _
      rw [e0]
      exact ⟨rfl, N0, (Keep.refl h0 [a1, a3]), E_a1, (by have q : w1 = (own_ar q2 w1) := (by simp only [own_ar, if_pos hc3_41]); rw [← q]; exact F_a1_rows), (by have q : w2 = (own_ap q2 w1 w2 w3) := (by simp only [own_ap, if_pos hc3_41]); rw [← q]; exact F_a1_peak), F_a1_aside, F_a1_whole, E_a3, (by have q : u1 = (own_ar q2 u1) := (by simp only [own_ar, if_pos hc3_41]); rw [← q]; exact F_a3_rows), (by have q : u2 = (own_ap q2 u1 u2 u3) := (by simp only [own_ap, if_pos hc3_41]); rw [← q]; exact F_a3_peak), F_a3_aside, F_a3_whole⟩
  · obtain ⟨T42, X42, e42, st42⟩ := getF X0 hx hZ hown (host := "") (Or.inl (hw _ (List.mem_of_getElem? (i := 20) rfl))) Via.refl e0 F_a1_rows (g := (mkF m 15 #[.val (.ref a1), .val (.long q2), .second, .val (.ref a1), .unset, .unset] [(.ref a1), (.ref a1)])) rfl rfl (hb hby d4_15)
    obtain ⟨T43, h43, X43, e43, W43, st43⟩ := putF X42 hx hZ hown (host := "") (Or.inl (hw _ (List.mem_of_getElem? (i := 20) rfl))) Via.refl e42 F_a1_rows E_a1 (Or.inl (hw _ (List.mem_of_getElem? (i := 21) rfl))) (hw _ (List.mem_of_getElem? (i := 1) rfl)) (ty := .long) (by decide) rfl rfl (g := (mkF m 20 #[.val (.ref a1), .val (.long q2), .second, .val (.ref a1), .unset, .unset] [(.long (w1 + q2)), (.ref a1)])) rfl rfl (hb hby d4_20)
    have z44 : n0 ≤ h43.size := Nat.le_trans Z0 (Keep.of_wr W43).1
    have fw43 : Fld Z h43 a1 "org/millrace/engine/Footprint" "rows" "J" (.long (w1 + q2)) := F_a1_rows.same W43
    have N43 := Fr.snoc X43 N0 g_a1
    have K43 : Keep h0 h43 [a1, a3] := (Keep.refl h0 [a1, a3]).wr W43 (Or.inl (List.mem_of_getElem? (i := 0) rfl))
    obtain ⟨T45, X45, e45, st45⟩ := getF X43 hx hZ hown (host := "") (Or.inl (hw _ (List.mem_of_getElem? (i := 20) rfl))) Via.refl e43 fw43 (g := (mkF m 24 #[.val (.ref a1), .val (.long q2), .second, .val (.ref a1), .unset, .unset] [(.ref a1)])) rfl rfl (hb hby d4_24)
    have f46 : Fld Z h43 a1 "org/millrace/engine/Footprint" "aside" "J" (.long w3) := (F_a1_aside.other W43 (Or.inr (slot_ne (Or.inl (hw _ (List.mem_of_getElem? (i := 23) rfl))) (Or.inl (hw _ (List.mem_of_getElem? (i := 21) rfl))) (by decide) (t := .long) (t' := .long) (by decide) (by decide))))
    obtain ⟨T47, X47, e47, st47⟩ := getF X45 hx hZ hown (host := "") (Or.inl (hw _ (List.mem_of_getElem? (i := 22) rfl))) Via.refl e45 f46 (g := (mkF m 28 #[.val (.ref a1), .val (.long q2), .second, .val (.ref a1), .unset, .unset] [(.ref a1), (.long (w1 + q2))])) rfl rfl (hb hby d4_28)
    have f48 : Fld Z h43 a1 "org/millrace/engine/Footprint" "peak" "J" (.long w2) := (F_a1_peak.other W43 (Or.inr (slot_ne (Or.inl (hw _ (List.mem_of_getElem? (i := 25) rfl))) (Or.inl (hw _ (List.mem_of_getElem? (i := 21) rfl))) (by decide) (t := .long) (t' := .long) (by decide) (by decide))))
    obtain ⟨T49, X49, e49, st49⟩ := getF X47 hx hZ hown (host := "") (Or.inl (hw _ (List.mem_of_getElem? (i := 24) rfl))) Via.refl e47 f48 (g := (mkF m 37 #[.val (.ref a1), .val (.long q2), .second, .val (.ref a1), .val (.long ((w1 + q2) + w3)), .second] [(.ref a1), (.long ((w1 + q2) + w3))])) rfl rfl (hb hby d4_37)
    have pre50 : ∀ t, Steps p.tables e below (T49.setTop (mkF m 41 #[.val (.ref a1), .val (.long q2), .second, .val (.ref a1), .val (.long ((w1 + q2) + w3)), .second] [(.int (lcmpW ((w1 + q2) + w3) w2))])) t → Steps p.tables e below (s₁.setTop (entryFrame m #[(.ref a1), (.long q2)] 6)) t := fun t k => pre40 t (by
        show Steps p.tables e below (s₁.setTop (mkF m 3 #[.val (.ref a1), .val (.long q2), .second, .unset, .unset, .unset] [(.int (lcmpW q2 (0 : Int64)))])) _
        refine XS.ifYes X0.here hx rfl (pc0 := 3) (pc' := 7) rfl (hb hby d4_3) rfl ((if0 _ _).trans (feq (mt (lw_eq _ _).mp hc3_41)).2) (by decide) (by decide) ?_
        show Steps p.tables e below (s₁.setTop (mkF m 7 #[.val (.ref a1), .val (.long q2), .second, .unset, .unset, .unset] [])) _
        refine XS.aloadN X0.here hx rfl (hb hby d4_7) rfl rfl ?_
        show Steps p.tables e below (s₁.setTop (mkF m 8 #[.val (.ref a1), .val (.long q2), .second, .unset, .unset, .unset] [(.ref a1)])) _
        refine XS.astoreN X0.here hx rfl (hb hby d4_8) rfl rfl (l' := #[.val (.ref a1), .val (.long q2), .second, .val (.ref a1), .unset, .unset]) rfl ?_
        show Steps p.tables e below (s₁.setTop (mkF m 9 #[.val (.ref a1), .val (.long q2), .second, .val (.ref a1), .unset, .unset] [])) _
        refine XS.aloadN X0.here hx rfl (hb hby d4_9) rfl rfl ?_
        show Steps p.tables e below (s₁.setTop (mkF m 10 #[.val (.ref a1), .val (.long q2), .second, .val (.ref a1), .unset, .unset] [(.ref a1)])) _
        refine XS.ifnullNo X0.here hx rfl (hb hby d4_10) rfl ?_
        show Steps p.tables e below (s₁.setTop (mkF m 13 #[.val (.ref a1), .val (.long q2), .second, .val (.ref a1), .unset, .unset] [])) _
        refine XS.aloadN X0.here hx rfl (hb hby d4_13) rfl rfl ?_
        show Steps p.tables e below (s₁.setTop (mkF m 14 #[.val (.ref a1), .val (.long q2), .second, .val (.ref a1), .unset, .unset] [(.ref a1)])) _
        refine XS.dup X0.here hx rfl (hb hby d4_14) rfl rfl ?_
        show Steps p.tables e below (s₁.setTop (mkF m 15 #[.val (.ref a1), .val (.long q2), .second, .val (.ref a1), .unset, .unset] [(.ref a1), (.ref a1)])) _
        refine st42 _ ?_
        show Steps p.tables e below (T42.setTop (mkF m 18 #[.val (.ref a1), .val (.long q2), .second, .val (.ref a1), .unset, .unset] [(.long w1), (.ref a1)])) _
        refine XS.lloadN X42.here hx rfl (hb hby d4_18) rfl ?_
        show Steps p.tables e below (T42.setTop (mkF m 19 #[.val (.ref a1), .val (.long q2), .second, .val (.ref a1), .unset, .unset] [(.long q2), (.long w1), (.ref a1)])) _
        refine XS.ladd X42.here hx rfl (hb hby d4_19) rfl ?_
        show Steps p.tables e below (T42.setTop (mkF m 20 #[.val (.ref a1), .val (.long q2), .second, .val (.ref a1), .unset, .unset] [(.long (w1 + q2)), (.ref a1)])) _
        refine st43 _ ?_
        show Steps p.tables e below (T43.setTop (mkF m 23 #[.val (.ref a1), .val (.long q2), .second, .val (.ref a1), .unset, .unset] [])) _
        refine XS.aloadN X43.here hx rfl (hb hby d4_23) rfl rfl ?_
        show Steps p.tables e below (T43.setTop (mkF m 24 #[.val (.ref a1), .val (.long q2), .second, .val (.ref a1), .unset, .unset] [(.ref a1)])) _
        refine st45 _ ?_
        show Steps p.tables e below (T45.setTop (mkF m 27 #[.val (.ref a1), .val (.long q2), .second, .val (.ref a1), .unset, .unset] [(.long (w1 + q2))])) _
        refine XS.aloadN X45.here hx rfl (hb hby d4_27) rfl rfl ?_
        show Steps p.tables e below (T45.setTop (mkF m 28 #[.val (.ref a1), .val (.long q2), .second, .val (.ref a1), .unset, .unset] [(.ref a1), (.long (w1 + q2))])) _
        refine st47 _ ?_
        show Steps p.tables e below (T47.setTop (mkF m 31 #[.val (.ref a1), .val (.long q2), .second, .val (.ref a1), .unset, .unset] [(.long w3), (.long (w1 + q2))])) _
        refine XS.ladd X47.here hx rfl (hb hby d4_31) rfl ?_
        show Steps p.tables e below (T47.setTop (mkF m 32 #[.val (.ref a1), .val (.long q2), .second, .val (.ref a1), .unset, .unset] [(.long ((w1 + q2) + w3))])) _
        refine XS.lstore X47.here hx rfl (hb hby d4_32) rfl (l' := #[.val (.ref a1), .val (.long q2), .second, .val (.ref a1), .val (.long ((w1 + q2) + w3)), .second]) rfl ?_
        show Steps p.tables e below (T47.setTop (mkF m 34 #[.val (.ref a1), .val (.long q2), .second, .val (.ref a1), .val (.long ((w1 + q2) + w3)), .second] [])) _
        refine XS.lload X47.here hx rfl (hb hby d4_34) rfl ?_
        show Steps p.tables e below (T47.setTop (mkF m 36 #[.val (.ref a1), .val (.long q2), .second, .val (.ref a1), .val (.long ((w1 + q2) + w3)), .second] [(.long ((w1 + q2) + w3))])) _
        refine XS.aloadN X47.here hx rfl (hb hby d4_36) rfl rfl ?_
        show Steps p.tables e below (T47.setTop (mkF m 37 #[.val (.ref a1), .val (.long q2), .second, .val (.ref a1), .val (.long ((w1 + q2) + w3)), .second] [(.ref a1), (.long ((w1 + q2) + w3))])) _
        refine st49 _ ?_
        show Steps p.tables e below (T49.setTop (mkF m 40 #[.val (.ref a1), .val (.long q2), .second, .val (.ref a1), .val (.long ((w1 + q2) + w3)), .second] [(.long w2), (.long ((w1 + q2) + w3))])) _
        refine XS.lcmp X49.here hx rfl (hb hby d4_40) rfl ?_
        exact k)
    by_cases hc41_51 : w2 < ((w1 + q2) + w3)
    · have f52 : Exa Z h43 a1 "org/millrace/engine/Footprint" := (E_a1.wr W43)
      obtain ⟨T53, h53, X53, e53, W53, st53⟩ := putF X49 hx hZ hown (host := "") (Or.inl (hw _ (List.mem_of_getElem? (i := 24) rfl))) Via.refl e49 f48 f52 (Or.inl (hw _ (List.mem_of_getElem? (i := 25) rfl))) (hw _ (List.mem_of_getElem? (i := 1) rfl)) (ty := .long) (by decide) rfl rfl (g := (mkF m 47 #[.val (.ref a1), .val (.long q2), .second, .val (.ref a1), .val (.long ((w1 + q2) + w3)), .second] [(.long ((w1 + q2) + w3)), (.ref a1)])) rfl rfl (hb hby d4_47)
      have z54 : n0 ≤ h53.size := Nat.le_trans z44 (Keep.of_wr W53).1
      have fw53 : Fld Z h53 a1 "org/millrace/engine/Footprint" "peak" "J" (.long ((w1 + q2) + w3)) := f48.same W53
      have N53 := Fr.snoc X53 N43 g_a1
      have K53 : Keep h0 h53 [a1, a3] := K43.wr W53 (Or.inl (List.mem_of_getElem? (i := 0) rfl))
      have f55 : Fld Z h53 a1 "org/millrace/engine/Footprint" "whole" "Lorg/millrace/engine/Footprint;" (.ref a3) := ((F_a1_whole.other W43 (Or.inr (slot_ne (Or.inr (hw _ (List.mem_of_getElem? (i := 13) rfl))) (Or.inl (hw _ (List.mem_of_getElem? (i := 21) rfl))) (by decide) (t := (.object "org/millrace/engine/Footprint")) (t' := .long) (by decide) (by decide)))).other W53 (Or.inr (slot_ne (Or.inr (hw _ (List.mem_of_getElem? (i := 13) rfl))) (Or.inl (hw _ (List.mem_of_getElem? (i := 25) rfl))) (by decide) (t := (.object "org/millrace/engine/Footprint")) (t' := .long) (by decide) (by decide))))
      obtain ⟨T56, X56, e56, st56⟩ := getF X53 hx hZ hown (host := "") (Or.inl (hw _ (List.mem_of_getElem? (i := 12) rfl))) Via.refl e53 f55 (g := (mkF m 51 #[.val (.ref a1), .val (.long q2), .second, .val (.ref a1), .val (.long ((w1 + q2) + w3)), .second] [(.ref a1)])) rfl rfl (hb hby d4_51)
      have f57 : Fld Z h53 a3 "org/millrace/engine/Footprint" "rows" "J" (.long u1) := ((F_a3_rows.other W43 (Or.inl (Ne.symm ne_a1_a3))).other W53 (Or.inl (Ne.symm ne_a1_a3)))
      obtain ⟨T58, X58, e58, st58⟩ := getF X56 hx hZ hown (host := "") (Or.inl (hw _ (List.mem_of_getElem? (i := 20) rfl))) Via.refl e56 f57 (g := (mkF m 15 #[.val (.ref a1), .val (.long q2), .second, .val (.ref a3), .val (.long ((w1 + q2) + w3)), .second] [(.ref a3), (.ref a3)])) rfl rfl (hb hby d4_15)
      have f59 : Exa Z h53 a3 "org/millrace/engine/Footprint" := ((E_a3.wr W43).wr W53)
      obtain ⟨T60, h60, X60, e60, W60, st60⟩ := putF X58 hx hZ hown (host := "") (Or.inl (hw _ (List.mem_of_getElem? (i := 20) rfl))) Via.refl e58 f57 f59 (Or.inl (hw _ (List.mem_of_getElem? (i := 21) rfl))) (hw _ (List.mem_of_getElem? (i := 1) rfl)) (ty := .long) (by decide) rfl rfl (g := (mkF m 20 #[.val (.ref a1), .val (.long q2), .second, .val (.ref a3), .val (.long ((w1 + q2) + w3)), .second] [(.long (u1 + q2)), (.ref a3)])) rfl rfl (hb hby d4_20)
      have z61 : n0 ≤ h60.size := Nat.le_trans z54 (Keep.of_wr W60).1
      have fw60 : Fld Z h60 a3 "org/millrace/engine/Footprint" "rows" "J" (.long (u1 + q2)) := f57.same W60
      have N60 := Fr.snoc X60 N53 g_a3
      have K60 : Keep h0 h60 [a1, a3] := K53.wr W60 (Or.inl (List.mem_of_getElem? (i := 1) rfl))
      obtain ⟨T62, X62, e62, st62⟩ := getF X60 hx hZ hown (host := "") (Or.inl (hw _ (List.mem_of_getElem? (i := 20) rfl))) Via.refl e60 fw60 (g := (mkF m 24 #[.val (.ref a1), .val (.long q2), .second, .val (.ref a3), .val (.long ((w1 + q2) + w3)), .second] [(.ref a3)])) rfl rfl (hb hby d4_24)
      have f63 : Fld Z h60 a3 "org/millrace/engine/Footprint" "aside" "J" (.long u3) := (((F_a3_aside.other W43 (Or.inl (Ne.symm ne_a1_a3))).other W53 (Or.inl (Ne.symm ne_a1_a3))).other W60 (Or.inr (slot_ne (Or.inl (hw _ (List.mem_of_getElem? (i := 23) rfl))) (Or.inl (hw _ (List.mem_of_getElem? (i := 21) rfl))) (by decide) (t := .long) (t' := .long) (by decide) (by decide))))
      obtain ⟨T64, X64, e64, st64⟩ := getF X62 hx hZ hown (host := "") (Or.inl (hw _ (List.mem_of_getElem? (i := 22) rfl))) Via.refl e62 f63 (g := (mkF m 28 #[.val (.ref a1), .val (.long q2), .second, .val (.ref a3), .val (.long ((w1 + q2) + w3)), .second] [(.ref a3), (.long (u1 + q2))])) rfl rfl (hb hby d4_28)
      have f65 : Fld Z h60 a3 "org/millrace/engine/Footprint" "peak" "J" (.long u2) := (((F_a3_peak.other W43 (Or.inl (Ne.symm ne_a1_a3))).other W53 (Or.inl (Ne.symm ne_a1_a3))).other W60 (Or.inr (slot_ne (Or.inl (hw _ (List.mem_of_getElem? (i := 25) rfl))) (Or.inl (hw _ (List.mem_of_getElem? (i := 21) rfl))) (by decide) (t := .long) (t' := .long) (by decide) (by decide))))
      obtain ⟨T66, X66, e66, st66⟩ := getF X64 hx hZ hown (host := "") (Or.inl (hw _ (List.mem_of_getElem? (i := 24) rfl))) Via.refl e64 f65 (g := (mkF m 37 #[.val (.ref a1), .val (.long q2), .second, .val (.ref a3), .val (.long ((u1 + q2) + u3)), .second] [(.ref a3), (.long ((u1 + q2) + u3))])) rfl rfl (hb hby d4_37)
      have pre67 : ∀ t, Steps p.tables e below (T66.setTop (mkF m 41 #[.val (.ref a1), .val (.long q2), .second, .val (.ref a3), .val (.long ((u1 + q2) + u3)), .second] [(.int (lcmpW ((u1 + q2) + u3) u2))])) t → Steps p.tables e below (s₁.setTop (entryFrame m #[(.ref a1), (.long q2)] 6)) t := fun t k => pre50 t (by
          show Steps p.tables e below (T49.setTop (mkF m 41 #[.val (.ref a1), .val (.long q2), .second, .val (.ref a1), .val (.long ((w1 + q2) + w3)), .second] [(.int (lcmpW ((w1 + q2) + w3) w2))])) _
          refine XS.ifNo X49.here hx rfl (hb hby d4_41) rfl ((if0 _ _).trans (tlt ((lw_gt _ _).mpr hc41_51)).2.2.2) ?_
          show Steps p.tables e below (T49.setTop (mkF m 44 #[.val (.ref a1), .val (.long q2), .second, .val (.ref a1), .val (.long ((w1 + q2) + w3)), .second] [])) _
          refine XS.aloadN X49.here hx rfl (hb hby d4_44) rfl rfl ?_
          show Steps p.tables e below (T49.setTop (mkF m 45 #[.val (.ref a1), .val (.long q2), .second, .val (.ref a1), .val (.long ((w1 + q2) + w3)), .second] [(.ref a1)])) _
          refine XS.lload X49.here hx rfl (hb hby d4_45) rfl ?_
          show Steps p.tables e below (T49.setTop (mkF m 47 #[.val (.ref a1), .val (.long q2), .second, .val (.ref a1), .val (.long ((w1 + q2) + w3)), .second] [(.long ((w1 + q2) + w3)), (.ref a1)])) _
          refine st53 _ ?_
          show Steps p.tables e below (T53.setTop (mkF m 50 #[.val (.ref a1), .val (.long q2), .second, .val (.ref a1), .val (.long ((w1 + q2) + w3)), .second] [])) _
          refine XS.aloadN X53.here hx rfl (hb hby d4_50) rfl rfl ?_
          show Steps p.tables e below (T53.setTop (mkF m 51 #[.val (.ref a1), .val (.long q2), .second, .val (.ref a1), .val (.long ((w1 + q2) + w3)), .second] [(.ref a1)])) _
          refine st56 _ ?_
          show Steps p.tables e below (T56.setTop (mkF m 54 #[.val (.ref a1), .val (.long q2), .second, .val (.ref a1), .val (.long ((w1 + q2) + w3)), .second] [(.ref a3)])) _
          refine XS.astoreN X56.here hx rfl (hb hby d4_54) rfl rfl (l' := #[.val (.ref a1), .val (.long q2), .second, .val (.ref a3), .val (.long ((w1 + q2) + w3)), .second]) rfl ?_
          show Steps p.tables e below (T56.setTop (mkF m 55 #[.val (.ref a1), .val (.long q2), .second, .val (.ref a3), .val (.long ((w1 + q2) + w3)), .second] [])) _
          refine XS.goto X56.here hx rfl (pc0 := 55) (pc' := 9) rfl (hb hby d4_55) (by decide) (by decide) ?_
          show Steps p.tables e below (T56.setTop (mkF m 9 #[.val (.ref a1), .val (.long q2), .second, .val (.ref a3), .val (.long ((w1 + q2) + w3)), .second] [])) _
          refine XS.aloadN X56.here hx rfl (hb hby d4_9) rfl rfl ?_
          show Steps p.tables e below (T56.setTop (mkF m 10 #[.val (.ref a1), .val (.long q2), .second, .val (.ref a3), .val (.long ((w1 + q2) + w3)), .second] [(.ref a3)])) _
          refine XS.ifnullNo X56.here hx rfl (hb hby d4_10) rfl ?_
          show Steps p.tables e below (T56.setTop (mkF m 13 #[.val (.ref a1), .val (.long q2), .second, .val (.ref a3), .val (.long ((w1 + q2) + w3)), .second] [])) _
          refine XS.aloadN X56.here hx rfl (hb hby d4_13) rfl rfl ?_
          show Steps p.tables e below (T56.setTop (mkF m 14 #[.val (.ref a1), .val (.long q2), .second, .val (.ref a3), .val (.long ((w1 + q2) + w3)), .second] [(.ref a3)])) _
          refine XS.dup X56.here hx rfl (hb hby d4_14) rfl rfl ?_
          show Steps p.tables e below (T56.setTop (mkF m 15 #[.val (.ref a1), .val (.long q2), .second, .val (.ref a3), .val (.long ((w1 + q2) + w3)), .second] [(.ref a3), (.ref a3)])) _
          refine st58 _ ?_
          show Steps p.tables e below (T58.setTop (mkF m 18 #[.val (.ref a1), .val (.long q2), .second, .val (.ref a3), .val (.long ((w1 + q2) + w3)), .second] [(.long u1), (.ref a3)])) _
          refine XS.lloadN X58.here hx rfl (hb hby d4_18) rfl ?_
          show Steps p.tables e below (T58.setTop (mkF m 19 #[.val (.ref a1), .val (.long q2), .second, .val (.ref a3), .val (.long ((w1 + q2) + w3)), .second] [(.long q2), (.long u1), (.ref a3)])) _
          refine XS.ladd X58.here hx rfl (hb hby d4_19) rfl ?_
          show Steps p.tables e below (T58.setTop (mkF m 20 #[.val (.ref a1), .val (.long q2), .second, .val (.ref a3), .val (.long ((w1 + q2) + w3)), .second] [(.long (u1 + q2)), (.ref a3)])) _
          refine st60 _ ?_
          show Steps p.tables e below (T60.setTop (mkF m 23 #[.val (.ref a1), .val (.long q2), .second, .val (.ref a3), .val (.long ((w1 + q2) + w3)), .second] [])) _
          refine XS.aloadN X60.here hx rfl (hb hby d4_23) rfl rfl ?_
          show Steps p.tables e below (T60.setTop (mkF m 24 #[.val (.ref a1), .val (.long q2), .second, .val (.ref a3), .val (.long ((w1 + q2) + w3)), .second] [(.ref a3)])) _
          refine st62 _ ?_
          show Steps p.tables e below (T62.setTop (mkF m 27 #[.val (.ref a1), .val (.long q2), .second, .val (.ref a3), .val (.long ((w1 + q2) + w3)), .second] [(.long (u1 + q2))])) _
          refine XS.aloadN X62.here hx rfl (hb hby d4_27) rfl rfl ?_
          show Steps p.tables e below (T62.setTop (mkF m 28 #[.val (.ref a1), .val (.long q2), .second, .val (.ref a3), .val (.long ((w1 + q2) + w3)), .second] [(.ref a3), (.long (u1 + q2))])) _
          refine st64 _ ?_
          show Steps p.tables e below (T64.setTop (mkF m 31 #[.val (.ref a1), .val (.long q2), .second, .val (.ref a3), .val (.long ((w1 + q2) + w3)), .second] [(.long u3), (.long (u1 + q2))])) _
          refine XS.ladd X64.here hx rfl (hb hby d4_31) rfl ?_
          show Steps p.tables e below (T64.setTop (mkF m 32 #[.val (.ref a1), .val (.long q2), .second, .val (.ref a3), .val (.long ((w1 + q2) + w3)), .second] [(.long ((u1 + q2) + u3))])) _
          refine XS.lstore X64.here hx rfl (hb hby d4_32) rfl (l' := #[.val (.ref a1), .val (.long q2), .second, .val (.ref a3), .val (.long ((u1 + q2) + u3)), .second]) rfl ?_
          show Steps p.tables e below (T64.setTop (mkF m 34 #[.val (.ref a1), .val (.long q2), .second, .val (.ref a3), .val (.long ((u1 + q2) + u3)), .second] [])) _
          refine XS.lload X64.here hx rfl (hb hby d4_34) rfl ?_
          show Steps p.tables e below (T64.setTop (mkF m 36 #[.val (.ref a1), .val (.long q2), .second, .val (.ref a3), .val (.long ((u1 + q2) + u3)), .second] [(.long ((u1 + q2) + u3))])) _
          refine XS.aloadN X64.here hx rfl (hb hby d4_36) rfl rfl ?_
          show Steps p.tables e below (T64.setTop (mkF m 37 #[.val (.ref a1), .val (.long q2), .second, .val (.ref a3), .val (.long ((u1 + q2) + u3)), .second] [(.ref a3), (.long ((u1 + q2) + u3))])) _
          refine st66 _ ?_
          show Steps p.tables e below (T66.setTop (mkF m 40 #[.val (.ref a1), .val (.long q2), .second, .val (.ref a3), .val (.long ((u1 + q2) + u3)), .second] [(.long u2), (.long ((u1 + q2) + u3))])) _
          refine XS.lcmp X66.here hx rfl (hb hby d4_40) rfl ?_
          exact k)
      by_cases hc41_68 : u2 < ((u1 + q2) + u3)
      · have f69 : Exa Z h60 a3 "org/millrace/engine/Footprint" := (f59.wr W60)
        obtain ⟨T70, h70, X70, e70, W70, st70⟩ := putF X66 hx hZ hown (host := "") (Or.inl (hw _ (List.mem_of_getElem? (i := 24) rfl))) Via.refl e66 f65 f69 (Or.inl (hw _ (List.mem_of_getElem? (i := 25) rfl))) (hw _ (List.mem_of_getElem? (i := 1) rfl)) (ty := .long) (by decide) rfl rfl (g := (mkF m 47 #[.val (.ref a1), .val (.long q2), .second, .val (.ref a3), .val (.long ((u1 + q2) + u3)), .second] [(.long ((u1 + q2) + u3)), (.ref a3)])) rfl rfl (hb hby d4_47)
        have z71 : n0 ≤ h70.size := Nat.le_trans z61 (Keep.of_wr W70).1
        have fw70 : Fld Z h70 a3 "org/millrace/engine/Footprint" "peak" "J" (.long ((u1 + q2) + u3)) := f65.same W70
        have N70 := Fr.snoc X70 N60 g_a3
        have K70 : Keep h0 h70 [a1, a3] := K60.wr W70 (Or.inl (List.mem_of_getElem? (i := 1) rfl))
        have f72 : Fld Z h70 a3 "org/millrace/engine/Footprint" "whole" "Lorg/millrace/engine/Footprint;" .null := ((((F_a3_whole.other W43 (Or.inl (Ne.symm ne_a1_a3))).other W53 (Or.inl (Ne.symm ne_a1_a3))).other W60 (Or.inr (slot_ne (Or.inr (hw _ (List.mem_of_getElem? (i := 13) rfl))) (Or.inl (hw _ (List.mem_of_getElem? (i := 21) rfl))) (by decide) (t := (.object "org/millrace/engine/Footprint")) (t' := .long) (by decide) (by decide)))).other W70 (Or.inr (slot_ne (Or.inr (hw _ (List.mem_of_getElem? (i := 13) rfl))) (Or.inl (hw _ (List.mem_of_getElem? (i := 25) rfl))) (by decide) (t := (.object "org/millrace/engine/Footprint")) (t' := .long) (by decide) (by decide))))
        obtain ⟨T73, X73, e73, st73⟩ := getF X70 hx hZ hown (host := "") (Or.inl (hw _ (List.mem_of_getElem? (i := 12) rfl))) Via.refl e70 f72 (g := (mkF m 51 #[.val (.ref a1), .val (.long q2), .second, .val (.ref a3), .val (.long ((u1 + q2) + u3)), .second] [(.ref a3)])) rfl rfl (hb hby d4_51)
        obtain ⟨fs, hr, hrun, hended, hW, hsame⟩ := X73.leave (v := none) (fun _ => rfl)
        refine ⟨_, _, pre67 _ ?_, hrun, hended, _, _, rfl, ?_, ⟨_, rfl⟩, hW, hsame.mono (by decide) (by decide)⟩
        · show Steps p.tables e below (T66.setTop (mkF m 41 #[.val (.ref a1), .val (.long q2), .second, .val (.ref a3), .val (.long ((u1 + q2) + u3)), .second] [(.int (lcmpW ((u1 + q2) + u3) u2))])) _
          refine XS.ifNo X66.here hx rfl (hb hby d4_41) rfl ((if0 _ _).trans (tlt ((lw_gt _ _).mpr hc41_68)).2.2.2) ?_
          show Steps p.tables e below (T66.setTop (mkF m 44 #[.val (.ref a1), .val (.long q2), .second, .val (.ref a3), .val (.long ((u1 + q2) + u3)), .second] [])) _
          refine XS.aloadN X66.here hx rfl (hb hby d4_44) rfl rfl ?_
          show Steps p.tables e below (T66.setTop (mkF m 45 #[.val (.ref a1), .val (.long q2), .second, .val (.ref a3), .val (.long ((u1 + q2) + u3)), .second] [(.ref a3)])) _
          refine XS.lload X66.here hx rfl (hb hby d4_45) rfl ?_
          show Steps p.tables e below (T66.setTop (mkF m 47 #[.val (.ref a1), .val (.long q2), .second, .val (.ref a3), .val (.long ((u1 + q2) + u3)), .second] [(.long ((u1 + q2) + u3)), (.ref a3)])) _
          refine st70 _ ?_
          show Steps p.tables e below (T70.setTop (mkF m 50 #[.val (.ref a1), .val (.long q2), .second, .val (.ref a3), .val (.long ((u1 + q2) + u3)), .second] [])) _
          refine XS.aloadN X70.here hx rfl (hb hby d4_50) rfl rfl ?_
          show Steps p.tables e below (T70.setTop (mkF m 51 #[.val (.ref a1), .val (.long q2), .second, .val (.ref a3), .val (.long ((u1 + q2) + u3)), .second] [(.ref a3)])) _
          refine st73 _ ?_
          show Steps p.tables e below (T73.setTop (mkF m 54 #[.val (.ref a1), .val (.long q2), .second, .val (.ref a3), .val (.long ((u1 + q2) + u3)), .second] [.null])) _
          refine XS.astoreN X73.here hx rfl (hb hby d4_54) rfl rfl (l' := #[.val (.ref a1), .val (.long q2), .second, .val .null, .val (.long ((u1 + q2) + u3)), .second]) rfl ?_
          show Steps p.tables e below (T73.setTop (mkF m 55 #[.val (.ref a1), .val (.long q2), .second, .val .null, .val (.long ((u1 + q2) + u3)), .second] [])) _
          refine XS.goto X73.here hx rfl (pc0 := 55) (pc' := 9) rfl (hb hby d4_55) (by decide) (by decide) ?_
          show Steps p.tables e below (T73.setTop (mkF m 9 #[.val (.ref a1), .val (.long q2), .second, .val .null, .val (.long ((u1 + q2) + u3)), .second] [])) _
          refine XS.aloadN X73.here hx rfl (hb hby d4_9) rfl rfl ?_
          show Steps p.tables e below (T73.setTop (mkF m 10 #[.val (.ref a1), .val (.long q2), .second, .val .null, .val (.long ((u1 + q2) + u3)), .second] [.null])) _
          refine XS.ifnullYes X73.here hx rfl (pc0 := 10) (pc' := 58) rfl (hb hby d4_10) rfl (by decide) (by decide) ?_
          show Steps p.tables e below (T73.setTop (mkF m 58 #[.val (.ref a1), .val (.long q2), .second, .val .null, .val (.long ((u1 + q2) + u3)), .second] [])) _
          exact X73.returnOut hx Bd.returns (hb hby d4_58) hr
        have f74 : Exa Z h70 a1 "org/millrace/engine/Footprint" := (((f52.wr W53).wr W60).wr W70)
        have f75 : Fld Z h70 a1 "org/millrace/engine/Footprint" "rows" "J" (.long (w1 + q2)) := (((fw43.other W53 (Or.inr (slot_ne (Or.inl (hw _ (List.mem_of_getElem? (i := 21) rfl))) (Or.inl (hw _ (List.mem_of_getElem? (i := 25) rfl))) (by decide) (t := .long) (t' := .long) (by decide) (by decide)))).other W60 (Or.inl ne_a1_a3)).other W70 (Or.inl ne_a1_a3))
        have f76 : Fld Z h70 a1 "org/millrace/engine/Footprint" "peak" "J" (.long ((w1 + q2) + w3)) := ((fw53.other W60 (Or.inl ne_a1_a3)).other W70 (Or.inl ne_a1_a3))
        have f77 : Fld Z h70 a1 "org/millrace/engine/Footprint" "aside" "J" (.long w3) := (((f46.other W53 (Or.inr (slot_ne (Or.inl (hw _ (List.mem_of_getElem? (i := 23) rfl))) (Or.inl (hw _ (List.mem_of_getElem? (i := 25) rfl))) (by decide) (t := .long) (t' := .long) (by decide) (by decide)))).other W60 (Or.inl ne_a1_a3)).other W70 (Or.inl ne_a1_a3))
        have f78 : Fld Z h70 a1 "org/millrace/engine/Footprint" "whole" "Lorg/millrace/engine/Footprint;" (.ref a3) := ((f55.other W60 (Or.inl ne_a1_a3)).other W70 (Or.inl ne_a1_a3))
        have f79 : Exa Z h70 a3 "org/millrace/engine/Footprint" := (f69.wr W70)
        have f80 : Fld Z h70 a3 "org/millrace/engine/Footprint" "rows" "J" (.long (u1 + q2)) := (fw60.other W70 (Or.inr (slot_ne (Or.inl (hw _ (List.mem_of_getElem? (i := 21) rfl))) (Or.inl (hw _ (List.mem_of_getElem? (i := 25) rfl))) (by decide) (t := .long) (t' := .long) (by decide) (by decide))))
        have f81 : Fld Z h70 a3 "org/millrace/engine/Footprint" "aside" "J" (.long u3) := (f63.other W70 (Or.inr (slot_ne (Or.inl (hw _ (List.mem_of_getElem? (i := 23) rfl))) (Or.inl (hw _ (List.mem_of_getElem? (i := 25) rfl))) (by decide) (t := .long) (t' := .long) (by decide) (by decide))))
        · show Q4r Z a1 a3 q2 w1 w2 w3 u1 u2 u3 h0 n0 _ T73.heap _
          rw [e73]
          exact ⟨rfl, N70, K70, f74, (by have q : (w1 + q2) = (own_ar q2 w1) := (by simp only [own_ar, if_neg hc3_41, if_pos hc41_51, if_pos hc41_68]); rw [← q]; exact f75), (by have q : ((w1 + q2) + w3) = (own_ap q2 w1 w2 w3) := (by simp only [own_ap, if_neg hc3_41, if_pos hc41_51, if_pos hc41_68]); rw [← q]; exact f76), f77, f78, f79, (by have q : (u1 + q2) = (own_ar q2 u1) := (by simp only [own_ar, if_neg hc3_41, if_pos hc41_51, if_pos hc41_68]); rw [← q]; exact f80), (by have q : ((u1 + q2) + u3) = (own_ap q2 u1 u2 u3) := (by simp only [own_ap, if_neg hc3_41, if_pos hc41_51, if_pos hc41_68]); rw [← q]; exact fw70), f81, f72⟩
      · have f82 : Fld Z h60 a3 "org/millrace/engine/Footprint" "whole" "Lorg/millrace/engine/Footprint;" .null := (((F_a3_whole.other W43 (Or.inl (Ne.symm ne_a1_a3))).other W53 (Or.inl (Ne.symm ne_a1_a3))).other W60 (Or.inr (slot_ne (Or.inr (hw _ (List.mem_of_getElem? (i := 13) rfl))) (Or.inl (hw _ (List.mem_of_getElem? (i := 21) rfl))) (by decide) (t := (.object "org/millrace/engine/Footprint")) (t' := .long) (by decide) (by decide))))
        obtain ⟨T83, X83, e83, st83⟩ := getF X66 hx hZ hown (host := "") (Or.inl (hw _ (List.mem_of_getElem? (i := 12) rfl))) Via.refl e66 f82 (g := (mkF m 51 #[.val (.ref a1), .val (.long q2), .second, .val (.ref a3), .val (.long ((u1 + q2) + u3)), .second] [(.ref a3)])) rfl rfl (hb hby d4_51)
        obtain ⟨fs, hr, hrun, hended, hW, hsame⟩ := X83.leave (v := none) (fun _ => rfl)
        refine ⟨_, _, pre67 _ ?_, hrun, hended, _, _, rfl, ?_, ⟨_, rfl⟩, hW, hsame.mono (by decide) (by decide)⟩
        · show Steps p.tables e below (T66.setTop (mkF m 41 #[.val (.ref a1), .val (.long q2), .second, .val (.ref a3), .val (.long ((u1 + q2) + u3)), .second] [(.int (lcmpW ((u1 + q2) + u3) u2))])) _
          refine XS.ifYes X66.here hx rfl (pc0 := 41) (pc' := 50) rfl (hb hby d4_41) rfl ((if0 _ _).trans (flt (mt (lw_gt _ _).mp hc41_68)).2.2.2) (by decide) (by decide) ?_
          show Steps p.tables e below (T66.setTop (mkF m 50 #[.val (.ref a1), .val (.long q2), .second, .val (.ref a3), .val (.long ((u1 + q2) + u3)), .second] [])) _
          refine XS.aloadN X66.here hx rfl (hb hby d4_50) rfl rfl ?_
          show Steps p.tables e below (T66.setTop (mkF m 51 #[.val (.ref a1), .val (.long q2), .second, .val (.ref a3), .val (.long ((u1 + q2) + u3)), .second] [(.ref a3)])) _
          refine st83 _ ?_
          show Steps p.tables e below (T83.setTop (mkF m 54 #[.val (.ref a1), .val (.long q2), .second, .val (.ref a3), .val (.long ((u1 + q2) + u3)), .second] [.null])) _
          refine XS.astoreN X83.here hx rfl (hb hby d4_54) rfl rfl (l' := #[.val (.ref a1), .val (.long q2), .second, .val .null, .val (.long ((u1 + q2) + u3)), .second]) rfl ?_
          show Steps p.tables e below (T83.setTop (mkF m 55 #[.val (.ref a1), .val (.long q2), .second, .val .null, .val (.long ((u1 + q2) + u3)), .second] [])) _
          refine XS.goto X83.here hx rfl (pc0 := 55) (pc' := 9) rfl (hb hby d4_55) (by decide) (by decide) ?_
          show Steps p.tables e below (T83.setTop (mkF m 9 #[.val (.ref a1), .val (.long q2), .second, .val .null, .val (.long ((u1 + q2) + u3)), .second] [])) _
          refine XS.aloadN X83.here hx rfl (hb hby d4_9) rfl rfl ?_
          show Steps p.tables e below (T83.setTop (mkF m 10 #[.val (.ref a1), .val (.long q2), .second, .val .null, .val (.long ((u1 + q2) + u3)), .second] [.null])) _
          refine XS.ifnullYes X83.here hx rfl (pc0 := 10) (pc' := 58) rfl (hb hby d4_10) rfl (by decide) (by decide) ?_
          show Steps p.tables e below (T83.setTop (mkF m 58 #[.val (.ref a1), .val (.long q2), .second, .val .null, .val (.long ((u1 + q2) + u3)), .second] [])) _
          exact X83.returnOut hx Bd.returns (hb hby d4_58) hr
        have f84 : Exa Z h60 a1 "org/millrace/engine/Footprint" := ((f52.wr W53).wr W60)
        have f85 : Fld Z h60 a1 "org/millrace/engine/Footprint" "rows" "J" (.long (w1 + q2)) := ((fw43.other W53 (Or.inr (slot_ne (Or.inl (hw _ (List.mem_of_getElem? (i := 21) rfl))) (Or.inl (hw _ (List.mem_of_getElem? (i := 25) rfl))) (by decide) (t := .long) (t' := .long) (by decide) (by decide)))).other W60 (Or.inl ne_a1_a3))
        have f86 : Fld Z h60 a1 "org/millrace/engine/Footprint" "peak" "J" (.long ((w1 + q2) + w3)) := (fw53.other W60 (Or.inl ne_a1_a3))
        have f87 : Fld Z h60 a1 "org/millrace/engine/Footprint" "aside" "J" (.long w3) := ((f46.other W53 (Or.inr (slot_ne (Or.inl (hw _ (List.mem_of_getElem? (i := 23) rfl))) (Or.inl (hw _ (List.mem_of_getElem? (i := 25) rfl))) (by decide) (t := .long) (t' := .long) (by decide) (by decide)))).other W60 (Or.inl ne_a1_a3))
        have f88 : Fld Z h60 a1 "org/millrace/engine/Footprint" "whole" "Lorg/millrace/engine/Footprint;" (.ref a3) := (f55.other W60 (Or.inl ne_a1_a3))
        have f89 : Exa Z h60 a3 "org/millrace/engine/Footprint" := (f59.wr W60)
        · show Q4r Z a1 a3 q2 w1 w2 w3 u1 u2 u3 h0 n0 _ T83.heap _
          rw [e83]
          exact ⟨rfl, N60, K60, f84, (by have q : (w1 + q2) = (own_ar q2 w1) := (by simp only [own_ar, if_neg hc3_41, if_pos hc41_51, if_neg hc41_68]); rw [← q]; exact f85), (by have q : ((w1 + q2) + w3) = (own_ap q2 w1 w2 w3) := (by simp only [own_ap, if_neg hc3_41, if_pos hc41_51, if_neg hc41_68]); rw [← q]; exact f86), f87, f88, f89, (by have q : (u1 + q2) = (own_ar q2 u1) := (by simp only [own_ar, if_neg hc3_41, if_pos hc41_51, if_neg hc41_68]); rw [← q]; exact fw60), (by have q : u2 = (own_ap q2 u1 u2 u3) := (by simp only [own_ap, if_neg hc3_41, if_pos hc41_51, if_neg hc41_68]); rw [← q]; exact f65), f63, f82⟩
    · have f90 : Fld Z h43 a1 "org/millrace/engine/Footprint" "whole" "Lorg/millrace/engine/Footprint;" (.ref a3) := (F_a1_whole.other W43 (Or.inr (slot_ne (Or.inr (hw _ (List.mem_of_getElem? (i := 13) rfl))) (Or.inl (hw _ (List.mem_of_getElem? (i := 21) rfl))) (by decide) (t := (.object "org/millrace/engine/Footprint")) (t' := .long) (by decide) (by decide))))
      obtain ⟨T91, X91, e91, st91⟩ := getF X49 hx hZ hown (host := "") (Or.inl (hw _ (List.mem_of_getElem? (i := 12) rfl))) Via.refl e49 f90 (g := (mkF m 51 #[.val (.ref a1), .val (.long q2), .second, .val (.ref a1), .val (.long ((w1 + q2) + w3)), .second] [(.ref a1)])) rfl rfl (hb hby d4_51)
      have f92 : Fld Z h43 a3 "org/millrace/engine/Footprint" "rows" "J" (.long u1) := (F_a3_rows.other W43 (Or.inl (Ne.symm ne_a1_a3)))
      obtain ⟨T93, X93, e93, st93⟩ := getF X91 hx hZ hown (host := "") (Or.inl (hw _ (List.mem_of_getElem? (i := 20) rfl))) Via.refl e91 f92 (g := (mkF m 15 #[.val (.ref a1), .val (.long q2), .second, .val (.ref a3), .val (.long ((w1 + q2) + w3)), .second] [(.ref a3), (.ref a3)])) rfl rfl (hb hby d4_15)
      have f94 : Exa Z h43 a3 "org/millrace/engine/Footprint" := (E_a3.wr W43)
      obtain ⟨T95, h95, X95, e95, W95, st95⟩ := putF X93 hx hZ hown (host := "") (Or.inl (hw _ (List.mem_of_getElem? (i := 20) rfl))) Via.refl e93 f92 f94 (Or.inl (hw _ (List.mem_of_getElem? (i := 21) rfl))) (hw _ (List.mem_of_getElem? (i := 1) rfl)) (ty := .long) (by decide) rfl rfl (g := (mkF m 20 #[.val (.ref a1), .val (.long q2), .second, .val (.ref a3), .val (.long ((w1 + q2) + w3)), .second] [(.long (u1 + q2)), (.ref a3)])) rfl rfl (hb hby d4_20)
      have z96 : n0 ≤ h95.size := Nat.le_trans z44 (Keep.of_wr W95).1
      have fw95 : Fld Z h95 a3 "org/millrace/engine/Footprint" "rows" "J" (.long (u1 + q2)) := f92.same W95
      have N95 := Fr.snoc X95 N43 g_a3
      have K95 : Keep h0 h95 [a1, a3] := K43.wr W95 (Or.inl (List.mem_of_getElem? (i := 1) rfl))
      obtain ⟨T97, X97, e97, st97⟩ := getF X95 hx hZ hown (host := "") (Or.inl (hw _ (List.mem_of_getElem? (i := 20) rfl))) Via.refl e95 fw95 (g := (mkF m 24 #[.val (.ref a1), .val (.long q2), .second, .val (.ref a3), .val (.long ((w1 + q2) + w3)), .second] [(.ref a3)])) rfl rfl (hb hby d4_24)
      have f98 : Fld Z h95 a3 "org/millrace/engine/Footprint" "aside" "J" (.long u3) := ((F_a3_aside.other W43 (Or.inl (Ne.symm ne_a1_a3))).other W95 (Or.inr (slot_ne (Or.inl (hw _ (List.mem_of_getElem? (i := 23) rfl))) (Or.inl (hw _ (List.mem_of_getElem? (i := 21) rfl))) (by decide) (t := .long) (t' := .long) (by decide) (by decide))))
      obtain ⟨T99, X99, e99, st99⟩ := getF X97 hx hZ hown (host := "") (Or.inl (hw _ (List.mem_of_getElem? (i := 22) rfl))) Via.refl e97 f98 (g := (mkF m 28 #[.val (.ref a1), .val (.long q2), .second, .val (.ref a3), .val (.long ((w1 + q2) + w3)), .second] [(.ref a3), (.long (u1 + q2))])) rfl rfl (hb hby d4_28)
      have f100 : Fld Z h95 a3 "org/millrace/engine/Footprint" "peak" "J" (.long u2) := ((F_a3_peak.other W43 (Or.inl (Ne.symm ne_a1_a3))).other W95 (Or.inr (slot_ne (Or.inl (hw _ (List.mem_of_getElem? (i := 25) rfl))) (Or.inl (hw _ (List.mem_of_getElem? (i := 21) rfl))) (by decide) (t := .long) (t' := .long) (by decide) (by decide))))
      obtain ⟨T101, X101, e101, st101⟩ := getF X99 hx hZ hown (host := "") (Or.inl (hw _ (List.mem_of_getElem? (i := 24) rfl))) Via.refl e99 f100 (g := (mkF m 37 #[.val (.ref a1), .val (.long q2), .second, .val (.ref a3), .val (.long ((u1 + q2) + u3)), .second] [(.ref a3), (.long ((u1 + q2) + u3))])) rfl rfl (hb hby d4_37)
      have pre102 : ∀ t, Steps p.tables e below (T101.setTop (mkF m 41 #[.val (.ref a1), .val (.long q2), .second, .val (.ref a3), .val (.long ((u1 + q2) + u3)), .second] [(.int (lcmpW ((u1 + q2) + u3) u2))])) t → Steps p.tables e below (s₁.setTop (entryFrame m #[(.ref a1), (.long q2)] 6)) t := fun t k => pre50 t (by
          show Steps p.tables e below (T49.setTop (mkF m 41 #[.val (.ref a1), .val (.long q2), .second, .val (.ref a1), .val (.long ((w1 + q2) + w3)), .second] [(.int (lcmpW ((w1 + q2) + w3) w2))])) _
          refine XS.ifYes X49.here hx rfl (pc0 := 41) (pc' := 50) rfl (hb hby d4_41) rfl ((if0 _ _).trans (flt (mt (lw_gt _ _).mp hc41_51)).2.2.2) (by decide) (by decide) ?_
          show Steps p.tables e below (T49.setTop (mkF m 50 #[.val (.ref a1), .val (.long q2), .second, .val (.ref a1), .val (.long ((w1 + q2) + w3)), .second] [])) _
          refine XS.aloadN X49.here hx rfl (hb hby d4_50) rfl rfl ?_
          show Steps p.tables e below (T49.setTop (mkF m 51 #[.val (.ref a1), .val (.long q2), .second, .val (.ref a1), .val (.long ((w1 + q2) + w3)), .second] [(.ref a1)])) _
          refine st91 _ ?_
          show Steps p.tables e below (T91.setTop (mkF m 54 #[.val (.ref a1), .val (.long q2), .second, .val (.ref a1), .val (.long ((w1 + q2) + w3)), .second] [(.ref a3)])) _
          refine XS.astoreN X91.here hx rfl (hb hby d4_54) rfl rfl (l' := #[.val (.ref a1), .val (.long q2), .second, .val (.ref a3), .val (.long ((w1 + q2) + w3)), .second]) rfl ?_
          show Steps p.tables e below (T91.setTop (mkF m 55 #[.val (.ref a1), .val (.long q2), .second, .val (.ref a3), .val (.long ((w1 + q2) + w3)), .second] [])) _
          refine XS.goto X91.here hx rfl (pc0 := 55) (pc' := 9) rfl (hb hby d4_55) (by decide) (by decide) ?_
          show Steps p.tables e below (T91.setTop (mkF m 9 #[.val (.ref a1), .val (.long q2), .second, .val (.ref a3), .val (.long ((w1 + q2) + w3)), .second] [])) _
          refine XS.aloadN X91.here hx rfl (hb hby d4_9) rfl rfl ?_
          show Steps p.tables e below (T91.setTop (mkF m 10 #[.val (.ref a1), .val (.long q2), .second, .val (.ref a3), .val (.long ((w1 + q2) + w3)), .second] [(.ref a3)])) _
          refine XS.ifnullNo X91.here hx rfl (hb hby d4_10) rfl ?_
          show Steps p.tables e below (T91.setTop (mkF m 13 #[.val (.ref a1), .val (.long q2), .second, .val (.ref a3), .val (.long ((w1 + q2) + w3)), .second] [])) _
          refine XS.aloadN X91.here hx rfl (hb hby d4_13) rfl rfl ?_
          show Steps p.tables e below (T91.setTop (mkF m 14 #[.val (.ref a1), .val (.long q2), .second, .val (.ref a3), .val (.long ((w1 + q2) + w3)), .second] [(.ref a3)])) _
          refine XS.dup X91.here hx rfl (hb hby d4_14) rfl rfl ?_
          show Steps p.tables e below (T91.setTop (mkF m 15 #[.val (.ref a1), .val (.long q2), .second, .val (.ref a3), .val (.long ((w1 + q2) + w3)), .second] [(.ref a3), (.ref a3)])) _
          refine st93 _ ?_
          show Steps p.tables e below (T93.setTop (mkF m 18 #[.val (.ref a1), .val (.long q2), .second, .val (.ref a3), .val (.long ((w1 + q2) + w3)), .second] [(.long u1), (.ref a3)])) _
          refine XS.lloadN X93.here hx rfl (hb hby d4_18) rfl ?_
          show Steps p.tables e below (T93.setTop (mkF m 19 #[.val (.ref a1), .val (.long q2), .second, .val (.ref a3), .val (.long ((w1 + q2) + w3)), .second] [(.long q2), (.long u1), (.ref a3)])) _
          refine XS.ladd X93.here hx rfl (hb hby d4_19) rfl ?_
          show Steps p.tables e below (T93.setTop (mkF m 20 #[.val (.ref a1), .val (.long q2), .second, .val (.ref a3), .val (.long ((w1 + q2) + w3)), .second] [(.long (u1 + q2)), (.ref a3)])) _
          refine st95 _ ?_
          show Steps p.tables e below (T95.setTop (mkF m 23 #[.val (.ref a1), .val (.long q2), .second, .val (.ref a3), .val (.long ((w1 + q2) + w3)), .second] [])) _
          refine XS.aloadN X95.here hx rfl (hb hby d4_23) rfl rfl ?_
          show Steps p.tables e below (T95.setTop (mkF m 24 #[.val (.ref a1), .val (.long q2), .second, .val (.ref a3), .val (.long ((w1 + q2) + w3)), .second] [(.ref a3)])) _
          refine st97 _ ?_
          show Steps p.tables e below (T97.setTop (mkF m 27 #[.val (.ref a1), .val (.long q2), .second, .val (.ref a3), .val (.long ((w1 + q2) + w3)), .second] [(.long (u1 + q2))])) _
          refine XS.aloadN X97.here hx rfl (hb hby d4_27) rfl rfl ?_
          show Steps p.tables e below (T97.setTop (mkF m 28 #[.val (.ref a1), .val (.long q2), .second, .val (.ref a3), .val (.long ((w1 + q2) + w3)), .second] [(.ref a3), (.long (u1 + q2))])) _
          refine st99 _ ?_
          show Steps p.tables e below (T99.setTop (mkF m 31 #[.val (.ref a1), .val (.long q2), .second, .val (.ref a3), .val (.long ((w1 + q2) + w3)), .second] [(.long u3), (.long (u1 + q2))])) _
          refine XS.ladd X99.here hx rfl (hb hby d4_31) rfl ?_
          show Steps p.tables e below (T99.setTop (mkF m 32 #[.val (.ref a1), .val (.long q2), .second, .val (.ref a3), .val (.long ((w1 + q2) + w3)), .second] [(.long ((u1 + q2) + u3))])) _
          refine XS.lstore X99.here hx rfl (hb hby d4_32) rfl (l' := #[.val (.ref a1), .val (.long q2), .second, .val (.ref a3), .val (.long ((u1 + q2) + u3)), .second]) rfl ?_
          show Steps p.tables e below (T99.setTop (mkF m 34 #[.val (.ref a1), .val (.long q2), .second, .val (.ref a3), .val (.long ((u1 + q2) + u3)), .second] [])) _
          refine XS.lload X99.here hx rfl (hb hby d4_34) rfl ?_
          show Steps p.tables e below (T99.setTop (mkF m 36 #[.val (.ref a1), .val (.long q2), .second, .val (.ref a3), .val (.long ((u1 + q2) + u3)), .second] [(.long ((u1 + q2) + u3))])) _
          refine XS.aloadN X99.here hx rfl (hb hby d4_36) rfl rfl ?_
          show Steps p.tables e below (T99.setTop (mkF m 37 #[.val (.ref a1), .val (.long q2), .second, .val (.ref a3), .val (.long ((u1 + q2) + u3)), .second] [(.ref a3), (.long ((u1 + q2) + u3))])) _
          refine st101 _ ?_
          show Steps p.tables e below (T101.setTop (mkF m 40 #[.val (.ref a1), .val (.long q2), .second, .val (.ref a3), .val (.long ((u1 + q2) + u3)), .second] [(.long u2), (.long ((u1 + q2) + u3))])) _
          refine XS.lcmp X101.here hx rfl (hb hby d4_40) rfl ?_
          exact k)
      by_cases hc41_103 : u2 < ((u1 + q2) + u3)
      · have f104 : Exa Z h95 a3 "org/millrace/engine/Footprint" := (f94.wr W95)
        obtain ⟨T105, h105, X105, e105, W105, st105⟩ := putF X101 hx hZ hown (host := "") (Or.inl (hw _ (List.mem_of_getElem? (i := 24) rfl))) Via.refl e101 f100 f104 (Or.inl (hw _ (List.mem_of_getElem? (i := 25) rfl))) (hw _ (List.mem_of_getElem? (i := 1) rfl)) (ty := .long) (by decide) rfl rfl (g := (mkF m 47 #[.val (.ref a1), .val (.long q2), .second, .val (.ref a3), .val (.long ((u1 + q2) + u3)), .second] [(.long ((u1 + q2) + u3)), (.ref a3)])) rfl rfl (hb hby d4_47)
        have z106 : n0 ≤ h105.size := Nat.le_trans z96 (Keep.of_wr W105).1
        have fw105 : Fld Z h105 a3 "org/millrace/engine/Footprint" "peak" "J" (.long ((u1 + q2) + u3)) := f100.same W105
        have N105 := Fr.snoc X105 N95 g_a3
        have K105 : Keep h0 h105 [a1, a3] := K95.wr W105 (Or.inl (List.mem_of_getElem? (i := 1) rfl))
        have f107 : Fld Z h105 a3 "org/millrace/engine/Footprint" "whole" "Lorg/millrace/engine/Footprint;" .null := (((F_a3_whole.other W43 (Or.inl (Ne.symm ne_a1_a3))).other W95 (Or.inr (slot_ne (Or.inr (hw _ (List.mem_of_getElem? (i := 13) rfl))) (Or.inl (hw _ (List.mem_of_getElem? (i := 21) rfl))) (by decide) (t := (.object "org/millrace/engine/Footprint")) (t' := .long) (by decide) (by decide)))).other W105 (Or.inr (slot_ne (Or.inr (hw _ (List.mem_of_getElem? (i := 13) rfl))) (Or.inl (hw _ (List.mem_of_getElem? (i := 25) rfl))) (by decide) (t := (.object "org/millrace/engine/Footprint")) (t' := .long) (by decide) (by decide))))
        obtain ⟨T108, X108, e108, st108⟩ := getF X105 hx hZ hown (host := "") (Or.inl (hw _ (List.mem_of_getElem? (i := 12) rfl))) Via.refl e105 f107 (g := (mkF m 51 #[.val (.ref a1), .val (.long q2), .second, .val (.ref a3), .val (.long ((u1 + q2) + u3)), .second] [(.ref a3)])) rfl rfl (hb hby d4_51)
        obtain ⟨fs, hr, hrun, hended, hW, hsame⟩ := X108.leave (v := none) (fun _ => rfl)
        refine ⟨_, _, pre102 _ ?_, hrun, hended, _, _, rfl, ?_, ⟨_, rfl⟩, hW, hsame.mono (by decide) (by decide)⟩
        · show Steps p.tables e below (T101.setTop (mkF m 41 #[.val (.ref a1), .val (.long q2), .second, .val (.ref a3), .val (.long ((u1 + q2) + u3)), .second] [(.int (lcmpW ((u1 + q2) + u3) u2))])) _
          refine XS.ifNo X101.here hx rfl (hb hby d4_41) rfl ((if0 _ _).trans (tlt ((lw_gt _ _).mpr hc41_103)).2.2.2) ?_
          show Steps p.tables e below (T101.setTop (mkF m 44 #[.val (.ref a1), .val (.long q2), .second, .val (.ref a3), .val (.long ((u1 + q2) + u3)), .second] [])) _
          refine XS.aloadN X101.here hx rfl (hb hby d4_44) rfl rfl ?_
          show Steps p.tables e below (T101.setTop (mkF m 45 #[.val (.ref a1), .val (.long q2), .second, .val (.ref a3), .val (.long ((u1 + q2) + u3)), .second] [(.ref a3)])) _
          refine XS.lload X101.here hx rfl (hb hby d4_45) rfl ?_
          show Steps p.tables e below (T101.setTop (mkF m 47 #[.val (.ref a1), .val (.long q2), .second, .val (.ref a3), .val (.long ((u1 + q2) + u3)), .second] [(.long ((u1 + q2) + u3)), (.ref a3)])) _
          refine st105 _ ?_
          show Steps p.tables e below (T105.setTop (mkF m 50 #[.val (.ref a1), .val (.long q2), .second, .val (.ref a3), .val (.long ((u1 + q2) + u3)), .second] [])) _
          refine XS.aloadN X105.here hx rfl (hb hby d4_50) rfl rfl ?_
          show Steps p.tables e below (T105.setTop (mkF m 51 #[.val (.ref a1), .val (.long q2), .second, .val (.ref a3), .val (.long ((u1 + q2) + u3)), .second] [(.ref a3)])) _
          refine st108 _ ?_
          show Steps p.tables e below (T108.setTop (mkF m 54 #[.val (.ref a1), .val (.long q2), .second, .val (.ref a3), .val (.long ((u1 + q2) + u3)), .second] [.null])) _
          refine XS.astoreN X108.here hx rfl (hb hby d4_54) rfl rfl (l' := #[.val (.ref a1), .val (.long q2), .second, .val .null, .val (.long ((u1 + q2) + u3)), .second]) rfl ?_
          show Steps p.tables e below (T108.setTop (mkF m 55 #[.val (.ref a1), .val (.long q2), .second, .val .null, .val (.long ((u1 + q2) + u3)), .second] [])) _
          refine XS.goto X108.here hx rfl (pc0 := 55) (pc' := 9) rfl (hb hby d4_55) (by decide) (by decide) ?_
          show Steps p.tables e below (T108.setTop (mkF m 9 #[.val (.ref a1), .val (.long q2), .second, .val .null, .val (.long ((u1 + q2) + u3)), .second] [])) _
          refine XS.aloadN X108.here hx rfl (hb hby d4_9) rfl rfl ?_
          show Steps p.tables e below (T108.setTop (mkF m 10 #[.val (.ref a1), .val (.long q2), .second, .val .null, .val (.long ((u1 + q2) + u3)), .second] [.null])) _
          refine XS.ifnullYes X108.here hx rfl (pc0 := 10) (pc' := 58) rfl (hb hby d4_10) rfl (by decide) (by decide) ?_
          show Steps p.tables e below (T108.setTop (mkF m 58 #[.val (.ref a1), .val (.long q2), .second, .val .null, .val (.long ((u1 + q2) + u3)), .second] [])) _
          exact X108.returnOut hx Bd.returns (hb hby d4_58) hr
        have f109 : Exa Z h105 a1 "org/millrace/engine/Footprint" := (((E_a1.wr W43).wr W95).wr W105)
        have f110 : Fld Z h105 a1 "org/millrace/engine/Footprint" "rows" "J" (.long (w1 + q2)) := ((fw43.other W95 (Or.inl ne_a1_a3)).other W105 (Or.inl ne_a1_a3))
        have f111 : Fld Z h105 a1 "org/millrace/engine/Footprint" "peak" "J" (.long w2) := ((f48.other W95 (Or.inl ne_a1_a3)).other W105 (Or.inl ne_a1_a3))
        have f112 : Fld Z h105 a1 "org/millrace/engine/Footprint" "aside" "J" (.long w3) := ((f46.other W95 (Or.inl ne_a1_a3)).other W105 (Or.inl ne_a1_a3))
        have f113 : Fld Z h105 a1 "org/millrace/engine/Footprint" "whole" "Lorg/millrace/engine/Footprint;" (.ref a3) := ((f90.other W95 (Or.inl ne_a1_a3)).other W105 (Or.inl ne_a1_a3))
        have f114 : Exa Z h105 a3 "org/millrace/engine/Footprint" := (f104.wr W105)
        have f115 : Fld Z h105 a3 "org/millrace/engine/Footprint" "rows" "J" (.long (u1 + q2)) := (fw95.other W105 (Or.inr (slot_ne (Or.inl (hw _ (List.mem_of_getElem? (i := 21) rfl))) (Or.inl (hw _ (List.mem_of_getElem? (i := 25) rfl))) (by decide) (t := .long) (t' := .long) (by decide) (by decide))))
        have f116 : Fld Z h105 a3 "org/millrace/engine/Footprint" "aside" "J" (.long u3) := (f98.other W105 (Or.inr (slot_ne (Or.inl (hw _ (List.mem_of_getElem? (i := 23) rfl))) (Or.inl (hw _ (List.mem_of_getElem? (i := 25) rfl))) (by decide) (t := .long) (t' := .long) (by decide) (by decide))))
        · show Q4r Z a1 a3 q2 w1 w2 w3 u1 u2 u3 h0 n0 _ T108.heap _
          rw [e108]
          exact ⟨rfl, N105, K105, f109, (by have q : (w1 + q2) = (own_ar q2 w1) := (by simp only [own_ar, if_neg hc3_41, if_neg hc41_51, if_pos hc41_103]); rw [← q]; exact f110), (by have q : w2 = (own_ap q2 w1 w2 w3) := (by simp only [own_ap, if_neg hc3_41, if_neg hc41_51, if_pos hc41_103]); rw [← q]; exact f111), f112, f113, f114, (by have q : (u1 + q2) = (own_ar q2 u1) := (by simp only [own_ar, if_neg hc3_41, if_neg hc41_51, if_pos hc41_103]); rw [← q]; exact f115), (by have q : ((u1 + q2) + u3) = (own_ap q2 u1 u2 u3) := (by simp only [own_ap, if_neg hc3_41, if_neg hc41_51, if_pos hc41_103]); rw [← q]; exact fw105), f116, f107⟩
      · have f117 : Fld Z h95 a3 "org/millrace/engine/Footprint" "whole" "Lorg/millrace/engine/Footprint;" .null := ((F_a3_whole.other W43 (Or.inl (Ne.symm ne_a1_a3))).other W95 (Or.inr (slot_ne (Or.inr (hw _ (List.mem_of_getElem? (i := 13) rfl))) (Or.inl (hw _ (List.mem_of_getElem? (i := 21) rfl))) (by decide) (t := (.object "org/millrace/engine/Footprint")) (t' := .long) (by decide) (by decide))))
        obtain ⟨T118, X118, e118, st118⟩ := getF X101 hx hZ hown (host := "") (Or.inl (hw _ (List.mem_of_getElem? (i := 12) rfl))) Via.refl e101 f117 (g := (mkF m 51 #[.val (.ref a1), .val (.long q2), .second, .val (.ref a3), .val (.long ((u1 + q2) + u3)), .second] [(.ref a3)])) rfl rfl (hb hby d4_51)
        obtain ⟨fs, hr, hrun, hended, hW, hsame⟩ := X118.leave (v := none) (fun _ => rfl)
        refine ⟨_, _, pre102 _ ?_, hrun, hended, _, _, rfl, ?_, ⟨_, rfl⟩, hW, hsame.mono (by decide) (by decide)⟩
        · show Steps p.tables e below (T101.setTop (mkF m 41 #[.val (.ref a1), .val (.long q2), .second, .val (.ref a3), .val (.long ((u1 + q2) + u3)), .second] [(.int (lcmpW ((u1 + q2) + u3) u2))])) _
          refine XS.ifYes X101.here hx rfl (pc0 := 41) (pc' := 50) rfl (hb hby d4_41) rfl ((if0 _ _).trans (flt (mt (lw_gt _ _).mp hc41_103)).2.2.2) (by decide) (by decide) ?_
          show Steps p.tables e below (T101.setTop (mkF m 50 #[.val (.ref a1), .val (.long q2), .second, .val (.ref a3), .val (.long ((u1 + q2) + u3)), .second] [])) _
          refine XS.aloadN X101.here hx rfl (hb hby d4_50) rfl rfl ?_
          show Steps p.tables e below (T101.setTop (mkF m 51 #[.val (.ref a1), .val (.long q2), .second, .val (.ref a3), .val (.long ((u1 + q2) + u3)), .second] [(.ref a3)])) _
          refine st118 _ ?_
          show Steps p.tables e below (T118.setTop (mkF m 54 #[.val (.ref a1), .val (.long q2), .second, .val (.ref a3), .val (.long ((u1 + q2) + u3)), .second] [.null])) _
          refine XS.astoreN X118.here hx rfl (hb hby d4_54) rfl rfl (l' := #[.val (.ref a1), .val (.long q2), .second, .val .null, .val (.long ((u1 + q2) + u3)), .second]) rfl ?_
          show Steps p.tables e below (T118.setTop (mkF m 55 #[.val (.ref a1), .val (.long q2), .second, .val .null, .val (.long ((u1 + q2) + u3)), .second] [])) _
          refine XS.goto X118.here hx rfl (pc0 := 55) (pc' := 9) rfl (hb hby d4_55) (by decide) (by decide) ?_
          show Steps p.tables e below (T118.setTop (mkF m 9 #[.val (.ref a1), .val (.long q2), .second, .val .null, .val (.long ((u1 + q2) + u3)), .second] [])) _
          refine XS.aloadN X118.here hx rfl (hb hby d4_9) rfl rfl ?_
          show Steps p.tables e below (T118.setTop (mkF m 10 #[.val (.ref a1), .val (.long q2), .second, .val .null, .val (.long ((u1 + q2) + u3)), .second] [.null])) _
          refine XS.ifnullYes X118.here hx rfl (pc0 := 10) (pc' := 58) rfl (hb hby d4_10) rfl (by decide) (by decide) ?_
          show Steps p.tables e below (T118.setTop (mkF m 58 #[.val (.ref a1), .val (.long q2), .second, .val .null, .val (.long ((u1 + q2) + u3)), .second] [])) _
          exact X118.returnOut hx Bd.returns (hb hby d4_58) hr
        have f119 : Exa Z h95 a1 "org/millrace/engine/Footprint" := ((E_a1.wr W43).wr W95)
        have f120 : Fld Z h95 a1 "org/millrace/engine/Footprint" "rows" "J" (.long (w1 + q2)) := (fw43.other W95 (Or.inl ne_a1_a3))
        have f121 : Fld Z h95 a1 "org/millrace/engine/Footprint" "peak" "J" (.long w2) := (f48.other W95 (Or.inl ne_a1_a3))
        have f122 : Fld Z h95 a1 "org/millrace/engine/Footprint" "aside" "J" (.long w3) := (f46.other W95 (Or.inl ne_a1_a3))
        have f123 : Fld Z h95 a1 "org/millrace/engine/Footprint" "whole" "Lorg/millrace/engine/Footprint;" (.ref a3) := (f90.other W95 (Or.inl ne_a1_a3))
        have f124 : Exa Z h95 a3 "org/millrace/engine/Footprint" := (f94.wr W95)
        · show Q4r Z a1 a3 q2 w1 w2 w3 u1 u2 u3 h0 n0 _ T118.heap _
          rw [e118]
          exact ⟨rfl, N95, K95, f119, (by have q : (w1 + q2) = (own_ar q2 w1) := (by simp only [own_ar, if_neg hc3_41, if_neg hc41_51, if_neg hc41_103]); rw [← q]; exact f120), (by have q : w2 = (own_ap q2 w1 w2 w3) := (by simp only [own_ap, if_neg hc3_41, if_neg hc41_51, if_neg hc41_103]); rw [← q]; exact f121), f122, f123, f124, (by have q : (u1 + q2) = (own_ar q2 u1) := (by simp only [own_ar, if_neg hc3_41, if_neg hc41_51, if_neg hc41_103]); rw [← q]; exact fw95), (by have q : u2 = (own_ap q2 u1 u2 u3) := (by simp only [own_ap, if_neg hc3_41, if_neg hc41_51, if_neg hc41_103]); rw [← q]; exact f100), f98, f117⟩
theorem d5_0 : decode prog_68_method_6_code 0 = .ok (.aload_n 0, 1) := by decide +kernel
theorem d5_1 : decode prog_68_method_6_code 1 = .ok (.astore_n 3, 1) := by decide +kernel
theorem d5_2 : decode prog_68_method_6_code 2 = .ok (.aload_n 3, 1) := by decide +kernel
theorem d5_3 : decode prog_68_method_6_code 3 = .ok (.ifnull 31, 3) := by decide +kernel
theorem d5_6 : decode prog_68_method_6_code 6 = .ok (.aload_n 3, 1) := by decide +kernel
theorem d5_7 : decode prog_68_method_6_code 7 = .ok (.dup, 1) := by decide +kernel
theorem d5_8 : decode prog_68_method_6_code 8 = .ok (.getfield 16, 3) := by decide +kernel
theorem d5_11 : decode prog_68_method_6_code 11 = .ok (.lload_n 1, 1) := by decide +kernel
theorem d5_12 : decode prog_68_method_6_code 12 = .ok (.lsub, 1) := by decide +kernel
theorem d5_13 : decode prog_68_method_6_code 13 = .ok (.putfield 16, 3) := by decide +kernel
theorem d5_16 : decode prog_68_method_6_code 16 = .ok (.aload_n 3, 1) := by decide +kernel
theorem d5_17 : decode prog_68_method_6_code 17 = .ok (.dup, 1) := by decide +kernel
theorem d5_18 : decode prog_68_method_6_code 18 = .ok (.getfield 23, 3) := by decide +kernel
theorem d5_21 : decode prog_68_method_6_code 21 = .ok (.lload_n 1, 1) := by decide +kernel
theorem d5_22 : decode prog_68_method_6_code 22 = .ok (.ladd, 1) := by decide +kernel
theorem d5_23 : decode prog_68_method_6_code 23 = .ok (.putfield 23, 3) := by decide +kernel
theorem d5_26 : decode prog_68_method_6_code 26 = .ok (.aload_n 3, 1) := by decide +kernel
theorem d5_27 : decode prog_68_method_6_code 27 = .ok (.getfield 12, 3) := by decide +kernel
theorem d5_30 : decode prog_68_method_6_code 30 = .ok (.astore_n 3, 1) := by decide +kernel
theorem d5_31 : decode prog_68_method_6_code 31 = .ok (.goto (-29), 3) := by decide +kernel
theorem d5_34 : decode prog_68_method_6_code 34 = .ok (.return_, 1) := by decide +kernel
theorem ef_5n (m : MethodId) (x0 : Addr) (x1 : Int64) : entryFrame m #[(.ref x0), (.long x1)] 4 = mkF m 0 #[.val (.ref x0), .val (.long x1), .second, .unset] [] := by first | (simp [entryFrame, mkF, argsToLocals, Value.category]; done) | rfl
def Q5n (Z : State) (a1 : Addr) (q2 : Int64) (w1 : Int64) (w2 : Int64) (w3 : Int64) (h0 : Heap) (n0 : Nat) (v : Option Value) (h : Heap) (L : List Loc) : Prop := v = none ∧ Fr n0 L ∧ Keep h0 h [a1] ∧ Exa Z h a1 "org/millrace/engine/Footprint" ∧ Fld Z h a1 "org/millrace/engine/Footprint" "rows" "J" (.long (w1 - q2)) ∧ Fld Z h a1 "org/millrace/engine/Footprint" "peak" "J" (.long w2) ∧ Fld Z h a1 "org/millrace/engine/Footprint" "aside" "J" (.long (w3 + q2)) ∧ Fld Z h a1 "org/millrace/engine/Footprint" "whole" "Lorg/millrace/engine/Footprint;" .null
set_option maxRecDepth 65536 in
set_option maxHeartbeats 40000000 in
theorem rm5n (l : Launch) (Z : State) (a0 : Array Value) (hw : ∀ d ∈ tables_1, d.before a0 Z = true) (ws : List Jvm.Cond) (a1 : Addr) (q2 : Int64) (w1 : Int64) (w2 : Int64) (w3 : Int64) (h0 : Heap) (n0 : Nat) (Z0 : n0 ≤ h0.size) (E_a1 : Exa Z h0 a1 "org/millrace/engine/Footprint") (F_a1_rows : Fld Z h0 a1 "org/millrace/engine/Footprint" "rows" "J" (.long w1)) (F_a1_peak : Fld Z h0 a1 "org/millrace/engine/Footprint" "peak" "J" (.long w2)) (F_a1_aside : Fld Z h0 a1 "org/millrace/engine/Footprint" "aside" "J" (.long w3)) (F_a1_whole : Fld Z h0 a1 "org/millrace/engine/Footprint" "whole" "Lorg/millrace/engine/Footprint;" .null) (g_a1 : n0 ≤ a1) :
    MetFree l (⟨"org/millrace/engine/Footprint", "setAside", "(J)V"⟩ : MethodName) (head1 (Jvm.Cond.code (⟨"org/millrace/engine/Footprint", "setAside", "(J)V"⟩ : MethodName) prog_68_method_6_code 4 none :: ws) ({ frames := 0, cells := 0, slots := 0, locals := 0 } : Room)) (fun a U => a = #[(.ref a1), (.long q2)] ∧ Z.Warmed39 U.vm ∧ U.heap = h0) (fun _ _ _ _ _ => True) (fun _ U o U' => ∃ v L, o = .returned v ∧ Q5n Z a1 q2 w1 w2 w3 h0 n0 v U'.heap L ∧ FrameEnd U o U' L ({ frames := 0, cells := 0, slots := 0, locals := 0 } : Room).cells ({ frames := 0, cells := 0, slots := 0, locals := 0 } : Room).slots) := by
  refine MetFree.of_bodySF (plainFor_of_name pn_2) hisR ?_
  intro p e s m args below meth c s₁ Bd hml0 hP hK
  obtain ⟨rfl, hZ, hh⟩ := hP
  have hx := Bd.exec
  have hby := Bd.bytes
  have hml : c.maxLocals = 4 := hml0
  have hown : s.vm.findClass "org/millrace/engine/Footprint" = some m.cls := findClass_of_methodNamed Bd.named
  have hnm := (name_of_methodNamed Bd.named Bd.method).1
  have X0 : Stand p l e ({ frames := 0, cells := 0, slots := 0, locals := 0 } : Room) s m #[(.ref a1), (.long q2)] below meth c s₁ [] 0 0 := Stand.of_body Bd
  have e0 : s₁.heap = h0 := by rw [← hh, Bd.state]; rfl
  have N0 := Fr.nil n0
  have pre0 : ∀ t, Steps p.tables e below (s₁.setTop (mkF m 0 #[.val (.ref a1), .val (.long q2), .second, .unset] [])) t → Steps p.tables e below (s₁.setTop (entryFrame m #[(.ref a1), (.long q2)] 4)) t := fun t k => castTop (ef_5n m a1 q2) k
  obtain ⟨T125, X125, e125, st125⟩ := getF X0 hx hZ hown (host := "") (Or.inl (hw _ (List.mem_of_getElem? (i := 20) rfl))) Via.refl e0 F_a1_rows (g := (mkF m 8 #[.val (.ref a1), .val (.long q2), .second, .val (.ref a1)] [(.ref a1), (.ref a1)])) rfl rfl (hb hby d5_8)
  obtain ⟨T126, h126, X126, e126, W126, st126⟩ := putF X125 hx hZ hown (host := "") (Or.inl (hw _ (List.mem_of_getElem? (i := 20) rfl))) Via.refl e125 F_a1_rows E_a1 (Or.inl (hw _ (List.mem_of_getElem? (i := 21) rfl))) (hw _ (List.mem_of_getElem? (i := 1) rfl)) (ty := .long) (by decide) rfl rfl (g := (mkF m 13 #[.val (.ref a1), .val (.long q2), .second, .val (.ref a1)] [(.long (w1 - q2)), (.ref a1)])) rfl rfl (hb hby d5_13)
  have z127 : n0 ≤ h126.size := Nat.le_trans Z0 (Keep.of_wr W126).1
  have fw126 : Fld Z h126 a1 "org/millrace/engine/Footprint" "rows" "J" (.long (w1 - q2)) := F_a1_rows.same W126
  have N126 := Fr.snoc X126 N0 g_a1
  have K126 : Keep h0 h126 [a1] := (Keep.refl h0 [a1]).wr W126 (Or.inl (List.mem_of_getElem? (i := 0) rfl))
  have f128 : Fld Z h126 a1 "org/millrace/engine/Footprint" "aside" "J" (.long w3) := (F_a1_aside.other W126 (Or.inr (slot_ne (Or.inl (hw _ (List.mem_of_getElem? (i := 23) rfl))) (Or.inl (hw _ (List.mem_of_getElem? (i := 21) rfl))) (by decide) (t := .long) (t' := .long) (by decide) (by decide))))
  obtain ⟨T129, X129, e129, st129⟩ := getF X126 hx hZ hown (host := "") (Or.inl (hw _ (List.mem_of_getElem? (i := 22) rfl))) Via.refl e126 f128 (g := (mkF m 18 #[.val (.ref a1), .val (.long q2), .second, .val (.ref a1)] [(.ref a1), (.ref a1)])) rfl rfl (hb hby d5_18)
  have f130 : Exa Z h126 a1 "org/millrace/engine/Footprint" := (E_a1.wr W126)
  obtain ⟨T131, h131, X131, e131, W131, st131⟩ := putF X129 hx hZ hown (host := "") (Or.inl (hw _ (List.mem_of_getElem? (i := 22) rfl))) Via.refl e129 f128 f130 (Or.inl (hw _ (List.mem_of_getElem? (i := 23) rfl))) (hw _ (List.mem_of_getElem? (i := 1) rfl)) (ty := .long) (by decide) rfl rfl (g := (mkF m 23 #[.val (.ref a1), .val (.long q2), .second, .val (.ref a1)] [(.long (w3 + q2)), (.ref a1)])) rfl rfl (hb hby d5_23)
  have z132 : n0 ≤ h131.size := Nat.le_trans z127 (Keep.of_wr W131).1
  have fw131 : Fld Z h131 a1 "org/millrace/engine/Footprint" "aside" "J" (.long (w3 + q2)) := f128.same W131
  have N131 := Fr.snoc X131 N126 g_a1
  have K131 : Keep h0 h131 [a1] := K126.wr W131 (Or.inl (List.mem_of_getElem? (i := 0) rfl))
  have f133 : Fld Z h131 a1 "org/millrace/engine/Footprint" "whole" "Lorg/millrace/engine/Footprint;" .null := ((F_a1_whole.other W126 (Or.inr (slot_ne (Or.inr (hw _ (List.mem_of_getElem? (i := 13) rfl))) (Or.inl (hw _ (List.mem_of_getElem? (i := 21) rfl))) (by decide) (t := (.object "org/millrace/engine/Footprint")) (t' := .long) (by decide) (by decide)))).other W131 (Or.inr (slot_ne (Or.inr (hw _ (List.mem_of_getElem? (i := 13) rfl))) (Or.inl (hw _ (List.mem_of_getElem? (i := 23) rfl))) (by decide) (t := (.object "org/millrace/engine/Footprint")) (t' := .long) (by decide) (by decide))))
  obtain ⟨T134, X134, e134, st134⟩ := getF X131 hx hZ hown (host := "") (Or.inl (hw _ (List.mem_of_getElem? (i := 12) rfl))) Via.refl e131 f133 (g := (mkF m 27 #[.val (.ref a1), .val (.long q2), .second, .val (.ref a1)] [(.ref a1)])) rfl rfl (hb hby d5_27)
  obtain ⟨fs, hr, hrun, hended, hW, hsame⟩ := X134.leave (v := none) (fun _ => rfl)
  refine ⟨_, _, pre0 _ ?_, hrun, hended, _, _, rfl, ?_, ⟨_, rfl⟩, hW, hsame.mono (by decide) (by decide)⟩
  · show Steps p.tables e below (s₁.setTop (mkF m 0 #[.val (.ref a1), .val (.long q2), .second, .unset] [])) _
    refine XS.aloadN X0.here hx rfl (hb hby d5_0) rfl rfl ?_
    show Steps p.tables e below (s₁.setTop (mkF m 1 #[.val (.ref a1), .val (.long q2), .second, .unset] [(.ref a1)])) _
    refine XS.astoreN X0.here hx rfl (hb hby d5_1) rfl rfl (l' := #[.val (.ref a1), .val (.long q2), .second, .val (.ref a1)]) rfl ?_
    show Steps p.tables e below (s₁.setTop (mkF m 2 #[.val (.ref a1), .val (.long q2), .second, .val (.ref a1)] [])) _
    refine XS.aloadN X0.here hx rfl (hb hby d5_2) rfl rfl ?_
    show Steps p.tables e below (s₁.setTop (mkF m 3 #[.val (.ref a1), .val (.long q2), .second, .val (.ref a1)] [(.ref a1)])) _
    refine XS.ifnullNo X0.here hx rfl (hb hby d5_3) rfl ?_
    show Steps p.tables e below (s₁.setTop (mkF m 6 #[.val (.ref a1), .val (.long q2), .second, .val (.ref a1)] [])) _
    refine XS.aloadN X0.here hx rfl (hb hby d5_6) rfl rfl ?_
    show Steps p.tables e below (s₁.setTop (mkF m 7 #[.val (.ref a1), .val (.long q2), .second, .val (.ref a1)] [(.ref a1)])) _
    refine XS.dup X0.here hx rfl (hb hby d5_7) rfl rfl ?_
    show Steps p.tables e below (s₁.setTop (mkF m 8 #[.val (.ref a1), .val (.long q2), .second, .val (.ref a1)] [(.ref a1), (.ref a1)])) _
    refine st125 _ ?_
    show Steps p.tables e below (T125.setTop (mkF m 11 #[.val (.ref a1), .val (.long q2), .second, .val (.ref a1)] [(.long w1), (.ref a1)])) _
    refine XS.lloadN X125.here hx rfl (hb hby d5_11) rfl ?_
    show Steps p.tables e below (T125.setTop (mkF m 12 #[.val (.ref a1), .val (.long q2), .second, .val (.ref a1)] [(.long q2), (.long w1), (.ref a1)])) _
    refine XS.lsub X125.here hx rfl (hb hby d5_12) rfl ?_
    show Steps p.tables e below (T125.setTop (mkF m 13 #[.val (.ref a1), .val (.long q2), .second, .val (.ref a1)] [(.long (w1 - q2)), (.ref a1)])) _
    refine st126 _ ?_
    show Steps p.tables e below (T126.setTop (mkF m 16 #[.val (.ref a1), .val (.long q2), .second, .val (.ref a1)] [])) _
    refine XS.aloadN X126.here hx rfl (hb hby d5_16) rfl rfl ?_
    show Steps p.tables e below (T126.setTop (mkF m 17 #[.val (.ref a1), .val (.long q2), .second, .val (.ref a1)] [(.ref a1)])) _
    refine XS.dup X126.here hx rfl (hb hby d5_17) rfl rfl ?_
    show Steps p.tables e below (T126.setTop (mkF m 18 #[.val (.ref a1), .val (.long q2), .second, .val (.ref a1)] [(.ref a1), (.ref a1)])) _
    refine st129 _ ?_
    show Steps p.tables e below (T129.setTop (mkF m 21 #[.val (.ref a1), .val (.long q2), .second, .val (.ref a1)] [(.long w3), (.ref a1)])) _
    refine XS.lloadN X129.here hx rfl (hb hby d5_21) rfl ?_
    show Steps p.tables e below (T129.setTop (mkF m 22 #[.val (.ref a1), .val (.long q2), .second, .val (.ref a1)] [(.long q2), (.long w3), (.ref a1)])) _
    refine XS.ladd X129.here hx rfl (hb hby d5_22) rfl ?_
    show Steps p.tables e below (T129.setTop (mkF m 23 #[.val (.ref a1), .val (.long q2), .second, .val (.ref a1)] [(.long (w3 + q2)), (.ref a1)])) _
    refine st131 _ ?_
    show Steps p.tables e below (T131.setTop (mkF m 26 #[.val (.ref a1), .val (.long q2), .second, .val (.ref a1)] [])) _
    refine XS.aloadN X131.here hx rfl (hb hby d5_26) rfl rfl ?_
    show Steps p.tables e below (T131.setTop (mkF m 27 #[.val (.ref a1), .val (.long q2), .second, .val (.ref a1)] [(.ref a1)])) _
    refine st134 _ ?_
    show Steps p.tables e below (T134.setTop (mkF m 30 #[.val (.ref a1), .val (.long q2), .second, .val (.ref a1)] [.null])) _
    refine XS.astoreN X134.here hx rfl (hb hby d5_30) rfl rfl (l' := #[.val (.ref a1), .val (.long q2), .second, .val .null]) rfl ?_
    show Steps p.tables e below (T134.setTop (mkF m 31 #[.val (.ref a1), .val (.long q2), .second, .val .null] [])) _
    refine XS.goto X134.here hx rfl (pc0 := 31) (pc' := 2) rfl (hb hby d5_31) (by decide) (by decide) ?_
    show Steps p.tables e below (T134.setTop (mkF m 2 #[.val (.ref a1), .val (.long q2), .second, .val .null] [])) _
    refine XS.aloadN X134.here hx rfl (hb hby d5_2) rfl rfl ?_
    show Steps p.tables e below (T134.setTop (mkF m 3 #[.val (.ref a1), .val (.long q2), .second, .val .null] [.null])) _
    refine XS.ifnullYes X134.here hx rfl (pc0 := 3) (pc' := 34) rfl (hb hby d5_3) rfl (by decide) (by decide) ?_
    show Steps p.tables e below (T134.setTop (mkF m 34 #[.val (.ref a1), .val (.long q2), .second, .val .null] [])) _
    exact X134.returnOut hx Bd.returns (hb hby d5_34) hr
  have f135 : Exa Z h131 a1 "org/millrace/engine/Footprint" := (f130.wr W131)
  have f136 : Fld Z h131 a1 "org/millrace/engine/Footprint" "rows" "J" (.long (w1 - q2)) := (fw126.other W131 (Or.inr (slot_ne (Or.inl (hw _ (List.mem_of_getElem? (i := 21) rfl))) (Or.inl (hw _ (List.mem_of_getElem? (i := 23) rfl))) (by decide) (t := .long) (t' := .long) (by decide) (by decide))))
  have f137 : Fld Z h131 a1 "org/millrace/engine/Footprint" "peak" "J" (.long w2) := ((F_a1_peak.other W126 (Or.inr (slot_ne (Or.inl (hw _ (List.mem_of_getElem? (i := 25) rfl))) (Or.inl (hw _ (List.mem_of_getElem? (i := 21) rfl))) (by decide) (t := .long) (t' := .long) (by decide) (by decide)))).other W131 (Or.inr (slot_ne (Or.inl (hw _ (List.mem_of_getElem? (i := 25) rfl))) (Or.inl (hw _ (List.mem_of_getElem? (i := 23) rfl))) (by decide) (t := .long) (t' := .long) (by decide) (by decide))))
  · show Q5n Z a1 q2 w1 w2 w3 h0 n0 _ T134.heap _
    rw [e134]
    exact ⟨rfl, N131, K131, f135, f136, f137, fw131, f133⟩
theorem ef_5r (m : MethodId) (x0 : Addr) (x1 : Int64) : entryFrame m #[(.ref x0), (.long x1)] 4 = mkF m 0 #[.val (.ref x0), .val (.long x1), .second, .unset] [] := by first | (simp [entryFrame, mkF, argsToLocals, Value.category]; done) | rfl
def Q5r (Z : State) (a1 : Addr) (a3 : Addr) (q2 : Int64) (w1 : Int64) (w2 : Int64) (w3 : Int64) (u1 : Int64) (u2 : Int64) (u3 : Int64) (h0 : Heap) (n0 : Nat) (v : Option Value) (h : Heap) (L : List Loc) : Prop := v = none ∧ Fr n0 L ∧ Keep h0 h [a1, a3] ∧ Exa Z h a1 "org/millrace/engine/Footprint" ∧ Fld Z h a1 "org/millrace/engine/Footprint" "rows" "J" (.long (w1 - q2)) ∧ Fld Z h a1 "org/millrace/engine/Footprint" "peak" "J" (.long w2) ∧ Fld Z h a1 "org/millrace/engine/Footprint" "aside" "J" (.long (w3 + q2)) ∧ Fld Z h a1 "org/millrace/engine/Footprint" "whole" "Lorg/millrace/engine/Footprint;" (.ref a3) ∧ Exa Z h a3 "org/millrace/engine/Footprint" ∧ Fld Z h a3 "org/millrace/engine/Footprint" "rows" "J" (.long (u1 - q2)) ∧ Fld Z h a3 "org/millrace/engine/Footprint" "peak" "J" (.long u2) ∧ Fld Z h a3 "org/millrace/engine/Footprint" "aside" "J" (.long (u3 + q2)) ∧ Fld Z h a3 "org/millrace/engine/Footprint" "whole" "Lorg/millrace/engine/Footprint;" .null
set_option maxRecDepth 65536 in
set_option maxHeartbeats 40000000 in
theorem rm5r (l : Launch) (Z : State) (a0 : Array Value) (hw : ∀ d ∈ tables_1, d.before a0 Z = true) (ws : List Jvm.Cond) (a1 : Addr) (a3 : Addr) (q2 : Int64) (w1 : Int64) (w2 : Int64) (w3 : Int64) (u1 : Int64) (u2 : Int64) (u3 : Int64) (h0 : Heap) (n0 : Nat) (Z0 : n0 ≤ h0.size) (E_a1 : Exa Z h0 a1 "org/millrace/engine/Footprint") (F_a1_rows : Fld Z h0 a1 "org/millrace/engine/Footprint" "rows" "J" (.long w1)) (F_a1_peak : Fld Z h0 a1 "org/millrace/engine/Footprint" "peak" "J" (.long w2)) (F_a1_aside : Fld Z h0 a1 "org/millrace/engine/Footprint" "aside" "J" (.long w3)) (F_a1_whole : Fld Z h0 a1 "org/millrace/engine/Footprint" "whole" "Lorg/millrace/engine/Footprint;" (.ref a3)) (E_a3 : Exa Z h0 a3 "org/millrace/engine/Footprint") (F_a3_rows : Fld Z h0 a3 "org/millrace/engine/Footprint" "rows" "J" (.long u1)) (F_a3_peak : Fld Z h0 a3 "org/millrace/engine/Footprint" "peak" "J" (.long u2)) (F_a3_aside : Fld Z h0 a3 "org/millrace/engine/Footprint" "aside" "J" (.long u3)) (F_a3_whole : Fld Z h0 a3 "org/millrace/engine/Footprint" "whole" "Lorg/millrace/engine/Footprint;" .null) (g_a1 : n0 ≤ a1) (g_a3 : n0 ≤ a3) (ne_a1_a3 : a1 ≠ a3) :
    MetFree l (⟨"org/millrace/engine/Footprint", "setAside", "(J)V"⟩ : MethodName) (head1 (Jvm.Cond.code (⟨"org/millrace/engine/Footprint", "setAside", "(J)V"⟩ : MethodName) prog_68_method_6_code 4 none :: ws) ({ frames := 0, cells := 0, slots := 0, locals := 0 } : Room)) (fun a U => a = #[(.ref a1), (.long q2)] ∧ Z.Warmed39 U.vm ∧ U.heap = h0) (fun _ _ _ _ _ => True) (fun _ U o U' => ∃ v L, o = .returned v ∧ Q5r Z a1 a3 q2 w1 w2 w3 u1 u2 u3 h0 n0 v U'.heap L ∧ FrameEnd U o U' L ({ frames := 0, cells := 0, slots := 0, locals := 0 } : Room).cells ({ frames := 0, cells := 0, slots := 0, locals := 0 } : Room).slots) := by
  refine MetFree.of_bodySF (plainFor_of_name pn_2) hisR ?_
  intro p e s m args below meth c s₁ Bd hml0 hP hK
  obtain ⟨rfl, hZ, hh⟩ := hP
  have hx := Bd.exec
  have hby := Bd.bytes
  have hml : c.maxLocals = 4 := hml0
  have hown : s.vm.findClass "org/millrace/engine/Footprint" = some m.cls := findClass_of_methodNamed Bd.named
  have hnm := (name_of_methodNamed Bd.named Bd.method).1
  have X0 : Stand p l e ({ frames := 0, cells := 0, slots := 0, locals := 0 } : Room) s m #[(.ref a1), (.long q2)] below meth c s₁ [] 0 0 := Stand.of_body Bd
  have e0 : s₁.heap = h0 := by rw [← hh, Bd.state]; rfl
  have N0 := Fr.nil n0
  have pre0 : ∀ t, Steps p.tables e below (s₁.setTop (mkF m 0 #[.val (.ref a1), .val (.long q2), .second, .unset] [])) t → Steps p.tables e below (s₁.setTop (entryFrame m #[(.ref a1), (.long q2)] 4)) t := fun t k => castTop (ef_5r m a1 q2) k
  obtain ⟨T138, X138, e138, st138⟩ := getF X0 hx hZ hown (host := "") (Or.inl (hw _ (List.mem_of_getElem? (i := 20) rfl))) Via.refl e0 F_a1_rows (g := (mkF m 8 #[.val (.ref a1), .val (.long q2), .second, .val (.ref a1)] [(.ref a1), (.ref a1)])) rfl rfl (hb hby d5_8)
  obtain ⟨T139, h139, X139, e139, W139, st139⟩ := putF X138 hx hZ hown (host := "") (Or.inl (hw _ (List.mem_of_getElem? (i := 20) rfl))) Via.refl e138 F_a1_rows E_a1 (Or.inl (hw _ (List.mem_of_getElem? (i := 21) rfl))) (hw _ (List.mem_of_getElem? (i := 1) rfl)) (ty := .long) (by decide) rfl rfl (g := (mkF m 13 #[.val (.ref a1), .val (.long q2), .second, .val (.ref a1)] [(.long (w1 - q2)), (.ref a1)])) rfl rfl (hb hby d5_13)
  have z140 : n0 ≤ h139.size := Nat.le_trans Z0 (Keep.of_wr W139).1
  have fw139 : Fld Z h139 a1 "org/millrace/engine/Footprint" "rows" "J" (.long (w1 - q2)) := F_a1_rows.same W139
  have N139 := Fr.snoc X139 N0 g_a1
  have K139 : Keep h0 h139 [a1, a3] := (Keep.refl h0 [a1, a3]).wr W139 (Or.inl (List.mem_of_getElem? (i := 0) rfl))
  have f141 : Fld Z h139 a1 "org/millrace/engine/Footprint" "aside" "J" (.long w3) := (F_a1_aside.other W139 (Or.inr (slot_ne (Or.inl (hw _ (List.mem_of_getElem? (i := 23) rfl))) (Or.inl (hw _ (List.mem_of_getElem? (i := 21) rfl))) (by decide) (t := .long) (t' := .long) (by decide) (by decide))))
  obtain ⟨T142, X142, e142, st142⟩ := getF X139 hx hZ hown (host := "") (Or.inl (hw _ (List.mem_of_getElem? (i := 22) rfl))) Via.refl e139 f141 (g := (mkF m 18 #[.val (.ref a1), .val (.long q2), .second, .val (.ref a1)] [(.ref a1), (.ref a1)])) rfl rfl (hb hby d5_18)
  have f143 : Exa Z h139 a1 "org/millrace/engine/Footprint" := (E_a1.wr W139)
  obtain ⟨T144, h144, X144, e144, W144, st144⟩ := putF X142 hx hZ hown (host := "") (Or.inl (hw _ (List.mem_of_getElem? (i := 22) rfl))) Via.refl e142 f141 f143 (Or.inl (hw _ (List.mem_of_getElem? (i := 23) rfl))) (hw _ (List.mem_of_getElem? (i := 1) rfl)) (ty := .long) (by decide) rfl rfl (g := (mkF m 23 #[.val (.ref a1), .val (.long q2), .second, .val (.ref a1)] [(.long (w3 + q2)), (.ref a1)])) rfl rfl (hb hby d5_23)
  have z145 : n0 ≤ h144.size := Nat.le_trans z140 (Keep.of_wr W144).1
  have fw144 : Fld Z h144 a1 "org/millrace/engine/Footprint" "aside" "J" (.long (w3 + q2)) := f141.same W144
  have N144 := Fr.snoc X144 N139 g_a1
  have K144 : Keep h0 h144 [a1, a3] := K139.wr W144 (Or.inl (List.mem_of_getElem? (i := 0) rfl))
  have f146 : Fld Z h144 a1 "org/millrace/engine/Footprint" "whole" "Lorg/millrace/engine/Footprint;" (.ref a3) := ((F_a1_whole.other W139 (Or.inr (slot_ne (Or.inr (hw _ (List.mem_of_getElem? (i := 13) rfl))) (Or.inl (hw _ (List.mem_of_getElem? (i := 21) rfl))) (by decide) (t := (.object "org/millrace/engine/Footprint")) (t' := .long) (by decide) (by decide)))).other W144 (Or.inr (slot_ne (Or.inr (hw _ (List.mem_of_getElem? (i := 13) rfl))) (Or.inl (hw _ (List.mem_of_getElem? (i := 23) rfl))) (by decide) (t := (.object "org/millrace/engine/Footprint")) (t' := .long) (by decide) (by decide))))
  obtain ⟨T147, X147, e147, st147⟩ := getF X144 hx hZ hown (host := "") (Or.inl (hw _ (List.mem_of_getElem? (i := 12) rfl))) Via.refl e144 f146 (g := (mkF m 27 #[.val (.ref a1), .val (.long q2), .second, .val (.ref a1)] [(.ref a1)])) rfl rfl (hb hby d5_27)
  have f148 : Fld Z h144 a3 "org/millrace/engine/Footprint" "rows" "J" (.long u1) := ((F_a3_rows.other W139 (Or.inl (Ne.symm ne_a1_a3))).other W144 (Or.inl (Ne.symm ne_a1_a3)))
  obtain ⟨T149, X149, e149, st149⟩ := getF X147 hx hZ hown (host := "") (Or.inl (hw _ (List.mem_of_getElem? (i := 20) rfl))) Via.refl e147 f148 (g := (mkF m 8 #[.val (.ref a1), .val (.long q2), .second, .val (.ref a3)] [(.ref a3), (.ref a3)])) rfl rfl (hb hby d5_8)
  have f150 : Exa Z h144 a3 "org/millrace/engine/Footprint" := ((E_a3.wr W139).wr W144)
  obtain ⟨T151, h151, X151, e151, W151, st151⟩ := putF X149 hx hZ hown (host := "") (Or.inl (hw _ (List.mem_of_getElem? (i := 20) rfl))) Via.refl e149 f148 f150 (Or.inl (hw _ (List.mem_of_getElem? (i := 21) rfl))) (hw _ (List.mem_of_getElem? (i := 1) rfl)) (ty := .long) (by decide) rfl rfl (g := (mkF m 13 #[.val (.ref a1), .val (.long q2), .second, .val (.ref a3)] [(.long (u1 - q2)), (.ref a3)])) rfl rfl (hb hby d5_13)
  have z152 : n0 ≤ h151.size := Nat.le_trans z145 (Keep.of_wr W151).1
  have fw151 : Fld Z h151 a3 "org/millrace/engine/Footprint" "rows" "J" (.long (u1 - q2)) := f148.same W151
  have N151 := Fr.snoc X151 N144 g_a3
  have K151 : Keep h0 h151 [a1, a3] := K144.wr W151 (Or.inl (List.mem_of_getElem? (i := 1) rfl))
  have f153 : Fld Z h151 a3 "org/millrace/engine/Footprint" "aside" "J" (.long u3) := (((F_a3_aside.other W139 (Or.inl (Ne.symm ne_a1_a3))).other W144 (Or.inl (Ne.symm ne_a1_a3))).other W151 (Or.inr (slot_ne (Or.inl (hw _ (List.mem_of_getElem? (i := 23) rfl))) (Or.inl (hw _ (List.mem_of_getElem? (i := 21) rfl))) (by decide) (t := .long) (t' := .long) (by decide) (by decide))))
  obtain ⟨T154, X154, e154, st154⟩ := getF X151 hx hZ hown (host := "") (Or.inl (hw _ (List.mem_of_getElem? (i := 22) rfl))) Via.refl e151 f153 (g := (mkF m 18 #[.val (.ref a1), .val (.long q2), .second, .val (.ref a3)] [(.ref a3), (.ref a3)])) rfl rfl (hb hby d5_18)
  have f155 : Exa Z h151 a3 "org/millrace/engine/Footprint" := (f150.wr W151)
  obtain ⟨T156, h156, X156, e156, W156, st156⟩ := putF X154 hx hZ hown (host := "") (Or.inl (hw _ (List.mem_of_getElem? (i := 22) rfl))) Via.refl e154 f153 f155 (Or.inl (hw _ (List.mem_of_getElem? (i := 23) rfl))) (hw _ (List.mem_of_getElem? (i := 1) rfl)) (ty := .long) (by decide) rfl rfl (g := (mkF m 23 #[.val (.ref a1), .val (.long q2), .second, .val (.ref a3)] [(.long (u3 + q2)), (.ref a3)])) rfl rfl (hb hby d5_23)
  have z157 : n0 ≤ h156.size := Nat.le_trans z152 (Keep.of_wr W156).1
  have fw156 : Fld Z h156 a3 "org/millrace/engine/Footprint" "aside" "J" (.long (u3 + q2)) := f153.same W156
  have N156 := Fr.snoc X156 N151 g_a3
  have K156 : Keep h0 h156 [a1, a3] := K151.wr W156 (Or.inl (List.mem_of_getElem? (i := 1) rfl))
  have f158 : Fld Z h156 a3 "org/millrace/engine/Footprint" "whole" "Lorg/millrace/engine/Footprint;" .null := ((((F_a3_whole.other W139 (Or.inl (Ne.symm ne_a1_a3))).other W144 (Or.inl (Ne.symm ne_a1_a3))).other W151 (Or.inr (slot_ne (Or.inr (hw _ (List.mem_of_getElem? (i := 13) rfl))) (Or.inl (hw _ (List.mem_of_getElem? (i := 21) rfl))) (by decide) (t := (.object "org/millrace/engine/Footprint")) (t' := .long) (by decide) (by decide)))).other W156 (Or.inr (slot_ne (Or.inr (hw _ (List.mem_of_getElem? (i := 13) rfl))) (Or.inl (hw _ (List.mem_of_getElem? (i := 23) rfl))) (by decide) (t := (.object "org/millrace/engine/Footprint")) (t' := .long) (by decide) (by decide))))
  obtain ⟨T159, X159, e159, st159⟩ := getF X156 hx hZ hown (host := "") (Or.inl (hw _ (List.mem_of_getElem? (i := 12) rfl))) Via.refl e156 f158 (g := (mkF m 27 #[.val (.ref a1), .val (.long q2), .second, .val (.ref a3)] [(.ref a3)])) rfl rfl (hb hby d5_27)
  obtain ⟨fs, hr, hrun, hended, hW, hsame⟩ := X159.leave (v := none) (fun _ => rfl)
  refine ⟨_, _, pre0 _ ?_, hrun, hended, _, _, rfl, ?_, ⟨_, rfl⟩, hW, hsame.mono (by decide) (by decide)⟩
  · show Steps p.tables e below (s₁.setTop (mkF m 0 #[.val (.ref a1), .val (.long q2), .second, .unset] [])) _
    refine XS.aloadN X0.here hx rfl (hb hby d5_0) rfl rfl ?_
    show Steps p.tables e below (s₁.setTop (mkF m 1 #[.val (.ref a1), .val (.long q2), .second, .unset] [(.ref a1)])) _
    refine XS.astoreN X0.here hx rfl (hb hby d5_1) rfl rfl (l' := #[.val (.ref a1), .val (.long q2), .second, .val (.ref a1)]) rfl ?_
    show Steps p.tables e below (s₁.setTop (mkF m 2 #[.val (.ref a1), .val (.long q2), .second, .val (.ref a1)] [])) _
    refine XS.aloadN X0.here hx rfl (hb hby d5_2) rfl rfl ?_
    show Steps p.tables e below (s₁.setTop (mkF m 3 #[.val (.ref a1), .val (.long q2), .second, .val (.ref a1)] [(.ref a1)])) _
    refine XS.ifnullNo X0.here hx rfl (hb hby d5_3) rfl ?_
    show Steps p.tables e below (s₁.setTop (mkF m 6 #[.val (.ref a1), .val (.long q2), .second, .val (.ref a1)] [])) _
    refine XS.aloadN X0.here hx rfl (hb hby d5_6) rfl rfl ?_
    show Steps p.tables e below (s₁.setTop (mkF m 7 #[.val (.ref a1), .val (.long q2), .second, .val (.ref a1)] [(.ref a1)])) _
    refine XS.dup X0.here hx rfl (hb hby d5_7) rfl rfl ?_
    show Steps p.tables e below (s₁.setTop (mkF m 8 #[.val (.ref a1), .val (.long q2), .second, .val (.ref a1)] [(.ref a1), (.ref a1)])) _
    refine st138 _ ?_
    show Steps p.tables e below (T138.setTop (mkF m 11 #[.val (.ref a1), .val (.long q2), .second, .val (.ref a1)] [(.long w1), (.ref a1)])) _
    refine XS.lloadN X138.here hx rfl (hb hby d5_11) rfl ?_
    show Steps p.tables e below (T138.setTop (mkF m 12 #[.val (.ref a1), .val (.long q2), .second, .val (.ref a1)] [(.long q2), (.long w1), (.ref a1)])) _
    refine XS.lsub X138.here hx rfl (hb hby d5_12) rfl ?_
    show Steps p.tables e below (T138.setTop (mkF m 13 #[.val (.ref a1), .val (.long q2), .second, .val (.ref a1)] [(.long (w1 - q2)), (.ref a1)])) _
    refine st139 _ ?_
    show Steps p.tables e below (T139.setTop (mkF m 16 #[.val (.ref a1), .val (.long q2), .second, .val (.ref a1)] [])) _
    refine XS.aloadN X139.here hx rfl (hb hby d5_16) rfl rfl ?_
    show Steps p.tables e below (T139.setTop (mkF m 17 #[.val (.ref a1), .val (.long q2), .second, .val (.ref a1)] [(.ref a1)])) _
    refine XS.dup X139.here hx rfl (hb hby d5_17) rfl rfl ?_
    show Steps p.tables e below (T139.setTop (mkF m 18 #[.val (.ref a1), .val (.long q2), .second, .val (.ref a1)] [(.ref a1), (.ref a1)])) _
    refine st142 _ ?_
    show Steps p.tables e below (T142.setTop (mkF m 21 #[.val (.ref a1), .val (.long q2), .second, .val (.ref a1)] [(.long w3), (.ref a1)])) _
    refine XS.lloadN X142.here hx rfl (hb hby d5_21) rfl ?_
    show Steps p.tables e below (T142.setTop (mkF m 22 #[.val (.ref a1), .val (.long q2), .second, .val (.ref a1)] [(.long q2), (.long w3), (.ref a1)])) _
    refine XS.ladd X142.here hx rfl (hb hby d5_22) rfl ?_
    show Steps p.tables e below (T142.setTop (mkF m 23 #[.val (.ref a1), .val (.long q2), .second, .val (.ref a1)] [(.long (w3 + q2)), (.ref a1)])) _
    refine st144 _ ?_
    show Steps p.tables e below (T144.setTop (mkF m 26 #[.val (.ref a1), .val (.long q2), .second, .val (.ref a1)] [])) _
    refine XS.aloadN X144.here hx rfl (hb hby d5_26) rfl rfl ?_
    show Steps p.tables e below (T144.setTop (mkF m 27 #[.val (.ref a1), .val (.long q2), .second, .val (.ref a1)] [(.ref a1)])) _
    refine st147 _ ?_
    show Steps p.tables e below (T147.setTop (mkF m 30 #[.val (.ref a1), .val (.long q2), .second, .val (.ref a1)] [(.ref a3)])) _
    refine XS.astoreN X147.here hx rfl (hb hby d5_30) rfl rfl (l' := #[.val (.ref a1), .val (.long q2), .second, .val (.ref a3)]) rfl ?_
    show Steps p.tables e below (T147.setTop (mkF m 31 #[.val (.ref a1), .val (.long q2), .second, .val (.ref a3)] [])) _
    refine XS.goto X147.here hx rfl (pc0 := 31) (pc' := 2) rfl (hb hby d5_31) (by decide) (by decide) ?_
    show Steps p.tables e below (T147.setTop (mkF m 2 #[.val (.ref a1), .val (.long q2), .second, .val (.ref a3)] [])) _
    refine XS.aloadN X147.here hx rfl (hb hby d5_2) rfl rfl ?_
    show Steps p.tables e below (T147.setTop (mkF m 3 #[.val (.ref a1), .val (.long q2), .second, .val (.ref a3)] [(.ref a3)])) _
    refine XS.ifnullNo X147.here hx rfl (hb hby d5_3) rfl ?_
    show Steps p.tables e below (T147.setTop (mkF m 6 #[.val (.ref a1), .val (.long q2), .second, .val (.ref a3)] [])) _
    refine XS.aloadN X147.here hx rfl (hb hby d5_6) rfl rfl ?_
    show Steps p.tables e below (T147.setTop (mkF m 7 #[.val (.ref a1), .val (.long q2), .second, .val (.ref a3)] [(.ref a3)])) _
    refine XS.dup X147.here hx rfl (hb hby d5_7) rfl rfl ?_
    show Steps p.tables e below (T147.setTop (mkF m 8 #[.val (.ref a1), .val (.long q2), .second, .val (.ref a3)] [(.ref a3), (.ref a3)])) _
    refine st149 _ ?_
    show Steps p.tables e below (T149.setTop (mkF m 11 #[.val (.ref a1), .val (.long q2), .second, .val (.ref a3)] [(.long u1), (.ref a3)])) _
    refine XS.lloadN X149.here hx rfl (hb hby d5_11) rfl ?_
    show Steps p.tables e below (T149.setTop (mkF m 12 #[.val (.ref a1), .val (.long q2), .second, .val (.ref a3)] [(.long q2), (.long u1), (.ref a3)])) _
    refine XS.lsub X149.here hx rfl (hb hby d5_12) rfl ?_
    show Steps p.tables e below (T149.setTop (mkF m 13 #[.val (.ref a1), .val (.long q2), .second, .val (.ref a3)] [(.long (u1 - q2)), (.ref a3)])) _
    refine st151 _ ?_
    show Steps p.tables e below (T151.setTop (mkF m 16 #[.val (.ref a1), .val (.long q2), .second, .val (.ref a3)] [])) _
    refine XS.aloadN X151.here hx rfl (hb hby d5_16) rfl rfl ?_
    show Steps p.tables e below (T151.setTop (mkF m 17 #[.val (.ref a1), .val (.long q2), .second, .val (.ref a3)] [(.ref a3)])) _
    refine XS.dup X151.here hx rfl (hb hby d5_17) rfl rfl ?_
    show Steps p.tables e below (T151.setTop (mkF m 18 #[.val (.ref a1), .val (.long q2), .second, .val (.ref a3)] [(.ref a3), (.ref a3)])) _
    refine st154 _ ?_
    show Steps p.tables e below (T154.setTop (mkF m 21 #[.val (.ref a1), .val (.long q2), .second, .val (.ref a3)] [(.long u3), (.ref a3)])) _
    refine XS.lloadN X154.here hx rfl (hb hby d5_21) rfl ?_
    show Steps p.tables e below (T154.setTop (mkF m 22 #[.val (.ref a1), .val (.long q2), .second, .val (.ref a3)] [(.long q2), (.long u3), (.ref a3)])) _
    refine XS.ladd X154.here hx rfl (hb hby d5_22) rfl ?_
    show Steps p.tables e below (T154.setTop (mkF m 23 #[.val (.ref a1), .val (.long q2), .second, .val (.ref a3)] [(.long (u3 + q2)), (.ref a3)])) _
    refine st156 _ ?_
    show Steps p.tables e below (T156.setTop (mkF m 26 #[.val (.ref a1), .val (.long q2), .second, .val (.ref a3)] [])) _
    refine XS.aloadN X156.here hx rfl (hb hby d5_26) rfl rfl ?_
    show Steps p.tables e below (T156.setTop (mkF m 27 #[.val (.ref a1), .val (.long q2), .second, .val (.ref a3)] [(.ref a3)])) _
    refine st159 _ ?_
    show Steps p.tables e below (T159.setTop (mkF m 30 #[.val (.ref a1), .val (.long q2), .second, .val (.ref a3)] [.null])) _
    refine XS.astoreN X159.here hx rfl (hb hby d5_30) rfl rfl (l' := #[.val (.ref a1), .val (.long q2), .second, .val .null]) rfl ?_
    show Steps p.tables e below (T159.setTop (mkF m 31 #[.val (.ref a1), .val (.long q2), .second, .val .null] [])) _
    refine XS.goto X159.here hx rfl (pc0 := 31) (pc' := 2) rfl (hb hby d5_31) (by decide) (by decide) ?_
    show Steps p.tables e below (T159.setTop (mkF m 2 #[.val (.ref a1), .val (.long q2), .second, .val .null] [])) _
    refine XS.aloadN X159.here hx rfl (hb hby d5_2) rfl rfl ?_
    show Steps p.tables e below (T159.setTop (mkF m 3 #[.val (.ref a1), .val (.long q2), .second, .val .null] [.null])) _
    refine XS.ifnullYes X159.here hx rfl (pc0 := 3) (pc' := 34) rfl (hb hby d5_3) rfl (by decide) (by decide) ?_
    show Steps p.tables e below (T159.setTop (mkF m 34 #[.val (.ref a1), .val (.long q2), .second, .val .null] [])) _
    exact X159.returnOut hx Bd.returns (hb hby d5_34) hr
  have f160 : Exa Z h156 a1 "org/millrace/engine/Footprint" := (((f143.wr W144).wr W151).wr W156)
  have f161 : Fld Z h156 a1 "org/millrace/engine/Footprint" "rows" "J" (.long (w1 - q2)) := (((fw139.other W144 (Or.inr (slot_ne (Or.inl (hw _ (List.mem_of_getElem? (i := 21) rfl))) (Or.inl (hw _ (List.mem_of_getElem? (i := 23) rfl))) (by decide) (t := .long) (t' := .long) (by decide) (by decide)))).other W151 (Or.inl ne_a1_a3)).other W156 (Or.inl ne_a1_a3))
  have f162 : Fld Z h156 a1 "org/millrace/engine/Footprint" "peak" "J" (.long w2) := ((((F_a1_peak.other W139 (Or.inr (slot_ne (Or.inl (hw _ (List.mem_of_getElem? (i := 25) rfl))) (Or.inl (hw _ (List.mem_of_getElem? (i := 21) rfl))) (by decide) (t := .long) (t' := .long) (by decide) (by decide)))).other W144 (Or.inr (slot_ne (Or.inl (hw _ (List.mem_of_getElem? (i := 25) rfl))) (Or.inl (hw _ (List.mem_of_getElem? (i := 23) rfl))) (by decide) (t := .long) (t' := .long) (by decide) (by decide)))).other W151 (Or.inl ne_a1_a3)).other W156 (Or.inl ne_a1_a3))
  have f163 : Fld Z h156 a1 "org/millrace/engine/Footprint" "aside" "J" (.long (w3 + q2)) := ((fw144.other W151 (Or.inl ne_a1_a3)).other W156 (Or.inl ne_a1_a3))
  have f164 : Fld Z h156 a1 "org/millrace/engine/Footprint" "whole" "Lorg/millrace/engine/Footprint;" (.ref a3) := ((f146.other W151 (Or.inl ne_a1_a3)).other W156 (Or.inl ne_a1_a3))
  have f165 : Exa Z h156 a3 "org/millrace/engine/Footprint" := (f155.wr W156)
  have f166 : Fld Z h156 a3 "org/millrace/engine/Footprint" "rows" "J" (.long (u1 - q2)) := (fw151.other W156 (Or.inr (slot_ne (Or.inl (hw _ (List.mem_of_getElem? (i := 21) rfl))) (Or.inl (hw _ (List.mem_of_getElem? (i := 23) rfl))) (by decide) (t := .long) (t' := .long) (by decide) (by decide))))
  have f167 : Fld Z h156 a3 "org/millrace/engine/Footprint" "peak" "J" (.long u2) := ((((F_a3_peak.other W139 (Or.inl (Ne.symm ne_a1_a3))).other W144 (Or.inl (Ne.symm ne_a1_a3))).other W151 (Or.inr (slot_ne (Or.inl (hw _ (List.mem_of_getElem? (i := 25) rfl))) (Or.inl (hw _ (List.mem_of_getElem? (i := 21) rfl))) (by decide) (t := .long) (t' := .long) (by decide) (by decide)))).other W156 (Or.inr (slot_ne (Or.inl (hw _ (List.mem_of_getElem? (i := 25) rfl))) (Or.inl (hw _ (List.mem_of_getElem? (i := 23) rfl))) (by decide) (t := .long) (t' := .long) (by decide) (by decide))))
  · show Q5r Z a1 a3 q2 w1 w2 w3 u1 u2 u3 h0 n0 _ T159.heap _
    rw [e159]
    exact ⟨rfl, N156, K156, f160, f161, f162, f163, f164, f165, f166, f167, fw156, f158⟩
theorem d7_0 : decode prog_68_method_3_code 0 = .ok (.aload_n 0, 1) := by decide +kernel
theorem d7_1 : decode prog_68_method_3_code 1 = .ok (.getfield 16, 3) := by decide +kernel
theorem d7_4 : decode prog_68_method_3_code 4 = .ok (.lreturn, 1) := by decide +kernel
theorem ef_7 (m : MethodId) (x0 : Addr) : entryFrame m #[(.ref x0)] 1 = mkF m 0 #[.val (.ref x0)] [] := by first | (simp [entryFrame, mkF, argsToLocals, Value.category]; done) | rfl
def Q7 (Z : State) (a1 : Addr) (w1 : Int64) (h0 : Heap) (n0 : Nat) (v : Option Value) (h : Heap) (L : List Loc) : Prop := v = some (.long w1) ∧ Fr n0 L ∧ h = h0
set_option maxRecDepth 65536 in
set_option maxHeartbeats 40000000 in
theorem rm7 (l : Launch) (Z : State) (a0 : Array Value) (hw : ∀ d ∈ tables_1, d.before a0 Z = true) (ws : List Jvm.Cond) (a1 : Addr) (w1 : Int64) (h0 : Heap) (n0 : Nat) (Z0 : n0 ≤ h0.size) (E_a1 : Exa Z h0 a1 "org/millrace/engine/Footprint") (F_a1_rows : Fld Z h0 a1 "org/millrace/engine/Footprint" "rows" "J" (.long w1)) :
    MetFree l (⟨"org/millrace/engine/Footprint", "rows", "()J"⟩ : MethodName) (head1 (Jvm.Cond.code (⟨"org/millrace/engine/Footprint", "rows", "()J"⟩ : MethodName) prog_68_method_3_code 1 (some .long) :: ws) ({ frames := 0, cells := 0, slots := 0, locals := 0 } : Room)) (fun a U => a = #[(.ref a1)] ∧ Z.Warmed39 U.vm ∧ U.heap = h0) (fun _ _ _ _ _ => True) (fun _ U o U' => ∃ v L, o = .returned v ∧ Q7 Z a1 w1 h0 n0 v U'.heap L ∧ FrameEnd U o U' L ({ frames := 0, cells := 0, slots := 0, locals := 0 } : Room).cells ({ frames := 0, cells := 0, slots := 0, locals := 0 } : Room).slots) := by
  refine MetFree.of_bodySF (plainFor_of_name pn_2) hisR ?_
  intro p e s m args below meth c s₁ Bd hml0 hP hK
  obtain ⟨rfl, hZ, hh⟩ := hP
  have hx := Bd.exec
  have hby := Bd.bytes
  have hml : c.maxLocals = 1 := hml0
  have hown : s.vm.findClass "org/millrace/engine/Footprint" = some m.cls := findClass_of_methodNamed Bd.named
  have hnm := (name_of_methodNamed Bd.named Bd.method).1
  have X0 : Stand p l e ({ frames := 0, cells := 0, slots := 0, locals := 0 } : Room) s m #[(.ref a1)] below meth c s₁ [] 0 0 := Stand.of_body Bd
  have e0 : s₁.heap = h0 := by rw [← hh, Bd.state]; rfl
  have N0 := Fr.nil n0
  have pre0 : ∀ t, Steps p.tables e below (s₁.setTop (mkF m 0 #[.val (.ref a1)] [])) t → Steps p.tables e below (s₁.setTop (entryFrame m #[(.ref a1)] 1)) t := fun t k => castTop (ef_7 m a1) k
  obtain ⟨T168, X168, e168, st168⟩ := getF X0 hx hZ hown (host := "") (Or.inl (hw _ (List.mem_of_getElem? (i := 20) rfl))) Via.refl e0 F_a1_rows (g := (mkF m 1 #[.val (.ref a1)] [(.ref a1)])) rfl rfl (hb hby d7_1)
  obtain ⟨fs, hr, hrun, hended, hW, hsame⟩ := X168.leave (v := some (.long w1)) (fun h => by rw [Bd.returns] at h; cases h)
  refine ⟨_, _, pre0 _ ?_, hrun, hended, _, _, rfl, ?_, ⟨_, rfl⟩, hW, hsame.mono (by decide) (by decide)⟩
  · show Steps p.tables e below (s₁.setTop (mkF m 0 #[.val (.ref a1)] [])) _
    refine XS.aloadN X0.here hx rfl (hb hby d7_0) rfl rfl ?_
    show Steps p.tables e below (s₁.setTop (mkF m 1 #[.val (.ref a1)] [(.ref a1)])) _
    refine st168 _ ?_
    show Steps p.tables e below (T168.setTop (mkF m 4 #[.val (.ref a1)] [(.long w1)])) _
    exact retL X168 hx Bd.returns (hb hby d7_4) hr
  · show Q7 Z a1 w1 h0 n0 _ T168.heap _
    rw [e168]
    exact ⟨rfl, N0, rfl⟩
theorem d8_0 : decode prog_68_method_4_code 0 = .ok (.aload_n 0, 1) := by decide +kernel
theorem d8_1 : decode prog_68_method_4_code 1 = .ok (.getfield 20, 3) := by decide +kernel
theorem d8_4 : decode prog_68_method_4_code 4 = .ok (.lreturn, 1) := by decide +kernel
theorem ef_8 (m : MethodId) (x0 : Addr) : entryFrame m #[(.ref x0)] 1 = mkF m 0 #[.val (.ref x0)] [] := by first | (simp [entryFrame, mkF, argsToLocals, Value.category]; done) | rfl
def Q8 (Z : State) (a1 : Addr) (w1 : Int64) (h0 : Heap) (n0 : Nat) (v : Option Value) (h : Heap) (L : List Loc) : Prop := v = some (.long w1) ∧ Fr n0 L ∧ h = h0
set_option maxRecDepth 65536 in
set_option maxHeartbeats 40000000 in
theorem rm8 (l : Launch) (Z : State) (a0 : Array Value) (hw : ∀ d ∈ tables_1, d.before a0 Z = true) (ws : List Jvm.Cond) (a1 : Addr) (w1 : Int64) (h0 : Heap) (n0 : Nat) (Z0 : n0 ≤ h0.size) (E_a1 : Exa Z h0 a1 "org/millrace/engine/Footprint") (F_a1_peak : Fld Z h0 a1 "org/millrace/engine/Footprint" "peak" "J" (.long w1)) :
    MetFree l (⟨"org/millrace/engine/Footprint", "peak", "()J"⟩ : MethodName) (head1 (Jvm.Cond.code (⟨"org/millrace/engine/Footprint", "peak", "()J"⟩ : MethodName) prog_68_method_4_code 1 (some .long) :: ws) ({ frames := 0, cells := 0, slots := 0, locals := 0 } : Room)) (fun a U => a = #[(.ref a1)] ∧ Z.Warmed39 U.vm ∧ U.heap = h0) (fun _ _ _ _ _ => True) (fun _ U o U' => ∃ v L, o = .returned v ∧ Q8 Z a1 w1 h0 n0 v U'.heap L ∧ FrameEnd U o U' L ({ frames := 0, cells := 0, slots := 0, locals := 0 } : Room).cells ({ frames := 0, cells := 0, slots := 0, locals := 0 } : Room).slots) := by
  refine MetFree.of_bodySF (plainFor_of_name pn_2) hisR ?_
  intro p e s m args below meth c s₁ Bd hml0 hP hK
  obtain ⟨rfl, hZ, hh⟩ := hP
  have hx := Bd.exec
  have hby := Bd.bytes
  have hml : c.maxLocals = 1 := hml0
  have hown : s.vm.findClass "org/millrace/engine/Footprint" = some m.cls := findClass_of_methodNamed Bd.named
  have hnm := (name_of_methodNamed Bd.named Bd.method).1
  have X0 : Stand p l e ({ frames := 0, cells := 0, slots := 0, locals := 0 } : Room) s m #[(.ref a1)] below meth c s₁ [] 0 0 := Stand.of_body Bd
  have e0 : s₁.heap = h0 := by rw [← hh, Bd.state]; rfl
  have N0 := Fr.nil n0
  have pre0 : ∀ t, Steps p.tables e below (s₁.setTop (mkF m 0 #[.val (.ref a1)] [])) t → Steps p.tables e below (s₁.setTop (entryFrame m #[(.ref a1)] 1)) t := fun t k => castTop (ef_8 m a1) k
  obtain ⟨T169, X169, e169, st169⟩ := getF X0 hx hZ hown (host := "") (Or.inl (hw _ (List.mem_of_getElem? (i := 24) rfl))) Via.refl e0 F_a1_peak (g := (mkF m 1 #[.val (.ref a1)] [(.ref a1)])) rfl rfl (hb hby d8_1)
  obtain ⟨fs, hr, hrun, hended, hW, hsame⟩ := X169.leave (v := some (.long w1)) (fun h => by rw [Bd.returns] at h; cases h)
  refine ⟨_, _, pre0 _ ?_, hrun, hended, _, _, rfl, ?_, ⟨_, rfl⟩, hW, hsame.mono (by decide) (by decide)⟩
  · show Steps p.tables e below (s₁.setTop (mkF m 0 #[.val (.ref a1)] [])) _
    refine XS.aloadN X0.here hx rfl (hb hby d8_0) rfl rfl ?_
    show Steps p.tables e below (s₁.setTop (mkF m 1 #[.val (.ref a1)] [(.ref a1)])) _
    refine st169 _ ?_
    show Steps p.tables e below (T169.setTop (mkF m 4 #[.val (.ref a1)] [(.long w1)])) _
    exact retL X169 hx Bd.returns (hb hby d8_4) hr
  · show Q8 Z a1 w1 h0 n0 _ T169.heap _
    rw [e169]
    exact ⟨rfl, N0, rfl⟩
def own_max (q1 : Int64) (q2 : Int64) : Int64 := (if q1 < q2 then q2 else q1)
theorem d6_0 : decode jdk_29_method_66_code 0 = .ok (.lload_n 0, 1) := by decide +kernel
theorem d6_1 : decode jdk_29_method_66_code 1 = .ok (.lload_n 2, 1) := by decide +kernel
theorem d6_2 : decode jdk_29_method_66_code 2 = .ok (.lcmp, 1) := by decide +kernel
theorem d6_3 : decode jdk_29_method_66_code 3 = .ok (.ifCond .lt 7, 3) := by decide +kernel
theorem d6_6 : decode jdk_29_method_66_code 6 = .ok (.lload_n 0, 1) := by decide +kernel
theorem d6_7 : decode jdk_29_method_66_code 7 = .ok (.goto 4, 3) := by decide +kernel
theorem d6_10 : decode jdk_29_method_66_code 10 = .ok (.lload_n 2, 1) := by decide +kernel
theorem d6_11 : decode jdk_29_method_66_code 11 = .ok (.lreturn, 1) := by decide +kernel
theorem ef_6 (m : MethodId) (x0 : Int64) (x1 : Int64) : entryFrame m #[(.long x0), (.long x1)] 4 = mkF m 0 #[.val (.long x0), .second, .val (.long x1), .second] [] := by first | (simp [entryFrame, mkF, argsToLocals, Value.category]; done) | rfl
def Q6 (Z : State) (q1 : Int64) (q2 : Int64) (h0 : Heap) (n0 : Nat) (v : Option Value) (h : Heap) (L : List Loc) : Prop := v = some (.long (own_max q1 q2)) ∧ Fr n0 L ∧ h = h0
set_option maxRecDepth 65536 in
set_option maxHeartbeats 40000000 in
theorem rm6 (l : Launch) (Z : State) (a0 : Array Value) (hw : ∀ d ∈ tables_1, d.before a0 Z = true) (ws : List Jvm.Cond) (q1 : Int64) (q2 : Int64) (h0 : Heap) (n0 : Nat) (Z0 : n0 ≤ h0.size)  :
    MetFree l (⟨"java/lang/Math", "max", "(JJ)J"⟩ : MethodName) (head1 (Jvm.Cond.code (⟨"java/lang/Math", "max", "(JJ)J"⟩ : MethodName) jdk_29_method_66_code 4 (some .long) :: ws) ({ frames := 0, cells := 0, slots := 0, locals := 0 } : Room)) (fun a U => a = #[(.long q1), (.long q2)] ∧ Z.Warmed39 U.vm ∧ U.heap = h0) (fun _ _ _ _ _ => True) (fun _ U o U' => ∃ v L, o = .returned v ∧ Q6 Z q1 q2 h0 n0 v U'.heap L ∧ FrameEnd U o U' L ({ frames := 0, cells := 0, slots := 0, locals := 0 } : Room).cells ({ frames := 0, cells := 0, slots := 0, locals := 0 } : Room).slots) := by
  refine MetFree.of_bodySF (Jvm.Free.JP.mathPlain rfl (by decide +kernel)) hisR ?_
  intro p e s m args below meth c s₁ Bd hml0 hP hK
  obtain ⟨rfl, hZ, hh⟩ := hP
  have hx := Bd.exec
  have hby := Bd.bytes
  have hml : c.maxLocals = 4 := hml0
  have hown : s.vm.findClass "java/lang/Math" = some m.cls := findClass_of_methodNamed Bd.named
  have hnm := (name_of_methodNamed Bd.named Bd.method).1
  have X0 : Stand p l e ({ frames := 0, cells := 0, slots := 0, locals := 0 } : Room) s m #[(.long q1), (.long q2)] below meth c s₁ [] 0 0 := Stand.of_body Bd
  have e0 : s₁.heap = h0 := by rw [← hh, Bd.state]; rfl
  have N0 := Fr.nil n0
  have pre0 : ∀ t, Steps p.tables e below (s₁.setTop (mkF m 0 #[.val (.long q1), .second, .val (.long q2), .second] [])) t → Steps p.tables e below (s₁.setTop (entryFrame m #[(.long q1), (.long q2)] 4)) t := fun t k => castTop (ef_6 m q1 q2) k
  have pre170 : ∀ t, Steps p.tables e below (s₁.setTop (mkF m 3 #[.val (.long q1), .second, .val (.long q2), .second] [(.int (lcmpW q1 q2))])) t → Steps p.tables e below (s₁.setTop (entryFrame m #[(.long q1), (.long q2)] 4)) t := fun t k => pre0 t (by
      show Steps p.tables e below (s₁.setTop (mkF m 0 #[.val (.long q1), .second, .val (.long q2), .second] [])) _
      refine XS.lloadN X0.here hx rfl (hb hby d6_0) rfl ?_
      show Steps p.tables e below (s₁.setTop (mkF m 1 #[.val (.long q1), .second, .val (.long q2), .second] [(.long q1)])) _
      refine XS.lloadN X0.here hx rfl (hb hby d6_1) rfl ?_
      show Steps p.tables e below (s₁.setTop (mkF m 2 #[.val (.long q1), .second, .val (.long q2), .second] [(.long q2), (.long q1)])) _
      refine XS.lcmp X0.here hx rfl (hb hby d6_2) rfl ?_
      exact k)
  by_cases hc3_171 : q1 < q2
  · obtain ⟨fs, hr, hrun, hended, hW, hsame⟩ := X0.leave (v := some (.long q2)) (fun h => by rw [Bd.returns] at h; cases h)
    refine ⟨_, _, pre170 _ ?_, hrun, hended, _, _, rfl, ?_, ⟨_, rfl⟩, hW, hsame.mono (by decide) (by decide)⟩
    · show Steps p.tables e below (s₁.setTop (mkF m 3 #[.val (.long q1), .second, .val (.long q2), .second] [(.int (lcmpW q1 q2))])) _
      refine XS.ifYes X0.here hx rfl (pc0 := 3) (pc' := 10) rfl (hb hby d6_3) rfl ((if0 _ _).trans (tlt ((lw_lt _ _).mpr hc3_171)).1) (by decide) (by decide) ?_
      show Steps p.tables e below (s₁.setTop (mkF m 10 #[.val (.long q1), .second, .val (.long q2), .second] [])) _
      refine XS.lloadN X0.here hx rfl (hb hby d6_10) rfl ?_
      show Steps p.tables e below (s₁.setTop (mkF m 11 #[.val (.long q1), .second, .val (.long q2), .second] [(.long q2)])) _
      exact retL X0 hx Bd.returns (hb hby d6_11) hr
    · show Q6 Z q1 q2 h0 n0 _ s₁.heap _
      rw [e0]
      exact ⟨(congrArg (fun z => some (Value.long z)) (by simp only [own_max, if_pos hc3_171] : q2 = (own_max q1 q2))), N0, rfl⟩
  · obtain ⟨fs, hr, hrun, hended, hW, hsame⟩ := X0.leave (v := some (.long q1)) (fun h => by rw [Bd.returns] at h; cases h)
    refine ⟨_, _, pre170 _ ?_, hrun, hended, _, _, rfl, ?_, ⟨_, rfl⟩, hW, hsame.mono (by decide) (by decide)⟩
    · show Steps p.tables e below (s₁.setTop (mkF m 3 #[.val (.long q1), .second, .val (.long q2), .second] [(.int (lcmpW q1 q2))])) _
      refine XS.ifNo X0.here hx rfl (hb hby d6_3) rfl ((if0 _ _).trans (flt (mt (lw_lt _ _).mp hc3_171)).1) ?_
      show Steps p.tables e below (s₁.setTop (mkF m 6 #[.val (.long q1), .second, .val (.long q2), .second] [])) _
      refine XS.lloadN X0.here hx rfl (hb hby d6_6) rfl ?_
      show Steps p.tables e below (s₁.setTop (mkF m 7 #[.val (.long q1), .second, .val (.long q2), .second] [(.long q1)])) _
      refine XS.goto X0.here hx rfl (pc0 := 7) (pc' := 11) rfl (hb hby d6_7) (by decide) (by decide) ?_
      show Steps p.tables e below (s₁.setTop (mkF m 11 #[.val (.long q1), .second, .val (.long q2), .second] [(.long q1)])) _
      exact retL X0 hx Bd.returns (hb hby d6_11) hr
    · show Q6 Z q1 q2 h0 n0 _ s₁.heap _
      rw [e0]
      exact ⟨(congrArg (fun z => some (Value.long z)) (by simp only [own_max, if_neg hc3_171] : q1 = (own_max q1 q2))), N0, rfl⟩
theorem own_m0 (a : Int64) : own_ap a (0 : Int64) (0 : Int64) (0 : Int64) = own_max (0 : Int64) a := by
  unfold own_ap own_max
  rw [Int64.zero_add, Int64.add_zero]
  by_cases h : a = (0 : Int64)
  · rw [if_pos h, h]; rfl
  · rw [if_neg h]
theorem own_nlt (x y : Int64) : ¬ own_max x y < y := by
  unfold own_max
  by_cases h : x < y
  · rw [if_pos h]; exact Int64.lt_irrefl
  · rw [if_neg h]; exact h
theorem own_m1 (a s b p : Int64) (hp : ¬ p < a) : own_ap b (a - s) p ((0 : Int64) + s) = own_max p (a + b) := by
  unfold own_ap own_max
  rw [own_kept]
  by_cases h : b = (0 : Int64)
  · rw [if_pos h, h, Int64.add_zero, if_neg hp]
  · rw [if_neg h]
theorem own_pp (a s b : Int64) : own_ap b (own_ar a (0 : Int64) - s) (own_ap a (0 : Int64) (0 : Int64) (0 : Int64)) ((0 : Int64) + s) = own_max (own_max (0 : Int64) a) (a + b) := by
  rw [own_ar_eq, Int64.zero_add, own_m0, own_m1 a s b _ (own_nlt 0 a)]
theorem own_shift (a s b : Int64) : (a - s) + b = (a + b) - s := by
  rw [Int64.sub_eq_add_neg, Int64.sub_eq_add_neg, Int64.add_assoc, Int64.add_comm (-s) b, ← Int64.add_assoc]
theorem own_wp (a s b c : Int64) : own_ap c (own_ar b (own_ar a (0 : Int64) - s)) (own_ap b (own_ar a (0 : Int64) - s) (own_ap a (0 : Int64) (0 : Int64) (0 : Int64)) ((0 : Int64) + s)) ((0 : Int64) + s) = own_max (own_max (own_max (0 : Int64) a) (a + b)) ((a + b) + c) := by
  rw [own_pp, own_ar_eq, own_ar_eq, Int64.zero_add, own_shift, own_m1 (a + b) s c _ (own_nlt _ _)]
theorem pn_0 : plainName "org/millrace/engine/FootprintAddPinLaw" = true := by first | (simp [plainName, overriddenIn]; done) | decide +kernel
theorem ef_0 (m : MethodId) (x0 : Int64) (x1 : Int64) (x2 : Int64) (x3 : Int64) : entryFrame m #[(.long x0), (.long x1), (.long x2), (.long x3)] maxLocals = mkF m 0 #[.val (.long x0), .second, .val (.long x1), .second, .val (.long x2), .second, .val (.long x3), .second, .unset, .unset, .unset, .unset, .unset, .unset] [] := by first | (simp [entryFrame, mkF, argsToLocals, Value.category, maxLocals]; done) | rfl
def Q0 (Z : State) (q1 : Int64) (q2 : Int64) (q3 : Int64) (q4 : Int64) (h0 : Heap) (n0 : Nat) (v : Option Value) (h : Heap) (L : List Loc) : Prop := v = some (.int (1 : Int32)) ∧ Fr n0 L
theorem pd_0 : parseMethodDescriptor "()V" = some ⟨[], none⟩ := by decide +kernel
theorem pd_2 : parseMethodDescriptor "(J)V" = some ⟨[.long], none⟩ := by decide +kernel
theorem pd_3 : parseMethodDescriptor "(JJ)J" = some ⟨[.long, .long], some .long⟩ := by decide +kernel
theorem pd_4 : parseMethodDescriptor "()J" = some ⟨[], some .long⟩ := by decide +kernel
set_option maxRecDepth 65536 in
set_option maxHeartbeats 40000000 in
theorem rm0 (l : Launch) (Z : State) (a0 : Array Value) (hw : ∀ d ∈ tables_1, d.before a0 Z = true) (ws : List Jvm.Cond) (q1 : Int64) (q2 : Int64) (q3 : Int64) (q4 : Int64) (h0 : Heap) (n0 : Nat) (Z0 : n0 ≤ h0.size)  :
    MetFree l x (head1 (Jvm.Cond.code x code maxLocals ret :: ws) room_1) (fun a U => a = #[(.long q1), (.long q2), (.long q3), (.long q4)] ∧ Z.Warmed39 U.vm ∧ U.heap = h0) (fun _ _ _ _ _ => True) (fun _ U o U' => ∃ v L, o = .returned v ∧ Q0 Z q1 q2 q3 q4 h0 n0 v U'.heap L ∧ FrameEnd U o U' L room_1.cells room_1.slots) := by
  refine MetFree.of_bodySF (plainFor_of_name pn_0) hisR ?_
  intro p e s m args below meth c s₁ Bd hml0 hP hK
  obtain ⟨rfl, hZ, hh⟩ := hP
  have hx := Bd.exec
  have hby := Bd.bytes
  have hml : c.maxLocals = 14 := hml0
  have hown : s.vm.findClass "org/millrace/engine/FootprintAddPinLaw" = some m.cls := findClass_of_methodNamed Bd.named
  have hnm := (name_of_methodNamed Bd.named Bd.method).1
  have X0 : Stand p l e room_1 s m #[(.long q1), (.long q2), (.long q3), (.long q4)] below meth c s₁ [] 0 0 := Stand.of_body Bd
  have e0 : s₁.heap = h0 := by rw [← hh, Bd.state]; rfl
  have N0 := Fr.nil n0
  have pre0 : ∀ t, Steps p.tables e below (s₁.setTop (mkF m 0 #[.val (.long q1), .second, .val (.long q2), .second, .val (.long q3), .second, .val (.long q4), .second, .unset, .unset, .unset, .unset, .unset, .unset] [])) t → Steps p.tables e below (s₁.setTop (entryFrame m #[(.long q1), (.long q2), (.long q3), (.long q4)] maxLocals)) t := fun t k => castTop (ef_0 m q1 q2 q3 q4) k
  obtain ⟨T172, h172, X172, e172, E172, A172, D172, -, st172⟩ := newO X0 hx hZ hown (hw _ (List.mem_of_getElem? (i := 0) rfl)) (hw _ (List.mem_of_getElem? (i := 1) rfl)) (hw _ (List.mem_of_getElem? (i := 2) rfl)) e0 (g := (mkF m 0 #[.val (.long q1), .second, .val (.long q2), .second, .val (.long q3), .second, .val (.long q4), .second, .unset, .unset, .unset, .unset, .unset, .unset] [])) rfl (hb hby at_0) (by decide) (by decide)
  obtain ⟨b172, g172⟩ : ∃ z, z = h0.size := ⟨_, rfl⟩
  rw [← g172] at A172 D172 st172
  have g_b172 : n0 ≤ b172 := Nat.le_trans Z0 (Nat.le_of_eq g172.symm)
  have z173 : n0 ≤ h172.size := Nat.le_trans Z0 E172.1
  have fi172_whole : Fld Z h172 b172 "org/millrace/engine/Footprint" "whole" "Lorg/millrace/engine/Footprint;" .null := D172 (Or.inr (hw _ (List.mem_of_getElem? (i := 13) rfl))) (ty := (.object "org/millrace/engine/Footprint")) (by decide)
  have fi172_rows : Fld Z h172 b172 "org/millrace/engine/Footprint" "rows" "J" (.long (0 : Int64)) := D172 (Or.inl (hw _ (List.mem_of_getElem? (i := 21) rfl))) (ty := .long) (by decide)
  have fi172_aside : Fld Z h172 b172 "org/millrace/engine/Footprint" "aside" "J" (.long (0 : Int64)) := D172 (Or.inl (hw _ (List.mem_of_getElem? (i := 23) rfl))) (ty := .long) (by decide)
  have fi172_peak : Fld Z h172 b172 "org/millrace/engine/Footprint" "peak" "J" (.long (0 : Int64)) := D172 (Or.inl (hw _ (List.mem_of_getElem? (i := 25) rfl))) (ty := .long) (by decide)
  obtain ⟨_, _, ⟨T174, L174, k174, n174⟩, -, X174, ⟨Lc174, hQ174, l174, y174, z174⟩, st174⟩ := X172.specialBack hx (y := (⟨"org/millrace/engine/Footprint", "<init>", "()V"⟩ : MethodName)) rfl hown (mvT hZ (hw _ (List.mem_of_getElem? (i := 3) rfl))) (mvT hZ (hw _ (List.mem_of_getElem? (i := 4) rfl))) (mvT hZ (hw _ (List.mem_of_getElem? (i := 5) rfl))) (by decide) (backOf (W := 1) (rm1 l Z a0 hw [] b172 h172 n0 z173 A172 fi172_rows fi172_peak fi172_aside fi172_whole g_b172) hZ (hw _ (List.mem_of_getElem? (i := 5) rfl)) (hw _ (List.mem_of_getElem? (i := 2) rfl)) (by decide) (by decide)) (g := (mkF m 4 #[.val (.long q1), .second, .val (.long q2), .second, .val (.long q3), .second, .val (.long q4), .second, .unset, .unset, .unset, .unset, .unset, .unset] [(.ref b172), (.ref b172)])) rfl (by rw [hml]; rfl) (Steps.refl _) (a := b172) (argsL := []) (rest := [(.ref b172)]) (lenOf pd_0 rfl) rfl (by show 2 * 0 + _ ≤ _; exact Nat.le_of_eq rfl) (hb hby at_4) (fun _ _ => ⟨rfl, e172, (by decide : 1 + 0 ≤ _), (by decide : 4 + 0 ≤ _)⟩)
  dsimp only [Pt.U, Pt.locs, Pt.cells, Pt.slots] at X174 l174 y174 z174 st174 hQ174
  subst l174 y174 z174
  obtain ⟨rfl, Nq174, K174, po174_0, po174_1, po174_2, po174_3, po174_4⟩ := hQ174
  have z175 : n0 ≤ T174.heap.size := Nat.le_trans z173 K174.1
  have N174 := Fr.app N0 Nq174
  obtain ⟨T176, h176, X176, e176, E176, A176, D176, -, st176⟩ := newO X174 hx hZ hown (hw _ (List.mem_of_getElem? (i := 0) rfl)) (hw _ (List.mem_of_getElem? (i := 1) rfl)) (hw _ (List.mem_of_getElem? (i := 2) rfl)) rfl (g := (mkF m 9 #[.val (.long q1), .second, .val (.long q2), .second, .val (.long q3), .second, .val (.long q4), .second, .val (.ref b172), .unset, .unset, .unset, .unset, .unset] [])) rfl (hb hby at_9) (by decide) (by decide)
  obtain ⟨b176, g176⟩ : ∃ z, z = T174.heap.size := ⟨_, rfl⟩
  rw [← g176] at A176 D176 st176
  have g_b176 : n0 ≤ b176 := Nat.le_trans z175 (Nat.le_of_eq g176.symm)
  have ne_b172_b176 : b172 ≠ b176 := Nat.ne_of_lt (Nat.lt_of_lt_of_le po174_2.lt (Nat.le_of_eq g176.symm))
  have z177 : n0 ≤ h176.size := Nat.le_trans z175 E176.1
  have fi176_whole : Fld Z h176 b176 "org/millrace/engine/Footprint" "whole" "Lorg/millrace/engine/Footprint;" .null := D176 (Or.inr (hw _ (List.mem_of_getElem? (i := 13) rfl))) (ty := (.object "org/millrace/engine/Footprint")) (by decide)
  have fi176_rows : Fld Z h176 b176 "org/millrace/engine/Footprint" "rows" "J" (.long (0 : Int64)) := D176 (Or.inl (hw _ (List.mem_of_getElem? (i := 21) rfl))) (ty := .long) (by decide)
  have fi176_aside : Fld Z h176 b176 "org/millrace/engine/Footprint" "aside" "J" (.long (0 : Int64)) := D176 (Or.inl (hw _ (List.mem_of_getElem? (i := 23) rfl))) (ty := .long) (by decide)
  have fi176_peak : Fld Z h176 b176 "org/millrace/engine/Footprint" "peak" "J" (.long (0 : Int64)) := D176 (Or.inl (hw _ (List.mem_of_getElem? (i := 25) rfl))) (ty := .long) (by decide)
  obtain ⟨_, _, ⟨T178, L178, k178, n178⟩, -, X178, ⟨Lc178, hQ178, l178, y178, z178⟩, st178⟩ := X176.specialBack hx (y := (⟨"org/millrace/engine/Footprint", "<init>", "(Lorg/millrace/engine/Footprint;)V"⟩ : MethodName)) rfl hown (mvT hZ (hw _ (List.mem_of_getElem? (i := 14) rfl))) (mvT hZ (hw _ (List.mem_of_getElem? (i := 7) rfl))) (mvT hZ (hw _ (List.mem_of_getElem? (i := 8) rfl))) (by decide) (backOf (W := 1) (rm2r l Z a0 hw [] b176 b172 h176 n0 z177 A176 fi176_rows fi176_peak fi176_aside fi176_whole g_b176) hZ (hw _ (List.mem_of_getElem? (i := 8) rfl)) (hw _ (List.mem_of_getElem? (i := 2) rfl)) (by decide) (by decide)) (g := (mkF m 15 #[.val (.long q1), .second, .val (.long q2), .second, .val (.long q3), .second, .val (.long q4), .second, .val (.ref b172), .unset, .unset, .unset, .unset, .unset] [(.ref b172), (.ref b176), (.ref b176)])) rfl (by rw [hml]; rfl) (Steps.refl _) (a := b176) (argsL := [(.ref b172)]) (rest := [(.ref b176)]) (lenOf pd_1 rfl) rfl (by show 2 * 0 + _ ≤ _; exact Nat.le_of_eq rfl) (hb hby at_15) (fun _ _ => ⟨rfl, e176, (by decide : 2 + 0 ≤ _), (by decide : 8 + 0 ≤ _)⟩)
  dsimp only [Pt.U, Pt.locs, Pt.cells, Pt.slots] at X178 l178 y178 z178 st178 hQ178
  subst l178 y178 z178
  obtain ⟨rfl, Nq178, K178, po178_0, po178_1, po178_2, po178_3, po178_4⟩ := hQ178
  have z179 : n0 ≤ T178.heap.size := Nat.le_trans z177 K178.1
  have N178 := Fr.app N174 Nq178
  have f180 : Exa Z T178.heap b172 "org/millrace/engine/Footprint" := ((po174_0.ext E176).keep K178)
  have f181 : Fld Z T178.heap b172 "org/millrace/engine/Footprint" "rows" "J" (.long (0 : Int64)) := ((po174_1.ext E176).keep K178 (ninS ne_b172_b176 nin0))
  have f182 : Fld Z T178.heap b172 "org/millrace/engine/Footprint" "peak" "J" (.long (0 : Int64)) := ((po174_2.ext E176).keep K178 (ninS ne_b172_b176 nin0))
  have f183 : Fld Z T178.heap b172 "org/millrace/engine/Footprint" "aside" "J" (.long (0 : Int64)) := ((po174_3.ext E176).keep K178 (ninS ne_b172_b176 nin0))
  have f184 : Fld Z T178.heap b172 "org/millrace/engine/Footprint" "whole" "Lorg/millrace/engine/Footprint;" .null := ((po174_4.ext E176).keep K178 (ninS ne_b172_b176 nin0))
  obtain ⟨cq185, kq185, qa185, qb185, qc185⟩ := isOf hZ rfl po178_0
  obtain ⟨_, _, ⟨T185, L185, k185, n185⟩, -, X185, ⟨Lc185, hQ185, l185, y185, z185⟩, st185⟩ := X178.virtualBack hx (y := (⟨"org/millrace/engine/Footprint", "add", "(J)V"⟩ : MethodName)) (z := (⟨"org/millrace/engine/Footprint", "add", "(J)V"⟩ : MethodName)) hown (mvT hZ (hw _ (List.mem_of_getElem? (i := 15) rfl))) (mvT hZ (hw _ (List.mem_of_getElem? (i := 16) rfl))) (notFace_of_selects (args := #[]) (mvT hZ (hw _ (List.mem_of_getElem? (i := 18) rfl)))) (mvT hZ (hw _ (List.mem_of_getElem? (i := 18) rfl))) (mvT hZ (hw _ (List.mem_of_getElem? (i := 17) rfl))) (by decide) (backOf (W := 0) (rm4r l Z a0 hw [] b176 b172 q1 (0 : Int64) (0 : Int64) (0 : Int64) (0 : Int64) (0 : Int64) (0 : Int64) T178.heap n0 z179 po178_0 po178_1 po178_2 po178_3 po178_4 f180 f181 f182 f183 f184 g_b176 g_b172 (Ne.symm ne_b172_b176)) hZ (hw _ (List.mem_of_getElem? (i := 19) rfl)) (hw _ (List.mem_of_getElem? (i := 2) rfl)) (by decide) (by decide)) qa185 qc185 (g := (mkF m 23 #[.val (.long q1), .second, .val (.long q2), .second, .val (.long q3), .second, .val (.long q4), .second, .val (.ref b172), .val (.ref b176), .unset, .unset, .unset, .unset] [(.long q1), (.ref b176)])) rfl (by rw [hml]; rfl) (Steps.refl _) (argsL := [(.long q1)]) (rest := []) (lenOf pd_2 rfl) rfl (by show 2 * 0 + _ ≤ _; exact Nat.le_of_eq rfl) (hb hby at_23) (fun _ _ => ⟨rfl, rfl, (by decide : 2 + 0 ≤ _), (by decide : 8 + 0 ≤ _)⟩)
  dsimp only [Pt.U, Pt.locs, Pt.cells, Pt.slots] at X185 l185 y185 z185 st185 hQ185
  subst l185 y185 z185
  obtain ⟨rfl, Nq185, K185, po185_0, po185_1, po185_2, po185_3, po185_4, po185_5, po185_6, po185_7, po185_8, po185_9⟩ := hQ185
  have z186 : n0 ≤ T185.heap.size := Nat.le_trans z179 K185.1
  have N185 := Fr.app N178 Nq185
  obtain ⟨cq187, kq187, qa187, qb187, qc187⟩ := isOf hZ rfl po185_0
  obtain ⟨_, _, ⟨T187, L187, k187, n187⟩, -, X187, ⟨Lc187, hQ187, l187, y187, z187⟩, st187⟩ := X185.virtualBack hx (y := (⟨"org/millrace/engine/Footprint", "setAside", "(J)V"⟩ : MethodName)) (z := (⟨"org/millrace/engine/Footprint", "setAside", "(J)V"⟩ : MethodName)) hown (mvT hZ (hw _ (List.mem_of_getElem? (i := 26) rfl))) (mvT hZ (hw _ (List.mem_of_getElem? (i := 27) rfl))) (notFace_of_selects (args := #[]) (mvT hZ (hw _ (List.mem_of_getElem? (i := 29) rfl)))) (mvT hZ (hw _ (List.mem_of_getElem? (i := 29) rfl))) (mvT hZ (hw _ (List.mem_of_getElem? (i := 28) rfl))) (by decide) (backOf (W := 0) (rm5r l Z a0 hw [] b176 b172 q3 (own_ar q1 (0 : Int64)) (own_ap q1 (0 : Int64) (0 : Int64) (0 : Int64)) (0 : Int64) (own_ar q1 (0 : Int64)) (own_ap q1 (0 : Int64) (0 : Int64) (0 : Int64)) (0 : Int64) T185.heap n0 z186 po185_0 po185_1 po185_2 po185_3 po185_4 po185_5 po185_6 po185_7 po185_8 po185_9 g_b176 g_b172 (Ne.symm ne_b172_b176)) hZ (hw _ (List.mem_of_getElem? (i := 30) rfl)) (hw _ (List.mem_of_getElem? (i := 2) rfl)) (by decide) (by decide)) qa187 qc187 (g := (mkF m 30 #[.val (.long q1), .second, .val (.long q2), .second, .val (.long q3), .second, .val (.long q4), .second, .val (.ref b172), .val (.ref b176), .unset, .unset, .unset, .unset] [(.long q3), (.ref b176)])) rfl (by rw [hml]; rfl) (Steps.refl _) (argsL := [(.long q3)]) (rest := []) (lenOf pd_2 rfl) rfl (by show 2 * 0 + _ ≤ _; exact Nat.le_of_eq rfl) (hb hby at_30) (fun _ _ => ⟨rfl, rfl, (by decide : 2 + 0 ≤ _), (by decide : 8 + 0 ≤ _)⟩)
  dsimp only [Pt.U, Pt.locs, Pt.cells, Pt.slots] at X187 l187 y187 z187 st187 hQ187
  subst l187 y187 z187
  obtain ⟨rfl, Nq187, K187, po187_0, po187_1, po187_2, po187_3, po187_4, po187_5, po187_6, po187_7, po187_8, po187_9⟩ := hQ187
  have z188 : n0 ≤ T187.heap.size := Nat.le_trans z186 K187.1
  have N187 := Fr.app N185 Nq187
  obtain ⟨cq189, kq189, qa189, qb189, qc189⟩ := isOf hZ rfl po187_0
  obtain ⟨_, _, ⟨T189, L189, k189, n189⟩, -, X189, ⟨Lc189, hQ189, l189, y189, z189⟩, st189⟩ := X187.virtualBack hx (y := (⟨"org/millrace/engine/Footprint", "add", "(J)V"⟩ : MethodName)) (z := (⟨"org/millrace/engine/Footprint", "add", "(J)V"⟩ : MethodName)) hown (mvT hZ (hw _ (List.mem_of_getElem? (i := 15) rfl))) (mvT hZ (hw _ (List.mem_of_getElem? (i := 16) rfl))) (notFace_of_selects (args := #[]) (mvT hZ (hw _ (List.mem_of_getElem? (i := 18) rfl)))) (mvT hZ (hw _ (List.mem_of_getElem? (i := 18) rfl))) (mvT hZ (hw _ (List.mem_of_getElem? (i := 17) rfl))) (by decide) (backOf (W := 0) (rm4r l Z a0 hw [] b176 b172 q2 ((own_ar q1 (0 : Int64)) - q3) (own_ap q1 (0 : Int64) (0 : Int64) (0 : Int64)) ((0 : Int64) + q3) ((own_ar q1 (0 : Int64)) - q3) (own_ap q1 (0 : Int64) (0 : Int64) (0 : Int64)) ((0 : Int64) + q3) T187.heap n0 z188 po187_0 po187_1 po187_2 po187_3 po187_4 po187_5 po187_6 po187_7 po187_8 po187_9 g_b176 g_b172 (Ne.symm ne_b172_b176)) hZ (hw _ (List.mem_of_getElem? (i := 19) rfl)) (hw _ (List.mem_of_getElem? (i := 2) rfl)) (by decide) (by decide)) qa189 qc189 (g := (mkF m 36 #[.val (.long q1), .second, .val (.long q2), .second, .val (.long q3), .second, .val (.long q4), .second, .val (.ref b172), .val (.ref b176), .unset, .unset, .unset, .unset] [(.long q2), (.ref b176)])) rfl (by rw [hml]; rfl) (Steps.refl _) (argsL := [(.long q2)]) (rest := []) (lenOf pd_2 rfl) rfl (by show 2 * 0 + _ ≤ _; exact Nat.le_of_eq rfl) (hb hby at_36) (fun _ _ => ⟨rfl, rfl, (by decide : 2 + 0 ≤ _), (by decide : 8 + 0 ≤ _)⟩)
  dsimp only [Pt.U, Pt.locs, Pt.cells, Pt.slots] at X189 l189 y189 z189 st189 hQ189
  subst l189 y189 z189
  obtain ⟨rfl, Nq189, K189, po189_0, po189_1, po189_2, po189_3, po189_4, po189_5, po189_6, po189_7, po189_8, po189_9⟩ := hQ189
  have z190 : n0 ≤ T189.heap.size := Nat.le_trans z188 K189.1
  have N189 := Fr.app N187 Nq189
  obtain ⟨cq191, kq191, qa191, qb191, qc191⟩ := isOf hZ rfl po189_5
  obtain ⟨_, _, ⟨T191, L191, k191, n191⟩, -, X191, ⟨Lc191, hQ191, l191, y191, z191⟩, st191⟩ := X189.virtualBack hx (y := (⟨"org/millrace/engine/Footprint", "add", "(J)V"⟩ : MethodName)) (z := (⟨"org/millrace/engine/Footprint", "add", "(J)V"⟩ : MethodName)) hown (mvT hZ (hw _ (List.mem_of_getElem? (i := 15) rfl))) (mvT hZ (hw _ (List.mem_of_getElem? (i := 16) rfl))) (notFace_of_selects (args := #[]) (mvT hZ (hw _ (List.mem_of_getElem? (i := 18) rfl)))) (mvT hZ (hw _ (List.mem_of_getElem? (i := 18) rfl))) (mvT hZ (hw _ (List.mem_of_getElem? (i := 17) rfl))) (by decide) (backOf (W := 0) (rm4n l Z a0 hw [] b172 q4 (own_ar q2 ((own_ar q1 (0 : Int64)) - q3)) (own_ap q2 ((own_ar q1 (0 : Int64)) - q3) (own_ap q1 (0 : Int64) (0 : Int64) (0 : Int64)) ((0 : Int64) + q3)) ((0 : Int64) + q3) T189.heap n0 z190 po189_5 po189_6 po189_7 po189_8 po189_9 g_b172) hZ (hw _ (List.mem_of_getElem? (i := 19) rfl)) (hw _ (List.mem_of_getElem? (i := 2) rfl)) (by decide) (by decide)) qa191 qc191 (g := (mkF m 43 #[.val (.long q1), .second, .val (.long q2), .second, .val (.long q3), .second, .val (.long q4), .second, .val (.ref b172), .val (.ref b176), .unset, .unset, .unset, .unset] [(.long q4), (.ref b172)])) rfl (by rw [hml]; rfl) (Steps.refl _) (argsL := [(.long q4)]) (rest := []) (lenOf pd_2 rfl) rfl (by show 2 * 0 + _ ≤ _; exact Nat.le_of_eq rfl) (hb hby at_43) (fun _ _ => ⟨rfl, rfl, (by decide : 2 + 0 ≤ _), (by decide : 8 + 0 ≤ _)⟩)
  dsimp only [Pt.U, Pt.locs, Pt.cells, Pt.slots] at X191 l191 y191 z191 st191 hQ191
  subst l191 y191 z191
  obtain ⟨rfl, Nq191, K191, po191_0, po191_1, po191_2, po191_3, po191_4⟩ := hQ191
  have z192 : n0 ≤ T191.heap.size := Nat.le_trans z190 K191.1
  have N191 := Fr.app N189 Nq191
  obtain ⟨_, _, ⟨T193, L193, k193, n193⟩, -, X193, ⟨Lc193, hQ193, l193, y193, z193⟩, st193⟩ := Jvm.LawKit.callS X191 hx (y := (⟨"java/lang/Math", "max", "(JJ)J"⟩ : MethodName)) hown (mvT hZ (hw _ (List.mem_of_getElem? (i := 31) rfl))) (mvT hZ (hw _ (List.mem_of_getElem? (i := 32) rfl))) (mvT hZ (hw _ (List.mem_of_getElem? (i := 33) rfl))) (mvT hZ (hw _ (List.mem_of_getElem? (i := 34) rfl))) (by decide) (backOf (W := 0) (rm6 l Z a0 hw [] (0 : Int64) q1 T191.heap n0 z192 ) hZ (hw _ (List.mem_of_getElem? (i := 34) rfl)) (hw _ (List.mem_of_getElem? (i := 33) rfl)) (by decide) (by decide)) (g := (mkF m 48 #[.val (.long q1), .second, .val (.long q2), .second, .val (.long q3), .second, .val (.long q4), .second, .val (.ref b172), .val (.ref b176), .unset, .unset, .unset, .unset] [(.long q1), (.long (0 : Int64))])) rfl (by rw [hml]; rfl) (argsL := [(.long (0 : Int64)), (.long q1)]) (rest := []) (lenOf pd_3 rfl) rfl (by show 2 * 0 + _ ≤ _; exact Nat.le_of_eq rfl) (hb hby at_48) (fun _ _ => ⟨rfl, rfl, (by decide : 2 + 0 ≤ _), (by decide : 8 + 0 ≤ _)⟩)
  dsimp only [Pt.U, Pt.locs, Pt.cells, Pt.slots] at X193 l193 y193 z193 st193 hQ193
  subst l193 y193 z193
  obtain ⟨rfl, Nq193, e193⟩ := hQ193
  have N193 := Fr.app N191 Nq193
  obtain ⟨_, _, ⟨T194, L194, k194, n194⟩, -, X194, ⟨Lc194, hQ194, l194, y194, z194⟩, st194⟩ := Jvm.LawKit.callS X193 hx (y := (⟨"java/lang/Math", "max", "(JJ)J"⟩ : MethodName)) hown (mvT hZ (hw _ (List.mem_of_getElem? (i := 31) rfl))) (mvT hZ (hw _ (List.mem_of_getElem? (i := 32) rfl))) (mvT hZ (hw _ (List.mem_of_getElem? (i := 33) rfl))) (mvT hZ (hw _ (List.mem_of_getElem? (i := 34) rfl))) (by decide) (backOf (W := 0) (rm6 l Z a0 hw [] (own_max (0 : Int64) q1) (q1 + q2) T191.heap n0 z192 ) hZ (hw _ (List.mem_of_getElem? (i := 34) rfl)) (hw _ (List.mem_of_getElem? (i := 33) rfl)) (by decide) (by decide)) (g := (mkF m 54 #[.val (.long q1), .second, .val (.long q2), .second, .val (.long q3), .second, .val (.long q4), .second, .val (.ref b172), .val (.ref b176), .unset, .unset, .unset, .unset] [(.long (q1 + q2)), (.long (own_max (0 : Int64) q1))])) rfl (by rw [hml]; rfl) (argsL := [(.long (own_max (0 : Int64) q1)), (.long (q1 + q2))]) (rest := []) (lenOf pd_3 rfl) rfl (by show 2 * 0 + _ ≤ _; exact Nat.le_of_eq rfl) (hb hby at_54) (fun _ _ => ⟨rfl, e193, (by decide : 2 + 0 ≤ _), (by decide : 8 + 0 ≤ _)⟩)
  dsimp only [Pt.U, Pt.locs, Pt.cells, Pt.slots] at X194 l194 y194 z194 st194 hQ194
  subst l194 y194 z194
  obtain ⟨rfl, Nq194, e194⟩ := hQ194
  have N194 := Fr.app N193 Nq194
  obtain ⟨_, _, ⟨T195, L195, k195, n195⟩, -, X195, ⟨Lc195, hQ195, l195, y195, z195⟩, st195⟩ := Jvm.LawKit.callS X194 hx (y := (⟨"java/lang/Math", "max", "(JJ)J"⟩ : MethodName)) hown (mvT hZ (hw _ (List.mem_of_getElem? (i := 31) rfl))) (mvT hZ (hw _ (List.mem_of_getElem? (i := 32) rfl))) (mvT hZ (hw _ (List.mem_of_getElem? (i := 33) rfl))) (mvT hZ (hw _ (List.mem_of_getElem? (i := 34) rfl))) (by decide) (backOf (W := 0) (rm6 l Z a0 hw [] (own_max (own_max (0 : Int64) q1) (q1 + q2)) ((q1 + q2) + q4) T191.heap n0 z192 ) hZ (hw _ (List.mem_of_getElem? (i := 34) rfl)) (hw _ (List.mem_of_getElem? (i := 33) rfl)) (by decide) (by decide)) (g := (mkF m 67 #[.val (.long q1), .second, .val (.long q2), .second, .val (.long q3), .second, .val (.long q4), .second, .val (.ref b172), .val (.ref b176), .val (.long (own_max (own_max (0 : Int64) q1) (q1 + q2))), .second, .unset, .unset] [(.long ((q1 + q2) + q4)), (.long (own_max (own_max (0 : Int64) q1) (q1 + q2)))])) rfl (by rw [hml]; rfl) (argsL := [(.long (own_max (own_max (0 : Int64) q1) (q1 + q2))), (.long ((q1 + q2) + q4))]) (rest := []) (lenOf pd_3 rfl) rfl (by show 2 * 0 + _ ≤ _; exact Nat.le_of_eq rfl) (hb hby at_67) (fun _ _ => ⟨rfl, e194, (by decide : 2 + 0 ≤ _), (by decide : 8 + 0 ≤ _)⟩)
  dsimp only [Pt.U, Pt.locs, Pt.cells, Pt.slots] at X195 l195 y195 z195 st195 hQ195
  subst l195 y195 z195
  obtain ⟨rfl, Nq195, e195⟩ := hQ195
  have N195 := Fr.app N194 Nq195
  have f196 : Exa Z T191.heap b176 "org/millrace/engine/Footprint" := (po189_0.keep K191)
  have f197 : Fld Z T191.heap b176 "org/millrace/engine/Footprint" "rows" "J" (.long (own_ar q2 ((own_ar q1 (0 : Int64)) - q3))) := (po189_1.keep K191 (ninS (Ne.symm ne_b172_b176) nin0))
  obtain ⟨cq198, kq198, qa198, qb198, qc198⟩ := isOf hZ e195 f196
  obtain ⟨_, _, ⟨T198, L198, k198, n198⟩, -, X198, ⟨Lc198, hQ198, l198, y198, z198⟩, st198⟩ := X195.virtualBack hx (y := (⟨"org/millrace/engine/Footprint", "rows", "()J"⟩ : MethodName)) (z := (⟨"org/millrace/engine/Footprint", "rows", "()J"⟩ : MethodName)) hown (mvT hZ (hw _ (List.mem_of_getElem? (i := 35) rfl))) (mvT hZ (hw _ (List.mem_of_getElem? (i := 36) rfl))) (notFace_of_selects (args := #[]) (mvT hZ (hw _ (List.mem_of_getElem? (i := 38) rfl)))) (mvT hZ (hw _ (List.mem_of_getElem? (i := 38) rfl))) (mvT hZ (hw _ (List.mem_of_getElem? (i := 37) rfl))) (by decide) (backOf (W := 0) (rm7 l Z a0 hw [] b176 (own_ar q2 ((own_ar q1 (0 : Int64)) - q3)) T191.heap n0 z192 f196 f197) hZ (hw _ (List.mem_of_getElem? (i := 39) rfl)) (hw _ (List.mem_of_getElem? (i := 2) rfl)) (by decide) (by decide)) qa198 qc198 (g := (mkF m 74 #[.val (.long q1), .second, .val (.long q2), .second, .val (.long q3), .second, .val (.long q4), .second, .val (.ref b172), .val (.ref b176), .val (.long (own_max (own_max (0 : Int64) q1) (q1 + q2))), .second, .val (.long (own_max (own_max (own_max (0 : Int64) q1) (q1 + q2)) ((q1 + q2) + q4))), .second] [(.ref b176)])) rfl (by rw [hml]; rfl) (Steps.refl _) (argsL := []) (rest := []) (lenOf pd_4 rfl) rfl (by show 2 * 0 + _ ≤ _; exact Nat.le_of_eq rfl) (hb hby at_74) (fun _ _ => ⟨rfl, e195, (by decide : 2 + 0 ≤ _), (by decide : 8 + 0 ≤ _)⟩)
  dsimp only [Pt.U, Pt.locs, Pt.cells, Pt.slots] at X198 l198 y198 z198 st198 hQ198
  subst l198 y198 z198
  obtain ⟨rfl, Nq198, e198⟩ := hQ198
  have N198 := Fr.app N195 Nq198
  have f199 : Fld Z T191.heap b176 "org/millrace/engine/Footprint" "peak" "J" (.long (own_ap q2 ((own_ar q1 (0 : Int64)) - q3) (own_ap q1 (0 : Int64) (0 : Int64) (0 : Int64)) ((0 : Int64) + q3))) := (po189_2.keep K191 (ninS (Ne.symm ne_b172_b176) nin0))
  obtain ⟨cq200, kq200, qa200, qb200, qc200⟩ := isOf hZ e198 f196
  obtain ⟨_, _, ⟨T200, L200, k200, n200⟩, -, X200, ⟨Lc200, hQ200, l200, y200, z200⟩, st200⟩ := X198.virtualBack hx (y := (⟨"org/millrace/engine/Footprint", "peak", "()J"⟩ : MethodName)) (z := (⟨"org/millrace/engine/Footprint", "peak", "()J"⟩ : MethodName)) hown (mvT hZ (hw _ (List.mem_of_getElem? (i := 40) rfl))) (mvT hZ (hw _ (List.mem_of_getElem? (i := 41) rfl))) (notFace_of_selects (args := #[]) (mvT hZ (hw _ (List.mem_of_getElem? (i := 43) rfl)))) (mvT hZ (hw _ (List.mem_of_getElem? (i := 43) rfl))) (mvT hZ (hw _ (List.mem_of_getElem? (i := 42) rfl))) (by decide) (backOf (W := 0) (rm8 l Z a0 hw [] b176 (own_ap q2 ((own_ar q1 (0 : Int64)) - q3) (own_ap q1 (0 : Int64) (0 : Int64) (0 : Int64)) ((0 : Int64) + q3)) T191.heap n0 z192 f196 f199) hZ (hw _ (List.mem_of_getElem? (i := 44) rfl)) (hw _ (List.mem_of_getElem? (i := 2) rfl)) (by decide) (by decide)) qa200 qc200 (g := (mkF m 89 #[.val (.long q1), .second, .val (.long q2), .second, .val (.long q3), .second, .val (.long q4), .second, .val (.ref b172), .val (.ref b176), .val (.long (own_max (own_max (0 : Int64) q1) (q1 + q2))), .second, .val (.long (own_max (own_max (own_max (0 : Int64) q1) (q1 + q2)) ((q1 + q2) + q4))), .second] [(.ref b176)])) rfl (by rw [hml]; rfl) (Steps.refl _) (argsL := []) (rest := []) (lenOf pd_4 rfl) rfl (by show 2 * 0 + _ ≤ _; exact Nat.le_of_eq rfl) (hb hby at_89) (fun _ _ => ⟨rfl, e198, (by decide : 2 + 0 ≤ _), (by decide : 8 + 0 ≤ _)⟩)
  dsimp only [Pt.U, Pt.locs, Pt.cells, Pt.slots] at X200 l200 y200 z200 st200 hQ200
  subst l200 y200 z200
  obtain ⟨rfl, Nq200, e200⟩ := hQ200
  have N200 := Fr.app N198 Nq200
  obtain ⟨cq201, kq201, qa201, qb201, qc201⟩ := isOf hZ e200 po191_0
  obtain ⟨_, _, ⟨T201, L201, k201, n201⟩, -, X201, ⟨Lc201, hQ201, l201, y201, z201⟩, st201⟩ := X200.virtualBack hx (y := (⟨"org/millrace/engine/Footprint", "rows", "()J"⟩ : MethodName)) (z := (⟨"org/millrace/engine/Footprint", "rows", "()J"⟩ : MethodName)) hown (mvT hZ (hw _ (List.mem_of_getElem? (i := 35) rfl))) (mvT hZ (hw _ (List.mem_of_getElem? (i := 36) rfl))) (notFace_of_selects (args := #[]) (mvT hZ (hw _ (List.mem_of_getElem? (i := 38) rfl)))) (mvT hZ (hw _ (List.mem_of_getElem? (i := 38) rfl))) (mvT hZ (hw _ (List.mem_of_getElem? (i := 37) rfl))) (by decide) (backOf (W := 0) (rm7 l Z a0 hw [] b172 (own_ar q4 (own_ar q2 ((own_ar q1 (0 : Int64)) - q3))) T191.heap n0 z192 po191_0 po191_1) hZ (hw _ (List.mem_of_getElem? (i := 39) rfl)) (hw _ (List.mem_of_getElem? (i := 2) rfl)) (by decide) (by decide)) qa201 qc201 (g := (mkF m 100 #[.val (.long q1), .second, .val (.long q2), .second, .val (.long q3), .second, .val (.long q4), .second, .val (.ref b172), .val (.ref b176), .val (.long (own_max (own_max (0 : Int64) q1) (q1 + q2))), .second, .val (.long (own_max (own_max (own_max (0 : Int64) q1) (q1 + q2)) ((q1 + q2) + q4))), .second] [(.ref b172)])) rfl (by rw [hml]; rfl) (Steps.refl _) (argsL := []) (rest := []) (lenOf pd_4 rfl) rfl (by show 2 * 0 + _ ≤ _; exact Nat.le_of_eq rfl) (hb hby at_100) (fun _ _ => ⟨rfl, e200, (by decide : 2 + 0 ≤ _), (by decide : 8 + 0 ≤ _)⟩)
  dsimp only [Pt.U, Pt.locs, Pt.cells, Pt.slots] at X201 l201 y201 z201 st201 hQ201
  subst l201 y201 z201
  obtain ⟨rfl, Nq201, e201⟩ := hQ201
  have N201 := Fr.app N200 Nq201
  obtain ⟨cq202, kq202, qa202, qb202, qc202⟩ := isOf hZ e201 po191_0
  obtain ⟨_, _, ⟨T202, L202, k202, n202⟩, -, X202, ⟨Lc202, hQ202, l202, y202, z202⟩, st202⟩ := X201.virtualBack hx (y := (⟨"org/millrace/engine/Footprint", "peak", "()J"⟩ : MethodName)) (z := (⟨"org/millrace/engine/Footprint", "peak", "()J"⟩ : MethodName)) hown (mvT hZ (hw _ (List.mem_of_getElem? (i := 40) rfl))) (mvT hZ (hw _ (List.mem_of_getElem? (i := 41) rfl))) (notFace_of_selects (args := #[]) (mvT hZ (hw _ (List.mem_of_getElem? (i := 43) rfl)))) (mvT hZ (hw _ (List.mem_of_getElem? (i := 43) rfl))) (mvT hZ (hw _ (List.mem_of_getElem? (i := 42) rfl))) (by decide) (backOf (W := 0) (rm8 l Z a0 hw [] b172 (own_ap q4 (own_ar q2 ((own_ar q1 (0 : Int64)) - q3)) (own_ap q2 ((own_ar q1 (0 : Int64)) - q3) (own_ap q1 (0 : Int64) (0 : Int64) (0 : Int64)) ((0 : Int64) + q3)) ((0 : Int64) + q3)) T191.heap n0 z192 po191_0 po191_2) hZ (hw _ (List.mem_of_getElem? (i := 44) rfl)) (hw _ (List.mem_of_getElem? (i := 2) rfl)) (by decide) (by decide)) qa202 qc202 (g := (mkF m 118 #[.val (.long q1), .second, .val (.long q2), .second, .val (.long q3), .second, .val (.long q4), .second, .val (.ref b172), .val (.ref b176), .val (.long (own_max (own_max (0 : Int64) q1) (q1 + q2))), .second, .val (.long (own_max (own_max (own_max (0 : Int64) q1) (q1 + q2)) ((q1 + q2) + q4))), .second] [(.ref b172)])) rfl (by rw [hml]; rfl) (Steps.refl _) (argsL := []) (rest := []) (lenOf pd_4 rfl) rfl (by show 2 * 0 + _ ≤ _; exact Nat.le_of_eq rfl) (hb hby at_118) (fun _ _ => ⟨rfl, e201, (by decide : 2 + 0 ≤ _), (by decide : 8 + 0 ≤ _)⟩)
  dsimp only [Pt.U, Pt.locs, Pt.cells, Pt.slots] at X202 l202 y202 z202 st202 hQ202
  subst l202 y202 z202
  obtain ⟨rfl, Nq202, e202⟩ := hQ202
  have N202 := Fr.app N201 Nq202
  obtain ⟨fs, hr, hrun, hended, hW, hsame⟩ := X202.leave (v := some (.int (1 : Int32))) (fun h => by rw [Bd.returns] at h; cases h)
  refine ⟨_, _, pre0 _ ?_, hrun, hended, _, _, rfl, ?_, ⟨_, rfl⟩, hW, hsame.mono (by decide) (by decide)⟩
  · show Steps p.tables e below (s₁.setTop (mkF m 0 #[.val (.long q1), .second, .val (.long q2), .second, .val (.long q3), .second, .val (.long q4), .second, .unset, .unset, .unset, .unset, .unset, .unset] [])) _
    refine st172 _ ?_
    show Steps p.tables e below (T172.setTop (mkF m 3 #[.val (.long q1), .second, .val (.long q2), .second, .val (.long q3), .second, .val (.long q4), .second, .unset, .unset, .unset, .unset, .unset, .unset] [(.ref b172)])) _
    refine XS.dup X172.here hx rfl (hb hby at_3) rfl rfl ?_
    show Steps p.tables e below (T172.setTop (mkF m 4 #[.val (.long q1), .second, .val (.long q2), .second, .val (.long q3), .second, .val (.long q4), .second, .unset, .unset, .unset, .unset, .unset, .unset] [(.ref b172), (.ref b172)])) _
    refine st174.trans ?_
    show Steps p.tables e below (T174.setTop (mkF m 7 #[.val (.long q1), .second, .val (.long q2), .second, .val (.long q3), .second, .val (.long q4), .second, .unset, .unset, .unset, .unset, .unset, .unset] [(.ref b172)])) _
    refine XS.astore X174.here hx rfl (hb hby at_7) rfl rfl (l' := #[.val (.long q1), .second, .val (.long q2), .second, .val (.long q3), .second, .val (.long q4), .second, .val (.ref b172), .unset, .unset, .unset, .unset, .unset]) rfl ?_
    show Steps p.tables e below (T174.setTop (mkF m 9 #[.val (.long q1), .second, .val (.long q2), .second, .val (.long q3), .second, .val (.long q4), .second, .val (.ref b172), .unset, .unset, .unset, .unset, .unset] [])) _
    refine st176 _ ?_
    show Steps p.tables e below (T176.setTop (mkF m 12 #[.val (.long q1), .second, .val (.long q2), .second, .val (.long q3), .second, .val (.long q4), .second, .val (.ref b172), .unset, .unset, .unset, .unset, .unset] [(.ref b176)])) _
    refine XS.dup X176.here hx rfl (hb hby at_12) rfl rfl ?_
    show Steps p.tables e below (T176.setTop (mkF m 13 #[.val (.long q1), .second, .val (.long q2), .second, .val (.long q3), .second, .val (.long q4), .second, .val (.ref b172), .unset, .unset, .unset, .unset, .unset] [(.ref b176), (.ref b176)])) _
    refine XS.aload X176.here hx rfl (hb hby at_13) rfl rfl ?_
    show Steps p.tables e below (T176.setTop (mkF m 15 #[.val (.long q1), .second, .val (.long q2), .second, .val (.long q3), .second, .val (.long q4), .second, .val (.ref b172), .unset, .unset, .unset, .unset, .unset] [(.ref b172), (.ref b176), (.ref b176)])) _
    refine st178.trans ?_
    show Steps p.tables e below (T178.setTop (mkF m 18 #[.val (.long q1), .second, .val (.long q2), .second, .val (.long q3), .second, .val (.long q4), .second, .val (.ref b172), .unset, .unset, .unset, .unset, .unset] [(.ref b176)])) _
    refine XS.astore X178.here hx rfl (hb hby at_18) rfl rfl (l' := #[.val (.long q1), .second, .val (.long q2), .second, .val (.long q3), .second, .val (.long q4), .second, .val (.ref b172), .val (.ref b176), .unset, .unset, .unset, .unset]) rfl ?_
    show Steps p.tables e below (T178.setTop (mkF m 20 #[.val (.long q1), .second, .val (.long q2), .second, .val (.long q3), .second, .val (.long q4), .second, .val (.ref b172), .val (.ref b176), .unset, .unset, .unset, .unset] [])) _
    refine XS.aload X178.here hx rfl (hb hby at_20) rfl rfl ?_
    show Steps p.tables e below (T178.setTop (mkF m 22 #[.val (.long q1), .second, .val (.long q2), .second, .val (.long q3), .second, .val (.long q4), .second, .val (.ref b172), .val (.ref b176), .unset, .unset, .unset, .unset] [(.ref b176)])) _
    refine XS.lloadN X178.here hx rfl (hb hby at_22) rfl ?_
    show Steps p.tables e below (T178.setTop (mkF m 23 #[.val (.long q1), .second, .val (.long q2), .second, .val (.long q3), .second, .val (.long q4), .second, .val (.ref b172), .val (.ref b176), .unset, .unset, .unset, .unset] [(.long q1), (.ref b176)])) _
    refine st185.trans ?_
    show Steps p.tables e below (T185.setTop (mkF m 26 #[.val (.long q1), .second, .val (.long q2), .second, .val (.long q3), .second, .val (.long q4), .second, .val (.ref b172), .val (.ref b176), .unset, .unset, .unset, .unset] [])) _
    refine XS.aload X185.here hx rfl (hb hby at_26) rfl rfl ?_
    show Steps p.tables e below (T185.setTop (mkF m 28 #[.val (.long q1), .second, .val (.long q2), .second, .val (.long q3), .second, .val (.long q4), .second, .val (.ref b172), .val (.ref b176), .unset, .unset, .unset, .unset] [(.ref b176)])) _
    refine XS.lload X185.here hx rfl (hb hby at_28) rfl ?_
    show Steps p.tables e below (T185.setTop (mkF m 30 #[.val (.long q1), .second, .val (.long q2), .second, .val (.long q3), .second, .val (.long q4), .second, .val (.ref b172), .val (.ref b176), .unset, .unset, .unset, .unset] [(.long q3), (.ref b176)])) _
    refine st187.trans ?_
    show Steps p.tables e below (T187.setTop (mkF m 33 #[.val (.long q1), .second, .val (.long q2), .second, .val (.long q3), .second, .val (.long q4), .second, .val (.ref b172), .val (.ref b176), .unset, .unset, .unset, .unset] [])) _
    refine XS.aload X187.here hx rfl (hb hby at_33) rfl rfl ?_
    show Steps p.tables e below (T187.setTop (mkF m 35 #[.val (.long q1), .second, .val (.long q2), .second, .val (.long q3), .second, .val (.long q4), .second, .val (.ref b172), .val (.ref b176), .unset, .unset, .unset, .unset] [(.ref b176)])) _
    refine XS.lloadN X187.here hx rfl (hb hby at_35) rfl ?_
    show Steps p.tables e below (T187.setTop (mkF m 36 #[.val (.long q1), .second, .val (.long q2), .second, .val (.long q3), .second, .val (.long q4), .second, .val (.ref b172), .val (.ref b176), .unset, .unset, .unset, .unset] [(.long q2), (.ref b176)])) _
    refine st189.trans ?_
    show Steps p.tables e below (T189.setTop (mkF m 39 #[.val (.long q1), .second, .val (.long q2), .second, .val (.long q3), .second, .val (.long q4), .second, .val (.ref b172), .val (.ref b176), .unset, .unset, .unset, .unset] [])) _
    refine XS.aload X189.here hx rfl (hb hby at_39) rfl rfl ?_
    show Steps p.tables e below (T189.setTop (mkF m 41 #[.val (.long q1), .second, .val (.long q2), .second, .val (.long q3), .second, .val (.long q4), .second, .val (.ref b172), .val (.ref b176), .unset, .unset, .unset, .unset] [(.ref b172)])) _
    refine XS.lload X189.here hx rfl (hb hby at_41) rfl ?_
    show Steps p.tables e below (T189.setTop (mkF m 43 #[.val (.long q1), .second, .val (.long q2), .second, .val (.long q3), .second, .val (.long q4), .second, .val (.ref b172), .val (.ref b176), .unset, .unset, .unset, .unset] [(.long q4), (.ref b172)])) _
    refine st191.trans ?_
    show Steps p.tables e below (T191.setTop (mkF m 46 #[.val (.long q1), .second, .val (.long q2), .second, .val (.long q3), .second, .val (.long q4), .second, .val (.ref b172), .val (.ref b176), .unset, .unset, .unset, .unset] [])) _
    refine XS.lconst X191.here hx rfl (hb hby at_46) ?_
    show Steps p.tables e below (T191.setTop (mkF m 47 #[.val (.long q1), .second, .val (.long q2), .second, .val (.long q3), .second, .val (.long q4), .second, .val (.ref b172), .val (.ref b176), .unset, .unset, .unset, .unset] [(.long (0 : Int64))])) _
    refine XS.lloadN X191.here hx rfl (hb hby at_47) rfl ?_
    show Steps p.tables e below (T191.setTop (mkF m 48 #[.val (.long q1), .second, .val (.long q2), .second, .val (.long q3), .second, .val (.long q4), .second, .val (.ref b172), .val (.ref b176), .unset, .unset, .unset, .unset] [(.long q1), (.long (0 : Int64))])) _
    refine st193 _ ?_
    show Steps p.tables e below (T193.setTop (mkF m 51 #[.val (.long q1), .second, .val (.long q2), .second, .val (.long q3), .second, .val (.long q4), .second, .val (.ref b172), .val (.ref b176), .unset, .unset, .unset, .unset] [(.long (own_max (0 : Int64) q1))])) _
    refine XS.lloadN X193.here hx rfl (hb hby at_51) rfl ?_
    show Steps p.tables e below (T193.setTop (mkF m 52 #[.val (.long q1), .second, .val (.long q2), .second, .val (.long q3), .second, .val (.long q4), .second, .val (.ref b172), .val (.ref b176), .unset, .unset, .unset, .unset] [(.long q1), (.long (own_max (0 : Int64) q1))])) _
    refine XS.lloadN X193.here hx rfl (hb hby at_52) rfl ?_
    show Steps p.tables e below (T193.setTop (mkF m 53 #[.val (.long q1), .second, .val (.long q2), .second, .val (.long q3), .second, .val (.long q4), .second, .val (.ref b172), .val (.ref b176), .unset, .unset, .unset, .unset] [(.long q2), (.long q1), (.long (own_max (0 : Int64) q1))])) _
    refine XS.ladd X193.here hx rfl (hb hby at_53) rfl ?_
    show Steps p.tables e below (T193.setTop (mkF m 54 #[.val (.long q1), .second, .val (.long q2), .second, .val (.long q3), .second, .val (.long q4), .second, .val (.ref b172), .val (.ref b176), .unset, .unset, .unset, .unset] [(.long (q1 + q2)), (.long (own_max (0 : Int64) q1))])) _
    refine st194 _ ?_
    show Steps p.tables e below (T194.setTop (mkF m 57 #[.val (.long q1), .second, .val (.long q2), .second, .val (.long q3), .second, .val (.long q4), .second, .val (.ref b172), .val (.ref b176), .unset, .unset, .unset, .unset] [(.long (own_max (own_max (0 : Int64) q1) (q1 + q2)))])) _
    refine XS.lstore X194.here hx rfl (hb hby at_57) rfl (l' := #[.val (.long q1), .second, .val (.long q2), .second, .val (.long q3), .second, .val (.long q4), .second, .val (.ref b172), .val (.ref b176), .val (.long (own_max (own_max (0 : Int64) q1) (q1 + q2))), .second, .unset, .unset]) rfl ?_
    show Steps p.tables e below (T194.setTop (mkF m 59 #[.val (.long q1), .second, .val (.long q2), .second, .val (.long q3), .second, .val (.long q4), .second, .val (.ref b172), .val (.ref b176), .val (.long (own_max (own_max (0 : Int64) q1) (q1 + q2))), .second, .unset, .unset] [])) _
    refine XS.lload X194.here hx rfl (hb hby at_59) rfl ?_
    show Steps p.tables e below (T194.setTop (mkF m 61 #[.val (.long q1), .second, .val (.long q2), .second, .val (.long q3), .second, .val (.long q4), .second, .val (.ref b172), .val (.ref b176), .val (.long (own_max (own_max (0 : Int64) q1) (q1 + q2))), .second, .unset, .unset] [(.long (own_max (own_max (0 : Int64) q1) (q1 + q2)))])) _
    refine XS.lloadN X194.here hx rfl (hb hby at_61) rfl ?_
    show Steps p.tables e below (T194.setTop (mkF m 62 #[.val (.long q1), .second, .val (.long q2), .second, .val (.long q3), .second, .val (.long q4), .second, .val (.ref b172), .val (.ref b176), .val (.long (own_max (own_max (0 : Int64) q1) (q1 + q2))), .second, .unset, .unset] [(.long q1), (.long (own_max (own_max (0 : Int64) q1) (q1 + q2)))])) _
    refine XS.lloadN X194.here hx rfl (hb hby at_62) rfl ?_
    show Steps p.tables e below (T194.setTop (mkF m 63 #[.val (.long q1), .second, .val (.long q2), .second, .val (.long q3), .second, .val (.long q4), .second, .val (.ref b172), .val (.ref b176), .val (.long (own_max (own_max (0 : Int64) q1) (q1 + q2))), .second, .unset, .unset] [(.long q2), (.long q1), (.long (own_max (own_max (0 : Int64) q1) (q1 + q2)))])) _
    refine XS.ladd X194.here hx rfl (hb hby at_63) rfl ?_
    show Steps p.tables e below (T194.setTop (mkF m 64 #[.val (.long q1), .second, .val (.long q2), .second, .val (.long q3), .second, .val (.long q4), .second, .val (.ref b172), .val (.ref b176), .val (.long (own_max (own_max (0 : Int64) q1) (q1 + q2))), .second, .unset, .unset] [(.long (q1 + q2)), (.long (own_max (own_max (0 : Int64) q1) (q1 + q2)))])) _
    refine XS.lload X194.here hx rfl (hb hby at_64) rfl ?_
    show Steps p.tables e below (T194.setTop (mkF m 66 #[.val (.long q1), .second, .val (.long q2), .second, .val (.long q3), .second, .val (.long q4), .second, .val (.ref b172), .val (.ref b176), .val (.long (own_max (own_max (0 : Int64) q1) (q1 + q2))), .second, .unset, .unset] [(.long q4), (.long (q1 + q2)), (.long (own_max (own_max (0 : Int64) q1) (q1 + q2)))])) _
    refine XS.ladd X194.here hx rfl (hb hby at_66) rfl ?_
    show Steps p.tables e below (T194.setTop (mkF m 67 #[.val (.long q1), .second, .val (.long q2), .second, .val (.long q3), .second, .val (.long q4), .second, .val (.ref b172), .val (.ref b176), .val (.long (own_max (own_max (0 : Int64) q1) (q1 + q2))), .second, .unset, .unset] [(.long ((q1 + q2) + q4)), (.long (own_max (own_max (0 : Int64) q1) (q1 + q2)))])) _
    refine st195 _ ?_
    show Steps p.tables e below (T195.setTop (mkF m 70 #[.val (.long q1), .second, .val (.long q2), .second, .val (.long q3), .second, .val (.long q4), .second, .val (.ref b172), .val (.ref b176), .val (.long (own_max (own_max (0 : Int64) q1) (q1 + q2))), .second, .unset, .unset] [(.long (own_max (own_max (own_max (0 : Int64) q1) (q1 + q2)) ((q1 + q2) + q4)))])) _
    refine XS.lstore X195.here hx rfl (hb hby at_70) rfl (l' := #[.val (.long q1), .second, .val (.long q2), .second, .val (.long q3), .second, .val (.long q4), .second, .val (.ref b172), .val (.ref b176), .val (.long (own_max (own_max (0 : Int64) q1) (q1 + q2))), .second, .val (.long (own_max (own_max (own_max (0 : Int64) q1) (q1 + q2)) ((q1 + q2) + q4))), .second]) rfl ?_
    show Steps p.tables e below (T195.setTop (mkF m 72 #[.val (.long q1), .second, .val (.long q2), .second, .val (.long q3), .second, .val (.long q4), .second, .val (.ref b172), .val (.ref b176), .val (.long (own_max (own_max (0 : Int64) q1) (q1 + q2))), .second, .val (.long (own_max (own_max (own_max (0 : Int64) q1) (q1 + q2)) ((q1 + q2) + q4))), .second] [])) _
    refine XS.aload X195.here hx rfl (hb hby at_72) rfl rfl ?_
    show Steps p.tables e below (T195.setTop (mkF m 74 #[.val (.long q1), .second, .val (.long q2), .second, .val (.long q3), .second, .val (.long q4), .second, .val (.ref b172), .val (.ref b176), .val (.long (own_max (own_max (0 : Int64) q1) (q1 + q2))), .second, .val (.long (own_max (own_max (own_max (0 : Int64) q1) (q1 + q2)) ((q1 + q2) + q4))), .second] [(.ref b176)])) _
    refine st198.trans ?_
    show Steps p.tables e below (T198.setTop (mkF m 77 #[.val (.long q1), .second, .val (.long q2), .second, .val (.long q3), .second, .val (.long q4), .second, .val (.ref b172), .val (.ref b176), .val (.long (own_max (own_max (0 : Int64) q1) (q1 + q2))), .second, .val (.long (own_max (own_max (own_max (0 : Int64) q1) (q1 + q2)) ((q1 + q2) + q4))), .second] [(.long (own_ar q2 ((own_ar q1 (0 : Int64)) - q3)))])) _
    refine XS.lloadN X198.here hx rfl (hb hby at_77) rfl ?_
    show Steps p.tables e below (T198.setTop (mkF m 78 #[.val (.long q1), .second, .val (.long q2), .second, .val (.long q3), .second, .val (.long q4), .second, .val (.ref b172), .val (.ref b176), .val (.long (own_max (own_max (0 : Int64) q1) (q1 + q2))), .second, .val (.long (own_max (own_max (own_max (0 : Int64) q1) (q1 + q2)) ((q1 + q2) + q4))), .second] [(.long q1), (.long (own_ar q2 ((own_ar q1 (0 : Int64)) - q3)))])) _
    refine XS.lload X198.here hx rfl (hb hby at_78) rfl ?_
    show Steps p.tables e below (T198.setTop (mkF m 80 #[.val (.long q1), .second, .val (.long q2), .second, .val (.long q3), .second, .val (.long q4), .second, .val (.ref b172), .val (.ref b176), .val (.long (own_max (own_max (0 : Int64) q1) (q1 + q2))), .second, .val (.long (own_max (own_max (own_max (0 : Int64) q1) (q1 + q2)) ((q1 + q2) + q4))), .second] [(.long q3), (.long q1), (.long (own_ar q2 ((own_ar q1 (0 : Int64)) - q3)))])) _
    refine XS.lsub X198.here hx rfl (hb hby at_80) rfl ?_
    show Steps p.tables e below (T198.setTop (mkF m 81 #[.val (.long q1), .second, .val (.long q2), .second, .val (.long q3), .second, .val (.long q4), .second, .val (.ref b172), .val (.ref b176), .val (.long (own_max (own_max (0 : Int64) q1) (q1 + q2))), .second, .val (.long (own_max (own_max (own_max (0 : Int64) q1) (q1 + q2)) ((q1 + q2) + q4))), .second] [(.long (q1 - q3)), (.long (own_ar q2 ((own_ar q1 (0 : Int64)) - q3)))])) _
    refine XS.lloadN X198.here hx rfl (hb hby at_81) rfl ?_
    show Steps p.tables e below (T198.setTop (mkF m 82 #[.val (.long q1), .second, .val (.long q2), .second, .val (.long q3), .second, .val (.long q4), .second, .val (.ref b172), .val (.ref b176), .val (.long (own_max (own_max (0 : Int64) q1) (q1 + q2))), .second, .val (.long (own_max (own_max (own_max (0 : Int64) q1) (q1 + q2)) ((q1 + q2) + q4))), .second] [(.long q2), (.long (q1 - q3)), (.long (own_ar q2 ((own_ar q1 (0 : Int64)) - q3)))])) _
    refine XS.ladd X198.here hx rfl (hb hby at_82) rfl ?_
    show Steps p.tables e below (T198.setTop (mkF m 83 #[.val (.long q1), .second, .val (.long q2), .second, .val (.long q3), .second, .val (.long q4), .second, .val (.ref b172), .val (.ref b176), .val (.long (own_max (own_max (0 : Int64) q1) (q1 + q2))), .second, .val (.long (own_max (own_max (own_max (0 : Int64) q1) (q1 + q2)) ((q1 + q2) + q4))), .second] [(.long ((q1 - q3) + q2)), (.long (own_ar q2 ((own_ar q1 (0 : Int64)) - q3)))])) _
    refine XS.lcmp X198.here hx rfl (hb hby at_83) rfl ?_
    show Steps p.tables e below (T198.setTop (mkF m 84 #[.val (.long q1), .second, .val (.long q2), .second, .val (.long q3), .second, .val (.long q4), .second, .val (.ref b172), .val (.ref b176), .val (.long (own_max (own_max (0 : Int64) q1) (q1 + q2))), .second, .val (.long (own_max (own_max (own_max (0 : Int64) q1) (q1 + q2)) ((q1 + q2) + q4))), .second] [(.int (lcmpW (own_ar q2 ((own_ar q1 (0 : Int64)) - q3)) ((q1 - q3) + q2)))])) _
    refine XS.ifNo X198.here hx rfl (hb hby at_84) rfl ((if0 _ _).trans (teq ((lw_eq _ _).mpr (by rw [own_ar_eq, own_ar_eq, Int64.zero_add] : (own_ar q2 ((own_ar q1 (0 : Int64)) - q3)) = ((q1 - q3) + q2)))).2) ?_
    show Steps p.tables e below (T198.setTop (mkF m 87 #[.val (.long q1), .second, .val (.long q2), .second, .val (.long q3), .second, .val (.long q4), .second, .val (.ref b172), .val (.ref b176), .val (.long (own_max (own_max (0 : Int64) q1) (q1 + q2))), .second, .val (.long (own_max (own_max (own_max (0 : Int64) q1) (q1 + q2)) ((q1 + q2) + q4))), .second] [])) _
    refine XS.aload X198.here hx rfl (hb hby at_87) rfl rfl ?_
    show Steps p.tables e below (T198.setTop (mkF m 89 #[.val (.long q1), .second, .val (.long q2), .second, .val (.long q3), .second, .val (.long q4), .second, .val (.ref b172), .val (.ref b176), .val (.long (own_max (own_max (0 : Int64) q1) (q1 + q2))), .second, .val (.long (own_max (own_max (own_max (0 : Int64) q1) (q1 + q2)) ((q1 + q2) + q4))), .second] [(.ref b176)])) _
    refine st200.trans ?_
    show Steps p.tables e below (T200.setTop (mkF m 92 #[.val (.long q1), .second, .val (.long q2), .second, .val (.long q3), .second, .val (.long q4), .second, .val (.ref b172), .val (.ref b176), .val (.long (own_max (own_max (0 : Int64) q1) (q1 + q2))), .second, .val (.long (own_max (own_max (own_max (0 : Int64) q1) (q1 + q2)) ((q1 + q2) + q4))), .second] [(.long (own_ap q2 ((own_ar q1 (0 : Int64)) - q3) (own_ap q1 (0 : Int64) (0 : Int64) (0 : Int64)) ((0 : Int64) + q3)))])) _
    refine XS.lload X200.here hx rfl (hb hby at_92) rfl ?_
    show Steps p.tables e below (T200.setTop (mkF m 94 #[.val (.long q1), .second, .val (.long q2), .second, .val (.long q3), .second, .val (.long q4), .second, .val (.ref b172), .val (.ref b176), .val (.long (own_max (own_max (0 : Int64) q1) (q1 + q2))), .second, .val (.long (own_max (own_max (own_max (0 : Int64) q1) (q1 + q2)) ((q1 + q2) + q4))), .second] [(.long (own_max (own_max (0 : Int64) q1) (q1 + q2))), (.long (own_ap q2 ((own_ar q1 (0 : Int64)) - q3) (own_ap q1 (0 : Int64) (0 : Int64) (0 : Int64)) ((0 : Int64) + q3)))])) _
    refine XS.lcmp X200.here hx rfl (hb hby at_94) rfl ?_
    show Steps p.tables e below (T200.setTop (mkF m 95 #[.val (.long q1), .second, .val (.long q2), .second, .val (.long q3), .second, .val (.long q4), .second, .val (.ref b172), .val (.ref b176), .val (.long (own_max (own_max (0 : Int64) q1) (q1 + q2))), .second, .val (.long (own_max (own_max (own_max (0 : Int64) q1) (q1 + q2)) ((q1 + q2) + q4))), .second] [(.int (lcmpW (own_ap q2 ((own_ar q1 (0 : Int64)) - q3) (own_ap q1 (0 : Int64) (0 : Int64) (0 : Int64)) ((0 : Int64) + q3)) (own_max (own_max (0 : Int64) q1) (q1 + q2))))])) _
    refine XS.ifNo X200.here hx rfl (hb hby at_95) rfl ((if0 _ _).trans (teq ((lw_eq _ _).mpr (own_pp _ _ _ : (own_ap q2 ((own_ar q1 (0 : Int64)) - q3) (own_ap q1 (0 : Int64) (0 : Int64) (0 : Int64)) ((0 : Int64) + q3)) = (own_max (own_max (0 : Int64) q1) (q1 + q2))))).2) ?_
    show Steps p.tables e below (T200.setTop (mkF m 98 #[.val (.long q1), .second, .val (.long q2), .second, .val (.long q3), .second, .val (.long q4), .second, .val (.ref b172), .val (.ref b176), .val (.long (own_max (own_max (0 : Int64) q1) (q1 + q2))), .second, .val (.long (own_max (own_max (own_max (0 : Int64) q1) (q1 + q2)) ((q1 + q2) + q4))), .second] [])) _
    refine XS.aload X200.here hx rfl (hb hby at_98) rfl rfl ?_
    show Steps p.tables e below (T200.setTop (mkF m 100 #[.val (.long q1), .second, .val (.long q2), .second, .val (.long q3), .second, .val (.long q4), .second, .val (.ref b172), .val (.ref b176), .val (.long (own_max (own_max (0 : Int64) q1) (q1 + q2))), .second, .val (.long (own_max (own_max (own_max (0 : Int64) q1) (q1 + q2)) ((q1 + q2) + q4))), .second] [(.ref b172)])) _
    refine st201.trans ?_
    show Steps p.tables e below (T201.setTop (mkF m 103 #[.val (.long q1), .second, .val (.long q2), .second, .val (.long q3), .second, .val (.long q4), .second, .val (.ref b172), .val (.ref b176), .val (.long (own_max (own_max (0 : Int64) q1) (q1 + q2))), .second, .val (.long (own_max (own_max (own_max (0 : Int64) q1) (q1 + q2)) ((q1 + q2) + q4))), .second] [(.long (own_ar q4 (own_ar q2 ((own_ar q1 (0 : Int64)) - q3))))])) _
    refine XS.lloadN X201.here hx rfl (hb hby at_103) rfl ?_
    show Steps p.tables e below (T201.setTop (mkF m 104 #[.val (.long q1), .second, .val (.long q2), .second, .val (.long q3), .second, .val (.long q4), .second, .val (.ref b172), .val (.ref b176), .val (.long (own_max (own_max (0 : Int64) q1) (q1 + q2))), .second, .val (.long (own_max (own_max (own_max (0 : Int64) q1) (q1 + q2)) ((q1 + q2) + q4))), .second] [(.long q1), (.long (own_ar q4 (own_ar q2 ((own_ar q1 (0 : Int64)) - q3))))])) _
    refine XS.lload X201.here hx rfl (hb hby at_104) rfl ?_
    show Steps p.tables e below (T201.setTop (mkF m 106 #[.val (.long q1), .second, .val (.long q2), .second, .val (.long q3), .second, .val (.long q4), .second, .val (.ref b172), .val (.ref b176), .val (.long (own_max (own_max (0 : Int64) q1) (q1 + q2))), .second, .val (.long (own_max (own_max (own_max (0 : Int64) q1) (q1 + q2)) ((q1 + q2) + q4))), .second] [(.long q3), (.long q1), (.long (own_ar q4 (own_ar q2 ((own_ar q1 (0 : Int64)) - q3))))])) _
    refine XS.lsub X201.here hx rfl (hb hby at_106) rfl ?_
    show Steps p.tables e below (T201.setTop (mkF m 107 #[.val (.long q1), .second, .val (.long q2), .second, .val (.long q3), .second, .val (.long q4), .second, .val (.ref b172), .val (.ref b176), .val (.long (own_max (own_max (0 : Int64) q1) (q1 + q2))), .second, .val (.long (own_max (own_max (own_max (0 : Int64) q1) (q1 + q2)) ((q1 + q2) + q4))), .second] [(.long (q1 - q3)), (.long (own_ar q4 (own_ar q2 ((own_ar q1 (0 : Int64)) - q3))))])) _
    refine XS.lloadN X201.here hx rfl (hb hby at_107) rfl ?_
    show Steps p.tables e below (T201.setTop (mkF m 108 #[.val (.long q1), .second, .val (.long q2), .second, .val (.long q3), .second, .val (.long q4), .second, .val (.ref b172), .val (.ref b176), .val (.long (own_max (own_max (0 : Int64) q1) (q1 + q2))), .second, .val (.long (own_max (own_max (own_max (0 : Int64) q1) (q1 + q2)) ((q1 + q2) + q4))), .second] [(.long q2), (.long (q1 - q3)), (.long (own_ar q4 (own_ar q2 ((own_ar q1 (0 : Int64)) - q3))))])) _
    refine XS.ladd X201.here hx rfl (hb hby at_108) rfl ?_
    show Steps p.tables e below (T201.setTop (mkF m 109 #[.val (.long q1), .second, .val (.long q2), .second, .val (.long q3), .second, .val (.long q4), .second, .val (.ref b172), .val (.ref b176), .val (.long (own_max (own_max (0 : Int64) q1) (q1 + q2))), .second, .val (.long (own_max (own_max (own_max (0 : Int64) q1) (q1 + q2)) ((q1 + q2) + q4))), .second] [(.long ((q1 - q3) + q2)), (.long (own_ar q4 (own_ar q2 ((own_ar q1 (0 : Int64)) - q3))))])) _
    refine XS.lload X201.here hx rfl (hb hby at_109) rfl ?_
    show Steps p.tables e below (T201.setTop (mkF m 111 #[.val (.long q1), .second, .val (.long q2), .second, .val (.long q3), .second, .val (.long q4), .second, .val (.ref b172), .val (.ref b176), .val (.long (own_max (own_max (0 : Int64) q1) (q1 + q2))), .second, .val (.long (own_max (own_max (own_max (0 : Int64) q1) (q1 + q2)) ((q1 + q2) + q4))), .second] [(.long q4), (.long ((q1 - q3) + q2)), (.long (own_ar q4 (own_ar q2 ((own_ar q1 (0 : Int64)) - q3))))])) _
    refine XS.ladd X201.here hx rfl (hb hby at_111) rfl ?_
    show Steps p.tables e below (T201.setTop (mkF m 112 #[.val (.long q1), .second, .val (.long q2), .second, .val (.long q3), .second, .val (.long q4), .second, .val (.ref b172), .val (.ref b176), .val (.long (own_max (own_max (0 : Int64) q1) (q1 + q2))), .second, .val (.long (own_max (own_max (own_max (0 : Int64) q1) (q1 + q2)) ((q1 + q2) + q4))), .second] [(.long (((q1 - q3) + q2) + q4)), (.long (own_ar q4 (own_ar q2 ((own_ar q1 (0 : Int64)) - q3))))])) _
    refine XS.lcmp X201.here hx rfl (hb hby at_112) rfl ?_
    show Steps p.tables e below (T201.setTop (mkF m 113 #[.val (.long q1), .second, .val (.long q2), .second, .val (.long q3), .second, .val (.long q4), .second, .val (.ref b172), .val (.ref b176), .val (.long (own_max (own_max (0 : Int64) q1) (q1 + q2))), .second, .val (.long (own_max (own_max (own_max (0 : Int64) q1) (q1 + q2)) ((q1 + q2) + q4))), .second] [(.int (lcmpW (own_ar q4 (own_ar q2 ((own_ar q1 (0 : Int64)) - q3))) (((q1 - q3) + q2) + q4)))])) _
    refine XS.ifNo X201.here hx rfl (hb hby at_113) rfl ((if0 _ _).trans (teq ((lw_eq _ _).mpr (by rw [own_ar_eq, own_ar_eq, own_ar_eq, Int64.zero_add] : (own_ar q4 (own_ar q2 ((own_ar q1 (0 : Int64)) - q3))) = (((q1 - q3) + q2) + q4)))).2) ?_
    show Steps p.tables e below (T201.setTop (mkF m 116 #[.val (.long q1), .second, .val (.long q2), .second, .val (.long q3), .second, .val (.long q4), .second, .val (.ref b172), .val (.ref b176), .val (.long (own_max (own_max (0 : Int64) q1) (q1 + q2))), .second, .val (.long (own_max (own_max (own_max (0 : Int64) q1) (q1 + q2)) ((q1 + q2) + q4))), .second] [])) _
    refine XS.aload X201.here hx rfl (hb hby at_116) rfl rfl ?_
    show Steps p.tables e below (T201.setTop (mkF m 118 #[.val (.long q1), .second, .val (.long q2), .second, .val (.long q3), .second, .val (.long q4), .second, .val (.ref b172), .val (.ref b176), .val (.long (own_max (own_max (0 : Int64) q1) (q1 + q2))), .second, .val (.long (own_max (own_max (own_max (0 : Int64) q1) (q1 + q2)) ((q1 + q2) + q4))), .second] [(.ref b172)])) _
    refine st202.trans ?_
    show Steps p.tables e below (T202.setTop (mkF m 121 #[.val (.long q1), .second, .val (.long q2), .second, .val (.long q3), .second, .val (.long q4), .second, .val (.ref b172), .val (.ref b176), .val (.long (own_max (own_max (0 : Int64) q1) (q1 + q2))), .second, .val (.long (own_max (own_max (own_max (0 : Int64) q1) (q1 + q2)) ((q1 + q2) + q4))), .second] [(.long (own_ap q4 (own_ar q2 ((own_ar q1 (0 : Int64)) - q3)) (own_ap q2 ((own_ar q1 (0 : Int64)) - q3) (own_ap q1 (0 : Int64) (0 : Int64) (0 : Int64)) ((0 : Int64) + q3)) ((0 : Int64) + q3)))])) _
    refine XS.lload X202.here hx rfl (hb hby at_121) rfl ?_
    show Steps p.tables e below (T202.setTop (mkF m 123 #[.val (.long q1), .second, .val (.long q2), .second, .val (.long q3), .second, .val (.long q4), .second, .val (.ref b172), .val (.ref b176), .val (.long (own_max (own_max (0 : Int64) q1) (q1 + q2))), .second, .val (.long (own_max (own_max (own_max (0 : Int64) q1) (q1 + q2)) ((q1 + q2) + q4))), .second] [(.long (own_max (own_max (own_max (0 : Int64) q1) (q1 + q2)) ((q1 + q2) + q4))), (.long (own_ap q4 (own_ar q2 ((own_ar q1 (0 : Int64)) - q3)) (own_ap q2 ((own_ar q1 (0 : Int64)) - q3) (own_ap q1 (0 : Int64) (0 : Int64) (0 : Int64)) ((0 : Int64) + q3)) ((0 : Int64) + q3)))])) _
    refine XS.lcmp X202.here hx rfl (hb hby at_123) rfl ?_
    show Steps p.tables e below (T202.setTop (mkF m 124 #[.val (.long q1), .second, .val (.long q2), .second, .val (.long q3), .second, .val (.long q4), .second, .val (.ref b172), .val (.ref b176), .val (.long (own_max (own_max (0 : Int64) q1) (q1 + q2))), .second, .val (.long (own_max (own_max (own_max (0 : Int64) q1) (q1 + q2)) ((q1 + q2) + q4))), .second] [(.int (lcmpW (own_ap q4 (own_ar q2 ((own_ar q1 (0 : Int64)) - q3)) (own_ap q2 ((own_ar q1 (0 : Int64)) - q3) (own_ap q1 (0 : Int64) (0 : Int64) (0 : Int64)) ((0 : Int64) + q3)) ((0 : Int64) + q3)) (own_max (own_max (own_max (0 : Int64) q1) (q1 + q2)) ((q1 + q2) + q4))))])) _
    refine XS.ifNo X202.here hx rfl (hb hby at_124) rfl ((if0 _ _).trans (teq ((lw_eq _ _).mpr (own_wp _ _ _ _ : (own_ap q4 (own_ar q2 ((own_ar q1 (0 : Int64)) - q3)) (own_ap q2 ((own_ar q1 (0 : Int64)) - q3) (own_ap q1 (0 : Int64) (0 : Int64) (0 : Int64)) ((0 : Int64) + q3)) ((0 : Int64) + q3)) = (own_max (own_max (own_max (0 : Int64) q1) (q1 + q2)) ((q1 + q2) + q4))))).2) ?_
    show Steps p.tables e below (T202.setTop (mkF m 127 #[.val (.long q1), .second, .val (.long q2), .second, .val (.long q3), .second, .val (.long q4), .second, .val (.ref b172), .val (.ref b176), .val (.long (own_max (own_max (0 : Int64) q1) (q1 + q2))), .second, .val (.long (own_max (own_max (own_max (0 : Int64) q1) (q1 + q2)) ((q1 + q2) + q4))), .second] [])) _
    refine XS.iconst X202.here hx rfl (hb hby at_127) ?_
    show Steps p.tables e below (T202.setTop (mkF m 128 #[.val (.long q1), .second, .val (.long q2), .second, .val (.long q3), .second, .val (.long q4), .second, .val (.ref b172), .val (.ref b176), .val (.long (own_max (own_max (0 : Int64) q1) (q1 + q2))), .second, .val (.long (own_max (own_max (own_max (0 : Int64) q1) (q1 + q2)) ((q1 + q2) + q4))), .second] [(.int (1 : Int32))])) _
    refine XS.goto X202.here hx rfl (pc0 := 128) (pc' := 132) rfl (hb hby at_128) (by decide) (by decide) ?_
    show Steps p.tables e below (T202.setTop (mkF m 132 #[.val (.long q1), .second, .val (.long q2), .second, .val (.long q3), .second, .val (.long q4), .second, .val (.ref b172), .val (.ref b176), .val (.long (own_max (own_max (0 : Int64) q1) (q1 + q2))), .second, .val (.long (own_max (own_max (own_max (0 : Int64) q1) (q1 + q2)) ((q1 + q2) + q4))), .second] [(.int (1 : Int32))])) _
    exact retN X202 hx (t := .boolean) Bd.returns (by simp) (hb hby at_132) hr
  · show Q0 Z q1 q2 q3 q4 h0 n0 _ T202.heap _
    rw [e202]
    exact ⟨rfl, N202⟩
set_option maxRecDepth 65536 in
set_option maxHeartbeats 40000000 in
theorem comes_1 {Post : Tables → Env → Array Value → State → Outcome → State → Prop} (hpost : ∀ tb e args s v u, (limb_1_1.after args s (.returned v) u = true ∧ limb_1_2.after args s (.returned v) u = true ∧ True) → FrameEnd s (.returned v) u (Jvm.fieldLocs frame_1_writes args s ++ Jvm.arrayLocs frame_1_arrays args s ++ Jvm.staticLocs frame_1_statics s) 16 128 → Post tb e args s (.returned v) u) :
    ArmFor flags0 classFile x code maxLocals ret World_1 tables_1 room_1 Calls_1 rest_1 Pre_1 Post := by
  intro l hfl _ _ p e ha hc hk s m args below hf hA hF happ hP
  obtain ⟨hcalls, hrest, hpre⟩ := hP
  obtain ⟨-, -, -, hnamed, -, -, -, hat⟩ := (Spec.applies_iff hf).mp happ
  obtain ⟨hg, hn⟩ := and_e (Cond.before_iff.mp (show (Jvm.Cond.and given_1 narrow_1).before args s = true from hpre))
  obtain ⟨g203, g204⟩ := and_e hg
  obtain ⟨g205, g206⟩ := and_e g204
  obtain ⟨g207, g208⟩ := and_e g206
  obtain ⟨g209, g210⟩ := and_e g208
  obtain ⟨w0, w1, w2, w3, rfl⟩ : ∃ w0 w1 w2 w3 : Value, args = #[w0, w1, w2, w3] := by
    have hs : args.size = 4 := by simpa [Cond.value, given_1] using g203
    obtain ⟨L⟩ := args
    match L, hs with
    | [w0, w1, w2, w3], _ => exact ⟨w0, w1, w2, w3, rfl⟩
  have hw := fun d (hd : d ∈ tables_1) => atoms_spec (ws := Jvm.Cond.code x code maxLocals ret :: tables_1) hat d (List.mem_cons_of_mem _ hd)
  obtain ⟨i0, ei0⟩ := isL_v g205
  obtain rfl : w0 = (.long i0) := Option.some.inj ei0
  obtain ⟨i1, ei1⟩ := isL_v g207
  obtain rfl : w1 = (.long i1) := Option.some.inj ei1
  obtain ⟨i2, ei2⟩ := isL_v g209
  obtain rfl : w2 = (.long i2) := Option.some.inj ei2
  obtain ⟨i3, ei3⟩ := isL_v g210
  obtain rfl : w3 = (.long i3) := Option.some.inj ei3
  obtain ⟨n, o, h1, h2, h3, _, L, rfl, ⟨rfl, N⟩, hq⟩ := rm0 l s _ hw tables_1 i0 i1 i2 i3 s.heap s.heap.size (Nat.le_refl _) p e ha hc hk s m _ below hf ((Spec.applies_iff_loose hf).mp happ).1 ⟨rfl, State.Warmed39.refl s, rfl⟩ trivial
  refine ⟨n, _, h1, h2, h3, hpost _ _ _ _ _ _ ⟨Cond.after_iff.mpr rfl, Cond.after_iff.mpr (eq_i res_at (Term.int_eval (1)) rfl), trivial⟩ ⟨hq.1, hq.2.1, (hq.2.2.sift fun y hy => Or.inr (N y hy)).mono (by decide) (by decide)⟩⟩
theorem main_1_1 : Claimed_1_1 := comes_1 fun _ _ _ _ _ _ h hF => ⟨h.1, hF⟩
theorem main_1_2 : Claimed_1_2 := comes_1 fun _ _ _ _ _ _ h hF => ⟨h.2.1, hF⟩
end Jvm.Pilot.@@N@@
namespace Jvm.Pilot.@@N@@
open Jvm Jvm.ClassFile Sem Op Lib Jvm.Free Jvm.Stand Jvm.Pilot.@@N@@.Jvm.D
/-! MADE BY PROGRAM (witnessworld.py) out of the Statement's table words and the real class files: 10 classes; the members and pool entries that the words name. The judged class is class 1, her method 1. -/
namespace start1
open Jvm.ClassFile
def u (s : String) : CpInfo := .utf8 (stringToUtf16 s)
/-- a pool by its gaps: so many unusable entries, then the entry; so many at the end -/
def gap : Nat → List CpInfo → List CpInfo
  | 0, r => r
  | n + 1, r => .unusable :: gap n r
def poolList (es : List (Nat × CpInfo)) (last : Nat) : List CpInfo := es.foldr (fun e r => gap e.1 (e.2 :: r)) (gap last [])
def pool (es : List (Nat × CpInfo)) (last : Nat) : Array CpInfo := ⟨poolList es last⟩
def fileOf (pool : Array CpInfo) (this : Nat) (attrs : Array Attribute := #[]) (ms : Array MethodInfo := #[]) (fl : Nat := 33) (sup : Nat := 0) (ifs : Array Nat := #[]) (fds : Array FieldInfo := #[]) : ClassFile where
  minorVersion := 0
  majorVersion := 65
  constantPool := pool
  accessFlags := fl
  thisClass := this
  superClass := sup
  interfaces := ifs
  fields := fds
  methods := ms
  attributes := attrs
def plain (name : String) (sup : Option ClassId) : Class where
  name := name
  kind := .ordinary
  loader := none
  accessFlags := 33
  super := sup
  interfaces := #[]
  cf := none
  fields := #[]
  methods := #[]
  instanceTypes := #[]
  staticTypes := #[]
  resolved := #[]
  callSites := []
  init := .initialized
  statics := none
  mirror := none

def pool0 : Array CpInfo := pool [(5, u "<init>"), (0, u "()V"), (1, .class_ 10), (1, u "java/lang/Object")] 113

def k0c0 : Code := { maxStack := 0, maxLocals := 1, code := object_method_1_code, exceptionTable := #[], attributes := #[] }
def k0m0 : Method := { name := "<init>", desc := "()V", sig := { parameters := [], returnType := none }, accessFlags := 1, code := some k0c0 }
/-- java/lang/Object -/
def k0 : Class := { plain "java/lang/Object" none with
  accessFlags := 33
  interfaces := #[]
  cf := some (fileOf pool0 8 #[] #[{ accessFlags := 1, nameIndex := 5, descriptorIndex := 6, attributes := #[] }] 33 0 #[] #[])
  fields := #[]
  methods := #[k0m0]
  instanceTypes := #[]
  staticTypes := #[]
  resolved := Array.replicate 124 none
  statics := none }

def pool1 : Array CpInfo := pool [(2, .class_ 4), (0, .nameAndType 5 6), (0, u "java/lang/Object"), (0, u "<init>"), (0, u "()V"), (0, .class_ 8), (0, u "org/millrace/engine/Footprint"), (0, .methodref 7 3), (0, .methodref 7 11), (0, .nameAndType 5 12), (0, u "(Lorg/millrace/engine/Footprint;)V"), (0, .methodref 7 14), (0, .nameAndType 15 16), (0, u "add"), (0, u "(J)V"), (0, .methodref 7 18), (0, .nameAndType 19 16), (0, u "setAside"), (0, .methodref 21 22), (0, .class_ 23), (0, .nameAndType 24 25), (0, u "java/lang/Math"), (0, u "max"), (0, u "(JJ)J"), (0, .methodref 7 27), (0, .nameAndType 28 29), (0, u "rows"), (0, u "()J"), (0, .methodref 7 31), (0, .nameAndType 32 29), (0, u "peak"), (0, .class_ 34), (0, u "org/millrace/engine/FootprintAddPinLaw"), (2, u "law"), (0, u "(JJJJ)Z")] 3

def k1m0 : Method := { name := "<init>", desc := "()V", sig := { parameters := [], returnType := none }, accessFlags := 1, code := none }
def k1c1 : Code := { maxStack := 6, maxLocals := 14, code := code, exceptionTable := #[], attributes := #[] }
def k1m1 : Method := { name := "law", desc := "(JJJJ)Z", sig := { parameters := [.long, .long, .long, .long], returnType := some .boolean }, accessFlags := 9, code := some k1c1 }
/-- org/millrace/engine/FootprintAddPinLaw -/
def k1 : Class := { plain "org/millrace/engine/FootprintAddPinLaw" (some 0) with
  accessFlags := 49
  interfaces := #[]
  cf := some (fileOf pool1 33 #[] #[{ accessFlags := 1, nameIndex := 5, descriptorIndex := 6, attributes := #[] }, { accessFlags := 9, nameIndex := 37, descriptorIndex := 38, attributes := #[] }] 49 2 #[] #[])
  fields := #[]
  methods := #[k1m0, k1m1]
  instanceTypes := #[]
  staticTypes := #[]
  resolved := Array.replicate 42 none
  statics := none }

def pool2 : Array CpInfo := pool [(1, .methodref 2 3), (0, .class_ 4), (0, .nameAndType 5 6), (0, u "org/millrace/engine/Footprint"), (0, u "<init>"), (0, u "(Lorg/millrace/engine/Footprint;)V"), (0, .methodref 8 9), (0, .class_ 10), (0, .nameAndType 5 11), (0, u "java/lang/Object"), (0, u "()V"), (0, .fieldref 2 13), (0, .nameAndType 14 15), (0, u "whole"), (0, u "Lorg/millrace/engine/Footprint;"), (0, .fieldref 2 17), (0, .nameAndType 18 19), (0, u "rows"), (0, u "J"), (0, .fieldref 2 21), (0, .nameAndType 22 19), (0, u "peak"), (0, .fieldref 2 24), (0, .nameAndType 25 19), (0, u "aside"), (24, u "add"), (0, u "(J)V"), (2, u "()J"), (1, u "setAside")] 6

def k2c0 : Code := { maxStack := 2, maxLocals := 1, code := prog_68_method_1_code, exceptionTable := #[], attributes := #[] }
def k2m0 : Method := { name := "<init>", desc := "()V", sig := { parameters := [], returnType := none }, accessFlags := 1, code := some k2c0 }
def k2c1 : Code := { maxStack := 2, maxLocals := 2, code := prog_68_method_2_code, exceptionTable := #[], attributes := #[] }
def k2m1 : Method := { name := "<init>", desc := "(Lorg/millrace/engine/Footprint;)V", sig := { parameters := [(.object "org/millrace/engine/Footprint")], returnType := none }, accessFlags := 0, code := some k2c1 }
def k2c2 : Code := { maxStack := 2, maxLocals := 1, code := prog_68_method_3_code, exceptionTable := #[], attributes := #[] }
def k2m2 : Method := { name := "rows", desc := "()J", sig := { parameters := [], returnType := some .long }, accessFlags := 1, code := some k2c2 }
def k2c3 : Code := { maxStack := 2, maxLocals := 1, code := prog_68_method_4_code, exceptionTable := #[], attributes := #[] }
def k2m3 : Method := { name := "peak", desc := "()J", sig := { parameters := [], returnType := some .long }, accessFlags := 1, code := some k2c3 }
def k2c4 : Code := { maxStack := 5, maxLocals := 6, code := prog_68_method_5_code, exceptionTable := #[], attributes := #[] }
def k2m4 : Method := { name := "add", desc := "(J)V", sig := { parameters := [.long], returnType := none }, accessFlags := 0, code := some k2c4 }
def k2c5 : Code := { maxStack := 5, maxLocals := 4, code := prog_68_method_6_code, exceptionTable := #[], attributes := #[] }
def k2m5 : Method := { name := "setAside", desc := "(J)V", sig := { parameters := [.long], returnType := none }, accessFlags := 0, code := some k2c5 }
/-- org/millrace/engine/Footprint -/
def k2 : Class := { plain "org/millrace/engine/Footprint" (some 0) with
  accessFlags := 49
  interfaces := #[]
  cf := some (fileOf pool2 2 #[] #[{ accessFlags := 1, nameIndex := 5, descriptorIndex := 11, attributes := #[] }, { accessFlags := 0, nameIndex := 5, descriptorIndex := 6, attributes := #[] }, { accessFlags := 1, nameIndex := 18, descriptorIndex := 54, attributes := #[] }, { accessFlags := 1, nameIndex := 22, descriptorIndex := 54, attributes := #[] }, { accessFlags := 0, nameIndex := 50, descriptorIndex := 51, attributes := #[] }, { accessFlags := 0, nameIndex := 56, descriptorIndex := 51, attributes := #[] }] 49 8 #[] #[{ accessFlags := 18, nameIndex := 14, descriptorIndex := 15, attributes := #[] }, { accessFlags := 2, nameIndex := 18, descriptorIndex := 19, attributes := #[] }, { accessFlags := 2, nameIndex := 25, descriptorIndex := 19, attributes := #[] }, { accessFlags := 2, nameIndex := 22, descriptorIndex := 19, attributes := #[] }])
  fields := #[{ name := "whole", type := (.object "org/millrace/engine/Footprint"), accessFlags := 18, slot := 0, constantValue := 0 }, { name := "rows", type := .long, accessFlags := 2, slot := 1, constantValue := 0 }, { name := "aside", type := .long, accessFlags := 2, slot := 2, constantValue := 0 }, { name := "peak", type := .long, accessFlags := 2, slot := 3, constantValue := 0 }]
  methods := #[k2m0, k2m1, k2m2, k2m3, k2m4, k2m5]
  instanceTypes := #[(.object "org/millrace/engine/Footprint"), .long, .long, .long]
  staticTypes := #[]
  resolved := Array.replicate 63 none
  statics := none }

def pool3 : Array CpInfo := pool [(1, .class_ 2), (0, u "java/lang/Math"), (1, .class_ 6), (1, u "java/lang/Object"), (0, u "<init>"), (0, u "()V"), (89, .class_ 100), (1, u "java/lang/Math$RandomNumberGeneratorHolder"), (20, u "(JJ)J"), (50, u "negativeZeroFloatBits"), (0, u "J"), (2, u "negativeZeroDoubleBits"), (21, u "max"), (46, u "$assertionsDisabled"), (0, u "Z"), (91, u "twoToTheDoubleScaleDown"), (0, u "D"), (4, u "twoToTheDoubleScaleUp"), (9, u "E"), (3, u "PI"), (2, u "TAU"), (2, u "DEGREES_TO_RADIANS"), (0, u "RADIANS_TO_DEGREES")] 94

def k3m0 : Method := { name := "<init>", desc := "()V", sig := { parameters := [], returnType := none }, accessFlags := 2, code := none }
def k3c1 : Code := { maxStack := 4, maxLocals := 4, code := jdk_29_method_66_code, exceptionTable := #[], attributes := #[] }
def k3m1 : Method := { name := "max", desc := "(JJ)J", sig := { parameters := [.long, .long], returnType := some .long }, accessFlags := 9, code := some k3c1 }
/-- java/lang/Math -/
def k3 : Class := { plain "java/lang/Math" (some 0) with
  accessFlags := 49
  interfaces := #[]
  cf := some (fileOf pool3 1 #[.nestMembers #[98]] #[{ accessFlags := 2, nameIndex := 7, descriptorIndex := 8, attributes := #[] }, { accessFlags := 9, nameIndex := 198, descriptorIndex := 121, attributes := #[] }] 49 4 #[] #[{ accessFlags := 25, nameIndex := 354, descriptorIndex := 339, attributes := #[] }, { accessFlags := 25, nameIndex := 358, descriptorIndex := 339, attributes := #[] }, { accessFlags := 25, nameIndex := 361, descriptorIndex := 339, attributes := #[] }, { accessFlags := 26, nameIndex := 364, descriptorIndex := 339, attributes := #[] }, { accessFlags := 26, nameIndex := 365, descriptorIndex := 339, attributes := #[] }, { accessFlags := 26, nameIndex := 172, descriptorIndex := 173, attributes := #[] }, { accessFlags := 26, nameIndex := 176, descriptorIndex := 173, attributes := #[] }, { accessFlags := 8, nameIndex := 344, descriptorIndex := 339, attributes := #[] }, { accessFlags := 8, nameIndex := 338, descriptorIndex := 339, attributes := #[] }, { accessFlags := 4120, nameIndex := 245, descriptorIndex := 246, attributes := #[] }])
  fields := #[{ name := "E", type := .double, accessFlags := 25, slot := 0, constantValue := 0 }, { name := "PI", type := .double, accessFlags := 25, slot := 1, constantValue := 0 }, { name := "TAU", type := .double, accessFlags := 25, slot := 2, constantValue := 0 }, { name := "DEGREES_TO_RADIANS", type := .double, accessFlags := 26, slot := 3, constantValue := 0 }, { name := "RADIANS_TO_DEGREES", type := .double, accessFlags := 26, slot := 4, constantValue := 0 }, { name := "negativeZeroFloatBits", type := .long, accessFlags := 26, slot := 5, constantValue := 0 }, { name := "negativeZeroDoubleBits", type := .long, accessFlags := 26, slot := 6, constantValue := 0 }, { name := "twoToTheDoubleScaleUp", type := .double, accessFlags := 8, slot := 7, constantValue := 0 }, { name := "twoToTheDoubleScaleDown", type := .double, accessFlags := 8, slot := 8, constantValue := 0 }, { name := "$assertionsDisabled", type := .boolean, accessFlags := 4120, slot := 9, constantValue := 0 }]
  methods := #[k3m0, k3m1]
  instanceTypes := #[]
  staticTypes := #[.double, .double, .double, .double, .double, .long, .long, .double, .double, .boolean]
  resolved := Array.replicate 460 none
  statics := none }

def pool4 : Array CpInfo := pool [(1, u "java/lang/Cloneable"), (0, .class_ 1), (0, u "java/lang/Object"), (0, .class_ 3)] 3

/-- java/lang/Cloneable -/
def k4 : Class := { plain "java/lang/Cloneable" (some 0) with
  accessFlags := 1537
  interfaces := #[]
  cf := some (fileOf pool4 2 #[] #[] 1537 4 #[] #[])
  fields := #[]
  methods := #[]
  instanceTypes := #[]
  staticTypes := #[]
  resolved := Array.replicate 8 none
  statics := none }

def pool5 : Array CpInfo := pool [(1, u "java/io/Serializable"), (0, .class_ 1), (0, u "java/lang/Object"), (0, .class_ 3)] 3

/-- java/io/Serializable -/
def k5 : Class := { plain "java/io/Serializable" (some 0) with
  accessFlags := 1537
  interfaces := #[]
  cf := some (fileOf pool5 2 #[] #[] 1537 4 #[] #[])
  fields := #[]
  methods := #[]
  instanceTypes := #[]
  staticTypes := #[]
  resolved := Array.replicate 8 none
  statics := none }

/-- the primitive byte -/
def k6 : Class := { plain "byte" none with kind := .primitive 'B', accessFlags := 0x411 }
/-- [B -/
def k7 : Class := { plain "[B" (some 0) with kind := .array 6 .byte, interfaces := #[4, 5], accessFlags := 1041 }

/-- the primitive int -/
def k8 : Class := { plain "int" none with kind := .primitive 'I', accessFlags := 0x411 }
/-- [I -/
def k9 : Class := { plain "[I" (some 0) with kind := .array 8 .int, interfaces := #[4, 5], accessFlags := 1041 }

def heap : Heap := #[]
def classes : Array Class := #[k0, k1, k2, k3, k4, k5, k6, k7, k8, k9]
def interned : List (Array UInt16 × Addr) := []
def slotsUsed : Nat := 0
def theMethod : MethodId := ⟨1, 1⟩
def args0 : Array Value := #[.long 5, .long 5, .long 5, .long 5]
def aboutOver (below : List Frame) : State where
  vm := { classes := classes, interned := interned.toArray }
  heap := heap
  slotsUsed := slotsUsed
  threads := #[{ frames := .invoking theMethod args0 :: below }]
def below0 : List Frame := [.native { method := ⟨0, 0⟩, args := #[] }]
def about1 : State := aboutOver below0
def p0 : Program := .bare "" "" ""
def e0 : Env := launch0.env 0 0 0
theorem w_frames : about1.frames = Frame.invoking theMethod args0 :: below0 := rfl
set_option maxRecDepth 65536 in
theorem w_args : argsFit about1.vm theMethod args0 = true := by decide +kernel
set_option maxRecDepth 65536 in
theorem w_heap : heapFits about1 = true := by decide +kernel
set_option maxRecDepth 65536 in
theorem w_runnable : about1.curStatus? = some .runnable := by decide +kernel
set_option maxRecDepth 65536 in
theorem w_alone : about1.alone = true := by decide +kernel
set_option maxRecDepth 65536 in
theorem w_named : about1.methodNamed? x = some theMethod := by decide +kernel
set_option maxRecDepth 65536 in
theorem w_hears : about1.hears theMethod below0 = true := by decide +kernel
set_option maxRecDepth 65536 in
theorem w_ripe : about1.ripe theMethod args0 below0 = true := by decide +kernel
theorem w_running : about1.status = .running := rfl
set_option maxRecDepth 65536 in
theorem w_room : about1.hasRoom e0.platform room_1 = true :=
  launch0.hasRoom_least _ room_1 (by decide +kernel) (by decide +kernel) (by decide +kernel) (by decide +kernel) (by decide +kernel) (by decide +kernel)
theorem allAtoms_all (ts : List Jvm.Cond) (a : Array Jvm.Value) (st : Jvm.State) : (allAtoms ts).before a st = ts.all (fun c => c.before a st) := by
  induction ts with
  | nil => rfl
  | cons c t ih =>
    show (Jvm.Cond.and c (allAtoms t)).before a st = _
    rw [Jvm.Cond.before_and, ih, List.all_cons]
def words1 : List Jvm.Cond := Jvm.Cond.code x code maxLocals ret :: tables_1
/-- a 'code' word, met by the world's own term for the bytes: nothing is compared byte by byte -/
theorem code_word {y : MethodName} {bytes : ByteArray} {mx : Nat} {rt : Option FieldType} {a : Array Value} {s : State} {m : MethodId} {meth : Method} {c : Code} (h1 : s.methodNamed? y = some m) (h2 : s.vm.method? m = some meth) (h3 : meth.code = some c) (h4 : c.code = bytes)
    (h5 : (c.maxLocals == mx && c.exceptionTable.isEmpty && decide (c.maxStack ≤ mostOperands) && decide (meth.sig.returnType = rt) && !meth.locks && decide (parseMethodDescriptor y.desc = some meth.sig)) = true) : (Jvm.Cond.code y bytes mx rt).before a s = true := by
  simp only [Bool.and_eq_true, beq_iff_eq, Bool.not_eq_true', decide_eq_true_eq] at h5
  obtain ⟨⟨⟨⟨⟨g1, g2⟩, g3⟩, g4⟩, g5⟩, g6⟩ := h5
  simp [Cond.before, Cond.holds, Cond.value, h1, h2, h3, h4, g1, g2, g3, g4, g5, g6]
def isCode : Jvm.Cond → Bool
  | .code _ _ _ _ => true
  | _ => false
theorem all_split {L : List Jvm.Cond} {P : Jvm.Cond → Bool} (h1 : L.all (fun c => isCode c || P c) = true) (h2 : ∀ c ∈ L.filter isCode, P c = true) : L.all P = true := by
  refine List.all_eq_true.mpr fun c hc => ?_
  have h := List.all_eq_true.mp h1 c hc
  rcases Bool.eq_false_or_eq_true (isCode c) with hi | hi
  · exact h2 c (List.mem_filter.mpr ⟨hc, hi⟩)
  · simpa [hi] using h
set_option maxRecDepth 65536 in
theorem w_c0 : (Jvm.Cond.code x code maxLocals ret).before args0 about1 = true := code_word (m := ⟨1, 1⟩) (meth := k1m1) (c := k1c1) (by decide +kernel) rfl rfl rfl (by decide +kernel)
set_option maxRecDepth 65536 in
theorem w_c1 : (Jvm.Cond.code ({ cls := "org/millrace/engine/Footprint", name := "<init>", desc := "()V" } : Jvm.MethodName) prog_68_method_1_code (1 : Nat) (Option.none : Option Jvm.ClassFile.FieldType)).before args0 about1 = true := code_word (m := ⟨2, 0⟩) (meth := k2m0) (c := k2c0) (by decide +kernel) rfl rfl rfl (by decide +kernel)
set_option maxRecDepth 65536 in
theorem w_c2 : (Jvm.Cond.code ({ cls := "org/millrace/engine/Footprint", name := "<init>", desc := "(Lorg/millrace/engine/Footprint;)V" } : Jvm.MethodName) prog_68_method_2_code (2 : Nat) (Option.none : Option Jvm.ClassFile.FieldType)).before args0 about1 = true := code_word (m := ⟨2, 1⟩) (meth := k2m1) (c := k2c1) (by decide +kernel) rfl rfl rfl (by decide +kernel)
set_option maxRecDepth 65536 in
theorem w_c3 : (Jvm.Cond.code ({ cls := "java/lang/Object", name := "<init>", desc := "()V" } : Jvm.MethodName) object_method_1_code (1 : Nat) (Option.none : Option Jvm.ClassFile.FieldType)).before args0 about1 = true := code_word (m := ⟨0, 0⟩) (meth := k0m0) (c := k0c0) (by decide +kernel) rfl rfl rfl (by decide +kernel)
set_option maxRecDepth 65536 in
theorem w_c4 : (Jvm.Cond.code ({ cls := "org/millrace/engine/Footprint", name := "add", desc := "(J)V" } : Jvm.MethodName) prog_68_method_5_code (6 : Nat) (Option.none : Option Jvm.ClassFile.FieldType)).before args0 about1 = true := code_word (m := ⟨2, 4⟩) (meth := k2m4) (c := k2c4) (by decide +kernel) rfl rfl rfl (by decide +kernel)
set_option maxRecDepth 65536 in
theorem w_c5 : (Jvm.Cond.code ({ cls := "org/millrace/engine/Footprint", name := "setAside", desc := "(J)V" } : Jvm.MethodName) prog_68_method_6_code (4 : Nat) (Option.none : Option Jvm.ClassFile.FieldType)).before args0 about1 = true := code_word (m := ⟨2, 5⟩) (meth := k2m5) (c := k2c5) (by decide +kernel) rfl rfl rfl (by decide +kernel)
set_option maxRecDepth 65536 in
theorem w_c6 : (Jvm.Cond.code ({ cls := "java/lang/Math", name := "max", desc := "(JJ)J" } : Jvm.MethodName) jdk_29_method_66_code (4 : Nat) (Option.some Jvm.ClassFile.FieldType.long)).before args0 about1 = true := code_word (m := ⟨3, 1⟩) (meth := k3m1) (c := k3c1) (by decide +kernel) rfl rfl rfl (by decide +kernel)
set_option maxRecDepth 65536 in
theorem w_c7 : (Jvm.Cond.code ({ cls := "org/millrace/engine/Footprint", name := "rows", desc := "()J" } : Jvm.MethodName) prog_68_method_3_code (1 : Nat) (Option.some Jvm.ClassFile.FieldType.long)).before args0 about1 = true := code_word (m := ⟨2, 2⟩) (meth := k2m2) (c := k2c2) (by decide +kernel) rfl rfl rfl (by decide +kernel)
set_option maxRecDepth 65536 in
theorem w_c8 : (Jvm.Cond.code ({ cls := "org/millrace/engine/Footprint", name := "peak", desc := "()J" } : Jvm.MethodName) prog_68_method_4_code (1 : Nat) (Option.some Jvm.ClassFile.FieldType.long)).before args0 about1 = true := code_word (m := ⟨2, 3⟩) (meth := k2m3) (c := k2c3) (by decide +kernel) rfl rfl rfl (by decide +kernel)
def codes1 : List Jvm.Cond := [Jvm.Cond.code x code maxLocals ret, Jvm.Cond.code ({ cls := "org/millrace/engine/Footprint", name := "<init>", desc := "()V" } : Jvm.MethodName) prog_68_method_1_code (1 : Nat) (Option.none : Option Jvm.ClassFile.FieldType), Jvm.Cond.code ({ cls := "org/millrace/engine/Footprint", name := "<init>", desc := "(Lorg/millrace/engine/Footprint;)V" } : Jvm.MethodName) prog_68_method_2_code (2 : Nat) (Option.none : Option Jvm.ClassFile.FieldType), Jvm.Cond.code ({ cls := "java/lang/Object", name := "<init>", desc := "()V" } : Jvm.MethodName) object_method_1_code (1 : Nat) (Option.none : Option Jvm.ClassFile.FieldType), Jvm.Cond.code ({ cls := "org/millrace/engine/Footprint", name := "add", desc := "(J)V" } : Jvm.MethodName) prog_68_method_5_code (6 : Nat) (Option.none : Option Jvm.ClassFile.FieldType), Jvm.Cond.code ({ cls := "org/millrace/engine/Footprint", name := "setAside", desc := "(J)V" } : Jvm.MethodName) prog_68_method_6_code (4 : Nat) (Option.none : Option Jvm.ClassFile.FieldType), Jvm.Cond.code ({ cls := "java/lang/Math", name := "max", desc := "(JJ)J" } : Jvm.MethodName) jdk_29_method_66_code (4 : Nat) (Option.some Jvm.ClassFile.FieldType.long), Jvm.Cond.code ({ cls := "org/millrace/engine/Footprint", name := "rows", desc := "()J" } : Jvm.MethodName) prog_68_method_3_code (1 : Nat) (Option.some Jvm.ClassFile.FieldType.long), Jvm.Cond.code ({ cls := "org/millrace/engine/Footprint", name := "peak", desc := "()J" } : Jvm.MethodName) prog_68_method_4_code (1 : Nat) (Option.some Jvm.ClassFile.FieldType.long)]
set_option maxRecDepth 65536 in
theorem codes_eq : words1.filter isCode = codes1 := rfl
theorem w_codes : ∀ c ∈ words1.filter isCode, c.before args0 about1 = true := by
  rw [codes_eq]
  intro c hc
  simp only [codes1, List.mem_cons, List.not_mem_nil, or_false] at hc
  rcases hc with rfl | rfl | rfl | rfl | rfl | rfl | rfl | rfl | rfl
  · exact w_c0
  · exact w_c1
  · exact w_c2
  · exact w_c3
  · exact w_c4
  · exact w_c5
  · exact w_c6
  · exact w_c7
  · exact w_c8
set_option maxRecDepth 65536 in
theorem w_t1 : (words1.take 24).all (fun c => isCode c || c.before args0 about1) = true := by decide +kernel
set_option maxRecDepth 65536 in
theorem w_t2 : (words1.drop 24).all (fun c => isCode c || c.before args0 about1) = true := by decide +kernel
theorem w_tables : (allAtoms (Jvm.Cond.code x code maxLocals ret :: tables_1)).before args0 about1 = true := by
  rw [allAtoms_all]
  show words1.all (fun c => c.before args0 about1) = true
  refine all_split ?_ w_codes
  rw [← List.take_append_drop 24 words1, List.all_append, w_t1, w_t2]
  rfl
set_option maxRecDepth 65536 in
theorem w_case : (Jvm.Cond.and given_1 narrow_1).before args0 about1 = true := by decide +kernel
theorem w_applies : (headSpec (Jvm.Cond.code x code maxLocals ret :: tables_1) room_1).applies x e0.platform about1 = true :=
  (Spec.applies_iff w_frames).mpr ⟨w_running, w_runnable, w_alone, w_named, w_hears, w_ripe, w_room, w_tables⟩
theorem atStart : AtStart classFile x code maxLocals ret World_1 tables_1 room_1 Calls_1 rest_1 Pre_1 launch0 p0 e0 about1 theMethod args0 below0 :=
  ⟨lists_1, trivial, launch0.admits_env _ _ _, launch0.least_env, fairChoices_fair.cas, fairChoices_fair.clock, w_frames, w_args, w_heap, w_applies, trivial, trivial, w_case⟩
end start1
theorem witness_1 : WitnessClaimed_1 := ⟨start1.p0, start1.e0, start1.about1, start1.theMethod, start1.args0, start1.below0, start1.atStart⟩
end Jvm.Pilot.@@N@@
