import JvmDerived
import JvmDerived.Pilot.@@N@@Statement
import JvmDerived.Pilot.@@N@@Code
set_option linter.unusedVariables false
set_option linter.unusedSimpArgs false
namespace Jvm.RoadKit
open Sem ClassFile Op Lib Jvm.Stand Jvm.Free Jvm.LawKit
section New
variable {p : Program} {l : Launch} {e : Env} {R : Room} {s : State} {m : MethodId} {args : Array Value} {below : List Frame} {meth : Method} {c : Code} {T : State} {locs : List Loc} {cells slots : Nat}
theorem retI (X : Stand p l e R s m args below meth c T locs cells slots) (hx : p.tables.exec = Jvm.exec) {pc : Nat} {Ls : Array Slot} {z : Int32} {rest : List Value} (hret : meth.sig.returnType = some .int) (hd : decode c.code pc = .ok (.ireturn, 1)) {fs : List Frame}
    (hl : ∀ (f : JFrame) (acts : List Action), f.method = m → f.locked = none → f.entered = [] → (doReturn e (T.setTop f) acts (some (.int z))).1 = T.setFrames fs) : Steps p.tables e below (T.setTop (mkF m pc Ls (.int z :: rest))) (T.setFrames fs) := by
  have hm' : T.vm.method? m = some meth := X.method'
  have hn : narrow .int (.int z) = .int z := rfl
  show Steps p.tables e below (T.setTop { method := m, pc := pc, locals := Ls, stack := _ :: rest, locked := none }) _
  jvm_step X.here [X.here.top, hx, hd, hm', hret, hn]
  first | (intro acts; rw [hl _ acts rfl rfl rfl]) | rw [hl _ _ rfl rfl rfl]
  exact Steps.refl _
theorem retL (X : Stand p l e R s m args below meth c T locs cells slots) (hx : p.tables.exec = Jvm.exec) {pc : Nat} {Ls : Array Slot} {z : Int64} {rest : List Value} (hret : meth.sig.returnType = some .long) (hd : decode c.code pc = .ok (.lreturn, 1)) {fs : List Frame}
    (hl : ∀ (f : JFrame) (acts : List Action), f.method = m → f.locked = none → f.entered = [] → (doReturn e (T.setTop f) acts (some (.long z))).1 = T.setFrames fs) : Steps p.tables e below (T.setTop (mkF m pc Ls (.long z :: rest))) (T.setFrames fs) := by
  have hm' : T.vm.method? m = some meth := X.method'
  have hn : narrow .long (.long z) = .long z := rfl
  show Steps p.tables e below (T.setTop { method := m, pc := pc, locals := Ls, stack := _ :: rest, locked := none }) _
  jvm_step X.here [X.here.top, hx, hd, hm', hret, hn]
  first | (intro acts; rw [hl _ acts rfl rfl rfl]) | rw [hl _ _ rfl rfl rfl]
  exact Steps.refl _
end New
end Jvm.RoadKit
namespace Jvm.Pilot.@@N@@
open Jvm Jvm.ClassFile Sem Op Lib Jvm.Free Jvm.Stand Jvm.LawKit Jvm.RoadKit Bundle Jvm.Pilot.@@N@@.Jvm.D
theorem own_sel {args : Array Value} {s : State} {y : MethodName} {n : Nat} (hi : (Jvm.Cond.instanceMethod y).before args s = true) (hp : (Jvm.Cond.privateMethod y).before args s = true) (hc : (Jvm.Cond.instantiable y.cls n).before args s = true) (hy : y.cls ≠ "java/lang/invoke/MethodHandle" ∧ y.cls ≠ "java/lang/invoke/VarHandle") : (Jvm.Cond.selects y.cls y y).before args s = true := by
  obtain ⟨m, meth, h1, h2, -, -⟩ := Cond.instanceMethod_spec hi
  obtain ⟨c, k, k1, k2, -, k4, -⟩ := Cond.instantiable_spec hc
  have hcl := findClass_of_methodNamed h1
  cases k1.symm.trans hcl
  have hf := State.methodFound?_of_named h1 hy
  have hs : selectMethod {} s.vm m.cls m = .method m := selectMethod_private h2 (Cond.privateMethod_at hp m meth h1 h2)
  have hi : k.isInterface = false := by
    cases q : k.isInterface
    · rfl
    · rw [q] at k4; cases k4
  simp [Cond.before, Cond.holds, Cond.value, hcl, hf, h1, hs, k2, hi]
theorem d1_0 : decode prog_54_method_1_code 0 = .ok (.aload_n 0, 1) := by decide +kernel
theorem d1_1 : decode prog_54_method_1_code 1 = .ok (.invokespecial 1, 3) := by decide +kernel
theorem d1_4 : decode prog_54_method_1_code 4 = .ok (.aload_n 0, 1) := by decide +kernel
theorem d1_5 : decode prog_54_method_1_code 5 = .ok (.aload_n 1, 1) := by decide +kernel
theorem d1_6 : decode prog_54_method_1_code 6 = .ok (.putfield 7, 3) := by decide +kernel
theorem d1_9 : decode prog_54_method_1_code 9 = .ok (.aload_n 0, 1) := by decide +kernel
theorem d1_10 : decode prog_54_method_1_code 10 = .ok (.aload_n 2, 1) := by decide +kernel
theorem d1_11 : decode prog_54_method_1_code 11 = .ok (.putfield 13, 3) := by decide +kernel
theorem d1_14 : decode prog_54_method_1_code 14 = .ok (.return_, 1) := by decide +kernel
theorem pn_1 : plainName "com/example/tenure/tenure/store/ValueReader" = true := by first | (simp [plainName, overriddenIn]; done) | decide +kernel
theorem ef_1 (m : MethodId) (x0 : Addr) (x1 : Addr) : entryFrame m #[(.ref x0), (.ref x1), .null] 3 = mkF m 0 #[.val (.ref x0), .val (.ref x1), .val .null] [] := by first | (simp [entryFrame, mkF, argsToLocals, Value.category]; done) | rfl
def Q1 (Z : State) (a1 : Addr) (a2 : Addr) (h0 : Heap) (n0 : Nat) (v : Option Value) (h : Heap) (L : List Loc) : Prop := v = none ∧ Fr n0 L ∧ Keep h0 h [a1] ∧ Exa Z h a1 "com/example/tenure/tenure/store/ValueReader" ∧ Fld Z h a1 "com/example/tenure/tenure/store/ValueReader" "bytes" "[B" (.ref a2) ∧ Fld Z h a1 "com/example/tenure/tenure/store/ValueReader" "position" "I" (.int (0 : Int32))
set_option maxRecDepth 65536 in
set_option maxHeartbeats 40000000 in
theorem rm1 (l : Launch) (Z : State) (a0 : Array Value) (hw : ∀ d ∈ tables_1, d.before a0 Z = true) (ws : List Jvm.Cond) (a1 : Addr) (a2 : Addr) (h0 : Heap) (n0 : Nat) (Z0 : n0 ≤ h0.size) (E_a1 : Exa Z h0 a1 "com/example/tenure/tenure/store/ValueReader") (F_a1_bytes : Fld Z h0 a1 "com/example/tenure/tenure/store/ValueReader" "bytes" "[B" .null) (F_a1_dictionary : Fld Z h0 a1 "com/example/tenure/tenure/store/ValueReader" "dictionary" "Lcom/example/tenure/tenure/store/ClassDictionary;" .null) (F_a1_position : Fld Z h0 a1 "com/example/tenure/tenure/store/ValueReader" "position" "I" (.int (0 : Int32))) (g_a1 : n0 ≤ a1) :
    MetFree l (⟨"com/example/tenure/tenure/store/ValueReader", "<init>", "([BLcom/example/tenure/tenure/store/ClassDictionary;)V"⟩ : MethodName) (head1 (Jvm.Cond.code (⟨"com/example/tenure/tenure/store/ValueReader", "<init>", "([BLcom/example/tenure/tenure/store/ClassDictionary;)V"⟩ : MethodName) prog_54_method_1_code 3 none :: ws) ({ frames := 1, cells := 0, slots := 0, locals := 12 } : Room)) (fun a U => a = #[(.ref a1), (.ref a2), .null] ∧ Z.Warmed39 U.vm ∧ U.heap = h0) (fun _ _ _ _ _ => True) (fun _ U o U' => ∃ v L, o = .returned v ∧ Q1 Z a1 a2 h0 n0 v U'.heap L ∧ FrameEnd U o U' L ({ frames := 1, cells := 0, slots := 0, locals := 12 } : Room).cells ({ frames := 1, cells := 0, slots := 0, locals := 12 } : Room).slots) := by
  refine MetFree.of_bodySF (plainFor_of_name pn_1) hisR ?_
  intro p e s m args below meth c s₁ Bd hml0 hP hK
  obtain ⟨rfl, hZ, hh⟩ := hP
  have hx := Bd.exec
  have hby := Bd.bytes
  have hml : c.maxLocals = 3 := hml0
  have hown : s.vm.findClass "com/example/tenure/tenure/store/ValueReader" = some m.cls := findClass_of_methodNamed Bd.named
  have hnm := (name_of_methodNamed Bd.named Bd.method).1
  have X0 : Stand p l e ({ frames := 1, cells := 0, slots := 0, locals := 12 } : Room) s m #[(.ref a1), (.ref a2), .null] below meth c s₁ [] 0 0 := Stand.of_body Bd
  have e0 : s₁.heap = h0 := by rw [← hh, Bd.state]; rfl
  have N0 := Fr.nil n0
  have pre0 : ∀ t, Steps p.tables e below (s₁.setTop (mkF m 0 #[.val (.ref a1), .val (.ref a2), .val .null] [])) t → Steps p.tables e below (s₁.setTop (entryFrame m #[(.ref a1), (.ref a2), .null] 3)) t := fun t k => castTop (ef_1 m a1 a2) k
  obtain ⟨T1, X1, e1, st1⟩ := initO X0 hx hZ hown (hw _ (List.mem_of_getElem? (i := 7) rfl)) (hw _ (List.mem_of_getElem? (i := 8) rfl)) (hw _ (List.mem_of_getElem? (i := 9) rfl)) e0 (g := (mkF m 1 #[.val (.ref a1), .val (.ref a2), .val .null] [(.ref a1)])) rfl (by rw [hml]; rfl) rfl (hb hby d1_1) (by decide) (W := 0) (by show 2 * 0 + _ ≤ _; exact Nat.le_of_eq rfl) (by decide)
  obtain ⟨T2, h2, X2, e2, W2, st2⟩ := putF X1 hx hZ hown (host := "") (Or.inl (hw _ (List.mem_of_getElem? (i := 10) rfl))) Via.refl e1 F_a1_bytes E_a1 (Or.inr ⟨(hw _ (List.mem_of_getElem? (i := 11) rfl)), rfl, hnm⟩) (hw _ (List.mem_of_getElem? (i := 2) rfl)) (ty := (.array .byte)) (by decide) rfl rfl (g := (mkF m 6 #[.val (.ref a1), .val (.ref a2), .val .null] [(.ref a2), (.ref a1)])) rfl rfl (hb hby d1_6)
  have z3 : n0 ≤ h2.size := Nat.le_trans Z0 (Keep.of_wr W2).1
  have fw2 : Fld Z h2 a1 "com/example/tenure/tenure/store/ValueReader" "bytes" "[B" (.ref a2) := F_a1_bytes.same W2
  have N2 := Fr.snoc X2 N0 g_a1
  have K2 : Keep h0 h2 [a1] := (Keep.refl h0 [a1]).wr W2 (Or.inl (List.mem_of_getElem? (i := 0) rfl))
  have f4 : Exa Z h2 a1 "com/example/tenure/tenure/store/ValueReader" := (E_a1.wr W2)
  have f5 : Fld Z h2 a1 "com/example/tenure/tenure/store/ValueReader" "dictionary" "Lcom/example/tenure/tenure/store/ClassDictionary;" .null := (F_a1_dictionary.other W2 (Or.inr (slot_ne (Or.inr (hw _ (List.mem_of_getElem? (i := 13) rfl))) (Or.inr (hw _ (List.mem_of_getElem? (i := 11) rfl))) (by decide) (t := (.object "com/example/tenure/tenure/store/ClassDictionary")) (t' := (.array .byte)) (by decide) (by decide))))
  obtain ⟨T6, h6, X6, e6, W6, st6⟩ := putF X2 hx hZ hown (host := "") (Or.inl (hw _ (List.mem_of_getElem? (i := 12) rfl))) Via.refl e2 f5 f4 (Or.inr ⟨(hw _ (List.mem_of_getElem? (i := 13) rfl)), rfl, hnm⟩) (hw _ (List.mem_of_getElem? (i := 2) rfl)) (ty := (.object "com/example/tenure/tenure/store/ClassDictionary")) (by decide) rfl rfl (g := (mkF m 11 #[.val (.ref a1), .val (.ref a2), .val .null] [.null, (.ref a1)])) rfl rfl (hb hby d1_11)
  have z7 : n0 ≤ h6.size := Nat.le_trans z3 (Keep.of_wr W6).1
  have fw6 : Fld Z h6 a1 "com/example/tenure/tenure/store/ValueReader" "dictionary" "Lcom/example/tenure/tenure/store/ClassDictionary;" .null := f5.same W6
  have N6 := Fr.snoc X6 N2 g_a1
  have K6 : Keep h0 h6 [a1] := K2.wr W6 (Or.inl (List.mem_of_getElem? (i := 0) rfl))
  obtain ⟨fs, hr, hrun, hended, hW, hsame⟩ := X6.leave (v := none) (fun _ => rfl)
  refine ⟨_, _, pre0 _ ?_, hrun, hended, _, _, rfl, ?_, ⟨_, rfl⟩, hW, hsame.mono (by decide) (by decide)⟩
  · show Steps p.tables e below (s₁.setTop (mkF m 0 #[.val (.ref a1), .val (.ref a2), .val .null] [])) _
    refine XS.aloadN X0.here hx rfl (hb hby d1_0) rfl rfl ?_
    show Steps p.tables e below (s₁.setTop (mkF m 1 #[.val (.ref a1), .val (.ref a2), .val .null] [(.ref a1)])) _
    refine st1 _ ?_
    show Steps p.tables e below (T1.setTop (mkF m 4 #[.val (.ref a1), .val (.ref a2), .val .null] [])) _
    refine XS.aloadN X1.here hx rfl (hb hby d1_4) rfl rfl ?_
    show Steps p.tables e below (T1.setTop (mkF m 5 #[.val (.ref a1), .val (.ref a2), .val .null] [(.ref a1)])) _
    refine XS.aloadN X1.here hx rfl (hb hby d1_5) rfl rfl ?_
    show Steps p.tables e below (T1.setTop (mkF m 6 #[.val (.ref a1), .val (.ref a2), .val .null] [(.ref a2), (.ref a1)])) _
    refine st2 _ ?_
    show Steps p.tables e below (T2.setTop (mkF m 9 #[.val (.ref a1), .val (.ref a2), .val .null] [])) _
    refine XS.aloadN X2.here hx rfl (hb hby d1_9) rfl rfl ?_
    show Steps p.tables e below (T2.setTop (mkF m 10 #[.val (.ref a1), .val (.ref a2), .val .null] [(.ref a1)])) _
    refine XS.aloadN X2.here hx rfl (hb hby d1_10) rfl rfl ?_
    show Steps p.tables e below (T2.setTop (mkF m 11 #[.val (.ref a1), .val (.ref a2), .val .null] [.null, (.ref a1)])) _
    refine st6 _ ?_
    show Steps p.tables e below (T6.setTop (mkF m 14 #[.val (.ref a1), .val (.ref a2), .val .null] [])) _
    exact X6.returnOut hx Bd.returns (hb hby d1_14) hr
  have f8 : Exa Z h6 a1 "com/example/tenure/tenure/store/ValueReader" := (f4.wr W6)
  have f9 : Fld Z h6 a1 "com/example/tenure/tenure/store/ValueReader" "bytes" "[B" (.ref a2) := (fw2.other W6 (Or.inr (slot_ne (Or.inr (hw _ (List.mem_of_getElem? (i := 11) rfl))) (Or.inr (hw _ (List.mem_of_getElem? (i := 13) rfl))) (by decide) (t := (.array .byte)) (t' := (.object "com/example/tenure/tenure/store/ClassDictionary")) (by decide) (by decide))))
  have f10 : Fld Z h6 a1 "com/example/tenure/tenure/store/ValueReader" "position" "I" (.int (0 : Int32)) := ((F_a1_position.other W2 (Or.inr (slot_ne (Or.inl (hw _ (List.mem_of_getElem? (i := 29) rfl))) (Or.inr (hw _ (List.mem_of_getElem? (i := 11) rfl))) (by decide) (t := .int) (t' := (.array .byte)) (by decide) (by decide)))).other W6 (Or.inr (slot_ne (Or.inl (hw _ (List.mem_of_getElem? (i := 29) rfl))) (Or.inr (hw _ (List.mem_of_getElem? (i := 13) rfl))) (by decide) (t := .int) (t' := (.object "com/example/tenure/tenure/store/ClassDictionary")) (by decide) (by decide))))
  · show Q1 Z a1 a2 h0 n0 _ T6.heap _
    rw [e6]
    exact ⟨rfl, N6, K6, f8, f9, f10⟩
theorem d5_0 : decode prog_54_method_2_code 0 = .ok (.aload_n 0, 1) := by decide +kernel
theorem d5_1 : decode prog_54_method_2_code 1 = .ok (.getfield 7, 3) := by decide +kernel
theorem d5_4 : decode prog_54_method_2_code 4 = .ok (.arraylength, 1) := by decide +kernel
theorem d5_5 : decode prog_54_method_2_code 5 = .ok (.aload_n 0, 1) := by decide +kernel
theorem d5_6 : decode prog_54_method_2_code 6 = .ok (.getfield 17, 3) := by decide +kernel
theorem d5_9 : decode prog_54_method_2_code 9 = .ok (.isub, 1) := by decide +kernel
theorem d5_10 : decode prog_54_method_2_code 10 = .ok (.ireturn, 1) := by decide +kernel
theorem ef_5 (m : MethodId) (x0 : Addr) : entryFrame m #[(.ref x0)] 1 = mkF m 0 #[.val (.ref x0)] [] := by first | (simp [entryFrame, mkF, argsToLocals, Value.category]; done) | rfl
def Q5 (Z : State) (a1 : Addr) (a2 : Addr) (w : Int32) (k : ClassId) (n : Int32) (vs : List Value) (h0 : Heap) (n0 : Nat) (v : Option Value) (h : Heap) (L : List Loc) : Prop := v = some (.int (n - w)) ∧ Fr n0 L ∧ h = h0
set_option maxRecDepth 65536 in
set_option maxHeartbeats 40000000 in
theorem rm5 (l : Launch) (Z : State) (a0 : Array Value) (hw : ∀ d ∈ tables_1, d.before a0 Z = true) (ws : List Jvm.Cond) (a1 : Addr) (a2 : Addr) (w : Int32) (k : ClassId) (n : Int32) (vs : List Value) (h0 : Heap) (n0 : Nat) (Z0 : n0 ≤ h0.size) (E_a1 : Exa Z h0 a1 "com/example/tenure/tenure/store/ValueReader") (F_a1_bytes : Fld Z h0 a1 "com/example/tenure/tenure/store/ValueReader" "bytes" "[B" (.ref a2)) (F_a1_position : Fld Z h0 a1 "com/example/tenure/tenure/store/ValueReader" "position" "I" (.int w)) (V_a2 : Arv Z h0 a2 k .byte n vs (.int (0 : Int32))) :
    MetFree l (⟨"com/example/tenure/tenure/store/ValueReader", "available", "()I"⟩ : MethodName) (head1 (Jvm.Cond.code (⟨"com/example/tenure/tenure/store/ValueReader", "available", "()I"⟩ : MethodName) prog_54_method_2_code 1 (some .int) :: ws) ({ frames := 0, cells := 0, slots := 0, locals := 0 } : Room)) (fun a U => a = #[(.ref a1)] ∧ Z.Warmed39 U.vm ∧ U.heap = h0) (fun _ _ _ _ _ => True) (fun _ U o U' => ∃ v L, o = .returned v ∧ Q5 Z a1 a2 w k n vs h0 n0 v U'.heap L ∧ FrameEnd U o U' L ({ frames := 0, cells := 0, slots := 0, locals := 0 } : Room).cells ({ frames := 0, cells := 0, slots := 0, locals := 0 } : Room).slots) := by
  refine MetFree.of_bodySF (plainFor_of_name pn_1) hisR ?_
  intro p e s m args below meth c s₁ Bd hml0 hP hK
  obtain ⟨rfl, hZ, hh⟩ := hP
  have hx := Bd.exec
  have hby := Bd.bytes
  have hml : c.maxLocals = 1 := hml0
  have hown : s.vm.findClass "com/example/tenure/tenure/store/ValueReader" = some m.cls := findClass_of_methodNamed Bd.named
  have hnm := (name_of_methodNamed Bd.named Bd.method).1
  have X0 : Stand p l e ({ frames := 0, cells := 0, slots := 0, locals := 0 } : Room) s m #[(.ref a1)] below meth c s₁ [] 0 0 := Stand.of_body Bd
  have e0 : s₁.heap = h0 := by rw [← hh, Bd.state]; rfl
  have N0 := Fr.nil n0
  have pre0 : ∀ t, Steps p.tables e below (s₁.setTop (mkF m 0 #[.val (.ref a1)] [])) t → Steps p.tables e below (s₁.setTop (entryFrame m #[(.ref a1)] 1)) t := fun t k => castTop (ef_5 m a1) k
  obtain ⟨T11, X11, e11, st11⟩ := getF X0 hx hZ hown (host := "") (Or.inl (hw _ (List.mem_of_getElem? (i := 10) rfl))) Via.refl e0 F_a1_bytes (g := (mkF m 1 #[.val (.ref a1)] [(.ref a1)])) rfl rfl (hb hby d5_1)
  obtain ⟨cl12, Ar12, -, S12, M12, -, -⟩ := V_a2
  obtain ⟨T13, X13, e13, st13⟩ := getF X11 hx hZ hown (host := "") (Or.inl (hw _ (List.mem_of_getElem? (i := 28) rfl))) Via.refl e11 F_a1_position (g := (mkF m 6 #[.val (.ref a1)] [(.ref a1), (.int n)])) rfl rfl (hb hby d5_6)
  obtain ⟨fs, hr, hrun, hended, hW, hsame⟩ := X13.leave (v := some (.int (n - w))) (fun h => by rw [Bd.returns] at h; cases h)
  refine ⟨_, _, pre0 _ ?_, hrun, hended, _, _, rfl, ?_, ⟨_, rfl⟩, hW, hsame.mono (by decide) (by decide)⟩
  · show Steps p.tables e below (s₁.setTop (mkF m 0 #[.val (.ref a1)] [])) _
    refine XS.aloadN X0.here hx rfl (hb hby d5_0) rfl rfl ?_
    show Steps p.tables e below (s₁.setTop (mkF m 1 #[.val (.ref a1)] [(.ref a1)])) _
    refine st11 _ ?_
    show Steps p.tables e below (T11.setTop (mkF m 4 #[.val (.ref a1)] [(.ref a2)])) _
    refine X11.arraylength hx (by rw [e11]; exact Ar12.1) (State.isArrayOf_alike hZ.alike Ar12.2.1) (g := (mkF m 4 #[.val (.ref a1)] [(.ref a2)])) rfl rfl (hb hby d5_4) _ ?_
    rw [len_of S12 M12]
    show Steps p.tables e below (T11.setTop (mkF m 5 #[.val (.ref a1)] [(.int n)])) _
    refine XS.aloadN X11.here hx rfl (hb hby d5_5) rfl rfl ?_
    show Steps p.tables e below (T11.setTop (mkF m 6 #[.val (.ref a1)] [(.ref a1), (.int n)])) _
    refine st13 _ ?_
    show Steps p.tables e below (T13.setTop (mkF m 9 #[.val (.ref a1)] [(.int w), (.int n)])) _
    refine XS.isub X13.here hx rfl (hb hby d5_9) rfl ?_
    show Steps p.tables e below (T13.setTop (mkF m 10 #[.val (.ref a1)] [(.int (n - w))])) _
    exact retI X13 hx Bd.returns (hb hby d5_10) hr
  · show Q5 Z a1 a2 w k n vs h0 n0 _ T13.heap _
    rw [e13]
    exact ⟨rfl, N0, rfl⟩
theorem d4_0 : decode prog_54_method_17_code 0 = .ok (.iload_n 1, 1) := by decide +kernel
theorem d4_1 : decode prog_54_method_17_code 1 = .ok (.aload_n 0, 1) := by decide +kernel
theorem d4_2 : decode prog_54_method_17_code 2 = .ok (.invokevirtual 87, 3) := by decide +kernel
theorem d4_5 : decode prog_54_method_17_code 5 = .ok (.if_icmp .le 21, 3) := by decide +kernel
theorem d4_8 : decode prog_54_method_17_code 8 = .ok (.new 98, 3) := by decide +kernel
theorem d4_11 : decode prog_54_method_17_code 11 = .ok (.dup, 1) := by decide +kernel
theorem d4_12 : decode prog_54_method_17_code 12 = .ok (.iload_n 1, 1) := by decide +kernel
theorem d4_13 : decode prog_54_method_17_code 13 = .ok (.aload_n 0, 1) := by decide +kernel
theorem d4_14 : decode prog_54_method_17_code 14 = .ok (.invokevirtual 87, 3) := by decide +kernel
theorem d4_22 : decode prog_54_method_17_code 22 = .ok (.invokespecial 103, 3) := by decide +kernel
theorem d4_25 : decode prog_54_method_17_code 25 = .ok (.athrow, 1) := by decide +kernel
theorem d4_26 : decode prog_54_method_17_code 26 = .ok (.return_, 1) := by decide +kernel
theorem ef_4 (m : MethodId) (x0 : Addr) (x1 : Int32) : entryFrame m #[(.ref x0), (.int x1)] 2 = mkF m 0 #[.val (.ref x0), .val (.int x1)] [] := by first | (simp [entryFrame, mkF, argsToLocals, Value.category]; done) | rfl
def Q4 (Z : State) (a1 : Addr) (p2 : Int32) (a2 : Addr) (w : Int32) (k : ClassId) (n : Int32) (vs : List Value) (h0 : Heap) (n0 : Nat) (v : Option Value) (h : Heap) (L : List Loc) : Prop := v = none ∧ Fr n0 L ∧ h = h0
theorem pd_2 : parseMethodDescriptor "()I" = some ⟨[], some .int⟩ := by decide +kernel
set_option maxRecDepth 65536 in
set_option maxHeartbeats 40000000 in
theorem rm4 (l : Launch) (Z : State) (a0 : Array Value) (hw : ∀ d ∈ tables_1, d.before a0 Z = true) (ws : List Jvm.Cond) (a1 : Addr) (p2 : Int32) (a2 : Addr) (w : Int32) (k : ClassId) (n : Int32) (vs : List Value) (h0 : Heap) (n0 : Nat) (Z0 : n0 ≤ h0.size) (E_a1 : Exa Z h0 a1 "com/example/tenure/tenure/store/ValueReader") (F_a1_bytes : Fld Z h0 a1 "com/example/tenure/tenure/store/ValueReader" "bytes" "[B" (.ref a2)) (F_a1_position : Fld Z h0 a1 "com/example/tenure/tenure/store/ValueReader" "position" "I" (.int w)) (V_a2 : Arv Z h0 a2 k .byte n vs (.int (0 : Int32))) (hreq : ¬ (n - w) < p2) :
    MetFree l (⟨"com/example/tenure/tenure/store/ValueReader", "require", "(I)V"⟩ : MethodName) (head1 (Jvm.Cond.code (⟨"com/example/tenure/tenure/store/ValueReader", "require", "(I)V"⟩ : MethodName) prog_54_method_17_code 2 none :: ws) ({ frames := 1, cells := 0, slots := 0, locals := 13 } : Room)) (fun a U => a = #[(.ref a1), (.int p2)] ∧ Z.Warmed39 U.vm ∧ U.heap = h0) (fun _ _ _ _ _ => True) (fun _ U o U' => ∃ v L, o = .returned v ∧ Q4 Z a1 p2 a2 w k n vs h0 n0 v U'.heap L ∧ FrameEnd U o U' L ({ frames := 1, cells := 0, slots := 0, locals := 13 } : Room).cells ({ frames := 1, cells := 0, slots := 0, locals := 13 } : Room).slots) := by
  refine MetFree.of_bodySF (plainFor_of_name pn_1) hisR ?_
  intro p e s m args below meth c s₁ Bd hml0 hP hK
  obtain ⟨rfl, hZ, hh⟩ := hP
  have hx := Bd.exec
  have hby := Bd.bytes
  have hml : c.maxLocals = 2 := hml0
  have hown : s.vm.findClass "com/example/tenure/tenure/store/ValueReader" = some m.cls := findClass_of_methodNamed Bd.named
  have hnm := (name_of_methodNamed Bd.named Bd.method).1
  have X0 : Stand p l e ({ frames := 1, cells := 0, slots := 0, locals := 13 } : Room) s m #[(.ref a1), (.int p2)] below meth c s₁ [] 0 0 := Stand.of_body Bd
  have e0 : s₁.heap = h0 := by rw [← hh, Bd.state]; rfl
  have N0 := Fr.nil n0
  have pre0 : ∀ t, Steps p.tables e below (s₁.setTop (mkF m 0 #[.val (.ref a1), .val (.int p2)] [])) t → Steps p.tables e below (s₁.setTop (entryFrame m #[(.ref a1), (.int p2)] 2)) t := fun t k => castTop (ef_4 m a1 p2) k
  obtain ⟨cq14, kq14, qa14, qb14, qc14⟩ := isOf hZ e0 E_a1
  obtain ⟨_, _, ⟨T14, L14, k14, n14⟩, -, X14, ⟨Lc14, hQ14, l14, y14, z14⟩, st14⟩ := X0.virtualBack hx (y := (⟨"com/example/tenure/tenure/store/ValueReader", "available", "()I"⟩ : MethodName)) (z := (⟨"com/example/tenure/tenure/store/ValueReader", "available", "()I"⟩ : MethodName)) hown (mvT hZ (hw _ (List.mem_of_getElem? (i := 23) rfl))) (mvT hZ (hw _ (List.mem_of_getElem? (i := 24) rfl))) (notFace_of_selects (args := #[]) (mvT hZ (hw _ (List.mem_of_getElem? (i := 26) rfl)))) (mvT hZ (hw _ (List.mem_of_getElem? (i := 26) rfl))) (mvT hZ (hw _ (List.mem_of_getElem? (i := 25) rfl))) (by decide) (backOf (W := 1) (rm5 l Z a0 hw [] a1 a2 w k n (vs : List Value) h0 n0 Z0 E_a1 F_a1_bytes F_a1_position V_a2) hZ (hw _ (List.mem_of_getElem? (i := 27) rfl)) (hw _ (List.mem_of_getElem? (i := 3) rfl)) (by decide) (by decide)) qa14 qc14 (g := (mkF m 2 #[.val (.ref a1), .val (.int p2)] [(.ref a1), (.int p2)])) rfl (by rw [hml]; rfl) (Steps.refl _) (argsL := []) (rest := [(.int p2)]) (lenOf pd_2 rfl) rfl (by show 2 * 0 + _ ≤ _; exact Nat.le_of_eq rfl) (hb hby d4_2) (fun _ _ => ⟨rfl, e0, (by decide : 0 + 0 ≤ _), (by decide : 0 + 0 ≤ _)⟩)
  dsimp only [Pt.U, Pt.locs, Pt.cells, Pt.slots] at X14 l14 y14 z14 st14 hQ14
  subst l14 y14 z14
  obtain ⟨rfl, Nq14, e14⟩ := hQ14
  have N14 := Fr.app N0 Nq14
  obtain ⟨fs, hr, hrun, hended, hW, hsame⟩ := X14.leave (v := none) (fun _ => rfl)
  refine ⟨_, _, pre0 _ ?_, hrun, hended, _, _, rfl, ?_, ⟨_, rfl⟩, hW, hsame.mono (by decide) (by decide)⟩
  · show Steps p.tables e below (s₁.setTop (mkF m 0 #[.val (.ref a1), .val (.int p2)] [])) _
    refine XS.iloadN X0.here hx rfl (hb hby d4_0) rfl ?_
    show Steps p.tables e below (s₁.setTop (mkF m 1 #[.val (.ref a1), .val (.int p2)] [(.int p2)])) _
    refine XS.aloadN X0.here hx rfl (hb hby d4_1) rfl rfl ?_
    show Steps p.tables e below (s₁.setTop (mkF m 2 #[.val (.ref a1), .val (.int p2)] [(.ref a1), (.int p2)])) _
    refine st14.trans ?_
    show Steps p.tables e below (T14.setTop (mkF m 5 #[.val (.ref a1), .val (.int p2)] [(.int (n - w)), (.int p2)])) _
    refine XS.icmpYes X14.here hx rfl (pc0 := 5) (pc' := 26) rfl (hb hby d4_5) rfl (flt (hreq : ¬ ((n - w) < p2))).2.2.2 (by decide) (by decide) ?_
    show Steps p.tables e below (T14.setTop (mkF m 26 #[.val (.ref a1), .val (.int p2)] [])) _
    exact X14.returnOut hx Bd.returns (hb hby d4_26) hr
  · show Q4 Z a1 p2 a2 w k n vs h0 n0 _ T14.heap _
    rw [e14]
    exact ⟨rfl, N14, rfl⟩
theorem d3_0 : decode prog_54_method_10_code 0 = .ok (.aload_n 0, 1) := by decide +kernel
theorem d3_1 : decode prog_54_method_10_code 1 = .ok (.iconst 1, 1) := by decide +kernel
theorem d3_2 : decode prog_54_method_10_code 2 = .ok (.invokevirtual 67, 3) := by decide +kernel
theorem d3_5 : decode prog_54_method_10_code 5 = .ok (.aload_n 0, 1) := by decide +kernel
theorem d3_6 : decode prog_54_method_10_code 6 = .ok (.getfield 7, 3) := by decide +kernel
theorem d3_9 : decode prog_54_method_10_code 9 = .ok (.aload_n 0, 1) := by decide +kernel
theorem d3_10 : decode prog_54_method_10_code 10 = .ok (.dup, 1) := by decide +kernel
theorem d3_11 : decode prog_54_method_10_code 11 = .ok (.getfield 17, 3) := by decide +kernel
theorem d3_14 : decode prog_54_method_10_code 14 = .ok (.dup_x1, 1) := by decide +kernel
theorem d3_15 : decode prog_54_method_10_code 15 = .ok (.iconst 1, 1) := by decide +kernel
theorem d3_16 : decode prog_54_method_10_code 16 = .ok (.iadd, 1) := by decide +kernel
theorem d3_17 : decode prog_54_method_10_code 17 = .ok (.putfield 17, 3) := by decide +kernel
theorem d3_20 : decode prog_54_method_10_code 20 = .ok (.baload, 1) := by decide +kernel
theorem d3_21 : decode prog_54_method_10_code 21 = .ok (.sipush 255, 3) := by decide +kernel
theorem d3_24 : decode prog_54_method_10_code 24 = .ok (.iand, 1) := by decide +kernel
theorem d3_25 : decode prog_54_method_10_code 25 = .ok (.ireturn, 1) := by decide +kernel
theorem ef_3 (m : MethodId) (x0 : Addr) : entryFrame m #[(.ref x0)] 1 = mkF m 0 #[.val (.ref x0)] [] := by first | (simp [entryFrame, mkF, argsToLocals, Value.category]; done) | rfl
def Q3 (Z : State) (a1 : Addr) (a2 : Addr) (w : Int32) (k : ClassId) (n : Int32) (vs : List Value) (b0 : Int32) (h0 : Heap) (n0 : Nat) (v : Option Value) (h : Heap) (L : List Loc) : Prop := v = some (.int (b0 &&& (255 : Int32))) ∧ Fr n0 L ∧ Keep h0 h [a1] ∧ Exa Z h a1 "com/example/tenure/tenure/store/ValueReader" ∧ Fld Z h a1 "com/example/tenure/tenure/store/ValueReader" "bytes" "[B" (.ref a2) ∧ Fld Z h a1 "com/example/tenure/tenure/store/ValueReader" "position" "I" (.int (w + (1 : Int32)))
theorem pd_3 : parseMethodDescriptor "(I)V" = some ⟨[.int], none⟩ := by decide +kernel
set_option maxRecDepth 65536 in
set_option maxHeartbeats 40000000 in
theorem rm3 (l : Launch) (Z : State) (a0 : Array Value) (hw : ∀ d ∈ tables_1, d.before a0 Z = true) (ws : List Jvm.Cond) (a1 : Addr) (a2 : Addr) (w : Int32) (k : ClassId) (n : Int32) (vs : List Value) (b0 : Int32) (h0 : Heap) (n0 : Nat) (Z0 : n0 ≤ h0.size) (E_a1 : Exa Z h0 a1 "com/example/tenure/tenure/store/ValueReader") (F_a1_bytes : Fld Z h0 a1 "com/example/tenure/tenure/store/ValueReader" "bytes" "[B" (.ref a2)) (F_a1_position : Fld Z h0 a1 "com/example/tenure/tenure/store/ValueReader" "position" "I" (.int w)) (V_a2 : Arv Z h0 a2 k .byte n vs (.int (0 : Int32))) (g_a1 : n0 ≤ a1) (ne_a2_a1 : a2 ≠ a1) (hj0 : ¬ w < 0 ∧ w < n) (hr : ¬ (n - w) < (1 : Int32)) (hb0 : vs.getD w.toNatClampNeg (.int (0 : Int32)) = .int b0) :
    MetFree l (⟨"com/example/tenure/tenure/store/ValueReader", "readUnsignedByte", "()I"⟩ : MethodName) (head1 (Jvm.Cond.code (⟨"com/example/tenure/tenure/store/ValueReader", "readUnsignedByte", "()I"⟩ : MethodName) prog_54_method_10_code 1 (some .int) :: ws) ({ frames := 2, cells := 0, slots := 0, locals := 26 } : Room)) (fun a U => a = #[(.ref a1)] ∧ Z.Warmed39 U.vm ∧ U.heap = h0) (fun _ _ _ _ _ => True) (fun _ U o U' => ∃ v L, o = .returned v ∧ Q3 Z a1 a2 w k n vs b0 h0 n0 v U'.heap L ∧ FrameEnd U o U' L ({ frames := 2, cells := 0, slots := 0, locals := 26 } : Room).cells ({ frames := 2, cells := 0, slots := 0, locals := 26 } : Room).slots) := by
  refine MetFree.of_bodySF (plainFor_of_name pn_1) hisR ?_
  intro p e s m args below meth c s₁ Bd hml0 hP hK
  obtain ⟨rfl, hZ, hh⟩ := hP
  have hx := Bd.exec
  have hby := Bd.bytes
  have hml : c.maxLocals = 1 := hml0
  have hown : s.vm.findClass "com/example/tenure/tenure/store/ValueReader" = some m.cls := findClass_of_methodNamed Bd.named
  have hnm := (name_of_methodNamed Bd.named Bd.method).1
  have X0 : Stand p l e ({ frames := 2, cells := 0, slots := 0, locals := 26 } : Room) s m #[(.ref a1)] below meth c s₁ [] 0 0 := Stand.of_body Bd
  have e0 : s₁.heap = h0 := by rw [← hh, Bd.state]; rfl
  have N0 := Fr.nil n0
  have pre0 : ∀ t, Steps p.tables e below (s₁.setTop (mkF m 0 #[.val (.ref a1)] [])) t → Steps p.tables e below (s₁.setTop (entryFrame m #[(.ref a1)] 1)) t := fun t k => castTop (ef_3 m a1) k
  obtain ⟨cq15, qq15, qr15⟩ := E_a1.cell
  obtain ⟨_, _, ⟨T15, L15, k15, n15⟩, -, X15, ⟨Lc15, hQ15, l15, y15, z15⟩, st15⟩ := X0.privateBack hx (y := (⟨"com/example/tenure/tenure/store/ValueReader", "require", "(I)V"⟩ : MethodName)) hown (mvT hZ (hw _ (List.mem_of_getElem? (i := 19) rfl))) (mvT hZ (hw _ (List.mem_of_getElem? (i := 20) rfl))) (own_sel (mvT hZ (hw _ (List.mem_of_getElem? (i := 20) rfl))) (mvP hZ (hw _ (List.mem_of_getElem? (i := 21) rfl))) (mvT hZ (hw _ (List.mem_of_getElem? (i := 2) rfl))) (by decide)) (Cond.privateMethod_at (mvP hZ (hw _ (List.mem_of_getElem? (i := 21) rfl)) (args := #[]))) (mvT hZ (hw _ (List.mem_of_getElem? (i := 22) rfl))) (by decide) (backOf (W := 0) (rm4 l Z a0 hw [] a1 (1 : Int32) a2 w k n (vs : List Value) h0 n0 Z0 E_a1 F_a1_bytes F_a1_position V_a2 hr) hZ (hw _ (List.mem_of_getElem? (i := 22) rfl)) (hw _ (List.mem_of_getElem? (i := 3) rfl)) (by decide) (by decide)) (g := (mkF m 2 #[.val (.ref a1)] [(.int (1 : Int32)), (.ref a1)])) rfl (by rw [hml]; rfl) (Steps.refl _) (a := a1) (by rw [e0]; exact qq15) qr15 (argsL := [(.int (1 : Int32))]) (rest := []) (lenOf pd_3 rfl) rfl (by show 2 * 0 + _ ≤ _; exact Nat.le_of_eq rfl) (hb hby d3_2) (fun _ _ => ⟨rfl, e0, (by decide : 0 + 0 ≤ _), (by decide : 0 + 0 ≤ _)⟩)
  dsimp only [Pt.U, Pt.locs, Pt.cells, Pt.slots] at X15 l15 y15 z15 st15 hQ15
  subst l15 y15 z15
  obtain ⟨rfl, Nq15, e15⟩ := hQ15
  have N15 := Fr.app N0 Nq15
  obtain ⟨T16, X16, e16, st16⟩ := getF X15 hx hZ hown (host := "") (Or.inl (hw _ (List.mem_of_getElem? (i := 10) rfl))) Via.refl e15 F_a1_bytes (g := (mkF m 6 #[.val (.ref a1)] [(.ref a1)])) rfl rfl (hb hby d3_6)
  obtain ⟨T17, X17, e17, st17⟩ := getF X16 hx hZ hown (host := "") (Or.inl (hw _ (List.mem_of_getElem? (i := 28) rfl))) Via.refl e16 F_a1_position (g := (mkF m 11 #[.val (.ref a1)] [(.ref a1), (.ref a1), (.ref a2)])) rfl rfl (hb hby d3_11)
  obtain ⟨T18, h18, X18, e18, W18, st18⟩ := putF X17 hx hZ hown (host := "") (Or.inl (hw _ (List.mem_of_getElem? (i := 28) rfl))) Via.refl e17 F_a1_position E_a1 (Or.inl (hw _ (List.mem_of_getElem? (i := 29) rfl))) (hw _ (List.mem_of_getElem? (i := 2) rfl)) (ty := .int) (by decide) rfl rfl (g := (mkF m 17 #[.val (.ref a1)] [(.int (w + (1 : Int32))), (.ref a1), (.int w), (.ref a2)])) rfl rfl (hb hby d3_17)
  have z19 : n0 ≤ h18.size := Nat.le_trans Z0 (Keep.of_wr W18).1
  have fw18 : Fld Z h18 a1 "com/example/tenure/tenure/store/ValueReader" "position" "I" (.int (w + (1 : Int32))) := F_a1_position.same W18
  have N18 := Fr.snoc X18 N15 g_a1
  have K18 : Keep h0 h18 [a1] := (Keep.refl h0 [a1]).wr W18 (Or.inl (List.mem_of_getElem? (i := 0) rfl))
  have f20 : Arv Z h18 a2 k .byte n vs (.int (0 : Int32)) := (V_a2.other W18 ne_a2_a1)
  obtain ⟨cl21, Ar21, q21, S21, M21, H21, G21⟩ := f20
  have hin21 : ¬ (w < 0 ∨ cl21.slots.size ≤ (w).toNatClampNeg) := inb_of S21 hj0
  have hat21 : cl21.slots[(w).toNatClampNeg]? = some (.int b0) := H21.at hin21 hb0
  obtain ⟨fs, hr, hrun, hended, hW, hsame⟩ := X18.leave (v := some (.int (b0 &&& (255 : Int32)))) (fun h => by rw [Bd.returns] at h; cases h)
  refine ⟨_, _, pre0 _ ?_, hrun, hended, _, _, rfl, ?_, ⟨_, rfl⟩, hW, hsame.mono (by decide) (by decide)⟩
  · show Steps p.tables e below (s₁.setTop (mkF m 0 #[.val (.ref a1)] [])) _
    refine XS.aloadN X0.here hx rfl (hb hby d3_0) rfl rfl ?_
    show Steps p.tables e below (s₁.setTop (mkF m 1 #[.val (.ref a1)] [(.ref a1)])) _
    refine XS.iconst X0.here hx rfl (hb hby d3_1) ?_
    show Steps p.tables e below (s₁.setTop (mkF m 2 #[.val (.ref a1)] [(.int (1 : Int32)), (.ref a1)])) _
    refine st15.trans ?_
    show Steps p.tables e below (T15.setTop (mkF m 5 #[.val (.ref a1)] [])) _
    refine XS.aloadN X15.here hx rfl (hb hby d3_5) rfl rfl ?_
    show Steps p.tables e below (T15.setTop (mkF m 6 #[.val (.ref a1)] [(.ref a1)])) _
    refine st16 _ ?_
    show Steps p.tables e below (T16.setTop (mkF m 9 #[.val (.ref a1)] [(.ref a2)])) _
    refine XS.aloadN X16.here hx rfl (hb hby d3_9) rfl rfl ?_
    show Steps p.tables e below (T16.setTop (mkF m 10 #[.val (.ref a1)] [(.ref a1), (.ref a2)])) _
    refine XS.dup X16.here hx rfl (hb hby d3_10) rfl rfl ?_
    show Steps p.tables e below (T16.setTop (mkF m 11 #[.val (.ref a1)] [(.ref a1), (.ref a1), (.ref a2)])) _
    refine st17 _ ?_
    show Steps p.tables e below (T17.setTop (mkF m 14 #[.val (.ref a1)] [(.int w), (.ref a1), (.ref a2)])) _
    refine XS.dupX1 X17.here hx rfl (hb hby d3_14) rfl rfl rfl ?_
    show Steps p.tables e below (T17.setTop (mkF m 15 #[.val (.ref a1)] [(.int w), (.ref a1), (.int w), (.ref a2)])) _
    refine XS.iconst X17.here hx rfl (hb hby d3_15) ?_
    show Steps p.tables e below (T17.setTop (mkF m 16 #[.val (.ref a1)] [(.int (1 : Int32)), (.int w), (.ref a1), (.int w), (.ref a2)])) _
    refine XS.iadd X17.here hx rfl (hb hby d3_16) rfl ?_
    show Steps p.tables e below (T17.setTop (mkF m 17 #[.val (.ref a1)] [(.int (w + (1 : Int32))), (.ref a1), (.int w), (.ref a2)])) _
    refine st18 _ ?_
    show Steps p.tables e below (T18.setTop (mkF m 20 #[.val (.ref a1)] [(.int w), (.ref a2)])) _
    refine X18.baloadBytes hx (j := w) (v := (.int b0)) (by rw [e18]; exact Ar21.1) (State.isArrayOf_alike hZ.alike Ar21.2.1) Ar21.2.2 hin21 hat21 (g := (mkF m 20 #[.val (.ref a1)] [(.int w), (.ref a2)])) rfl rfl (hb hby d3_20) _ ?_
    show Steps p.tables e below (T18.setTop (mkF m 21 #[.val (.ref a1)] [(.int b0)])) _
    refine XS.sipush X18.here hx rfl (hb hby d3_21) ?_
    show Steps p.tables e below (T18.setTop (mkF m 24 #[.val (.ref a1)] [(.int (255 : Int32)), (.int b0)])) _
    refine XS.iand X18.here hx rfl (hb hby d3_24) rfl ?_
    show Steps p.tables e below (T18.setTop (mkF m 25 #[.val (.ref a1)] [(.int (b0 &&& (255 : Int32)))])) _
    exact retI X18 hx Bd.returns (hb hby d3_25) hr
  have f22 : Exa Z h18 a1 "com/example/tenure/tenure/store/ValueReader" := (E_a1.wr W18)
  have f23 : Fld Z h18 a1 "com/example/tenure/tenure/store/ValueReader" "bytes" "[B" (.ref a2) := (F_a1_bytes.other W18 (Or.inr (slot_ne (Or.inr (hw _ (List.mem_of_getElem? (i := 11) rfl))) (Or.inl (hw _ (List.mem_of_getElem? (i := 29) rfl))) (by decide) (t := (.array .byte)) (t' := .int) (by decide) (by decide))))
  · show Q3 Z a1 a2 w k n vs b0 h0 n0 _ T18.heap _
    rw [e18]
    exact ⟨rfl, N18, K18, f22, f23, fw18⟩
def own_uns (p1 : Int32) : Int32 := (if (p1.toInt8.toInt32) < (0 : Int32) then ((p1.toInt8.toInt32) + (256 : Int32)) else (p1.toInt8.toInt32))
theorem d6_0 : decode method_2_code 0 = .ok (.iload_n 0, 1) := by decide +kernel
theorem d6_1 : decode method_2_code 1 = .ok (.i2b, 1) := by decide +kernel
theorem d6_2 : decode method_2_code 2 = .ok (.istore_n 1, 1) := by decide +kernel
theorem d6_3 : decode method_2_code 3 = .ok (.iload_n 1, 1) := by decide +kernel
theorem d6_4 : decode method_2_code 4 = .ok (.ifCond .ge 9, 3) := by decide +kernel
theorem d6_7 : decode method_2_code 7 = .ok (.iload_n 1, 1) := by decide +kernel
theorem d6_8 : decode method_2_code 8 = .ok (.sipush 256, 3) := by decide +kernel
theorem d6_11 : decode method_2_code 11 = .ok (.iadd, 1) := by decide +kernel
theorem d6_12 : decode method_2_code 12 = .ok (.ireturn, 1) := by decide +kernel
theorem d6_13 : decode method_2_code 13 = .ok (.iload_n 1, 1) := by decide +kernel
theorem d6_14 : decode method_2_code 14 = .ok (.ireturn, 1) := by decide +kernel
theorem pn_6 : plainName "com/example/tenure/tenure/store/ValueReaderReadUnsignedBytePinLaw" = true := by first | (simp [plainName, overriddenIn]; done) | decide +kernel
theorem ef_6 (m : MethodId) (x0 : Int32) : entryFrame m #[(.int x0)] 2 = mkF m 0 #[.val (.int x0), .unset] [] := by first | (simp [entryFrame, mkF, argsToLocals, Value.category]; done) | rfl
def Q6 (Z : State) (p1 : Int32) (h0 : Heap) (n0 : Nat) (v : Option Value) (h : Heap) (L : List Loc) : Prop := v = some (.int (own_uns p1)) ∧ Fr n0 L ∧ h = h0
set_option maxRecDepth 65536 in
set_option maxHeartbeats 40000000 in
theorem rm6 (l : Launch) (Z : State) (a0 : Array Value) (hw : ∀ d ∈ tables_1, d.before a0 Z = true) (ws : List Jvm.Cond) (p1 : Int32) (h0 : Heap) (n0 : Nat) (Z0 : n0 ≤ h0.size)  :
    MetFree l (⟨"com/example/tenure/tenure/store/ValueReaderReadUnsignedBytePinLaw", "unsigned", "(I)I"⟩ : MethodName) (head1 (Jvm.Cond.code (⟨"com/example/tenure/tenure/store/ValueReaderReadUnsignedBytePinLaw", "unsigned", "(I)I"⟩ : MethodName) method_2_code 2 (some .int) :: ws) ({ frames := 0, cells := 0, slots := 0, locals := 0 } : Room)) (fun a U => a = #[(.int p1)] ∧ Z.Warmed39 U.vm ∧ U.heap = h0) (fun _ _ _ _ _ => True) (fun _ U o U' => ∃ v L, o = .returned v ∧ Q6 Z p1 h0 n0 v U'.heap L ∧ FrameEnd U o U' L ({ frames := 0, cells := 0, slots := 0, locals := 0 } : Room).cells ({ frames := 0, cells := 0, slots := 0, locals := 0 } : Room).slots) := by
  refine MetFree.of_bodySF (plainFor_of_name pn_6) hisR ?_
  intro p e s m args below meth c s₁ Bd hml0 hP hK
  obtain ⟨rfl, hZ, hh⟩ := hP
  have hx := Bd.exec
  have hby := Bd.bytes
  have hml : c.maxLocals = 2 := hml0
  have hown : s.vm.findClass "com/example/tenure/tenure/store/ValueReaderReadUnsignedBytePinLaw" = some m.cls := findClass_of_methodNamed Bd.named
  have hnm := (name_of_methodNamed Bd.named Bd.method).1
  have X0 : Stand p l e ({ frames := 0, cells := 0, slots := 0, locals := 0 } : Room) s m #[(.int p1)] below meth c s₁ [] 0 0 := Stand.of_body Bd
  have e0 : s₁.heap = h0 := by rw [← hh, Bd.state]; rfl
  have N0 := Fr.nil n0
  have pre0 : ∀ t, Steps p.tables e below (s₁.setTop (mkF m 0 #[.val (.int p1), .unset] [])) t → Steps p.tables e below (s₁.setTop (entryFrame m #[(.int p1)] 2)) t := fun t k => castTop (ef_6 m p1) k
  have pre24 : ∀ t, Steps p.tables e below (s₁.setTop (mkF m 4 #[.val (.int p1), .val (.int (p1.toInt8.toInt32))] [(.int (p1.toInt8.toInt32))])) t → Steps p.tables e below (s₁.setTop (entryFrame m #[(.int p1)] 2)) t := fun t k => pre0 t (by
      show Steps p.tables e below (s₁.setTop (mkF m 0 #[.val (.int p1), .unset] [])) _
      refine XS.iloadN X0.here hx rfl (hb hby d6_0) rfl ?_
      show Steps p.tables e below (s₁.setTop (mkF m 1 #[.val (.int p1), .unset] [(.int p1)])) _
      refine XS.i2b X0.here hx rfl (hb hby d6_1) rfl ?_
      show Steps p.tables e below (s₁.setTop (mkF m 2 #[.val (.int p1), .unset] [(.int (p1.toInt8.toInt32))])) _
      refine XS.istoreN X0.here hx rfl (hb hby d6_2) rfl (l' := #[.val (.int p1), .val (.int (p1.toInt8.toInt32))]) rfl ?_
      show Steps p.tables e below (s₁.setTop (mkF m 3 #[.val (.int p1), .val (.int (p1.toInt8.toInt32))] [])) _
      refine XS.iloadN X0.here hx rfl (hb hby d6_3) rfl ?_
      exact k)
  by_cases hc4_25 : (p1.toInt8.toInt32) < (0 : Int32)
  · obtain ⟨fs, hr, hrun, hended, hW, hsame⟩ := X0.leave (v := some (.int ((p1.toInt8.toInt32) + (256 : Int32)))) (fun h => by rw [Bd.returns] at h; cases h)
    refine ⟨_, _, pre24 _ ?_, hrun, hended, _, _, rfl, ?_, ⟨_, rfl⟩, hW, hsame.mono (by decide) (by decide)⟩
    · show Steps p.tables e below (s₁.setTop (mkF m 4 #[.val (.int p1), .val (.int (p1.toInt8.toInt32))] [(.int (p1.toInt8.toInt32))])) _
      refine XS.ifNo X0.here hx rfl (hb hby d6_4) rfl ((if0 _ _).trans (tlt hc4_25).2.1) ?_
      show Steps p.tables e below (s₁.setTop (mkF m 7 #[.val (.int p1), .val (.int (p1.toInt8.toInt32))] [])) _
      refine XS.iloadN X0.here hx rfl (hb hby d6_7) rfl ?_
      show Steps p.tables e below (s₁.setTop (mkF m 8 #[.val (.int p1), .val (.int (p1.toInt8.toInt32))] [(.int (p1.toInt8.toInt32))])) _
      refine XS.sipush X0.here hx rfl (hb hby d6_8) ?_
      show Steps p.tables e below (s₁.setTop (mkF m 11 #[.val (.int p1), .val (.int (p1.toInt8.toInt32))] [(.int (256 : Int32)), (.int (p1.toInt8.toInt32))])) _
      refine XS.iadd X0.here hx rfl (hb hby d6_11) rfl ?_
      show Steps p.tables e below (s₁.setTop (mkF m 12 #[.val (.int p1), .val (.int (p1.toInt8.toInt32))] [(.int ((p1.toInt8.toInt32) + (256 : Int32)))])) _
      exact retI X0 hx Bd.returns (hb hby d6_12) hr
    · show Q6 Z p1 h0 n0 _ s₁.heap _
      rw [e0]
      exact ⟨(congrArg (fun z => some (Value.int z)) (by simp only [own_uns, if_pos hc4_25] : ((p1.toInt8.toInt32) + (256 : Int32)) = (own_uns p1))), N0, rfl⟩
  · obtain ⟨fs, hr, hrun, hended, hW, hsame⟩ := X0.leave (v := some (.int (p1.toInt8.toInt32))) (fun h => by rw [Bd.returns] at h; cases h)
    refine ⟨_, _, pre24 _ ?_, hrun, hended, _, _, rfl, ?_, ⟨_, rfl⟩, hW, hsame.mono (by decide) (by decide)⟩
    · show Steps p.tables e below (s₁.setTop (mkF m 4 #[.val (.int p1), .val (.int (p1.toInt8.toInt32))] [(.int (p1.toInt8.toInt32))])) _
      refine XS.ifYes X0.here hx rfl (pc0 := 4) (pc' := 13) rfl (hb hby d6_4) rfl ((if0 _ _).trans (flt hc4_25).2.1) (by decide) (by decide) ?_
      show Steps p.tables e below (s₁.setTop (mkF m 13 #[.val (.int p1), .val (.int (p1.toInt8.toInt32))] [])) _
      refine XS.iloadN X0.here hx rfl (hb hby d6_13) rfl ?_
      show Steps p.tables e below (s₁.setTop (mkF m 14 #[.val (.int p1), .val (.int (p1.toInt8.toInt32))] [(.int (p1.toInt8.toInt32))])) _
      exact retI X0 hx Bd.returns (hb hby d6_14) hr
    · show Q6 Z p1 h0 n0 _ s₁.heap _
      rw [e0]
      exact ⟨(congrArg (fun z => some (Value.int z)) (by simp only [own_uns, if_neg hc4_25] : (p1.toInt8.toInt32) = (own_uns p1))), N0, rfl⟩
theorem own_u (p : Int32) : (nar .byte (p.toInt8.toInt32)) &&& (255 : Int32) = own_uns p := by
  unfold own_uns
  show (p.toInt8.toInt32.toInt8.toInt32) &&& (255 : Int32) = _
  rw [Int8.toInt8_toInt32]
  generalize p.toInt8 = b
  revert b
  have h : ∀ v : BitVec 8, ((Int8.ofBitVec v).toInt32 &&& (255 : Int32)) = (if (Int8.ofBitVec v).toInt32 < (0 : Int32) then (Int8.ofBitVec v).toInt32 + (256 : Int32) else (Int8.ofBitVec v).toInt32) := by decide +kernel
  exact fun b => h b.toBitVec
theorem ef_0 (m : MethodId) (x0 : Int32) (x1 : Int32) (x2 : Int32) : entryFrame m #[(.int x0), (.int x1), (.int x2)] maxLocals = mkF m 0 #[.val (.int x0), .val (.int x1), .val (.int x2), .unset, .unset, .unset, .unset, .unset, .unset, .unset, .unset] [] := by first | (simp [entryFrame, mkF, argsToLocals, Value.category, maxLocals]; done) | rfl
def Q0 (Z : State) (p1 : Int32) (p2 : Int32) (p3 : Int32) (h0 : Heap) (n0 : Nat) (v : Option Value) (h : Heap) (L : List Loc) : Prop := v = some (.int (1 : Int32)) ∧ Fr n0 L
theorem pd_0 : parseMethodDescriptor "([BLcom/example/tenure/tenure/store/ClassDictionary;)V" = some ⟨[(.array .byte), (.object "com/example/tenure/tenure/store/ClassDictionary")], none⟩ := by decide +kernel
theorem pd_4 : parseMethodDescriptor "(I)I" = some ⟨[.int], some .int⟩ := by decide +kernel
set_option maxRecDepth 65536 in
set_option maxHeartbeats 40000000 in
theorem rm0 (l : Launch) (Z : State) (a0 : Array Value) (hw : ∀ d ∈ tables_1, d.before a0 Z = true) (ws : List Jvm.Cond) (p1 : Int32) (p2 : Int32) (p3 : Int32) (h0 : Heap) (n0 : Nat) (Z0 : n0 ≤ h0.size)  :
    MetFree l x (head1 (Jvm.Cond.code x code maxLocals ret :: ws) room_1) (fun a U => a = #[(.int p1), (.int p2), (.int p3)] ∧ Z.Warmed39 U.vm ∧ U.heap = h0) (fun _ _ _ _ _ => True) (fun _ U o U' => ∃ v L, o = .returned v ∧ Q0 Z p1 p2 p3 h0 n0 v U'.heap L ∧ FrameEnd U o U' L room_1.cells room_1.slots) := by
  refine MetFree.of_bodySF (plainFor_of_name pn_6) hisR ?_
  intro p e s m args below meth c s₁ Bd hml0 hP hK
  obtain ⟨rfl, hZ, hh⟩ := hP
  have hx := Bd.exec
  have hby := Bd.bytes
  have hml : c.maxLocals = 11 := hml0
  have hown : s.vm.findClass "com/example/tenure/tenure/store/ValueReaderReadUnsignedBytePinLaw" = some m.cls := findClass_of_methodNamed Bd.named
  have hnm := (name_of_methodNamed Bd.named Bd.method).1
  have X0 : Stand p l e room_1 s m #[(.int p1), (.int p2), (.int p3)] below meth c s₁ [] 0 0 := Stand.of_body Bd
  have e0 : s₁.heap = h0 := by rw [← hh, Bd.state]; rfl
  have N0 := Fr.nil n0
  have pre0 : ∀ t, Steps p.tables e below (s₁.setTop (mkF m 0 #[.val (.int p1), .val (.int p2), .val (.int p3), .unset, .unset, .unset, .unset, .unset, .unset, .unset, .unset] [])) t → Steps p.tables e below (s₁.setTop (entryFrame m #[(.int p1), (.int p2), (.int p3)] maxLocals)) t := fun t k => castTop (ef_0 m p1 p2 p3) k
  obtain ⟨T26, h26, k26, X26, e26, E26, A26, st26⟩ := newP X0 hx hZ (hw _ (List.mem_of_getElem? (i := 0) rfl)) e0 (g := (mkF m 1 #[.val (.int p1), .val (.int p2), .val (.int p3), .unset, .unset, .unset, .unset, .unset, .unset, .unset, .unset] [(.int (3 : Int32))])) rfl (hb hby at_1) rfl (by decide) (cap := 3) (by decide) (by decide) (by decide) (by decide)
  obtain ⟨b26, g26⟩ : ∃ z, z = h0.size := ⟨_, rfl⟩
  rw [← g26] at A26 st26
  have g_b26 : n0 ≤ b26 := Nat.le_trans Z0 (Nat.le_of_eq g26.symm)
  have z27 : n0 ≤ h26.size := Nat.le_trans Z0 E26.1
  have V26 : Arv Z h26 b26 k26 .byte (3 : Int32) [(.int (0 : Int32)), (.int (0 : Int32)), (.int (0 : Int32))] (.int (0 : Int32)) := (Arv.new A26 (by decide)).pad (pad_rep [] (.int (0 : Int32)) 3)
  obtain ⟨cl28, Ar28, q28, S28, M28, H28, G28⟩ := V26
  have hin28 : ¬ ((0 : Int32) < 0 ∨ cl28.slots.size ≤ ((0 : Int32)).toNatClampNeg) := inb_of S28 ⟨by decide, by decide⟩
  obtain ⟨T28, h28, X28, e28, W28, st28⟩ := stB X26 hx hZ e26 Ar28 (j := (0 : Int32)) hin28 (g := (mkF m 8 #[.val (.int p1), .val (.int p2), .val (.int p3), .val (.ref b26), .unset, .unset, .unset, .unset, .unset, .unset, .unset] [(.int (p1.toInt8.toInt32)), (.int (0 : Int32)), (.ref b26)])) rfl rfl (hb hby at_8)
  have z29 : n0 ≤ h28.size := Nat.le_trans z27 (Keep.of_wr W28).1
  have V28 : Arv Z h28 b26 k26 .byte (3 : Int32) [(.int (nar .byte (p1.toInt8.toInt32))), (.int (0 : Int32)), (.int (0 : Int32))] (.int (0 : Int32)) := Arv.set Ar28 q28 S28 M28 H28 G28 (fits_nar_byte _) W28 0 rfl (Nat.le_of_ble_eq_true rfl)
  have N28 := Fr.snoc X28 N0 g_b26
  obtain ⟨cl30, Ar30, q30, S30, M30, H30, G30⟩ := V28
  have hin30 : ¬ ((1 : Int32) < 0 ∨ cl30.slots.size ≤ ((1 : Int32)).toNatClampNeg) := inb_of S30 ⟨by decide, by decide⟩
  obtain ⟨T30, h30, X30, e30, W30, st30⟩ := stB X28 hx hZ e28 Ar30 (j := (1 : Int32)) hin30 (g := (mkF m 13 #[.val (.int p1), .val (.int p2), .val (.int p3), .val (.ref b26), .unset, .unset, .unset, .unset, .unset, .unset, .unset] [(.int (p2.toInt8.toInt32)), (.int (1 : Int32)), (.ref b26)])) rfl rfl (hb hby at_13)
  have z31 : n0 ≤ h30.size := Nat.le_trans z29 (Keep.of_wr W30).1
  have V30 : Arv Z h30 b26 k26 .byte (3 : Int32) [(.int (nar .byte (p1.toInt8.toInt32))), (.int (nar .byte (p2.toInt8.toInt32))), (.int (0 : Int32))] (.int (0 : Int32)) := Arv.set Ar30 q30 S30 M30 H30 G30 (fits_nar_byte _) W30 1 rfl (Nat.le_of_ble_eq_true rfl)
  have N30 := Fr.snoc X30 N28 g_b26
  obtain ⟨cl32, Ar32, q32, S32, M32, H32, G32⟩ := V30
  have hin32 : ¬ ((2 : Int32) < 0 ∨ cl32.slots.size ≤ ((2 : Int32)).toNatClampNeg) := inb_of S32 ⟨by decide, by decide⟩
  obtain ⟨T32, h32, X32, e32, W32, st32⟩ := stB X30 hx hZ e30 Ar32 (j := (2 : Int32)) hin32 (g := (mkF m 18 #[.val (.int p1), .val (.int p2), .val (.int p3), .val (.ref b26), .unset, .unset, .unset, .unset, .unset, .unset, .unset] [(.int (p3.toInt8.toInt32)), (.int (2 : Int32)), (.ref b26)])) rfl rfl (hb hby at_18)
  have z33 : n0 ≤ h32.size := Nat.le_trans z31 (Keep.of_wr W32).1
  have V32 : Arv Z h32 b26 k26 .byte (3 : Int32) [(.int (nar .byte (p1.toInt8.toInt32))), (.int (nar .byte (p2.toInt8.toInt32))), (.int (nar .byte (p3.toInt8.toInt32)))] (.int (0 : Int32)) := Arv.set Ar32 q32 S32 M32 H32 G32 (fits_nar_byte _) W32 2 rfl (Nat.le_of_ble_eq_true rfl)
  have N32 := Fr.snoc X32 N30 g_b26
  obtain ⟨T34, h34, X34, e34, E34, A34, D34, -, st34⟩ := newO X32 hx hZ hown (hw _ (List.mem_of_getElem? (i := 1) rfl)) (hw _ (List.mem_of_getElem? (i := 2) rfl)) (hw _ (List.mem_of_getElem? (i := 3) rfl)) e32 (g := (mkF m 19 #[.val (.int p1), .val (.int p2), .val (.int p3), .val (.ref b26), .unset, .unset, .unset, .unset, .unset, .unset, .unset] [])) rfl (hb hby at_19) (by decide) (by decide)
  obtain ⟨b34, g34⟩ : ∃ z, z = h32.size := ⟨_, rfl⟩
  rw [← g34] at A34 D34 st34
  have g_b34 : n0 ≤ b34 := Nat.le_trans z33 (Nat.le_of_eq g34.symm)
  have ne_b26_b34 : b26 ≠ b34 := Nat.ne_of_lt (Nat.lt_of_lt_of_le V32.lt (Nat.le_of_eq g34.symm))
  have z35 : n0 ≤ h34.size := Nat.le_trans z33 E34.1
  have fi34_bytes : Fld Z h34 b34 "com/example/tenure/tenure/store/ValueReader" "bytes" "[B" .null := D34 (Or.inr (hw _ (List.mem_of_getElem? (i := 11) rfl))) (ty := (.array .byte)) (by decide)
  have fi34_dictionary : Fld Z h34 b34 "com/example/tenure/tenure/store/ValueReader" "dictionary" "Lcom/example/tenure/tenure/store/ClassDictionary;" .null := D34 (Or.inr (hw _ (List.mem_of_getElem? (i := 13) rfl))) (ty := (.object "com/example/tenure/tenure/store/ClassDictionary")) (by decide)
  have fi34_position : Fld Z h34 b34 "com/example/tenure/tenure/store/ValueReader" "position" "I" (.int (0 : Int32)) := D34 (Or.inl (hw _ (List.mem_of_getElem? (i := 29) rfl))) (ty := .int) (by decide)
  obtain ⟨_, _, ⟨T36, L36, k36, n36⟩, -, X36, ⟨Lc36, hQ36, l36, y36, z36⟩, st36⟩ := X34.specialBack hx (y := (⟨"com/example/tenure/tenure/store/ValueReader", "<init>", "([BLcom/example/tenure/tenure/store/ClassDictionary;)V"⟩ : MethodName)) rfl hown (mvT hZ (hw _ (List.mem_of_getElem? (i := 4) rfl))) (mvT hZ (hw _ (List.mem_of_getElem? (i := 5) rfl))) (mvT hZ (hw _ (List.mem_of_getElem? (i := 6) rfl))) (by decide) (backOf (W := 1) (rm1 l Z a0 hw [] b34 b26 h34 n0 z35 A34 fi34_bytes fi34_dictionary fi34_position g_b34) hZ (hw _ (List.mem_of_getElem? (i := 6) rfl)) (hw _ (List.mem_of_getElem? (i := 3) rfl)) (by decide) (by decide)) (g := (mkF m 25 #[.val (.int p1), .val (.int p2), .val (.int p3), .val (.ref b26), .unset, .unset, .unset, .unset, .unset, .unset, .unset] [.null, (.ref b26), (.ref b34), (.ref b34)])) rfl (by rw [hml]; rfl) (Steps.refl _) (a := b34) (argsL := [(.ref b26), .null]) (rest := [(.ref b34)]) (lenOf pd_0 rfl) rfl (by show 2 * 0 + _ ≤ _; exact Nat.le_of_eq rfl) (hb hby at_25) (fun _ _ => ⟨rfl, e34, (by decide : 2 + 0 ≤ _), (by decide : 6 + 0 ≤ _)⟩)
  dsimp only [Pt.U, Pt.locs, Pt.cells, Pt.slots] at X36 l36 y36 z36 st36 hQ36
  subst l36 y36 z36
  obtain ⟨rfl, Nq36, K36, po36_0, po36_1, po36_2⟩ := hQ36
  have z37 : n0 ≤ T36.heap.size := Nat.le_trans z35 K36.1
  have N36 := Fr.app N32 Nq36
  have f38 : Arv Z T36.heap b26 k26 .byte (3 : Int32) [(.int (nar .byte (p1.toInt8.toInt32))), (.int (nar .byte (p2.toInt8.toInt32))), (.int (nar .byte (p3.toInt8.toInt32)))] (.int (0 : Int32)) := ((V32.ext E34).keep K36 (ninS ne_b26_b34 nin0))
  obtain ⟨cq39, kq39, qa39, qb39, qc39⟩ := isOf hZ rfl po36_0
  obtain ⟨_, _, ⟨T39, L39, k39, n39⟩, -, X39, ⟨Lc39, hQ39, l39, y39, z39⟩, st39⟩ := X36.virtualBack hx (y := (⟨"com/example/tenure/tenure/store/ValueReader", "readUnsignedByte", "()I"⟩ : MethodName)) (z := (⟨"com/example/tenure/tenure/store/ValueReader", "readUnsignedByte", "()I"⟩ : MethodName)) hown (mvT hZ (hw _ (List.mem_of_getElem? (i := 14) rfl))) (mvT hZ (hw _ (List.mem_of_getElem? (i := 15) rfl))) (notFace_of_selects (args := #[]) (mvT hZ (hw _ (List.mem_of_getElem? (i := 17) rfl)))) (mvT hZ (hw _ (List.mem_of_getElem? (i := 17) rfl))) (mvT hZ (hw _ (List.mem_of_getElem? (i := 16) rfl))) (by decide) (backOf (W := 0) (rm3 l Z a0 hw [] b34 b26 (0 : Int32) k26 (3 : Int32) ([(.int (nar .byte (p1.toInt8.toInt32))), (.int (nar .byte (p2.toInt8.toInt32))), (.int (nar .byte (p3.toInt8.toInt32)))] : List Value) (nar .byte (p1.toInt8.toInt32)) T36.heap n0 z37 po36_0 po36_1 po36_2 f38 g_b34 ne_b26_b34 ⟨by decide, by decide⟩ (by decide) rfl) hZ (hw _ (List.mem_of_getElem? (i := 18) rfl)) (hw _ (List.mem_of_getElem? (i := 3) rfl)) (by decide) (by decide)) qa39 qc39 (g := (mkF m 32 #[.val (.int p1), .val (.int p2), .val (.int p3), .val (.ref b26), .val (.ref b34), .unset, .unset, .unset, .unset, .unset, .unset] [(.ref b34)])) rfl (by rw [hml]; rfl) (Steps.refl _) (argsL := []) (rest := []) (lenOf pd_2 rfl) rfl (by show 2 * 0 + _ ≤ _; exact Nat.le_of_eq rfl) (hb hby at_32) (fun _ _ => ⟨rfl, rfl, (by decide : 2 + 0 ≤ _), (by decide : 6 + 0 ≤ _)⟩)
  dsimp only [Pt.U, Pt.locs, Pt.cells, Pt.slots] at X39 l39 y39 z39 st39 hQ39
  subst l39 y39 z39
  obtain ⟨rfl, Nq39, K39, po39_0, po39_1, po39_2⟩ := hQ39
  have z40 : n0 ≤ T39.heap.size := Nat.le_trans z37 K39.1
  have N39 := Fr.app N36 Nq39
  have f41 : Arv Z T39.heap b26 k26 .byte (3 : Int32) [(.int (nar .byte (p1.toInt8.toInt32))), (.int (nar .byte (p2.toInt8.toInt32))), (.int (nar .byte (p3.toInt8.toInt32)))] (.int (0 : Int32)) := (f38.keep K39 (ninS ne_b26_b34 nin0))
  obtain ⟨cq42, kq42, qa42, qb42, qc42⟩ := isOf hZ rfl po39_0
  obtain ⟨_, _, ⟨T42, L42, k42, n42⟩, -, X42, ⟨Lc42, hQ42, l42, y42, z42⟩, st42⟩ := X39.virtualBack hx (y := (⟨"com/example/tenure/tenure/store/ValueReader", "available", "()I"⟩ : MethodName)) (z := (⟨"com/example/tenure/tenure/store/ValueReader", "available", "()I"⟩ : MethodName)) hown (mvT hZ (hw _ (List.mem_of_getElem? (i := 30) rfl))) (mvT hZ (hw _ (List.mem_of_getElem? (i := 24) rfl))) (notFace_of_selects (args := #[]) (mvT hZ (hw _ (List.mem_of_getElem? (i := 26) rfl)))) (mvT hZ (hw _ (List.mem_of_getElem? (i := 26) rfl))) (mvT hZ (hw _ (List.mem_of_getElem? (i := 25) rfl))) (by decide) (backOf (W := 0) (rm5 l Z a0 hw [] b34 b26 (1 : Int32) k26 (3 : Int32) ([(.int (nar .byte (p1.toInt8.toInt32))), (.int (nar .byte (p2.toInt8.toInt32))), (.int (nar .byte (p3.toInt8.toInt32)))] : List Value) T39.heap n0 z40 po39_0 po39_1 po39_2 f41) hZ (hw _ (List.mem_of_getElem? (i := 27) rfl)) (hw _ (List.mem_of_getElem? (i := 3) rfl)) (by decide) (by decide)) qa42 qc42 (g := (mkF m 39 #[.val (.int p1), .val (.int p2), .val (.int p3), .val (.ref b26), .val (.ref b34), .val (.int ((nar .byte (p1.toInt8.toInt32)) &&& (255 : Int32))), .unset, .unset, .unset, .unset, .unset] [(.ref b34)])) rfl (by rw [hml]; rfl) (Steps.refl _) (argsL := []) (rest := []) (lenOf pd_2 rfl) rfl (by show 2 * 0 + _ ≤ _; exact Nat.le_of_eq rfl) (hb hby at_39) (fun _ _ => ⟨rfl, rfl, (by decide : 2 + 0 ≤ _), (by decide : 6 + 0 ≤ _)⟩)
  dsimp only [Pt.U, Pt.locs, Pt.cells, Pt.slots] at X42 l42 y42 z42 st42 hQ42
  subst l42 y42 z42
  obtain ⟨rfl, Nq42, e42⟩ := hQ42
  have N42 := Fr.app N39 Nq42
  obtain ⟨cq43, kq43, qa43, qb43, qc43⟩ := isOf hZ e42 po39_0
  obtain ⟨_, _, ⟨T43, L43, k43, n43⟩, -, X43, ⟨Lc43, hQ43, l43, y43, z43⟩, st43⟩ := X42.virtualBack hx (y := (⟨"com/example/tenure/tenure/store/ValueReader", "readUnsignedByte", "()I"⟩ : MethodName)) (z := (⟨"com/example/tenure/tenure/store/ValueReader", "readUnsignedByte", "()I"⟩ : MethodName)) hown (mvT hZ (hw _ (List.mem_of_getElem? (i := 14) rfl))) (mvT hZ (hw _ (List.mem_of_getElem? (i := 15) rfl))) (notFace_of_selects (args := #[]) (mvT hZ (hw _ (List.mem_of_getElem? (i := 17) rfl)))) (mvT hZ (hw _ (List.mem_of_getElem? (i := 17) rfl))) (mvT hZ (hw _ (List.mem_of_getElem? (i := 16) rfl))) (by decide) (backOf (W := 0) (rm3 l Z a0 hw [] b34 b26 (1 : Int32) k26 (3 : Int32) ([(.int (nar .byte (p1.toInt8.toInt32))), (.int (nar .byte (p2.toInt8.toInt32))), (.int (nar .byte (p3.toInt8.toInt32)))] : List Value) (nar .byte (p2.toInt8.toInt32)) T39.heap n0 z40 po39_0 po39_1 po39_2 f41 g_b34 ne_b26_b34 ⟨by decide, by decide⟩ (by decide) rfl) hZ (hw _ (List.mem_of_getElem? (i := 18) rfl)) (hw _ (List.mem_of_getElem? (i := 3) rfl)) (by decide) (by decide)) qa43 qc43 (g := (mkF m 46 #[.val (.int p1), .val (.int p2), .val (.int p3), .val (.ref b26), .val (.ref b34), .val (.int ((nar .byte (p1.toInt8.toInt32)) &&& (255 : Int32))), .val (.int (2 : Int32)), .unset, .unset, .unset, .unset] [(.ref b34)])) rfl (by rw [hml]; rfl) (Steps.refl _) (argsL := []) (rest := []) (lenOf pd_2 rfl) rfl (by show 2 * 0 + _ ≤ _; exact Nat.le_of_eq rfl) (hb hby at_46) (fun _ _ => ⟨rfl, e42, (by decide : 2 + 0 ≤ _), (by decide : 6 + 0 ≤ _)⟩)
  dsimp only [Pt.U, Pt.locs, Pt.cells, Pt.slots] at X43 l43 y43 z43 st43 hQ43
  subst l43 y43 z43
  obtain ⟨rfl, Nq43, K43, po43_0, po43_1, po43_2⟩ := hQ43
  have z44 : n0 ≤ T43.heap.size := Nat.le_trans z40 K43.1
  have N43 := Fr.app N42 Nq43
  have f45 : Arv Z T43.heap b26 k26 .byte (3 : Int32) [(.int (nar .byte (p1.toInt8.toInt32))), (.int (nar .byte (p2.toInt8.toInt32))), (.int (nar .byte (p3.toInt8.toInt32)))] (.int (0 : Int32)) := (f41.keep K43 (ninS ne_b26_b34 nin0))
  obtain ⟨cq46, kq46, qa46, qb46, qc46⟩ := isOf hZ rfl po43_0
  obtain ⟨_, _, ⟨T46, L46, k46, n46⟩, -, X46, ⟨Lc46, hQ46, l46, y46, z46⟩, st46⟩ := X43.virtualBack hx (y := (⟨"com/example/tenure/tenure/store/ValueReader", "available", "()I"⟩ : MethodName)) (z := (⟨"com/example/tenure/tenure/store/ValueReader", "available", "()I"⟩ : MethodName)) hown (mvT hZ (hw _ (List.mem_of_getElem? (i := 30) rfl))) (mvT hZ (hw _ (List.mem_of_getElem? (i := 24) rfl))) (notFace_of_selects (args := #[]) (mvT hZ (hw _ (List.mem_of_getElem? (i := 26) rfl)))) (mvT hZ (hw _ (List.mem_of_getElem? (i := 26) rfl))) (mvT hZ (hw _ (List.mem_of_getElem? (i := 25) rfl))) (by decide) (backOf (W := 0) (rm5 l Z a0 hw [] b34 b26 (2 : Int32) k26 (3 : Int32) ([(.int (nar .byte (p1.toInt8.toInt32))), (.int (nar .byte (p2.toInt8.toInt32))), (.int (nar .byte (p3.toInt8.toInt32)))] : List Value) T43.heap n0 z44 po43_0 po43_1 po43_2 f45) hZ (hw _ (List.mem_of_getElem? (i := 27) rfl)) (hw _ (List.mem_of_getElem? (i := 3) rfl)) (by decide) (by decide)) qa46 qc46 (g := (mkF m 53 #[.val (.int p1), .val (.int p2), .val (.int p3), .val (.ref b26), .val (.ref b34), .val (.int ((nar .byte (p1.toInt8.toInt32)) &&& (255 : Int32))), .val (.int (2 : Int32)), .val (.int ((nar .byte (p2.toInt8.toInt32)) &&& (255 : Int32))), .unset, .unset, .unset] [(.ref b34)])) rfl (by rw [hml]; rfl) (Steps.refl _) (argsL := []) (rest := []) (lenOf pd_2 rfl) rfl (by show 2 * 0 + _ ≤ _; exact Nat.le_of_eq rfl) (hb hby at_53) (fun _ _ => ⟨rfl, rfl, (by decide : 2 + 0 ≤ _), (by decide : 6 + 0 ≤ _)⟩)
  dsimp only [Pt.U, Pt.locs, Pt.cells, Pt.slots] at X46 l46 y46 z46 st46 hQ46
  subst l46 y46 z46
  obtain ⟨rfl, Nq46, e46⟩ := hQ46
  have N46 := Fr.app N43 Nq46
  obtain ⟨cq47, kq47, qa47, qb47, qc47⟩ := isOf hZ e46 po43_0
  obtain ⟨_, _, ⟨T47, L47, k47, n47⟩, -, X47, ⟨Lc47, hQ47, l47, y47, z47⟩, st47⟩ := X46.virtualBack hx (y := (⟨"com/example/tenure/tenure/store/ValueReader", "readUnsignedByte", "()I"⟩ : MethodName)) (z := (⟨"com/example/tenure/tenure/store/ValueReader", "readUnsignedByte", "()I"⟩ : MethodName)) hown (mvT hZ (hw _ (List.mem_of_getElem? (i := 14) rfl))) (mvT hZ (hw _ (List.mem_of_getElem? (i := 15) rfl))) (notFace_of_selects (args := #[]) (mvT hZ (hw _ (List.mem_of_getElem? (i := 17) rfl)))) (mvT hZ (hw _ (List.mem_of_getElem? (i := 17) rfl))) (mvT hZ (hw _ (List.mem_of_getElem? (i := 16) rfl))) (by decide) (backOf (W := 0) (rm3 l Z a0 hw [] b34 b26 (2 : Int32) k26 (3 : Int32) ([(.int (nar .byte (p1.toInt8.toInt32))), (.int (nar .byte (p2.toInt8.toInt32))), (.int (nar .byte (p3.toInt8.toInt32)))] : List Value) (nar .byte (p3.toInt8.toInt32)) T43.heap n0 z44 po43_0 po43_1 po43_2 f45 g_b34 ne_b26_b34 ⟨by decide, by decide⟩ (by decide) rfl) hZ (hw _ (List.mem_of_getElem? (i := 18) rfl)) (hw _ (List.mem_of_getElem? (i := 3) rfl)) (by decide) (by decide)) qa47 qc47 (g := (mkF m 60 #[.val (.int p1), .val (.int p2), .val (.int p3), .val (.ref b26), .val (.ref b34), .val (.int ((nar .byte (p1.toInt8.toInt32)) &&& (255 : Int32))), .val (.int (2 : Int32)), .val (.int ((nar .byte (p2.toInt8.toInt32)) &&& (255 : Int32))), .val (.int (1 : Int32)), .unset, .unset] [(.ref b34)])) rfl (by rw [hml]; rfl) (Steps.refl _) (argsL := []) (rest := []) (lenOf pd_2 rfl) rfl (by show 2 * 0 + _ ≤ _; exact Nat.le_of_eq rfl) (hb hby at_60) (fun _ _ => ⟨rfl, e46, (by decide : 2 + 0 ≤ _), (by decide : 6 + 0 ≤ _)⟩)
  dsimp only [Pt.U, Pt.locs, Pt.cells, Pt.slots] at X47 l47 y47 z47 st47 hQ47
  subst l47 y47 z47
  obtain ⟨rfl, Nq47, K47, po47_0, po47_1, po47_2⟩ := hQ47
  have z48 : n0 ≤ T47.heap.size := Nat.le_trans z44 K47.1
  have N47 := Fr.app N46 Nq47
  have f49 : Arv Z T47.heap b26 k26 .byte (3 : Int32) [(.int (nar .byte (p1.toInt8.toInt32))), (.int (nar .byte (p2.toInt8.toInt32))), (.int (nar .byte (p3.toInt8.toInt32)))] (.int (0 : Int32)) := (f45.keep K47 (ninS ne_b26_b34 nin0))
  obtain ⟨cq50, kq50, qa50, qb50, qc50⟩ := isOf hZ rfl po47_0
  obtain ⟨_, _, ⟨T50, L50, k50, n50⟩, -, X50, ⟨Lc50, hQ50, l50, y50, z50⟩, st50⟩ := X47.virtualBack hx (y := (⟨"com/example/tenure/tenure/store/ValueReader", "available", "()I"⟩ : MethodName)) (z := (⟨"com/example/tenure/tenure/store/ValueReader", "available", "()I"⟩ : MethodName)) hown (mvT hZ (hw _ (List.mem_of_getElem? (i := 30) rfl))) (mvT hZ (hw _ (List.mem_of_getElem? (i := 24) rfl))) (notFace_of_selects (args := #[]) (mvT hZ (hw _ (List.mem_of_getElem? (i := 26) rfl)))) (mvT hZ (hw _ (List.mem_of_getElem? (i := 26) rfl))) (mvT hZ (hw _ (List.mem_of_getElem? (i := 25) rfl))) (by decide) (backOf (W := 0) (rm5 l Z a0 hw [] b34 b26 (3 : Int32) k26 (3 : Int32) ([(.int (nar .byte (p1.toInt8.toInt32))), (.int (nar .byte (p2.toInt8.toInt32))), (.int (nar .byte (p3.toInt8.toInt32)))] : List Value) T47.heap n0 z48 po47_0 po47_1 po47_2 f49) hZ (hw _ (List.mem_of_getElem? (i := 27) rfl)) (hw _ (List.mem_of_getElem? (i := 3) rfl)) (by decide) (by decide)) qa50 qc50 (g := (mkF m 67 #[.val (.int p1), .val (.int p2), .val (.int p3), .val (.ref b26), .val (.ref b34), .val (.int ((nar .byte (p1.toInt8.toInt32)) &&& (255 : Int32))), .val (.int (2 : Int32)), .val (.int ((nar .byte (p2.toInt8.toInt32)) &&& (255 : Int32))), .val (.int (1 : Int32)), .val (.int ((nar .byte (p3.toInt8.toInt32)) &&& (255 : Int32))), .unset] [(.ref b34)])) rfl (by rw [hml]; rfl) (Steps.refl _) (argsL := []) (rest := []) (lenOf pd_2 rfl) rfl (by show 2 * 0 + _ ≤ _; exact Nat.le_of_eq rfl) (hb hby at_67) (fun _ _ => ⟨rfl, rfl, (by decide : 2 + 0 ≤ _), (by decide : 6 + 0 ≤ _)⟩)
  dsimp only [Pt.U, Pt.locs, Pt.cells, Pt.slots] at X50 l50 y50 z50 st50 hQ50
  subst l50 y50 z50
  obtain ⟨rfl, Nq50, e50⟩ := hQ50
  have N50 := Fr.app N47 Nq50
  obtain ⟨_, _, ⟨T51, L51, k51, n51⟩, -, X51, ⟨Lc51, hQ51, l51, y51, z51⟩, st51⟩ := Jvm.LawKit.callS X50 hx (y := (⟨"com/example/tenure/tenure/store/ValueReaderReadUnsignedBytePinLaw", "unsigned", "(I)I"⟩ : MethodName)) hown (mvT hZ (hw _ (List.mem_of_getElem? (i := 31) rfl))) (mvT hZ (hw _ (List.mem_of_getElem? (i := 32) rfl))) (mvT hZ (hw _ (List.mem_of_getElem? (i := 33) rfl))) (mvT hZ (hw _ (List.mem_of_getElem? (i := 34) rfl))) (by decide) (backOf (W := 1) (rm6 l Z a0 hw [] p1 T47.heap n0 z48 ) hZ (hw _ (List.mem_of_getElem? (i := 34) rfl)) (hw _ (List.mem_of_getElem? (i := 33) rfl)) (by decide) (by decide)) (g := (mkF m 75 #[.val (.int p1), .val (.int p2), .val (.int p3), .val (.ref b26), .val (.ref b34), .val (.int ((nar .byte (p1.toInt8.toInt32)) &&& (255 : Int32))), .val (.int (2 : Int32)), .val (.int ((nar .byte (p2.toInt8.toInt32)) &&& (255 : Int32))), .val (.int (1 : Int32)), .val (.int ((nar .byte (p3.toInt8.toInt32)) &&& (255 : Int32))), .val (.int (0 : Int32))] [(.int p1), (.int ((nar .byte (p1.toInt8.toInt32)) &&& (255 : Int32)))])) rfl (by rw [hml]; rfl) (argsL := [(.int p1)]) (rest := [(.int ((nar .byte (p1.toInt8.toInt32)) &&& (255 : Int32)))]) (lenOf pd_4 rfl) rfl (by show 2 * 0 + _ ≤ _; exact Nat.le_of_eq rfl) (hb hby at_75) (fun _ _ => ⟨rfl, e50, (by decide : 2 + 0 ≤ _), (by decide : 6 + 0 ≤ _)⟩)
  dsimp only [Pt.U, Pt.locs, Pt.cells, Pt.slots] at X51 l51 y51 z51 st51 hQ51
  subst l51 y51 z51
  obtain ⟨rfl, Nq51, e51⟩ := hQ51
  have N51 := Fr.app N50 Nq51
  obtain ⟨_, _, ⟨T52, L52, k52, n52⟩, -, X52, ⟨Lc52, hQ52, l52, y52, z52⟩, st52⟩ := Jvm.LawKit.callS X51 hx (y := (⟨"com/example/tenure/tenure/store/ValueReaderReadUnsignedBytePinLaw", "unsigned", "(I)I"⟩ : MethodName)) hown (mvT hZ (hw _ (List.mem_of_getElem? (i := 31) rfl))) (mvT hZ (hw _ (List.mem_of_getElem? (i := 32) rfl))) (mvT hZ (hw _ (List.mem_of_getElem? (i := 33) rfl))) (mvT hZ (hw _ (List.mem_of_getElem? (i := 34) rfl))) (by decide) (backOf (W := 1) (rm6 l Z a0 hw [] p2 T47.heap n0 z48 ) hZ (hw _ (List.mem_of_getElem? (i := 34) rfl)) (hw _ (List.mem_of_getElem? (i := 33) rfl)) (by decide) (by decide)) (g := (mkF m 90 #[.val (.int p1), .val (.int p2), .val (.int p3), .val (.ref b26), .val (.ref b34), .val (.int ((nar .byte (p1.toInt8.toInt32)) &&& (255 : Int32))), .val (.int (2 : Int32)), .val (.int ((nar .byte (p2.toInt8.toInt32)) &&& (255 : Int32))), .val (.int (1 : Int32)), .val (.int ((nar .byte (p3.toInt8.toInt32)) &&& (255 : Int32))), .val (.int (0 : Int32))] [(.int p2), (.int ((nar .byte (p2.toInt8.toInt32)) &&& (255 : Int32)))])) rfl (by rw [hml]; rfl) (argsL := [(.int p2)]) (rest := [(.int ((nar .byte (p2.toInt8.toInt32)) &&& (255 : Int32)))]) (lenOf pd_4 rfl) rfl (by show 2 * 0 + _ ≤ _; exact Nat.le_of_eq rfl) (hb hby at_90) (fun _ _ => ⟨rfl, e51, (by decide : 2 + 0 ≤ _), (by decide : 6 + 0 ≤ _)⟩)
  dsimp only [Pt.U, Pt.locs, Pt.cells, Pt.slots] at X52 l52 y52 z52 st52 hQ52
  subst l52 y52 z52
  obtain ⟨rfl, Nq52, e52⟩ := hQ52
  have N52 := Fr.app N51 Nq52
  obtain ⟨_, _, ⟨T53, L53, k53, n53⟩, -, X53, ⟨Lc53, hQ53, l53, y53, z53⟩, st53⟩ := Jvm.LawKit.callS X52 hx (y := (⟨"com/example/tenure/tenure/store/ValueReaderReadUnsignedBytePinLaw", "unsigned", "(I)I"⟩ : MethodName)) hown (mvT hZ (hw _ (List.mem_of_getElem? (i := 31) rfl))) (mvT hZ (hw _ (List.mem_of_getElem? (i := 32) rfl))) (mvT hZ (hw _ (List.mem_of_getElem? (i := 33) rfl))) (mvT hZ (hw _ (List.mem_of_getElem? (i := 34) rfl))) (by decide) (backOf (W := 1) (rm6 l Z a0 hw [] p3 T47.heap n0 z48 ) hZ (hw _ (List.mem_of_getElem? (i := 34) rfl)) (hw _ (List.mem_of_getElem? (i := 33) rfl)) (by decide) (by decide)) (g := (mkF m 105 #[.val (.int p1), .val (.int p2), .val (.int p3), .val (.ref b26), .val (.ref b34), .val (.int ((nar .byte (p1.toInt8.toInt32)) &&& (255 : Int32))), .val (.int (2 : Int32)), .val (.int ((nar .byte (p2.toInt8.toInt32)) &&& (255 : Int32))), .val (.int (1 : Int32)), .val (.int ((nar .byte (p3.toInt8.toInt32)) &&& (255 : Int32))), .val (.int (0 : Int32))] [(.int p3), (.int ((nar .byte (p3.toInt8.toInt32)) &&& (255 : Int32)))])) rfl (by rw [hml]; rfl) (argsL := [(.int p3)]) (rest := [(.int ((nar .byte (p3.toInt8.toInt32)) &&& (255 : Int32)))]) (lenOf pd_4 rfl) rfl (by show 2 * 0 + _ ≤ _; exact Nat.le_of_eq rfl) (hb hby at_105) (fun _ _ => ⟨rfl, e52, (by decide : 2 + 0 ≤ _), (by decide : 6 + 0 ≤ _)⟩)
  dsimp only [Pt.U, Pt.locs, Pt.cells, Pt.slots] at X53 l53 y53 z53 st53 hQ53
  subst l53 y53 z53
  obtain ⟨rfl, Nq53, e53⟩ := hQ53
  have N53 := Fr.app N52 Nq53
  obtain ⟨fs, hr, hrun, hended, hW, hsame⟩ := X53.leave (v := some (.int (1 : Int32))) (fun h => by rw [Bd.returns] at h; cases h)
  refine ⟨_, _, pre0 _ ?_, hrun, hended, _, _, rfl, ?_, ⟨_, rfl⟩, hW, hsame.mono (by decide) (by decide)⟩
  · show Steps p.tables e below (s₁.setTop (mkF m 0 #[.val (.int p1), .val (.int p2), .val (.int p3), .unset, .unset, .unset, .unset, .unset, .unset, .unset, .unset] [])) _
    refine XS.iconst X0.here hx rfl (hb hby at_0) ?_
    show Steps p.tables e below (s₁.setTop (mkF m 1 #[.val (.int p1), .val (.int p2), .val (.int p3), .unset, .unset, .unset, .unset, .unset, .unset, .unset, .unset] [(.int (3 : Int32))])) _
    refine st26 _ ?_
    show Steps p.tables e below (T26.setTop (mkF m 3 #[.val (.int p1), .val (.int p2), .val (.int p3), .unset, .unset, .unset, .unset, .unset, .unset, .unset, .unset] [(.ref b26)])) _
    refine XS.astoreN X26.here hx rfl (hb hby at_3) rfl rfl (l' := #[.val (.int p1), .val (.int p2), .val (.int p3), .val (.ref b26), .unset, .unset, .unset, .unset, .unset, .unset, .unset]) rfl ?_
    show Steps p.tables e below (T26.setTop (mkF m 4 #[.val (.int p1), .val (.int p2), .val (.int p3), .val (.ref b26), .unset, .unset, .unset, .unset, .unset, .unset, .unset] [])) _
    refine XS.aloadN X26.here hx rfl (hb hby at_4) rfl rfl ?_
    show Steps p.tables e below (T26.setTop (mkF m 5 #[.val (.int p1), .val (.int p2), .val (.int p3), .val (.ref b26), .unset, .unset, .unset, .unset, .unset, .unset, .unset] [(.ref b26)])) _
    refine XS.iconst X26.here hx rfl (hb hby at_5) ?_
    show Steps p.tables e below (T26.setTop (mkF m 6 #[.val (.int p1), .val (.int p2), .val (.int p3), .val (.ref b26), .unset, .unset, .unset, .unset, .unset, .unset, .unset] [(.int (0 : Int32)), (.ref b26)])) _
    refine XS.iloadN X26.here hx rfl (hb hby at_6) rfl ?_
    show Steps p.tables e below (T26.setTop (mkF m 7 #[.val (.int p1), .val (.int p2), .val (.int p3), .val (.ref b26), .unset, .unset, .unset, .unset, .unset, .unset, .unset] [(.int p1), (.int (0 : Int32)), (.ref b26)])) _
    refine XS.i2b X26.here hx rfl (hb hby at_7) rfl ?_
    show Steps p.tables e below (T26.setTop (mkF m 8 #[.val (.int p1), .val (.int p2), .val (.int p3), .val (.ref b26), .unset, .unset, .unset, .unset, .unset, .unset, .unset] [(.int (p1.toInt8.toInt32)), (.int (0 : Int32)), (.ref b26)])) _
    refine st28 _ ?_
    show Steps p.tables e below (T28.setTop (mkF m 9 #[.val (.int p1), .val (.int p2), .val (.int p3), .val (.ref b26), .unset, .unset, .unset, .unset, .unset, .unset, .unset] [])) _
    refine XS.aloadN X28.here hx rfl (hb hby at_9) rfl rfl ?_
    show Steps p.tables e below (T28.setTop (mkF m 10 #[.val (.int p1), .val (.int p2), .val (.int p3), .val (.ref b26), .unset, .unset, .unset, .unset, .unset, .unset, .unset] [(.ref b26)])) _
    refine XS.iconst X28.here hx rfl (hb hby at_10) ?_
    show Steps p.tables e below (T28.setTop (mkF m 11 #[.val (.int p1), .val (.int p2), .val (.int p3), .val (.ref b26), .unset, .unset, .unset, .unset, .unset, .unset, .unset] [(.int (1 : Int32)), (.ref b26)])) _
    refine XS.iloadN X28.here hx rfl (hb hby at_11) rfl ?_
    show Steps p.tables e below (T28.setTop (mkF m 12 #[.val (.int p1), .val (.int p2), .val (.int p3), .val (.ref b26), .unset, .unset, .unset, .unset, .unset, .unset, .unset] [(.int p2), (.int (1 : Int32)), (.ref b26)])) _
    refine XS.i2b X28.here hx rfl (hb hby at_12) rfl ?_
    show Steps p.tables e below (T28.setTop (mkF m 13 #[.val (.int p1), .val (.int p2), .val (.int p3), .val (.ref b26), .unset, .unset, .unset, .unset, .unset, .unset, .unset] [(.int (p2.toInt8.toInt32)), (.int (1 : Int32)), (.ref b26)])) _
    refine st30 _ ?_
    show Steps p.tables e below (T30.setTop (mkF m 14 #[.val (.int p1), .val (.int p2), .val (.int p3), .val (.ref b26), .unset, .unset, .unset, .unset, .unset, .unset, .unset] [])) _
    refine XS.aloadN X30.here hx rfl (hb hby at_14) rfl rfl ?_
    show Steps p.tables e below (T30.setTop (mkF m 15 #[.val (.int p1), .val (.int p2), .val (.int p3), .val (.ref b26), .unset, .unset, .unset, .unset, .unset, .unset, .unset] [(.ref b26)])) _
    refine XS.iconst X30.here hx rfl (hb hby at_15) ?_
    show Steps p.tables e below (T30.setTop (mkF m 16 #[.val (.int p1), .val (.int p2), .val (.int p3), .val (.ref b26), .unset, .unset, .unset, .unset, .unset, .unset, .unset] [(.int (2 : Int32)), (.ref b26)])) _
    refine XS.iloadN X30.here hx rfl (hb hby at_16) rfl ?_
    show Steps p.tables e below (T30.setTop (mkF m 17 #[.val (.int p1), .val (.int p2), .val (.int p3), .val (.ref b26), .unset, .unset, .unset, .unset, .unset, .unset, .unset] [(.int p3), (.int (2 : Int32)), (.ref b26)])) _
    refine XS.i2b X30.here hx rfl (hb hby at_17) rfl ?_
    show Steps p.tables e below (T30.setTop (mkF m 18 #[.val (.int p1), .val (.int p2), .val (.int p3), .val (.ref b26), .unset, .unset, .unset, .unset, .unset, .unset, .unset] [(.int (p3.toInt8.toInt32)), (.int (2 : Int32)), (.ref b26)])) _
    refine st32 _ ?_
    show Steps p.tables e below (T32.setTop (mkF m 19 #[.val (.int p1), .val (.int p2), .val (.int p3), .val (.ref b26), .unset, .unset, .unset, .unset, .unset, .unset, .unset] [])) _
    refine st34 _ ?_
    show Steps p.tables e below (T34.setTop (mkF m 22 #[.val (.int p1), .val (.int p2), .val (.int p3), .val (.ref b26), .unset, .unset, .unset, .unset, .unset, .unset, .unset] [(.ref b34)])) _
    refine XS.dup X34.here hx rfl (hb hby at_22) rfl rfl ?_
    show Steps p.tables e below (T34.setTop (mkF m 23 #[.val (.int p1), .val (.int p2), .val (.int p3), .val (.ref b26), .unset, .unset, .unset, .unset, .unset, .unset, .unset] [(.ref b34), (.ref b34)])) _
    refine XS.aloadN X34.here hx rfl (hb hby at_23) rfl rfl ?_
    show Steps p.tables e below (T34.setTop (mkF m 24 #[.val (.int p1), .val (.int p2), .val (.int p3), .val (.ref b26), .unset, .unset, .unset, .unset, .unset, .unset, .unset] [(.ref b26), (.ref b34), (.ref b34)])) _
    refine XS.aconstNull X34.here hx rfl (hb hby at_24) ?_
    show Steps p.tables e below (T34.setTop (mkF m 25 #[.val (.int p1), .val (.int p2), .val (.int p3), .val (.ref b26), .unset, .unset, .unset, .unset, .unset, .unset, .unset] [.null, (.ref b26), (.ref b34), (.ref b34)])) _
    refine st36.trans ?_
    show Steps p.tables e below (T36.setTop (mkF m 28 #[.val (.int p1), .val (.int p2), .val (.int p3), .val (.ref b26), .unset, .unset, .unset, .unset, .unset, .unset, .unset] [(.ref b34)])) _
    refine XS.astore X36.here hx rfl (hb hby at_28) rfl rfl (l' := #[.val (.int p1), .val (.int p2), .val (.int p3), .val (.ref b26), .val (.ref b34), .unset, .unset, .unset, .unset, .unset, .unset]) rfl ?_
    show Steps p.tables e below (T36.setTop (mkF m 30 #[.val (.int p1), .val (.int p2), .val (.int p3), .val (.ref b26), .val (.ref b34), .unset, .unset, .unset, .unset, .unset, .unset] [])) _
    refine XS.aload X36.here hx rfl (hb hby at_30) rfl rfl ?_
    show Steps p.tables e below (T36.setTop (mkF m 32 #[.val (.int p1), .val (.int p2), .val (.int p3), .val (.ref b26), .val (.ref b34), .unset, .unset, .unset, .unset, .unset, .unset] [(.ref b34)])) _
    refine st39.trans ?_
    show Steps p.tables e below (T39.setTop (mkF m 35 #[.val (.int p1), .val (.int p2), .val (.int p3), .val (.ref b26), .val (.ref b34), .unset, .unset, .unset, .unset, .unset, .unset] [(.int ((nar .byte (p1.toInt8.toInt32)) &&& (255 : Int32)))])) _
    refine XS.istore X39.here hx rfl (hb hby at_35) rfl (l' := #[.val (.int p1), .val (.int p2), .val (.int p3), .val (.ref b26), .val (.ref b34), .val (.int ((nar .byte (p1.toInt8.toInt32)) &&& (255 : Int32))), .unset, .unset, .unset, .unset, .unset]) rfl ?_
    show Steps p.tables e below (T39.setTop (mkF m 37 #[.val (.int p1), .val (.int p2), .val (.int p3), .val (.ref b26), .val (.ref b34), .val (.int ((nar .byte (p1.toInt8.toInt32)) &&& (255 : Int32))), .unset, .unset, .unset, .unset, .unset] [])) _
    refine XS.aload X39.here hx rfl (hb hby at_37) rfl rfl ?_
    show Steps p.tables e below (T39.setTop (mkF m 39 #[.val (.int p1), .val (.int p2), .val (.int p3), .val (.ref b26), .val (.ref b34), .val (.int ((nar .byte (p1.toInt8.toInt32)) &&& (255 : Int32))), .unset, .unset, .unset, .unset, .unset] [(.ref b34)])) _
    refine st42.trans ?_
    show Steps p.tables e below (T42.setTop (mkF m 42 #[.val (.int p1), .val (.int p2), .val (.int p3), .val (.ref b26), .val (.ref b34), .val (.int ((nar .byte (p1.toInt8.toInt32)) &&& (255 : Int32))), .unset, .unset, .unset, .unset, .unset] [(.int (2 : Int32))])) _
    refine XS.istore X42.here hx rfl (hb hby at_42) rfl (l' := #[.val (.int p1), .val (.int p2), .val (.int p3), .val (.ref b26), .val (.ref b34), .val (.int ((nar .byte (p1.toInt8.toInt32)) &&& (255 : Int32))), .val (.int (2 : Int32)), .unset, .unset, .unset, .unset]) rfl ?_
    show Steps p.tables e below (T42.setTop (mkF m 44 #[.val (.int p1), .val (.int p2), .val (.int p3), .val (.ref b26), .val (.ref b34), .val (.int ((nar .byte (p1.toInt8.toInt32)) &&& (255 : Int32))), .val (.int (2 : Int32)), .unset, .unset, .unset, .unset] [])) _
    refine XS.aload X42.here hx rfl (hb hby at_44) rfl rfl ?_
    show Steps p.tables e below (T42.setTop (mkF m 46 #[.val (.int p1), .val (.int p2), .val (.int p3), .val (.ref b26), .val (.ref b34), .val (.int ((nar .byte (p1.toInt8.toInt32)) &&& (255 : Int32))), .val (.int (2 : Int32)), .unset, .unset, .unset, .unset] [(.ref b34)])) _
    refine st43.trans ?_
    show Steps p.tables e below (T43.setTop (mkF m 49 #[.val (.int p1), .val (.int p2), .val (.int p3), .val (.ref b26), .val (.ref b34), .val (.int ((nar .byte (p1.toInt8.toInt32)) &&& (255 : Int32))), .val (.int (2 : Int32)), .unset, .unset, .unset, .unset] [(.int ((nar .byte (p2.toInt8.toInt32)) &&& (255 : Int32)))])) _
    refine XS.istore X43.here hx rfl (hb hby at_49) rfl (l' := #[.val (.int p1), .val (.int p2), .val (.int p3), .val (.ref b26), .val (.ref b34), .val (.int ((nar .byte (p1.toInt8.toInt32)) &&& (255 : Int32))), .val (.int (2 : Int32)), .val (.int ((nar .byte (p2.toInt8.toInt32)) &&& (255 : Int32))), .unset, .unset, .unset]) rfl ?_
    show Steps p.tables e below (T43.setTop (mkF m 51 #[.val (.int p1), .val (.int p2), .val (.int p3), .val (.ref b26), .val (.ref b34), .val (.int ((nar .byte (p1.toInt8.toInt32)) &&& (255 : Int32))), .val (.int (2 : Int32)), .val (.int ((nar .byte (p2.toInt8.toInt32)) &&& (255 : Int32))), .unset, .unset, .unset] [])) _
    refine XS.aload X43.here hx rfl (hb hby at_51) rfl rfl ?_
    show Steps p.tables e below (T43.setTop (mkF m 53 #[.val (.int p1), .val (.int p2), .val (.int p3), .val (.ref b26), .val (.ref b34), .val (.int ((nar .byte (p1.toInt8.toInt32)) &&& (255 : Int32))), .val (.int (2 : Int32)), .val (.int ((nar .byte (p2.toInt8.toInt32)) &&& (255 : Int32))), .unset, .unset, .unset] [(.ref b34)])) _
    refine st46.trans ?_
    show Steps p.tables e below (T46.setTop (mkF m 56 #[.val (.int p1), .val (.int p2), .val (.int p3), .val (.ref b26), .val (.ref b34), .val (.int ((nar .byte (p1.toInt8.toInt32)) &&& (255 : Int32))), .val (.int (2 : Int32)), .val (.int ((nar .byte (p2.toInt8.toInt32)) &&& (255 : Int32))), .unset, .unset, .unset] [(.int (1 : Int32))])) _
    refine XS.istore X46.here hx rfl (hb hby at_56) rfl (l' := #[.val (.int p1), .val (.int p2), .val (.int p3), .val (.ref b26), .val (.ref b34), .val (.int ((nar .byte (p1.toInt8.toInt32)) &&& (255 : Int32))), .val (.int (2 : Int32)), .val (.int ((nar .byte (p2.toInt8.toInt32)) &&& (255 : Int32))), .val (.int (1 : Int32)), .unset, .unset]) rfl ?_
    show Steps p.tables e below (T46.setTop (mkF m 58 #[.val (.int p1), .val (.int p2), .val (.int p3), .val (.ref b26), .val (.ref b34), .val (.int ((nar .byte (p1.toInt8.toInt32)) &&& (255 : Int32))), .val (.int (2 : Int32)), .val (.int ((nar .byte (p2.toInt8.toInt32)) &&& (255 : Int32))), .val (.int (1 : Int32)), .unset, .unset] [])) _
    refine XS.aload X46.here hx rfl (hb hby at_58) rfl rfl ?_
    show Steps p.tables e below (T46.setTop (mkF m 60 #[.val (.int p1), .val (.int p2), .val (.int p3), .val (.ref b26), .val (.ref b34), .val (.int ((nar .byte (p1.toInt8.toInt32)) &&& (255 : Int32))), .val (.int (2 : Int32)), .val (.int ((nar .byte (p2.toInt8.toInt32)) &&& (255 : Int32))), .val (.int (1 : Int32)), .unset, .unset] [(.ref b34)])) _
    refine st47.trans ?_
    show Steps p.tables e below (T47.setTop (mkF m 63 #[.val (.int p1), .val (.int p2), .val (.int p3), .val (.ref b26), .val (.ref b34), .val (.int ((nar .byte (p1.toInt8.toInt32)) &&& (255 : Int32))), .val (.int (2 : Int32)), .val (.int ((nar .byte (p2.toInt8.toInt32)) &&& (255 : Int32))), .val (.int (1 : Int32)), .unset, .unset] [(.int ((nar .byte (p3.toInt8.toInt32)) &&& (255 : Int32)))])) _
    refine XS.istore X47.here hx rfl (hb hby at_63) rfl (l' := #[.val (.int p1), .val (.int p2), .val (.int p3), .val (.ref b26), .val (.ref b34), .val (.int ((nar .byte (p1.toInt8.toInt32)) &&& (255 : Int32))), .val (.int (2 : Int32)), .val (.int ((nar .byte (p2.toInt8.toInt32)) &&& (255 : Int32))), .val (.int (1 : Int32)), .val (.int ((nar .byte (p3.toInt8.toInt32)) &&& (255 : Int32))), .unset]) rfl ?_
    show Steps p.tables e below (T47.setTop (mkF m 65 #[.val (.int p1), .val (.int p2), .val (.int p3), .val (.ref b26), .val (.ref b34), .val (.int ((nar .byte (p1.toInt8.toInt32)) &&& (255 : Int32))), .val (.int (2 : Int32)), .val (.int ((nar .byte (p2.toInt8.toInt32)) &&& (255 : Int32))), .val (.int (1 : Int32)), .val (.int ((nar .byte (p3.toInt8.toInt32)) &&& (255 : Int32))), .unset] [])) _
    refine XS.aload X47.here hx rfl (hb hby at_65) rfl rfl ?_
    show Steps p.tables e below (T47.setTop (mkF m 67 #[.val (.int p1), .val (.int p2), .val (.int p3), .val (.ref b26), .val (.ref b34), .val (.int ((nar .byte (p1.toInt8.toInt32)) &&& (255 : Int32))), .val (.int (2 : Int32)), .val (.int ((nar .byte (p2.toInt8.toInt32)) &&& (255 : Int32))), .val (.int (1 : Int32)), .val (.int ((nar .byte (p3.toInt8.toInt32)) &&& (255 : Int32))), .unset] [(.ref b34)])) _
    refine st50.trans ?_
    show Steps p.tables e below (T50.setTop (mkF m 70 #[.val (.int p1), .val (.int p2), .val (.int p3), .val (.ref b26), .val (.ref b34), .val (.int ((nar .byte (p1.toInt8.toInt32)) &&& (255 : Int32))), .val (.int (2 : Int32)), .val (.int ((nar .byte (p2.toInt8.toInt32)) &&& (255 : Int32))), .val (.int (1 : Int32)), .val (.int ((nar .byte (p3.toInt8.toInt32)) &&& (255 : Int32))), .unset] [(.int (0 : Int32))])) _
    refine XS.istore X50.here hx rfl (hb hby at_70) rfl (l' := #[.val (.int p1), .val (.int p2), .val (.int p3), .val (.ref b26), .val (.ref b34), .val (.int ((nar .byte (p1.toInt8.toInt32)) &&& (255 : Int32))), .val (.int (2 : Int32)), .val (.int ((nar .byte (p2.toInt8.toInt32)) &&& (255 : Int32))), .val (.int (1 : Int32)), .val (.int ((nar .byte (p3.toInt8.toInt32)) &&& (255 : Int32))), .val (.int (0 : Int32))]) rfl ?_
    show Steps p.tables e below (T50.setTop (mkF m 72 #[.val (.int p1), .val (.int p2), .val (.int p3), .val (.ref b26), .val (.ref b34), .val (.int ((nar .byte (p1.toInt8.toInt32)) &&& (255 : Int32))), .val (.int (2 : Int32)), .val (.int ((nar .byte (p2.toInt8.toInt32)) &&& (255 : Int32))), .val (.int (1 : Int32)), .val (.int ((nar .byte (p3.toInt8.toInt32)) &&& (255 : Int32))), .val (.int (0 : Int32))] [])) _
    refine XS.iload X50.here hx rfl (hb hby at_72) rfl ?_
    show Steps p.tables e below (T50.setTop (mkF m 74 #[.val (.int p1), .val (.int p2), .val (.int p3), .val (.ref b26), .val (.ref b34), .val (.int ((nar .byte (p1.toInt8.toInt32)) &&& (255 : Int32))), .val (.int (2 : Int32)), .val (.int ((nar .byte (p2.toInt8.toInt32)) &&& (255 : Int32))), .val (.int (1 : Int32)), .val (.int ((nar .byte (p3.toInt8.toInt32)) &&& (255 : Int32))), .val (.int (0 : Int32))] [(.int ((nar .byte (p1.toInt8.toInt32)) &&& (255 : Int32)))])) _
    refine XS.iloadN X50.here hx rfl (hb hby at_74) rfl ?_
    show Steps p.tables e below (T50.setTop (mkF m 75 #[.val (.int p1), .val (.int p2), .val (.int p3), .val (.ref b26), .val (.ref b34), .val (.int ((nar .byte (p1.toInt8.toInt32)) &&& (255 : Int32))), .val (.int (2 : Int32)), .val (.int ((nar .byte (p2.toInt8.toInt32)) &&& (255 : Int32))), .val (.int (1 : Int32)), .val (.int ((nar .byte (p3.toInt8.toInt32)) &&& (255 : Int32))), .val (.int (0 : Int32))] [(.int p1), (.int ((nar .byte (p1.toInt8.toInt32)) &&& (255 : Int32)))])) _
    refine st51 _ ?_
    show Steps p.tables e below (T51.setTop (mkF m 78 #[.val (.int p1), .val (.int p2), .val (.int p3), .val (.ref b26), .val (.ref b34), .val (.int ((nar .byte (p1.toInt8.toInt32)) &&& (255 : Int32))), .val (.int (2 : Int32)), .val (.int ((nar .byte (p2.toInt8.toInt32)) &&& (255 : Int32))), .val (.int (1 : Int32)), .val (.int ((nar .byte (p3.toInt8.toInt32)) &&& (255 : Int32))), .val (.int (0 : Int32))] [(.int (own_uns p1)), (.int ((nar .byte (p1.toInt8.toInt32)) &&& (255 : Int32)))])) _
    refine XS.icmpNo X51.here hx rfl (hb hby at_78) rfl (teq (own_u _ : ((nar .byte (p1.toInt8.toInt32)) &&& (255 : Int32)) = (own_uns p1))).2 ?_
    show Steps p.tables e below (T51.setTop (mkF m 81 #[.val (.int p1), .val (.int p2), .val (.int p3), .val (.ref b26), .val (.ref b34), .val (.int ((nar .byte (p1.toInt8.toInt32)) &&& (255 : Int32))), .val (.int (2 : Int32)), .val (.int ((nar .byte (p2.toInt8.toInt32)) &&& (255 : Int32))), .val (.int (1 : Int32)), .val (.int ((nar .byte (p3.toInt8.toInt32)) &&& (255 : Int32))), .val (.int (0 : Int32))] [])) _
    refine XS.iload X51.here hx rfl (hb hby at_81) rfl ?_
    show Steps p.tables e below (T51.setTop (mkF m 83 #[.val (.int p1), .val (.int p2), .val (.int p3), .val (.ref b26), .val (.ref b34), .val (.int ((nar .byte (p1.toInt8.toInt32)) &&& (255 : Int32))), .val (.int (2 : Int32)), .val (.int ((nar .byte (p2.toInt8.toInt32)) &&& (255 : Int32))), .val (.int (1 : Int32)), .val (.int ((nar .byte (p3.toInt8.toInt32)) &&& (255 : Int32))), .val (.int (0 : Int32))] [(.int (2 : Int32))])) _
    refine XS.iconst X51.here hx rfl (hb hby at_83) ?_
    show Steps p.tables e below (T51.setTop (mkF m 84 #[.val (.int p1), .val (.int p2), .val (.int p3), .val (.ref b26), .val (.ref b34), .val (.int ((nar .byte (p1.toInt8.toInt32)) &&& (255 : Int32))), .val (.int (2 : Int32)), .val (.int ((nar .byte (p2.toInt8.toInt32)) &&& (255 : Int32))), .val (.int (1 : Int32)), .val (.int ((nar .byte (p3.toInt8.toInt32)) &&& (255 : Int32))), .val (.int (0 : Int32))] [(.int (2 : Int32)), (.int (2 : Int32))])) _
    refine XS.icmpNo X51.here hx rfl (hb hby at_84) rfl (teq (by decide : (2 : Int32) = (2 : Int32))).2 ?_
    show Steps p.tables e below (T51.setTop (mkF m 87 #[.val (.int p1), .val (.int p2), .val (.int p3), .val (.ref b26), .val (.ref b34), .val (.int ((nar .byte (p1.toInt8.toInt32)) &&& (255 : Int32))), .val (.int (2 : Int32)), .val (.int ((nar .byte (p2.toInt8.toInt32)) &&& (255 : Int32))), .val (.int (1 : Int32)), .val (.int ((nar .byte (p3.toInt8.toInt32)) &&& (255 : Int32))), .val (.int (0 : Int32))] [])) _
    refine XS.iload X51.here hx rfl (hb hby at_87) rfl ?_
    show Steps p.tables e below (T51.setTop (mkF m 89 #[.val (.int p1), .val (.int p2), .val (.int p3), .val (.ref b26), .val (.ref b34), .val (.int ((nar .byte (p1.toInt8.toInt32)) &&& (255 : Int32))), .val (.int (2 : Int32)), .val (.int ((nar .byte (p2.toInt8.toInt32)) &&& (255 : Int32))), .val (.int (1 : Int32)), .val (.int ((nar .byte (p3.toInt8.toInt32)) &&& (255 : Int32))), .val (.int (0 : Int32))] [(.int ((nar .byte (p2.toInt8.toInt32)) &&& (255 : Int32)))])) _
    refine XS.iloadN X51.here hx rfl (hb hby at_89) rfl ?_
    show Steps p.tables e below (T51.setTop (mkF m 90 #[.val (.int p1), .val (.int p2), .val (.int p3), .val (.ref b26), .val (.ref b34), .val (.int ((nar .byte (p1.toInt8.toInt32)) &&& (255 : Int32))), .val (.int (2 : Int32)), .val (.int ((nar .byte (p2.toInt8.toInt32)) &&& (255 : Int32))), .val (.int (1 : Int32)), .val (.int ((nar .byte (p3.toInt8.toInt32)) &&& (255 : Int32))), .val (.int (0 : Int32))] [(.int p2), (.int ((nar .byte (p2.toInt8.toInt32)) &&& (255 : Int32)))])) _
    refine st52 _ ?_
    show Steps p.tables e below (T52.setTop (mkF m 93 #[.val (.int p1), .val (.int p2), .val (.int p3), .val (.ref b26), .val (.ref b34), .val (.int ((nar .byte (p1.toInt8.toInt32)) &&& (255 : Int32))), .val (.int (2 : Int32)), .val (.int ((nar .byte (p2.toInt8.toInt32)) &&& (255 : Int32))), .val (.int (1 : Int32)), .val (.int ((nar .byte (p3.toInt8.toInt32)) &&& (255 : Int32))), .val (.int (0 : Int32))] [(.int (own_uns p2)), (.int ((nar .byte (p2.toInt8.toInt32)) &&& (255 : Int32)))])) _
    refine XS.icmpNo X52.here hx rfl (hb hby at_93) rfl (teq (own_u _ : ((nar .byte (p2.toInt8.toInt32)) &&& (255 : Int32)) = (own_uns p2))).2 ?_
    show Steps p.tables e below (T52.setTop (mkF m 96 #[.val (.int p1), .val (.int p2), .val (.int p3), .val (.ref b26), .val (.ref b34), .val (.int ((nar .byte (p1.toInt8.toInt32)) &&& (255 : Int32))), .val (.int (2 : Int32)), .val (.int ((nar .byte (p2.toInt8.toInt32)) &&& (255 : Int32))), .val (.int (1 : Int32)), .val (.int ((nar .byte (p3.toInt8.toInt32)) &&& (255 : Int32))), .val (.int (0 : Int32))] [])) _
    refine XS.iload X52.here hx rfl (hb hby at_96) rfl ?_
    show Steps p.tables e below (T52.setTop (mkF m 98 #[.val (.int p1), .val (.int p2), .val (.int p3), .val (.ref b26), .val (.ref b34), .val (.int ((nar .byte (p1.toInt8.toInt32)) &&& (255 : Int32))), .val (.int (2 : Int32)), .val (.int ((nar .byte (p2.toInt8.toInt32)) &&& (255 : Int32))), .val (.int (1 : Int32)), .val (.int ((nar .byte (p3.toInt8.toInt32)) &&& (255 : Int32))), .val (.int (0 : Int32))] [(.int (1 : Int32))])) _
    refine XS.iconst X52.here hx rfl (hb hby at_98) ?_
    show Steps p.tables e below (T52.setTop (mkF m 99 #[.val (.int p1), .val (.int p2), .val (.int p3), .val (.ref b26), .val (.ref b34), .val (.int ((nar .byte (p1.toInt8.toInt32)) &&& (255 : Int32))), .val (.int (2 : Int32)), .val (.int ((nar .byte (p2.toInt8.toInt32)) &&& (255 : Int32))), .val (.int (1 : Int32)), .val (.int ((nar .byte (p3.toInt8.toInt32)) &&& (255 : Int32))), .val (.int (0 : Int32))] [(.int (1 : Int32)), (.int (1 : Int32))])) _
    refine XS.icmpNo X52.here hx rfl (hb hby at_99) rfl (teq (by decide : (1 : Int32) = (1 : Int32))).2 ?_
    show Steps p.tables e below (T52.setTop (mkF m 102 #[.val (.int p1), .val (.int p2), .val (.int p3), .val (.ref b26), .val (.ref b34), .val (.int ((nar .byte (p1.toInt8.toInt32)) &&& (255 : Int32))), .val (.int (2 : Int32)), .val (.int ((nar .byte (p2.toInt8.toInt32)) &&& (255 : Int32))), .val (.int (1 : Int32)), .val (.int ((nar .byte (p3.toInt8.toInt32)) &&& (255 : Int32))), .val (.int (0 : Int32))] [])) _
    refine XS.iload X52.here hx rfl (hb hby at_102) rfl ?_
    show Steps p.tables e below (T52.setTop (mkF m 104 #[.val (.int p1), .val (.int p2), .val (.int p3), .val (.ref b26), .val (.ref b34), .val (.int ((nar .byte (p1.toInt8.toInt32)) &&& (255 : Int32))), .val (.int (2 : Int32)), .val (.int ((nar .byte (p2.toInt8.toInt32)) &&& (255 : Int32))), .val (.int (1 : Int32)), .val (.int ((nar .byte (p3.toInt8.toInt32)) &&& (255 : Int32))), .val (.int (0 : Int32))] [(.int ((nar .byte (p3.toInt8.toInt32)) &&& (255 : Int32)))])) _
    refine XS.iloadN X52.here hx rfl (hb hby at_104) rfl ?_
    show Steps p.tables e below (T52.setTop (mkF m 105 #[.val (.int p1), .val (.int p2), .val (.int p3), .val (.ref b26), .val (.ref b34), .val (.int ((nar .byte (p1.toInt8.toInt32)) &&& (255 : Int32))), .val (.int (2 : Int32)), .val (.int ((nar .byte (p2.toInt8.toInt32)) &&& (255 : Int32))), .val (.int (1 : Int32)), .val (.int ((nar .byte (p3.toInt8.toInt32)) &&& (255 : Int32))), .val (.int (0 : Int32))] [(.int p3), (.int ((nar .byte (p3.toInt8.toInt32)) &&& (255 : Int32)))])) _
    refine st53 _ ?_
    show Steps p.tables e below (T53.setTop (mkF m 108 #[.val (.int p1), .val (.int p2), .val (.int p3), .val (.ref b26), .val (.ref b34), .val (.int ((nar .byte (p1.toInt8.toInt32)) &&& (255 : Int32))), .val (.int (2 : Int32)), .val (.int ((nar .byte (p2.toInt8.toInt32)) &&& (255 : Int32))), .val (.int (1 : Int32)), .val (.int ((nar .byte (p3.toInt8.toInt32)) &&& (255 : Int32))), .val (.int (0 : Int32))] [(.int (own_uns p3)), (.int ((nar .byte (p3.toInt8.toInt32)) &&& (255 : Int32)))])) _
    refine XS.icmpNo X53.here hx rfl (hb hby at_108) rfl (teq (own_u _ : ((nar .byte (p3.toInt8.toInt32)) &&& (255 : Int32)) = (own_uns p3))).2 ?_
    show Steps p.tables e below (T53.setTop (mkF m 111 #[.val (.int p1), .val (.int p2), .val (.int p3), .val (.ref b26), .val (.ref b34), .val (.int ((nar .byte (p1.toInt8.toInt32)) &&& (255 : Int32))), .val (.int (2 : Int32)), .val (.int ((nar .byte (p2.toInt8.toInt32)) &&& (255 : Int32))), .val (.int (1 : Int32)), .val (.int ((nar .byte (p3.toInt8.toInt32)) &&& (255 : Int32))), .val (.int (0 : Int32))] [])) _
    refine XS.iload X53.here hx rfl (hb hby at_111) rfl ?_
    show Steps p.tables e below (T53.setTop (mkF m 113 #[.val (.int p1), .val (.int p2), .val (.int p3), .val (.ref b26), .val (.ref b34), .val (.int ((nar .byte (p1.toInt8.toInt32)) &&& (255 : Int32))), .val (.int (2 : Int32)), .val (.int ((nar .byte (p2.toInt8.toInt32)) &&& (255 : Int32))), .val (.int (1 : Int32)), .val (.int ((nar .byte (p3.toInt8.toInt32)) &&& (255 : Int32))), .val (.int (0 : Int32))] [(.int (0 : Int32))])) _
    refine XS.ifNo X53.here hx rfl (hb hby at_113) rfl ((if0 _ _).trans (teq (by decide : (0 : Int32) = (0 : Int32))).2) ?_
    show Steps p.tables e below (T53.setTop (mkF m 116 #[.val (.int p1), .val (.int p2), .val (.int p3), .val (.ref b26), .val (.ref b34), .val (.int ((nar .byte (p1.toInt8.toInt32)) &&& (255 : Int32))), .val (.int (2 : Int32)), .val (.int ((nar .byte (p2.toInt8.toInt32)) &&& (255 : Int32))), .val (.int (1 : Int32)), .val (.int ((nar .byte (p3.toInt8.toInt32)) &&& (255 : Int32))), .val (.int (0 : Int32))] [])) _
    refine XS.iconst X53.here hx rfl (hb hby at_116) ?_
    show Steps p.tables e below (T53.setTop (mkF m 117 #[.val (.int p1), .val (.int p2), .val (.int p3), .val (.ref b26), .val (.ref b34), .val (.int ((nar .byte (p1.toInt8.toInt32)) &&& (255 : Int32))), .val (.int (2 : Int32)), .val (.int ((nar .byte (p2.toInt8.toInt32)) &&& (255 : Int32))), .val (.int (1 : Int32)), .val (.int ((nar .byte (p3.toInt8.toInt32)) &&& (255 : Int32))), .val (.int (0 : Int32))] [(.int (1 : Int32))])) _
    refine XS.goto X53.here hx rfl (pc0 := 117) (pc' := 121) rfl (hb hby at_117) (by decide) (by decide) ?_
    show Steps p.tables e below (T53.setTop (mkF m 121 #[.val (.int p1), .val (.int p2), .val (.int p3), .val (.ref b26), .val (.ref b34), .val (.int ((nar .byte (p1.toInt8.toInt32)) &&& (255 : Int32))), .val (.int (2 : Int32)), .val (.int ((nar .byte (p2.toInt8.toInt32)) &&& (255 : Int32))), .val (.int (1 : Int32)), .val (.int ((nar .byte (p3.toInt8.toInt32)) &&& (255 : Int32))), .val (.int (0 : Int32))] [(.int (1 : Int32))])) _
    exact retN X53 hx (t := .boolean) Bd.returns (by simp) (hb hby at_121) hr
  · show Q0 Z p1 p2 p3 h0 n0 _ T53.heap _
    rw [e53]
    exact ⟨rfl, N53⟩
set_option maxRecDepth 65536 in
set_option maxHeartbeats 40000000 in
theorem comes_1 {Post : Tables → Env → Array Value → State → Outcome → State → Prop} (hpost : ∀ tb e args s v u, (limb_1_1.after args s (.returned v) u = true ∧ limb_1_2.after args s (.returned v) u = true ∧ True) → FrameEnd s (.returned v) u (Jvm.fieldLocs frame_1_writes args s ++ Jvm.arrayLocs frame_1_arrays args s ++ Jvm.staticLocs frame_1_statics s) 16 128 → Post tb e args s (.returned v) u) :
    ArmFor flags0 classFile x code maxLocals ret World_1 tables_1 room_1 Calls_1 rest_1 Pre_1 Post := by
  intro l hfl _ _ p e ha hc hk s m args below hf hA hF happ hP
  obtain ⟨hcalls, hrest, hpre⟩ := hP
  obtain ⟨-, -, -, hnamed, -, -, -, hat⟩ := (Spec.applies_iff hf).mp happ
  obtain ⟨hg, hn⟩ := and_e (Cond.before_iff.mp (show (Jvm.Cond.and given_1 narrow_1).before args s = true from hpre))
  obtain ⟨g54, g55⟩ := and_e hg
  obtain ⟨g56, g57⟩ := and_e g55
  obtain ⟨g58, g59⟩ := and_e g57
  obtain ⟨w0, w1, w2, rfl⟩ : ∃ w0 w1 w2 : Value, args = #[w0, w1, w2] := by
    have hs : args.size = 3 := by simpa [Cond.value, given_1] using g54
    obtain ⟨L⟩ := args
    match L, hs with
    | [w0, w1, w2], _ => exact ⟨w0, w1, w2, rfl⟩
  have hw := fun d (hd : d ∈ tables_1) => atoms_spec (ws := Jvm.Cond.code x code maxLocals ret :: tables_1) hat d (List.mem_cons_of_mem _ hd)
  obtain ⟨i0, ei0⟩ := is_v g56
  obtain rfl : w0 = (.int i0) := Option.some.inj ei0
  obtain ⟨i1, ei1⟩ := is_v g58
  obtain rfl : w1 = (.int i1) := Option.some.inj ei1
  obtain ⟨i2, ei2⟩ := is_v g59
  obtain rfl : w2 = (.int i2) := Option.some.inj ei2
  obtain ⟨n, o, h1, h2, h3, _, L, rfl, ⟨rfl, N⟩, hq⟩ := rm0 l s _ hw tables_1 i0 i1 i2 s.heap s.heap.size (Nat.le_refl _) p e ha hc hk s m _ below hf ((Spec.applies_iff_loose hf).mp happ).1 ⟨rfl, State.Warmed39.refl s, rfl⟩ trivial
  refine ⟨n, _, h1, h2, h3, hpost _ _ _ _ _ _ ⟨Cond.after_iff.mpr rfl, Cond.after_iff.mpr (eq_i res_at (Term.int_eval (1)) rfl), trivial⟩ ⟨hq.1, hq.2.1, (hq.2.2.sift fun y hy => Or.inr (N y hy)).mono (by decide) (by decide)⟩⟩
theorem main_1_1 : Claimed_1_1 := comes_1 fun _ _ _ _ _ _ h hF => ⟨h.1, hF⟩
theorem main_1_2 : Claimed_1_2 := comes_1 fun _ _ _ _ _ _ h hF => ⟨h.2.1, hF⟩
end Jvm.Pilot.@@N@@
namespace Jvm.Pilot.@@N@@
open Jvm Jvm.ClassFile Sem Op Lib Jvm.Free Jvm.Stand Jvm.Pilot.@@N@@.Jvm.D
/-! MADE BY PROGRAM (witnessworld.py) out of the Statement's table words and the real class files: 7 classes; the members and pool entries that the words name. The judged class is class 1, her method 2. -/
namespace start1
open Jvm.ClassFile
def u (s : String) : CpInfo := .utf8 (stringToUtf16 s)
/-- a pool by its gaps: so many unusable entries, then the entry; so many at the end -/
def gap : Nat → List CpInfo → List CpInfo
  | 0, r => r
  | n + 1, r => .unusable :: gap n r
def poolList (es : List (Nat × CpInfo)) (last : Nat) : List CpInfo := es.foldr (fun e r => gap e.1 (e.2 :: r)) (gap last [])
def pool (es : List (Nat × CpInfo)) (last : Nat) : Array CpInfo := ⟨poolList es last⟩
def fileOf (pool : Array CpInfo) (this : Nat) (attrs : Array Attribute := #[]) (ms : Array MethodInfo := #[]) (fl : Nat := 33) (sup : Nat := 0) (ifs : Array Nat := #[]) (fds : Array FieldInfo := #[]) : ClassFile where
  minorVersion := 0
  majorVersion := 65
  constantPool := pool
  accessFlags := fl
  thisClass := this
  superClass := sup
  interfaces := ifs
  fields := fds
  methods := ms
  attributes := attrs
def plain (name : String) (sup : Option ClassId) : Class where
  name := name
  kind := .ordinary
  loader := none
  accessFlags := 33
  super := sup
  interfaces := #[]
  cf := none
  fields := #[]
  methods := #[]
  instanceTypes := #[]
  staticTypes := #[]
  resolved := #[]
  callSites := []
  init := .initialized
  statics := none
  mirror := none

def pool0 : Array CpInfo := pool [(5, u "<init>"), (0, u "()V"), (1, .class_ 10), (1, u "java/lang/Object")] 113

def k0c0 : Code := { maxStack := 0, maxLocals := 1, code := object_method_1_code, exceptionTable := #[], attributes := #[] }
def k0m0 : Method := { name := "<init>", desc := "()V", sig := { parameters := [], returnType := none }, accessFlags := 1, code := some k0c0 }
/-- java/lang/Object -/
def k0 : Class := { plain "java/lang/Object" none with
  accessFlags := 33
  interfaces := #[]
  cf := some (fileOf pool0 8 #[] #[{ accessFlags := 1, nameIndex := 5, descriptorIndex := 6, attributes := #[] }] 33 0 #[] #[])
  fields := #[]
  methods := #[k0m0]
  instanceTypes := #[]
  staticTypes := #[]
  resolved := Array.replicate 124 none
  statics := none }

def pool1 : Array CpInfo := pool [(2, .class_ 4), (1, u "java/lang/Object"), (0, u "<init>"), (0, u "()V"), (0, .class_ 8), (0, u "com/example/tenure/tenure/store/ValueReader"), (0, .methodref 7 10), (0, .nameAndType 5 11), (0, u "([BLcom/example/tenure/tenure/store/ClassDictionary;)V"), (0, .methodref 7 13), (0, .nameAndType 14 15), (0, u "readUnsignedByte"), (0, u "()I"), (0, .methodref 7 17), (0, .nameAndType 18 15), (0, u "available"), (0, .methodref 20 21), (0, .class_ 22), (0, .nameAndType 23 24), (0, u "com/example/tenure/tenure/store/ValueReaderReadUnsignedBytePinLaw"), (0, u "unsigned"), (0, u "(I)I"), (3, u "law"), (0, u "(III)Z")] 7

def k1m0 : Method := { name := "<init>", desc := "()V", sig := { parameters := [], returnType := none }, accessFlags := 1, code := none }
def k1c1 : Code := { maxStack := 2, maxLocals := 2, code := method_2_code, exceptionTable := #[], attributes := #[] }
def k1m1 : Method := { name := "unsigned", desc := "(I)I", sig := { parameters := [.int], returnType := some .int }, accessFlags := 10, code := some k1c1 }
def k1c2 : Code := { maxStack := 4, maxLocals := 11, code := code, exceptionTable := #[], attributes := #[] }
def k1m2 : Method := { name := "law", desc := "(III)Z", sig := { parameters := [.int, .int, .int], returnType := some .boolean }, accessFlags := 9, code := some k1c2 }
/-- com/example/tenure/tenure/store/ValueReaderReadUnsignedBytePinLaw -/
def k1 : Class := { plain "com/example/tenure/tenure/store/ValueReaderReadUnsignedBytePinLaw" (some 0) with
  accessFlags := 49
  interfaces := #[]
  cf := some (fileOf pool1 20 #[] #[{ accessFlags := 1, nameIndex := 5, descriptorIndex := 6, attributes := #[] }, { accessFlags := 10, nameIndex := 23, descriptorIndex := 24, attributes := #[] }, { accessFlags := 9, nameIndex := 28, descriptorIndex := 29, attributes := #[] }] 49 2 #[] #[])
  fields := #[]
  methods := #[k1m0, k1m1, k1m2]
  instanceTypes := #[]
  staticTypes := #[]
  resolved := Array.replicate 37 none
  statics := none }

def pool2 : Array CpInfo := pool [(1, .methodref 2 3), (0, .class_ 4), (0, .nameAndType 5 6), (0, u "java/lang/Object"), (0, u "<init>"), (0, u "()V"), (0, .fieldref 8 9), (0, .class_ 10), (0, .nameAndType 11 12), (0, u "com/example/tenure/tenure/store/ValueReader"), (0, u "bytes"), (0, u "[B"), (0, .fieldref 8 14), (0, .nameAndType 15 16), (0, u "dictionary"), (0, u "Lcom/example/tenure/tenure/store/ClassDictionary;"), (0, .fieldref 8 18), (0, .nameAndType 19 20), (0, u "position"), (0, u "I"), (2, u "readUnsignedByte"), (0, u "()I"), (42, .methodref 8 68), (0, .nameAndType 69 70), (0, u "require"), (0, u "(I)V"), (16, .methodref 8 88), (0, .nameAndType 89 24), (0, u "available"), (14, u "([BLcom/example/tenure/tenure/store/ClassDictionary;)V")] 41

def k2c0 : Code := { maxStack := 2, maxLocals := 3, code := prog_54_method_1_code, exceptionTable := #[], attributes := #[] }
def k2m0 : Method := { name := "<init>", desc := "([BLcom/example/tenure/tenure/store/ClassDictionary;)V", sig := { parameters := [(.array .byte), (.object "com/example/tenure/tenure/store/ClassDictionary")], returnType := none }, accessFlags := 0, code := some k2c0 }
def k2c1 : Code := { maxStack := 2, maxLocals := 1, code := prog_54_method_2_code, exceptionTable := #[], attributes := #[] }
def k2m1 : Method := { name := "available", desc := "()I", sig := { parameters := [], returnType := some .int }, accessFlags := 0, code := some k2c1 }
def k2c2 : Code := { maxStack := 5, maxLocals := 1, code := prog_54_method_10_code, exceptionTable := #[], attributes := #[] }
def k2m2 : Method := { name := "readUnsignedByte", desc := "()I", sig := { parameters := [], returnType := some .int }, accessFlags := 0, code := some k2c2 }
def k2c3 : Code := { maxStack := 4, maxLocals := 2, code := prog_54_method_17_code, exceptionTable := #[], attributes := #[] }
def k2m3 : Method := { name := "require", desc := "(I)V", sig := { parameters := [.int], returnType := none }, accessFlags := 2, code := some k2c3 }
/-- com/example/tenure/tenure/store/ValueReader -/
def k2 : Class := { plain "com/example/tenure/tenure/store/ValueReader" (some 0) with
  accessFlags := 48
  interfaces := #[]
  cf := some (fileOf pool2 8 #[] #[{ accessFlags := 0, nameIndex := 5, descriptorIndex := 104, attributes := #[] }, { accessFlags := 0, nameIndex := 89, descriptorIndex := 24, attributes := #[] }, { accessFlags := 0, nameIndex := 23, descriptorIndex := 24, attributes := #[] }, { accessFlags := 2, nameIndex := 69, descriptorIndex := 70, attributes := #[] }] 48 2 #[] #[{ accessFlags := 18, nameIndex := 11, descriptorIndex := 12, attributes := #[] }, { accessFlags := 18, nameIndex := 15, descriptorIndex := 16, attributes := #[] }, { accessFlags := 2, nameIndex := 19, descriptorIndex := 20, attributes := #[] }])
  fields := #[{ name := "bytes", type := (.array .byte), accessFlags := 18, slot := 0, constantValue := 0 }, { name := "dictionary", type := (.object "com/example/tenure/tenure/store/ClassDictionary"), accessFlags := 18, slot := 1, constantValue := 0 }, { name := "position", type := .int, accessFlags := 2, slot := 2, constantValue := 0 }]
  methods := #[k2m0, k2m1, k2m2, k2m3]
  instanceTypes := #[(.array .byte), (.object "com/example/tenure/tenure/store/ClassDictionary"), .int]
  staticTypes := #[]
  resolved := Array.replicate 146 none
  statics := none }

def pool3 : Array CpInfo := pool [(1, u "java/lang/Cloneable"), (0, .class_ 1), (0, u "java/lang/Object"), (0, .class_ 3)] 3

/-- java/lang/Cloneable -/
def k3 : Class := { plain "java/lang/Cloneable" (some 0) with
  accessFlags := 1537
  interfaces := #[]
  cf := some (fileOf pool3 2 #[] #[] 1537 4 #[] #[])
  fields := #[]
  methods := #[]
  instanceTypes := #[]
  staticTypes := #[]
  resolved := Array.replicate 8 none
  statics := none }

def pool4 : Array CpInfo := pool [(1, u "java/io/Serializable"), (0, .class_ 1), (0, u "java/lang/Object"), (0, .class_ 3)] 3

/-- java/io/Serializable -/
def k4 : Class := { plain "java/io/Serializable" (some 0) with
  accessFlags := 1537
  interfaces := #[]
  cf := some (fileOf pool4 2 #[] #[] 1537 4 #[] #[])
  fields := #[]
  methods := #[]
  instanceTypes := #[]
  staticTypes := #[]
  resolved := Array.replicate 8 none
  statics := none }

/-- the primitive byte -/
def k5 : Class := { plain "byte" none with kind := .primitive 'B', accessFlags := 0x411 }
/-- [B -/
def k6 : Class := { plain "[B" (some 0) with kind := .array 5 .byte, interfaces := #[3, 4], accessFlags := 1041 }

def heap : Heap := #[]
def classes : Array Class := #[k0, k1, k2, k3, k4, k5, k6]
def interned : List (Array UInt16 × Addr) := []
def slotsUsed : Nat := 0
def theMethod : MethodId := ⟨1, 2⟩
def args0 : Array Value := #[.int 5, .int 5, .int 5]
def aboutOver (below : List Frame) : State where
  vm := { classes := classes, interned := interned.toArray }
  heap := heap
  slotsUsed := slotsUsed
  threads := #[{ frames := .invoking theMethod args0 :: below }]
def below0 : List Frame := [.native { method := ⟨0, 0⟩, args := #[] }]
def about1 : State := aboutOver below0
def p0 : Program := .bare "" "" ""
def e0 : Env := launch0.env 0 0 0
theorem w_frames : about1.frames = Frame.invoking theMethod args0 :: below0 := rfl
set_option maxRecDepth 65536 in
theorem w_args : argsFit about1.vm theMethod args0 = true := by decide +kernel
set_option maxRecDepth 65536 in
theorem w_heap : heapFits about1 = true := by decide +kernel
set_option maxRecDepth 65536 in
theorem w_runnable : about1.curStatus? = some .runnable := by decide +kernel
set_option maxRecDepth 65536 in
theorem w_alone : about1.alone = true := by decide +kernel
set_option maxRecDepth 65536 in
theorem w_named : about1.methodNamed? x = some theMethod := by decide +kernel
set_option maxRecDepth 65536 in
theorem w_hears : about1.hears theMethod below0 = true := by decide +kernel
set_option maxRecDepth 65536 in
theorem w_ripe : about1.ripe theMethod args0 below0 = true := by decide +kernel
theorem w_running : about1.status = .running := rfl
set_option maxRecDepth 65536 in
theorem w_room : about1.hasRoom e0.platform room_1 = true :=
  launch0.hasRoom_least _ room_1 (by decide +kernel) (by decide +kernel) (by decide +kernel) (by decide +kernel) (by decide +kernel) (by decide +kernel)
theorem allAtoms_all (ts : List Jvm.Cond) (a : Array Jvm.Value) (st : Jvm.State) : (allAtoms ts).before a st = ts.all (fun c => c.before a st) := by
  induction ts with
  | nil => rfl
  | cons c t ih =>
    show (Jvm.Cond.and c (allAtoms t)).before a st = _
    rw [Jvm.Cond.before_and, ih, List.all_cons]
def words1 : List Jvm.Cond := Jvm.Cond.code x code maxLocals ret :: tables_1
/-- a 'code' word, met by the world's own term for the bytes: nothing is compared byte by byte -/
theorem code_word {y : MethodName} {bytes : ByteArray} {mx : Nat} {rt : Option FieldType} {a : Array Value} {s : State} {m : MethodId} {meth : Method} {c : Code} (h1 : s.methodNamed? y = some m) (h2 : s.vm.method? m = some meth) (h3 : meth.code = some c) (h4 : c.code = bytes)
    (h5 : (c.maxLocals == mx && c.exceptionTable.isEmpty && decide (c.maxStack ≤ mostOperands) && decide (meth.sig.returnType = rt) && !meth.locks && decide (parseMethodDescriptor y.desc = some meth.sig)) = true) : (Jvm.Cond.code y bytes mx rt).before a s = true := by
  simp only [Bool.and_eq_true, beq_iff_eq, Bool.not_eq_true', decide_eq_true_eq] at h5
  obtain ⟨⟨⟨⟨⟨g1, g2⟩, g3⟩, g4⟩, g5⟩, g6⟩ := h5
  simp [Cond.before, Cond.holds, Cond.value, h1, h2, h3, h4, g1, g2, g3, g4, g5, g6]
def isCode : Jvm.Cond → Bool
  | .code _ _ _ _ => true
  | _ => false
theorem all_split {L : List Jvm.Cond} {P : Jvm.Cond → Bool} (h1 : L.all (fun c => isCode c || P c) = true) (h2 : ∀ c ∈ L.filter isCode, P c = true) : L.all P = true := by
  refine List.all_eq_true.mpr fun c hc => ?_
  have h := List.all_eq_true.mp h1 c hc
  rcases Bool.eq_false_or_eq_true (isCode c) with hi | hi
  · exact h2 c (List.mem_filter.mpr ⟨hc, hi⟩)
  · simpa [hi] using h
set_option maxRecDepth 65536 in
theorem w_c0 : (Jvm.Cond.code x code maxLocals ret).before args0 about1 = true := code_word (m := ⟨1, 2⟩) (meth := k1m2) (c := k1c2) (by decide +kernel) rfl rfl rfl (by decide +kernel)
set_option maxRecDepth 65536 in
theorem w_c1 : (Jvm.Cond.code ({ cls := "com/example/tenure/tenure/store/ValueReader", name := "<init>", desc := "([BLcom/example/tenure/tenure/store/ClassDictionary;)V" } : Jvm.MethodName) prog_54_method_1_code (3 : Nat) (Option.none : Option Jvm.ClassFile.FieldType)).before args0 about1 = true := code_word (m := ⟨2, 0⟩) (meth := k2m0) (c := k2c0) (by decide +kernel) rfl rfl rfl (by decide +kernel)
set_option maxRecDepth 65536 in
theorem w_c2 : (Jvm.Cond.code ({ cls := "java/lang/Object", name := "<init>", desc := "()V" } : Jvm.MethodName) object_method_1_code (1 : Nat) (Option.none : Option Jvm.ClassFile.FieldType)).before args0 about1 = true := code_word (m := ⟨0, 0⟩) (meth := k0m0) (c := k0c0) (by decide +kernel) rfl rfl rfl (by decide +kernel)
set_option maxRecDepth 65536 in
theorem w_c3 : (Jvm.Cond.code ({ cls := "com/example/tenure/tenure/store/ValueReader", name := "readUnsignedByte", desc := "()I" } : Jvm.MethodName) prog_54_method_10_code (1 : Nat) (Option.some Jvm.ClassFile.FieldType.int)).before args0 about1 = true := code_word (m := ⟨2, 2⟩) (meth := k2m2) (c := k2c2) (by decide +kernel) rfl rfl rfl (by decide +kernel)
set_option maxRecDepth 65536 in
theorem w_c4 : (Jvm.Cond.code ({ cls := "com/example/tenure/tenure/store/ValueReader", name := "require", desc := "(I)V" } : Jvm.MethodName) prog_54_method_17_code (2 : Nat) (Option.none : Option Jvm.ClassFile.FieldType)).before args0 about1 = true := code_word (m := ⟨2, 3⟩) (meth := k2m3) (c := k2c3) (by decide +kernel) rfl rfl rfl (by decide +kernel)
set_option maxRecDepth 65536 in
theorem w_c5 : (Jvm.Cond.code ({ cls := "com/example/tenure/tenure/store/ValueReader", name := "available", desc := "()I" } : Jvm.MethodName) prog_54_method_2_code (1 : Nat) (Option.some Jvm.ClassFile.FieldType.int)).before args0 about1 = true := code_word (m := ⟨2, 1⟩) (meth := k2m1) (c := k2c1) (by decide +kernel) rfl rfl rfl (by decide +kernel)
set_option maxRecDepth 65536 in
theorem w_c6 : (Jvm.Cond.code ({ cls := "com/example/tenure/tenure/store/ValueReaderReadUnsignedBytePinLaw", name := "unsigned", desc := "(I)I" } : Jvm.MethodName) method_2_code (2 : Nat) (Option.some Jvm.ClassFile.FieldType.int)).before args0 about1 = true := code_word (m := ⟨1, 1⟩) (meth := k1m1) (c := k1c1) (by decide +kernel) rfl rfl rfl (by decide +kernel)
def codes1 : List Jvm.Cond := [Jvm.Cond.code x code maxLocals ret, Jvm.Cond.code ({ cls := "com/example/tenure/tenure/store/ValueReader", name := "<init>", desc := "([BLcom/example/tenure/tenure/store/ClassDictionary;)V" } : Jvm.MethodName) prog_54_method_1_code (3 : Nat) (Option.none : Option Jvm.ClassFile.FieldType), Jvm.Cond.code ({ cls := "java/lang/Object", name := "<init>", desc := "()V" } : Jvm.MethodName) object_method_1_code (1 : Nat) (Option.none : Option Jvm.ClassFile.FieldType), Jvm.Cond.code ({ cls := "com/example/tenure/tenure/store/ValueReader", name := "readUnsignedByte", desc := "()I" } : Jvm.MethodName) prog_54_method_10_code (1 : Nat) (Option.some Jvm.ClassFile.FieldType.int), Jvm.Cond.code ({ cls := "com/example/tenure/tenure/store/ValueReader", name := "require", desc := "(I)V" } : Jvm.MethodName) prog_54_method_17_code (2 : Nat) (Option.none : Option Jvm.ClassFile.FieldType), Jvm.Cond.code ({ cls := "com/example/tenure/tenure/store/ValueReader", name := "available", desc := "()I" } : Jvm.MethodName) prog_54_method_2_code (1 : Nat) (Option.some Jvm.ClassFile.FieldType.int), Jvm.Cond.code ({ cls := "com/example/tenure/tenure/store/ValueReaderReadUnsignedBytePinLaw", name := "unsigned", desc := "(I)I" } : Jvm.MethodName) method_2_code (2 : Nat) (Option.some Jvm.ClassFile.FieldType.int)]
set_option maxRecDepth 65536 in
theorem codes_eq : words1.filter isCode = codes1 := rfl
theorem w_codes : ∀ c ∈ words1.filter isCode, c.before args0 about1 = true := by
  rw [codes_eq]
  intro c hc
  simp only [codes1, List.mem_cons, List.not_mem_nil, or_false] at hc
  rcases hc with rfl | rfl | rfl | rfl | rfl | rfl | rfl
  · exact w_c0
  · exact w_c1
  · exact w_c2
  · exact w_c3
  · exact w_c4
  · exact w_c5
  · exact w_c6
set_option maxRecDepth 65536 in
theorem w_t1 : (words1.take 24).all (fun c => isCode c || c.before args0 about1) = true := by decide +kernel
set_option maxRecDepth 65536 in
theorem w_t2 : (words1.drop 24).all (fun c => isCode c || c.before args0 about1) = true := by decide +kernel
theorem w_tables : (allAtoms (Jvm.Cond.code x code maxLocals ret :: tables_1)).before args0 about1 = true := by
  rw [allAtoms_all]
  show words1.all (fun c => c.before args0 about1) = true
  refine all_split ?_ w_codes
  rw [← List.take_append_drop 24 words1, List.all_append, w_t1, w_t2]
  rfl
set_option maxRecDepth 65536 in
theorem w_case : (Jvm.Cond.and given_1 narrow_1).before args0 about1 = true := by decide +kernel
theorem w_applies : (headSpec (Jvm.Cond.code x code maxLocals ret :: tables_1) room_1).applies x e0.platform about1 = true :=
  (Spec.applies_iff w_frames).mpr ⟨w_running, w_runnable, w_alone, w_named, w_hears, w_ripe, w_room, w_tables⟩
theorem atStart : AtStart classFile x code maxLocals ret World_1 tables_1 room_1 Calls_1 rest_1 Pre_1 launch0 p0 e0 about1 theMethod args0 below0 :=
  ⟨lists_1, trivial, launch0.admits_env _ _ _, launch0.least_env, fairChoices_fair.cas, fairChoices_fair.clock, w_frames, w_args, w_heap, w_applies, trivial, trivial, w_case⟩
end start1
theorem witness_1 : WitnessClaimed_1 := ⟨start1.p0, start1.e0, start1.about1, start1.theMethod, start1.args0, start1.below0, start1.atStart⟩
end Jvm.Pilot.@@N@@
