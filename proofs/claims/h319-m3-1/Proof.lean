import JvmDerived
import JvmDerived.Pilot.@@N@@Statement
import JvmDerived.Pilot.@@N@@Code
set_option linter.unusedVariables false
set_option linter.unusedSimpArgs false
namespace Jvm.RoadKit
open Sem ClassFile Op Lib Jvm.Stand Jvm.Free Jvm.LawKit
section New
variable {p : Program} {l : Launch} {e : Env} {R : Room} {s : State} {m : MethodId} {args : Array Value} {below : List Frame} {meth : Method} {c : Code} {T : State} {locs : List Loc} {cells slots : Nat}
theorem retI (X : Stand p l e R s m args below meth c T locs cells slots) (hx : p.tables.exec = Jvm.exec) {pc : Nat} {Ls : Array Slot} {z : Int32} {rest : List Value} (hret : meth.sig.returnType = some .int) (hd : decode c.code pc = .ok (.ireturn, 1)) {fs : List Frame}
    (hl : ∀ (f : JFrame) (acts : List Action), f.method = m → f.locked = none → f.entered = [] → (doReturn e (T.setTop f) acts (some (.int z))).1 = T.setFrames fs) : Steps p.tables e below (T.setTop (mkF m pc Ls (.int z :: rest))) (T.setFrames fs) := by
  have hm' : T.vm.method? m = some meth := X.method'
  have hn : narrow .int (.int z) = .int z := rfl
  show Steps p.tables e below (T.setTop { method := m, pc := pc, locals := Ls, stack := _ :: rest, locked := none }) _
  jvm_step X.here [X.here.top, hx, hd, hm', hret, hn]
  first | (intro acts; rw [hl _ acts rfl rfl rfl]) | rw [hl _ _ rfl rfl rfl]
  exact Steps.refl _
theorem retL (X : Stand p l e R s m args below meth c T locs cells slots) (hx : p.tables.exec = Jvm.exec) {pc : Nat} {Ls : Array Slot} {z : Int64} {rest : List Value} (hret : meth.sig.returnType = some .long) (hd : decode c.code pc = .ok (.lreturn, 1)) {fs : List Frame}
    (hl : ∀ (f : JFrame) (acts : List Action), f.method = m → f.locked = none → f.entered = [] → (doReturn e (T.setTop f) acts (some (.long z))).1 = T.setFrames fs) : Steps p.tables e below (T.setTop (mkF m pc Ls (.long z :: rest))) (T.setFrames fs) := by
  have hm' : T.vm.method? m = some meth := X.method'
  have hn : narrow .long (.long z) = .long z := rfl
  show Steps p.tables e below (T.setTop { method := m, pc := pc, locals := Ls, stack := _ :: rest, locked := none }) _
  jvm_step X.here [X.here.top, hx, hd, hm', hret, hn]
  first | (intro acts; rw [hl _ acts rfl rfl rfl]) | rw [hl _ _ rfl rfl rfl]
  exact Steps.refl _
end New
end Jvm.RoadKit
namespace Jvm.Pilot.@@N@@
open Jvm Jvm.ClassFile Sem Op Lib Jvm.Free Jvm.Stand Jvm.LawKit Jvm.RoadKit Bundle Jvm.Pilot.@@N@@.Jvm.D
def own_cx (c x r : Int32) : Int32 := if c = (13 : Int32) then x + (1 : Int32) else if c = (10 : Int32) then (if r = (0 : Int32) then x + (1 : Int32) else x + (0 : Int32)) else x + (0 : Int32)
def own_ct (c t : Int32) : Int32 := if c = (10 : Int32) then t + (1 : Int32) else t + (0 : Int32)
def own_cr (c : Int32) : Int32 := if c = (13 : Int32) then (1 : Int32) else (0 : Int32)
theorem own_cr0 (c : Int32) : (own_cr c = (0 : Int32)) ↔ ¬ c = (13 : Int32) := by
  unfold own_cr
  by_cases h : c = (13 : Int32)
  · rw [if_pos h]; exact ⟨fun q => absurd q (by decide), fun q => absurd h q⟩
  · rw [if_neg h]; exact ⟨fun _ => h, fun _ => rfl⟩
def own_pick (p1 : Int32) : Int32 := (if (p1 &&& (3 : Int32)) = (0 : Int32) then (13 : Int32) else (if (p1 &&& (3 : Int32)) = (1 : Int32) then (10 : Int32) else p1))
theorem d1_0 : decode method_2_code 0 = .ok (.iload_n 0, 1) := by decide +kernel
theorem d1_1 : decode method_2_code 1 = .ok (.iconst 3, 1) := by decide +kernel
theorem d1_2 : decode method_2_code 2 = .ok (.iand, 1) := by decide +kernel
theorem d1_3 : decode method_2_code 3 = .ok (.istore_n 1, 1) := by decide +kernel
theorem d1_4 : decode method_2_code 4 = .ok (.iload_n 1, 1) := by decide +kernel
theorem d1_5 : decode method_2_code 5 = .ok (.ifCond .ne 6, 3) := by decide +kernel
theorem d1_8 : decode method_2_code 8 = .ok (.bipush 13, 2) := by decide +kernel
theorem d1_10 : decode method_2_code 10 = .ok (.ireturn, 1) := by decide +kernel
theorem d1_11 : decode method_2_code 11 = .ok (.iload_n 1, 1) := by decide +kernel
theorem d1_12 : decode method_2_code 12 = .ok (.iconst 1, 1) := by decide +kernel
theorem d1_13 : decode method_2_code 13 = .ok (.if_icmp .ne 6, 3) := by decide +kernel
theorem d1_16 : decode method_2_code 16 = .ok (.bipush 10, 2) := by decide +kernel
theorem d1_18 : decode method_2_code 18 = .ok (.ireturn, 1) := by decide +kernel
theorem d1_19 : decode method_2_code 19 = .ok (.iload_n 0, 1) := by decide +kernel
theorem d1_20 : decode method_2_code 20 = .ok (.ireturn, 1) := by decide +kernel
theorem pn_1 : plainName "com/example/urlset/urlset/read/LineCounterGetXmlLineOfPinLaw" = true := by first | (simp [plainName, overriddenIn]; done) | decide +kernel
theorem ef_1 (m : MethodId) (x0 : Int32) : entryFrame m #[(.int x0)] 2 = mkF m 0 #[.val (.int x0), .unset] [] := by first | (simp [entryFrame, mkF, argsToLocals, Value.category]; done) | rfl
def Q1 (Z : State) (p1 : Int32) (h0 : Heap) (n0 : Nat) (v : Option Value) (h : Heap) (L : List Loc) : Prop := v = some (.int (own_pick p1)) ∧ Fr n0 L ∧ h = h0
set_option maxRecDepth 65536 in
set_option maxHeartbeats 40000000 in
theorem rm1 (l : Launch) (Z : State) (a0 : Array Value) (hw : ∀ d ∈ tables_1, d.before a0 Z = true) (ws : List Jvm.Cond) (p1 : Int32) (h0 : Heap) (n0 : Nat) (Z0 : n0 ≤ h0.size)  :
    MetFree l (⟨"com/example/urlset/urlset/read/LineCounterGetXmlLineOfPinLaw", "pick", "(I)I"⟩ : MethodName) (head1 (Jvm.Cond.code (⟨"com/example/urlset/urlset/read/LineCounterGetXmlLineOfPinLaw", "pick", "(I)I"⟩ : MethodName) method_2_code 2 (some .int) :: ws) ({ frames := 0, cells := 0, slots := 0, locals := 0 } : Room)) (fun a U => a = #[(.int p1)] ∧ Z.Warmed39 U.vm ∧ U.heap = h0) (fun _ _ _ _ _ => True) (fun _ U o U' => ∃ v L, o = .returned v ∧ Q1 Z p1 h0 n0 v U'.heap L ∧ FrameEnd U o U' L ({ frames := 0, cells := 0, slots := 0, locals := 0 } : Room).cells ({ frames := 0, cells := 0, slots := 0, locals := 0 } : Room).slots) := by
  refine MetFree.of_bodySF (plainFor_of_name pn_1) hisR ?_
  intro p e s m args below meth c s₁ Bd hml0 hP hK
  obtain ⟨rfl, hZ, hh⟩ := hP
  have hx := Bd.exec
  have hby := Bd.bytes
  have hml : c.maxLocals = 2 := hml0
  have hown : s.vm.findClass "com/example/urlset/urlset/read/LineCounterGetXmlLineOfPinLaw" = some m.cls := findClass_of_methodNamed Bd.named
  have hnm := (name_of_methodNamed Bd.named Bd.method).1
  have X0 : Stand p l e ({ frames := 0, cells := 0, slots := 0, locals := 0 } : Room) s m #[(.int p1)] below meth c s₁ [] 0 0 := Stand.of_body Bd
  have e0 : s₁.heap = h0 := by rw [← hh, Bd.state]; rfl
  have N0 := Fr.nil n0
  have pre0 : ∀ t, Steps p.tables e below (s₁.setTop (mkF m 0 #[.val (.int p1), .unset] [])) t → Steps p.tables e below (s₁.setTop (entryFrame m #[(.int p1)] 2)) t := fun t k => castTop (ef_1 m p1) k
  have pre1 : ∀ t, Steps p.tables e below (s₁.setTop (mkF m 5 #[.val (.int p1), .val (.int (p1 &&& (3 : Int32)))] [(.int (p1 &&& (3 : Int32)))])) t → Steps p.tables e below (s₁.setTop (entryFrame m #[(.int p1)] 2)) t := fun t k => pre0 t (by
      show Steps p.tables e below (s₁.setTop (mkF m 0 #[.val (.int p1), .unset] [])) _
      refine XS.iloadN X0.here hx rfl (hb hby d1_0) rfl ?_
      show Steps p.tables e below (s₁.setTop (mkF m 1 #[.val (.int p1), .unset] [(.int p1)])) _
      refine XS.iconst X0.here hx rfl (hb hby d1_1) ?_
      show Steps p.tables e below (s₁.setTop (mkF m 2 #[.val (.int p1), .unset] [(.int (3 : Int32)), (.int p1)])) _
      refine XS.iand X0.here hx rfl (hb hby d1_2) rfl ?_
      show Steps p.tables e below (s₁.setTop (mkF m 3 #[.val (.int p1), .unset] [(.int (p1 &&& (3 : Int32)))])) _
      refine XS.istoreN X0.here hx rfl (hb hby d1_3) rfl (l' := #[.val (.int p1), .val (.int (p1 &&& (3 : Int32)))]) rfl ?_
      show Steps p.tables e below (s₁.setTop (mkF m 4 #[.val (.int p1), .val (.int (p1 &&& (3 : Int32)))] [])) _
      refine XS.iloadN X0.here hx rfl (hb hby d1_4) rfl ?_
      exact k)
  by_cases hc5_2 : (p1 &&& (3 : Int32)) = (0 : Int32)
  · obtain ⟨fs, hr, hrun, hended, hW, hsame⟩ := X0.leave (v := some (.int (13 : Int32))) (fun h => by rw [Bd.returns] at h; cases h)
    refine ⟨_, _, pre1 _ ?_, hrun, hended, _, _, rfl, ?_, ⟨_, rfl⟩, hW, hsame.mono (by decide) (by decide)⟩
    · show Steps p.tables e below (s₁.setTop (mkF m 5 #[.val (.int p1), .val (.int (p1 &&& (3 : Int32)))] [(.int (p1 &&& (3 : Int32)))])) _
      refine XS.ifNo X0.here hx rfl (hb hby d1_5) rfl ((if0 _ _).trans (teq hc5_2).2) ?_
      show Steps p.tables e below (s₁.setTop (mkF m 8 #[.val (.int p1), .val (.int (p1 &&& (3 : Int32)))] [])) _
      refine XS.bipush X0.here hx rfl (hb hby d1_8) ?_
      show Steps p.tables e below (s₁.setTop (mkF m 10 #[.val (.int p1), .val (.int (p1 &&& (3 : Int32)))] [(.int (13 : Int32))])) _
      exact retI X0 hx Bd.returns (hb hby d1_10) hr
    · show Q1 Z p1 h0 n0 _ s₁.heap _
      rw [e0]
      exact ⟨(congrArg (fun z => some (Value.int z)) (by simp only [own_pick, if_pos hc5_2] : (13 : Int32) = (own_pick p1))), N0, rfl⟩
  · have pre3 : ∀ t, Steps p.tables e below (s₁.setTop (mkF m 13 #[.val (.int p1), .val (.int (p1 &&& (3 : Int32)))] [(.int (1 : Int32)), (.int (p1 &&& (3 : Int32)))])) t → Steps p.tables e below (s₁.setTop (entryFrame m #[(.int p1)] 2)) t := fun t k => pre1 t (by
        show Steps p.tables e below (s₁.setTop (mkF m 5 #[.val (.int p1), .val (.int (p1 &&& (3 : Int32)))] [(.int (p1 &&& (3 : Int32)))])) _
        refine XS.ifYes X0.here hx rfl (pc0 := 5) (pc' := 11) rfl (hb hby d1_5) rfl ((if0 _ _).trans (feq hc5_2).2) (by decide) (by decide) ?_
        show Steps p.tables e below (s₁.setTop (mkF m 11 #[.val (.int p1), .val (.int (p1 &&& (3 : Int32)))] [])) _
        refine XS.iloadN X0.here hx rfl (hb hby d1_11) rfl ?_
        show Steps p.tables e below (s₁.setTop (mkF m 12 #[.val (.int p1), .val (.int (p1 &&& (3 : Int32)))] [(.int (p1 &&& (3 : Int32)))])) _
        refine XS.iconst X0.here hx rfl (hb hby d1_12) ?_
        exact k)
    by_cases hc13_4 : (p1 &&& (3 : Int32)) = (1 : Int32)
    · obtain ⟨fs, hr, hrun, hended, hW, hsame⟩ := X0.leave (v := some (.int (10 : Int32))) (fun h => by rw [Bd.returns] at h; cases h)
      refine ⟨_, _, pre3 _ ?_, hrun, hended, _, _, rfl, ?_, ⟨_, rfl⟩, hW, hsame.mono (by decide) (by decide)⟩
      · show Steps p.tables e below (s₁.setTop (mkF m 13 #[.val (.int p1), .val (.int (p1 &&& (3 : Int32)))] [(.int (1 : Int32)), (.int (p1 &&& (3 : Int32)))])) _
        refine XS.icmpNo X0.here hx rfl (hb hby d1_13) rfl (teq hc13_4).2 ?_
        show Steps p.tables e below (s₁.setTop (mkF m 16 #[.val (.int p1), .val (.int (p1 &&& (3 : Int32)))] [])) _
        refine XS.bipush X0.here hx rfl (hb hby d1_16) ?_
        show Steps p.tables e below (s₁.setTop (mkF m 18 #[.val (.int p1), .val (.int (p1 &&& (3 : Int32)))] [(.int (10 : Int32))])) _
        exact retI X0 hx Bd.returns (hb hby d1_18) hr
      · show Q1 Z p1 h0 n0 _ s₁.heap _
        rw [e0]
        exact ⟨(congrArg (fun z => some (Value.int z)) (by simp only [own_pick, if_neg hc5_2, if_pos hc13_4] : (10 : Int32) = (own_pick p1))), N0, rfl⟩
    · obtain ⟨fs, hr, hrun, hended, hW, hsame⟩ := X0.leave (v := some (.int p1)) (fun h => by rw [Bd.returns] at h; cases h)
      refine ⟨_, _, pre3 _ ?_, hrun, hended, _, _, rfl, ?_, ⟨_, rfl⟩, hW, hsame.mono (by decide) (by decide)⟩
      · show Steps p.tables e below (s₁.setTop (mkF m 13 #[.val (.int p1), .val (.int (p1 &&& (3 : Int32)))] [(.int (1 : Int32)), (.int (p1 &&& (3 : Int32)))])) _
        refine XS.icmpYes X0.here hx rfl (pc0 := 13) (pc' := 19) rfl (hb hby d1_13) rfl (feq hc13_4).2 (by decide) (by decide) ?_
        show Steps p.tables e below (s₁.setTop (mkF m 19 #[.val (.int p1), .val (.int (p1 &&& (3 : Int32)))] [])) _
        refine XS.iloadN X0.here hx rfl (hb hby d1_19) rfl ?_
        show Steps p.tables e below (s₁.setTop (mkF m 20 #[.val (.int p1), .val (.int (p1 &&& (3 : Int32)))] [(.int p1)])) _
        exact retI X0 hx Bd.returns (hb hby d1_20) hr
      · show Q1 Z p1 h0 n0 _ s₁.heap _
        rw [e0]
        exact ⟨(congrArg (fun z => some (Value.int z)) (by simp only [own_pick, if_neg hc5_2, if_neg hc13_4] : p1 = (own_pick p1))), N0, rfl⟩
theorem d2_0 : decode prog_43_method_1_code 0 = .ok (.aload_n 0, 1) := by decide +kernel
theorem d2_1 : decode prog_43_method_1_code 1 = .ok (.invokespecial 1, 3) := by decide +kernel
theorem d2_4 : decode prog_43_method_1_code 4 = .ok (.return_, 1) := by decide +kernel
theorem pn_2 : plainName "com/example/urlset/urlset/read/LineCounter" = true := by first | (simp [plainName, overriddenIn]; done) | decide +kernel
theorem ef_2 (m : MethodId) (x0 : Addr) : entryFrame m #[(.ref x0)] 1 = mkF m 0 #[.val (.ref x0)] [] := by first | (simp [entryFrame, mkF, argsToLocals, Value.category]; done) | rfl
def Q2 (Z : State) (a1 : Addr) (h0 : Heap) (n0 : Nat) (v : Option Value) (h : Heap) (L : List Loc) : Prop := v = none ∧ Fr n0 L ∧ h = h0
set_option maxRecDepth 65536 in
set_option maxHeartbeats 40000000 in
theorem rm2 (l : Launch) (Z : State) (a0 : Array Value) (hw : ∀ d ∈ tables_1, d.before a0 Z = true) (ws : List Jvm.Cond) (a1 : Addr) (h0 : Heap) (n0 : Nat) (Z0 : n0 ≤ h0.size) (E_a1 : Exa Z h0 a1 "com/example/urlset/urlset/read/LineCounter") :
    MetFree l (⟨"com/example/urlset/urlset/read/LineCounter", "<init>", "()V"⟩ : MethodName) (head1 (Jvm.Cond.code (⟨"com/example/urlset/urlset/read/LineCounter", "<init>", "()V"⟩ : MethodName) prog_43_method_1_code 1 none :: ws) ({ frames := 1, cells := 0, slots := 0, locals := 12 } : Room)) (fun a U => a = #[(.ref a1)] ∧ Z.Warmed39 U.vm ∧ U.heap = h0) (fun _ _ _ _ _ => True) (fun _ U o U' => ∃ v L, o = .returned v ∧ Q2 Z a1 h0 n0 v U'.heap L ∧ FrameEnd U o U' L ({ frames := 1, cells := 0, slots := 0, locals := 12 } : Room).cells ({ frames := 1, cells := 0, slots := 0, locals := 12 } : Room).slots) := by
  refine MetFree.of_bodySF (plainFor_of_name pn_2) hisR ?_
  intro p e s m args below meth c s₁ Bd hml0 hP hK
  obtain ⟨rfl, hZ, hh⟩ := hP
  have hx := Bd.exec
  have hby := Bd.bytes
  have hml : c.maxLocals = 1 := hml0
  have hown : s.vm.findClass "com/example/urlset/urlset/read/LineCounter" = some m.cls := findClass_of_methodNamed Bd.named
  have hnm := (name_of_methodNamed Bd.named Bd.method).1
  have X0 : Stand p l e ({ frames := 1, cells := 0, slots := 0, locals := 12 } : Room) s m #[(.ref a1)] below meth c s₁ [] 0 0 := Stand.of_body Bd
  have e0 : s₁.heap = h0 := by rw [← hh, Bd.state]; rfl
  have N0 := Fr.nil n0
  have pre0 : ∀ t, Steps p.tables e below (s₁.setTop (mkF m 0 #[.val (.ref a1)] [])) t → Steps p.tables e below (s₁.setTop (entryFrame m #[(.ref a1)] 1)) t := fun t k => castTop (ef_2 m a1) k
  obtain ⟨T5, X5, e5, st5⟩ := initO X0 hx hZ hown (hw _ (List.mem_of_getElem? (i := 10) rfl)) (hw _ (List.mem_of_getElem? (i := 11) rfl)) (hw _ (List.mem_of_getElem? (i := 12) rfl)) e0 (g := (mkF m 1 #[.val (.ref a1)] [(.ref a1)])) rfl (by rw [hml]; rfl) rfl (hb hby d2_1) (by decide) (W := 0) (by show 2 * 0 + _ ≤ _; exact Nat.le_of_eq rfl) (by decide)
  obtain ⟨fs, hr, hrun, hended, hW, hsame⟩ := X5.leave (v := none) (fun _ => rfl)
  refine ⟨_, _, pre0 _ ?_, hrun, hended, _, _, rfl, ?_, ⟨_, rfl⟩, hW, hsame.mono (by decide) (by decide)⟩
  · show Steps p.tables e below (s₁.setTop (mkF m 0 #[.val (.ref a1)] [])) _
    refine XS.aloadN X0.here hx rfl (hb hby d2_0) rfl rfl ?_
    show Steps p.tables e below (s₁.setTop (mkF m 1 #[.val (.ref a1)] [(.ref a1)])) _
    refine st5 _ ?_
    show Steps p.tables e below (T5.setTop (mkF m 4 #[.val (.ref a1)] [])) _
    exact X5.returnOut hx Bd.returns (hb hby d2_4) hr
  · show Q2 Z a1 h0 n0 _ T5.heap _
    rw [e5]
    exact ⟨rfl, N0, rfl⟩
def own_lo (p2 : Int32) (w1 : Int32) (w3 : Int32) : Int32 := (if p2 = (10 : Int32) then (if w3 = (0 : Int32) then (w1 + (1 : Int32)) else w1) else (w1 + (1 : Int32)))
theorem d4_0 : decode prog_43_method_5_code 0 = .ok (.iload_n 1, 1) := by decide +kernel
theorem d4_1 : decode prog_43_method_5_code 1 = .ok (.bipush 10, 2) := by decide +kernel
theorem d4_3 : decode prog_43_method_5_code 3 = .ok (.if_icmp .ne 17, 3) := by decide +kernel
theorem d4_6 : decode prog_43_method_5_code 6 = .ok (.aload_n 0, 1) := by decide +kernel
theorem d4_7 : decode prog_43_method_5_code 7 = .ok (.getfield 13, 3) := by decide +kernel
theorem d4_10 : decode prog_43_method_5_code 10 = .ok (.ifCond .eq 10, 3) := by decide +kernel
theorem d4_13 : decode prog_43_method_5_code 13 = .ok (.aload_n 0, 1) := by decide +kernel
theorem d4_14 : decode prog_43_method_5_code 14 = .ok (.getfield 7, 3) := by decide +kernel
theorem d4_17 : decode prog_43_method_5_code 17 = .ok (.goto 9, 3) := by decide +kernel
theorem d4_20 : decode prog_43_method_5_code 20 = .ok (.aload_n 0, 1) := by decide +kernel
theorem d4_21 : decode prog_43_method_5_code 21 = .ok (.getfield 7, 3) := by decide +kernel
theorem d4_24 : decode prog_43_method_5_code 24 = .ok (.iconst 1, 1) := by decide +kernel
theorem d4_25 : decode prog_43_method_5_code 25 = .ok (.iadd, 1) := by decide +kernel
theorem d4_26 : decode prog_43_method_5_code 26 = .ok (.ireturn, 1) := by decide +kernel
theorem ef_4 (m : MethodId) (x0 : Addr) (x1 : Int32) : entryFrame m #[(.ref x0), (.int x1)] 2 = mkF m 0 #[.val (.ref x0), .val (.int x1)] [] := by first | (simp [entryFrame, mkF, argsToLocals, Value.category]; done) | rfl
def Q4 (Z : State) (a1 : Addr) (p2 : Int32) (w1 : Int32) (w3 : Int32) (h0 : Heap) (n0 : Nat) (v : Option Value) (h : Heap) (L : List Loc) : Prop := v = some (.int (own_lo p2 w1 w3)) ∧ Fr n0 L ∧ h = h0
set_option maxRecDepth 65536 in
set_option maxHeartbeats 40000000 in
theorem rm4 (l : Launch) (Z : State) (a0 : Array Value) (hw : ∀ d ∈ tables_1, d.before a0 Z = true) (ws : List Jvm.Cond) (a1 : Addr) (p2 : Int32) (w1 : Int32) (w3 : Int32) (h0 : Heap) (n0 : Nat) (Z0 : n0 ≤ h0.size) (E_a1 : Exa Z h0 a1 "com/example/urlset/urlset/read/LineCounter") (F_a1_xmlLines : Fld Z h0 a1 "com/example/urlset/urlset/read/LineCounter" "xmlLines" "I" (.int w1)) (F_a1_afterReturn : Fld Z h0 a1 "com/example/urlset/urlset/read/LineCounter" "afterReturn" "Z" (.int w3)) :
    MetFree l (⟨"com/example/urlset/urlset/read/LineCounter", "getXmlLineOf", "(I)I"⟩ : MethodName) (head1 (Jvm.Cond.code (⟨"com/example/urlset/urlset/read/LineCounter", "getXmlLineOf", "(I)I"⟩ : MethodName) prog_43_method_5_code 2 (some .int) :: ws) ({ frames := 0, cells := 0, slots := 0, locals := 0 } : Room)) (fun a U => a = #[(.ref a1), (.int p2)] ∧ Z.Warmed39 U.vm ∧ U.heap = h0) (fun _ _ _ _ _ => True) (fun _ U o U' => ∃ v L, o = .returned v ∧ Q4 Z a1 p2 w1 w3 h0 n0 v U'.heap L ∧ FrameEnd U o U' L ({ frames := 0, cells := 0, slots := 0, locals := 0 } : Room).cells ({ frames := 0, cells := 0, slots := 0, locals := 0 } : Room).slots) := by
  refine MetFree.of_bodySF (plainFor_of_name pn_2) hisR ?_
  intro p e s m args below meth c s₁ Bd hml0 hP hK
  obtain ⟨rfl, hZ, hh⟩ := hP
  have hx := Bd.exec
  have hby := Bd.bytes
  have hml : c.maxLocals = 2 := hml0
  have hown : s.vm.findClass "com/example/urlset/urlset/read/LineCounter" = some m.cls := findClass_of_methodNamed Bd.named
  have hnm := (name_of_methodNamed Bd.named Bd.method).1
  have X0 : Stand p l e ({ frames := 0, cells := 0, slots := 0, locals := 0 } : Room) s m #[(.ref a1), (.int p2)] below meth c s₁ [] 0 0 := Stand.of_body Bd
  have e0 : s₁.heap = h0 := by rw [← hh, Bd.state]; rfl
  have N0 := Fr.nil n0
  have pre0 : ∀ t, Steps p.tables e below (s₁.setTop (mkF m 0 #[.val (.ref a1), .val (.int p2)] [])) t → Steps p.tables e below (s₁.setTop (entryFrame m #[(.ref a1), (.int p2)] 2)) t := fun t k => castTop (ef_4 m a1 p2) k
  have pre6 : ∀ t, Steps p.tables e below (s₁.setTop (mkF m 3 #[.val (.ref a1), .val (.int p2)] [(.int (10 : Int32)), (.int p2)])) t → Steps p.tables e below (s₁.setTop (entryFrame m #[(.ref a1), (.int p2)] 2)) t := fun t k => pre0 t (by
      show Steps p.tables e below (s₁.setTop (mkF m 0 #[.val (.ref a1), .val (.int p2)] [])) _
      refine XS.iloadN X0.here hx rfl (hb hby d4_0) rfl ?_
      show Steps p.tables e below (s₁.setTop (mkF m 1 #[.val (.ref a1), .val (.int p2)] [(.int p2)])) _
      refine XS.bipush X0.here hx rfl (hb hby d4_1) ?_
      exact k)
  by_cases hc3_7 : p2 = (10 : Int32)
  · obtain ⟨T8, X8, e8, st8⟩ := getF X0 hx hZ hown (host := "") (Or.inl (hw _ (List.mem_of_getElem? (i := 27) rfl))) Via.refl e0 F_a1_afterReturn (g := (mkF m 7 #[.val (.ref a1), .val (.int p2)] [(.ref a1)])) rfl rfl (hb hby d4_7)
    have pre9 : ∀ t, Steps p.tables e below (T8.setTop (mkF m 10 #[.val (.ref a1), .val (.int p2)] [(.int w3)])) t → Steps p.tables e below (s₁.setTop (entryFrame m #[(.ref a1), (.int p2)] 2)) t := fun t k => pre6 t (by
        show Steps p.tables e below (s₁.setTop (mkF m 3 #[.val (.ref a1), .val (.int p2)] [(.int (10 : Int32)), (.int p2)])) _
        refine XS.icmpNo X0.here hx rfl (hb hby d4_3) rfl (teq hc3_7).2 ?_
        show Steps p.tables e below (s₁.setTop (mkF m 6 #[.val (.ref a1), .val (.int p2)] [])) _
        refine XS.aloadN X0.here hx rfl (hb hby d4_6) rfl rfl ?_
        show Steps p.tables e below (s₁.setTop (mkF m 7 #[.val (.ref a1), .val (.int p2)] [(.ref a1)])) _
        refine st8 _ ?_
        exact k)
    by_cases hc10_10 : w3 = (0 : Int32)
    · obtain ⟨T11, X11, e11, st11⟩ := getF X8 hx hZ hown (host := "") (Or.inl (hw _ (List.mem_of_getElem? (i := 18) rfl))) Via.refl e8 F_a1_xmlLines (g := (mkF m 21 #[.val (.ref a1), .val (.int p2)] [(.ref a1)])) rfl rfl (hb hby d4_21)
      obtain ⟨fs, hr, hrun, hended, hW, hsame⟩ := X11.leave (v := some (.int (w1 + (1 : Int32)))) (fun h => by rw [Bd.returns] at h; cases h)
      refine ⟨_, _, pre9 _ ?_, hrun, hended, _, _, rfl, ?_, ⟨_, rfl⟩, hW, hsame.mono (by decide) (by decide)⟩
      · show Steps p.tables e below (T8.setTop (mkF m 10 #[.val (.ref a1), .val (.int p2)] [(.int w3)])) _
        refine XS.ifYes X8.here hx rfl (pc0 := 10) (pc' := 20) rfl (hb hby d4_10) rfl ((if0 _ _).trans (teq hc10_10).1) (by decide) (by decide) ?_
        show Steps p.tables e below (T8.setTop (mkF m 20 #[.val (.ref a1), .val (.int p2)] [])) _
        refine XS.aloadN X8.here hx rfl (hb hby d4_20) rfl rfl ?_
        show Steps p.tables e below (T8.setTop (mkF m 21 #[.val (.ref a1), .val (.int p2)] [(.ref a1)])) _
        refine st11 _ ?_
        show Steps p.tables e below (T11.setTop (mkF m 24 #[.val (.ref a1), .val (.int p2)] [(.int w1)])) _
        refine XS.iconst X11.here hx rfl (hb hby d4_24) ?_
        show Steps p.tables e below (T11.setTop (mkF m 25 #[.val (.ref a1), .val (.int p2)] [(.int (1 : Int32)), (.int w1)])) _
        refine XS.iadd X11.here hx rfl (hb hby d4_25) rfl ?_
        show Steps p.tables e below (T11.setTop (mkF m 26 #[.val (.ref a1), .val (.int p2)] [(.int (w1 + (1 : Int32)))])) _
        exact retI X11 hx Bd.returns (hb hby d4_26) hr
      · show Q4 Z a1 p2 w1 w3 h0 n0 _ T11.heap _
        rw [e11]
        exact ⟨(congrArg (fun z => some (Value.int z)) (by simp only [own_lo, if_pos hc3_7, if_pos hc10_10] : (w1 + (1 : Int32)) = (own_lo p2 w1 w3))), N0, rfl⟩
    · obtain ⟨T12, X12, e12, st12⟩ := getF X8 hx hZ hown (host := "") (Or.inl (hw _ (List.mem_of_getElem? (i := 18) rfl))) Via.refl e8 F_a1_xmlLines (g := (mkF m 14 #[.val (.ref a1), .val (.int p2)] [(.ref a1)])) rfl rfl (hb hby d4_14)
      obtain ⟨fs, hr, hrun, hended, hW, hsame⟩ := X12.leave (v := some (.int w1)) (fun h => by rw [Bd.returns] at h; cases h)
      refine ⟨_, _, pre9 _ ?_, hrun, hended, _, _, rfl, ?_, ⟨_, rfl⟩, hW, hsame.mono (by decide) (by decide)⟩
      · show Steps p.tables e below (T8.setTop (mkF m 10 #[.val (.ref a1), .val (.int p2)] [(.int w3)])) _
        refine XS.ifNo X8.here hx rfl (hb hby d4_10) rfl ((if0 _ _).trans (feq hc10_10).1) ?_
        show Steps p.tables e below (T8.setTop (mkF m 13 #[.val (.ref a1), .val (.int p2)] [])) _
        refine XS.aloadN X8.here hx rfl (hb hby d4_13) rfl rfl ?_
        show Steps p.tables e below (T8.setTop (mkF m 14 #[.val (.ref a1), .val (.int p2)] [(.ref a1)])) _
        refine st12 _ ?_
        show Steps p.tables e below (T12.setTop (mkF m 17 #[.val (.ref a1), .val (.int p2)] [(.int w1)])) _
        refine XS.goto X12.here hx rfl (pc0 := 17) (pc' := 26) rfl (hb hby d4_17) (by decide) (by decide) ?_
        show Steps p.tables e below (T12.setTop (mkF m 26 #[.val (.ref a1), .val (.int p2)] [(.int w1)])) _
        exact retI X12 hx Bd.returns (hb hby d4_26) hr
      · show Q4 Z a1 p2 w1 w3 h0 n0 _ T12.heap _
        rw [e12]
        exact ⟨(congrArg (fun z => some (Value.int z)) (by simp only [own_lo, if_pos hc3_7, if_neg hc10_10] : w1 = (own_lo p2 w1 w3))), N0, rfl⟩
  · obtain ⟨T13, X13, e13, st13⟩ := getF X0 hx hZ hown (host := "") (Or.inl (hw _ (List.mem_of_getElem? (i := 18) rfl))) Via.refl e0 F_a1_xmlLines (g := (mkF m 21 #[.val (.ref a1), .val (.int p2)] [(.ref a1)])) rfl rfl (hb hby d4_21)
    obtain ⟨fs, hr, hrun, hended, hW, hsame⟩ := X13.leave (v := some (.int (w1 + (1 : Int32)))) (fun h => by rw [Bd.returns] at h; cases h)
    refine ⟨_, _, pre6 _ ?_, hrun, hended, _, _, rfl, ?_, ⟨_, rfl⟩, hW, hsame.mono (by decide) (by decide)⟩
    · show Steps p.tables e below (s₁.setTop (mkF m 3 #[.val (.ref a1), .val (.int p2)] [(.int (10 : Int32)), (.int p2)])) _
      refine XS.icmpYes X0.here hx rfl (pc0 := 3) (pc' := 20) rfl (hb hby d4_3) rfl (feq hc3_7).2 (by decide) (by decide) ?_
      show Steps p.tables e below (s₁.setTop (mkF m 20 #[.val (.ref a1), .val (.int p2)] [])) _
      refine XS.aloadN X0.here hx rfl (hb hby d4_20) rfl rfl ?_
      show Steps p.tables e below (s₁.setTop (mkF m 21 #[.val (.ref a1), .val (.int p2)] [(.ref a1)])) _
      refine st13 _ ?_
      show Steps p.tables e below (T13.setTop (mkF m 24 #[.val (.ref a1), .val (.int p2)] [(.int w1)])) _
      refine XS.iconst X13.here hx rfl (hb hby d4_24) ?_
      show Steps p.tables e below (T13.setTop (mkF m 25 #[.val (.ref a1), .val (.int p2)] [(.int (1 : Int32)), (.int w1)])) _
      refine XS.iadd X13.here hx rfl (hb hby d4_25) rfl ?_
      show Steps p.tables e below (T13.setTop (mkF m 26 #[.val (.ref a1), .val (.int p2)] [(.int (w1 + (1 : Int32)))])) _
      exact retI X13 hx Bd.returns (hb hby d4_26) hr
    · show Q4 Z a1 p2 w1 w3 h0 n0 _ T13.heap _
      rw [e13]
      exact ⟨(congrArg (fun z => some (Value.int z)) (by simp only [own_lo, if_neg hc3_7] : (w1 + (1 : Int32)) = (own_lo p2 w1 w3))), N0, rfl⟩
theorem d5_0 : decode prog_43_method_2_code 0 = .ok (.aload_n 0, 1) := by decide +kernel
theorem d5_1 : decode prog_43_method_2_code 1 = .ok (.dup, 1) := by decide +kernel
theorem d5_2 : decode prog_43_method_2_code 2 = .ok (.getfield 7, 3) := by decide +kernel
theorem d5_5 : decode prog_43_method_2_code 5 = .ok (.iload_n 1, 1) := by decide +kernel
theorem d5_6 : decode prog_43_method_2_code 6 = .ok (.bipush 13, 2) := by decide +kernel
theorem d5_8 : decode prog_43_method_2_code 8 = .ok (.if_icmp .eq 16, 3) := by decide +kernel
theorem d5_11 : decode prog_43_method_2_code 11 = .ok (.iload_n 1, 1) := by decide +kernel
theorem d5_12 : decode prog_43_method_2_code 12 = .ok (.bipush 10, 2) := by decide +kernel
theorem d5_14 : decode prog_43_method_2_code 14 = .ok (.if_icmp .ne 14, 3) := by decide +kernel
theorem d5_17 : decode prog_43_method_2_code 17 = .ok (.aload_n 0, 1) := by decide +kernel
theorem d5_18 : decode prog_43_method_2_code 18 = .ok (.getfield 13, 3) := by decide +kernel
theorem d5_21 : decode prog_43_method_2_code 21 = .ok (.ifCond .ne 7, 3) := by decide +kernel
theorem d5_24 : decode prog_43_method_2_code 24 = .ok (.iconst 1, 1) := by decide +kernel
theorem d5_25 : decode prog_43_method_2_code 25 = .ok (.goto 4, 3) := by decide +kernel
theorem d5_28 : decode prog_43_method_2_code 28 = .ok (.iconst 0, 1) := by decide +kernel
theorem d5_29 : decode prog_43_method_2_code 29 = .ok (.iadd, 1) := by decide +kernel
theorem d5_30 : decode prog_43_method_2_code 30 = .ok (.putfield 7, 3) := by decide +kernel
theorem d5_33 : decode prog_43_method_2_code 33 = .ok (.aload_n 0, 1) := by decide +kernel
theorem d5_34 : decode prog_43_method_2_code 34 = .ok (.dup, 1) := by decide +kernel
theorem d5_35 : decode prog_43_method_2_code 35 = .ok (.getfield 17, 3) := by decide +kernel
theorem d5_38 : decode prog_43_method_2_code 38 = .ok (.iload_n 1, 1) := by decide +kernel
theorem d5_39 : decode prog_43_method_2_code 39 = .ok (.bipush 10, 2) := by decide +kernel
theorem d5_41 : decode prog_43_method_2_code 41 = .ok (.if_icmp .ne 7, 3) := by decide +kernel
theorem d5_44 : decode prog_43_method_2_code 44 = .ok (.iconst 1, 1) := by decide +kernel
theorem d5_45 : decode prog_43_method_2_code 45 = .ok (.goto 4, 3) := by decide +kernel
theorem d5_48 : decode prog_43_method_2_code 48 = .ok (.iconst 0, 1) := by decide +kernel
theorem d5_49 : decode prog_43_method_2_code 49 = .ok (.iadd, 1) := by decide +kernel
theorem d5_50 : decode prog_43_method_2_code 50 = .ok (.putfield 17, 3) := by decide +kernel
theorem d5_53 : decode prog_43_method_2_code 53 = .ok (.aload_n 0, 1) := by decide +kernel
theorem d5_54 : decode prog_43_method_2_code 54 = .ok (.iload_n 1, 1) := by decide +kernel
theorem d5_55 : decode prog_43_method_2_code 55 = .ok (.bipush 13, 2) := by decide +kernel
theorem d5_57 : decode prog_43_method_2_code 57 = .ok (.if_icmp .ne 7, 3) := by decide +kernel
theorem d5_60 : decode prog_43_method_2_code 60 = .ok (.iconst 1, 1) := by decide +kernel
theorem d5_61 : decode prog_43_method_2_code 61 = .ok (.goto 4, 3) := by decide +kernel
theorem d5_64 : decode prog_43_method_2_code 64 = .ok (.iconst 0, 1) := by decide +kernel
theorem d5_65 : decode prog_43_method_2_code 65 = .ok (.putfield 13, 3) := by decide +kernel
theorem d5_68 : decode prog_43_method_2_code 68 = .ok (.return_, 1) := by decide +kernel
theorem ef_5 (m : MethodId) (x0 : Addr) (x1 : Int32) : entryFrame m #[(.ref x0), (.int x1)] 2 = mkF m 0 #[.val (.ref x0), .val (.int x1)] [] := by first | (simp [entryFrame, mkF, argsToLocals, Value.category]; done) | rfl
def Q5 (Z : State) (a1 : Addr) (p2 : Int32) (w1 : Int32) (w2 : Int32) (w3 : Int32) (h0 : Heap) (n0 : Nat) (v : Option Value) (h : Heap) (L : List Loc) : Prop := v = none ∧ Fr n0 L ∧ Keep h0 h [a1] ∧ Exa Z h a1 "com/example/urlset/urlset/read/LineCounter" ∧ Fld Z h a1 "com/example/urlset/urlset/read/LineCounter" "xmlLines" "I" (.int (own_cx p2 w1 w3)) ∧ Fld Z h a1 "com/example/urlset/urlset/read/LineCounter" "textLines" "I" (.int (own_ct p2 w2)) ∧ Fld Z h a1 "com/example/urlset/urlset/read/LineCounter" "afterReturn" "Z" (.int (own_cr p2))
set_option maxRecDepth 65536 in
set_option maxHeartbeats 40000000 in
theorem rm5 (l : Launch) (Z : State) (a0 : Array Value) (hw : ∀ d ∈ tables_1, d.before a0 Z = true) (ws : List Jvm.Cond) (a1 : Addr) (p2 : Int32) (w1 : Int32) (w2 : Int32) (w3 : Int32) (h0 : Heap) (n0 : Nat) (Z0 : n0 ≤ h0.size) (E_a1 : Exa Z h0 a1 "com/example/urlset/urlset/read/LineCounter") (F_a1_xmlLines : Fld Z h0 a1 "com/example/urlset/urlset/read/LineCounter" "xmlLines" "I" (.int w1)) (F_a1_textLines : Fld Z h0 a1 "com/example/urlset/urlset/read/LineCounter" "textLines" "I" (.int w2)) (F_a1_afterReturn : Fld Z h0 a1 "com/example/urlset/urlset/read/LineCounter" "afterReturn" "Z" (.int w3)) (g_a1 : n0 ≤ a1) :
    MetFree l (⟨"com/example/urlset/urlset/read/LineCounter", "count", "(I)V"⟩ : MethodName) (head1 (Jvm.Cond.code (⟨"com/example/urlset/urlset/read/LineCounter", "count", "(I)V"⟩ : MethodName) prog_43_method_2_code 2 none :: ws) ({ frames := 0, cells := 0, slots := 0, locals := 0 } : Room)) (fun a U => a = #[(.ref a1), (.int p2)] ∧ Z.Warmed39 U.vm ∧ U.heap = h0) (fun _ _ _ _ _ => True) (fun _ U o U' => ∃ v L, o = .returned v ∧ Q5 Z a1 p2 w1 w2 w3 h0 n0 v U'.heap L ∧ FrameEnd U o U' L ({ frames := 0, cells := 0, slots := 0, locals := 0 } : Room).cells ({ frames := 0, cells := 0, slots := 0, locals := 0 } : Room).slots) := by
  refine MetFree.of_bodySF (plainFor_of_name pn_2) hisR ?_
  intro p e s m args below meth c s₁ Bd hml0 hP hK
  obtain ⟨rfl, hZ, hh⟩ := hP
  have hx := Bd.exec
  have hby := Bd.bytes
  have hml : c.maxLocals = 2 := hml0
  have hown : s.vm.findClass "com/example/urlset/urlset/read/LineCounter" = some m.cls := findClass_of_methodNamed Bd.named
  have hnm := (name_of_methodNamed Bd.named Bd.method).1
  have X0 : Stand p l e ({ frames := 0, cells := 0, slots := 0, locals := 0 } : Room) s m #[(.ref a1), (.int p2)] below meth c s₁ [] 0 0 := Stand.of_body Bd
  have e0 : s₁.heap = h0 := by rw [← hh, Bd.state]; rfl
  have N0 := Fr.nil n0
  have pre0 : ∀ t, Steps p.tables e below (s₁.setTop (mkF m 0 #[.val (.ref a1), .val (.int p2)] [])) t → Steps p.tables e below (s₁.setTop (entryFrame m #[(.ref a1), (.int p2)] 2)) t := fun t k => castTop (ef_5 m a1 p2) k
  obtain ⟨T14, X14, e14, st14⟩ := getF X0 hx hZ hown (host := "") (Or.inl (hw _ (List.mem_of_getElem? (i := 18) rfl))) Via.refl e0 F_a1_xmlLines (g := (mkF m 2 #[.val (.ref a1), .val (.int p2)] [(.ref a1), (.ref a1)])) rfl rfl (hb hby d5_2)
  have pre15 : ∀ t, Steps p.tables e below (T14.setTop (mkF m 8 #[.val (.ref a1), .val (.int p2)] [(.int (13 : Int32)), (.int p2), (.int w1), (.ref a1)])) t → Steps p.tables e below (s₁.setTop (entryFrame m #[(.ref a1), (.int p2)] 2)) t := fun t k => pre0 t (by
      show Steps p.tables e below (s₁.setTop (mkF m 0 #[.val (.ref a1), .val (.int p2)] [])) _
      refine XS.aloadN X0.here hx rfl (hb hby d5_0) rfl rfl ?_
      show Steps p.tables e below (s₁.setTop (mkF m 1 #[.val (.ref a1), .val (.int p2)] [(.ref a1)])) _
      refine XS.dup X0.here hx rfl (hb hby d5_1) rfl rfl ?_
      show Steps p.tables e below (s₁.setTop (mkF m 2 #[.val (.ref a1), .val (.int p2)] [(.ref a1), (.ref a1)])) _
      refine st14 _ ?_
      show Steps p.tables e below (T14.setTop (mkF m 5 #[.val (.ref a1), .val (.int p2)] [(.int w1), (.ref a1)])) _
      refine XS.iloadN X14.here hx rfl (hb hby d5_5) rfl ?_
      show Steps p.tables e below (T14.setTop (mkF m 6 #[.val (.ref a1), .val (.int p2)] [(.int p2), (.int w1), (.ref a1)])) _
      refine XS.bipush X14.here hx rfl (hb hby d5_6) ?_
      exact k)
  by_cases hc8_16 : p2 = (13 : Int32)
  · obtain ⟨T17, h17, X17, e17, W17, st17⟩ := putF X14 hx hZ hown (host := "") (Or.inl (hw _ (List.mem_of_getElem? (i := 18) rfl))) Via.refl e14 F_a1_xmlLines E_a1 (Or.inl (hw _ (List.mem_of_getElem? (i := 19) rfl))) (hw _ (List.mem_of_getElem? (i := 5) rfl)) (ty := .int) (by decide) rfl rfl (g := (mkF m 30 #[.val (.ref a1), .val (.int p2)] [(.int (w1 + (1 : Int32))), (.ref a1)])) rfl rfl (hb hby d5_30)
    have z18 : n0 ≤ h17.size := Nat.le_trans Z0 (Keep.of_wr W17).1
    have fw17 : Fld Z h17 a1 "com/example/urlset/urlset/read/LineCounter" "xmlLines" "I" (.int (w1 + (1 : Int32))) := F_a1_xmlLines.same W17
    have N17 := Fr.snoc X17 N0 g_a1
    have K17 : Keep h0 h17 [a1] := (Keep.refl h0 [a1]).wr W17 (Or.inl (List.mem_of_getElem? (i := 0) rfl))
    have f19 : Fld Z h17 a1 "com/example/urlset/urlset/read/LineCounter" "textLines" "I" (.int w2) := (F_a1_textLines.other W17 (Or.inr (slot_ne (Or.inl (hw _ (List.mem_of_getElem? (i := 26) rfl))) (Or.inl (hw _ (List.mem_of_getElem? (i := 19) rfl))) (by decide) (t := .int) (t' := .int) (by decide) (by decide))))
    obtain ⟨T20, X20, e20, st20⟩ := getF X17 hx hZ hown (host := "") (Or.inl (hw _ (List.mem_of_getElem? (i := 25) rfl))) Via.refl e17 f19 (g := (mkF m 35 #[.val (.ref a1), .val (.int p2)] [(.ref a1), (.ref a1)])) rfl rfl (hb hby d5_35)
    have pre21 : ∀ t, Steps p.tables e below (T20.setTop (mkF m 41 #[.val (.ref a1), .val (.int p2)] [(.int (10 : Int32)), (.int p2), (.int w2), (.ref a1)])) t → Steps p.tables e below (s₁.setTop (entryFrame m #[(.ref a1), (.int p2)] 2)) t := fun t k => pre15 t (by
        show Steps p.tables e below (T14.setTop (mkF m 8 #[.val (.ref a1), .val (.int p2)] [(.int (13 : Int32)), (.int p2), (.int w1), (.ref a1)])) _
        refine XS.icmpYes X14.here hx rfl (pc0 := 8) (pc' := 24) rfl (hb hby d5_8) rfl (teq hc8_16).1 (by decide) (by decide) ?_
        show Steps p.tables e below (T14.setTop (mkF m 24 #[.val (.ref a1), .val (.int p2)] [(.int w1), (.ref a1)])) _
        refine XS.iconst X14.here hx rfl (hb hby d5_24) ?_
        show Steps p.tables e below (T14.setTop (mkF m 25 #[.val (.ref a1), .val (.int p2)] [(.int (1 : Int32)), (.int w1), (.ref a1)])) _
        refine XS.goto X14.here hx rfl (pc0 := 25) (pc' := 29) rfl (hb hby d5_25) (by decide) (by decide) ?_
        show Steps p.tables e below (T14.setTop (mkF m 29 #[.val (.ref a1), .val (.int p2)] [(.int (1 : Int32)), (.int w1), (.ref a1)])) _
        refine XS.iadd X14.here hx rfl (hb hby d5_29) rfl ?_
        show Steps p.tables e below (T14.setTop (mkF m 30 #[.val (.ref a1), .val (.int p2)] [(.int (w1 + (1 : Int32))), (.ref a1)])) _
        refine st17 _ ?_
        show Steps p.tables e below (T17.setTop (mkF m 33 #[.val (.ref a1), .val (.int p2)] [])) _
        refine XS.aloadN X17.here hx rfl (hb hby d5_33) rfl rfl ?_
        show Steps p.tables e below (T17.setTop (mkF m 34 #[.val (.ref a1), .val (.int p2)] [(.ref a1)])) _
        refine XS.dup X17.here hx rfl (hb hby d5_34) rfl rfl ?_
        show Steps p.tables e below (T17.setTop (mkF m 35 #[.val (.ref a1), .val (.int p2)] [(.ref a1), (.ref a1)])) _
        refine st20 _ ?_
        show Steps p.tables e below (T20.setTop (mkF m 38 #[.val (.ref a1), .val (.int p2)] [(.int w2), (.ref a1)])) _
        refine XS.iloadN X20.here hx rfl (hb hby d5_38) rfl ?_
        show Steps p.tables e below (T20.setTop (mkF m 39 #[.val (.ref a1), .val (.int p2)] [(.int p2), (.int w2), (.ref a1)])) _
        refine XS.bipush X20.here hx rfl (hb hby d5_39) ?_
        exact k)
    by_cases hc41_22 : p2 = (10 : Int32)
    · have f23 : Exa Z h17 a1 "com/example/urlset/urlset/read/LineCounter" := (E_a1.wr W17)
      obtain ⟨T24, h24, X24, e24, W24, st24⟩ := putF X20 hx hZ hown (host := "") (Or.inl (hw _ (List.mem_of_getElem? (i := 25) rfl))) Via.refl e20 f19 f23 (Or.inl (hw _ (List.mem_of_getElem? (i := 26) rfl))) (hw _ (List.mem_of_getElem? (i := 5) rfl)) (ty := .int) (by decide) rfl rfl (g := (mkF m 50 #[.val (.ref a1), .val (.int p2)] [(.int (w2 + (1 : Int32))), (.ref a1)])) rfl rfl (hb hby d5_50)
      have z25 : n0 ≤ h24.size := Nat.le_trans z18 (Keep.of_wr W24).1
      have fw24 : Fld Z h24 a1 "com/example/urlset/urlset/read/LineCounter" "textLines" "I" (.int (w2 + (1 : Int32))) := f19.same W24
      have N24 := Fr.snoc X24 N17 g_a1
      have K24 : Keep h0 h24 [a1] := K17.wr W24 (Or.inl (List.mem_of_getElem? (i := 0) rfl))
      have f26 : Exa Z h24 a1 "com/example/urlset/urlset/read/LineCounter" := (f23.wr W24)
      have f27 : Fld Z h24 a1 "com/example/urlset/urlset/read/LineCounter" "afterReturn" "Z" (.int w3) := ((F_a1_afterReturn.other W17 (Or.inr (slot_ne (Or.inl (hw _ (List.mem_of_getElem? (i := 28) rfl))) (Or.inl (hw _ (List.mem_of_getElem? (i := 19) rfl))) (by decide) (t := .boolean) (t' := .int) (by decide) (by decide)))).other W24 (Or.inr (slot_ne (Or.inl (hw _ (List.mem_of_getElem? (i := 28) rfl))) (Or.inl (hw _ (List.mem_of_getElem? (i := 26) rfl))) (by decide) (t := .boolean) (t' := .int) (by decide) (by decide))))
      obtain ⟨T28, h28, X28, e28, W28, st28⟩ := putFN X24 hx hZ hown (hw _ (List.mem_of_getElem? (i := 27) rfl)) Via.refl e24 f27 f26 (Or.inl (hw _ (List.mem_of_getElem? (i := 28) rfl))) (hw _ (List.mem_of_getElem? (i := 5) rfl)) (ty := .boolean) (v' := (.int (1 : Int32))) (by decide) rfl (by decide) (g := (mkF m 65 #[.val (.ref a1), .val (.int p2)] [(.int (1 : Int32)), (.ref a1)])) rfl rfl (hb hby d5_65)
      have z29 : n0 ≤ h28.size := Nat.le_trans z25 (Keep.of_wr W28).1
      have fw28 : Fld Z h28 a1 "com/example/urlset/urlset/read/LineCounter" "afterReturn" "Z" (.int (1 : Int32)) := f27.same W28
      have N28 := Fr.snoc X28 N24 g_a1
      have K28 : Keep h0 h28 [a1] := K24.wr W28 (Or.inl (List.mem_of_getElem? (i := 0) rfl))
      obtain ⟨fs, hr, hrun, hended, hW, hsame⟩ := X28.leave (v := none) (fun _ => rfl)
      refine ⟨_, _, pre21 _ ?_, hrun, hended, _, _, rfl, ?_, ⟨_, rfl⟩, hW, hsame.mono (by decide) (by decide)⟩
      · show Steps p.tables e below (T20.setTop (mkF m 41 #[.val (.ref a1), .val (.int p2)] [(.int (10 : Int32)), (.int p2), (.int w2), (.ref a1)])) _
        refine XS.icmpNo X20.here hx rfl (hb hby d5_41) rfl (teq hc41_22).2 ?_
        show Steps p.tables e below (T20.setTop (mkF m 44 #[.val (.ref a1), .val (.int p2)] [(.int w2), (.ref a1)])) _
        refine XS.iconst X20.here hx rfl (hb hby d5_44) ?_
        show Steps p.tables e below (T20.setTop (mkF m 45 #[.val (.ref a1), .val (.int p2)] [(.int (1 : Int32)), (.int w2), (.ref a1)])) _
        refine XS.goto X20.here hx rfl (pc0 := 45) (pc' := 49) rfl (hb hby d5_45) (by decide) (by decide) ?_
        show Steps p.tables e below (T20.setTop (mkF m 49 #[.val (.ref a1), .val (.int p2)] [(.int (1 : Int32)), (.int w2), (.ref a1)])) _
        refine XS.iadd X20.here hx rfl (hb hby d5_49) rfl ?_
        show Steps p.tables e below (T20.setTop (mkF m 50 #[.val (.ref a1), .val (.int p2)] [(.int (w2 + (1 : Int32))), (.ref a1)])) _
        refine st24 _ ?_
        show Steps p.tables e below (T24.setTop (mkF m 53 #[.val (.ref a1), .val (.int p2)] [])) _
        refine XS.aloadN X24.here hx rfl (hb hby d5_53) rfl rfl ?_
        show Steps p.tables e below (T24.setTop (mkF m 54 #[.val (.ref a1), .val (.int p2)] [(.ref a1)])) _
        refine XS.iloadN X24.here hx rfl (hb hby d5_54) rfl ?_
        show Steps p.tables e below (T24.setTop (mkF m 55 #[.val (.ref a1), .val (.int p2)] [(.int p2), (.ref a1)])) _
        refine XS.bipush X24.here hx rfl (hb hby d5_55) ?_
        show Steps p.tables e below (T24.setTop (mkF m 57 #[.val (.ref a1), .val (.int p2)] [(.int (13 : Int32)), (.int p2), (.ref a1)])) _
        refine XS.icmpNo X24.here hx rfl (hb hby d5_57) rfl (teq hc8_16).2 ?_
        show Steps p.tables e below (T24.setTop (mkF m 60 #[.val (.ref a1), .val (.int p2)] [(.ref a1)])) _
        refine XS.iconst X24.here hx rfl (hb hby d5_60) ?_
        show Steps p.tables e below (T24.setTop (mkF m 61 #[.val (.ref a1), .val (.int p2)] [(.int (1 : Int32)), (.ref a1)])) _
        refine XS.goto X24.here hx rfl (pc0 := 61) (pc' := 65) rfl (hb hby d5_61) (by decide) (by decide) ?_
        show Steps p.tables e below (T24.setTop (mkF m 65 #[.val (.ref a1), .val (.int p2)] [(.int (1 : Int32)), (.ref a1)])) _
        refine st28 _ ?_
        show Steps p.tables e below (T28.setTop (mkF m 68 #[.val (.ref a1), .val (.int p2)] [])) _
        exact X28.returnOut hx Bd.returns (hb hby d5_68) hr
      have f30 : Exa Z h28 a1 "com/example/urlset/urlset/read/LineCounter" := (f26.wr W28)
      have f31 : Fld Z h28 a1 "com/example/urlset/urlset/read/LineCounter" "xmlLines" "I" (.int (w1 + (1 : Int32))) := ((fw17.other W24 (Or.inr (slot_ne (Or.inl (hw _ (List.mem_of_getElem? (i := 19) rfl))) (Or.inl (hw _ (List.mem_of_getElem? (i := 26) rfl))) (by decide) (t := .int) (t' := .int) (by decide) (by decide)))).other W28 (Or.inr (slot_ne (Or.inl (hw _ (List.mem_of_getElem? (i := 19) rfl))) (Or.inl (hw _ (List.mem_of_getElem? (i := 28) rfl))) (by decide) (t := .int) (t' := .boolean) (by decide) (by decide))))
      have f32 : Fld Z h28 a1 "com/example/urlset/urlset/read/LineCounter" "textLines" "I" (.int (w2 + (1 : Int32))) := (fw24.other W28 (Or.inr (slot_ne (Or.inl (hw _ (List.mem_of_getElem? (i := 26) rfl))) (Or.inl (hw _ (List.mem_of_getElem? (i := 28) rfl))) (by decide) (t := .int) (t' := .boolean) (by decide) (by decide))))
      · show Q5 Z a1 p2 w1 w2 w3 h0 n0 _ T28.heap _
        rw [e28]
        exact ⟨rfl, N28, K28, f30, (by have q : (w1 + (1 : Int32)) = (own_cx p2 w1 w3) := (by simp only [own_cx, if_pos hc8_16, if_pos hc41_22]); rw [← q]; exact f31), (by have q : (w2 + (1 : Int32)) = (own_ct p2 w2) := (by simp only [own_ct, if_pos hc8_16, if_pos hc41_22]); rw [← q]; exact f32), (by have q : (1 : Int32) = (own_cr p2) := (by simp only [own_cr, if_pos hc8_16, if_pos hc41_22]); rw [← q]; exact fw28)⟩
    · have f33 : Exa Z h17 a1 "com/example/urlset/urlset/read/LineCounter" := (E_a1.wr W17)
      obtain ⟨T34, h34, X34, e34, W34, st34⟩ := putF X20 hx hZ hown (host := "") (Or.inl (hw _ (List.mem_of_getElem? (i := 25) rfl))) Via.refl e20 f19 f33 (Or.inl (hw _ (List.mem_of_getElem? (i := 26) rfl))) (hw _ (List.mem_of_getElem? (i := 5) rfl)) (ty := .int) (by decide) rfl rfl (g := (mkF m 50 #[.val (.ref a1), .val (.int p2)] [(.int (w2 + (0 : Int32))), (.ref a1)])) rfl rfl (hb hby d5_50)
      have z35 : n0 ≤ h34.size := Nat.le_trans z18 (Keep.of_wr W34).1
      have fw34 : Fld Z h34 a1 "com/example/urlset/urlset/read/LineCounter" "textLines" "I" (.int (w2 + (0 : Int32))) := f19.same W34
      have N34 := Fr.snoc X34 N17 g_a1
      have K34 : Keep h0 h34 [a1] := K17.wr W34 (Or.inl (List.mem_of_getElem? (i := 0) rfl))
      have f36 : Exa Z h34 a1 "com/example/urlset/urlset/read/LineCounter" := (f33.wr W34)
      have f37 : Fld Z h34 a1 "com/example/urlset/urlset/read/LineCounter" "afterReturn" "Z" (.int w3) := ((F_a1_afterReturn.other W17 (Or.inr (slot_ne (Or.inl (hw _ (List.mem_of_getElem? (i := 28) rfl))) (Or.inl (hw _ (List.mem_of_getElem? (i := 19) rfl))) (by decide) (t := .boolean) (t' := .int) (by decide) (by decide)))).other W34 (Or.inr (slot_ne (Or.inl (hw _ (List.mem_of_getElem? (i := 28) rfl))) (Or.inl (hw _ (List.mem_of_getElem? (i := 26) rfl))) (by decide) (t := .boolean) (t' := .int) (by decide) (by decide))))
      obtain ⟨T38, h38, X38, e38, W38, st38⟩ := putFN X34 hx hZ hown (hw _ (List.mem_of_getElem? (i := 27) rfl)) Via.refl e34 f37 f36 (Or.inl (hw _ (List.mem_of_getElem? (i := 28) rfl))) (hw _ (List.mem_of_getElem? (i := 5) rfl)) (ty := .boolean) (v' := (.int (1 : Int32))) (by decide) rfl (by decide) (g := (mkF m 65 #[.val (.ref a1), .val (.int p2)] [(.int (1 : Int32)), (.ref a1)])) rfl rfl (hb hby d5_65)
      have z39 : n0 ≤ h38.size := Nat.le_trans z35 (Keep.of_wr W38).1
      have fw38 : Fld Z h38 a1 "com/example/urlset/urlset/read/LineCounter" "afterReturn" "Z" (.int (1 : Int32)) := f37.same W38
      have N38 := Fr.snoc X38 N34 g_a1
      have K38 : Keep h0 h38 [a1] := K34.wr W38 (Or.inl (List.mem_of_getElem? (i := 0) rfl))
      obtain ⟨fs, hr, hrun, hended, hW, hsame⟩ := X38.leave (v := none) (fun _ => rfl)
      refine ⟨_, _, pre21 _ ?_, hrun, hended, _, _, rfl, ?_, ⟨_, rfl⟩, hW, hsame.mono (by decide) (by decide)⟩
      · show Steps p.tables e below (T20.setTop (mkF m 41 #[.val (.ref a1), .val (.int p2)] [(.int (10 : Int32)), (.int p2), (.int w2), (.ref a1)])) _
        refine XS.icmpYes X20.here hx rfl (pc0 := 41) (pc' := 48) rfl (hb hby d5_41) rfl (feq hc41_22).2 (by decide) (by decide) ?_
        show Steps p.tables e below (T20.setTop (mkF m 48 #[.val (.ref a1), .val (.int p2)] [(.int w2), (.ref a1)])) _
        refine XS.iconst X20.here hx rfl (hb hby d5_48) ?_
        show Steps p.tables e below (T20.setTop (mkF m 49 #[.val (.ref a1), .val (.int p2)] [(.int (0 : Int32)), (.int w2), (.ref a1)])) _
        refine XS.iadd X20.here hx rfl (hb hby d5_49) rfl ?_
        show Steps p.tables e below (T20.setTop (mkF m 50 #[.val (.ref a1), .val (.int p2)] [(.int (w2 + (0 : Int32))), (.ref a1)])) _
        refine st34 _ ?_
        show Steps p.tables e below (T34.setTop (mkF m 53 #[.val (.ref a1), .val (.int p2)] [])) _
        refine XS.aloadN X34.here hx rfl (hb hby d5_53) rfl rfl ?_
        show Steps p.tables e below (T34.setTop (mkF m 54 #[.val (.ref a1), .val (.int p2)] [(.ref a1)])) _
        refine XS.iloadN X34.here hx rfl (hb hby d5_54) rfl ?_
        show Steps p.tables e below (T34.setTop (mkF m 55 #[.val (.ref a1), .val (.int p2)] [(.int p2), (.ref a1)])) _
        refine XS.bipush X34.here hx rfl (hb hby d5_55) ?_
        show Steps p.tables e below (T34.setTop (mkF m 57 #[.val (.ref a1), .val (.int p2)] [(.int (13 : Int32)), (.int p2), (.ref a1)])) _
        refine XS.icmpNo X34.here hx rfl (hb hby d5_57) rfl (teq hc8_16).2 ?_
        show Steps p.tables e below (T34.setTop (mkF m 60 #[.val (.ref a1), .val (.int p2)] [(.ref a1)])) _
        refine XS.iconst X34.here hx rfl (hb hby d5_60) ?_
        show Steps p.tables e below (T34.setTop (mkF m 61 #[.val (.ref a1), .val (.int p2)] [(.int (1 : Int32)), (.ref a1)])) _
        refine XS.goto X34.here hx rfl (pc0 := 61) (pc' := 65) rfl (hb hby d5_61) (by decide) (by decide) ?_
        show Steps p.tables e below (T34.setTop (mkF m 65 #[.val (.ref a1), .val (.int p2)] [(.int (1 : Int32)), (.ref a1)])) _
        refine st38 _ ?_
        show Steps p.tables e below (T38.setTop (mkF m 68 #[.val (.ref a1), .val (.int p2)] [])) _
        exact X38.returnOut hx Bd.returns (hb hby d5_68) hr
      have f40 : Exa Z h38 a1 "com/example/urlset/urlset/read/LineCounter" := (f36.wr W38)
      have f41 : Fld Z h38 a1 "com/example/urlset/urlset/read/LineCounter" "xmlLines" "I" (.int (w1 + (1 : Int32))) := ((fw17.other W34 (Or.inr (slot_ne (Or.inl (hw _ (List.mem_of_getElem? (i := 19) rfl))) (Or.inl (hw _ (List.mem_of_getElem? (i := 26) rfl))) (by decide) (t := .int) (t' := .int) (by decide) (by decide)))).other W38 (Or.inr (slot_ne (Or.inl (hw _ (List.mem_of_getElem? (i := 19) rfl))) (Or.inl (hw _ (List.mem_of_getElem? (i := 28) rfl))) (by decide) (t := .int) (t' := .boolean) (by decide) (by decide))))
      have f42 : Fld Z h38 a1 "com/example/urlset/urlset/read/LineCounter" "textLines" "I" (.int (w2 + (0 : Int32))) := (fw34.other W38 (Or.inr (slot_ne (Or.inl (hw _ (List.mem_of_getElem? (i := 26) rfl))) (Or.inl (hw _ (List.mem_of_getElem? (i := 28) rfl))) (by decide) (t := .int) (t' := .boolean) (by decide) (by decide))))
      · show Q5 Z a1 p2 w1 w2 w3 h0 n0 _ T38.heap _
        rw [e38]
        exact ⟨rfl, N38, K38, f40, (by have q : (w1 + (1 : Int32)) = (own_cx p2 w1 w3) := (by simp only [own_cx, if_pos hc8_16, if_neg hc41_22]); rw [← q]; exact f41), (by have q : (w2 + (0 : Int32)) = (own_ct p2 w2) := (by simp only [own_ct, if_pos hc8_16, if_neg hc41_22]); rw [← q]; exact f42), (by have q : (1 : Int32) = (own_cr p2) := (by simp only [own_cr, if_pos hc8_16, if_neg hc41_22]); rw [← q]; exact fw38)⟩
  · have pre43 : ∀ t, Steps p.tables e below (T14.setTop (mkF m 14 #[.val (.ref a1), .val (.int p2)] [(.int (10 : Int32)), (.int p2), (.int w1), (.ref a1)])) t → Steps p.tables e below (s₁.setTop (entryFrame m #[(.ref a1), (.int p2)] 2)) t := fun t k => pre15 t (by
        show Steps p.tables e below (T14.setTop (mkF m 8 #[.val (.ref a1), .val (.int p2)] [(.int (13 : Int32)), (.int p2), (.int w1), (.ref a1)])) _
        refine XS.icmpNo X14.here hx rfl (hb hby d5_8) rfl (feq hc8_16).1 ?_
        show Steps p.tables e below (T14.setTop (mkF m 11 #[.val (.ref a1), .val (.int p2)] [(.int w1), (.ref a1)])) _
        refine XS.iloadN X14.here hx rfl (hb hby d5_11) rfl ?_
        show Steps p.tables e below (T14.setTop (mkF m 12 #[.val (.ref a1), .val (.int p2)] [(.int p2), (.int w1), (.ref a1)])) _
        refine XS.bipush X14.here hx rfl (hb hby d5_12) ?_
        exact k)
    by_cases hc14_44 : p2 = (10 : Int32)
    · obtain ⟨T45, X45, e45, st45⟩ := getF X14 hx hZ hown (host := "") (Or.inl (hw _ (List.mem_of_getElem? (i := 27) rfl))) Via.refl e14 F_a1_afterReturn (g := (mkF m 18 #[.val (.ref a1), .val (.int p2)] [(.ref a1), (.int w1), (.ref a1)])) rfl rfl (hb hby d5_18)
      have pre46 : ∀ t, Steps p.tables e below (T45.setTop (mkF m 21 #[.val (.ref a1), .val (.int p2)] [(.int w3), (.int w1), (.ref a1)])) t → Steps p.tables e below (s₁.setTop (entryFrame m #[(.ref a1), (.int p2)] 2)) t := fun t k => pre43 t (by
          show Steps p.tables e below (T14.setTop (mkF m 14 #[.val (.ref a1), .val (.int p2)] [(.int (10 : Int32)), (.int p2), (.int w1), (.ref a1)])) _
          refine XS.icmpNo X14.here hx rfl (hb hby d5_14) rfl (teq hc14_44).2 ?_
          show Steps p.tables e below (T14.setTop (mkF m 17 #[.val (.ref a1), .val (.int p2)] [(.int w1), (.ref a1)])) _
          refine XS.aloadN X14.here hx rfl (hb hby d5_17) rfl rfl ?_
          show Steps p.tables e below (T14.setTop (mkF m 18 #[.val (.ref a1), .val (.int p2)] [(.ref a1), (.int w1), (.ref a1)])) _
          refine st45 _ ?_
          exact k)
      by_cases hc21_47 : w3 = (0 : Int32)
      · obtain ⟨T48, h48, X48, e48, W48, st48⟩ := putF X45 hx hZ hown (host := "") (Or.inl (hw _ (List.mem_of_getElem? (i := 18) rfl))) Via.refl e45 F_a1_xmlLines E_a1 (Or.inl (hw _ (List.mem_of_getElem? (i := 19) rfl))) (hw _ (List.mem_of_getElem? (i := 5) rfl)) (ty := .int) (by decide) rfl rfl (g := (mkF m 30 #[.val (.ref a1), .val (.int p2)] [(.int (w1 + (1 : Int32))), (.ref a1)])) rfl rfl (hb hby d5_30)
        have z49 : n0 ≤ h48.size := Nat.le_trans Z0 (Keep.of_wr W48).1
        have fw48 : Fld Z h48 a1 "com/example/urlset/urlset/read/LineCounter" "xmlLines" "I" (.int (w1 + (1 : Int32))) := F_a1_xmlLines.same W48
        have N48 := Fr.snoc X48 N0 g_a1
        have K48 : Keep h0 h48 [a1] := (Keep.refl h0 [a1]).wr W48 (Or.inl (List.mem_of_getElem? (i := 0) rfl))
        have f50 : Fld Z h48 a1 "com/example/urlset/urlset/read/LineCounter" "textLines" "I" (.int w2) := (F_a1_textLines.other W48 (Or.inr (slot_ne (Or.inl (hw _ (List.mem_of_getElem? (i := 26) rfl))) (Or.inl (hw _ (List.mem_of_getElem? (i := 19) rfl))) (by decide) (t := .int) (t' := .int) (by decide) (by decide))))
        obtain ⟨T51, X51, e51, st51⟩ := getF X48 hx hZ hown (host := "") (Or.inl (hw _ (List.mem_of_getElem? (i := 25) rfl))) Via.refl e48 f50 (g := (mkF m 35 #[.val (.ref a1), .val (.int p2)] [(.ref a1), (.ref a1)])) rfl rfl (hb hby d5_35)
        have f52 : Exa Z h48 a1 "com/example/urlset/urlset/read/LineCounter" := (E_a1.wr W48)
        obtain ⟨T53, h53, X53, e53, W53, st53⟩ := putF X51 hx hZ hown (host := "") (Or.inl (hw _ (List.mem_of_getElem? (i := 25) rfl))) Via.refl e51 f50 f52 (Or.inl (hw _ (List.mem_of_getElem? (i := 26) rfl))) (hw _ (List.mem_of_getElem? (i := 5) rfl)) (ty := .int) (by decide) rfl rfl (g := (mkF m 50 #[.val (.ref a1), .val (.int p2)] [(.int (w2 + (1 : Int32))), (.ref a1)])) rfl rfl (hb hby d5_50)
        have z54 : n0 ≤ h53.size := Nat.le_trans z49 (Keep.of_wr W53).1
        have fw53 : Fld Z h53 a1 "com/example/urlset/urlset/read/LineCounter" "textLines" "I" (.int (w2 + (1 : Int32))) := f50.same W53
        have N53 := Fr.snoc X53 N48 g_a1
        have K53 : Keep h0 h53 [a1] := K48.wr W53 (Or.inl (List.mem_of_getElem? (i := 0) rfl))
        have f55 : Exa Z h53 a1 "com/example/urlset/urlset/read/LineCounter" := (f52.wr W53)
        have f56 : Fld Z h53 a1 "com/example/urlset/urlset/read/LineCounter" "afterReturn" "Z" (.int w3) := ((F_a1_afterReturn.other W48 (Or.inr (slot_ne (Or.inl (hw _ (List.mem_of_getElem? (i := 28) rfl))) (Or.inl (hw _ (List.mem_of_getElem? (i := 19) rfl))) (by decide) (t := .boolean) (t' := .int) (by decide) (by decide)))).other W53 (Or.inr (slot_ne (Or.inl (hw _ (List.mem_of_getElem? (i := 28) rfl))) (Or.inl (hw _ (List.mem_of_getElem? (i := 26) rfl))) (by decide) (t := .boolean) (t' := .int) (by decide) (by decide))))
        obtain ⟨T57, h57, X57, e57, W57, st57⟩ := putFN X53 hx hZ hown (hw _ (List.mem_of_getElem? (i := 27) rfl)) Via.refl e53 f56 f55 (Or.inl (hw _ (List.mem_of_getElem? (i := 28) rfl))) (hw _ (List.mem_of_getElem? (i := 5) rfl)) (ty := .boolean) (v' := (.int (0 : Int32))) (by decide) rfl (by decide) (g := (mkF m 65 #[.val (.ref a1), .val (.int p2)] [(.int (0 : Int32)), (.ref a1)])) rfl rfl (hb hby d5_65)
        have z58 : n0 ≤ h57.size := Nat.le_trans z54 (Keep.of_wr W57).1
        have fw57 : Fld Z h57 a1 "com/example/urlset/urlset/read/LineCounter" "afterReturn" "Z" (.int (0 : Int32)) := f56.same W57
        have N57 := Fr.snoc X57 N53 g_a1
        have K57 : Keep h0 h57 [a1] := K53.wr W57 (Or.inl (List.mem_of_getElem? (i := 0) rfl))
        obtain ⟨fs, hr, hrun, hended, hW, hsame⟩ := X57.leave (v := none) (fun _ => rfl)
        refine ⟨_, _, pre46 _ ?_, hrun, hended, _, _, rfl, ?_, ⟨_, rfl⟩, hW, hsame.mono (by decide) (by decide)⟩
        · show Steps p.tables e below (T45.setTop (mkF m 21 #[.val (.ref a1), .val (.int p2)] [(.int w3), (.int w1), (.ref a1)])) _
          refine XS.ifNo X45.here hx rfl (hb hby d5_21) rfl ((if0 _ _).trans (teq hc21_47).2) ?_
          show Steps p.tables e below (T45.setTop (mkF m 24 #[.val (.ref a1), .val (.int p2)] [(.int w1), (.ref a1)])) _
          refine XS.iconst X45.here hx rfl (hb hby d5_24) ?_
          show Steps p.tables e below (T45.setTop (mkF m 25 #[.val (.ref a1), .val (.int p2)] [(.int (1 : Int32)), (.int w1), (.ref a1)])) _
          refine XS.goto X45.here hx rfl (pc0 := 25) (pc' := 29) rfl (hb hby d5_25) (by decide) (by decide) ?_
          show Steps p.tables e below (T45.setTop (mkF m 29 #[.val (.ref a1), .val (.int p2)] [(.int (1 : Int32)), (.int w1), (.ref a1)])) _
          refine XS.iadd X45.here hx rfl (hb hby d5_29) rfl ?_
          show Steps p.tables e below (T45.setTop (mkF m 30 #[.val (.ref a1), .val (.int p2)] [(.int (w1 + (1 : Int32))), (.ref a1)])) _
          refine st48 _ ?_
          show Steps p.tables e below (T48.setTop (mkF m 33 #[.val (.ref a1), .val (.int p2)] [])) _
          refine XS.aloadN X48.here hx rfl (hb hby d5_33) rfl rfl ?_
          show Steps p.tables e below (T48.setTop (mkF m 34 #[.val (.ref a1), .val (.int p2)] [(.ref a1)])) _
          refine XS.dup X48.here hx rfl (hb hby d5_34) rfl rfl ?_
          show Steps p.tables e below (T48.setTop (mkF m 35 #[.val (.ref a1), .val (.int p2)] [(.ref a1), (.ref a1)])) _
          refine st51 _ ?_
          show Steps p.tables e below (T51.setTop (mkF m 38 #[.val (.ref a1), .val (.int p2)] [(.int w2), (.ref a1)])) _
          refine XS.iloadN X51.here hx rfl (hb hby d5_38) rfl ?_
          show Steps p.tables e below (T51.setTop (mkF m 39 #[.val (.ref a1), .val (.int p2)] [(.int p2), (.int w2), (.ref a1)])) _
          refine XS.bipush X51.here hx rfl (hb hby d5_39) ?_
          show Steps p.tables e below (T51.setTop (mkF m 41 #[.val (.ref a1), .val (.int p2)] [(.int (10 : Int32)), (.int p2), (.int w2), (.ref a1)])) _
          refine XS.icmpNo X51.here hx rfl (hb hby d5_41) rfl (teq hc14_44).2 ?_
          show Steps p.tables e below (T51.setTop (mkF m 44 #[.val (.ref a1), .val (.int p2)] [(.int w2), (.ref a1)])) _
          refine XS.iconst X51.here hx rfl (hb hby d5_44) ?_
          show Steps p.tables e below (T51.setTop (mkF m 45 #[.val (.ref a1), .val (.int p2)] [(.int (1 : Int32)), (.int w2), (.ref a1)])) _
          refine XS.goto X51.here hx rfl (pc0 := 45) (pc' := 49) rfl (hb hby d5_45) (by decide) (by decide) ?_
          show Steps p.tables e below (T51.setTop (mkF m 49 #[.val (.ref a1), .val (.int p2)] [(.int (1 : Int32)), (.int w2), (.ref a1)])) _
          refine XS.iadd X51.here hx rfl (hb hby d5_49) rfl ?_
          show Steps p.tables e below (T51.setTop (mkF m 50 #[.val (.ref a1), .val (.int p2)] [(.int (w2 + (1 : Int32))), (.ref a1)])) _
          refine st53 _ ?_
          show Steps p.tables e below (T53.setTop (mkF m 53 #[.val (.ref a1), .val (.int p2)] [])) _
          refine XS.aloadN X53.here hx rfl (hb hby d5_53) rfl rfl ?_
          show Steps p.tables e below (T53.setTop (mkF m 54 #[.val (.ref a1), .val (.int p2)] [(.ref a1)])) _
          refine XS.iloadN X53.here hx rfl (hb hby d5_54) rfl ?_
          show Steps p.tables e below (T53.setTop (mkF m 55 #[.val (.ref a1), .val (.int p2)] [(.int p2), (.ref a1)])) _
          refine XS.bipush X53.here hx rfl (hb hby d5_55) ?_
          show Steps p.tables e below (T53.setTop (mkF m 57 #[.val (.ref a1), .val (.int p2)] [(.int (13 : Int32)), (.int p2), (.ref a1)])) _
          refine XS.icmpYes X53.here hx rfl (pc0 := 57) (pc' := 64) rfl (hb hby d5_57) rfl (feq hc8_16).2 (by decide) (by decide) ?_
          show Steps p.tables e below (T53.setTop (mkF m 64 #[.val (.ref a1), .val (.int p2)] [(.ref a1)])) _
          refine XS.iconst X53.here hx rfl (hb hby d5_64) ?_
          show Steps p.tables e below (T53.setTop (mkF m 65 #[.val (.ref a1), .val (.int p2)] [(.int (0 : Int32)), (.ref a1)])) _
          refine st57 _ ?_
          show Steps p.tables e below (T57.setTop (mkF m 68 #[.val (.ref a1), .val (.int p2)] [])) _
          exact X57.returnOut hx Bd.returns (hb hby d5_68) hr
        have f59 : Exa Z h57 a1 "com/example/urlset/urlset/read/LineCounter" := (f55.wr W57)
        have f60 : Fld Z h57 a1 "com/example/urlset/urlset/read/LineCounter" "xmlLines" "I" (.int (w1 + (1 : Int32))) := ((fw48.other W53 (Or.inr (slot_ne (Or.inl (hw _ (List.mem_of_getElem? (i := 19) rfl))) (Or.inl (hw _ (List.mem_of_getElem? (i := 26) rfl))) (by decide) (t := .int) (t' := .int) (by decide) (by decide)))).other W57 (Or.inr (slot_ne (Or.inl (hw _ (List.mem_of_getElem? (i := 19) rfl))) (Or.inl (hw _ (List.mem_of_getElem? (i := 28) rfl))) (by decide) (t := .int) (t' := .boolean) (by decide) (by decide))))
        have f61 : Fld Z h57 a1 "com/example/urlset/urlset/read/LineCounter" "textLines" "I" (.int (w2 + (1 : Int32))) := (fw53.other W57 (Or.inr (slot_ne (Or.inl (hw _ (List.mem_of_getElem? (i := 26) rfl))) (Or.inl (hw _ (List.mem_of_getElem? (i := 28) rfl))) (by decide) (t := .int) (t' := .boolean) (by decide) (by decide))))
        · show Q5 Z a1 p2 w1 w2 w3 h0 n0 _ T57.heap _
          rw [e57]
          exact ⟨rfl, N57, K57, f59, (by have q : (w1 + (1 : Int32)) = (own_cx p2 w1 w3) := (by simp only [own_cx, if_neg hc8_16, if_pos hc14_44, if_pos hc21_47]); rw [← q]; exact f60), (by have q : (w2 + (1 : Int32)) = (own_ct p2 w2) := (by simp only [own_ct, if_neg hc8_16, if_pos hc14_44, if_pos hc21_47]); rw [← q]; exact f61), (by have q : (0 : Int32) = (own_cr p2) := (by simp only [own_cr, if_neg hc8_16, if_pos hc14_44, if_pos hc21_47]); rw [← q]; exact fw57)⟩
      · obtain ⟨T62, h62, X62, e62, W62, st62⟩ := putF X45 hx hZ hown (host := "") (Or.inl (hw _ (List.mem_of_getElem? (i := 18) rfl))) Via.refl e45 F_a1_xmlLines E_a1 (Or.inl (hw _ (List.mem_of_getElem? (i := 19) rfl))) (hw _ (List.mem_of_getElem? (i := 5) rfl)) (ty := .int) (by decide) rfl rfl (g := (mkF m 30 #[.val (.ref a1), .val (.int p2)] [(.int (w1 + (0 : Int32))), (.ref a1)])) rfl rfl (hb hby d5_30)
        have z63 : n0 ≤ h62.size := Nat.le_trans Z0 (Keep.of_wr W62).1
        have fw62 : Fld Z h62 a1 "com/example/urlset/urlset/read/LineCounter" "xmlLines" "I" (.int (w1 + (0 : Int32))) := F_a1_xmlLines.same W62
        have N62 := Fr.snoc X62 N0 g_a1
        have K62 : Keep h0 h62 [a1] := (Keep.refl h0 [a1]).wr W62 (Or.inl (List.mem_of_getElem? (i := 0) rfl))
        have f64 : Fld Z h62 a1 "com/example/urlset/urlset/read/LineCounter" "textLines" "I" (.int w2) := (F_a1_textLines.other W62 (Or.inr (slot_ne (Or.inl (hw _ (List.mem_of_getElem? (i := 26) rfl))) (Or.inl (hw _ (List.mem_of_getElem? (i := 19) rfl))) (by decide) (t := .int) (t' := .int) (by decide) (by decide))))
        obtain ⟨T65, X65, e65, st65⟩ := getF X62 hx hZ hown (host := "") (Or.inl (hw _ (List.mem_of_getElem? (i := 25) rfl))) Via.refl e62 f64 (g := (mkF m 35 #[.val (.ref a1), .val (.int p2)] [(.ref a1), (.ref a1)])) rfl rfl (hb hby d5_35)
        have f66 : Exa Z h62 a1 "com/example/urlset/urlset/read/LineCounter" := (E_a1.wr W62)
        obtain ⟨T67, h67, X67, e67, W67, st67⟩ := putF X65 hx hZ hown (host := "") (Or.inl (hw _ (List.mem_of_getElem? (i := 25) rfl))) Via.refl e65 f64 f66 (Or.inl (hw _ (List.mem_of_getElem? (i := 26) rfl))) (hw _ (List.mem_of_getElem? (i := 5) rfl)) (ty := .int) (by decide) rfl rfl (g := (mkF m 50 #[.val (.ref a1), .val (.int p2)] [(.int (w2 + (1 : Int32))), (.ref a1)])) rfl rfl (hb hby d5_50)
        have z68 : n0 ≤ h67.size := Nat.le_trans z63 (Keep.of_wr W67).1
        have fw67 : Fld Z h67 a1 "com/example/urlset/urlset/read/LineCounter" "textLines" "I" (.int (w2 + (1 : Int32))) := f64.same W67
        have N67 := Fr.snoc X67 N62 g_a1
        have K67 : Keep h0 h67 [a1] := K62.wr W67 (Or.inl (List.mem_of_getElem? (i := 0) rfl))
        have f69 : Exa Z h67 a1 "com/example/urlset/urlset/read/LineCounter" := (f66.wr W67)
        have f70 : Fld Z h67 a1 "com/example/urlset/urlset/read/LineCounter" "afterReturn" "Z" (.int w3) := ((F_a1_afterReturn.other W62 (Or.inr (slot_ne (Or.inl (hw _ (List.mem_of_getElem? (i := 28) rfl))) (Or.inl (hw _ (List.mem_of_getElem? (i := 19) rfl))) (by decide) (t := .boolean) (t' := .int) (by decide) (by decide)))).other W67 (Or.inr (slot_ne (Or.inl (hw _ (List.mem_of_getElem? (i := 28) rfl))) (Or.inl (hw _ (List.mem_of_getElem? (i := 26) rfl))) (by decide) (t := .boolean) (t' := .int) (by decide) (by decide))))
        obtain ⟨T71, h71, X71, e71, W71, st71⟩ := putFN X67 hx hZ hown (hw _ (List.mem_of_getElem? (i := 27) rfl)) Via.refl e67 f70 f69 (Or.inl (hw _ (List.mem_of_getElem? (i := 28) rfl))) (hw _ (List.mem_of_getElem? (i := 5) rfl)) (ty := .boolean) (v' := (.int (0 : Int32))) (by decide) rfl (by decide) (g := (mkF m 65 #[.val (.ref a1), .val (.int p2)] [(.int (0 : Int32)), (.ref a1)])) rfl rfl (hb hby d5_65)
        have z72 : n0 ≤ h71.size := Nat.le_trans z68 (Keep.of_wr W71).1
        have fw71 : Fld Z h71 a1 "com/example/urlset/urlset/read/LineCounter" "afterReturn" "Z" (.int (0 : Int32)) := f70.same W71
        have N71 := Fr.snoc X71 N67 g_a1
        have K71 : Keep h0 h71 [a1] := K67.wr W71 (Or.inl (List.mem_of_getElem? (i := 0) rfl))
        obtain ⟨fs, hr, hrun, hended, hW, hsame⟩ := X71.leave (v := none) (fun _ => rfl)
        refine ⟨_, _, pre46 _ ?_, hrun, hended, _, _, rfl, ?_, ⟨_, rfl⟩, hW, hsame.mono (by decide) (by decide)⟩
        · show Steps p.tables e below (T45.setTop (mkF m 21 #[.val (.ref a1), .val (.int p2)] [(.int w3), (.int w1), (.ref a1)])) _
          refine XS.ifYes X45.here hx rfl (pc0 := 21) (pc' := 28) rfl (hb hby d5_21) rfl ((if0 _ _).trans (feq hc21_47).2) (by decide) (by decide) ?_
          show Steps p.tables e below (T45.setTop (mkF m 28 #[.val (.ref a1), .val (.int p2)] [(.int w1), (.ref a1)])) _
          refine XS.iconst X45.here hx rfl (hb hby d5_28) ?_
          show Steps p.tables e below (T45.setTop (mkF m 29 #[.val (.ref a1), .val (.int p2)] [(.int (0 : Int32)), (.int w1), (.ref a1)])) _
          refine XS.iadd X45.here hx rfl (hb hby d5_29) rfl ?_
          show Steps p.tables e below (T45.setTop (mkF m 30 #[.val (.ref a1), .val (.int p2)] [(.int (w1 + (0 : Int32))), (.ref a1)])) _
          refine st62 _ ?_
          show Steps p.tables e below (T62.setTop (mkF m 33 #[.val (.ref a1), .val (.int p2)] [])) _
          refine XS.aloadN X62.here hx rfl (hb hby d5_33) rfl rfl ?_
          show Steps p.tables e below (T62.setTop (mkF m 34 #[.val (.ref a1), .val (.int p2)] [(.ref a1)])) _
          refine XS.dup X62.here hx rfl (hb hby d5_34) rfl rfl ?_
          show Steps p.tables e below (T62.setTop (mkF m 35 #[.val (.ref a1), .val (.int p2)] [(.ref a1), (.ref a1)])) _
          refine st65 _ ?_
          show Steps p.tables e below (T65.setTop (mkF m 38 #[.val (.ref a1), .val (.int p2)] [(.int w2), (.ref a1)])) _
          refine XS.iloadN X65.here hx rfl (hb hby d5_38) rfl ?_
          show Steps p.tables e below (T65.setTop (mkF m 39 #[.val (.ref a1), .val (.int p2)] [(.int p2), (.int w2), (.ref a1)])) _
          refine XS.bipush X65.here hx rfl (hb hby d5_39) ?_
          show Steps p.tables e below (T65.setTop (mkF m 41 #[.val (.ref a1), .val (.int p2)] [(.int (10 : Int32)), (.int p2), (.int w2), (.ref a1)])) _
          refine XS.icmpNo X65.here hx rfl (hb hby d5_41) rfl (teq hc14_44).2 ?_
          show Steps p.tables e below (T65.setTop (mkF m 44 #[.val (.ref a1), .val (.int p2)] [(.int w2), (.ref a1)])) _
          refine XS.iconst X65.here hx rfl (hb hby d5_44) ?_
          show Steps p.tables e below (T65.setTop (mkF m 45 #[.val (.ref a1), .val (.int p2)] [(.int (1 : Int32)), (.int w2), (.ref a1)])) _
          refine XS.goto X65.here hx rfl (pc0 := 45) (pc' := 49) rfl (hb hby d5_45) (by decide) (by decide) ?_
          show Steps p.tables e below (T65.setTop (mkF m 49 #[.val (.ref a1), .val (.int p2)] [(.int (1 : Int32)), (.int w2), (.ref a1)])) _
          refine XS.iadd X65.here hx rfl (hb hby d5_49) rfl ?_
          show Steps p.tables e below (T65.setTop (mkF m 50 #[.val (.ref a1), .val (.int p2)] [(.int (w2 + (1 : Int32))), (.ref a1)])) _
          refine st67 _ ?_
          show Steps p.tables e below (T67.setTop (mkF m 53 #[.val (.ref a1), .val (.int p2)] [])) _
          refine XS.aloadN X67.here hx rfl (hb hby d5_53) rfl rfl ?_
          show Steps p.tables e below (T67.setTop (mkF m 54 #[.val (.ref a1), .val (.int p2)] [(.ref a1)])) _
          refine XS.iloadN X67.here hx rfl (hb hby d5_54) rfl ?_
          show Steps p.tables e below (T67.setTop (mkF m 55 #[.val (.ref a1), .val (.int p2)] [(.int p2), (.ref a1)])) _
          refine XS.bipush X67.here hx rfl (hb hby d5_55) ?_
          show Steps p.tables e below (T67.setTop (mkF m 57 #[.val (.ref a1), .val (.int p2)] [(.int (13 : Int32)), (.int p2), (.ref a1)])) _
          refine XS.icmpYes X67.here hx rfl (pc0 := 57) (pc' := 64) rfl (hb hby d5_57) rfl (feq hc8_16).2 (by decide) (by decide) ?_
          show Steps p.tables e below (T67.setTop (mkF m 64 #[.val (.ref a1), .val (.int p2)] [(.ref a1)])) _
          refine XS.iconst X67.here hx rfl (hb hby d5_64) ?_
          show Steps p.tables e below (T67.setTop (mkF m 65 #[.val (.ref a1), .val (.int p2)] [(.int (0 : Int32)), (.ref a1)])) _
          refine st71 _ ?_
          show Steps p.tables e below (T71.setTop (mkF m 68 #[.val (.ref a1), .val (.int p2)] [])) _
          exact X71.returnOut hx Bd.returns (hb hby d5_68) hr
        have f73 : Exa Z h71 a1 "com/example/urlset/urlset/read/LineCounter" := (f69.wr W71)
        have f74 : Fld Z h71 a1 "com/example/urlset/urlset/read/LineCounter" "xmlLines" "I" (.int (w1 + (0 : Int32))) := ((fw62.other W67 (Or.inr (slot_ne (Or.inl (hw _ (List.mem_of_getElem? (i := 19) rfl))) (Or.inl (hw _ (List.mem_of_getElem? (i := 26) rfl))) (by decide) (t := .int) (t' := .int) (by decide) (by decide)))).other W71 (Or.inr (slot_ne (Or.inl (hw _ (List.mem_of_getElem? (i := 19) rfl))) (Or.inl (hw _ (List.mem_of_getElem? (i := 28) rfl))) (by decide) (t := .int) (t' := .boolean) (by decide) (by decide))))
        have f75 : Fld Z h71 a1 "com/example/urlset/urlset/read/LineCounter" "textLines" "I" (.int (w2 + (1 : Int32))) := (fw67.other W71 (Or.inr (slot_ne (Or.inl (hw _ (List.mem_of_getElem? (i := 26) rfl))) (Or.inl (hw _ (List.mem_of_getElem? (i := 28) rfl))) (by decide) (t := .int) (t' := .boolean) (by decide) (by decide))))
        · show Q5 Z a1 p2 w1 w2 w3 h0 n0 _ T71.heap _
          rw [e71]
          exact ⟨rfl, N71, K71, f73, (by have q : (w1 + (0 : Int32)) = (own_cx p2 w1 w3) := (by simp only [own_cx, if_neg hc8_16, if_pos hc14_44, if_neg hc21_47]); rw [← q]; exact f74), (by have q : (w2 + (1 : Int32)) = (own_ct p2 w2) := (by simp only [own_ct, if_neg hc8_16, if_pos hc14_44, if_neg hc21_47]); rw [← q]; exact f75), (by have q : (0 : Int32) = (own_cr p2) := (by simp only [own_cr, if_neg hc8_16, if_pos hc14_44, if_neg hc21_47]); rw [← q]; exact fw71)⟩
    · obtain ⟨T76, h76, X76, e76, W76, st76⟩ := putF X14 hx hZ hown (host := "") (Or.inl (hw _ (List.mem_of_getElem? (i := 18) rfl))) Via.refl e14 F_a1_xmlLines E_a1 (Or.inl (hw _ (List.mem_of_getElem? (i := 19) rfl))) (hw _ (List.mem_of_getElem? (i := 5) rfl)) (ty := .int) (by decide) rfl rfl (g := (mkF m 30 #[.val (.ref a1), .val (.int p2)] [(.int (w1 + (0 : Int32))), (.ref a1)])) rfl rfl (hb hby d5_30)
      have z77 : n0 ≤ h76.size := Nat.le_trans Z0 (Keep.of_wr W76).1
      have fw76 : Fld Z h76 a1 "com/example/urlset/urlset/read/LineCounter" "xmlLines" "I" (.int (w1 + (0 : Int32))) := F_a1_xmlLines.same W76
      have N76 := Fr.snoc X76 N0 g_a1
      have K76 : Keep h0 h76 [a1] := (Keep.refl h0 [a1]).wr W76 (Or.inl (List.mem_of_getElem? (i := 0) rfl))
      have f78 : Fld Z h76 a1 "com/example/urlset/urlset/read/LineCounter" "textLines" "I" (.int w2) := (F_a1_textLines.other W76 (Or.inr (slot_ne (Or.inl (hw _ (List.mem_of_getElem? (i := 26) rfl))) (Or.inl (hw _ (List.mem_of_getElem? (i := 19) rfl))) (by decide) (t := .int) (t' := .int) (by decide) (by decide))))
      obtain ⟨T79, X79, e79, st79⟩ := getF X76 hx hZ hown (host := "") (Or.inl (hw _ (List.mem_of_getElem? (i := 25) rfl))) Via.refl e76 f78 (g := (mkF m 35 #[.val (.ref a1), .val (.int p2)] [(.ref a1), (.ref a1)])) rfl rfl (hb hby d5_35)
      have f80 : Exa Z h76 a1 "com/example/urlset/urlset/read/LineCounter" := (E_a1.wr W76)
      obtain ⟨T81, h81, X81, e81, W81, st81⟩ := putF X79 hx hZ hown (host := "") (Or.inl (hw _ (List.mem_of_getElem? (i := 25) rfl))) Via.refl e79 f78 f80 (Or.inl (hw _ (List.mem_of_getElem? (i := 26) rfl))) (hw _ (List.mem_of_getElem? (i := 5) rfl)) (ty := .int) (by decide) rfl rfl (g := (mkF m 50 #[.val (.ref a1), .val (.int p2)] [(.int (w2 + (0 : Int32))), (.ref a1)])) rfl rfl (hb hby d5_50)
      have z82 : n0 ≤ h81.size := Nat.le_trans z77 (Keep.of_wr W81).1
      have fw81 : Fld Z h81 a1 "com/example/urlset/urlset/read/LineCounter" "textLines" "I" (.int (w2 + (0 : Int32))) := f78.same W81
      have N81 := Fr.snoc X81 N76 g_a1
      have K81 : Keep h0 h81 [a1] := K76.wr W81 (Or.inl (List.mem_of_getElem? (i := 0) rfl))
      have f83 : Exa Z h81 a1 "com/example/urlset/urlset/read/LineCounter" := (f80.wr W81)
      have f84 : Fld Z h81 a1 "com/example/urlset/urlset/read/LineCounter" "afterReturn" "Z" (.int w3) := ((F_a1_afterReturn.other W76 (Or.inr (slot_ne (Or.inl (hw _ (List.mem_of_getElem? (i := 28) rfl))) (Or.inl (hw _ (List.mem_of_getElem? (i := 19) rfl))) (by decide) (t := .boolean) (t' := .int) (by decide) (by decide)))).other W81 (Or.inr (slot_ne (Or.inl (hw _ (List.mem_of_getElem? (i := 28) rfl))) (Or.inl (hw _ (List.mem_of_getElem? (i := 26) rfl))) (by decide) (t := .boolean) (t' := .int) (by decide) (by decide))))
      obtain ⟨T85, h85, X85, e85, W85, st85⟩ := putFN X81 hx hZ hown (hw _ (List.mem_of_getElem? (i := 27) rfl)) Via.refl e81 f84 f83 (Or.inl (hw _ (List.mem_of_getElem? (i := 28) rfl))) (hw _ (List.mem_of_getElem? (i := 5) rfl)) (ty := .boolean) (v' := (.int (0 : Int32))) (by decide) rfl (by decide) (g := (mkF m 65 #[.val (.ref a1), .val (.int p2)] [(.int (0 : Int32)), (.ref a1)])) rfl rfl (hb hby d5_65)
      have z86 : n0 ≤ h85.size := Nat.le_trans z82 (Keep.of_wr W85).1
      have fw85 : Fld Z h85 a1 "com/example/urlset/urlset/read/LineCounter" "afterReturn" "Z" (.int (0 : Int32)) := f84.same W85
      have N85 := Fr.snoc X85 N81 g_a1
      have K85 : Keep h0 h85 [a1] := K81.wr W85 (Or.inl (List.mem_of_getElem? (i := 0) rfl))
      obtain ⟨fs, hr, hrun, hended, hW, hsame⟩ := X85.leave (v := none) (fun _ => rfl)
      refine ⟨_, _, pre43 _ ?_, hrun, hended, _, _, rfl, ?_, ⟨_, rfl⟩, hW, hsame.mono (by decide) (by decide)⟩
      · show Steps p.tables e below (T14.setTop (mkF m 14 #[.val (.ref a1), .val (.int p2)] [(.int (10 : Int32)), (.int p2), (.int w1), (.ref a1)])) _
        refine XS.icmpYes X14.here hx rfl (pc0 := 14) (pc' := 28) rfl (hb hby d5_14) rfl (feq hc14_44).2 (by decide) (by decide) ?_
        show Steps p.tables e below (T14.setTop (mkF m 28 #[.val (.ref a1), .val (.int p2)] [(.int w1), (.ref a1)])) _
        refine XS.iconst X14.here hx rfl (hb hby d5_28) ?_
        show Steps p.tables e below (T14.setTop (mkF m 29 #[.val (.ref a1), .val (.int p2)] [(.int (0 : Int32)), (.int w1), (.ref a1)])) _
        refine XS.iadd X14.here hx rfl (hb hby d5_29) rfl ?_
        show Steps p.tables e below (T14.setTop (mkF m 30 #[.val (.ref a1), .val (.int p2)] [(.int (w1 + (0 : Int32))), (.ref a1)])) _
        refine st76 _ ?_
        show Steps p.tables e below (T76.setTop (mkF m 33 #[.val (.ref a1), .val (.int p2)] [])) _
        refine XS.aloadN X76.here hx rfl (hb hby d5_33) rfl rfl ?_
        show Steps p.tables e below (T76.setTop (mkF m 34 #[.val (.ref a1), .val (.int p2)] [(.ref a1)])) _
        refine XS.dup X76.here hx rfl (hb hby d5_34) rfl rfl ?_
        show Steps p.tables e below (T76.setTop (mkF m 35 #[.val (.ref a1), .val (.int p2)] [(.ref a1), (.ref a1)])) _
        refine st79 _ ?_
        show Steps p.tables e below (T79.setTop (mkF m 38 #[.val (.ref a1), .val (.int p2)] [(.int w2), (.ref a1)])) _
        refine XS.iloadN X79.here hx rfl (hb hby d5_38) rfl ?_
        show Steps p.tables e below (T79.setTop (mkF m 39 #[.val (.ref a1), .val (.int p2)] [(.int p2), (.int w2), (.ref a1)])) _
        refine XS.bipush X79.here hx rfl (hb hby d5_39) ?_
        show Steps p.tables e below (T79.setTop (mkF m 41 #[.val (.ref a1), .val (.int p2)] [(.int (10 : Int32)), (.int p2), (.int w2), (.ref a1)])) _
        refine XS.icmpYes X79.here hx rfl (pc0 := 41) (pc' := 48) rfl (hb hby d5_41) rfl (feq hc14_44).2 (by decide) (by decide) ?_
        show Steps p.tables e below (T79.setTop (mkF m 48 #[.val (.ref a1), .val (.int p2)] [(.int w2), (.ref a1)])) _
        refine XS.iconst X79.here hx rfl (hb hby d5_48) ?_
        show Steps p.tables e below (T79.setTop (mkF m 49 #[.val (.ref a1), .val (.int p2)] [(.int (0 : Int32)), (.int w2), (.ref a1)])) _
        refine XS.iadd X79.here hx rfl (hb hby d5_49) rfl ?_
        show Steps p.tables e below (T79.setTop (mkF m 50 #[.val (.ref a1), .val (.int p2)] [(.int (w2 + (0 : Int32))), (.ref a1)])) _
        refine st81 _ ?_
        show Steps p.tables e below (T81.setTop (mkF m 53 #[.val (.ref a1), .val (.int p2)] [])) _
        refine XS.aloadN X81.here hx rfl (hb hby d5_53) rfl rfl ?_
        show Steps p.tables e below (T81.setTop (mkF m 54 #[.val (.ref a1), .val (.int p2)] [(.ref a1)])) _
        refine XS.iloadN X81.here hx rfl (hb hby d5_54) rfl ?_
        show Steps p.tables e below (T81.setTop (mkF m 55 #[.val (.ref a1), .val (.int p2)] [(.int p2), (.ref a1)])) _
        refine XS.bipush X81.here hx rfl (hb hby d5_55) ?_
        show Steps p.tables e below (T81.setTop (mkF m 57 #[.val (.ref a1), .val (.int p2)] [(.int (13 : Int32)), (.int p2), (.ref a1)])) _
        refine XS.icmpYes X81.here hx rfl (pc0 := 57) (pc' := 64) rfl (hb hby d5_57) rfl (feq hc8_16).2 (by decide) (by decide) ?_
        show Steps p.tables e below (T81.setTop (mkF m 64 #[.val (.ref a1), .val (.int p2)] [(.ref a1)])) _
        refine XS.iconst X81.here hx rfl (hb hby d5_64) ?_
        show Steps p.tables e below (T81.setTop (mkF m 65 #[.val (.ref a1), .val (.int p2)] [(.int (0 : Int32)), (.ref a1)])) _
        refine st85 _ ?_
        show Steps p.tables e below (T85.setTop (mkF m 68 #[.val (.ref a1), .val (.int p2)] [])) _
        exact X85.returnOut hx Bd.returns (hb hby d5_68) hr
      have f87 : Exa Z h85 a1 "com/example/urlset/urlset/read/LineCounter" := (f83.wr W85)
      have f88 : Fld Z h85 a1 "com/example/urlset/urlset/read/LineCounter" "xmlLines" "I" (.int (w1 + (0 : Int32))) := ((fw76.other W81 (Or.inr (slot_ne (Or.inl (hw _ (List.mem_of_getElem? (i := 19) rfl))) (Or.inl (hw _ (List.mem_of_getElem? (i := 26) rfl))) (by decide) (t := .int) (t' := .int) (by decide) (by decide)))).other W85 (Or.inr (slot_ne (Or.inl (hw _ (List.mem_of_getElem? (i := 19) rfl))) (Or.inl (hw _ (List.mem_of_getElem? (i := 28) rfl))) (by decide) (t := .int) (t' := .boolean) (by decide) (by decide))))
      have f89 : Fld Z h85 a1 "com/example/urlset/urlset/read/LineCounter" "textLines" "I" (.int (w2 + (0 : Int32))) := (fw81.other W85 (Or.inr (slot_ne (Or.inl (hw _ (List.mem_of_getElem? (i := 26) rfl))) (Or.inl (hw _ (List.mem_of_getElem? (i := 28) rfl))) (by decide) (t := .int) (t' := .boolean) (by decide) (by decide))))
      · show Q5 Z a1 p2 w1 w2 w3 h0 n0 _ T85.heap _
        rw [e85]
        exact ⟨rfl, N85, K85, f87, (by have q : (w1 + (0 : Int32)) = (own_cx p2 w1 w3) := (by simp only [own_cx, if_neg hc8_16, if_neg hc14_44]); rw [← q]; exact f88), (by have q : (w2 + (0 : Int32)) = (own_ct p2 w2) := (by simp only [own_ct, if_neg hc8_16, if_neg hc14_44]); rw [← q]; exact f89), (by have q : (0 : Int32) = (own_cr p2) := (by simp only [own_cr, if_neg hc8_16, if_neg hc14_44]); rw [← q]; exact fw85)⟩
def own_ends (p1 : Int32) (p2 : Int32) : Int32 := (if p2 = (13 : Int32) then (1 : Int32) else (if p2 = (10 : Int32) then (if p1 = (13 : Int32) then (0 : Int32) else (1 : Int32)) else (0 : Int32)))
theorem d6_0 : decode method_3_code 0 = .ok (.iload_n 1, 1) := by decide +kernel
theorem d6_1 : decode method_3_code 1 = .ok (.bipush 13, 2) := by decide +kernel
theorem d6_3 : decode method_3_code 3 = .ok (.if_icmp .ne 5, 3) := by decide +kernel
theorem d6_6 : decode method_3_code 6 = .ok (.iconst 1, 1) := by decide +kernel
theorem d6_7 : decode method_3_code 7 = .ok (.ireturn, 1) := by decide +kernel
theorem d6_8 : decode method_3_code 8 = .ok (.iload_n 1, 1) := by decide +kernel
theorem d6_9 : decode method_3_code 9 = .ok (.bipush 10, 2) := by decide +kernel
theorem d6_11 : decode method_3_code 11 = .ok (.if_icmp .ne 11, 3) := by decide +kernel
theorem d6_14 : decode method_3_code 14 = .ok (.iload_n 0, 1) := by decide +kernel
theorem d6_15 : decode method_3_code 15 = .ok (.bipush 13, 2) := by decide +kernel
theorem d6_17 : decode method_3_code 17 = .ok (.if_icmp .eq 5, 3) := by decide +kernel
theorem d6_20 : decode method_3_code 20 = .ok (.iconst 1, 1) := by decide +kernel
theorem d6_21 : decode method_3_code 21 = .ok (.ireturn, 1) := by decide +kernel
theorem d6_22 : decode method_3_code 22 = .ok (.iconst 0, 1) := by decide +kernel
theorem d6_23 : decode method_3_code 23 = .ok (.ireturn, 1) := by decide +kernel
theorem ef_6 (m : MethodId) (x0 : Int32) (x1 : Int32) : entryFrame m #[(.int x0), (.int x1)] 2 = mkF m 0 #[.val (.int x0), .val (.int x1)] [] := by first | (simp [entryFrame, mkF, argsToLocals, Value.category]; done) | rfl
def Q6 (Z : State) (p1 : Int32) (p2 : Int32) (h0 : Heap) (n0 : Nat) (v : Option Value) (h : Heap) (L : List Loc) : Prop := v = some (.int (own_ends p1 p2)) ∧ Fr n0 L ∧ h = h0
set_option maxRecDepth 65536 in
set_option maxHeartbeats 40000000 in
theorem rm6 (l : Launch) (Z : State) (a0 : Array Value) (hw : ∀ d ∈ tables_1, d.before a0 Z = true) (ws : List Jvm.Cond) (p1 : Int32) (p2 : Int32) (h0 : Heap) (n0 : Nat) (Z0 : n0 ≤ h0.size)  :
    MetFree l (⟨"com/example/urlset/urlset/read/LineCounterGetXmlLineOfPinLaw", "ends", "(II)I"⟩ : MethodName) (head1 (Jvm.Cond.code (⟨"com/example/urlset/urlset/read/LineCounterGetXmlLineOfPinLaw", "ends", "(II)I"⟩ : MethodName) method_3_code 2 (some .int) :: ws) ({ frames := 0, cells := 0, slots := 0, locals := 0 } : Room)) (fun a U => a = #[(.int p1), (.int p2)] ∧ Z.Warmed39 U.vm ∧ U.heap = h0) (fun _ _ _ _ _ => True) (fun _ U o U' => ∃ v L, o = .returned v ∧ Q6 Z p1 p2 h0 n0 v U'.heap L ∧ FrameEnd U o U' L ({ frames := 0, cells := 0, slots := 0, locals := 0 } : Room).cells ({ frames := 0, cells := 0, slots := 0, locals := 0 } : Room).slots) := by
  refine MetFree.of_bodySF (plainFor_of_name pn_1) hisR ?_
  intro p e s m args below meth c s₁ Bd hml0 hP hK
  obtain ⟨rfl, hZ, hh⟩ := hP
  have hx := Bd.exec
  have hby := Bd.bytes
  have hml : c.maxLocals = 2 := hml0
  have hown : s.vm.findClass "com/example/urlset/urlset/read/LineCounterGetXmlLineOfPinLaw" = some m.cls := findClass_of_methodNamed Bd.named
  have hnm := (name_of_methodNamed Bd.named Bd.method).1
  have X0 : Stand p l e ({ frames := 0, cells := 0, slots := 0, locals := 0 } : Room) s m #[(.int p1), (.int p2)] below meth c s₁ [] 0 0 := Stand.of_body Bd
  have e0 : s₁.heap = h0 := by rw [← hh, Bd.state]; rfl
  have N0 := Fr.nil n0
  have pre0 : ∀ t, Steps p.tables e below (s₁.setTop (mkF m 0 #[.val (.int p1), .val (.int p2)] [])) t → Steps p.tables e below (s₁.setTop (entryFrame m #[(.int p1), (.int p2)] 2)) t := fun t k => castTop (ef_6 m p1 p2) k
  have pre90 : ∀ t, Steps p.tables e below (s₁.setTop (mkF m 3 #[.val (.int p1), .val (.int p2)] [(.int (13 : Int32)), (.int p2)])) t → Steps p.tables e below (s₁.setTop (entryFrame m #[(.int p1), (.int p2)] 2)) t := fun t k => pre0 t (by
      show Steps p.tables e below (s₁.setTop (mkF m 0 #[.val (.int p1), .val (.int p2)] [])) _
      refine XS.iloadN X0.here hx rfl (hb hby d6_0) rfl ?_
      show Steps p.tables e below (s₁.setTop (mkF m 1 #[.val (.int p1), .val (.int p2)] [(.int p2)])) _
      refine XS.bipush X0.here hx rfl (hb hby d6_1) ?_
      exact k)
  by_cases hc3_91 : p2 = (13 : Int32)
  · obtain ⟨fs, hr, hrun, hended, hW, hsame⟩ := X0.leave (v := some (.int (1 : Int32))) (fun h => by rw [Bd.returns] at h; cases h)
    refine ⟨_, _, pre90 _ ?_, hrun, hended, _, _, rfl, ?_, ⟨_, rfl⟩, hW, hsame.mono (by decide) (by decide)⟩
    · show Steps p.tables e below (s₁.setTop (mkF m 3 #[.val (.int p1), .val (.int p2)] [(.int (13 : Int32)), (.int p2)])) _
      refine XS.icmpNo X0.here hx rfl (hb hby d6_3) rfl (teq hc3_91).2 ?_
      show Steps p.tables e below (s₁.setTop (mkF m 6 #[.val (.int p1), .val (.int p2)] [])) _
      refine XS.iconst X0.here hx rfl (hb hby d6_6) ?_
      show Steps p.tables e below (s₁.setTop (mkF m 7 #[.val (.int p1), .val (.int p2)] [(.int (1 : Int32))])) _
      exact retI X0 hx Bd.returns (hb hby d6_7) hr
    · show Q6 Z p1 p2 h0 n0 _ s₁.heap _
      rw [e0]
      exact ⟨(congrArg (fun z => some (Value.int z)) (by simp only [own_ends, if_pos hc3_91] : (1 : Int32) = (own_ends p1 p2))), N0, rfl⟩
  · have pre92 : ∀ t, Steps p.tables e below (s₁.setTop (mkF m 11 #[.val (.int p1), .val (.int p2)] [(.int (10 : Int32)), (.int p2)])) t → Steps p.tables e below (s₁.setTop (entryFrame m #[(.int p1), (.int p2)] 2)) t := fun t k => pre90 t (by
        show Steps p.tables e below (s₁.setTop (mkF m 3 #[.val (.int p1), .val (.int p2)] [(.int (13 : Int32)), (.int p2)])) _
        refine XS.icmpYes X0.here hx rfl (pc0 := 3) (pc' := 8) rfl (hb hby d6_3) rfl (feq hc3_91).2 (by decide) (by decide) ?_
        show Steps p.tables e below (s₁.setTop (mkF m 8 #[.val (.int p1), .val (.int p2)] [])) _
        refine XS.iloadN X0.here hx rfl (hb hby d6_8) rfl ?_
        show Steps p.tables e below (s₁.setTop (mkF m 9 #[.val (.int p1), .val (.int p2)] [(.int p2)])) _
        refine XS.bipush X0.here hx rfl (hb hby d6_9) ?_
        exact k)
    by_cases hc11_93 : p2 = (10 : Int32)
    · have pre94 : ∀ t, Steps p.tables e below (s₁.setTop (mkF m 17 #[.val (.int p1), .val (.int p2)] [(.int (13 : Int32)), (.int p1)])) t → Steps p.tables e below (s₁.setTop (entryFrame m #[(.int p1), (.int p2)] 2)) t := fun t k => pre92 t (by
          show Steps p.tables e below (s₁.setTop (mkF m 11 #[.val (.int p1), .val (.int p2)] [(.int (10 : Int32)), (.int p2)])) _
          refine XS.icmpNo X0.here hx rfl (hb hby d6_11) rfl (teq hc11_93).2 ?_
          show Steps p.tables e below (s₁.setTop (mkF m 14 #[.val (.int p1), .val (.int p2)] [])) _
          refine XS.iloadN X0.here hx rfl (hb hby d6_14) rfl ?_
          show Steps p.tables e below (s₁.setTop (mkF m 15 #[.val (.int p1), .val (.int p2)] [(.int p1)])) _
          refine XS.bipush X0.here hx rfl (hb hby d6_15) ?_
          exact k)
      by_cases hc17_95 : p1 = (13 : Int32)
      · obtain ⟨fs, hr, hrun, hended, hW, hsame⟩ := X0.leave (v := some (.int (0 : Int32))) (fun h => by rw [Bd.returns] at h; cases h)
        refine ⟨_, _, pre94 _ ?_, hrun, hended, _, _, rfl, ?_, ⟨_, rfl⟩, hW, hsame.mono (by decide) (by decide)⟩
        · show Steps p.tables e below (s₁.setTop (mkF m 17 #[.val (.int p1), .val (.int p2)] [(.int (13 : Int32)), (.int p1)])) _
          refine XS.icmpYes X0.here hx rfl (pc0 := 17) (pc' := 22) rfl (hb hby d6_17) rfl (teq hc17_95).1 (by decide) (by decide) ?_
          show Steps p.tables e below (s₁.setTop (mkF m 22 #[.val (.int p1), .val (.int p2)] [])) _
          refine XS.iconst X0.here hx rfl (hb hby d6_22) ?_
          show Steps p.tables e below (s₁.setTop (mkF m 23 #[.val (.int p1), .val (.int p2)] [(.int (0 : Int32))])) _
          exact retI X0 hx Bd.returns (hb hby d6_23) hr
        · show Q6 Z p1 p2 h0 n0 _ s₁.heap _
          rw [e0]
          exact ⟨(congrArg (fun z => some (Value.int z)) (by simp only [own_ends, if_neg hc3_91, if_pos hc11_93, if_pos hc17_95] : (0 : Int32) = (own_ends p1 p2))), N0, rfl⟩
      · obtain ⟨fs, hr, hrun, hended, hW, hsame⟩ := X0.leave (v := some (.int (1 : Int32))) (fun h => by rw [Bd.returns] at h; cases h)
        refine ⟨_, _, pre94 _ ?_, hrun, hended, _, _, rfl, ?_, ⟨_, rfl⟩, hW, hsame.mono (by decide) (by decide)⟩
        · show Steps p.tables e below (s₁.setTop (mkF m 17 #[.val (.int p1), .val (.int p2)] [(.int (13 : Int32)), (.int p1)])) _
          refine XS.icmpNo X0.here hx rfl (hb hby d6_17) rfl (feq hc17_95).1 ?_
          show Steps p.tables e below (s₁.setTop (mkF m 20 #[.val (.int p1), .val (.int p2)] [])) _
          refine XS.iconst X0.here hx rfl (hb hby d6_20) ?_
          show Steps p.tables e below (s₁.setTop (mkF m 21 #[.val (.int p1), .val (.int p2)] [(.int (1 : Int32))])) _
          exact retI X0 hx Bd.returns (hb hby d6_21) hr
        · show Q6 Z p1 p2 h0 n0 _ s₁.heap _
          rw [e0]
          exact ⟨(congrArg (fun z => some (Value.int z)) (by simp only [own_ends, if_neg hc3_91, if_pos hc11_93, if_neg hc17_95] : (1 : Int32) = (own_ends p1 p2))), N0, rfl⟩
    · obtain ⟨fs, hr, hrun, hended, hW, hsame⟩ := X0.leave (v := some (.int (0 : Int32))) (fun h => by rw [Bd.returns] at h; cases h)
      refine ⟨_, _, pre92 _ ?_, hrun, hended, _, _, rfl, ?_, ⟨_, rfl⟩, hW, hsame.mono (by decide) (by decide)⟩
      · show Steps p.tables e below (s₁.setTop (mkF m 11 #[.val (.int p1), .val (.int p2)] [(.int (10 : Int32)), (.int p2)])) _
        refine XS.icmpYes X0.here hx rfl (pc0 := 11) (pc' := 22) rfl (hb hby d6_11) rfl (feq hc11_93).2 (by decide) (by decide) ?_
        show Steps p.tables e below (s₁.setTop (mkF m 22 #[.val (.int p1), .val (.int p2)] [])) _
        refine XS.iconst X0.here hx rfl (hb hby d6_22) ?_
        show Steps p.tables e below (s₁.setTop (mkF m 23 #[.val (.int p1), .val (.int p2)] [(.int (0 : Int32))])) _
        exact retI X0 hx Bd.returns (hb hby d6_23) hr
      · show Q6 Z p1 p2 h0 n0 _ s₁.heap _
        rw [e0]
        exact ⟨(congrArg (fun z => some (Value.int z)) (by simp only [own_ends, if_neg hc3_91, if_neg hc11_93] : (0 : Int32) = (own_ends p1 p2))), N0, rfl⟩
theorem own_more (c x p : Int32) : own_cx c x (own_cr p) = x + own_ends p c := by
  unfold own_cx own_ends
  by_cases h1 : c = (13 : Int32)
  · rw [if_pos h1, if_pos h1]
  · rw [if_neg h1, if_neg h1]
    by_cases h2 : c = (10 : Int32)
    · rw [if_pos h2, if_pos h2]
      by_cases h3 : p = (13 : Int32)
      · rw [if_pos h3, if_neg (fun q => (own_cr0 p).mp q h3)]
      · rw [if_neg h3, if_pos ((own_cr0 p).mpr h3)]
    · rw [if_neg h2, if_neg h2]
theorem own_one (c : Int32) : own_cx c (0 : Int32) (0 : Int32) = (0 : Int32) + own_ends (0 : Int32) c := own_more c 0 0
theorem own_last (ch x p : Int32) : own_lo ch x (own_cr p) = if ch = (10 : Int32) then (if p = (13 : Int32) then x else x + (1 : Int32)) else x + (1 : Int32) := by
  unfold own_lo
  by_cases h1 : ch = (10 : Int32)
  · rw [if_pos h1, if_pos h1]
    by_cases h3 : p = (13 : Int32)
    · rw [if_pos h3, if_neg (fun q => (own_cr0 p).mp q h3)]
    · rw [if_neg h3, if_pos ((own_cr0 p).mpr h3)]
  · rw [if_neg h1, if_neg h1]
theorem own_none (ch : Int32) : own_lo ch (0 : Int32) (0 : Int32) = (1 : Int32) := by
  unfold own_lo
  by_cases h1 : ch = (10 : Int32)
  · rw [if_pos h1]; rfl
  · rw [if_neg h1]; rfl
theorem ef_0 (m : MethodId) (x0 : Int32) (x1 : Int32) (x2 : Int32) (x3 : Int32) (x4 : Int32) : entryFrame m #[(.int x0), (.int x1), (.int x2), (.int x3), (.int x4)] maxLocals = mkF m 0 #[.val (.int x0), .val (.int x1), .val (.int x2), .val (.int x3), .val (.int x4), .unset, .unset, .unset, .unset, .unset, .unset, .unset, .unset, .unset] [] := by first | (simp [entryFrame, mkF, argsToLocals, Value.category, maxLocals]; done) | rfl
def Q0 (Z : State) (p1 : Int32) (p2 : Int32) (p3 : Int32) (p4 : Int32) (p5 : Int32) (h0 : Heap) (n0 : Nat) (v : Option Value) (h : Heap) (L : List Loc) : Prop := v = some (.int (1 : Int32)) ∧ Fr n0 L
theorem pd_0 : parseMethodDescriptor "(I)I" = some ⟨[.int], some .int⟩ := by decide +kernel
theorem pd_1 : parseMethodDescriptor "()V" = some ⟨[], none⟩ := by decide +kernel
theorem pd_2 : parseMethodDescriptor "(I)V" = some ⟨[.int], none⟩ := by decide +kernel
theorem pd_3 : parseMethodDescriptor "(II)I" = some ⟨[.int, .int], some .int⟩ := by decide +kernel
set_option maxRecDepth 65536 in
set_option maxHeartbeats 40000000 in
theorem rm0 (l : Launch) (Z : State) (a0 : Array Value) (hw : ∀ d ∈ tables_1, d.before a0 Z = true) (ws : List Jvm.Cond) (p1 : Int32) (p2 : Int32) (p3 : Int32) (p4 : Int32) (p5 : Int32) (h0 : Heap) (n0 : Nat) (Z0 : n0 ≤ h0.size)  :
    MetFree l x (head1 (Jvm.Cond.code x code maxLocals ret :: ws) room_1) (fun a U => a = #[(.int p1), (.int p2), (.int p3), (.int p4), (.int p5)] ∧ Z.Warmed39 U.vm ∧ U.heap = h0) (fun _ _ _ _ _ => True) (fun _ U o U' => ∃ v L, o = .returned v ∧ Q0 Z p1 p2 p3 p4 p5 h0 n0 v U'.heap L ∧ FrameEnd U o U' L room_1.cells room_1.slots) := by
  refine MetFree.of_bodySF (plainFor_of_name pn_1) hisR ?_
  intro p e s m args below meth c s₁ Bd hml0 hP hK
  obtain ⟨rfl, hZ, hh⟩ := hP
  have hx := Bd.exec
  have hby := Bd.bytes
  have hml : c.maxLocals = 14 := hml0
  have hown : s.vm.findClass "com/example/urlset/urlset/read/LineCounterGetXmlLineOfPinLaw" = some m.cls := findClass_of_methodNamed Bd.named
  have hnm := (name_of_methodNamed Bd.named Bd.method).1
  have X0 : Stand p l e room_1 s m #[(.int p1), (.int p2), (.int p3), (.int p4), (.int p5)] below meth c s₁ [] 0 0 := Stand.of_body Bd
  have e0 : s₁.heap = h0 := by rw [← hh, Bd.state]; rfl
  have N0 := Fr.nil n0
  have pre0 : ∀ t, Steps p.tables e below (s₁.setTop (mkF m 0 #[.val (.int p1), .val (.int p2), .val (.int p3), .val (.int p4), .val (.int p5), .unset, .unset, .unset, .unset, .unset, .unset, .unset, .unset, .unset] [])) t → Steps p.tables e below (s₁.setTop (entryFrame m #[(.int p1), (.int p2), (.int p3), (.int p4), (.int p5)] maxLocals)) t := fun t k => castTop (ef_0 m p1 p2 p3 p4 p5) k
  obtain ⟨_, _, ⟨T96, L96, k96, n96⟩, -, X96, ⟨Lc96, hQ96, l96, y96, z96⟩, st96⟩ := Jvm.LawKit.callS X0 hx (y := (⟨"com/example/urlset/urlset/read/LineCounterGetXmlLineOfPinLaw", "pick", "(I)I"⟩ : MethodName)) hown (mvT hZ (hw _ (List.mem_of_getElem? (i := 0) rfl))) (mvT hZ (hw _ (List.mem_of_getElem? (i := 1) rfl))) (mvT hZ (hw _ (List.mem_of_getElem? (i := 2) rfl))) (mvT hZ (hw _ (List.mem_of_getElem? (i := 3) rfl))) (by decide) (backOf (W := 0) (rm1 l Z a0 hw [] p2 h0 n0 Z0 ) hZ (hw _ (List.mem_of_getElem? (i := 3) rfl)) (hw _ (List.mem_of_getElem? (i := 2) rfl)) (by decide) (by decide)) (g := (mkF m 6 #[.val (.int p1), .val (.int p2), .val (.int p3), .val (.int p4), .val (.int p5), .val (.int (p1 &&& (3 : Int32))), .unset, .unset, .unset, .unset, .unset, .unset, .unset, .unset] [(.int p2)])) rfl (by rw [hml]; rfl) (argsL := [(.int p2)]) (rest := []) (lenOf pd_0 rfl) rfl (by show 2 * 0 + _ ≤ _; exact Nat.le_of_eq rfl) (hb hby at_6) (fun _ _ => ⟨rfl, e0, (by decide : 0 + 0 ≤ _), (by decide : 0 + 0 ≤ _)⟩)
  dsimp only [Pt.U, Pt.locs, Pt.cells, Pt.slots] at X96 l96 y96 z96 st96 hQ96
  subst l96 y96 z96
  obtain ⟨rfl, Nq96, e96⟩ := hQ96
  have N96 := Fr.app N0 Nq96
  obtain ⟨_, _, ⟨T97, L97, k97, n97⟩, -, X97, ⟨Lc97, hQ97, l97, y97, z97⟩, st97⟩ := Jvm.LawKit.callS X96 hx (y := (⟨"com/example/urlset/urlset/read/LineCounterGetXmlLineOfPinLaw", "pick", "(I)I"⟩ : MethodName)) hown (mvT hZ (hw _ (List.mem_of_getElem? (i := 0) rfl))) (mvT hZ (hw _ (List.mem_of_getElem? (i := 1) rfl))) (mvT hZ (hw _ (List.mem_of_getElem? (i := 2) rfl))) (mvT hZ (hw _ (List.mem_of_getElem? (i := 3) rfl))) (by decide) (backOf (W := 0) (rm1 l Z a0 hw [] p3 h0 n0 Z0 ) hZ (hw _ (List.mem_of_getElem? (i := 3) rfl)) (hw _ (List.mem_of_getElem? (i := 2) rfl)) (by decide) (by decide)) (g := (mkF m 12 #[.val (.int p1), .val (.int p2), .val (.int p3), .val (.int p4), .val (.int p5), .val (.int (p1 &&& (3 : Int32))), .val (.int (own_pick p2)), .unset, .unset, .unset, .unset, .unset, .unset, .unset] [(.int p3)])) rfl (by rw [hml]; rfl) (argsL := [(.int p3)]) (rest := []) (lenOf pd_0 rfl) rfl (by show 2 * 0 + _ ≤ _; exact Nat.le_of_eq rfl) (hb hby at_12) (fun _ _ => ⟨rfl, e96, (by decide : 0 + 0 ≤ _), (by decide : 0 + 0 ≤ _)⟩)
  dsimp only [Pt.U, Pt.locs, Pt.cells, Pt.slots] at X97 l97 y97 z97 st97 hQ97
  subst l97 y97 z97
  obtain ⟨rfl, Nq97, e97⟩ := hQ97
  have N97 := Fr.app N96 Nq97
  obtain ⟨_, _, ⟨T98, L98, k98, n98⟩, -, X98, ⟨Lc98, hQ98, l98, y98, z98⟩, st98⟩ := Jvm.LawKit.callS X97 hx (y := (⟨"com/example/urlset/urlset/read/LineCounterGetXmlLineOfPinLaw", "pick", "(I)I"⟩ : MethodName)) hown (mvT hZ (hw _ (List.mem_of_getElem? (i := 0) rfl))) (mvT hZ (hw _ (List.mem_of_getElem? (i := 1) rfl))) (mvT hZ (hw _ (List.mem_of_getElem? (i := 2) rfl))) (mvT hZ (hw _ (List.mem_of_getElem? (i := 3) rfl))) (by decide) (backOf (W := 0) (rm1 l Z a0 hw [] p4 h0 n0 Z0 ) hZ (hw _ (List.mem_of_getElem? (i := 3) rfl)) (hw _ (List.mem_of_getElem? (i := 2) rfl)) (by decide) (by decide)) (g := (mkF m 18 #[.val (.int p1), .val (.int p2), .val (.int p3), .val (.int p4), .val (.int p5), .val (.int (p1 &&& (3 : Int32))), .val (.int (own_pick p2)), .val (.int (own_pick p3)), .unset, .unset, .unset, .unset, .unset, .unset] [(.int p4)])) rfl (by rw [hml]; rfl) (argsL := [(.int p4)]) (rest := []) (lenOf pd_0 rfl) rfl (by show 2 * 0 + _ ≤ _; exact Nat.le_of_eq rfl) (hb hby at_18) (fun _ _ => ⟨rfl, e97, (by decide : 0 + 0 ≤ _), (by decide : 0 + 0 ≤ _)⟩)
  dsimp only [Pt.U, Pt.locs, Pt.cells, Pt.slots] at X98 l98 y98 z98 st98 hQ98
  subst l98 y98 z98
  obtain ⟨rfl, Nq98, e98⟩ := hQ98
  have N98 := Fr.app N97 Nq98
  obtain ⟨_, _, ⟨T99, L99, k99, n99⟩, -, X99, ⟨Lc99, hQ99, l99, y99, z99⟩, st99⟩ := Jvm.LawKit.callS X98 hx (y := (⟨"com/example/urlset/urlset/read/LineCounterGetXmlLineOfPinLaw", "pick", "(I)I"⟩ : MethodName)) hown (mvT hZ (hw _ (List.mem_of_getElem? (i := 0) rfl))) (mvT hZ (hw _ (List.mem_of_getElem? (i := 1) rfl))) (mvT hZ (hw _ (List.mem_of_getElem? (i := 2) rfl))) (mvT hZ (hw _ (List.mem_of_getElem? (i := 3) rfl))) (by decide) (backOf (W := 0) (rm1 l Z a0 hw [] p5 h0 n0 Z0 ) hZ (hw _ (List.mem_of_getElem? (i := 3) rfl)) (hw _ (List.mem_of_getElem? (i := 2) rfl)) (by decide) (by decide)) (g := (mkF m 25 #[.val (.int p1), .val (.int p2), .val (.int p3), .val (.int p4), .val (.int p5), .val (.int (p1 &&& (3 : Int32))), .val (.int (own_pick p2)), .val (.int (own_pick p3)), .val (.int (own_pick p4)), .unset, .unset, .unset, .unset, .unset] [(.int p5)])) rfl (by rw [hml]; rfl) (argsL := [(.int p5)]) (rest := []) (lenOf pd_0 rfl) rfl (by show 2 * 0 + _ ≤ _; exact Nat.le_of_eq rfl) (hb hby at_25) (fun _ _ => ⟨rfl, e98, (by decide : 0 + 0 ≤ _), (by decide : 0 + 0 ≤ _)⟩)
  dsimp only [Pt.U, Pt.locs, Pt.cells, Pt.slots] at X99 l99 y99 z99 st99 hQ99
  subst l99 y99 z99
  obtain ⟨rfl, Nq99, e99⟩ := hQ99
  have N99 := Fr.app N98 Nq99
  obtain ⟨T100, h100, X100, e100, E100, A100, D100, -, st100⟩ := newO X99 hx hZ hown (hw _ (List.mem_of_getElem? (i := 4) rfl)) (hw _ (List.mem_of_getElem? (i := 5) rfl)) (hw _ (List.mem_of_getElem? (i := 6) rfl)) e99 (g := (mkF m 30 #[.val (.int p1), .val (.int p2), .val (.int p3), .val (.int p4), .val (.int p5), .val (.int (p1 &&& (3 : Int32))), .val (.int (own_pick p2)), .val (.int (own_pick p3)), .val (.int (own_pick p4)), .val (.int (own_pick p5)), .unset, .unset, .unset, .unset] [])) rfl (hb hby at_30) (by decide) (by decide)
  obtain ⟨b100, g100⟩ : ∃ z, z = h0.size := ⟨_, rfl⟩
  rw [← g100] at A100 D100 st100
  have g_b100 : n0 ≤ b100 := Nat.le_trans Z0 (Nat.le_of_eq g100.symm)
  have z101 : n0 ≤ h100.size := Nat.le_trans Z0 E100.1
  have fi100_xmlLines : Fld Z h100 b100 "com/example/urlset/urlset/read/LineCounter" "xmlLines" "I" (.int (0 : Int32)) := D100 (Or.inl (hw _ (List.mem_of_getElem? (i := 19) rfl))) (ty := .int) (by decide)
  have fi100_textLines : Fld Z h100 b100 "com/example/urlset/urlset/read/LineCounter" "textLines" "I" (.int (0 : Int32)) := D100 (Or.inl (hw _ (List.mem_of_getElem? (i := 26) rfl))) (ty := .int) (by decide)
  have fi100_afterReturn : Fld Z h100 b100 "com/example/urlset/urlset/read/LineCounter" "afterReturn" "Z" (.int (0 : Int32)) := D100 (Or.inl (hw _ (List.mem_of_getElem? (i := 28) rfl))) (ty := .boolean) (by decide)
  obtain ⟨_, _, ⟨T102, L102, k102, n102⟩, -, X102, ⟨Lc102, hQ102, l102, y102, z102⟩, st102⟩ := X100.specialBack hx (y := (⟨"com/example/urlset/urlset/read/LineCounter", "<init>", "()V"⟩ : MethodName)) rfl hown (mvT hZ (hw _ (List.mem_of_getElem? (i := 7) rfl))) (mvT hZ (hw _ (List.mem_of_getElem? (i := 8) rfl))) (mvT hZ (hw _ (List.mem_of_getElem? (i := 9) rfl))) (by decide) (backOf (W := 1) (rm2 l Z a0 hw [] b100 h100 n0 z101 A100) hZ (hw _ (List.mem_of_getElem? (i := 9) rfl)) (hw _ (List.mem_of_getElem? (i := 6) rfl)) (by decide) (by decide)) (g := (mkF m 34 #[.val (.int p1), .val (.int p2), .val (.int p3), .val (.int p4), .val (.int p5), .val (.int (p1 &&& (3 : Int32))), .val (.int (own_pick p2)), .val (.int (own_pick p3)), .val (.int (own_pick p4)), .val (.int (own_pick p5)), .unset, .unset, .unset, .unset] [(.ref b100), (.ref b100)])) rfl (by rw [hml]; rfl) (Steps.refl _) (a := b100) (argsL := []) (rest := [(.ref b100)]) (lenOf pd_1 rfl) rfl (by show 2 * 0 + _ ≤ _; exact Nat.le_of_eq rfl) (hb hby at_34) (fun _ _ => ⟨rfl, e100, (by decide : 1 + 0 ≤ _), (by decide : 3 + 0 ≤ _)⟩)
  dsimp only [Pt.U, Pt.locs, Pt.cells, Pt.slots] at X102 l102 y102 z102 st102 hQ102
  subst l102 y102 z102
  obtain ⟨rfl, Nq102, e102⟩ := hQ102
  have N102 := Fr.app N99 Nq102
  have pre103 : ∀ t, Steps p.tables e below (T102.setTop (mkF m 48 #[.val (.int p1), .val (.int p2), .val (.int p3), .val (.int p4), .val (.int p5), .val (.int (p1 &&& (3 : Int32))), .val (.int (own_pick p2)), .val (.int (own_pick p3)), .val (.int (own_pick p4)), .val (.int (own_pick p5)), .val (.ref b100), .val (.int (0 : Int32)), .val (.int (0 : Int32)), .unset] [(.int (1 : Int32)), (.int (p1 &&& (3 : Int32)))])) t → Steps p.tables e below (s₁.setTop (entryFrame m #[(.int p1), (.int p2), (.int p3), (.int p4), (.int p5)] maxLocals)) t := fun t k => pre0 t (by
      show Steps p.tables e below (s₁.setTop (mkF m 0 #[.val (.int p1), .val (.int p2), .val (.int p3), .val (.int p4), .val (.int p5), .unset, .unset, .unset, .unset, .unset, .unset, .unset, .unset, .unset] [])) _
      refine XS.iloadN X0.here hx rfl (hb hby at_0) rfl ?_
      show Steps p.tables e below (s₁.setTop (mkF m 1 #[.val (.int p1), .val (.int p2), .val (.int p3), .val (.int p4), .val (.int p5), .unset, .unset, .unset, .unset, .unset, .unset, .unset, .unset, .unset] [(.int p1)])) _
      refine XS.iconst X0.here hx rfl (hb hby at_1) ?_
      show Steps p.tables e below (s₁.setTop (mkF m 2 #[.val (.int p1), .val (.int p2), .val (.int p3), .val (.int p4), .val (.int p5), .unset, .unset, .unset, .unset, .unset, .unset, .unset, .unset, .unset] [(.int (3 : Int32)), (.int p1)])) _
      refine XS.iand X0.here hx rfl (hb hby at_2) rfl ?_
      show Steps p.tables e below (s₁.setTop (mkF m 3 #[.val (.int p1), .val (.int p2), .val (.int p3), .val (.int p4), .val (.int p5), .unset, .unset, .unset, .unset, .unset, .unset, .unset, .unset, .unset] [(.int (p1 &&& (3 : Int32)))])) _
      refine XS.istore X0.here hx rfl (hb hby at_3) rfl (l' := #[.val (.int p1), .val (.int p2), .val (.int p3), .val (.int p4), .val (.int p5), .val (.int (p1 &&& (3 : Int32))), .unset, .unset, .unset, .unset, .unset, .unset, .unset, .unset]) rfl ?_
      show Steps p.tables e below (s₁.setTop (mkF m 5 #[.val (.int p1), .val (.int p2), .val (.int p3), .val (.int p4), .val (.int p5), .val (.int (p1 &&& (3 : Int32))), .unset, .unset, .unset, .unset, .unset, .unset, .unset, .unset] [])) _
      refine XS.iloadN X0.here hx rfl (hb hby at_5) rfl ?_
      show Steps p.tables e below (s₁.setTop (mkF m 6 #[.val (.int p1), .val (.int p2), .val (.int p3), .val (.int p4), .val (.int p5), .val (.int (p1 &&& (3 : Int32))), .unset, .unset, .unset, .unset, .unset, .unset, .unset, .unset] [(.int p2)])) _
      refine st96 _ ?_
      show Steps p.tables e below (T96.setTop (mkF m 9 #[.val (.int p1), .val (.int p2), .val (.int p3), .val (.int p4), .val (.int p5), .val (.int (p1 &&& (3 : Int32))), .unset, .unset, .unset, .unset, .unset, .unset, .unset, .unset] [(.int (own_pick p2))])) _
      refine XS.istore X96.here hx rfl (hb hby at_9) rfl (l' := #[.val (.int p1), .val (.int p2), .val (.int p3), .val (.int p4), .val (.int p5), .val (.int (p1 &&& (3 : Int32))), .val (.int (own_pick p2)), .unset, .unset, .unset, .unset, .unset, .unset, .unset]) rfl ?_
      show Steps p.tables e below (T96.setTop (mkF m 11 #[.val (.int p1), .val (.int p2), .val (.int p3), .val (.int p4), .val (.int p5), .val (.int (p1 &&& (3 : Int32))), .val (.int (own_pick p2)), .unset, .unset, .unset, .unset, .unset, .unset, .unset] [])) _
      refine XS.iloadN X96.here hx rfl (hb hby at_11) rfl ?_
      show Steps p.tables e below (T96.setTop (mkF m 12 #[.val (.int p1), .val (.int p2), .val (.int p3), .val (.int p4), .val (.int p5), .val (.int (p1 &&& (3 : Int32))), .val (.int (own_pick p2)), .unset, .unset, .unset, .unset, .unset, .unset, .unset] [(.int p3)])) _
      refine st97 _ ?_
      show Steps p.tables e below (T97.setTop (mkF m 15 #[.val (.int p1), .val (.int p2), .val (.int p3), .val (.int p4), .val (.int p5), .val (.int (p1 &&& (3 : Int32))), .val (.int (own_pick p2)), .unset, .unset, .unset, .unset, .unset, .unset, .unset] [(.int (own_pick p3))])) _
      refine XS.istore X97.here hx rfl (hb hby at_15) rfl (l' := #[.val (.int p1), .val (.int p2), .val (.int p3), .val (.int p4), .val (.int p5), .val (.int (p1 &&& (3 : Int32))), .val (.int (own_pick p2)), .val (.int (own_pick p3)), .unset, .unset, .unset, .unset, .unset, .unset]) rfl ?_
      show Steps p.tables e below (T97.setTop (mkF m 17 #[.val (.int p1), .val (.int p2), .val (.int p3), .val (.int p4), .val (.int p5), .val (.int (p1 &&& (3 : Int32))), .val (.int (own_pick p2)), .val (.int (own_pick p3)), .unset, .unset, .unset, .unset, .unset, .unset] [])) _
      refine XS.iloadN X97.here hx rfl (hb hby at_17) rfl ?_
      show Steps p.tables e below (T97.setTop (mkF m 18 #[.val (.int p1), .val (.int p2), .val (.int p3), .val (.int p4), .val (.int p5), .val (.int (p1 &&& (3 : Int32))), .val (.int (own_pick p2)), .val (.int (own_pick p3)), .unset, .unset, .unset, .unset, .unset, .unset] [(.int p4)])) _
      refine st98 _ ?_
      show Steps p.tables e below (T98.setTop (mkF m 21 #[.val (.int p1), .val (.int p2), .val (.int p3), .val (.int p4), .val (.int p5), .val (.int (p1 &&& (3 : Int32))), .val (.int (own_pick p2)), .val (.int (own_pick p3)), .unset, .unset, .unset, .unset, .unset, .unset] [(.int (own_pick p4))])) _
      refine XS.istore X98.here hx rfl (hb hby at_21) rfl (l' := #[.val (.int p1), .val (.int p2), .val (.int p3), .val (.int p4), .val (.int p5), .val (.int (p1 &&& (3 : Int32))), .val (.int (own_pick p2)), .val (.int (own_pick p3)), .val (.int (own_pick p4)), .unset, .unset, .unset, .unset, .unset]) rfl ?_
      show Steps p.tables e below (T98.setTop (mkF m 23 #[.val (.int p1), .val (.int p2), .val (.int p3), .val (.int p4), .val (.int p5), .val (.int (p1 &&& (3 : Int32))), .val (.int (own_pick p2)), .val (.int (own_pick p3)), .val (.int (own_pick p4)), .unset, .unset, .unset, .unset, .unset] [])) _
      refine XS.iload X98.here hx rfl (hb hby at_23) rfl ?_
      show Steps p.tables e below (T98.setTop (mkF m 25 #[.val (.int p1), .val (.int p2), .val (.int p3), .val (.int p4), .val (.int p5), .val (.int (p1 &&& (3 : Int32))), .val (.int (own_pick p2)), .val (.int (own_pick p3)), .val (.int (own_pick p4)), .unset, .unset, .unset, .unset, .unset] [(.int p5)])) _
      refine st99 _ ?_
      show Steps p.tables e below (T99.setTop (mkF m 28 #[.val (.int p1), .val (.int p2), .val (.int p3), .val (.int p4), .val (.int p5), .val (.int (p1 &&& (3 : Int32))), .val (.int (own_pick p2)), .val (.int (own_pick p3)), .val (.int (own_pick p4)), .unset, .unset, .unset, .unset, .unset] [(.int (own_pick p5))])) _
      refine XS.istore X99.here hx rfl (hb hby at_28) rfl (l' := #[.val (.int p1), .val (.int p2), .val (.int p3), .val (.int p4), .val (.int p5), .val (.int (p1 &&& (3 : Int32))), .val (.int (own_pick p2)), .val (.int (own_pick p3)), .val (.int (own_pick p4)), .val (.int (own_pick p5)), .unset, .unset, .unset, .unset]) rfl ?_
      show Steps p.tables e below (T99.setTop (mkF m 30 #[.val (.int p1), .val (.int p2), .val (.int p3), .val (.int p4), .val (.int p5), .val (.int (p1 &&& (3 : Int32))), .val (.int (own_pick p2)), .val (.int (own_pick p3)), .val (.int (own_pick p4)), .val (.int (own_pick p5)), .unset, .unset, .unset, .unset] [])) _
      refine st100 _ ?_
      show Steps p.tables e below (T100.setTop (mkF m 33 #[.val (.int p1), .val (.int p2), .val (.int p3), .val (.int p4), .val (.int p5), .val (.int (p1 &&& (3 : Int32))), .val (.int (own_pick p2)), .val (.int (own_pick p3)), .val (.int (own_pick p4)), .val (.int (own_pick p5)), .unset, .unset, .unset, .unset] [(.ref b100)])) _
      refine XS.dup X100.here hx rfl (hb hby at_33) rfl rfl ?_
      show Steps p.tables e below (T100.setTop (mkF m 34 #[.val (.int p1), .val (.int p2), .val (.int p3), .val (.int p4), .val (.int p5), .val (.int (p1 &&& (3 : Int32))), .val (.int (own_pick p2)), .val (.int (own_pick p3)), .val (.int (own_pick p4)), .val (.int (own_pick p5)), .unset, .unset, .unset, .unset] [(.ref b100), (.ref b100)])) _
      refine st102.trans ?_
      show Steps p.tables e below (T102.setTop (mkF m 37 #[.val (.int p1), .val (.int p2), .val (.int p3), .val (.int p4), .val (.int p5), .val (.int (p1 &&& (3 : Int32))), .val (.int (own_pick p2)), .val (.int (own_pick p3)), .val (.int (own_pick p4)), .val (.int (own_pick p5)), .unset, .unset, .unset, .unset] [(.ref b100)])) _
      refine XS.astore X102.here hx rfl (hb hby at_37) rfl rfl (l' := #[.val (.int p1), .val (.int p2), .val (.int p3), .val (.int p4), .val (.int p5), .val (.int (p1 &&& (3 : Int32))), .val (.int (own_pick p2)), .val (.int (own_pick p3)), .val (.int (own_pick p4)), .val (.int (own_pick p5)), .val (.ref b100), .unset, .unset, .unset]) rfl ?_
      show Steps p.tables e below (T102.setTop (mkF m 39 #[.val (.int p1), .val (.int p2), .val (.int p3), .val (.int p4), .val (.int p5), .val (.int (p1 &&& (3 : Int32))), .val (.int (own_pick p2)), .val (.int (own_pick p3)), .val (.int (own_pick p4)), .val (.int (own_pick p5)), .val (.ref b100), .unset, .unset, .unset] [])) _
      refine XS.iconst X102.here hx rfl (hb hby at_39) ?_
      show Steps p.tables e below (T102.setTop (mkF m 40 #[.val (.int p1), .val (.int p2), .val (.int p3), .val (.int p4), .val (.int p5), .val (.int (p1 &&& (3 : Int32))), .val (.int (own_pick p2)), .val (.int (own_pick p3)), .val (.int (own_pick p4)), .val (.int (own_pick p5)), .val (.ref b100), .unset, .unset, .unset] [(.int (0 : Int32))])) _
      refine XS.istore X102.here hx rfl (hb hby at_40) rfl (l' := #[.val (.int p1), .val (.int p2), .val (.int p3), .val (.int p4), .val (.int p5), .val (.int (p1 &&& (3 : Int32))), .val (.int (own_pick p2)), .val (.int (own_pick p3)), .val (.int (own_pick p4)), .val (.int (own_pick p5)), .val (.ref b100), .val (.int (0 : Int32)), .unset, .unset]) rfl ?_
      show Steps p.tables e below (T102.setTop (mkF m 42 #[.val (.int p1), .val (.int p2), .val (.int p3), .val (.int p4), .val (.int p5), .val (.int (p1 &&& (3 : Int32))), .val (.int (own_pick p2)), .val (.int (own_pick p3)), .val (.int (own_pick p4)), .val (.int (own_pick p5)), .val (.ref b100), .val (.int (0 : Int32)), .unset, .unset] [])) _
      refine XS.iconst X102.here hx rfl (hb hby at_42) ?_
      show Steps p.tables e below (T102.setTop (mkF m 43 #[.val (.int p1), .val (.int p2), .val (.int p3), .val (.int p4), .val (.int p5), .val (.int (p1 &&& (3 : Int32))), .val (.int (own_pick p2)), .val (.int (own_pick p3)), .val (.int (own_pick p4)), .val (.int (own_pick p5)), .val (.ref b100), .val (.int (0 : Int32)), .unset, .unset] [(.int (0 : Int32))])) _
      refine XS.istore X102.here hx rfl (hb hby at_43) rfl (l' := #[.val (.int p1), .val (.int p2), .val (.int p3), .val (.int p4), .val (.int p5), .val (.int (p1 &&& (3 : Int32))), .val (.int (own_pick p2)), .val (.int (own_pick p3)), .val (.int (own_pick p4)), .val (.int (own_pick p5)), .val (.ref b100), .val (.int (0 : Int32)), .val (.int (0 : Int32)), .unset]) rfl ?_
      show Steps p.tables e below (T102.setTop (mkF m 45 #[.val (.int p1), .val (.int p2), .val (.int p3), .val (.int p4), .val (.int p5), .val (.int (p1 &&& (3 : Int32))), .val (.int (own_pick p2)), .val (.int (own_pick p3)), .val (.int (own_pick p4)), .val (.int (own_pick p5)), .val (.ref b100), .val (.int (0 : Int32)), .val (.int (0 : Int32)), .unset] [])) _
      refine XS.iload X102.here hx rfl (hb hby at_45) rfl ?_
      show Steps p.tables e below (T102.setTop (mkF m 47 #[.val (.int p1), .val (.int p2), .val (.int p3), .val (.int p4), .val (.int p5), .val (.int (p1 &&& (3 : Int32))), .val (.int (own_pick p2)), .val (.int (own_pick p3)), .val (.int (own_pick p4)), .val (.int (own_pick p5)), .val (.ref b100), .val (.int (0 : Int32)), .val (.int (0 : Int32)), .unset] [(.int (p1 &&& (3 : Int32)))])) _
      refine XS.iconst X102.here hx rfl (hb hby at_47) ?_
      exact k)
  by_cases hc48_104 : (p1 &&& (3 : Int32)) < (1 : Int32)
  · have pre105 : ∀ t, Steps p.tables e below (T102.setTop (mkF m 136 #[.val (.int p1), .val (.int p2), .val (.int p3), .val (.int p4), .val (.int p5), .val (.int (p1 &&& (3 : Int32))), .val (.int (own_pick p2)), .val (.int (own_pick p3)), .val (.int (own_pick p4)), .val (.int (own_pick p5)), .val (.ref b100), .val (.int (0 : Int32)), .val (.int (0 : Int32)), .unset] [(.int (10 : Int32)), (.int (own_pick p5))])) t → Steps p.tables e below (s₁.setTop (entryFrame m #[(.int p1), (.int p2), (.int p3), (.int p4), (.int p5)] maxLocals)) t := fun t k => pre103 t (by
        show Steps p.tables e below (T102.setTop (mkF m 48 #[.val (.int p1), .val (.int p2), .val (.int p3), .val (.int p4), .val (.int p5), .val (.int (p1 &&& (3 : Int32))), .val (.int (own_pick p2)), .val (.int (own_pick p3)), .val (.int (own_pick p4)), .val (.int (own_pick p5)), .val (.ref b100), .val (.int (0 : Int32)), .val (.int (0 : Int32)), .unset] [(.int (1 : Int32)), (.int (p1 &&& (3 : Int32)))])) _
        refine XS.icmpYes X102.here hx rfl (pc0 := 48) (pc' := 74) rfl (hb hby at_48) rfl (tlt hc48_104).1 (by decide) (by decide) ?_
        show Steps p.tables e below (T102.setTop (mkF m 74 #[.val (.int p1), .val (.int p2), .val (.int p3), .val (.int p4), .val (.int p5), .val (.int (p1 &&& (3 : Int32))), .val (.int (own_pick p2)), .val (.int (own_pick p3)), .val (.int (own_pick p4)), .val (.int (own_pick p5)), .val (.ref b100), .val (.int (0 : Int32)), .val (.int (0 : Int32)), .unset] [])) _
        refine XS.iload X102.here hx rfl (hb hby at_74) rfl ?_
        show Steps p.tables e below (T102.setTop (mkF m 76 #[.val (.int p1), .val (.int p2), .val (.int p3), .val (.int p4), .val (.int p5), .val (.int (p1 &&& (3 : Int32))), .val (.int (own_pick p2)), .val (.int (own_pick p3)), .val (.int (own_pick p4)), .val (.int (own_pick p5)), .val (.ref b100), .val (.int (0 : Int32)), .val (.int (0 : Int32)), .unset] [(.int (p1 &&& (3 : Int32)))])) _
        refine XS.iconst X102.here hx rfl (hb hby at_76) ?_
        show Steps p.tables e below (T102.setTop (mkF m 77 #[.val (.int p1), .val (.int p2), .val (.int p3), .val (.int p4), .val (.int p5), .val (.int (p1 &&& (3 : Int32))), .val (.int (own_pick p2)), .val (.int (own_pick p3)), .val (.int (own_pick p4)), .val (.int (own_pick p5)), .val (.ref b100), .val (.int (0 : Int32)), .val (.int (0 : Int32)), .unset] [(.int (2 : Int32)), (.int (p1 &&& (3 : Int32)))])) _
        refine XS.icmpYes X102.here hx rfl (pc0 := 77) (pc' := 103) rfl (hb hby at_77) rfl (tlt (by have q0 := hc48_104; simp only [Int32.lt_iff_toInt_lt, ← Int32.toInt_inj, show (1 : Int32).toInt = 1 from rfl, show (2 : Int32).toInt = 2 from rfl] at q0 ⊢; omega : (p1 &&& (3 : Int32)) < (2 : Int32))).1 (by decide) (by decide) ?_
        show Steps p.tables e below (T102.setTop (mkF m 103 #[.val (.int p1), .val (.int p2), .val (.int p3), .val (.int p4), .val (.int p5), .val (.int (p1 &&& (3 : Int32))), .val (.int (own_pick p2)), .val (.int (own_pick p3)), .val (.int (own_pick p4)), .val (.int (own_pick p5)), .val (.ref b100), .val (.int (0 : Int32)), .val (.int (0 : Int32)), .unset] [])) _
        refine XS.iload X102.here hx rfl (hb hby at_103) rfl ?_
        show Steps p.tables e below (T102.setTop (mkF m 105 #[.val (.int p1), .val (.int p2), .val (.int p3), .val (.int p4), .val (.int p5), .val (.int (p1 &&& (3 : Int32))), .val (.int (own_pick p2)), .val (.int (own_pick p3)), .val (.int (own_pick p4)), .val (.int (own_pick p5)), .val (.ref b100), .val (.int (0 : Int32)), .val (.int (0 : Int32)), .unset] [(.int (p1 &&& (3 : Int32)))])) _
        refine XS.iconst X102.here hx rfl (hb hby at_105) ?_
        show Steps p.tables e below (T102.setTop (mkF m 106 #[.val (.int p1), .val (.int p2), .val (.int p3), .val (.int p4), .val (.int p5), .val (.int (p1 &&& (3 : Int32))), .val (.int (own_pick p2)), .val (.int (own_pick p3)), .val (.int (own_pick p4)), .val (.int (own_pick p5)), .val (.ref b100), .val (.int (0 : Int32)), .val (.int (0 : Int32)), .unset] [(.int (3 : Int32)), (.int (p1 &&& (3 : Int32)))])) _
        refine XS.icmpYes X102.here hx rfl (pc0 := 106) (pc' := 132) rfl (hb hby at_106) rfl (tlt (by have q0 := hc48_104; simp only [Int32.lt_iff_toInt_lt, ← Int32.toInt_inj, show (1 : Int32).toInt = 1 from rfl, show (3 : Int32).toInt = 3 from rfl] at q0 ⊢; omega : (p1 &&& (3 : Int32)) < (3 : Int32))).1 (by decide) (by decide) ?_
        show Steps p.tables e below (T102.setTop (mkF m 132 #[.val (.int p1), .val (.int p2), .val (.int p3), .val (.int p4), .val (.int p5), .val (.int (p1 &&& (3 : Int32))), .val (.int (own_pick p2)), .val (.int (own_pick p3)), .val (.int (own_pick p4)), .val (.int (own_pick p5)), .val (.ref b100), .val (.int (0 : Int32)), .val (.int (0 : Int32)), .unset] [])) _
        refine XS.iload X102.here hx rfl (hb hby at_132) rfl ?_
        show Steps p.tables e below (T102.setTop (mkF m 134 #[.val (.int p1), .val (.int p2), .val (.int p3), .val (.int p4), .val (.int p5), .val (.int (p1 &&& (3 : Int32))), .val (.int (own_pick p2)), .val (.int (own_pick p3)), .val (.int (own_pick p4)), .val (.int (own_pick p5)), .val (.ref b100), .val (.int (0 : Int32)), .val (.int (0 : Int32)), .unset] [(.int (own_pick p5))])) _
        refine XS.bipush X102.here hx rfl (hb hby at_134) ?_
        exact k)
    by_cases hc136_106 : (own_pick p5) = (10 : Int32)
    · obtain ⟨cq107, kq107, qa107, qb107, qc107⟩ := isOf hZ e102 A100
      obtain ⟨_, _, ⟨T107, L107, k107, n107⟩, -, X107, ⟨Lc107, hQ107, l107, y107, z107⟩, st107⟩ := X102.virtualBack hx (y := (⟨"com/example/urlset/urlset/read/LineCounter", "getXmlLineOf", "(I)I"⟩ : MethodName)) (z := (⟨"com/example/urlset/urlset/read/LineCounter", "getXmlLineOf", "(I)I"⟩ : MethodName)) hown (mvT hZ (hw _ (List.mem_of_getElem? (i := 13) rfl))) (mvT hZ (hw _ (List.mem_of_getElem? (i := 14) rfl))) (notFace_of_selects (args := #[]) (mvT hZ (hw _ (List.mem_of_getElem? (i := 16) rfl)))) (mvT hZ (hw _ (List.mem_of_getElem? (i := 16) rfl))) (mvT hZ (hw _ (List.mem_of_getElem? (i := 15) rfl))) (by decide) (backOf (W := 0) (rm4 l Z a0 hw [] b100 (own_pick p5) (0 : Int32) (0 : Int32) h100 n0 z101 A100 fi100_xmlLines fi100_afterReturn) hZ (hw _ (List.mem_of_getElem? (i := 17) rfl)) (hw _ (List.mem_of_getElem? (i := 6) rfl)) (by decide) (by decide)) qa107 qc107 (g := (mkF m 163 #[.val (.int p1), .val (.int p2), .val (.int p3), .val (.int p4), .val (.int p5), .val (.int (p1 &&& (3 : Int32))), .val (.int (own_pick p2)), .val (.int (own_pick p3)), .val (.int (own_pick p4)), .val (.int (own_pick p5)), .val (.ref b100), .val (.int (0 : Int32)), .val (.int (0 : Int32)), .val (.int (1 : Int32))] [(.int (own_pick p5)), (.ref b100)])) rfl (by rw [hml]; rfl) (Steps.refl _) (argsL := [(.int (own_pick p5))]) (rest := []) (lenOf pd_0 rfl) rfl (by show 2 * 0 + _ ≤ _; exact Nat.le_of_eq rfl) (hb hby at_163) (fun _ _ => ⟨rfl, e102, (by decide : 1 + 0 ≤ _), (by decide : 3 + 0 ≤ _)⟩)
      dsimp only [Pt.U, Pt.locs, Pt.cells, Pt.slots] at X107 l107 y107 z107 st107 hQ107
      subst l107 y107 z107
      obtain ⟨rfl, Nq107, e107⟩ := hQ107
      have N107 := Fr.app N102 Nq107
      obtain ⟨fs, hr, hrun, hended, hW, hsame⟩ := X107.leave (v := some (.int (1 : Int32))) (fun h => by rw [Bd.returns] at h; cases h)
      refine ⟨_, _, pre105 _ ?_, hrun, hended, _, _, rfl, ?_, ⟨_, rfl⟩, hW, hsame.mono (by decide) (by decide)⟩
      · show Steps p.tables e below (T102.setTop (mkF m 136 #[.val (.int p1), .val (.int p2), .val (.int p3), .val (.int p4), .val (.int p5), .val (.int (p1 &&& (3 : Int32))), .val (.int (own_pick p2)), .val (.int (own_pick p3)), .val (.int (own_pick p4)), .val (.int (own_pick p5)), .val (.ref b100), .val (.int (0 : Int32)), .val (.int (0 : Int32)), .unset] [(.int (10 : Int32)), (.int (own_pick p5))])) _
        refine XS.icmpNo X102.here hx rfl (hb hby at_136) rfl (teq hc136_106).2 ?_
        show Steps p.tables e below (T102.setTop (mkF m 139 #[.val (.int p1), .val (.int p2), .val (.int p3), .val (.int p4), .val (.int p5), .val (.int (p1 &&& (3 : Int32))), .val (.int (own_pick p2)), .val (.int (own_pick p3)), .val (.int (own_pick p4)), .val (.int (own_pick p5)), .val (.ref b100), .val (.int (0 : Int32)), .val (.int (0 : Int32)), .unset] [])) _
        refine XS.iload X102.here hx rfl (hb hby at_139) rfl ?_
        show Steps p.tables e below (T102.setTop (mkF m 141 #[.val (.int p1), .val (.int p2), .val (.int p3), .val (.int p4), .val (.int p5), .val (.int (p1 &&& (3 : Int32))), .val (.int (own_pick p2)), .val (.int (own_pick p3)), .val (.int (own_pick p4)), .val (.int (own_pick p5)), .val (.ref b100), .val (.int (0 : Int32)), .val (.int (0 : Int32)), .unset] [(.int (0 : Int32))])) _
        refine XS.bipush X102.here hx rfl (hb hby at_141) ?_
        show Steps p.tables e below (T102.setTop (mkF m 143 #[.val (.int p1), .val (.int p2), .val (.int p3), .val (.int p4), .val (.int p5), .val (.int (p1 &&& (3 : Int32))), .val (.int (own_pick p2)), .val (.int (own_pick p3)), .val (.int (own_pick p4)), .val (.int (own_pick p5)), .val (.ref b100), .val (.int (0 : Int32)), .val (.int (0 : Int32)), .unset] [(.int (13 : Int32)), (.int (0 : Int32))])) _
        refine XS.icmpYes X102.here hx rfl (pc0 := 143) (pc' := 153) rfl (hb hby at_143) rfl (feq (by decide : ¬ ((0 : Int32) = (13 : Int32)))).2 (by decide) (by decide) ?_
        show Steps p.tables e below (T102.setTop (mkF m 153 #[.val (.int p1), .val (.int p2), .val (.int p3), .val (.int p4), .val (.int p5), .val (.int (p1 &&& (3 : Int32))), .val (.int (own_pick p2)), .val (.int (own_pick p3)), .val (.int (own_pick p4)), .val (.int (own_pick p5)), .val (.ref b100), .val (.int (0 : Int32)), .val (.int (0 : Int32)), .unset] [])) _
        refine XS.iload X102.here hx rfl (hb hby at_153) rfl ?_
        show Steps p.tables e below (T102.setTop (mkF m 155 #[.val (.int p1), .val (.int p2), .val (.int p3), .val (.int p4), .val (.int p5), .val (.int (p1 &&& (3 : Int32))), .val (.int (own_pick p2)), .val (.int (own_pick p3)), .val (.int (own_pick p4)), .val (.int (own_pick p5)), .val (.ref b100), .val (.int (0 : Int32)), .val (.int (0 : Int32)), .unset] [(.int (0 : Int32))])) _
        refine XS.iconst X102.here hx rfl (hb hby at_155) ?_
        show Steps p.tables e below (T102.setTop (mkF m 156 #[.val (.int p1), .val (.int p2), .val (.int p3), .val (.int p4), .val (.int p5), .val (.int (p1 &&& (3 : Int32))), .val (.int (own_pick p2)), .val (.int (own_pick p3)), .val (.int (own_pick p4)), .val (.int (own_pick p5)), .val (.ref b100), .val (.int (0 : Int32)), .val (.int (0 : Int32)), .unset] [(.int (1 : Int32)), (.int (0 : Int32))])) _
        refine XS.iadd X102.here hx rfl (hb hby at_156) rfl ?_
        show Steps p.tables e below (T102.setTop (mkF m 157 #[.val (.int p1), .val (.int p2), .val (.int p3), .val (.int p4), .val (.int p5), .val (.int (p1 &&& (3 : Int32))), .val (.int (own_pick p2)), .val (.int (own_pick p3)), .val (.int (own_pick p4)), .val (.int (own_pick p5)), .val (.ref b100), .val (.int (0 : Int32)), .val (.int (0 : Int32)), .unset] [(.int (1 : Int32))])) _
        refine XS.istore X102.here hx rfl (hb hby at_157) rfl (l' := #[.val (.int p1), .val (.int p2), .val (.int p3), .val (.int p4), .val (.int p5), .val (.int (p1 &&& (3 : Int32))), .val (.int (own_pick p2)), .val (.int (own_pick p3)), .val (.int (own_pick p4)), .val (.int (own_pick p5)), .val (.ref b100), .val (.int (0 : Int32)), .val (.int (0 : Int32)), .val (.int (1 : Int32))]) rfl ?_
        show Steps p.tables e below (T102.setTop (mkF m 159 #[.val (.int p1), .val (.int p2), .val (.int p3), .val (.int p4), .val (.int p5), .val (.int (p1 &&& (3 : Int32))), .val (.int (own_pick p2)), .val (.int (own_pick p3)), .val (.int (own_pick p4)), .val (.int (own_pick p5)), .val (.ref b100), .val (.int (0 : Int32)), .val (.int (0 : Int32)), .val (.int (1 : Int32))] [])) _
        refine XS.aload X102.here hx rfl (hb hby at_159) rfl rfl ?_
        show Steps p.tables e below (T102.setTop (mkF m 161 #[.val (.int p1), .val (.int p2), .val (.int p3), .val (.int p4), .val (.int p5), .val (.int (p1 &&& (3 : Int32))), .val (.int (own_pick p2)), .val (.int (own_pick p3)), .val (.int (own_pick p4)), .val (.int (own_pick p5)), .val (.ref b100), .val (.int (0 : Int32)), .val (.int (0 : Int32)), .val (.int (1 : Int32))] [(.ref b100)])) _
        refine XS.iload X102.here hx rfl (hb hby at_161) rfl ?_
        show Steps p.tables e below (T102.setTop (mkF m 163 #[.val (.int p1), .val (.int p2), .val (.int p3), .val (.int p4), .val (.int p5), .val (.int (p1 &&& (3 : Int32))), .val (.int (own_pick p2)), .val (.int (own_pick p3)), .val (.int (own_pick p4)), .val (.int (own_pick p5)), .val (.ref b100), .val (.int (0 : Int32)), .val (.int (0 : Int32)), .val (.int (1 : Int32))] [(.int (own_pick p5)), (.ref b100)])) _
        refine st107.trans ?_
        show Steps p.tables e below (T107.setTop (mkF m 166 #[.val (.int p1), .val (.int p2), .val (.int p3), .val (.int p4), .val (.int p5), .val (.int (p1 &&& (3 : Int32))), .val (.int (own_pick p2)), .val (.int (own_pick p3)), .val (.int (own_pick p4)), .val (.int (own_pick p5)), .val (.ref b100), .val (.int (0 : Int32)), .val (.int (0 : Int32)), .val (.int (1 : Int32))] [(.int (own_lo (own_pick p5) (0 : Int32) (0 : Int32)))])) _
        refine XS.iload X107.here hx rfl (hb hby at_166) rfl ?_
        show Steps p.tables e below (T107.setTop (mkF m 168 #[.val (.int p1), .val (.int p2), .val (.int p3), .val (.int p4), .val (.int p5), .val (.int (p1 &&& (3 : Int32))), .val (.int (own_pick p2)), .val (.int (own_pick p3)), .val (.int (own_pick p4)), .val (.int (own_pick p5)), .val (.ref b100), .val (.int (0 : Int32)), .val (.int (0 : Int32)), .val (.int (1 : Int32))] [(.int (1 : Int32)), (.int (own_lo (own_pick p5) (0 : Int32) (0 : Int32)))])) _
        refine XS.icmpNo X107.here hx rfl (hb hby at_168) rfl (teq (own_none _ : (own_lo (own_pick p5) (0 : Int32) (0 : Int32)) = (1 : Int32))).2 ?_
        show Steps p.tables e below (T107.setTop (mkF m 171 #[.val (.int p1), .val (.int p2), .val (.int p3), .val (.int p4), .val (.int p5), .val (.int (p1 &&& (3 : Int32))), .val (.int (own_pick p2)), .val (.int (own_pick p3)), .val (.int (own_pick p4)), .val (.int (own_pick p5)), .val (.ref b100), .val (.int (0 : Int32)), .val (.int (0 : Int32)), .val (.int (1 : Int32))] [])) _
        refine XS.iconst X107.here hx rfl (hb hby at_171) ?_
        show Steps p.tables e below (T107.setTop (mkF m 172 #[.val (.int p1), .val (.int p2), .val (.int p3), .val (.int p4), .val (.int p5), .val (.int (p1 &&& (3 : Int32))), .val (.int (own_pick p2)), .val (.int (own_pick p3)), .val (.int (own_pick p4)), .val (.int (own_pick p5)), .val (.ref b100), .val (.int (0 : Int32)), .val (.int (0 : Int32)), .val (.int (1 : Int32))] [(.int (1 : Int32))])) _
        refine XS.goto X107.here hx rfl (pc0 := 172) (pc' := 176) rfl (hb hby at_172) (by decide) (by decide) ?_
        show Steps p.tables e below (T107.setTop (mkF m 176 #[.val (.int p1), .val (.int p2), .val (.int p3), .val (.int p4), .val (.int p5), .val (.int (p1 &&& (3 : Int32))), .val (.int (own_pick p2)), .val (.int (own_pick p3)), .val (.int (own_pick p4)), .val (.int (own_pick p5)), .val (.ref b100), .val (.int (0 : Int32)), .val (.int (0 : Int32)), .val (.int (1 : Int32))] [(.int (1 : Int32))])) _
        exact retN X107 hx (t := .boolean) Bd.returns (by simp) (hb hby at_176) hr
      · show Q0 Z p1 p2 p3 p4 p5 h0 n0 _ T107.heap _
        rw [e107]
        exact ⟨rfl, N107⟩
    · obtain ⟨cq108, kq108, qa108, qb108, qc108⟩ := isOf hZ e102 A100
      obtain ⟨_, _, ⟨T108, L108, k108, n108⟩, -, X108, ⟨Lc108, hQ108, l108, y108, z108⟩, st108⟩ := X102.virtualBack hx (y := (⟨"com/example/urlset/urlset/read/LineCounter", "getXmlLineOf", "(I)I"⟩ : MethodName)) (z := (⟨"com/example/urlset/urlset/read/LineCounter", "getXmlLineOf", "(I)I"⟩ : MethodName)) hown (mvT hZ (hw _ (List.mem_of_getElem? (i := 13) rfl))) (mvT hZ (hw _ (List.mem_of_getElem? (i := 14) rfl))) (notFace_of_selects (args := #[]) (mvT hZ (hw _ (List.mem_of_getElem? (i := 16) rfl)))) (mvT hZ (hw _ (List.mem_of_getElem? (i := 16) rfl))) (mvT hZ (hw _ (List.mem_of_getElem? (i := 15) rfl))) (by decide) (backOf (W := 0) (rm4 l Z a0 hw [] b100 (own_pick p5) (0 : Int32) (0 : Int32) h100 n0 z101 A100 fi100_xmlLines fi100_afterReturn) hZ (hw _ (List.mem_of_getElem? (i := 17) rfl)) (hw _ (List.mem_of_getElem? (i := 6) rfl)) (by decide) (by decide)) qa108 qc108 (g := (mkF m 163 #[.val (.int p1), .val (.int p2), .val (.int p3), .val (.int p4), .val (.int p5), .val (.int (p1 &&& (3 : Int32))), .val (.int (own_pick p2)), .val (.int (own_pick p3)), .val (.int (own_pick p4)), .val (.int (own_pick p5)), .val (.ref b100), .val (.int (0 : Int32)), .val (.int (0 : Int32)), .val (.int (1 : Int32))] [(.int (own_pick p5)), (.ref b100)])) rfl (by rw [hml]; rfl) (Steps.refl _) (argsL := [(.int (own_pick p5))]) (rest := []) (lenOf pd_0 rfl) rfl (by show 2 * 0 + _ ≤ _; exact Nat.le_of_eq rfl) (hb hby at_163) (fun _ _ => ⟨rfl, e102, (by decide : 1 + 0 ≤ _), (by decide : 3 + 0 ≤ _)⟩)
      dsimp only [Pt.U, Pt.locs, Pt.cells, Pt.slots] at X108 l108 y108 z108 st108 hQ108
      subst l108 y108 z108
      obtain ⟨rfl, Nq108, e108⟩ := hQ108
      have N108 := Fr.app N102 Nq108
      obtain ⟨fs, hr, hrun, hended, hW, hsame⟩ := X108.leave (v := some (.int (1 : Int32))) (fun h => by rw [Bd.returns] at h; cases h)
      refine ⟨_, _, pre105 _ ?_, hrun, hended, _, _, rfl, ?_, ⟨_, rfl⟩, hW, hsame.mono (by decide) (by decide)⟩
      · show Steps p.tables e below (T102.setTop (mkF m 136 #[.val (.int p1), .val (.int p2), .val (.int p3), .val (.int p4), .val (.int p5), .val (.int (p1 &&& (3 : Int32))), .val (.int (own_pick p2)), .val (.int (own_pick p3)), .val (.int (own_pick p4)), .val (.int (own_pick p5)), .val (.ref b100), .val (.int (0 : Int32)), .val (.int (0 : Int32)), .unset] [(.int (10 : Int32)), (.int (own_pick p5))])) _
        refine XS.icmpYes X102.here hx rfl (pc0 := 136) (pc' := 153) rfl (hb hby at_136) rfl (feq hc136_106).2 (by decide) (by decide) ?_
        show Steps p.tables e below (T102.setTop (mkF m 153 #[.val (.int p1), .val (.int p2), .val (.int p3), .val (.int p4), .val (.int p5), .val (.int (p1 &&& (3 : Int32))), .val (.int (own_pick p2)), .val (.int (own_pick p3)), .val (.int (own_pick p4)), .val (.int (own_pick p5)), .val (.ref b100), .val (.int (0 : Int32)), .val (.int (0 : Int32)), .unset] [])) _
        refine XS.iload X102.here hx rfl (hb hby at_153) rfl ?_
        show Steps p.tables e below (T102.setTop (mkF m 155 #[.val (.int p1), .val (.int p2), .val (.int p3), .val (.int p4), .val (.int p5), .val (.int (p1 &&& (3 : Int32))), .val (.int (own_pick p2)), .val (.int (own_pick p3)), .val (.int (own_pick p4)), .val (.int (own_pick p5)), .val (.ref b100), .val (.int (0 : Int32)), .val (.int (0 : Int32)), .unset] [(.int (0 : Int32))])) _
        refine XS.iconst X102.here hx rfl (hb hby at_155) ?_
        show Steps p.tables e below (T102.setTop (mkF m 156 #[.val (.int p1), .val (.int p2), .val (.int p3), .val (.int p4), .val (.int p5), .val (.int (p1 &&& (3 : Int32))), .val (.int (own_pick p2)), .val (.int (own_pick p3)), .val (.int (own_pick p4)), .val (.int (own_pick p5)), .val (.ref b100), .val (.int (0 : Int32)), .val (.int (0 : Int32)), .unset] [(.int (1 : Int32)), (.int (0 : Int32))])) _
        refine XS.iadd X102.here hx rfl (hb hby at_156) rfl ?_
        show Steps p.tables e below (T102.setTop (mkF m 157 #[.val (.int p1), .val (.int p2), .val (.int p3), .val (.int p4), .val (.int p5), .val (.int (p1 &&& (3 : Int32))), .val (.int (own_pick p2)), .val (.int (own_pick p3)), .val (.int (own_pick p4)), .val (.int (own_pick p5)), .val (.ref b100), .val (.int (0 : Int32)), .val (.int (0 : Int32)), .unset] [(.int (1 : Int32))])) _
        refine XS.istore X102.here hx rfl (hb hby at_157) rfl (l' := #[.val (.int p1), .val (.int p2), .val (.int p3), .val (.int p4), .val (.int p5), .val (.int (p1 &&& (3 : Int32))), .val (.int (own_pick p2)), .val (.int (own_pick p3)), .val (.int (own_pick p4)), .val (.int (own_pick p5)), .val (.ref b100), .val (.int (0 : Int32)), .val (.int (0 : Int32)), .val (.int (1 : Int32))]) rfl ?_
        show Steps p.tables e below (T102.setTop (mkF m 159 #[.val (.int p1), .val (.int p2), .val (.int p3), .val (.int p4), .val (.int p5), .val (.int (p1 &&& (3 : Int32))), .val (.int (own_pick p2)), .val (.int (own_pick p3)), .val (.int (own_pick p4)), .val (.int (own_pick p5)), .val (.ref b100), .val (.int (0 : Int32)), .val (.int (0 : Int32)), .val (.int (1 : Int32))] [])) _
        refine XS.aload X102.here hx rfl (hb hby at_159) rfl rfl ?_
        show Steps p.tables e below (T102.setTop (mkF m 161 #[.val (.int p1), .val (.int p2), .val (.int p3), .val (.int p4), .val (.int p5), .val (.int (p1 &&& (3 : Int32))), .val (.int (own_pick p2)), .val (.int (own_pick p3)), .val (.int (own_pick p4)), .val (.int (own_pick p5)), .val (.ref b100), .val (.int (0 : Int32)), .val (.int (0 : Int32)), .val (.int (1 : Int32))] [(.ref b100)])) _
        refine XS.iload X102.here hx rfl (hb hby at_161) rfl ?_
        show Steps p.tables e below (T102.setTop (mkF m 163 #[.val (.int p1), .val (.int p2), .val (.int p3), .val (.int p4), .val (.int p5), .val (.int (p1 &&& (3 : Int32))), .val (.int (own_pick p2)), .val (.int (own_pick p3)), .val (.int (own_pick p4)), .val (.int (own_pick p5)), .val (.ref b100), .val (.int (0 : Int32)), .val (.int (0 : Int32)), .val (.int (1 : Int32))] [(.int (own_pick p5)), (.ref b100)])) _
        refine st108.trans ?_
        show Steps p.tables e below (T108.setTop (mkF m 166 #[.val (.int p1), .val (.int p2), .val (.int p3), .val (.int p4), .val (.int p5), .val (.int (p1 &&& (3 : Int32))), .val (.int (own_pick p2)), .val (.int (own_pick p3)), .val (.int (own_pick p4)), .val (.int (own_pick p5)), .val (.ref b100), .val (.int (0 : Int32)), .val (.int (0 : Int32)), .val (.int (1 : Int32))] [(.int (own_lo (own_pick p5) (0 : Int32) (0 : Int32)))])) _
        refine XS.iload X108.here hx rfl (hb hby at_166) rfl ?_
        show Steps p.tables e below (T108.setTop (mkF m 168 #[.val (.int p1), .val (.int p2), .val (.int p3), .val (.int p4), .val (.int p5), .val (.int (p1 &&& (3 : Int32))), .val (.int (own_pick p2)), .val (.int (own_pick p3)), .val (.int (own_pick p4)), .val (.int (own_pick p5)), .val (.ref b100), .val (.int (0 : Int32)), .val (.int (0 : Int32)), .val (.int (1 : Int32))] [(.int (1 : Int32)), (.int (own_lo (own_pick p5) (0 : Int32) (0 : Int32)))])) _
        refine XS.icmpNo X108.here hx rfl (hb hby at_168) rfl (teq (own_none _ : (own_lo (own_pick p5) (0 : Int32) (0 : Int32)) = (1 : Int32))).2 ?_
        show Steps p.tables e below (T108.setTop (mkF m 171 #[.val (.int p1), .val (.int p2), .val (.int p3), .val (.int p4), .val (.int p5), .val (.int (p1 &&& (3 : Int32))), .val (.int (own_pick p2)), .val (.int (own_pick p3)), .val (.int (own_pick p4)), .val (.int (own_pick p5)), .val (.ref b100), .val (.int (0 : Int32)), .val (.int (0 : Int32)), .val (.int (1 : Int32))] [])) _
        refine XS.iconst X108.here hx rfl (hb hby at_171) ?_
        show Steps p.tables e below (T108.setTop (mkF m 172 #[.val (.int p1), .val (.int p2), .val (.int p3), .val (.int p4), .val (.int p5), .val (.int (p1 &&& (3 : Int32))), .val (.int (own_pick p2)), .val (.int (own_pick p3)), .val (.int (own_pick p4)), .val (.int (own_pick p5)), .val (.ref b100), .val (.int (0 : Int32)), .val (.int (0 : Int32)), .val (.int (1 : Int32))] [(.int (1 : Int32))])) _
        refine XS.goto X108.here hx rfl (pc0 := 172) (pc' := 176) rfl (hb hby at_172) (by decide) (by decide) ?_
        show Steps p.tables e below (T108.setTop (mkF m 176 #[.val (.int p1), .val (.int p2), .val (.int p3), .val (.int p4), .val (.int p5), .val (.int (p1 &&& (3 : Int32))), .val (.int (own_pick p2)), .val (.int (own_pick p3)), .val (.int (own_pick p4)), .val (.int (own_pick p5)), .val (.ref b100), .val (.int (0 : Int32)), .val (.int (0 : Int32)), .val (.int (1 : Int32))] [(.int (1 : Int32))])) _
        exact retN X108 hx (t := .boolean) Bd.returns (by simp) (hb hby at_176) hr
      · show Q0 Z p1 p2 p3 p4 p5 h0 n0 _ T108.heap _
        rw [e108]
        exact ⟨rfl, N108⟩
  · obtain ⟨cq109, kq109, qa109, qb109, qc109⟩ := isOf hZ e102 A100
    obtain ⟨_, _, ⟨T109, L109, k109, n109⟩, -, X109, ⟨Lc109, hQ109, l109, y109, z109⟩, st109⟩ := X102.virtualBack hx (y := (⟨"com/example/urlset/urlset/read/LineCounter", "count", "(I)V"⟩ : MethodName)) (z := (⟨"com/example/urlset/urlset/read/LineCounter", "count", "(I)V"⟩ : MethodName)) hown (mvT hZ (hw _ (List.mem_of_getElem? (i := 20) rfl))) (mvT hZ (hw _ (List.mem_of_getElem? (i := 21) rfl))) (notFace_of_selects (args := #[]) (mvT hZ (hw _ (List.mem_of_getElem? (i := 23) rfl)))) (mvT hZ (hw _ (List.mem_of_getElem? (i := 23) rfl))) (mvT hZ (hw _ (List.mem_of_getElem? (i := 22) rfl))) (by decide) (backOf (W := 0) (rm5 l Z a0 hw [] b100 (own_pick p2) (0 : Int32) (0 : Int32) (0 : Int32) h100 n0 z101 A100 fi100_xmlLines fi100_textLines fi100_afterReturn g_b100) hZ (hw _ (List.mem_of_getElem? (i := 24) rfl)) (hw _ (List.mem_of_getElem? (i := 6) rfl)) (by decide) (by decide)) qa109 qc109 (g := (mkF m 55 #[.val (.int p1), .val (.int p2), .val (.int p3), .val (.int p4), .val (.int p5), .val (.int (p1 &&& (3 : Int32))), .val (.int (own_pick p2)), .val (.int (own_pick p3)), .val (.int (own_pick p4)), .val (.int (own_pick p5)), .val (.ref b100), .val (.int (0 : Int32)), .val (.int (0 : Int32)), .unset] [(.int (own_pick p2)), (.ref b100)])) rfl (by rw [hml]; rfl) (Steps.refl _) (argsL := [(.int (own_pick p2))]) (rest := []) (lenOf pd_2 rfl) rfl (by show 2 * 0 + _ ≤ _; exact Nat.le_of_eq rfl) (hb hby at_55) (fun _ _ => ⟨rfl, e102, (by decide : 1 + 0 ≤ _), (by decide : 3 + 0 ≤ _)⟩)
    dsimp only [Pt.U, Pt.locs, Pt.cells, Pt.slots] at X109 l109 y109 z109 st109 hQ109
    subst l109 y109 z109
    obtain ⟨rfl, Nq109, K109, po109_0, po109_1, po109_2, po109_3⟩ := hQ109
    have z110 : n0 ≤ T109.heap.size := Nat.le_trans z101 K109.1
    have N109 := Fr.app N102 Nq109
    obtain ⟨_, _, ⟨T111, L111, k111, n111⟩, -, X111, ⟨Lc111, hQ111, l111, y111, z111⟩, st111⟩ := Jvm.LawKit.callS X109 hx (y := (⟨"com/example/urlset/urlset/read/LineCounterGetXmlLineOfPinLaw", "ends", "(II)I"⟩ : MethodName)) hown (mvT hZ (hw _ (List.mem_of_getElem? (i := 29) rfl))) (mvT hZ (hw _ (List.mem_of_getElem? (i := 30) rfl))) (mvT hZ (hw _ (List.mem_of_getElem? (i := 2) rfl))) (mvT hZ (hw _ (List.mem_of_getElem? (i := 31) rfl))) (by decide) (backOf (W := 1) (rm6 l Z a0 hw [] (0 : Int32) (own_pick p2) T109.heap n0 z110 ) hZ (hw _ (List.mem_of_getElem? (i := 31) rfl)) (hw _ (List.mem_of_getElem? (i := 2) rfl)) (by decide) (by decide)) (g := (mkF m 64 #[.val (.int p1), .val (.int p2), .val (.int p3), .val (.int p4), .val (.int p5), .val (.int (p1 &&& (3 : Int32))), .val (.int (own_pick p2)), .val (.int (own_pick p3)), .val (.int (own_pick p4)), .val (.int (own_pick p5)), .val (.ref b100), .val (.int (0 : Int32)), .val (.int (0 : Int32)), .unset] [(.int (own_pick p2)), (.int (0 : Int32)), (.int (0 : Int32))])) rfl (by rw [hml]; rfl) (argsL := [(.int (0 : Int32)), (.int (own_pick p2))]) (rest := [(.int (0 : Int32))]) (lenOf pd_3 rfl) rfl (by show 2 * 0 + _ ≤ _; exact Nat.le_of_eq rfl) (hb hby at_64) (fun _ _ => ⟨rfl, rfl, (by decide : 1 + 0 ≤ _), (by decide : 3 + 0 ≤ _)⟩)
    dsimp only [Pt.U, Pt.locs, Pt.cells, Pt.slots] at X111 l111 y111 z111 st111 hQ111
    subst l111 y111 z111
    obtain ⟨rfl, Nq111, e111⟩ := hQ111
    have N111 := Fr.app N109 Nq111
    have pre112 : ∀ t, Steps p.tables e below (T111.setTop (mkF m 77 #[.val (.int p1), .val (.int p2), .val (.int p3), .val (.int p4), .val (.int p5), .val (.int (p1 &&& (3 : Int32))), .val (.int (own_pick p2)), .val (.int (own_pick p3)), .val (.int (own_pick p4)), .val (.int (own_pick p5)), .val (.ref b100), .val (.int ((0 : Int32) + (own_ends (0 : Int32) (own_pick p2)))), .val (.int (own_pick p2)), .unset] [(.int (2 : Int32)), (.int (p1 &&& (3 : Int32)))])) t → Steps p.tables e below (s₁.setTop (entryFrame m #[(.int p1), (.int p2), (.int p3), (.int p4), (.int p5)] maxLocals)) t := fun t k => pre103 t (by
        show Steps p.tables e below (T102.setTop (mkF m 48 #[.val (.int p1), .val (.int p2), .val (.int p3), .val (.int p4), .val (.int p5), .val (.int (p1 &&& (3 : Int32))), .val (.int (own_pick p2)), .val (.int (own_pick p3)), .val (.int (own_pick p4)), .val (.int (own_pick p5)), .val (.ref b100), .val (.int (0 : Int32)), .val (.int (0 : Int32)), .unset] [(.int (1 : Int32)), (.int (p1 &&& (3 : Int32)))])) _
        refine XS.icmpNo X102.here hx rfl (hb hby at_48) rfl (flt hc48_104).1 ?_
        show Steps p.tables e below (T102.setTop (mkF m 51 #[.val (.int p1), .val (.int p2), .val (.int p3), .val (.int p4), .val (.int p5), .val (.int (p1 &&& (3 : Int32))), .val (.int (own_pick p2)), .val (.int (own_pick p3)), .val (.int (own_pick p4)), .val (.int (own_pick p5)), .val (.ref b100), .val (.int (0 : Int32)), .val (.int (0 : Int32)), .unset] [])) _
        refine XS.aload X102.here hx rfl (hb hby at_51) rfl rfl ?_
        show Steps p.tables e below (T102.setTop (mkF m 53 #[.val (.int p1), .val (.int p2), .val (.int p3), .val (.int p4), .val (.int p5), .val (.int (p1 &&& (3 : Int32))), .val (.int (own_pick p2)), .val (.int (own_pick p3)), .val (.int (own_pick p4)), .val (.int (own_pick p5)), .val (.ref b100), .val (.int (0 : Int32)), .val (.int (0 : Int32)), .unset] [(.ref b100)])) _
        refine XS.iload X102.here hx rfl (hb hby at_53) rfl ?_
        show Steps p.tables e below (T102.setTop (mkF m 55 #[.val (.int p1), .val (.int p2), .val (.int p3), .val (.int p4), .val (.int p5), .val (.int (p1 &&& (3 : Int32))), .val (.int (own_pick p2)), .val (.int (own_pick p3)), .val (.int (own_pick p4)), .val (.int (own_pick p5)), .val (.ref b100), .val (.int (0 : Int32)), .val (.int (0 : Int32)), .unset] [(.int (own_pick p2)), (.ref b100)])) _
        refine st109.trans ?_
        show Steps p.tables e below (T109.setTop (mkF m 58 #[.val (.int p1), .val (.int p2), .val (.int p3), .val (.int p4), .val (.int p5), .val (.int (p1 &&& (3 : Int32))), .val (.int (own_pick p2)), .val (.int (own_pick p3)), .val (.int (own_pick p4)), .val (.int (own_pick p5)), .val (.ref b100), .val (.int (0 : Int32)), .val (.int (0 : Int32)), .unset] [])) _
        refine XS.iload X109.here hx rfl (hb hby at_58) rfl ?_
        show Steps p.tables e below (T109.setTop (mkF m 60 #[.val (.int p1), .val (.int p2), .val (.int p3), .val (.int p4), .val (.int p5), .val (.int (p1 &&& (3 : Int32))), .val (.int (own_pick p2)), .val (.int (own_pick p3)), .val (.int (own_pick p4)), .val (.int (own_pick p5)), .val (.ref b100), .val (.int (0 : Int32)), .val (.int (0 : Int32)), .unset] [(.int (0 : Int32))])) _
        refine XS.iload X109.here hx rfl (hb hby at_60) rfl ?_
        show Steps p.tables e below (T109.setTop (mkF m 62 #[.val (.int p1), .val (.int p2), .val (.int p3), .val (.int p4), .val (.int p5), .val (.int (p1 &&& (3 : Int32))), .val (.int (own_pick p2)), .val (.int (own_pick p3)), .val (.int (own_pick p4)), .val (.int (own_pick p5)), .val (.ref b100), .val (.int (0 : Int32)), .val (.int (0 : Int32)), .unset] [(.int (0 : Int32)), (.int (0 : Int32))])) _
        refine XS.iload X109.here hx rfl (hb hby at_62) rfl ?_
        show Steps p.tables e below (T109.setTop (mkF m 64 #[.val (.int p1), .val (.int p2), .val (.int p3), .val (.int p4), .val (.int p5), .val (.int (p1 &&& (3 : Int32))), .val (.int (own_pick p2)), .val (.int (own_pick p3)), .val (.int (own_pick p4)), .val (.int (own_pick p5)), .val (.ref b100), .val (.int (0 : Int32)), .val (.int (0 : Int32)), .unset] [(.int (own_pick p2)), (.int (0 : Int32)), (.int (0 : Int32))])) _
        refine st111 _ ?_
        show Steps p.tables e below (T111.setTop (mkF m 67 #[.val (.int p1), .val (.int p2), .val (.int p3), .val (.int p4), .val (.int p5), .val (.int (p1 &&& (3 : Int32))), .val (.int (own_pick p2)), .val (.int (own_pick p3)), .val (.int (own_pick p4)), .val (.int (own_pick p5)), .val (.ref b100), .val (.int (0 : Int32)), .val (.int (0 : Int32)), .unset] [(.int (own_ends (0 : Int32) (own_pick p2))), (.int (0 : Int32))])) _
        refine XS.iadd X111.here hx rfl (hb hby at_67) rfl ?_
        show Steps p.tables e below (T111.setTop (mkF m 68 #[.val (.int p1), .val (.int p2), .val (.int p3), .val (.int p4), .val (.int p5), .val (.int (p1 &&& (3 : Int32))), .val (.int (own_pick p2)), .val (.int (own_pick p3)), .val (.int (own_pick p4)), .val (.int (own_pick p5)), .val (.ref b100), .val (.int (0 : Int32)), .val (.int (0 : Int32)), .unset] [(.int ((0 : Int32) + (own_ends (0 : Int32) (own_pick p2))))])) _
        refine XS.istore X111.here hx rfl (hb hby at_68) rfl (l' := #[.val (.int p1), .val (.int p2), .val (.int p3), .val (.int p4), .val (.int p5), .val (.int (p1 &&& (3 : Int32))), .val (.int (own_pick p2)), .val (.int (own_pick p3)), .val (.int (own_pick p4)), .val (.int (own_pick p5)), .val (.ref b100), .val (.int ((0 : Int32) + (own_ends (0 : Int32) (own_pick p2)))), .val (.int (0 : Int32)), .unset]) rfl ?_
        show Steps p.tables e below (T111.setTop (mkF m 70 #[.val (.int p1), .val (.int p2), .val (.int p3), .val (.int p4), .val (.int p5), .val (.int (p1 &&& (3 : Int32))), .val (.int (own_pick p2)), .val (.int (own_pick p3)), .val (.int (own_pick p4)), .val (.int (own_pick p5)), .val (.ref b100), .val (.int ((0 : Int32) + (own_ends (0 : Int32) (own_pick p2)))), .val (.int (0 : Int32)), .unset] [])) _
        refine XS.iload X111.here hx rfl (hb hby at_70) rfl ?_
        show Steps p.tables e below (T111.setTop (mkF m 72 #[.val (.int p1), .val (.int p2), .val (.int p3), .val (.int p4), .val (.int p5), .val (.int (p1 &&& (3 : Int32))), .val (.int (own_pick p2)), .val (.int (own_pick p3)), .val (.int (own_pick p4)), .val (.int (own_pick p5)), .val (.ref b100), .val (.int ((0 : Int32) + (own_ends (0 : Int32) (own_pick p2)))), .val (.int (0 : Int32)), .unset] [(.int (own_pick p2))])) _
        refine XS.istore X111.here hx rfl (hb hby at_72) rfl (l' := #[.val (.int p1), .val (.int p2), .val (.int p3), .val (.int p4), .val (.int p5), .val (.int (p1 &&& (3 : Int32))), .val (.int (own_pick p2)), .val (.int (own_pick p3)), .val (.int (own_pick p4)), .val (.int (own_pick p5)), .val (.ref b100), .val (.int ((0 : Int32) + (own_ends (0 : Int32) (own_pick p2)))), .val (.int (own_pick p2)), .unset]) rfl ?_
        show Steps p.tables e below (T111.setTop (mkF m 74 #[.val (.int p1), .val (.int p2), .val (.int p3), .val (.int p4), .val (.int p5), .val (.int (p1 &&& (3 : Int32))), .val (.int (own_pick p2)), .val (.int (own_pick p3)), .val (.int (own_pick p4)), .val (.int (own_pick p5)), .val (.ref b100), .val (.int ((0 : Int32) + (own_ends (0 : Int32) (own_pick p2)))), .val (.int (own_pick p2)), .unset] [])) _
        refine XS.iload X111.here hx rfl (hb hby at_74) rfl ?_
        show Steps p.tables e below (T111.setTop (mkF m 76 #[.val (.int p1), .val (.int p2), .val (.int p3), .val (.int p4), .val (.int p5), .val (.int (p1 &&& (3 : Int32))), .val (.int (own_pick p2)), .val (.int (own_pick p3)), .val (.int (own_pick p4)), .val (.int (own_pick p5)), .val (.ref b100), .val (.int ((0 : Int32) + (own_ends (0 : Int32) (own_pick p2)))), .val (.int (own_pick p2)), .unset] [(.int (p1 &&& (3 : Int32)))])) _
        refine XS.iconst X111.here hx rfl (hb hby at_76) ?_
        exact k)
    by_cases hc77_113 : (p1 &&& (3 : Int32)) < (2 : Int32)
    · have pre114 : ∀ t, Steps p.tables e below (T111.setTop (mkF m 136 #[.val (.int p1), .val (.int p2), .val (.int p3), .val (.int p4), .val (.int p5), .val (.int (p1 &&& (3 : Int32))), .val (.int (own_pick p2)), .val (.int (own_pick p3)), .val (.int (own_pick p4)), .val (.int (own_pick p5)), .val (.ref b100), .val (.int ((0 : Int32) + (own_ends (0 : Int32) (own_pick p2)))), .val (.int (own_pick p2)), .unset] [(.int (10 : Int32)), (.int (own_pick p5))])) t → Steps p.tables e below (s₁.setTop (entryFrame m #[(.int p1), (.int p2), (.int p3), (.int p4), (.int p5)] maxLocals)) t := fun t k => pre112 t (by
          show Steps p.tables e below (T111.setTop (mkF m 77 #[.val (.int p1), .val (.int p2), .val (.int p3), .val (.int p4), .val (.int p5), .val (.int (p1 &&& (3 : Int32))), .val (.int (own_pick p2)), .val (.int (own_pick p3)), .val (.int (own_pick p4)), .val (.int (own_pick p5)), .val (.ref b100), .val (.int ((0 : Int32) + (own_ends (0 : Int32) (own_pick p2)))), .val (.int (own_pick p2)), .unset] [(.int (2 : Int32)), (.int (p1 &&& (3 : Int32)))])) _
          refine XS.icmpYes X111.here hx rfl (pc0 := 77) (pc' := 103) rfl (hb hby at_77) rfl (tlt hc77_113).1 (by decide) (by decide) ?_
          show Steps p.tables e below (T111.setTop (mkF m 103 #[.val (.int p1), .val (.int p2), .val (.int p3), .val (.int p4), .val (.int p5), .val (.int (p1 &&& (3 : Int32))), .val (.int (own_pick p2)), .val (.int (own_pick p3)), .val (.int (own_pick p4)), .val (.int (own_pick p5)), .val (.ref b100), .val (.int ((0 : Int32) + (own_ends (0 : Int32) (own_pick p2)))), .val (.int (own_pick p2)), .unset] [])) _
          refine XS.iload X111.here hx rfl (hb hby at_103) rfl ?_
          show Steps p.tables e below (T111.setTop (mkF m 105 #[.val (.int p1), .val (.int p2), .val (.int p3), .val (.int p4), .val (.int p5), .val (.int (p1 &&& (3 : Int32))), .val (.int (own_pick p2)), .val (.int (own_pick p3)), .val (.int (own_pick p4)), .val (.int (own_pick p5)), .val (.ref b100), .val (.int ((0 : Int32) + (own_ends (0 : Int32) (own_pick p2)))), .val (.int (own_pick p2)), .unset] [(.int (p1 &&& (3 : Int32)))])) _
          refine XS.iconst X111.here hx rfl (hb hby at_105) ?_
          show Steps p.tables e below (T111.setTop (mkF m 106 #[.val (.int p1), .val (.int p2), .val (.int p3), .val (.int p4), .val (.int p5), .val (.int (p1 &&& (3 : Int32))), .val (.int (own_pick p2)), .val (.int (own_pick p3)), .val (.int (own_pick p4)), .val (.int (own_pick p5)), .val (.ref b100), .val (.int ((0 : Int32) + (own_ends (0 : Int32) (own_pick p2)))), .val (.int (own_pick p2)), .unset] [(.int (3 : Int32)), (.int (p1 &&& (3 : Int32)))])) _
          refine XS.icmpYes X111.here hx rfl (pc0 := 106) (pc' := 132) rfl (hb hby at_106) rfl (tlt (by have q0 := hc48_104; have q1 := hc77_113; simp only [Int32.lt_iff_toInt_lt, ← Int32.toInt_inj, show (1 : Int32).toInt = 1 from rfl, show (2 : Int32).toInt = 2 from rfl, show (3 : Int32).toInt = 3 from rfl] at q0 q1 ⊢; omega : (p1 &&& (3 : Int32)) < (3 : Int32))).1 (by decide) (by decide) ?_
          show Steps p.tables e below (T111.setTop (mkF m 132 #[.val (.int p1), .val (.int p2), .val (.int p3), .val (.int p4), .val (.int p5), .val (.int (p1 &&& (3 : Int32))), .val (.int (own_pick p2)), .val (.int (own_pick p3)), .val (.int (own_pick p4)), .val (.int (own_pick p5)), .val (.ref b100), .val (.int ((0 : Int32) + (own_ends (0 : Int32) (own_pick p2)))), .val (.int (own_pick p2)), .unset] [])) _
          refine XS.iload X111.here hx rfl (hb hby at_132) rfl ?_
          show Steps p.tables e below (T111.setTop (mkF m 134 #[.val (.int p1), .val (.int p2), .val (.int p3), .val (.int p4), .val (.int p5), .val (.int (p1 &&& (3 : Int32))), .val (.int (own_pick p2)), .val (.int (own_pick p3)), .val (.int (own_pick p4)), .val (.int (own_pick p5)), .val (.ref b100), .val (.int ((0 : Int32) + (own_ends (0 : Int32) (own_pick p2)))), .val (.int (own_pick p2)), .unset] [(.int (own_pick p5))])) _
          refine XS.bipush X111.here hx rfl (hb hby at_134) ?_
          exact k)
      by_cases hc136_115 : (own_pick p5) = (10 : Int32)
      · have pre116 : ∀ t, Steps p.tables e below (T111.setTop (mkF m 143 #[.val (.int p1), .val (.int p2), .val (.int p3), .val (.int p4), .val (.int p5), .val (.int (p1 &&& (3 : Int32))), .val (.int (own_pick p2)), .val (.int (own_pick p3)), .val (.int (own_pick p4)), .val (.int (own_pick p5)), .val (.ref b100), .val (.int ((0 : Int32) + (own_ends (0 : Int32) (own_pick p2)))), .val (.int (own_pick p2)), .unset] [(.int (13 : Int32)), (.int (own_pick p2))])) t → Steps p.tables e below (s₁.setTop (entryFrame m #[(.int p1), (.int p2), (.int p3), (.int p4), (.int p5)] maxLocals)) t := fun t k => pre114 t (by
            show Steps p.tables e below (T111.setTop (mkF m 136 #[.val (.int p1), .val (.int p2), .val (.int p3), .val (.int p4), .val (.int p5), .val (.int (p1 &&& (3 : Int32))), .val (.int (own_pick p2)), .val (.int (own_pick p3)), .val (.int (own_pick p4)), .val (.int (own_pick p5)), .val (.ref b100), .val (.int ((0 : Int32) + (own_ends (0 : Int32) (own_pick p2)))), .val (.int (own_pick p2)), .unset] [(.int (10 : Int32)), (.int (own_pick p5))])) _
            refine XS.icmpNo X111.here hx rfl (hb hby at_136) rfl (teq hc136_115).2 ?_
            show Steps p.tables e below (T111.setTop (mkF m 139 #[.val (.int p1), .val (.int p2), .val (.int p3), .val (.int p4), .val (.int p5), .val (.int (p1 &&& (3 : Int32))), .val (.int (own_pick p2)), .val (.int (own_pick p3)), .val (.int (own_pick p4)), .val (.int (own_pick p5)), .val (.ref b100), .val (.int ((0 : Int32) + (own_ends (0 : Int32) (own_pick p2)))), .val (.int (own_pick p2)), .unset] [])) _
            refine XS.iload X111.here hx rfl (hb hby at_139) rfl ?_
            show Steps p.tables e below (T111.setTop (mkF m 141 #[.val (.int p1), .val (.int p2), .val (.int p3), .val (.int p4), .val (.int p5), .val (.int (p1 &&& (3 : Int32))), .val (.int (own_pick p2)), .val (.int (own_pick p3)), .val (.int (own_pick p4)), .val (.int (own_pick p5)), .val (.ref b100), .val (.int ((0 : Int32) + (own_ends (0 : Int32) (own_pick p2)))), .val (.int (own_pick p2)), .unset] [(.int (own_pick p2))])) _
            refine XS.bipush X111.here hx rfl (hb hby at_141) ?_
            exact k)
        by_cases hc143_117 : (own_pick p2) = (13 : Int32)
        · obtain ⟨cq118, kq118, qa118, qb118, qc118⟩ := isOf hZ e111 po109_0
          obtain ⟨_, _, ⟨T118, L118, k118, n118⟩, -, X118, ⟨Lc118, hQ118, l118, y118, z118⟩, st118⟩ := X111.virtualBack hx (y := (⟨"com/example/urlset/urlset/read/LineCounter", "getXmlLineOf", "(I)I"⟩ : MethodName)) (z := (⟨"com/example/urlset/urlset/read/LineCounter", "getXmlLineOf", "(I)I"⟩ : MethodName)) hown (mvT hZ (hw _ (List.mem_of_getElem? (i := 13) rfl))) (mvT hZ (hw _ (List.mem_of_getElem? (i := 14) rfl))) (notFace_of_selects (args := #[]) (mvT hZ (hw _ (List.mem_of_getElem? (i := 16) rfl)))) (mvT hZ (hw _ (List.mem_of_getElem? (i := 16) rfl))) (mvT hZ (hw _ (List.mem_of_getElem? (i := 15) rfl))) (by decide) (backOf (W := 0) (rm4 l Z a0 hw [] b100 (own_pick p5) (own_cx (own_pick p2) (0 : Int32) (0 : Int32)) (own_cr (own_pick p2)) T109.heap n0 z110 po109_0 po109_1 po109_3) hZ (hw _ (List.mem_of_getElem? (i := 17) rfl)) (hw _ (List.mem_of_getElem? (i := 6) rfl)) (by decide) (by decide)) qa118 qc118 (g := (mkF m 163 #[.val (.int p1), .val (.int p2), .val (.int p3), .val (.int p4), .val (.int p5), .val (.int (p1 &&& (3 : Int32))), .val (.int (own_pick p2)), .val (.int (own_pick p3)), .val (.int (own_pick p4)), .val (.int (own_pick p5)), .val (.ref b100), .val (.int ((0 : Int32) + (own_ends (0 : Int32) (own_pick p2)))), .val (.int (own_pick p2)), .val (.int ((0 : Int32) + (own_ends (0 : Int32) (own_pick p2))))] [(.int (own_pick p5)), (.ref b100)])) rfl (by rw [hml]; rfl) (Steps.refl _) (argsL := [(.int (own_pick p5))]) (rest := []) (lenOf pd_0 rfl) rfl (by show 2 * 0 + _ ≤ _; exact Nat.le_of_eq rfl) (hb hby at_163) (fun _ _ => ⟨rfl, e111, (by decide : 1 + 0 ≤ _), (by decide : 3 + 0 ≤ _)⟩)
          dsimp only [Pt.U, Pt.locs, Pt.cells, Pt.slots] at X118 l118 y118 z118 st118 hQ118
          subst l118 y118 z118
          obtain ⟨rfl, Nq118, e118⟩ := hQ118
          have N118 := Fr.app N111 Nq118
          obtain ⟨fs, hr, hrun, hended, hW, hsame⟩ := X118.leave (v := some (.int (1 : Int32))) (fun h => by rw [Bd.returns] at h; cases h)
          refine ⟨_, _, pre116 _ ?_, hrun, hended, _, _, rfl, ?_, ⟨_, rfl⟩, hW, hsame.mono (by decide) (by decide)⟩
          · show Steps p.tables e below (T111.setTop (mkF m 143 #[.val (.int p1), .val (.int p2), .val (.int p3), .val (.int p4), .val (.int p5), .val (.int (p1 &&& (3 : Int32))), .val (.int (own_pick p2)), .val (.int (own_pick p3)), .val (.int (own_pick p4)), .val (.int (own_pick p5)), .val (.ref b100), .val (.int ((0 : Int32) + (own_ends (0 : Int32) (own_pick p2)))), .val (.int (own_pick p2)), .unset] [(.int (13 : Int32)), (.int (own_pick p2))])) _
            refine XS.icmpNo X111.here hx rfl (hb hby at_143) rfl (teq hc143_117).2 ?_
            show Steps p.tables e below (T111.setTop (mkF m 146 #[.val (.int p1), .val (.int p2), .val (.int p3), .val (.int p4), .val (.int p5), .val (.int (p1 &&& (3 : Int32))), .val (.int (own_pick p2)), .val (.int (own_pick p3)), .val (.int (own_pick p4)), .val (.int (own_pick p5)), .val (.ref b100), .val (.int ((0 : Int32) + (own_ends (0 : Int32) (own_pick p2)))), .val (.int (own_pick p2)), .unset] [])) _
            refine XS.iload X111.here hx rfl (hb hby at_146) rfl ?_
            show Steps p.tables e below (T111.setTop (mkF m 148 #[.val (.int p1), .val (.int p2), .val (.int p3), .val (.int p4), .val (.int p5), .val (.int (p1 &&& (3 : Int32))), .val (.int (own_pick p2)), .val (.int (own_pick p3)), .val (.int (own_pick p4)), .val (.int (own_pick p5)), .val (.ref b100), .val (.int ((0 : Int32) + (own_ends (0 : Int32) (own_pick p2)))), .val (.int (own_pick p2)), .unset] [(.int ((0 : Int32) + (own_ends (0 : Int32) (own_pick p2))))])) _
            refine XS.istore X111.here hx rfl (hb hby at_148) rfl (l' := #[.val (.int p1), .val (.int p2), .val (.int p3), .val (.int p4), .val (.int p5), .val (.int (p1 &&& (3 : Int32))), .val (.int (own_pick p2)), .val (.int (own_pick p3)), .val (.int (own_pick p4)), .val (.int (own_pick p5)), .val (.ref b100), .val (.int ((0 : Int32) + (own_ends (0 : Int32) (own_pick p2)))), .val (.int (own_pick p2)), .val (.int ((0 : Int32) + (own_ends (0 : Int32) (own_pick p2))))]) rfl ?_
            show Steps p.tables e below (T111.setTop (mkF m 150 #[.val (.int p1), .val (.int p2), .val (.int p3), .val (.int p4), .val (.int p5), .val (.int (p1 &&& (3 : Int32))), .val (.int (own_pick p2)), .val (.int (own_pick p3)), .val (.int (own_pick p4)), .val (.int (own_pick p5)), .val (.ref b100), .val (.int ((0 : Int32) + (own_ends (0 : Int32) (own_pick p2)))), .val (.int (own_pick p2)), .val (.int ((0 : Int32) + (own_ends (0 : Int32) (own_pick p2))))] [])) _
            refine XS.goto X111.here hx rfl (pc0 := 150) (pc' := 159) rfl (hb hby at_150) (by decide) (by decide) ?_
            show Steps p.tables e below (T111.setTop (mkF m 159 #[.val (.int p1), .val (.int p2), .val (.int p3), .val (.int p4), .val (.int p5), .val (.int (p1 &&& (3 : Int32))), .val (.int (own_pick p2)), .val (.int (own_pick p3)), .val (.int (own_pick p4)), .val (.int (own_pick p5)), .val (.ref b100), .val (.int ((0 : Int32) + (own_ends (0 : Int32) (own_pick p2)))), .val (.int (own_pick p2)), .val (.int ((0 : Int32) + (own_ends (0 : Int32) (own_pick p2))))] [])) _
            refine XS.aload X111.here hx rfl (hb hby at_159) rfl rfl ?_
            show Steps p.tables e below (T111.setTop (mkF m 161 #[.val (.int p1), .val (.int p2), .val (.int p3), .val (.int p4), .val (.int p5), .val (.int (p1 &&& (3 : Int32))), .val (.int (own_pick p2)), .val (.int (own_pick p3)), .val (.int (own_pick p4)), .val (.int (own_pick p5)), .val (.ref b100), .val (.int ((0 : Int32) + (own_ends (0 : Int32) (own_pick p2)))), .val (.int (own_pick p2)), .val (.int ((0 : Int32) + (own_ends (0 : Int32) (own_pick p2))))] [(.ref b100)])) _
            refine XS.iload X111.here hx rfl (hb hby at_161) rfl ?_
            show Steps p.tables e below (T111.setTop (mkF m 163 #[.val (.int p1), .val (.int p2), .val (.int p3), .val (.int p4), .val (.int p5), .val (.int (p1 &&& (3 : Int32))), .val (.int (own_pick p2)), .val (.int (own_pick p3)), .val (.int (own_pick p4)), .val (.int (own_pick p5)), .val (.ref b100), .val (.int ((0 : Int32) + (own_ends (0 : Int32) (own_pick p2)))), .val (.int (own_pick p2)), .val (.int ((0 : Int32) + (own_ends (0 : Int32) (own_pick p2))))] [(.int (own_pick p5)), (.ref b100)])) _
            refine st118.trans ?_
            show Steps p.tables e below (T118.setTop (mkF m 166 #[.val (.int p1), .val (.int p2), .val (.int p3), .val (.int p4), .val (.int p5), .val (.int (p1 &&& (3 : Int32))), .val (.int (own_pick p2)), .val (.int (own_pick p3)), .val (.int (own_pick p4)), .val (.int (own_pick p5)), .val (.ref b100), .val (.int ((0 : Int32) + (own_ends (0 : Int32) (own_pick p2)))), .val (.int (own_pick p2)), .val (.int ((0 : Int32) + (own_ends (0 : Int32) (own_pick p2))))] [(.int (own_lo (own_pick p5) (own_cx (own_pick p2) (0 : Int32) (0 : Int32)) (own_cr (own_pick p2))))])) _
            refine XS.iload X118.here hx rfl (hb hby at_166) rfl ?_
            show Steps p.tables e below (T118.setTop (mkF m 168 #[.val (.int p1), .val (.int p2), .val (.int p3), .val (.int p4), .val (.int p5), .val (.int (p1 &&& (3 : Int32))), .val (.int (own_pick p2)), .val (.int (own_pick p3)), .val (.int (own_pick p4)), .val (.int (own_pick p5)), .val (.ref b100), .val (.int ((0 : Int32) + (own_ends (0 : Int32) (own_pick p2)))), .val (.int (own_pick p2)), .val (.int ((0 : Int32) + (own_ends (0 : Int32) (own_pick p2))))] [(.int ((0 : Int32) + (own_ends (0 : Int32) (own_pick p2)))), (.int (own_lo (own_pick p5) (own_cx (own_pick p2) (0 : Int32) (0 : Int32)) (own_cr (own_pick p2))))])) _
            refine XS.icmpNo X118.here hx rfl (hb hby at_168) rfl (teq (by simp only [own_last, own_more, own_one, if_pos hc136_115, if_pos hc143_117] : (own_lo (own_pick p5) (own_cx (own_pick p2) (0 : Int32) (0 : Int32)) (own_cr (own_pick p2))) = ((0 : Int32) + (own_ends (0 : Int32) (own_pick p2))))).2 ?_
            show Steps p.tables e below (T118.setTop (mkF m 171 #[.val (.int p1), .val (.int p2), .val (.int p3), .val (.int p4), .val (.int p5), .val (.int (p1 &&& (3 : Int32))), .val (.int (own_pick p2)), .val (.int (own_pick p3)), .val (.int (own_pick p4)), .val (.int (own_pick p5)), .val (.ref b100), .val (.int ((0 : Int32) + (own_ends (0 : Int32) (own_pick p2)))), .val (.int (own_pick p2)), .val (.int ((0 : Int32) + (own_ends (0 : Int32) (own_pick p2))))] [])) _
            refine XS.iconst X118.here hx rfl (hb hby at_171) ?_
            show Steps p.tables e below (T118.setTop (mkF m 172 #[.val (.int p1), .val (.int p2), .val (.int p3), .val (.int p4), .val (.int p5), .val (.int (p1 &&& (3 : Int32))), .val (.int (own_pick p2)), .val (.int (own_pick p3)), .val (.int (own_pick p4)), .val (.int (own_pick p5)), .val (.ref b100), .val (.int ((0 : Int32) + (own_ends (0 : Int32) (own_pick p2)))), .val (.int (own_pick p2)), .val (.int ((0 : Int32) + (own_ends (0 : Int32) (own_pick p2))))] [(.int (1 : Int32))])) _
            refine XS.goto X118.here hx rfl (pc0 := 172) (pc' := 176) rfl (hb hby at_172) (by decide) (by decide) ?_
            show Steps p.tables e below (T118.setTop (mkF m 176 #[.val (.int p1), .val (.int p2), .val (.int p3), .val (.int p4), .val (.int p5), .val (.int (p1 &&& (3 : Int32))), .val (.int (own_pick p2)), .val (.int (own_pick p3)), .val (.int (own_pick p4)), .val (.int (own_pick p5)), .val (.ref b100), .val (.int ((0 : Int32) + (own_ends (0 : Int32) (own_pick p2)))), .val (.int (own_pick p2)), .val (.int ((0 : Int32) + (own_ends (0 : Int32) (own_pick p2))))] [(.int (1 : Int32))])) _
            exact retN X118 hx (t := .boolean) Bd.returns (by simp) (hb hby at_176) hr
          · show Q0 Z p1 p2 p3 p4 p5 h0 n0 _ T118.heap _
            rw [e118]
            exact ⟨rfl, N118⟩
        · obtain ⟨cq119, kq119, qa119, qb119, qc119⟩ := isOf hZ e111 po109_0
          obtain ⟨_, _, ⟨T119, L119, k119, n119⟩, -, X119, ⟨Lc119, hQ119, l119, y119, z119⟩, st119⟩ := X111.virtualBack hx (y := (⟨"com/example/urlset/urlset/read/LineCounter", "getXmlLineOf", "(I)I"⟩ : MethodName)) (z := (⟨"com/example/urlset/urlset/read/LineCounter", "getXmlLineOf", "(I)I"⟩ : MethodName)) hown (mvT hZ (hw _ (List.mem_of_getElem? (i := 13) rfl))) (mvT hZ (hw _ (List.mem_of_getElem? (i := 14) rfl))) (notFace_of_selects (args := #[]) (mvT hZ (hw _ (List.mem_of_getElem? (i := 16) rfl)))) (mvT hZ (hw _ (List.mem_of_getElem? (i := 16) rfl))) (mvT hZ (hw _ (List.mem_of_getElem? (i := 15) rfl))) (by decide) (backOf (W := 0) (rm4 l Z a0 hw [] b100 (own_pick p5) (own_cx (own_pick p2) (0 : Int32) (0 : Int32)) (own_cr (own_pick p2)) T109.heap n0 z110 po109_0 po109_1 po109_3) hZ (hw _ (List.mem_of_getElem? (i := 17) rfl)) (hw _ (List.mem_of_getElem? (i := 6) rfl)) (by decide) (by decide)) qa119 qc119 (g := (mkF m 163 #[.val (.int p1), .val (.int p2), .val (.int p3), .val (.int p4), .val (.int p5), .val (.int (p1 &&& (3 : Int32))), .val (.int (own_pick p2)), .val (.int (own_pick p3)), .val (.int (own_pick p4)), .val (.int (own_pick p5)), .val (.ref b100), .val (.int ((0 : Int32) + (own_ends (0 : Int32) (own_pick p2)))), .val (.int (own_pick p2)), .val (.int (((0 : Int32) + (own_ends (0 : Int32) (own_pick p2))) + (1 : Int32)))] [(.int (own_pick p5)), (.ref b100)])) rfl (by rw [hml]; rfl) (Steps.refl _) (argsL := [(.int (own_pick p5))]) (rest := []) (lenOf pd_0 rfl) rfl (by show 2 * 0 + _ ≤ _; exact Nat.le_of_eq rfl) (hb hby at_163) (fun _ _ => ⟨rfl, e111, (by decide : 1 + 0 ≤ _), (by decide : 3 + 0 ≤ _)⟩)
          dsimp only [Pt.U, Pt.locs, Pt.cells, Pt.slots] at X119 l119 y119 z119 st119 hQ119
          subst l119 y119 z119
          obtain ⟨rfl, Nq119, e119⟩ := hQ119
          have N119 := Fr.app N111 Nq119
          obtain ⟨fs, hr, hrun, hended, hW, hsame⟩ := X119.leave (v := some (.int (1 : Int32))) (fun h => by rw [Bd.returns] at h; cases h)
          refine ⟨_, _, pre116 _ ?_, hrun, hended, _, _, rfl, ?_, ⟨_, rfl⟩, hW, hsame.mono (by decide) (by decide)⟩
          · show Steps p.tables e below (T111.setTop (mkF m 143 #[.val (.int p1), .val (.int p2), .val (.int p3), .val (.int p4), .val (.int p5), .val (.int (p1 &&& (3 : Int32))), .val (.int (own_pick p2)), .val (.int (own_pick p3)), .val (.int (own_pick p4)), .val (.int (own_pick p5)), .val (.ref b100), .val (.int ((0 : Int32) + (own_ends (0 : Int32) (own_pick p2)))), .val (.int (own_pick p2)), .unset] [(.int (13 : Int32)), (.int (own_pick p2))])) _
            refine XS.icmpYes X111.here hx rfl (pc0 := 143) (pc' := 153) rfl (hb hby at_143) rfl (feq hc143_117).2 (by decide) (by decide) ?_
            show Steps p.tables e below (T111.setTop (mkF m 153 #[.val (.int p1), .val (.int p2), .val (.int p3), .val (.int p4), .val (.int p5), .val (.int (p1 &&& (3 : Int32))), .val (.int (own_pick p2)), .val (.int (own_pick p3)), .val (.int (own_pick p4)), .val (.int (own_pick p5)), .val (.ref b100), .val (.int ((0 : Int32) + (own_ends (0 : Int32) (own_pick p2)))), .val (.int (own_pick p2)), .unset] [])) _
            refine XS.iload X111.here hx rfl (hb hby at_153) rfl ?_
            show Steps p.tables e below (T111.setTop (mkF m 155 #[.val (.int p1), .val (.int p2), .val (.int p3), .val (.int p4), .val (.int p5), .val (.int (p1 &&& (3 : Int32))), .val (.int (own_pick p2)), .val (.int (own_pick p3)), .val (.int (own_pick p4)), .val (.int (own_pick p5)), .val (.ref b100), .val (.int ((0 : Int32) + (own_ends (0 : Int32) (own_pick p2)))), .val (.int (own_pick p2)), .unset] [(.int ((0 : Int32) + (own_ends (0 : Int32) (own_pick p2))))])) _
            refine XS.iconst X111.here hx rfl (hb hby at_155) ?_
            show Steps p.tables e below (T111.setTop (mkF m 156 #[.val (.int p1), .val (.int p2), .val (.int p3), .val (.int p4), .val (.int p5), .val (.int (p1 &&& (3 : Int32))), .val (.int (own_pick p2)), .val (.int (own_pick p3)), .val (.int (own_pick p4)), .val (.int (own_pick p5)), .val (.ref b100), .val (.int ((0 : Int32) + (own_ends (0 : Int32) (own_pick p2)))), .val (.int (own_pick p2)), .unset] [(.int (1 : Int32)), (.int ((0 : Int32) + (own_ends (0 : Int32) (own_pick p2))))])) _
            refine XS.iadd X111.here hx rfl (hb hby at_156) rfl ?_
            show Steps p.tables e below (T111.setTop (mkF m 157 #[.val (.int p1), .val (.int p2), .val (.int p3), .val (.int p4), .val (.int p5), .val (.int (p1 &&& (3 : Int32))), .val (.int (own_pick p2)), .val (.int (own_pick p3)), .val (.int (own_pick p4)), .val (.int (own_pick p5)), .val (.ref b100), .val (.int ((0 : Int32) + (own_ends (0 : Int32) (own_pick p2)))), .val (.int (own_pick p2)), .unset] [(.int (((0 : Int32) + (own_ends (0 : Int32) (own_pick p2))) + (1 : Int32)))])) _
            refine XS.istore X111.here hx rfl (hb hby at_157) rfl (l' := #[.val (.int p1), .val (.int p2), .val (.int p3), .val (.int p4), .val (.int p5), .val (.int (p1 &&& (3 : Int32))), .val (.int (own_pick p2)), .val (.int (own_pick p3)), .val (.int (own_pick p4)), .val (.int (own_pick p5)), .val (.ref b100), .val (.int ((0 : Int32) + (own_ends (0 : Int32) (own_pick p2)))), .val (.int (own_pick p2)), .val (.int (((0 : Int32) + (own_ends (0 : Int32) (own_pick p2))) + (1 : Int32)))]) rfl ?_
            show Steps p.tables e below (T111.setTop (mkF m 159 #[.val (.int p1), .val (.int p2), .val (.int p3), .val (.int p4), .val (.int p5), .val (.int (p1 &&& (3 : Int32))), .val (.int (own_pick p2)), .val (.int (own_pick p3)), .val (.int (own_pick p4)), .val (.int (own_pick p5)), .val (.ref b100), .val (.int ((0 : Int32) + (own_ends (0 : Int32) (own_pick p2)))), .val (.int (own_pick p2)), .val (.int (((0 : Int32) + (own_ends (0 : Int32) (own_pick p2))) + (1 : Int32)))] [])) _
            refine XS.aload X111.here hx rfl (hb hby at_159) rfl rfl ?_
            show Steps p.tables e below (T111.setTop (mkF m 161 #[.val (.int p1), .val (.int p2), .val (.int p3), .val (.int p4), .val (.int p5), .val (.int (p1 &&& (3 : Int32))), .val (.int (own_pick p2)), .val (.int (own_pick p3)), .val (.int (own_pick p4)), .val (.int (own_pick p5)), .val (.ref b100), .val (.int ((0 : Int32) + (own_ends (0 : Int32) (own_pick p2)))), .val (.int (own_pick p2)), .val (.int (((0 : Int32) + (own_ends (0 : Int32) (own_pick p2))) + (1 : Int32)))] [(.ref b100)])) _
            refine XS.iload X111.here hx rfl (hb hby at_161) rfl ?_
            show Steps p.tables e below (T111.setTop (mkF m 163 #[.val (.int p1), .val (.int p2), .val (.int p3), .val (.int p4), .val (.int p5), .val (.int (p1 &&& (3 : Int32))), .val (.int (own_pick p2)), .val (.int (own_pick p3)), .val (.int (own_pick p4)), .val (.int (own_pick p5)), .val (.ref b100), .val (.int ((0 : Int32) + (own_ends (0 : Int32) (own_pick p2)))), .val (.int (own_pick p2)), .val (.int (((0 : Int32) + (own_ends (0 : Int32) (own_pick p2))) + (1 : Int32)))] [(.int (own_pick p5)), (.ref b100)])) _
            refine st119.trans ?_
            show Steps p.tables e below (T119.setTop (mkF m 166 #[.val (.int p1), .val (.int p2), .val (.int p3), .val (.int p4), .val (.int p5), .val (.int (p1 &&& (3 : Int32))), .val (.int (own_pick p2)), .val (.int (own_pick p3)), .val (.int (own_pick p4)), .val (.int (own_pick p5)), .val (.ref b100), .val (.int ((0 : Int32) + (own_ends (0 : Int32) (own_pick p2)))), .val (.int (own_pick p2)), .val (.int (((0 : Int32) + (own_ends (0 : Int32) (own_pick p2))) + (1 : Int32)))] [(.int (own_lo (own_pick p5) (own_cx (own_pick p2) (0 : Int32) (0 : Int32)) (own_cr (own_pick p2))))])) _
            refine XS.iload X119.here hx rfl (hb hby at_166) rfl ?_
            show Steps p.tables e below (T119.setTop (mkF m 168 #[.val (.int p1), .val (.int p2), .val (.int p3), .val (.int p4), .val (.int p5), .val (.int (p1 &&& (3 : Int32))), .val (.int (own_pick p2)), .val (.int (own_pick p3)), .val (.int (own_pick p4)), .val (.int (own_pick p5)), .val (.ref b100), .val (.int ((0 : Int32) + (own_ends (0 : Int32) (own_pick p2)))), .val (.int (own_pick p2)), .val (.int (((0 : Int32) + (own_ends (0 : Int32) (own_pick p2))) + (1 : Int32)))] [(.int (((0 : Int32) + (own_ends (0 : Int32) (own_pick p2))) + (1 : Int32))), (.int (own_lo (own_pick p5) (own_cx (own_pick p2) (0 : Int32) (0 : Int32)) (own_cr (own_pick p2))))])) _
            refine XS.icmpNo X119.here hx rfl (hb hby at_168) rfl (teq (by simp only [own_last, own_more, own_one, if_pos hc136_115, if_neg hc143_117] : (own_lo (own_pick p5) (own_cx (own_pick p2) (0 : Int32) (0 : Int32)) (own_cr (own_pick p2))) = (((0 : Int32) + (own_ends (0 : Int32) (own_pick p2))) + (1 : Int32)))).2 ?_
            show Steps p.tables e below (T119.setTop (mkF m 171 #[.val (.int p1), .val (.int p2), .val (.int p3), .val (.int p4), .val (.int p5), .val (.int (p1 &&& (3 : Int32))), .val (.int (own_pick p2)), .val (.int (own_pick p3)), .val (.int (own_pick p4)), .val (.int (own_pick p5)), .val (.ref b100), .val (.int ((0 : Int32) + (own_ends (0 : Int32) (own_pick p2)))), .val (.int (own_pick p2)), .val (.int (((0 : Int32) + (own_ends (0 : Int32) (own_pick p2))) + (1 : Int32)))] [])) _
            refine XS.iconst X119.here hx rfl (hb hby at_171) ?_
            show Steps p.tables e below (T119.setTop (mkF m 172 #[.val (.int p1), .val (.int p2), .val (.int p3), .val (.int p4), .val (.int p5), .val (.int (p1 &&& (3 : Int32))), .val (.int (own_pick p2)), .val (.int (own_pick p3)), .val (.int (own_pick p4)), .val (.int (own_pick p5)), .val (.ref b100), .val (.int ((0 : Int32) + (own_ends (0 : Int32) (own_pick p2)))), .val (.int (own_pick p2)), .val (.int (((0 : Int32) + (own_ends (0 : Int32) (own_pick p2))) + (1 : Int32)))] [(.int (1 : Int32))])) _
            refine XS.goto X119.here hx rfl (pc0 := 172) (pc' := 176) rfl (hb hby at_172) (by decide) (by decide) ?_
            show Steps p.tables e below (T119.setTop (mkF m 176 #[.val (.int p1), .val (.int p2), .val (.int p3), .val (.int p4), .val (.int p5), .val (.int (p1 &&& (3 : Int32))), .val (.int (own_pick p2)), .val (.int (own_pick p3)), .val (.int (own_pick p4)), .val (.int (own_pick p5)), .val (.ref b100), .val (.int ((0 : Int32) + (own_ends (0 : Int32) (own_pick p2)))), .val (.int (own_pick p2)), .val (.int (((0 : Int32) + (own_ends (0 : Int32) (own_pick p2))) + (1 : Int32)))] [(.int (1 : Int32))])) _
            exact retN X119 hx (t := .boolean) Bd.returns (by simp) (hb hby at_176) hr
          · show Q0 Z p1 p2 p3 p4 p5 h0 n0 _ T119.heap _
            rw [e119]
            exact ⟨rfl, N119⟩
      · obtain ⟨cq120, kq120, qa120, qb120, qc120⟩ := isOf hZ e111 po109_0
        obtain ⟨_, _, ⟨T120, L120, k120, n120⟩, -, X120, ⟨Lc120, hQ120, l120, y120, z120⟩, st120⟩ := X111.virtualBack hx (y := (⟨"com/example/urlset/urlset/read/LineCounter", "getXmlLineOf", "(I)I"⟩ : MethodName)) (z := (⟨"com/example/urlset/urlset/read/LineCounter", "getXmlLineOf", "(I)I"⟩ : MethodName)) hown (mvT hZ (hw _ (List.mem_of_getElem? (i := 13) rfl))) (mvT hZ (hw _ (List.mem_of_getElem? (i := 14) rfl))) (notFace_of_selects (args := #[]) (mvT hZ (hw _ (List.mem_of_getElem? (i := 16) rfl)))) (mvT hZ (hw _ (List.mem_of_getElem? (i := 16) rfl))) (mvT hZ (hw _ (List.mem_of_getElem? (i := 15) rfl))) (by decide) (backOf (W := 0) (rm4 l Z a0 hw [] b100 (own_pick p5) (own_cx (own_pick p2) (0 : Int32) (0 : Int32)) (own_cr (own_pick p2)) T109.heap n0 z110 po109_0 po109_1 po109_3) hZ (hw _ (List.mem_of_getElem? (i := 17) rfl)) (hw _ (List.mem_of_getElem? (i := 6) rfl)) (by decide) (by decide)) qa120 qc120 (g := (mkF m 163 #[.val (.int p1), .val (.int p2), .val (.int p3), .val (.int p4), .val (.int p5), .val (.int (p1 &&& (3 : Int32))), .val (.int (own_pick p2)), .val (.int (own_pick p3)), .val (.int (own_pick p4)), .val (.int (own_pick p5)), .val (.ref b100), .val (.int ((0 : Int32) + (own_ends (0 : Int32) (own_pick p2)))), .val (.int (own_pick p2)), .val (.int (((0 : Int32) + (own_ends (0 : Int32) (own_pick p2))) + (1 : Int32)))] [(.int (own_pick p5)), (.ref b100)])) rfl (by rw [hml]; rfl) (Steps.refl _) (argsL := [(.int (own_pick p5))]) (rest := []) (lenOf pd_0 rfl) rfl (by show 2 * 0 + _ ≤ _; exact Nat.le_of_eq rfl) (hb hby at_163) (fun _ _ => ⟨rfl, e111, (by decide : 1 + 0 ≤ _), (by decide : 3 + 0 ≤ _)⟩)
        dsimp only [Pt.U, Pt.locs, Pt.cells, Pt.slots] at X120 l120 y120 z120 st120 hQ120
        subst l120 y120 z120
        obtain ⟨rfl, Nq120, e120⟩ := hQ120
        have N120 := Fr.app N111 Nq120
        obtain ⟨fs, hr, hrun, hended, hW, hsame⟩ := X120.leave (v := some (.int (1 : Int32))) (fun h => by rw [Bd.returns] at h; cases h)
        refine ⟨_, _, pre114 _ ?_, hrun, hended, _, _, rfl, ?_, ⟨_, rfl⟩, hW, hsame.mono (by decide) (by decide)⟩
        · show Steps p.tables e below (T111.setTop (mkF m 136 #[.val (.int p1), .val (.int p2), .val (.int p3), .val (.int p4), .val (.int p5), .val (.int (p1 &&& (3 : Int32))), .val (.int (own_pick p2)), .val (.int (own_pick p3)), .val (.int (own_pick p4)), .val (.int (own_pick p5)), .val (.ref b100), .val (.int ((0 : Int32) + (own_ends (0 : Int32) (own_pick p2)))), .val (.int (own_pick p2)), .unset] [(.int (10 : Int32)), (.int (own_pick p5))])) _
          refine XS.icmpYes X111.here hx rfl (pc0 := 136) (pc' := 153) rfl (hb hby at_136) rfl (feq hc136_115).2 (by decide) (by decide) ?_
          show Steps p.tables e below (T111.setTop (mkF m 153 #[.val (.int p1), .val (.int p2), .val (.int p3), .val (.int p4), .val (.int p5), .val (.int (p1 &&& (3 : Int32))), .val (.int (own_pick p2)), .val (.int (own_pick p3)), .val (.int (own_pick p4)), .val (.int (own_pick p5)), .val (.ref b100), .val (.int ((0 : Int32) + (own_ends (0 : Int32) (own_pick p2)))), .val (.int (own_pick p2)), .unset] [])) _
          refine XS.iload X111.here hx rfl (hb hby at_153) rfl ?_
          show Steps p.tables e below (T111.setTop (mkF m 155 #[.val (.int p1), .val (.int p2), .val (.int p3), .val (.int p4), .val (.int p5), .val (.int (p1 &&& (3 : Int32))), .val (.int (own_pick p2)), .val (.int (own_pick p3)), .val (.int (own_pick p4)), .val (.int (own_pick p5)), .val (.ref b100), .val (.int ((0 : Int32) + (own_ends (0 : Int32) (own_pick p2)))), .val (.int (own_pick p2)), .unset] [(.int ((0 : Int32) + (own_ends (0 : Int32) (own_pick p2))))])) _
          refine XS.iconst X111.here hx rfl (hb hby at_155) ?_
          show Steps p.tables e below (T111.setTop (mkF m 156 #[.val (.int p1), .val (.int p2), .val (.int p3), .val (.int p4), .val (.int p5), .val (.int (p1 &&& (3 : Int32))), .val (.int (own_pick p2)), .val (.int (own_pick p3)), .val (.int (own_pick p4)), .val (.int (own_pick p5)), .val (.ref b100), .val (.int ((0 : Int32) + (own_ends (0 : Int32) (own_pick p2)))), .val (.int (own_pick p2)), .unset] [(.int (1 : Int32)), (.int ((0 : Int32) + (own_ends (0 : Int32) (own_pick p2))))])) _
          refine XS.iadd X111.here hx rfl (hb hby at_156) rfl ?_
          show Steps p.tables e below (T111.setTop (mkF m 157 #[.val (.int p1), .val (.int p2), .val (.int p3), .val (.int p4), .val (.int p5), .val (.int (p1 &&& (3 : Int32))), .val (.int (own_pick p2)), .val (.int (own_pick p3)), .val (.int (own_pick p4)), .val (.int (own_pick p5)), .val (.ref b100), .val (.int ((0 : Int32) + (own_ends (0 : Int32) (own_pick p2)))), .val (.int (own_pick p2)), .unset] [(.int (((0 : Int32) + (own_ends (0 : Int32) (own_pick p2))) + (1 : Int32)))])) _
          refine XS.istore X111.here hx rfl (hb hby at_157) rfl (l' := #[.val (.int p1), .val (.int p2), .val (.int p3), .val (.int p4), .val (.int p5), .val (.int (p1 &&& (3 : Int32))), .val (.int (own_pick p2)), .val (.int (own_pick p3)), .val (.int (own_pick p4)), .val (.int (own_pick p5)), .val (.ref b100), .val (.int ((0 : Int32) + (own_ends (0 : Int32) (own_pick p2)))), .val (.int (own_pick p2)), .val (.int (((0 : Int32) + (own_ends (0 : Int32) (own_pick p2))) + (1 : Int32)))]) rfl ?_
          show Steps p.tables e below (T111.setTop (mkF m 159 #[.val (.int p1), .val (.int p2), .val (.int p3), .val (.int p4), .val (.int p5), .val (.int (p1 &&& (3 : Int32))), .val (.int (own_pick p2)), .val (.int (own_pick p3)), .val (.int (own_pick p4)), .val (.int (own_pick p5)), .val (.ref b100), .val (.int ((0 : Int32) + (own_ends (0 : Int32) (own_pick p2)))), .val (.int (own_pick p2)), .val (.int (((0 : Int32) + (own_ends (0 : Int32) (own_pick p2))) + (1 : Int32)))] [])) _
          refine XS.aload X111.here hx rfl (hb hby at_159) rfl rfl ?_
          show Steps p.tables e below (T111.setTop (mkF m 161 #[.val (.int p1), .val (.int p2), .val (.int p3), .val (.int p4), .val (.int p5), .val (.int (p1 &&& (3 : Int32))), .val (.int (own_pick p2)), .val (.int (own_pick p3)), .val (.int (own_pick p4)), .val (.int (own_pick p5)), .val (.ref b100), .val (.int ((0 : Int32) + (own_ends (0 : Int32) (own_pick p2)))), .val (.int (own_pick p2)), .val (.int (((0 : Int32) + (own_ends (0 : Int32) (own_pick p2))) + (1 : Int32)))] [(.ref b100)])) _
          refine XS.iload X111.here hx rfl (hb hby at_161) rfl ?_
          show Steps p.tables e below (T111.setTop (mkF m 163 #[.val (.int p1), .val (.int p2), .val (.int p3), .val (.int p4), .val (.int p5), .val (.int (p1 &&& (3 : Int32))), .val (.int (own_pick p2)), .val (.int (own_pick p3)), .val (.int (own_pick p4)), .val (.int (own_pick p5)), .val (.ref b100), .val (.int ((0 : Int32) + (own_ends (0 : Int32) (own_pick p2)))), .val (.int (own_pick p2)), .val (.int (((0 : Int32) + (own_ends (0 : Int32) (own_pick p2))) + (1 : Int32)))] [(.int (own_pick p5)), (.ref b100)])) _
          refine st120.trans ?_
          show Steps p.tables e below (T120.setTop (mkF m 166 #[.val (.int p1), .val (.int p2), .val (.int p3), .val (.int p4), .val (.int p5), .val (.int (p1 &&& (3 : Int32))), .val (.int (own_pick p2)), .val (.int (own_pick p3)), .val (.int (own_pick p4)), .val (.int (own_pick p5)), .val (.ref b100), .val (.int ((0 : Int32) + (own_ends (0 : Int32) (own_pick p2)))), .val (.int (own_pick p2)), .val (.int (((0 : Int32) + (own_ends (0 : Int32) (own_pick p2))) + (1 : Int32)))] [(.int (own_lo (own_pick p5) (own_cx (own_pick p2) (0 : Int32) (0 : Int32)) (own_cr (own_pick p2))))])) _
          refine XS.iload X120.here hx rfl (hb hby at_166) rfl ?_
          show Steps p.tables e below (T120.setTop (mkF m 168 #[.val (.int p1), .val (.int p2), .val (.int p3), .val (.int p4), .val (.int p5), .val (.int (p1 &&& (3 : Int32))), .val (.int (own_pick p2)), .val (.int (own_pick p3)), .val (.int (own_pick p4)), .val (.int (own_pick p5)), .val (.ref b100), .val (.int ((0 : Int32) + (own_ends (0 : Int32) (own_pick p2)))), .val (.int (own_pick p2)), .val (.int (((0 : Int32) + (own_ends (0 : Int32) (own_pick p2))) + (1 : Int32)))] [(.int (((0 : Int32) + (own_ends (0 : Int32) (own_pick p2))) + (1 : Int32))), (.int (own_lo (own_pick p5) (own_cx (own_pick p2) (0 : Int32) (0 : Int32)) (own_cr (own_pick p2))))])) _
          refine XS.icmpNo X120.here hx rfl (hb hby at_168) rfl (teq (by simp only [own_last, own_more, own_one, if_neg hc136_115] : (own_lo (own_pick p5) (own_cx (own_pick p2) (0 : Int32) (0 : Int32)) (own_cr (own_pick p2))) = (((0 : Int32) + (own_ends (0 : Int32) (own_pick p2))) + (1 : Int32)))).2 ?_
          show Steps p.tables e below (T120.setTop (mkF m 171 #[.val (.int p1), .val (.int p2), .val (.int p3), .val (.int p4), .val (.int p5), .val (.int (p1 &&& (3 : Int32))), .val (.int (own_pick p2)), .val (.int (own_pick p3)), .val (.int (own_pick p4)), .val (.int (own_pick p5)), .val (.ref b100), .val (.int ((0 : Int32) + (own_ends (0 : Int32) (own_pick p2)))), .val (.int (own_pick p2)), .val (.int (((0 : Int32) + (own_ends (0 : Int32) (own_pick p2))) + (1 : Int32)))] [])) _
          refine XS.iconst X120.here hx rfl (hb hby at_171) ?_
          show Steps p.tables e below (T120.setTop (mkF m 172 #[.val (.int p1), .val (.int p2), .val (.int p3), .val (.int p4), .val (.int p5), .val (.int (p1 &&& (3 : Int32))), .val (.int (own_pick p2)), .val (.int (own_pick p3)), .val (.int (own_pick p4)), .val (.int (own_pick p5)), .val (.ref b100), .val (.int ((0 : Int32) + (own_ends (0 : Int32) (own_pick p2)))), .val (.int (own_pick p2)), .val (.int (((0 : Int32) + (own_ends (0 : Int32) (own_pick p2))) + (1 : Int32)))] [(.int (1 : Int32))])) _
          refine XS.goto X120.here hx rfl (pc0 := 172) (pc' := 176) rfl (hb hby at_172) (by decide) (by decide) ?_
          show Steps p.tables e below (T120.setTop (mkF m 176 #[.val (.int p1), .val (.int p2), .val (.int p3), .val (.int p4), .val (.int p5), .val (.int (p1 &&& (3 : Int32))), .val (.int (own_pick p2)), .val (.int (own_pick p3)), .val (.int (own_pick p4)), .val (.int (own_pick p5)), .val (.ref b100), .val (.int ((0 : Int32) + (own_ends (0 : Int32) (own_pick p2)))), .val (.int (own_pick p2)), .val (.int (((0 : Int32) + (own_ends (0 : Int32) (own_pick p2))) + (1 : Int32)))] [(.int (1 : Int32))])) _
          exact retN X120 hx (t := .boolean) Bd.returns (by simp) (hb hby at_176) hr
        · show Q0 Z p1 p2 p3 p4 p5 h0 n0 _ T120.heap _
          rw [e120]
          exact ⟨rfl, N120⟩
    · obtain ⟨cq121, kq121, qa121, qb121, qc121⟩ := isOf hZ e111 po109_0
      obtain ⟨_, _, ⟨T121, L121, k121, n121⟩, -, X121, ⟨Lc121, hQ121, l121, y121, z121⟩, st121⟩ := X111.virtualBack hx (y := (⟨"com/example/urlset/urlset/read/LineCounter", "count", "(I)V"⟩ : MethodName)) (z := (⟨"com/example/urlset/urlset/read/LineCounter", "count", "(I)V"⟩ : MethodName)) hown (mvT hZ (hw _ (List.mem_of_getElem? (i := 20) rfl))) (mvT hZ (hw _ (List.mem_of_getElem? (i := 21) rfl))) (notFace_of_selects (args := #[]) (mvT hZ (hw _ (List.mem_of_getElem? (i := 23) rfl)))) (mvT hZ (hw _ (List.mem_of_getElem? (i := 23) rfl))) (mvT hZ (hw _ (List.mem_of_getElem? (i := 22) rfl))) (by decide) (backOf (W := 0) (rm5 l Z a0 hw [] b100 (own_pick p3) (own_cx (own_pick p2) (0 : Int32) (0 : Int32)) (own_ct (own_pick p2) (0 : Int32)) (own_cr (own_pick p2)) T109.heap n0 z110 po109_0 po109_1 po109_2 po109_3 g_b100) hZ (hw _ (List.mem_of_getElem? (i := 24) rfl)) (hw _ (List.mem_of_getElem? (i := 6) rfl)) (by decide) (by decide)) qa121 qc121 (g := (mkF m 84 #[.val (.int p1), .val (.int p2), .val (.int p3), .val (.int p4), .val (.int p5), .val (.int (p1 &&& (3 : Int32))), .val (.int (own_pick p2)), .val (.int (own_pick p3)), .val (.int (own_pick p4)), .val (.int (own_pick p5)), .val (.ref b100), .val (.int ((0 : Int32) + (own_ends (0 : Int32) (own_pick p2)))), .val (.int (own_pick p2)), .unset] [(.int (own_pick p3)), (.ref b100)])) rfl (by rw [hml]; rfl) (Steps.refl _) (argsL := [(.int (own_pick p3))]) (rest := []) (lenOf pd_2 rfl) rfl (by show 2 * 0 + _ ≤ _; exact Nat.le_of_eq rfl) (hb hby at_84) (fun _ _ => ⟨rfl, e111, (by decide : 1 + 0 ≤ _), (by decide : 3 + 0 ≤ _)⟩)
      dsimp only [Pt.U, Pt.locs, Pt.cells, Pt.slots] at X121 l121 y121 z121 st121 hQ121
      subst l121 y121 z121
      obtain ⟨rfl, Nq121, K121, po121_0, po121_1, po121_2, po121_3⟩ := hQ121
      have z122 : n0 ≤ T121.heap.size := Nat.le_trans z110 K121.1
      have N121 := Fr.app N111 Nq121
      obtain ⟨_, _, ⟨T123, L123, k123, n123⟩, -, X123, ⟨Lc123, hQ123, l123, y123, z123⟩, st123⟩ := Jvm.LawKit.callS X121 hx (y := (⟨"com/example/urlset/urlset/read/LineCounterGetXmlLineOfPinLaw", "ends", "(II)I"⟩ : MethodName)) hown (mvT hZ (hw _ (List.mem_of_getElem? (i := 29) rfl))) (mvT hZ (hw _ (List.mem_of_getElem? (i := 30) rfl))) (mvT hZ (hw _ (List.mem_of_getElem? (i := 2) rfl))) (mvT hZ (hw _ (List.mem_of_getElem? (i := 31) rfl))) (by decide) (backOf (W := 1) (rm6 l Z a0 hw [] (own_pick p2) (own_pick p3) T121.heap n0 z122 ) hZ (hw _ (List.mem_of_getElem? (i := 31) rfl)) (hw _ (List.mem_of_getElem? (i := 2) rfl)) (by decide) (by decide)) (g := (mkF m 93 #[.val (.int p1), .val (.int p2), .val (.int p3), .val (.int p4), .val (.int p5), .val (.int (p1 &&& (3 : Int32))), .val (.int (own_pick p2)), .val (.int (own_pick p3)), .val (.int (own_pick p4)), .val (.int (own_pick p5)), .val (.ref b100), .val (.int ((0 : Int32) + (own_ends (0 : Int32) (own_pick p2)))), .val (.int (own_pick p2)), .unset] [(.int (own_pick p3)), (.int (own_pick p2)), (.int ((0 : Int32) + (own_ends (0 : Int32) (own_pick p2))))])) rfl (by rw [hml]; rfl) (argsL := [(.int (own_pick p2)), (.int (own_pick p3))]) (rest := [(.int ((0 : Int32) + (own_ends (0 : Int32) (own_pick p2))))]) (lenOf pd_3 rfl) rfl (by show 2 * 0 + _ ≤ _; exact Nat.le_of_eq rfl) (hb hby at_93) (fun _ _ => ⟨rfl, rfl, (by decide : 1 + 0 ≤ _), (by decide : 3 + 0 ≤ _)⟩)
      dsimp only [Pt.U, Pt.locs, Pt.cells, Pt.slots] at X123 l123 y123 z123 st123 hQ123
      subst l123 y123 z123
      obtain ⟨rfl, Nq123, e123⟩ := hQ123
      have N123 := Fr.app N121 Nq123
      have pre124 : ∀ t, Steps p.tables e below (T123.setTop (mkF m 106 #[.val (.int p1), .val (.int p2), .val (.int p3), .val (.int p4), .val (.int p5), .val (.int (p1 &&& (3 : Int32))), .val (.int (own_pick p2)), .val (.int (own_pick p3)), .val (.int (own_pick p4)), .val (.int (own_pick p5)), .val (.ref b100), .val (.int (((0 : Int32) + (own_ends (0 : Int32) (own_pick p2))) + (own_ends (own_pick p2) (own_pick p3)))), .val (.int (own_pick p3)), .unset] [(.int (3 : Int32)), (.int (p1 &&& (3 : Int32)))])) t → Steps p.tables e below (s₁.setTop (entryFrame m #[(.int p1), (.int p2), (.int p3), (.int p4), (.int p5)] maxLocals)) t := fun t k => pre112 t (by
          show Steps p.tables e below (T111.setTop (mkF m 77 #[.val (.int p1), .val (.int p2), .val (.int p3), .val (.int p4), .val (.int p5), .val (.int (p1 &&& (3 : Int32))), .val (.int (own_pick p2)), .val (.int (own_pick p3)), .val (.int (own_pick p4)), .val (.int (own_pick p5)), .val (.ref b100), .val (.int ((0 : Int32) + (own_ends (0 : Int32) (own_pick p2)))), .val (.int (own_pick p2)), .unset] [(.int (2 : Int32)), (.int (p1 &&& (3 : Int32)))])) _
          refine XS.icmpNo X111.here hx rfl (hb hby at_77) rfl (flt hc77_113).1 ?_
          show Steps p.tables e below (T111.setTop (mkF m 80 #[.val (.int p1), .val (.int p2), .val (.int p3), .val (.int p4), .val (.int p5), .val (.int (p1 &&& (3 : Int32))), .val (.int (own_pick p2)), .val (.int (own_pick p3)), .val (.int (own_pick p4)), .val (.int (own_pick p5)), .val (.ref b100), .val (.int ((0 : Int32) + (own_ends (0 : Int32) (own_pick p2)))), .val (.int (own_pick p2)), .unset] [])) _
          refine XS.aload X111.here hx rfl (hb hby at_80) rfl rfl ?_
          show Steps p.tables e below (T111.setTop (mkF m 82 #[.val (.int p1), .val (.int p2), .val (.int p3), .val (.int p4), .val (.int p5), .val (.int (p1 &&& (3 : Int32))), .val (.int (own_pick p2)), .val (.int (own_pick p3)), .val (.int (own_pick p4)), .val (.int (own_pick p5)), .val (.ref b100), .val (.int ((0 : Int32) + (own_ends (0 : Int32) (own_pick p2)))), .val (.int (own_pick p2)), .unset] [(.ref b100)])) _
          refine XS.iload X111.here hx rfl (hb hby at_82) rfl ?_
          show Steps p.tables e below (T111.setTop (mkF m 84 #[.val (.int p1), .val (.int p2), .val (.int p3), .val (.int p4), .val (.int p5), .val (.int (p1 &&& (3 : Int32))), .val (.int (own_pick p2)), .val (.int (own_pick p3)), .val (.int (own_pick p4)), .val (.int (own_pick p5)), .val (.ref b100), .val (.int ((0 : Int32) + (own_ends (0 : Int32) (own_pick p2)))), .val (.int (own_pick p2)), .unset] [(.int (own_pick p3)), (.ref b100)])) _
          refine st121.trans ?_
          show Steps p.tables e below (T121.setTop (mkF m 87 #[.val (.int p1), .val (.int p2), .val (.int p3), .val (.int p4), .val (.int p5), .val (.int (p1 &&& (3 : Int32))), .val (.int (own_pick p2)), .val (.int (own_pick p3)), .val (.int (own_pick p4)), .val (.int (own_pick p5)), .val (.ref b100), .val (.int ((0 : Int32) + (own_ends (0 : Int32) (own_pick p2)))), .val (.int (own_pick p2)), .unset] [])) _
          refine XS.iload X121.here hx rfl (hb hby at_87) rfl ?_
          show Steps p.tables e below (T121.setTop (mkF m 89 #[.val (.int p1), .val (.int p2), .val (.int p3), .val (.int p4), .val (.int p5), .val (.int (p1 &&& (3 : Int32))), .val (.int (own_pick p2)), .val (.int (own_pick p3)), .val (.int (own_pick p4)), .val (.int (own_pick p5)), .val (.ref b100), .val (.int ((0 : Int32) + (own_ends (0 : Int32) (own_pick p2)))), .val (.int (own_pick p2)), .unset] [(.int ((0 : Int32) + (own_ends (0 : Int32) (own_pick p2))))])) _
          refine XS.iload X121.here hx rfl (hb hby at_89) rfl ?_
          show Steps p.tables e below (T121.setTop (mkF m 91 #[.val (.int p1), .val (.int p2), .val (.int p3), .val (.int p4), .val (.int p5), .val (.int (p1 &&& (3 : Int32))), .val (.int (own_pick p2)), .val (.int (own_pick p3)), .val (.int (own_pick p4)), .val (.int (own_pick p5)), .val (.ref b100), .val (.int ((0 : Int32) + (own_ends (0 : Int32) (own_pick p2)))), .val (.int (own_pick p2)), .unset] [(.int (own_pick p2)), (.int ((0 : Int32) + (own_ends (0 : Int32) (own_pick p2))))])) _
          refine XS.iload X121.here hx rfl (hb hby at_91) rfl ?_
          show Steps p.tables e below (T121.setTop (mkF m 93 #[.val (.int p1), .val (.int p2), .val (.int p3), .val (.int p4), .val (.int p5), .val (.int (p1 &&& (3 : Int32))), .val (.int (own_pick p2)), .val (.int (own_pick p3)), .val (.int (own_pick p4)), .val (.int (own_pick p5)), .val (.ref b100), .val (.int ((0 : Int32) + (own_ends (0 : Int32) (own_pick p2)))), .val (.int (own_pick p2)), .unset] [(.int (own_pick p3)), (.int (own_pick p2)), (.int ((0 : Int32) + (own_ends (0 : Int32) (own_pick p2))))])) _
          refine st123 _ ?_
          show Steps p.tables e below (T123.setTop (mkF m 96 #[.val (.int p1), .val (.int p2), .val (.int p3), .val (.int p4), .val (.int p5), .val (.int (p1 &&& (3 : Int32))), .val (.int (own_pick p2)), .val (.int (own_pick p3)), .val (.int (own_pick p4)), .val (.int (own_pick p5)), .val (.ref b100), .val (.int ((0 : Int32) + (own_ends (0 : Int32) (own_pick p2)))), .val (.int (own_pick p2)), .unset] [(.int (own_ends (own_pick p2) (own_pick p3))), (.int ((0 : Int32) + (own_ends (0 : Int32) (own_pick p2))))])) _
          refine XS.iadd X123.here hx rfl (hb hby at_96) rfl ?_
          show Steps p.tables e below (T123.setTop (mkF m 97 #[.val (.int p1), .val (.int p2), .val (.int p3), .val (.int p4), .val (.int p5), .val (.int (p1 &&& (3 : Int32))), .val (.int (own_pick p2)), .val (.int (own_pick p3)), .val (.int (own_pick p4)), .val (.int (own_pick p5)), .val (.ref b100), .val (.int ((0 : Int32) + (own_ends (0 : Int32) (own_pick p2)))), .val (.int (own_pick p2)), .unset] [(.int (((0 : Int32) + (own_ends (0 : Int32) (own_pick p2))) + (own_ends (own_pick p2) (own_pick p3))))])) _
          refine XS.istore X123.here hx rfl (hb hby at_97) rfl (l' := #[.val (.int p1), .val (.int p2), .val (.int p3), .val (.int p4), .val (.int p5), .val (.int (p1 &&& (3 : Int32))), .val (.int (own_pick p2)), .val (.int (own_pick p3)), .val (.int (own_pick p4)), .val (.int (own_pick p5)), .val (.ref b100), .val (.int (((0 : Int32) + (own_ends (0 : Int32) (own_pick p2))) + (own_ends (own_pick p2) (own_pick p3)))), .val (.int (own_pick p2)), .unset]) rfl ?_
          show Steps p.tables e below (T123.setTop (mkF m 99 #[.val (.int p1), .val (.int p2), .val (.int p3), .val (.int p4), .val (.int p5), .val (.int (p1 &&& (3 : Int32))), .val (.int (own_pick p2)), .val (.int (own_pick p3)), .val (.int (own_pick p4)), .val (.int (own_pick p5)), .val (.ref b100), .val (.int (((0 : Int32) + (own_ends (0 : Int32) (own_pick p2))) + (own_ends (own_pick p2) (own_pick p3)))), .val (.int (own_pick p2)), .unset] [])) _
          refine XS.iload X123.here hx rfl (hb hby at_99) rfl ?_
          show Steps p.tables e below (T123.setTop (mkF m 101 #[.val (.int p1), .val (.int p2), .val (.int p3), .val (.int p4), .val (.int p5), .val (.int (p1 &&& (3 : Int32))), .val (.int (own_pick p2)), .val (.int (own_pick p3)), .val (.int (own_pick p4)), .val (.int (own_pick p5)), .val (.ref b100), .val (.int (((0 : Int32) + (own_ends (0 : Int32) (own_pick p2))) + (own_ends (own_pick p2) (own_pick p3)))), .val (.int (own_pick p2)), .unset] [(.int (own_pick p3))])) _
          refine XS.istore X123.here hx rfl (hb hby at_101) rfl (l' := #[.val (.int p1), .val (.int p2), .val (.int p3), .val (.int p4), .val (.int p5), .val (.int (p1 &&& (3 : Int32))), .val (.int (own_pick p2)), .val (.int (own_pick p3)), .val (.int (own_pick p4)), .val (.int (own_pick p5)), .val (.ref b100), .val (.int (((0 : Int32) + (own_ends (0 : Int32) (own_pick p2))) + (own_ends (own_pick p2) (own_pick p3)))), .val (.int (own_pick p3)), .unset]) rfl ?_
          show Steps p.tables e below (T123.setTop (mkF m 103 #[.val (.int p1), .val (.int p2), .val (.int p3), .val (.int p4), .val (.int p5), .val (.int (p1 &&& (3 : Int32))), .val (.int (own_pick p2)), .val (.int (own_pick p3)), .val (.int (own_pick p4)), .val (.int (own_pick p5)), .val (.ref b100), .val (.int (((0 : Int32) + (own_ends (0 : Int32) (own_pick p2))) + (own_ends (own_pick p2) (own_pick p3)))), .val (.int (own_pick p3)), .unset] [])) _
          refine XS.iload X123.here hx rfl (hb hby at_103) rfl ?_
          show Steps p.tables e below (T123.setTop (mkF m 105 #[.val (.int p1), .val (.int p2), .val (.int p3), .val (.int p4), .val (.int p5), .val (.int (p1 &&& (3 : Int32))), .val (.int (own_pick p2)), .val (.int (own_pick p3)), .val (.int (own_pick p4)), .val (.int (own_pick p5)), .val (.ref b100), .val (.int (((0 : Int32) + (own_ends (0 : Int32) (own_pick p2))) + (own_ends (own_pick p2) (own_pick p3)))), .val (.int (own_pick p3)), .unset] [(.int (p1 &&& (3 : Int32)))])) _
          refine XS.iconst X123.here hx rfl (hb hby at_105) ?_
          exact k)
      by_cases hc106_125 : (p1 &&& (3 : Int32)) < (3 : Int32)
      · have pre126 : ∀ t, Steps p.tables e below (T123.setTop (mkF m 136 #[.val (.int p1), .val (.int p2), .val (.int p3), .val (.int p4), .val (.int p5), .val (.int (p1 &&& (3 : Int32))), .val (.int (own_pick p2)), .val (.int (own_pick p3)), .val (.int (own_pick p4)), .val (.int (own_pick p5)), .val (.ref b100), .val (.int (((0 : Int32) + (own_ends (0 : Int32) (own_pick p2))) + (own_ends (own_pick p2) (own_pick p3)))), .val (.int (own_pick p3)), .unset] [(.int (10 : Int32)), (.int (own_pick p5))])) t → Steps p.tables e below (s₁.setTop (entryFrame m #[(.int p1), (.int p2), (.int p3), (.int p4), (.int p5)] maxLocals)) t := fun t k => pre124 t (by
            show Steps p.tables e below (T123.setTop (mkF m 106 #[.val (.int p1), .val (.int p2), .val (.int p3), .val (.int p4), .val (.int p5), .val (.int (p1 &&& (3 : Int32))), .val (.int (own_pick p2)), .val (.int (own_pick p3)), .val (.int (own_pick p4)), .val (.int (own_pick p5)), .val (.ref b100), .val (.int (((0 : Int32) + (own_ends (0 : Int32) (own_pick p2))) + (own_ends (own_pick p2) (own_pick p3)))), .val (.int (own_pick p3)), .unset] [(.int (3 : Int32)), (.int (p1 &&& (3 : Int32)))])) _
            refine XS.icmpYes X123.here hx rfl (pc0 := 106) (pc' := 132) rfl (hb hby at_106) rfl (tlt hc106_125).1 (by decide) (by decide) ?_
            show Steps p.tables e below (T123.setTop (mkF m 132 #[.val (.int p1), .val (.int p2), .val (.int p3), .val (.int p4), .val (.int p5), .val (.int (p1 &&& (3 : Int32))), .val (.int (own_pick p2)), .val (.int (own_pick p3)), .val (.int (own_pick p4)), .val (.int (own_pick p5)), .val (.ref b100), .val (.int (((0 : Int32) + (own_ends (0 : Int32) (own_pick p2))) + (own_ends (own_pick p2) (own_pick p3)))), .val (.int (own_pick p3)), .unset] [])) _
            refine XS.iload X123.here hx rfl (hb hby at_132) rfl ?_
            show Steps p.tables e below (T123.setTop (mkF m 134 #[.val (.int p1), .val (.int p2), .val (.int p3), .val (.int p4), .val (.int p5), .val (.int (p1 &&& (3 : Int32))), .val (.int (own_pick p2)), .val (.int (own_pick p3)), .val (.int (own_pick p4)), .val (.int (own_pick p5)), .val (.ref b100), .val (.int (((0 : Int32) + (own_ends (0 : Int32) (own_pick p2))) + (own_ends (own_pick p2) (own_pick p3)))), .val (.int (own_pick p3)), .unset] [(.int (own_pick p5))])) _
            refine XS.bipush X123.here hx rfl (hb hby at_134) ?_
            exact k)
        by_cases hc136_127 : (own_pick p5) = (10 : Int32)
        · have pre128 : ∀ t, Steps p.tables e below (T123.setTop (mkF m 143 #[.val (.int p1), .val (.int p2), .val (.int p3), .val (.int p4), .val (.int p5), .val (.int (p1 &&& (3 : Int32))), .val (.int (own_pick p2)), .val (.int (own_pick p3)), .val (.int (own_pick p4)), .val (.int (own_pick p5)), .val (.ref b100), .val (.int (((0 : Int32) + (own_ends (0 : Int32) (own_pick p2))) + (own_ends (own_pick p2) (own_pick p3)))), .val (.int (own_pick p3)), .unset] [(.int (13 : Int32)), (.int (own_pick p3))])) t → Steps p.tables e below (s₁.setTop (entryFrame m #[(.int p1), (.int p2), (.int p3), (.int p4), (.int p5)] maxLocals)) t := fun t k => pre126 t (by
              show Steps p.tables e below (T123.setTop (mkF m 136 #[.val (.int p1), .val (.int p2), .val (.int p3), .val (.int p4), .val (.int p5), .val (.int (p1 &&& (3 : Int32))), .val (.int (own_pick p2)), .val (.int (own_pick p3)), .val (.int (own_pick p4)), .val (.int (own_pick p5)), .val (.ref b100), .val (.int (((0 : Int32) + (own_ends (0 : Int32) (own_pick p2))) + (own_ends (own_pick p2) (own_pick p3)))), .val (.int (own_pick p3)), .unset] [(.int (10 : Int32)), (.int (own_pick p5))])) _
              refine XS.icmpNo X123.here hx rfl (hb hby at_136) rfl (teq hc136_127).2 ?_
              show Steps p.tables e below (T123.setTop (mkF m 139 #[.val (.int p1), .val (.int p2), .val (.int p3), .val (.int p4), .val (.int p5), .val (.int (p1 &&& (3 : Int32))), .val (.int (own_pick p2)), .val (.int (own_pick p3)), .val (.int (own_pick p4)), .val (.int (own_pick p5)), .val (.ref b100), .val (.int (((0 : Int32) + (own_ends (0 : Int32) (own_pick p2))) + (own_ends (own_pick p2) (own_pick p3)))), .val (.int (own_pick p3)), .unset] [])) _
              refine XS.iload X123.here hx rfl (hb hby at_139) rfl ?_
              show Steps p.tables e below (T123.setTop (mkF m 141 #[.val (.int p1), .val (.int p2), .val (.int p3), .val (.int p4), .val (.int p5), .val (.int (p1 &&& (3 : Int32))), .val (.int (own_pick p2)), .val (.int (own_pick p3)), .val (.int (own_pick p4)), .val (.int (own_pick p5)), .val (.ref b100), .val (.int (((0 : Int32) + (own_ends (0 : Int32) (own_pick p2))) + (own_ends (own_pick p2) (own_pick p3)))), .val (.int (own_pick p3)), .unset] [(.int (own_pick p3))])) _
              refine XS.bipush X123.here hx rfl (hb hby at_141) ?_
              exact k)
          by_cases hc143_129 : (own_pick p3) = (13 : Int32)
          · obtain ⟨cq130, kq130, qa130, qb130, qc130⟩ := isOf hZ e123 po121_0
            obtain ⟨_, _, ⟨T130, L130, k130, n130⟩, -, X130, ⟨Lc130, hQ130, l130, y130, z130⟩, st130⟩ := X123.virtualBack hx (y := (⟨"com/example/urlset/urlset/read/LineCounter", "getXmlLineOf", "(I)I"⟩ : MethodName)) (z := (⟨"com/example/urlset/urlset/read/LineCounter", "getXmlLineOf", "(I)I"⟩ : MethodName)) hown (mvT hZ (hw _ (List.mem_of_getElem? (i := 13) rfl))) (mvT hZ (hw _ (List.mem_of_getElem? (i := 14) rfl))) (notFace_of_selects (args := #[]) (mvT hZ (hw _ (List.mem_of_getElem? (i := 16) rfl)))) (mvT hZ (hw _ (List.mem_of_getElem? (i := 16) rfl))) (mvT hZ (hw _ (List.mem_of_getElem? (i := 15) rfl))) (by decide) (backOf (W := 0) (rm4 l Z a0 hw [] b100 (own_pick p5) (own_cx (own_pick p3) (own_cx (own_pick p2) (0 : Int32) (0 : Int32)) (own_cr (own_pick p2))) (own_cr (own_pick p3)) T121.heap n0 z122 po121_0 po121_1 po121_3) hZ (hw _ (List.mem_of_getElem? (i := 17) rfl)) (hw _ (List.mem_of_getElem? (i := 6) rfl)) (by decide) (by decide)) qa130 qc130 (g := (mkF m 163 #[.val (.int p1), .val (.int p2), .val (.int p3), .val (.int p4), .val (.int p5), .val (.int (p1 &&& (3 : Int32))), .val (.int (own_pick p2)), .val (.int (own_pick p3)), .val (.int (own_pick p4)), .val (.int (own_pick p5)), .val (.ref b100), .val (.int (((0 : Int32) + (own_ends (0 : Int32) (own_pick p2))) + (own_ends (own_pick p2) (own_pick p3)))), .val (.int (own_pick p3)), .val (.int (((0 : Int32) + (own_ends (0 : Int32) (own_pick p2))) + (own_ends (own_pick p2) (own_pick p3))))] [(.int (own_pick p5)), (.ref b100)])) rfl (by rw [hml]; rfl) (Steps.refl _) (argsL := [(.int (own_pick p5))]) (rest := []) (lenOf pd_0 rfl) rfl (by show 2 * 0 + _ ≤ _; exact Nat.le_of_eq rfl) (hb hby at_163) (fun _ _ => ⟨rfl, e123, (by decide : 1 + 0 ≤ _), (by decide : 3 + 0 ≤ _)⟩)
            dsimp only [Pt.U, Pt.locs, Pt.cells, Pt.slots] at X130 l130 y130 z130 st130 hQ130
            subst l130 y130 z130
            obtain ⟨rfl, Nq130, e130⟩ := hQ130
            have N130 := Fr.app N123 Nq130
            obtain ⟨fs, hr, hrun, hended, hW, hsame⟩ := X130.leave (v := some (.int (1 : Int32))) (fun h => by rw [Bd.returns] at h; cases h)
            refine ⟨_, _, pre128 _ ?_, hrun, hended, _, _, rfl, ?_, ⟨_, rfl⟩, hW, hsame.mono (by decide) (by decide)⟩
            · show Steps p.tables e below (T123.setTop (mkF m 143 #[.val (.int p1), .val (.int p2), .val (.int p3), .val (.int p4), .val (.int p5), .val (.int (p1 &&& (3 : Int32))), .val (.int (own_pick p2)), .val (.int (own_pick p3)), .val (.int (own_pick p4)), .val (.int (own_pick p5)), .val (.ref b100), .val (.int (((0 : Int32) + (own_ends (0 : Int32) (own_pick p2))) + (own_ends (own_pick p2) (own_pick p3)))), .val (.int (own_pick p3)), .unset] [(.int (13 : Int32)), (.int (own_pick p3))])) _
              refine XS.icmpNo X123.here hx rfl (hb hby at_143) rfl (teq hc143_129).2 ?_
              show Steps p.tables e below (T123.setTop (mkF m 146 #[.val (.int p1), .val (.int p2), .val (.int p3), .val (.int p4), .val (.int p5), .val (.int (p1 &&& (3 : Int32))), .val (.int (own_pick p2)), .val (.int (own_pick p3)), .val (.int (own_pick p4)), .val (.int (own_pick p5)), .val (.ref b100), .val (.int (((0 : Int32) + (own_ends (0 : Int32) (own_pick p2))) + (own_ends (own_pick p2) (own_pick p3)))), .val (.int (own_pick p3)), .unset] [])) _
              refine XS.iload X123.here hx rfl (hb hby at_146) rfl ?_
              show Steps p.tables e below (T123.setTop (mkF m 148 #[.val (.int p1), .val (.int p2), .val (.int p3), .val (.int p4), .val (.int p5), .val (.int (p1 &&& (3 : Int32))), .val (.int (own_pick p2)), .val (.int (own_pick p3)), .val (.int (own_pick p4)), .val (.int (own_pick p5)), .val (.ref b100), .val (.int (((0 : Int32) + (own_ends (0 : Int32) (own_pick p2))) + (own_ends (own_pick p2) (own_pick p3)))), .val (.int (own_pick p3)), .unset] [(.int (((0 : Int32) + (own_ends (0 : Int32) (own_pick p2))) + (own_ends (own_pick p2) (own_pick p3))))])) _
              refine XS.istore X123.here hx rfl (hb hby at_148) rfl (l' := #[.val (.int p1), .val (.int p2), .val (.int p3), .val (.int p4), .val (.int p5), .val (.int (p1 &&& (3 : Int32))), .val (.int (own_pick p2)), .val (.int (own_pick p3)), .val (.int (own_pick p4)), .val (.int (own_pick p5)), .val (.ref b100), .val (.int (((0 : Int32) + (own_ends (0 : Int32) (own_pick p2))) + (own_ends (own_pick p2) (own_pick p3)))), .val (.int (own_pick p3)), .val (.int (((0 : Int32) + (own_ends (0 : Int32) (own_pick p2))) + (own_ends (own_pick p2) (own_pick p3))))]) rfl ?_
              show Steps p.tables e below (T123.setTop (mkF m 150 #[.val (.int p1), .val (.int p2), .val (.int p3), .val (.int p4), .val (.int p5), .val (.int (p1 &&& (3 : Int32))), .val (.int (own_pick p2)), .val (.int (own_pick p3)), .val (.int (own_pick p4)), .val (.int (own_pick p5)), .val (.ref b100), .val (.int (((0 : Int32) + (own_ends (0 : Int32) (own_pick p2))) + (own_ends (own_pick p2) (own_pick p3)))), .val (.int (own_pick p3)), .val (.int (((0 : Int32) + (own_ends (0 : Int32) (own_pick p2))) + (own_ends (own_pick p2) (own_pick p3))))] [])) _
              refine XS.goto X123.here hx rfl (pc0 := 150) (pc' := 159) rfl (hb hby at_150) (by decide) (by decide) ?_
              show Steps p.tables e below (T123.setTop (mkF m 159 #[.val (.int p1), .val (.int p2), .val (.int p3), .val (.int p4), .val (.int p5), .val (.int (p1 &&& (3 : Int32))), .val (.int (own_pick p2)), .val (.int (own_pick p3)), .val (.int (own_pick p4)), .val (.int (own_pick p5)), .val (.ref b100), .val (.int (((0 : Int32) + (own_ends (0 : Int32) (own_pick p2))) + (own_ends (own_pick p2) (own_pick p3)))), .val (.int (own_pick p3)), .val (.int (((0 : Int32) + (own_ends (0 : Int32) (own_pick p2))) + (own_ends (own_pick p2) (own_pick p3))))] [])) _
              refine XS.aload X123.here hx rfl (hb hby at_159) rfl rfl ?_
              show Steps p.tables e below (T123.setTop (mkF m 161 #[.val (.int p1), .val (.int p2), .val (.int p3), .val (.int p4), .val (.int p5), .val (.int (p1 &&& (3 : Int32))), .val (.int (own_pick p2)), .val (.int (own_pick p3)), .val (.int (own_pick p4)), .val (.int (own_pick p5)), .val (.ref b100), .val (.int (((0 : Int32) + (own_ends (0 : Int32) (own_pick p2))) + (own_ends (own_pick p2) (own_pick p3)))), .val (.int (own_pick p3)), .val (.int (((0 : Int32) + (own_ends (0 : Int32) (own_pick p2))) + (own_ends (own_pick p2) (own_pick p3))))] [(.ref b100)])) _
              refine XS.iload X123.here hx rfl (hb hby at_161) rfl ?_
              show Steps p.tables e below (T123.setTop (mkF m 163 #[.val (.int p1), .val (.int p2), .val (.int p3), .val (.int p4), .val (.int p5), .val (.int (p1 &&& (3 : Int32))), .val (.int (own_pick p2)), .val (.int (own_pick p3)), .val (.int (own_pick p4)), .val (.int (own_pick p5)), .val (.ref b100), .val (.int (((0 : Int32) + (own_ends (0 : Int32) (own_pick p2))) + (own_ends (own_pick p2) (own_pick p3)))), .val (.int (own_pick p3)), .val (.int (((0 : Int32) + (own_ends (0 : Int32) (own_pick p2))) + (own_ends (own_pick p2) (own_pick p3))))] [(.int (own_pick p5)), (.ref b100)])) _
              refine st130.trans ?_
              show Steps p.tables e below (T130.setTop (mkF m 166 #[.val (.int p1), .val (.int p2), .val (.int p3), .val (.int p4), .val (.int p5), .val (.int (p1 &&& (3 : Int32))), .val (.int (own_pick p2)), .val (.int (own_pick p3)), .val (.int (own_pick p4)), .val (.int (own_pick p5)), .val (.ref b100), .val (.int (((0 : Int32) + (own_ends (0 : Int32) (own_pick p2))) + (own_ends (own_pick p2) (own_pick p3)))), .val (.int (own_pick p3)), .val (.int (((0 : Int32) + (own_ends (0 : Int32) (own_pick p2))) + (own_ends (own_pick p2) (own_pick p3))))] [(.int (own_lo (own_pick p5) (own_cx (own_pick p3) (own_cx (own_pick p2) (0 : Int32) (0 : Int32)) (own_cr (own_pick p2))) (own_cr (own_pick p3))))])) _
              refine XS.iload X130.here hx rfl (hb hby at_166) rfl ?_
              show Steps p.tables e below (T130.setTop (mkF m 168 #[.val (.int p1), .val (.int p2), .val (.int p3), .val (.int p4), .val (.int p5), .val (.int (p1 &&& (3 : Int32))), .val (.int (own_pick p2)), .val (.int (own_pick p3)), .val (.int (own_pick p4)), .val (.int (own_pick p5)), .val (.ref b100), .val (.int (((0 : Int32) + (own_ends (0 : Int32) (own_pick p2))) + (own_ends (own_pick p2) (own_pick p3)))), .val (.int (own_pick p3)), .val (.int (((0 : Int32) + (own_ends (0 : Int32) (own_pick p2))) + (own_ends (own_pick p2) (own_pick p3))))] [(.int (((0 : Int32) + (own_ends (0 : Int32) (own_pick p2))) + (own_ends (own_pick p2) (own_pick p3)))), (.int (own_lo (own_pick p5) (own_cx (own_pick p3) (own_cx (own_pick p2) (0 : Int32) (0 : Int32)) (own_cr (own_pick p2))) (own_cr (own_pick p3))))])) _
              refine XS.icmpNo X130.here hx rfl (hb hby at_168) rfl (teq (by simp only [own_last, own_more, own_one, if_pos hc136_127, if_pos hc143_129] : (own_lo (own_pick p5) (own_cx (own_pick p3) (own_cx (own_pick p2) (0 : Int32) (0 : Int32)) (own_cr (own_pick p2))) (own_cr (own_pick p3))) = (((0 : Int32) + (own_ends (0 : Int32) (own_pick p2))) + (own_ends (own_pick p2) (own_pick p3))))).2 ?_
              show Steps p.tables e below (T130.setTop (mkF m 171 #[.val (.int p1), .val (.int p2), .val (.int p3), .val (.int p4), .val (.int p5), .val (.int (p1 &&& (3 : Int32))), .val (.int (own_pick p2)), .val (.int (own_pick p3)), .val (.int (own_pick p4)), .val (.int (own_pick p5)), .val (.ref b100), .val (.int (((0 : Int32) + (own_ends (0 : Int32) (own_pick p2))) + (own_ends (own_pick p2) (own_pick p3)))), .val (.int (own_pick p3)), .val (.int (((0 : Int32) + (own_ends (0 : Int32) (own_pick p2))) + (own_ends (own_pick p2) (own_pick p3))))] [])) _
              refine XS.iconst X130.here hx rfl (hb hby at_171) ?_
              show Steps p.tables e below (T130.setTop (mkF m 172 #[.val (.int p1), .val (.int p2), .val (.int p3), .val (.int p4), .val (.int p5), .val (.int (p1 &&& (3 : Int32))), .val (.int (own_pick p2)), .val (.int (own_pick p3)), .val (.int (own_pick p4)), .val (.int (own_pick p5)), .val (.ref b100), .val (.int (((0 : Int32) + (own_ends (0 : Int32) (own_pick p2))) + (own_ends (own_pick p2) (own_pick p3)))), .val (.int (own_pick p3)), .val (.int (((0 : Int32) + (own_ends (0 : Int32) (own_pick p2))) + (own_ends (own_pick p2) (own_pick p3))))] [(.int (1 : Int32))])) _
              refine XS.goto X130.here hx rfl (pc0 := 172) (pc' := 176) rfl (hb hby at_172) (by decide) (by decide) ?_
              show Steps p.tables e below (T130.setTop (mkF m 176 #[.val (.int p1), .val (.int p2), .val (.int p3), .val (.int p4), .val (.int p5), .val (.int (p1 &&& (3 : Int32))), .val (.int (own_pick p2)), .val (.int (own_pick p3)), .val (.int (own_pick p4)), .val (.int (own_pick p5)), .val (.ref b100), .val (.int (((0 : Int32) + (own_ends (0 : Int32) (own_pick p2))) + (own_ends (own_pick p2) (own_pick p3)))), .val (.int (own_pick p3)), .val (.int (((0 : Int32) + (own_ends (0 : Int32) (own_pick p2))) + (own_ends (own_pick p2) (own_pick p3))))] [(.int (1 : Int32))])) _
              exact retN X130 hx (t := .boolean) Bd.returns (by simp) (hb hby at_176) hr
            · show Q0 Z p1 p2 p3 p4 p5 h0 n0 _ T130.heap _
              rw [e130]
              exact ⟨rfl, N130⟩
          · obtain ⟨cq131, kq131, qa131, qb131, qc131⟩ := isOf hZ e123 po121_0
            obtain ⟨_, _, ⟨T131, L131, k131, n131⟩, -, X131, ⟨Lc131, hQ131, l131, y131, z131⟩, st131⟩ := X123.virtualBack hx (y := (⟨"com/example/urlset/urlset/read/LineCounter", "getXmlLineOf", "(I)I"⟩ : MethodName)) (z := (⟨"com/example/urlset/urlset/read/LineCounter", "getXmlLineOf", "(I)I"⟩ : MethodName)) hown (mvT hZ (hw _ (List.mem_of_getElem? (i := 13) rfl))) (mvT hZ (hw _ (List.mem_of_getElem? (i := 14) rfl))) (notFace_of_selects (args := #[]) (mvT hZ (hw _ (List.mem_of_getElem? (i := 16) rfl)))) (mvT hZ (hw _ (List.mem_of_getElem? (i := 16) rfl))) (mvT hZ (hw _ (List.mem_of_getElem? (i := 15) rfl))) (by decide) (backOf (W := 0) (rm4 l Z a0 hw [] b100 (own_pick p5) (own_cx (own_pick p3) (own_cx (own_pick p2) (0 : Int32) (0 : Int32)) (own_cr (own_pick p2))) (own_cr (own_pick p3)) T121.heap n0 z122 po121_0 po121_1 po121_3) hZ (hw _ (List.mem_of_getElem? (i := 17) rfl)) (hw _ (List.mem_of_getElem? (i := 6) rfl)) (by decide) (by decide)) qa131 qc131 (g := (mkF m 163 #[.val (.int p1), .val (.int p2), .val (.int p3), .val (.int p4), .val (.int p5), .val (.int (p1 &&& (3 : Int32))), .val (.int (own_pick p2)), .val (.int (own_pick p3)), .val (.int (own_pick p4)), .val (.int (own_pick p5)), .val (.ref b100), .val (.int (((0 : Int32) + (own_ends (0 : Int32) (own_pick p2))) + (own_ends (own_pick p2) (own_pick p3)))), .val (.int (own_pick p3)), .val (.int ((((0 : Int32) + (own_ends (0 : Int32) (own_pick p2))) + (own_ends (own_pick p2) (own_pick p3))) + (1 : Int32)))] [(.int (own_pick p5)), (.ref b100)])) rfl (by rw [hml]; rfl) (Steps.refl _) (argsL := [(.int (own_pick p5))]) (rest := []) (lenOf pd_0 rfl) rfl (by show 2 * 0 + _ ≤ _; exact Nat.le_of_eq rfl) (hb hby at_163) (fun _ _ => ⟨rfl, e123, (by decide : 1 + 0 ≤ _), (by decide : 3 + 0 ≤ _)⟩)
            dsimp only [Pt.U, Pt.locs, Pt.cells, Pt.slots] at X131 l131 y131 z131 st131 hQ131
            subst l131 y131 z131
            obtain ⟨rfl, Nq131, e131⟩ := hQ131
            have N131 := Fr.app N123 Nq131
            obtain ⟨fs, hr, hrun, hended, hW, hsame⟩ := X131.leave (v := some (.int (1 : Int32))) (fun h => by rw [Bd.returns] at h; cases h)
            refine ⟨_, _, pre128 _ ?_, hrun, hended, _, _, rfl, ?_, ⟨_, rfl⟩, hW, hsame.mono (by decide) (by decide)⟩
            · show Steps p.tables e below (T123.setTop (mkF m 143 #[.val (.int p1), .val (.int p2), .val (.int p3), .val (.int p4), .val (.int p5), .val (.int (p1 &&& (3 : Int32))), .val (.int (own_pick p2)), .val (.int (own_pick p3)), .val (.int (own_pick p4)), .val (.int (own_pick p5)), .val (.ref b100), .val (.int (((0 : Int32) + (own_ends (0 : Int32) (own_pick p2))) + (own_ends (own_pick p2) (own_pick p3)))), .val (.int (own_pick p3)), .unset] [(.int (13 : Int32)), (.int (own_pick p3))])) _
              refine XS.icmpYes X123.here hx rfl (pc0 := 143) (pc' := 153) rfl (hb hby at_143) rfl (feq hc143_129).2 (by decide) (by decide) ?_
              show Steps p.tables e below (T123.setTop (mkF m 153 #[.val (.int p1), .val (.int p2), .val (.int p3), .val (.int p4), .val (.int p5), .val (.int (p1 &&& (3 : Int32))), .val (.int (own_pick p2)), .val (.int (own_pick p3)), .val (.int (own_pick p4)), .val (.int (own_pick p5)), .val (.ref b100), .val (.int (((0 : Int32) + (own_ends (0 : Int32) (own_pick p2))) + (own_ends (own_pick p2) (own_pick p3)))), .val (.int (own_pick p3)), .unset] [])) _
              refine XS.iload X123.here hx rfl (hb hby at_153) rfl ?_
              show Steps p.tables e below (T123.setTop (mkF m 155 #[.val (.int p1), .val (.int p2), .val (.int p3), .val (.int p4), .val (.int p5), .val (.int (p1 &&& (3 : Int32))), .val (.int (own_pick p2)), .val (.int (own_pick p3)), .val (.int (own_pick p4)), .val (.int (own_pick p5)), .val (.ref b100), .val (.int (((0 : Int32) + (own_ends (0 : Int32) (own_pick p2))) + (own_ends (own_pick p2) (own_pick p3)))), .val (.int (own_pick p3)), .unset] [(.int (((0 : Int32) + (own_ends (0 : Int32) (own_pick p2))) + (own_ends (own_pick p2) (own_pick p3))))])) _
              refine XS.iconst X123.here hx rfl (hb hby at_155) ?_
              show Steps p.tables e below (T123.setTop (mkF m 156 #[.val (.int p1), .val (.int p2), .val (.int p3), .val (.int p4), .val (.int p5), .val (.int (p1 &&& (3 : Int32))), .val (.int (own_pick p2)), .val (.int (own_pick p3)), .val (.int (own_pick p4)), .val (.int (own_pick p5)), .val (.ref b100), .val (.int (((0 : Int32) + (own_ends (0 : Int32) (own_pick p2))) + (own_ends (own_pick p2) (own_pick p3)))), .val (.int (own_pick p3)), .unset] [(.int (1 : Int32)), (.int (((0 : Int32) + (own_ends (0 : Int32) (own_pick p2))) + (own_ends (own_pick p2) (own_pick p3))))])) _
              refine XS.iadd X123.here hx rfl (hb hby at_156) rfl ?_
              show Steps p.tables e below (T123.setTop (mkF m 157 #[.val (.int p1), .val (.int p2), .val (.int p3), .val (.int p4), .val (.int p5), .val (.int (p1 &&& (3 : Int32))), .val (.int (own_pick p2)), .val (.int (own_pick p3)), .val (.int (own_pick p4)), .val (.int (own_pick p5)), .val (.ref b100), .val (.int (((0 : Int32) + (own_ends (0 : Int32) (own_pick p2))) + (own_ends (own_pick p2) (own_pick p3)))), .val (.int (own_pick p3)), .unset] [(.int ((((0 : Int32) + (own_ends (0 : Int32) (own_pick p2))) + (own_ends (own_pick p2) (own_pick p3))) + (1 : Int32)))])) _
              refine XS.istore X123.here hx rfl (hb hby at_157) rfl (l' := #[.val (.int p1), .val (.int p2), .val (.int p3), .val (.int p4), .val (.int p5), .val (.int (p1 &&& (3 : Int32))), .val (.int (own_pick p2)), .val (.int (own_pick p3)), .val (.int (own_pick p4)), .val (.int (own_pick p5)), .val (.ref b100), .val (.int (((0 : Int32) + (own_ends (0 : Int32) (own_pick p2))) + (own_ends (own_pick p2) (own_pick p3)))), .val (.int (own_pick p3)), .val (.int ((((0 : Int32) + (own_ends (0 : Int32) (own_pick p2))) + (own_ends (own_pick p2) (own_pick p3))) + (1 : Int32)))]) rfl ?_
              show Steps p.tables e below (T123.setTop (mkF m 159 #[.val (.int p1), .val (.int p2), .val (.int p3), .val (.int p4), .val (.int p5), .val (.int (p1 &&& (3 : Int32))), .val (.int (own_pick p2)), .val (.int (own_pick p3)), .val (.int (own_pick p4)), .val (.int (own_pick p5)), .val (.ref b100), .val (.int (((0 : Int32) + (own_ends (0 : Int32) (own_pick p2))) + (own_ends (own_pick p2) (own_pick p3)))), .val (.int (own_pick p3)), .val (.int ((((0 : Int32) + (own_ends (0 : Int32) (own_pick p2))) + (own_ends (own_pick p2) (own_pick p3))) + (1 : Int32)))] [])) _
              refine XS.aload X123.here hx rfl (hb hby at_159) rfl rfl ?_
              show Steps p.tables e below (T123.setTop (mkF m 161 #[.val (.int p1), .val (.int p2), .val (.int p3), .val (.int p4), .val (.int p5), .val (.int (p1 &&& (3 : Int32))), .val (.int (own_pick p2)), .val (.int (own_pick p3)), .val (.int (own_pick p4)), .val (.int (own_pick p5)), .val (.ref b100), .val (.int (((0 : Int32) + (own_ends (0 : Int32) (own_pick p2))) + (own_ends (own_pick p2) (own_pick p3)))), .val (.int (own_pick p3)), .val (.int ((((0 : Int32) + (own_ends (0 : Int32) (own_pick p2))) + (own_ends (own_pick p2) (own_pick p3))) + (1 : Int32)))] [(.ref b100)])) _
              refine XS.iload X123.here hx rfl (hb hby at_161) rfl ?_
              show Steps p.tables e below (T123.setTop (mkF m 163 #[.val (.int p1), .val (.int p2), .val (.int p3), .val (.int p4), .val (.int p5), .val (.int (p1 &&& (3 : Int32))), .val (.int (own_pick p2)), .val (.int (own_pick p3)), .val (.int (own_pick p4)), .val (.int (own_pick p5)), .val (.ref b100), .val (.int (((0 : Int32) + (own_ends (0 : Int32) (own_pick p2))) + (own_ends (own_pick p2) (own_pick p3)))), .val (.int (own_pick p3)), .val (.int ((((0 : Int32) + (own_ends (0 : Int32) (own_pick p2))) + (own_ends (own_pick p2) (own_pick p3))) + (1 : Int32)))] [(.int (own_pick p5)), (.ref b100)])) _
              refine st131.trans ?_
              show Steps p.tables e below (T131.setTop (mkF m 166 #[.val (.int p1), .val (.int p2), .val (.int p3), .val (.int p4), .val (.int p5), .val (.int (p1 &&& (3 : Int32))), .val (.int (own_pick p2)), .val (.int (own_pick p3)), .val (.int (own_pick p4)), .val (.int (own_pick p5)), .val (.ref b100), .val (.int (((0 : Int32) + (own_ends (0 : Int32) (own_pick p2))) + (own_ends (own_pick p2) (own_pick p3)))), .val (.int (own_pick p3)), .val (.int ((((0 : Int32) + (own_ends (0 : Int32) (own_pick p2))) + (own_ends (own_pick p2) (own_pick p3))) + (1 : Int32)))] [(.int (own_lo (own_pick p5) (own_cx (own_pick p3) (own_cx (own_pick p2) (0 : Int32) (0 : Int32)) (own_cr (own_pick p2))) (own_cr (own_pick p3))))])) _
              refine XS.iload X131.here hx rfl (hb hby at_166) rfl ?_
              show Steps p.tables e below (T131.setTop (mkF m 168 #[.val (.int p1), .val (.int p2), .val (.int p3), .val (.int p4), .val (.int p5), .val (.int (p1 &&& (3 : Int32))), .val (.int (own_pick p2)), .val (.int (own_pick p3)), .val (.int (own_pick p4)), .val (.int (own_pick p5)), .val (.ref b100), .val (.int (((0 : Int32) + (own_ends (0 : Int32) (own_pick p2))) + (own_ends (own_pick p2) (own_pick p3)))), .val (.int (own_pick p3)), .val (.int ((((0 : Int32) + (own_ends (0 : Int32) (own_pick p2))) + (own_ends (own_pick p2) (own_pick p3))) + (1 : Int32)))] [(.int ((((0 : Int32) + (own_ends (0 : Int32) (own_pick p2))) + (own_ends (own_pick p2) (own_pick p3))) + (1 : Int32))), (.int (own_lo (own_pick p5) (own_cx (own_pick p3) (own_cx (own_pick p2) (0 : Int32) (0 : Int32)) (own_cr (own_pick p2))) (own_cr (own_pick p3))))])) _
              refine XS.icmpNo X131.here hx rfl (hb hby at_168) rfl (teq (by simp only [own_last, own_more, own_one, if_pos hc136_127, if_neg hc143_129] : (own_lo (own_pick p5) (own_cx (own_pick p3) (own_cx (own_pick p2) (0 : Int32) (0 : Int32)) (own_cr (own_pick p2))) (own_cr (own_pick p3))) = ((((0 : Int32) + (own_ends (0 : Int32) (own_pick p2))) + (own_ends (own_pick p2) (own_pick p3))) + (1 : Int32)))).2 ?_
              show Steps p.tables e below (T131.setTop (mkF m 171 #[.val (.int p1), .val (.int p2), .val (.int p3), .val (.int p4), .val (.int p5), .val (.int (p1 &&& (3 : Int32))), .val (.int (own_pick p2)), .val (.int (own_pick p3)), .val (.int (own_pick p4)), .val (.int (own_pick p5)), .val (.ref b100), .val (.int (((0 : Int32) + (own_ends (0 : Int32) (own_pick p2))) + (own_ends (own_pick p2) (own_pick p3)))), .val (.int (own_pick p3)), .val (.int ((((0 : Int32) + (own_ends (0 : Int32) (own_pick p2))) + (own_ends (own_pick p2) (own_pick p3))) + (1 : Int32)))] [])) _
              refine XS.iconst X131.here hx rfl (hb hby at_171) ?_
              show Steps p.tables e below (T131.setTop (mkF m 172 #[.val (.int p1), .val (.int p2), .val (.int p3), .val (.int p4), .val (.int p5), .val (.int (p1 &&& (3 : Int32))), .val (.int (own_pick p2)), .val (.int (own_pick p3)), .val (.int (own_pick p4)), .val (.int (own_pick p5)), .val (.ref b100), .val (.int (((0 : Int32) + (own_ends (0 : Int32) (own_pick p2))) + (own_ends (own_pick p2) (own_pick p3)))), .val (.int (own_pick p3)), .val (.int ((((0 : Int32) + (own_ends (0 : Int32) (own_pick p2))) + (own_ends (own_pick p2) (own_pick p3))) + (1 : Int32)))] [(.int (1 : Int32))])) _
              refine XS.goto X131.here hx rfl (pc0 := 172) (pc' := 176) rfl (hb hby at_172) (by decide) (by decide) ?_
              show Steps p.tables e below (T131.setTop (mkF m 176 #[.val (.int p1), .val (.int p2), .val (.int p3), .val (.int p4), .val (.int p5), .val (.int (p1 &&& (3 : Int32))), .val (.int (own_pick p2)), .val (.int (own_pick p3)), .val (.int (own_pick p4)), .val (.int (own_pick p5)), .val (.ref b100), .val (.int (((0 : Int32) + (own_ends (0 : Int32) (own_pick p2))) + (own_ends (own_pick p2) (own_pick p3)))), .val (.int (own_pick p3)), .val (.int ((((0 : Int32) + (own_ends (0 : Int32) (own_pick p2))) + (own_ends (own_pick p2) (own_pick p3))) + (1 : Int32)))] [(.int (1 : Int32))])) _
              exact retN X131 hx (t := .boolean) Bd.returns (by simp) (hb hby at_176) hr
            · show Q0 Z p1 p2 p3 p4 p5 h0 n0 _ T131.heap _
              rw [e131]
              exact ⟨rfl, N131⟩
        · obtain ⟨cq132, kq132, qa132, qb132, qc132⟩ := isOf hZ e123 po121_0
          obtain ⟨_, _, ⟨T132, L132, k132, n132⟩, -, X132, ⟨Lc132, hQ132, l132, y132, z132⟩, st132⟩ := X123.virtualBack hx (y := (⟨"com/example/urlset/urlset/read/LineCounter", "getXmlLineOf", "(I)I"⟩ : MethodName)) (z := (⟨"com/example/urlset/urlset/read/LineCounter", "getXmlLineOf", "(I)I"⟩ : MethodName)) hown (mvT hZ (hw _ (List.mem_of_getElem? (i := 13) rfl))) (mvT hZ (hw _ (List.mem_of_getElem? (i := 14) rfl))) (notFace_of_selects (args := #[]) (mvT hZ (hw _ (List.mem_of_getElem? (i := 16) rfl)))) (mvT hZ (hw _ (List.mem_of_getElem? (i := 16) rfl))) (mvT hZ (hw _ (List.mem_of_getElem? (i := 15) rfl))) (by decide) (backOf (W := 0) (rm4 l Z a0 hw [] b100 (own_pick p5) (own_cx (own_pick p3) (own_cx (own_pick p2) (0 : Int32) (0 : Int32)) (own_cr (own_pick p2))) (own_cr (own_pick p3)) T121.heap n0 z122 po121_0 po121_1 po121_3) hZ (hw _ (List.mem_of_getElem? (i := 17) rfl)) (hw _ (List.mem_of_getElem? (i := 6) rfl)) (by decide) (by decide)) qa132 qc132 (g := (mkF m 163 #[.val (.int p1), .val (.int p2), .val (.int p3), .val (.int p4), .val (.int p5), .val (.int (p1 &&& (3 : Int32))), .val (.int (own_pick p2)), .val (.int (own_pick p3)), .val (.int (own_pick p4)), .val (.int (own_pick p5)), .val (.ref b100), .val (.int (((0 : Int32) + (own_ends (0 : Int32) (own_pick p2))) + (own_ends (own_pick p2) (own_pick p3)))), .val (.int (own_pick p3)), .val (.int ((((0 : Int32) + (own_ends (0 : Int32) (own_pick p2))) + (own_ends (own_pick p2) (own_pick p3))) + (1 : Int32)))] [(.int (own_pick p5)), (.ref b100)])) rfl (by rw [hml]; rfl) (Steps.refl _) (argsL := [(.int (own_pick p5))]) (rest := []) (lenOf pd_0 rfl) rfl (by show 2 * 0 + _ ≤ _; exact Nat.le_of_eq rfl) (hb hby at_163) (fun _ _ => ⟨rfl, e123, (by decide : 1 + 0 ≤ _), (by decide : 3 + 0 ≤ _)⟩)
          dsimp only [Pt.U, Pt.locs, Pt.cells, Pt.slots] at X132 l132 y132 z132 st132 hQ132
          subst l132 y132 z132
          obtain ⟨rfl, Nq132, e132⟩ := hQ132
          have N132 := Fr.app N123 Nq132
          obtain ⟨fs, hr, hrun, hended, hW, hsame⟩ := X132.leave (v := some (.int (1 : Int32))) (fun h => by rw [Bd.returns] at h; cases h)
          refine ⟨_, _, pre126 _ ?_, hrun, hended, _, _, rfl, ?_, ⟨_, rfl⟩, hW, hsame.mono (by decide) (by decide)⟩
          · show Steps p.tables e below (T123.setTop (mkF m 136 #[.val (.int p1), .val (.int p2), .val (.int p3), .val (.int p4), .val (.int p5), .val (.int (p1 &&& (3 : Int32))), .val (.int (own_pick p2)), .val (.int (own_pick p3)), .val (.int (own_pick p4)), .val (.int (own_pick p5)), .val (.ref b100), .val (.int (((0 : Int32) + (own_ends (0 : Int32) (own_pick p2))) + (own_ends (own_pick p2) (own_pick p3)))), .val (.int (own_pick p3)), .unset] [(.int (10 : Int32)), (.int (own_pick p5))])) _
            refine XS.icmpYes X123.here hx rfl (pc0 := 136) (pc' := 153) rfl (hb hby at_136) rfl (feq hc136_127).2 (by decide) (by decide) ?_
            show Steps p.tables e below (T123.setTop (mkF m 153 #[.val (.int p1), .val (.int p2), .val (.int p3), .val (.int p4), .val (.int p5), .val (.int (p1 &&& (3 : Int32))), .val (.int (own_pick p2)), .val (.int (own_pick p3)), .val (.int (own_pick p4)), .val (.int (own_pick p5)), .val (.ref b100), .val (.int (((0 : Int32) + (own_ends (0 : Int32) (own_pick p2))) + (own_ends (own_pick p2) (own_pick p3)))), .val (.int (own_pick p3)), .unset] [])) _
            refine XS.iload X123.here hx rfl (hb hby at_153) rfl ?_
            show Steps p.tables e below (T123.setTop (mkF m 155 #[.val (.int p1), .val (.int p2), .val (.int p3), .val (.int p4), .val (.int p5), .val (.int (p1 &&& (3 : Int32))), .val (.int (own_pick p2)), .val (.int (own_pick p3)), .val (.int (own_pick p4)), .val (.int (own_pick p5)), .val (.ref b100), .val (.int (((0 : Int32) + (own_ends (0 : Int32) (own_pick p2))) + (own_ends (own_pick p2) (own_pick p3)))), .val (.int (own_pick p3)), .unset] [(.int (((0 : Int32) + (own_ends (0 : Int32) (own_pick p2))) + (own_ends (own_pick p2) (own_pick p3))))])) _
            refine XS.iconst X123.here hx rfl (hb hby at_155) ?_
            show Steps p.tables e below (T123.setTop (mkF m 156 #[.val (.int p1), .val (.int p2), .val (.int p3), .val (.int p4), .val (.int p5), .val (.int (p1 &&& (3 : Int32))), .val (.int (own_pick p2)), .val (.int (own_pick p3)), .val (.int (own_pick p4)), .val (.int (own_pick p5)), .val (.ref b100), .val (.int (((0 : Int32) + (own_ends (0 : Int32) (own_pick p2))) + (own_ends (own_pick p2) (own_pick p3)))), .val (.int (own_pick p3)), .unset] [(.int (1 : Int32)), (.int (((0 : Int32) + (own_ends (0 : Int32) (own_pick p2))) + (own_ends (own_pick p2) (own_pick p3))))])) _
            refine XS.iadd X123.here hx rfl (hb hby at_156) rfl ?_
            show Steps p.tables e below (T123.setTop (mkF m 157 #[.val (.int p1), .val (.int p2), .val (.int p3), .val (.int p4), .val (.int p5), .val (.int (p1 &&& (3 : Int32))), .val (.int (own_pick p2)), .val (.int (own_pick p3)), .val (.int (own_pick p4)), .val (.int (own_pick p5)), .val (.ref b100), .val (.int (((0 : Int32) + (own_ends (0 : Int32) (own_pick p2))) + (own_ends (own_pick p2) (own_pick p3)))), .val (.int (own_pick p3)), .unset] [(.int ((((0 : Int32) + (own_ends (0 : Int32) (own_pick p2))) + (own_ends (own_pick p2) (own_pick p3))) + (1 : Int32)))])) _
            refine XS.istore X123.here hx rfl (hb hby at_157) rfl (l' := #[.val (.int p1), .val (.int p2), .val (.int p3), .val (.int p4), .val (.int p5), .val (.int (p1 &&& (3 : Int32))), .val (.int (own_pick p2)), .val (.int (own_pick p3)), .val (.int (own_pick p4)), .val (.int (own_pick p5)), .val (.ref b100), .val (.int (((0 : Int32) + (own_ends (0 : Int32) (own_pick p2))) + (own_ends (own_pick p2) (own_pick p3)))), .val (.int (own_pick p3)), .val (.int ((((0 : Int32) + (own_ends (0 : Int32) (own_pick p2))) + (own_ends (own_pick p2) (own_pick p3))) + (1 : Int32)))]) rfl ?_
            show Steps p.tables e below (T123.setTop (mkF m 159 #[.val (.int p1), .val (.int p2), .val (.int p3), .val (.int p4), .val (.int p5), .val (.int (p1 &&& (3 : Int32))), .val (.int (own_pick p2)), .val (.int (own_pick p3)), .val (.int (own_pick p4)), .val (.int (own_pick p5)), .val (.ref b100), .val (.int (((0 : Int32) + (own_ends (0 : Int32) (own_pick p2))) + (own_ends (own_pick p2) (own_pick p3)))), .val (.int (own_pick p3)), .val (.int ((((0 : Int32) + (own_ends (0 : Int32) (own_pick p2))) + (own_ends (own_pick p2) (own_pick p3))) + (1 : Int32)))] [])) _
            refine XS.aload X123.here hx rfl (hb hby at_159) rfl rfl ?_
            show Steps p.tables e below (T123.setTop (mkF m 161 #[.val (.int p1), .val (.int p2), .val (.int p3), .val (.int p4), .val (.int p5), .val (.int (p1 &&& (3 : Int32))), .val (.int (own_pick p2)), .val (.int (own_pick p3)), .val (.int (own_pick p4)), .val (.int (own_pick p5)), .val (.ref b100), .val (.int (((0 : Int32) + (own_ends (0 : Int32) (own_pick p2))) + (own_ends (own_pick p2) (own_pick p3)))), .val (.int (own_pick p3)), .val (.int ((((0 : Int32) + (own_ends (0 : Int32) (own_pick p2))) + (own_ends (own_pick p2) (own_pick p3))) + (1 : Int32)))] [(.ref b100)])) _
            refine XS.iload X123.here hx rfl (hb hby at_161) rfl ?_
            show Steps p.tables e below (T123.setTop (mkF m 163 #[.val (.int p1), .val (.int p2), .val (.int p3), .val (.int p4), .val (.int p5), .val (.int (p1 &&& (3 : Int32))), .val (.int (own_pick p2)), .val (.int (own_pick p3)), .val (.int (own_pick p4)), .val (.int (own_pick p5)), .val (.ref b100), .val (.int (((0 : Int32) + (own_ends (0 : Int32) (own_pick p2))) + (own_ends (own_pick p2) (own_pick p3)))), .val (.int (own_pick p3)), .val (.int ((((0 : Int32) + (own_ends (0 : Int32) (own_pick p2))) + (own_ends (own_pick p2) (own_pick p3))) + (1 : Int32)))] [(.int (own_pick p5)), (.ref b100)])) _
            refine st132.trans ?_
            show Steps p.tables e below (T132.setTop (mkF m 166 #[.val (.int p1), .val (.int p2), .val (.int p3), .val (.int p4), .val (.int p5), .val (.int (p1 &&& (3 : Int32))), .val (.int (own_pick p2)), .val (.int (own_pick p3)), .val (.int (own_pick p4)), .val (.int (own_pick p5)), .val (.ref b100), .val (.int (((0 : Int32) + (own_ends (0 : Int32) (own_pick p2))) + (own_ends (own_pick p2) (own_pick p3)))), .val (.int (own_pick p3)), .val (.int ((((0 : Int32) + (own_ends (0 : Int32) (own_pick p2))) + (own_ends (own_pick p2) (own_pick p3))) + (1 : Int32)))] [(.int (own_lo (own_pick p5) (own_cx (own_pick p3) (own_cx (own_pick p2) (0 : Int32) (0 : Int32)) (own_cr (own_pick p2))) (own_cr (own_pick p3))))])) _
            refine XS.iload X132.here hx rfl (hb hby at_166) rfl ?_
            show Steps p.tables e below (T132.setTop (mkF m 168 #[.val (.int p1), .val (.int p2), .val (.int p3), .val (.int p4), .val (.int p5), .val (.int (p1 &&& (3 : Int32))), .val (.int (own_pick p2)), .val (.int (own_pick p3)), .val (.int (own_pick p4)), .val (.int (own_pick p5)), .val (.ref b100), .val (.int (((0 : Int32) + (own_ends (0 : Int32) (own_pick p2))) + (own_ends (own_pick p2) (own_pick p3)))), .val (.int (own_pick p3)), .val (.int ((((0 : Int32) + (own_ends (0 : Int32) (own_pick p2))) + (own_ends (own_pick p2) (own_pick p3))) + (1 : Int32)))] [(.int ((((0 : Int32) + (own_ends (0 : Int32) (own_pick p2))) + (own_ends (own_pick p2) (own_pick p3))) + (1 : Int32))), (.int (own_lo (own_pick p5) (own_cx (own_pick p3) (own_cx (own_pick p2) (0 : Int32) (0 : Int32)) (own_cr (own_pick p2))) (own_cr (own_pick p3))))])) _
            refine XS.icmpNo X132.here hx rfl (hb hby at_168) rfl (teq (by simp only [own_last, own_more, own_one, if_neg hc136_127] : (own_lo (own_pick p5) (own_cx (own_pick p3) (own_cx (own_pick p2) (0 : Int32) (0 : Int32)) (own_cr (own_pick p2))) (own_cr (own_pick p3))) = ((((0 : Int32) + (own_ends (0 : Int32) (own_pick p2))) + (own_ends (own_pick p2) (own_pick p3))) + (1 : Int32)))).2 ?_
            show Steps p.tables e below (T132.setTop (mkF m 171 #[.val (.int p1), .val (.int p2), .val (.int p3), .val (.int p4), .val (.int p5), .val (.int (p1 &&& (3 : Int32))), .val (.int (own_pick p2)), .val (.int (own_pick p3)), .val (.int (own_pick p4)), .val (.int (own_pick p5)), .val (.ref b100), .val (.int (((0 : Int32) + (own_ends (0 : Int32) (own_pick p2))) + (own_ends (own_pick p2) (own_pick p3)))), .val (.int (own_pick p3)), .val (.int ((((0 : Int32) + (own_ends (0 : Int32) (own_pick p2))) + (own_ends (own_pick p2) (own_pick p3))) + (1 : Int32)))] [])) _
            refine XS.iconst X132.here hx rfl (hb hby at_171) ?_
            show Steps p.tables e below (T132.setTop (mkF m 172 #[.val (.int p1), .val (.int p2), .val (.int p3), .val (.int p4), .val (.int p5), .val (.int (p1 &&& (3 : Int32))), .val (.int (own_pick p2)), .val (.int (own_pick p3)), .val (.int (own_pick p4)), .val (.int (own_pick p5)), .val (.ref b100), .val (.int (((0 : Int32) + (own_ends (0 : Int32) (own_pick p2))) + (own_ends (own_pick p2) (own_pick p3)))), .val (.int (own_pick p3)), .val (.int ((((0 : Int32) + (own_ends (0 : Int32) (own_pick p2))) + (own_ends (own_pick p2) (own_pick p3))) + (1 : Int32)))] [(.int (1 : Int32))])) _
            refine XS.goto X132.here hx rfl (pc0 := 172) (pc' := 176) rfl (hb hby at_172) (by decide) (by decide) ?_
            show Steps p.tables e below (T132.setTop (mkF m 176 #[.val (.int p1), .val (.int p2), .val (.int p3), .val (.int p4), .val (.int p5), .val (.int (p1 &&& (3 : Int32))), .val (.int (own_pick p2)), .val (.int (own_pick p3)), .val (.int (own_pick p4)), .val (.int (own_pick p5)), .val (.ref b100), .val (.int (((0 : Int32) + (own_ends (0 : Int32) (own_pick p2))) + (own_ends (own_pick p2) (own_pick p3)))), .val (.int (own_pick p3)), .val (.int ((((0 : Int32) + (own_ends (0 : Int32) (own_pick p2))) + (own_ends (own_pick p2) (own_pick p3))) + (1 : Int32)))] [(.int (1 : Int32))])) _
            exact retN X132 hx (t := .boolean) Bd.returns (by simp) (hb hby at_176) hr
          · show Q0 Z p1 p2 p3 p4 p5 h0 n0 _ T132.heap _
            rw [e132]
            exact ⟨rfl, N132⟩
      · obtain ⟨cq133, kq133, qa133, qb133, qc133⟩ := isOf hZ e123 po121_0
        obtain ⟨_, _, ⟨T133, L133, k133, n133⟩, -, X133, ⟨Lc133, hQ133, l133, y133, z133⟩, st133⟩ := X123.virtualBack hx (y := (⟨"com/example/urlset/urlset/read/LineCounter", "count", "(I)V"⟩ : MethodName)) (z := (⟨"com/example/urlset/urlset/read/LineCounter", "count", "(I)V"⟩ : MethodName)) hown (mvT hZ (hw _ (List.mem_of_getElem? (i := 20) rfl))) (mvT hZ (hw _ (List.mem_of_getElem? (i := 21) rfl))) (notFace_of_selects (args := #[]) (mvT hZ (hw _ (List.mem_of_getElem? (i := 23) rfl)))) (mvT hZ (hw _ (List.mem_of_getElem? (i := 23) rfl))) (mvT hZ (hw _ (List.mem_of_getElem? (i := 22) rfl))) (by decide) (backOf (W := 0) (rm5 l Z a0 hw [] b100 (own_pick p4) (own_cx (own_pick p3) (own_cx (own_pick p2) (0 : Int32) (0 : Int32)) (own_cr (own_pick p2))) (own_ct (own_pick p3) (own_ct (own_pick p2) (0 : Int32))) (own_cr (own_pick p3)) T121.heap n0 z122 po121_0 po121_1 po121_2 po121_3 g_b100) hZ (hw _ (List.mem_of_getElem? (i := 24) rfl)) (hw _ (List.mem_of_getElem? (i := 6) rfl)) (by decide) (by decide)) qa133 qc133 (g := (mkF m 113 #[.val (.int p1), .val (.int p2), .val (.int p3), .val (.int p4), .val (.int p5), .val (.int (p1 &&& (3 : Int32))), .val (.int (own_pick p2)), .val (.int (own_pick p3)), .val (.int (own_pick p4)), .val (.int (own_pick p5)), .val (.ref b100), .val (.int (((0 : Int32) + (own_ends (0 : Int32) (own_pick p2))) + (own_ends (own_pick p2) (own_pick p3)))), .val (.int (own_pick p3)), .unset] [(.int (own_pick p4)), (.ref b100)])) rfl (by rw [hml]; rfl) (Steps.refl _) (argsL := [(.int (own_pick p4))]) (rest := []) (lenOf pd_2 rfl) rfl (by show 2 * 0 + _ ≤ _; exact Nat.le_of_eq rfl) (hb hby at_113) (fun _ _ => ⟨rfl, e123, (by decide : 1 + 0 ≤ _), (by decide : 3 + 0 ≤ _)⟩)
        dsimp only [Pt.U, Pt.locs, Pt.cells, Pt.slots] at X133 l133 y133 z133 st133 hQ133
        subst l133 y133 z133
        obtain ⟨rfl, Nq133, K133, po133_0, po133_1, po133_2, po133_3⟩ := hQ133
        have z134 : n0 ≤ T133.heap.size := Nat.le_trans z122 K133.1
        have N133 := Fr.app N123 Nq133
        obtain ⟨_, _, ⟨T135, L135, k135, n135⟩, -, X135, ⟨Lc135, hQ135, l135, y135, z135⟩, st135⟩ := Jvm.LawKit.callS X133 hx (y := (⟨"com/example/urlset/urlset/read/LineCounterGetXmlLineOfPinLaw", "ends", "(II)I"⟩ : MethodName)) hown (mvT hZ (hw _ (List.mem_of_getElem? (i := 29) rfl))) (mvT hZ (hw _ (List.mem_of_getElem? (i := 30) rfl))) (mvT hZ (hw _ (List.mem_of_getElem? (i := 2) rfl))) (mvT hZ (hw _ (List.mem_of_getElem? (i := 31) rfl))) (by decide) (backOf (W := 1) (rm6 l Z a0 hw [] (own_pick p3) (own_pick p4) T133.heap n0 z134 ) hZ (hw _ (List.mem_of_getElem? (i := 31) rfl)) (hw _ (List.mem_of_getElem? (i := 2) rfl)) (by decide) (by decide)) (g := (mkF m 122 #[.val (.int p1), .val (.int p2), .val (.int p3), .val (.int p4), .val (.int p5), .val (.int (p1 &&& (3 : Int32))), .val (.int (own_pick p2)), .val (.int (own_pick p3)), .val (.int (own_pick p4)), .val (.int (own_pick p5)), .val (.ref b100), .val (.int (((0 : Int32) + (own_ends (0 : Int32) (own_pick p2))) + (own_ends (own_pick p2) (own_pick p3)))), .val (.int (own_pick p3)), .unset] [(.int (own_pick p4)), (.int (own_pick p3)), (.int (((0 : Int32) + (own_ends (0 : Int32) (own_pick p2))) + (own_ends (own_pick p2) (own_pick p3))))])) rfl (by rw [hml]; rfl) (argsL := [(.int (own_pick p3)), (.int (own_pick p4))]) (rest := [(.int (((0 : Int32) + (own_ends (0 : Int32) (own_pick p2))) + (own_ends (own_pick p2) (own_pick p3))))]) (lenOf pd_3 rfl) rfl (by show 2 * 0 + _ ≤ _; exact Nat.le_of_eq rfl) (hb hby at_122) (fun _ _ => ⟨rfl, rfl, (by decide : 1 + 0 ≤ _), (by decide : 3 + 0 ≤ _)⟩)
        dsimp only [Pt.U, Pt.locs, Pt.cells, Pt.slots] at X135 l135 y135 z135 st135 hQ135
        subst l135 y135 z135
        obtain ⟨rfl, Nq135, e135⟩ := hQ135
        have N135 := Fr.app N133 Nq135
        have pre136 : ∀ t, Steps p.tables e below (T135.setTop (mkF m 136 #[.val (.int p1), .val (.int p2), .val (.int p3), .val (.int p4), .val (.int p5), .val (.int (p1 &&& (3 : Int32))), .val (.int (own_pick p2)), .val (.int (own_pick p3)), .val (.int (own_pick p4)), .val (.int (own_pick p5)), .val (.ref b100), .val (.int ((((0 : Int32) + (own_ends (0 : Int32) (own_pick p2))) + (own_ends (own_pick p2) (own_pick p3))) + (own_ends (own_pick p3) (own_pick p4)))), .val (.int (own_pick p4)), .unset] [(.int (10 : Int32)), (.int (own_pick p5))])) t → Steps p.tables e below (s₁.setTop (entryFrame m #[(.int p1), (.int p2), (.int p3), (.int p4), (.int p5)] maxLocals)) t := fun t k => pre124 t (by
            show Steps p.tables e below (T123.setTop (mkF m 106 #[.val (.int p1), .val (.int p2), .val (.int p3), .val (.int p4), .val (.int p5), .val (.int (p1 &&& (3 : Int32))), .val (.int (own_pick p2)), .val (.int (own_pick p3)), .val (.int (own_pick p4)), .val (.int (own_pick p5)), .val (.ref b100), .val (.int (((0 : Int32) + (own_ends (0 : Int32) (own_pick p2))) + (own_ends (own_pick p2) (own_pick p3)))), .val (.int (own_pick p3)), .unset] [(.int (3 : Int32)), (.int (p1 &&& (3 : Int32)))])) _
            refine XS.icmpNo X123.here hx rfl (hb hby at_106) rfl (flt hc106_125).1 ?_
            show Steps p.tables e below (T123.setTop (mkF m 109 #[.val (.int p1), .val (.int p2), .val (.int p3), .val (.int p4), .val (.int p5), .val (.int (p1 &&& (3 : Int32))), .val (.int (own_pick p2)), .val (.int (own_pick p3)), .val (.int (own_pick p4)), .val (.int (own_pick p5)), .val (.ref b100), .val (.int (((0 : Int32) + (own_ends (0 : Int32) (own_pick p2))) + (own_ends (own_pick p2) (own_pick p3)))), .val (.int (own_pick p3)), .unset] [])) _
            refine XS.aload X123.here hx rfl (hb hby at_109) rfl rfl ?_
            show Steps p.tables e below (T123.setTop (mkF m 111 #[.val (.int p1), .val (.int p2), .val (.int p3), .val (.int p4), .val (.int p5), .val (.int (p1 &&& (3 : Int32))), .val (.int (own_pick p2)), .val (.int (own_pick p3)), .val (.int (own_pick p4)), .val (.int (own_pick p5)), .val (.ref b100), .val (.int (((0 : Int32) + (own_ends (0 : Int32) (own_pick p2))) + (own_ends (own_pick p2) (own_pick p3)))), .val (.int (own_pick p3)), .unset] [(.ref b100)])) _
            refine XS.iload X123.here hx rfl (hb hby at_111) rfl ?_
            show Steps p.tables e below (T123.setTop (mkF m 113 #[.val (.int p1), .val (.int p2), .val (.int p3), .val (.int p4), .val (.int p5), .val (.int (p1 &&& (3 : Int32))), .val (.int (own_pick p2)), .val (.int (own_pick p3)), .val (.int (own_pick p4)), .val (.int (own_pick p5)), .val (.ref b100), .val (.int (((0 : Int32) + (own_ends (0 : Int32) (own_pick p2))) + (own_ends (own_pick p2) (own_pick p3)))), .val (.int (own_pick p3)), .unset] [(.int (own_pick p4)), (.ref b100)])) _
            refine st133.trans ?_
            show Steps p.tables e below (T133.setTop (mkF m 116 #[.val (.int p1), .val (.int p2), .val (.int p3), .val (.int p4), .val (.int p5), .val (.int (p1 &&& (3 : Int32))), .val (.int (own_pick p2)), .val (.int (own_pick p3)), .val (.int (own_pick p4)), .val (.int (own_pick p5)), .val (.ref b100), .val (.int (((0 : Int32) + (own_ends (0 : Int32) (own_pick p2))) + (own_ends (own_pick p2) (own_pick p3)))), .val (.int (own_pick p3)), .unset] [])) _
            refine XS.iload X133.here hx rfl (hb hby at_116) rfl ?_
            show Steps p.tables e below (T133.setTop (mkF m 118 #[.val (.int p1), .val (.int p2), .val (.int p3), .val (.int p4), .val (.int p5), .val (.int (p1 &&& (3 : Int32))), .val (.int (own_pick p2)), .val (.int (own_pick p3)), .val (.int (own_pick p4)), .val (.int (own_pick p5)), .val (.ref b100), .val (.int (((0 : Int32) + (own_ends (0 : Int32) (own_pick p2))) + (own_ends (own_pick p2) (own_pick p3)))), .val (.int (own_pick p3)), .unset] [(.int (((0 : Int32) + (own_ends (0 : Int32) (own_pick p2))) + (own_ends (own_pick p2) (own_pick p3))))])) _
            refine XS.iload X133.here hx rfl (hb hby at_118) rfl ?_
            show Steps p.tables e below (T133.setTop (mkF m 120 #[.val (.int p1), .val (.int p2), .val (.int p3), .val (.int p4), .val (.int p5), .val (.int (p1 &&& (3 : Int32))), .val (.int (own_pick p2)), .val (.int (own_pick p3)), .val (.int (own_pick p4)), .val (.int (own_pick p5)), .val (.ref b100), .val (.int (((0 : Int32) + (own_ends (0 : Int32) (own_pick p2))) + (own_ends (own_pick p2) (own_pick p3)))), .val (.int (own_pick p3)), .unset] [(.int (own_pick p3)), (.int (((0 : Int32) + (own_ends (0 : Int32) (own_pick p2))) + (own_ends (own_pick p2) (own_pick p3))))])) _
            refine XS.iload X133.here hx rfl (hb hby at_120) rfl ?_
            show Steps p.tables e below (T133.setTop (mkF m 122 #[.val (.int p1), .val (.int p2), .val (.int p3), .val (.int p4), .val (.int p5), .val (.int (p1 &&& (3 : Int32))), .val (.int (own_pick p2)), .val (.int (own_pick p3)), .val (.int (own_pick p4)), .val (.int (own_pick p5)), .val (.ref b100), .val (.int (((0 : Int32) + (own_ends (0 : Int32) (own_pick p2))) + (own_ends (own_pick p2) (own_pick p3)))), .val (.int (own_pick p3)), .unset] [(.int (own_pick p4)), (.int (own_pick p3)), (.int (((0 : Int32) + (own_ends (0 : Int32) (own_pick p2))) + (own_ends (own_pick p2) (own_pick p3))))])) _
            refine st135 _ ?_
            show Steps p.tables e below (T135.setTop (mkF m 125 #[.val (.int p1), .val (.int p2), .val (.int p3), .val (.int p4), .val (.int p5), .val (.int (p1 &&& (3 : Int32))), .val (.int (own_pick p2)), .val (.int (own_pick p3)), .val (.int (own_pick p4)), .val (.int (own_pick p5)), .val (.ref b100), .val (.int (((0 : Int32) + (own_ends (0 : Int32) (own_pick p2))) + (own_ends (own_pick p2) (own_pick p3)))), .val (.int (own_pick p3)), .unset] [(.int (own_ends (own_pick p3) (own_pick p4))), (.int (((0 : Int32) + (own_ends (0 : Int32) (own_pick p2))) + (own_ends (own_pick p2) (own_pick p3))))])) _
            refine XS.iadd X135.here hx rfl (hb hby at_125) rfl ?_
            show Steps p.tables e below (T135.setTop (mkF m 126 #[.val (.int p1), .val (.int p2), .val (.int p3), .val (.int p4), .val (.int p5), .val (.int (p1 &&& (3 : Int32))), .val (.int (own_pick p2)), .val (.int (own_pick p3)), .val (.int (own_pick p4)), .val (.int (own_pick p5)), .val (.ref b100), .val (.int (((0 : Int32) + (own_ends (0 : Int32) (own_pick p2))) + (own_ends (own_pick p2) (own_pick p3)))), .val (.int (own_pick p3)), .unset] [(.int ((((0 : Int32) + (own_ends (0 : Int32) (own_pick p2))) + (own_ends (own_pick p2) (own_pick p3))) + (own_ends (own_pick p3) (own_pick p4))))])) _
            refine XS.istore X135.here hx rfl (hb hby at_126) rfl (l' := #[.val (.int p1), .val (.int p2), .val (.int p3), .val (.int p4), .val (.int p5), .val (.int (p1 &&& (3 : Int32))), .val (.int (own_pick p2)), .val (.int (own_pick p3)), .val (.int (own_pick p4)), .val (.int (own_pick p5)), .val (.ref b100), .val (.int ((((0 : Int32) + (own_ends (0 : Int32) (own_pick p2))) + (own_ends (own_pick p2) (own_pick p3))) + (own_ends (own_pick p3) (own_pick p4)))), .val (.int (own_pick p3)), .unset]) rfl ?_
            show Steps p.tables e below (T135.setTop (mkF m 128 #[.val (.int p1), .val (.int p2), .val (.int p3), .val (.int p4), .val (.int p5), .val (.int (p1 &&& (3 : Int32))), .val (.int (own_pick p2)), .val (.int (own_pick p3)), .val (.int (own_pick p4)), .val (.int (own_pick p5)), .val (.ref b100), .val (.int ((((0 : Int32) + (own_ends (0 : Int32) (own_pick p2))) + (own_ends (own_pick p2) (own_pick p3))) + (own_ends (own_pick p3) (own_pick p4)))), .val (.int (own_pick p3)), .unset] [])) _
            refine XS.iload X135.here hx rfl (hb hby at_128) rfl ?_
            show Steps p.tables e below (T135.setTop (mkF m 130 #[.val (.int p1), .val (.int p2), .val (.int p3), .val (.int p4), .val (.int p5), .val (.int (p1 &&& (3 : Int32))), .val (.int (own_pick p2)), .val (.int (own_pick p3)), .val (.int (own_pick p4)), .val (.int (own_pick p5)), .val (.ref b100), .val (.int ((((0 : Int32) + (own_ends (0 : Int32) (own_pick p2))) + (own_ends (own_pick p2) (own_pick p3))) + (own_ends (own_pick p3) (own_pick p4)))), .val (.int (own_pick p3)), .unset] [(.int (own_pick p4))])) _
            refine XS.istore X135.here hx rfl (hb hby at_130) rfl (l' := #[.val (.int p1), .val (.int p2), .val (.int p3), .val (.int p4), .val (.int p5), .val (.int (p1 &&& (3 : Int32))), .val (.int (own_pick p2)), .val (.int (own_pick p3)), .val (.int (own_pick p4)), .val (.int (own_pick p5)), .val (.ref b100), .val (.int ((((0 : Int32) + (own_ends (0 : Int32) (own_pick p2))) + (own_ends (own_pick p2) (own_pick p3))) + (own_ends (own_pick p3) (own_pick p4)))), .val (.int (own_pick p4)), .unset]) rfl ?_
            show Steps p.tables e below (T135.setTop (mkF m 132 #[.val (.int p1), .val (.int p2), .val (.int p3), .val (.int p4), .val (.int p5), .val (.int (p1 &&& (3 : Int32))), .val (.int (own_pick p2)), .val (.int (own_pick p3)), .val (.int (own_pick p4)), .val (.int (own_pick p5)), .val (.ref b100), .val (.int ((((0 : Int32) + (own_ends (0 : Int32) (own_pick p2))) + (own_ends (own_pick p2) (own_pick p3))) + (own_ends (own_pick p3) (own_pick p4)))), .val (.int (own_pick p4)), .unset] [])) _
            refine XS.iload X135.here hx rfl (hb hby at_132) rfl ?_
            show Steps p.tables e below (T135.setTop (mkF m 134 #[.val (.int p1), .val (.int p2), .val (.int p3), .val (.int p4), .val (.int p5), .val (.int (p1 &&& (3 : Int32))), .val (.int (own_pick p2)), .val (.int (own_pick p3)), .val (.int (own_pick p4)), .val (.int (own_pick p5)), .val (.ref b100), .val (.int ((((0 : Int32) + (own_ends (0 : Int32) (own_pick p2))) + (own_ends (own_pick p2) (own_pick p3))) + (own_ends (own_pick p3) (own_pick p4)))), .val (.int (own_pick p4)), .unset] [(.int (own_pick p5))])) _
            refine XS.bipush X135.here hx rfl (hb hby at_134) ?_
            exact k)
        by_cases hc136_137 : (own_pick p5) = (10 : Int32)
        · have pre138 : ∀ t, Steps p.tables e below (T135.setTop (mkF m 143 #[.val (.int p1), .val (.int p2), .val (.int p3), .val (.int p4), .val (.int p5), .val (.int (p1 &&& (3 : Int32))), .val (.int (own_pick p2)), .val (.int (own_pick p3)), .val (.int (own_pick p4)), .val (.int (own_pick p5)), .val (.ref b100), .val (.int ((((0 : Int32) + (own_ends (0 : Int32) (own_pick p2))) + (own_ends (own_pick p2) (own_pick p3))) + (own_ends (own_pick p3) (own_pick p4)))), .val (.int (own_pick p4)), .unset] [(.int (13 : Int32)), (.int (own_pick p4))])) t → Steps p.tables e below (s₁.setTop (entryFrame m #[(.int p1), (.int p2), (.int p3), (.int p4), (.int p5)] maxLocals)) t := fun t k => pre136 t (by
              show Steps p.tables e below (T135.setTop (mkF m 136 #[.val (.int p1), .val (.int p2), .val (.int p3), .val (.int p4), .val (.int p5), .val (.int (p1 &&& (3 : Int32))), .val (.int (own_pick p2)), .val (.int (own_pick p3)), .val (.int (own_pick p4)), .val (.int (own_pick p5)), .val (.ref b100), .val (.int ((((0 : Int32) + (own_ends (0 : Int32) (own_pick p2))) + (own_ends (own_pick p2) (own_pick p3))) + (own_ends (own_pick p3) (own_pick p4)))), .val (.int (own_pick p4)), .unset] [(.int (10 : Int32)), (.int (own_pick p5))])) _
              refine XS.icmpNo X135.here hx rfl (hb hby at_136) rfl (teq hc136_137).2 ?_
              show Steps p.tables e below (T135.setTop (mkF m 139 #[.val (.int p1), .val (.int p2), .val (.int p3), .val (.int p4), .val (.int p5), .val (.int (p1 &&& (3 : Int32))), .val (.int (own_pick p2)), .val (.int (own_pick p3)), .val (.int (own_pick p4)), .val (.int (own_pick p5)), .val (.ref b100), .val (.int ((((0 : Int32) + (own_ends (0 : Int32) (own_pick p2))) + (own_ends (own_pick p2) (own_pick p3))) + (own_ends (own_pick p3) (own_pick p4)))), .val (.int (own_pick p4)), .unset] [])) _
              refine XS.iload X135.here hx rfl (hb hby at_139) rfl ?_
              show Steps p.tables e below (T135.setTop (mkF m 141 #[.val (.int p1), .val (.int p2), .val (.int p3), .val (.int p4), .val (.int p5), .val (.int (p1 &&& (3 : Int32))), .val (.int (own_pick p2)), .val (.int (own_pick p3)), .val (.int (own_pick p4)), .val (.int (own_pick p5)), .val (.ref b100), .val (.int ((((0 : Int32) + (own_ends (0 : Int32) (own_pick p2))) + (own_ends (own_pick p2) (own_pick p3))) + (own_ends (own_pick p3) (own_pick p4)))), .val (.int (own_pick p4)), .unset] [(.int (own_pick p4))])) _
              refine XS.bipush X135.here hx rfl (hb hby at_141) ?_
              exact k)
          by_cases hc143_139 : (own_pick p4) = (13 : Int32)
          · obtain ⟨cq140, kq140, qa140, qb140, qc140⟩ := isOf hZ e135 po133_0
            obtain ⟨_, _, ⟨T140, L140, k140, n140⟩, -, X140, ⟨Lc140, hQ140, l140, y140, z140⟩, st140⟩ := X135.virtualBack hx (y := (⟨"com/example/urlset/urlset/read/LineCounter", "getXmlLineOf", "(I)I"⟩ : MethodName)) (z := (⟨"com/example/urlset/urlset/read/LineCounter", "getXmlLineOf", "(I)I"⟩ : MethodName)) hown (mvT hZ (hw _ (List.mem_of_getElem? (i := 13) rfl))) (mvT hZ (hw _ (List.mem_of_getElem? (i := 14) rfl))) (notFace_of_selects (args := #[]) (mvT hZ (hw _ (List.mem_of_getElem? (i := 16) rfl)))) (mvT hZ (hw _ (List.mem_of_getElem? (i := 16) rfl))) (mvT hZ (hw _ (List.mem_of_getElem? (i := 15) rfl))) (by decide) (backOf (W := 0) (rm4 l Z a0 hw [] b100 (own_pick p5) (own_cx (own_pick p4) (own_cx (own_pick p3) (own_cx (own_pick p2) (0 : Int32) (0 : Int32)) (own_cr (own_pick p2))) (own_cr (own_pick p3))) (own_cr (own_pick p4)) T133.heap n0 z134 po133_0 po133_1 po133_3) hZ (hw _ (List.mem_of_getElem? (i := 17) rfl)) (hw _ (List.mem_of_getElem? (i := 6) rfl)) (by decide) (by decide)) qa140 qc140 (g := (mkF m 163 #[.val (.int p1), .val (.int p2), .val (.int p3), .val (.int p4), .val (.int p5), .val (.int (p1 &&& (3 : Int32))), .val (.int (own_pick p2)), .val (.int (own_pick p3)), .val (.int (own_pick p4)), .val (.int (own_pick p5)), .val (.ref b100), .val (.int ((((0 : Int32) + (own_ends (0 : Int32) (own_pick p2))) + (own_ends (own_pick p2) (own_pick p3))) + (own_ends (own_pick p3) (own_pick p4)))), .val (.int (own_pick p4)), .val (.int ((((0 : Int32) + (own_ends (0 : Int32) (own_pick p2))) + (own_ends (own_pick p2) (own_pick p3))) + (own_ends (own_pick p3) (own_pick p4))))] [(.int (own_pick p5)), (.ref b100)])) rfl (by rw [hml]; rfl) (Steps.refl _) (argsL := [(.int (own_pick p5))]) (rest := []) (lenOf pd_0 rfl) rfl (by show 2 * 0 + _ ≤ _; exact Nat.le_of_eq rfl) (hb hby at_163) (fun _ _ => ⟨rfl, e135, (by decide : 1 + 0 ≤ _), (by decide : 3 + 0 ≤ _)⟩)
            dsimp only [Pt.U, Pt.locs, Pt.cells, Pt.slots] at X140 l140 y140 z140 st140 hQ140
            subst l140 y140 z140
            obtain ⟨rfl, Nq140, e140⟩ := hQ140
            have N140 := Fr.app N135 Nq140
            obtain ⟨fs, hr, hrun, hended, hW, hsame⟩ := X140.leave (v := some (.int (1 : Int32))) (fun h => by rw [Bd.returns] at h; cases h)
            refine ⟨_, _, pre138 _ ?_, hrun, hended, _, _, rfl, ?_, ⟨_, rfl⟩, hW, hsame.mono (by decide) (by decide)⟩
            · show Steps p.tables e below (T135.setTop (mkF m 143 #[.val (.int p1), .val (.int p2), .val (.int p3), .val (.int p4), .val (.int p5), .val (.int (p1 &&& (3 : Int32))), .val (.int (own_pick p2)), .val (.int (own_pick p3)), .val (.int (own_pick p4)), .val (.int (own_pick p5)), .val (.ref b100), .val (.int ((((0 : Int32) + (own_ends (0 : Int32) (own_pick p2))) + (own_ends (own_pick p2) (own_pick p3))) + (own_ends (own_pick p3) (own_pick p4)))), .val (.int (own_pick p4)), .unset] [(.int (13 : Int32)), (.int (own_pick p4))])) _
              refine XS.icmpNo X135.here hx rfl (hb hby at_143) rfl (teq hc143_139).2 ?_
              show Steps p.tables e below (T135.setTop (mkF m 146 #[.val (.int p1), .val (.int p2), .val (.int p3), .val (.int p4), .val (.int p5), .val (.int (p1 &&& (3 : Int32))), .val (.int (own_pick p2)), .val (.int (own_pick p3)), .val (.int (own_pick p4)), .val (.int (own_pick p5)), .val (.ref b100), .val (.int ((((0 : Int32) + (own_ends (0 : Int32) (own_pick p2))) + (own_ends (own_pick p2) (own_pick p3))) + (own_ends (own_pick p3) (own_pick p4)))), .val (.int (own_pick p4)), .unset] [])) _
              refine XS.iload X135.here hx rfl (hb hby at_146) rfl ?_
              show Steps p.tables e below (T135.setTop (mkF m 148 #[.val (.int p1), .val (.int p2), .val (.int p3), .val (.int p4), .val (.int p5), .val (.int (p1 &&& (3 : Int32))), .val (.int (own_pick p2)), .val (.int (own_pick p3)), .val (.int (own_pick p4)), .val (.int (own_pick p5)), .val (.ref b100), .val (.int ((((0 : Int32) + (own_ends (0 : Int32) (own_pick p2))) + (own_ends (own_pick p2) (own_pick p3))) + (own_ends (own_pick p3) (own_pick p4)))), .val (.int (own_pick p4)), .unset] [(.int ((((0 : Int32) + (own_ends (0 : Int32) (own_pick p2))) + (own_ends (own_pick p2) (own_pick p3))) + (own_ends (own_pick p3) (own_pick p4))))])) _
              refine XS.istore X135.here hx rfl (hb hby at_148) rfl (l' := #[.val (.int p1), .val (.int p2), .val (.int p3), .val (.int p4), .val (.int p5), .val (.int (p1 &&& (3 : Int32))), .val (.int (own_pick p2)), .val (.int (own_pick p3)), .val (.int (own_pick p4)), .val (.int (own_pick p5)), .val (.ref b100), .val (.int ((((0 : Int32) + (own_ends (0 : Int32) (own_pick p2))) + (own_ends (own_pick p2) (own_pick p3))) + (own_ends (own_pick p3) (own_pick p4)))), .val (.int (own_pick p4)), .val (.int ((((0 : Int32) + (own_ends (0 : Int32) (own_pick p2))) + (own_ends (own_pick p2) (own_pick p3))) + (own_ends (own_pick p3) (own_pick p4))))]) rfl ?_
              show Steps p.tables e below (T135.setTop (mkF m 150 #[.val (.int p1), .val (.int p2), .val (.int p3), .val (.int p4), .val (.int p5), .val (.int (p1 &&& (3 : Int32))), .val (.int (own_pick p2)), .val (.int (own_pick p3)), .val (.int (own_pick p4)), .val (.int (own_pick p5)), .val (.ref b100), .val (.int ((((0 : Int32) + (own_ends (0 : Int32) (own_pick p2))) + (own_ends (own_pick p2) (own_pick p3))) + (own_ends (own_pick p3) (own_pick p4)))), .val (.int (own_pick p4)), .val (.int ((((0 : Int32) + (own_ends (0 : Int32) (own_pick p2))) + (own_ends (own_pick p2) (own_pick p3))) + (own_ends (own_pick p3) (own_pick p4))))] [])) _
              refine XS.goto X135.here hx rfl (pc0 := 150) (pc' := 159) rfl (hb hby at_150) (by decide) (by decide) ?_
              show Steps p.tables e below (T135.setTop (mkF m 159 #[.val (.int p1), .val (.int p2), .val (.int p3), .val (.int p4), .val (.int p5), .val (.int (p1 &&& (3 : Int32))), .val (.int (own_pick p2)), .val (.int (own_pick p3)), .val (.int (own_pick p4)), .val (.int (own_pick p5)), .val (.ref b100), .val (.int ((((0 : Int32) + (own_ends (0 : Int32) (own_pick p2))) + (own_ends (own_pick p2) (own_pick p3))) + (own_ends (own_pick p3) (own_pick p4)))), .val (.int (own_pick p4)), .val (.int ((((0 : Int32) + (own_ends (0 : Int32) (own_pick p2))) + (own_ends (own_pick p2) (own_pick p3))) + (own_ends (own_pick p3) (own_pick p4))))] [])) _
              refine XS.aload X135.here hx rfl (hb hby at_159) rfl rfl ?_
              show Steps p.tables e below (T135.setTop (mkF m 161 #[.val (.int p1), .val (.int p2), .val (.int p3), .val (.int p4), .val (.int p5), .val (.int (p1 &&& (3 : Int32))), .val (.int (own_pick p2)), .val (.int (own_pick p3)), .val (.int (own_pick p4)), .val (.int (own_pick p5)), .val (.ref b100), .val (.int ((((0 : Int32) + (own_ends (0 : Int32) (own_pick p2))) + (own_ends (own_pick p2) (own_pick p3))) + (own_ends (own_pick p3) (own_pick p4)))), .val (.int (own_pick p4)), .val (.int ((((0 : Int32) + (own_ends (0 : Int32) (own_pick p2))) + (own_ends (own_pick p2) (own_pick p3))) + (own_ends (own_pick p3) (own_pick p4))))] [(.ref b100)])) _
              refine XS.iload X135.here hx rfl (hb hby at_161) rfl ?_
              show Steps p.tables e below (T135.setTop (mkF m 163 #[.val (.int p1), .val (.int p2), .val (.int p3), .val (.int p4), .val (.int p5), .val (.int (p1 &&& (3 : Int32))), .val (.int (own_pick p2)), .val (.int (own_pick p3)), .val (.int (own_pick p4)), .val (.int (own_pick p5)), .val (.ref b100), .val (.int ((((0 : Int32) + (own_ends (0 : Int32) (own_pick p2))) + (own_ends (own_pick p2) (own_pick p3))) + (own_ends (own_pick p3) (own_pick p4)))), .val (.int (own_pick p4)), .val (.int ((((0 : Int32) + (own_ends (0 : Int32) (own_pick p2))) + (own_ends (own_pick p2) (own_pick p3))) + (own_ends (own_pick p3) (own_pick p4))))] [(.int (own_pick p5)), (.ref b100)])) _
              refine st140.trans ?_
              show Steps p.tables e below (T140.setTop (mkF m 166 #[.val (.int p1), .val (.int p2), .val (.int p3), .val (.int p4), .val (.int p5), .val (.int (p1 &&& (3 : Int32))), .val (.int (own_pick p2)), .val (.int (own_pick p3)), .val (.int (own_pick p4)), .val (.int (own_pick p5)), .val (.ref b100), .val (.int ((((0 : Int32) + (own_ends (0 : Int32) (own_pick p2))) + (own_ends (own_pick p2) (own_pick p3))) + (own_ends (own_pick p3) (own_pick p4)))), .val (.int (own_pick p4)), .val (.int ((((0 : Int32) + (own_ends (0 : Int32) (own_pick p2))) + (own_ends (own_pick p2) (own_pick p3))) + (own_ends (own_pick p3) (own_pick p4))))] [(.int (own_lo (own_pick p5) (own_cx (own_pick p4) (own_cx (own_pick p3) (own_cx (own_pick p2) (0 : Int32) (0 : Int32)) (own_cr (own_pick p2))) (own_cr (own_pick p3))) (own_cr (own_pick p4))))])) _
              refine XS.iload X140.here hx rfl (hb hby at_166) rfl ?_
              show Steps p.tables e below (T140.setTop (mkF m 168 #[.val (.int p1), .val (.int p2), .val (.int p3), .val (.int p4), .val (.int p5), .val (.int (p1 &&& (3 : Int32))), .val (.int (own_pick p2)), .val (.int (own_pick p3)), .val (.int (own_pick p4)), .val (.int (own_pick p5)), .val (.ref b100), .val (.int ((((0 : Int32) + (own_ends (0 : Int32) (own_pick p2))) + (own_ends (own_pick p2) (own_pick p3))) + (own_ends (own_pick p3) (own_pick p4)))), .val (.int (own_pick p4)), .val (.int ((((0 : Int32) + (own_ends (0 : Int32) (own_pick p2))) + (own_ends (own_pick p2) (own_pick p3))) + (own_ends (own_pick p3) (own_pick p4))))] [(.int ((((0 : Int32) + (own_ends (0 : Int32) (own_pick p2))) + (own_ends (own_pick p2) (own_pick p3))) + (own_ends (own_pick p3) (own_pick p4)))), (.int (own_lo (own_pick p5) (own_cx (own_pick p4) (own_cx (own_pick p3) (own_cx (own_pick p2) (0 : Int32) (0 : Int32)) (own_cr (own_pick p2))) (own_cr (own_pick p3))) (own_cr (own_pick p4))))])) _
              refine XS.icmpNo X140.here hx rfl (hb hby at_168) rfl (teq (by simp only [own_last, own_more, own_one, if_pos hc136_137, if_pos hc143_139] : (own_lo (own_pick p5) (own_cx (own_pick p4) (own_cx (own_pick p3) (own_cx (own_pick p2) (0 : Int32) (0 : Int32)) (own_cr (own_pick p2))) (own_cr (own_pick p3))) (own_cr (own_pick p4))) = ((((0 : Int32) + (own_ends (0 : Int32) (own_pick p2))) + (own_ends (own_pick p2) (own_pick p3))) + (own_ends (own_pick p3) (own_pick p4))))).2 ?_
              show Steps p.tables e below (T140.setTop (mkF m 171 #[.val (.int p1), .val (.int p2), .val (.int p3), .val (.int p4), .val (.int p5), .val (.int (p1 &&& (3 : Int32))), .val (.int (own_pick p2)), .val (.int (own_pick p3)), .val (.int (own_pick p4)), .val (.int (own_pick p5)), .val (.ref b100), .val (.int ((((0 : Int32) + (own_ends (0 : Int32) (own_pick p2))) + (own_ends (own_pick p2) (own_pick p3))) + (own_ends (own_pick p3) (own_pick p4)))), .val (.int (own_pick p4)), .val (.int ((((0 : Int32) + (own_ends (0 : Int32) (own_pick p2))) + (own_ends (own_pick p2) (own_pick p3))) + (own_ends (own_pick p3) (own_pick p4))))] [])) _
              refine XS.iconst X140.here hx rfl (hb hby at_171) ?_
              show Steps p.tables e below (T140.setTop (mkF m 172 #[.val (.int p1), .val (.int p2), .val (.int p3), .val (.int p4), .val (.int p5), .val (.int (p1 &&& (3 : Int32))), .val (.int (own_pick p2)), .val (.int (own_pick p3)), .val (.int (own_pick p4)), .val (.int (own_pick p5)), .val (.ref b100), .val (.int ((((0 : Int32) + (own_ends (0 : Int32) (own_pick p2))) + (own_ends (own_pick p2) (own_pick p3))) + (own_ends (own_pick p3) (own_pick p4)))), .val (.int (own_pick p4)), .val (.int ((((0 : Int32) + (own_ends (0 : Int32) (own_pick p2))) + (own_ends (own_pick p2) (own_pick p3))) + (own_ends (own_pick p3) (own_pick p4))))] [(.int (1 : Int32))])) _
              refine XS.goto X140.here hx rfl (pc0 := 172) (pc' := 176) rfl (hb hby at_172) (by decide) (by decide) ?_
              show Steps p.tables e below (T140.setTop (mkF m 176 #[.val (.int p1), .val (.int p2), .val (.int p3), .val (.int p4), .val (.int p5), .val (.int (p1 &&& (3 : Int32))), .val (.int (own_pick p2)), .val (.int (own_pick p3)), .val (.int (own_pick p4)), .val (.int (own_pick p5)), .val (.ref b100), .val (.int ((((0 : Int32) + (own_ends (0 : Int32) (own_pick p2))) + (own_ends (own_pick p2) (own_pick p3))) + (own_ends (own_pick p3) (own_pick p4)))), .val (.int (own_pick p4)), .val (.int ((((0 : Int32) + (own_ends (0 : Int32) (own_pick p2))) + (own_ends (own_pick p2) (own_pick p3))) + (own_ends (own_pick p3) (own_pick p4))))] [(.int (1 : Int32))])) _
              exact retN X140 hx (t := .boolean) Bd.returns (by simp) (hb hby at_176) hr
            · show Q0 Z p1 p2 p3 p4 p5 h0 n0 _ T140.heap _
              rw [e140]
              exact ⟨rfl, N140⟩
          · obtain ⟨cq141, kq141, qa141, qb141, qc141⟩ := isOf hZ e135 po133_0
            obtain ⟨_, _, ⟨T141, L141, k141, n141⟩, -, X141, ⟨Lc141, hQ141, l141, y141, z141⟩, st141⟩ := X135.virtualBack hx (y := (⟨"com/example/urlset/urlset/read/LineCounter", "getXmlLineOf", "(I)I"⟩ : MethodName)) (z := (⟨"com/example/urlset/urlset/read/LineCounter", "getXmlLineOf", "(I)I"⟩ : MethodName)) hown (mvT hZ (hw _ (List.mem_of_getElem? (i := 13) rfl))) (mvT hZ (hw _ (List.mem_of_getElem? (i := 14) rfl))) (notFace_of_selects (args := #[]) (mvT hZ (hw _ (List.mem_of_getElem? (i := 16) rfl)))) (mvT hZ (hw _ (List.mem_of_getElem? (i := 16) rfl))) (mvT hZ (hw _ (List.mem_of_getElem? (i := 15) rfl))) (by decide) (backOf (W := 0) (rm4 l Z a0 hw [] b100 (own_pick p5) (own_cx (own_pick p4) (own_cx (own_pick p3) (own_cx (own_pick p2) (0 : Int32) (0 : Int32)) (own_cr (own_pick p2))) (own_cr (own_pick p3))) (own_cr (own_pick p4)) T133.heap n0 z134 po133_0 po133_1 po133_3) hZ (hw _ (List.mem_of_getElem? (i := 17) rfl)) (hw _ (List.mem_of_getElem? (i := 6) rfl)) (by decide) (by decide)) qa141 qc141 (g := (mkF m 163 #[.val (.int p1), .val (.int p2), .val (.int p3), .val (.int p4), .val (.int p5), .val (.int (p1 &&& (3 : Int32))), .val (.int (own_pick p2)), .val (.int (own_pick p3)), .val (.int (own_pick p4)), .val (.int (own_pick p5)), .val (.ref b100), .val (.int ((((0 : Int32) + (own_ends (0 : Int32) (own_pick p2))) + (own_ends (own_pick p2) (own_pick p3))) + (own_ends (own_pick p3) (own_pick p4)))), .val (.int (own_pick p4)), .val (.int (((((0 : Int32) + (own_ends (0 : Int32) (own_pick p2))) + (own_ends (own_pick p2) (own_pick p3))) + (own_ends (own_pick p3) (own_pick p4))) + (1 : Int32)))] [(.int (own_pick p5)), (.ref b100)])) rfl (by rw [hml]; rfl) (Steps.refl _) (argsL := [(.int (own_pick p5))]) (rest := []) (lenOf pd_0 rfl) rfl (by show 2 * 0 + _ ≤ _; exact Nat.le_of_eq rfl) (hb hby at_163) (fun _ _ => ⟨rfl, e135, (by decide : 1 + 0 ≤ _), (by decide : 3 + 0 ≤ _)⟩)
            dsimp only [Pt.U, Pt.locs, Pt.cells, Pt.slots] at X141 l141 y141 z141 st141 hQ141
            subst l141 y141 z141
            obtain ⟨rfl, Nq141, e141⟩ := hQ141
            have N141 := Fr.app N135 Nq141
            obtain ⟨fs, hr, hrun, hended, hW, hsame⟩ := X141.leave (v := some (.int (1 : Int32))) (fun h => by rw [Bd.returns] at h; cases h)
            refine ⟨_, _, pre138 _ ?_, hrun, hended, _, _, rfl, ?_, ⟨_, rfl⟩, hW, hsame.mono (by decide) (by decide)⟩
            · show Steps p.tables e below (T135.setTop (mkF m 143 #[.val (.int p1), .val (.int p2), .val (.int p3), .val (.int p4), .val (.int p5), .val (.int (p1 &&& (3 : Int32))), .val (.int (own_pick p2)), .val (.int (own_pick p3)), .val (.int (own_pick p4)), .val (.int (own_pick p5)), .val (.ref b100), .val (.int ((((0 : Int32) + (own_ends (0 : Int32) (own_pick p2))) + (own_ends (own_pick p2) (own_pick p3))) + (own_ends (own_pick p3) (own_pick p4)))), .val (.int (own_pick p4)), .unset] [(.int (13 : Int32)), (.int (own_pick p4))])) _
              refine XS.icmpYes X135.here hx rfl (pc0 := 143) (pc' := 153) rfl (hb hby at_143) rfl (feq hc143_139).2 (by decide) (by decide) ?_
              show Steps p.tables e below (T135.setTop (mkF m 153 #[.val (.int p1), .val (.int p2), .val (.int p3), .val (.int p4), .val (.int p5), .val (.int (p1 &&& (3 : Int32))), .val (.int (own_pick p2)), .val (.int (own_pick p3)), .val (.int (own_pick p4)), .val (.int (own_pick p5)), .val (.ref b100), .val (.int ((((0 : Int32) + (own_ends (0 : Int32) (own_pick p2))) + (own_ends (own_pick p2) (own_pick p3))) + (own_ends (own_pick p3) (own_pick p4)))), .val (.int (own_pick p4)), .unset] [])) _
              refine XS.iload X135.here hx rfl (hb hby at_153) rfl ?_
              show Steps p.tables e below (T135.setTop (mkF m 155 #[.val (.int p1), .val (.int p2), .val (.int p3), .val (.int p4), .val (.int p5), .val (.int (p1 &&& (3 : Int32))), .val (.int (own_pick p2)), .val (.int (own_pick p3)), .val (.int (own_pick p4)), .val (.int (own_pick p5)), .val (.ref b100), .val (.int ((((0 : Int32) + (own_ends (0 : Int32) (own_pick p2))) + (own_ends (own_pick p2) (own_pick p3))) + (own_ends (own_pick p3) (own_pick p4)))), .val (.int (own_pick p4)), .unset] [(.int ((((0 : Int32) + (own_ends (0 : Int32) (own_pick p2))) + (own_ends (own_pick p2) (own_pick p3))) + (own_ends (own_pick p3) (own_pick p4))))])) _
              refine XS.iconst X135.here hx rfl (hb hby at_155) ?_
              show Steps p.tables e below (T135.setTop (mkF m 156 #[.val (.int p1), .val (.int p2), .val (.int p3), .val (.int p4), .val (.int p5), .val (.int (p1 &&& (3 : Int32))), .val (.int (own_pick p2)), .val (.int (own_pick p3)), .val (.int (own_pick p4)), .val (.int (own_pick p5)), .val (.ref b100), .val (.int ((((0 : Int32) + (own_ends (0 : Int32) (own_pick p2))) + (own_ends (own_pick p2) (own_pick p3))) + (own_ends (own_pick p3) (own_pick p4)))), .val (.int (own_pick p4)), .unset] [(.int (1 : Int32)), (.int ((((0 : Int32) + (own_ends (0 : Int32) (own_pick p2))) + (own_ends (own_pick p2) (own_pick p3))) + (own_ends (own_pick p3) (own_pick p4))))])) _
              refine XS.iadd X135.here hx rfl (hb hby at_156) rfl ?_
              show Steps p.tables e below (T135.setTop (mkF m 157 #[.val (.int p1), .val (.int p2), .val (.int p3), .val (.int p4), .val (.int p5), .val (.int (p1 &&& (3 : Int32))), .val (.int (own_pick p2)), .val (.int (own_pick p3)), .val (.int (own_pick p4)), .val (.int (own_pick p5)), .val (.ref b100), .val (.int ((((0 : Int32) + (own_ends (0 : Int32) (own_pick p2))) + (own_ends (own_pick p2) (own_pick p3))) + (own_ends (own_pick p3) (own_pick p4)))), .val (.int (own_pick p4)), .unset] [(.int (((((0 : Int32) + (own_ends (0 : Int32) (own_pick p2))) + (own_ends (own_pick p2) (own_pick p3))) + (own_ends (own_pick p3) (own_pick p4))) + (1 : Int32)))])) _
              refine XS.istore X135.here hx rfl (hb hby at_157) rfl (l' := #[.val (.int p1), .val (.int p2), .val (.int p3), .val (.int p4), .val (.int p5), .val (.int (p1 &&& (3 : Int32))), .val (.int (own_pick p2)), .val (.int (own_pick p3)), .val (.int (own_pick p4)), .val (.int (own_pick p5)), .val (.ref b100), .val (.int ((((0 : Int32) + (own_ends (0 : Int32) (own_pick p2))) + (own_ends (own_pick p2) (own_pick p3))) + (own_ends (own_pick p3) (own_pick p4)))), .val (.int (own_pick p4)), .val (.int (((((0 : Int32) + (own_ends (0 : Int32) (own_pick p2))) + (own_ends (own_pick p2) (own_pick p3))) + (own_ends (own_pick p3) (own_pick p4))) + (1 : Int32)))]) rfl ?_
              show Steps p.tables e below (T135.setTop (mkF m 159 #[.val (.int p1), .val (.int p2), .val (.int p3), .val (.int p4), .val (.int p5), .val (.int (p1 &&& (3 : Int32))), .val (.int (own_pick p2)), .val (.int (own_pick p3)), .val (.int (own_pick p4)), .val (.int (own_pick p5)), .val (.ref b100), .val (.int ((((0 : Int32) + (own_ends (0 : Int32) (own_pick p2))) + (own_ends (own_pick p2) (own_pick p3))) + (own_ends (own_pick p3) (own_pick p4)))), .val (.int (own_pick p4)), .val (.int (((((0 : Int32) + (own_ends (0 : Int32) (own_pick p2))) + (own_ends (own_pick p2) (own_pick p3))) + (own_ends (own_pick p3) (own_pick p4))) + (1 : Int32)))] [])) _
              refine XS.aload X135.here hx rfl (hb hby at_159) rfl rfl ?_
              show Steps p.tables e below (T135.setTop (mkF m 161 #[.val (.int p1), .val (.int p2), .val (.int p3), .val (.int p4), .val (.int p5), .val (.int (p1 &&& (3 : Int32))), .val (.int (own_pick p2)), .val (.int (own_pick p3)), .val (.int (own_pick p4)), .val (.int (own_pick p5)), .val (.ref b100), .val (.int ((((0 : Int32) + (own_ends (0 : Int32) (own_pick p2))) + (own_ends (own_pick p2) (own_pick p3))) + (own_ends (own_pick p3) (own_pick p4)))), .val (.int (own_pick p4)), .val (.int (((((0 : Int32) + (own_ends (0 : Int32) (own_pick p2))) + (own_ends (own_pick p2) (own_pick p3))) + (own_ends (own_pick p3) (own_pick p4))) + (1 : Int32)))] [(.ref b100)])) _
              refine XS.iload X135.here hx rfl (hb hby at_161) rfl ?_
              show Steps p.tables e below (T135.setTop (mkF m 163 #[.val (.int p1), .val (.int p2), .val (.int p3), .val (.int p4), .val (.int p5), .val (.int (p1 &&& (3 : Int32))), .val (.int (own_pick p2)), .val (.int (own_pick p3)), .val (.int (own_pick p4)), .val (.int (own_pick p5)), .val (.ref b100), .val (.int ((((0 : Int32) + (own_ends (0 : Int32) (own_pick p2))) + (own_ends (own_pick p2) (own_pick p3))) + (own_ends (own_pick p3) (own_pick p4)))), .val (.int (own_pick p4)), .val (.int (((((0 : Int32) + (own_ends (0 : Int32) (own_pick p2))) + (own_ends (own_pick p2) (own_pick p3))) + (own_ends (own_pick p3) (own_pick p4))) + (1 : Int32)))] [(.int (own_pick p5)), (.ref b100)])) _
              refine st141.trans ?_
              show Steps p.tables e below (T141.setTop (mkF m 166 #[.val (.int p1), .val (.int p2), .val (.int p3), .val (.int p4), .val (.int p5), .val (.int (p1 &&& (3 : Int32))), .val (.int (own_pick p2)), .val (.int (own_pick p3)), .val (.int (own_pick p4)), .val (.int (own_pick p5)), .val (.ref b100), .val (.int ((((0 : Int32) + (own_ends (0 : Int32) (own_pick p2))) + (own_ends (own_pick p2) (own_pick p3))) + (own_ends (own_pick p3) (own_pick p4)))), .val (.int (own_pick p4)), .val (.int (((((0 : Int32) + (own_ends (0 : Int32) (own_pick p2))) + (own_ends (own_pick p2) (own_pick p3))) + (own_ends (own_pick p3) (own_pick p4))) + (1 : Int32)))] [(.int (own_lo (own_pick p5) (own_cx (own_pick p4) (own_cx (own_pick p3) (own_cx (own_pick p2) (0 : Int32) (0 : Int32)) (own_cr (own_pick p2))) (own_cr (own_pick p3))) (own_cr (own_pick p4))))])) _
              refine XS.iload X141.here hx rfl (hb hby at_166) rfl ?_
              show Steps p.tables e below (T141.setTop (mkF m 168 #[.val (.int p1), .val (.int p2), .val (.int p3), .val (.int p4), .val (.int p5), .val (.int (p1 &&& (3 : Int32))), .val (.int (own_pick p2)), .val (.int (own_pick p3)), .val (.int (own_pick p4)), .val (.int (own_pick p5)), .val (.ref b100), .val (.int ((((0 : Int32) + (own_ends (0 : Int32) (own_pick p2))) + (own_ends (own_pick p2) (own_pick p3))) + (own_ends (own_pick p3) (own_pick p4)))), .val (.int (own_pick p4)), .val (.int (((((0 : Int32) + (own_ends (0 : Int32) (own_pick p2))) + (own_ends (own_pick p2) (own_pick p3))) + (own_ends (own_pick p3) (own_pick p4))) + (1 : Int32)))] [(.int (((((0 : Int32) + (own_ends (0 : Int32) (own_pick p2))) + (own_ends (own_pick p2) (own_pick p3))) + (own_ends (own_pick p3) (own_pick p4))) + (1 : Int32))), (.int (own_lo (own_pick p5) (own_cx (own_pick p4) (own_cx (own_pick p3) (own_cx (own_pick p2) (0 : Int32) (0 : Int32)) (own_cr (own_pick p2))) (own_cr (own_pick p3))) (own_cr (own_pick p4))))])) _
              refine XS.icmpNo X141.here hx rfl (hb hby at_168) rfl (teq (by simp only [own_last, own_more, own_one, if_pos hc136_137, if_neg hc143_139] : (own_lo (own_pick p5) (own_cx (own_pick p4) (own_cx (own_pick p3) (own_cx (own_pick p2) (0 : Int32) (0 : Int32)) (own_cr (own_pick p2))) (own_cr (own_pick p3))) (own_cr (own_pick p4))) = (((((0 : Int32) + (own_ends (0 : Int32) (own_pick p2))) + (own_ends (own_pick p2) (own_pick p3))) + (own_ends (own_pick p3) (own_pick p4))) + (1 : Int32)))).2 ?_
              show Steps p.tables e below (T141.setTop (mkF m 171 #[.val (.int p1), .val (.int p2), .val (.int p3), .val (.int p4), .val (.int p5), .val (.int (p1 &&& (3 : Int32))), .val (.int (own_pick p2)), .val (.int (own_pick p3)), .val (.int (own_pick p4)), .val (.int (own_pick p5)), .val (.ref b100), .val (.int ((((0 : Int32) + (own_ends (0 : Int32) (own_pick p2))) + (own_ends (own_pick p2) (own_pick p3))) + (own_ends (own_pick p3) (own_pick p4)))), .val (.int (own_pick p4)), .val (.int (((((0 : Int32) + (own_ends (0 : Int32) (own_pick p2))) + (own_ends (own_pick p2) (own_pick p3))) + (own_ends (own_pick p3) (own_pick p4))) + (1 : Int32)))] [])) _
              refine XS.iconst X141.here hx rfl (hb hby at_171) ?_
              show Steps p.tables e below (T141.setTop (mkF m 172 #[.val (.int p1), .val (.int p2), .val (.int p3), .val (.int p4), .val (.int p5), .val (.int (p1 &&& (3 : Int32))), .val (.int (own_pick p2)), .val (.int (own_pick p3)), .val (.int (own_pick p4)), .val (.int (own_pick p5)), .val (.ref b100), .val (.int ((((0 : Int32) + (own_ends (0 : Int32) (own_pick p2))) + (own_ends (own_pick p2) (own_pick p3))) + (own_ends (own_pick p3) (own_pick p4)))), .val (.int (own_pick p4)), .val (.int (((((0 : Int32) + (own_ends (0 : Int32) (own_pick p2))) + (own_ends (own_pick p2) (own_pick p3))) + (own_ends (own_pick p3) (own_pick p4))) + (1 : Int32)))] [(.int (1 : Int32))])) _
              refine XS.goto X141.here hx rfl (pc0 := 172) (pc' := 176) rfl (hb hby at_172) (by decide) (by decide) ?_
              show Steps p.tables e below (T141.setTop (mkF m 176 #[.val (.int p1), .val (.int p2), .val (.int p3), .val (.int p4), .val (.int p5), .val (.int (p1 &&& (3 : Int32))), .val (.int (own_pick p2)), .val (.int (own_pick p3)), .val (.int (own_pick p4)), .val (.int (own_pick p5)), .val (.ref b100), .val (.int ((((0 : Int32) + (own_ends (0 : Int32) (own_pick p2))) + (own_ends (own_pick p2) (own_pick p3))) + (own_ends (own_pick p3) (own_pick p4)))), .val (.int (own_pick p4)), .val (.int (((((0 : Int32) + (own_ends (0 : Int32) (own_pick p2))) + (own_ends (own_pick p2) (own_pick p3))) + (own_ends (own_pick p3) (own_pick p4))) + (1 : Int32)))] [(.int (1 : Int32))])) _
              exact retN X141 hx (t := .boolean) Bd.returns (by simp) (hb hby at_176) hr
            · show Q0 Z p1 p2 p3 p4 p5 h0 n0 _ T141.heap _
              rw [e141]
              exact ⟨rfl, N141⟩
        · obtain ⟨cq142, kq142, qa142, qb142, qc142⟩ := isOf hZ e135 po133_0
          obtain ⟨_, _, ⟨T142, L142, k142, n142⟩, -, X142, ⟨Lc142, hQ142, l142, y142, z142⟩, st142⟩ := X135.virtualBack hx (y := (⟨"com/example/urlset/urlset/read/LineCounter", "getXmlLineOf", "(I)I"⟩ : MethodName)) (z := (⟨"com/example/urlset/urlset/read/LineCounter", "getXmlLineOf", "(I)I"⟩ : MethodName)) hown (mvT hZ (hw _ (List.mem_of_getElem? (i := 13) rfl))) (mvT hZ (hw _ (List.mem_of_getElem? (i := 14) rfl))) (notFace_of_selects (args := #[]) (mvT hZ (hw _ (List.mem_of_getElem? (i := 16) rfl)))) (mvT hZ (hw _ (List.mem_of_getElem? (i := 16) rfl))) (mvT hZ (hw _ (List.mem_of_getElem? (i := 15) rfl))) (by decide) (backOf (W := 0) (rm4 l Z a0 hw [] b100 (own_pick p5) (own_cx (own_pick p4) (own_cx (own_pick p3) (own_cx (own_pick p2) (0 : Int32) (0 : Int32)) (own_cr (own_pick p2))) (own_cr (own_pick p3))) (own_cr (own_pick p4)) T133.heap n0 z134 po133_0 po133_1 po133_3) hZ (hw _ (List.mem_of_getElem? (i := 17) rfl)) (hw _ (List.mem_of_getElem? (i := 6) rfl)) (by decide) (by decide)) qa142 qc142 (g := (mkF m 163 #[.val (.int p1), .val (.int p2), .val (.int p3), .val (.int p4), .val (.int p5), .val (.int (p1 &&& (3 : Int32))), .val (.int (own_pick p2)), .val (.int (own_pick p3)), .val (.int (own_pick p4)), .val (.int (own_pick p5)), .val (.ref b100), .val (.int ((((0 : Int32) + (own_ends (0 : Int32) (own_pick p2))) + (own_ends (own_pick p2) (own_pick p3))) + (own_ends (own_pick p3) (own_pick p4)))), .val (.int (own_pick p4)), .val (.int (((((0 : Int32) + (own_ends (0 : Int32) (own_pick p2))) + (own_ends (own_pick p2) (own_pick p3))) + (own_ends (own_pick p3) (own_pick p4))) + (1 : Int32)))] [(.int (own_pick p5)), (.ref b100)])) rfl (by rw [hml]; rfl) (Steps.refl _) (argsL := [(.int (own_pick p5))]) (rest := []) (lenOf pd_0 rfl) rfl (by show 2 * 0 + _ ≤ _; exact Nat.le_of_eq rfl) (hb hby at_163) (fun _ _ => ⟨rfl, e135, (by decide : 1 + 0 ≤ _), (by decide : 3 + 0 ≤ _)⟩)
          dsimp only [Pt.U, Pt.locs, Pt.cells, Pt.slots] at X142 l142 y142 z142 st142 hQ142
          subst l142 y142 z142
          obtain ⟨rfl, Nq142, e142⟩ := hQ142
          have N142 := Fr.app N135 Nq142
          obtain ⟨fs, hr, hrun, hended, hW, hsame⟩ := X142.leave (v := some (.int (1 : Int32))) (fun h => by rw [Bd.returns] at h; cases h)
          refine ⟨_, _, pre136 _ ?_, hrun, hended, _, _, rfl, ?_, ⟨_, rfl⟩, hW, hsame.mono (by decide) (by decide)⟩
          · show Steps p.tables e below (T135.setTop (mkF m 136 #[.val (.int p1), .val (.int p2), .val (.int p3), .val (.int p4), .val (.int p5), .val (.int (p1 &&& (3 : Int32))), .val (.int (own_pick p2)), .val (.int (own_pick p3)), .val (.int (own_pick p4)), .val (.int (own_pick p5)), .val (.ref b100), .val (.int ((((0 : Int32) + (own_ends (0 : Int32) (own_pick p2))) + (own_ends (own_pick p2) (own_pick p3))) + (own_ends (own_pick p3) (own_pick p4)))), .val (.int (own_pick p4)), .unset] [(.int (10 : Int32)), (.int (own_pick p5))])) _
            refine XS.icmpYes X135.here hx rfl (pc0 := 136) (pc' := 153) rfl (hb hby at_136) rfl (feq hc136_137).2 (by decide) (by decide) ?_
            show Steps p.tables e below (T135.setTop (mkF m 153 #[.val (.int p1), .val (.int p2), .val (.int p3), .val (.int p4), .val (.int p5), .val (.int (p1 &&& (3 : Int32))), .val (.int (own_pick p2)), .val (.int (own_pick p3)), .val (.int (own_pick p4)), .val (.int (own_pick p5)), .val (.ref b100), .val (.int ((((0 : Int32) + (own_ends (0 : Int32) (own_pick p2))) + (own_ends (own_pick p2) (own_pick p3))) + (own_ends (own_pick p3) (own_pick p4)))), .val (.int (own_pick p4)), .unset] [])) _
            refine XS.iload X135.here hx rfl (hb hby at_153) rfl ?_
            show Steps p.tables e below (T135.setTop (mkF m 155 #[.val (.int p1), .val (.int p2), .val (.int p3), .val (.int p4), .val (.int p5), .val (.int (p1 &&& (3 : Int32))), .val (.int (own_pick p2)), .val (.int (own_pick p3)), .val (.int (own_pick p4)), .val (.int (own_pick p5)), .val (.ref b100), .val (.int ((((0 : Int32) + (own_ends (0 : Int32) (own_pick p2))) + (own_ends (own_pick p2) (own_pick p3))) + (own_ends (own_pick p3) (own_pick p4)))), .val (.int (own_pick p4)), .unset] [(.int ((((0 : Int32) + (own_ends (0 : Int32) (own_pick p2))) + (own_ends (own_pick p2) (own_pick p3))) + (own_ends (own_pick p3) (own_pick p4))))])) _
            refine XS.iconst X135.here hx rfl (hb hby at_155) ?_
            show Steps p.tables e below (T135.setTop (mkF m 156 #[.val (.int p1), .val (.int p2), .val (.int p3), .val (.int p4), .val (.int p5), .val (.int (p1 &&& (3 : Int32))), .val (.int (own_pick p2)), .val (.int (own_pick p3)), .val (.int (own_pick p4)), .val (.int (own_pick p5)), .val (.ref b100), .val (.int ((((0 : Int32) + (own_ends (0 : Int32) (own_pick p2))) + (own_ends (own_pick p2) (own_pick p3))) + (own_ends (own_pick p3) (own_pick p4)))), .val (.int (own_pick p4)), .unset] [(.int (1 : Int32)), (.int ((((0 : Int32) + (own_ends (0 : Int32) (own_pick p2))) + (own_ends (own_pick p2) (own_pick p3))) + (own_ends (own_pick p3) (own_pick p4))))])) _
            refine XS.iadd X135.here hx rfl (hb hby at_156) rfl ?_
            show Steps p.tables e below (T135.setTop (mkF m 157 #[.val (.int p1), .val (.int p2), .val (.int p3), .val (.int p4), .val (.int p5), .val (.int (p1 &&& (3 : Int32))), .val (.int (own_pick p2)), .val (.int (own_pick p3)), .val (.int (own_pick p4)), .val (.int (own_pick p5)), .val (.ref b100), .val (.int ((((0 : Int32) + (own_ends (0 : Int32) (own_pick p2))) + (own_ends (own_pick p2) (own_pick p3))) + (own_ends (own_pick p3) (own_pick p4)))), .val (.int (own_pick p4)), .unset] [(.int (((((0 : Int32) + (own_ends (0 : Int32) (own_pick p2))) + (own_ends (own_pick p2) (own_pick p3))) + (own_ends (own_pick p3) (own_pick p4))) + (1 : Int32)))])) _
            refine XS.istore X135.here hx rfl (hb hby at_157) rfl (l' := #[.val (.int p1), .val (.int p2), .val (.int p3), .val (.int p4), .val (.int p5), .val (.int (p1 &&& (3 : Int32))), .val (.int (own_pick p2)), .val (.int (own_pick p3)), .val (.int (own_pick p4)), .val (.int (own_pick p5)), .val (.ref b100), .val (.int ((((0 : Int32) + (own_ends (0 : Int32) (own_pick p2))) + (own_ends (own_pick p2) (own_pick p3))) + (own_ends (own_pick p3) (own_pick p4)))), .val (.int (own_pick p4)), .val (.int (((((0 : Int32) + (own_ends (0 : Int32) (own_pick p2))) + (own_ends (own_pick p2) (own_pick p3))) + (own_ends (own_pick p3) (own_pick p4))) + (1 : Int32)))]) rfl ?_
            show Steps p.tables e below (T135.setTop (mkF m 159 #[.val (.int p1), .val (.int p2), .val (.int p3), .val (.int p4), .val (.int p5), .val (.int (p1 &&& (3 : Int32))), .val (.int (own_pick p2)), .val (.int (own_pick p3)), .val (.int (own_pick p4)), .val (.int (own_pick p5)), .val (.ref b100), .val (.int ((((0 : Int32) + (own_ends (0 : Int32) (own_pick p2))) + (own_ends (own_pick p2) (own_pick p3))) + (own_ends (own_pick p3) (own_pick p4)))), .val (.int (own_pick p4)), .val (.int (((((0 : Int32) + (own_ends (0 : Int32) (own_pick p2))) + (own_ends (own_pick p2) (own_pick p3))) + (own_ends (own_pick p3) (own_pick p4))) + (1 : Int32)))] [])) _
            refine XS.aload X135.here hx rfl (hb hby at_159) rfl rfl ?_
            show Steps p.tables e below (T135.setTop (mkF m 161 #[.val (.int p1), .val (.int p2), .val (.int p3), .val (.int p4), .val (.int p5), .val (.int (p1 &&& (3 : Int32))), .val (.int (own_pick p2)), .val (.int (own_pick p3)), .val (.int (own_pick p4)), .val (.int (own_pick p5)), .val (.ref b100), .val (.int ((((0 : Int32) + (own_ends (0 : Int32) (own_pick p2))) + (own_ends (own_pick p2) (own_pick p3))) + (own_ends (own_pick p3) (own_pick p4)))), .val (.int (own_pick p4)), .val (.int (((((0 : Int32) + (own_ends (0 : Int32) (own_pick p2))) + (own_ends (own_pick p2) (own_pick p3))) + (own_ends (own_pick p3) (own_pick p4))) + (1 : Int32)))] [(.ref b100)])) _
            refine XS.iload X135.here hx rfl (hb hby at_161) rfl ?_
            show Steps p.tables e below (T135.setTop (mkF m 163 #[.val (.int p1), .val (.int p2), .val (.int p3), .val (.int p4), .val (.int p5), .val (.int (p1 &&& (3 : Int32))), .val (.int (own_pick p2)), .val (.int (own_pick p3)), .val (.int (own_pick p4)), .val (.int (own_pick p5)), .val (.ref b100), .val (.int ((((0 : Int32) + (own_ends (0 : Int32) (own_pick p2))) + (own_ends (own_pick p2) (own_pick p3))) + (own_ends (own_pick p3) (own_pick p4)))), .val (.int (own_pick p4)), .val (.int (((((0 : Int32) + (own_ends (0 : Int32) (own_pick p2))) + (own_ends (own_pick p2) (own_pick p3))) + (own_ends (own_pick p3) (own_pick p4))) + (1 : Int32)))] [(.int (own_pick p5)), (.ref b100)])) _
            refine st142.trans ?_
            show Steps p.tables e below (T142.setTop (mkF m 166 #[.val (.int p1), .val (.int p2), .val (.int p3), .val (.int p4), .val (.int p5), .val (.int (p1 &&& (3 : Int32))), .val (.int (own_pick p2)), .val (.int (own_pick p3)), .val (.int (own_pick p4)), .val (.int (own_pick p5)), .val (.ref b100), .val (.int ((((0 : Int32) + (own_ends (0 : Int32) (own_pick p2))) + (own_ends (own_pick p2) (own_pick p3))) + (own_ends (own_pick p3) (own_pick p4)))), .val (.int (own_pick p4)), .val (.int (((((0 : Int32) + (own_ends (0 : Int32) (own_pick p2))) + (own_ends (own_pick p2) (own_pick p3))) + (own_ends (own_pick p3) (own_pick p4))) + (1 : Int32)))] [(.int (own_lo (own_pick p5) (own_cx (own_pick p4) (own_cx (own_pick p3) (own_cx (own_pick p2) (0 : Int32) (0 : Int32)) (own_cr (own_pick p2))) (own_cr (own_pick p3))) (own_cr (own_pick p4))))])) _
            refine XS.iload X142.here hx rfl (hb hby at_166) rfl ?_
            show Steps p.tables e below (T142.setTop (mkF m 168 #[.val (.int p1), .val (.int p2), .val (.int p3), .val (.int p4), .val (.int p5), .val (.int (p1 &&& (3 : Int32))), .val (.int (own_pick p2)), .val (.int (own_pick p3)), .val (.int (own_pick p4)), .val (.int (own_pick p5)), .val (.ref b100), .val (.int ((((0 : Int32) + (own_ends (0 : Int32) (own_pick p2))) + (own_ends (own_pick p2) (own_pick p3))) + (own_ends (own_pick p3) (own_pick p4)))), .val (.int (own_pick p4)), .val (.int (((((0 : Int32) + (own_ends (0 : Int32) (own_pick p2))) + (own_ends (own_pick p2) (own_pick p3))) + (own_ends (own_pick p3) (own_pick p4))) + (1 : Int32)))] [(.int (((((0 : Int32) + (own_ends (0 : Int32) (own_pick p2))) + (own_ends (own_pick p2) (own_pick p3))) + (own_ends (own_pick p3) (own_pick p4))) + (1 : Int32))), (.int (own_lo (own_pick p5) (own_cx (own_pick p4) (own_cx (own_pick p3) (own_cx (own_pick p2) (0 : Int32) (0 : Int32)) (own_cr (own_pick p2))) (own_cr (own_pick p3))) (own_cr (own_pick p4))))])) _
            refine XS.icmpNo X142.here hx rfl (hb hby at_168) rfl (teq (by simp only [own_last, own_more, own_one, if_neg hc136_137] : (own_lo (own_pick p5) (own_cx (own_pick p4) (own_cx (own_pick p3) (own_cx (own_pick p2) (0 : Int32) (0 : Int32)) (own_cr (own_pick p2))) (own_cr (own_pick p3))) (own_cr (own_pick p4))) = (((((0 : Int32) + (own_ends (0 : Int32) (own_pick p2))) + (own_ends (own_pick p2) (own_pick p3))) + (own_ends (own_pick p3) (own_pick p4))) + (1 : Int32)))).2 ?_
            show Steps p.tables e below (T142.setTop (mkF m 171 #[.val (.int p1), .val (.int p2), .val (.int p3), .val (.int p4), .val (.int p5), .val (.int (p1 &&& (3 : Int32))), .val (.int (own_pick p2)), .val (.int (own_pick p3)), .val (.int (own_pick p4)), .val (.int (own_pick p5)), .val (.ref b100), .val (.int ((((0 : Int32) + (own_ends (0 : Int32) (own_pick p2))) + (own_ends (own_pick p2) (own_pick p3))) + (own_ends (own_pick p3) (own_pick p4)))), .val (.int (own_pick p4)), .val (.int (((((0 : Int32) + (own_ends (0 : Int32) (own_pick p2))) + (own_ends (own_pick p2) (own_pick p3))) + (own_ends (own_pick p3) (own_pick p4))) + (1 : Int32)))] [])) _
            refine XS.iconst X142.here hx rfl (hb hby at_171) ?_
            show Steps p.tables e below (T142.setTop (mkF m 172 #[.val (.int p1), .val (.int p2), .val (.int p3), .val (.int p4), .val (.int p5), .val (.int (p1 &&& (3 : Int32))), .val (.int (own_pick p2)), .val (.int (own_pick p3)), .val (.int (own_pick p4)), .val (.int (own_pick p5)), .val (.ref b100), .val (.int ((((0 : Int32) + (own_ends (0 : Int32) (own_pick p2))) + (own_ends (own_pick p2) (own_pick p3))) + (own_ends (own_pick p3) (own_pick p4)))), .val (.int (own_pick p4)), .val (.int (((((0 : Int32) + (own_ends (0 : Int32) (own_pick p2))) + (own_ends (own_pick p2) (own_pick p3))) + (own_ends (own_pick p3) (own_pick p4))) + (1 : Int32)))] [(.int (1 : Int32))])) _
            refine XS.goto X142.here hx rfl (pc0 := 172) (pc' := 176) rfl (hb hby at_172) (by decide) (by decide) ?_
            show Steps p.tables e below (T142.setTop (mkF m 176 #[.val (.int p1), .val (.int p2), .val (.int p3), .val (.int p4), .val (.int p5), .val (.int (p1 &&& (3 : Int32))), .val (.int (own_pick p2)), .val (.int (own_pick p3)), .val (.int (own_pick p4)), .val (.int (own_pick p5)), .val (.ref b100), .val (.int ((((0 : Int32) + (own_ends (0 : Int32) (own_pick p2))) + (own_ends (own_pick p2) (own_pick p3))) + (own_ends (own_pick p3) (own_pick p4)))), .val (.int (own_pick p4)), .val (.int (((((0 : Int32) + (own_ends (0 : Int32) (own_pick p2))) + (own_ends (own_pick p2) (own_pick p3))) + (own_ends (own_pick p3) (own_pick p4))) + (1 : Int32)))] [(.int (1 : Int32))])) _
            exact retN X142 hx (t := .boolean) Bd.returns (by simp) (hb hby at_176) hr
          · show Q0 Z p1 p2 p3 p4 p5 h0 n0 _ T142.heap _
            rw [e142]
            exact ⟨rfl, N142⟩
set_option maxRecDepth 65536 in
set_option maxHeartbeats 40000000 in
theorem comes_1 {Post : Tables → Env → Array Value → State → Outcome → State → Prop} (hpost : ∀ tb e args s v u, (limb_1_1.after args s (.returned v) u = true ∧ limb_1_2.after args s (.returned v) u = true ∧ True) → FrameEnd s (.returned v) u (Jvm.fieldLocs frame_1_writes args s ++ Jvm.arrayLocs frame_1_arrays args s ++ Jvm.staticLocs frame_1_statics s) 16 128 → Post tb e args s (.returned v) u) :
    ArmFor flags0 classFile x code maxLocals ret World_1 tables_1 room_1 Calls_1 rest_1 Pre_1 Post := by
  intro l hfl _ _ p e ha hc hk s m args below hf hA hF happ hP
  obtain ⟨hcalls, hrest, hpre⟩ := hP
  obtain ⟨-, -, -, hnamed, -, -, -, hat⟩ := (Spec.applies_iff hf).mp happ
  obtain ⟨hg, hn⟩ := and_e (Cond.before_iff.mp (show (Jvm.Cond.and given_1 narrow_1).before args s = true from hpre))
  obtain ⟨g143, g144⟩ := and_e hg
  obtain ⟨g145, g146⟩ := and_e g144
  obtain ⟨g147, g148⟩ := and_e g146
  obtain ⟨g149, g150⟩ := and_e g148
  obtain ⟨g151, g152⟩ := and_e g150
  obtain ⟨w0, w1, w2, w3, w4, rfl⟩ : ∃ w0 w1 w2 w3 w4 : Value, args = #[w0, w1, w2, w3, w4] := by
    have hs : args.size = 5 := by simpa [Cond.value, given_1] using g143
    obtain ⟨L⟩ := args
    match L, hs with
    | [w0, w1, w2, w3, w4], _ => exact ⟨w0, w1, w2, w3, w4, rfl⟩
  have hw := fun d (hd : d ∈ tables_1) => atoms_spec (ws := Jvm.Cond.code x code maxLocals ret :: tables_1) hat d (List.mem_cons_of_mem _ hd)
  obtain ⟨i0, ei0⟩ := is_v g145
  obtain rfl : w0 = (.int i0) := Option.some.inj ei0
  obtain ⟨i1, ei1⟩ := is_v g147
  obtain rfl : w1 = (.int i1) := Option.some.inj ei1
  obtain ⟨i2, ei2⟩ := is_v g149
  obtain rfl : w2 = (.int i2) := Option.some.inj ei2
  obtain ⟨i3, ei3⟩ := is_v g151
  obtain rfl : w3 = (.int i3) := Option.some.inj ei3
  obtain ⟨i4, ei4⟩ := is_v g152
  obtain rfl : w4 = (.int i4) := Option.some.inj ei4
  obtain ⟨n, o, h1, h2, h3, _, L, rfl, ⟨rfl, N⟩, hq⟩ := rm0 l s _ hw tables_1 i0 i1 i2 i3 i4 s.heap s.heap.size (Nat.le_refl _) p e ha hc hk s m _ below hf ((Spec.applies_iff_loose hf).mp happ).1 ⟨rfl, State.Warmed39.refl s, rfl⟩ trivial
  refine ⟨n, _, h1, h2, h3, hpost _ _ _ _ _ _ ⟨Cond.after_iff.mpr rfl, Cond.after_iff.mpr (eq_i res_at (Term.int_eval (1)) rfl), trivial⟩ ⟨hq.1, hq.2.1, (hq.2.2.sift fun y hy => Or.inr (N y hy)).mono (by decide) (by decide)⟩⟩
theorem main_1_1 : Claimed_1_1 := comes_1 fun _ _ _ _ _ _ h hF => ⟨h.1, hF⟩
theorem main_1_2 : Claimed_1_2 := comes_1 fun _ _ _ _ _ _ h hF => ⟨h.2.1, hF⟩
end Jvm.Pilot.@@N@@
namespace Jvm.Pilot.@@N@@
open Jvm Jvm.ClassFile Sem Op Lib Jvm.Free Jvm.Stand Jvm.Pilot.@@N@@.Jvm.D
/-! MADE BY PROGRAM (witnessworld.py) out of the Statement's table words and the real class files: 9 classes; the members and pool entries that the words name. The judged class is class 1, her method 3. -/
namespace start1
open Jvm.ClassFile
def u (s : String) : CpInfo := .utf8 (stringToUtf16 s)
/-- a pool by its gaps: so many unusable entries, then the entry; so many at the end -/
def gap : Nat → List CpInfo → List CpInfo
  | 0, r => r
  | n + 1, r => .unusable :: gap n r
def poolList (es : List (Nat × CpInfo)) (last : Nat) : List CpInfo := es.foldr (fun e r => gap e.1 (e.2 :: r)) (gap last [])
def pool (es : List (Nat × CpInfo)) (last : Nat) : Array CpInfo := ⟨poolList es last⟩
def fileOf (pool : Array CpInfo) (this : Nat) (attrs : Array Attribute := #[]) (ms : Array MethodInfo := #[]) (fl : Nat := 33) (sup : Nat := 0) (ifs : Array Nat := #[]) (fds : Array FieldInfo := #[]) : ClassFile where
  minorVersion := 0
  majorVersion := 65
  constantPool := pool
  accessFlags := fl
  thisClass := this
  superClass := sup
  interfaces := ifs
  fields := fds
  methods := ms
  attributes := attrs
def plain (name : String) (sup : Option ClassId) : Class where
  name := name
  kind := .ordinary
  loader := none
  accessFlags := 33
  super := sup
  interfaces := #[]
  cf := none
  fields := #[]
  methods := #[]
  instanceTypes := #[]
  staticTypes := #[]
  resolved := #[]
  callSites := []
  init := .initialized
  statics := none
  mirror := none

def pool0 : Array CpInfo := pool [(5, u "<init>"), (0, u "()V"), (1, .class_ 10), (1, u "java/lang/Object")] 113

def k0c0 : Code := { maxStack := 0, maxLocals := 1, code := object_method_1_code, exceptionTable := #[], attributes := #[] }
def k0m0 : Method := { name := "<init>", desc := "()V", sig := { parameters := [], returnType := none }, accessFlags := 1, code := some k0c0 }
/-- java/lang/Object -/
def k0 : Class := { plain "java/lang/Object" none with
  accessFlags := 33
  interfaces := #[]
  cf := some (fileOf pool0 8 #[] #[{ accessFlags := 1, nameIndex := 5, descriptorIndex := 6, attributes := #[] }] 33 0 #[] #[])
  fields := #[]
  methods := #[k0m0]
  instanceTypes := #[]
  staticTypes := #[]
  resolved := Array.replicate 124 none
  statics := none }

def pool1 : Array CpInfo := pool [(2, .class_ 4), (0, .nameAndType 5 6), (0, u "java/lang/Object"), (0, u "<init>"), (0, u "()V"), (0, .methodref 8 9), (0, .class_ 10), (0, .nameAndType 11 12), (0, u "com/example/urlset/urlset/read/LineCounterGetXmlLineOfPinLaw"), (0, u "pick"), (0, u "(I)I"), (0, .class_ 14), (0, u "com/example/urlset/urlset/read/LineCounter"), (0, .methodref 13 3), (0, .methodref 13 17), (0, .nameAndType 18 19), (0, u "count"), (0, u "(I)V"), (0, .methodref 8 21), (0, .nameAndType 22 23), (0, u "ends"), (0, u "(II)I"), (0, .methodref 13 25), (0, .nameAndType 26 12), (0, u "getXmlLineOf"), (3, u "law"), (0, u "(IIIII)Z")] 2

def k1m0 : Method := { name := "<init>", desc := "()V", sig := { parameters := [], returnType := none }, accessFlags := 1, code := none }
def k1c1 : Code := { maxStack := 2, maxLocals := 2, code := method_2_code, exceptionTable := #[], attributes := #[] }
def k1m1 : Method := { name := "pick", desc := "(I)I", sig := { parameters := [.int], returnType := some .int }, accessFlags := 10, code := some k1c1 }
def k1c2 : Code := { maxStack := 2, maxLocals := 2, code := method_3_code, exceptionTable := #[], attributes := #[] }
def k1m2 : Method := { name := "ends", desc := "(II)I", sig := { parameters := [.int, .int], returnType := some .int }, accessFlags := 10, code := some k1c2 }
def k1c3 : Code := { maxStack := 3, maxLocals := 14, code := code, exceptionTable := #[], attributes := #[] }
def k1m3 : Method := { name := "law", desc := "(IIIII)Z", sig := { parameters := [.int, .int, .int, .int, .int], returnType := some .boolean }, accessFlags := 9, code := some k1c3 }
/-- com/example/urlset/urlset/read/LineCounterGetXmlLineOfPinLaw -/
def k1 : Class := { plain "com/example/urlset/urlset/read/LineCounterGetXmlLineOfPinLaw" (some 0) with
  accessFlags := 49
  interfaces := #[]
  cf := some (fileOf pool1 8 #[] #[{ accessFlags := 1, nameIndex := 5, descriptorIndex := 6, attributes := #[] }, { accessFlags := 10, nameIndex := 11, descriptorIndex := 12, attributes := #[] }, { accessFlags := 10, nameIndex := 22, descriptorIndex := 23, attributes := #[] }, { accessFlags := 9, nameIndex := 30, descriptorIndex := 31, attributes := #[] }] 49 2 #[] #[])
  fields := #[]
  methods := #[k1m0, k1m1, k1m2, k1m3]
  instanceTypes := #[]
  staticTypes := #[]
  resolved := Array.replicate 34 none
  statics := none }

def pool2 : Array CpInfo := pool [(1, .methodref 2 3), (0, .class_ 4), (0, .nameAndType 5 6), (0, u "java/lang/Object"), (0, u "<init>"), (0, u "()V"), (0, .fieldref 8 9), (0, .class_ 10), (0, .nameAndType 11 12), (0, u "com/example/urlset/urlset/read/LineCounter"), (0, u "xmlLines"), (0, u "I"), (0, .fieldref 8 14), (0, .nameAndType 15 16), (0, u "afterReturn"), (0, u "Z"), (0, .fieldref 8 18), (0, .nameAndType 19 12), (0, u "textLines"), (2, u "count"), (0, u "(I)V"), (4, u "getXmlLineOf"), (0, u "(I)I")] 2

def k2c0 : Code := { maxStack := 1, maxLocals := 1, code := prog_43_method_1_code, exceptionTable := #[], attributes := #[] }
def k2m0 : Method := { name := "<init>", desc := "()V", sig := { parameters := [], returnType := none }, accessFlags := 0, code := some k2c0 }
def k2c1 : Code := { maxStack := 4, maxLocals := 2, code := prog_43_method_2_code, exceptionTable := #[], attributes := #[] }
def k2m1 : Method := { name := "count", desc := "(I)V", sig := { parameters := [.int], returnType := none }, accessFlags := 0, code := some k2c1 }
def k2c2 : Code := { maxStack := 2, maxLocals := 2, code := prog_43_method_5_code, exceptionTable := #[], attributes := #[] }
def k2m2 : Method := { name := "getXmlLineOf", desc := "(I)I", sig := { parameters := [.int], returnType := some .int }, accessFlags := 0, code := some k2c2 }
/-- com/example/urlset/urlset/read/LineCounter -/
def k2 : Class := { plain "com/example/urlset/urlset/read/LineCounter" (some 0) with
  accessFlags := 48
  interfaces := #[]
  cf := some (fileOf pool2 8 #[] #[{ accessFlags := 0, nameIndex := 5, descriptorIndex := 6, attributes := #[] }, { accessFlags := 0, nameIndex := 22, descriptorIndex := 23, attributes := #[] }, { accessFlags := 0, nameIndex := 28, descriptorIndex := 29, attributes := #[] }] 48 2 #[] #[{ accessFlags := 2, nameIndex := 11, descriptorIndex := 12, attributes := #[] }, { accessFlags := 2, nameIndex := 19, descriptorIndex := 12, attributes := #[] }, { accessFlags := 2, nameIndex := 15, descriptorIndex := 16, attributes := #[] }])
  fields := #[{ name := "xmlLines", type := .int, accessFlags := 2, slot := 0, constantValue := 0 }, { name := "textLines", type := .int, accessFlags := 2, slot := 1, constantValue := 0 }, { name := "afterReturn", type := .boolean, accessFlags := 2, slot := 2, constantValue := 0 }]
  methods := #[k2m0, k2m1, k2m2]
  instanceTypes := #[.int, .int, .boolean]
  staticTypes := #[]
  resolved := Array.replicate 32 none
  statics := none }

def pool3 : Array CpInfo := pool [(1, u "java/lang/Cloneable"), (0, .class_ 1), (0, u "java/lang/Object"), (0, .class_ 3)] 3

/-- java/lang/Cloneable -/
def k3 : Class := { plain "java/lang/Cloneable" (some 0) with
  accessFlags := 1537
  interfaces := #[]
  cf := some (fileOf pool3 2 #[] #[] 1537 4 #[] #[])
  fields := #[]
  methods := #[]
  instanceTypes := #[]
  staticTypes := #[]
  resolved := Array.replicate 8 none
  statics := none }

def pool4 : Array CpInfo := pool [(1, u "java/io/Serializable"), (0, .class_ 1), (0, u "java/lang/Object"), (0, .class_ 3)] 3

/-- java/io/Serializable -/
def k4 : Class := { plain "java/io/Serializable" (some 0) with
  accessFlags := 1537
  interfaces := #[]
  cf := some (fileOf pool4 2 #[] #[] 1537 4 #[] #[])
  fields := #[]
  methods := #[]
  instanceTypes := #[]
  staticTypes := #[]
  resolved := Array.replicate 8 none
  statics := none }

/-- the primitive byte -/
def k5 : Class := { plain "byte" none with kind := .primitive 'B', accessFlags := 0x411 }
/-- [B -/
def k6 : Class := { plain "[B" (some 0) with kind := .array 5 .byte, interfaces := #[3, 4], accessFlags := 1041 }

/-- the primitive int -/
def k7 : Class := { plain "int" none with kind := .primitive 'I', accessFlags := 0x411 }
/-- [I -/
def k8 : Class := { plain "[I" (some 0) with kind := .array 7 .int, interfaces := #[3, 4], accessFlags := 1041 }

def heap : Heap := #[]
def classes : Array Class := #[k0, k1, k2, k3, k4, k5, k6, k7, k8]
def interned : List (Array UInt16 × Addr) := []
def slotsUsed : Nat := 0
def theMethod : MethodId := ⟨1, 3⟩
def args0 : Array Value := #[.int 5, .int 5, .int 5, .int 5, .int 5]
def aboutOver (below : List Frame) : State where
  vm := { classes := classes, interned := interned.toArray }
  heap := heap
  slotsUsed := slotsUsed
  threads := #[{ frames := .invoking theMethod args0 :: below }]
def below0 : List Frame := [.native { method := ⟨0, 0⟩, args := #[] }]
def about1 : State := aboutOver below0
def p0 : Program := .bare "" "" ""
def e0 : Env := launch0.env 0 0 0
theorem w_frames : about1.frames = Frame.invoking theMethod args0 :: below0 := rfl
set_option maxRecDepth 65536 in
theorem w_args : argsFit about1.vm theMethod args0 = true := by decide +kernel
set_option maxRecDepth 65536 in
theorem w_heap : heapFits about1 = true := by decide +kernel
set_option maxRecDepth 65536 in
theorem w_runnable : about1.curStatus? = some .runnable := by decide +kernel
set_option maxRecDepth 65536 in
theorem w_alone : about1.alone = true := by decide +kernel
set_option maxRecDepth 65536 in
theorem w_named : about1.methodNamed? x = some theMethod := by decide +kernel
set_option maxRecDepth 65536 in
theorem w_hears : about1.hears theMethod below0 = true := by decide +kernel
set_option maxRecDepth 65536 in
theorem w_ripe : about1.ripe theMethod args0 below0 = true := by decide +kernel
theorem w_running : about1.status = .running := rfl
set_option maxRecDepth 65536 in
theorem w_room : about1.hasRoom e0.platform room_1 = true :=
  launch0.hasRoom_least _ room_1 (by decide +kernel) (by decide +kernel) (by decide +kernel) (by decide +kernel) (by decide +kernel) (by decide +kernel)
theorem allAtoms_all (ts : List Jvm.Cond) (a : Array Jvm.Value) (st : Jvm.State) : (allAtoms ts).before a st = ts.all (fun c => c.before a st) := by
  induction ts with
  | nil => rfl
  | cons c t ih =>
    show (Jvm.Cond.and c (allAtoms t)).before a st = _
    rw [Jvm.Cond.before_and, ih, List.all_cons]
def words1 : List Jvm.Cond := Jvm.Cond.code x code maxLocals ret :: tables_1
/-- a 'code' word, met by the world's own term for the bytes: nothing is compared byte by byte -/
theorem code_word {y : MethodName} {bytes : ByteArray} {mx : Nat} {rt : Option FieldType} {a : Array Value} {s : State} {m : MethodId} {meth : Method} {c : Code} (h1 : s.methodNamed? y = some m) (h2 : s.vm.method? m = some meth) (h3 : meth.code = some c) (h4 : c.code = bytes)
    (h5 : (c.maxLocals == mx && c.exceptionTable.isEmpty && decide (c.maxStack ≤ mostOperands) && decide (meth.sig.returnType = rt) && !meth.locks && decide (parseMethodDescriptor y.desc = some meth.sig)) = true) : (Jvm.Cond.code y bytes mx rt).before a s = true := by
  simp only [Bool.and_eq_true, beq_iff_eq, Bool.not_eq_true', decide_eq_true_eq] at h5
  obtain ⟨⟨⟨⟨⟨g1, g2⟩, g3⟩, g4⟩, g5⟩, g6⟩ := h5
  simp [Cond.before, Cond.holds, Cond.value, h1, h2, h3, h4, g1, g2, g3, g4, g5, g6]
def isCode : Jvm.Cond → Bool
  | .code _ _ _ _ => true
  | _ => false
theorem all_split {L : List Jvm.Cond} {P : Jvm.Cond → Bool} (h1 : L.all (fun c => isCode c || P c) = true) (h2 : ∀ c ∈ L.filter isCode, P c = true) : L.all P = true := by
  refine List.all_eq_true.mpr fun c hc => ?_
  have h := List.all_eq_true.mp h1 c hc
  rcases Bool.eq_false_or_eq_true (isCode c) with hi | hi
  · exact h2 c (List.mem_filter.mpr ⟨hc, hi⟩)
  · simpa [hi] using h
set_option maxRecDepth 65536 in
theorem w_c0 : (Jvm.Cond.code x code maxLocals ret).before args0 about1 = true := code_word (m := ⟨1, 3⟩) (meth := k1m3) (c := k1c3) (by decide +kernel) rfl rfl rfl (by decide +kernel)
set_option maxRecDepth 65536 in
theorem w_c1 : (Jvm.Cond.code ({ cls := "com/example/urlset/urlset/read/LineCounterGetXmlLineOfPinLaw", name := "pick", desc := "(I)I" } : Jvm.MethodName) method_2_code (2 : Nat) (Option.some Jvm.ClassFile.FieldType.int)).before args0 about1 = true := code_word (m := ⟨1, 1⟩) (meth := k1m1) (c := k1c1) (by decide +kernel) rfl rfl rfl (by decide +kernel)
set_option maxRecDepth 65536 in
theorem w_c2 : (Jvm.Cond.code ({ cls := "com/example/urlset/urlset/read/LineCounter", name := "<init>", desc := "()V" } : Jvm.MethodName) prog_43_method_1_code (1 : Nat) (Option.none : Option Jvm.ClassFile.FieldType)).before args0 about1 = true := code_word (m := ⟨2, 0⟩) (meth := k2m0) (c := k2c0) (by decide +kernel) rfl rfl rfl (by decide +kernel)
set_option maxRecDepth 65536 in
theorem w_c3 : (Jvm.Cond.code ({ cls := "java/lang/Object", name := "<init>", desc := "()V" } : Jvm.MethodName) object_method_1_code (1 : Nat) (Option.none : Option Jvm.ClassFile.FieldType)).before args0 about1 = true := code_word (m := ⟨0, 0⟩) (meth := k0m0) (c := k0c0) (by decide +kernel) rfl rfl rfl (by decide +kernel)
set_option maxRecDepth 65536 in
theorem w_c4 : (Jvm.Cond.code ({ cls := "com/example/urlset/urlset/read/LineCounter", name := "getXmlLineOf", desc := "(I)I" } : Jvm.MethodName) prog_43_method_5_code (2 : Nat) (Option.some Jvm.ClassFile.FieldType.int)).before args0 about1 = true := code_word (m := ⟨2, 2⟩) (meth := k2m2) (c := k2c2) (by decide +kernel) rfl rfl rfl (by decide +kernel)
set_option maxRecDepth 65536 in
theorem w_c5 : (Jvm.Cond.code ({ cls := "com/example/urlset/urlset/read/LineCounter", name := "count", desc := "(I)V" } : Jvm.MethodName) prog_43_method_2_code (2 : Nat) (Option.none : Option Jvm.ClassFile.FieldType)).before args0 about1 = true := code_word (m := ⟨2, 1⟩) (meth := k2m1) (c := k2c1) (by decide +kernel) rfl rfl rfl (by decide +kernel)
set_option maxRecDepth 65536 in
theorem w_c6 : (Jvm.Cond.code ({ cls := "com/example/urlset/urlset/read/LineCounterGetXmlLineOfPinLaw", name := "ends", desc := "(II)I" } : Jvm.MethodName) method_3_code (2 : Nat) (Option.some Jvm.ClassFile.FieldType.int)).before args0 about1 = true := code_word (m := ⟨1, 2⟩) (meth := k1m2) (c := k1c2) (by decide +kernel) rfl rfl rfl (by decide +kernel)
def codes1 : List Jvm.Cond := [Jvm.Cond.code x code maxLocals ret, Jvm.Cond.code ({ cls := "com/example/urlset/urlset/read/LineCounterGetXmlLineOfPinLaw", name := "pick", desc := "(I)I" } : Jvm.MethodName) method_2_code (2 : Nat) (Option.some Jvm.ClassFile.FieldType.int), Jvm.Cond.code ({ cls := "com/example/urlset/urlset/read/LineCounter", name := "<init>", desc := "()V" } : Jvm.MethodName) prog_43_method_1_code (1 : Nat) (Option.none : Option Jvm.ClassFile.FieldType), Jvm.Cond.code ({ cls := "java/lang/Object", name := "<init>", desc := "()V" } : Jvm.MethodName) object_method_1_code (1 : Nat) (Option.none : Option Jvm.ClassFile.FieldType), Jvm.Cond.code ({ cls := "com/example/urlset/urlset/read/LineCounter", name := "getXmlLineOf", desc := "(I)I" } : Jvm.MethodName) prog_43_method_5_code (2 : Nat) (Option.some Jvm.ClassFile.FieldType.int), Jvm.Cond.code ({ cls := "com/example/urlset/urlset/read/LineCounter", name := "count", desc := "(I)V" } : Jvm.MethodName) prog_43_method_2_code (2 : Nat) (Option.none : Option Jvm.ClassFile.FieldType), Jvm.Cond.code ({ cls := "com/example/urlset/urlset/read/LineCounterGetXmlLineOfPinLaw", name := "ends", desc := "(II)I" } : Jvm.MethodName) method_3_code (2 : Nat) (Option.some Jvm.ClassFile.FieldType.int)]
set_option maxRecDepth 65536 in
theorem codes_eq : words1.filter isCode = codes1 := rfl
theorem w_codes : ∀ c ∈ words1.filter isCode, c.before args0 about1 = true := by
  rw [codes_eq]
  intro c hc
  simp only [codes1, List.mem_cons, List.not_mem_nil, or_false] at hc
  rcases hc with rfl | rfl | rfl | rfl | rfl | rfl | rfl
  · exact w_c0
  · exact w_c1
  · exact w_c2
  · exact w_c3
  · exact w_c4
  · exact w_c5
  · exact w_c6
set_option maxRecDepth 65536 in
theorem w_t1 : (words1.take 24).all (fun c => isCode c || c.before args0 about1) = true := by decide +kernel
set_option maxRecDepth 65536 in
theorem w_t2 : (words1.drop 24).all (fun c => isCode c || c.before args0 about1) = true := by decide +kernel
theorem w_tables : (allAtoms (Jvm.Cond.code x code maxLocals ret :: tables_1)).before args0 about1 = true := by
  rw [allAtoms_all]
  show words1.all (fun c => c.before args0 about1) = true
  refine all_split ?_ w_codes
  rw [← List.take_append_drop 24 words1, List.all_append, w_t1, w_t2]
  rfl
set_option maxRecDepth 65536 in
theorem w_case : (Jvm.Cond.and given_1 narrow_1).before args0 about1 = true := by decide +kernel
theorem w_applies : (headSpec (Jvm.Cond.code x code maxLocals ret :: tables_1) room_1).applies x e0.platform about1 = true :=
  (Spec.applies_iff w_frames).mpr ⟨w_running, w_runnable, w_alone, w_named, w_hears, w_ripe, w_room, w_tables⟩
theorem atStart : AtStart classFile x code maxLocals ret World_1 tables_1 room_1 Calls_1 rest_1 Pre_1 launch0 p0 e0 about1 theMethod args0 below0 :=
  ⟨lists_1, trivial, launch0.admits_env _ _ _, launch0.least_env, fairChoices_fair.cas, fairChoices_fair.clock, w_frames, w_args, w_heap, w_applies, trivial, trivial, w_case⟩
end start1
theorem witness_1 : WitnessClaimed_1 := ⟨start1.p0, start1.e0, start1.about1, start1.theMethod, start1.args0, start1.below0, start1.atStart⟩
end Jvm.Pilot.@@N@@
