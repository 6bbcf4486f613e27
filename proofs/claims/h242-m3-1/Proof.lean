import JvmDerived
import JvmDerived.Pilot.@@N@@Statement
import JvmDerived.Pilot.@@N@@Code
set_option linter.unusedVariables false
set_option linter.unusedSimpArgs false
namespace Jvm.RoadKit
open Sem ClassFile Op Lib Jvm.Stand Jvm.Free Jvm.LawKit
section New
variable {p : Program} {l : Launch} {e : Env} {R : Room} {s : State} {m : MethodId} {args : Array Value} {below : List Frame} {meth : Method} {c : Code} {T : State} {locs : List Loc} {cells slots : Nat}
theorem retI (X : Stand p l e R s m args below meth c T locs cells slots) (hx : p.tables.exec = Jvm.exec) {pc : Nat} {Ls : Array Slot} {z : Int32} {rest : List Value} (hret : meth.sig.returnType = some .int) (hd : decode c.code pc = .ok (.ireturn, 1)) {fs : List Frame}
    (hl : ∀ (f : JFrame) (acts : List Action), f.method = m → f.locked = none → f.entered = [] → (doReturn e (T.setTop f) acts (some (.int z))).1 = T.setFrames fs) : Steps p.tables e below (T.setTop (mkF m pc Ls (.int z :: rest))) (T.setFrames fs) := by
  have hm' : T.vm.method? m = some meth := X.method'
  have hn : narrow .int (.int z) = .int z := rfl
  show Steps p.tables e below (T.setTop { method := m, pc := pc, locals := Ls, stack := _ :: rest, locked := none }) _
  jvm_step X.here [X.here.top, hx, hd, hm', hret, hn]
  first | (intro acts; rw [hl _ acts rfl rfl rfl]) | rw [hl _ _ rfl rfl rfl]
  exact Steps.refl _
theorem retL (X : Stand p l e R s m args below meth c T locs cells slots) (hx : p.tables.exec = Jvm.exec) {pc : Nat} {Ls : Array Slot} {z : Int64} {rest : List Value} (hret : meth.sig.returnType = some .long) (hd : decode c.code pc = .ok (.lreturn, 1)) {fs : List Frame}
    (hl : ∀ (f : JFrame) (acts : List Action), f.method = m → f.locked = none → f.entered = [] → (doReturn e (T.setTop f) acts (some (.long z))).1 = T.setFrames fs) : Steps p.tables e below (T.setTop (mkF m pc Ls (.long z :: rest))) (T.setFrames fs) := by
  have hm' : T.vm.method? m = some meth := X.method'
  have hn : narrow .long (.long z) = .long z := rfl
  show Steps p.tables e below (T.setTop { method := m, pc := pc, locals := Ls, stack := _ :: rest, locked := none }) _
  jvm_step X.here [X.here.top, hx, hd, hm', hret, hn]
  first | (intro acts; rw [hl _ acts rfl rfl rfl]) | rw [hl _ _ rfl rfl rfl]
  exact Steps.refl _
end New
end Jvm.RoadKit
namespace Jvm.Pilot.@@N@@
open Jvm Jvm.ClassFile Sem Op Lib Jvm.Free Jvm.Stand Jvm.LawKit Jvm.RoadKit Bundle Jvm.Pilot.@@N@@.Jvm.D
def own_min (q1 : Int64) (q2 : Int64) : Int64 := (if q2 < q1 then q2 else q1)
theorem d3_0 : decode jdk_29_method_70_code 0 = .ok (.lload_n 0, 1) := by decide +kernel
theorem d3_1 : decode jdk_29_method_70_code 1 = .ok (.lload_n 2, 1) := by decide +kernel
theorem d3_2 : decode jdk_29_method_70_code 2 = .ok (.lcmp, 1) := by decide +kernel
theorem d3_3 : decode jdk_29_method_70_code 3 = .ok (.ifCond .gt 7, 3) := by decide +kernel
theorem d3_6 : decode jdk_29_method_70_code 6 = .ok (.lload_n 0, 1) := by decide +kernel
theorem d3_7 : decode jdk_29_method_70_code 7 = .ok (.goto 4, 3) := by decide +kernel
theorem d3_10 : decode jdk_29_method_70_code 10 = .ok (.lload_n 2, 1) := by decide +kernel
theorem d3_11 : decode jdk_29_method_70_code 11 = .ok (.lreturn, 1) := by decide +kernel
theorem ef_3 (m : MethodId) (x0 : Int64) (x1 : Int64) : entryFrame m #[(.long x0), (.long x1)] 4 = mkF m 0 #[.val (.long x0), .second, .val (.long x1), .second] [] := by first | (simp [entryFrame, mkF, argsToLocals, Value.category]; done) | rfl
def Q3 (Z : State) (q1 : Int64) (q2 : Int64) (h0 : Heap) (n0 : Nat) (v : Option Value) (h : Heap) (L : List Loc) : Prop := v = some (.long (own_min q1 q2)) ∧ Fr n0 L ∧ h = h0
set_option maxRecDepth 65536 in
set_option maxHeartbeats 40000000 in
theorem rm3 (l : Launch) (Z : State) (a0 : Array Value) (hw : ∀ d ∈ tables_1, d.before a0 Z = true) (ws : List Jvm.Cond) (q1 : Int64) (q2 : Int64) (h0 : Heap) (n0 : Nat) (Z0 : n0 ≤ h0.size)  :
    MetFree l (⟨"java/lang/Math", "min", "(JJ)J"⟩ : MethodName) (head1 (Jvm.Cond.code (⟨"java/lang/Math", "min", "(JJ)J"⟩ : MethodName) jdk_29_method_70_code 4 (some .long) :: ws) ({ frames := 0, cells := 0, slots := 0, locals := 0 } : Room)) (fun a U => a = #[(.long q1), (.long q2)] ∧ Z.Warmed39 U.vm ∧ U.heap = h0) (fun _ _ _ _ _ => True) (fun _ U o U' => ∃ v L, o = .returned v ∧ Q3 Z q1 q2 h0 n0 v U'.heap L ∧ FrameEnd U o U' L ({ frames := 0, cells := 0, slots := 0, locals := 0 } : Room).cells ({ frames := 0, cells := 0, slots := 0, locals := 0 } : Room).slots) := by
  refine MetFree.of_bodySF (Jvm.Free.JP.mathPlain rfl (by decide +kernel)) hisR ?_
  intro p e s m args below meth c s₁ Bd hml0 hP hK
  obtain ⟨rfl, hZ, hh⟩ := hP
  have hx := Bd.exec
  have hby := Bd.bytes
  have hml : c.maxLocals = 4 := hml0
  have hown : s.vm.findClass "java/lang/Math" = some m.cls := findClass_of_methodNamed Bd.named
  have hnm := (name_of_methodNamed Bd.named Bd.method).1
  have X0 : Stand p l e ({ frames := 0, cells := 0, slots := 0, locals := 0 } : Room) s m #[(.long q1), (.long q2)] below meth c s₁ [] 0 0 := Stand.of_body Bd
  have e0 : s₁.heap = h0 := by rw [← hh, Bd.state]; rfl
  have N0 := Fr.nil n0
  have pre0 : ∀ t, Steps p.tables e below (s₁.setTop (mkF m 0 #[.val (.long q1), .second, .val (.long q2), .second] [])) t → Steps p.tables e below (s₁.setTop (entryFrame m #[(.long q1), (.long q2)] 4)) t := fun t k => castTop (ef_3 m q1 q2) k
  have pre1 : ∀ t, Steps p.tables e below (s₁.setTop (mkF m 3 #[.val (.long q1), .second, .val (.long q2), .second] [(.int (lcmpW q1 q2))])) t → Steps p.tables e below (s₁.setTop (entryFrame m #[(.long q1), (.long q2)] 4)) t := fun t k => pre0 t (by
      show Steps p.tables e below (s₁.setTop (mkF m 0 #[.val (.long q1), .second, .val (.long q2), .second] [])) _
      refine XS.lloadN X0.here hx rfl (hb hby d3_0) rfl ?_
      show Steps p.tables e below (s₁.setTop (mkF m 1 #[.val (.long q1), .second, .val (.long q2), .second] [(.long q1)])) _
      refine XS.lloadN X0.here hx rfl (hb hby d3_1) rfl ?_
      show Steps p.tables e below (s₁.setTop (mkF m 2 #[.val (.long q1), .second, .val (.long q2), .second] [(.long q2), (.long q1)])) _
      refine XS.lcmp X0.here hx rfl (hb hby d3_2) rfl ?_
      exact k)
  by_cases hc3_2 : q2 < q1
  · obtain ⟨fs, hr, hrun, hended, hW, hsame⟩ := X0.leave (v := some (.long q2)) (fun h => by rw [Bd.returns] at h; cases h)
    refine ⟨_, _, pre1 _ ?_, hrun, hended, _, _, rfl, ?_, ⟨_, rfl⟩, hW, hsame.mono (by decide) (by decide)⟩
    · show Steps p.tables e below (s₁.setTop (mkF m 3 #[.val (.long q1), .second, .val (.long q2), .second] [(.int (lcmpW q1 q2))])) _
      refine XS.ifYes X0.here hx rfl (pc0 := 3) (pc' := 10) rfl (hb hby d3_3) rfl ((if0 _ _).trans (tlt ((lw_gt _ _).mpr hc3_2)).2.2.1) (by decide) (by decide) ?_
      show Steps p.tables e below (s₁.setTop (mkF m 10 #[.val (.long q1), .second, .val (.long q2), .second] [])) _
      refine XS.lloadN X0.here hx rfl (hb hby d3_10) rfl ?_
      show Steps p.tables e below (s₁.setTop (mkF m 11 #[.val (.long q1), .second, .val (.long q2), .second] [(.long q2)])) _
      exact retL X0 hx Bd.returns (hb hby d3_11) hr
    · show Q3 Z q1 q2 h0 n0 _ s₁.heap _
      rw [e0]
      exact ⟨(congrArg (fun z => some (Value.long z)) (by simp only [own_min, if_pos hc3_2] : q2 = (own_min q1 q2))), N0, rfl⟩
  · obtain ⟨fs, hr, hrun, hended, hW, hsame⟩ := X0.leave (v := some (.long q1)) (fun h => by rw [Bd.returns] at h; cases h)
    refine ⟨_, _, pre1 _ ?_, hrun, hended, _, _, rfl, ?_, ⟨_, rfl⟩, hW, hsame.mono (by decide) (by decide)⟩
    · show Steps p.tables e below (s₁.setTop (mkF m 3 #[.val (.long q1), .second, .val (.long q2), .second] [(.int (lcmpW q1 q2))])) _
      refine XS.ifNo X0.here hx rfl (hb hby d3_3) rfl ((if0 _ _).trans (flt (mt (lw_gt _ _).mp hc3_2)).2.2.1) ?_
      show Steps p.tables e below (s₁.setTop (mkF m 6 #[.val (.long q1), .second, .val (.long q2), .second] [])) _
      refine XS.lloadN X0.here hx rfl (hb hby d3_6) rfl ?_
      show Steps p.tables e below (s₁.setTop (mkF m 7 #[.val (.long q1), .second, .val (.long q2), .second] [(.long q1)])) _
      refine XS.goto X0.here hx rfl (pc0 := 7) (pc' := 11) rfl (hb hby d3_7) (by decide) (by decide) ?_
      show Steps p.tables e below (s₁.setTop (mkF m 11 #[.val (.long q1), .second, .val (.long q2), .second] [(.long q1)])) _
      exact retL X0 hx Bd.returns (hb hby d3_11) hr
    · show Q3 Z q1 q2 h0 n0 _ s₁.heap _
      rw [e0]
      exact ⟨(congrArg (fun z => some (Value.long z)) (by simp only [own_min, if_neg hc3_2] : q1 = (own_min q1 q2))), N0, rfl⟩
def own_earlier (q1 : Int64) (q2 : Int64) : Int64 := (if q2 = (-9223372036854775808 : Int64) then q1 else (if q1 = (-9223372036854775808 : Int64) then q2 else (if q2 < q1 then q2 else q1)))
theorem d1_0 : decode prog_155_method_3_code 0 = .ok (.lload_n 2, 1) := by decide +kernel
theorem d1_1 : decode prog_155_method_3_code 1 = .ok (.ldc2_w 5, 3) := by decide +kernel
theorem d1_4 : decode prog_155_method_3_code 4 = .ok (.lcmp, 1) := by decide +kernel
theorem d1_5 : decode prog_155_method_3_code 5 = .ok (.ifCond .eq 21, 3) := by decide +kernel
theorem d1_8 : decode prog_155_method_3_code 8 = .ok (.lload_n 0, 1) := by decide +kernel
theorem d1_9 : decode prog_155_method_3_code 9 = .ok (.ldc2_w 5, 3) := by decide +kernel
theorem d1_12 : decode prog_155_method_3_code 12 = .ok (.lcmp, 1) := by decide +kernel
theorem d1_13 : decode prog_155_method_3_code 13 = .ok (.ifCond .eq 9, 3) := by decide +kernel
theorem d1_16 : decode prog_155_method_3_code 16 = .ok (.lload_n 2, 1) := by decide +kernel
theorem d1_17 : decode prog_155_method_3_code 17 = .ok (.lload_n 0, 1) := by decide +kernel
theorem d1_18 : decode prog_155_method_3_code 18 = .ok (.lcmp, 1) := by decide +kernel
theorem d1_19 : decode prog_155_method_3_code 19 = .ok (.ifCond .ge 7, 3) := by decide +kernel
theorem d1_22 : decode prog_155_method_3_code 22 = .ok (.lload_n 2, 1) := by decide +kernel
theorem d1_23 : decode prog_155_method_3_code 23 = .ok (.goto 4, 3) := by decide +kernel
theorem d1_26 : decode prog_155_method_3_code 26 = .ok (.lload_n 0, 1) := by decide +kernel
theorem d1_27 : decode prog_155_method_3_code 27 = .ok (.lreturn, 1) := by decide +kernel
theorem pn_1 : plainName "org/millrace/engine/Window" = true := by first | (simp [plainName, overriddenIn]; done) | decide +kernel
theorem ef_1 (m : MethodId) (x0 : Int64) (x1 : Int64) : entryFrame m #[(.long x0), (.long x1)] 4 = mkF m 0 #[.val (.long x0), .second, .val (.long x1), .second] [] := by first | (simp [entryFrame, mkF, argsToLocals, Value.category]; done) | rfl
def Q1 (Z : State) (q1 : Int64) (q2 : Int64) (h0 : Heap) (n0 : Nat) (v : Option Value) (h : Heap) (L : List Loc) : Prop := v = some (.long (own_earlier q1 q2)) ∧ Fr n0 L ∧ h = h0
set_option maxRecDepth 65536 in
set_option maxHeartbeats 40000000 in
theorem rm1 (l : Launch) (Z : State) (a0 : Array Value) (hw : ∀ d ∈ tables_1, d.before a0 Z = true) (ws : List Jvm.Cond) (q1 : Int64) (q2 : Int64) (h0 : Heap) (n0 : Nat) (Z0 : n0 ≤ h0.size)  :
    MetFree l (⟨"org/millrace/engine/Window", "earlier", "(JJ)J"⟩ : MethodName) (head1 (Jvm.Cond.code (⟨"org/millrace/engine/Window", "earlier", "(JJ)J"⟩ : MethodName) prog_155_method_3_code 4 (some .long) :: ws) ({ frames := 0, cells := 0, slots := 0, locals := 0 } : Room)) (fun a U => a = #[(.long q1), (.long q2)] ∧ Z.Warmed39 U.vm ∧ U.heap = h0) (fun _ _ _ _ _ => True) (fun _ U o U' => ∃ v L, o = .returned v ∧ Q1 Z q1 q2 h0 n0 v U'.heap L ∧ FrameEnd U o U' L ({ frames := 0, cells := 0, slots := 0, locals := 0 } : Room).cells ({ frames := 0, cells := 0, slots := 0, locals := 0 } : Room).slots) := by
  refine MetFree.of_bodySF (plainFor_of_name pn_1) hisR ?_
  intro p e s m args below meth c s₁ Bd hml0 hP hK
  obtain ⟨rfl, hZ, hh⟩ := hP
  have hx := Bd.exec
  have hby := Bd.bytes
  have hml : c.maxLocals = 4 := hml0
  have hown : s.vm.findClass "org/millrace/engine/Window" = some m.cls := findClass_of_methodNamed Bd.named
  have hnm := (name_of_methodNamed Bd.named Bd.method).1
  have X0 : Stand p l e ({ frames := 0, cells := 0, slots := 0, locals := 0 } : Room) s m #[(.long q1), (.long q2)] below meth c s₁ [] 0 0 := Stand.of_body Bd
  have e0 : s₁.heap = h0 := by rw [← hh, Bd.state]; rfl
  have N0 := Fr.nil n0
  have pre0 : ∀ t, Steps p.tables e below (s₁.setTop (mkF m 0 #[.val (.long q1), .second, .val (.long q2), .second] [])) t → Steps p.tables e below (s₁.setTop (entryFrame m #[(.long q1), (.long q2)] 4)) t := fun t k => castTop (ef_1 m q1 q2) k
  have pre3 : ∀ t, Steps p.tables e below (s₁.setTop (mkF m 5 #[.val (.long q1), .second, .val (.long q2), .second] [(.int (lcmpW q2 (-9223372036854775808 : Int64)))])) t → Steps p.tables e below (s₁.setTop (entryFrame m #[(.long q1), (.long q2)] 4)) t := fun t k => pre0 t (by
      show Steps p.tables e below (s₁.setTop (mkF m 0 #[.val (.long q1), .second, .val (.long q2), .second] [])) _
      refine XS.lloadN X0.here hx rfl (hb hby d1_0) rfl ?_
      show Steps p.tables e below (s₁.setTop (mkF m 1 #[.val (.long q1), .second, .val (.long q2), .second] [(.long q2)])) _
      refine X0.ldc2Long hx hown (mvT hZ (hw _ (List.mem_of_getElem? (i := 4) rfl))) (g := (mkF m 1 #[.val (.long q1), .second, .val (.long q2), .second] [(.long q2)])) rfl (hb hby d1_1) _ ?_
      show Steps p.tables e below (s₁.setTop (mkF m 4 #[.val (.long q1), .second, .val (.long q2), .second] [(.long (-9223372036854775808 : Int64)), (.long q2)])) _
      refine XS.lcmp X0.here hx rfl (hb hby d1_4) rfl ?_
      exact k)
  by_cases hc5_4 : q2 = (-9223372036854775808 : Int64)
  · obtain ⟨fs, hr, hrun, hended, hW, hsame⟩ := X0.leave (v := some (.long q1)) (fun h => by rw [Bd.returns] at h; cases h)
    refine ⟨_, _, pre3 _ ?_, hrun, hended, _, _, rfl, ?_, ⟨_, rfl⟩, hW, hsame.mono (by decide) (by decide)⟩
    · show Steps p.tables e below (s₁.setTop (mkF m 5 #[.val (.long q1), .second, .val (.long q2), .second] [(.int (lcmpW q2 (-9223372036854775808 : Int64)))])) _
      refine XS.ifYes X0.here hx rfl (pc0 := 5) (pc' := 26) rfl (hb hby d1_5) rfl ((if0 _ _).trans (teq ((lw_eq _ _).mpr hc5_4)).1) (by decide) (by decide) ?_
      show Steps p.tables e below (s₁.setTop (mkF m 26 #[.val (.long q1), .second, .val (.long q2), .second] [])) _
      refine XS.lloadN X0.here hx rfl (hb hby d1_26) rfl ?_
      show Steps p.tables e below (s₁.setTop (mkF m 27 #[.val (.long q1), .second, .val (.long q2), .second] [(.long q1)])) _
      exact retL X0 hx Bd.returns (hb hby d1_27) hr
    · show Q1 Z q1 q2 h0 n0 _ s₁.heap _
      rw [e0]
      exact ⟨(congrArg (fun z => some (Value.long z)) (by simp only [own_earlier, if_pos hc5_4] : q1 = (own_earlier q1 q2))), N0, rfl⟩
  · have pre5 : ∀ t, Steps p.tables e below (s₁.setTop (mkF m 13 #[.val (.long q1), .second, .val (.long q2), .second] [(.int (lcmpW q1 (-9223372036854775808 : Int64)))])) t → Steps p.tables e below (s₁.setTop (entryFrame m #[(.long q1), (.long q2)] 4)) t := fun t k => pre3 t (by
        show Steps p.tables e below (s₁.setTop (mkF m 5 #[.val (.long q1), .second, .val (.long q2), .second] [(.int (lcmpW q2 (-9223372036854775808 : Int64)))])) _
        refine XS.ifNo X0.here hx rfl (hb hby d1_5) rfl ((if0 _ _).trans (feq (mt (lw_eq _ _).mp hc5_4)).1) ?_
        show Steps p.tables e below (s₁.setTop (mkF m 8 #[.val (.long q1), .second, .val (.long q2), .second] [])) _
        refine XS.lloadN X0.here hx rfl (hb hby d1_8) rfl ?_
        show Steps p.tables e below (s₁.setTop (mkF m 9 #[.val (.long q1), .second, .val (.long q2), .second] [(.long q1)])) _
        refine X0.ldc2Long hx hown (mvT hZ (hw _ (List.mem_of_getElem? (i := 4) rfl))) (g := (mkF m 9 #[.val (.long q1), .second, .val (.long q2), .second] [(.long q1)])) rfl (hb hby d1_9) _ ?_
        show Steps p.tables e below (s₁.setTop (mkF m 12 #[.val (.long q1), .second, .val (.long q2), .second] [(.long (-9223372036854775808 : Int64)), (.long q1)])) _
        refine XS.lcmp X0.here hx rfl (hb hby d1_12) rfl ?_
        exact k)
    by_cases hc13_6 : q1 = (-9223372036854775808 : Int64)
    · obtain ⟨fs, hr, hrun, hended, hW, hsame⟩ := X0.leave (v := some (.long q2)) (fun h => by rw [Bd.returns] at h; cases h)
      refine ⟨_, _, pre5 _ ?_, hrun, hended, _, _, rfl, ?_, ⟨_, rfl⟩, hW, hsame.mono (by decide) (by decide)⟩
      · show Steps p.tables e below (s₁.setTop (mkF m 13 #[.val (.long q1), .second, .val (.long q2), .second] [(.int (lcmpW q1 (-9223372036854775808 : Int64)))])) _
        refine XS.ifYes X0.here hx rfl (pc0 := 13) (pc' := 22) rfl (hb hby d1_13) rfl ((if0 _ _).trans (teq ((lw_eq _ _).mpr hc13_6)).1) (by decide) (by decide) ?_
        show Steps p.tables e below (s₁.setTop (mkF m 22 #[.val (.long q1), .second, .val (.long q2), .second] [])) _
        refine XS.lloadN X0.here hx rfl (hb hby d1_22) rfl ?_
        show Steps p.tables e below (s₁.setTop (mkF m 23 #[.val (.long q1), .second, .val (.long q2), .second] [(.long q2)])) _
        refine XS.goto X0.here hx rfl (pc0 := 23) (pc' := 27) rfl (hb hby d1_23) (by decide) (by decide) ?_
        show Steps p.tables e below (s₁.setTop (mkF m 27 #[.val (.long q1), .second, .val (.long q2), .second] [(.long q2)])) _
        exact retL X0 hx Bd.returns (hb hby d1_27) hr
      · show Q1 Z q1 q2 h0 n0 _ s₁.heap _
        rw [e0]
        exact ⟨(congrArg (fun z => some (Value.long z)) (by simp only [own_earlier, if_neg hc5_4, if_pos hc13_6] : q2 = (own_earlier q1 q2))), N0, rfl⟩
    · have pre7 : ∀ t, Steps p.tables e below (s₁.setTop (mkF m 19 #[.val (.long q1), .second, .val (.long q2), .second] [(.int (lcmpW q2 q1))])) t → Steps p.tables e below (s₁.setTop (entryFrame m #[(.long q1), (.long q2)] 4)) t := fun t k => pre5 t (by
          show Steps p.tables e below (s₁.setTop (mkF m 13 #[.val (.long q1), .second, .val (.long q2), .second] [(.int (lcmpW q1 (-9223372036854775808 : Int64)))])) _
          refine XS.ifNo X0.here hx rfl (hb hby d1_13) rfl ((if0 _ _).trans (feq (mt (lw_eq _ _).mp hc13_6)).1) ?_
          show Steps p.tables e below (s₁.setTop (mkF m 16 #[.val (.long q1), .second, .val (.long q2), .second] [])) _
          refine XS.lloadN X0.here hx rfl (hb hby d1_16) rfl ?_
          show Steps p.tables e below (s₁.setTop (mkF m 17 #[.val (.long q1), .second, .val (.long q2), .second] [(.long q2)])) _
          refine XS.lloadN X0.here hx rfl (hb hby d1_17) rfl ?_
          show Steps p.tables e below (s₁.setTop (mkF m 18 #[.val (.long q1), .second, .val (.long q2), .second] [(.long q1), (.long q2)])) _
          refine XS.lcmp X0.here hx rfl (hb hby d1_18) rfl ?_
          exact k)
      by_cases hc19_8 : q2 < q1
      · obtain ⟨fs, hr, hrun, hended, hW, hsame⟩ := X0.leave (v := some (.long q2)) (fun h => by rw [Bd.returns] at h; cases h)
        refine ⟨_, _, pre7 _ ?_, hrun, hended, _, _, rfl, ?_, ⟨_, rfl⟩, hW, hsame.mono (by decide) (by decide)⟩
        · show Steps p.tables e below (s₁.setTop (mkF m 19 #[.val (.long q1), .second, .val (.long q2), .second] [(.int (lcmpW q2 q1))])) _
          refine XS.ifNo X0.here hx rfl (hb hby d1_19) rfl ((if0 _ _).trans (tlt ((lw_lt _ _).mpr hc19_8)).2.1) ?_
          show Steps p.tables e below (s₁.setTop (mkF m 22 #[.val (.long q1), .second, .val (.long q2), .second] [])) _
          refine XS.lloadN X0.here hx rfl (hb hby d1_22) rfl ?_
          show Steps p.tables e below (s₁.setTop (mkF m 23 #[.val (.long q1), .second, .val (.long q2), .second] [(.long q2)])) _
          refine XS.goto X0.here hx rfl (pc0 := 23) (pc' := 27) rfl (hb hby d1_23) (by decide) (by decide) ?_
          show Steps p.tables e below (s₁.setTop (mkF m 27 #[.val (.long q1), .second, .val (.long q2), .second] [(.long q2)])) _
          exact retL X0 hx Bd.returns (hb hby d1_27) hr
        · show Q1 Z q1 q2 h0 n0 _ s₁.heap _
          rw [e0]
          exact ⟨(congrArg (fun z => some (Value.long z)) (by simp only [own_earlier, if_neg hc5_4, if_neg hc13_6, if_pos hc19_8] : q2 = (own_earlier q1 q2))), N0, rfl⟩
      · obtain ⟨fs, hr, hrun, hended, hW, hsame⟩ := X0.leave (v := some (.long q1)) (fun h => by rw [Bd.returns] at h; cases h)
        refine ⟨_, _, pre7 _ ?_, hrun, hended, _, _, rfl, ?_, ⟨_, rfl⟩, hW, hsame.mono (by decide) (by decide)⟩
        · show Steps p.tables e below (s₁.setTop (mkF m 19 #[.val (.long q1), .second, .val (.long q2), .second] [(.int (lcmpW q2 q1))])) _
          refine XS.ifYes X0.here hx rfl (pc0 := 19) (pc' := 26) rfl (hb hby d1_19) rfl ((if0 _ _).trans (flt (mt (lw_lt _ _).mp hc19_8)).2.1) (by decide) (by decide) ?_
          show Steps p.tables e below (s₁.setTop (mkF m 26 #[.val (.long q1), .second, .val (.long q2), .second] [])) _
          refine XS.lloadN X0.here hx rfl (hb hby d1_26) rfl ?_
          show Steps p.tables e below (s₁.setTop (mkF m 27 #[.val (.long q1), .second, .val (.long q2), .second] [(.long q1)])) _
          exact retL X0 hx Bd.returns (hb hby d1_27) hr
        · show Q1 Z q1 q2 h0 n0 _ s₁.heap _
          rw [e0]
          exact ⟨(congrArg (fun z => some (Value.long z)) (by simp only [own_earlier, if_neg hc5_4, if_neg hc13_6, if_neg hc19_8] : q1 = (own_earlier q1 q2))), N0, rfl⟩
def own_ref (q1 : Int64) (q2 : Int64) : Int64 := (if q1 = (-9223372036854775808 : Int64) then q2 else (if q2 = (-9223372036854775808 : Int64) then q1 else (own_min q1 q2)))
theorem d2_0 : decode method_2_code 0 = .ok (.lload_n 0, 1) := by decide +kernel
theorem d2_1 : decode method_2_code 1 = .ok (.ldc2_w 9, 3) := by decide +kernel
theorem d2_4 : decode method_2_code 4 = .ok (.lcmp, 1) := by decide +kernel
theorem d2_5 : decode method_2_code 5 = .ok (.ifCond .ne 5, 3) := by decide +kernel
theorem d2_8 : decode method_2_code 8 = .ok (.lload_n 2, 1) := by decide +kernel
theorem d2_9 : decode method_2_code 9 = .ok (.lreturn, 1) := by decide +kernel
theorem d2_10 : decode method_2_code 10 = .ok (.lload_n 2, 1) := by decide +kernel
theorem d2_11 : decode method_2_code 11 = .ok (.ldc2_w 9, 3) := by decide +kernel
theorem d2_14 : decode method_2_code 14 = .ok (.lcmp, 1) := by decide +kernel
theorem d2_15 : decode method_2_code 15 = .ok (.ifCond .ne 5, 3) := by decide +kernel
theorem d2_18 : decode method_2_code 18 = .ok (.lload_n 0, 1) := by decide +kernel
theorem d2_19 : decode method_2_code 19 = .ok (.lreturn, 1) := by decide +kernel
theorem d2_20 : decode method_2_code 20 = .ok (.lload_n 0, 1) := by decide +kernel
theorem d2_21 : decode method_2_code 21 = .ok (.lload_n 2, 1) := by decide +kernel
theorem d2_22 : decode method_2_code 22 = .ok (.invokestatic 11, 3) := by decide +kernel
theorem d2_25 : decode method_2_code 25 = .ok (.lreturn, 1) := by decide +kernel
theorem pn_2 : plainName "org/millrace/engine/WindowEarlierPinLaw" = true := by first | (simp [plainName, overriddenIn]; done) | decide +kernel
theorem ef_2 (m : MethodId) (x0 : Int64) (x1 : Int64) : entryFrame m #[(.long x0), (.long x1)] 4 = mkF m 0 #[.val (.long x0), .second, .val (.long x1), .second] [] := by first | (simp [entryFrame, mkF, argsToLocals, Value.category]; done) | rfl
def Q2 (Z : State) (q1 : Int64) (q2 : Int64) (h0 : Heap) (n0 : Nat) (v : Option Value) (h : Heap) (L : List Loc) : Prop := v = some (.long (own_ref q1 q2)) ∧ Fr n0 L ∧ h = h0
theorem pd_0 : parseMethodDescriptor "(JJ)J" = some ⟨[.long, .long], some .long⟩ := by decide +kernel
set_option maxRecDepth 65536 in
set_option maxHeartbeats 40000000 in
theorem rm2 (l : Launch) (Z : State) (a0 : Array Value) (hw : ∀ d ∈ tables_1, d.before a0 Z = true) (ws : List Jvm.Cond) (q1 : Int64) (q2 : Int64) (h0 : Heap) (n0 : Nat) (Z0 : n0 ≤ h0.size)  :
    MetFree l (⟨"org/millrace/engine/WindowEarlierPinLaw", "reference", "(JJ)J"⟩ : MethodName) (head1 (Jvm.Cond.code (⟨"org/millrace/engine/WindowEarlierPinLaw", "reference", "(JJ)J"⟩ : MethodName) method_2_code 4 (some .long) :: ws) ({ frames := 1, cells := 0, slots := 0, locals := 15 } : Room)) (fun a U => a = #[(.long q1), (.long q2)] ∧ Z.Warmed39 U.vm ∧ U.heap = h0) (fun _ _ _ _ _ => True) (fun _ U o U' => ∃ v L, o = .returned v ∧ Q2 Z q1 q2 h0 n0 v U'.heap L ∧ FrameEnd U o U' L ({ frames := 1, cells := 0, slots := 0, locals := 15 } : Room).cells ({ frames := 1, cells := 0, slots := 0, locals := 15 } : Room).slots) := by
  refine MetFree.of_bodySF (plainFor_of_name pn_2) hisR ?_
  intro p e s m args below meth c s₁ Bd hml0 hP hK
  obtain ⟨rfl, hZ, hh⟩ := hP
  have hx := Bd.exec
  have hby := Bd.bytes
  have hml : c.maxLocals = 4 := hml0
  have hown : s.vm.findClass "org/millrace/engine/WindowEarlierPinLaw" = some m.cls := findClass_of_methodNamed Bd.named
  have hnm := (name_of_methodNamed Bd.named Bd.method).1
  have X0 : Stand p l e ({ frames := 1, cells := 0, slots := 0, locals := 15 } : Room) s m #[(.long q1), (.long q2)] below meth c s₁ [] 0 0 := Stand.of_body Bd
  have e0 : s₁.heap = h0 := by rw [← hh, Bd.state]; rfl
  have N0 := Fr.nil n0
  have pre0 : ∀ t, Steps p.tables e below (s₁.setTop (mkF m 0 #[.val (.long q1), .second, .val (.long q2), .second] [])) t → Steps p.tables e below (s₁.setTop (entryFrame m #[(.long q1), (.long q2)] 4)) t := fun t k => castTop (ef_2 m q1 q2) k
  have pre9 : ∀ t, Steps p.tables e below (s₁.setTop (mkF m 5 #[.val (.long q1), .second, .val (.long q2), .second] [(.int (lcmpW q1 (-9223372036854775808 : Int64)))])) t → Steps p.tables e below (s₁.setTop (entryFrame m #[(.long q1), (.long q2)] 4)) t := fun t k => pre0 t (by
      show Steps p.tables e below (s₁.setTop (mkF m 0 #[.val (.long q1), .second, .val (.long q2), .second] [])) _
      refine XS.lloadN X0.here hx rfl (hb hby d2_0) rfl ?_
      show Steps p.tables e below (s₁.setTop (mkF m 1 #[.val (.long q1), .second, .val (.long q2), .second] [(.long q1)])) _
      refine X0.ldc2Long hx hown (mvT hZ (hw _ (List.mem_of_getElem? (i := 9) rfl))) (g := (mkF m 1 #[.val (.long q1), .second, .val (.long q2), .second] [(.long q1)])) rfl (hb hby d2_1) _ ?_
      show Steps p.tables e below (s₁.setTop (mkF m 4 #[.val (.long q1), .second, .val (.long q2), .second] [(.long (-9223372036854775808 : Int64)), (.long q1)])) _
      refine XS.lcmp X0.here hx rfl (hb hby d2_4) rfl ?_
      exact k)
  by_cases hc5_10 : q1 = (-9223372036854775808 : Int64)
  · obtain ⟨fs, hr, hrun, hended, hW, hsame⟩ := X0.leave (v := some (.long q2)) (fun h => by rw [Bd.returns] at h; cases h)
    refine ⟨_, _, pre9 _ ?_, hrun, hended, _, _, rfl, ?_, ⟨_, rfl⟩, hW, hsame.mono (by decide) (by decide)⟩
    · show Steps p.tables e below (s₁.setTop (mkF m 5 #[.val (.long q1), .second, .val (.long q2), .second] [(.int (lcmpW q1 (-9223372036854775808 : Int64)))])) _
      refine XS.ifNo X0.here hx rfl (hb hby d2_5) rfl ((if0 _ _).trans (teq ((lw_eq _ _).mpr hc5_10)).2) ?_
      show Steps p.tables e below (s₁.setTop (mkF m 8 #[.val (.long q1), .second, .val (.long q2), .second] [])) _
      refine XS.lloadN X0.here hx rfl (hb hby d2_8) rfl ?_
      show Steps p.tables e below (s₁.setTop (mkF m 9 #[.val (.long q1), .second, .val (.long q2), .second] [(.long q2)])) _
      exact retL X0 hx Bd.returns (hb hby d2_9) hr
    · show Q2 Z q1 q2 h0 n0 _ s₁.heap _
      rw [e0]
      exact ⟨(congrArg (fun z => some (Value.long z)) (by simp only [own_ref, if_pos hc5_10] : q2 = (own_ref q1 q2))), N0, rfl⟩
  · have pre11 : ∀ t, Steps p.tables e below (s₁.setTop (mkF m 15 #[.val (.long q1), .second, .val (.long q2), .second] [(.int (lcmpW q2 (-9223372036854775808 : Int64)))])) t → Steps p.tables e below (s₁.setTop (entryFrame m #[(.long q1), (.long q2)] 4)) t := fun t k => pre9 t (by
        show Steps p.tables e below (s₁.setTop (mkF m 5 #[.val (.long q1), .second, .val (.long q2), .second] [(.int (lcmpW q1 (-9223372036854775808 : Int64)))])) _
        refine XS.ifYes X0.here hx rfl (pc0 := 5) (pc' := 10) rfl (hb hby d2_5) rfl ((if0 _ _).trans (feq (mt (lw_eq _ _).mp hc5_10)).2) (by decide) (by decide) ?_
        show Steps p.tables e below (s₁.setTop (mkF m 10 #[.val (.long q1), .second, .val (.long q2), .second] [])) _
        refine XS.lloadN X0.here hx rfl (hb hby d2_10) rfl ?_
        show Steps p.tables e below (s₁.setTop (mkF m 11 #[.val (.long q1), .second, .val (.long q2), .second] [(.long q2)])) _
        refine X0.ldc2Long hx hown (mvT hZ (hw _ (List.mem_of_getElem? (i := 9) rfl))) (g := (mkF m 11 #[.val (.long q1), .second, .val (.long q2), .second] [(.long q2)])) rfl (hb hby d2_11) _ ?_
        show Steps p.tables e below (s₁.setTop (mkF m 14 #[.val (.long q1), .second, .val (.long q2), .second] [(.long (-9223372036854775808 : Int64)), (.long q2)])) _
        refine XS.lcmp X0.here hx rfl (hb hby d2_14) rfl ?_
        exact k)
    by_cases hc15_12 : q2 = (-9223372036854775808 : Int64)
    · obtain ⟨fs, hr, hrun, hended, hW, hsame⟩ := X0.leave (v := some (.long q1)) (fun h => by rw [Bd.returns] at h; cases h)
      refine ⟨_, _, pre11 _ ?_, hrun, hended, _, _, rfl, ?_, ⟨_, rfl⟩, hW, hsame.mono (by decide) (by decide)⟩
      · show Steps p.tables e below (s₁.setTop (mkF m 15 #[.val (.long q1), .second, .val (.long q2), .second] [(.int (lcmpW q2 (-9223372036854775808 : Int64)))])) _
        refine XS.ifNo X0.here hx rfl (hb hby d2_15) rfl ((if0 _ _).trans (teq ((lw_eq _ _).mpr hc15_12)).2) ?_
        show Steps p.tables e below (s₁.setTop (mkF m 18 #[.val (.long q1), .second, .val (.long q2), .second] [])) _
        refine XS.lloadN X0.here hx rfl (hb hby d2_18) rfl ?_
        show Steps p.tables e below (s₁.setTop (mkF m 19 #[.val (.long q1), .second, .val (.long q2), .second] [(.long q1)])) _
        exact retL X0 hx Bd.returns (hb hby d2_19) hr
      · show Q2 Z q1 q2 h0 n0 _ s₁.heap _
        rw [e0]
        exact ⟨(congrArg (fun z => some (Value.long z)) (by simp only [own_ref, if_neg hc5_10, if_pos hc15_12] : q1 = (own_ref q1 q2))), N0, rfl⟩
    · obtain ⟨_, _, ⟨T13, L13, k13, n13⟩, -, X13, ⟨Lc13, hQ13, l13, y13, z13⟩, st13⟩ := Jvm.LawKit.callS X0 hx (y := (⟨"java/lang/Math", "min", "(JJ)J"⟩ : MethodName)) hown (mvT hZ (hw _ (List.mem_of_getElem? (i := 10) rfl))) (mvT hZ (hw _ (List.mem_of_getElem? (i := 11) rfl))) (mvT hZ (hw _ (List.mem_of_getElem? (i := 12) rfl))) (mvT hZ (hw _ (List.mem_of_getElem? (i := 13) rfl))) (by decide) (backOf (W := 0) (rm3 l Z a0 hw [] q1 q2 h0 n0 Z0 ) hZ (hw _ (List.mem_of_getElem? (i := 13) rfl)) (hw _ (List.mem_of_getElem? (i := 12) rfl)) (by decide) (by decide)) (g := (mkF m 22 #[.val (.long q1), .second, .val (.long q2), .second] [(.long q2), (.long q1)])) rfl (by rw [hml]; rfl) (argsL := [(.long q1), (.long q2)]) (rest := []) (lenOf pd_0 rfl) rfl (by show 2 * 0 + _ ≤ _; exact Nat.le_of_eq rfl) (hb hby d2_22) (fun _ _ => ⟨rfl, e0, (by decide : 0 + 0 ≤ _), (by decide : 0 + 0 ≤ _)⟩)
      dsimp only [Pt.U, Pt.locs, Pt.cells, Pt.slots] at X13 l13 y13 z13 st13 hQ13
      subst l13 y13 z13
      obtain ⟨rfl, Nq13, e13⟩ := hQ13
      have N13 := Fr.app N0 Nq13
      obtain ⟨fs, hr, hrun, hended, hW, hsame⟩ := X13.leave (v := some (.long (own_min q1 q2))) (fun h => by rw [Bd.returns] at h; cases h)
      refine ⟨_, _, pre11 _ ?_, hrun, hended, _, _, rfl, ?_, ⟨_, rfl⟩, hW, hsame.mono (by decide) (by decide)⟩
      · show Steps p.tables e below (s₁.setTop (mkF m 15 #[.val (.long q1), .second, .val (.long q2), .second] [(.int (lcmpW q2 (-9223372036854775808 : Int64)))])) _
        refine XS.ifYes X0.here hx rfl (pc0 := 15) (pc' := 20) rfl (hb hby d2_15) rfl ((if0 _ _).trans (feq (mt (lw_eq _ _).mp hc15_12)).2) (by decide) (by decide) ?_
        show Steps p.tables e below (s₁.setTop (mkF m 20 #[.val (.long q1), .second, .val (.long q2), .second] [])) _
        refine XS.lloadN X0.here hx rfl (hb hby d2_20) rfl ?_
        show Steps p.tables e below (s₁.setTop (mkF m 21 #[.val (.long q1), .second, .val (.long q2), .second] [(.long q1)])) _
        refine XS.lloadN X0.here hx rfl (hb hby d2_21) rfl ?_
        show Steps p.tables e below (s₁.setTop (mkF m 22 #[.val (.long q1), .second, .val (.long q2), .second] [(.long q2), (.long q1)])) _
        refine st13 _ ?_
        show Steps p.tables e below (T13.setTop (mkF m 25 #[.val (.long q1), .second, .val (.long q2), .second] [(.long (own_min q1 q2))])) _
        exact retL X13 hx Bd.returns (hb hby d2_25) hr
      · show Q2 Z q1 q2 h0 n0 _ T13.heap _
        rw [e13]
        exact ⟨(congrArg (fun z => some (Value.long z)) (by simp only [own_ref, if_neg hc5_10, if_neg hc15_12] : (own_min q1 q2) = (own_ref q1 q2))), N13, rfl⟩
theorem own_same (a b : Int64) : own_earlier a b = own_ref a b := by
  simp only [own_earlier, own_ref, own_min]
  by_cases h1 : a = (-9223372036854775808 : Int64)
  · by_cases h2 : b = (-9223372036854775808 : Int64)
    · rw [if_pos h2, if_pos h1, h1, h2]
    · rw [if_neg h2, if_pos h1, if_pos h1]
  · by_cases h2 : b = (-9223372036854775808 : Int64)
    · rw [if_pos h2, if_neg h1, if_pos h2]
    · rw [if_neg h2, if_neg h1, if_neg h1, if_neg h2]
theorem ef_0 (m : MethodId) (x0 : Int64) (x1 : Int64) (x2 : Int32) : entryFrame m #[(.long x0), (.long x1), (.int x2)] maxLocals = mkF m 0 #[.val (.long x0), .second, .val (.long x1), .second, .val (.int x2), .unset, .unset, .unset, .unset, .unset, .unset] [] := by first | (simp [entryFrame, mkF, argsToLocals, Value.category, maxLocals]; done) | rfl
def Q0 (Z : State) (q1 : Int64) (q2 : Int64) (p3 : Int32) (h0 : Heap) (n0 : Nat) (v : Option Value) (h : Heap) (L : List Loc) : Prop := v = some (.int (1 : Int32)) ∧ Fr n0 L
set_option maxRecDepth 65536 in
set_option maxHeartbeats 40000000 in
theorem rm0 (l : Launch) (Z : State) (a0 : Array Value) (hw : ∀ d ∈ tables_1, d.before a0 Z = true) (ws : List Jvm.Cond) (q1 : Int64) (q2 : Int64) (p3 : Int32) (h0 : Heap) (n0 : Nat) (Z0 : n0 ≤ h0.size)  :
    MetFree l x (head1 (Jvm.Cond.code x code maxLocals ret :: ws) room_1) (fun a U => a = #[(.long q1), (.long q2), (.int p3)] ∧ Z.Warmed39 U.vm ∧ U.heap = h0) (fun _ _ _ _ _ => True) (fun _ U o U' => ∃ v L, o = .returned v ∧ Q0 Z q1 q2 p3 h0 n0 v U'.heap L ∧ FrameEnd U o U' L room_1.cells room_1.slots) := by
  refine MetFree.of_bodySF (plainFor_of_name pn_2) hisR ?_
  intro p e s m args below meth c s₁ Bd hml0 hP hK
  obtain ⟨rfl, hZ, hh⟩ := hP
  have hx := Bd.exec
  have hby := Bd.bytes
  have hml : c.maxLocals = 11 := hml0
  have hown : s.vm.findClass "org/millrace/engine/WindowEarlierPinLaw" = some m.cls := findClass_of_methodNamed Bd.named
  have hnm := (name_of_methodNamed Bd.named Bd.method).1
  have X0 : Stand p l e room_1 s m #[(.long q1), (.long q2), (.int p3)] below meth c s₁ [] 0 0 := Stand.of_body Bd
  have e0 : s₁.heap = h0 := by rw [← hh, Bd.state]; rfl
  have N0 := Fr.nil n0
  have pre0 : ∀ t, Steps p.tables e below (s₁.setTop (mkF m 0 #[.val (.long q1), .second, .val (.long q2), .second, .val (.int p3), .unset, .unset, .unset, .unset, .unset, .unset] [])) t → Steps p.tables e below (s₁.setTop (entryFrame m #[(.long q1), (.long q2), (.int p3)] maxLocals)) t := fun t k => castTop (ef_0 m q1 q2 p3) k
  have pre14 : ∀ t, Steps p.tables e below (s₁.setTop (mkF m 10 #[.val (.long q1), .second, .val (.long q2), .second, .val (.int p3), .val (.long q1), .second, .val (.long q2), .second, .unset, .unset] [(.int (p3 &&& (1 : Int32)))])) t → Steps p.tables e below (s₁.setTop (entryFrame m #[(.long q1), (.long q2), (.int p3)] maxLocals)) t := fun t k => pre0 t (by
      show Steps p.tables e below (s₁.setTop (mkF m 0 #[.val (.long q1), .second, .val (.long q2), .second, .val (.int p3), .unset, .unset, .unset, .unset, .unset, .unset] [])) _
      refine XS.lloadN X0.here hx rfl (hb hby at_0) rfl ?_
      show Steps p.tables e below (s₁.setTop (mkF m 1 #[.val (.long q1), .second, .val (.long q2), .second, .val (.int p3), .unset, .unset, .unset, .unset, .unset, .unset] [(.long q1)])) _
      refine XS.lstore X0.here hx rfl (hb hby at_1) rfl (l' := #[.val (.long q1), .second, .val (.long q2), .second, .val (.int p3), .val (.long q1), .second, .unset, .unset, .unset, .unset]) rfl ?_
      show Steps p.tables e below (s₁.setTop (mkF m 3 #[.val (.long q1), .second, .val (.long q2), .second, .val (.int p3), .val (.long q1), .second, .unset, .unset, .unset, .unset] [])) _
      refine XS.lloadN X0.here hx rfl (hb hby at_3) rfl ?_
      show Steps p.tables e below (s₁.setTop (mkF m 4 #[.val (.long q1), .second, .val (.long q2), .second, .val (.int p3), .val (.long q1), .second, .unset, .unset, .unset, .unset] [(.long q2)])) _
      refine XS.lstore X0.here hx rfl (hb hby at_4) rfl (l' := #[.val (.long q1), .second, .val (.long q2), .second, .val (.int p3), .val (.long q1), .second, .val (.long q2), .second, .unset, .unset]) rfl ?_
      show Steps p.tables e below (s₁.setTop (mkF m 6 #[.val (.long q1), .second, .val (.long q2), .second, .val (.int p3), .val (.long q1), .second, .val (.long q2), .second, .unset, .unset] [])) _
      refine XS.iload X0.here hx rfl (hb hby at_6) rfl ?_
      show Steps p.tables e below (s₁.setTop (mkF m 8 #[.val (.long q1), .second, .val (.long q2), .second, .val (.int p3), .val (.long q1), .second, .val (.long q2), .second, .unset, .unset] [(.int p3)])) _
      refine XS.iconst X0.here hx rfl (hb hby at_8) ?_
      show Steps p.tables e below (s₁.setTop (mkF m 9 #[.val (.long q1), .second, .val (.long q2), .second, .val (.int p3), .val (.long q1), .second, .val (.long q2), .second, .unset, .unset] [(.int (1 : Int32)), (.int p3)])) _
      refine XS.iand X0.here hx rfl (hb hby at_9) rfl ?_
      exact k)
  by_cases hc10_15 : (p3 &&& (1 : Int32)) = (0 : Int32)
  · have pre16 : ∀ t, Steps p.tables e below (s₁.setTop (mkF m 22 #[.val (.long q1), .second, .val (.long q2), .second, .val (.int p3), .val (.long q1), .second, .val (.long q2), .second, .unset, .unset] [(.int (p3 &&& (2 : Int32)))])) t → Steps p.tables e below (s₁.setTop (entryFrame m #[(.long q1), (.long q2), (.int p3)] maxLocals)) t := fun t k => pre14 t (by
        show Steps p.tables e below (s₁.setTop (mkF m 10 #[.val (.long q1), .second, .val (.long q2), .second, .val (.int p3), .val (.long q1), .second, .val (.long q2), .second, .unset, .unset] [(.int (p3 &&& (1 : Int32)))])) _
        refine XS.ifYes X0.here hx rfl (pc0 := 10) (pc' := 18) rfl (hb hby at_10) rfl ((if0 _ _).trans (teq hc10_15).1) (by decide) (by decide) ?_
        show Steps p.tables e below (s₁.setTop (mkF m 18 #[.val (.long q1), .second, .val (.long q2), .second, .val (.int p3), .val (.long q1), .second, .val (.long q2), .second, .unset, .unset] [])) _
        refine XS.iload X0.here hx rfl (hb hby at_18) rfl ?_
        show Steps p.tables e below (s₁.setTop (mkF m 20 #[.val (.long q1), .second, .val (.long q2), .second, .val (.int p3), .val (.long q1), .second, .val (.long q2), .second, .unset, .unset] [(.int p3)])) _
        refine XS.iconst X0.here hx rfl (hb hby at_20) ?_
        show Steps p.tables e below (s₁.setTop (mkF m 21 #[.val (.long q1), .second, .val (.long q2), .second, .val (.int p3), .val (.long q1), .second, .val (.long q2), .second, .unset, .unset] [(.int (2 : Int32)), (.int p3)])) _
        refine XS.iand X0.here hx rfl (hb hby at_21) rfl ?_
        exact k)
    by_cases hc22_17 : (p3 &&& (2 : Int32)) = (0 : Int32)
    · have pre18 : ∀ t, Steps p.tables e below (s₁.setTop (mkF m 34 #[.val (.long q1), .second, .val (.long q2), .second, .val (.int p3), .val (.long q1), .second, .val (.long q2), .second, .unset, .unset] [(.int (p3 &&& (4 : Int32)))])) t → Steps p.tables e below (s₁.setTop (entryFrame m #[(.long q1), (.long q2), (.int p3)] maxLocals)) t := fun t k => pre16 t (by
          show Steps p.tables e below (s₁.setTop (mkF m 22 #[.val (.long q1), .second, .val (.long q2), .second, .val (.int p3), .val (.long q1), .second, .val (.long q2), .second, .unset, .unset] [(.int (p3 &&& (2 : Int32)))])) _
          refine XS.ifYes X0.here hx rfl (pc0 := 22) (pc' := 30) rfl (hb hby at_22) rfl ((if0 _ _).trans (teq hc22_17).1) (by decide) (by decide) ?_
          show Steps p.tables e below (s₁.setTop (mkF m 30 #[.val (.long q1), .second, .val (.long q2), .second, .val (.int p3), .val (.long q1), .second, .val (.long q2), .second, .unset, .unset] [])) _
          refine XS.iload X0.here hx rfl (hb hby at_30) rfl ?_
          show Steps p.tables e below (s₁.setTop (mkF m 32 #[.val (.long q1), .second, .val (.long q2), .second, .val (.int p3), .val (.long q1), .second, .val (.long q2), .second, .unset, .unset] [(.int p3)])) _
          refine XS.iconst X0.here hx rfl (hb hby at_32) ?_
          show Steps p.tables e below (s₁.setTop (mkF m 33 #[.val (.long q1), .second, .val (.long q2), .second, .val (.int p3), .val (.long q1), .second, .val (.long q2), .second, .unset, .unset] [(.int (4 : Int32)), (.int p3)])) _
          refine XS.iand X0.here hx rfl (hb hby at_33) rfl ?_
          exact k)
      by_cases hc34_19 : (p3 &&& (4 : Int32)) = (0 : Int32)
      · obtain ⟨_, _, ⟨T20, L20, k20, n20⟩, -, X20, ⟨Lc20, hQ20, l20, y20, z20⟩, st20⟩ := Jvm.LawKit.callS X0 hx (y := (⟨"org/millrace/engine/Window", "earlier", "(JJ)J"⟩ : MethodName)) hown (mvT hZ (hw _ (List.mem_of_getElem? (i := 0) rfl))) (mvT hZ (hw _ (List.mem_of_getElem? (i := 1) rfl))) (mvT hZ (hw _ (List.mem_of_getElem? (i := 2) rfl))) (mvT hZ (hw _ (List.mem_of_getElem? (i := 3) rfl))) (by decide) (backOf (W := 0) (rm1 l Z a0 hw [] q1 q2 h0 n0 Z0 ) hZ (hw _ (List.mem_of_getElem? (i := 3) rfl)) (hw _ (List.mem_of_getElem? (i := 2) rfl)) (by decide) (by decide)) (g := (mkF m 45 #[.val (.long q1), .second, .val (.long q2), .second, .val (.int p3), .val (.long q1), .second, .val (.long q2), .second, .unset, .unset] [(.long q2), (.long q1)])) rfl (by rw [hml]; rfl) (argsL := [(.long q1), (.long q2)]) (rest := []) (lenOf pd_0 rfl) rfl (by show 2 * 0 + _ ≤ _; exact Nat.le_of_eq rfl) (hb hby at_45) (fun _ _ => ⟨rfl, e0, (by decide : 0 + 0 ≤ _), (by decide : 0 + 0 ≤ _)⟩)
        dsimp only [Pt.U, Pt.locs, Pt.cells, Pt.slots] at X20 l20 y20 z20 st20 hQ20
        subst l20 y20 z20
        obtain ⟨rfl, Nq20, e20⟩ := hQ20
        have N20 := Fr.app N0 Nq20
        obtain ⟨_, _, ⟨T21, L21, k21, n21⟩, -, X21, ⟨Lc21, hQ21, l21, y21, z21⟩, st21⟩ := Jvm.LawKit.callS X20 hx (y := (⟨"org/millrace/engine/WindowEarlierPinLaw", "reference", "(JJ)J"⟩ : MethodName)) hown (mvT hZ (hw _ (List.mem_of_getElem? (i := 5) rfl))) (mvT hZ (hw _ (List.mem_of_getElem? (i := 6) rfl))) (mvT hZ (hw _ (List.mem_of_getElem? (i := 7) rfl))) (mvT hZ (hw _ (List.mem_of_getElem? (i := 8) rfl))) (by decide) (backOf (W := 2) (rm2 l Z a0 hw [] q1 q2 h0 n0 Z0 ) hZ (hw _ (List.mem_of_getElem? (i := 8) rfl)) (hw _ (List.mem_of_getElem? (i := 7) rfl)) (by decide) (by decide)) (g := (mkF m 56 #[.val (.long q1), .second, .val (.long q2), .second, .val (.int p3), .val (.long q1), .second, .val (.long q2), .second, .val (.long (own_earlier q1 q2)), .second] [(.long q2), (.long q1), (.long (own_earlier q1 q2))])) rfl (by rw [hml]; rfl) (argsL := [(.long q1), (.long q2)]) (rest := [(.long (own_earlier q1 q2))]) (lenOf pd_0 rfl) rfl (by show 2 * 0 + _ ≤ _; exact Nat.le_of_eq rfl) (hb hby at_56) (fun _ _ => ⟨rfl, e20, (by decide : 0 + 0 ≤ _), (by decide : 0 + 0 ≤ _)⟩)
        dsimp only [Pt.U, Pt.locs, Pt.cells, Pt.slots] at X21 l21 y21 z21 st21 hQ21
        subst l21 y21 z21
        obtain ⟨rfl, Nq21, e21⟩ := hQ21
        have N21 := Fr.app N20 Nq21
        obtain ⟨fs, hr, hrun, hended, hW, hsame⟩ := X21.leave (v := some (.int (1 : Int32))) (fun h => by rw [Bd.returns] at h; cases h)
        refine ⟨_, _, pre18 _ ?_, hrun, hended, _, _, rfl, ?_, ⟨_, rfl⟩, hW, hsame.mono (by decide) (by decide)⟩
        · show Steps p.tables e below (s₁.setTop (mkF m 34 #[.val (.long q1), .second, .val (.long q2), .second, .val (.int p3), .val (.long q1), .second, .val (.long q2), .second, .unset, .unset] [(.int (p3 &&& (4 : Int32)))])) _
          refine XS.ifYes X0.here hx rfl (pc0 := 34) (pc' := 41) rfl (hb hby at_34) rfl ((if0 _ _).trans (teq hc34_19).1) (by decide) (by decide) ?_
          show Steps p.tables e below (s₁.setTop (mkF m 41 #[.val (.long q1), .second, .val (.long q2), .second, .val (.int p3), .val (.long q1), .second, .val (.long q2), .second, .unset, .unset] [])) _
          refine XS.lload X0.here hx rfl (hb hby at_41) rfl ?_
          show Steps p.tables e below (s₁.setTop (mkF m 43 #[.val (.long q1), .second, .val (.long q2), .second, .val (.int p3), .val (.long q1), .second, .val (.long q2), .second, .unset, .unset] [(.long q1)])) _
          refine XS.lload X0.here hx rfl (hb hby at_43) rfl ?_
          show Steps p.tables e below (s₁.setTop (mkF m 45 #[.val (.long q1), .second, .val (.long q2), .second, .val (.int p3), .val (.long q1), .second, .val (.long q2), .second, .unset, .unset] [(.long q2), (.long q1)])) _
          refine st20 _ ?_
          show Steps p.tables e below (T20.setTop (mkF m 48 #[.val (.long q1), .second, .val (.long q2), .second, .val (.int p3), .val (.long q1), .second, .val (.long q2), .second, .unset, .unset] [(.long (own_earlier q1 q2))])) _
          refine XS.lstore X20.here hx rfl (hb hby at_48) rfl (l' := #[.val (.long q1), .second, .val (.long q2), .second, .val (.int p3), .val (.long q1), .second, .val (.long q2), .second, .val (.long (own_earlier q1 q2)), .second]) rfl ?_
          show Steps p.tables e below (T20.setTop (mkF m 50 #[.val (.long q1), .second, .val (.long q2), .second, .val (.int p3), .val (.long q1), .second, .val (.long q2), .second, .val (.long (own_earlier q1 q2)), .second] [])) _
          refine XS.lload X20.here hx rfl (hb hby at_50) rfl ?_
          show Steps p.tables e below (T20.setTop (mkF m 52 #[.val (.long q1), .second, .val (.long q2), .second, .val (.int p3), .val (.long q1), .second, .val (.long q2), .second, .val (.long (own_earlier q1 q2)), .second] [(.long (own_earlier q1 q2))])) _
          refine XS.lload X20.here hx rfl (hb hby at_52) rfl ?_
          show Steps p.tables e below (T20.setTop (mkF m 54 #[.val (.long q1), .second, .val (.long q2), .second, .val (.int p3), .val (.long q1), .second, .val (.long q2), .second, .val (.long (own_earlier q1 q2)), .second] [(.long q1), (.long (own_earlier q1 q2))])) _
          refine XS.lload X20.here hx rfl (hb hby at_54) rfl ?_
          show Steps p.tables e below (T20.setTop (mkF m 56 #[.val (.long q1), .second, .val (.long q2), .second, .val (.int p3), .val (.long q1), .second, .val (.long q2), .second, .val (.long (own_earlier q1 q2)), .second] [(.long q2), (.long q1), (.long (own_earlier q1 q2))])) _
          refine st21 _ ?_
          show Steps p.tables e below (T21.setTop (mkF m 59 #[.val (.long q1), .second, .val (.long q2), .second, .val (.int p3), .val (.long q1), .second, .val (.long q2), .second, .val (.long (own_earlier q1 q2)), .second] [(.long (own_ref q1 q2)), (.long (own_earlier q1 q2))])) _
          refine XS.lcmp X21.here hx rfl (hb hby at_59) rfl ?_
          show Steps p.tables e below (T21.setTop (mkF m 60 #[.val (.long q1), .second, .val (.long q2), .second, .val (.int p3), .val (.long q1), .second, .val (.long q2), .second, .val (.long (own_earlier q1 q2)), .second] [(.int (lcmpW (own_earlier q1 q2) (own_ref q1 q2)))])) _
          refine XS.ifNo X21.here hx rfl (hb hby at_60) rfl ((if0 _ _).trans (teq ((lw_eq _ _).mpr (own_same _ _ : (own_earlier q1 q2) = (own_ref q1 q2)))).2) ?_
          show Steps p.tables e below (T21.setTop (mkF m 63 #[.val (.long q1), .second, .val (.long q2), .second, .val (.int p3), .val (.long q1), .second, .val (.long q2), .second, .val (.long (own_earlier q1 q2)), .second] [])) _
          refine XS.iconst X21.here hx rfl (hb hby at_63) ?_
          show Steps p.tables e below (T21.setTop (mkF m 64 #[.val (.long q1), .second, .val (.long q2), .second, .val (.int p3), .val (.long q1), .second, .val (.long q2), .second, .val (.long (own_earlier q1 q2)), .second] [(.int (1 : Int32))])) _
          refine XS.goto X21.here hx rfl (pc0 := 64) (pc' := 68) rfl (hb hby at_64) (by decide) (by decide) ?_
          show Steps p.tables e below (T21.setTop (mkF m 68 #[.val (.long q1), .second, .val (.long q2), .second, .val (.int p3), .val (.long q1), .second, .val (.long q2), .second, .val (.long (own_earlier q1 q2)), .second] [(.int (1 : Int32))])) _
          exact retN X21 hx (t := .boolean) Bd.returns (by simp) (hb hby at_68) hr
        · show Q0 Z q1 q2 p3 h0 n0 _ T21.heap _
          rw [e21]
          exact ⟨rfl, N21⟩
      · obtain ⟨_, _, ⟨T22, L22, k22, n22⟩, -, X22, ⟨Lc22, hQ22, l22, y22, z22⟩, st22⟩ := Jvm.LawKit.callS X0 hx (y := (⟨"org/millrace/engine/Window", "earlier", "(JJ)J"⟩ : MethodName)) hown (mvT hZ (hw _ (List.mem_of_getElem? (i := 0) rfl))) (mvT hZ (hw _ (List.mem_of_getElem? (i := 1) rfl))) (mvT hZ (hw _ (List.mem_of_getElem? (i := 2) rfl))) (mvT hZ (hw _ (List.mem_of_getElem? (i := 3) rfl))) (by decide) (backOf (W := 0) (rm1 l Z a0 hw [] q1 q1 h0 n0 Z0 ) hZ (hw _ (List.mem_of_getElem? (i := 3) rfl)) (hw _ (List.mem_of_getElem? (i := 2) rfl)) (by decide) (by decide)) (g := (mkF m 45 #[.val (.long q1), .second, .val (.long q2), .second, .val (.int p3), .val (.long q1), .second, .val (.long q1), .second, .unset, .unset] [(.long q1), (.long q1)])) rfl (by rw [hml]; rfl) (argsL := [(.long q1), (.long q1)]) (rest := []) (lenOf pd_0 rfl) rfl (by show 2 * 0 + _ ≤ _; exact Nat.le_of_eq rfl) (hb hby at_45) (fun _ _ => ⟨rfl, e0, (by decide : 0 + 0 ≤ _), (by decide : 0 + 0 ≤ _)⟩)
        dsimp only [Pt.U, Pt.locs, Pt.cells, Pt.slots] at X22 l22 y22 z22 st22 hQ22
        subst l22 y22 z22
        obtain ⟨rfl, Nq22, e22⟩ := hQ22
        have N22 := Fr.app N0 Nq22
        obtain ⟨_, _, ⟨T23, L23, k23, n23⟩, -, X23, ⟨Lc23, hQ23, l23, y23, z23⟩, st23⟩ := Jvm.LawKit.callS X22 hx (y := (⟨"org/millrace/engine/WindowEarlierPinLaw", "reference", "(JJ)J"⟩ : MethodName)) hown (mvT hZ (hw _ (List.mem_of_getElem? (i := 5) rfl))) (mvT hZ (hw _ (List.mem_of_getElem? (i := 6) rfl))) (mvT hZ (hw _ (List.mem_of_getElem? (i := 7) rfl))) (mvT hZ (hw _ (List.mem_of_getElem? (i := 8) rfl))) (by decide) (backOf (W := 2) (rm2 l Z a0 hw [] q1 q1 h0 n0 Z0 ) hZ (hw _ (List.mem_of_getElem? (i := 8) rfl)) (hw _ (List.mem_of_getElem? (i := 7) rfl)) (by decide) (by decide)) (g := (mkF m 56 #[.val (.long q1), .second, .val (.long q2), .second, .val (.int p3), .val (.long q1), .second, .val (.long q1), .second, .val (.long (own_earlier q1 q1)), .second] [(.long q1), (.long q1), (.long (own_earlier q1 q1))])) rfl (by rw [hml]; rfl) (argsL := [(.long q1), (.long q1)]) (rest := [(.long (own_earlier q1 q1))]) (lenOf pd_0 rfl) rfl (by show 2 * 0 + _ ≤ _; exact Nat.le_of_eq rfl) (hb hby at_56) (fun _ _ => ⟨rfl, e22, (by decide : 0 + 0 ≤ _), (by decide : 0 + 0 ≤ _)⟩)
        dsimp only [Pt.U, Pt.locs, Pt.cells, Pt.slots] at X23 l23 y23 z23 st23 hQ23
        subst l23 y23 z23
        obtain ⟨rfl, Nq23, e23⟩ := hQ23
        have N23 := Fr.app N22 Nq23
        obtain ⟨fs, hr, hrun, hended, hW, hsame⟩ := X23.leave (v := some (.int (1 : Int32))) (fun h => by rw [Bd.returns] at h; cases h)
        refine ⟨_, _, pre18 _ ?_, hrun, hended, _, _, rfl, ?_, ⟨_, rfl⟩, hW, hsame.mono (by decide) (by decide)⟩
        · show Steps p.tables e below (s₁.setTop (mkF m 34 #[.val (.long q1), .second, .val (.long q2), .second, .val (.int p3), .val (.long q1), .second, .val (.long q2), .second, .unset, .unset] [(.int (p3 &&& (4 : Int32)))])) _
          refine XS.ifNo X0.here hx rfl (hb hby at_34) rfl ((if0 _ _).trans (feq hc34_19).1) ?_
          show Steps p.tables e below (s₁.setTop (mkF m 37 #[.val (.long q1), .second, .val (.long q2), .second, .val (.int p3), .val (.long q1), .second, .val (.long q2), .second, .unset, .unset] [])) _
          refine XS.lload X0.here hx rfl (hb hby at_37) rfl ?_
          show Steps p.tables e below (s₁.setTop (mkF m 39 #[.val (.long q1), .second, .val (.long q2), .second, .val (.int p3), .val (.long q1), .second, .val (.long q2), .second, .unset, .unset] [(.long q1)])) _
          refine XS.lstore X0.here hx rfl (hb hby at_39) rfl (l' := #[.val (.long q1), .second, .val (.long q2), .second, .val (.int p3), .val (.long q1), .second, .val (.long q1), .second, .unset, .unset]) rfl ?_
          show Steps p.tables e below (s₁.setTop (mkF m 41 #[.val (.long q1), .second, .val (.long q2), .second, .val (.int p3), .val (.long q1), .second, .val (.long q1), .second, .unset, .unset] [])) _
          refine XS.lload X0.here hx rfl (hb hby at_41) rfl ?_
          show Steps p.tables e below (s₁.setTop (mkF m 43 #[.val (.long q1), .second, .val (.long q2), .second, .val (.int p3), .val (.long q1), .second, .val (.long q1), .second, .unset, .unset] [(.long q1)])) _
          refine XS.lload X0.here hx rfl (hb hby at_43) rfl ?_
          show Steps p.tables e below (s₁.setTop (mkF m 45 #[.val (.long q1), .second, .val (.long q2), .second, .val (.int p3), .val (.long q1), .second, .val (.long q1), .second, .unset, .unset] [(.long q1), (.long q1)])) _
          refine st22 _ ?_
          show Steps p.tables e below (T22.setTop (mkF m 48 #[.val (.long q1), .second, .val (.long q2), .second, .val (.int p3), .val (.long q1), .second, .val (.long q1), .second, .unset, .unset] [(.long (own_earlier q1 q1))])) _
          refine XS.lstore X22.here hx rfl (hb hby at_48) rfl (l' := #[.val (.long q1), .second, .val (.long q2), .second, .val (.int p3), .val (.long q1), .second, .val (.long q1), .second, .val (.long (own_earlier q1 q1)), .second]) rfl ?_
          show Steps p.tables e below (T22.setTop (mkF m 50 #[.val (.long q1), .second, .val (.long q2), .second, .val (.int p3), .val (.long q1), .second, .val (.long q1), .second, .val (.long (own_earlier q1 q1)), .second] [])) _
          refine XS.lload X22.here hx rfl (hb hby at_50) rfl ?_
          show Steps p.tables e below (T22.setTop (mkF m 52 #[.val (.long q1), .second, .val (.long q2), .second, .val (.int p3), .val (.long q1), .second, .val (.long q1), .second, .val (.long (own_earlier q1 q1)), .second] [(.long (own_earlier q1 q1))])) _
          refine XS.lload X22.here hx rfl (hb hby at_52) rfl ?_
          show Steps p.tables e below (T22.setTop (mkF m 54 #[.val (.long q1), .second, .val (.long q2), .second, .val (.int p3), .val (.long q1), .second, .val (.long q1), .second, .val (.long (own_earlier q1 q1)), .second] [(.long q1), (.long (own_earlier q1 q1))])) _
          refine XS.lload X22.here hx rfl (hb hby at_54) rfl ?_
          show Steps p.tables e below (T22.setTop (mkF m 56 #[.val (.long q1), .second, .val (.long q2), .second, .val (.int p3), .val (.long q1), .second, .val (.long q1), .second, .val (.long (own_earlier q1 q1)), .second] [(.long q1), (.long q1), (.long (own_earlier q1 q1))])) _
          refine st23 _ ?_
          show Steps p.tables e below (T23.setTop (mkF m 59 #[.val (.long q1), .second, .val (.long q2), .second, .val (.int p3), .val (.long q1), .second, .val (.long q1), .second, .val (.long (own_earlier q1 q1)), .second] [(.long (own_ref q1 q1)), (.long (own_earlier q1 q1))])) _
          refine XS.lcmp X23.here hx rfl (hb hby at_59) rfl ?_
          show Steps p.tables e below (T23.setTop (mkF m 60 #[.val (.long q1), .second, .val (.long q2), .second, .val (.int p3), .val (.long q1), .second, .val (.long q1), .second, .val (.long (own_earlier q1 q1)), .second] [(.int (lcmpW (own_earlier q1 q1) (own_ref q1 q1)))])) _
          refine XS.ifNo X23.here hx rfl (hb hby at_60) rfl ((if0 _ _).trans (teq ((lw_eq _ _).mpr (own_same _ _ : (own_earlier q1 q1) = (own_ref q1 q1)))).2) ?_
          show Steps p.tables e below (T23.setTop (mkF m 63 #[.val (.long q1), .second, .val (.long q2), .second, .val (.int p3), .val (.long q1), .second, .val (.long q1), .second, .val (.long (own_earlier q1 q1)), .second] [])) _
          refine XS.iconst X23.here hx rfl (hb hby at_63) ?_
          show Steps p.tables e below (T23.setTop (mkF m 64 #[.val (.long q1), .second, .val (.long q2), .second, .val (.int p3), .val (.long q1), .second, .val (.long q1), .second, .val (.long (own_earlier q1 q1)), .second] [(.int (1 : Int32))])) _
          refine XS.goto X23.here hx rfl (pc0 := 64) (pc' := 68) rfl (hb hby at_64) (by decide) (by decide) ?_
          show Steps p.tables e below (T23.setTop (mkF m 68 #[.val (.long q1), .second, .val (.long q2), .second, .val (.int p3), .val (.long q1), .second, .val (.long q1), .second, .val (.long (own_earlier q1 q1)), .second] [(.int (1 : Int32))])) _
          exact retN X23 hx (t := .boolean) Bd.returns (by simp) (hb hby at_68) hr
        · show Q0 Z q1 q2 p3 h0 n0 _ T23.heap _
          rw [e23]
          exact ⟨rfl, N23⟩
    · have pre24 : ∀ t, Steps p.tables e below (s₁.setTop (mkF m 34 #[.val (.long q1), .second, .val (.long q2), .second, .val (.int p3), .val (.long q1), .second, .val (.long (-9223372036854775808 : Int64)), .second, .unset, .unset] [(.int (p3 &&& (4 : Int32)))])) t → Steps p.tables e below (s₁.setTop (entryFrame m #[(.long q1), (.long q2), (.int p3)] maxLocals)) t := fun t k => pre16 t (by
          show Steps p.tables e below (s₁.setTop (mkF m 22 #[.val (.long q1), .second, .val (.long q2), .second, .val (.int p3), .val (.long q1), .second, .val (.long q2), .second, .unset, .unset] [(.int (p3 &&& (2 : Int32)))])) _
          refine XS.ifNo X0.here hx rfl (hb hby at_22) rfl ((if0 _ _).trans (feq hc22_17).1) ?_
          show Steps p.tables e below (s₁.setTop (mkF m 25 #[.val (.long q1), .second, .val (.long q2), .second, .val (.int p3), .val (.long q1), .second, .val (.long q2), .second, .unset, .unset] [])) _
          refine X0.ldc2Long hx hown (mvT hZ (hw _ (List.mem_of_getElem? (i := 9) rfl))) (g := (mkF m 25 #[.val (.long q1), .second, .val (.long q2), .second, .val (.int p3), .val (.long q1), .second, .val (.long q2), .second, .unset, .unset] [])) rfl (hb hby at_25) _ ?_
          show Steps p.tables e below (s₁.setTop (mkF m 28 #[.val (.long q1), .second, .val (.long q2), .second, .val (.int p3), .val (.long q1), .second, .val (.long q2), .second, .unset, .unset] [(.long (-9223372036854775808 : Int64))])) _
          refine XS.lstore X0.here hx rfl (hb hby at_28) rfl (l' := #[.val (.long q1), .second, .val (.long q2), .second, .val (.int p3), .val (.long q1), .second, .val (.long (-9223372036854775808 : Int64)), .second, .unset, .unset]) rfl ?_
          show Steps p.tables e below (s₁.setTop (mkF m 30 #[.val (.long q1), .second, .val (.long q2), .second, .val (.int p3), .val (.long q1), .second, .val (.long (-9223372036854775808 : Int64)), .second, .unset, .unset] [])) _
          refine XS.iload X0.here hx rfl (hb hby at_30) rfl ?_
          show Steps p.tables e below (s₁.setTop (mkF m 32 #[.val (.long q1), .second, .val (.long q2), .second, .val (.int p3), .val (.long q1), .second, .val (.long (-9223372036854775808 : Int64)), .second, .unset, .unset] [(.int p3)])) _
          refine XS.iconst X0.here hx rfl (hb hby at_32) ?_
          show Steps p.tables e below (s₁.setTop (mkF m 33 #[.val (.long q1), .second, .val (.long q2), .second, .val (.int p3), .val (.long q1), .second, .val (.long (-9223372036854775808 : Int64)), .second, .unset, .unset] [(.int (4 : Int32)), (.int p3)])) _
          refine XS.iand X0.here hx rfl (hb hby at_33) rfl ?_
          exact k)
      by_cases hc34_25 : (p3 &&& (4 : Int32)) = (0 : Int32)
      · obtain ⟨_, _, ⟨T26, L26, k26, n26⟩, -, X26, ⟨Lc26, hQ26, l26, y26, z26⟩, st26⟩ := Jvm.LawKit.callS X0 hx (y := (⟨"org/millrace/engine/Window", "earlier", "(JJ)J"⟩ : MethodName)) hown (mvT hZ (hw _ (List.mem_of_getElem? (i := 0) rfl))) (mvT hZ (hw _ (List.mem_of_getElem? (i := 1) rfl))) (mvT hZ (hw _ (List.mem_of_getElem? (i := 2) rfl))) (mvT hZ (hw _ (List.mem_of_getElem? (i := 3) rfl))) (by decide) (backOf (W := 0) (rm1 l Z a0 hw [] q1 (-9223372036854775808 : Int64) h0 n0 Z0 ) hZ (hw _ (List.mem_of_getElem? (i := 3) rfl)) (hw _ (List.mem_of_getElem? (i := 2) rfl)) (by decide) (by decide)) (g := (mkF m 45 #[.val (.long q1), .second, .val (.long q2), .second, .val (.int p3), .val (.long q1), .second, .val (.long (-9223372036854775808 : Int64)), .second, .unset, .unset] [(.long (-9223372036854775808 : Int64)), (.long q1)])) rfl (by rw [hml]; rfl) (argsL := [(.long q1), (.long (-9223372036854775808 : Int64))]) (rest := []) (lenOf pd_0 rfl) rfl (by show 2 * 0 + _ ≤ _; exact Nat.le_of_eq rfl) (hb hby at_45) (fun _ _ => ⟨rfl, e0, (by decide : 0 + 0 ≤ _), (by decide : 0 + 0 ≤ _)⟩)
        dsimp only [Pt.U, Pt.locs, Pt.cells, Pt.slots] at X26 l26 y26 z26 st26 hQ26
        subst l26 y26 z26
        obtain ⟨rfl, Nq26, e26⟩ := hQ26
        have N26 := Fr.app N0 Nq26
        obtain ⟨_, _, ⟨T27, L27, k27, n27⟩, -, X27, ⟨Lc27, hQ27, l27, y27, z27⟩, st27⟩ := Jvm.LawKit.callS X26 hx (y := (⟨"org/millrace/engine/WindowEarlierPinLaw", "reference", "(JJ)J"⟩ : MethodName)) hown (mvT hZ (hw _ (List.mem_of_getElem? (i := 5) rfl))) (mvT hZ (hw _ (List.mem_of_getElem? (i := 6) rfl))) (mvT hZ (hw _ (List.mem_of_getElem? (i := 7) rfl))) (mvT hZ (hw _ (List.mem_of_getElem? (i := 8) rfl))) (by decide) (backOf (W := 2) (rm2 l Z a0 hw [] q1 (-9223372036854775808 : Int64) h0 n0 Z0 ) hZ (hw _ (List.mem_of_getElem? (i := 8) rfl)) (hw _ (List.mem_of_getElem? (i := 7) rfl)) (by decide) (by decide)) (g := (mkF m 56 #[.val (.long q1), .second, .val (.long q2), .second, .val (.int p3), .val (.long q1), .second, .val (.long (-9223372036854775808 : Int64)), .second, .val (.long (own_earlier q1 (-9223372036854775808 : Int64))), .second] [(.long (-9223372036854775808 : Int64)), (.long q1), (.long (own_earlier q1 (-9223372036854775808 : Int64)))])) rfl (by rw [hml]; rfl) (argsL := [(.long q1), (.long (-9223372036854775808 : Int64))]) (rest := [(.long (own_earlier q1 (-9223372036854775808 : Int64)))]) (lenOf pd_0 rfl) rfl (by show 2 * 0 + _ ≤ _; exact Nat.le_of_eq rfl) (hb hby at_56) (fun _ _ => ⟨rfl, e26, (by decide : 0 + 0 ≤ _), (by decide : 0 + 0 ≤ _)⟩)
        dsimp only [Pt.U, Pt.locs, Pt.cells, Pt.slots] at X27 l27 y27 z27 st27 hQ27
        subst l27 y27 z27
        obtain ⟨rfl, Nq27, e27⟩ := hQ27
        have N27 := Fr.app N26 Nq27
        obtain ⟨fs, hr, hrun, hended, hW, hsame⟩ := X27.leave (v := some (.int (1 : Int32))) (fun h => by rw [Bd.returns] at h; cases h)
        refine ⟨_, _, pre24 _ ?_, hrun, hended, _, _, rfl, ?_, ⟨_, rfl⟩, hW, hsame.mono (by decide) (by decide)⟩
        · show Steps p.tables e below (s₁.setTop (mkF m 34 #[.val (.long q1), .second, .val (.long q2), .second, .val (.int p3), .val (.long q1), .second, .val (.long (-9223372036854775808 : Int64)), .second, .unset, .unset] [(.int (p3 &&& (4 : Int32)))])) _
          refine XS.ifYes X0.here hx rfl (pc0 := 34) (pc' := 41) rfl (hb hby at_34) rfl ((if0 _ _).trans (teq hc34_25).1) (by decide) (by decide) ?_
          show Steps p.tables e below (s₁.setTop (mkF m 41 #[.val (.long q1), .second, .val (.long q2), .second, .val (.int p3), .val (.long q1), .second, .val (.long (-9223372036854775808 : Int64)), .second, .unset, .unset] [])) _
          refine XS.lload X0.here hx rfl (hb hby at_41) rfl ?_
          show Steps p.tables e below (s₁.setTop (mkF m 43 #[.val (.long q1), .second, .val (.long q2), .second, .val (.int p3), .val (.long q1), .second, .val (.long (-9223372036854775808 : Int64)), .second, .unset, .unset] [(.long q1)])) _
          refine XS.lload X0.here hx rfl (hb hby at_43) rfl ?_
          show Steps p.tables e below (s₁.setTop (mkF m 45 #[.val (.long q1), .second, .val (.long q2), .second, .val (.int p3), .val (.long q1), .second, .val (.long (-9223372036854775808 : Int64)), .second, .unset, .unset] [(.long (-9223372036854775808 : Int64)), (.long q1)])) _
          refine st26 _ ?_
          show Steps p.tables e below (T26.setTop (mkF m 48 #[.val (.long q1), .second, .val (.long q2), .second, .val (.int p3), .val (.long q1), .second, .val (.long (-9223372036854775808 : Int64)), .second, .unset, .unset] [(.long (own_earlier q1 (-9223372036854775808 : Int64)))])) _
          refine XS.lstore X26.here hx rfl (hb hby at_48) rfl (l' := #[.val (.long q1), .second, .val (.long q2), .second, .val (.int p3), .val (.long q1), .second, .val (.long (-9223372036854775808 : Int64)), .second, .val (.long (own_earlier q1 (-9223372036854775808 : Int64))), .second]) rfl ?_
          show Steps p.tables e below (T26.setTop (mkF m 50 #[.val (.long q1), .second, .val (.long q2), .second, .val (.int p3), .val (.long q1), .second, .val (.long (-9223372036854775808 : Int64)), .second, .val (.long (own_earlier q1 (-9223372036854775808 : Int64))), .second] [])) _
          refine XS.lload X26.here hx rfl (hb hby at_50) rfl ?_
          show Steps p.tables e below (T26.setTop (mkF m 52 #[.val (.long q1), .second, .val (.long q2), .second, .val (.int p3), .val (.long q1), .second, .val (.long (-9223372036854775808 : Int64)), .second, .val (.long (own_earlier q1 (-9223372036854775808 : Int64))), .second] [(.long (own_earlier q1 (-9223372036854775808 : Int64)))])) _
          refine XS.lload X26.here hx rfl (hb hby at_52) rfl ?_
          show Steps p.tables e below (T26.setTop (mkF m 54 #[.val (.long q1), .second, .val (.long q2), .second, .val (.int p3), .val (.long q1), .second, .val (.long (-9223372036854775808 : Int64)), .second, .val (.long (own_earlier q1 (-9223372036854775808 : Int64))), .second] [(.long q1), (.long (own_earlier q1 (-9223372036854775808 : Int64)))])) _
          refine XS.lload X26.here hx rfl (hb hby at_54) rfl ?_
          show Steps p.tables e below (T26.setTop (mkF m 56 #[.val (.long q1), .second, .val (.long q2), .second, .val (.int p3), .val (.long q1), .second, .val (.long (-9223372036854775808 : Int64)), .second, .val (.long (own_earlier q1 (-9223372036854775808 : Int64))), .second] [(.long (-9223372036854775808 : Int64)), (.long q1), (.long (own_earlier q1 (-9223372036854775808 : Int64)))])) _
          refine st27 _ ?_
          show Steps p.tables e below (T27.setTop (mkF m 59 #[.val (.long q1), .second, .val (.long q2), .second, .val (.int p3), .val (.long q1), .second, .val (.long (-9223372036854775808 : Int64)), .second, .val (.long (own_earlier q1 (-9223372036854775808 : Int64))), .second] [(.long (own_ref q1 (-9223372036854775808 : Int64))), (.long (own_earlier q1 (-9223372036854775808 : Int64)))])) _
          refine XS.lcmp X27.here hx rfl (hb hby at_59) rfl ?_
          show Steps p.tables e below (T27.setTop (mkF m 60 #[.val (.long q1), .second, .val (.long q2), .second, .val (.int p3), .val (.long q1), .second, .val (.long (-9223372036854775808 : Int64)), .second, .val (.long (own_earlier q1 (-9223372036854775808 : Int64))), .second] [(.int (lcmpW (own_earlier q1 (-9223372036854775808 : Int64)) (own_ref q1 (-9223372036854775808 : Int64))))])) _
          refine XS.ifNo X27.here hx rfl (hb hby at_60) rfl ((if0 _ _).trans (teq ((lw_eq _ _).mpr (own_same _ _ : (own_earlier q1 (-9223372036854775808 : Int64)) = (own_ref q1 (-9223372036854775808 : Int64))))).2) ?_
          show Steps p.tables e below (T27.setTop (mkF m 63 #[.val (.long q1), .second, .val (.long q2), .second, .val (.int p3), .val (.long q1), .second, .val (.long (-9223372036854775808 : Int64)), .second, .val (.long (own_earlier q1 (-9223372036854775808 : Int64))), .second] [])) _
          refine XS.iconst X27.here hx rfl (hb hby at_63) ?_
          show Steps p.tables e below (T27.setTop (mkF m 64 #[.val (.long q1), .second, .val (.long q2), .second, .val (.int p3), .val (.long q1), .second, .val (.long (-9223372036854775808 : Int64)), .second, .val (.long (own_earlier q1 (-9223372036854775808 : Int64))), .second] [(.int (1 : Int32))])) _
          refine XS.goto X27.here hx rfl (pc0 := 64) (pc' := 68) rfl (hb hby at_64) (by decide) (by decide) ?_
          show Steps p.tables e below (T27.setTop (mkF m 68 #[.val (.long q1), .second, .val (.long q2), .second, .val (.int p3), .val (.long q1), .second, .val (.long (-9223372036854775808 : Int64)), .second, .val (.long (own_earlier q1 (-9223372036854775808 : Int64))), .second] [(.int (1 : Int32))])) _
          exact retN X27 hx (t := .boolean) Bd.returns (by simp) (hb hby at_68) hr
        · show Q0 Z q1 q2 p3 h0 n0 _ T27.heap _
          rw [e27]
          exact ⟨rfl, N27⟩
      · obtain ⟨_, _, ⟨T28, L28, k28, n28⟩, -, X28, ⟨Lc28, hQ28, l28, y28, z28⟩, st28⟩ := Jvm.LawKit.callS X0 hx (y := (⟨"org/millrace/engine/Window", "earlier", "(JJ)J"⟩ : MethodName)) hown (mvT hZ (hw _ (List.mem_of_getElem? (i := 0) rfl))) (mvT hZ (hw _ (List.mem_of_getElem? (i := 1) rfl))) (mvT hZ (hw _ (List.mem_of_getElem? (i := 2) rfl))) (mvT hZ (hw _ (List.mem_of_getElem? (i := 3) rfl))) (by decide) (backOf (W := 0) (rm1 l Z a0 hw [] q1 q1 h0 n0 Z0 ) hZ (hw _ (List.mem_of_getElem? (i := 3) rfl)) (hw _ (List.mem_of_getElem? (i := 2) rfl)) (by decide) (by decide)) (g := (mkF m 45 #[.val (.long q1), .second, .val (.long q2), .second, .val (.int p3), .val (.long q1), .second, .val (.long q1), .second, .unset, .unset] [(.long q1), (.long q1)])) rfl (by rw [hml]; rfl) (argsL := [(.long q1), (.long q1)]) (rest := []) (lenOf pd_0 rfl) rfl (by show 2 * 0 + _ ≤ _; exact Nat.le_of_eq rfl) (hb hby at_45) (fun _ _ => ⟨rfl, e0, (by decide : 0 + 0 ≤ _), (by decide : 0 + 0 ≤ _)⟩)
        dsimp only [Pt.U, Pt.locs, Pt.cells, Pt.slots] at X28 l28 y28 z28 st28 hQ28
        subst l28 y28 z28
        obtain ⟨rfl, Nq28, e28⟩ := hQ28
        have N28 := Fr.app N0 Nq28
        obtain ⟨_, _, ⟨T29, L29, k29, n29⟩, -, X29, ⟨Lc29, hQ29, l29, y29, z29⟩, st29⟩ := Jvm.LawKit.callS X28 hx (y := (⟨"org/millrace/engine/WindowEarlierPinLaw", "reference", "(JJ)J"⟩ : MethodName)) hown (mvT hZ (hw _ (List.mem_of_getElem? (i := 5) rfl))) (mvT hZ (hw _ (List.mem_of_getElem? (i := 6) rfl))) (mvT hZ (hw _ (List.mem_of_getElem? (i := 7) rfl))) (mvT hZ (hw _ (List.mem_of_getElem? (i := 8) rfl))) (by decide) (backOf (W := 2) (rm2 l Z a0 hw [] q1 q1 h0 n0 Z0 ) hZ (hw _ (List.mem_of_getElem? (i := 8) rfl)) (hw _ (List.mem_of_getElem? (i := 7) rfl)) (by decide) (by decide)) (g := (mkF m 56 #[.val (.long q1), .second, .val (.long q2), .second, .val (.int p3), .val (.long q1), .second, .val (.long q1), .second, .val (.long (own_earlier q1 q1)), .second] [(.long q1), (.long q1), (.long (own_earlier q1 q1))])) rfl (by rw [hml]; rfl) (argsL := [(.long q1), (.long q1)]) (rest := [(.long (own_earlier q1 q1))]) (lenOf pd_0 rfl) rfl (by show 2 * 0 + _ ≤ _; exact Nat.le_of_eq rfl) (hb hby at_56) (fun _ _ => ⟨rfl, e28, (by decide : 0 + 0 ≤ _), (by decide : 0 + 0 ≤ _)⟩)
        dsimp only [Pt.U, Pt.locs, Pt.cells, Pt.slots] at X29 l29 y29 z29 st29 hQ29
        subst l29 y29 z29
        obtain ⟨rfl, Nq29, e29⟩ := hQ29
        have N29 := Fr.app N28 Nq29
        obtain ⟨fs, hr, hrun, hended, hW, hsame⟩ := X29.leave (v := some (.int (1 : Int32))) (fun h => by rw [Bd.returns] at h; cases h)
        refine ⟨_, _, pre24 _ ?_, hrun, hended, _, _, rfl, ?_, ⟨_, rfl⟩, hW, hsame.mono (by decide) (by decide)⟩
        · show Steps p.tables e below (s₁.setTop (mkF m 34 #[.val (.long q1), .second, .val (.long q2), .second, .val (.int p3), .val (.long q1), .second, .val (.long (-9223372036854775808 : Int64)), .second, .unset, .unset] [(.int (p3 &&& (4 : Int32)))])) _
          refine XS.ifNo X0.here hx rfl (hb hby at_34) rfl ((if0 _ _).trans (feq hc34_25).1) ?_
          show Steps p.tables e below (s₁.setTop (mkF m 37 #[.val (.long q1), .second, .val (.long q2), .second, .val (.int p3), .val (.long q1), .second, .val (.long (-9223372036854775808 : Int64)), .second, .unset, .unset] [])) _
          refine XS.lload X0.here hx rfl (hb hby at_37) rfl ?_
          show Steps p.tables e below (s₁.setTop (mkF m 39 #[.val (.long q1), .second, .val (.long q2), .second, .val (.int p3), .val (.long q1), .second, .val (.long (-9223372036854775808 : Int64)), .second, .unset, .unset] [(.long q1)])) _
          refine XS.lstore X0.here hx rfl (hb hby at_39) rfl (l' := #[.val (.long q1), .second, .val (.long q2), .second, .val (.int p3), .val (.long q1), .second, .val (.long q1), .second, .unset, .unset]) rfl ?_
          show Steps p.tables e below (s₁.setTop (mkF m 41 #[.val (.long q1), .second, .val (.long q2), .second, .val (.int p3), .val (.long q1), .second, .val (.long q1), .second, .unset, .unset] [])) _
          refine XS.lload X0.here hx rfl (hb hby at_41) rfl ?_
          show Steps p.tables e below (s₁.setTop (mkF m 43 #[.val (.long q1), .second, .val (.long q2), .second, .val (.int p3), .val (.long q1), .second, .val (.long q1), .second, .unset, .unset] [(.long q1)])) _
          refine XS.lload X0.here hx rfl (hb hby at_43) rfl ?_
          show Steps p.tables e below (s₁.setTop (mkF m 45 #[.val (.long q1), .second, .val (.long q2), .second, .val (.int p3), .val (.long q1), .second, .val (.long q1), .second, .unset, .unset] [(.long q1), (.long q1)])) _
          refine st28 _ ?_
          show Steps p.tables e below (T28.setTop (mkF m 48 #[.val (.long q1), .second, .val (.long q2), .second, .val (.int p3), .val (.long q1), .second, .val (.long q1), .second, .unset, .unset] [(.long (own_earlier q1 q1))])) _
          refine XS.lstore X28.here hx rfl (hb hby at_48) rfl (l' := #[.val (.long q1), .second, .val (.long q2), .second, .val (.int p3), .val (.long q1), .second, .val (.long q1), .second, .val (.long (own_earlier q1 q1)), .second]) rfl ?_
          show Steps p.tables e below (T28.setTop (mkF m 50 #[.val (.long q1), .second, .val (.long q2), .second, .val (.int p3), .val (.long q1), .second, .val (.long q1), .second, .val (.long (own_earlier q1 q1)), .second] [])) _
          refine XS.lload X28.here hx rfl (hb hby at_50) rfl ?_
          show Steps p.tables e below (T28.setTop (mkF m 52 #[.val (.long q1), .second, .val (.long q2), .second, .val (.int p3), .val (.long q1), .second, .val (.long q1), .second, .val (.long (own_earlier q1 q1)), .second] [(.long (own_earlier q1 q1))])) _
          refine XS.lload X28.here hx rfl (hb hby at_52) rfl ?_
          show Steps p.tables e below (T28.setTop (mkF m 54 #[.val (.long q1), .second, .val (.long q2), .second, .val (.int p3), .val (.long q1), .second, .val (.long q1), .second, .val (.long (own_earlier q1 q1)), .second] [(.long q1), (.long (own_earlier q1 q1))])) _
          refine XS.lload X28.here hx rfl (hb hby at_54) rfl ?_
          show Steps p.tables e below (T28.setTop (mkF m 56 #[.val (.long q1), .second, .val (.long q2), .second, .val (.int p3), .val (.long q1), .second, .val (.long q1), .second, .val (.long (own_earlier q1 q1)), .second] [(.long q1), (.long q1), (.long (own_earlier q1 q1))])) _
          refine st29 _ ?_
          show Steps p.tables e below (T29.setTop (mkF m 59 #[.val (.long q1), .second, .val (.long q2), .second, .val (.int p3), .val (.long q1), .second, .val (.long q1), .second, .val (.long (own_earlier q1 q1)), .second] [(.long (own_ref q1 q1)), (.long (own_earlier q1 q1))])) _
          refine XS.lcmp X29.here hx rfl (hb hby at_59) rfl ?_
          show Steps p.tables e below (T29.setTop (mkF m 60 #[.val (.long q1), .second, .val (.long q2), .second, .val (.int p3), .val (.long q1), .second, .val (.long q1), .second, .val (.long (own_earlier q1 q1)), .second] [(.int (lcmpW (own_earlier q1 q1) (own_ref q1 q1)))])) _
          refine XS.ifNo X29.here hx rfl (hb hby at_60) rfl ((if0 _ _).trans (teq ((lw_eq _ _).mpr (own_same _ _ : (own_earlier q1 q1) = (own_ref q1 q1)))).2) ?_
          show Steps p.tables e below (T29.setTop (mkF m 63 #[.val (.long q1), .second, .val (.long q2), .second, .val (.int p3), .val (.long q1), .second, .val (.long q1), .second, .val (.long (own_earlier q1 q1)), .second] [])) _
          refine XS.iconst X29.here hx rfl (hb hby at_63) ?_
          show Steps p.tables e below (T29.setTop (mkF m 64 #[.val (.long q1), .second, .val (.long q2), .second, .val (.int p3), .val (.long q1), .second, .val (.long q1), .second, .val (.long (own_earlier q1 q1)), .second] [(.int (1 : Int32))])) _
          refine XS.goto X29.here hx rfl (pc0 := 64) (pc' := 68) rfl (hb hby at_64) (by decide) (by decide) ?_
          show Steps p.tables e below (T29.setTop (mkF m 68 #[.val (.long q1), .second, .val (.long q2), .second, .val (.int p3), .val (.long q1), .second, .val (.long q1), .second, .val (.long (own_earlier q1 q1)), .second] [(.int (1 : Int32))])) _
          exact retN X29 hx (t := .boolean) Bd.returns (by simp) (hb hby at_68) hr
        · show Q0 Z q1 q2 p3 h0 n0 _ T29.heap _
          rw [e29]
          exact ⟨rfl, N29⟩
  · have pre30 : ∀ t, Steps p.tables e below (s₁.setTop (mkF m 22 #[.val (.long q1), .second, .val (.long q2), .second, .val (.int p3), .val (.long (-9223372036854775808 : Int64)), .second, .val (.long q2), .second, .unset, .unset] [(.int (p3 &&& (2 : Int32)))])) t → Steps p.tables e below (s₁.setTop (entryFrame m #[(.long q1), (.long q2), (.int p3)] maxLocals)) t := fun t k => pre14 t (by
        show Steps p.tables e below (s₁.setTop (mkF m 10 #[.val (.long q1), .second, .val (.long q2), .second, .val (.int p3), .val (.long q1), .second, .val (.long q2), .second, .unset, .unset] [(.int (p3 &&& (1 : Int32)))])) _
        refine XS.ifNo X0.here hx rfl (hb hby at_10) rfl ((if0 _ _).trans (feq hc10_15).1) ?_
        show Steps p.tables e below (s₁.setTop (mkF m 13 #[.val (.long q1), .second, .val (.long q2), .second, .val (.int p3), .val (.long q1), .second, .val (.long q2), .second, .unset, .unset] [])) _
        refine X0.ldc2Long hx hown (mvT hZ (hw _ (List.mem_of_getElem? (i := 9) rfl))) (g := (mkF m 13 #[.val (.long q1), .second, .val (.long q2), .second, .val (.int p3), .val (.long q1), .second, .val (.long q2), .second, .unset, .unset] [])) rfl (hb hby at_13) _ ?_
        show Steps p.tables e below (s₁.setTop (mkF m 16 #[.val (.long q1), .second, .val (.long q2), .second, .val (.int p3), .val (.long q1), .second, .val (.long q2), .second, .unset, .unset] [(.long (-9223372036854775808 : Int64))])) _
        refine XS.lstore X0.here hx rfl (hb hby at_16) rfl (l' := #[.val (.long q1), .second, .val (.long q2), .second, .val (.int p3), .val (.long (-9223372036854775808 : Int64)), .second, .val (.long q2), .second, .unset, .unset]) rfl ?_
        show Steps p.tables e below (s₁.setTop (mkF m 18 #[.val (.long q1), .second, .val (.long q2), .second, .val (.int p3), .val (.long (-9223372036854775808 : Int64)), .second, .val (.long q2), .second, .unset, .unset] [])) _
        refine XS.iload X0.here hx rfl (hb hby at_18) rfl ?_
        show Steps p.tables e below (s₁.setTop (mkF m 20 #[.val (.long q1), .second, .val (.long q2), .second, .val (.int p3), .val (.long (-9223372036854775808 : Int64)), .second, .val (.long q2), .second, .unset, .unset] [(.int p3)])) _
        refine XS.iconst X0.here hx rfl (hb hby at_20) ?_
        show Steps p.tables e below (s₁.setTop (mkF m 21 #[.val (.long q1), .second, .val (.long q2), .second, .val (.int p3), .val (.long (-9223372036854775808 : Int64)), .second, .val (.long q2), .second, .unset, .unset] [(.int (2 : Int32)), (.int p3)])) _
        refine XS.iand X0.here hx rfl (hb hby at_21) rfl ?_
        exact k)
    by_cases hc22_31 : (p3 &&& (2 : Int32)) = (0 : Int32)
    · have pre32 : ∀ t, Steps p.tables e below (s₁.setTop (mkF m 34 #[.val (.long q1), .second, .val (.long q2), .second, .val (.int p3), .val (.long (-9223372036854775808 : Int64)), .second, .val (.long q2), .second, .unset, .unset] [(.int (p3 &&& (4 : Int32)))])) t → Steps p.tables e below (s₁.setTop (entryFrame m #[(.long q1), (.long q2), (.int p3)] maxLocals)) t := fun t k => pre30 t (by
          show Steps p.tables e below (s₁.setTop (mkF m 22 #[.val (.long q1), .second, .val (.long q2), .second, .val (.int p3), .val (.long (-9223372036854775808 : Int64)), .second, .val (.long q2), .second, .unset, .unset] [(.int (p3 &&& (2 : Int32)))])) _
          refine XS.ifYes X0.here hx rfl (pc0 := 22) (pc' := 30) rfl (hb hby at_22) rfl ((if0 _ _).trans (teq hc22_31).1) (by decide) (by decide) ?_
          show Steps p.tables e below (s₁.setTop (mkF m 30 #[.val (.long q1), .second, .val (.long q2), .second, .val (.int p3), .val (.long (-9223372036854775808 : Int64)), .second, .val (.long q2), .second, .unset, .unset] [])) _
          refine XS.iload X0.here hx rfl (hb hby at_30) rfl ?_
          show Steps p.tables e below (s₁.setTop (mkF m 32 #[.val (.long q1), .second, .val (.long q2), .second, .val (.int p3), .val (.long (-9223372036854775808 : Int64)), .second, .val (.long q2), .second, .unset, .unset] [(.int p3)])) _
          refine XS.iconst X0.here hx rfl (hb hby at_32) ?_
          show Steps p.tables e below (s₁.setTop (mkF m 33 #[.val (.long q1), .second, .val (.long q2), .second, .val (.int p3), .val (.long (-9223372036854775808 : Int64)), .second, .val (.long q2), .second, .unset, .unset] [(.int (4 : Int32)), (.int p3)])) _
          refine XS.iand X0.here hx rfl (hb hby at_33) rfl ?_
          exact k)
      by_cases hc34_33 : (p3 &&& (4 : Int32)) = (0 : Int32)
      · obtain ⟨_, _, ⟨T34, L34, k34, n34⟩, -, X34, ⟨Lc34, hQ34, l34, y34, z34⟩, st34⟩ := Jvm.LawKit.callS X0 hx (y := (⟨"org/millrace/engine/Window", "earlier", "(JJ)J"⟩ : MethodName)) hown (mvT hZ (hw _ (List.mem_of_getElem? (i := 0) rfl))) (mvT hZ (hw _ (List.mem_of_getElem? (i := 1) rfl))) (mvT hZ (hw _ (List.mem_of_getElem? (i := 2) rfl))) (mvT hZ (hw _ (List.mem_of_getElem? (i := 3) rfl))) (by decide) (backOf (W := 0) (rm1 l Z a0 hw [] (-9223372036854775808 : Int64) q2 h0 n0 Z0 ) hZ (hw _ (List.mem_of_getElem? (i := 3) rfl)) (hw _ (List.mem_of_getElem? (i := 2) rfl)) (by decide) (by decide)) (g := (mkF m 45 #[.val (.long q1), .second, .val (.long q2), .second, .val (.int p3), .val (.long (-9223372036854775808 : Int64)), .second, .val (.long q2), .second, .unset, .unset] [(.long q2), (.long (-9223372036854775808 : Int64))])) rfl (by rw [hml]; rfl) (argsL := [(.long (-9223372036854775808 : Int64)), (.long q2)]) (rest := []) (lenOf pd_0 rfl) rfl (by show 2 * 0 + _ ≤ _; exact Nat.le_of_eq rfl) (hb hby at_45) (fun _ _ => ⟨rfl, e0, (by decide : 0 + 0 ≤ _), (by decide : 0 + 0 ≤ _)⟩)
        dsimp only [Pt.U, Pt.locs, Pt.cells, Pt.slots] at X34 l34 y34 z34 st34 hQ34
        subst l34 y34 z34
        obtain ⟨rfl, Nq34, e34⟩ := hQ34
        have N34 := Fr.app N0 Nq34
        obtain ⟨_, _, ⟨T35, L35, k35, n35⟩, -, X35, ⟨Lc35, hQ35, l35, y35, z35⟩, st35⟩ := Jvm.LawKit.callS X34 hx (y := (⟨"org/millrace/engine/WindowEarlierPinLaw", "reference", "(JJ)J"⟩ : MethodName)) hown (mvT hZ (hw _ (List.mem_of_getElem? (i := 5) rfl))) (mvT hZ (hw _ (List.mem_of_getElem? (i := 6) rfl))) (mvT hZ (hw _ (List.mem_of_getElem? (i := 7) rfl))) (mvT hZ (hw _ (List.mem_of_getElem? (i := 8) rfl))) (by decide) (backOf (W := 2) (rm2 l Z a0 hw [] (-9223372036854775808 : Int64) q2 h0 n0 Z0 ) hZ (hw _ (List.mem_of_getElem? (i := 8) rfl)) (hw _ (List.mem_of_getElem? (i := 7) rfl)) (by decide) (by decide)) (g := (mkF m 56 #[.val (.long q1), .second, .val (.long q2), .second, .val (.int p3), .val (.long (-9223372036854775808 : Int64)), .second, .val (.long q2), .second, .val (.long (own_earlier (-9223372036854775808 : Int64) q2)), .second] [(.long q2), (.long (-9223372036854775808 : Int64)), (.long (own_earlier (-9223372036854775808 : Int64) q2))])) rfl (by rw [hml]; rfl) (argsL := [(.long (-9223372036854775808 : Int64)), (.long q2)]) (rest := [(.long (own_earlier (-9223372036854775808 : Int64) q2))]) (lenOf pd_0 rfl) rfl (by show 2 * 0 + _ ≤ _; exact Nat.le_of_eq rfl) (hb hby at_56) (fun _ _ => ⟨rfl, e34, (by decide : 0 + 0 ≤ _), (by decide : 0 + 0 ≤ _)⟩)
        dsimp only [Pt.U, Pt.locs, Pt.cells, Pt.slots] at X35 l35 y35 z35 st35 hQ35
        subst l35 y35 z35
        obtain ⟨rfl, Nq35, e35⟩ := hQ35
        have N35 := Fr.app N34 Nq35
        obtain ⟨fs, hr, hrun, hended, hW, hsame⟩ := X35.leave (v := some (.int (1 : Int32))) (fun h => by rw [Bd.returns] at h; cases h)
        refine ⟨_, _, pre32 _ ?_, hrun, hended, _, _, rfl, ?_, ⟨_, rfl⟩, hW, hsame.mono (by decide) (by decide)⟩
        · show Steps p.tables e below (s₁.setTop (mkF m 34 #[.val (.long q1), .second, .val (.long q2), .second, .val (.int p3), .val (.long (-9223372036854775808 : Int64)), .second, .val (.long q2), .second, .unset, .unset] [(.int (p3 &&& (4 : Int32)))])) _
          refine XS.ifYes X0.here hx rfl (pc0 := 34) (pc' := 41) rfl (hb hby at_34) rfl ((if0 _ _).trans (teq hc34_33).1) (by decide) (by decide) ?_
          show Steps p.tables e below (s₁.setTop (mkF m 41 #[.val (.long q1), .second, .val (.long q2), .second, .val (.int p3), .val (.long (-9223372036854775808 : Int64)), .second, .val (.long q2), .second, .unset, .unset] [])) _
          refine XS.lload X0.here hx rfl (hb hby at_41) rfl ?_
          show Steps p.tables e below (s₁.setTop (mkF m 43 #[.val (.long q1), .second, .val (.long q2), .second, .val (.int p3), .val (.long (-9223372036854775808 : Int64)), .second, .val (.long q2), .second, .unset, .unset] [(.long (-9223372036854775808 : Int64))])) _
          refine XS.lload X0.here hx rfl (hb hby at_43) rfl ?_
          show Steps p.tables e below (s₁.setTop (mkF m 45 #[.val (.long q1), .second, .val (.long q2), .second, .val (.int p3), .val (.long (-9223372036854775808 : Int64)), .second, .val (.long q2), .second, .unset, .unset] [(.long q2), (.long (-9223372036854775808 : Int64))])) _
          refine st34 _ ?_
          show Steps p.tables e below (T34.setTop (mkF m 48 #[.val (.long q1), .second, .val (.long q2), .second, .val (.int p3), .val (.long (-9223372036854775808 : Int64)), .second, .val (.long q2), .second, .unset, .unset] [(.long (own_earlier (-9223372036854775808 : Int64) q2))])) _
          refine XS.lstore X34.here hx rfl (hb hby at_48) rfl (l' := #[.val (.long q1), .second, .val (.long q2), .second, .val (.int p3), .val (.long (-9223372036854775808 : Int64)), .second, .val (.long q2), .second, .val (.long (own_earlier (-9223372036854775808 : Int64) q2)), .second]) rfl ?_
          show Steps p.tables e below (T34.setTop (mkF m 50 #[.val (.long q1), .second, .val (.long q2), .second, .val (.int p3), .val (.long (-9223372036854775808 : Int64)), .second, .val (.long q2), .second, .val (.long (own_earlier (-9223372036854775808 : Int64) q2)), .second] [])) _
          refine XS.lload X34.here hx rfl (hb hby at_50) rfl ?_
          show Steps p.tables e below (T34.setTop (mkF m 52 #[.val (.long q1), .second, .val (.long q2), .second, .val (.int p3), .val (.long (-9223372036854775808 : Int64)), .second, .val (.long q2), .second, .val (.long (own_earlier (-9223372036854775808 : Int64) q2)), .second] [(.long (own_earlier (-9223372036854775808 : Int64) q2))])) _
          refine XS.lload X34.here hx rfl (hb hby at_52) rfl ?_
          show Steps p.tables e below (T34.setTop (mkF m 54 #[.val (.long q1), .second, .val (.long q2), .second, .val (.int p3), .val (.long (-9223372036854775808 : Int64)), .second, .val (.long q2), .second, .val (.long (own_earlier (-9223372036854775808 : Int64) q2)), .second] [(.long (-9223372036854775808 : Int64)), (.long (own_earlier (-9223372036854775808 : Int64) q2))])) _
          refine XS.lload X34.here hx rfl (hb hby at_54) rfl ?_
          show Steps p.tables e below (T34.setTop (mkF m 56 #[.val (.long q1), .second, .val (.long q2), .second, .val (.int p3), .val (.long (-9223372036854775808 : Int64)), .second, .val (.long q2), .second, .val (.long (own_earlier (-9223372036854775808 : Int64) q2)), .second] [(.long q2), (.long (-9223372036854775808 : Int64)), (.long (own_earlier (-9223372036854775808 : Int64) q2))])) _
          refine st35 _ ?_
          show Steps p.tables e below (T35.setTop (mkF m 59 #[.val (.long q1), .second, .val (.long q2), .second, .val (.int p3), .val (.long (-9223372036854775808 : Int64)), .second, .val (.long q2), .second, .val (.long (own_earlier (-9223372036854775808 : Int64) q2)), .second] [(.long (own_ref (-9223372036854775808 : Int64) q2)), (.long (own_earlier (-9223372036854775808 : Int64) q2))])) _
          refine XS.lcmp X35.here hx rfl (hb hby at_59) rfl ?_
          show Steps p.tables e below (T35.setTop (mkF m 60 #[.val (.long q1), .second, .val (.long q2), .second, .val (.int p3), .val (.long (-9223372036854775808 : Int64)), .second, .val (.long q2), .second, .val (.long (own_earlier (-9223372036854775808 : Int64) q2)), .second] [(.int (lcmpW (own_earlier (-9223372036854775808 : Int64) q2) (own_ref (-9223372036854775808 : Int64) q2)))])) _
          refine XS.ifNo X35.here hx rfl (hb hby at_60) rfl ((if0 _ _).trans (teq ((lw_eq _ _).mpr (own_same _ _ : (own_earlier (-9223372036854775808 : Int64) q2) = (own_ref (-9223372036854775808 : Int64) q2)))).2) ?_
          show Steps p.tables e below (T35.setTop (mkF m 63 #[.val (.long q1), .second, .val (.long q2), .second, .val (.int p3), .val (.long (-9223372036854775808 : Int64)), .second, .val (.long q2), .second, .val (.long (own_earlier (-9223372036854775808 : Int64) q2)), .second] [])) _
          refine XS.iconst X35.here hx rfl (hb hby at_63) ?_
          show Steps p.tables e below (T35.setTop (mkF m 64 #[.val (.long q1), .second, .val (.long q2), .second, .val (.int p3), .val (.long (-9223372036854775808 : Int64)), .second, .val (.long q2), .second, .val (.long (own_earlier (-9223372036854775808 : Int64) q2)), .second] [(.int (1 : Int32))])) _
          refine XS.goto X35.here hx rfl (pc0 := 64) (pc' := 68) rfl (hb hby at_64) (by decide) (by decide) ?_
          show Steps p.tables e below (T35.setTop (mkF m 68 #[.val (.long q1), .second, .val (.long q2), .second, .val (.int p3), .val (.long (-9223372036854775808 : Int64)), .second, .val (.long q2), .second, .val (.long (own_earlier (-9223372036854775808 : Int64) q2)), .second] [(.int (1 : Int32))])) _
          exact retN X35 hx (t := .boolean) Bd.returns (by simp) (hb hby at_68) hr
        · show Q0 Z q1 q2 p3 h0 n0 _ T35.heap _
          rw [e35]
          exact ⟨rfl, N35⟩
      · obtain ⟨_, _, ⟨T36, L36, k36, n36⟩, -, X36, ⟨Lc36, hQ36, l36, y36, z36⟩, st36⟩ := Jvm.LawKit.callS X0 hx (y := (⟨"org/millrace/engine/Window", "earlier", "(JJ)J"⟩ : MethodName)) hown (mvT hZ (hw _ (List.mem_of_getElem? (i := 0) rfl))) (mvT hZ (hw _ (List.mem_of_getElem? (i := 1) rfl))) (mvT hZ (hw _ (List.mem_of_getElem? (i := 2) rfl))) (mvT hZ (hw _ (List.mem_of_getElem? (i := 3) rfl))) (by decide) (backOf (W := 0) (rm1 l Z a0 hw [] (-9223372036854775808 : Int64) (-9223372036854775808 : Int64) h0 n0 Z0 ) hZ (hw _ (List.mem_of_getElem? (i := 3) rfl)) (hw _ (List.mem_of_getElem? (i := 2) rfl)) (by decide) (by decide)) (g := (mkF m 45 #[.val (.long q1), .second, .val (.long q2), .second, .val (.int p3), .val (.long (-9223372036854775808 : Int64)), .second, .val (.long (-9223372036854775808 : Int64)), .second, .unset, .unset] [(.long (-9223372036854775808 : Int64)), (.long (-9223372036854775808 : Int64))])) rfl (by rw [hml]; rfl) (argsL := [(.long (-9223372036854775808 : Int64)), (.long (-9223372036854775808 : Int64))]) (rest := []) (lenOf pd_0 rfl) rfl (by show 2 * 0 + _ ≤ _; exact Nat.le_of_eq rfl) (hb hby at_45) (fun _ _ => ⟨rfl, e0, (by decide : 0 + 0 ≤ _), (by decide : 0 + 0 ≤ _)⟩)
        dsimp only [Pt.U, Pt.locs, Pt.cells, Pt.slots] at X36 l36 y36 z36 st36 hQ36
        subst l36 y36 z36
        obtain ⟨rfl, Nq36, e36⟩ := hQ36
        have N36 := Fr.app N0 Nq36
        obtain ⟨_, _, ⟨T37, L37, k37, n37⟩, -, X37, ⟨Lc37, hQ37, l37, y37, z37⟩, st37⟩ := Jvm.LawKit.callS X36 hx (y := (⟨"org/millrace/engine/WindowEarlierPinLaw", "reference", "(JJ)J"⟩ : MethodName)) hown (mvT hZ (hw _ (List.mem_of_getElem? (i := 5) rfl))) (mvT hZ (hw _ (List.mem_of_getElem? (i := 6) rfl))) (mvT hZ (hw _ (List.mem_of_getElem? (i := 7) rfl))) (mvT hZ (hw _ (List.mem_of_getElem? (i := 8) rfl))) (by decide) (backOf (W := 2) (rm2 l Z a0 hw [] (-9223372036854775808 : Int64) (-9223372036854775808 : Int64) h0 n0 Z0 ) hZ (hw _ (List.mem_of_getElem? (i := 8) rfl)) (hw _ (List.mem_of_getElem? (i := 7) rfl)) (by decide) (by decide)) (g := (mkF m 56 #[.val (.long q1), .second, .val (.long q2), .second, .val (.int p3), .val (.long (-9223372036854775808 : Int64)), .second, .val (.long (-9223372036854775808 : Int64)), .second, .val (.long (own_earlier (-9223372036854775808 : Int64) (-9223372036854775808 : Int64))), .second] [(.long (-9223372036854775808 : Int64)), (.long (-9223372036854775808 : Int64)), (.long (own_earlier (-9223372036854775808 : Int64) (-9223372036854775808 : Int64)))])) rfl (by rw [hml]; rfl) (argsL := [(.long (-9223372036854775808 : Int64)), (.long (-9223372036854775808 : Int64))]) (rest := [(.long (own_earlier (-9223372036854775808 : Int64) (-9223372036854775808 : Int64)))]) (lenOf pd_0 rfl) rfl (by show 2 * 0 + _ ≤ _; exact Nat.le_of_eq rfl) (hb hby at_56) (fun _ _ => ⟨rfl, e36, (by decide : 0 + 0 ≤ _), (by decide : 0 + 0 ≤ _)⟩)
        dsimp only [Pt.U, Pt.locs, Pt.cells, Pt.slots] at X37 l37 y37 z37 st37 hQ37
        subst l37 y37 z37
        obtain ⟨rfl, Nq37, e37⟩ := hQ37
        have N37 := Fr.app N36 Nq37
        obtain ⟨fs, hr, hrun, hended, hW, hsame⟩ := X37.leave (v := some (.int (1 : Int32))) (fun h => by rw [Bd.returns] at h; cases h)
        refine ⟨_, _, pre32 _ ?_, hrun, hended, _, _, rfl, ?_, ⟨_, rfl⟩, hW, hsame.mono (by decide) (by decide)⟩
        · show Steps p.tables e below (s₁.setTop (mkF m 34 #[.val (.long q1), .second, .val (.long q2), .second, .val (.int p3), .val (.long (-9223372036854775808 : Int64)), .second, .val (.long q2), .second, .unset, .unset] [(.int (p3 &&& (4 : Int32)))])) _
          refine XS.ifNo X0.here hx rfl (hb hby at_34) rfl ((if0 _ _).trans (feq hc34_33).1) ?_
          show Steps p.tables e below (s₁.setTop (mkF m 37 #[.val (.long q1), .second, .val (.long q2), .second, .val (.int p3), .val (.long (-9223372036854775808 : Int64)), .second, .val (.long q2), .second, .unset, .unset] [])) _
          refine XS.lload X0.here hx rfl (hb hby at_37) rfl ?_
          show Steps p.tables e below (s₁.setTop (mkF m 39 #[.val (.long q1), .second, .val (.long q2), .second, .val (.int p3), .val (.long (-9223372036854775808 : Int64)), .second, .val (.long q2), .second, .unset, .unset] [(.long (-9223372036854775808 : Int64))])) _
          refine XS.lstore X0.here hx rfl (hb hby at_39) rfl (l' := #[.val (.long q1), .second, .val (.long q2), .second, .val (.int p3), .val (.long (-9223372036854775808 : Int64)), .second, .val (.long (-9223372036854775808 : Int64)), .second, .unset, .unset]) rfl ?_
          show Steps p.tables e below (s₁.setTop (mkF m 41 #[.val (.long q1), .second, .val (.long q2), .second, .val (.int p3), .val (.long (-9223372036854775808 : Int64)), .second, .val (.long (-9223372036854775808 : Int64)), .second, .unset, .unset] [])) _
          refine XS.lload X0.here hx rfl (hb hby at_41) rfl ?_
          show Steps p.tables e below (s₁.setTop (mkF m 43 #[.val (.long q1), .second, .val (.long q2), .second, .val (.int p3), .val (.long (-9223372036854775808 : Int64)), .second, .val (.long (-9223372036854775808 : Int64)), .second, .unset, .unset] [(.long (-9223372036854775808 : Int64))])) _
          refine XS.lload X0.here hx rfl (hb hby at_43) rfl ?_
          show Steps p.tables e below (s₁.setTop (mkF m 45 #[.val (.long q1), .second, .val (.long q2), .second, .val (.int p3), .val (.long (-9223372036854775808 : Int64)), .second, .val (.long (-9223372036854775808 : Int64)), .second, .unset, .unset] [(.long (-9223372036854775808 : Int64)), (.long (-9223372036854775808 : Int64))])) _
          refine st36 _ ?_
          show Steps p.tables e below (T36.setTop (mkF m 48 #[.val (.long q1), .second, .val (.long q2), .second, .val (.int p3), .val (.long (-9223372036854775808 : Int64)), .second, .val (.long (-9223372036854775808 : Int64)), .second, .unset, .unset] [(.long (own_earlier (-9223372036854775808 : Int64) (-9223372036854775808 : Int64)))])) _
          refine XS.lstore X36.here hx rfl (hb hby at_48) rfl (l' := #[.val (.long q1), .second, .val (.long q2), .second, .val (.int p3), .val (.long (-9223372036854775808 : Int64)), .second, .val (.long (-9223372036854775808 : Int64)), .second, .val (.long (own_earlier (-9223372036854775808 : Int64) (-9223372036854775808 : Int64))), .second]) rfl ?_
          show Steps p.tables e below (T36.setTop (mkF m 50 #[.val (.long q1), .second, .val (.long q2), .second, .val (.int p3), .val (.long (-9223372036854775808 : Int64)), .second, .val (.long (-9223372036854775808 : Int64)), .second, .val (.long (own_earlier (-9223372036854775808 : Int64) (-9223372036854775808 : Int64))), .second] [])) _
          refine XS.lload X36.here hx rfl (hb hby at_50) rfl ?_
          show Steps p.tables e below (T36.setTop (mkF m 52 #[.val (.long q1), .second, .val (.long q2), .second, .val (.int p3), .val (.long (-9223372036854775808 : Int64)), .second, .val (.long (-9223372036854775808 : Int64)), .second, .val (.long (own_earlier (-9223372036854775808 : Int64) (-9223372036854775808 : Int64))), .second] [(.long (own_earlier (-9223372036854775808 : Int64) (-9223372036854775808 : Int64)))])) _
          refine XS.lload X36.here hx rfl (hb hby at_52) rfl ?_
          show Steps p.tables e below (T36.setTop (mkF m 54 #[.val (.long q1), .second, .val (.long q2), .second, .val (.int p3), .val (.long (-9223372036854775808 : Int64)), .second, .val (.long (-9223372036854775808 : Int64)), .second, .val (.long (own_earlier (-9223372036854775808 : Int64) (-9223372036854775808 : Int64))), .second] [(.long (-9223372036854775808 : Int64)), (.long (own_earlier (-9223372036854775808 : Int64) (-9223372036854775808 : Int64)))])) _
          refine XS.lload X36.here hx rfl (hb hby at_54) rfl ?_
          show Steps p.tables e below (T36.setTop (mkF m 56 #[.val (.long q1), .second, .val (.long q2), .second, .val (.int p3), .val (.long (-9223372036854775808 : Int64)), .second, .val (.long (-9223372036854775808 : Int64)), .second, .val (.long (own_earlier (-9223372036854775808 : Int64) (-9223372036854775808 : Int64))), .second] [(.long (-9223372036854775808 : Int64)), (.long (-9223372036854775808 : Int64)), (.long (own_earlier (-9223372036854775808 : Int64) (-9223372036854775808 : Int64)))])) _
          refine st37 _ ?_
          show Steps p.tables e below (T37.setTop (mkF m 59 #[.val (.long q1), .second, .val (.long q2), .second, .val (.int p3), .val (.long (-9223372036854775808 : Int64)), .second, .val (.long (-9223372036854775808 : Int64)), .second, .val (.long (own_earlier (-9223372036854775808 : Int64) (-9223372036854775808 : Int64))), .second] [(.long (own_ref (-9223372036854775808 : Int64) (-9223372036854775808 : Int64))), (.long (own_earlier (-9223372036854775808 : Int64) (-9223372036854775808 : Int64)))])) _
          refine XS.lcmp X37.here hx rfl (hb hby at_59) rfl ?_
          show Steps p.tables e below (T37.setTop (mkF m 60 #[.val (.long q1), .second, .val (.long q2), .second, .val (.int p3), .val (.long (-9223372036854775808 : Int64)), .second, .val (.long (-9223372036854775808 : Int64)), .second, .val (.long (own_earlier (-9223372036854775808 : Int64) (-9223372036854775808 : Int64))), .second] [(.int (lcmpW (own_earlier (-9223372036854775808 : Int64) (-9223372036854775808 : Int64)) (own_ref (-9223372036854775808 : Int64) (-9223372036854775808 : Int64))))])) _
          refine XS.ifNo X37.here hx rfl (hb hby at_60) rfl ((if0 _ _).trans (teq ((lw_eq _ _).mpr (own_same _ _ : (own_earlier (-9223372036854775808 : Int64) (-9223372036854775808 : Int64)) = (own_ref (-9223372036854775808 : Int64) (-9223372036854775808 : Int64))))).2) ?_
          show Steps p.tables e below (T37.setTop (mkF m 63 #[.val (.long q1), .second, .val (.long q2), .second, .val (.int p3), .val (.long (-9223372036854775808 : Int64)), .second, .val (.long (-9223372036854775808 : Int64)), .second, .val (.long (own_earlier (-9223372036854775808 : Int64) (-9223372036854775808 : Int64))), .second] [])) _
          refine XS.iconst X37.here hx rfl (hb hby at_63) ?_
          show Steps p.tables e below (T37.setTop (mkF m 64 #[.val (.long q1), .second, .val (.long q2), .second, .val (.int p3), .val (.long (-9223372036854775808 : Int64)), .second, .val (.long (-9223372036854775808 : Int64)), .second, .val (.long (own_earlier (-9223372036854775808 : Int64) (-9223372036854775808 : Int64))), .second] [(.int (1 : Int32))])) _
          refine XS.goto X37.here hx rfl (pc0 := 64) (pc' := 68) rfl (hb hby at_64) (by decide) (by decide) ?_
          show Steps p.tables e below (T37.setTop (mkF m 68 #[.val (.long q1), .second, .val (.long q2), .second, .val (.int p3), .val (.long (-9223372036854775808 : Int64)), .second, .val (.long (-9223372036854775808 : Int64)), .second, .val (.long (own_earlier (-9223372036854775808 : Int64) (-9223372036854775808 : Int64))), .second] [(.int (1 : Int32))])) _
          exact retN X37 hx (t := .boolean) Bd.returns (by simp) (hb hby at_68) hr
        · show Q0 Z q1 q2 p3 h0 n0 _ T37.heap _
          rw [e37]
          exact ⟨rfl, N37⟩
    · have pre38 : ∀ t, Steps p.tables e below (s₁.setTop (mkF m 34 #[.val (.long q1), .second, .val (.long q2), .second, .val (.int p3), .val (.long (-9223372036854775808 : Int64)), .second, .val (.long (-9223372036854775808 : Int64)), .second, .unset, .unset] [(.int (p3 &&& (4 : Int32)))])) t → Steps p.tables e below (s₁.setTop (entryFrame m #[(.long q1), (.long q2), (.int p3)] maxLocals)) t := fun t k => pre30 t (by
          show Steps p.tables e below (s₁.setTop (mkF m 22 #[.val (.long q1), .second, .val (.long q2), .second, .val (.int p3), .val (.long (-9223372036854775808 : Int64)), .second, .val (.long q2), .second, .unset, .unset] [(.int (p3 &&& (2 : Int32)))])) _
          refine XS.ifNo X0.here hx rfl (hb hby at_22) rfl ((if0 _ _).trans (feq hc22_31).1) ?_
          show Steps p.tables e below (s₁.setTop (mkF m 25 #[.val (.long q1), .second, .val (.long q2), .second, .val (.int p3), .val (.long (-9223372036854775808 : Int64)), .second, .val (.long q2), .second, .unset, .unset] [])) _
          refine X0.ldc2Long hx hown (mvT hZ (hw _ (List.mem_of_getElem? (i := 9) rfl))) (g := (mkF m 25 #[.val (.long q1), .second, .val (.long q2), .second, .val (.int p3), .val (.long (-9223372036854775808 : Int64)), .second, .val (.long q2), .second, .unset, .unset] [])) rfl (hb hby at_25) _ ?_
          show Steps p.tables e below (s₁.setTop (mkF m 28 #[.val (.long q1), .second, .val (.long q2), .second, .val (.int p3), .val (.long (-9223372036854775808 : Int64)), .second, .val (.long q2), .second, .unset, .unset] [(.long (-9223372036854775808 : Int64))])) _
          refine XS.lstore X0.here hx rfl (hb hby at_28) rfl (l' := #[.val (.long q1), .second, .val (.long q2), .second, .val (.int p3), .val (.long (-9223372036854775808 : Int64)), .second, .val (.long (-9223372036854775808 : Int64)), .second, .unset, .unset]) rfl ?_
          show Steps p.tables e below (s₁.setTop (mkF m 30 #[.val (.long q1), .second, .val (.long q2), .second, .val (.int p3), .val (.long (-9223372036854775808 : Int64)), .second, .val (.long (-9223372036854775808 : Int64)), .second, .unset, .unset] [])) _
          refine XS.iload X0.here hx rfl (hb hby at_30) rfl ?_
          show Steps p.tables e below (s₁.setTop (mkF m 32 #[.val (.long q1), .second, .val (.long q2), .second, .val (.int p3), .val (.long (-9223372036854775808 : Int64)), .second, .val (.long (-9223372036854775808 : Int64)), .second, .unset, .unset] [(.int p3)])) _
          refine XS.iconst X0.here hx rfl (hb hby at_32) ?_
          show Steps p.tables e below (s₁.setTop (mkF m 33 #[.val (.long q1), .second, .val (.long q2), .second, .val (.int p3), .val (.long (-9223372036854775808 : Int64)), .second, .val (.long (-9223372036854775808 : Int64)), .second, .unset, .unset] [(.int (4 : Int32)), (.int p3)])) _
          refine XS.iand X0.here hx rfl (hb hby at_33) rfl ?_
          exact k)
      by_cases hc34_39 : (p3 &&& (4 : Int32)) = (0 : Int32)
      · obtain ⟨_, _, ⟨T40, L40, k40, n40⟩, -, X40, ⟨Lc40, hQ40, l40, y40, z40⟩, st40⟩ := Jvm.LawKit.callS X0 hx (y := (⟨"org/millrace/engine/Window", "earlier", "(JJ)J"⟩ : MethodName)) hown (mvT hZ (hw _ (List.mem_of_getElem? (i := 0) rfl))) (mvT hZ (hw _ (List.mem_of_getElem? (i := 1) rfl))) (mvT hZ (hw _ (List.mem_of_getElem? (i := 2) rfl))) (mvT hZ (hw _ (List.mem_of_getElem? (i := 3) rfl))) (by decide) (backOf (W := 0) (rm1 l Z a0 hw [] (-9223372036854775808 : Int64) (-9223372036854775808 : Int64) h0 n0 Z0 ) hZ (hw _ (List.mem_of_getElem? (i := 3) rfl)) (hw _ (List.mem_of_getElem? (i := 2) rfl)) (by decide) (by decide)) (g := (mkF m 45 #[.val (.long q1), .second, .val (.long q2), .second, .val (.int p3), .val (.long (-9223372036854775808 : Int64)), .second, .val (.long (-9223372036854775808 : Int64)), .second, .unset, .unset] [(.long (-9223372036854775808 : Int64)), (.long (-9223372036854775808 : Int64))])) rfl (by rw [hml]; rfl) (argsL := [(.long (-9223372036854775808 : Int64)), (.long (-9223372036854775808 : Int64))]) (rest := []) (lenOf pd_0 rfl) rfl (by show 2 * 0 + _ ≤ _; exact Nat.le_of_eq rfl) (hb hby at_45) (fun _ _ => ⟨rfl, e0, (by decide : 0 + 0 ≤ _), (by decide : 0 + 0 ≤ _)⟩)
        dsimp only [Pt.U, Pt.locs, Pt.cells, Pt.slots] at X40 l40 y40 z40 st40 hQ40
        subst l40 y40 z40
        obtain ⟨rfl, Nq40, e40⟩ := hQ40
        have N40 := Fr.app N0 Nq40
        obtain ⟨_, _, ⟨T41, L41, k41, n41⟩, -, X41, ⟨Lc41, hQ41, l41, y41, z41⟩, st41⟩ := Jvm.LawKit.callS X40 hx (y := (⟨"org/millrace/engine/WindowEarlierPinLaw", "reference", "(JJ)J"⟩ : MethodName)) hown (mvT hZ (hw _ (List.mem_of_getElem? (i := 5) rfl))) (mvT hZ (hw _ (List.mem_of_getElem? (i := 6) rfl))) (mvT hZ (hw _ (List.mem_of_getElem? (i := 7) rfl))) (mvT hZ (hw _ (List.mem_of_getElem? (i := 8) rfl))) (by decide) (backOf (W := 2) (rm2 l Z a0 hw [] (-9223372036854775808 : Int64) (-9223372036854775808 : Int64) h0 n0 Z0 ) hZ (hw _ (List.mem_of_getElem? (i := 8) rfl)) (hw _ (List.mem_of_getElem? (i := 7) rfl)) (by decide) (by decide)) (g := (mkF m 56 #[.val (.long q1), .second, .val (.long q2), .second, .val (.int p3), .val (.long (-9223372036854775808 : Int64)), .second, .val (.long (-9223372036854775808 : Int64)), .second, .val (.long (own_earlier (-9223372036854775808 : Int64) (-9223372036854775808 : Int64))), .second] [(.long (-9223372036854775808 : Int64)), (.long (-9223372036854775808 : Int64)), (.long (own_earlier (-9223372036854775808 : Int64) (-9223372036854775808 : Int64)))])) rfl (by rw [hml]; rfl) (argsL := [(.long (-9223372036854775808 : Int64)), (.long (-9223372036854775808 : Int64))]) (rest := [(.long (own_earlier (-9223372036854775808 : Int64) (-9223372036854775808 : Int64)))]) (lenOf pd_0 rfl) rfl (by show 2 * 0 + _ ≤ _; exact Nat.le_of_eq rfl) (hb hby at_56) (fun _ _ => ⟨rfl, e40, (by decide : 0 + 0 ≤ _), (by decide : 0 + 0 ≤ _)⟩)
        dsimp only [Pt.U, Pt.locs, Pt.cells, Pt.slots] at X41 l41 y41 z41 st41 hQ41
        subst l41 y41 z41
        obtain ⟨rfl, Nq41, e41⟩ := hQ41
        have N41 := Fr.app N40 Nq41
        obtain ⟨fs, hr, hrun, hended, hW, hsame⟩ := X41.leave (v := some (.int (1 : Int32))) (fun h => by rw [Bd.returns] at h; cases h)
        refine ⟨_, _, pre38 _ ?_, hrun, hended, _, _, rfl, ?_, ⟨_, rfl⟩, hW, hsame.mono (by decide) (by decide)⟩
        · show Steps p.tables e below (s₁.setTop (mkF m 34 #[.val (.long q1), .second, .val (.long q2), .second, .val (.int p3), .val (.long (-9223372036854775808 : Int64)), .second, .val (.long (-9223372036854775808 : Int64)), .second, .unset, .unset] [(.int (p3 &&& (4 : Int32)))])) _
          refine XS.ifYes X0.here hx rfl (pc0 := 34) (pc' := 41) rfl (hb hby at_34) rfl ((if0 _ _).trans (teq hc34_39).1) (by decide) (by decide) ?_
          show Steps p.tables e below (s₁.setTop (mkF m 41 #[.val (.long q1), .second, .val (.long q2), .second, .val (.int p3), .val (.long (-9223372036854775808 : Int64)), .second, .val (.long (-9223372036854775808 : Int64)), .second, .unset, .unset] [])) _
          refine XS.lload X0.here hx rfl (hb hby at_41) rfl ?_
          show Steps p.tables e below (s₁.setTop (mkF m 43 #[.val (.long q1), .second, .val (.long q2), .second, .val (.int p3), .val (.long (-9223372036854775808 : Int64)), .second, .val (.long (-9223372036854775808 : Int64)), .second, .unset, .unset] [(.long (-9223372036854775808 : Int64))])) _
          refine XS.lload X0.here hx rfl (hb hby at_43) rfl ?_
          show Steps p.tables e below (s₁.setTop (mkF m 45 #[.val (.long q1), .second, .val (.long q2), .second, .val (.int p3), .val (.long (-9223372036854775808 : Int64)), .second, .val (.long (-9223372036854775808 : Int64)), .second, .unset, .unset] [(.long (-9223372036854775808 : Int64)), (.long (-9223372036854775808 : Int64))])) _
          refine st40 _ ?_
          show Steps p.tables e below (T40.setTop (mkF m 48 #[.val (.long q1), .second, .val (.long q2), .second, .val (.int p3), .val (.long (-9223372036854775808 : Int64)), .second, .val (.long (-9223372036854775808 : Int64)), .second, .unset, .unset] [(.long (own_earlier (-9223372036854775808 : Int64) (-9223372036854775808 : Int64)))])) _
          refine XS.lstore X40.here hx rfl (hb hby at_48) rfl (l' := #[.val (.long q1), .second, .val (.long q2), .second, .val (.int p3), .val (.long (-9223372036854775808 : Int64)), .second, .val (.long (-9223372036854775808 : Int64)), .second, .val (.long (own_earlier (-9223372036854775808 : Int64) (-9223372036854775808 : Int64))), .second]) rfl ?_
          show Steps p.tables e below (T40.setTop (mkF m 50 #[.val (.long q1), .second, .val (.long q2), .second, .val (.int p3), .val (.long (-9223372036854775808 : Int64)), .second, .val (.long (-9223372036854775808 : Int64)), .second, .val (.long (own_earlier (-9223372036854775808 : Int64) (-9223372036854775808 : Int64))), .second] [])) _
          refine XS.lload X40.here hx rfl (hb hby at_50) rfl ?_
          show Steps p.tables e below (T40.setTop (mkF m 52 #[.val (.long q1), .second, .val (.long q2), .second, .val (.int p3), .val (.long (-9223372036854775808 : Int64)), .second, .val (.long (-9223372036854775808 : Int64)), .second, .val (.long (own_earlier (-9223372036854775808 : Int64) (-9223372036854775808 : Int64))), .second] [(.long (own_earlier (-9223372036854775808 : Int64) (-9223372036854775808 : Int64)))])) _
          refine XS.lload X40.here hx rfl (hb hby at_52) rfl ?_
          show Steps p.tables e below (T40.setTop (mkF m 54 #[.val (.long q1), .second, .val (.long q2), .second, .val (.int p3), .val (.long (-9223372036854775808 : Int64)), .second, .val (.long (-9223372036854775808 : Int64)), .second, .val (.long (own_earlier (-9223372036854775808 : Int64) (-9223372036854775808 : Int64))), .second] [(.long (-9223372036854775808 : Int64)), (.long (own_earlier (-9223372036854775808 : Int64) (-9223372036854775808 : Int64)))])) _
          refine XS.lload X40.here hx rfl (hb hby at_54) rfl ?_
          show Steps p.tables e below (T40.setTop (mkF m 56 #[.val (.long q1), .second, .val (.long q2), .second, .val (.int p3), .val (.long (-9223372036854775808 : Int64)), .second, .val (.long (-9223372036854775808 : Int64)), .second, .val (.long (own_earlier (-9223372036854775808 : Int64) (-9223372036854775808 : Int64))), .second] [(.long (-9223372036854775808 : Int64)), (.long (-9223372036854775808 : Int64)), (.long (own_earlier (-9223372036854775808 : Int64) (-9223372036854775808 : Int64)))])) _
          refine st41 _ ?_
          show Steps p.tables e below (T41.setTop (mkF m 59 #[.val (.long q1), .second, .val (.long q2), .second, .val (.int p3), .val (.long (-9223372036854775808 : Int64)), .second, .val (.long (-9223372036854775808 : Int64)), .second, .val (.long (own_earlier (-9223372036854775808 : Int64) (-9223372036854775808 : Int64))), .second] [(.long (own_ref (-9223372036854775808 : Int64) (-9223372036854775808 : Int64))), (.long (own_earlier (-9223372036854775808 : Int64) (-9223372036854775808 : Int64)))])) _
          refine XS.lcmp X41.here hx rfl (hb hby at_59) rfl ?_
          show Steps p.tables e below (T41.setTop (mkF m 60 #[.val (.long q1), .second, .val (.long q2), .second, .val (.int p3), .val (.long (-9223372036854775808 : Int64)), .second, .val (.long (-9223372036854775808 : Int64)), .second, .val (.long (own_earlier (-9223372036854775808 : Int64) (-9223372036854775808 : Int64))), .second] [(.int (lcmpW (own_earlier (-9223372036854775808 : Int64) (-9223372036854775808 : Int64)) (own_ref (-9223372036854775808 : Int64) (-9223372036854775808 : Int64))))])) _
          refine XS.ifNo X41.here hx rfl (hb hby at_60) rfl ((if0 _ _).trans (teq ((lw_eq _ _).mpr (own_same _ _ : (own_earlier (-9223372036854775808 : Int64) (-9223372036854775808 : Int64)) = (own_ref (-9223372036854775808 : Int64) (-9223372036854775808 : Int64))))).2) ?_
          show Steps p.tables e below (T41.setTop (mkF m 63 #[.val (.long q1), .second, .val (.long q2), .second, .val (.int p3), .val (.long (-9223372036854775808 : Int64)), .second, .val (.long (-9223372036854775808 : Int64)), .second, .val (.long (own_earlier (-9223372036854775808 : Int64) (-9223372036854775808 : Int64))), .second] [])) _
          refine XS.iconst X41.here hx rfl (hb hby at_63) ?_
          show Steps p.tables e below (T41.setTop (mkF m 64 #[.val (.long q1), .second, .val (.long q2), .second, .val (.int p3), .val (.long (-9223372036854775808 : Int64)), .second, .val (.long (-9223372036854775808 : Int64)), .second, .val (.long (own_earlier (-9223372036854775808 : Int64) (-9223372036854775808 : Int64))), .second] [(.int (1 : Int32))])) _
          refine XS.goto X41.here hx rfl (pc0 := 64) (pc' := 68) rfl (hb hby at_64) (by decide) (by decide) ?_
          show Steps p.tables e below (T41.setTop (mkF m 68 #[.val (.long q1), .second, .val (.long q2), .second, .val (.int p3), .val (.long (-9223372036854775808 : Int64)), .second, .val (.long (-9223372036854775808 : Int64)), .second, .val (.long (own_earlier (-9223372036854775808 : Int64) (-9223372036854775808 : Int64))), .second] [(.int (1 : Int32))])) _
          exact retN X41 hx (t := .boolean) Bd.returns (by simp) (hb hby at_68) hr
        · show Q0 Z q1 q2 p3 h0 n0 _ T41.heap _
          rw [e41]
          exact ⟨rfl, N41⟩
      · obtain ⟨_, _, ⟨T42, L42, k42, n42⟩, -, X42, ⟨Lc42, hQ42, l42, y42, z42⟩, st42⟩ := Jvm.LawKit.callS X0 hx (y := (⟨"org/millrace/engine/Window", "earlier", "(JJ)J"⟩ : MethodName)) hown (mvT hZ (hw _ (List.mem_of_getElem? (i := 0) rfl))) (mvT hZ (hw _ (List.mem_of_getElem? (i := 1) rfl))) (mvT hZ (hw _ (List.mem_of_getElem? (i := 2) rfl))) (mvT hZ (hw _ (List.mem_of_getElem? (i := 3) rfl))) (by decide) (backOf (W := 0) (rm1 l Z a0 hw [] (-9223372036854775808 : Int64) (-9223372036854775808 : Int64) h0 n0 Z0 ) hZ (hw _ (List.mem_of_getElem? (i := 3) rfl)) (hw _ (List.mem_of_getElem? (i := 2) rfl)) (by decide) (by decide)) (g := (mkF m 45 #[.val (.long q1), .second, .val (.long q2), .second, .val (.int p3), .val (.long (-9223372036854775808 : Int64)), .second, .val (.long (-9223372036854775808 : Int64)), .second, .unset, .unset] [(.long (-9223372036854775808 : Int64)), (.long (-9223372036854775808 : Int64))])) rfl (by rw [hml]; rfl) (argsL := [(.long (-9223372036854775808 : Int64)), (.long (-9223372036854775808 : Int64))]) (rest := []) (lenOf pd_0 rfl) rfl (by show 2 * 0 + _ ≤ _; exact Nat.le_of_eq rfl) (hb hby at_45) (fun _ _ => ⟨rfl, e0, (by decide : 0 + 0 ≤ _), (by decide : 0 + 0 ≤ _)⟩)
        dsimp only [Pt.U, Pt.locs, Pt.cells, Pt.slots] at X42 l42 y42 z42 st42 hQ42
        subst l42 y42 z42
        obtain ⟨rfl, Nq42, e42⟩ := hQ42
        have N42 := Fr.app N0 Nq42
        obtain ⟨_, _, ⟨T43, L43, k43, n43⟩, -, X43, ⟨Lc43, hQ43, l43, y43, z43⟩, st43⟩ := Jvm.LawKit.callS X42 hx (y := (⟨"org/millrace/engine/WindowEarlierPinLaw", "reference", "(JJ)J"⟩ : MethodName)) hown (mvT hZ (hw _ (List.mem_of_getElem? (i := 5) rfl))) (mvT hZ (hw _ (List.mem_of_getElem? (i := 6) rfl))) (mvT hZ (hw _ (List.mem_of_getElem? (i := 7) rfl))) (mvT hZ (hw _ (List.mem_of_getElem? (i := 8) rfl))) (by decide) (backOf (W := 2) (rm2 l Z a0 hw [] (-9223372036854775808 : Int64) (-9223372036854775808 : Int64) h0 n0 Z0 ) hZ (hw _ (List.mem_of_getElem? (i := 8) rfl)) (hw _ (List.mem_of_getElem? (i := 7) rfl)) (by decide) (by decide)) (g := (mkF m 56 #[.val (.long q1), .second, .val (.long q2), .second, .val (.int p3), .val (.long (-9223372036854775808 : Int64)), .second, .val (.long (-9223372036854775808 : Int64)), .second, .val (.long (own_earlier (-9223372036854775808 : Int64) (-9223372036854775808 : Int64))), .second] [(.long (-9223372036854775808 : Int64)), (.long (-9223372036854775808 : Int64)), (.long (own_earlier (-9223372036854775808 : Int64) (-9223372036854775808 : Int64)))])) rfl (by rw [hml]; rfl) (argsL := [(.long (-9223372036854775808 : Int64)), (.long (-9223372036854775808 : Int64))]) (rest := [(.long (own_earlier (-9223372036854775808 : Int64) (-9223372036854775808 : Int64)))]) (lenOf pd_0 rfl) rfl (by show 2 * 0 + _ ≤ _; exact Nat.le_of_eq rfl) (hb hby at_56) (fun _ _ => ⟨rfl, e42, (by decide : 0 + 0 ≤ _), (by decide : 0 + 0 ≤ _)⟩)
        dsimp only [Pt.U, Pt.locs, Pt.cells, Pt.slots] at X43 l43 y43 z43 st43 hQ43
        subst l43 y43 z43
        obtain ⟨rfl, Nq43, e43⟩ := hQ43
        have N43 := Fr.app N42 Nq43
        obtain ⟨fs, hr, hrun, hended, hW, hsame⟩ := X43.leave (v := some (.int (1 : Int32))) (fun h => by rw [Bd.returns] at h; cases h)
        refine ⟨_, _, pre38 _ ?_, hrun, hended, _, _, rfl, ?_, ⟨_, rfl⟩, hW, hsame.mono (by decide) (by decide)⟩
        · show Steps p.tables e below (s₁.setTop (mkF m 34 #[.val (.long q1), .second, .val (.long q2), .second, .val (.int p3), .val (.long (-9223372036854775808 : Int64)), .second, .val (.long (-9223372036854775808 : Int64)), .second, .unset, .unset] [(.int (p3 &&& (4 : Int32)))])) _
          refine XS.ifNo X0.here hx rfl (hb hby at_34) rfl ((if0 _ _).trans (feq hc34_39).1) ?_
          show Steps p.tables e below (s₁.setTop (mkF m 37 #[.val (.long q1), .second, .val (.long q2), .second, .val (.int p3), .val (.long (-9223372036854775808 : Int64)), .second, .val (.long (-9223372036854775808 : Int64)), .second, .unset, .unset] [])) _
          refine XS.lload X0.here hx rfl (hb hby at_37) rfl ?_
          show Steps p.tables e below (s₁.setTop (mkF m 39 #[.val (.long q1), .second, .val (.long q2), .second, .val (.int p3), .val (.long (-9223372036854775808 : Int64)), .second, .val (.long (-9223372036854775808 : Int64)), .second, .unset, .unset] [(.long (-9223372036854775808 : Int64))])) _
          refine XS.lstore X0.here hx rfl (hb hby at_39) rfl (l' := #[.val (.long q1), .second, .val (.long q2), .second, .val (.int p3), .val (.long (-9223372036854775808 : Int64)), .second, .val (.long (-9223372036854775808 : Int64)), .second, .unset, .unset]) rfl ?_
          show Steps p.tables e below (s₁.setTop (mkF m 41 #[.val (.long q1), .second, .val (.long q2), .second, .val (.int p3), .val (.long (-9223372036854775808 : Int64)), .second, .val (.long (-9223372036854775808 : Int64)), .second, .unset, .unset] [])) _
          refine XS.lload X0.here hx rfl (hb hby at_41) rfl ?_
          show Steps p.tables e below (s₁.setTop (mkF m 43 #[.val (.long q1), .second, .val (.long q2), .second, .val (.int p3), .val (.long (-9223372036854775808 : Int64)), .second, .val (.long (-9223372036854775808 : Int64)), .second, .unset, .unset] [(.long (-9223372036854775808 : Int64))])) _
          refine XS.lload X0.here hx rfl (hb hby at_43) rfl ?_
          show Steps p.tables e below (s₁.setTop (mkF m 45 #[.val (.long q1), .second, .val (.long q2), .second, .val (.int p3), .val (.long (-9223372036854775808 : Int64)), .second, .val (.long (-9223372036854775808 : Int64)), .second, .unset, .unset] [(.long (-9223372036854775808 : Int64)), (.long (-9223372036854775808 : Int64))])) _
          refine st42 _ ?_
          show Steps p.tables e below (T42.setTop (mkF m 48 #[.val (.long q1), .second, .val (.long q2), .second, .val (.int p3), .val (.long (-9223372036854775808 : Int64)), .second, .val (.long (-9223372036854775808 : Int64)), .second, .unset, .unset] [(.long (own_earlier (-9223372036854775808 : Int64) (-9223372036854775808 : Int64)))])) _
          refine XS.lstore X42.here hx rfl (hb hby at_48) rfl (l' := #[.val (.long q1), .second, .val (.long q2), .second, .val (.int p3), .val (.long (-9223372036854775808 : Int64)), .second, .val (.long (-9223372036854775808 : Int64)), .second, .val (.long (own_earlier (-9223372036854775808 : Int64) (-9223372036854775808 : Int64))), .second]) rfl ?_
          show Steps p.tables e below (T42.setTop (mkF m 50 #[.val (.long q1), .second, .val (.long q2), .second, .val (.int p3), .val (.long (-9223372036854775808 : Int64)), .second, .val (.long (-9223372036854775808 : Int64)), .second, .val (.long (own_earlier (-9223372036854775808 : Int64) (-9223372036854775808 : Int64))), .second] [])) _
          refine XS.lload X42.here hx rfl (hb hby at_50) rfl ?_
          show Steps p.tables e below (T42.setTop (mkF m 52 #[.val (.long q1), .second, .val (.long q2), .second, .val (.int p3), .val (.long (-9223372036854775808 : Int64)), .second, .val (.long (-9223372036854775808 : Int64)), .second, .val (.long (own_earlier (-9223372036854775808 : Int64) (-9223372036854775808 : Int64))), .second] [(.long (own_earlier (-9223372036854775808 : Int64) (-9223372036854775808 : Int64)))])) _
          refine XS.lload X42.here hx rfl (hb hby at_52) rfl ?_
          show Steps p.tables e below (T42.setTop (mkF m 54 #[.val (.long q1), .second, .val (.long q2), .second, .val (.int p3), .val (.long (-9223372036854775808 : Int64)), .second, .val (.long (-9223372036854775808 : Int64)), .second, .val (.long (own_earlier (-9223372036854775808 : Int64) (-9223372036854775808 : Int64))), .second] [(.long (-9223372036854775808 : Int64)), (.long (own_earlier (-9223372036854775808 : Int64) (-9223372036854775808 : Int64)))])) _
          refine XS.lload X42.here hx rfl (hb hby at_54) rfl ?_
          show Steps p.tables e below (T42.setTop (mkF m 56 #[.val (.long q1), .second, .val (.long q2), .second, .val (.int p3), .val (.long (-9223372036854775808 : Int64)), .second, .val (.long (-9223372036854775808 : Int64)), .second, .val (.long (own_earlier (-9223372036854775808 : Int64) (-9223372036854775808 : Int64))), .second] [(.long (-9223372036854775808 : Int64)), (.long (-9223372036854775808 : Int64)), (.long (own_earlier (-9223372036854775808 : Int64) (-9223372036854775808 : Int64)))])) _
          refine st43 _ ?_
          show Steps p.tables e below (T43.setTop (mkF m 59 #[.val (.long q1), .second, .val (.long q2), .second, .val (.int p3), .val (.long (-9223372036854775808 : Int64)), .second, .val (.long (-9223372036854775808 : Int64)), .second, .val (.long (own_earlier (-9223372036854775808 : Int64) (-9223372036854775808 : Int64))), .second] [(.long (own_ref (-9223372036854775808 : Int64) (-9223372036854775808 : Int64))), (.long (own_earlier (-9223372036854775808 : Int64) (-9223372036854775808 : Int64)))])) _
          refine XS.lcmp X43.here hx rfl (hb hby at_59) rfl ?_
          show Steps p.tables e below (T43.setTop (mkF m 60 #[.val (.long q1), .second, .val (.long q2), .second, .val (.int p3), .val (.long (-9223372036854775808 : Int64)), .second, .val (.long (-9223372036854775808 : Int64)), .second, .val (.long (own_earlier (-9223372036854775808 : Int64) (-9223372036854775808 : Int64))), .second] [(.int (lcmpW (own_earlier (-9223372036854775808 : Int64) (-9223372036854775808 : Int64)) (own_ref (-9223372036854775808 : Int64) (-9223372036854775808 : Int64))))])) _
          refine XS.ifNo X43.here hx rfl (hb hby at_60) rfl ((if0 _ _).trans (teq ((lw_eq _ _).mpr (own_same _ _ : (own_earlier (-9223372036854775808 : Int64) (-9223372036854775808 : Int64)) = (own_ref (-9223372036854775808 : Int64) (-9223372036854775808 : Int64))))).2) ?_
          show Steps p.tables e below (T43.setTop (mkF m 63 #[.val (.long q1), .second, .val (.long q2), .second, .val (.int p3), .val (.long (-9223372036854775808 : Int64)), .second, .val (.long (-9223372036854775808 : Int64)), .second, .val (.long (own_earlier (-9223372036854775808 : Int64) (-9223372036854775808 : Int64))), .second] [])) _
          refine XS.iconst X43.here hx rfl (hb hby at_63) ?_
          show Steps p.tables e below (T43.setTop (mkF m 64 #[.val (.long q1), .second, .val (.long q2), .second, .val (.int p3), .val (.long (-9223372036854775808 : Int64)), .second, .val (.long (-9223372036854775808 : Int64)), .second, .val (.long (own_earlier (-9223372036854775808 : Int64) (-9223372036854775808 : Int64))), .second] [(.int (1 : Int32))])) _
          refine XS.goto X43.here hx rfl (pc0 := 64) (pc' := 68) rfl (hb hby at_64) (by decide) (by decide) ?_
          show Steps p.tables e below (T43.setTop (mkF m 68 #[.val (.long q1), .second, .val (.long q2), .second, .val (.int p3), .val (.long (-9223372036854775808 : Int64)), .second, .val (.long (-9223372036854775808 : Int64)), .second, .val (.long (own_earlier (-9223372036854775808 : Int64) (-9223372036854775808 : Int64))), .second] [(.int (1 : Int32))])) _
          exact retN X43 hx (t := .boolean) Bd.returns (by simp) (hb hby at_68) hr
        · show Q0 Z q1 q2 p3 h0 n0 _ T43.heap _
          rw [e43]
          exact ⟨rfl, N43⟩
set_option maxRecDepth 65536 in
set_option maxHeartbeats 40000000 in
theorem comes_1 {Post : Tables → Env → Array Value → State → Outcome → State → Prop} (hpost : ∀ tb e args s v u, (limb_1_1.after args s (.returned v) u = true ∧ limb_1_2.after args s (.returned v) u = true ∧ True) → FrameEnd s (.returned v) u (Jvm.fieldLocs frame_1_writes args s ++ Jvm.arrayLocs frame_1_arrays args s ++ Jvm.staticLocs frame_1_statics s) 0 0 → Post tb e args s (.returned v) u) :
    ArmFor flags0 classFile x code maxLocals ret World_1 tables_1 room_1 Calls_1 rest_1 Pre_1 Post := by
  intro l hfl _ _ p e ha hc hk s m args below hf hA hF happ hP
  obtain ⟨hcalls, hrest, hpre⟩ := hP
  obtain ⟨-, -, -, hnamed, -, -, -, hat⟩ := (Spec.applies_iff hf).mp happ
  obtain ⟨hg, hn⟩ := and_e (Cond.before_iff.mp (show (Jvm.Cond.and given_1 narrow_1).before args s = true from hpre))
  obtain ⟨g44, g45⟩ := and_e hg
  obtain ⟨g46, g47⟩ := and_e g45
  obtain ⟨g48, g49⟩ := and_e g47
  obtain ⟨w0, w1, w2, rfl⟩ : ∃ w0 w1 w2 : Value, args = #[w0, w1, w2] := by
    have hs : args.size = 3 := by simpa [Cond.value, given_1] using g44
    obtain ⟨L⟩ := args
    match L, hs with
    | [w0, w1, w2], _ => exact ⟨w0, w1, w2, rfl⟩
  have hw := fun d (hd : d ∈ tables_1) => atoms_spec (ws := Jvm.Cond.code x code maxLocals ret :: tables_1) hat d (List.mem_cons_of_mem _ hd)
  obtain ⟨i0, ei0⟩ := isL_v g46
  obtain rfl : w0 = (.long i0) := Option.some.inj ei0
  obtain ⟨i1, ei1⟩ := isL_v g48
  obtain rfl : w1 = (.long i1) := Option.some.inj ei1
  obtain ⟨i2, ei2⟩ := is_v g49
  obtain rfl : w2 = (.int i2) := Option.some.inj ei2
  obtain ⟨n, o, h1, h2, h3, _, L, rfl, ⟨rfl, N⟩, hq⟩ := rm0 l s _ hw tables_1 i0 i1 i2 s.heap s.heap.size (Nat.le_refl _) p e ha hc hk s m _ below hf ((Spec.applies_iff_loose hf).mp happ).1 ⟨rfl, State.Warmed39.refl s, rfl⟩ trivial
  refine ⟨n, _, h1, h2, h3, hpost _ _ _ _ _ _ ⟨Cond.after_iff.mpr rfl, Cond.after_iff.mpr (eq_i res_at (Term.int_eval (1)) rfl), trivial⟩ ⟨hq.1, hq.2.1, (hq.2.2.sift fun y hy => Or.inr (N y hy)).mono (by decide) (by decide)⟩⟩
theorem main_1_1 : Claimed_1_1 := comes_1 fun _ _ _ _ _ _ h hF => ⟨h.1, hF⟩
theorem main_1_2 : Claimed_1_2 := comes_1 fun _ _ _ _ _ _ h hF => ⟨h.2.1, hF⟩
end Jvm.Pilot.@@N@@
namespace Jvm.Pilot.@@N@@
open Jvm Jvm.ClassFile Sem Op Lib Jvm.Free Jvm.Stand Jvm.Pilot.@@N@@.Jvm.D
/-! MADE BY PROGRAM (witnessworld.py) out of the Statement's table words and the real class files: 8 classes; the members and pool entries that the words name. The judged class is class 1, her method 2. -/
namespace start1
open Jvm.ClassFile
def u (s : String) : CpInfo := .utf8 (stringToUtf16 s)
/-- a pool by its gaps: so many unusable entries, then the entry; so many at the end -/
def gap : Nat → List CpInfo → List CpInfo
  | 0, r => r
  | n + 1, r => .unusable :: gap n r
def poolList (es : List (Nat × CpInfo)) (last : Nat) : List CpInfo := es.foldr (fun e r => gap e.1 (e.2 :: r)) (gap last [])
def pool (es : List (Nat × CpInfo)) (last : Nat) : Array CpInfo := ⟨poolList es last⟩
def fileOf (pool : Array CpInfo) (this : Nat) (attrs : Array Attribute := #[]) (ms : Array MethodInfo := #[]) (fl : Nat := 33) (sup : Nat := 0) (ifs : Array Nat := #[]) (fds : Array FieldInfo := #[]) : ClassFile where
  minorVersion := 0
  majorVersion := 65
  constantPool := pool
  accessFlags := fl
  thisClass := this
  superClass := sup
  interfaces := ifs
  fields := fds
  methods := ms
  attributes := attrs
def plain (name : String) (sup : Option ClassId) : Class where
  name := name
  kind := .ordinary
  loader := none
  accessFlags := 33
  super := sup
  interfaces := #[]
  cf := none
  fields := #[]
  methods := #[]
  instanceTypes := #[]
  staticTypes := #[]
  resolved := #[]
  callSites := []
  init := .initialized
  statics := none
  mirror := none

def pool0 : Array CpInfo := pool [(5, u "<init>"), (0, u "()V"), (1, .class_ 10), (1, u "java/lang/Object")] 113

def k0m0 : Method := { name := "<init>", desc := "()V", sig := { parameters := [], returnType := none }, accessFlags := 1, code := none }
/-- java/lang/Object -/
def k0 : Class := { plain "java/lang/Object" none with
  accessFlags := 33
  interfaces := #[]
  cf := some (fileOf pool0 8 #[] #[{ accessFlags := 1, nameIndex := 5, descriptorIndex := 6, attributes := #[] }] 33 0 #[] #[])
  fields := #[]
  methods := #[k0m0]
  instanceTypes := #[]
  staticTypes := #[]
  resolved := Array.replicate 124 none
  statics := none }

def pool1 : Array CpInfo := pool [(2, .class_ 4), (1, u "java/lang/Object"), (0, u "<init>"), (0, u "()V"), (2, .long 9223372036854775808), (1, .methodref 12 13), (0, .class_ 14), (0, .nameAndType 15 16), (0, u "java/lang/Math"), (0, u "min"), (0, u "(JJ)J"), (0, .interfaceMethodref 18 19), (0, .class_ 20), (0, .nameAndType 21 16), (0, u "org/millrace/engine/Window"), (0, u "earlier"), (0, .methodref 23 24), (0, .class_ 25), (0, .nameAndType 26 16), (0, u "org/millrace/engine/WindowEarlierPinLaw"), (0, u "reference"), (3, u "law"), (0, u "(JJI)Z")] 2

def k1m0 : Method := { name := "<init>", desc := "()V", sig := { parameters := [], returnType := none }, accessFlags := 2, code := none }
def k1c1 : Code := { maxStack := 4, maxLocals := 4, code := method_2_code, exceptionTable := #[], attributes := #[] }
def k1m1 : Method := { name := "reference", desc := "(JJ)J", sig := { parameters := [.long, .long], returnType := some .long }, accessFlags := 10, code := some k1c1 }
def k1c2 : Code := { maxStack := 6, maxLocals := 11, code := code, exceptionTable := #[], attributes := #[] }
def k1m2 : Method := { name := "law", desc := "(JJI)Z", sig := { parameters := [.long, .long, .int], returnType := some .boolean }, accessFlags := 9, code := some k1c2 }
/-- org/millrace/engine/WindowEarlierPinLaw -/
def k1 : Class := { plain "org/millrace/engine/WindowEarlierPinLaw" (some 0) with
  accessFlags := 49
  interfaces := #[]
  cf := some (fileOf pool1 23 #[] #[{ accessFlags := 2, nameIndex := 5, descriptorIndex := 6, attributes := #[] }, { accessFlags := 10, nameIndex := 26, descriptorIndex := 16, attributes := #[] }, { accessFlags := 9, nameIndex := 30, descriptorIndex := 31, attributes := #[] }] 49 2 #[] #[])
  fields := #[]
  methods := #[k1m0, k1m1, k1m2]
  instanceTypes := #[]
  staticTypes := #[]
  resolved := Array.replicate 34 none
  statics := none }

def pool2 : Array CpInfo := pool [(3, .class_ 4), (0, u "org/millrace/engine/Window"), (0, .long 9223372036854775808), (1, .class_ 8), (0, u "java/lang/Object"), (0, u "NO_CHANGE"), (0, u "J"), (5, u "earlier"), (0, u "(JJ)J"), (13, .class_ 32), (0, u "org/millrace/engine/Window$Arrival"), (0, .class_ 34), (0, u "org/millrace/engine/Window$Held")] 3

def k2c0 : Code := { maxStack := 4, maxLocals := 4, code := prog_155_method_3_code, exceptionTable := #[], attributes := #[] }
def k2m0 : Method := { name := "earlier", desc := "(JJ)J", sig := { parameters := [.long, .long], returnType := some .long }, accessFlags := 9, code := some k2c0 }
/-- org/millrace/engine/Window -/
def k2 : Class := { plain "org/millrace/engine/Window" (some 0) with
  accessFlags := 1536
  interfaces := #[]
  cf := some (fileOf pool2 3 #[.nestMembers #[31, 33]] #[{ accessFlags := 9, nameIndex := 16, descriptorIndex := 17, attributes := #[] }] 1536 7 #[] #[{ accessFlags := 25, nameIndex := 9, descriptorIndex := 10, attributes := #[] }])
  fields := #[{ name := "NO_CHANGE", type := .long, accessFlags := 25, slot := 0, constantValue := 0 }]
  methods := #[k2m0]
  instanceTypes := #[]
  staticTypes := #[.long]
  resolved := Array.replicate 38 none
  statics := none }

def pool3 : Array CpInfo := pool [(1, .class_ 2), (0, u "java/lang/Math"), (1, .class_ 6), (1, u "java/lang/Object"), (0, u "<init>"), (0, u "()V"), (89, .class_ 100), (1, u "java/lang/Math$RandomNumberGeneratorHolder"), (20, u "(JJ)J"), (50, u "negativeZeroFloatBits"), (0, u "J"), (2, u "negativeZeroDoubleBits"), (24, u "min"), (43, u "$assertionsDisabled"), (0, u "Z"), (91, u "twoToTheDoubleScaleDown"), (0, u "D"), (4, u "twoToTheDoubleScaleUp"), (9, u "E"), (3, u "PI"), (2, u "TAU"), (2, u "DEGREES_TO_RADIANS"), (0, u "RADIANS_TO_DEGREES")] 94

def k3m0 : Method := { name := "<init>", desc := "()V", sig := { parameters := [], returnType := none }, accessFlags := 2, code := none }
def k3c1 : Code := { maxStack := 4, maxLocals := 4, code := jdk_29_method_70_code, exceptionTable := #[], attributes := #[] }
def k3m1 : Method := { name := "min", desc := "(JJ)J", sig := { parameters := [.long, .long], returnType := some .long }, accessFlags := 9, code := some k3c1 }
/-- java/lang/Math -/
def k3 : Class := { plain "java/lang/Math" (some 0) with
  accessFlags := 49
  interfaces := #[]
  cf := some (fileOf pool3 1 #[.nestMembers #[98]] #[{ accessFlags := 2, nameIndex := 7, descriptorIndex := 8, attributes := #[] }, { accessFlags := 9, nameIndex := 201, descriptorIndex := 121, attributes := #[] }] 49 4 #[] #[{ accessFlags := 25, nameIndex := 354, descriptorIndex := 339, attributes := #[] }, { accessFlags := 25, nameIndex := 358, descriptorIndex := 339, attributes := #[] }, { accessFlags := 25, nameIndex := 361, descriptorIndex := 339, attributes := #[] }, { accessFlags := 26, nameIndex := 364, descriptorIndex := 339, attributes := #[] }, { accessFlags := 26, nameIndex := 365, descriptorIndex := 339, attributes := #[] }, { accessFlags := 26, nameIndex := 172, descriptorIndex := 173, attributes := #[] }, { accessFlags := 26, nameIndex := 176, descriptorIndex := 173, attributes := #[] }, { accessFlags := 8, nameIndex := 344, descriptorIndex := 339, attributes := #[] }, { accessFlags := 8, nameIndex := 338, descriptorIndex := 339, attributes := #[] }, { accessFlags := 4120, nameIndex := 245, descriptorIndex := 246, attributes := #[] }])
  fields := #[{ name := "E", type := .double, accessFlags := 25, slot := 0, constantValue := 0 }, { name := "PI", type := .double, accessFlags := 25, slot := 1, constantValue := 0 }, { name := "TAU", type := .double, accessFlags := 25, slot := 2, constantValue := 0 }, { name := "DEGREES_TO_RADIANS", type := .double, accessFlags := 26, slot := 3, constantValue := 0 }, { name := "RADIANS_TO_DEGREES", type := .double, accessFlags := 26, slot := 4, constantValue := 0 }, { name := "negativeZeroFloatBits", type := .long, accessFlags := 26, slot := 5, constantValue := 0 }, { name := "negativeZeroDoubleBits", type := .long, accessFlags := 26, slot := 6, constantValue := 0 }, { name := "twoToTheDoubleScaleUp", type := .double, accessFlags := 8, slot := 7, constantValue := 0 }, { name := "twoToTheDoubleScaleDown", type := .double, accessFlags := 8, slot := 8, constantValue := 0 }, { name := "$assertionsDisabled", type := .boolean, accessFlags := 4120, slot := 9, constantValue := 0 }]
  methods := #[k3m0, k3m1]
  instanceTypes := #[]
  staticTypes := #[.double, .double, .double, .double, .double, .long, .long, .double, .double, .boolean]
  resolved := Array.replicate 460 none
  statics := none }

def pool4 : Array CpInfo := pool [(1, u "java/lang/Cloneable"), (0, .class_ 1), (0, u "java/lang/Object"), (0, .class_ 3)] 3

/-- java/lang/Cloneable -/
def k4 : Class := { plain "java/lang/Cloneable" (some 0) with
  accessFlags := 1537
  interfaces := #[]
  cf := some (fileOf pool4 2 #[] #[] 1537 4 #[] #[])
  fields := #[]
  methods := #[]
  instanceTypes := #[]
  staticTypes := #[]
  resolved := Array.replicate 8 none
  statics := none }

def pool5 : Array CpInfo := pool [(1, u "java/io/Serializable"), (0, .class_ 1), (0, u "java/lang/Object"), (0, .class_ 3)] 3

/-- java/io/Serializable -/
def k5 : Class := { plain "java/io/Serializable" (some 0) with
  accessFlags := 1537
  interfaces := #[]
  cf := some (fileOf pool5 2 #[] #[] 1537 4 #[] #[])
  fields := #[]
  methods := #[]
  instanceTypes := #[]
  staticTypes := #[]
  resolved := Array.replicate 8 none
  statics := none }

/-- the primitive byte -/
def k6 : Class := { plain "byte" none with kind := .primitive 'B', accessFlags := 0x411 }
/-- [B -/
def k7 : Class := { plain "[B" (some 0) with kind := .array 6 .byte, interfaces := #[4, 5], accessFlags := 1041 }

def heap : Heap := #[]
def classes : Array Class := #[k0, k1, k2, k3, k4, k5, k6, k7]
def interned : List (Array UInt16 × Addr) := []
def slotsUsed : Nat := 0
def theMethod : MethodId := ⟨1, 2⟩
def args0 : Array Value := #[.long 5, .long 3, .int 0]
def aboutOver (below : List Frame) : State where
  vm := { classes := classes, interned := interned.toArray }
  heap := heap
  slotsUsed := slotsUsed
  threads := #[{ frames := .invoking theMethod args0 :: below }]
def below0 : List Frame := [.native { method := ⟨0, 0⟩, args := #[] }]
def about1 : State := aboutOver below0
def p0 : Program := .bare "" "" ""
def e0 : Env := launch0.env 0 0 0
theorem w_frames : about1.frames = Frame.invoking theMethod args0 :: below0 := rfl
set_option maxRecDepth 65536 in
theorem w_args : argsFit about1.vm theMethod args0 = true := by decide +kernel
set_option maxRecDepth 65536 in
theorem w_heap : heapFits about1 = true := by decide +kernel
set_option maxRecDepth 65536 in
theorem w_runnable : about1.curStatus? = some .runnable := by decide +kernel
set_option maxRecDepth 65536 in
theorem w_alone : about1.alone = true := by decide +kernel
set_option maxRecDepth 65536 in
theorem w_named : about1.methodNamed? x = some theMethod := by decide +kernel
set_option maxRecDepth 65536 in
theorem w_hears : about1.hears theMethod below0 = true := by decide +kernel
set_option maxRecDepth 65536 in
theorem w_ripe : about1.ripe theMethod args0 below0 = true := by decide +kernel
theorem w_running : about1.status = .running := rfl
set_option maxRecDepth 65536 in
theorem w_room : about1.hasRoom e0.platform room_1 = true :=
  launch0.hasRoom_least _ room_1 (by decide +kernel) (by decide +kernel) (by decide +kernel) (by decide +kernel) (by decide +kernel) (by decide +kernel)
theorem allAtoms_all (ts : List Jvm.Cond) (a : Array Jvm.Value) (st : Jvm.State) : (allAtoms ts).before a st = ts.all (fun c => c.before a st) := by
  induction ts with
  | nil => rfl
  | cons c t ih =>
    show (Jvm.Cond.and c (allAtoms t)).before a st = _
    rw [Jvm.Cond.before_and, ih, List.all_cons]
def words1 : List Jvm.Cond := Jvm.Cond.code x code maxLocals ret :: tables_1
/-- a 'code' word, met by the world's own term for the bytes: nothing is compared byte by byte -/
theorem code_word {y : MethodName} {bytes : ByteArray} {mx : Nat} {rt : Option FieldType} {a : Array Value} {s : State} {m : MethodId} {meth : Method} {c : Code} (h1 : s.methodNamed? y = some m) (h2 : s.vm.method? m = some meth) (h3 : meth.code = some c) (h4 : c.code = bytes)
    (h5 : (c.maxLocals == mx && c.exceptionTable.isEmpty && decide (c.maxStack ≤ mostOperands) && decide (meth.sig.returnType = rt) && !meth.locks && decide (parseMethodDescriptor y.desc = some meth.sig)) = true) : (Jvm.Cond.code y bytes mx rt).before a s = true := by
  simp only [Bool.and_eq_true, beq_iff_eq, Bool.not_eq_true', decide_eq_true_eq] at h5
  obtain ⟨⟨⟨⟨⟨g1, g2⟩, g3⟩, g4⟩, g5⟩, g6⟩ := h5
  simp [Cond.before, Cond.holds, Cond.value, h1, h2, h3, h4, g1, g2, g3, g4, g5, g6]
def isCode : Jvm.Cond → Bool
  | .code _ _ _ _ => true
  | _ => false
theorem all_split {L : List Jvm.Cond} {P : Jvm.Cond → Bool} (h1 : L.all (fun c => isCode c || P c) = true) (h2 : ∀ c ∈ L.filter isCode, P c = true) : L.all P = true := by
  refine List.all_eq_true.mpr fun c hc => ?_
  have h := List.all_eq_true.mp h1 c hc
  rcases Bool.eq_false_or_eq_true (isCode c) with hi | hi
  · exact h2 c (List.mem_filter.mpr ⟨hc, hi⟩)
  · simpa [hi] using h
set_option maxRecDepth 65536 in
theorem w_c0 : (Jvm.Cond.code x code maxLocals ret).before args0 about1 = true := code_word (m := ⟨1, 2⟩) (meth := k1m2) (c := k1c2) (by decide +kernel) rfl rfl rfl (by decide +kernel)
set_option maxRecDepth 65536 in
theorem w_c1 : (Jvm.Cond.code ({ cls := "org/millrace/engine/Window", name := "earlier", desc := "(JJ)J" } : Jvm.MethodName) prog_155_method_3_code (4 : Nat) (Option.some Jvm.ClassFile.FieldType.long)).before args0 about1 = true := code_word (m := ⟨2, 0⟩) (meth := k2m0) (c := k2c0) (by decide +kernel) rfl rfl rfl (by decide +kernel)
set_option maxRecDepth 65536 in
theorem w_c2 : (Jvm.Cond.code ({ cls := "org/millrace/engine/WindowEarlierPinLaw", name := "reference", desc := "(JJ)J" } : Jvm.MethodName) method_2_code (4 : Nat) (Option.some Jvm.ClassFile.FieldType.long)).before args0 about1 = true := code_word (m := ⟨1, 1⟩) (meth := k1m1) (c := k1c1) (by decide +kernel) rfl rfl rfl (by decide +kernel)
set_option maxRecDepth 65536 in
theorem w_c3 : (Jvm.Cond.code ({ cls := "java/lang/Math", name := "min", desc := "(JJ)J" } : Jvm.MethodName) jdk_29_method_70_code (4 : Nat) (Option.some Jvm.ClassFile.FieldType.long)).before args0 about1 = true := code_word (m := ⟨3, 1⟩) (meth := k3m1) (c := k3c1) (by decide +kernel) rfl rfl rfl (by decide +kernel)
def codes1 : List Jvm.Cond := [Jvm.Cond.code x code maxLocals ret, Jvm.Cond.code ({ cls := "org/millrace/engine/Window", name := "earlier", desc := "(JJ)J" } : Jvm.MethodName) prog_155_method_3_code (4 : Nat) (Option.some Jvm.ClassFile.FieldType.long), Jvm.Cond.code ({ cls := "org/millrace/engine/WindowEarlierPinLaw", name := "reference", desc := "(JJ)J" } : Jvm.MethodName) method_2_code (4 : Nat) (Option.some Jvm.ClassFile.FieldType.long), Jvm.Cond.code ({ cls := "java/lang/Math", name := "min", desc := "(JJ)J" } : Jvm.MethodName) jdk_29_method_70_code (4 : Nat) (Option.some Jvm.ClassFile.FieldType.long)]
set_option maxRecDepth 65536 in
theorem codes_eq : words1.filter isCode = codes1 := rfl
theorem w_codes : ∀ c ∈ words1.filter isCode, c.before args0 about1 = true := by
  rw [codes_eq]
  intro c hc
  simp only [codes1, List.mem_cons, List.not_mem_nil, or_false] at hc
  rcases hc with rfl | rfl | rfl | rfl
  · exact w_c0
  · exact w_c1
  · exact w_c2
  · exact w_c3
set_option maxRecDepth 65536 in
theorem w_t1 : words1.all (fun c => isCode c || c.before args0 about1) = true := by decide +kernel
theorem w_tables : (allAtoms (Jvm.Cond.code x code maxLocals ret :: tables_1)).before args0 about1 = true := by
  rw [allAtoms_all]
  show words1.all (fun c => c.before args0 about1) = true
  refine all_split ?_ w_codes
  rw [w_t1]
set_option maxRecDepth 65536 in
theorem w_case : (Jvm.Cond.and given_1 narrow_1).before args0 about1 = true := by decide +kernel
theorem w_applies : (headSpec (Jvm.Cond.code x code maxLocals ret :: tables_1) room_1).applies x e0.platform about1 = true :=
  (Spec.applies_iff w_frames).mpr ⟨w_running, w_runnable, w_alone, w_named, w_hears, w_ripe, w_room, w_tables⟩
theorem atStart : AtStart classFile x code maxLocals ret World_1 tables_1 room_1 Calls_1 rest_1 Pre_1 launch0 p0 e0 about1 theMethod args0 below0 :=
  ⟨lists_1, trivial, launch0.admits_env _ _ _, launch0.least_env, fairChoices_fair.cas, fairChoices_fair.clock, w_frames, w_args, w_heap, w_applies, trivial, trivial, w_case⟩
end start1
theorem witness_1 : WitnessClaimed_1 := ⟨start1.p0, start1.e0, start1.about1, start1.theMethod, start1.args0, start1.below0, start1.atStart⟩
end Jvm.Pilot.@@N@@
