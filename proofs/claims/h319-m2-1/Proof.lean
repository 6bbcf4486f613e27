import JvmDerived
import JvmDerived.Pilot.@@N@@Statement
import JvmDerived.Pilot.@@N@@Code
set_option linter.unusedVariables false
set_option linter.unusedSimpArgs false
namespace Jvm.RoadKit
open Sem ClassFile Op Lib Jvm.Stand Jvm.Free Jvm.LawKit
section New
variable {p : Program} {l : Launch} {e : Env} {R : Room} {s : State} {m : MethodId} {args : Array Value} {below : List Frame} {meth : Method} {c : Code} {T : State} {locs : List Loc} {cells slots : Nat}
theorem retI (X : Stand p l e R s m args below meth c T locs cells slots) (hx : p.tables.exec = Jvm.exec) {pc : Nat} {Ls : Array Slot} {z : Int32} {rest : List Value} (hret : meth.sig.returnType = some .int) (hd : decode c.code pc = .ok (.ireturn, 1)) {fs : List Frame}
    (hl : ∀ (f : JFrame) (acts : List Action), f.method = m → f.locked = none → f.entered = [] → (doReturn e (T.setTop f) acts (some (.int z))).1 = T.setFrames fs) : Steps p.tables e below (T.setTop (mkF m pc Ls (.int z :: rest))) (T.setFrames fs) := by
  have hm' : T.vm.method? m = some meth := X.method'
  have hn : narrow .int (.int z) = .int z := rfl
  show Steps p.tables e below (T.setTop { method := m, pc := pc, locals := Ls, stack := _ :: rest, locked := none }) _
  jvm_step X.here [X.here.top, hx, hd, hm', hret, hn]
  first | (intro acts; rw [hl _ acts rfl rfl rfl]) | rw [hl _ _ rfl rfl rfl]
  exact Steps.refl _
theorem retL (X : Stand p l e R s m args below meth c T locs cells slots) (hx : p.tables.exec = Jvm.exec) {pc : Nat} {Ls : Array Slot} {z : Int64} {rest : List Value} (hret : meth.sig.returnType = some .long) (hd : decode c.code pc = .ok (.lreturn, 1)) {fs : List Frame}
    (hl : ∀ (f : JFrame) (acts : List Action), f.method = m → f.locked = none → f.entered = [] → (doReturn e (T.setTop f) acts (some (.long z))).1 = T.setFrames fs) : Steps p.tables e below (T.setTop (mkF m pc Ls (.long z :: rest))) (T.setFrames fs) := by
  have hm' : T.vm.method? m = some meth := X.method'
  have hn : narrow .long (.long z) = .long z := rfl
  show Steps p.tables e below (T.setTop { method := m, pc := pc, locals := Ls, stack := _ :: rest, locked := none }) _
  jvm_step X.here [X.here.top, hx, hd, hm', hret, hn]
  first | (intro acts; rw [hl _ acts rfl rfl rfl]) | rw [hl _ _ rfl rfl rfl]
  exact Steps.refl _
theorem castS {locs' : List Loc} {cells' slots' : Nat} (h1 : locs = locs') (h2 : cells = cells') (h3 : slots = slots') (X : Stand p l e R s m args below meth c T locs cells slots) : Stand p l e R s m args below meth c T locs' cells' slots' := by
  subst h1 h2 h3; exact X
end New
end Jvm.RoadKit
namespace Jvm.Pilot.@@N@@
open Jvm Jvm.ClassFile Sem Op Lib Jvm.Free Jvm.Stand Jvm.LawKit Jvm.RoadKit Bundle Jvm.Pilot.@@N@@.Jvm.D
theorem own_map (l : List Int32) (k : Nat) : (l.map Value.int).getD k (.int (0 : Int32)) = .int (l.getD k 0) := by
  simp only [List.getD_eq_getElem?_getD, List.getElem?_map]
  cases l[k]? <;> rfl
def own_tab : List Int32 := [(9 : Int32), (10 : Int32), (13 : Int32), (32 : Int32), (0 : Int32), (8 : Int32), (11 : Int32), (12 : Int32), (14 : Int32), (31 : Int32), (33 : Int32), (-1 : Int32), (-2147483648 : Int32), (2147483647 : Int32), (133 : Int32), (160 : Int32)]
theorem own_and15 (x : Int32) : ¬ (x &&& (15 : Int32)) < 0 ∧ (x &&& (15 : Int32)) < (16 : Int32) := by
  have h : (x &&& (15 : Int32)).toBitVec.toNat ≤ 15 := by
    rw [Int32.toBitVec_and, BitVec.toNat_and]; exact Nat.and_le_right
  have e : (x &&& (15 : Int32)).toInt = (x &&& (15 : Int32)).toBitVec.toNat := by
    show (x &&& (15 : Int32)).toBitVec.toInt = _
    rw [BitVec.toInt_eq_toNat_cond, if_pos (by omega)]
  simp only [Int32.lt_iff_toInt_lt, e, show (0 : Int32).toInt = 0 from rfl, show (16 : Int32).toInt = 16 from rfl]
  omega
def own_is (p1 : Int32) : Int32 := (if (32 : Int32) < p1 then (0 : Int32) else (if p1 = (32 : Int32) then (1 : Int32) else (if p1 = (9 : Int32) then (1 : Int32) else (if p1 = (13 : Int32) then (1 : Int32) else (if p1 = (10 : Int32) then (1 : Int32) else (0 : Int32))))))
theorem d1_0 : decode prog_39_method_2_code 0 = .ok (.iload_n 0, 1) := by decide +kernel
theorem d1_1 : decode prog_39_method_2_code 1 = .ok (.bipush 32, 2) := by decide +kernel
theorem d1_3 : decode prog_39_method_2_code 3 = .ok (.if_icmp .gt 31, 3) := by decide +kernel
theorem d1_6 : decode prog_39_method_2_code 6 = .ok (.iload_n 0, 1) := by decide +kernel
theorem d1_7 : decode prog_39_method_2_code 7 = .ok (.bipush 32, 2) := by decide +kernel
theorem d1_9 : decode prog_39_method_2_code 9 = .ok (.if_icmp .eq 21, 3) := by decide +kernel
theorem d1_12 : decode prog_39_method_2_code 12 = .ok (.iload_n 0, 1) := by decide +kernel
theorem d1_13 : decode prog_39_method_2_code 13 = .ok (.bipush 9, 2) := by decide +kernel
theorem d1_15 : decode prog_39_method_2_code 15 = .ok (.if_icmp .eq 15, 3) := by decide +kernel
theorem d1_18 : decode prog_39_method_2_code 18 = .ok (.iload_n 0, 1) := by decide +kernel
theorem d1_19 : decode prog_39_method_2_code 19 = .ok (.bipush 13, 2) := by decide +kernel
theorem d1_21 : decode prog_39_method_2_code 21 = .ok (.if_icmp .eq 9, 3) := by decide +kernel
theorem d1_24 : decode prog_39_method_2_code 24 = .ok (.iload_n 0, 1) := by decide +kernel
theorem d1_25 : decode prog_39_method_2_code 25 = .ok (.bipush 10, 2) := by decide +kernel
theorem d1_27 : decode prog_39_method_2_code 27 = .ok (.if_icmp .ne 7, 3) := by decide +kernel
theorem d1_30 : decode prog_39_method_2_code 30 = .ok (.iconst 1, 1) := by decide +kernel
theorem d1_31 : decode prog_39_method_2_code 31 = .ok (.goto 4, 3) := by decide +kernel
theorem d1_34 : decode prog_39_method_2_code 34 = .ok (.iconst 0, 1) := by decide +kernel
theorem d1_35 : decode prog_39_method_2_code 35 = .ok (.ireturn, 1) := by decide +kernel
theorem pn_1 : plainName "com/example/urlset/urlset/entry/WhiteSpace" = true := by first | (simp [plainName, overriddenIn]; done) | decide +kernel
theorem ef_1 (m : MethodId) (x0 : Int32) : entryFrame m #[(.int x0)] 1 = mkF m 0 #[.val (.int x0)] [] := by first | (simp [entryFrame, mkF, argsToLocals, Value.category]; done) | rfl
def Q1 (Z : State) (p1 : Int32) (h0 : Heap) (n0 : Nat) (v : Option Value) (h : Heap) (L : List Loc) : Prop := v = some (.int (own_is p1)) ∧ Fr n0 L ∧ h = h0
set_option maxRecDepth 65536 in
set_option maxHeartbeats 40000000 in
theorem rm1 (l : Launch) (Z : State) (a0 : Array Value) (hw : ∀ d ∈ tables_1, d.before a0 Z = true) (ws : List Jvm.Cond) (p1 : Int32) (h0 : Heap) (n0 : Nat) (Z0 : n0 ≤ h0.size)  :
    MetFree l (⟨"com/example/urlset/urlset/entry/WhiteSpace", "is", "(I)Z"⟩ : MethodName) (head1 (Jvm.Cond.code (⟨"com/example/urlset/urlset/entry/WhiteSpace", "is", "(I)Z"⟩ : MethodName) prog_39_method_2_code 1 (some .boolean) :: ws) ({ frames := 0, cells := 0, slots := 0, locals := 0 } : Room)) (fun a U => a = #[(.int p1)] ∧ Z.Warmed39 U.vm ∧ U.heap = h0) (fun _ _ _ _ _ => True) (fun _ U o U' => ∃ v L, o = .returned v ∧ Q1 Z p1 h0 n0 v U'.heap L ∧ FrameEnd U o U' L ({ frames := 0, cells := 0, slots := 0, locals := 0 } : Room).cells ({ frames := 0, cells := 0, slots := 0, locals := 0 } : Room).slots) := by
  refine MetFree.of_bodySF (plainFor_of_name pn_1) hisR ?_
  intro p e s m args below meth c s₁ Bd hml0 hP hK
  obtain ⟨rfl, hZ, hh⟩ := hP
  have hx := Bd.exec
  have hby := Bd.bytes
  have hml : c.maxLocals = 1 := hml0
  have hown : s.vm.findClass "com/example/urlset/urlset/entry/WhiteSpace" = some m.cls := findClass_of_methodNamed Bd.named
  have hnm := (name_of_methodNamed Bd.named Bd.method).1
  have X0 : Stand p l e ({ frames := 0, cells := 0, slots := 0, locals := 0 } : Room) s m #[(.int p1)] below meth c s₁ [] 0 0 := Stand.of_body Bd
  have e0 : s₁.heap = h0 := by rw [← hh, Bd.state]; rfl
  have N0 := Fr.nil n0
  have pre0 : ∀ t, Steps p.tables e below (s₁.setTop (mkF m 0 #[.val (.int p1)] [])) t → Steps p.tables e below (s₁.setTop (entryFrame m #[(.int p1)] 1)) t := fun t k => castTop (ef_1 m p1) k
  have pre_1 : ∀ t, Steps p.tables e below (s₁.setTop (mkF m 3 #[.val (.int p1)] [(.int (32 : Int32)), (.int p1)])) t → Steps p.tables e below (s₁.setTop (entryFrame m #[(.int p1)] 1)) t := fun t k => pre0 t (by
      show Steps p.tables e below (s₁.setTop (mkF m 0 #[.val (.int p1)] [])) _
      refine XS.iloadN X0.here hx rfl (hb hby d1_0) rfl ?_
      show Steps p.tables e below (s₁.setTop (mkF m 1 #[.val (.int p1)] [(.int p1)])) _
      refine XS.bipush X0.here hx rfl (hb hby d1_1) ?_
      exact k)
  by_cases hc3__2 : (32 : Int32) < p1
  · obtain ⟨fs, hr, hrun, hended, hW, hsame⟩ := X0.leave (v := some (.int (0 : Int32))) (fun h => by rw [Bd.returns] at h; cases h)
    refine ⟨_, _, pre_1 _ ?_, hrun, hended, _, _, rfl, ?_, ⟨_, rfl⟩, hW, hsame.mono (by decide) (by decide)⟩
    · show Steps p.tables e below (s₁.setTop (mkF m 3 #[.val (.int p1)] [(.int (32 : Int32)), (.int p1)])) _
      refine XS.icmpYes X0.here hx rfl (pc0 := 3) (pc' := 34) rfl (hb hby d1_3) rfl (tlt hc3__2).2.2.1 (by decide) (by decide) ?_
      show Steps p.tables e below (s₁.setTop (mkF m 34 #[.val (.int p1)] [])) _
      refine XS.iconst X0.here hx rfl (hb hby d1_34) ?_
      show Steps p.tables e below (s₁.setTop (mkF m 35 #[.val (.int p1)] [(.int (0 : Int32))])) _
      exact retN X0 hx (t := .boolean) Bd.returns (by simp) (hb hby d1_35) hr
    · show Q1 Z p1 h0 n0 _ s₁.heap _
      rw [e0]
      exact ⟨(congrArg (fun z => some (Value.int z)) (by simp only [own_is, if_pos hc3__2] : (0 : Int32) = (own_is p1))), N0, rfl⟩
  · have pre_3 : ∀ t, Steps p.tables e below (s₁.setTop (mkF m 9 #[.val (.int p1)] [(.int (32 : Int32)), (.int p1)])) t → Steps p.tables e below (s₁.setTop (entryFrame m #[(.int p1)] 1)) t := fun t k => pre_1 t (by
        show Steps p.tables e below (s₁.setTop (mkF m 3 #[.val (.int p1)] [(.int (32 : Int32)), (.int p1)])) _
        refine XS.icmpNo X0.here hx rfl (hb hby d1_3) rfl (flt hc3__2).2.2.1 ?_
        show Steps p.tables e below (s₁.setTop (mkF m 6 #[.val (.int p1)] [])) _
        refine XS.iloadN X0.here hx rfl (hb hby d1_6) rfl ?_
        show Steps p.tables e below (s₁.setTop (mkF m 7 #[.val (.int p1)] [(.int p1)])) _
        refine XS.bipush X0.here hx rfl (hb hby d1_7) ?_
        exact k)
    by_cases hc9__4 : p1 = (32 : Int32)
    · obtain ⟨fs, hr, hrun, hended, hW, hsame⟩ := X0.leave (v := some (.int (1 : Int32))) (fun h => by rw [Bd.returns] at h; cases h)
      refine ⟨_, _, pre_3 _ ?_, hrun, hended, _, _, rfl, ?_, ⟨_, rfl⟩, hW, hsame.mono (by decide) (by decide)⟩
      · show Steps p.tables e below (s₁.setTop (mkF m 9 #[.val (.int p1)] [(.int (32 : Int32)), (.int p1)])) _
        refine XS.icmpYes X0.here hx rfl (pc0 := 9) (pc' := 30) rfl (hb hby d1_9) rfl (teq hc9__4).1 (by decide) (by decide) ?_
        show Steps p.tables e below (s₁.setTop (mkF m 30 #[.val (.int p1)] [])) _
        refine XS.iconst X0.here hx rfl (hb hby d1_30) ?_
        show Steps p.tables e below (s₁.setTop (mkF m 31 #[.val (.int p1)] [(.int (1 : Int32))])) _
        refine XS.goto X0.here hx rfl (pc0 := 31) (pc' := 35) rfl (hb hby d1_31) (by decide) (by decide) ?_
        show Steps p.tables e below (s₁.setTop (mkF m 35 #[.val (.int p1)] [(.int (1 : Int32))])) _
        exact retN X0 hx (t := .boolean) Bd.returns (by simp) (hb hby d1_35) hr
      · show Q1 Z p1 h0 n0 _ s₁.heap _
        rw [e0]
        exact ⟨(congrArg (fun z => some (Value.int z)) (by simp only [own_is, if_neg hc3__2, if_pos hc9__4] : (1 : Int32) = (own_is p1))), N0, rfl⟩
    · have pre_5 : ∀ t, Steps p.tables e below (s₁.setTop (mkF m 15 #[.val (.int p1)] [(.int (9 : Int32)), (.int p1)])) t → Steps p.tables e below (s₁.setTop (entryFrame m #[(.int p1)] 1)) t := fun t k => pre_3 t (by
          show Steps p.tables e below (s₁.setTop (mkF m 9 #[.val (.int p1)] [(.int (32 : Int32)), (.int p1)])) _
          refine XS.icmpNo X0.here hx rfl (hb hby d1_9) rfl (feq hc9__4).1 ?_
          show Steps p.tables e below (s₁.setTop (mkF m 12 #[.val (.int p1)] [])) _
          refine XS.iloadN X0.here hx rfl (hb hby d1_12) rfl ?_
          show Steps p.tables e below (s₁.setTop (mkF m 13 #[.val (.int p1)] [(.int p1)])) _
          refine XS.bipush X0.here hx rfl (hb hby d1_13) ?_
          exact k)
      by_cases hc15__6 : p1 = (9 : Int32)
      · obtain ⟨fs, hr, hrun, hended, hW, hsame⟩ := X0.leave (v := some (.int (1 : Int32))) (fun h => by rw [Bd.returns] at h; cases h)
        refine ⟨_, _, pre_5 _ ?_, hrun, hended, _, _, rfl, ?_, ⟨_, rfl⟩, hW, hsame.mono (by decide) (by decide)⟩
        · show Steps p.tables e below (s₁.setTop (mkF m 15 #[.val (.int p1)] [(.int (9 : Int32)), (.int p1)])) _
          refine XS.icmpYes X0.here hx rfl (pc0 := 15) (pc' := 30) rfl (hb hby d1_15) rfl (teq hc15__6).1 (by decide) (by decide) ?_
          show Steps p.tables e below (s₁.setTop (mkF m 30 #[.val (.int p1)] [])) _
          refine XS.iconst X0.here hx rfl (hb hby d1_30) ?_
          show Steps p.tables e below (s₁.setTop (mkF m 31 #[.val (.int p1)] [(.int (1 : Int32))])) _
          refine XS.goto X0.here hx rfl (pc0 := 31) (pc' := 35) rfl (hb hby d1_31) (by decide) (by decide) ?_
          show Steps p.tables e below (s₁.setTop (mkF m 35 #[.val (.int p1)] [(.int (1 : Int32))])) _
          exact retN X0 hx (t := .boolean) Bd.returns (by simp) (hb hby d1_35) hr
        · show Q1 Z p1 h0 n0 _ s₁.heap _
          rw [e0]
          exact ⟨(congrArg (fun z => some (Value.int z)) (by simp only [own_is, if_neg hc3__2, if_neg hc9__4, if_pos hc15__6] : (1 : Int32) = (own_is p1))), N0, rfl⟩
      · have pre_7 : ∀ t, Steps p.tables e below (s₁.setTop (mkF m 21 #[.val (.int p1)] [(.int (13 : Int32)), (.int p1)])) t → Steps p.tables e below (s₁.setTop (entryFrame m #[(.int p1)] 1)) t := fun t k => pre_5 t (by
            show Steps p.tables e below (s₁.setTop (mkF m 15 #[.val (.int p1)] [(.int (9 : Int32)), (.int p1)])) _
            refine XS.icmpNo X0.here hx rfl (hb hby d1_15) rfl (feq hc15__6).1 ?_
            show Steps p.tables e below (s₁.setTop (mkF m 18 #[.val (.int p1)] [])) _
            refine XS.iloadN X0.here hx rfl (hb hby d1_18) rfl ?_
            show Steps p.tables e below (s₁.setTop (mkF m 19 #[.val (.int p1)] [(.int p1)])) _
            refine XS.bipush X0.here hx rfl (hb hby d1_19) ?_
            exact k)
        by_cases hc21__8 : p1 = (13 : Int32)
        · obtain ⟨fs, hr, hrun, hended, hW, hsame⟩ := X0.leave (v := some (.int (1 : Int32))) (fun h => by rw [Bd.returns] at h; cases h)
          refine ⟨_, _, pre_7 _ ?_, hrun, hended, _, _, rfl, ?_, ⟨_, rfl⟩, hW, hsame.mono (by decide) (by decide)⟩
          · show Steps p.tables e below (s₁.setTop (mkF m 21 #[.val (.int p1)] [(.int (13 : Int32)), (.int p1)])) _
            refine XS.icmpYes X0.here hx rfl (pc0 := 21) (pc' := 30) rfl (hb hby d1_21) rfl (teq hc21__8).1 (by decide) (by decide) ?_
            show Steps p.tables e below (s₁.setTop (mkF m 30 #[.val (.int p1)] [])) _
            refine XS.iconst X0.here hx rfl (hb hby d1_30) ?_
            show Steps p.tables e below (s₁.setTop (mkF m 31 #[.val (.int p1)] [(.int (1 : Int32))])) _
            refine XS.goto X0.here hx rfl (pc0 := 31) (pc' := 35) rfl (hb hby d1_31) (by decide) (by decide) ?_
            show Steps p.tables e below (s₁.setTop (mkF m 35 #[.val (.int p1)] [(.int (1 : Int32))])) _
            exact retN X0 hx (t := .boolean) Bd.returns (by simp) (hb hby d1_35) hr
          · show Q1 Z p1 h0 n0 _ s₁.heap _
            rw [e0]
            exact ⟨(congrArg (fun z => some (Value.int z)) (by simp only [own_is, if_neg hc3__2, if_neg hc9__4, if_neg hc15__6, if_pos hc21__8] : (1 : Int32) = (own_is p1))), N0, rfl⟩
        · have pre_9 : ∀ t, Steps p.tables e below (s₁.setTop (mkF m 27 #[.val (.int p1)] [(.int (10 : Int32)), (.int p1)])) t → Steps p.tables e below (s₁.setTop (entryFrame m #[(.int p1)] 1)) t := fun t k => pre_7 t (by
              show Steps p.tables e below (s₁.setTop (mkF m 21 #[.val (.int p1)] [(.int (13 : Int32)), (.int p1)])) _
              refine XS.icmpNo X0.here hx rfl (hb hby d1_21) rfl (feq hc21__8).1 ?_
              show Steps p.tables e below (s₁.setTop (mkF m 24 #[.val (.int p1)] [])) _
              refine XS.iloadN X0.here hx rfl (hb hby d1_24) rfl ?_
              show Steps p.tables e below (s₁.setTop (mkF m 25 #[.val (.int p1)] [(.int p1)])) _
              refine XS.bipush X0.here hx rfl (hb hby d1_25) ?_
              exact k)
          by_cases hc27__10 : p1 = (10 : Int32)
          · obtain ⟨fs, hr, hrun, hended, hW, hsame⟩ := X0.leave (v := some (.int (1 : Int32))) (fun h => by rw [Bd.returns] at h; cases h)
            refine ⟨_, _, pre_9 _ ?_, hrun, hended, _, _, rfl, ?_, ⟨_, rfl⟩, hW, hsame.mono (by decide) (by decide)⟩
            · show Steps p.tables e below (s₁.setTop (mkF m 27 #[.val (.int p1)] [(.int (10 : Int32)), (.int p1)])) _
              refine XS.icmpNo X0.here hx rfl (hb hby d1_27) rfl (teq hc27__10).2 ?_
              show Steps p.tables e below (s₁.setTop (mkF m 30 #[.val (.int p1)] [])) _
              refine XS.iconst X0.here hx rfl (hb hby d1_30) ?_
              show Steps p.tables e below (s₁.setTop (mkF m 31 #[.val (.int p1)] [(.int (1 : Int32))])) _
              refine XS.goto X0.here hx rfl (pc0 := 31) (pc' := 35) rfl (hb hby d1_31) (by decide) (by decide) ?_
              show Steps p.tables e below (s₁.setTop (mkF m 35 #[.val (.int p1)] [(.int (1 : Int32))])) _
              exact retN X0 hx (t := .boolean) Bd.returns (by simp) (hb hby d1_35) hr
            · show Q1 Z p1 h0 n0 _ s₁.heap _
              rw [e0]
              exact ⟨(congrArg (fun z => some (Value.int z)) (by simp only [own_is, if_neg hc3__2, if_neg hc9__4, if_neg hc15__6, if_neg hc21__8, if_pos hc27__10] : (1 : Int32) = (own_is p1))), N0, rfl⟩
          · obtain ⟨fs, hr, hrun, hended, hW, hsame⟩ := X0.leave (v := some (.int (0 : Int32))) (fun h => by rw [Bd.returns] at h; cases h)
            refine ⟨_, _, pre_9 _ ?_, hrun, hended, _, _, rfl, ?_, ⟨_, rfl⟩, hW, hsame.mono (by decide) (by decide)⟩
            · show Steps p.tables e below (s₁.setTop (mkF m 27 #[.val (.int p1)] [(.int (10 : Int32)), (.int p1)])) _
              refine XS.icmpYes X0.here hx rfl (pc0 := 27) (pc' := 34) rfl (hb hby d1_27) rfl (feq hc27__10).2 (by decide) (by decide) ?_
              show Steps p.tables e below (s₁.setTop (mkF m 34 #[.val (.int p1)] [])) _
              refine XS.iconst X0.here hx rfl (hb hby d1_34) ?_
              show Steps p.tables e below (s₁.setTop (mkF m 35 #[.val (.int p1)] [(.int (0 : Int32))])) _
              exact retN X0 hx (t := .boolean) Bd.returns (by simp) (hb hby d1_35) hr
            · show Q1 Z p1 h0 n0 _ s₁.heap _
              rw [e0]
              exact ⟨(congrArg (fun z => some (Value.int z)) (by simp only [own_is, if_neg hc3__2, if_neg hc9__4, if_neg hc15__6, if_neg hc21__8, if_neg hc27__10] : (0 : Int32) = (own_is p1))), N0, rfl⟩
def own_ref (p1 : Int32) : Int32 := (if p1 = (9 : Int32) then (1 : Int32) else (if p1 = (10 : Int32) then (1 : Int32) else (if p1 = (13 : Int32) then (1 : Int32) else (if p1 = (32 : Int32) then (1 : Int32) else (0 : Int32)))))
theorem d2_0 : decode method_2_code 0 = .ok (.iload_n 0, 1) := by decide +kernel
theorem d2_1 : decode method_2_code 1 = .ok (.bipush 9, 2) := by decide +kernel
theorem d2_3 : decode method_2_code 3 = .ok (.if_icmp .ne 5, 3) := by decide +kernel
theorem d2_6 : decode method_2_code 6 = .ok (.iconst 1, 1) := by decide +kernel
theorem d2_7 : decode method_2_code 7 = .ok (.ireturn, 1) := by decide +kernel
theorem d2_8 : decode method_2_code 8 = .ok (.iload_n 0, 1) := by decide +kernel
theorem d2_9 : decode method_2_code 9 = .ok (.bipush 10, 2) := by decide +kernel
theorem d2_11 : decode method_2_code 11 = .ok (.if_icmp .ne 5, 3) := by decide +kernel
theorem d2_14 : decode method_2_code 14 = .ok (.iconst 1, 1) := by decide +kernel
theorem d2_15 : decode method_2_code 15 = .ok (.ireturn, 1) := by decide +kernel
theorem d2_16 : decode method_2_code 16 = .ok (.iload_n 0, 1) := by decide +kernel
theorem d2_17 : decode method_2_code 17 = .ok (.bipush 13, 2) := by decide +kernel
theorem d2_19 : decode method_2_code 19 = .ok (.if_icmp .ne 5, 3) := by decide +kernel
theorem d2_22 : decode method_2_code 22 = .ok (.iconst 1, 1) := by decide +kernel
theorem d2_23 : decode method_2_code 23 = .ok (.ireturn, 1) := by decide +kernel
theorem d2_24 : decode method_2_code 24 = .ok (.iload_n 0, 1) := by decide +kernel
theorem d2_25 : decode method_2_code 25 = .ok (.bipush 32, 2) := by decide +kernel
theorem d2_27 : decode method_2_code 27 = .ok (.if_icmp .ne 5, 3) := by decide +kernel
theorem d2_30 : decode method_2_code 30 = .ok (.iconst 1, 1) := by decide +kernel
theorem d2_31 : decode method_2_code 31 = .ok (.ireturn, 1) := by decide +kernel
theorem d2_32 : decode method_2_code 32 = .ok (.iconst 0, 1) := by decide +kernel
theorem d2_33 : decode method_2_code 33 = .ok (.ireturn, 1) := by decide +kernel
theorem pn_2 : plainName "com/example/urlset/urlset/entry/WhiteSpaceIsPinLaw" = true := by first | (simp [plainName, overriddenIn]; done) | decide +kernel
theorem ef_2 (m : MethodId) (x0 : Int32) : entryFrame m #[(.int x0)] 1 = mkF m 0 #[.val (.int x0)] [] := by first | (simp [entryFrame, mkF, argsToLocals, Value.category]; done) | rfl
def Q2 (Z : State) (p1 : Int32) (h0 : Heap) (n0 : Nat) (v : Option Value) (h : Heap) (L : List Loc) : Prop := v = some (.int (own_ref p1)) ∧ Fr n0 L ∧ h = h0
set_option maxRecDepth 65536 in
set_option maxHeartbeats 40000000 in
theorem rm2 (l : Launch) (Z : State) (a0 : Array Value) (hw : ∀ d ∈ tables_1, d.before a0 Z = true) (ws : List Jvm.Cond) (p1 : Int32) (h0 : Heap) (n0 : Nat) (Z0 : n0 ≤ h0.size)  :
    MetFree l (⟨"com/example/urlset/urlset/entry/WhiteSpaceIsPinLaw", "ref", "(I)Z"⟩ : MethodName) (head1 (Jvm.Cond.code (⟨"com/example/urlset/urlset/entry/WhiteSpaceIsPinLaw", "ref", "(I)Z"⟩ : MethodName) method_2_code 1 (some .boolean) :: ws) ({ frames := 0, cells := 0, slots := 0, locals := 0 } : Room)) (fun a U => a = #[(.int p1)] ∧ Z.Warmed39 U.vm ∧ U.heap = h0) (fun _ _ _ _ _ => True) (fun _ U o U' => ∃ v L, o = .returned v ∧ Q2 Z p1 h0 n0 v U'.heap L ∧ FrameEnd U o U' L ({ frames := 0, cells := 0, slots := 0, locals := 0 } : Room).cells ({ frames := 0, cells := 0, slots := 0, locals := 0 } : Room).slots) := by
  refine MetFree.of_bodySF (plainFor_of_name pn_2) hisR ?_
  intro p e s m args below meth c s₁ Bd hml0 hP hK
  obtain ⟨rfl, hZ, hh⟩ := hP
  have hx := Bd.exec
  have hby := Bd.bytes
  have hml : c.maxLocals = 1 := hml0
  have hown : s.vm.findClass "com/example/urlset/urlset/entry/WhiteSpaceIsPinLaw" = some m.cls := findClass_of_methodNamed Bd.named
  have hnm := (name_of_methodNamed Bd.named Bd.method).1
  have X0 : Stand p l e ({ frames := 0, cells := 0, slots := 0, locals := 0 } : Room) s m #[(.int p1)] below meth c s₁ [] 0 0 := Stand.of_body Bd
  have e0 : s₁.heap = h0 := by rw [← hh, Bd.state]; rfl
  have N0 := Fr.nil n0
  have pre0 : ∀ t, Steps p.tables e below (s₁.setTop (mkF m 0 #[.val (.int p1)] [])) t → Steps p.tables e below (s₁.setTop (entryFrame m #[(.int p1)] 1)) t := fun t k => castTop (ef_2 m p1) k
  have pre_11 : ∀ t, Steps p.tables e below (s₁.setTop (mkF m 3 #[.val (.int p1)] [(.int (9 : Int32)), (.int p1)])) t → Steps p.tables e below (s₁.setTop (entryFrame m #[(.int p1)] 1)) t := fun t k => pre0 t (by
      show Steps p.tables e below (s₁.setTop (mkF m 0 #[.val (.int p1)] [])) _
      refine XS.iloadN X0.here hx rfl (hb hby d2_0) rfl ?_
      show Steps p.tables e below (s₁.setTop (mkF m 1 #[.val (.int p1)] [(.int p1)])) _
      refine XS.bipush X0.here hx rfl (hb hby d2_1) ?_
      exact k)
  by_cases hc3__12 : p1 = (9 : Int32)
  · obtain ⟨fs, hr, hrun, hended, hW, hsame⟩ := X0.leave (v := some (.int (1 : Int32))) (fun h => by rw [Bd.returns] at h; cases h)
    refine ⟨_, _, pre_11 _ ?_, hrun, hended, _, _, rfl, ?_, ⟨_, rfl⟩, hW, hsame.mono (by decide) (by decide)⟩
    · show Steps p.tables e below (s₁.setTop (mkF m 3 #[.val (.int p1)] [(.int (9 : Int32)), (.int p1)])) _
      refine XS.icmpNo X0.here hx rfl (hb hby d2_3) rfl (teq hc3__12).2 ?_
      show Steps p.tables e below (s₁.setTop (mkF m 6 #[.val (.int p1)] [])) _
      refine XS.iconst X0.here hx rfl (hb hby d2_6) ?_
      show Steps p.tables e below (s₁.setTop (mkF m 7 #[.val (.int p1)] [(.int (1 : Int32))])) _
      exact retN X0 hx (t := .boolean) Bd.returns (by simp) (hb hby d2_7) hr
    · show Q2 Z p1 h0 n0 _ s₁.heap _
      rw [e0]
      exact ⟨(congrArg (fun z => some (Value.int z)) (by simp only [own_ref, if_pos hc3__12] : (1 : Int32) = (own_ref p1))), N0, rfl⟩
  · have pre_13 : ∀ t, Steps p.tables e below (s₁.setTop (mkF m 11 #[.val (.int p1)] [(.int (10 : Int32)), (.int p1)])) t → Steps p.tables e below (s₁.setTop (entryFrame m #[(.int p1)] 1)) t := fun t k => pre_11 t (by
        show Steps p.tables e below (s₁.setTop (mkF m 3 #[.val (.int p1)] [(.int (9 : Int32)), (.int p1)])) _
        refine XS.icmpYes X0.here hx rfl (pc0 := 3) (pc' := 8) rfl (hb hby d2_3) rfl (feq hc3__12).2 (by decide) (by decide) ?_
        show Steps p.tables e below (s₁.setTop (mkF m 8 #[.val (.int p1)] [])) _
        refine XS.iloadN X0.here hx rfl (hb hby d2_8) rfl ?_
        show Steps p.tables e below (s₁.setTop (mkF m 9 #[.val (.int p1)] [(.int p1)])) _
        refine XS.bipush X0.here hx rfl (hb hby d2_9) ?_
        exact k)
    by_cases hc11__14 : p1 = (10 : Int32)
    · obtain ⟨fs, hr, hrun, hended, hW, hsame⟩ := X0.leave (v := some (.int (1 : Int32))) (fun h => by rw [Bd.returns] at h; cases h)
      refine ⟨_, _, pre_13 _ ?_, hrun, hended, _, _, rfl, ?_, ⟨_, rfl⟩, hW, hsame.mono (by decide) (by decide)⟩
      · show Steps p.tables e below (s₁.setTop (mkF m 11 #[.val (.int p1)] [(.int (10 : Int32)), (.int p1)])) _
        refine XS.icmpNo X0.here hx rfl (hb hby d2_11) rfl (teq hc11__14).2 ?_
        show Steps p.tables e below (s₁.setTop (mkF m 14 #[.val (.int p1)] [])) _
        refine XS.iconst X0.here hx rfl (hb hby d2_14) ?_
        show Steps p.tables e below (s₁.setTop (mkF m 15 #[.val (.int p1)] [(.int (1 : Int32))])) _
        exact retN X0 hx (t := .boolean) Bd.returns (by simp) (hb hby d2_15) hr
      · show Q2 Z p1 h0 n0 _ s₁.heap _
        rw [e0]
        exact ⟨(congrArg (fun z => some (Value.int z)) (by simp only [own_ref, if_neg hc3__12, if_pos hc11__14] : (1 : Int32) = (own_ref p1))), N0, rfl⟩
    · have pre_15 : ∀ t, Steps p.tables e below (s₁.setTop (mkF m 19 #[.val (.int p1)] [(.int (13 : Int32)), (.int p1)])) t → Steps p.tables e below (s₁.setTop (entryFrame m #[(.int p1)] 1)) t := fun t k => pre_13 t (by
          show Steps p.tables e below (s₁.setTop (mkF m 11 #[.val (.int p1)] [(.int (10 : Int32)), (.int p1)])) _
          refine XS.icmpYes X0.here hx rfl (pc0 := 11) (pc' := 16) rfl (hb hby d2_11) rfl (feq hc11__14).2 (by decide) (by decide) ?_
          show Steps p.tables e below (s₁.setTop (mkF m 16 #[.val (.int p1)] [])) _
          refine XS.iloadN X0.here hx rfl (hb hby d2_16) rfl ?_
          show Steps p.tables e below (s₁.setTop (mkF m 17 #[.val (.int p1)] [(.int p1)])) _
          refine XS.bipush X0.here hx rfl (hb hby d2_17) ?_
          exact k)
      by_cases hc19__16 : p1 = (13 : Int32)
      · obtain ⟨fs, hr, hrun, hended, hW, hsame⟩ := X0.leave (v := some (.int (1 : Int32))) (fun h => by rw [Bd.returns] at h; cases h)
        refine ⟨_, _, pre_15 _ ?_, hrun, hended, _, _, rfl, ?_, ⟨_, rfl⟩, hW, hsame.mono (by decide) (by decide)⟩
        · show Steps p.tables e below (s₁.setTop (mkF m 19 #[.val (.int p1)] [(.int (13 : Int32)), (.int p1)])) _
          refine XS.icmpNo X0.here hx rfl (hb hby d2_19) rfl (teq hc19__16).2 ?_
          show Steps p.tables e below (s₁.setTop (mkF m 22 #[.val (.int p1)] [])) _
          refine XS.iconst X0.here hx rfl (hb hby d2_22) ?_
          show Steps p.tables e below (s₁.setTop (mkF m 23 #[.val (.int p1)] [(.int (1 : Int32))])) _
          exact retN X0 hx (t := .boolean) Bd.returns (by simp) (hb hby d2_23) hr
        · show Q2 Z p1 h0 n0 _ s₁.heap _
          rw [e0]
          exact ⟨(congrArg (fun z => some (Value.int z)) (by simp only [own_ref, if_neg hc3__12, if_neg hc11__14, if_pos hc19__16] : (1 : Int32) = (own_ref p1))), N0, rfl⟩
      · have pre_17 : ∀ t, Steps p.tables e below (s₁.setTop (mkF m 27 #[.val (.int p1)] [(.int (32 : Int32)), (.int p1)])) t → Steps p.tables e below (s₁.setTop (entryFrame m #[(.int p1)] 1)) t := fun t k => pre_15 t (by
            show Steps p.tables e below (s₁.setTop (mkF m 19 #[.val (.int p1)] [(.int (13 : Int32)), (.int p1)])) _
            refine XS.icmpYes X0.here hx rfl (pc0 := 19) (pc' := 24) rfl (hb hby d2_19) rfl (feq hc19__16).2 (by decide) (by decide) ?_
            show Steps p.tables e below (s₁.setTop (mkF m 24 #[.val (.int p1)] [])) _
            refine XS.iloadN X0.here hx rfl (hb hby d2_24) rfl ?_
            show Steps p.tables e below (s₁.setTop (mkF m 25 #[.val (.int p1)] [(.int p1)])) _
            refine XS.bipush X0.here hx rfl (hb hby d2_25) ?_
            exact k)
        by_cases hc27__18 : p1 = (32 : Int32)
        · obtain ⟨fs, hr, hrun, hended, hW, hsame⟩ := X0.leave (v := some (.int (1 : Int32))) (fun h => by rw [Bd.returns] at h; cases h)
          refine ⟨_, _, pre_17 _ ?_, hrun, hended, _, _, rfl, ?_, ⟨_, rfl⟩, hW, hsame.mono (by decide) (by decide)⟩
          · show Steps p.tables e below (s₁.setTop (mkF m 27 #[.val (.int p1)] [(.int (32 : Int32)), (.int p1)])) _
            refine XS.icmpNo X0.here hx rfl (hb hby d2_27) rfl (teq hc27__18).2 ?_
            show Steps p.tables e below (s₁.setTop (mkF m 30 #[.val (.int p1)] [])) _
            refine XS.iconst X0.here hx rfl (hb hby d2_30) ?_
            show Steps p.tables e below (s₁.setTop (mkF m 31 #[.val (.int p1)] [(.int (1 : Int32))])) _
            exact retN X0 hx (t := .boolean) Bd.returns (by simp) (hb hby d2_31) hr
          · show Q2 Z p1 h0 n0 _ s₁.heap _
            rw [e0]
            exact ⟨(congrArg (fun z => some (Value.int z)) (by simp only [own_ref, if_neg hc3__12, if_neg hc11__14, if_neg hc19__16, if_pos hc27__18] : (1 : Int32) = (own_ref p1))), N0, rfl⟩
        · obtain ⟨fs, hr, hrun, hended, hW, hsame⟩ := X0.leave (v := some (.int (0 : Int32))) (fun h => by rw [Bd.returns] at h; cases h)
          refine ⟨_, _, pre_17 _ ?_, hrun, hended, _, _, rfl, ?_, ⟨_, rfl⟩, hW, hsame.mono (by decide) (by decide)⟩
          · show Steps p.tables e below (s₁.setTop (mkF m 27 #[.val (.int p1)] [(.int (32 : Int32)), (.int p1)])) _
            refine XS.icmpYes X0.here hx rfl (pc0 := 27) (pc' := 32) rfl (hb hby d2_27) rfl (feq hc27__18).2 (by decide) (by decide) ?_
            show Steps p.tables e below (s₁.setTop (mkF m 32 #[.val (.int p1)] [])) _
            refine XS.iconst X0.here hx rfl (hb hby d2_32) ?_
            show Steps p.tables e below (s₁.setTop (mkF m 33 #[.val (.int p1)] [(.int (0 : Int32))])) _
            exact retN X0 hx (t := .boolean) Bd.returns (by simp) (hb hby d2_33) hr
          · show Q2 Z p1 h0 n0 _ s₁.heap _
            rw [e0]
            exact ⟨(congrArg (fun z => some (Value.int z)) (by simp only [own_ref, if_neg hc3__12, if_neg hc11__14, if_neg hc19__16, if_neg hc27__18] : (0 : Int32) = (own_ref p1))), N0, rfl⟩
theorem own_same (x : Int32) : own_is x = own_ref x := by
  simp only [own_is, own_ref]
  by_cases h1 : x = (9 : Int32)
  · subst h1; rfl
  by_cases h2 : x = (10 : Int32)
  · subst h2; rfl
  by_cases h3 : x = (13 : Int32)
  · subst h3; rfl
  by_cases h4 : x = (32 : Int32)
  · subst h4; rfl
  simp only [h1, h2, h3, h4, if_false, ite_self]
theorem ef_0 (m : MethodId) (x0 : Int32) (x1 : Int32) : entryFrame m #[(.int x0), (.int x1)] maxLocals = mkF m 0 #[.val (.int x0), .val (.int x1), .unset, .unset, .unset, .unset, .unset, .unset] [] := by first | (simp [entryFrame, mkF, argsToLocals, Value.category, maxLocals]; done) | rfl
def Q0 (Z : State) (p1 : Int32) (p2 : Int32) (h0 : Heap) (n0 : Nat) (v : Option Value) (h : Heap) (L : List Loc) : Prop := v = some (.int (1 : Int32)) ∧ Fr n0 L
theorem pd_0 : parseMethodDescriptor "(I)Z" = some ⟨[.int], some .boolean⟩ := by decide +kernel
set_option maxRecDepth 65536 in
set_option maxHeartbeats 40000000 in
theorem rm0 (l : Launch) (Z : State) (a0 : Array Value) (hw : ∀ d ∈ tables_1, d.before a0 Z = true) (ws : List Jvm.Cond) (p1 : Int32) (p2 : Int32) (h0 : Heap) (n0 : Nat) (Z0 : n0 ≤ h0.size)  :
    MetFree l x (head1 (Jvm.Cond.code x code maxLocals ret :: ws) room_1) (fun a U => a = #[(.int p1), (.int p2)] ∧ Z.Warmed39 U.vm ∧ U.heap = h0) (fun _ _ _ _ _ => True) (fun _ U o U' => ∃ v L, o = .returned v ∧ Q0 Z p1 p2 h0 n0 v U'.heap L ∧ FrameEnd U o U' L room_1.cells room_1.slots) := by
  refine MetFree.of_bodySF (plainFor_of_name pn_2) hisR ?_
  intro p e s m args below meth c s₁ Bd hml0 hP hK
  obtain ⟨rfl, hZ, hh⟩ := hP
  have hx := Bd.exec
  have hby := Bd.bytes
  have hml : c.maxLocals = 8 := hml0
  have hown : s.vm.findClass "com/example/urlset/urlset/entry/WhiteSpaceIsPinLaw" = some m.cls := findClass_of_methodNamed Bd.named
  have hnm := (name_of_methodNamed Bd.named Bd.method).1
  have X0 : Stand p l e room_1 s m #[(.int p1), (.int p2)] below meth c s₁ [] 0 0 := Stand.of_body Bd
  have e0 : s₁.heap = h0 := by rw [← hh, Bd.state]; rfl
  have N0 := Fr.nil n0
  have pre0 : ∀ t, Steps p.tables e below (s₁.setTop (mkF m 0 #[.val (.int p1), .val (.int p2), .unset, .unset, .unset, .unset, .unset, .unset] [])) t → Steps p.tables e below (s₁.setTop (entryFrame m #[(.int p1), (.int p2)] maxLocals)) t := fun t k => castTop (ef_0 m p1 p2) k
  obtain ⟨T_19, h_19, k_19, X_19, e_19, E_19, A_19, st_19⟩ := newP X0 hx hZ (hw _ (List.mem_of_getElem? (i := 0) rfl)) e0 (g := (mkF m 2 #[.val (.int p1), .val (.int p2), .unset, .unset, .unset, .unset, .unset, .unset] [(.int (16 : Int32))])) rfl (hb hby at_2) rfl (by decide) (cap := 16) (by decide) (by decide) (by decide) (by decide)
  obtain ⟨b_19, g_19⟩ : ∃ z, z = h0.size := ⟨_, rfl⟩
  rw [← g_19] at A_19 st_19
  have g_b_19 : n0 ≤ b_19 := Nat.le_trans Z0 (Nat.le_of_eq g_19.symm)
  have z_20 : n0 ≤ h_19.size := Nat.le_trans Z0 E_19.1
  have V_19 : Arv Z h_19 b_19 k_19 .int (16 : Int32) [(.int (0 : Int32)), (.int (0 : Int32)), (.int (0 : Int32)), (.int (0 : Int32)), (.int (0 : Int32)), (.int (0 : Int32)), (.int (0 : Int32)), (.int (0 : Int32)), (.int (0 : Int32)), (.int (0 : Int32)), (.int (0 : Int32)), (.int (0 : Int32)), (.int (0 : Int32)), (.int (0 : Int32)), (.int (0 : Int32)), (.int (0 : Int32))] (.int (0 : Int32)) := (Arv.new A_19 (by decide)).pad (pad_rep [] (.int (0 : Int32)) 16)
  obtain ⟨cl_21, Ar_21, q_21, S_21, M_21, H_21, G_21⟩ := id V_19
  have hin_21 : ¬ ((0 : Int32) < 0 ∨ cl_21.slots.size ≤ ((0 : Int32)).toNatClampNeg) := inb_of S_21 ⟨by decide, by decide⟩
  obtain ⟨T_21, h_21, X_21, e_21, W_21, st_21⟩ := stI X_19 hx hZ e_19 Ar_21 (j := (0 : Int32)) hin_21 (g := (mkF m 8 #[.val (.int p1), .val (.int p2), .unset, .unset, .unset, .unset, .unset, .unset] [(.int (9 : Int32)), (.int (0 : Int32)), (.ref b_19), (.ref b_19)])) rfl rfl (hb hby at_8)
  have z_22 : n0 ≤ h_21.size := Nat.le_trans z_20 (Keep.of_wr W_21).1
  have V_21 : Arv Z h_21 b_19 k_19 .int (16 : Int32) [(.int (9 : Int32)), (.int (0 : Int32)), (.int (0 : Int32)), (.int (0 : Int32)), (.int (0 : Int32)), (.int (0 : Int32)), (.int (0 : Int32)), (.int (0 : Int32)), (.int (0 : Int32)), (.int (0 : Int32)), (.int (0 : Int32)), (.int (0 : Int32)), (.int (0 : Int32)), (.int (0 : Int32)), (.int (0 : Int32)), (.int (0 : Int32))] (.int (0 : Int32)) := Arv.set Ar_21 q_21 S_21 M_21 H_21 G_21 rfl W_21 0 rfl (Nat.le_of_ble_eq_true rfl)
  have N_21 := Fr.snoc X_21 N0 g_b_19
  obtain ⟨cl_23, Ar_23, q_23, S_23, M_23, H_23, G_23⟩ := id V_21
  have hin_23 : ¬ ((1 : Int32) < 0 ∨ cl_23.slots.size ≤ ((1 : Int32)).toNatClampNeg) := inb_of S_23 ⟨by decide, by decide⟩
  obtain ⟨T_23, h_23, X_23, e_23, W_23, st_23⟩ := stI X_21 hx hZ e_21 Ar_23 (j := (1 : Int32)) hin_23 (g := (mkF m 13 #[.val (.int p1), .val (.int p2), .unset, .unset, .unset, .unset, .unset, .unset] [(.int (10 : Int32)), (.int (1 : Int32)), (.ref b_19), (.ref b_19)])) rfl rfl (hb hby at_13)
  have z_24 : n0 ≤ h_23.size := Nat.le_trans z_22 (Keep.of_wr W_23).1
  have V_23 : Arv Z h_23 b_19 k_19 .int (16 : Int32) [(.int (9 : Int32)), (.int (10 : Int32)), (.int (0 : Int32)), (.int (0 : Int32)), (.int (0 : Int32)), (.int (0 : Int32)), (.int (0 : Int32)), (.int (0 : Int32)), (.int (0 : Int32)), (.int (0 : Int32)), (.int (0 : Int32)), (.int (0 : Int32)), (.int (0 : Int32)), (.int (0 : Int32)), (.int (0 : Int32)), (.int (0 : Int32))] (.int (0 : Int32)) := Arv.set Ar_23 q_23 S_23 M_23 H_23 G_23 rfl W_23 1 rfl (Nat.le_of_ble_eq_true rfl)
  have N_23 := Fr.snoc X_23 N_21 g_b_19
  obtain ⟨cl_25, Ar_25, q_25, S_25, M_25, H_25, G_25⟩ := id V_23
  have hin_25 : ¬ ((2 : Int32) < 0 ∨ cl_25.slots.size ≤ ((2 : Int32)).toNatClampNeg) := inb_of S_25 ⟨by decide, by decide⟩
  obtain ⟨T_25, h_25, X_25, e_25, W_25, st_25⟩ := stI X_23 hx hZ e_23 Ar_25 (j := (2 : Int32)) hin_25 (g := (mkF m 18 #[.val (.int p1), .val (.int p2), .unset, .unset, .unset, .unset, .unset, .unset] [(.int (13 : Int32)), (.int (2 : Int32)), (.ref b_19), (.ref b_19)])) rfl rfl (hb hby at_18)
  have z_26 : n0 ≤ h_25.size := Nat.le_trans z_24 (Keep.of_wr W_25).1
  have V_25 : Arv Z h_25 b_19 k_19 .int (16 : Int32) [(.int (9 : Int32)), (.int (10 : Int32)), (.int (13 : Int32)), (.int (0 : Int32)), (.int (0 : Int32)), (.int (0 : Int32)), (.int (0 : Int32)), (.int (0 : Int32)), (.int (0 : Int32)), (.int (0 : Int32)), (.int (0 : Int32)), (.int (0 : Int32)), (.int (0 : Int32)), (.int (0 : Int32)), (.int (0 : Int32)), (.int (0 : Int32))] (.int (0 : Int32)) := Arv.set Ar_25 q_25 S_25 M_25 H_25 G_25 rfl W_25 2 rfl (Nat.le_of_ble_eq_true rfl)
  have N_25 := Fr.snoc X_25 N_23 g_b_19
  obtain ⟨cl_27, Ar_27, q_27, S_27, M_27, H_27, G_27⟩ := id V_25
  have hin_27 : ¬ ((3 : Int32) < 0 ∨ cl_27.slots.size ≤ ((3 : Int32)).toNatClampNeg) := inb_of S_27 ⟨by decide, by decide⟩
  obtain ⟨T_27, h_27, X_27, e_27, W_27, st_27⟩ := stI X_25 hx hZ e_25 Ar_27 (j := (3 : Int32)) hin_27 (g := (mkF m 23 #[.val (.int p1), .val (.int p2), .unset, .unset, .unset, .unset, .unset, .unset] [(.int (32 : Int32)), (.int (3 : Int32)), (.ref b_19), (.ref b_19)])) rfl rfl (hb hby at_23)
  have z_28 : n0 ≤ h_27.size := Nat.le_trans z_26 (Keep.of_wr W_27).1
  have V_27 : Arv Z h_27 b_19 k_19 .int (16 : Int32) [(.int (9 : Int32)), (.int (10 : Int32)), (.int (13 : Int32)), (.int (32 : Int32)), (.int (0 : Int32)), (.int (0 : Int32)), (.int (0 : Int32)), (.int (0 : Int32)), (.int (0 : Int32)), (.int (0 : Int32)), (.int (0 : Int32)), (.int (0 : Int32)), (.int (0 : Int32)), (.int (0 : Int32)), (.int (0 : Int32)), (.int (0 : Int32))] (.int (0 : Int32)) := Arv.set Ar_27 q_27 S_27 M_27 H_27 G_27 rfl W_27 3 rfl (Nat.le_of_ble_eq_true rfl)
  have N_27 := Fr.snoc X_27 N_25 g_b_19
  obtain ⟨cl_29, Ar_29, q_29, S_29, M_29, H_29, G_29⟩ := id V_27
  have hin_29 : ¬ ((4 : Int32) < 0 ∨ cl_29.slots.size ≤ ((4 : Int32)).toNatClampNeg) := inb_of S_29 ⟨by decide, by decide⟩
  obtain ⟨T_29, h_29, X_29, e_29, W_29, st_29⟩ := stI X_27 hx hZ e_27 Ar_29 (j := (4 : Int32)) hin_29 (g := (mkF m 27 #[.val (.int p1), .val (.int p2), .unset, .unset, .unset, .unset, .unset, .unset] [(.int (0 : Int32)), (.int (4 : Int32)), (.ref b_19), (.ref b_19)])) rfl rfl (hb hby at_27)
  have z_30 : n0 ≤ h_29.size := Nat.le_trans z_28 (Keep.of_wr W_29).1
  have V_29 : Arv Z h_29 b_19 k_19 .int (16 : Int32) [(.int (9 : Int32)), (.int (10 : Int32)), (.int (13 : Int32)), (.int (32 : Int32)), (.int (0 : Int32)), (.int (0 : Int32)), (.int (0 : Int32)), (.int (0 : Int32)), (.int (0 : Int32)), (.int (0 : Int32)), (.int (0 : Int32)), (.int (0 : Int32)), (.int (0 : Int32)), (.int (0 : Int32)), (.int (0 : Int32)), (.int (0 : Int32))] (.int (0 : Int32)) := Arv.set Ar_29 q_29 S_29 M_29 H_29 G_29 rfl W_29 4 rfl (Nat.le_of_ble_eq_true rfl)
  have N_29 := Fr.snoc X_29 N_27 g_b_19
  obtain ⟨cl_31, Ar_31, q_31, S_31, M_31, H_31, G_31⟩ := id V_29
  have hin_31 : ¬ ((5 : Int32) < 0 ∨ cl_31.slots.size ≤ ((5 : Int32)).toNatClampNeg) := inb_of S_31 ⟨by decide, by decide⟩
  obtain ⟨T_31, h_31, X_31, e_31, W_31, st_31⟩ := stI X_29 hx hZ e_29 Ar_31 (j := (5 : Int32)) hin_31 (g := (mkF m 32 #[.val (.int p1), .val (.int p2), .unset, .unset, .unset, .unset, .unset, .unset] [(.int (8 : Int32)), (.int (5 : Int32)), (.ref b_19), (.ref b_19)])) rfl rfl (hb hby at_32)
  have z_32 : n0 ≤ h_31.size := Nat.le_trans z_30 (Keep.of_wr W_31).1
  have V_31 : Arv Z h_31 b_19 k_19 .int (16 : Int32) [(.int (9 : Int32)), (.int (10 : Int32)), (.int (13 : Int32)), (.int (32 : Int32)), (.int (0 : Int32)), (.int (8 : Int32)), (.int (0 : Int32)), (.int (0 : Int32)), (.int (0 : Int32)), (.int (0 : Int32)), (.int (0 : Int32)), (.int (0 : Int32)), (.int (0 : Int32)), (.int (0 : Int32)), (.int (0 : Int32)), (.int (0 : Int32))] (.int (0 : Int32)) := Arv.set Ar_31 q_31 S_31 M_31 H_31 G_31 rfl W_31 5 rfl (Nat.le_of_ble_eq_true rfl)
  have N_31 := Fr.snoc X_31 N_29 g_b_19
  obtain ⟨cl_33, Ar_33, q_33, S_33, M_33, H_33, G_33⟩ := id V_31
  have hin_33 : ¬ ((6 : Int32) < 0 ∨ cl_33.slots.size ≤ ((6 : Int32)).toNatClampNeg) := inb_of S_33 ⟨by decide, by decide⟩
  obtain ⟨T_33, h_33, X_33, e_33, W_33, st_33⟩ := stI X_31 hx hZ e_31 Ar_33 (j := (6 : Int32)) hin_33 (g := (mkF m 38 #[.val (.int p1), .val (.int p2), .unset, .unset, .unset, .unset, .unset, .unset] [(.int (11 : Int32)), (.int (6 : Int32)), (.ref b_19), (.ref b_19)])) rfl rfl (hb hby at_38)
  have z_34 : n0 ≤ h_33.size := Nat.le_trans z_32 (Keep.of_wr W_33).1
  have V_33 : Arv Z h_33 b_19 k_19 .int (16 : Int32) [(.int (9 : Int32)), (.int (10 : Int32)), (.int (13 : Int32)), (.int (32 : Int32)), (.int (0 : Int32)), (.int (8 : Int32)), (.int (11 : Int32)), (.int (0 : Int32)), (.int (0 : Int32)), (.int (0 : Int32)), (.int (0 : Int32)), (.int (0 : Int32)), (.int (0 : Int32)), (.int (0 : Int32)), (.int (0 : Int32)), (.int (0 : Int32))] (.int (0 : Int32)) := Arv.set Ar_33 q_33 S_33 M_33 H_33 G_33 rfl W_33 6 rfl (Nat.le_of_ble_eq_true rfl)
  have N_33 := Fr.snoc X_33 N_31 g_b_19
  obtain ⟨cl_35, Ar_35, q_35, S_35, M_35, H_35, G_35⟩ := id V_33
  have hin_35 : ¬ ((7 : Int32) < 0 ∨ cl_35.slots.size ≤ ((7 : Int32)).toNatClampNeg) := inb_of S_35 ⟨by decide, by decide⟩
  obtain ⟨T_35, h_35, X_35, e_35, W_35, st_35⟩ := stI X_33 hx hZ e_33 Ar_35 (j := (7 : Int32)) hin_35 (g := (mkF m 44 #[.val (.int p1), .val (.int p2), .unset, .unset, .unset, .unset, .unset, .unset] [(.int (12 : Int32)), (.int (7 : Int32)), (.ref b_19), (.ref b_19)])) rfl rfl (hb hby at_44)
  have z_36 : n0 ≤ h_35.size := Nat.le_trans z_34 (Keep.of_wr W_35).1
  have V_35 : Arv Z h_35 b_19 k_19 .int (16 : Int32) [(.int (9 : Int32)), (.int (10 : Int32)), (.int (13 : Int32)), (.int (32 : Int32)), (.int (0 : Int32)), (.int (8 : Int32)), (.int (11 : Int32)), (.int (12 : Int32)), (.int (0 : Int32)), (.int (0 : Int32)), (.int (0 : Int32)), (.int (0 : Int32)), (.int (0 : Int32)), (.int (0 : Int32)), (.int (0 : Int32)), (.int (0 : Int32))] (.int (0 : Int32)) := Arv.set Ar_35 q_35 S_35 M_35 H_35 G_35 rfl W_35 7 rfl (Nat.le_of_ble_eq_true rfl)
  have N_35 := Fr.snoc X_35 N_33 g_b_19
  obtain ⟨cl_37, Ar_37, q_37, S_37, M_37, H_37, G_37⟩ := id V_35
  have hin_37 : ¬ ((8 : Int32) < 0 ∨ cl_37.slots.size ≤ ((8 : Int32)).toNatClampNeg) := inb_of S_37 ⟨by decide, by decide⟩
  obtain ⟨T_37, h_37, X_37, e_37, W_37, st_37⟩ := stI X_35 hx hZ e_35 Ar_37 (j := (8 : Int32)) hin_37 (g := (mkF m 50 #[.val (.int p1), .val (.int p2), .unset, .unset, .unset, .unset, .unset, .unset] [(.int (14 : Int32)), (.int (8 : Int32)), (.ref b_19), (.ref b_19)])) rfl rfl (hb hby at_50)
  have z_38 : n0 ≤ h_37.size := Nat.le_trans z_36 (Keep.of_wr W_37).1
  have V_37 : Arv Z h_37 b_19 k_19 .int (16 : Int32) [(.int (9 : Int32)), (.int (10 : Int32)), (.int (13 : Int32)), (.int (32 : Int32)), (.int (0 : Int32)), (.int (8 : Int32)), (.int (11 : Int32)), (.int (12 : Int32)), (.int (14 : Int32)), (.int (0 : Int32)), (.int (0 : Int32)), (.int (0 : Int32)), (.int (0 : Int32)), (.int (0 : Int32)), (.int (0 : Int32)), (.int (0 : Int32))] (.int (0 : Int32)) := Arv.set Ar_37 q_37 S_37 M_37 H_37 G_37 rfl W_37 8 rfl (Nat.le_of_ble_eq_true rfl)
  have N_37 := Fr.snoc X_37 N_35 g_b_19
  obtain ⟨cl_39, Ar_39, q_39, S_39, M_39, H_39, G_39⟩ := id V_37
  have hin_39 : ¬ ((9 : Int32) < 0 ∨ cl_39.slots.size ≤ ((9 : Int32)).toNatClampNeg) := inb_of S_39 ⟨by decide, by decide⟩
  obtain ⟨T_39, h_39, X_39, e_39, W_39, st_39⟩ := stI X_37 hx hZ e_37 Ar_39 (j := (9 : Int32)) hin_39 (g := (mkF m 56 #[.val (.int p1), .val (.int p2), .unset, .unset, .unset, .unset, .unset, .unset] [(.int (31 : Int32)), (.int (9 : Int32)), (.ref b_19), (.ref b_19)])) rfl rfl (hb hby at_56)
  have z_40 : n0 ≤ h_39.size := Nat.le_trans z_38 (Keep.of_wr W_39).1
  have V_39 : Arv Z h_39 b_19 k_19 .int (16 : Int32) [(.int (9 : Int32)), (.int (10 : Int32)), (.int (13 : Int32)), (.int (32 : Int32)), (.int (0 : Int32)), (.int (8 : Int32)), (.int (11 : Int32)), (.int (12 : Int32)), (.int (14 : Int32)), (.int (31 : Int32)), (.int (0 : Int32)), (.int (0 : Int32)), (.int (0 : Int32)), (.int (0 : Int32)), (.int (0 : Int32)), (.int (0 : Int32))] (.int (0 : Int32)) := Arv.set Ar_39 q_39 S_39 M_39 H_39 G_39 rfl W_39 9 rfl (Nat.le_of_ble_eq_true rfl)
  have N_39 := Fr.snoc X_39 N_37 g_b_19
  obtain ⟨cl_41, Ar_41, q_41, S_41, M_41, H_41, G_41⟩ := id V_39
  have hin_41 : ¬ ((10 : Int32) < 0 ∨ cl_41.slots.size ≤ ((10 : Int32)).toNatClampNeg) := inb_of S_41 ⟨by decide, by decide⟩
  obtain ⟨T_41, h_41, X_41, e_41, W_41, st_41⟩ := stI X_39 hx hZ e_39 Ar_41 (j := (10 : Int32)) hin_41 (g := (mkF m 62 #[.val (.int p1), .val (.int p2), .unset, .unset, .unset, .unset, .unset, .unset] [(.int (33 : Int32)), (.int (10 : Int32)), (.ref b_19), (.ref b_19)])) rfl rfl (hb hby at_62)
  have z_42 : n0 ≤ h_41.size := Nat.le_trans z_40 (Keep.of_wr W_41).1
  have V_41 : Arv Z h_41 b_19 k_19 .int (16 : Int32) [(.int (9 : Int32)), (.int (10 : Int32)), (.int (13 : Int32)), (.int (32 : Int32)), (.int (0 : Int32)), (.int (8 : Int32)), (.int (11 : Int32)), (.int (12 : Int32)), (.int (14 : Int32)), (.int (31 : Int32)), (.int (33 : Int32)), (.int (0 : Int32)), (.int (0 : Int32)), (.int (0 : Int32)), (.int (0 : Int32)), (.int (0 : Int32))] (.int (0 : Int32)) := Arv.set Ar_41 q_41 S_41 M_41 H_41 G_41 rfl W_41 10 rfl (Nat.le_of_ble_eq_true rfl)
  have N_41 := Fr.snoc X_41 N_39 g_b_19
  obtain ⟨cl_43, Ar_43, q_43, S_43, M_43, H_43, G_43⟩ := id V_41
  have hin_43 : ¬ ((11 : Int32) < 0 ∨ cl_43.slots.size ≤ ((11 : Int32)).toNatClampNeg) := inb_of S_43 ⟨by decide, by decide⟩
  obtain ⟨T_43, h_43, X_43, e_43, W_43, st_43⟩ := stI X_41 hx hZ e_41 Ar_43 (j := (11 : Int32)) hin_43 (g := (mkF m 67 #[.val (.int p1), .val (.int p2), .unset, .unset, .unset, .unset, .unset, .unset] [(.int (-1 : Int32)), (.int (11 : Int32)), (.ref b_19), (.ref b_19)])) rfl rfl (hb hby at_67)
  have z_44 : n0 ≤ h_43.size := Nat.le_trans z_42 (Keep.of_wr W_43).1
  have V_43 : Arv Z h_43 b_19 k_19 .int (16 : Int32) [(.int (9 : Int32)), (.int (10 : Int32)), (.int (13 : Int32)), (.int (32 : Int32)), (.int (0 : Int32)), (.int (8 : Int32)), (.int (11 : Int32)), (.int (12 : Int32)), (.int (14 : Int32)), (.int (31 : Int32)), (.int (33 : Int32)), (.int (-1 : Int32)), (.int (0 : Int32)), (.int (0 : Int32)), (.int (0 : Int32)), (.int (0 : Int32))] (.int (0 : Int32)) := Arv.set Ar_43 q_43 S_43 M_43 H_43 G_43 rfl W_43 11 rfl (Nat.le_of_ble_eq_true rfl)
  have N_43 := Fr.snoc X_43 N_41 g_b_19
  obtain ⟨cl_45, Ar_45, q_45, S_45, M_45, H_45, G_45⟩ := id V_43
  have hin_45 : ¬ ((12 : Int32) < 0 ∨ cl_45.slots.size ≤ ((12 : Int32)).toNatClampNeg) := inb_of S_45 ⟨by decide, by decide⟩
  obtain ⟨T_45, h_45, X_45, e_45, W_45, st_45⟩ := stI X_43 hx hZ e_43 Ar_45 (j := (12 : Int32)) hin_45 (g := (mkF m 73 #[.val (.int p1), .val (.int p2), .unset, .unset, .unset, .unset, .unset, .unset] [(.int (-2147483648 : Int32)), (.int (12 : Int32)), (.ref b_19), (.ref b_19)])) rfl rfl (hb hby at_73)
  have z_46 : n0 ≤ h_45.size := Nat.le_trans z_44 (Keep.of_wr W_45).1
  have V_45 : Arv Z h_45 b_19 k_19 .int (16 : Int32) [(.int (9 : Int32)), (.int (10 : Int32)), (.int (13 : Int32)), (.int (32 : Int32)), (.int (0 : Int32)), (.int (8 : Int32)), (.int (11 : Int32)), (.int (12 : Int32)), (.int (14 : Int32)), (.int (31 : Int32)), (.int (33 : Int32)), (.int (-1 : Int32)), (.int (-2147483648 : Int32)), (.int (0 : Int32)), (.int (0 : Int32)), (.int (0 : Int32))] (.int (0 : Int32)) := Arv.set Ar_45 q_45 S_45 M_45 H_45 G_45 rfl W_45 12 rfl (Nat.le_of_ble_eq_true rfl)
  have N_45 := Fr.snoc X_45 N_43 g_b_19
  obtain ⟨cl_47, Ar_47, q_47, S_47, M_47, H_47, G_47⟩ := id V_45
  have hin_47 : ¬ ((13 : Int32) < 0 ∨ cl_47.slots.size ≤ ((13 : Int32)).toNatClampNeg) := inb_of S_47 ⟨by decide, by decide⟩
  obtain ⟨T_47, h_47, X_47, e_47, W_47, st_47⟩ := stI X_45 hx hZ e_45 Ar_47 (j := (13 : Int32)) hin_47 (g := (mkF m 79 #[.val (.int p1), .val (.int p2), .unset, .unset, .unset, .unset, .unset, .unset] [(.int (2147483647 : Int32)), (.int (13 : Int32)), (.ref b_19), (.ref b_19)])) rfl rfl (hb hby at_79)
  have z_48 : n0 ≤ h_47.size := Nat.le_trans z_46 (Keep.of_wr W_47).1
  have V_47 : Arv Z h_47 b_19 k_19 .int (16 : Int32) [(.int (9 : Int32)), (.int (10 : Int32)), (.int (13 : Int32)), (.int (32 : Int32)), (.int (0 : Int32)), (.int (8 : Int32)), (.int (11 : Int32)), (.int (12 : Int32)), (.int (14 : Int32)), (.int (31 : Int32)), (.int (33 : Int32)), (.int (-1 : Int32)), (.int (-2147483648 : Int32)), (.int (2147483647 : Int32)), (.int (0 : Int32)), (.int (0 : Int32))] (.int (0 : Int32)) := Arv.set Ar_47 q_47 S_47 M_47 H_47 G_47 rfl W_47 13 rfl (Nat.le_of_ble_eq_true rfl)
  have N_47 := Fr.snoc X_47 N_45 g_b_19
  obtain ⟨cl_49, Ar_49, q_49, S_49, M_49, H_49, G_49⟩ := id V_47
  have hin_49 : ¬ ((14 : Int32) < 0 ∨ cl_49.slots.size ≤ ((14 : Int32)).toNatClampNeg) := inb_of S_49 ⟨by decide, by decide⟩
  obtain ⟨T_49, h_49, X_49, e_49, W_49, st_49⟩ := stI X_47 hx hZ e_47 Ar_49 (j := (14 : Int32)) hin_49 (g := (mkF m 86 #[.val (.int p1), .val (.int p2), .unset, .unset, .unset, .unset, .unset, .unset] [(.int (133 : Int32)), (.int (14 : Int32)), (.ref b_19), (.ref b_19)])) rfl rfl (hb hby at_86)
  have z_50 : n0 ≤ h_49.size := Nat.le_trans z_48 (Keep.of_wr W_49).1
  have V_49 : Arv Z h_49 b_19 k_19 .int (16 : Int32) [(.int (9 : Int32)), (.int (10 : Int32)), (.int (13 : Int32)), (.int (32 : Int32)), (.int (0 : Int32)), (.int (8 : Int32)), (.int (11 : Int32)), (.int (12 : Int32)), (.int (14 : Int32)), (.int (31 : Int32)), (.int (33 : Int32)), (.int (-1 : Int32)), (.int (-2147483648 : Int32)), (.int (2147483647 : Int32)), (.int (133 : Int32)), (.int (0 : Int32))] (.int (0 : Int32)) := Arv.set Ar_49 q_49 S_49 M_49 H_49 G_49 rfl W_49 14 rfl (Nat.le_of_ble_eq_true rfl)
  have N_49 := Fr.snoc X_49 N_47 g_b_19
  obtain ⟨cl_51, Ar_51, q_51, S_51, M_51, H_51, G_51⟩ := id V_49
  have hin_51 : ¬ ((15 : Int32) < 0 ∨ cl_51.slots.size ≤ ((15 : Int32)).toNatClampNeg) := inb_of S_51 ⟨by decide, by decide⟩
  obtain ⟨T_51, h_51, X_51, e_51, W_51, st_51⟩ := stI X_49 hx hZ e_49 Ar_51 (j := (15 : Int32)) hin_51 (g := (mkF m 93 #[.val (.int p1), .val (.int p2), .unset, .unset, .unset, .unset, .unset, .unset] [(.int (160 : Int32)), (.int (15 : Int32)), (.ref b_19), (.ref b_19)])) rfl rfl (hb hby at_93)
  have z_52 : n0 ≤ h_51.size := Nat.le_trans z_50 (Keep.of_wr W_51).1
  have V_51 : Arv Z h_51 b_19 k_19 .int (16 : Int32) [(.int (9 : Int32)), (.int (10 : Int32)), (.int (13 : Int32)), (.int (32 : Int32)), (.int (0 : Int32)), (.int (8 : Int32)), (.int (11 : Int32)), (.int (12 : Int32)), (.int (14 : Int32)), (.int (31 : Int32)), (.int (33 : Int32)), (.int (-1 : Int32)), (.int (-2147483648 : Int32)), (.int (2147483647 : Int32)), (.int (133 : Int32)), (.int (160 : Int32))] (.int (0 : Int32)) := Arv.set Ar_51 q_51 S_51 M_51 H_51 G_51 rfl W_51 15 rfl (Nat.le_of_ble_eq_true rfl)
  have N_51 := Fr.snoc X_51 N_49 g_b_19
  obtain ⟨cl_53, Ar_53, q_53, S_53, M_53, H_53, G_53⟩ := id V_51
  have hin_53 : ¬ ((p2 &&& (15 : Int32)) < 0 ∨ cl_53.slots.size ≤ ((p2 &&& (15 : Int32))).toNatClampNeg) := inb_of S_53 (own_and15 p2)
  have hat_53 : cl_53.slots[((p2 &&& (15 : Int32))).toNatClampNeg]? = some (.int (own_tab.getD (p2 &&& (15 : Int32)).toNatClampNeg 0)) := H_53.at hin_53 (own_map own_tab _)
  obtain ⟨_, _, ⟨T_54, L_54, k_54, n_54⟩, -, X_54, ⟨Lc_54, hQ_54, l_54, y_54, z_54⟩, st_54⟩ := Jvm.LawKit.callS X_51 hx (y := (⟨"com/example/urlset/urlset/entry/WhiteSpace", "is", "(I)Z"⟩ : MethodName)) hown (mvT hZ (hw _ (List.mem_of_getElem? (i := 3) rfl))) (mvT hZ (hw _ (List.mem_of_getElem? (i := 4) rfl))) (mvT hZ (hw _ (List.mem_of_getElem? (i := 5) rfl))) (mvT hZ (hw _ (List.mem_of_getElem? (i := 6) rfl))) (by decide) (backOf (W := 0) (rm1 l Z a0 hw [] p1 h_51 n0 z_52 ) hZ (hw _ (List.mem_of_getElem? (i := 6) rfl)) (hw _ (List.mem_of_getElem? (i := 5) rfl)) (by decide) (by decide)) (g := (mkF m 109 #[.val (.int p1), .val (.int p2), .val (.ref b_19), .val (.int (own_tab.getD (p2 &&& (15 : Int32)).toNatClampNeg 0)), .val (.int (p1 &&& (63 : Int32))), .unset, .unset, .unset] [(.int p1)])) rfl (by rw [hml]; rfl) (argsL := [(.int p1)]) (rest := []) (lenOf pd_0 rfl) rfl (by show 2 * 0 + _ ≤ _; exact Nat.le_of_eq rfl) (hb hby at_109) (fun _ _ => ⟨rfl, e_51, (by decide : 1 + 0 ≤ _), (by decide : 16 + 0 ≤ _)⟩)
  dsimp only [Pt.U, Pt.locs, Pt.cells, Pt.slots] at X_54 l_54 y_54 z_54 st_54 hQ_54
  replace X_54 := castS l_54 y_54 z_54 X_54
  obtain ⟨rfl, Nq_54, e_54⟩ := hQ_54
  have N_54 := Fr.app N_51 Nq_54
  obtain ⟨_, _, ⟨T_55, L_55, k_55, n_55⟩, -, X_55, ⟨Lc_55, hQ_55, l_55, y_55, z_55⟩, st_55⟩ := Jvm.LawKit.callS X_54 hx (y := (⟨"com/example/urlset/urlset/entry/WhiteSpaceIsPinLaw", "ref", "(I)Z"⟩ : MethodName)) hown (mvT hZ (hw _ (List.mem_of_getElem? (i := 7) rfl))) (mvT hZ (hw _ (List.mem_of_getElem? (i := 8) rfl))) (mvT hZ (hw _ (List.mem_of_getElem? (i := 9) rfl))) (mvT hZ (hw _ (List.mem_of_getElem? (i := 10) rfl))) (by decide) (backOf (W := 1) (rm2 l Z a0 hw [] p1 h_51 n0 z_52 ) hZ (hw _ (List.mem_of_getElem? (i := 10) rfl)) (hw _ (List.mem_of_getElem? (i := 9) rfl)) (by decide) (by decide)) (g := (mkF m 113 #[.val (.int p1), .val (.int p2), .val (.ref b_19), .val (.int (own_tab.getD (p2 &&& (15 : Int32)).toNatClampNeg 0)), .val (.int (p1 &&& (63 : Int32))), .unset, .unset, .unset] [(.int p1), (.int (own_is p1))])) rfl (by rw [hml]; rfl) (argsL := [(.int p1)]) (rest := [(.int (own_is p1))]) (lenOf pd_0 rfl) rfl (by show 2 * 0 + _ ≤ _; exact Nat.le_of_eq rfl) (hb hby at_113) (fun _ _ => ⟨rfl, e_54, (by decide : 1 + 0 ≤ _), (by decide : 16 + 0 ≤ _)⟩)
  dsimp only [Pt.U, Pt.locs, Pt.cells, Pt.slots] at X_55 l_55 y_55 z_55 st_55 hQ_55
  replace X_55 := castS l_55 y_55 z_55 X_55
  obtain ⟨rfl, Nq_55, e_55⟩ := hQ_55
  have N_55 := Fr.app N_54 Nq_55
  obtain ⟨_, _, ⟨T_56, L_56, k_56, n_56⟩, -, X_56, ⟨Lc_56, hQ_56, l_56, y_56, z_56⟩, st_56⟩ := Jvm.LawKit.callS X_55 hx (y := (⟨"com/example/urlset/urlset/entry/WhiteSpace", "is", "(I)Z"⟩ : MethodName)) hown (mvT hZ (hw _ (List.mem_of_getElem? (i := 3) rfl))) (mvT hZ (hw _ (List.mem_of_getElem? (i := 4) rfl))) (mvT hZ (hw _ (List.mem_of_getElem? (i := 5) rfl))) (mvT hZ (hw _ (List.mem_of_getElem? (i := 6) rfl))) (by decide) (backOf (W := 0) (rm1 l Z a0 hw [] (own_tab.getD (p2 &&& (15 : Int32)).toNatClampNeg 0) h_51 n0 z_52 ) hZ (hw _ (List.mem_of_getElem? (i := 6) rfl)) (hw _ (List.mem_of_getElem? (i := 5) rfl)) (by decide) (by decide)) (g := (mkF m 127 #[.val (.int p1), .val (.int p2), .val (.ref b_19), .val (.int (own_tab.getD (p2 &&& (15 : Int32)).toNatClampNeg 0)), .val (.int (p1 &&& (63 : Int32))), .val (.int (1 : Int32)), .unset, .unset] [(.int (own_tab.getD (p2 &&& (15 : Int32)).toNatClampNeg 0))])) rfl (by rw [hml]; rfl) (argsL := [(.int (own_tab.getD (p2 &&& (15 : Int32)).toNatClampNeg 0))]) (rest := []) (lenOf pd_0 rfl) rfl (by show 2 * 0 + _ ≤ _; exact Nat.le_of_eq rfl) (hb hby at_127) (fun _ _ => ⟨rfl, e_55, (by decide : 1 + 0 ≤ _), (by decide : 16 + 0 ≤ _)⟩)
  dsimp only [Pt.U, Pt.locs, Pt.cells, Pt.slots] at X_56 l_56 y_56 z_56 st_56 hQ_56
  replace X_56 := castS l_56 y_56 z_56 X_56
  obtain ⟨rfl, Nq_56, e_56⟩ := hQ_56
  have N_56 := Fr.app N_55 Nq_56
  obtain ⟨_, _, ⟨T_57, L_57, k_57, n_57⟩, -, X_57, ⟨Lc_57, hQ_57, l_57, y_57, z_57⟩, st_57⟩ := Jvm.LawKit.callS X_56 hx (y := (⟨"com/example/urlset/urlset/entry/WhiteSpaceIsPinLaw", "ref", "(I)Z"⟩ : MethodName)) hown (mvT hZ (hw _ (List.mem_of_getElem? (i := 7) rfl))) (mvT hZ (hw _ (List.mem_of_getElem? (i := 8) rfl))) (mvT hZ (hw _ (List.mem_of_getElem? (i := 9) rfl))) (mvT hZ (hw _ (List.mem_of_getElem? (i := 10) rfl))) (by decide) (backOf (W := 1) (rm2 l Z a0 hw [] (own_tab.getD (p2 &&& (15 : Int32)).toNatClampNeg 0) h_51 n0 z_52 ) hZ (hw _ (List.mem_of_getElem? (i := 10) rfl)) (hw _ (List.mem_of_getElem? (i := 9) rfl)) (by decide) (by decide)) (g := (mkF m 131 #[.val (.int p1), .val (.int p2), .val (.ref b_19), .val (.int (own_tab.getD (p2 &&& (15 : Int32)).toNatClampNeg 0)), .val (.int (p1 &&& (63 : Int32))), .val (.int (1 : Int32)), .unset, .unset] [(.int (own_tab.getD (p2 &&& (15 : Int32)).toNatClampNeg 0)), (.int (own_is (own_tab.getD (p2 &&& (15 : Int32)).toNatClampNeg 0)))])) rfl (by rw [hml]; rfl) (argsL := [(.int (own_tab.getD (p2 &&& (15 : Int32)).toNatClampNeg 0))]) (rest := [(.int (own_is (own_tab.getD (p2 &&& (15 : Int32)).toNatClampNeg 0)))]) (lenOf pd_0 rfl) rfl (by show 2 * 0 + _ ≤ _; exact Nat.le_of_eq rfl) (hb hby at_131) (fun _ _ => ⟨rfl, e_56, (by decide : 1 + 0 ≤ _), (by decide : 16 + 0 ≤ _)⟩)
  dsimp only [Pt.U, Pt.locs, Pt.cells, Pt.slots] at X_57 l_57 y_57 z_57 st_57 hQ_57
  replace X_57 := castS l_57 y_57 z_57 X_57
  obtain ⟨rfl, Nq_57, e_57⟩ := hQ_57
  have N_57 := Fr.app N_56 Nq_57
  obtain ⟨_, _, ⟨T_58, L_58, k_58, n_58⟩, -, X_58, ⟨Lc_58, hQ_58, l_58, y_58, z_58⟩, st_58⟩ := Jvm.LawKit.callS X_57 hx (y := (⟨"com/example/urlset/urlset/entry/WhiteSpace", "is", "(I)Z"⟩ : MethodName)) hown (mvT hZ (hw _ (List.mem_of_getElem? (i := 3) rfl))) (mvT hZ (hw _ (List.mem_of_getElem? (i := 4) rfl))) (mvT hZ (hw _ (List.mem_of_getElem? (i := 5) rfl))) (mvT hZ (hw _ (List.mem_of_getElem? (i := 6) rfl))) (by decide) (backOf (W := 0) (rm1 l Z a0 hw [] (p1 &&& (63 : Int32)) h_51 n0 z_52 ) hZ (hw _ (List.mem_of_getElem? (i := 6) rfl)) (hw _ (List.mem_of_getElem? (i := 5) rfl)) (by decide) (by decide)) (g := (mkF m 146 #[.val (.int p1), .val (.int p2), .val (.ref b_19), .val (.int (own_tab.getD (p2 &&& (15 : Int32)).toNatClampNeg 0)), .val (.int (p1 &&& (63 : Int32))), .val (.int (1 : Int32)), .val (.int (1 : Int32)), .unset] [(.int (p1 &&& (63 : Int32)))])) rfl (by rw [hml]; rfl) (argsL := [(.int (p1 &&& (63 : Int32)))]) (rest := []) (lenOf pd_0 rfl) rfl (by show 2 * 0 + _ ≤ _; exact Nat.le_of_eq rfl) (hb hby at_146) (fun _ _ => ⟨rfl, e_57, (by decide : 1 + 0 ≤ _), (by decide : 16 + 0 ≤ _)⟩)
  dsimp only [Pt.U, Pt.locs, Pt.cells, Pt.slots] at X_58 l_58 y_58 z_58 st_58 hQ_58
  replace X_58 := castS l_58 y_58 z_58 X_58
  obtain ⟨rfl, Nq_58, e_58⟩ := hQ_58
  have N_58 := Fr.app N_57 Nq_58
  obtain ⟨_, _, ⟨T_59, L_59, k_59, n_59⟩, -, X_59, ⟨Lc_59, hQ_59, l_59, y_59, z_59⟩, st_59⟩ := Jvm.LawKit.callS X_58 hx (y := (⟨"com/example/urlset/urlset/entry/WhiteSpaceIsPinLaw", "ref", "(I)Z"⟩ : MethodName)) hown (mvT hZ (hw _ (List.mem_of_getElem? (i := 7) rfl))) (mvT hZ (hw _ (List.mem_of_getElem? (i := 8) rfl))) (mvT hZ (hw _ (List.mem_of_getElem? (i := 9) rfl))) (mvT hZ (hw _ (List.mem_of_getElem? (i := 10) rfl))) (by decide) (backOf (W := 1) (rm2 l Z a0 hw [] (p1 &&& (63 : Int32)) h_51 n0 z_52 ) hZ (hw _ (List.mem_of_getElem? (i := 10) rfl)) (hw _ (List.mem_of_getElem? (i := 9) rfl)) (by decide) (by decide)) (g := (mkF m 151 #[.val (.int p1), .val (.int p2), .val (.ref b_19), .val (.int (own_tab.getD (p2 &&& (15 : Int32)).toNatClampNeg 0)), .val (.int (p1 &&& (63 : Int32))), .val (.int (1 : Int32)), .val (.int (1 : Int32)), .unset] [(.int (p1 &&& (63 : Int32))), (.int (own_is (p1 &&& (63 : Int32))))])) rfl (by rw [hml]; rfl) (argsL := [(.int (p1 &&& (63 : Int32)))]) (rest := [(.int (own_is (p1 &&& (63 : Int32))))]) (lenOf pd_0 rfl) rfl (by show 2 * 0 + _ ≤ _; exact Nat.le_of_eq rfl) (hb hby at_151) (fun _ _ => ⟨rfl, e_58, (by decide : 1 + 0 ≤ _), (by decide : 16 + 0 ≤ _)⟩)
  dsimp only [Pt.U, Pt.locs, Pt.cells, Pt.slots] at X_59 l_59 y_59 z_59 st_59 hQ_59
  replace X_59 := castS l_59 y_59 z_59 X_59
  obtain ⟨rfl, Nq_59, e_59⟩ := hQ_59
  have N_59 := Fr.app N_58 Nq_59
  obtain ⟨fs, hr, hrun, hended, hW, hsame⟩ := X_59.leave (v := some (.int (1 : Int32))) (fun h => by rw [Bd.returns] at h; cases h)
  refine ⟨_, _, pre0 _ ?_, hrun, hended, _, _, rfl, ?_, ⟨_, rfl⟩, hW, hsame.mono (by decide) (by decide)⟩
  · show Steps p.tables e below (s₁.setTop (mkF m 0 #[.val (.int p1), .val (.int p2), .unset, .unset, .unset, .unset, .unset, .unset] [])) _
    refine XS.bipush X0.here hx rfl (hb hby at_0) ?_
    show Steps p.tables e below (s₁.setTop (mkF m 2 #[.val (.int p1), .val (.int p2), .unset, .unset, .unset, .unset, .unset, .unset] [(.int (16 : Int32))])) _
    refine st_19 _ ?_
    show Steps p.tables e below (T_19.setTop (mkF m 4 #[.val (.int p1), .val (.int p2), .unset, .unset, .unset, .unset, .unset, .unset] [(.ref b_19)])) _
    refine XS.dup X_19.here hx rfl (hb hby at_4) rfl rfl ?_
    show Steps p.tables e below (T_19.setTop (mkF m 5 #[.val (.int p1), .val (.int p2), .unset, .unset, .unset, .unset, .unset, .unset] [(.ref b_19), (.ref b_19)])) _
    refine XS.iconst X_19.here hx rfl (hb hby at_5) ?_
    show Steps p.tables e below (T_19.setTop (mkF m 6 #[.val (.int p1), .val (.int p2), .unset, .unset, .unset, .unset, .unset, .unset] [(.int (0 : Int32)), (.ref b_19), (.ref b_19)])) _
    refine XS.bipush X_19.here hx rfl (hb hby at_6) ?_
    show Steps p.tables e below (T_19.setTop (mkF m 8 #[.val (.int p1), .val (.int p2), .unset, .unset, .unset, .unset, .unset, .unset] [(.int (9 : Int32)), (.int (0 : Int32)), (.ref b_19), (.ref b_19)])) _
    refine st_21 _ ?_
    show Steps p.tables e below (T_21.setTop (mkF m 9 #[.val (.int p1), .val (.int p2), .unset, .unset, .unset, .unset, .unset, .unset] [(.ref b_19)])) _
    refine XS.dup X_21.here hx rfl (hb hby at_9) rfl rfl ?_
    show Steps p.tables e below (T_21.setTop (mkF m 10 #[.val (.int p1), .val (.int p2), .unset, .unset, .unset, .unset, .unset, .unset] [(.ref b_19), (.ref b_19)])) _
    refine XS.iconst X_21.here hx rfl (hb hby at_10) ?_
    show Steps p.tables e below (T_21.setTop (mkF m 11 #[.val (.int p1), .val (.int p2), .unset, .unset, .unset, .unset, .unset, .unset] [(.int (1 : Int32)), (.ref b_19), (.ref b_19)])) _
    refine XS.bipush X_21.here hx rfl (hb hby at_11) ?_
    show Steps p.tables e below (T_21.setTop (mkF m 13 #[.val (.int p1), .val (.int p2), .unset, .unset, .unset, .unset, .unset, .unset] [(.int (10 : Int32)), (.int (1 : Int32)), (.ref b_19), (.ref b_19)])) _
    refine st_23 _ ?_
    show Steps p.tables e below (T_23.setTop (mkF m 14 #[.val (.int p1), .val (.int p2), .unset, .unset, .unset, .unset, .unset, .unset] [(.ref b_19)])) _
    refine XS.dup X_23.here hx rfl (hb hby at_14) rfl rfl ?_
    show Steps p.tables e below (T_23.setTop (mkF m 15 #[.val (.int p1), .val (.int p2), .unset, .unset, .unset, .unset, .unset, .unset] [(.ref b_19), (.ref b_19)])) _
    refine XS.iconst X_23.here hx rfl (hb hby at_15) ?_
    show Steps p.tables e below (T_23.setTop (mkF m 16 #[.val (.int p1), .val (.int p2), .unset, .unset, .unset, .unset, .unset, .unset] [(.int (2 : Int32)), (.ref b_19), (.ref b_19)])) _
    refine XS.bipush X_23.here hx rfl (hb hby at_16) ?_
    show Steps p.tables e below (T_23.setTop (mkF m 18 #[.val (.int p1), .val (.int p2), .unset, .unset, .unset, .unset, .unset, .unset] [(.int (13 : Int32)), (.int (2 : Int32)), (.ref b_19), (.ref b_19)])) _
    refine st_25 _ ?_
    show Steps p.tables e below (T_25.setTop (mkF m 19 #[.val (.int p1), .val (.int p2), .unset, .unset, .unset, .unset, .unset, .unset] [(.ref b_19)])) _
    refine XS.dup X_25.here hx rfl (hb hby at_19) rfl rfl ?_
    show Steps p.tables e below (T_25.setTop (mkF m 20 #[.val (.int p1), .val (.int p2), .unset, .unset, .unset, .unset, .unset, .unset] [(.ref b_19), (.ref b_19)])) _
    refine XS.iconst X_25.here hx rfl (hb hby at_20) ?_
    show Steps p.tables e below (T_25.setTop (mkF m 21 #[.val (.int p1), .val (.int p2), .unset, .unset, .unset, .unset, .unset, .unset] [(.int (3 : Int32)), (.ref b_19), (.ref b_19)])) _
    refine XS.bipush X_25.here hx rfl (hb hby at_21) ?_
    show Steps p.tables e below (T_25.setTop (mkF m 23 #[.val (.int p1), .val (.int p2), .unset, .unset, .unset, .unset, .unset, .unset] [(.int (32 : Int32)), (.int (3 : Int32)), (.ref b_19), (.ref b_19)])) _
    refine st_27 _ ?_
    show Steps p.tables e below (T_27.setTop (mkF m 24 #[.val (.int p1), .val (.int p2), .unset, .unset, .unset, .unset, .unset, .unset] [(.ref b_19)])) _
    refine XS.dup X_27.here hx rfl (hb hby at_24) rfl rfl ?_
    show Steps p.tables e below (T_27.setTop (mkF m 25 #[.val (.int p1), .val (.int p2), .unset, .unset, .unset, .unset, .unset, .unset] [(.ref b_19), (.ref b_19)])) _
    refine XS.iconst X_27.here hx rfl (hb hby at_25) ?_
    show Steps p.tables e below (T_27.setTop (mkF m 26 #[.val (.int p1), .val (.int p2), .unset, .unset, .unset, .unset, .unset, .unset] [(.int (4 : Int32)), (.ref b_19), (.ref b_19)])) _
    refine XS.iconst X_27.here hx rfl (hb hby at_26) ?_
    show Steps p.tables e below (T_27.setTop (mkF m 27 #[.val (.int p1), .val (.int p2), .unset, .unset, .unset, .unset, .unset, .unset] [(.int (0 : Int32)), (.int (4 : Int32)), (.ref b_19), (.ref b_19)])) _
    refine st_29 _ ?_
    show Steps p.tables e below (T_29.setTop (mkF m 28 #[.val (.int p1), .val (.int p2), .unset, .unset, .unset, .unset, .unset, .unset] [(.ref b_19)])) _
    refine XS.dup X_29.here hx rfl (hb hby at_28) rfl rfl ?_
    show Steps p.tables e below (T_29.setTop (mkF m 29 #[.val (.int p1), .val (.int p2), .unset, .unset, .unset, .unset, .unset, .unset] [(.ref b_19), (.ref b_19)])) _
    refine XS.iconst X_29.here hx rfl (hb hby at_29) ?_
    show Steps p.tables e below (T_29.setTop (mkF m 30 #[.val (.int p1), .val (.int p2), .unset, .unset, .unset, .unset, .unset, .unset] [(.int (5 : Int32)), (.ref b_19), (.ref b_19)])) _
    refine XS.bipush X_29.here hx rfl (hb hby at_30) ?_
    show Steps p.tables e below (T_29.setTop (mkF m 32 #[.val (.int p1), .val (.int p2), .unset, .unset, .unset, .unset, .unset, .unset] [(.int (8 : Int32)), (.int (5 : Int32)), (.ref b_19), (.ref b_19)])) _
    refine st_31 _ ?_
    show Steps p.tables e below (T_31.setTop (mkF m 33 #[.val (.int p1), .val (.int p2), .unset, .unset, .unset, .unset, .unset, .unset] [(.ref b_19)])) _
    refine XS.dup X_31.here hx rfl (hb hby at_33) rfl rfl ?_
    show Steps p.tables e below (T_31.setTop (mkF m 34 #[.val (.int p1), .val (.int p2), .unset, .unset, .unset, .unset, .unset, .unset] [(.ref b_19), (.ref b_19)])) _
    refine XS.bipush X_31.here hx rfl (hb hby at_34) ?_
    show Steps p.tables e below (T_31.setTop (mkF m 36 #[.val (.int p1), .val (.int p2), .unset, .unset, .unset, .unset, .unset, .unset] [(.int (6 : Int32)), (.ref b_19), (.ref b_19)])) _
    refine XS.bipush X_31.here hx rfl (hb hby at_36) ?_
    show Steps p.tables e below (T_31.setTop (mkF m 38 #[.val (.int p1), .val (.int p2), .unset, .unset, .unset, .unset, .unset, .unset] [(.int (11 : Int32)), (.int (6 : Int32)), (.ref b_19), (.ref b_19)])) _
    refine st_33 _ ?_
    show Steps p.tables e below (T_33.setTop (mkF m 39 #[.val (.int p1), .val (.int p2), .unset, .unset, .unset, .unset, .unset, .unset] [(.ref b_19)])) _
    refine XS.dup X_33.here hx rfl (hb hby at_39) rfl rfl ?_
    show Steps p.tables e below (T_33.setTop (mkF m 40 #[.val (.int p1), .val (.int p2), .unset, .unset, .unset, .unset, .unset, .unset] [(.ref b_19), (.ref b_19)])) _
    refine XS.bipush X_33.here hx rfl (hb hby at_40) ?_
    show Steps p.tables e below (T_33.setTop (mkF m 42 #[.val (.int p1), .val (.int p2), .unset, .unset, .unset, .unset, .unset, .unset] [(.int (7 : Int32)), (.ref b_19), (.ref b_19)])) _
    refine XS.bipush X_33.here hx rfl (hb hby at_42) ?_
    show Steps p.tables e below (T_33.setTop (mkF m 44 #[.val (.int p1), .val (.int p2), .unset, .unset, .unset, .unset, .unset, .unset] [(.int (12 : Int32)), (.int (7 : Int32)), (.ref b_19), (.ref b_19)])) _
    refine st_35 _ ?_
    show Steps p.tables e below (T_35.setTop (mkF m 45 #[.val (.int p1), .val (.int p2), .unset, .unset, .unset, .unset, .unset, .unset] [(.ref b_19)])) _
    refine XS.dup X_35.here hx rfl (hb hby at_45) rfl rfl ?_
    show Steps p.tables e below (T_35.setTop (mkF m 46 #[.val (.int p1), .val (.int p2), .unset, .unset, .unset, .unset, .unset, .unset] [(.ref b_19), (.ref b_19)])) _
    refine XS.bipush X_35.here hx rfl (hb hby at_46) ?_
    show Steps p.tables e below (T_35.setTop (mkF m 48 #[.val (.int p1), .val (.int p2), .unset, .unset, .unset, .unset, .unset, .unset] [(.int (8 : Int32)), (.ref b_19), (.ref b_19)])) _
    refine XS.bipush X_35.here hx rfl (hb hby at_48) ?_
    show Steps p.tables e below (T_35.setTop (mkF m 50 #[.val (.int p1), .val (.int p2), .unset, .unset, .unset, .unset, .unset, .unset] [(.int (14 : Int32)), (.int (8 : Int32)), (.ref b_19), (.ref b_19)])) _
    refine st_37 _ ?_
    show Steps p.tables e below (T_37.setTop (mkF m 51 #[.val (.int p1), .val (.int p2), .unset, .unset, .unset, .unset, .unset, .unset] [(.ref b_19)])) _
    refine XS.dup X_37.here hx rfl (hb hby at_51) rfl rfl ?_
    show Steps p.tables e below (T_37.setTop (mkF m 52 #[.val (.int p1), .val (.int p2), .unset, .unset, .unset, .unset, .unset, .unset] [(.ref b_19), (.ref b_19)])) _
    refine XS.bipush X_37.here hx rfl (hb hby at_52) ?_
    show Steps p.tables e below (T_37.setTop (mkF m 54 #[.val (.int p1), .val (.int p2), .unset, .unset, .unset, .unset, .unset, .unset] [(.int (9 : Int32)), (.ref b_19), (.ref b_19)])) _
    refine XS.bipush X_37.here hx rfl (hb hby at_54) ?_
    show Steps p.tables e below (T_37.setTop (mkF m 56 #[.val (.int p1), .val (.int p2), .unset, .unset, .unset, .unset, .unset, .unset] [(.int (31 : Int32)), (.int (9 : Int32)), (.ref b_19), (.ref b_19)])) _
    refine st_39 _ ?_
    show Steps p.tables e below (T_39.setTop (mkF m 57 #[.val (.int p1), .val (.int p2), .unset, .unset, .unset, .unset, .unset, .unset] [(.ref b_19)])) _
    refine XS.dup X_39.here hx rfl (hb hby at_57) rfl rfl ?_
    show Steps p.tables e below (T_39.setTop (mkF m 58 #[.val (.int p1), .val (.int p2), .unset, .unset, .unset, .unset, .unset, .unset] [(.ref b_19), (.ref b_19)])) _
    refine XS.bipush X_39.here hx rfl (hb hby at_58) ?_
    show Steps p.tables e below (T_39.setTop (mkF m 60 #[.val (.int p1), .val (.int p2), .unset, .unset, .unset, .unset, .unset, .unset] [(.int (10 : Int32)), (.ref b_19), (.ref b_19)])) _
    refine XS.bipush X_39.here hx rfl (hb hby at_60) ?_
    show Steps p.tables e below (T_39.setTop (mkF m 62 #[.val (.int p1), .val (.int p2), .unset, .unset, .unset, .unset, .unset, .unset] [(.int (33 : Int32)), (.int (10 : Int32)), (.ref b_19), (.ref b_19)])) _
    refine st_41 _ ?_
    show Steps p.tables e below (T_41.setTop (mkF m 63 #[.val (.int p1), .val (.int p2), .unset, .unset, .unset, .unset, .unset, .unset] [(.ref b_19)])) _
    refine XS.dup X_41.here hx rfl (hb hby at_63) rfl rfl ?_
    show Steps p.tables e below (T_41.setTop (mkF m 64 #[.val (.int p1), .val (.int p2), .unset, .unset, .unset, .unset, .unset, .unset] [(.ref b_19), (.ref b_19)])) _
    refine XS.bipush X_41.here hx rfl (hb hby at_64) ?_
    show Steps p.tables e below (T_41.setTop (mkF m 66 #[.val (.int p1), .val (.int p2), .unset, .unset, .unset, .unset, .unset, .unset] [(.int (11 : Int32)), (.ref b_19), (.ref b_19)])) _
    refine XS.iconst X_41.here hx rfl (hb hby at_66) ?_
    show Steps p.tables e below (T_41.setTop (mkF m 67 #[.val (.int p1), .val (.int p2), .unset, .unset, .unset, .unset, .unset, .unset] [(.int (-1 : Int32)), (.int (11 : Int32)), (.ref b_19), (.ref b_19)])) _
    refine st_43 _ ?_
    show Steps p.tables e below (T_43.setTop (mkF m 68 #[.val (.int p1), .val (.int p2), .unset, .unset, .unset, .unset, .unset, .unset] [(.ref b_19)])) _
    refine XS.dup X_43.here hx rfl (hb hby at_68) rfl rfl ?_
    show Steps p.tables e below (T_43.setTop (mkF m 69 #[.val (.int p1), .val (.int p2), .unset, .unset, .unset, .unset, .unset, .unset] [(.ref b_19), (.ref b_19)])) _
    refine XS.bipush X_43.here hx rfl (hb hby at_69) ?_
    show Steps p.tables e below (T_43.setTop (mkF m 71 #[.val (.int p1), .val (.int p2), .unset, .unset, .unset, .unset, .unset, .unset] [(.int (12 : Int32)), (.ref b_19), (.ref b_19)])) _
    refine X_43.ldcInt hx hown (mvT hZ (hw _ (List.mem_of_getElem? (i := 1) rfl))) (g := (mkF m 71 #[.val (.int p1), .val (.int p2), .unset, .unset, .unset, .unset, .unset, .unset] [(.int (12 : Int32)), (.ref b_19), (.ref b_19)])) rfl (hb hby at_71) _ ?_
    show Steps p.tables e below (T_43.setTop (mkF m 73 #[.val (.int p1), .val (.int p2), .unset, .unset, .unset, .unset, .unset, .unset] [(.int (-2147483648 : Int32)), (.int (12 : Int32)), (.ref b_19), (.ref b_19)])) _
    refine st_45 _ ?_
    show Steps p.tables e below (T_45.setTop (mkF m 74 #[.val (.int p1), .val (.int p2), .unset, .unset, .unset, .unset, .unset, .unset] [(.ref b_19)])) _
    refine XS.dup X_45.here hx rfl (hb hby at_74) rfl rfl ?_
    show Steps p.tables e below (T_45.setTop (mkF m 75 #[.val (.int p1), .val (.int p2), .unset, .unset, .unset, .unset, .unset, .unset] [(.ref b_19), (.ref b_19)])) _
    refine XS.bipush X_45.here hx rfl (hb hby at_75) ?_
    show Steps p.tables e below (T_45.setTop (mkF m 77 #[.val (.int p1), .val (.int p2), .unset, .unset, .unset, .unset, .unset, .unset] [(.int (13 : Int32)), (.ref b_19), (.ref b_19)])) _
    refine X_45.ldcInt hx hown (mvT hZ (hw _ (List.mem_of_getElem? (i := 2) rfl))) (g := (mkF m 77 #[.val (.int p1), .val (.int p2), .unset, .unset, .unset, .unset, .unset, .unset] [(.int (13 : Int32)), (.ref b_19), (.ref b_19)])) rfl (hb hby at_77) _ ?_
    show Steps p.tables e below (T_45.setTop (mkF m 79 #[.val (.int p1), .val (.int p2), .unset, .unset, .unset, .unset, .unset, .unset] [(.int (2147483647 : Int32)), (.int (13 : Int32)), (.ref b_19), (.ref b_19)])) _
    refine st_47 _ ?_
    show Steps p.tables e below (T_47.setTop (mkF m 80 #[.val (.int p1), .val (.int p2), .unset, .unset, .unset, .unset, .unset, .unset] [(.ref b_19)])) _
    refine XS.dup X_47.here hx rfl (hb hby at_80) rfl rfl ?_
    show Steps p.tables e below (T_47.setTop (mkF m 81 #[.val (.int p1), .val (.int p2), .unset, .unset, .unset, .unset, .unset, .unset] [(.ref b_19), (.ref b_19)])) _
    refine XS.bipush X_47.here hx rfl (hb hby at_81) ?_
    show Steps p.tables e below (T_47.setTop (mkF m 83 #[.val (.int p1), .val (.int p2), .unset, .unset, .unset, .unset, .unset, .unset] [(.int (14 : Int32)), (.ref b_19), (.ref b_19)])) _
    refine XS.sipush X_47.here hx rfl (hb hby at_83) ?_
    show Steps p.tables e below (T_47.setTop (mkF m 86 #[.val (.int p1), .val (.int p2), .unset, .unset, .unset, .unset, .unset, .unset] [(.int (133 : Int32)), (.int (14 : Int32)), (.ref b_19), (.ref b_19)])) _
    refine st_49 _ ?_
    show Steps p.tables e below (T_49.setTop (mkF m 87 #[.val (.int p1), .val (.int p2), .unset, .unset, .unset, .unset, .unset, .unset] [(.ref b_19)])) _
    refine XS.dup X_49.here hx rfl (hb hby at_87) rfl rfl ?_
    show Steps p.tables e below (T_49.setTop (mkF m 88 #[.val (.int p1), .val (.int p2), .unset, .unset, .unset, .unset, .unset, .unset] [(.ref b_19), (.ref b_19)])) _
    refine XS.bipush X_49.here hx rfl (hb hby at_88) ?_
    show Steps p.tables e below (T_49.setTop (mkF m 90 #[.val (.int p1), .val (.int p2), .unset, .unset, .unset, .unset, .unset, .unset] [(.int (15 : Int32)), (.ref b_19), (.ref b_19)])) _
    refine XS.sipush X_49.here hx rfl (hb hby at_90) ?_
    show Steps p.tables e below (T_49.setTop (mkF m 93 #[.val (.int p1), .val (.int p2), .unset, .unset, .unset, .unset, .unset, .unset] [(.int (160 : Int32)), (.int (15 : Int32)), (.ref b_19), (.ref b_19)])) _
    refine st_51 _ ?_
    show Steps p.tables e below (T_51.setTop (mkF m 94 #[.val (.int p1), .val (.int p2), .unset, .unset, .unset, .unset, .unset, .unset] [(.ref b_19)])) _
    refine XS.astoreN X_51.here hx rfl (hb hby at_94) rfl rfl (l' := #[.val (.int p1), .val (.int p2), .val (.ref b_19), .unset, .unset, .unset, .unset, .unset]) rfl ?_
    show Steps p.tables e below (T_51.setTop (mkF m 95 #[.val (.int p1), .val (.int p2), .val (.ref b_19), .unset, .unset, .unset, .unset, .unset] [])) _
    refine XS.aloadN X_51.here hx rfl (hb hby at_95) rfl rfl ?_
    show Steps p.tables e below (T_51.setTop (mkF m 96 #[.val (.int p1), .val (.int p2), .val (.ref b_19), .unset, .unset, .unset, .unset, .unset] [(.ref b_19)])) _
    refine XS.iloadN X_51.here hx rfl (hb hby at_96) rfl ?_
    show Steps p.tables e below (T_51.setTop (mkF m 97 #[.val (.int p1), .val (.int p2), .val (.ref b_19), .unset, .unset, .unset, .unset, .unset] [(.int p2), (.ref b_19)])) _
    refine XS.bipush X_51.here hx rfl (hb hby at_97) ?_
    show Steps p.tables e below (T_51.setTop (mkF m 99 #[.val (.int p1), .val (.int p2), .val (.ref b_19), .unset, .unset, .unset, .unset, .unset] [(.int (15 : Int32)), (.int p2), (.ref b_19)])) _
    refine XS.iand X_51.here hx rfl (hb hby at_99) rfl ?_
    show Steps p.tables e below (T_51.setTop (mkF m 100 #[.val (.int p1), .val (.int p2), .val (.ref b_19), .unset, .unset, .unset, .unset, .unset] [(.int (p2 &&& (15 : Int32))), (.ref b_19)])) _
    refine X_51.iaload hx (j := (p2 &&& (15 : Int32))) (v := (.int (own_tab.getD (p2 &&& (15 : Int32)).toNatClampNeg 0))) (by rw [e_51]; exact Ar_53.1) (State.isArrayOf_alike hZ.alike Ar_53.2.1) Ar_53.2.2 hin_53 hat_53 (g := (mkF m 100 #[.val (.int p1), .val (.int p2), .val (.ref b_19), .unset, .unset, .unset, .unset, .unset] [(.int (p2 &&& (15 : Int32))), (.ref b_19)])) rfl rfl (hb hby at_100) _ ?_
    show Steps p.tables e below (T_51.setTop (mkF m 101 #[.val (.int p1), .val (.int p2), .val (.ref b_19), .unset, .unset, .unset, .unset, .unset] [(.int (own_tab.getD (p2 &&& (15 : Int32)).toNatClampNeg 0))])) _
    refine XS.istoreN X_51.here hx rfl (hb hby at_101) rfl (l' := #[.val (.int p1), .val (.int p2), .val (.ref b_19), .val (.int (own_tab.getD (p2 &&& (15 : Int32)).toNatClampNeg 0)), .unset, .unset, .unset, .unset]) rfl ?_
    show Steps p.tables e below (T_51.setTop (mkF m 102 #[.val (.int p1), .val (.int p2), .val (.ref b_19), .val (.int (own_tab.getD (p2 &&& (15 : Int32)).toNatClampNeg 0)), .unset, .unset, .unset, .unset] [])) _
    refine XS.iloadN X_51.here hx rfl (hb hby at_102) rfl ?_
    show Steps p.tables e below (T_51.setTop (mkF m 103 #[.val (.int p1), .val (.int p2), .val (.ref b_19), .val (.int (own_tab.getD (p2 &&& (15 : Int32)).toNatClampNeg 0)), .unset, .unset, .unset, .unset] [(.int p1)])) _
    refine XS.bipush X_51.here hx rfl (hb hby at_103) ?_
    show Steps p.tables e below (T_51.setTop (mkF m 105 #[.val (.int p1), .val (.int p2), .val (.ref b_19), .val (.int (own_tab.getD (p2 &&& (15 : Int32)).toNatClampNeg 0)), .unset, .unset, .unset, .unset] [(.int (63 : Int32)), (.int p1)])) _
    refine XS.iand X_51.here hx rfl (hb hby at_105) rfl ?_
    show Steps p.tables e below (T_51.setTop (mkF m 106 #[.val (.int p1), .val (.int p2), .val (.ref b_19), .val (.int (own_tab.getD (p2 &&& (15 : Int32)).toNatClampNeg 0)), .unset, .unset, .unset, .unset] [(.int (p1 &&& (63 : Int32)))])) _
    refine XS.istore X_51.here hx rfl (hb hby at_106) rfl (l' := #[.val (.int p1), .val (.int p2), .val (.ref b_19), .val (.int (own_tab.getD (p2 &&& (15 : Int32)).toNatClampNeg 0)), .val (.int (p1 &&& (63 : Int32))), .unset, .unset, .unset]) rfl ?_
    show Steps p.tables e below (T_51.setTop (mkF m 108 #[.val (.int p1), .val (.int p2), .val (.ref b_19), .val (.int (own_tab.getD (p2 &&& (15 : Int32)).toNatClampNeg 0)), .val (.int (p1 &&& (63 : Int32))), .unset, .unset, .unset] [])) _
    refine XS.iloadN X_51.here hx rfl (hb hby at_108) rfl ?_
    show Steps p.tables e below (T_51.setTop (mkF m 109 #[.val (.int p1), .val (.int p2), .val (.ref b_19), .val (.int (own_tab.getD (p2 &&& (15 : Int32)).toNatClampNeg 0)), .val (.int (p1 &&& (63 : Int32))), .unset, .unset, .unset] [(.int p1)])) _
    refine st_54 _ ?_
    show Steps p.tables e below (T_54.setTop (mkF m 112 #[.val (.int p1), .val (.int p2), .val (.ref b_19), .val (.int (own_tab.getD (p2 &&& (15 : Int32)).toNatClampNeg 0)), .val (.int (p1 &&& (63 : Int32))), .unset, .unset, .unset] [(.int (own_is p1))])) _
    refine XS.iloadN X_54.here hx rfl (hb hby at_112) rfl ?_
    show Steps p.tables e below (T_54.setTop (mkF m 113 #[.val (.int p1), .val (.int p2), .val (.ref b_19), .val (.int (own_tab.getD (p2 &&& (15 : Int32)).toNatClampNeg 0)), .val (.int (p1 &&& (63 : Int32))), .unset, .unset, .unset] [(.int p1), (.int (own_is p1))])) _
    refine st_55 _ ?_
    show Steps p.tables e below (T_55.setTop (mkF m 116 #[.val (.int p1), .val (.int p2), .val (.ref b_19), .val (.int (own_tab.getD (p2 &&& (15 : Int32)).toNatClampNeg 0)), .val (.int (p1 &&& (63 : Int32))), .unset, .unset, .unset] [(.int (own_ref p1)), (.int (own_is p1))])) _
    refine XS.icmpNo X_55.here hx rfl (hb hby at_116) rfl (teq (own_same _ : (own_is p1) = (own_ref p1))).2 ?_
    show Steps p.tables e below (T_55.setTop (mkF m 119 #[.val (.int p1), .val (.int p2), .val (.ref b_19), .val (.int (own_tab.getD (p2 &&& (15 : Int32)).toNatClampNeg 0)), .val (.int (p1 &&& (63 : Int32))), .unset, .unset, .unset] [])) _
    refine XS.iconst X_55.here hx rfl (hb hby at_119) ?_
    show Steps p.tables e below (T_55.setTop (mkF m 120 #[.val (.int p1), .val (.int p2), .val (.ref b_19), .val (.int (own_tab.getD (p2 &&& (15 : Int32)).toNatClampNeg 0)), .val (.int (p1 &&& (63 : Int32))), .unset, .unset, .unset] [(.int (1 : Int32))])) _
    refine XS.goto X_55.here hx rfl (pc0 := 120) (pc' := 124) rfl (hb hby at_120) (by decide) (by decide) ?_
    show Steps p.tables e below (T_55.setTop (mkF m 124 #[.val (.int p1), .val (.int p2), .val (.ref b_19), .val (.int (own_tab.getD (p2 &&& (15 : Int32)).toNatClampNeg 0)), .val (.int (p1 &&& (63 : Int32))), .unset, .unset, .unset] [(.int (1 : Int32))])) _
    refine XS.istore X_55.here hx rfl (hb hby at_124) rfl (l' := #[.val (.int p1), .val (.int p2), .val (.ref b_19), .val (.int (own_tab.getD (p2 &&& (15 : Int32)).toNatClampNeg 0)), .val (.int (p1 &&& (63 : Int32))), .val (.int (1 : Int32)), .unset, .unset]) rfl ?_
    show Steps p.tables e below (T_55.setTop (mkF m 126 #[.val (.int p1), .val (.int p2), .val (.ref b_19), .val (.int (own_tab.getD (p2 &&& (15 : Int32)).toNatClampNeg 0)), .val (.int (p1 &&& (63 : Int32))), .val (.int (1 : Int32)), .unset, .unset] [])) _
    refine XS.iloadN X_55.here hx rfl (hb hby at_126) rfl ?_
    show Steps p.tables e below (T_55.setTop (mkF m 127 #[.val (.int p1), .val (.int p2), .val (.ref b_19), .val (.int (own_tab.getD (p2 &&& (15 : Int32)).toNatClampNeg 0)), .val (.int (p1 &&& (63 : Int32))), .val (.int (1 : Int32)), .unset, .unset] [(.int (own_tab.getD (p2 &&& (15 : Int32)).toNatClampNeg 0))])) _
    refine st_56 _ ?_
    show Steps p.tables e below (T_56.setTop (mkF m 130 #[.val (.int p1), .val (.int p2), .val (.ref b_19), .val (.int (own_tab.getD (p2 &&& (15 : Int32)).toNatClampNeg 0)), .val (.int (p1 &&& (63 : Int32))), .val (.int (1 : Int32)), .unset, .unset] [(.int (own_is (own_tab.getD (p2 &&& (15 : Int32)).toNatClampNeg 0)))])) _
    refine XS.iloadN X_56.here hx rfl (hb hby at_130) rfl ?_
    show Steps p.tables e below (T_56.setTop (mkF m 131 #[.val (.int p1), .val (.int p2), .val (.ref b_19), .val (.int (own_tab.getD (p2 &&& (15 : Int32)).toNatClampNeg 0)), .val (.int (p1 &&& (63 : Int32))), .val (.int (1 : Int32)), .unset, .unset] [(.int (own_tab.getD (p2 &&& (15 : Int32)).toNatClampNeg 0)), (.int (own_is (own_tab.getD (p2 &&& (15 : Int32)).toNatClampNeg 0)))])) _
    refine st_57 _ ?_
    show Steps p.tables e below (T_57.setTop (mkF m 134 #[.val (.int p1), .val (.int p2), .val (.ref b_19), .val (.int (own_tab.getD (p2 &&& (15 : Int32)).toNatClampNeg 0)), .val (.int (p1 &&& (63 : Int32))), .val (.int (1 : Int32)), .unset, .unset] [(.int (own_ref (own_tab.getD (p2 &&& (15 : Int32)).toNatClampNeg 0))), (.int (own_is (own_tab.getD (p2 &&& (15 : Int32)).toNatClampNeg 0)))])) _
    refine XS.icmpNo X_57.here hx rfl (hb hby at_134) rfl (teq (own_same _ : (own_is (own_tab.getD (p2 &&& (15 : Int32)).toNatClampNeg 0)) = (own_ref (own_tab.getD (p2 &&& (15 : Int32)).toNatClampNeg 0)))).2 ?_
    show Steps p.tables e below (T_57.setTop (mkF m 137 #[.val (.int p1), .val (.int p2), .val (.ref b_19), .val (.int (own_tab.getD (p2 &&& (15 : Int32)).toNatClampNeg 0)), .val (.int (p1 &&& (63 : Int32))), .val (.int (1 : Int32)), .unset, .unset] [])) _
    refine XS.iconst X_57.here hx rfl (hb hby at_137) ?_
    show Steps p.tables e below (T_57.setTop (mkF m 138 #[.val (.int p1), .val (.int p2), .val (.ref b_19), .val (.int (own_tab.getD (p2 &&& (15 : Int32)).toNatClampNeg 0)), .val (.int (p1 &&& (63 : Int32))), .val (.int (1 : Int32)), .unset, .unset] [(.int (1 : Int32))])) _
    refine XS.goto X_57.here hx rfl (pc0 := 138) (pc' := 142) rfl (hb hby at_138) (by decide) (by decide) ?_
    show Steps p.tables e below (T_57.setTop (mkF m 142 #[.val (.int p1), .val (.int p2), .val (.ref b_19), .val (.int (own_tab.getD (p2 &&& (15 : Int32)).toNatClampNeg 0)), .val (.int (p1 &&& (63 : Int32))), .val (.int (1 : Int32)), .unset, .unset] [(.int (1 : Int32))])) _
    refine XS.istore X_57.here hx rfl (hb hby at_142) rfl (l' := #[.val (.int p1), .val (.int p2), .val (.ref b_19), .val (.int (own_tab.getD (p2 &&& (15 : Int32)).toNatClampNeg 0)), .val (.int (p1 &&& (63 : Int32))), .val (.int (1 : Int32)), .val (.int (1 : Int32)), .unset]) rfl ?_
    show Steps p.tables e below (T_57.setTop (mkF m 144 #[.val (.int p1), .val (.int p2), .val (.ref b_19), .val (.int (own_tab.getD (p2 &&& (15 : Int32)).toNatClampNeg 0)), .val (.int (p1 &&& (63 : Int32))), .val (.int (1 : Int32)), .val (.int (1 : Int32)), .unset] [])) _
    refine XS.iload X_57.here hx rfl (hb hby at_144) rfl ?_
    show Steps p.tables e below (T_57.setTop (mkF m 146 #[.val (.int p1), .val (.int p2), .val (.ref b_19), .val (.int (own_tab.getD (p2 &&& (15 : Int32)).toNatClampNeg 0)), .val (.int (p1 &&& (63 : Int32))), .val (.int (1 : Int32)), .val (.int (1 : Int32)), .unset] [(.int (p1 &&& (63 : Int32)))])) _
    refine st_58 _ ?_
    show Steps p.tables e below (T_58.setTop (mkF m 149 #[.val (.int p1), .val (.int p2), .val (.ref b_19), .val (.int (own_tab.getD (p2 &&& (15 : Int32)).toNatClampNeg 0)), .val (.int (p1 &&& (63 : Int32))), .val (.int (1 : Int32)), .val (.int (1 : Int32)), .unset] [(.int (own_is (p1 &&& (63 : Int32))))])) _
    refine XS.iload X_58.here hx rfl (hb hby at_149) rfl ?_
    show Steps p.tables e below (T_58.setTop (mkF m 151 #[.val (.int p1), .val (.int p2), .val (.ref b_19), .val (.int (own_tab.getD (p2 &&& (15 : Int32)).toNatClampNeg 0)), .val (.int (p1 &&& (63 : Int32))), .val (.int (1 : Int32)), .val (.int (1 : Int32)), .unset] [(.int (p1 &&& (63 : Int32))), (.int (own_is (p1 &&& (63 : Int32))))])) _
    refine st_59 _ ?_
    show Steps p.tables e below (T_59.setTop (mkF m 154 #[.val (.int p1), .val (.int p2), .val (.ref b_19), .val (.int (own_tab.getD (p2 &&& (15 : Int32)).toNatClampNeg 0)), .val (.int (p1 &&& (63 : Int32))), .val (.int (1 : Int32)), .val (.int (1 : Int32)), .unset] [(.int (own_ref (p1 &&& (63 : Int32)))), (.int (own_is (p1 &&& (63 : Int32))))])) _
    refine XS.icmpNo X_59.here hx rfl (hb hby at_154) rfl (teq (own_same _ : (own_is (p1 &&& (63 : Int32))) = (own_ref (p1 &&& (63 : Int32))))).2 ?_
    show Steps p.tables e below (T_59.setTop (mkF m 157 #[.val (.int p1), .val (.int p2), .val (.ref b_19), .val (.int (own_tab.getD (p2 &&& (15 : Int32)).toNatClampNeg 0)), .val (.int (p1 &&& (63 : Int32))), .val (.int (1 : Int32)), .val (.int (1 : Int32)), .unset] [])) _
    refine XS.iconst X_59.here hx rfl (hb hby at_157) ?_
    show Steps p.tables e below (T_59.setTop (mkF m 158 #[.val (.int p1), .val (.int p2), .val (.ref b_19), .val (.int (own_tab.getD (p2 &&& (15 : Int32)).toNatClampNeg 0)), .val (.int (p1 &&& (63 : Int32))), .val (.int (1 : Int32)), .val (.int (1 : Int32)), .unset] [(.int (1 : Int32))])) _
    refine XS.goto X_59.here hx rfl (pc0 := 158) (pc' := 162) rfl (hb hby at_158) (by decide) (by decide) ?_
    show Steps p.tables e below (T_59.setTop (mkF m 162 #[.val (.int p1), .val (.int p2), .val (.ref b_19), .val (.int (own_tab.getD (p2 &&& (15 : Int32)).toNatClampNeg 0)), .val (.int (p1 &&& (63 : Int32))), .val (.int (1 : Int32)), .val (.int (1 : Int32)), .unset] [(.int (1 : Int32))])) _
    refine XS.istore X_59.here hx rfl (hb hby at_162) rfl (l' := #[.val (.int p1), .val (.int p2), .val (.ref b_19), .val (.int (own_tab.getD (p2 &&& (15 : Int32)).toNatClampNeg 0)), .val (.int (p1 &&& (63 : Int32))), .val (.int (1 : Int32)), .val (.int (1 : Int32)), .val (.int (1 : Int32))]) rfl ?_
    show Steps p.tables e below (T_59.setTop (mkF m 164 #[.val (.int p1), .val (.int p2), .val (.ref b_19), .val (.int (own_tab.getD (p2 &&& (15 : Int32)).toNatClampNeg 0)), .val (.int (p1 &&& (63 : Int32))), .val (.int (1 : Int32)), .val (.int (1 : Int32)), .val (.int (1 : Int32))] [])) _
    refine XS.iload X_59.here hx rfl (hb hby at_164) rfl ?_
    show Steps p.tables e below (T_59.setTop (mkF m 166 #[.val (.int p1), .val (.int p2), .val (.ref b_19), .val (.int (own_tab.getD (p2 &&& (15 : Int32)).toNatClampNeg 0)), .val (.int (p1 &&& (63 : Int32))), .val (.int (1 : Int32)), .val (.int (1 : Int32)), .val (.int (1 : Int32))] [(.int (1 : Int32))])) _
    refine XS.ifNo X_59.here hx rfl (hb hby at_166) rfl ((if0 _ _).trans (feq (by decide : ¬ ((1 : Int32) = (0 : Int32)))).1) ?_
    show Steps p.tables e below (T_59.setTop (mkF m 169 #[.val (.int p1), .val (.int p2), .val (.ref b_19), .val (.int (own_tab.getD (p2 &&& (15 : Int32)).toNatClampNeg 0)), .val (.int (p1 &&& (63 : Int32))), .val (.int (1 : Int32)), .val (.int (1 : Int32)), .val (.int (1 : Int32))] [])) _
    refine XS.iload X_59.here hx rfl (hb hby at_169) rfl ?_
    show Steps p.tables e below (T_59.setTop (mkF m 171 #[.val (.int p1), .val (.int p2), .val (.ref b_19), .val (.int (own_tab.getD (p2 &&& (15 : Int32)).toNatClampNeg 0)), .val (.int (p1 &&& (63 : Int32))), .val (.int (1 : Int32)), .val (.int (1 : Int32)), .val (.int (1 : Int32))] [(.int (1 : Int32))])) _
    refine XS.ifNo X_59.here hx rfl (hb hby at_171) rfl ((if0 _ _).trans (feq (by decide : ¬ ((1 : Int32) = (0 : Int32)))).1) ?_
    show Steps p.tables e below (T_59.setTop (mkF m 174 #[.val (.int p1), .val (.int p2), .val (.ref b_19), .val (.int (own_tab.getD (p2 &&& (15 : Int32)).toNatClampNeg 0)), .val (.int (p1 &&& (63 : Int32))), .val (.int (1 : Int32)), .val (.int (1 : Int32)), .val (.int (1 : Int32))] [])) _
    refine XS.iload X_59.here hx rfl (hb hby at_174) rfl ?_
    show Steps p.tables e below (T_59.setTop (mkF m 176 #[.val (.int p1), .val (.int p2), .val (.ref b_19), .val (.int (own_tab.getD (p2 &&& (15 : Int32)).toNatClampNeg 0)), .val (.int (p1 &&& (63 : Int32))), .val (.int (1 : Int32)), .val (.int (1 : Int32)), .val (.int (1 : Int32))] [(.int (1 : Int32))])) _
    refine XS.ifNo X_59.here hx rfl (hb hby at_176) rfl ((if0 _ _).trans (feq (by decide : ¬ ((1 : Int32) = (0 : Int32)))).1) ?_
    show Steps p.tables e below (T_59.setTop (mkF m 179 #[.val (.int p1), .val (.int p2), .val (.ref b_19), .val (.int (own_tab.getD (p2 &&& (15 : Int32)).toNatClampNeg 0)), .val (.int (p1 &&& (63 : Int32))), .val (.int (1 : Int32)), .val (.int (1 : Int32)), .val (.int (1 : Int32))] [])) _
    refine XS.iconst X_59.here hx rfl (hb hby at_179) ?_
    show Steps p.tables e below (T_59.setTop (mkF m 180 #[.val (.int p1), .val (.int p2), .val (.ref b_19), .val (.int (own_tab.getD (p2 &&& (15 : Int32)).toNatClampNeg 0)), .val (.int (p1 &&& (63 : Int32))), .val (.int (1 : Int32)), .val (.int (1 : Int32)), .val (.int (1 : Int32))] [(.int (1 : Int32))])) _
    refine XS.goto X_59.here hx rfl (pc0 := 180) (pc' := 184) rfl (hb hby at_180) (by decide) (by decide) ?_
    show Steps p.tables e below (T_59.setTop (mkF m 184 #[.val (.int p1), .val (.int p2), .val (.ref b_19), .val (.int (own_tab.getD (p2 &&& (15 : Int32)).toNatClampNeg 0)), .val (.int (p1 &&& (63 : Int32))), .val (.int (1 : Int32)), .val (.int (1 : Int32)), .val (.int (1 : Int32))] [(.int (1 : Int32))])) _
    exact retN X_59 hx (t := .boolean) Bd.returns (by simp) (hb hby at_184) hr
  · show Q0 Z p1 p2 h0 n0 _ T_59.heap _
    rw [e_59]
    exact ⟨rfl, N_59⟩
set_option maxRecDepth 65536 in
set_option maxHeartbeats 40000000 in
theorem comes_1 {Post : Tables → Env → Array Value → State → Outcome → State → Prop} (hpost : ∀ tb e args s v u, (limb_1_1.after args s (.returned v) u = true ∧ limb_1_2.after args s (.returned v) u = true ∧ True) → FrameEnd s (.returned v) u (Jvm.fieldLocs frame_1_writes args s ++ Jvm.arrayLocs frame_1_arrays args s ++ Jvm.staticLocs frame_1_statics s) 16 128 → Post tb e args s (.returned v) u) :
    ArmFor flags0 classFile x code maxLocals ret World_1 tables_1 room_1 Calls_1 rest_1 Pre_1 Post := by
  intro l hfl _ _ p e ha hc hk s m args below hf hA hF happ hP
  obtain ⟨hcalls, hrest, hpre⟩ := hP
  obtain ⟨-, -, -, hnamed, -, -, -, hat⟩ := (Spec.applies_iff hf).mp happ
  obtain ⟨hg, hn⟩ := and_e (Cond.before_iff.mp (show (Jvm.Cond.and given_1 narrow_1).before args s = true from hpre))
  obtain ⟨g_60, g_61⟩ := and_e hg
  obtain ⟨g_62, g_63⟩ := and_e g_61
  obtain ⟨w0, w1, rfl⟩ : ∃ w0 w1 : Value, args = #[w0, w1] := by
    have hs : args.size = 2 := by simpa [Cond.value, given_1] using g_60
    obtain ⟨L⟩ := args
    match L, hs with
    | [w0, w1], _ => exact ⟨w0, w1, rfl⟩
  have hw := fun d (hd : d ∈ tables_1) => atoms_spec (ws := Jvm.Cond.code x code maxLocals ret :: tables_1) hat d (List.mem_cons_of_mem _ hd)
  obtain ⟨i0, ei0⟩ := is_v g_62
  obtain rfl : w0 = (.int i0) := Option.some.inj ei0
  obtain ⟨i1, ei1⟩ := is_v g_63
  obtain rfl : w1 = (.int i1) := Option.some.inj ei1
  obtain ⟨n, o, h1, h2, h3, _, L, rfl, ⟨rfl, N⟩, hq⟩ := rm0 l s _ hw tables_1 i0 i1 s.heap s.heap.size (Nat.le_refl _) p e ha hc hk s m _ below hf ((Spec.applies_iff_loose hf).mp happ).1 ⟨rfl, State.Warmed39.refl s, rfl⟩ trivial
  refine ⟨n, _, h1, h2, h3, hpost _ _ _ _ _ _ ⟨Cond.after_iff.mpr rfl, Cond.after_iff.mpr (eq_i res_at (Term.int_eval (1)) rfl), trivial⟩ ⟨hq.1, hq.2.1, (hq.2.2.sift fun y hy => Or.inr (N y hy)).mono (by decide) (by decide)⟩⟩
theorem main_1_1 : Claimed_1_1 := comes_1 fun _ _ _ _ _ _ h hF => ⟨h.1, hF⟩
theorem main_1_2 : Claimed_1_2 := comes_1 fun _ _ _ _ _ _ h hF => ⟨h.2.1, hF⟩
end Jvm.Pilot.@@N@@
namespace Jvm.Pilot.@@N@@
open Jvm Jvm.ClassFile Sem Op Lib Jvm.Free Jvm.Stand Jvm.Pilot.@@N@@.Jvm.D
/-! MADE BY PROGRAM (witnessworld.py) out of the Statement's table words and the real class files: 9 classes; the members and pool entries that the words name. The judged class is class 1, her method 2. -/
namespace start1
open Jvm.ClassFile
def u (s : String) : CpInfo := .utf8 (stringToUtf16 s)
/-- a pool by its gaps: so many unusable entries, then the entry; so many at the end -/
def gap : Nat → List CpInfo → List CpInfo
  | 0, r => r
  | n + 1, r => .unusable :: gap n r
def poolList (es : List (Nat × CpInfo)) (last : Nat) : List CpInfo := es.foldr (fun e r => gap e.1 (e.2 :: r)) (gap last [])
def pool (es : List (Nat × CpInfo)) (last : Nat) : Array CpInfo := ⟨poolList es last⟩
def fileOf (pool : Array CpInfo) (this : Nat) (attrs : Array Attribute := #[]) (ms : Array MethodInfo := #[]) (fl : Nat := 33) (sup : Nat := 0) (ifs : Array Nat := #[]) (fds : Array FieldInfo := #[]) : ClassFile where
  minorVersion := 0
  majorVersion := 65
  constantPool := pool
  accessFlags := fl
  thisClass := this
  superClass := sup
  interfaces := ifs
  fields := fds
  methods := ms
  attributes := attrs
def plain (name : String) (sup : Option ClassId) : Class where
  name := name
  kind := .ordinary
  loader := none
  accessFlags := 33
  super := sup
  interfaces := #[]
  cf := none
  fields := #[]
  methods := #[]
  instanceTypes := #[]
  staticTypes := #[]
  resolved := #[]
  callSites := []
  init := .initialized
  statics := none
  mirror := none

def pool0 : Array CpInfo := pool [(5, u "<init>"), (0, u "()V"), (1, .class_ 10), (1, u "java/lang/Object")] 113

def k0m0 : Method := { name := "<init>", desc := "()V", sig := { parameters := [], returnType := none }, accessFlags := 1, code := none }
/-- java/lang/Object -/
def k0 : Class := { plain "java/lang/Object" none with
  accessFlags := 33
  interfaces := #[]
  cf := some (fileOf pool0 8 #[] #[{ accessFlags := 1, nameIndex := 5, descriptorIndex := 6, attributes := #[] }] 33 0 #[] #[])
  fields := #[]
  methods := #[k0m0]
  instanceTypes := #[]
  staticTypes := #[]
  resolved := Array.replicate 124 none
  statics := none }

def pool1 : Array CpInfo := pool [(2, .class_ 4), (1, u "java/lang/Object"), (0, u "<init>"), (0, u "()V"), (2, .integer 2147483648), (0, .integer 2147483647), (0, .methodref 12 13), (0, .class_ 14), (0, .nameAndType 15 16), (0, u "com/example/urlset/urlset/entry/WhiteSpace"), (0, u "is"), (0, u "(I)Z"), (0, .methodref 18 19), (0, .class_ 20), (0, .nameAndType 21 16), (0, u "com/example/urlset/urlset/entry/WhiteSpaceIsPinLaw"), (0, u "ref"), (3, u "law"), (0, u "(II)Z")] 4

def k1m0 : Method := { name := "<init>", desc := "()V", sig := { parameters := [], returnType := none }, accessFlags := 2, code := none }
def k1c1 : Code := { maxStack := 2, maxLocals := 1, code := method_2_code, exceptionTable := #[], attributes := #[] }
def k1m1 : Method := { name := "ref", desc := "(I)Z", sig := { parameters := [.int], returnType := some .boolean }, accessFlags := 10, code := some k1c1 }
def k1c2 : Code := { maxStack := 4, maxLocals := 8, code := code, exceptionTable := #[], attributes := #[] }
def k1m2 : Method := { name := "law", desc := "(II)Z", sig := { parameters := [.int, .int], returnType := some .boolean }, accessFlags := 9, code := some k1c2 }
/-- com/example/urlset/urlset/entry/WhiteSpaceIsPinLaw -/
def k1 : Class := { plain "com/example/urlset/urlset/entry/WhiteSpaceIsPinLaw" (some 0) with
  accessFlags := 49
  interfaces := #[]
  cf := some (fileOf pool1 18 #[] #[{ accessFlags := 2, nameIndex := 5, descriptorIndex := 6, attributes := #[] }, { accessFlags := 10, nameIndex := 21, descriptorIndex := 16, attributes := #[] }, { accessFlags := 9, nameIndex := 25, descriptorIndex := 26, attributes := #[] }] 49 2 #[] #[])
  fields := #[]
  methods := #[k1m0, k1m1, k1m2]
  instanceTypes := #[]
  staticTypes := #[]
  resolved := Array.replicate 31 none
  statics := none }

def pool2 : Array CpInfo := pool [(2, .class_ 4), (1, u "java/lang/Object"), (0, u "<init>"), (0, u "()V"), (11, .class_ 20), (1, u "com/example/urlset/urlset/entry/WhiteSpace"), (0, u "is"), (0, u "(I)Z")] 11

def k2m0 : Method := { name := "<init>", desc := "()V", sig := { parameters := [], returnType := none }, accessFlags := 2, code := none }
def k2c1 : Code := { maxStack := 2, maxLocals := 1, code := prog_39_method_2_code, exceptionTable := #[], attributes := #[] }
def k2m1 : Method := { name := "is", desc := "(I)Z", sig := { parameters := [.int], returnType := some .boolean }, accessFlags := 9, code := some k2c1 }
/-- com/example/urlset/urlset/entry/WhiteSpace -/
def k2 : Class := { plain "com/example/urlset/urlset/entry/WhiteSpace" (some 0) with
  accessFlags := 49
  interfaces := #[]
  cf := some (fileOf pool2 18 #[] #[{ accessFlags := 2, nameIndex := 5, descriptorIndex := 6, attributes := #[] }, { accessFlags := 9, nameIndex := 21, descriptorIndex := 22, attributes := #[] }] 49 2 #[] #[])
  fields := #[]
  methods := #[k2m0, k2m1]
  instanceTypes := #[]
  staticTypes := #[]
  resolved := Array.replicate 34 none
  statics := none }

def pool3 : Array CpInfo := pool [(1, u "java/lang/Cloneable"), (0, .class_ 1), (0, u "java/lang/Object"), (0, .class_ 3)] 3

/-- java/lang/Cloneable -/
def k3 : Class := { plain "java/lang/Cloneable" (some 0) with
  accessFlags := 1537
  interfaces := #[]
  cf := some (fileOf pool3 2 #[] #[] 1537 4 #[] #[])
  fields := #[]
  methods := #[]
  instanceTypes := #[]
  staticTypes := #[]
  resolved := Array.replicate 8 none
  statics := none }

def pool4 : Array CpInfo := pool [(1, u "java/io/Serializable"), (0, .class_ 1), (0, u "java/lang/Object"), (0, .class_ 3)] 3

/-- java/io/Serializable -/
def k4 : Class := { plain "java/io/Serializable" (some 0) with
  accessFlags := 1537
  interfaces := #[]
  cf := some (fileOf pool4 2 #[] #[] 1537 4 #[] #[])
  fields := #[]
  methods := #[]
  instanceTypes := #[]
  staticTypes := #[]
  resolved := Array.replicate 8 none
  statics := none }

/-- the primitive byte -/
def k5 : Class := { plain "byte" none with kind := .primitive 'B', accessFlags := 0x411 }
/-- [B -/
def k6 : Class := { plain "[B" (some 0) with kind := .array 5 .byte, interfaces := #[3, 4], accessFlags := 1041 }

/-- the primitive int -/
def k7 : Class := { plain "int" none with kind := .primitive 'I', accessFlags := 0x411 }
/-- [I -/
def k8 : Class := { plain "[I" (some 0) with kind := .array 7 .int, interfaces := #[3, 4], accessFlags := 1041 }

def heap : Heap := #[]
def classes : Array Class := #[k0, k1, k2, k3, k4, k5, k6, k7, k8]
def interned : List (Array UInt16 × Addr) := []
def slotsUsed : Nat := 0
def theMethod : MethodId := ⟨1, 2⟩
def args0 : Array Value := #[.int 5, .int 3]
def aboutOver (below : List Frame) : State where
  vm := { classes := classes, interned := interned.toArray }
  heap := heap
  slotsUsed := slotsUsed
  threads := #[{ frames := .invoking theMethod args0 :: below }]
def below0 : List Frame := [.native { method := ⟨0, 0⟩, args := #[] }]
def about1 : State := aboutOver below0
def p0 : Program := .bare "" "" ""
def e0 : Env := launch0.env 0 0 0
theorem w_frames : about1.frames = Frame.invoking theMethod args0 :: below0 := rfl
set_option maxRecDepth 65536 in
theorem w_args : argsFit about1.vm theMethod args0 = true := by decide +kernel
set_option maxRecDepth 65536 in
theorem w_heap : heapFits about1 = true := by decide +kernel
set_option maxRecDepth 65536 in
theorem w_runnable : about1.curStatus? = some .runnable := by decide +kernel
set_option maxRecDepth 65536 in
theorem w_alone : about1.alone = true := by decide +kernel
set_option maxRecDepth 65536 in
theorem w_named : about1.methodNamed? x = some theMethod := by decide +kernel
set_option maxRecDepth 65536 in
theorem w_hears : about1.hears theMethod below0 = true := by decide +kernel
set_option maxRecDepth 65536 in
theorem w_ripe : about1.ripe theMethod args0 below0 = true := by decide +kernel
theorem w_running : about1.status = .running := rfl
set_option maxRecDepth 65536 in
theorem w_room : about1.hasRoom e0.platform room_1 = true :=
  launch0.hasRoom_least _ room_1 (by decide +kernel) (by decide +kernel) (by decide +kernel) (by decide +kernel) (by decide +kernel) (by decide +kernel)
theorem allAtoms_all (ts : List Jvm.Cond) (a : Array Jvm.Value) (st : Jvm.State) : (allAtoms ts).before a st = ts.all (fun c => c.before a st) := by
  induction ts with
  | nil => rfl
  | cons c t ih =>
    show (Jvm.Cond.and c (allAtoms t)).before a st = _
    rw [Jvm.Cond.before_and, ih, List.all_cons]
def words1 : List Jvm.Cond := Jvm.Cond.code x code maxLocals ret :: tables_1
/-- a 'code' word, met by the world's own term for the bytes: nothing is compared byte by byte -/
theorem code_word {y : MethodName} {bytes : ByteArray} {mx : Nat} {rt : Option FieldType} {a : Array Value} {s : State} {m : MethodId} {meth : Method} {c : Code} (h1 : s.methodNamed? y = some m) (h2 : s.vm.method? m = some meth) (h3 : meth.code = some c) (h4 : c.code = bytes)
    (h5 : (c.maxLocals == mx && c.exceptionTable.isEmpty && decide (c.maxStack ≤ mostOperands) && decide (meth.sig.returnType = rt) && !meth.locks && decide (parseMethodDescriptor y.desc = some meth.sig)) = true) : (Jvm.Cond.code y bytes mx rt).before a s = true := by
  simp only [Bool.and_eq_true, beq_iff_eq, Bool.not_eq_true', decide_eq_true_eq] at h5
  obtain ⟨⟨⟨⟨⟨g1, g2⟩, g3⟩, g4⟩, g5⟩, g6⟩ := h5
  simp [Cond.before, Cond.holds, Cond.value, h1, h2, h3, h4, g1, g2, g3, g4, g5, g6]
def isCode : Jvm.Cond → Bool
  | .code _ _ _ _ => true
  | _ => false
theorem all_split {L : List Jvm.Cond} {P : Jvm.Cond → Bool} (h1 : L.all (fun c => isCode c || P c) = true) (h2 : ∀ c ∈ L.filter isCode, P c = true) : L.all P = true := by
  refine List.all_eq_true.mpr fun c hc => ?_
  have h := List.all_eq_true.mp h1 c hc
  rcases Bool.eq_false_or_eq_true (isCode c) with hi | hi
  · exact h2 c (List.mem_filter.mpr ⟨hc, hi⟩)
  · simpa [hi] using h
set_option maxRecDepth 65536 in
theorem w_c0 : (Jvm.Cond.code x code maxLocals ret).before args0 about1 = true := code_word (m := ⟨1, 2⟩) (meth := k1m2) (c := k1c2) (by decide +kernel) rfl rfl rfl (by decide +kernel)
set_option maxRecDepth 65536 in
theorem w_c1 : (Jvm.Cond.code ({ cls := "com/example/urlset/urlset/entry/WhiteSpace", name := "is", desc := "(I)Z" } : Jvm.MethodName) prog_39_method_2_code (1 : Nat) (Option.some Jvm.ClassFile.FieldType.boolean)).before args0 about1 = true := code_word (m := ⟨2, 1⟩) (meth := k2m1) (c := k2c1) (by decide +kernel) rfl rfl rfl (by decide +kernel)
set_option maxRecDepth 65536 in
theorem w_c2 : (Jvm.Cond.code ({ cls := "com/example/urlset/urlset/entry/WhiteSpaceIsPinLaw", name := "ref", desc := "(I)Z" } : Jvm.MethodName) method_2_code (1 : Nat) (Option.some Jvm.ClassFile.FieldType.boolean)).before args0 about1 = true := code_word (m := ⟨1, 1⟩) (meth := k1m1) (c := k1c1) (by decide +kernel) rfl rfl rfl (by decide +kernel)
def codes1 : List Jvm.Cond := [Jvm.Cond.code x code maxLocals ret, Jvm.Cond.code ({ cls := "com/example/urlset/urlset/entry/WhiteSpace", name := "is", desc := "(I)Z" } : Jvm.MethodName) prog_39_method_2_code (1 : Nat) (Option.some Jvm.ClassFile.FieldType.boolean), Jvm.Cond.code ({ cls := "com/example/urlset/urlset/entry/WhiteSpaceIsPinLaw", name := "ref", desc := "(I)Z" } : Jvm.MethodName) method_2_code (1 : Nat) (Option.some Jvm.ClassFile.FieldType.boolean)]
set_option maxRecDepth 65536 in
theorem codes_eq : words1.filter isCode = codes1 := rfl
theorem w_codes : ∀ c ∈ words1.filter isCode, c.before args0 about1 = true := by
  rw [codes_eq]
  intro c hc
  simp only [codes1, List.mem_cons, List.not_mem_nil, or_false] at hc
  rcases hc with rfl | rfl | rfl
  · exact w_c0
  · exact w_c1
  · exact w_c2
set_option maxRecDepth 65536 in
theorem w_t1 : words1.all (fun c => isCode c || c.before args0 about1) = true := by decide +kernel
theorem w_tables : (allAtoms (Jvm.Cond.code x code maxLocals ret :: tables_1)).before args0 about1 = true := by
  rw [allAtoms_all]
  show words1.all (fun c => c.before args0 about1) = true
  refine all_split ?_ w_codes
  rw [w_t1]
set_option maxRecDepth 65536 in
theorem w_case : (Jvm.Cond.and given_1 narrow_1).before args0 about1 = true := by decide +kernel
theorem w_applies : (headSpec (Jvm.Cond.code x code maxLocals ret :: tables_1) room_1).applies x e0.platform about1 = true :=
  (Spec.applies_iff w_frames).mpr ⟨w_running, w_runnable, w_alone, w_named, w_hears, w_ripe, w_room, w_tables⟩
theorem atStart : AtStart classFile x code maxLocals ret World_1 tables_1 room_1 Calls_1 rest_1 Pre_1 launch0 p0 e0 about1 theMethod args0 below0 :=
  ⟨lists_1, trivial, launch0.admits_env _ _ _, launch0.least_env, fairChoices_fair.cas, fairChoices_fair.clock, w_frames, w_args, w_heap, w_applies, trivial, trivial, w_case⟩
end start1
theorem witness_1 : WitnessClaimed_1 := ⟨start1.p0, start1.e0, start1.about1, start1.theMethod, start1.args0, start1.below0, start1.atStart⟩
end Jvm.Pilot.@@N@@
