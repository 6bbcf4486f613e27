import JvmDerived
import JvmDerived.Pilot.@@N@@Statement
import JvmDerived.Pilot.@@N@@Code
set_option linter.unusedVariables false
set_option linter.unusedSimpArgs false
namespace Jvm.RoadKit
open Sem ClassFile Op Lib Jvm.Stand Jvm.Free Jvm.LawKit
section New
variable {p : Program} {l : Launch} {e : Env} {R : Room} {s : State} {m : MethodId} {args : Array Value} {below : List Frame} {meth : Method} {c : Code} {T : State} {locs : List Loc} {cells slots : Nat}
theorem retI (X : Stand p l e R s m args below meth c T locs cells slots) (hx : p.tables.exec = Jvm.exec) {pc : Nat} {Ls : Array Slot} {z : Int32} {rest : List Value} (hret : meth.sig.returnType = some .int) (hd : decode c.code pc = .ok (.ireturn, 1)) {fs : List Frame}
    (hl : ∀ (f : JFrame) (acts : List Action), f.method = m → f.locked = none → f.entered = [] → (doReturn e (T.setTop f) acts (some (.int z))).1 = T.setFrames fs) : Steps p.tables e below (T.setTop (mkF m pc Ls (.int z :: rest))) (T.setFrames fs) := by
  have hm' : T.vm.method? m = some meth := X.method'
  have hn : narrow .int (.int z) = .int z := rfl
  show Steps p.tables e below (T.setTop { method := m, pc := pc, locals := Ls, stack := _ :: rest, locked := none }) _
  jvm_step X.here [X.here.top, hx, hd, hm', hret, hn]
  first | (intro acts; rw [hl _ acts rfl rfl rfl]) | rw [hl _ _ rfl rfl rfl]
  exact Steps.refl _
theorem retL (X : Stand p l e R s m args below meth c T locs cells slots) (hx : p.tables.exec = Jvm.exec) {pc : Nat} {Ls : Array Slot} {z : Int64} {rest : List Value} (hret : meth.sig.returnType = some .long) (hd : decode c.code pc = .ok (.lreturn, 1)) {fs : List Frame}
    (hl : ∀ (f : JFrame) (acts : List Action), f.method = m → f.locked = none → f.entered = [] → (doReturn e (T.setTop f) acts (some (.long z))).1 = T.setFrames fs) : Steps p.tables e below (T.setTop (mkF m pc Ls (.long z :: rest))) (T.setFrames fs) := by
  have hm' : T.vm.method? m = some meth := X.method'
  have hn : narrow .long (.long z) = .long z := rfl
  show Steps p.tables e below (T.setTop { method := m, pc := pc, locals := Ls, stack := _ :: rest, locked := none }) _
  jvm_step X.here [X.here.top, hx, hd, hm', hret, hn]
  first | (intro acts; rw [hl _ acts rfl rfl rfl]) | rw [hl _ _ rfl rfl rfl]
  exact Steps.refl _
theorem castS {locs' : List Loc} {cells' slots' : Nat} (h1 : locs = locs') (h2 : cells = cells') (h3 : slots = slots') (X : Stand p l e R s m args below meth c T locs cells slots) : Stand p l e R s m args below meth c T locs' cells' slots' := by
  subst h1 h2 h3; exact X
end New
end Jvm.RoadKit
namespace Jvm.Pilot.@@N@@
open Jvm Jvm.ClassFile Sem Op Lib Jvm.Free Jvm.Stand Jvm.LawKit Jvm.RoadKit Bundle Jvm.Pilot.@@N@@.Jvm.D
theorem own_map (l : List Int32) (k : Nat) : (l.map Value.int).getD k (.int (0 : Int32)) = .int (l.getD k 0) := by
  simp only [List.getD_eq_getElem?_getD, List.getElem?_map]
  cases l[k]? <;> rfl
def own_tab : List Int32 := [(9 : Int32), (10 : Int32), (13 : Int32), (32 : Int32), (55295 : Int32), (55296 : Int32), (57343 : Int32), (57344 : Int32), (65533 : Int32), (65534 : Int32), (65535 : Int32), (65536 : Int32), (1114111 : Int32), (1114112 : Int32), (0 : Int32), (-2147483648 : Int32), (2147483647 : Int32)]
theorem own_msk (x : Int32) : 0 ≤ (x &&& (2147483647 : Int32)).toInt := by
  have h : (x &&& (2147483647 : Int32)).toBitVec.toNat ≤ 2147483647 := by
    rw [Int32.toBitVec_and, BitVec.toNat_and]; exact Nat.and_le_right
  have e : (x &&& (2147483647 : Int32)).toInt = (x &&& (2147483647 : Int32)).toBitVec.toNat := by
    show (x &&& (2147483647 : Int32)).toBitVec.toInt = _
    rw [BitVec.toInt_eq_toNat_cond, if_pos (by omega)]
  omega
theorem own_idx (x : Int32) : ¬ ((x &&& (2147483647 : Int32)) % (17 : Int32)) < 0 ∧ ((x &&& (2147483647 : Int32)) % (17 : Int32)) < (17 : Int32) := by
  have h := own_msk x
  simp only [Int32.lt_iff_toInt_lt, Int32.toInt_mod, show (0 : Int32).toInt = 0 from rfl, show (17 : Int32).toInt = 17 from rfl]
  rw [Int.tmod_eq_emod_of_nonneg h]
  omega
def own_is (p1 : Int32) : Int32 := (if p1 < (32 : Int32) then (if p1 = (9 : Int32) then (1 : Int32) else (if p1 = (10 : Int32) then (1 : Int32) else (if p1 = (13 : Int32) then (1 : Int32) else (0 : Int32)))) else (if (55295 : Int32) < p1 then (if p1 < (57344 : Int32) then (0 : Int32) else (if (65533 : Int32) < p1 then (if p1 < (65536 : Int32) then (0 : Int32) else (if (1114111 : Int32) < p1 then (0 : Int32) else (1 : Int32))) else (1 : Int32))) else (1 : Int32)))
theorem d1_0 : decode prog_152_method_2_code 0 = .ok (.iload_n 0, 1) := by decide +kernel
theorem d1_1 : decode prog_152_method_2_code 1 = .ok (.bipush 32, 2) := by decide +kernel
theorem d1_3 : decode prog_152_method_2_code 3 = .ok (.if_icmp .lt 9, 3) := by decide +kernel
theorem d1_6 : decode prog_152_method_2_code 6 = .ok (.iload_n 0, 1) := by decide +kernel
theorem d1_7 : decode prog_152_method_2_code 7 = .ok (.ldc 7, 2) := by decide +kernel
theorem d1_9 : decode prog_152_method_2_code 9 = .ok (.if_icmp .le 45, 3) := by decide +kernel
theorem d1_12 : decode prog_152_method_2_code 12 = .ok (.iload_n 0, 1) := by decide +kernel
theorem d1_13 : decode prog_152_method_2_code 13 = .ok (.ldc 8, 2) := by decide +kernel
theorem d1_15 : decode prog_152_method_2_code 15 = .ok (.if_icmp .lt 9, 3) := by decide +kernel
theorem d1_18 : decode prog_152_method_2_code 18 = .ok (.iload_n 0, 1) := by decide +kernel
theorem d1_19 : decode prog_152_method_2_code 19 = .ok (.ldc 9, 2) := by decide +kernel
theorem d1_21 : decode prog_152_method_2_code 21 = .ok (.if_icmp .le 33, 3) := by decide +kernel
theorem d1_24 : decode prog_152_method_2_code 24 = .ok (.iload_n 0, 1) := by decide +kernel
theorem d1_25 : decode prog_152_method_2_code 25 = .ok (.ldc 10, 2) := by decide +kernel
theorem d1_27 : decode prog_152_method_2_code 27 = .ok (.if_icmp .lt 9, 3) := by decide +kernel
theorem d1_30 : decode prog_152_method_2_code 30 = .ok (.iload_n 0, 1) := by decide +kernel
theorem d1_31 : decode prog_152_method_2_code 31 = .ok (.ldc 11, 2) := by decide +kernel
theorem d1_33 : decode prog_152_method_2_code 33 = .ok (.if_icmp .le 21, 3) := by decide +kernel
theorem d1_36 : decode prog_152_method_2_code 36 = .ok (.iload_n 0, 1) := by decide +kernel
theorem d1_37 : decode prog_152_method_2_code 37 = .ok (.bipush 9, 2) := by decide +kernel
theorem d1_39 : decode prog_152_method_2_code 39 = .ok (.if_icmp .eq 15, 3) := by decide +kernel
theorem d1_42 : decode prog_152_method_2_code 42 = .ok (.iload_n 0, 1) := by decide +kernel
theorem d1_43 : decode prog_152_method_2_code 43 = .ok (.bipush 10, 2) := by decide +kernel
theorem d1_45 : decode prog_152_method_2_code 45 = .ok (.if_icmp .eq 9, 3) := by decide +kernel
theorem d1_48 : decode prog_152_method_2_code 48 = .ok (.iload_n 0, 1) := by decide +kernel
theorem d1_49 : decode prog_152_method_2_code 49 = .ok (.bipush 13, 2) := by decide +kernel
theorem d1_51 : decode prog_152_method_2_code 51 = .ok (.if_icmp .ne 7, 3) := by decide +kernel
theorem d1_54 : decode prog_152_method_2_code 54 = .ok (.iconst 1, 1) := by decide +kernel
theorem d1_55 : decode prog_152_method_2_code 55 = .ok (.goto 4, 3) := by decide +kernel
theorem d1_58 : decode prog_152_method_2_code 58 = .ok (.iconst 0, 1) := by decide +kernel
theorem d1_59 : decode prog_152_method_2_code 59 = .ok (.ireturn, 1) := by decide +kernel
theorem pn_1 : plainName "com/example/xpoch/xpoch/model/XmlGrammar" = true := by first | (simp [plainName, overriddenIn]; done) | decide +kernel
theorem ef_1 (m : MethodId) (x0 : Int32) : entryFrame m #[(.int x0)] 1 = mkF m 0 #[.val (.int x0)] [] := by first | (simp [entryFrame, mkF, argsToLocals, Value.category]; done) | rfl
def Q1 (Z : State) (p1 : Int32) (h0 : Heap) (n0 : Nat) (v : Option Value) (h : Heap) (L : List Loc) : Prop := v = some (.int (own_is p1)) ∧ Fr n0 L ∧ h = h0
set_option maxRecDepth 65536 in
set_option maxHeartbeats 40000000 in
theorem rm1 (l : Launch) (Z : State) (a0 : Array Value) (hw : ∀ d ∈ tables_1, d.before a0 Z = true) (ws : List Jvm.Cond) (p1 : Int32) (h0 : Heap) (n0 : Nat) (Z0 : n0 ≤ h0.size)  :
    MetFree l (⟨"com/example/xpoch/xpoch/model/XmlGrammar", "isCharacter", "(I)Z"⟩ : MethodName) (head1 (Jvm.Cond.code (⟨"com/example/xpoch/xpoch/model/XmlGrammar", "isCharacter", "(I)Z"⟩ : MethodName) prog_152_method_2_code 1 (some .boolean) :: ws) ({ frames := 0, cells := 0, slots := 0, locals := 0 } : Room)) (fun a U => a = #[(.int p1)] ∧ Z.Warmed39 U.vm ∧ U.heap = h0) (fun _ _ _ _ _ => True) (fun _ U o U' => ∃ v L, o = .returned v ∧ Q1 Z p1 h0 n0 v U'.heap L ∧ FrameEnd U o U' L ({ frames := 0, cells := 0, slots := 0, locals := 0 } : Room).cells ({ frames := 0, cells := 0, slots := 0, locals := 0 } : Room).slots) := by
  refine MetFree.of_bodySF (plainFor_of_name pn_1) hisR ?_
  intro p e s m args below meth c s₁ Bd hml0 hP hK
  obtain ⟨rfl, hZ, hh⟩ := hP
  have hx := Bd.exec
  have hby := Bd.bytes
  have hml : c.maxLocals = 1 := hml0
  have hown : s.vm.findClass "com/example/xpoch/xpoch/model/XmlGrammar" = some m.cls := findClass_of_methodNamed Bd.named
  have hnm := (name_of_methodNamed Bd.named Bd.method).1
  have X0 : Stand p l e ({ frames := 0, cells := 0, slots := 0, locals := 0 } : Room) s m #[(.int p1)] below meth c s₁ [] 0 0 := Stand.of_body Bd
  have e0 : s₁.heap = h0 := by rw [← hh, Bd.state]; rfl
  have N0 := Fr.nil n0
  have pre0 : ∀ t, Steps p.tables e below (s₁.setTop (mkF m 0 #[.val (.int p1)] [])) t → Steps p.tables e below (s₁.setTop (entryFrame m #[(.int p1)] 1)) t := fun t k => castTop (ef_1 m p1) k
  have pre_1 : ∀ t, Steps p.tables e below (s₁.setTop (mkF m 3 #[.val (.int p1)] [(.int (32 : Int32)), (.int p1)])) t → Steps p.tables e below (s₁.setTop (entryFrame m #[(.int p1)] 1)) t := fun t k => pre0 t (by
      show Steps p.tables e below (s₁.setTop (mkF m 0 #[.val (.int p1)] [])) _
      refine XS.iloadN X0.here hx rfl (hb hby d1_0) rfl ?_
      show Steps p.tables e below (s₁.setTop (mkF m 1 #[.val (.int p1)] [(.int p1)])) _
      refine XS.bipush X0.here hx rfl (hb hby d1_1) ?_
      exact k)
  by_cases hc3__2 : p1 < (32 : Int32)
  · have pre_3 : ∀ t, Steps p.tables e below (s₁.setTop (mkF m 39 #[.val (.int p1)] [(.int (9 : Int32)), (.int p1)])) t → Steps p.tables e below (s₁.setTop (entryFrame m #[(.int p1)] 1)) t := fun t k => pre_1 t (by
        show Steps p.tables e below (s₁.setTop (mkF m 3 #[.val (.int p1)] [(.int (32 : Int32)), (.int p1)])) _
        refine XS.icmpYes X0.here hx rfl (pc0 := 3) (pc' := 12) rfl (hb hby d1_3) rfl (tlt hc3__2).1 (by decide) (by decide) ?_
        show Steps p.tables e below (s₁.setTop (mkF m 12 #[.val (.int p1)] [])) _
        refine XS.iloadN X0.here hx rfl (hb hby d1_12) rfl ?_
        show Steps p.tables e below (s₁.setTop (mkF m 13 #[.val (.int p1)] [(.int p1)])) _
        refine X0.ldcInt hx hown (mvT hZ (hw _ (List.mem_of_getElem? (i := 17) rfl))) (g := (mkF m 13 #[.val (.int p1)] [(.int p1)])) rfl (hb hby d1_13) _ ?_
        show Steps p.tables e below (s₁.setTop (mkF m 15 #[.val (.int p1)] [(.int (57344 : Int32)), (.int p1)])) _
        refine XS.icmpYes X0.here hx rfl (pc0 := 15) (pc' := 24) rfl (hb hby d1_15) rfl (tlt (by have q0 := hc3__2; simp only [Int32.lt_iff_toInt_lt, ← Int32.toInt_inj, show (32 : Int32).toInt = 32 from rfl, show (57344 : Int32).toInt = 57344 from rfl] at q0 ⊢; omega : p1 < (57344 : Int32))).1 (by decide) (by decide) ?_
        show Steps p.tables e below (s₁.setTop (mkF m 24 #[.val (.int p1)] [])) _
        refine XS.iloadN X0.here hx rfl (hb hby d1_24) rfl ?_
        show Steps p.tables e below (s₁.setTop (mkF m 25 #[.val (.int p1)] [(.int p1)])) _
        refine X0.ldcInt hx hown (mvT hZ (hw _ (List.mem_of_getElem? (i := 18) rfl))) (g := (mkF m 25 #[.val (.int p1)] [(.int p1)])) rfl (hb hby d1_25) _ ?_
        show Steps p.tables e below (s₁.setTop (mkF m 27 #[.val (.int p1)] [(.int (65536 : Int32)), (.int p1)])) _
        refine XS.icmpYes X0.here hx rfl (pc0 := 27) (pc' := 36) rfl (hb hby d1_27) rfl (tlt (by have q0 := hc3__2; simp only [Int32.lt_iff_toInt_lt, ← Int32.toInt_inj, show (32 : Int32).toInt = 32 from rfl, show (65536 : Int32).toInt = 65536 from rfl] at q0 ⊢; omega : p1 < (65536 : Int32))).1 (by decide) (by decide) ?_
        show Steps p.tables e below (s₁.setTop (mkF m 36 #[.val (.int p1)] [])) _
        refine XS.iloadN X0.here hx rfl (hb hby d1_36) rfl ?_
        show Steps p.tables e below (s₁.setTop (mkF m 37 #[.val (.int p1)] [(.int p1)])) _
        refine XS.bipush X0.here hx rfl (hb hby d1_37) ?_
        exact k)
    by_cases hc39__4 : p1 = (9 : Int32)
    · obtain ⟨fs, hr, hrun, hended, hW, hsame⟩ := X0.leave (v := some (.int (1 : Int32))) (fun h => by rw [Bd.returns] at h; cases h)
      refine ⟨_, _, pre_3 _ ?_, hrun, hended, _, _, rfl, ?_, ⟨_, rfl⟩, hW, hsame.mono (by decide) (by decide)⟩
      · show Steps p.tables e below (s₁.setTop (mkF m 39 #[.val (.int p1)] [(.int (9 : Int32)), (.int p1)])) _
        refine XS.icmpYes X0.here hx rfl (pc0 := 39) (pc' := 54) rfl (hb hby d1_39) rfl (teq hc39__4).1 (by decide) (by decide) ?_
        show Steps p.tables e below (s₁.setTop (mkF m 54 #[.val (.int p1)] [])) _
        refine XS.iconst X0.here hx rfl (hb hby d1_54) ?_
        show Steps p.tables e below (s₁.setTop (mkF m 55 #[.val (.int p1)] [(.int (1 : Int32))])) _
        refine XS.goto X0.here hx rfl (pc0 := 55) (pc' := 59) rfl (hb hby d1_55) (by decide) (by decide) ?_
        show Steps p.tables e below (s₁.setTop (mkF m 59 #[.val (.int p1)] [(.int (1 : Int32))])) _
        exact retN X0 hx (t := .boolean) Bd.returns (by simp) (hb hby d1_59) hr
      · show Q1 Z p1 h0 n0 _ s₁.heap _
        rw [e0]
        exact ⟨(congrArg (fun z => some (Value.int z)) (by simp only [own_is, if_pos hc3__2, if_pos hc39__4] : (1 : Int32) = (own_is p1))), N0, rfl⟩
    · have pre_5 : ∀ t, Steps p.tables e below (s₁.setTop (mkF m 45 #[.val (.int p1)] [(.int (10 : Int32)), (.int p1)])) t → Steps p.tables e below (s₁.setTop (entryFrame m #[(.int p1)] 1)) t := fun t k => pre_3 t (by
          show Steps p.tables e below (s₁.setTop (mkF m 39 #[.val (.int p1)] [(.int (9 : Int32)), (.int p1)])) _
          refine XS.icmpNo X0.here hx rfl (hb hby d1_39) rfl (feq hc39__4).1 ?_
          show Steps p.tables e below (s₁.setTop (mkF m 42 #[.val (.int p1)] [])) _
          refine XS.iloadN X0.here hx rfl (hb hby d1_42) rfl ?_
          show Steps p.tables e below (s₁.setTop (mkF m 43 #[.val (.int p1)] [(.int p1)])) _
          refine XS.bipush X0.here hx rfl (hb hby d1_43) ?_
          exact k)
      by_cases hc45__6 : p1 = (10 : Int32)
      · obtain ⟨fs, hr, hrun, hended, hW, hsame⟩ := X0.leave (v := some (.int (1 : Int32))) (fun h => by rw [Bd.returns] at h; cases h)
        refine ⟨_, _, pre_5 _ ?_, hrun, hended, _, _, rfl, ?_, ⟨_, rfl⟩, hW, hsame.mono (by decide) (by decide)⟩
        · show Steps p.tables e below (s₁.setTop (mkF m 45 #[.val (.int p1)] [(.int (10 : Int32)), (.int p1)])) _
          refine XS.icmpYes X0.here hx rfl (pc0 := 45) (pc' := 54) rfl (hb hby d1_45) rfl (teq hc45__6).1 (by decide) (by decide) ?_
          show Steps p.tables e below (s₁.setTop (mkF m 54 #[.val (.int p1)] [])) _
          refine XS.iconst X0.here hx rfl (hb hby d1_54) ?_
          show Steps p.tables e below (s₁.setTop (mkF m 55 #[.val (.int p1)] [(.int (1 : Int32))])) _
          refine XS.goto X0.here hx rfl (pc0 := 55) (pc' := 59) rfl (hb hby d1_55) (by decide) (by decide) ?_
          show Steps p.tables e below (s₁.setTop (mkF m 59 #[.val (.int p1)] [(.int (1 : Int32))])) _
          exact retN X0 hx (t := .boolean) Bd.returns (by simp) (hb hby d1_59) hr
        · show Q1 Z p1 h0 n0 _ s₁.heap _
          rw [e0]
          exact ⟨(congrArg (fun z => some (Value.int z)) (by simp only [own_is, if_pos hc3__2, if_neg hc39__4, if_pos hc45__6] : (1 : Int32) = (own_is p1))), N0, rfl⟩
      · have pre_7 : ∀ t, Steps p.tables e below (s₁.setTop (mkF m 51 #[.val (.int p1)] [(.int (13 : Int32)), (.int p1)])) t → Steps p.tables e below (s₁.setTop (entryFrame m #[(.int p1)] 1)) t := fun t k => pre_5 t (by
            show Steps p.tables e below (s₁.setTop (mkF m 45 #[.val (.int p1)] [(.int (10 : Int32)), (.int p1)])) _
            refine XS.icmpNo X0.here hx rfl (hb hby d1_45) rfl (feq hc45__6).1 ?_
            show Steps p.tables e below (s₁.setTop (mkF m 48 #[.val (.int p1)] [])) _
            refine XS.iloadN X0.here hx rfl (hb hby d1_48) rfl ?_
            show Steps p.tables e below (s₁.setTop (mkF m 49 #[.val (.int p1)] [(.int p1)])) _
            refine XS.bipush X0.here hx rfl (hb hby d1_49) ?_
            exact k)
        by_cases hc51__8 : p1 = (13 : Int32)
        · obtain ⟨fs, hr, hrun, hended, hW, hsame⟩ := X0.leave (v := some (.int (1 : Int32))) (fun h => by rw [Bd.returns] at h; cases h)
          refine ⟨_, _, pre_7 _ ?_, hrun, hended, _, _, rfl, ?_, ⟨_, rfl⟩, hW, hsame.mono (by decide) (by decide)⟩
          · show Steps p.tables e below (s₁.setTop (mkF m 51 #[.val (.int p1)] [(.int (13 : Int32)), (.int p1)])) _
            refine XS.icmpNo X0.here hx rfl (hb hby d1_51) rfl (teq hc51__8).2 ?_
            show Steps p.tables e below (s₁.setTop (mkF m 54 #[.val (.int p1)] [])) _
            refine XS.iconst X0.here hx rfl (hb hby d1_54) ?_
            show Steps p.tables e below (s₁.setTop (mkF m 55 #[.val (.int p1)] [(.int (1 : Int32))])) _
            refine XS.goto X0.here hx rfl (pc0 := 55) (pc' := 59) rfl (hb hby d1_55) (by decide) (by decide) ?_
            show Steps p.tables e below (s₁.setTop (mkF m 59 #[.val (.int p1)] [(.int (1 : Int32))])) _
            exact retN X0 hx (t := .boolean) Bd.returns (by simp) (hb hby d1_59) hr
          · show Q1 Z p1 h0 n0 _ s₁.heap _
            rw [e0]
            exact ⟨(congrArg (fun z => some (Value.int z)) (by simp only [own_is, if_pos hc3__2, if_neg hc39__4, if_neg hc45__6, if_pos hc51__8] : (1 : Int32) = (own_is p1))), N0, rfl⟩
        · obtain ⟨fs, hr, hrun, hended, hW, hsame⟩ := X0.leave (v := some (.int (0 : Int32))) (fun h => by rw [Bd.returns] at h; cases h)
          refine ⟨_, _, pre_7 _ ?_, hrun, hended, _, _, rfl, ?_, ⟨_, rfl⟩, hW, hsame.mono (by decide) (by decide)⟩
          · show Steps p.tables e below (s₁.setTop (mkF m 51 #[.val (.int p1)] [(.int (13 : Int32)), (.int p1)])) _
            refine XS.icmpYes X0.here hx rfl (pc0 := 51) (pc' := 58) rfl (hb hby d1_51) rfl (feq hc51__8).2 (by decide) (by decide) ?_
            show Steps p.tables e below (s₁.setTop (mkF m 58 #[.val (.int p1)] [])) _
            refine XS.iconst X0.here hx rfl (hb hby d1_58) ?_
            show Steps p.tables e below (s₁.setTop (mkF m 59 #[.val (.int p1)] [(.int (0 : Int32))])) _
            exact retN X0 hx (t := .boolean) Bd.returns (by simp) (hb hby d1_59) hr
          · show Q1 Z p1 h0 n0 _ s₁.heap _
            rw [e0]
            exact ⟨(congrArg (fun z => some (Value.int z)) (by simp only [own_is, if_pos hc3__2, if_neg hc39__4, if_neg hc45__6, if_neg hc51__8] : (0 : Int32) = (own_is p1))), N0, rfl⟩
  · have pre_9 : ∀ t, Steps p.tables e below (s₁.setTop (mkF m 9 #[.val (.int p1)] [(.int (55295 : Int32)), (.int p1)])) t → Steps p.tables e below (s₁.setTop (entryFrame m #[(.int p1)] 1)) t := fun t k => pre_1 t (by
        show Steps p.tables e below (s₁.setTop (mkF m 3 #[.val (.int p1)] [(.int (32 : Int32)), (.int p1)])) _
        refine XS.icmpNo X0.here hx rfl (hb hby d1_3) rfl (flt hc3__2).1 ?_
        show Steps p.tables e below (s₁.setTop (mkF m 6 #[.val (.int p1)] [])) _
        refine XS.iloadN X0.here hx rfl (hb hby d1_6) rfl ?_
        show Steps p.tables e below (s₁.setTop (mkF m 7 #[.val (.int p1)] [(.int p1)])) _
        refine X0.ldcInt hx hown (mvT hZ (hw _ (List.mem_of_getElem? (i := 23) rfl))) (g := (mkF m 7 #[.val (.int p1)] [(.int p1)])) rfl (hb hby d1_7) _ ?_
        exact k)
    by_cases hc9__10 : (55295 : Int32) < p1
    · have pre_11 : ∀ t, Steps p.tables e below (s₁.setTop (mkF m 15 #[.val (.int p1)] [(.int (57344 : Int32)), (.int p1)])) t → Steps p.tables e below (s₁.setTop (entryFrame m #[(.int p1)] 1)) t := fun t k => pre_9 t (by
          show Steps p.tables e below (s₁.setTop (mkF m 9 #[.val (.int p1)] [(.int (55295 : Int32)), (.int p1)])) _
          refine XS.icmpNo X0.here hx rfl (hb hby d1_9) rfl (tlt hc9__10).2.2.2 ?_
          show Steps p.tables e below (s₁.setTop (mkF m 12 #[.val (.int p1)] [])) _
          refine XS.iloadN X0.here hx rfl (hb hby d1_12) rfl ?_
          show Steps p.tables e below (s₁.setTop (mkF m 13 #[.val (.int p1)] [(.int p1)])) _
          refine X0.ldcInt hx hown (mvT hZ (hw _ (List.mem_of_getElem? (i := 17) rfl))) (g := (mkF m 13 #[.val (.int p1)] [(.int p1)])) rfl (hb hby d1_13) _ ?_
          exact k)
      by_cases hc15__12 : p1 < (57344 : Int32)
      · obtain ⟨fs, hr, hrun, hended, hW, hsame⟩ := X0.leave (v := some (.int (0 : Int32))) (fun h => by rw [Bd.returns] at h; cases h)
        refine ⟨_, _, pre_11 _ ?_, hrun, hended, _, _, rfl, ?_, ⟨_, rfl⟩, hW, hsame.mono (by decide) (by decide)⟩
        · show Steps p.tables e below (s₁.setTop (mkF m 15 #[.val (.int p1)] [(.int (57344 : Int32)), (.int p1)])) _
          refine XS.icmpYes X0.here hx rfl (pc0 := 15) (pc' := 24) rfl (hb hby d1_15) rfl (tlt hc15__12).1 (by decide) (by decide) ?_
          show Steps p.tables e below (s₁.setTop (mkF m 24 #[.val (.int p1)] [])) _
          refine XS.iloadN X0.here hx rfl (hb hby d1_24) rfl ?_
          show Steps p.tables e below (s₁.setTop (mkF m 25 #[.val (.int p1)] [(.int p1)])) _
          refine X0.ldcInt hx hown (mvT hZ (hw _ (List.mem_of_getElem? (i := 18) rfl))) (g := (mkF m 25 #[.val (.int p1)] [(.int p1)])) rfl (hb hby d1_25) _ ?_
          show Steps p.tables e below (s₁.setTop (mkF m 27 #[.val (.int p1)] [(.int (65536 : Int32)), (.int p1)])) _
          refine XS.icmpYes X0.here hx rfl (pc0 := 27) (pc' := 36) rfl (hb hby d1_27) rfl (tlt (by have q0 := hc3__2; have q1 := hc9__10; have q2 := hc15__12; simp only [Int32.lt_iff_toInt_lt, ← Int32.toInt_inj, show (32 : Int32).toInt = 32 from rfl, show (55295 : Int32).toInt = 55295 from rfl, show (57344 : Int32).toInt = 57344 from rfl, show (65536 : Int32).toInt = 65536 from rfl] at q0 q1 q2 ⊢; omega : p1 < (65536 : Int32))).1 (by decide) (by decide) ?_
          show Steps p.tables e below (s₁.setTop (mkF m 36 #[.val (.int p1)] [])) _
          refine XS.iloadN X0.here hx rfl (hb hby d1_36) rfl ?_
          show Steps p.tables e below (s₁.setTop (mkF m 37 #[.val (.int p1)] [(.int p1)])) _
          refine XS.bipush X0.here hx rfl (hb hby d1_37) ?_
          show Steps p.tables e below (s₁.setTop (mkF m 39 #[.val (.int p1)] [(.int (9 : Int32)), (.int p1)])) _
          refine XS.icmpNo X0.here hx rfl (hb hby d1_39) rfl (feq (by have q0 := hc3__2; have q1 := hc9__10; have q2 := hc15__12; simp only [Int32.lt_iff_toInt_lt, ← Int32.toInt_inj, show (9 : Int32).toInt = 9 from rfl, show (32 : Int32).toInt = 32 from rfl, show (55295 : Int32).toInt = 55295 from rfl, show (57344 : Int32).toInt = 57344 from rfl] at q0 q1 q2 ⊢; omega : ¬ (p1 = (9 : Int32)))).1 ?_
          show Steps p.tables e below (s₁.setTop (mkF m 42 #[.val (.int p1)] [])) _
          refine XS.iloadN X0.here hx rfl (hb hby d1_42) rfl ?_
          show Steps p.tables e below (s₁.setTop (mkF m 43 #[.val (.int p1)] [(.int p1)])) _
          refine XS.bipush X0.here hx rfl (hb hby d1_43) ?_
          show Steps p.tables e below (s₁.setTop (mkF m 45 #[.val (.int p1)] [(.int (10 : Int32)), (.int p1)])) _
          refine XS.icmpNo X0.here hx rfl (hb hby d1_45) rfl (feq (by have q0 := hc3__2; have q1 := hc9__10; have q2 := hc15__12; simp only [Int32.lt_iff_toInt_lt, ← Int32.toInt_inj, show (10 : Int32).toInt = 10 from rfl, show (32 : Int32).toInt = 32 from rfl, show (55295 : Int32).toInt = 55295 from rfl, show (57344 : Int32).toInt = 57344 from rfl] at q0 q1 q2 ⊢; omega : ¬ (p1 = (10 : Int32)))).1 ?_
          show Steps p.tables e below (s₁.setTop (mkF m 48 #[.val (.int p1)] [])) _
          refine XS.iloadN X0.here hx rfl (hb hby d1_48) rfl ?_
          show Steps p.tables e below (s₁.setTop (mkF m 49 #[.val (.int p1)] [(.int p1)])) _
          refine XS.bipush X0.here hx rfl (hb hby d1_49) ?_
          show Steps p.tables e below (s₁.setTop (mkF m 51 #[.val (.int p1)] [(.int (13 : Int32)), (.int p1)])) _
          refine XS.icmpYes X0.here hx rfl (pc0 := 51) (pc' := 58) rfl (hb hby d1_51) rfl (feq (by have q0 := hc3__2; have q1 := hc9__10; have q2 := hc15__12; simp only [Int32.lt_iff_toInt_lt, ← Int32.toInt_inj, show (13 : Int32).toInt = 13 from rfl, show (32 : Int32).toInt = 32 from rfl, show (55295 : Int32).toInt = 55295 from rfl, show (57344 : Int32).toInt = 57344 from rfl] at q0 q1 q2 ⊢; omega : ¬ (p1 = (13 : Int32)))).2 (by decide) (by decide) ?_
          show Steps p.tables e below (s₁.setTop (mkF m 58 #[.val (.int p1)] [])) _
          refine XS.iconst X0.here hx rfl (hb hby d1_58) ?_
          show Steps p.tables e below (s₁.setTop (mkF m 59 #[.val (.int p1)] [(.int (0 : Int32))])) _
          exact retN X0 hx (t := .boolean) Bd.returns (by simp) (hb hby d1_59) hr
        · show Q1 Z p1 h0 n0 _ s₁.heap _
          rw [e0]
          exact ⟨(congrArg (fun z => some (Value.int z)) (by simp only [own_is, if_neg hc3__2, if_pos hc9__10, if_pos hc15__12] : (0 : Int32) = (own_is p1))), N0, rfl⟩
      · have pre_13 : ∀ t, Steps p.tables e below (s₁.setTop (mkF m 21 #[.val (.int p1)] [(.int (65533 : Int32)), (.int p1)])) t → Steps p.tables e below (s₁.setTop (entryFrame m #[(.int p1)] 1)) t := fun t k => pre_11 t (by
            show Steps p.tables e below (s₁.setTop (mkF m 15 #[.val (.int p1)] [(.int (57344 : Int32)), (.int p1)])) _
            refine XS.icmpNo X0.here hx rfl (hb hby d1_15) rfl (flt hc15__12).1 ?_
            show Steps p.tables e below (s₁.setTop (mkF m 18 #[.val (.int p1)] [])) _
            refine XS.iloadN X0.here hx rfl (hb hby d1_18) rfl ?_
            show Steps p.tables e below (s₁.setTop (mkF m 19 #[.val (.int p1)] [(.int p1)])) _
            refine X0.ldcInt hx hown (mvT hZ (hw _ (List.mem_of_getElem? (i := 24) rfl))) (g := (mkF m 19 #[.val (.int p1)] [(.int p1)])) rfl (hb hby d1_19) _ ?_
            exact k)
        by_cases hc21__14 : (65533 : Int32) < p1
        · have pre_15 : ∀ t, Steps p.tables e below (s₁.setTop (mkF m 27 #[.val (.int p1)] [(.int (65536 : Int32)), (.int p1)])) t → Steps p.tables e below (s₁.setTop (entryFrame m #[(.int p1)] 1)) t := fun t k => pre_13 t (by
              show Steps p.tables e below (s₁.setTop (mkF m 21 #[.val (.int p1)] [(.int (65533 : Int32)), (.int p1)])) _
              refine XS.icmpNo X0.here hx rfl (hb hby d1_21) rfl (tlt hc21__14).2.2.2 ?_
              show Steps p.tables e below (s₁.setTop (mkF m 24 #[.val (.int p1)] [])) _
              refine XS.iloadN X0.here hx rfl (hb hby d1_24) rfl ?_
              show Steps p.tables e below (s₁.setTop (mkF m 25 #[.val (.int p1)] [(.int p1)])) _
              refine X0.ldcInt hx hown (mvT hZ (hw _ (List.mem_of_getElem? (i := 18) rfl))) (g := (mkF m 25 #[.val (.int p1)] [(.int p1)])) rfl (hb hby d1_25) _ ?_
              exact k)
          by_cases hc27__16 : p1 < (65536 : Int32)
          · obtain ⟨fs, hr, hrun, hended, hW, hsame⟩ := X0.leave (v := some (.int (0 : Int32))) (fun h => by rw [Bd.returns] at h; cases h)
            refine ⟨_, _, pre_15 _ ?_, hrun, hended, _, _, rfl, ?_, ⟨_, rfl⟩, hW, hsame.mono (by decide) (by decide)⟩
            · show Steps p.tables e below (s₁.setTop (mkF m 27 #[.val (.int p1)] [(.int (65536 : Int32)), (.int p1)])) _
              refine XS.icmpYes X0.here hx rfl (pc0 := 27) (pc' := 36) rfl (hb hby d1_27) rfl (tlt hc27__16).1 (by decide) (by decide) ?_
              show Steps p.tables e below (s₁.setTop (mkF m 36 #[.val (.int p1)] [])) _
              refine XS.iloadN X0.here hx rfl (hb hby d1_36) rfl ?_
              show Steps p.tables e below (s₁.setTop (mkF m 37 #[.val (.int p1)] [(.int p1)])) _
              refine XS.bipush X0.here hx rfl (hb hby d1_37) ?_
              show Steps p.tables e below (s₁.setTop (mkF m 39 #[.val (.int p1)] [(.int (9 : Int32)), (.int p1)])) _
              refine XS.icmpNo X0.here hx rfl (hb hby d1_39) rfl (feq (by have q0 := hc3__2; have q1 := hc9__10; have q2 := hc15__12; have q3 := hc21__14; have q4 := hc27__16; simp only [Int32.lt_iff_toInt_lt, ← Int32.toInt_inj, show (9 : Int32).toInt = 9 from rfl, show (32 : Int32).toInt = 32 from rfl, show (55295 : Int32).toInt = 55295 from rfl, show (57344 : Int32).toInt = 57344 from rfl, show (65533 : Int32).toInt = 65533 from rfl, show (65536 : Int32).toInt = 65536 from rfl] at q0 q1 q2 q3 q4 ⊢; omega : ¬ (p1 = (9 : Int32)))).1 ?_
              show Steps p.tables e below (s₁.setTop (mkF m 42 #[.val (.int p1)] [])) _
              refine XS.iloadN X0.here hx rfl (hb hby d1_42) rfl ?_
              show Steps p.tables e below (s₁.setTop (mkF m 43 #[.val (.int p1)] [(.int p1)])) _
              refine XS.bipush X0.here hx rfl (hb hby d1_43) ?_
              show Steps p.tables e below (s₁.setTop (mkF m 45 #[.val (.int p1)] [(.int (10 : Int32)), (.int p1)])) _
              refine XS.icmpNo X0.here hx rfl (hb hby d1_45) rfl (feq (by have q0 := hc3__2; have q1 := hc9__10; have q2 := hc15__12; have q3 := hc21__14; have q4 := hc27__16; simp only [Int32.lt_iff_toInt_lt, ← Int32.toInt_inj, show (10 : Int32).toInt = 10 from rfl, show (32 : Int32).toInt = 32 from rfl, show (55295 : Int32).toInt = 55295 from rfl, show (57344 : Int32).toInt = 57344 from rfl, show (65533 : Int32).toInt = 65533 from rfl, show (65536 : Int32).toInt = 65536 from rfl] at q0 q1 q2 q3 q4 ⊢; omega : ¬ (p1 = (10 : Int32)))).1 ?_
              show Steps p.tables e below (s₁.setTop (mkF m 48 #[.val (.int p1)] [])) _
              refine XS.iloadN X0.here hx rfl (hb hby d1_48) rfl ?_
              show Steps p.tables e below (s₁.setTop (mkF m 49 #[.val (.int p1)] [(.int p1)])) _
              refine XS.bipush X0.here hx rfl (hb hby d1_49) ?_
              show Steps p.tables e below (s₁.setTop (mkF m 51 #[.val (.int p1)] [(.int (13 : Int32)), (.int p1)])) _
              refine XS.icmpYes X0.here hx rfl (pc0 := 51) (pc' := 58) rfl (hb hby d1_51) rfl (feq (by have q0 := hc3__2; have q1 := hc9__10; have q2 := hc15__12; have q3 := hc21__14; have q4 := hc27__16; simp only [Int32.lt_iff_toInt_lt, ← Int32.toInt_inj, show (13 : Int32).toInt = 13 from rfl, show (32 : Int32).toInt = 32 from rfl, show (55295 : Int32).toInt = 55295 from rfl, show (57344 : Int32).toInt = 57344 from rfl, show (65533 : Int32).toInt = 65533 from rfl, show (65536 : Int32).toInt = 65536 from rfl] at q0 q1 q2 q3 q4 ⊢; omega : ¬ (p1 = (13 : Int32)))).2 (by decide) (by decide) ?_
              show Steps p.tables e below (s₁.setTop (mkF m 58 #[.val (.int p1)] [])) _
              refine XS.iconst X0.here hx rfl (hb hby d1_58) ?_
              show Steps p.tables e below (s₁.setTop (mkF m 59 #[.val (.int p1)] [(.int (0 : Int32))])) _
              exact retN X0 hx (t := .boolean) Bd.returns (by simp) (hb hby d1_59) hr
            · show Q1 Z p1 h0 n0 _ s₁.heap _
              rw [e0]
              exact ⟨(congrArg (fun z => some (Value.int z)) (by simp only [own_is, if_neg hc3__2, if_pos hc9__10, if_neg hc15__12, if_pos hc21__14, if_pos hc27__16] : (0 : Int32) = (own_is p1))), N0, rfl⟩
          · have pre_17 : ∀ t, Steps p.tables e below (s₁.setTop (mkF m 33 #[.val (.int p1)] [(.int (1114111 : Int32)), (.int p1)])) t → Steps p.tables e below (s₁.setTop (entryFrame m #[(.int p1)] 1)) t := fun t k => pre_15 t (by
                show Steps p.tables e below (s₁.setTop (mkF m 27 #[.val (.int p1)] [(.int (65536 : Int32)), (.int p1)])) _
                refine XS.icmpNo X0.here hx rfl (hb hby d1_27) rfl (flt hc27__16).1 ?_
                show Steps p.tables e below (s₁.setTop (mkF m 30 #[.val (.int p1)] [])) _
                refine XS.iloadN X0.here hx rfl (hb hby d1_30) rfl ?_
                show Steps p.tables e below (s₁.setTop (mkF m 31 #[.val (.int p1)] [(.int p1)])) _
                refine X0.ldcInt hx hown (mvT hZ (hw _ (List.mem_of_getElem? (i := 25) rfl))) (g := (mkF m 31 #[.val (.int p1)] [(.int p1)])) rfl (hb hby d1_31) _ ?_
                exact k)
            by_cases hc33__18 : (1114111 : Int32) < p1
            · obtain ⟨fs, hr, hrun, hended, hW, hsame⟩ := X0.leave (v := some (.int (0 : Int32))) (fun h => by rw [Bd.returns] at h; cases h)
              refine ⟨_, _, pre_17 _ ?_, hrun, hended, _, _, rfl, ?_, ⟨_, rfl⟩, hW, hsame.mono (by decide) (by decide)⟩
              · show Steps p.tables e below (s₁.setTop (mkF m 33 #[.val (.int p1)] [(.int (1114111 : Int32)), (.int p1)])) _
                refine XS.icmpNo X0.here hx rfl (hb hby d1_33) rfl (tlt hc33__18).2.2.2 ?_
                show Steps p.tables e below (s₁.setTop (mkF m 36 #[.val (.int p1)] [])) _
                refine XS.iloadN X0.here hx rfl (hb hby d1_36) rfl ?_
                show Steps p.tables e below (s₁.setTop (mkF m 37 #[.val (.int p1)] [(.int p1)])) _
                refine XS.bipush X0.here hx rfl (hb hby d1_37) ?_
                show Steps p.tables e below (s₁.setTop (mkF m 39 #[.val (.int p1)] [(.int (9 : Int32)), (.int p1)])) _
                refine XS.icmpNo X0.here hx rfl (hb hby d1_39) rfl (feq (by have q0 := hc3__2; have q1 := hc9__10; have q2 := hc15__12; have q3 := hc21__14; have q4 := hc27__16; have q5 := hc33__18; simp only [Int32.lt_iff_toInt_lt, ← Int32.toInt_inj, show (9 : Int32).toInt = 9 from rfl, show (32 : Int32).toInt = 32 from rfl, show (55295 : Int32).toInt = 55295 from rfl, show (57344 : Int32).toInt = 57344 from rfl, show (65533 : Int32).toInt = 65533 from rfl, show (65536 : Int32).toInt = 65536 from rfl, show (1114111 : Int32).toInt = 1114111 from rfl] at q0 q1 q2 q3 q4 q5 ⊢; omega : ¬ (p1 = (9 : Int32)))).1 ?_
                show Steps p.tables e below (s₁.setTop (mkF m 42 #[.val (.int p1)] [])) _
                refine XS.iloadN X0.here hx rfl (hb hby d1_42) rfl ?_
                show Steps p.tables e below (s₁.setTop (mkF m 43 #[.val (.int p1)] [(.int p1)])) _
                refine XS.bipush X0.here hx rfl (hb hby d1_43) ?_
                show Steps p.tables e below (s₁.setTop (mkF m 45 #[.val (.int p1)] [(.int (10 : Int32)), (.int p1)])) _
                refine XS.icmpNo X0.here hx rfl (hb hby d1_45) rfl (feq (by have q0 := hc3__2; have q1 := hc9__10; have q2 := hc15__12; have q3 := hc21__14; have q4 := hc27__16; have q5 := hc33__18; simp only [Int32.lt_iff_toInt_lt, ← Int32.toInt_inj, show (10 : Int32).toInt = 10 from rfl, show (32 : Int32).toInt = 32 from rfl, show (55295 : Int32).toInt = 55295 from rfl, show (57344 : Int32).toInt = 57344 from rfl, show (65533 : Int32).toInt = 65533 from rfl, show (65536 : Int32).toInt = 65536 from rfl, show (1114111 : Int32).toInt = 1114111 from rfl] at q0 q1 q2 q3 q4 q5 ⊢; omega : ¬ (p1 = (10 : Int32)))).1 ?_
                show Steps p.tables e below (s₁.setTop (mkF m 48 #[.val (.int p1)] [])) _
                refine XS.iloadN X0.here hx rfl (hb hby d1_48) rfl ?_
                show Steps p.tables e below (s₁.setTop (mkF m 49 #[.val (.int p1)] [(.int p1)])) _
                refine XS.bipush X0.here hx rfl (hb hby d1_49) ?_
                show Steps p.tables e below (s₁.setTop (mkF m 51 #[.val (.int p1)] [(.int (13 : Int32)), (.int p1)])) _
                refine XS.icmpYes X0.here hx rfl (pc0 := 51) (pc' := 58) rfl (hb hby d1_51) rfl (feq (by have q0 := hc3__2; have q1 := hc9__10; have q2 := hc15__12; have q3 := hc21__14; have q4 := hc27__16; have q5 := hc33__18; simp only [Int32.lt_iff_toInt_lt, ← Int32.toInt_inj, show (13 : Int32).toInt = 13 from rfl, show (32 : Int32).toInt = 32 from rfl, show (55295 : Int32).toInt = 55295 from rfl, show (57344 : Int32).toInt = 57344 from rfl, show (65533 : Int32).toInt = 65533 from rfl, show (65536 : Int32).toInt = 65536 from rfl, show (1114111 : Int32).toInt = 1114111 from rfl] at q0 q1 q2 q3 q4 q5 ⊢; omega : ¬ (p1 = (13 : Int32)))).2 (by decide) (by decide) ?_
                show Steps p.tables e below (s₁.setTop (mkF m 58 #[.val (.int p1)] [])) _
                refine XS.iconst X0.here hx rfl (hb hby d1_58) ?_
                show Steps p.tables e below (s₁.setTop (mkF m 59 #[.val (.int p1)] [(.int (0 : Int32))])) _
                exact retN X0 hx (t := .boolean) Bd.returns (by simp) (hb hby d1_59) hr
              · show Q1 Z p1 h0 n0 _ s₁.heap _
                rw [e0]
                exact ⟨(congrArg (fun z => some (Value.int z)) (by simp only [own_is, if_neg hc3__2, if_pos hc9__10, if_neg hc15__12, if_pos hc21__14, if_neg hc27__16, if_pos hc33__18] : (0 : Int32) = (own_is p1))), N0, rfl⟩
            · obtain ⟨fs, hr, hrun, hended, hW, hsame⟩ := X0.leave (v := some (.int (1 : Int32))) (fun h => by rw [Bd.returns] at h; cases h)
              refine ⟨_, _, pre_17 _ ?_, hrun, hended, _, _, rfl, ?_, ⟨_, rfl⟩, hW, hsame.mono (by decide) (by decide)⟩
              · show Steps p.tables e below (s₁.setTop (mkF m 33 #[.val (.int p1)] [(.int (1114111 : Int32)), (.int p1)])) _
                refine XS.icmpYes X0.here hx rfl (pc0 := 33) (pc' := 54) rfl (hb hby d1_33) rfl (flt hc33__18).2.2.2 (by decide) (by decide) ?_
                show Steps p.tables e below (s₁.setTop (mkF m 54 #[.val (.int p1)] [])) _
                refine XS.iconst X0.here hx rfl (hb hby d1_54) ?_
                show Steps p.tables e below (s₁.setTop (mkF m 55 #[.val (.int p1)] [(.int (1 : Int32))])) _
                refine XS.goto X0.here hx rfl (pc0 := 55) (pc' := 59) rfl (hb hby d1_55) (by decide) (by decide) ?_
                show Steps p.tables e below (s₁.setTop (mkF m 59 #[.val (.int p1)] [(.int (1 : Int32))])) _
                exact retN X0 hx (t := .boolean) Bd.returns (by simp) (hb hby d1_59) hr
              · show Q1 Z p1 h0 n0 _ s₁.heap _
                rw [e0]
                exact ⟨(congrArg (fun z => some (Value.int z)) (by simp only [own_is, if_neg hc3__2, if_pos hc9__10, if_neg hc15__12, if_pos hc21__14, if_neg hc27__16, if_neg hc33__18] : (1 : Int32) = (own_is p1))), N0, rfl⟩
        · obtain ⟨fs, hr, hrun, hended, hW, hsame⟩ := X0.leave (v := some (.int (1 : Int32))) (fun h => by rw [Bd.returns] at h; cases h)
          refine ⟨_, _, pre_13 _ ?_, hrun, hended, _, _, rfl, ?_, ⟨_, rfl⟩, hW, hsame.mono (by decide) (by decide)⟩
          · show Steps p.tables e below (s₁.setTop (mkF m 21 #[.val (.int p1)] [(.int (65533 : Int32)), (.int p1)])) _
            refine XS.icmpYes X0.here hx rfl (pc0 := 21) (pc' := 54) rfl (hb hby d1_21) rfl (flt hc21__14).2.2.2 (by decide) (by decide) ?_
            show Steps p.tables e below (s₁.setTop (mkF m 54 #[.val (.int p1)] [])) _
            refine XS.iconst X0.here hx rfl (hb hby d1_54) ?_
            show Steps p.tables e below (s₁.setTop (mkF m 55 #[.val (.int p1)] [(.int (1 : Int32))])) _
            refine XS.goto X0.here hx rfl (pc0 := 55) (pc' := 59) rfl (hb hby d1_55) (by decide) (by decide) ?_
            show Steps p.tables e below (s₁.setTop (mkF m 59 #[.val (.int p1)] [(.int (1 : Int32))])) _
            exact retN X0 hx (t := .boolean) Bd.returns (by simp) (hb hby d1_59) hr
          · show Q1 Z p1 h0 n0 _ s₁.heap _
            rw [e0]
            exact ⟨(congrArg (fun z => some (Value.int z)) (by simp only [own_is, if_neg hc3__2, if_pos hc9__10, if_neg hc15__12, if_neg hc21__14] : (1 : Int32) = (own_is p1))), N0, rfl⟩
    · obtain ⟨fs, hr, hrun, hended, hW, hsame⟩ := X0.leave (v := some (.int (1 : Int32))) (fun h => by rw [Bd.returns] at h; cases h)
      refine ⟨_, _, pre_9 _ ?_, hrun, hended, _, _, rfl, ?_, ⟨_, rfl⟩, hW, hsame.mono (by decide) (by decide)⟩
      · show Steps p.tables e below (s₁.setTop (mkF m 9 #[.val (.int p1)] [(.int (55295 : Int32)), (.int p1)])) _
        refine XS.icmpYes X0.here hx rfl (pc0 := 9) (pc' := 54) rfl (hb hby d1_9) rfl (flt hc9__10).2.2.2 (by decide) (by decide) ?_
        show Steps p.tables e below (s₁.setTop (mkF m 54 #[.val (.int p1)] [])) _
        refine XS.iconst X0.here hx rfl (hb hby d1_54) ?_
        show Steps p.tables e below (s₁.setTop (mkF m 55 #[.val (.int p1)] [(.int (1 : Int32))])) _
        refine XS.goto X0.here hx rfl (pc0 := 55) (pc' := 59) rfl (hb hby d1_55) (by decide) (by decide) ?_
        show Steps p.tables e below (s₁.setTop (mkF m 59 #[.val (.int p1)] [(.int (1 : Int32))])) _
        exact retN X0 hx (t := .boolean) Bd.returns (by simp) (hb hby d1_59) hr
      · show Q1 Z p1 h0 n0 _ s₁.heap _
        rw [e0]
        exact ⟨(congrArg (fun z => some (Value.int z)) (by simp only [own_is, if_neg hc3__2, if_neg hc9__10] : (1 : Int32) = (own_is p1))), N0, rfl⟩
def own_exp (p1 : Int32) : Int32 := (if p1 = (9 : Int32) then (1 : Int32) else (if p1 = (10 : Int32) then (1 : Int32) else (if p1 = (13 : Int32) then (1 : Int32) else (if p1 < (32 : Int32) then (0 : Int32) else (if (1114111 : Int32) < p1 then (0 : Int32) else (if p1 < (55296 : Int32) then (1 : Int32) else (if (57343 : Int32) < p1 then (if p1 = (65534 : Int32) then (0 : Int32) else (if p1 = (65535 : Int32) then (0 : Int32) else (1 : Int32))) else (0 : Int32))))))))
theorem d2_0 : decode method_2_code 0 = .ok (.iload_n 0, 1) := by decide +kernel
theorem d2_1 : decode method_2_code 1 = .ok (.bipush 9, 2) := by decide +kernel
theorem d2_3 : decode method_2_code 3 = .ok (.if_icmp .eq 15, 3) := by decide +kernel
theorem d2_6 : decode method_2_code 6 = .ok (.iload_n 0, 1) := by decide +kernel
theorem d2_7 : decode method_2_code 7 = .ok (.bipush 10, 2) := by decide +kernel
theorem d2_9 : decode method_2_code 9 = .ok (.if_icmp .eq 9, 3) := by decide +kernel
theorem d2_12 : decode method_2_code 12 = .ok (.iload_n 0, 1) := by decide +kernel
theorem d2_13 : decode method_2_code 13 = .ok (.bipush 13, 2) := by decide +kernel
theorem d2_15 : decode method_2_code 15 = .ok (.if_icmp .ne 5, 3) := by decide +kernel
theorem d2_18 : decode method_2_code 18 = .ok (.iconst 1, 1) := by decide +kernel
theorem d2_19 : decode method_2_code 19 = .ok (.ireturn, 1) := by decide +kernel
theorem d2_20 : decode method_2_code 20 = .ok (.iload_n 0, 1) := by decide +kernel
theorem d2_21 : decode method_2_code 21 = .ok (.bipush 32, 2) := by decide +kernel
theorem d2_23 : decode method_2_code 23 = .ok (.if_icmp .lt 9, 3) := by decide +kernel
theorem d2_26 : decode method_2_code 26 = .ok (.iload_n 0, 1) := by decide +kernel
theorem d2_27 : decode method_2_code 27 = .ok (.ldc 7, 2) := by decide +kernel
theorem d2_29 : decode method_2_code 29 = .ok (.if_icmp .le 5, 3) := by decide +kernel
theorem d2_32 : decode method_2_code 32 = .ok (.iconst 0, 1) := by decide +kernel
theorem d2_33 : decode method_2_code 33 = .ok (.ireturn, 1) := by decide +kernel
theorem d2_34 : decode method_2_code 34 = .ok (.iload_n 0, 1) := by decide +kernel
theorem d2_35 : decode method_2_code 35 = .ok (.ldc 8, 2) := by decide +kernel
theorem d2_37 : decode method_2_code 37 = .ok (.if_icmp .lt 11, 3) := by decide +kernel
theorem d2_40 : decode method_2_code 40 = .ok (.iload_n 0, 1) := by decide +kernel
theorem d2_41 : decode method_2_code 41 = .ok (.ldc 9, 2) := by decide +kernel
theorem d2_43 : decode method_2_code 43 = .ok (.if_icmp .gt 5, 3) := by decide +kernel
theorem d2_46 : decode method_2_code 46 = .ok (.iconst 0, 1) := by decide +kernel
theorem d2_47 : decode method_2_code 47 = .ok (.ireturn, 1) := by decide +kernel
theorem d2_48 : decode method_2_code 48 = .ok (.iload_n 0, 1) := by decide +kernel
theorem d2_49 : decode method_2_code 49 = .ok (.ldc 10, 2) := by decide +kernel
theorem d2_51 : decode method_2_code 51 = .ok (.if_icmp .eq 9, 3) := by decide +kernel
theorem d2_54 : decode method_2_code 54 = .ok (.iload_n 0, 1) := by decide +kernel
theorem d2_55 : decode method_2_code 55 = .ok (.ldc 11, 2) := by decide +kernel
theorem d2_57 : decode method_2_code 57 = .ok (.if_icmp .ne 5, 3) := by decide +kernel
theorem d2_60 : decode method_2_code 60 = .ok (.iconst 0, 1) := by decide +kernel
theorem d2_61 : decode method_2_code 61 = .ok (.ireturn, 1) := by decide +kernel
theorem d2_62 : decode method_2_code 62 = .ok (.iconst 1, 1) := by decide +kernel
theorem d2_63 : decode method_2_code 63 = .ok (.ireturn, 1) := by decide +kernel
theorem pn_2 : plainName "com/example/xpoch/xpoch/model/XmlGrammarIsCharacterPinLaw" = true := by first | (simp [plainName, overriddenIn]; done) | decide +kernel
theorem ef_2 (m : MethodId) (x0 : Int32) : entryFrame m #[(.int x0)] 1 = mkF m 0 #[.val (.int x0)] [] := by first | (simp [entryFrame, mkF, argsToLocals, Value.category]; done) | rfl
def Q2 (Z : State) (p1 : Int32) (h0 : Heap) (n0 : Nat) (v : Option Value) (h : Heap) (L : List Loc) : Prop := v = some (.int (own_exp p1)) ∧ Fr n0 L ∧ h = h0
set_option maxRecDepth 65536 in
set_option maxHeartbeats 40000000 in
theorem rm2 (l : Launch) (Z : State) (a0 : Array Value) (hw : ∀ d ∈ tables_1, d.before a0 Z = true) (ws : List Jvm.Cond) (p1 : Int32) (h0 : Heap) (n0 : Nat) (Z0 : n0 ≤ h0.size)  :
    MetFree l (⟨"com/example/xpoch/xpoch/model/XmlGrammarIsCharacterPinLaw", "expected", "(I)Z"⟩ : MethodName) (head1 (Jvm.Cond.code (⟨"com/example/xpoch/xpoch/model/XmlGrammarIsCharacterPinLaw", "expected", "(I)Z"⟩ : MethodName) method_2_code 1 (some .boolean) :: ws) ({ frames := 0, cells := 0, slots := 0, locals := 0 } : Room)) (fun a U => a = #[(.int p1)] ∧ Z.Warmed39 U.vm ∧ U.heap = h0) (fun _ _ _ _ _ => True) (fun _ U o U' => ∃ v L, o = .returned v ∧ Q2 Z p1 h0 n0 v U'.heap L ∧ FrameEnd U o U' L ({ frames := 0, cells := 0, slots := 0, locals := 0 } : Room).cells ({ frames := 0, cells := 0, slots := 0, locals := 0 } : Room).slots) := by
  refine MetFree.of_bodySF (plainFor_of_name pn_2) hisR ?_
  intro p e s m args below meth c s₁ Bd hml0 hP hK
  obtain ⟨rfl, hZ, hh⟩ := hP
  have hx := Bd.exec
  have hby := Bd.bytes
  have hml : c.maxLocals = 1 := hml0
  have hown : s.vm.findClass "com/example/xpoch/xpoch/model/XmlGrammarIsCharacterPinLaw" = some m.cls := findClass_of_methodNamed Bd.named
  have hnm := (name_of_methodNamed Bd.named Bd.method).1
  have X0 : Stand p l e ({ frames := 0, cells := 0, slots := 0, locals := 0 } : Room) s m #[(.int p1)] below meth c s₁ [] 0 0 := Stand.of_body Bd
  have e0 : s₁.heap = h0 := by rw [← hh, Bd.state]; rfl
  have N0 := Fr.nil n0
  have pre0 : ∀ t, Steps p.tables e below (s₁.setTop (mkF m 0 #[.val (.int p1)] [])) t → Steps p.tables e below (s₁.setTop (entryFrame m #[(.int p1)] 1)) t := fun t k => castTop (ef_2 m p1) k
  have pre_19 : ∀ t, Steps p.tables e below (s₁.setTop (mkF m 3 #[.val (.int p1)] [(.int (9 : Int32)), (.int p1)])) t → Steps p.tables e below (s₁.setTop (entryFrame m #[(.int p1)] 1)) t := fun t k => pre0 t (by
      show Steps p.tables e below (s₁.setTop (mkF m 0 #[.val (.int p1)] [])) _
      refine XS.iloadN X0.here hx rfl (hb hby d2_0) rfl ?_
      show Steps p.tables e below (s₁.setTop (mkF m 1 #[.val (.int p1)] [(.int p1)])) _
      refine XS.bipush X0.here hx rfl (hb hby d2_1) ?_
      exact k)
  by_cases hc3__20 : p1 = (9 : Int32)
  · obtain ⟨fs, hr, hrun, hended, hW, hsame⟩ := X0.leave (v := some (.int (1 : Int32))) (fun h => by rw [Bd.returns] at h; cases h)
    refine ⟨_, _, pre_19 _ ?_, hrun, hended, _, _, rfl, ?_, ⟨_, rfl⟩, hW, hsame.mono (by decide) (by decide)⟩
    · show Steps p.tables e below (s₁.setTop (mkF m 3 #[.val (.int p1)] [(.int (9 : Int32)), (.int p1)])) _
      refine XS.icmpYes X0.here hx rfl (pc0 := 3) (pc' := 18) rfl (hb hby d2_3) rfl (teq hc3__20).1 (by decide) (by decide) ?_
      show Steps p.tables e below (s₁.setTop (mkF m 18 #[.val (.int p1)] [])) _
      refine XS.iconst X0.here hx rfl (hb hby d2_18) ?_
      show Steps p.tables e below (s₁.setTop (mkF m 19 #[.val (.int p1)] [(.int (1 : Int32))])) _
      exact retN X0 hx (t := .boolean) Bd.returns (by simp) (hb hby d2_19) hr
    · show Q2 Z p1 h0 n0 _ s₁.heap _
      rw [e0]
      exact ⟨(congrArg (fun z => some (Value.int z)) (by simp only [own_exp, if_pos hc3__20] : (1 : Int32) = (own_exp p1))), N0, rfl⟩
  · have pre_21 : ∀ t, Steps p.tables e below (s₁.setTop (mkF m 9 #[.val (.int p1)] [(.int (10 : Int32)), (.int p1)])) t → Steps p.tables e below (s₁.setTop (entryFrame m #[(.int p1)] 1)) t := fun t k => pre_19 t (by
        show Steps p.tables e below (s₁.setTop (mkF m 3 #[.val (.int p1)] [(.int (9 : Int32)), (.int p1)])) _
        refine XS.icmpNo X0.here hx rfl (hb hby d2_3) rfl (feq hc3__20).1 ?_
        show Steps p.tables e below (s₁.setTop (mkF m 6 #[.val (.int p1)] [])) _
        refine XS.iloadN X0.here hx rfl (hb hby d2_6) rfl ?_
        show Steps p.tables e below (s₁.setTop (mkF m 7 #[.val (.int p1)] [(.int p1)])) _
        refine XS.bipush X0.here hx rfl (hb hby d2_7) ?_
        exact k)
    by_cases hc9__22 : p1 = (10 : Int32)
    · obtain ⟨fs, hr, hrun, hended, hW, hsame⟩ := X0.leave (v := some (.int (1 : Int32))) (fun h => by rw [Bd.returns] at h; cases h)
      refine ⟨_, _, pre_21 _ ?_, hrun, hended, _, _, rfl, ?_, ⟨_, rfl⟩, hW, hsame.mono (by decide) (by decide)⟩
      · show Steps p.tables e below (s₁.setTop (mkF m 9 #[.val (.int p1)] [(.int (10 : Int32)), (.int p1)])) _
        refine XS.icmpYes X0.here hx rfl (pc0 := 9) (pc' := 18) rfl (hb hby d2_9) rfl (teq hc9__22).1 (by decide) (by decide) ?_
        show Steps p.tables e below (s₁.setTop (mkF m 18 #[.val (.int p1)] [])) _
        refine XS.iconst X0.here hx rfl (hb hby d2_18) ?_
        show Steps p.tables e below (s₁.setTop (mkF m 19 #[.val (.int p1)] [(.int (1 : Int32))])) _
        exact retN X0 hx (t := .boolean) Bd.returns (by simp) (hb hby d2_19) hr
      · show Q2 Z p1 h0 n0 _ s₁.heap _
        rw [e0]
        exact ⟨(congrArg (fun z => some (Value.int z)) (by simp only [own_exp, if_neg hc3__20, if_pos hc9__22] : (1 : Int32) = (own_exp p1))), N0, rfl⟩
    · have pre_23 : ∀ t, Steps p.tables e below (s₁.setTop (mkF m 15 #[.val (.int p1)] [(.int (13 : Int32)), (.int p1)])) t → Steps p.tables e below (s₁.setTop (entryFrame m #[(.int p1)] 1)) t := fun t k => pre_21 t (by
          show Steps p.tables e below (s₁.setTop (mkF m 9 #[.val (.int p1)] [(.int (10 : Int32)), (.int p1)])) _
          refine XS.icmpNo X0.here hx rfl (hb hby d2_9) rfl (feq hc9__22).1 ?_
          show Steps p.tables e below (s₁.setTop (mkF m 12 #[.val (.int p1)] [])) _
          refine XS.iloadN X0.here hx rfl (hb hby d2_12) rfl ?_
          show Steps p.tables e below (s₁.setTop (mkF m 13 #[.val (.int p1)] [(.int p1)])) _
          refine XS.bipush X0.here hx rfl (hb hby d2_13) ?_
          exact k)
      by_cases hc15__24 : p1 = (13 : Int32)
      · obtain ⟨fs, hr, hrun, hended, hW, hsame⟩ := X0.leave (v := some (.int (1 : Int32))) (fun h => by rw [Bd.returns] at h; cases h)
        refine ⟨_, _, pre_23 _ ?_, hrun, hended, _, _, rfl, ?_, ⟨_, rfl⟩, hW, hsame.mono (by decide) (by decide)⟩
        · show Steps p.tables e below (s₁.setTop (mkF m 15 #[.val (.int p1)] [(.int (13 : Int32)), (.int p1)])) _
          refine XS.icmpNo X0.here hx rfl (hb hby d2_15) rfl (teq hc15__24).2 ?_
          show Steps p.tables e below (s₁.setTop (mkF m 18 #[.val (.int p1)] [])) _
          refine XS.iconst X0.here hx rfl (hb hby d2_18) ?_
          show Steps p.tables e below (s₁.setTop (mkF m 19 #[.val (.int p1)] [(.int (1 : Int32))])) _
          exact retN X0 hx (t := .boolean) Bd.returns (by simp) (hb hby d2_19) hr
        · show Q2 Z p1 h0 n0 _ s₁.heap _
          rw [e0]
          exact ⟨(congrArg (fun z => some (Value.int z)) (by simp only [own_exp, if_neg hc3__20, if_neg hc9__22, if_pos hc15__24] : (1 : Int32) = (own_exp p1))), N0, rfl⟩
      · have pre_25 : ∀ t, Steps p.tables e below (s₁.setTop (mkF m 23 #[.val (.int p1)] [(.int (32 : Int32)), (.int p1)])) t → Steps p.tables e below (s₁.setTop (entryFrame m #[(.int p1)] 1)) t := fun t k => pre_23 t (by
            show Steps p.tables e below (s₁.setTop (mkF m 15 #[.val (.int p1)] [(.int (13 : Int32)), (.int p1)])) _
            refine XS.icmpYes X0.here hx rfl (pc0 := 15) (pc' := 20) rfl (hb hby d2_15) rfl (feq hc15__24).2 (by decide) (by decide) ?_
            show Steps p.tables e below (s₁.setTop (mkF m 20 #[.val (.int p1)] [])) _
            refine XS.iloadN X0.here hx rfl (hb hby d2_20) rfl ?_
            show Steps p.tables e below (s₁.setTop (mkF m 21 #[.val (.int p1)] [(.int p1)])) _
            refine XS.bipush X0.here hx rfl (hb hby d2_21) ?_
            exact k)
        by_cases hc23__26 : p1 < (32 : Int32)
        · obtain ⟨fs, hr, hrun, hended, hW, hsame⟩ := X0.leave (v := some (.int (0 : Int32))) (fun h => by rw [Bd.returns] at h; cases h)
          refine ⟨_, _, pre_25 _ ?_, hrun, hended, _, _, rfl, ?_, ⟨_, rfl⟩, hW, hsame.mono (by decide) (by decide)⟩
          · show Steps p.tables e below (s₁.setTop (mkF m 23 #[.val (.int p1)] [(.int (32 : Int32)), (.int p1)])) _
            refine XS.icmpYes X0.here hx rfl (pc0 := 23) (pc' := 32) rfl (hb hby d2_23) rfl (tlt hc23__26).1 (by decide) (by decide) ?_
            show Steps p.tables e below (s₁.setTop (mkF m 32 #[.val (.int p1)] [])) _
            refine XS.iconst X0.here hx rfl (hb hby d2_32) ?_
            show Steps p.tables e below (s₁.setTop (mkF m 33 #[.val (.int p1)] [(.int (0 : Int32))])) _
            exact retN X0 hx (t := .boolean) Bd.returns (by simp) (hb hby d2_33) hr
          · show Q2 Z p1 h0 n0 _ s₁.heap _
            rw [e0]
            exact ⟨(congrArg (fun z => some (Value.int z)) (by simp only [own_exp, if_neg hc3__20, if_neg hc9__22, if_neg hc15__24, if_pos hc23__26] : (0 : Int32) = (own_exp p1))), N0, rfl⟩
        · have pre_27 : ∀ t, Steps p.tables e below (s₁.setTop (mkF m 29 #[.val (.int p1)] [(.int (1114111 : Int32)), (.int p1)])) t → Steps p.tables e below (s₁.setTop (entryFrame m #[(.int p1)] 1)) t := fun t k => pre_25 t (by
              show Steps p.tables e below (s₁.setTop (mkF m 23 #[.val (.int p1)] [(.int (32 : Int32)), (.int p1)])) _
              refine XS.icmpNo X0.here hx rfl (hb hby d2_23) rfl (flt hc23__26).1 ?_
              show Steps p.tables e below (s₁.setTop (mkF m 26 #[.val (.int p1)] [])) _
              refine XS.iloadN X0.here hx rfl (hb hby d2_26) rfl ?_
              show Steps p.tables e below (s₁.setTop (mkF m 27 #[.val (.int p1)] [(.int p1)])) _
              refine X0.ldcInt hx hown (mvT hZ (hw _ (List.mem_of_getElem? (i := 9) rfl))) (g := (mkF m 27 #[.val (.int p1)] [(.int p1)])) rfl (hb hby d2_27) _ ?_
              exact k)
          by_cases hc29__28 : (1114111 : Int32) < p1
          · obtain ⟨fs, hr, hrun, hended, hW, hsame⟩ := X0.leave (v := some (.int (0 : Int32))) (fun h => by rw [Bd.returns] at h; cases h)
            refine ⟨_, _, pre_27 _ ?_, hrun, hended, _, _, rfl, ?_, ⟨_, rfl⟩, hW, hsame.mono (by decide) (by decide)⟩
            · show Steps p.tables e below (s₁.setTop (mkF m 29 #[.val (.int p1)] [(.int (1114111 : Int32)), (.int p1)])) _
              refine XS.icmpNo X0.here hx rfl (hb hby d2_29) rfl (tlt hc29__28).2.2.2 ?_
              show Steps p.tables e below (s₁.setTop (mkF m 32 #[.val (.int p1)] [])) _
              refine XS.iconst X0.here hx rfl (hb hby d2_32) ?_
              show Steps p.tables e below (s₁.setTop (mkF m 33 #[.val (.int p1)] [(.int (0 : Int32))])) _
              exact retN X0 hx (t := .boolean) Bd.returns (by simp) (hb hby d2_33) hr
            · show Q2 Z p1 h0 n0 _ s₁.heap _
              rw [e0]
              exact ⟨(congrArg (fun z => some (Value.int z)) (by simp only [own_exp, if_neg hc3__20, if_neg hc9__22, if_neg hc15__24, if_neg hc23__26, if_pos hc29__28] : (0 : Int32) = (own_exp p1))), N0, rfl⟩
          · have pre_29 : ∀ t, Steps p.tables e below (s₁.setTop (mkF m 37 #[.val (.int p1)] [(.int (55296 : Int32)), (.int p1)])) t → Steps p.tables e below (s₁.setTop (entryFrame m #[(.int p1)] 1)) t := fun t k => pre_27 t (by
                show Steps p.tables e below (s₁.setTop (mkF m 29 #[.val (.int p1)] [(.int (1114111 : Int32)), (.int p1)])) _
                refine XS.icmpYes X0.here hx rfl (pc0 := 29) (pc' := 34) rfl (hb hby d2_29) rfl (flt hc29__28).2.2.2 (by decide) (by decide) ?_
                show Steps p.tables e below (s₁.setTop (mkF m 34 #[.val (.int p1)] [])) _
                refine XS.iloadN X0.here hx rfl (hb hby d2_34) rfl ?_
                show Steps p.tables e below (s₁.setTop (mkF m 35 #[.val (.int p1)] [(.int p1)])) _
                refine X0.ldcInt hx hown (mvT hZ (hw _ (List.mem_of_getElem? (i := 2) rfl))) (g := (mkF m 35 #[.val (.int p1)] [(.int p1)])) rfl (hb hby d2_35) _ ?_
                exact k)
            by_cases hc37__30 : p1 < (55296 : Int32)
            · obtain ⟨fs, hr, hrun, hended, hW, hsame⟩ := X0.leave (v := some (.int (1 : Int32))) (fun h => by rw [Bd.returns] at h; cases h)
              refine ⟨_, _, pre_29 _ ?_, hrun, hended, _, _, rfl, ?_, ⟨_, rfl⟩, hW, hsame.mono (by decide) (by decide)⟩
              · show Steps p.tables e below (s₁.setTop (mkF m 37 #[.val (.int p1)] [(.int (55296 : Int32)), (.int p1)])) _
                refine XS.icmpYes X0.here hx rfl (pc0 := 37) (pc' := 48) rfl (hb hby d2_37) rfl (tlt hc37__30).1 (by decide) (by decide) ?_
                show Steps p.tables e below (s₁.setTop (mkF m 48 #[.val (.int p1)] [])) _
                refine XS.iloadN X0.here hx rfl (hb hby d2_48) rfl ?_
                show Steps p.tables e below (s₁.setTop (mkF m 49 #[.val (.int p1)] [(.int p1)])) _
                refine X0.ldcInt hx hown (mvT hZ (hw _ (List.mem_of_getElem? (i := 6) rfl))) (g := (mkF m 49 #[.val (.int p1)] [(.int p1)])) rfl (hb hby d2_49) _ ?_
                show Steps p.tables e below (s₁.setTop (mkF m 51 #[.val (.int p1)] [(.int (65534 : Int32)), (.int p1)])) _
                refine XS.icmpNo X0.here hx rfl (hb hby d2_51) rfl (feq (by have q0 := hc3__20; have q1 := hc9__22; have q2 := hc15__24; have q3 := hc23__26; have q4 := hc29__28; have q5 := hc37__30; simp only [Int32.lt_iff_toInt_lt, ← Int32.toInt_inj, show (9 : Int32).toInt = 9 from rfl, show (10 : Int32).toInt = 10 from rfl, show (13 : Int32).toInt = 13 from rfl, show (32 : Int32).toInt = 32 from rfl, show (55296 : Int32).toInt = 55296 from rfl, show (65534 : Int32).toInt = 65534 from rfl, show (1114111 : Int32).toInt = 1114111 from rfl] at q0 q1 q2 q3 q4 q5 ⊢; omega : ¬ (p1 = (65534 : Int32)))).1 ?_
                show Steps p.tables e below (s₁.setTop (mkF m 54 #[.val (.int p1)] [])) _
                refine XS.iloadN X0.here hx rfl (hb hby d2_54) rfl ?_
                show Steps p.tables e below (s₁.setTop (mkF m 55 #[.val (.int p1)] [(.int p1)])) _
                refine X0.ldcInt hx hown (mvT hZ (hw _ (List.mem_of_getElem? (i := 7) rfl))) (g := (mkF m 55 #[.val (.int p1)] [(.int p1)])) rfl (hb hby d2_55) _ ?_
                show Steps p.tables e below (s₁.setTop (mkF m 57 #[.val (.int p1)] [(.int (65535 : Int32)), (.int p1)])) _
                refine XS.icmpYes X0.here hx rfl (pc0 := 57) (pc' := 62) rfl (hb hby d2_57) rfl (feq (by have q0 := hc3__20; have q1 := hc9__22; have q2 := hc15__24; have q3 := hc23__26; have q4 := hc29__28; have q5 := hc37__30; simp only [Int32.lt_iff_toInt_lt, ← Int32.toInt_inj, show (9 : Int32).toInt = 9 from rfl, show (10 : Int32).toInt = 10 from rfl, show (13 : Int32).toInt = 13 from rfl, show (32 : Int32).toInt = 32 from rfl, show (55296 : Int32).toInt = 55296 from rfl, show (65535 : Int32).toInt = 65535 from rfl, show (1114111 : Int32).toInt = 1114111 from rfl] at q0 q1 q2 q3 q4 q5 ⊢; omega : ¬ (p1 = (65535 : Int32)))).2 (by decide) (by decide) ?_
                show Steps p.tables e below (s₁.setTop (mkF m 62 #[.val (.int p1)] [])) _
                refine XS.iconst X0.here hx rfl (hb hby d2_62) ?_
                show Steps p.tables e below (s₁.setTop (mkF m 63 #[.val (.int p1)] [(.int (1 : Int32))])) _
                exact retN X0 hx (t := .boolean) Bd.returns (by simp) (hb hby d2_63) hr
              · show Q2 Z p1 h0 n0 _ s₁.heap _
                rw [e0]
                exact ⟨(congrArg (fun z => some (Value.int z)) (by simp only [own_exp, if_neg hc3__20, if_neg hc9__22, if_neg hc15__24, if_neg hc23__26, if_neg hc29__28, if_pos hc37__30] : (1 : Int32) = (own_exp p1))), N0, rfl⟩
            · have pre_31 : ∀ t, Steps p.tables e below (s₁.setTop (mkF m 43 #[.val (.int p1)] [(.int (57343 : Int32)), (.int p1)])) t → Steps p.tables e below (s₁.setTop (entryFrame m #[(.int p1)] 1)) t := fun t k => pre_29 t (by
                  show Steps p.tables e below (s₁.setTop (mkF m 37 #[.val (.int p1)] [(.int (55296 : Int32)), (.int p1)])) _
                  refine XS.icmpNo X0.here hx rfl (hb hby d2_37) rfl (flt hc37__30).1 ?_
                  show Steps p.tables e below (s₁.setTop (mkF m 40 #[.val (.int p1)] [])) _
                  refine XS.iloadN X0.here hx rfl (hb hby d2_40) rfl ?_
                  show Steps p.tables e below (s₁.setTop (mkF m 41 #[.val (.int p1)] [(.int p1)])) _
                  refine X0.ldcInt hx hown (mvT hZ (hw _ (List.mem_of_getElem? (i := 3) rfl))) (g := (mkF m 41 #[.val (.int p1)] [(.int p1)])) rfl (hb hby d2_41) _ ?_
                  exact k)
              by_cases hc43__32 : (57343 : Int32) < p1
              · have pre_33 : ∀ t, Steps p.tables e below (s₁.setTop (mkF m 51 #[.val (.int p1)] [(.int (65534 : Int32)), (.int p1)])) t → Steps p.tables e below (s₁.setTop (entryFrame m #[(.int p1)] 1)) t := fun t k => pre_31 t (by
                    show Steps p.tables e below (s₁.setTop (mkF m 43 #[.val (.int p1)] [(.int (57343 : Int32)), (.int p1)])) _
                    refine XS.icmpYes X0.here hx rfl (pc0 := 43) (pc' := 48) rfl (hb hby d2_43) rfl (tlt hc43__32).2.2.1 (by decide) (by decide) ?_
                    show Steps p.tables e below (s₁.setTop (mkF m 48 #[.val (.int p1)] [])) _
                    refine XS.iloadN X0.here hx rfl (hb hby d2_48) rfl ?_
                    show Steps p.tables e below (s₁.setTop (mkF m 49 #[.val (.int p1)] [(.int p1)])) _
                    refine X0.ldcInt hx hown (mvT hZ (hw _ (List.mem_of_getElem? (i := 6) rfl))) (g := (mkF m 49 #[.val (.int p1)] [(.int p1)])) rfl (hb hby d2_49) _ ?_
                    exact k)
                by_cases hc51__34 : p1 = (65534 : Int32)
                · obtain ⟨fs, hr, hrun, hended, hW, hsame⟩ := X0.leave (v := some (.int (0 : Int32))) (fun h => by rw [Bd.returns] at h; cases h)
                  refine ⟨_, _, pre_33 _ ?_, hrun, hended, _, _, rfl, ?_, ⟨_, rfl⟩, hW, hsame.mono (by decide) (by decide)⟩
                  · show Steps p.tables e below (s₁.setTop (mkF m 51 #[.val (.int p1)] [(.int (65534 : Int32)), (.int p1)])) _
                    refine XS.icmpYes X0.here hx rfl (pc0 := 51) (pc' := 60) rfl (hb hby d2_51) rfl (teq hc51__34).1 (by decide) (by decide) ?_
                    show Steps p.tables e below (s₁.setTop (mkF m 60 #[.val (.int p1)] [])) _
                    refine XS.iconst X0.here hx rfl (hb hby d2_60) ?_
                    show Steps p.tables e below (s₁.setTop (mkF m 61 #[.val (.int p1)] [(.int (0 : Int32))])) _
                    exact retN X0 hx (t := .boolean) Bd.returns (by simp) (hb hby d2_61) hr
                  · show Q2 Z p1 h0 n0 _ s₁.heap _
                    rw [e0]
                    exact ⟨(congrArg (fun z => some (Value.int z)) (by simp only [own_exp, if_neg hc3__20, if_neg hc9__22, if_neg hc15__24, if_neg hc23__26, if_neg hc29__28, if_neg hc37__30, if_pos hc43__32, if_pos hc51__34] : (0 : Int32) = (own_exp p1))), N0, rfl⟩
                · have pre_35 : ∀ t, Steps p.tables e below (s₁.setTop (mkF m 57 #[.val (.int p1)] [(.int (65535 : Int32)), (.int p1)])) t → Steps p.tables e below (s₁.setTop (entryFrame m #[(.int p1)] 1)) t := fun t k => pre_33 t (by
                      show Steps p.tables e below (s₁.setTop (mkF m 51 #[.val (.int p1)] [(.int (65534 : Int32)), (.int p1)])) _
                      refine XS.icmpNo X0.here hx rfl (hb hby d2_51) rfl (feq hc51__34).1 ?_
                      show Steps p.tables e below (s₁.setTop (mkF m 54 #[.val (.int p1)] [])) _
                      refine XS.iloadN X0.here hx rfl (hb hby d2_54) rfl ?_
                      show Steps p.tables e below (s₁.setTop (mkF m 55 #[.val (.int p1)] [(.int p1)])) _
                      refine X0.ldcInt hx hown (mvT hZ (hw _ (List.mem_of_getElem? (i := 7) rfl))) (g := (mkF m 55 #[.val (.int p1)] [(.int p1)])) rfl (hb hby d2_55) _ ?_
                      exact k)
                  by_cases hc57__36 : p1 = (65535 : Int32)
                  · obtain ⟨fs, hr, hrun, hended, hW, hsame⟩ := X0.leave (v := some (.int (0 : Int32))) (fun h => by rw [Bd.returns] at h; cases h)
                    refine ⟨_, _, pre_35 _ ?_, hrun, hended, _, _, rfl, ?_, ⟨_, rfl⟩, hW, hsame.mono (by decide) (by decide)⟩
                    · show Steps p.tables e below (s₁.setTop (mkF m 57 #[.val (.int p1)] [(.int (65535 : Int32)), (.int p1)])) _
                      refine XS.icmpNo X0.here hx rfl (hb hby d2_57) rfl (teq hc57__36).2 ?_
                      show Steps p.tables e below (s₁.setTop (mkF m 60 #[.val (.int p1)] [])) _
                      refine XS.iconst X0.here hx rfl (hb hby d2_60) ?_
                      show Steps p.tables e below (s₁.setTop (mkF m 61 #[.val (.int p1)] [(.int (0 : Int32))])) _
                      exact retN X0 hx (t := .boolean) Bd.returns (by simp) (hb hby d2_61) hr
                    · show Q2 Z p1 h0 n0 _ s₁.heap _
                      rw [e0]
                      exact ⟨(congrArg (fun z => some (Value.int z)) (by simp only [own_exp, if_neg hc3__20, if_neg hc9__22, if_neg hc15__24, if_neg hc23__26, if_neg hc29__28, if_neg hc37__30, if_pos hc43__32, if_neg hc51__34, if_pos hc57__36] : (0 : Int32) = (own_exp p1))), N0, rfl⟩
                  · obtain ⟨fs, hr, hrun, hended, hW, hsame⟩ := X0.leave (v := some (.int (1 : Int32))) (fun h => by rw [Bd.returns] at h; cases h)
                    refine ⟨_, _, pre_35 _ ?_, hrun, hended, _, _, rfl, ?_, ⟨_, rfl⟩, hW, hsame.mono (by decide) (by decide)⟩
                    · show Steps p.tables e below (s₁.setTop (mkF m 57 #[.val (.int p1)] [(.int (65535 : Int32)), (.int p1)])) _
                      refine XS.icmpYes X0.here hx rfl (pc0 := 57) (pc' := 62) rfl (hb hby d2_57) rfl (feq hc57__36).2 (by decide) (by decide) ?_
                      show Steps p.tables e below (s₁.setTop (mkF m 62 #[.val (.int p1)] [])) _
                      refine XS.iconst X0.here hx rfl (hb hby d2_62) ?_
                      show Steps p.tables e below (s₁.setTop (mkF m 63 #[.val (.int p1)] [(.int (1 : Int32))])) _
                      exact retN X0 hx (t := .boolean) Bd.returns (by simp) (hb hby d2_63) hr
                    · show Q2 Z p1 h0 n0 _ s₁.heap _
                      rw [e0]
                      exact ⟨(congrArg (fun z => some (Value.int z)) (by simp only [own_exp, if_neg hc3__20, if_neg hc9__22, if_neg hc15__24, if_neg hc23__26, if_neg hc29__28, if_neg hc37__30, if_pos hc43__32, if_neg hc51__34, if_neg hc57__36] : (1 : Int32) = (own_exp p1))), N0, rfl⟩
              · obtain ⟨fs, hr, hrun, hended, hW, hsame⟩ := X0.leave (v := some (.int (0 : Int32))) (fun h => by rw [Bd.returns] at h; cases h)
                refine ⟨_, _, pre_31 _ ?_, hrun, hended, _, _, rfl, ?_, ⟨_, rfl⟩, hW, hsame.mono (by decide) (by decide)⟩
                · show Steps p.tables e below (s₁.setTop (mkF m 43 #[.val (.int p1)] [(.int (57343 : Int32)), (.int p1)])) _
                  refine XS.icmpNo X0.here hx rfl (hb hby d2_43) rfl (flt hc43__32).2.2.1 ?_
                  show Steps p.tables e below (s₁.setTop (mkF m 46 #[.val (.int p1)] [])) _
                  refine XS.iconst X0.here hx rfl (hb hby d2_46) ?_
                  show Steps p.tables e below (s₁.setTop (mkF m 47 #[.val (.int p1)] [(.int (0 : Int32))])) _
                  exact retN X0 hx (t := .boolean) Bd.returns (by simp) (hb hby d2_47) hr
                · show Q2 Z p1 h0 n0 _ s₁.heap _
                  rw [e0]
                  exact ⟨(congrArg (fun z => some (Value.int z)) (by simp only [own_exp, if_neg hc3__20, if_neg hc9__22, if_neg hc15__24, if_neg hc23__26, if_neg hc29__28, if_neg hc37__30, if_neg hc43__32] : (0 : Int32) = (own_exp p1))), N0, rfl⟩
theorem own_same (x : Int32) : own_is x = own_exp x := by
  simp only [own_is, own_exp, Int32.lt_iff_toInt_lt, ← Int32.toInt_inj, show (9 : Int32).toInt = 9 from rfl, show (10 : Int32).toInt = 10 from rfl, show (13 : Int32).toInt = 13 from rfl, show (32 : Int32).toInt = 32 from rfl, show (55295 : Int32).toInt = 55295 from rfl, show (55296 : Int32).toInt = 55296 from rfl, show (57343 : Int32).toInt = 57343 from rfl, show (57344 : Int32).toInt = 57344 from rfl, show (65533 : Int32).toInt = 65533 from rfl, show (65534 : Int32).toInt = 65534 from rfl, show (65535 : Int32).toInt = 65535 from rfl, show (65536 : Int32).toInt = 65536 from rfl, show (1114111 : Int32).toInt = 1114111 from rfl]
  generalize x.toInt = n
  repeat' split
  all_goals first | rfl | omega
theorem ef_0 (m : MethodId) (x0 : Int32) (x1 : Int32) (x2 : Int32) : entryFrame m #[(.int x0), (.int x1), (.int x2)] maxLocals = mkF m 0 #[.val (.int x0), .val (.int x1), .val (.int x2), .unset, .unset, .unset, .unset] [] := by first | (simp [entryFrame, mkF, argsToLocals, Value.category, maxLocals]; done) | rfl
def Q0 (Z : State) (p1 : Int32) (p2 : Int32) (p3 : Int32) (h0 : Heap) (n0 : Nat) (v : Option Value) (h : Heap) (L : List Loc) : Prop := v = some (.int (1 : Int32)) ∧ Fr n0 L
theorem pd_0 : parseMethodDescriptor "(I)Z" = some ⟨[.int], some .boolean⟩ := by decide +kernel
set_option maxRecDepth 65536 in
set_option maxHeartbeats 40000000 in
theorem rm0 (l : Launch) (Z : State) (a0 : Array Value) (hw : ∀ d ∈ tables_1, d.before a0 Z = true) (ws : List Jvm.Cond) (p1 : Int32) (p2 : Int32) (p3 : Int32) (h0 : Heap) (n0 : Nat) (Z0 : n0 ≤ h0.size)  :
    MetFree l x (head1 (Jvm.Cond.code x code maxLocals ret :: ws) room_1) (fun a U => a = #[(.int p1), (.int p2), (.int p3)] ∧ Z.Warmed39 U.vm ∧ U.heap = h0) (fun _ _ _ _ _ => True) (fun _ U o U' => ∃ v L, o = .returned v ∧ Q0 Z p1 p2 p3 h0 n0 v U'.heap L ∧ FrameEnd U o U' L room_1.cells room_1.slots) := by
  refine MetFree.of_bodySF (plainFor_of_name pn_2) hisR ?_
  intro p e s m args below meth c s₁ Bd hml0 hP hK
  obtain ⟨rfl, hZ, hh⟩ := hP
  have hx := Bd.exec
  have hby := Bd.bytes
  have hml : c.maxLocals = 7 := hml0
  have hown : s.vm.findClass "com/example/xpoch/xpoch/model/XmlGrammarIsCharacterPinLaw" = some m.cls := findClass_of_methodNamed Bd.named
  have hnm := (name_of_methodNamed Bd.named Bd.method).1
  have X0 : Stand p l e room_1 s m #[(.int p1), (.int p2), (.int p3)] below meth c s₁ [] 0 0 := Stand.of_body Bd
  have e0 : s₁.heap = h0 := by rw [← hh, Bd.state]; rfl
  have N0 := Fr.nil n0
  have pre0 : ∀ t, Steps p.tables e below (s₁.setTop (mkF m 0 #[.val (.int p1), .val (.int p2), .val (.int p3), .unset, .unset, .unset, .unset] [])) t → Steps p.tables e below (s₁.setTop (entryFrame m #[(.int p1), (.int p2), (.int p3)] maxLocals)) t := fun t k => castTop (ef_0 m p1 p2 p3) k
  obtain ⟨T_37, h_37, k_37, X_37, e_37, E_37, A_37, st_37⟩ := newP X0 hx hZ (hw _ (List.mem_of_getElem? (i := 0) rfl)) e0 (g := (mkF m 2 #[.val (.int p1), .val (.int p2), .val (.int p3), .unset, .unset, .unset, .unset] [(.int (17 : Int32))])) rfl (hb hby at_2) rfl (by decide) (cap := 17) (by decide) (by decide) (by decide) (by decide)
  obtain ⟨b_37, g_37⟩ : ∃ z, z = h0.size := ⟨_, rfl⟩
  rw [← g_37] at A_37 st_37
  have g_b_37 : n0 ≤ b_37 := Nat.le_trans Z0 (Nat.le_of_eq g_37.symm)
  have z_38 : n0 ≤ h_37.size := Nat.le_trans Z0 E_37.1
  have V_37 : Arv Z h_37 b_37 k_37 .int (17 : Int32) [(.int (0 : Int32)), (.int (0 : Int32)), (.int (0 : Int32)), (.int (0 : Int32)), (.int (0 : Int32)), (.int (0 : Int32)), (.int (0 : Int32)), (.int (0 : Int32)), (.int (0 : Int32)), (.int (0 : Int32)), (.int (0 : Int32)), (.int (0 : Int32)), (.int (0 : Int32)), (.int (0 : Int32)), (.int (0 : Int32)), (.int (0 : Int32)), (.int (0 : Int32))] (.int (0 : Int32)) := (Arv.new A_37 (by decide)).pad (pad_rep [] (.int (0 : Int32)) 17)
  obtain ⟨cl_39, Ar_39, q_39, S_39, M_39, H_39, G_39⟩ := id V_37
  have hin_39 : ¬ ((0 : Int32) < 0 ∨ cl_39.slots.size ≤ ((0 : Int32)).toNatClampNeg) := inb_of S_39 ⟨by decide, by decide⟩
  obtain ⟨T_39, h_39, X_39, e_39, W_39, st_39⟩ := stI X_37 hx hZ e_37 Ar_39 (j := (0 : Int32)) hin_39 (g := (mkF m 8 #[.val (.int p1), .val (.int p2), .val (.int p3), .unset, .unset, .unset, .unset] [(.int (9 : Int32)), (.int (0 : Int32)), (.ref b_37), (.ref b_37)])) rfl rfl (hb hby at_8)
  have z_40 : n0 ≤ h_39.size := Nat.le_trans z_38 (Keep.of_wr W_39).1
  have V_39 : Arv Z h_39 b_37 k_37 .int (17 : Int32) [(.int (9 : Int32)), (.int (0 : Int32)), (.int (0 : Int32)), (.int (0 : Int32)), (.int (0 : Int32)), (.int (0 : Int32)), (.int (0 : Int32)), (.int (0 : Int32)), (.int (0 : Int32)), (.int (0 : Int32)), (.int (0 : Int32)), (.int (0 : Int32)), (.int (0 : Int32)), (.int (0 : Int32)), (.int (0 : Int32)), (.int (0 : Int32)), (.int (0 : Int32))] (.int (0 : Int32)) := Arv.set Ar_39 q_39 S_39 M_39 H_39 G_39 rfl W_39 0 rfl (Nat.le_of_ble_eq_true rfl)
  have N_39 := Fr.snoc X_39 N0 g_b_37
  obtain ⟨cl_41, Ar_41, q_41, S_41, M_41, H_41, G_41⟩ := id V_39
  have hin_41 : ¬ ((1 : Int32) < 0 ∨ cl_41.slots.size ≤ ((1 : Int32)).toNatClampNeg) := inb_of S_41 ⟨by decide, by decide⟩
  obtain ⟨T_41, h_41, X_41, e_41, W_41, st_41⟩ := stI X_39 hx hZ e_39 Ar_41 (j := (1 : Int32)) hin_41 (g := (mkF m 13 #[.val (.int p1), .val (.int p2), .val (.int p3), .unset, .unset, .unset, .unset] [(.int (10 : Int32)), (.int (1 : Int32)), (.ref b_37), (.ref b_37)])) rfl rfl (hb hby at_13)
  have z_42 : n0 ≤ h_41.size := Nat.le_trans z_40 (Keep.of_wr W_41).1
  have V_41 : Arv Z h_41 b_37 k_37 .int (17 : Int32) [(.int (9 : Int32)), (.int (10 : Int32)), (.int (0 : Int32)), (.int (0 : Int32)), (.int (0 : Int32)), (.int (0 : Int32)), (.int (0 : Int32)), (.int (0 : Int32)), (.int (0 : Int32)), (.int (0 : Int32)), (.int (0 : Int32)), (.int (0 : Int32)), (.int (0 : Int32)), (.int (0 : Int32)), (.int (0 : Int32)), (.int (0 : Int32)), (.int (0 : Int32))] (.int (0 : Int32)) := Arv.set Ar_41 q_41 S_41 M_41 H_41 G_41 rfl W_41 1 rfl (Nat.le_of_ble_eq_true rfl)
  have N_41 := Fr.snoc X_41 N_39 g_b_37
  obtain ⟨cl_43, Ar_43, q_43, S_43, M_43, H_43, G_43⟩ := id V_41
  have hin_43 : ¬ ((2 : Int32) < 0 ∨ cl_43.slots.size ≤ ((2 : Int32)).toNatClampNeg) := inb_of S_43 ⟨by decide, by decide⟩
  obtain ⟨T_43, h_43, X_43, e_43, W_43, st_43⟩ := stI X_41 hx hZ e_41 Ar_43 (j := (2 : Int32)) hin_43 (g := (mkF m 18 #[.val (.int p1), .val (.int p2), .val (.int p3), .unset, .unset, .unset, .unset] [(.int (13 : Int32)), (.int (2 : Int32)), (.ref b_37), (.ref b_37)])) rfl rfl (hb hby at_18)
  have z_44 : n0 ≤ h_43.size := Nat.le_trans z_42 (Keep.of_wr W_43).1
  have V_43 : Arv Z h_43 b_37 k_37 .int (17 : Int32) [(.int (9 : Int32)), (.int (10 : Int32)), (.int (13 : Int32)), (.int (0 : Int32)), (.int (0 : Int32)), (.int (0 : Int32)), (.int (0 : Int32)), (.int (0 : Int32)), (.int (0 : Int32)), (.int (0 : Int32)), (.int (0 : Int32)), (.int (0 : Int32)), (.int (0 : Int32)), (.int (0 : Int32)), (.int (0 : Int32)), (.int (0 : Int32)), (.int (0 : Int32))] (.int (0 : Int32)) := Arv.set Ar_43 q_43 S_43 M_43 H_43 G_43 rfl W_43 2 rfl (Nat.le_of_ble_eq_true rfl)
  have N_43 := Fr.snoc X_43 N_41 g_b_37
  obtain ⟨cl_45, Ar_45, q_45, S_45, M_45, H_45, G_45⟩ := id V_43
  have hin_45 : ¬ ((3 : Int32) < 0 ∨ cl_45.slots.size ≤ ((3 : Int32)).toNatClampNeg) := inb_of S_45 ⟨by decide, by decide⟩
  obtain ⟨T_45, h_45, X_45, e_45, W_45, st_45⟩ := stI X_43 hx hZ e_43 Ar_45 (j := (3 : Int32)) hin_45 (g := (mkF m 23 #[.val (.int p1), .val (.int p2), .val (.int p3), .unset, .unset, .unset, .unset] [(.int (32 : Int32)), (.int (3 : Int32)), (.ref b_37), (.ref b_37)])) rfl rfl (hb hby at_23)
  have z_46 : n0 ≤ h_45.size := Nat.le_trans z_44 (Keep.of_wr W_45).1
  have V_45 : Arv Z h_45 b_37 k_37 .int (17 : Int32) [(.int (9 : Int32)), (.int (10 : Int32)), (.int (13 : Int32)), (.int (32 : Int32)), (.int (0 : Int32)), (.int (0 : Int32)), (.int (0 : Int32)), (.int (0 : Int32)), (.int (0 : Int32)), (.int (0 : Int32)), (.int (0 : Int32)), (.int (0 : Int32)), (.int (0 : Int32)), (.int (0 : Int32)), (.int (0 : Int32)), (.int (0 : Int32)), (.int (0 : Int32))] (.int (0 : Int32)) := Arv.set Ar_45 q_45 S_45 M_45 H_45 G_45 rfl W_45 3 rfl (Nat.le_of_ble_eq_true rfl)
  have N_45 := Fr.snoc X_45 N_43 g_b_37
  obtain ⟨cl_47, Ar_47, q_47, S_47, M_47, H_47, G_47⟩ := id V_45
  have hin_47 : ¬ ((4 : Int32) < 0 ∨ cl_47.slots.size ≤ ((4 : Int32)).toNatClampNeg) := inb_of S_47 ⟨by decide, by decide⟩
  obtain ⟨T_47, h_47, X_47, e_47, W_47, st_47⟩ := stI X_45 hx hZ e_45 Ar_47 (j := (4 : Int32)) hin_47 (g := (mkF m 28 #[.val (.int p1), .val (.int p2), .val (.int p3), .unset, .unset, .unset, .unset] [(.int (55295 : Int32)), (.int (4 : Int32)), (.ref b_37), (.ref b_37)])) rfl rfl (hb hby at_28)
  have z_48 : n0 ≤ h_47.size := Nat.le_trans z_46 (Keep.of_wr W_47).1
  have V_47 : Arv Z h_47 b_37 k_37 .int (17 : Int32) [(.int (9 : Int32)), (.int (10 : Int32)), (.int (13 : Int32)), (.int (32 : Int32)), (.int (55295 : Int32)), (.int (0 : Int32)), (.int (0 : Int32)), (.int (0 : Int32)), (.int (0 : Int32)), (.int (0 : Int32)), (.int (0 : Int32)), (.int (0 : Int32)), (.int (0 : Int32)), (.int (0 : Int32)), (.int (0 : Int32)), (.int (0 : Int32)), (.int (0 : Int32))] (.int (0 : Int32)) := Arv.set Ar_47 q_47 S_47 M_47 H_47 G_47 rfl W_47 4 rfl (Nat.le_of_ble_eq_true rfl)
  have N_47 := Fr.snoc X_47 N_45 g_b_37
  obtain ⟨cl_49, Ar_49, q_49, S_49, M_49, H_49, G_49⟩ := id V_47
  have hin_49 : ¬ ((5 : Int32) < 0 ∨ cl_49.slots.size ≤ ((5 : Int32)).toNatClampNeg) := inb_of S_49 ⟨by decide, by decide⟩
  obtain ⟨T_49, h_49, X_49, e_49, W_49, st_49⟩ := stI X_47 hx hZ e_47 Ar_49 (j := (5 : Int32)) hin_49 (g := (mkF m 33 #[.val (.int p1), .val (.int p2), .val (.int p3), .unset, .unset, .unset, .unset] [(.int (55296 : Int32)), (.int (5 : Int32)), (.ref b_37), (.ref b_37)])) rfl rfl (hb hby at_33)
  have z_50 : n0 ≤ h_49.size := Nat.le_trans z_48 (Keep.of_wr W_49).1
  have V_49 : Arv Z h_49 b_37 k_37 .int (17 : Int32) [(.int (9 : Int32)), (.int (10 : Int32)), (.int (13 : Int32)), (.int (32 : Int32)), (.int (55295 : Int32)), (.int (55296 : Int32)), (.int (0 : Int32)), (.int (0 : Int32)), (.int (0 : Int32)), (.int (0 : Int32)), (.int (0 : Int32)), (.int (0 : Int32)), (.int (0 : Int32)), (.int (0 : Int32)), (.int (0 : Int32)), (.int (0 : Int32)), (.int (0 : Int32))] (.int (0 : Int32)) := Arv.set Ar_49 q_49 S_49 M_49 H_49 G_49 rfl W_49 5 rfl (Nat.le_of_ble_eq_true rfl)
  have N_49 := Fr.snoc X_49 N_47 g_b_37
  obtain ⟨cl_51, Ar_51, q_51, S_51, M_51, H_51, G_51⟩ := id V_49
  have hin_51 : ¬ ((6 : Int32) < 0 ∨ cl_51.slots.size ≤ ((6 : Int32)).toNatClampNeg) := inb_of S_51 ⟨by decide, by decide⟩
  obtain ⟨T_51, h_51, X_51, e_51, W_51, st_51⟩ := stI X_49 hx hZ e_49 Ar_51 (j := (6 : Int32)) hin_51 (g := (mkF m 39 #[.val (.int p1), .val (.int p2), .val (.int p3), .unset, .unset, .unset, .unset] [(.int (57343 : Int32)), (.int (6 : Int32)), (.ref b_37), (.ref b_37)])) rfl rfl (hb hby at_39)
  have z_52 : n0 ≤ h_51.size := Nat.le_trans z_50 (Keep.of_wr W_51).1
  have V_51 : Arv Z h_51 b_37 k_37 .int (17 : Int32) [(.int (9 : Int32)), (.int (10 : Int32)), (.int (13 : Int32)), (.int (32 : Int32)), (.int (55295 : Int32)), (.int (55296 : Int32)), (.int (57343 : Int32)), (.int (0 : Int32)), (.int (0 : Int32)), (.int (0 : Int32)), (.int (0 : Int32)), (.int (0 : Int32)), (.int (0 : Int32)), (.int (0 : Int32)), (.int (0 : Int32)), (.int (0 : Int32)), (.int (0 : Int32))] (.int (0 : Int32)) := Arv.set Ar_51 q_51 S_51 M_51 H_51 G_51 rfl W_51 6 rfl (Nat.le_of_ble_eq_true rfl)
  have N_51 := Fr.snoc X_51 N_49 g_b_37
  obtain ⟨cl_53, Ar_53, q_53, S_53, M_53, H_53, G_53⟩ := id V_51
  have hin_53 : ¬ ((7 : Int32) < 0 ∨ cl_53.slots.size ≤ ((7 : Int32)).toNatClampNeg) := inb_of S_53 ⟨by decide, by decide⟩
  obtain ⟨T_53, h_53, X_53, e_53, W_53, st_53⟩ := stI X_51 hx hZ e_51 Ar_53 (j := (7 : Int32)) hin_53 (g := (mkF m 45 #[.val (.int p1), .val (.int p2), .val (.int p3), .unset, .unset, .unset, .unset] [(.int (57344 : Int32)), (.int (7 : Int32)), (.ref b_37), (.ref b_37)])) rfl rfl (hb hby at_45)
  have z_54 : n0 ≤ h_53.size := Nat.le_trans z_52 (Keep.of_wr W_53).1
  have V_53 : Arv Z h_53 b_37 k_37 .int (17 : Int32) [(.int (9 : Int32)), (.int (10 : Int32)), (.int (13 : Int32)), (.int (32 : Int32)), (.int (55295 : Int32)), (.int (55296 : Int32)), (.int (57343 : Int32)), (.int (57344 : Int32)), (.int (0 : Int32)), (.int (0 : Int32)), (.int (0 : Int32)), (.int (0 : Int32)), (.int (0 : Int32)), (.int (0 : Int32)), (.int (0 : Int32)), (.int (0 : Int32)), (.int (0 : Int32))] (.int (0 : Int32)) := Arv.set Ar_53 q_53 S_53 M_53 H_53 G_53 rfl W_53 7 rfl (Nat.le_of_ble_eq_true rfl)
  have N_53 := Fr.snoc X_53 N_51 g_b_37
  obtain ⟨cl_55, Ar_55, q_55, S_55, M_55, H_55, G_55⟩ := id V_53
  have hin_55 : ¬ ((8 : Int32) < 0 ∨ cl_55.slots.size ≤ ((8 : Int32)).toNatClampNeg) := inb_of S_55 ⟨by decide, by decide⟩
  obtain ⟨T_55, h_55, X_55, e_55, W_55, st_55⟩ := stI X_53 hx hZ e_53 Ar_55 (j := (8 : Int32)) hin_55 (g := (mkF m 51 #[.val (.int p1), .val (.int p2), .val (.int p3), .unset, .unset, .unset, .unset] [(.int (65533 : Int32)), (.int (8 : Int32)), (.ref b_37), (.ref b_37)])) rfl rfl (hb hby at_51)
  have z_56 : n0 ≤ h_55.size := Nat.le_trans z_54 (Keep.of_wr W_55).1
  have V_55 : Arv Z h_55 b_37 k_37 .int (17 : Int32) [(.int (9 : Int32)), (.int (10 : Int32)), (.int (13 : Int32)), (.int (32 : Int32)), (.int (55295 : Int32)), (.int (55296 : Int32)), (.int (57343 : Int32)), (.int (57344 : Int32)), (.int (65533 : Int32)), (.int (0 : Int32)), (.int (0 : Int32)), (.int (0 : Int32)), (.int (0 : Int32)), (.int (0 : Int32)), (.int (0 : Int32)), (.int (0 : Int32)), (.int (0 : Int32))] (.int (0 : Int32)) := Arv.set Ar_55 q_55 S_55 M_55 H_55 G_55 rfl W_55 8 rfl (Nat.le_of_ble_eq_true rfl)
  have N_55 := Fr.snoc X_55 N_53 g_b_37
  obtain ⟨cl_57, Ar_57, q_57, S_57, M_57, H_57, G_57⟩ := id V_55
  have hin_57 : ¬ ((9 : Int32) < 0 ∨ cl_57.slots.size ≤ ((9 : Int32)).toNatClampNeg) := inb_of S_57 ⟨by decide, by decide⟩
  obtain ⟨T_57, h_57, X_57, e_57, W_57, st_57⟩ := stI X_55 hx hZ e_55 Ar_57 (j := (9 : Int32)) hin_57 (g := (mkF m 57 #[.val (.int p1), .val (.int p2), .val (.int p3), .unset, .unset, .unset, .unset] [(.int (65534 : Int32)), (.int (9 : Int32)), (.ref b_37), (.ref b_37)])) rfl rfl (hb hby at_57)
  have z_58 : n0 ≤ h_57.size := Nat.le_trans z_56 (Keep.of_wr W_57).1
  have V_57 : Arv Z h_57 b_37 k_37 .int (17 : Int32) [(.int (9 : Int32)), (.int (10 : Int32)), (.int (13 : Int32)), (.int (32 : Int32)), (.int (55295 : Int32)), (.int (55296 : Int32)), (.int (57343 : Int32)), (.int (57344 : Int32)), (.int (65533 : Int32)), (.int (65534 : Int32)), (.int (0 : Int32)), (.int (0 : Int32)), (.int (0 : Int32)), (.int (0 : Int32)), (.int (0 : Int32)), (.int (0 : Int32)), (.int (0 : Int32))] (.int (0 : Int32)) := Arv.set Ar_57 q_57 S_57 M_57 H_57 G_57 rfl W_57 9 rfl (Nat.le_of_ble_eq_true rfl)
  have N_57 := Fr.snoc X_57 N_55 g_b_37
  obtain ⟨cl_59, Ar_59, q_59, S_59, M_59, H_59, G_59⟩ := id V_57
  have hin_59 : ¬ ((10 : Int32) < 0 ∨ cl_59.slots.size ≤ ((10 : Int32)).toNatClampNeg) := inb_of S_59 ⟨by decide, by decide⟩
  obtain ⟨T_59, h_59, X_59, e_59, W_59, st_59⟩ := stI X_57 hx hZ e_57 Ar_59 (j := (10 : Int32)) hin_59 (g := (mkF m 63 #[.val (.int p1), .val (.int p2), .val (.int p3), .unset, .unset, .unset, .unset] [(.int (65535 : Int32)), (.int (10 : Int32)), (.ref b_37), (.ref b_37)])) rfl rfl (hb hby at_63)
  have z_60 : n0 ≤ h_59.size := Nat.le_trans z_58 (Keep.of_wr W_59).1
  have V_59 : Arv Z h_59 b_37 k_37 .int (17 : Int32) [(.int (9 : Int32)), (.int (10 : Int32)), (.int (13 : Int32)), (.int (32 : Int32)), (.int (55295 : Int32)), (.int (55296 : Int32)), (.int (57343 : Int32)), (.int (57344 : Int32)), (.int (65533 : Int32)), (.int (65534 : Int32)), (.int (65535 : Int32)), (.int (0 : Int32)), (.int (0 : Int32)), (.int (0 : Int32)), (.int (0 : Int32)), (.int (0 : Int32)), (.int (0 : Int32))] (.int (0 : Int32)) := Arv.set Ar_59 q_59 S_59 M_59 H_59 G_59 rfl W_59 10 rfl (Nat.le_of_ble_eq_true rfl)
  have N_59 := Fr.snoc X_59 N_57 g_b_37
  obtain ⟨cl_61, Ar_61, q_61, S_61, M_61, H_61, G_61⟩ := id V_59
  have hin_61 : ¬ ((11 : Int32) < 0 ∨ cl_61.slots.size ≤ ((11 : Int32)).toNatClampNeg) := inb_of S_61 ⟨by decide, by decide⟩
  obtain ⟨T_61, h_61, X_61, e_61, W_61, st_61⟩ := stI X_59 hx hZ e_59 Ar_61 (j := (11 : Int32)) hin_61 (g := (mkF m 69 #[.val (.int p1), .val (.int p2), .val (.int p3), .unset, .unset, .unset, .unset] [(.int (65536 : Int32)), (.int (11 : Int32)), (.ref b_37), (.ref b_37)])) rfl rfl (hb hby at_69)
  have z_62 : n0 ≤ h_61.size := Nat.le_trans z_60 (Keep.of_wr W_61).1
  have V_61 : Arv Z h_61 b_37 k_37 .int (17 : Int32) [(.int (9 : Int32)), (.int (10 : Int32)), (.int (13 : Int32)), (.int (32 : Int32)), (.int (55295 : Int32)), (.int (55296 : Int32)), (.int (57343 : Int32)), (.int (57344 : Int32)), (.int (65533 : Int32)), (.int (65534 : Int32)), (.int (65535 : Int32)), (.int (65536 : Int32)), (.int (0 : Int32)), (.int (0 : Int32)), (.int (0 : Int32)), (.int (0 : Int32)), (.int (0 : Int32))] (.int (0 : Int32)) := Arv.set Ar_61 q_61 S_61 M_61 H_61 G_61 rfl W_61 11 rfl (Nat.le_of_ble_eq_true rfl)
  have N_61 := Fr.snoc X_61 N_59 g_b_37
  obtain ⟨cl_63, Ar_63, q_63, S_63, M_63, H_63, G_63⟩ := id V_61
  have hin_63 : ¬ ((12 : Int32) < 0 ∨ cl_63.slots.size ≤ ((12 : Int32)).toNatClampNeg) := inb_of S_63 ⟨by decide, by decide⟩
  obtain ⟨T_63, h_63, X_63, e_63, W_63, st_63⟩ := stI X_61 hx hZ e_61 Ar_63 (j := (12 : Int32)) hin_63 (g := (mkF m 75 #[.val (.int p1), .val (.int p2), .val (.int p3), .unset, .unset, .unset, .unset] [(.int (1114111 : Int32)), (.int (12 : Int32)), (.ref b_37), (.ref b_37)])) rfl rfl (hb hby at_75)
  have z_64 : n0 ≤ h_63.size := Nat.le_trans z_62 (Keep.of_wr W_63).1
  have V_63 : Arv Z h_63 b_37 k_37 .int (17 : Int32) [(.int (9 : Int32)), (.int (10 : Int32)), (.int (13 : Int32)), (.int (32 : Int32)), (.int (55295 : Int32)), (.int (55296 : Int32)), (.int (57343 : Int32)), (.int (57344 : Int32)), (.int (65533 : Int32)), (.int (65534 : Int32)), (.int (65535 : Int32)), (.int (65536 : Int32)), (.int (1114111 : Int32)), (.int (0 : Int32)), (.int (0 : Int32)), (.int (0 : Int32)), (.int (0 : Int32))] (.int (0 : Int32)) := Arv.set Ar_63 q_63 S_63 M_63 H_63 G_63 rfl W_63 12 rfl (Nat.le_of_ble_eq_true rfl)
  have N_63 := Fr.snoc X_63 N_61 g_b_37
  obtain ⟨cl_65, Ar_65, q_65, S_65, M_65, H_65, G_65⟩ := id V_63
  have hin_65 : ¬ ((13 : Int32) < 0 ∨ cl_65.slots.size ≤ ((13 : Int32)).toNatClampNeg) := inb_of S_65 ⟨by decide, by decide⟩
  obtain ⟨T_65, h_65, X_65, e_65, W_65, st_65⟩ := stI X_63 hx hZ e_63 Ar_65 (j := (13 : Int32)) hin_65 (g := (mkF m 81 #[.val (.int p1), .val (.int p2), .val (.int p3), .unset, .unset, .unset, .unset] [(.int (1114112 : Int32)), (.int (13 : Int32)), (.ref b_37), (.ref b_37)])) rfl rfl (hb hby at_81)
  have z_66 : n0 ≤ h_65.size := Nat.le_trans z_64 (Keep.of_wr W_65).1
  have V_65 : Arv Z h_65 b_37 k_37 .int (17 : Int32) [(.int (9 : Int32)), (.int (10 : Int32)), (.int (13 : Int32)), (.int (32 : Int32)), (.int (55295 : Int32)), (.int (55296 : Int32)), (.int (57343 : Int32)), (.int (57344 : Int32)), (.int (65533 : Int32)), (.int (65534 : Int32)), (.int (65535 : Int32)), (.int (65536 : Int32)), (.int (1114111 : Int32)), (.int (1114112 : Int32)), (.int (0 : Int32)), (.int (0 : Int32)), (.int (0 : Int32))] (.int (0 : Int32)) := Arv.set Ar_65 q_65 S_65 M_65 H_65 G_65 rfl W_65 13 rfl (Nat.le_of_ble_eq_true rfl)
  have N_65 := Fr.snoc X_65 N_63 g_b_37
  obtain ⟨cl_67, Ar_67, q_67, S_67, M_67, H_67, G_67⟩ := id V_65
  have hin_67 : ¬ ((14 : Int32) < 0 ∨ cl_67.slots.size ≤ ((14 : Int32)).toNatClampNeg) := inb_of S_67 ⟨by decide, by decide⟩
  obtain ⟨T_67, h_67, X_67, e_67, W_67, st_67⟩ := stI X_65 hx hZ e_65 Ar_67 (j := (14 : Int32)) hin_67 (g := (mkF m 86 #[.val (.int p1), .val (.int p2), .val (.int p3), .unset, .unset, .unset, .unset] [(.int (0 : Int32)), (.int (14 : Int32)), (.ref b_37), (.ref b_37)])) rfl rfl (hb hby at_86)
  have z_68 : n0 ≤ h_67.size := Nat.le_trans z_66 (Keep.of_wr W_67).1
  have V_67 : Arv Z h_67 b_37 k_37 .int (17 : Int32) [(.int (9 : Int32)), (.int (10 : Int32)), (.int (13 : Int32)), (.int (32 : Int32)), (.int (55295 : Int32)), (.int (55296 : Int32)), (.int (57343 : Int32)), (.int (57344 : Int32)), (.int (65533 : Int32)), (.int (65534 : Int32)), (.int (65535 : Int32)), (.int (65536 : Int32)), (.int (1114111 : Int32)), (.int (1114112 : Int32)), (.int (0 : Int32)), (.int (0 : Int32)), (.int (0 : Int32))] (.int (0 : Int32)) := Arv.set Ar_67 q_67 S_67 M_67 H_67 G_67 rfl W_67 14 rfl (Nat.le_of_ble_eq_true rfl)
  have N_67 := Fr.snoc X_67 N_65 g_b_37
  obtain ⟨cl_69, Ar_69, q_69, S_69, M_69, H_69, G_69⟩ := id V_67
  have hin_69 : ¬ ((15 : Int32) < 0 ∨ cl_69.slots.size ≤ ((15 : Int32)).toNatClampNeg) := inb_of S_69 ⟨by decide, by decide⟩
  obtain ⟨T_69, h_69, X_69, e_69, W_69, st_69⟩ := stI X_67 hx hZ e_67 Ar_69 (j := (15 : Int32)) hin_69 (g := (mkF m 92 #[.val (.int p1), .val (.int p2), .val (.int p3), .unset, .unset, .unset, .unset] [(.int (-2147483648 : Int32)), (.int (15 : Int32)), (.ref b_37), (.ref b_37)])) rfl rfl (hb hby at_92)
  have z_70 : n0 ≤ h_69.size := Nat.le_trans z_68 (Keep.of_wr W_69).1
  have V_69 : Arv Z h_69 b_37 k_37 .int (17 : Int32) [(.int (9 : Int32)), (.int (10 : Int32)), (.int (13 : Int32)), (.int (32 : Int32)), (.int (55295 : Int32)), (.int (55296 : Int32)), (.int (57343 : Int32)), (.int (57344 : Int32)), (.int (65533 : Int32)), (.int (65534 : Int32)), (.int (65535 : Int32)), (.int (65536 : Int32)), (.int (1114111 : Int32)), (.int (1114112 : Int32)), (.int (0 : Int32)), (.int (-2147483648 : Int32)), (.int (0 : Int32))] (.int (0 : Int32)) := Arv.set Ar_69 q_69 S_69 M_69 H_69 G_69 rfl W_69 15 rfl (Nat.le_of_ble_eq_true rfl)
  have N_69 := Fr.snoc X_69 N_67 g_b_37
  obtain ⟨cl_71, Ar_71, q_71, S_71, M_71, H_71, G_71⟩ := id V_69
  have hin_71 : ¬ ((16 : Int32) < 0 ∨ cl_71.slots.size ≤ ((16 : Int32)).toNatClampNeg) := inb_of S_71 ⟨by decide, by decide⟩
  obtain ⟨T_71, h_71, X_71, e_71, W_71, st_71⟩ := stI X_69 hx hZ e_69 Ar_71 (j := (16 : Int32)) hin_71 (g := (mkF m 98 #[.val (.int p1), .val (.int p2), .val (.int p3), .unset, .unset, .unset, .unset] [(.int (2147483647 : Int32)), (.int (16 : Int32)), (.ref b_37), (.ref b_37)])) rfl rfl (hb hby at_98)
  have z_72 : n0 ≤ h_71.size := Nat.le_trans z_70 (Keep.of_wr W_71).1
  have V_71 : Arv Z h_71 b_37 k_37 .int (17 : Int32) [(.int (9 : Int32)), (.int (10 : Int32)), (.int (13 : Int32)), (.int (32 : Int32)), (.int (55295 : Int32)), (.int (55296 : Int32)), (.int (57343 : Int32)), (.int (57344 : Int32)), (.int (65533 : Int32)), (.int (65534 : Int32)), (.int (65535 : Int32)), (.int (65536 : Int32)), (.int (1114111 : Int32)), (.int (1114112 : Int32)), (.int (0 : Int32)), (.int (-2147483648 : Int32)), (.int (2147483647 : Int32))] (.int (0 : Int32)) := Arv.set Ar_71 q_71 S_71 M_71 H_71 G_71 rfl W_71 16 rfl (Nat.le_of_ble_eq_true rfl)
  have N_71 := Fr.snoc X_71 N_69 g_b_37
  obtain ⟨cl_73, Ar_73, -, S_73, M_73, -, -⟩ := id V_71
  obtain ⟨cl_74, Ar_74, q_74, S_74, M_74, H_74, G_74⟩ := id V_71
  have hin_74 : ¬ (((p2 &&& (2147483647 : Int32)) % (17 : Int32)) < 0 ∨ cl_74.slots.size ≤ (((p2 &&& (2147483647 : Int32)) % (17 : Int32))).toNatClampNeg) := inb_of S_74 (own_idx p2)
  have hat_74 : cl_74.slots[(((p2 &&& (2147483647 : Int32)) % (17 : Int32))).toNatClampNeg]? = some (.int (own_tab.getD ((p2 &&& (2147483647 : Int32)) % (17 : Int32)).toNatClampNeg 0)) := H_74.at hin_74 (own_map own_tab _)
  obtain ⟨_, _, ⟨T_75, L_75, k_75, n_75⟩, -, X_75, ⟨Lc_75, hQ_75, l_75, y_75, z_75⟩, st_75⟩ := Jvm.LawKit.callS X_71 hx (y := (⟨"com/example/xpoch/xpoch/model/XmlGrammar", "isCharacter", "(I)Z"⟩ : MethodName)) hown (mvT hZ (hw _ (List.mem_of_getElem? (i := 13) rfl))) (mvT hZ (hw _ (List.mem_of_getElem? (i := 14) rfl))) (mvT hZ (hw _ (List.mem_of_getElem? (i := 15) rfl))) (mvT hZ (hw _ (List.mem_of_getElem? (i := 16) rfl))) (by decide) (backOf (W := 0) (rm1 l Z a0 hw [] p1 h_71 n0 z_72 ) hZ (hw _ (List.mem_of_getElem? (i := 16) rfl)) (hw _ (List.mem_of_getElem? (i := 15) rfl)) (by decide) (by decide)) (g := (mkF m 121 #[.val (.int p1), .val (.int p2), .val (.int p3), .val (.ref b_37), .val (.int ((own_tab.getD ((p2 &&& (2147483647 : Int32)) % (17 : Int32)).toNatClampNeg 0) + (((p3 &&& (2147483647 : Int32)) % (3 : Int32)) - (1 : Int32)))), .unset, .unset] [(.int p1)])) rfl (by rw [hml]; rfl) (argsL := [(.int p1)]) (rest := []) (lenOf pd_0 rfl) rfl (by show 2 * 0 + _ ≤ _; exact Nat.le_of_eq rfl) (hb hby at_121) (fun _ _ => ⟨rfl, e_71, (by decide : 1 + 0 ≤ _), (by decide : 17 + 0 ≤ _)⟩)
  dsimp only [Pt.U, Pt.locs, Pt.cells, Pt.slots] at X_75 l_75 y_75 z_75 st_75 hQ_75
  replace X_75 := castS l_75 y_75 z_75 X_75
  obtain ⟨rfl, Nq_75, e_75⟩ := hQ_75
  have N_75 := Fr.app N_71 Nq_75
  obtain ⟨_, _, ⟨T_76, L_76, k_76, n_76⟩, -, X_76, ⟨Lc_76, hQ_76, l_76, y_76, z_76⟩, st_76⟩ := Jvm.LawKit.callS X_75 hx (y := (⟨"com/example/xpoch/xpoch/model/XmlGrammarIsCharacterPinLaw", "expected", "(I)Z"⟩ : MethodName)) hown (mvT hZ (hw _ (List.mem_of_getElem? (i := 19) rfl))) (mvT hZ (hw _ (List.mem_of_getElem? (i := 20) rfl))) (mvT hZ (hw _ (List.mem_of_getElem? (i := 21) rfl))) (mvT hZ (hw _ (List.mem_of_getElem? (i := 22) rfl))) (by decide) (backOf (W := 1) (rm2 l Z a0 hw [] p1 h_71 n0 z_72 ) hZ (hw _ (List.mem_of_getElem? (i := 22) rfl)) (hw _ (List.mem_of_getElem? (i := 21) rfl)) (by decide) (by decide)) (g := (mkF m 125 #[.val (.int p1), .val (.int p2), .val (.int p3), .val (.ref b_37), .val (.int ((own_tab.getD ((p2 &&& (2147483647 : Int32)) % (17 : Int32)).toNatClampNeg 0) + (((p3 &&& (2147483647 : Int32)) % (3 : Int32)) - (1 : Int32)))), .unset, .unset] [(.int p1), (.int (own_is p1))])) rfl (by rw [hml]; rfl) (argsL := [(.int p1)]) (rest := [(.int (own_is p1))]) (lenOf pd_0 rfl) rfl (by show 2 * 0 + _ ≤ _; exact Nat.le_of_eq rfl) (hb hby at_125) (fun _ _ => ⟨rfl, e_75, (by decide : 1 + 0 ≤ _), (by decide : 17 + 0 ≤ _)⟩)
  dsimp only [Pt.U, Pt.locs, Pt.cells, Pt.slots] at X_76 l_76 y_76 z_76 st_76 hQ_76
  replace X_76 := castS l_76 y_76 z_76 X_76
  obtain ⟨rfl, Nq_76, e_76⟩ := hQ_76
  have N_76 := Fr.app N_75 Nq_76
  obtain ⟨_, _, ⟨T_77, L_77, k_77, n_77⟩, -, X_77, ⟨Lc_77, hQ_77, l_77, y_77, z_77⟩, st_77⟩ := Jvm.LawKit.callS X_76 hx (y := (⟨"com/example/xpoch/xpoch/model/XmlGrammar", "isCharacter", "(I)Z"⟩ : MethodName)) hown (mvT hZ (hw _ (List.mem_of_getElem? (i := 13) rfl))) (mvT hZ (hw _ (List.mem_of_getElem? (i := 14) rfl))) (mvT hZ (hw _ (List.mem_of_getElem? (i := 15) rfl))) (mvT hZ (hw _ (List.mem_of_getElem? (i := 16) rfl))) (by decide) (backOf (W := 0) (rm1 l Z a0 hw [] ((own_tab.getD ((p2 &&& (2147483647 : Int32)) % (17 : Int32)).toNatClampNeg 0) + (((p3 &&& (2147483647 : Int32)) % (3 : Int32)) - (1 : Int32))) h_71 n0 z_72 ) hZ (hw _ (List.mem_of_getElem? (i := 16) rfl)) (hw _ (List.mem_of_getElem? (i := 15) rfl)) (by decide) (by decide)) (g := (mkF m 140 #[.val (.int p1), .val (.int p2), .val (.int p3), .val (.ref b_37), .val (.int ((own_tab.getD ((p2 &&& (2147483647 : Int32)) % (17 : Int32)).toNatClampNeg 0) + (((p3 &&& (2147483647 : Int32)) % (3 : Int32)) - (1 : Int32)))), .val (.int (1 : Int32)), .unset] [(.int ((own_tab.getD ((p2 &&& (2147483647 : Int32)) % (17 : Int32)).toNatClampNeg 0) + (((p3 &&& (2147483647 : Int32)) % (3 : Int32)) - (1 : Int32))))])) rfl (by rw [hml]; rfl) (argsL := [(.int ((own_tab.getD ((p2 &&& (2147483647 : Int32)) % (17 : Int32)).toNatClampNeg 0) + (((p3 &&& (2147483647 : Int32)) % (3 : Int32)) - (1 : Int32))))]) (rest := []) (lenOf pd_0 rfl) rfl (by show 2 * 0 + _ ≤ _; exact Nat.le_of_eq rfl) (hb hby at_140) (fun _ _ => ⟨rfl, e_76, (by decide : 1 + 0 ≤ _), (by decide : 17 + 0 ≤ _)⟩)
  dsimp only [Pt.U, Pt.locs, Pt.cells, Pt.slots] at X_77 l_77 y_77 z_77 st_77 hQ_77
  replace X_77 := castS l_77 y_77 z_77 X_77
  obtain ⟨rfl, Nq_77, e_77⟩ := hQ_77
  have N_77 := Fr.app N_76 Nq_77
  obtain ⟨_, _, ⟨T_78, L_78, k_78, n_78⟩, -, X_78, ⟨Lc_78, hQ_78, l_78, y_78, z_78⟩, st_78⟩ := Jvm.LawKit.callS X_77 hx (y := (⟨"com/example/xpoch/xpoch/model/XmlGrammarIsCharacterPinLaw", "expected", "(I)Z"⟩ : MethodName)) hown (mvT hZ (hw _ (List.mem_of_getElem? (i := 19) rfl))) (mvT hZ (hw _ (List.mem_of_getElem? (i := 20) rfl))) (mvT hZ (hw _ (List.mem_of_getElem? (i := 21) rfl))) (mvT hZ (hw _ (List.mem_of_getElem? (i := 22) rfl))) (by decide) (backOf (W := 1) (rm2 l Z a0 hw [] ((own_tab.getD ((p2 &&& (2147483647 : Int32)) % (17 : Int32)).toNatClampNeg 0) + (((p3 &&& (2147483647 : Int32)) % (3 : Int32)) - (1 : Int32))) h_71 n0 z_72 ) hZ (hw _ (List.mem_of_getElem? (i := 22) rfl)) (hw _ (List.mem_of_getElem? (i := 21) rfl)) (by decide) (by decide)) (g := (mkF m 145 #[.val (.int p1), .val (.int p2), .val (.int p3), .val (.ref b_37), .val (.int ((own_tab.getD ((p2 &&& (2147483647 : Int32)) % (17 : Int32)).toNatClampNeg 0) + (((p3 &&& (2147483647 : Int32)) % (3 : Int32)) - (1 : Int32)))), .val (.int (1 : Int32)), .unset] [(.int ((own_tab.getD ((p2 &&& (2147483647 : Int32)) % (17 : Int32)).toNatClampNeg 0) + (((p3 &&& (2147483647 : Int32)) % (3 : Int32)) - (1 : Int32)))), (.int (own_is ((own_tab.getD ((p2 &&& (2147483647 : Int32)) % (17 : Int32)).toNatClampNeg 0) + (((p3 &&& (2147483647 : Int32)) % (3 : Int32)) - (1 : Int32)))))])) rfl (by rw [hml]; rfl) (argsL := [(.int ((own_tab.getD ((p2 &&& (2147483647 : Int32)) % (17 : Int32)).toNatClampNeg 0) + (((p3 &&& (2147483647 : Int32)) % (3 : Int32)) - (1 : Int32))))]) (rest := [(.int (own_is ((own_tab.getD ((p2 &&& (2147483647 : Int32)) % (17 : Int32)).toNatClampNeg 0) + (((p3 &&& (2147483647 : Int32)) % (3 : Int32)) - (1 : Int32)))))]) (lenOf pd_0 rfl) rfl (by show 2 * 0 + _ ≤ _; exact Nat.le_of_eq rfl) (hb hby at_145) (fun _ _ => ⟨rfl, e_77, (by decide : 1 + 0 ≤ _), (by decide : 17 + 0 ≤ _)⟩)
  dsimp only [Pt.U, Pt.locs, Pt.cells, Pt.slots] at X_78 l_78 y_78 z_78 st_78 hQ_78
  replace X_78 := castS l_78 y_78 z_78 X_78
  obtain ⟨rfl, Nq_78, e_78⟩ := hQ_78
  have N_78 := Fr.app N_77 Nq_78
  obtain ⟨fs, hr, hrun, hended, hW, hsame⟩ := X_78.leave (v := some (.int (1 : Int32))) (fun h => by rw [Bd.returns] at h; cases h)
  refine ⟨_, _, pre0 _ ?_, hrun, hended, _, _, rfl, ?_, ⟨_, rfl⟩, hW, hsame.mono (by decide) (by decide)⟩
  · show Steps p.tables e below (s₁.setTop (mkF m 0 #[.val (.int p1), .val (.int p2), .val (.int p3), .unset, .unset, .unset, .unset] [])) _
    refine XS.bipush X0.here hx rfl (hb hby at_0) ?_
    show Steps p.tables e below (s₁.setTop (mkF m 2 #[.val (.int p1), .val (.int p2), .val (.int p3), .unset, .unset, .unset, .unset] [(.int (17 : Int32))])) _
    refine st_37 _ ?_
    show Steps p.tables e below (T_37.setTop (mkF m 4 #[.val (.int p1), .val (.int p2), .val (.int p3), .unset, .unset, .unset, .unset] [(.ref b_37)])) _
    refine XS.dup X_37.here hx rfl (hb hby at_4) rfl rfl ?_
    show Steps p.tables e below (T_37.setTop (mkF m 5 #[.val (.int p1), .val (.int p2), .val (.int p3), .unset, .unset, .unset, .unset] [(.ref b_37), (.ref b_37)])) _
    refine XS.iconst X_37.here hx rfl (hb hby at_5) ?_
    show Steps p.tables e below (T_37.setTop (mkF m 6 #[.val (.int p1), .val (.int p2), .val (.int p3), .unset, .unset, .unset, .unset] [(.int (0 : Int32)), (.ref b_37), (.ref b_37)])) _
    refine XS.bipush X_37.here hx rfl (hb hby at_6) ?_
    show Steps p.tables e below (T_37.setTop (mkF m 8 #[.val (.int p1), .val (.int p2), .val (.int p3), .unset, .unset, .unset, .unset] [(.int (9 : Int32)), (.int (0 : Int32)), (.ref b_37), (.ref b_37)])) _
    refine st_39 _ ?_
    show Steps p.tables e below (T_39.setTop (mkF m 9 #[.val (.int p1), .val (.int p2), .val (.int p3), .unset, .unset, .unset, .unset] [(.ref b_37)])) _
    refine XS.dup X_39.here hx rfl (hb hby at_9) rfl rfl ?_
    show Steps p.tables e below (T_39.setTop (mkF m 10 #[.val (.int p1), .val (.int p2), .val (.int p3), .unset, .unset, .unset, .unset] [(.ref b_37), (.ref b_37)])) _
    refine XS.iconst X_39.here hx rfl (hb hby at_10) ?_
    show Steps p.tables e below (T_39.setTop (mkF m 11 #[.val (.int p1), .val (.int p2), .val (.int p3), .unset, .unset, .unset, .unset] [(.int (1 : Int32)), (.ref b_37), (.ref b_37)])) _
    refine XS.bipush X_39.here hx rfl (hb hby at_11) ?_
    show Steps p.tables e below (T_39.setTop (mkF m 13 #[.val (.int p1), .val (.int p2), .val (.int p3), .unset, .unset, .unset, .unset] [(.int (10 : Int32)), (.int (1 : Int32)), (.ref b_37), (.ref b_37)])) _
    refine st_41 _ ?_
    show Steps p.tables e below (T_41.setTop (mkF m 14 #[.val (.int p1), .val (.int p2), .val (.int p3), .unset, .unset, .unset, .unset] [(.ref b_37)])) _
    refine XS.dup X_41.here hx rfl (hb hby at_14) rfl rfl ?_
    show Steps p.tables e below (T_41.setTop (mkF m 15 #[.val (.int p1), .val (.int p2), .val (.int p3), .unset, .unset, .unset, .unset] [(.ref b_37), (.ref b_37)])) _
    refine XS.iconst X_41.here hx rfl (hb hby at_15) ?_
    show Steps p.tables e below (T_41.setTop (mkF m 16 #[.val (.int p1), .val (.int p2), .val (.int p3), .unset, .unset, .unset, .unset] [(.int (2 : Int32)), (.ref b_37), (.ref b_37)])) _
    refine XS.bipush X_41.here hx rfl (hb hby at_16) ?_
    show Steps p.tables e below (T_41.setTop (mkF m 18 #[.val (.int p1), .val (.int p2), .val (.int p3), .unset, .unset, .unset, .unset] [(.int (13 : Int32)), (.int (2 : Int32)), (.ref b_37), (.ref b_37)])) _
    refine st_43 _ ?_
    show Steps p.tables e below (T_43.setTop (mkF m 19 #[.val (.int p1), .val (.int p2), .val (.int p3), .unset, .unset, .unset, .unset] [(.ref b_37)])) _
    refine XS.dup X_43.here hx rfl (hb hby at_19) rfl rfl ?_
    show Steps p.tables e below (T_43.setTop (mkF m 20 #[.val (.int p1), .val (.int p2), .val (.int p3), .unset, .unset, .unset, .unset] [(.ref b_37), (.ref b_37)])) _
    refine XS.iconst X_43.here hx rfl (hb hby at_20) ?_
    show Steps p.tables e below (T_43.setTop (mkF m 21 #[.val (.int p1), .val (.int p2), .val (.int p3), .unset, .unset, .unset, .unset] [(.int (3 : Int32)), (.ref b_37), (.ref b_37)])) _
    refine XS.bipush X_43.here hx rfl (hb hby at_21) ?_
    show Steps p.tables e below (T_43.setTop (mkF m 23 #[.val (.int p1), .val (.int p2), .val (.int p3), .unset, .unset, .unset, .unset] [(.int (32 : Int32)), (.int (3 : Int32)), (.ref b_37), (.ref b_37)])) _
    refine st_45 _ ?_
    show Steps p.tables e below (T_45.setTop (mkF m 24 #[.val (.int p1), .val (.int p2), .val (.int p3), .unset, .unset, .unset, .unset] [(.ref b_37)])) _
    refine XS.dup X_45.here hx rfl (hb hby at_24) rfl rfl ?_
    show Steps p.tables e below (T_45.setTop (mkF m 25 #[.val (.int p1), .val (.int p2), .val (.int p3), .unset, .unset, .unset, .unset] [(.ref b_37), (.ref b_37)])) _
    refine XS.iconst X_45.here hx rfl (hb hby at_25) ?_
    show Steps p.tables e below (T_45.setTop (mkF m 26 #[.val (.int p1), .val (.int p2), .val (.int p3), .unset, .unset, .unset, .unset] [(.int (4 : Int32)), (.ref b_37), (.ref b_37)])) _
    refine X_45.ldcInt hx hown (mvT hZ (hw _ (List.mem_of_getElem? (i := 1) rfl))) (g := (mkF m 26 #[.val (.int p1), .val (.int p2), .val (.int p3), .unset, .unset, .unset, .unset] [(.int (4 : Int32)), (.ref b_37), (.ref b_37)])) rfl (hb hby at_26) _ ?_
    show Steps p.tables e below (T_45.setTop (mkF m 28 #[.val (.int p1), .val (.int p2), .val (.int p3), .unset, .unset, .unset, .unset] [(.int (55295 : Int32)), (.int (4 : Int32)), (.ref b_37), (.ref b_37)])) _
    refine st_47 _ ?_
    show Steps p.tables e below (T_47.setTop (mkF m 29 #[.val (.int p1), .val (.int p2), .val (.int p3), .unset, .unset, .unset, .unset] [(.ref b_37)])) _
    refine XS.dup X_47.here hx rfl (hb hby at_29) rfl rfl ?_
    show Steps p.tables e below (T_47.setTop (mkF m 30 #[.val (.int p1), .val (.int p2), .val (.int p3), .unset, .unset, .unset, .unset] [(.ref b_37), (.ref b_37)])) _
    refine XS.iconst X_47.here hx rfl (hb hby at_30) ?_
    show Steps p.tables e below (T_47.setTop (mkF m 31 #[.val (.int p1), .val (.int p2), .val (.int p3), .unset, .unset, .unset, .unset] [(.int (5 : Int32)), (.ref b_37), (.ref b_37)])) _
    refine X_47.ldcInt hx hown (mvT hZ (hw _ (List.mem_of_getElem? (i := 2) rfl))) (g := (mkF m 31 #[.val (.int p1), .val (.int p2), .val (.int p3), .unset, .unset, .unset, .unset] [(.int (5 : Int32)), (.ref b_37), (.ref b_37)])) rfl (hb hby at_31) _ ?_
    show Steps p.tables e below (T_47.setTop (mkF m 33 #[.val (.int p1), .val (.int p2), .val (.int p3), .unset, .unset, .unset, .unset] [(.int (55296 : Int32)), (.int (5 : Int32)), (.ref b_37), (.ref b_37)])) _
    refine st_49 _ ?_
    show Steps p.tables e below (T_49.setTop (mkF m 34 #[.val (.int p1), .val (.int p2), .val (.int p3), .unset, .unset, .unset, .unset] [(.ref b_37)])) _
    refine XS.dup X_49.here hx rfl (hb hby at_34) rfl rfl ?_
    show Steps p.tables e below (T_49.setTop (mkF m 35 #[.val (.int p1), .val (.int p2), .val (.int p3), .unset, .unset, .unset, .unset] [(.ref b_37), (.ref b_37)])) _
    refine XS.bipush X_49.here hx rfl (hb hby at_35) ?_
    show Steps p.tables e below (T_49.setTop (mkF m 37 #[.val (.int p1), .val (.int p2), .val (.int p3), .unset, .unset, .unset, .unset] [(.int (6 : Int32)), (.ref b_37), (.ref b_37)])) _
    refine X_49.ldcInt hx hown (mvT hZ (hw _ (List.mem_of_getElem? (i := 3) rfl))) (g := (mkF m 37 #[.val (.int p1), .val (.int p2), .val (.int p3), .unset, .unset, .unset, .unset] [(.int (6 : Int32)), (.ref b_37), (.ref b_37)])) rfl (hb hby at_37) _ ?_
    show Steps p.tables e below (T_49.setTop (mkF m 39 #[.val (.int p1), .val (.int p2), .val (.int p3), .unset, .unset, .unset, .unset] [(.int (57343 : Int32)), (.int (6 : Int32)), (.ref b_37), (.ref b_37)])) _
    refine st_51 _ ?_
    show Steps p.tables e below (T_51.setTop (mkF m 40 #[.val (.int p1), .val (.int p2), .val (.int p3), .unset, .unset, .unset, .unset] [(.ref b_37)])) _
    refine XS.dup X_51.here hx rfl (hb hby at_40) rfl rfl ?_
    show Steps p.tables e below (T_51.setTop (mkF m 41 #[.val (.int p1), .val (.int p2), .val (.int p3), .unset, .unset, .unset, .unset] [(.ref b_37), (.ref b_37)])) _
    refine XS.bipush X_51.here hx rfl (hb hby at_41) ?_
    show Steps p.tables e below (T_51.setTop (mkF m 43 #[.val (.int p1), .val (.int p2), .val (.int p3), .unset, .unset, .unset, .unset] [(.int (7 : Int32)), (.ref b_37), (.ref b_37)])) _
    refine X_51.ldcInt hx hown (mvT hZ (hw _ (List.mem_of_getElem? (i := 4) rfl))) (g := (mkF m 43 #[.val (.int p1), .val (.int p2), .val (.int p3), .unset, .unset, .unset, .unset] [(.int (7 : Int32)), (.ref b_37), (.ref b_37)])) rfl (hb hby at_43) _ ?_
    show Steps p.tables e below (T_51.setTop (mkF m 45 #[.val (.int p1), .val (.int p2), .val (.int p3), .unset, .unset, .unset, .unset] [(.int (57344 : Int32)), (.int (7 : Int32)), (.ref b_37), (.ref b_37)])) _
    refine st_53 _ ?_
    show Steps p.tables e below (T_53.setTop (mkF m 46 #[.val (.int p1), .val (.int p2), .val (.int p3), .unset, .unset, .unset, .unset] [(.ref b_37)])) _
    refine XS.dup X_53.here hx rfl (hb hby at_46) rfl rfl ?_
    show Steps p.tables e below (T_53.setTop (mkF m 47 #[.val (.int p1), .val (.int p2), .val (.int p3), .unset, .unset, .unset, .unset] [(.ref b_37), (.ref b_37)])) _
    refine XS.bipush X_53.here hx rfl (hb hby at_47) ?_
    show Steps p.tables e below (T_53.setTop (mkF m 49 #[.val (.int p1), .val (.int p2), .val (.int p3), .unset, .unset, .unset, .unset] [(.int (8 : Int32)), (.ref b_37), (.ref b_37)])) _
    refine X_53.ldcInt hx hown (mvT hZ (hw _ (List.mem_of_getElem? (i := 5) rfl))) (g := (mkF m 49 #[.val (.int p1), .val (.int p2), .val (.int p3), .unset, .unset, .unset, .unset] [(.int (8 : Int32)), (.ref b_37), (.ref b_37)])) rfl (hb hby at_49) _ ?_
    show Steps p.tables e below (T_53.setTop (mkF m 51 #[.val (.int p1), .val (.int p2), .val (.int p3), .unset, .unset, .unset, .unset] [(.int (65533 : Int32)), (.int (8 : Int32)), (.ref b_37), (.ref b_37)])) _
    refine st_55 _ ?_
    show Steps p.tables e below (T_55.setTop (mkF m 52 #[.val (.int p1), .val (.int p2), .val (.int p3), .unset, .unset, .unset, .unset] [(.ref b_37)])) _
    refine XS.dup X_55.here hx rfl (hb hby at_52) rfl rfl ?_
    show Steps p.tables e below (T_55.setTop (mkF m 53 #[.val (.int p1), .val (.int p2), .val (.int p3), .unset, .unset, .unset, .unset] [(.ref b_37), (.ref b_37)])) _
    refine XS.bipush X_55.here hx rfl (hb hby at_53) ?_
    show Steps p.tables e below (T_55.setTop (mkF m 55 #[.val (.int p1), .val (.int p2), .val (.int p3), .unset, .unset, .unset, .unset] [(.int (9 : Int32)), (.ref b_37), (.ref b_37)])) _
    refine X_55.ldcInt hx hown (mvT hZ (hw _ (List.mem_of_getElem? (i := 6) rfl))) (g := (mkF m 55 #[.val (.int p1), .val (.int p2), .val (.int p3), .unset, .unset, .unset, .unset] [(.int (9 : Int32)), (.ref b_37), (.ref b_37)])) rfl (hb hby at_55) _ ?_
    show Steps p.tables e below (T_55.setTop (mkF m 57 #[.val (.int p1), .val (.int p2), .val (.int p3), .unset, .unset, .unset, .unset] [(.int (65534 : Int32)), (.int (9 : Int32)), (.ref b_37), (.ref b_37)])) _
    refine st_57 _ ?_
    show Steps p.tables e below (T_57.setTop (mkF m 58 #[.val (.int p1), .val (.int p2), .val (.int p3), .unset, .unset, .unset, .unset] [(.ref b_37)])) _
    refine XS.dup X_57.here hx rfl (hb hby at_58) rfl rfl ?_
    show Steps p.tables e below (T_57.setTop (mkF m 59 #[.val (.int p1), .val (.int p2), .val (.int p3), .unset, .unset, .unset, .unset] [(.ref b_37), (.ref b_37)])) _
    refine XS.bipush X_57.here hx rfl (hb hby at_59) ?_
    show Steps p.tables e below (T_57.setTop (mkF m 61 #[.val (.int p1), .val (.int p2), .val (.int p3), .unset, .unset, .unset, .unset] [(.int (10 : Int32)), (.ref b_37), (.ref b_37)])) _
    refine X_57.ldcInt hx hown (mvT hZ (hw _ (List.mem_of_getElem? (i := 7) rfl))) (g := (mkF m 61 #[.val (.int p1), .val (.int p2), .val (.int p3), .unset, .unset, .unset, .unset] [(.int (10 : Int32)), (.ref b_37), (.ref b_37)])) rfl (hb hby at_61) _ ?_
    show Steps p.tables e below (T_57.setTop (mkF m 63 #[.val (.int p1), .val (.int p2), .val (.int p3), .unset, .unset, .unset, .unset] [(.int (65535 : Int32)), (.int (10 : Int32)), (.ref b_37), (.ref b_37)])) _
    refine st_59 _ ?_
    show Steps p.tables e below (T_59.setTop (mkF m 64 #[.val (.int p1), .val (.int p2), .val (.int p3), .unset, .unset, .unset, .unset] [(.ref b_37)])) _
    refine XS.dup X_59.here hx rfl (hb hby at_64) rfl rfl ?_
    show Steps p.tables e below (T_59.setTop (mkF m 65 #[.val (.int p1), .val (.int p2), .val (.int p3), .unset, .unset, .unset, .unset] [(.ref b_37), (.ref b_37)])) _
    refine XS.bipush X_59.here hx rfl (hb hby at_65) ?_
    show Steps p.tables e below (T_59.setTop (mkF m 67 #[.val (.int p1), .val (.int p2), .val (.int p3), .unset, .unset, .unset, .unset] [(.int (11 : Int32)), (.ref b_37), (.ref b_37)])) _
    refine X_59.ldcInt hx hown (mvT hZ (hw _ (List.mem_of_getElem? (i := 8) rfl))) (g := (mkF m 67 #[.val (.int p1), .val (.int p2), .val (.int p3), .unset, .unset, .unset, .unset] [(.int (11 : Int32)), (.ref b_37), (.ref b_37)])) rfl (hb hby at_67) _ ?_
    show Steps p.tables e below (T_59.setTop (mkF m 69 #[.val (.int p1), .val (.int p2), .val (.int p3), .unset, .unset, .unset, .unset] [(.int (65536 : Int32)), (.int (11 : Int32)), (.ref b_37), (.ref b_37)])) _
    refine st_61 _ ?_
    show Steps p.tables e below (T_61.setTop (mkF m 70 #[.val (.int p1), .val (.int p2), .val (.int p3), .unset, .unset, .unset, .unset] [(.ref b_37)])) _
    refine XS.dup X_61.here hx rfl (hb hby at_70) rfl rfl ?_
    show Steps p.tables e below (T_61.setTop (mkF m 71 #[.val (.int p1), .val (.int p2), .val (.int p3), .unset, .unset, .unset, .unset] [(.ref b_37), (.ref b_37)])) _
    refine XS.bipush X_61.here hx rfl (hb hby at_71) ?_
    show Steps p.tables e below (T_61.setTop (mkF m 73 #[.val (.int p1), .val (.int p2), .val (.int p3), .unset, .unset, .unset, .unset] [(.int (12 : Int32)), (.ref b_37), (.ref b_37)])) _
    refine X_61.ldcInt hx hown (mvT hZ (hw _ (List.mem_of_getElem? (i := 9) rfl))) (g := (mkF m 73 #[.val (.int p1), .val (.int p2), .val (.int p3), .unset, .unset, .unset, .unset] [(.int (12 : Int32)), (.ref b_37), (.ref b_37)])) rfl (hb hby at_73) _ ?_
    show Steps p.tables e below (T_61.setTop (mkF m 75 #[.val (.int p1), .val (.int p2), .val (.int p3), .unset, .unset, .unset, .unset] [(.int (1114111 : Int32)), (.int (12 : Int32)), (.ref b_37), (.ref b_37)])) _
    refine st_63 _ ?_
    show Steps p.tables e below (T_63.setTop (mkF m 76 #[.val (.int p1), .val (.int p2), .val (.int p3), .unset, .unset, .unset, .unset] [(.ref b_37)])) _
    refine XS.dup X_63.here hx rfl (hb hby at_76) rfl rfl ?_
    show Steps p.tables e below (T_63.setTop (mkF m 77 #[.val (.int p1), .val (.int p2), .val (.int p3), .unset, .unset, .unset, .unset] [(.ref b_37), (.ref b_37)])) _
    refine XS.bipush X_63.here hx rfl (hb hby at_77) ?_
    show Steps p.tables e below (T_63.setTop (mkF m 79 #[.val (.int p1), .val (.int p2), .val (.int p3), .unset, .unset, .unset, .unset] [(.int (13 : Int32)), (.ref b_37), (.ref b_37)])) _
    refine X_63.ldcInt hx hown (mvT hZ (hw _ (List.mem_of_getElem? (i := 10) rfl))) (g := (mkF m 79 #[.val (.int p1), .val (.int p2), .val (.int p3), .unset, .unset, .unset, .unset] [(.int (13 : Int32)), (.ref b_37), (.ref b_37)])) rfl (hb hby at_79) _ ?_
    show Steps p.tables e below (T_63.setTop (mkF m 81 #[.val (.int p1), .val (.int p2), .val (.int p3), .unset, .unset, .unset, .unset] [(.int (1114112 : Int32)), (.int (13 : Int32)), (.ref b_37), (.ref b_37)])) _
    refine st_65 _ ?_
    show Steps p.tables e below (T_65.setTop (mkF m 82 #[.val (.int p1), .val (.int p2), .val (.int p3), .unset, .unset, .unset, .unset] [(.ref b_37)])) _
    refine XS.dup X_65.here hx rfl (hb hby at_82) rfl rfl ?_
    show Steps p.tables e below (T_65.setTop (mkF m 83 #[.val (.int p1), .val (.int p2), .val (.int p3), .unset, .unset, .unset, .unset] [(.ref b_37), (.ref b_37)])) _
    refine XS.bipush X_65.here hx rfl (hb hby at_83) ?_
    show Steps p.tables e below (T_65.setTop (mkF m 85 #[.val (.int p1), .val (.int p2), .val (.int p3), .unset, .unset, .unset, .unset] [(.int (14 : Int32)), (.ref b_37), (.ref b_37)])) _
    refine XS.iconst X_65.here hx rfl (hb hby at_85) ?_
    show Steps p.tables e below (T_65.setTop (mkF m 86 #[.val (.int p1), .val (.int p2), .val (.int p3), .unset, .unset, .unset, .unset] [(.int (0 : Int32)), (.int (14 : Int32)), (.ref b_37), (.ref b_37)])) _
    refine st_67 _ ?_
    show Steps p.tables e below (T_67.setTop (mkF m 87 #[.val (.int p1), .val (.int p2), .val (.int p3), .unset, .unset, .unset, .unset] [(.ref b_37)])) _
    refine XS.dup X_67.here hx rfl (hb hby at_87) rfl rfl ?_
    show Steps p.tables e below (T_67.setTop (mkF m 88 #[.val (.int p1), .val (.int p2), .val (.int p3), .unset, .unset, .unset, .unset] [(.ref b_37), (.ref b_37)])) _
    refine XS.bipush X_67.here hx rfl (hb hby at_88) ?_
    show Steps p.tables e below (T_67.setTop (mkF m 90 #[.val (.int p1), .val (.int p2), .val (.int p3), .unset, .unset, .unset, .unset] [(.int (15 : Int32)), (.ref b_37), (.ref b_37)])) _
    refine X_67.ldcInt hx hown (mvT hZ (hw _ (List.mem_of_getElem? (i := 11) rfl))) (g := (mkF m 90 #[.val (.int p1), .val (.int p2), .val (.int p3), .unset, .unset, .unset, .unset] [(.int (15 : Int32)), (.ref b_37), (.ref b_37)])) rfl (hb hby at_90) _ ?_
    show Steps p.tables e below (T_67.setTop (mkF m 92 #[.val (.int p1), .val (.int p2), .val (.int p3), .unset, .unset, .unset, .unset] [(.int (-2147483648 : Int32)), (.int (15 : Int32)), (.ref b_37), (.ref b_37)])) _
    refine st_69 _ ?_
    show Steps p.tables e below (T_69.setTop (mkF m 93 #[.val (.int p1), .val (.int p2), .val (.int p3), .unset, .unset, .unset, .unset] [(.ref b_37)])) _
    refine XS.dup X_69.here hx rfl (hb hby at_93) rfl rfl ?_
    show Steps p.tables e below (T_69.setTop (mkF m 94 #[.val (.int p1), .val (.int p2), .val (.int p3), .unset, .unset, .unset, .unset] [(.ref b_37), (.ref b_37)])) _
    refine XS.bipush X_69.here hx rfl (hb hby at_94) ?_
    show Steps p.tables e below (T_69.setTop (mkF m 96 #[.val (.int p1), .val (.int p2), .val (.int p3), .unset, .unset, .unset, .unset] [(.int (16 : Int32)), (.ref b_37), (.ref b_37)])) _
    refine X_69.ldcInt hx hown (mvT hZ (hw _ (List.mem_of_getElem? (i := 12) rfl))) (g := (mkF m 96 #[.val (.int p1), .val (.int p2), .val (.int p3), .unset, .unset, .unset, .unset] [(.int (16 : Int32)), (.ref b_37), (.ref b_37)])) rfl (hb hby at_96) _ ?_
    show Steps p.tables e below (T_69.setTop (mkF m 98 #[.val (.int p1), .val (.int p2), .val (.int p3), .unset, .unset, .unset, .unset] [(.int (2147483647 : Int32)), (.int (16 : Int32)), (.ref b_37), (.ref b_37)])) _
    refine st_71 _ ?_
    show Steps p.tables e below (T_71.setTop (mkF m 99 #[.val (.int p1), .val (.int p2), .val (.int p3), .unset, .unset, .unset, .unset] [(.ref b_37)])) _
    refine XS.astoreN X_71.here hx rfl (hb hby at_99) rfl rfl (l' := #[.val (.int p1), .val (.int p2), .val (.int p3), .val (.ref b_37), .unset, .unset, .unset]) rfl ?_
    show Steps p.tables e below (T_71.setTop (mkF m 100 #[.val (.int p1), .val (.int p2), .val (.int p3), .val (.ref b_37), .unset, .unset, .unset] [])) _
    refine XS.aloadN X_71.here hx rfl (hb hby at_100) rfl rfl ?_
    show Steps p.tables e below (T_71.setTop (mkF m 101 #[.val (.int p1), .val (.int p2), .val (.int p3), .val (.ref b_37), .unset, .unset, .unset] [(.ref b_37)])) _
    refine XS.iloadN X_71.here hx rfl (hb hby at_101) rfl ?_
    show Steps p.tables e below (T_71.setTop (mkF m 102 #[.val (.int p1), .val (.int p2), .val (.int p3), .val (.ref b_37), .unset, .unset, .unset] [(.int p2), (.ref b_37)])) _
    refine X_71.ldcInt hx hown (mvT hZ (hw _ (List.mem_of_getElem? (i := 12) rfl))) (g := (mkF m 102 #[.val (.int p1), .val (.int p2), .val (.int p3), .val (.ref b_37), .unset, .unset, .unset] [(.int p2), (.ref b_37)])) rfl (hb hby at_102) _ ?_
    show Steps p.tables e below (T_71.setTop (mkF m 104 #[.val (.int p1), .val (.int p2), .val (.int p3), .val (.ref b_37), .unset, .unset, .unset] [(.int (2147483647 : Int32)), (.int p2), (.ref b_37)])) _
    refine XS.iand X_71.here hx rfl (hb hby at_104) rfl ?_
    show Steps p.tables e below (T_71.setTop (mkF m 105 #[.val (.int p1), .val (.int p2), .val (.int p3), .val (.ref b_37), .unset, .unset, .unset] [(.int (p2 &&& (2147483647 : Int32))), (.ref b_37)])) _
    refine XS.aloadN X_71.here hx rfl (hb hby at_105) rfl rfl ?_
    show Steps p.tables e below (T_71.setTop (mkF m 106 #[.val (.int p1), .val (.int p2), .val (.int p3), .val (.ref b_37), .unset, .unset, .unset] [(.ref b_37), (.int (p2 &&& (2147483647 : Int32))), (.ref b_37)])) _
    refine X_71.arraylength hx (by rw [e_71]; exact Ar_73.1) (State.isArrayOf_alike hZ.alike Ar_73.2.1) (g := (mkF m 106 #[.val (.int p1), .val (.int p2), .val (.int p3), .val (.ref b_37), .unset, .unset, .unset] [(.ref b_37), (.int (p2 &&& (2147483647 : Int32))), (.ref b_37)])) rfl rfl (hb hby at_106) _ ?_
    rw [len_of S_73 M_73]
    show Steps p.tables e below (T_71.setTop (mkF m 107 #[.val (.int p1), .val (.int p2), .val (.int p3), .val (.ref b_37), .unset, .unset, .unset] [(.int (17 : Int32)), (.int (p2 &&& (2147483647 : Int32))), (.ref b_37)])) _
    refine iremM X_71 hx rfl (hb hby at_107) rfl (by decide) ?_
    show Steps p.tables e below (T_71.setTop (mkF m 108 #[.val (.int p1), .val (.int p2), .val (.int p3), .val (.ref b_37), .unset, .unset, .unset] [(.int ((p2 &&& (2147483647 : Int32)) % (17 : Int32))), (.ref b_37)])) _
    refine X_71.iaload hx (j := ((p2 &&& (2147483647 : Int32)) % (17 : Int32))) (v := (.int (own_tab.getD ((p2 &&& (2147483647 : Int32)) % (17 : Int32)).toNatClampNeg 0))) (by rw [e_71]; exact Ar_74.1) (State.isArrayOf_alike hZ.alike Ar_74.2.1) Ar_74.2.2 hin_74 hat_74 (g := (mkF m 108 #[.val (.int p1), .val (.int p2), .val (.int p3), .val (.ref b_37), .unset, .unset, .unset] [(.int ((p2 &&& (2147483647 : Int32)) % (17 : Int32))), (.ref b_37)])) rfl rfl (hb hby at_108) _ ?_
    show Steps p.tables e below (T_71.setTop (mkF m 109 #[.val (.int p1), .val (.int p2), .val (.int p3), .val (.ref b_37), .unset, .unset, .unset] [(.int (own_tab.getD ((p2 &&& (2147483647 : Int32)) % (17 : Int32)).toNatClampNeg 0))])) _
    refine XS.iloadN X_71.here hx rfl (hb hby at_109) rfl ?_
    show Steps p.tables e below (T_71.setTop (mkF m 110 #[.val (.int p1), .val (.int p2), .val (.int p3), .val (.ref b_37), .unset, .unset, .unset] [(.int p3), (.int (own_tab.getD ((p2 &&& (2147483647 : Int32)) % (17 : Int32)).toNatClampNeg 0))])) _
    refine X_71.ldcInt hx hown (mvT hZ (hw _ (List.mem_of_getElem? (i := 12) rfl))) (g := (mkF m 110 #[.val (.int p1), .val (.int p2), .val (.int p3), .val (.ref b_37), .unset, .unset, .unset] [(.int p3), (.int (own_tab.getD ((p2 &&& (2147483647 : Int32)) % (17 : Int32)).toNatClampNeg 0))])) rfl (hb hby at_110) _ ?_
    show Steps p.tables e below (T_71.setTop (mkF m 112 #[.val (.int p1), .val (.int p2), .val (.int p3), .val (.ref b_37), .unset, .unset, .unset] [(.int (2147483647 : Int32)), (.int p3), (.int (own_tab.getD ((p2 &&& (2147483647 : Int32)) % (17 : Int32)).toNatClampNeg 0))])) _
    refine XS.iand X_71.here hx rfl (hb hby at_112) rfl ?_
    show Steps p.tables e below (T_71.setTop (mkF m 113 #[.val (.int p1), .val (.int p2), .val (.int p3), .val (.ref b_37), .unset, .unset, .unset] [(.int (p3 &&& (2147483647 : Int32))), (.int (own_tab.getD ((p2 &&& (2147483647 : Int32)) % (17 : Int32)).toNatClampNeg 0))])) _
    refine XS.iconst X_71.here hx rfl (hb hby at_113) ?_
    show Steps p.tables e below (T_71.setTop (mkF m 114 #[.val (.int p1), .val (.int p2), .val (.int p3), .val (.ref b_37), .unset, .unset, .unset] [(.int (3 : Int32)), (.int (p3 &&& (2147483647 : Int32))), (.int (own_tab.getD ((p2 &&& (2147483647 : Int32)) % (17 : Int32)).toNatClampNeg 0))])) _
    refine iremM X_71 hx rfl (hb hby at_114) rfl (by decide) ?_
    show Steps p.tables e below (T_71.setTop (mkF m 115 #[.val (.int p1), .val (.int p2), .val (.int p3), .val (.ref b_37), .unset, .unset, .unset] [(.int ((p3 &&& (2147483647 : Int32)) % (3 : Int32))), (.int (own_tab.getD ((p2 &&& (2147483647 : Int32)) % (17 : Int32)).toNatClampNeg 0))])) _
    refine XS.iconst X_71.here hx rfl (hb hby at_115) ?_
    show Steps p.tables e below (T_71.setTop (mkF m 116 #[.val (.int p1), .val (.int p2), .val (.int p3), .val (.ref b_37), .unset, .unset, .unset] [(.int (1 : Int32)), (.int ((p3 &&& (2147483647 : Int32)) % (3 : Int32))), (.int (own_tab.getD ((p2 &&& (2147483647 : Int32)) % (17 : Int32)).toNatClampNeg 0))])) _
    refine XS.isub X_71.here hx rfl (hb hby at_116) rfl ?_
    show Steps p.tables e below (T_71.setTop (mkF m 117 #[.val (.int p1), .val (.int p2), .val (.int p3), .val (.ref b_37), .unset, .unset, .unset] [(.int (((p3 &&& (2147483647 : Int32)) % (3 : Int32)) - (1 : Int32))), (.int (own_tab.getD ((p2 &&& (2147483647 : Int32)) % (17 : Int32)).toNatClampNeg 0))])) _
    refine XS.iadd X_71.here hx rfl (hb hby at_117) rfl ?_
    show Steps p.tables e below (T_71.setTop (mkF m 118 #[.val (.int p1), .val (.int p2), .val (.int p3), .val (.ref b_37), .unset, .unset, .unset] [(.int ((own_tab.getD ((p2 &&& (2147483647 : Int32)) % (17 : Int32)).toNatClampNeg 0) + (((p3 &&& (2147483647 : Int32)) % (3 : Int32)) - (1 : Int32))))])) _
    refine XS.istore X_71.here hx rfl (hb hby at_118) rfl (l' := #[.val (.int p1), .val (.int p2), .val (.int p3), .val (.ref b_37), .val (.int ((own_tab.getD ((p2 &&& (2147483647 : Int32)) % (17 : Int32)).toNatClampNeg 0) + (((p3 &&& (2147483647 : Int32)) % (3 : Int32)) - (1 : Int32)))), .unset, .unset]) rfl ?_
    show Steps p.tables e below (T_71.setTop (mkF m 120 #[.val (.int p1), .val (.int p2), .val (.int p3), .val (.ref b_37), .val (.int ((own_tab.getD ((p2 &&& (2147483647 : Int32)) % (17 : Int32)).toNatClampNeg 0) + (((p3 &&& (2147483647 : Int32)) % (3 : Int32)) - (1 : Int32)))), .unset, .unset] [])) _
    refine XS.iloadN X_71.here hx rfl (hb hby at_120) rfl ?_
    show Steps p.tables e below (T_71.setTop (mkF m 121 #[.val (.int p1), .val (.int p2), .val (.int p3), .val (.ref b_37), .val (.int ((own_tab.getD ((p2 &&& (2147483647 : Int32)) % (17 : Int32)).toNatClampNeg 0) + (((p3 &&& (2147483647 : Int32)) % (3 : Int32)) - (1 : Int32)))), .unset, .unset] [(.int p1)])) _
    refine st_75 _ ?_
    show Steps p.tables e below (T_75.setTop (mkF m 124 #[.val (.int p1), .val (.int p2), .val (.int p3), .val (.ref b_37), .val (.int ((own_tab.getD ((p2 &&& (2147483647 : Int32)) % (17 : Int32)).toNatClampNeg 0) + (((p3 &&& (2147483647 : Int32)) % (3 : Int32)) - (1 : Int32)))), .unset, .unset] [(.int (own_is p1))])) _
    refine XS.iloadN X_75.here hx rfl (hb hby at_124) rfl ?_
    show Steps p.tables e below (T_75.setTop (mkF m 125 #[.val (.int p1), .val (.int p2), .val (.int p3), .val (.ref b_37), .val (.int ((own_tab.getD ((p2 &&& (2147483647 : Int32)) % (17 : Int32)).toNatClampNeg 0) + (((p3 &&& (2147483647 : Int32)) % (3 : Int32)) - (1 : Int32)))), .unset, .unset] [(.int p1), (.int (own_is p1))])) _
    refine st_76 _ ?_
    show Steps p.tables e below (T_76.setTop (mkF m 128 #[.val (.int p1), .val (.int p2), .val (.int p3), .val (.ref b_37), .val (.int ((own_tab.getD ((p2 &&& (2147483647 : Int32)) % (17 : Int32)).toNatClampNeg 0) + (((p3 &&& (2147483647 : Int32)) % (3 : Int32)) - (1 : Int32)))), .unset, .unset] [(.int (own_exp p1)), (.int (own_is p1))])) _
    refine XS.icmpNo X_76.here hx rfl (hb hby at_128) rfl (teq (own_same _ : (own_is p1) = (own_exp p1))).2 ?_
    show Steps p.tables e below (T_76.setTop (mkF m 131 #[.val (.int p1), .val (.int p2), .val (.int p3), .val (.ref b_37), .val (.int ((own_tab.getD ((p2 &&& (2147483647 : Int32)) % (17 : Int32)).toNatClampNeg 0) + (((p3 &&& (2147483647 : Int32)) % (3 : Int32)) - (1 : Int32)))), .unset, .unset] [])) _
    refine XS.iconst X_76.here hx rfl (hb hby at_131) ?_
    show Steps p.tables e below (T_76.setTop (mkF m 132 #[.val (.int p1), .val (.int p2), .val (.int p3), .val (.ref b_37), .val (.int ((own_tab.getD ((p2 &&& (2147483647 : Int32)) % (17 : Int32)).toNatClampNeg 0) + (((p3 &&& (2147483647 : Int32)) % (3 : Int32)) - (1 : Int32)))), .unset, .unset] [(.int (1 : Int32))])) _
    refine XS.goto X_76.here hx rfl (pc0 := 132) (pc' := 136) rfl (hb hby at_132) (by decide) (by decide) ?_
    show Steps p.tables e below (T_76.setTop (mkF m 136 #[.val (.int p1), .val (.int p2), .val (.int p3), .val (.ref b_37), .val (.int ((own_tab.getD ((p2 &&& (2147483647 : Int32)) % (17 : Int32)).toNatClampNeg 0) + (((p3 &&& (2147483647 : Int32)) % (3 : Int32)) - (1 : Int32)))), .unset, .unset] [(.int (1 : Int32))])) _
    refine XS.istore X_76.here hx rfl (hb hby at_136) rfl (l' := #[.val (.int p1), .val (.int p2), .val (.int p3), .val (.ref b_37), .val (.int ((own_tab.getD ((p2 &&& (2147483647 : Int32)) % (17 : Int32)).toNatClampNeg 0) + (((p3 &&& (2147483647 : Int32)) % (3 : Int32)) - (1 : Int32)))), .val (.int (1 : Int32)), .unset]) rfl ?_
    show Steps p.tables e below (T_76.setTop (mkF m 138 #[.val (.int p1), .val (.int p2), .val (.int p3), .val (.ref b_37), .val (.int ((own_tab.getD ((p2 &&& (2147483647 : Int32)) % (17 : Int32)).toNatClampNeg 0) + (((p3 &&& (2147483647 : Int32)) % (3 : Int32)) - (1 : Int32)))), .val (.int (1 : Int32)), .unset] [])) _
    refine XS.iload X_76.here hx rfl (hb hby at_138) rfl ?_
    show Steps p.tables e below (T_76.setTop (mkF m 140 #[.val (.int p1), .val (.int p2), .val (.int p3), .val (.ref b_37), .val (.int ((own_tab.getD ((p2 &&& (2147483647 : Int32)) % (17 : Int32)).toNatClampNeg 0) + (((p3 &&& (2147483647 : Int32)) % (3 : Int32)) - (1 : Int32)))), .val (.int (1 : Int32)), .unset] [(.int ((own_tab.getD ((p2 &&& (2147483647 : Int32)) % (17 : Int32)).toNatClampNeg 0) + (((p3 &&& (2147483647 : Int32)) % (3 : Int32)) - (1 : Int32))))])) _
    refine st_77 _ ?_
    show Steps p.tables e below (T_77.setTop (mkF m 143 #[.val (.int p1), .val (.int p2), .val (.int p3), .val (.ref b_37), .val (.int ((own_tab.getD ((p2 &&& (2147483647 : Int32)) % (17 : Int32)).toNatClampNeg 0) + (((p3 &&& (2147483647 : Int32)) % (3 : Int32)) - (1 : Int32)))), .val (.int (1 : Int32)), .unset] [(.int (own_is ((own_tab.getD ((p2 &&& (2147483647 : Int32)) % (17 : Int32)).toNatClampNeg 0) + (((p3 &&& (2147483647 : Int32)) % (3 : Int32)) - (1 : Int32)))))])) _
    refine XS.iload X_77.here hx rfl (hb hby at_143) rfl ?_
    show Steps p.tables e below (T_77.setTop (mkF m 145 #[.val (.int p1), .val (.int p2), .val (.int p3), .val (.ref b_37), .val (.int ((own_tab.getD ((p2 &&& (2147483647 : Int32)) % (17 : Int32)).toNatClampNeg 0) + (((p3 &&& (2147483647 : Int32)) % (3 : Int32)) - (1 : Int32)))), .val (.int (1 : Int32)), .unset] [(.int ((own_tab.getD ((p2 &&& (2147483647 : Int32)) % (17 : Int32)).toNatClampNeg 0) + (((p3 &&& (2147483647 : Int32)) % (3 : Int32)) - (1 : Int32)))), (.int (own_is ((own_tab.getD ((p2 &&& (2147483647 : Int32)) % (17 : Int32)).toNatClampNeg 0) + (((p3 &&& (2147483647 : Int32)) % (3 : Int32)) - (1 : Int32)))))])) _
    refine st_78 _ ?_
    show Steps p.tables e below (T_78.setTop (mkF m 148 #[.val (.int p1), .val (.int p2), .val (.int p3), .val (.ref b_37), .val (.int ((own_tab.getD ((p2 &&& (2147483647 : Int32)) % (17 : Int32)).toNatClampNeg 0) + (((p3 &&& (2147483647 : Int32)) % (3 : Int32)) - (1 : Int32)))), .val (.int (1 : Int32)), .unset] [(.int (own_exp ((own_tab.getD ((p2 &&& (2147483647 : Int32)) % (17 : Int32)).toNatClampNeg 0) + (((p3 &&& (2147483647 : Int32)) % (3 : Int32)) - (1 : Int32))))), (.int (own_is ((own_tab.getD ((p2 &&& (2147483647 : Int32)) % (17 : Int32)).toNatClampNeg 0) + (((p3 &&& (2147483647 : Int32)) % (3 : Int32)) - (1 : Int32)))))])) _
    refine XS.icmpNo X_78.here hx rfl (hb hby at_148) rfl (teq (own_same _ : (own_is ((own_tab.getD ((p2 &&& (2147483647 : Int32)) % (17 : Int32)).toNatClampNeg 0) + (((p3 &&& (2147483647 : Int32)) % (3 : Int32)) - (1 : Int32)))) = (own_exp ((own_tab.getD ((p2 &&& (2147483647 : Int32)) % (17 : Int32)).toNatClampNeg 0) + (((p3 &&& (2147483647 : Int32)) % (3 : Int32)) - (1 : Int32)))))).2 ?_
    show Steps p.tables e below (T_78.setTop (mkF m 151 #[.val (.int p1), .val (.int p2), .val (.int p3), .val (.ref b_37), .val (.int ((own_tab.getD ((p2 &&& (2147483647 : Int32)) % (17 : Int32)).toNatClampNeg 0) + (((p3 &&& (2147483647 : Int32)) % (3 : Int32)) - (1 : Int32)))), .val (.int (1 : Int32)), .unset] [])) _
    refine XS.iconst X_78.here hx rfl (hb hby at_151) ?_
    show Steps p.tables e below (T_78.setTop (mkF m 152 #[.val (.int p1), .val (.int p2), .val (.int p3), .val (.ref b_37), .val (.int ((own_tab.getD ((p2 &&& (2147483647 : Int32)) % (17 : Int32)).toNatClampNeg 0) + (((p3 &&& (2147483647 : Int32)) % (3 : Int32)) - (1 : Int32)))), .val (.int (1 : Int32)), .unset] [(.int (1 : Int32))])) _
    refine XS.goto X_78.here hx rfl (pc0 := 152) (pc' := 156) rfl (hb hby at_152) (by decide) (by decide) ?_
    show Steps p.tables e below (T_78.setTop (mkF m 156 #[.val (.int p1), .val (.int p2), .val (.int p3), .val (.ref b_37), .val (.int ((own_tab.getD ((p2 &&& (2147483647 : Int32)) % (17 : Int32)).toNatClampNeg 0) + (((p3 &&& (2147483647 : Int32)) % (3 : Int32)) - (1 : Int32)))), .val (.int (1 : Int32)), .unset] [(.int (1 : Int32))])) _
    refine XS.istore X_78.here hx rfl (hb hby at_156) rfl (l' := #[.val (.int p1), .val (.int p2), .val (.int p3), .val (.ref b_37), .val (.int ((own_tab.getD ((p2 &&& (2147483647 : Int32)) % (17 : Int32)).toNatClampNeg 0) + (((p3 &&& (2147483647 : Int32)) % (3 : Int32)) - (1 : Int32)))), .val (.int (1 : Int32)), .val (.int (1 : Int32))]) rfl ?_
    show Steps p.tables e below (T_78.setTop (mkF m 158 #[.val (.int p1), .val (.int p2), .val (.int p3), .val (.ref b_37), .val (.int ((own_tab.getD ((p2 &&& (2147483647 : Int32)) % (17 : Int32)).toNatClampNeg 0) + (((p3 &&& (2147483647 : Int32)) % (3 : Int32)) - (1 : Int32)))), .val (.int (1 : Int32)), .val (.int (1 : Int32))] [])) _
    refine XS.iload X_78.here hx rfl (hb hby at_158) rfl ?_
    show Steps p.tables e below (T_78.setTop (mkF m 160 #[.val (.int p1), .val (.int p2), .val (.int p3), .val (.ref b_37), .val (.int ((own_tab.getD ((p2 &&& (2147483647 : Int32)) % (17 : Int32)).toNatClampNeg 0) + (((p3 &&& (2147483647 : Int32)) % (3 : Int32)) - (1 : Int32)))), .val (.int (1 : Int32)), .val (.int (1 : Int32))] [(.int (1 : Int32))])) _
    refine XS.ifNo X_78.here hx rfl (hb hby at_160) rfl ((if0 _ _).trans (feq (by decide : ¬ ((1 : Int32) = (0 : Int32)))).1) ?_
    show Steps p.tables e below (T_78.setTop (mkF m 163 #[.val (.int p1), .val (.int p2), .val (.int p3), .val (.ref b_37), .val (.int ((own_tab.getD ((p2 &&& (2147483647 : Int32)) % (17 : Int32)).toNatClampNeg 0) + (((p3 &&& (2147483647 : Int32)) % (3 : Int32)) - (1 : Int32)))), .val (.int (1 : Int32)), .val (.int (1 : Int32))] [])) _
    refine XS.iload X_78.here hx rfl (hb hby at_163) rfl ?_
    show Steps p.tables e below (T_78.setTop (mkF m 165 #[.val (.int p1), .val (.int p2), .val (.int p3), .val (.ref b_37), .val (.int ((own_tab.getD ((p2 &&& (2147483647 : Int32)) % (17 : Int32)).toNatClampNeg 0) + (((p3 &&& (2147483647 : Int32)) % (3 : Int32)) - (1 : Int32)))), .val (.int (1 : Int32)), .val (.int (1 : Int32))] [(.int (1 : Int32))])) _
    refine XS.ifNo X_78.here hx rfl (hb hby at_165) rfl ((if0 _ _).trans (feq (by decide : ¬ ((1 : Int32) = (0 : Int32)))).1) ?_
    show Steps p.tables e below (T_78.setTop (mkF m 168 #[.val (.int p1), .val (.int p2), .val (.int p3), .val (.ref b_37), .val (.int ((own_tab.getD ((p2 &&& (2147483647 : Int32)) % (17 : Int32)).toNatClampNeg 0) + (((p3 &&& (2147483647 : Int32)) % (3 : Int32)) - (1 : Int32)))), .val (.int (1 : Int32)), .val (.int (1 : Int32))] [])) _
    refine XS.iconst X_78.here hx rfl (hb hby at_168) ?_
    show Steps p.tables e below (T_78.setTop (mkF m 169 #[.val (.int p1), .val (.int p2), .val (.int p3), .val (.ref b_37), .val (.int ((own_tab.getD ((p2 &&& (2147483647 : Int32)) % (17 : Int32)).toNatClampNeg 0) + (((p3 &&& (2147483647 : Int32)) % (3 : Int32)) - (1 : Int32)))), .val (.int (1 : Int32)), .val (.int (1 : Int32))] [(.int (1 : Int32))])) _
    refine XS.goto X_78.here hx rfl (pc0 := 169) (pc' := 173) rfl (hb hby at_169) (by decide) (by decide) ?_
    show Steps p.tables e below (T_78.setTop (mkF m 173 #[.val (.int p1), .val (.int p2), .val (.int p3), .val (.ref b_37), .val (.int ((own_tab.getD ((p2 &&& (2147483647 : Int32)) % (17 : Int32)).toNatClampNeg 0) + (((p3 &&& (2147483647 : Int32)) % (3 : Int32)) - (1 : Int32)))), .val (.int (1 : Int32)), .val (.int (1 : Int32))] [(.int (1 : Int32))])) _
    exact retN X_78 hx (t := .boolean) Bd.returns (by simp) (hb hby at_173) hr
  · show Q0 Z p1 p2 p3 h0 n0 _ T_78.heap _
    rw [e_78]
    exact ⟨rfl, N_78⟩
set_option maxRecDepth 65536 in
set_option maxHeartbeats 40000000 in
theorem comes_1 {Post : Tables → Env → Array Value → State → Outcome → State → Prop} (hpost : ∀ tb e args s v u, (limb_1_1.after args s (.returned v) u = true ∧ limb_1_2.after args s (.returned v) u = true ∧ True) → FrameEnd s (.returned v) u (Jvm.fieldLocs frame_1_writes args s ++ Jvm.arrayLocs frame_1_arrays args s ++ Jvm.staticLocs frame_1_statics s) 16 128 → Post tb e args s (.returned v) u) :
    ArmFor flags0 classFile x code maxLocals ret World_1 tables_1 room_1 Calls_1 rest_1 Pre_1 Post := by
  intro l hfl _ _ p e ha hc hk s m args below hf hA hF happ hP
  obtain ⟨hcalls, hrest, hpre⟩ := hP
  obtain ⟨-, -, -, hnamed, -, -, -, hat⟩ := (Spec.applies_iff hf).mp happ
  obtain ⟨hg, hn⟩ := and_e (Cond.before_iff.mp (show (Jvm.Cond.and given_1 narrow_1).before args s = true from hpre))
  obtain ⟨g_79, g_80⟩ := and_e hg
  obtain ⟨g_81, g_82⟩ := and_e g_80
  obtain ⟨g_83, g_84⟩ := and_e g_82
  obtain ⟨w0, w1, w2, rfl⟩ : ∃ w0 w1 w2 : Value, args = #[w0, w1, w2] := by
    have hs : args.size = 3 := by simpa [Cond.value, given_1] using g_79
    obtain ⟨L⟩ := args
    match L, hs with
    | [w0, w1, w2], _ => exact ⟨w0, w1, w2, rfl⟩
  have hw := fun d (hd : d ∈ tables_1) => atoms_spec (ws := Jvm.Cond.code x code maxLocals ret :: tables_1) hat d (List.mem_cons_of_mem _ hd)
  obtain ⟨i0, ei0⟩ := is_v g_81
  obtain rfl : w0 = (.int i0) := Option.some.inj ei0
  obtain ⟨i1, ei1⟩ := is_v g_83
  obtain rfl : w1 = (.int i1) := Option.some.inj ei1
  obtain ⟨i2, ei2⟩ := is_v g_84
  obtain rfl : w2 = (.int i2) := Option.some.inj ei2
  obtain ⟨n, o, h1, h2, h3, _, L, rfl, ⟨rfl, N⟩, hq⟩ := rm0 l s _ hw tables_1 i0 i1 i2 s.heap s.heap.size (Nat.le_refl _) p e ha hc hk s m _ below hf ((Spec.applies_iff_loose hf).mp happ).1 ⟨rfl, State.Warmed39.refl s, rfl⟩ trivial
  refine ⟨n, _, h1, h2, h3, hpost _ _ _ _ _ _ ⟨Cond.after_iff.mpr rfl, Cond.after_iff.mpr (eq_i res_at (Term.int_eval (1)) rfl), trivial⟩ ⟨hq.1, hq.2.1, (hq.2.2.sift fun y hy => Or.inr (N y hy)).mono (by decide) (by decide)⟩⟩
theorem main_1_1 : Claimed_1_1 := comes_1 fun _ _ _ _ _ _ h hF => ⟨h.1, hF⟩
theorem main_1_2 : Claimed_1_2 := comes_1 fun _ _ _ _ _ _ h hF => ⟨h.2.1, hF⟩
end Jvm.Pilot.@@N@@
namespace Jvm.Pilot.@@N@@
open Jvm Jvm.ClassFile Sem Op Lib Jvm.Free Jvm.Stand Jvm.Pilot.@@N@@.Jvm.D
/-! MADE BY PROGRAM (witnessworld.py) out of the Statement's table words and the real class files: 9 classes; the members and pool entries that the words name. The judged class is class 1, her method 2. -/
namespace start1
open Jvm.ClassFile
def u (s : String) : CpInfo := .utf8 (stringToUtf16 s)
/-- a pool by its gaps: so many unusable entries, then the entry; so many at the end -/
def gap : Nat → List CpInfo → List CpInfo
  | 0, r => r
  | n + 1, r => .unusable :: gap n r
def poolList (es : List (Nat × CpInfo)) (last : Nat) : List CpInfo := es.foldr (fun e r => gap e.1 (e.2 :: r)) (gap last [])
def pool (es : List (Nat × CpInfo)) (last : Nat) : Array CpInfo := ⟨poolList es last⟩
def fileOf (pool : Array CpInfo) (this : Nat) (attrs : Array Attribute := #[]) (ms : Array MethodInfo := #[]) (fl : Nat := 33) (sup : Nat := 0) (ifs : Array Nat := #[]) (fds : Array FieldInfo := #[]) : ClassFile where
  minorVersion := 0
  majorVersion := 65
  constantPool := pool
  accessFlags := fl
  thisClass := this
  superClass := sup
  interfaces := ifs
  fields := fds
  methods := ms
  attributes := attrs
def plain (name : String) (sup : Option ClassId) : Class where
  name := name
  kind := .ordinary
  loader := none
  accessFlags := 33
  super := sup
  interfaces := #[]
  cf := none
  fields := #[]
  methods := #[]
  instanceTypes := #[]
  staticTypes := #[]
  resolved := #[]
  callSites := []
  init := .initialized
  statics := none
  mirror := none

def pool0 : Array CpInfo := pool [(5, u "<init>"), (0, u "()V"), (1, .class_ 10), (1, u "java/lang/Object")] 113

def k0m0 : Method := { name := "<init>", desc := "()V", sig := { parameters := [], returnType := none }, accessFlags := 1, code := none }
/-- java/lang/Object -/
def k0 : Class := { plain "java/lang/Object" none with
  accessFlags := 33
  interfaces := #[]
  cf := some (fileOf pool0 8 #[] #[{ accessFlags := 1, nameIndex := 5, descriptorIndex := 6, attributes := #[] }] 33 0 #[] #[])
  fields := #[]
  methods := #[k0m0]
  instanceTypes := #[]
  staticTypes := #[]
  resolved := Array.replicate 124 none
  statics := none }

def pool1 : Array CpInfo := pool [(2, .class_ 4), (1, u "java/lang/Object"), (0, u "<init>"), (0, u "()V"), (0, .integer 1114111), (0, .integer 55296), (0, .integer 57343), (0, .integer 65534), (0, .integer 65535), (0, .integer 55295), (0, .integer 57344), (0, .integer 65533), (0, .integer 65536), (0, .integer 1114112), (2, .integer 2147483648), (0, .integer 2147483647), (0, .methodref 22 23), (0, .class_ 24), (0, .nameAndType 25 26), (0, u "com/example/xpoch/xpoch/model/XmlGrammar"), (0, u "isCharacter"), (0, u "(I)Z"), (0, .methodref 28 29), (0, .class_ 30), (0, .nameAndType 31 26), (0, u "com/example/xpoch/xpoch/model/XmlGrammarIsCharacterPinLaw"), (0, u "expected"), (3, u "law"), (0, u "(III)Z")] 4

def k1m0 : Method := { name := "<init>", desc := "()V", sig := { parameters := [], returnType := none }, accessFlags := 2, code := none }
def k1c1 : Code := { maxStack := 2, maxLocals := 1, code := method_2_code, exceptionTable := #[], attributes := #[] }
def k1m1 : Method := { name := "expected", desc := "(I)Z", sig := { parameters := [.int], returnType := some .boolean }, accessFlags := 10, code := some k1c1 }
def k1c2 : Code := { maxStack := 4, maxLocals := 7, code := code, exceptionTable := #[], attributes := #[] }
def k1m2 : Method := { name := "law", desc := "(III)Z", sig := { parameters := [.int, .int, .int], returnType := some .boolean }, accessFlags := 9, code := some k1c2 }
/-- com/example/xpoch/xpoch/model/XmlGrammarIsCharacterPinLaw -/
def k1 : Class := { plain "com/example/xpoch/xpoch/model/XmlGrammarIsCharacterPinLaw" (some 0) with
  accessFlags := 49
  interfaces := #[]
  cf := some (fileOf pool1 28 #[] #[{ accessFlags := 2, nameIndex := 5, descriptorIndex := 6, attributes := #[] }, { accessFlags := 10, nameIndex := 31, descriptorIndex := 26, attributes := #[] }, { accessFlags := 9, nameIndex := 35, descriptorIndex := 36, attributes := #[] }] 49 2 #[] #[])
  fields := #[]
  methods := #[k1m0, k1m1, k1m2]
  instanceTypes := #[]
  staticTypes := #[]
  resolved := Array.replicate 41 none
  statics := none }

def pool2 : Array CpInfo := pool [(2, .class_ 4), (1, u "java/lang/Object"), (0, u "<init>"), (0, u "()V"), (0, .integer 55295), (0, .integer 57344), (0, .integer 65533), (0, .integer 65536), (0, .integer 1114111), (1, .class_ 15), (1, u "com/example/xpoch/xpoch/model/XmlGrammar"), (0, u "ASCII_NAME_START"), (0, u "[Z"), (2, u "NAME_START"), (0, u "[I"), (6, u "ASCII_NAME_CHARACTER"), (2, u "NAME_ONLY"), (13, u "(I)Z"), (38, u "ENCODING_NAME"), (0, u "Ljava/util/regex/Pattern;"), (13, u "isCharacter"), (33, u "XML_NAMESPACE"), (0, u "Ljava/lang/String;"), (3, u "XMLNS_NAMESPACE")] 32

def k2m0 : Method := { name := "<init>", desc := "()V", sig := { parameters := [], returnType := none }, accessFlags := 2, code := none }
def k2c1 : Code := { maxStack := 2, maxLocals := 1, code := prog_152_method_2_code, exceptionTable := #[], attributes := #[] }
def k2m1 : Method := { name := "isCharacter", desc := "(I)Z", sig := { parameters := [.int], returnType := some .boolean }, accessFlags := 9, code := some k2c1 }
/-- com/example/xpoch/xpoch/model/XmlGrammar -/
def k2 : Class := { plain "com/example/xpoch/xpoch/model/XmlGrammar" (some 0) with
  accessFlags := 49
  interfaces := #[]
  cf := some (fileOf pool2 13 #[] #[{ accessFlags := 2, nameIndex := 5, descriptorIndex := 6, attributes := #[] }, { accessFlags := 9, nameIndex := 99, descriptorIndex := 45, attributes := #[] }] 49 2 #[] #[{ accessFlags := 25, nameIndex := 133, descriptorIndex := 134, attributes := #[] }, { accessFlags := 25, nameIndex := 138, descriptorIndex := 134, attributes := #[] }, { accessFlags := 26, nameIndex := 20, descriptorIndex := 21, attributes := #[] }, { accessFlags := 26, nameIndex := 31, descriptorIndex := 21, attributes := #[] }, { accessFlags := 26, nameIndex := 16, descriptorIndex := 17, attributes := #[] }, { accessFlags := 26, nameIndex := 28, descriptorIndex := 17, attributes := #[] }, { accessFlags := 26, nameIndex := 84, descriptorIndex := 85, attributes := #[] }])
  fields := #[{ name := "XML_NAMESPACE", type := (.object "java/lang/String"), accessFlags := 25, slot := 0, constantValue := 0 }, { name := "XMLNS_NAMESPACE", type := (.object "java/lang/String"), accessFlags := 25, slot := 1, constantValue := 0 }, { name := "NAME_START", type := (.array .int), accessFlags := 26, slot := 2, constantValue := 0 }, { name := "NAME_ONLY", type := (.array .int), accessFlags := 26, slot := 3, constantValue := 0 }, { name := "ASCII_NAME_START", type := (.array .boolean), accessFlags := 26, slot := 4, constantValue := 0 }, { name := "ASCII_NAME_CHARACTER", type := (.array .boolean), accessFlags := 26, slot := 5, constantValue := 0 }, { name := "ENCODING_NAME", type := (.object "java/util/regex/Pattern"), accessFlags := 26, slot := 6, constantValue := 0 }]
  methods := #[k2m0, k2m1]
  instanceTypes := #[]
  staticTypes := #[(.object "java/lang/String"), (.object "java/lang/String"), (.array .int), (.array .int), (.array .boolean), (.array .boolean), (.object "java/util/regex/Pattern")]
  resolved := Array.replicate 171 none
  statics := none }

def pool3 : Array CpInfo := pool [(1, u "java/lang/Cloneable"), (0, .class_ 1), (0, u "java/lang/Object"), (0, .class_ 3)] 3

/-- java/lang/Cloneable -/
def k3 : Class := { plain "java/lang/Cloneable" (some 0) with
  accessFlags := 1537
  interfaces := #[]
  cf := some (fileOf pool3 2 #[] #[] 1537 4 #[] #[])
  fields := #[]
  methods := #[]
  instanceTypes := #[]
  staticTypes := #[]
  resolved := Array.replicate 8 none
  statics := none }

def pool4 : Array CpInfo := pool [(1, u "java/io/Serializable"), (0, .class_ 1), (0, u "java/lang/Object"), (0, .class_ 3)] 3

/-- java/io/Serializable -/
def k4 : Class := { plain "java/io/Serializable" (some 0) with
  accessFlags := 1537
  interfaces := #[]
  cf := some (fileOf pool4 2 #[] #[] 1537 4 #[] #[])
  fields := #[]
  methods := #[]
  instanceTypes := #[]
  staticTypes := #[]
  resolved := Array.replicate 8 none
  statics := none }

/-- the primitive byte -/
def k5 : Class := { plain "byte" none with kind := .primitive 'B', accessFlags := 0x411 }
/-- [B -/
def k6 : Class := { plain "[B" (some 0) with kind := .array 5 .byte, interfaces := #[3, 4], accessFlags := 1041 }

/-- the primitive int -/
def k7 : Class := { plain "int" none with kind := .primitive 'I', accessFlags := 0x411 }
/-- [I -/
def k8 : Class := { plain "[I" (some 0) with kind := .array 7 .int, interfaces := #[3, 4], accessFlags := 1041 }

def heap : Heap := #[]
def classes : Array Class := #[k0, k1, k2, k3, k4, k5, k6, k7, k8]
def interned : List (Array UInt16 × Addr) := []
def slotsUsed : Nat := 0
def theMethod : MethodId := ⟨1, 2⟩
def args0 : Array Value := #[.int 5, .int 3, .int 3]
def aboutOver (below : List Frame) : State where
  vm := { classes := classes, interned := interned.toArray }
  heap := heap
  slotsUsed := slotsUsed
  threads := #[{ frames := .invoking theMethod args0 :: below }]
def below0 : List Frame := [.native { method := ⟨0, 0⟩, args := #[] }]
def about1 : State := aboutOver below0
def p0 : Program := .bare "" "" ""
def e0 : Env := launch0.env 0 0 0
theorem w_frames : about1.frames = Frame.invoking theMethod args0 :: below0 := rfl
set_option maxRecDepth 65536 in
theorem w_args : argsFit about1.vm theMethod args0 = true := by decide +kernel
set_option maxRecDepth 65536 in
theorem w_heap : heapFits about1 = true := by decide +kernel
set_option maxRecDepth 65536 in
theorem w_runnable : about1.curStatus? = some .runnable := by decide +kernel
set_option maxRecDepth 65536 in
theorem w_alone : about1.alone = true := by decide +kernel
set_option maxRecDepth 65536 in
theorem w_named : about1.methodNamed? x = some theMethod := by decide +kernel
set_option maxRecDepth 65536 in
theorem w_hears : about1.hears theMethod below0 = true := by decide +kernel
set_option maxRecDepth 65536 in
theorem w_ripe : about1.ripe theMethod args0 below0 = true := by decide +kernel
theorem w_running : about1.status = .running := rfl
set_option maxRecDepth 65536 in
theorem w_room : about1.hasRoom e0.platform room_1 = true :=
  launch0.hasRoom_least _ room_1 (by decide +kernel) (by decide +kernel) (by decide +kernel) (by decide +kernel) (by decide +kernel) (by decide +kernel)
theorem allAtoms_all (ts : List Jvm.Cond) (a : Array Jvm.Value) (st : Jvm.State) : (allAtoms ts).before a st = ts.all (fun c => c.before a st) := by
  induction ts with
  | nil => rfl
  | cons c t ih =>
    show (Jvm.Cond.and c (allAtoms t)).before a st = _
    rw [Jvm.Cond.before_and, ih, List.all_cons]
def words1 : List Jvm.Cond := Jvm.Cond.code x code maxLocals ret :: tables_1
/-- a 'code' word, met by the world's own term for the bytes: nothing is compared byte by byte -/
theorem code_word {y : MethodName} {bytes : ByteArray} {mx : Nat} {rt : Option FieldType} {a : Array Value} {s : State} {m : MethodId} {meth : Method} {c : Code} (h1 : s.methodNamed? y = some m) (h2 : s.vm.method? m = some meth) (h3 : meth.code = some c) (h4 : c.code = bytes)
    (h5 : (c.maxLocals == mx && c.exceptionTable.isEmpty && decide (c.maxStack ≤ mostOperands) && decide (meth.sig.returnType = rt) && !meth.locks && decide (parseMethodDescriptor y.desc = some meth.sig)) = true) : (Jvm.Cond.code y bytes mx rt).before a s = true := by
  simp only [Bool.and_eq_true, beq_iff_eq, Bool.not_eq_true', decide_eq_true_eq] at h5
  obtain ⟨⟨⟨⟨⟨g1, g2⟩, g3⟩, g4⟩, g5⟩, g6⟩ := h5
  simp [Cond.before, Cond.holds, Cond.value, h1, h2, h3, h4, g1, g2, g3, g4, g5, g6]
def isCode : Jvm.Cond → Bool
  | .code _ _ _ _ => true
  | _ => false
theorem all_split {L : List Jvm.Cond} {P : Jvm.Cond → Bool} (h1 : L.all (fun c => isCode c || P c) = true) (h2 : ∀ c ∈ L.filter isCode, P c = true) : L.all P = true := by
  refine List.all_eq_true.mpr fun c hc => ?_
  have h := List.all_eq_true.mp h1 c hc
  rcases Bool.eq_false_or_eq_true (isCode c) with hi | hi
  · exact h2 c (List.mem_filter.mpr ⟨hc, hi⟩)
  · simpa [hi] using h
set_option maxRecDepth 65536 in
theorem w_c0 : (Jvm.Cond.code x code maxLocals ret).before args0 about1 = true := code_word (m := ⟨1, 2⟩) (meth := k1m2) (c := k1c2) (by decide +kernel) rfl rfl rfl (by decide +kernel)
set_option maxRecDepth 65536 in
theorem w_c1 : (Jvm.Cond.code ({ cls := "com/example/xpoch/xpoch/model/XmlGrammar", name := "isCharacter", desc := "(I)Z" } : Jvm.MethodName) prog_152_method_2_code (1 : Nat) (Option.some Jvm.ClassFile.FieldType.boolean)).before args0 about1 = true := code_word (m := ⟨2, 1⟩) (meth := k2m1) (c := k2c1) (by decide +kernel) rfl rfl rfl (by decide +kernel)
set_option maxRecDepth 65536 in
theorem w_c2 : (Jvm.Cond.code ({ cls := "com/example/xpoch/xpoch/model/XmlGrammarIsCharacterPinLaw", name := "expected", desc := "(I)Z" } : Jvm.MethodName) method_2_code (1 : Nat) (Option.some Jvm.ClassFile.FieldType.boolean)).before args0 about1 = true := code_word (m := ⟨1, 1⟩) (meth := k1m1) (c := k1c1) (by decide +kernel) rfl rfl rfl (by decide +kernel)
def codes1 : List Jvm.Cond := [Jvm.Cond.code x code maxLocals ret, Jvm.Cond.code ({ cls := "com/example/xpoch/xpoch/model/XmlGrammar", name := "isCharacter", desc := "(I)Z" } : Jvm.MethodName) prog_152_method_2_code (1 : Nat) (Option.some Jvm.ClassFile.FieldType.boolean), Jvm.Cond.code ({ cls := "com/example/xpoch/xpoch/model/XmlGrammarIsCharacterPinLaw", name := "expected", desc := "(I)Z" } : Jvm.MethodName) method_2_code (1 : Nat) (Option.some Jvm.ClassFile.FieldType.boolean)]
set_option maxRecDepth 65536 in
theorem codes_eq : words1.filter isCode = codes1 := rfl
theorem w_codes : ∀ c ∈ words1.filter isCode, c.before args0 about1 = true := by
  rw [codes_eq]
  intro c hc
  simp only [codes1, List.mem_cons, List.not_mem_nil, or_false] at hc
  rcases hc with rfl | rfl | rfl
  · exact w_c0
  · exact w_c1
  · exact w_c2
set_option maxRecDepth 65536 in
theorem w_t1 : (words1.take 24).all (fun c => isCode c || c.before args0 about1) = true := by decide +kernel
set_option maxRecDepth 65536 in
theorem w_t2 : (words1.drop 24).all (fun c => isCode c || c.before args0 about1) = true := by decide +kernel
theorem w_tables : (allAtoms (Jvm.Cond.code x code maxLocals ret :: tables_1)).before args0 about1 = true := by
  rw [allAtoms_all]
  show words1.all (fun c => c.before args0 about1) = true
  refine all_split ?_ w_codes
  rw [← List.take_append_drop 24 words1, List.all_append, w_t1, w_t2]
  rfl
set_option maxRecDepth 65536 in
theorem w_case : (Jvm.Cond.and given_1 narrow_1).before args0 about1 = true := by decide +kernel
theorem w_applies : (headSpec (Jvm.Cond.code x code maxLocals ret :: tables_1) room_1).applies x e0.platform about1 = true :=
  (Spec.applies_iff w_frames).mpr ⟨w_running, w_runnable, w_alone, w_named, w_hears, w_ripe, w_room, w_tables⟩
theorem atStart : AtStart classFile x code maxLocals ret World_1 tables_1 room_1 Calls_1 rest_1 Pre_1 launch0 p0 e0 about1 theMethod args0 below0 :=
  ⟨lists_1, trivial, launch0.admits_env _ _ _, launch0.least_env, fairChoices_fair.cas, fairChoices_fair.clock, w_frames, w_args, w_heap, w_applies, trivial, trivial, w_case⟩
end start1
theorem witness_1 : WitnessClaimed_1 := ⟨start1.p0, start1.e0, start1.about1, start1.theMethod, start1.args0, start1.below0, start1.atStart⟩
end Jvm.Pilot.@@N@@
