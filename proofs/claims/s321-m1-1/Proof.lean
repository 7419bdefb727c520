import JvmDerived
import JvmDerived.Pilot.@@N@@Statement
import JvmDerived.Pilot.@@N@@Code
set_option linter.unusedVariables false
set_option linter.unusedSimpArgs false
namespace Jvm.RoadKit
open Sem ClassFile Op Lib Jvm.Stand Jvm.Free Jvm.LawKit
section New
variable {p : Program} {l : Launch} {e : Env} {R : Room} {s : State} {m : MethodId} {args : Array Value} {below : List Frame} {meth : Method} {c : Code} {T : State} {locs : List Loc} {cells slots : Nat}
theorem retI (X : Stand p l e R s m args below meth c T locs cells slots) (hx : p.tables.exec = Jvm.exec) {pc : Nat} {Ls : Array Slot} {z : Int32} {rest : List Value} (hret : meth.sig.returnType = some .int) (hd : decode c.code pc = .ok (.ireturn, 1)) {fs : List Frame}
    (hl : ∀ (f : JFrame) (acts : List Action), f.method = m → f.locked = none → f.entered = [] → (doReturn e (T.setTop f) acts (some (.int z))).1 = T.setFrames fs) : Steps p.tables e below (T.setTop (mkF m pc Ls (.int z :: rest))) (T.setFrames fs) := by
  have hm' : T.vm.method? m = some meth := X.method'
  have hn : narrow .int (.int z) = .int z := rfl
  show Steps p.tables e below (T.setTop { method := m, pc := pc, locals := Ls, stack := _ :: rest, locked := none }) _
  jvm_step X.here [X.here.top, hx, hd, hm', hret, hn]
  first | (intro acts; rw [hl _ acts rfl rfl rfl]) | rw [hl _ _ rfl rfl rfl]
  exact Steps.refl _
end New
end Jvm.RoadKit
namespace Jvm.Pilot.@@N@@
open Jvm Jvm.ClassFile Sem Op Lib Jvm.Free Jvm.Stand Jvm.LawKit Jvm.RoadKit Bundle Jvm.Pilot.@@N@@.Jvm.D
theorem d3_0 : decode method_2_code 0 = .ok (.iload_n 1, 1) := by decide +kernel
theorem d3_1 : decode method_2_code 1 = .ok (.iload_n 0, 1) := by decide +kernel
theorem d3_2 : decode method_2_code 2 = .ok (.if_icmp .gt 12, 3) := by decide +kernel
theorem d3_5 : decode method_2_code 5 = .ok (.iload_n 0, 1) := by decide +kernel
theorem d3_6 : decode method_2_code 6 = .ok (.iload_n 2, 1) := by decide +kernel
theorem d3_7 : decode method_2_code 7 = .ok (.if_icmp .gt 7, 3) := by decide +kernel
theorem d3_10 : decode method_2_code 10 = .ok (.iconst 1, 1) := by decide +kernel
theorem d3_11 : decode method_2_code 11 = .ok (.goto 4, 3) := by decide +kernel
theorem d3_14 : decode method_2_code 14 = .ok (.iconst 0, 1) := by decide +kernel
theorem d3_15 : decode method_2_code 15 = .ok (.ireturn, 1) := by decide +kernel
theorem pn_own_in : plainName "com/example/xml_element_search/xmlelementsearch/VersionAllowsPinLaw" = true := by first | (simp [plainName, overriddenIn]; done) | decide +kernel
theorem ef_own_in (m : MethodId) (x0 : Int32) (x1 : Int32) (x2 : Int32) : entryFrame m #[(.int x0), (.int x1), (.int x2)] 3 = mkF m 0 #[.val (.int x0), .val (.int x1), .val (.int x2)] [] := by first | (simp [entryFrame, mkF, argsToLocals, Value.category]; done) | rfl
def Q_own_in (Z : State) (p0 : Int32) (p1 : Int32) (p2 : Int32)  (h0 : Heap) (n0 : Nat) (v : Option Value) (h : Heap) (L : List Loc) : Prop := v = some (.int (if (p0 < p1 ∨ p2 < p0) then (0 : Int32) else (1 : Int32))) ∧ Fr n0 L ∧ h = h0
set_option maxRecDepth 65536 in
set_option maxHeartbeats 40000000 in
theorem own_in (l : Launch) (Z : State) (a0 : Array Value) (hw : ∀ d ∈ tables_1, d.before a0 Z = true) (ws : List Jvm.Cond) (p0 : Int32) (p1 : Int32) (p2 : Int32)  (h0 : Heap) (n0 : Nat) (Z0 : n0 ≤ h0.size)  :
    MetFree l (⟨"com/example/xml_element_search/xmlelementsearch/VersionAllowsPinLaw", "in", "(III)Z"⟩ : MethodName) (head1 (Jvm.Cond.code (⟨"com/example/xml_element_search/xmlelementsearch/VersionAllowsPinLaw", "in", "(III)Z"⟩ : MethodName) method_2_code 3 (some .boolean) :: ws) ({ frames := 0, cells := 0, slots := 0, locals := 0 } : Room)) (fun a U => a = #[(.int p0), (.int p1), (.int p2)] ∧ Z.Warmed39 U.vm ∧ U.heap = h0) (fun _ _ _ _ _ => True) (fun _ U o U' => ∃ v L, o = .returned v ∧ Q_own_in Z p0 p1 p2  h0 n0 v U'.heap L ∧ FrameEnd U o U' L ({ frames := 0, cells := 0, slots := 0, locals := 0 } : Room).cells ({ frames := 0, cells := 0, slots := 0, locals := 0 } : Room).slots) := by
  refine MetFree.of_bodySF (plainFor_of_name pn_own_in) hisR ?_
  intro p e s m args below meth c s₁ Bd hml0 hP hK
  obtain ⟨rfl, hZ, hh⟩ := hP
  have hx := Bd.exec
  have hby := Bd.bytes
  have hml : c.maxLocals = 3 := hml0
  have hown : s.vm.findClass "com/example/xml_element_search/xmlelementsearch/VersionAllowsPinLaw" = some m.cls := findClass_of_methodNamed Bd.named
  have hnm := (name_of_methodNamed Bd.named Bd.method).1
  have X0 : Stand p l e ({ frames := 0, cells := 0, slots := 0, locals := 0 } : Room) s m #[(.int p0), (.int p1), (.int p2)] below meth c s₁ [] 0 0 := Stand.of_body Bd
  have e0 : s₁.heap = h0 := by rw [← hh, Bd.state]; rfl
  have N0 := Fr.nil n0
  have pre0 : ∀ t, Steps p.tables e below (s₁.setTop (mkF m 0 #[.val (.int p0), .val (.int p1), .val (.int p2)] [])) t → Steps p.tables e below (s₁.setTop (entryFrame m #[(.int p0), (.int p1), (.int p2)] 3)) t := fun t k => castTop (ef_own_in m (p0) (p1) (p2)) k
  by_cases h1 : p0 < p1
  · obtain ⟨fs, hr, hrun, hended, hW, hsame⟩ := X0.leave (v := some (.int (0 : Int32))) (fun h => by rw [Bd.returns] at h; cases h)
    refine ⟨_, _, pre0 _ ?_, hrun, hended, _, _, rfl, ?_, ⟨_, rfl⟩, hW, hsame.mono (by decide) (by decide)⟩
    · show Steps p.tables e below (s₁.setTop (mkF m 0 #[.val (.int p0), .val (.int p1), .val (.int p2)] [])) _
      refine XS.iloadN X0.here hx rfl (hb hby d3_0) rfl ?_
      show Steps p.tables e below (s₁.setTop (mkF m 1 #[.val (.int p0), .val (.int p1), .val (.int p2)] [(.int p1)])) _
      refine XS.iloadN X0.here hx rfl (hb hby d3_1) rfl ?_
      show Steps p.tables e below (s₁.setTop (mkF m 2 #[.val (.int p0), .val (.int p1), .val (.int p2)] [(.int p0), (.int p1)])) _
      refine XS.icmpYes X0.here hx rfl (pc0 := 2) (pc' := 14) rfl (hb hby d3_2) rfl (XT.ii_gt_t h1) (by decide) (by decide) ?_
      show Steps p.tables e below (s₁.setTop (mkF m 14 #[.val (.int p0), .val (.int p1), .val (.int p2)] [])) _
      refine XS.iconst X0.here hx rfl (hb hby d3_14) ?_
      show Steps p.tables e below (s₁.setTop (mkF m 15 #[.val (.int p0), .val (.int p1), .val (.int p2)] [(.int (0 : Int32))])) _
      exact retN X0 hx (t := .boolean) Bd.returns (by simp) (hb hby d3_15) hr
    · show Q_own_in Z p0 p1 p2  h0 n0 _ s₁.heap _
      rw [e0]
      exact ⟨by simp [h1], N0, rfl⟩
  · by_cases h2 : p2 < p0
    · obtain ⟨fs, hr, hrun, hended, hW, hsame⟩ := X0.leave (v := some (.int (0 : Int32))) (fun h => by rw [Bd.returns] at h; cases h)
      refine ⟨_, _, pre0 _ ?_, hrun, hended, _, _, rfl, ?_, ⟨_, rfl⟩, hW, hsame.mono (by decide) (by decide)⟩
      · show Steps p.tables e below (s₁.setTop (mkF m 0 #[.val (.int p0), .val (.int p1), .val (.int p2)] [])) _
        refine XS.iloadN X0.here hx rfl (hb hby d3_0) rfl ?_
        show Steps p.tables e below (s₁.setTop (mkF m 1 #[.val (.int p0), .val (.int p1), .val (.int p2)] [(.int p1)])) _
        refine XS.iloadN X0.here hx rfl (hb hby d3_1) rfl ?_
        show Steps p.tables e below (s₁.setTop (mkF m 2 #[.val (.int p0), .val (.int p1), .val (.int p2)] [(.int p0), (.int p1)])) _
        refine XS.icmpNo X0.here hx rfl (hb hby d3_2) rfl (XT.ii_gt_f h1) ?_
        show Steps p.tables e below (s₁.setTop (mkF m 5 #[.val (.int p0), .val (.int p1), .val (.int p2)] [])) _
        refine XS.iloadN X0.here hx rfl (hb hby d3_5) rfl ?_
        show Steps p.tables e below (s₁.setTop (mkF m 6 #[.val (.int p0), .val (.int p1), .val (.int p2)] [(.int p0)])) _
        refine XS.iloadN X0.here hx rfl (hb hby d3_6) rfl ?_
        show Steps p.tables e below (s₁.setTop (mkF m 7 #[.val (.int p0), .val (.int p1), .val (.int p2)] [(.int p2), (.int p0)])) _
        refine XS.icmpYes X0.here hx rfl (pc0 := 7) (pc' := 14) rfl (hb hby d3_7) rfl (XT.ii_gt_t h2) (by decide) (by decide) ?_
        show Steps p.tables e below (s₁.setTop (mkF m 14 #[.val (.int p0), .val (.int p1), .val (.int p2)] [])) _
        refine XS.iconst X0.here hx rfl (hb hby d3_14) ?_
        show Steps p.tables e below (s₁.setTop (mkF m 15 #[.val (.int p0), .val (.int p1), .val (.int p2)] [(.int (0 : Int32))])) _
        exact retN X0 hx (t := .boolean) Bd.returns (by simp) (hb hby d3_15) hr
      · show Q_own_in Z p0 p1 p2  h0 n0 _ s₁.heap _
        rw [e0]
        exact ⟨by simp [h1, h2], N0, rfl⟩
    · obtain ⟨fs, hr, hrun, hended, hW, hsame⟩ := X0.leave (v := some (.int (1 : Int32))) (fun h => by rw [Bd.returns] at h; cases h)
      refine ⟨_, _, pre0 _ ?_, hrun, hended, _, _, rfl, ?_, ⟨_, rfl⟩, hW, hsame.mono (by decide) (by decide)⟩
      · show Steps p.tables e below (s₁.setTop (mkF m 0 #[.val (.int p0), .val (.int p1), .val (.int p2)] [])) _
        refine XS.iloadN X0.here hx rfl (hb hby d3_0) rfl ?_
        show Steps p.tables e below (s₁.setTop (mkF m 1 #[.val (.int p0), .val (.int p1), .val (.int p2)] [(.int p1)])) _
        refine XS.iloadN X0.here hx rfl (hb hby d3_1) rfl ?_
        show Steps p.tables e below (s₁.setTop (mkF m 2 #[.val (.int p0), .val (.int p1), .val (.int p2)] [(.int p0), (.int p1)])) _
        refine XS.icmpNo X0.here hx rfl (hb hby d3_2) rfl (XT.ii_gt_f h1) ?_
        show Steps p.tables e below (s₁.setTop (mkF m 5 #[.val (.int p0), .val (.int p1), .val (.int p2)] [])) _
        refine XS.iloadN X0.here hx rfl (hb hby d3_5) rfl ?_
        show Steps p.tables e below (s₁.setTop (mkF m 6 #[.val (.int p0), .val (.int p1), .val (.int p2)] [(.int p0)])) _
        refine XS.iloadN X0.here hx rfl (hb hby d3_6) rfl ?_
        show Steps p.tables e below (s₁.setTop (mkF m 7 #[.val (.int p0), .val (.int p1), .val (.int p2)] [(.int p2), (.int p0)])) _
        refine XS.icmpNo X0.here hx rfl (hb hby d3_7) rfl (XT.ii_gt_f h2) ?_
        show Steps p.tables e below (s₁.setTop (mkF m 10 #[.val (.int p0), .val (.int p1), .val (.int p2)] [])) _
        refine XS.iconst X0.here hx rfl (hb hby d3_10) ?_
        show Steps p.tables e below (s₁.setTop (mkF m 11 #[.val (.int p0), .val (.int p1), .val (.int p2)] [(.int (1 : Int32))])) _
        refine XS.goto X0.here hx rfl (pc0 := 11) (pc' := 15) rfl (hb hby d3_11) (by decide) (by decide) ?_
        show Steps p.tables e below (s₁.setTop (mkF m 15 #[.val (.int p0), .val (.int p1), .val (.int p2)] [(.int (1 : Int32))])) _
        exact retN X0 hx (t := .boolean) Bd.returns (by simp) (hb hby d3_15) hr
      · show Q_own_in Z p0 p1 p2  h0 n0 _ s₁.heap _
        rw [e0]
        exact ⟨by simp [h1, h2], N0, rfl⟩
theorem pd_0 : parseMethodDescriptor "(III)Z" = some ⟨[.int, .int, .int], some .boolean⟩ := by decide +kernel
theorem pd_1 : parseMethodDescriptor "(I)Z" = some ⟨[.int], some .boolean⟩ := by decide +kernel
theorem d2_0 : decode method_3_code 0 = .ok (.iload_n 0, 1) := by decide +kernel
theorem d2_1 : decode method_3_code 1 = .ok (.bipush 9, 2) := by decide +kernel
theorem d2_3 : decode method_3_code 3 = .ok (.if_icmp .eq 48, 3) := by decide +kernel
theorem d2_6 : decode method_3_code 6 = .ok (.iload_n 0, 1) := by decide +kernel
theorem d2_7 : decode method_3_code 7 = .ok (.bipush 10, 2) := by decide +kernel
theorem d2_9 : decode method_3_code 9 = .ok (.if_icmp .eq 42, 3) := by decide +kernel
theorem d2_12 : decode method_3_code 12 = .ok (.iload_n 0, 1) := by decide +kernel
theorem d2_13 : decode method_3_code 13 = .ok (.bipush 13, 2) := by decide +kernel
theorem d2_15 : decode method_3_code 15 = .ok (.if_icmp .eq 36, 3) := by decide +kernel
theorem d2_18 : decode method_3_code 18 = .ok (.iload_n 0, 1) := by decide +kernel
theorem d2_19 : decode method_3_code 19 = .ok (.bipush 32, 2) := by decide +kernel
theorem d2_21 : decode method_3_code 21 = .ok (.ldc 7, 2) := by decide +kernel
theorem d2_23 : decode method_3_code 23 = .ok (.invokestatic 8, 3) := by decide +kernel
theorem d2_26 : decode method_3_code 26 = .ok (.ifCond .ne 25, 3) := by decide +kernel
theorem d2_29 : decode method_3_code 29 = .ok (.iload_n 0, 1) := by decide +kernel
theorem d2_30 : decode method_3_code 30 = .ok (.ldc 14, 2) := by decide +kernel
theorem d2_32 : decode method_3_code 32 = .ok (.ldc 15, 2) := by decide +kernel
theorem d2_34 : decode method_3_code 34 = .ok (.invokestatic 8, 3) := by decide +kernel
theorem d2_37 : decode method_3_code 37 = .ok (.ifCond .ne 14, 3) := by decide +kernel
theorem d2_40 : decode method_3_code 40 = .ok (.iload_n 0, 1) := by decide +kernel
theorem d2_41 : decode method_3_code 41 = .ok (.ldc 16, 2) := by decide +kernel
theorem d2_43 : decode method_3_code 43 = .ok (.ldc 17, 2) := by decide +kernel
theorem d2_45 : decode method_3_code 45 = .ok (.invokestatic 8, 3) := by decide +kernel
theorem d2_48 : decode method_3_code 48 = .ok (.ifCond .eq 7, 3) := by decide +kernel
theorem d2_51 : decode method_3_code 51 = .ok (.iconst 1, 1) := by decide +kernel
theorem d2_52 : decode method_3_code 52 = .ok (.goto 4, 3) := by decide +kernel
theorem d2_55 : decode method_3_code 55 = .ok (.iconst 0, 1) := by decide +kernel
theorem d2_56 : decode method_3_code 56 = .ok (.ireturn, 1) := by decide +kernel
theorem pn_own_e10 : plainName "com/example/xml_element_search/xmlelementsearch/VersionAllowsPinLaw" = true := by first | (simp [plainName, overriddenIn]; done) | decide +kernel
theorem ef_own_e10 (m : MethodId) (x0 : Int32) : entryFrame m #[(.int x0)] 1 = mkF m 0 #[.val (.int x0)] [] := by first | (simp [entryFrame, mkF, argsToLocals, Value.category]; done) | rfl
def Q_own_e10 (Z : State) (p0 : Int32)  (h0 : Heap) (n0 : Nat) (v : Option Value) (h : Heap) (L : List Loc) : Prop := v = some (.int (if (p0 = (9 : Int32) ∨ p0 = (10 : Int32) ∨ p0 = (13 : Int32) ∨ ¬ (p0 < (32 : Int32) ∨ (55295 : Int32) < p0) ∨ ¬ (p0 < (57344 : Int32) ∨ (65533 : Int32) < p0) ∨ ¬ (p0 < (65536 : Int32) ∨ (1114111 : Int32) < p0)) then (1 : Int32) else (0 : Int32))) ∧ Fr n0 L ∧ h = h0
set_option maxRecDepth 65536 in
set_option maxHeartbeats 40000000 in
theorem own_e10 (l : Launch) (Z : State) (a0 : Array Value) (hw : ∀ d ∈ tables_1, d.before a0 Z = true) (ws : List Jvm.Cond) (p0 : Int32)  (h0 : Heap) (n0 : Nat) (Z0 : n0 ≤ h0.size)  :
    MetFree l (⟨"com/example/xml_element_search/xmlelementsearch/VersionAllowsPinLaw", "expected10", "(I)Z"⟩ : MethodName) (head1 (Jvm.Cond.code (⟨"com/example/xml_element_search/xmlelementsearch/VersionAllowsPinLaw", "expected10", "(I)Z"⟩ : MethodName) method_3_code 1 (some .boolean) :: ws) ({ frames := 1, cells := 0, slots := 0, locals := 14 } : Room)) (fun a U => a = #[(.int p0)] ∧ Z.Warmed39 U.vm ∧ U.heap = h0) (fun _ _ _ _ _ => True) (fun _ U o U' => ∃ v L, o = .returned v ∧ Q_own_e10 Z p0  h0 n0 v U'.heap L ∧ FrameEnd U o U' L ({ frames := 1, cells := 0, slots := 0, locals := 14 } : Room).cells ({ frames := 1, cells := 0, slots := 0, locals := 14 } : Room).slots) := by
  refine MetFree.of_bodySF (plainFor_of_name pn_own_e10) hisR ?_
  intro p e s m args below meth c s₁ Bd hml0 hP hK
  obtain ⟨rfl, hZ, hh⟩ := hP
  have hx := Bd.exec
  have hby := Bd.bytes
  have hml : c.maxLocals = 1 := hml0
  have hown : s.vm.findClass "com/example/xml_element_search/xmlelementsearch/VersionAllowsPinLaw" = some m.cls := findClass_of_methodNamed Bd.named
  have hnm := (name_of_methodNamed Bd.named Bd.method).1
  have X0 : Stand p l e ({ frames := 1, cells := 0, slots := 0, locals := 14 } : Room) s m #[(.int p0)] below meth c s₁ [] 0 0 := Stand.of_body Bd
  have e0 : s₁.heap = h0 := by rw [← hh, Bd.state]; rfl
  have N0 := Fr.nil n0
  have pre0 : ∀ t, Steps p.tables e below (s₁.setTop (mkF m 0 #[.val (.int p0)] [])) t → Steps p.tables e below (s₁.setTop (entryFrame m #[(.int p0)] 1)) t := fun t k => castTop (ef_own_e10 m (p0)) k
  by_cases h1 : p0 = (9 : Int32)
  · obtain ⟨fs, hr, hrun, hended, hW, hsame⟩ := X0.leave (v := some (.int (1 : Int32))) (fun h => by rw [Bd.returns] at h; cases h)
    refine ⟨_, _, pre0 _ ?_, hrun, hended, _, _, rfl, ?_, ⟨_, rfl⟩, hW, hsame.mono (by decide) (by decide)⟩
    · show Steps p.tables e below (s₁.setTop (mkF m 0 #[.val (.int p0)] [])) _
      refine XS.iloadN X0.here hx rfl (hb hby d2_0) rfl ?_
      show Steps p.tables e below (s₁.setTop (mkF m 1 #[.val (.int p0)] [(.int p0)])) _
      refine XS.bipush X0.here hx rfl (hb hby d2_1) ?_
      show Steps p.tables e below (s₁.setTop (mkF m 3 #[.val (.int p0)] [(.int (9 : Int32)), (.int p0)])) _
      refine XS.icmpYes X0.here hx rfl (pc0 := 3) (pc' := 51) rfl (hb hby d2_3) rfl (XT.ii_eq_t h1) (by decide) (by decide) ?_
      show Steps p.tables e below (s₁.setTop (mkF m 51 #[.val (.int p0)] [])) _
      refine XS.iconst X0.here hx rfl (hb hby d2_51) ?_
      show Steps p.tables e below (s₁.setTop (mkF m 52 #[.val (.int p0)] [(.int (1 : Int32))])) _
      refine XS.goto X0.here hx rfl (pc0 := 52) (pc' := 56) rfl (hb hby d2_52) (by decide) (by decide) ?_
      show Steps p.tables e below (s₁.setTop (mkF m 56 #[.val (.int p0)] [(.int (1 : Int32))])) _
      exact retN X0 hx (t := .boolean) Bd.returns (by simp) (hb hby d2_56) hr
    · show Q_own_e10 Z p0  h0 n0 _ s₁.heap _
      rw [e0]
      exact ⟨by simp [h1], N0, rfl⟩
  · by_cases h2 : p0 = (10 : Int32)
    · obtain ⟨fs, hr, hrun, hended, hW, hsame⟩ := X0.leave (v := some (.int (1 : Int32))) (fun h => by rw [Bd.returns] at h; cases h)
      refine ⟨_, _, pre0 _ ?_, hrun, hended, _, _, rfl, ?_, ⟨_, rfl⟩, hW, hsame.mono (by decide) (by decide)⟩
      · show Steps p.tables e below (s₁.setTop (mkF m 0 #[.val (.int p0)] [])) _
        refine XS.iloadN X0.here hx rfl (hb hby d2_0) rfl ?_
        show Steps p.tables e below (s₁.setTop (mkF m 1 #[.val (.int p0)] [(.int p0)])) _
        refine XS.bipush X0.here hx rfl (hb hby d2_1) ?_
        show Steps p.tables e below (s₁.setTop (mkF m 3 #[.val (.int p0)] [(.int (9 : Int32)), (.int p0)])) _
        refine XS.icmpNo X0.here hx rfl (hb hby d2_3) rfl (XT.ii_eq_f h1) ?_
        show Steps p.tables e below (s₁.setTop (mkF m 6 #[.val (.int p0)] [])) _
        refine XS.iloadN X0.here hx rfl (hb hby d2_6) rfl ?_
        show Steps p.tables e below (s₁.setTop (mkF m 7 #[.val (.int p0)] [(.int p0)])) _
        refine XS.bipush X0.here hx rfl (hb hby d2_7) ?_
        show Steps p.tables e below (s₁.setTop (mkF m 9 #[.val (.int p0)] [(.int (10 : Int32)), (.int p0)])) _
        refine XS.icmpYes X0.here hx rfl (pc0 := 9) (pc' := 51) rfl (hb hby d2_9) rfl (XT.ii_eq_t h2) (by decide) (by decide) ?_
        show Steps p.tables e below (s₁.setTop (mkF m 51 #[.val (.int p0)] [])) _
        refine XS.iconst X0.here hx rfl (hb hby d2_51) ?_
        show Steps p.tables e below (s₁.setTop (mkF m 52 #[.val (.int p0)] [(.int (1 : Int32))])) _
        refine XS.goto X0.here hx rfl (pc0 := 52) (pc' := 56) rfl (hb hby d2_52) (by decide) (by decide) ?_
        show Steps p.tables e below (s₁.setTop (mkF m 56 #[.val (.int p0)] [(.int (1 : Int32))])) _
        exact retN X0 hx (t := .boolean) Bd.returns (by simp) (hb hby d2_56) hr
      · show Q_own_e10 Z p0  h0 n0 _ s₁.heap _
        rw [e0]
        exact ⟨by simp [h1, h2], N0, rfl⟩
    · by_cases h3 : p0 = (13 : Int32)
      · obtain ⟨fs, hr, hrun, hended, hW, hsame⟩ := X0.leave (v := some (.int (1 : Int32))) (fun h => by rw [Bd.returns] at h; cases h)
        refine ⟨_, _, pre0 _ ?_, hrun, hended, _, _, rfl, ?_, ⟨_, rfl⟩, hW, hsame.mono (by decide) (by decide)⟩
        · show Steps p.tables e below (s₁.setTop (mkF m 0 #[.val (.int p0)] [])) _
          refine XS.iloadN X0.here hx rfl (hb hby d2_0) rfl ?_
          show Steps p.tables e below (s₁.setTop (mkF m 1 #[.val (.int p0)] [(.int p0)])) _
          refine XS.bipush X0.here hx rfl (hb hby d2_1) ?_
          show Steps p.tables e below (s₁.setTop (mkF m 3 #[.val (.int p0)] [(.int (9 : Int32)), (.int p0)])) _
          refine XS.icmpNo X0.here hx rfl (hb hby d2_3) rfl (XT.ii_eq_f h1) ?_
          show Steps p.tables e below (s₁.setTop (mkF m 6 #[.val (.int p0)] [])) _
          refine XS.iloadN X0.here hx rfl (hb hby d2_6) rfl ?_
          show Steps p.tables e below (s₁.setTop (mkF m 7 #[.val (.int p0)] [(.int p0)])) _
          refine XS.bipush X0.here hx rfl (hb hby d2_7) ?_
          show Steps p.tables e below (s₁.setTop (mkF m 9 #[.val (.int p0)] [(.int (10 : Int32)), (.int p0)])) _
          refine XS.icmpNo X0.here hx rfl (hb hby d2_9) rfl (XT.ii_eq_f h2) ?_
          show Steps p.tables e below (s₁.setTop (mkF m 12 #[.val (.int p0)] [])) _
          refine XS.iloadN X0.here hx rfl (hb hby d2_12) rfl ?_
          show Steps p.tables e below (s₁.setTop (mkF m 13 #[.val (.int p0)] [(.int p0)])) _
          refine XS.bipush X0.here hx rfl (hb hby d2_13) ?_
          show Steps p.tables e below (s₁.setTop (mkF m 15 #[.val (.int p0)] [(.int (13 : Int32)), (.int p0)])) _
          refine XS.icmpYes X0.here hx rfl (pc0 := 15) (pc' := 51) rfl (hb hby d2_15) rfl (XT.ii_eq_t h3) (by decide) (by decide) ?_
          show Steps p.tables e below (s₁.setTop (mkF m 51 #[.val (.int p0)] [])) _
          refine XS.iconst X0.here hx rfl (hb hby d2_51) ?_
          show Steps p.tables e below (s₁.setTop (mkF m 52 #[.val (.int p0)] [(.int (1 : Int32))])) _
          refine XS.goto X0.here hx rfl (pc0 := 52) (pc' := 56) rfl (hb hby d2_52) (by decide) (by decide) ?_
          show Steps p.tables e below (s₁.setTop (mkF m 56 #[.val (.int p0)] [(.int (1 : Int32))])) _
          exact retN X0 hx (t := .boolean) Bd.returns (by simp) (hb hby d2_56) hr
        · show Q_own_e10 Z p0  h0 n0 _ s₁.heap _
          rw [e0]
          exact ⟨by simp [h1, h2, h3], N0, rfl⟩
      · obtain ⟨_, _, ⟨T6, L6, k6, n6⟩, -, X6, ⟨Lc6, hQ6, l6, y6, z6⟩, st6⟩ := Jvm.LawKit.callS X0 hx (y := (⟨"com/example/xml_element_search/xmlelementsearch/VersionAllowsPinLaw", "in", "(III)Z"⟩ : MethodName)) hown (mvT hZ (hw _ (List.mem_of_getElem? (i := 17) rfl))) (mvT hZ (hw _ (List.mem_of_getElem? (i := 18) rfl))) (mvT hZ (hw _ (List.mem_of_getElem? (i := 14) rfl))) (mvT hZ (hw _ (List.mem_of_getElem? (i := 19) rfl))) (by decide) (backOf (W := 0) (own_in l Z a0 hw [] p0 (32 : Int32) (55295 : Int32) h0 n0 Z0 ) hZ (hw _ (List.mem_of_getElem? (i := 19) rfl)) (hw _ (List.mem_of_getElem? (i := 14) rfl)) (by decide) (by decide)) (g := (mkF m 23 #[.val (.int p0)] [(.int (55295 : Int32)), (.int (32 : Int32)), (.int p0)])) rfl (by rw [hml]; rfl) (argsL := [(.int p0), (.int (32 : Int32)), (.int (55295 : Int32))]) (rest := []) (lenOf pd_0 rfl) rfl (by show 2 * 0 + _ ≤ _; exact Nat.le_of_eq rfl) (hb hby d2_23) (fun _ _ => ⟨rfl, e0, (by decide : 0 + 0 ≤ _), (by decide : 0 + 0 ≤ _)⟩)
        dsimp only [Pt.U, Pt.locs, Pt.cells, Pt.slots] at X6 l6 y6 z6 st6 hQ6
        subst l6 y6 z6
        obtain ⟨rfl, N6q, eh6⟩ := hQ6
        have N6 := Fr.app N0 N6q
        by_cases h4 : (p0 < (32 : Int32) ∨ (55295 : Int32) < p0)
        · obtain ⟨_, _, ⟨T7, L7, k7, n7⟩, -, X7, ⟨Lc7, hQ7, l7, y7, z7⟩, st7⟩ := Jvm.LawKit.callS X6 hx (y := (⟨"com/example/xml_element_search/xmlelementsearch/VersionAllowsPinLaw", "in", "(III)Z"⟩ : MethodName)) hown (mvT hZ (hw _ (List.mem_of_getElem? (i := 17) rfl))) (mvT hZ (hw _ (List.mem_of_getElem? (i := 18) rfl))) (mvT hZ (hw _ (List.mem_of_getElem? (i := 14) rfl))) (mvT hZ (hw _ (List.mem_of_getElem? (i := 19) rfl))) (by decide) (backOf (W := 0) (own_in l Z a0 hw [] p0 (57344 : Int32) (65533 : Int32) h0 n0 Z0 ) hZ (hw _ (List.mem_of_getElem? (i := 19) rfl)) (hw _ (List.mem_of_getElem? (i := 14) rfl)) (by decide) (by decide)) (g := (mkF m 34 #[.val (.int p0)] [(.int (65533 : Int32)), (.int (57344 : Int32)), (.int p0)])) rfl (by rw [hml]; rfl) (argsL := [(.int p0), (.int (57344 : Int32)), (.int (65533 : Int32))]) (rest := []) (lenOf pd_0 rfl) rfl (by show 2 * 0 + _ ≤ _; exact Nat.le_of_eq rfl) (hb hby d2_34) (fun _ _ => ⟨rfl, eh6, (by decide : 0 + 0 ≤ _), (by decide : 0 + 0 ≤ _)⟩)
          dsimp only [Pt.U, Pt.locs, Pt.cells, Pt.slots] at X7 l7 y7 z7 st7 hQ7
          subst l7 y7 z7
          obtain ⟨rfl, N7q, eh7⟩ := hQ7
          have N7 := Fr.app N6 N7q
          by_cases h5 : (p0 < (57344 : Int32) ∨ (65533 : Int32) < p0)
          · obtain ⟨_, _, ⟨T8, L8, k8, n8⟩, -, X8, ⟨Lc8, hQ8, l8, y8, z8⟩, st8⟩ := Jvm.LawKit.callS X7 hx (y := (⟨"com/example/xml_element_search/xmlelementsearch/VersionAllowsPinLaw", "in", "(III)Z"⟩ : MethodName)) hown (mvT hZ (hw _ (List.mem_of_getElem? (i := 17) rfl))) (mvT hZ (hw _ (List.mem_of_getElem? (i := 18) rfl))) (mvT hZ (hw _ (List.mem_of_getElem? (i := 14) rfl))) (mvT hZ (hw _ (List.mem_of_getElem? (i := 19) rfl))) (by decide) (backOf (W := 0) (own_in l Z a0 hw [] p0 (65536 : Int32) (1114111 : Int32) h0 n0 Z0 ) hZ (hw _ (List.mem_of_getElem? (i := 19) rfl)) (hw _ (List.mem_of_getElem? (i := 14) rfl)) (by decide) (by decide)) (g := (mkF m 45 #[.val (.int p0)] [(.int (1114111 : Int32)), (.int (65536 : Int32)), (.int p0)])) rfl (by rw [hml]; rfl) (argsL := [(.int p0), (.int (65536 : Int32)), (.int (1114111 : Int32))]) (rest := []) (lenOf pd_0 rfl) rfl (by show 2 * 0 + _ ≤ _; exact Nat.le_of_eq rfl) (hb hby d2_45) (fun _ _ => ⟨rfl, eh7, (by decide : 0 + 0 ≤ _), (by decide : 0 + 0 ≤ _)⟩)
            dsimp only [Pt.U, Pt.locs, Pt.cells, Pt.slots] at X8 l8 y8 z8 st8 hQ8
            subst l8 y8 z8
            obtain ⟨rfl, N8q, eh8⟩ := hQ8
            have N8 := Fr.app N7 N8q
            by_cases h6 : (p0 < (65536 : Int32) ∨ (1114111 : Int32) < p0)
            · obtain ⟨fs, hr, hrun, hended, hW, hsame⟩ := X8.leave (v := some (.int (0 : Int32))) (fun h => by rw [Bd.returns] at h; cases h)
              refine ⟨_, _, pre0 _ ?_, hrun, hended, _, _, rfl, ?_, ⟨_, rfl⟩, hW, hsame.mono (by decide) (by decide)⟩
              · show Steps p.tables e below (s₁.setTop (mkF m 0 #[.val (.int p0)] [])) _
                refine XS.iloadN X0.here hx rfl (hb hby d2_0) rfl ?_
                show Steps p.tables e below (s₁.setTop (mkF m 1 #[.val (.int p0)] [(.int p0)])) _
                refine XS.bipush X0.here hx rfl (hb hby d2_1) ?_
                show Steps p.tables e below (s₁.setTop (mkF m 3 #[.val (.int p0)] [(.int (9 : Int32)), (.int p0)])) _
                refine XS.icmpNo X0.here hx rfl (hb hby d2_3) rfl (XT.ii_eq_f h1) ?_
                show Steps p.tables e below (s₁.setTop (mkF m 6 #[.val (.int p0)] [])) _
                refine XS.iloadN X0.here hx rfl (hb hby d2_6) rfl ?_
                show Steps p.tables e below (s₁.setTop (mkF m 7 #[.val (.int p0)] [(.int p0)])) _
                refine XS.bipush X0.here hx rfl (hb hby d2_7) ?_
                show Steps p.tables e below (s₁.setTop (mkF m 9 #[.val (.int p0)] [(.int (10 : Int32)), (.int p0)])) _
                refine XS.icmpNo X0.here hx rfl (hb hby d2_9) rfl (XT.ii_eq_f h2) ?_
                show Steps p.tables e below (s₁.setTop (mkF m 12 #[.val (.int p0)] [])) _
                refine XS.iloadN X0.here hx rfl (hb hby d2_12) rfl ?_
                show Steps p.tables e below (s₁.setTop (mkF m 13 #[.val (.int p0)] [(.int p0)])) _
                refine XS.bipush X0.here hx rfl (hb hby d2_13) ?_
                show Steps p.tables e below (s₁.setTop (mkF m 15 #[.val (.int p0)] [(.int (13 : Int32)), (.int p0)])) _
                refine XS.icmpNo X0.here hx rfl (hb hby d2_15) rfl (XT.ii_eq_f h3) ?_
                show Steps p.tables e below (s₁.setTop (mkF m 18 #[.val (.int p0)] [])) _
                refine XS.iloadN X0.here hx rfl (hb hby d2_18) rfl ?_
                show Steps p.tables e below (s₁.setTop (mkF m 19 #[.val (.int p0)] [(.int p0)])) _
                refine XS.bipush X0.here hx rfl (hb hby d2_19) ?_
                show Steps p.tables e below (s₁.setTop (mkF m 21 #[.val (.int p0)] [(.int (32 : Int32)), (.int p0)])) _
                refine Jvm.Stand.ldcI X0 hx hown (mvT hZ (hw _ (List.mem_of_getElem? (i := 16) rfl))) (g := (mkF m 21 #[.val (.int p0)] [(.int (32 : Int32)), (.int p0)])) rfl (hb hby d2_21) ?_
                show Steps p.tables e below (s₁.setTop (mkF m 23 #[.val (.int p0)] [(.int (55295 : Int32)), (.int (32 : Int32)), (.int p0)])) _
                refine st6 _ ?_
                show Steps p.tables e below (T6.setTop (mkF m 26 #[.val (.int p0)] [(.int (if (p0 < (32 : Int32) ∨ (55295 : Int32) < p0) then (0 : Int32) else (1 : Int32)))])) _
                rw [if_pos h4]
                show Steps p.tables e below (T6.setTop (mkF m 26 #[.val (.int p0)] [(.int (0 : Int32))])) _
                refine XS.ifNo X6.here hx rfl (hb hby d2_26) rfl (XT.i0_ne_f (by decide)) ?_
                show Steps p.tables e below (T6.setTop (mkF m 29 #[.val (.int p0)] [])) _
                refine XS.iloadN X6.here hx rfl (hb hby d2_29) rfl ?_
                show Steps p.tables e below (T6.setTop (mkF m 30 #[.val (.int p0)] [(.int p0)])) _
                refine Jvm.Stand.ldcI X6 hx hown (mvT hZ (hw _ (List.mem_of_getElem? (i := 20) rfl))) (g := (mkF m 30 #[.val (.int p0)] [(.int p0)])) rfl (hb hby d2_30) ?_
                show Steps p.tables e below (T6.setTop (mkF m 32 #[.val (.int p0)] [(.int (57344 : Int32)), (.int p0)])) _
                refine Jvm.Stand.ldcI X6 hx hown (mvT hZ (hw _ (List.mem_of_getElem? (i := 21) rfl))) (g := (mkF m 32 #[.val (.int p0)] [(.int (57344 : Int32)), (.int p0)])) rfl (hb hby d2_32) ?_
                show Steps p.tables e below (T6.setTop (mkF m 34 #[.val (.int p0)] [(.int (65533 : Int32)), (.int (57344 : Int32)), (.int p0)])) _
                refine st7 _ ?_
                show Steps p.tables e below (T7.setTop (mkF m 37 #[.val (.int p0)] [(.int (if (p0 < (57344 : Int32) ∨ (65533 : Int32) < p0) then (0 : Int32) else (1 : Int32)))])) _
                rw [if_pos h5]
                show Steps p.tables e below (T7.setTop (mkF m 37 #[.val (.int p0)] [(.int (0 : Int32))])) _
                refine XS.ifNo X7.here hx rfl (hb hby d2_37) rfl (XT.i0_ne_f (by decide)) ?_
                show Steps p.tables e below (T7.setTop (mkF m 40 #[.val (.int p0)] [])) _
                refine XS.iloadN X7.here hx rfl (hb hby d2_40) rfl ?_
                show Steps p.tables e below (T7.setTop (mkF m 41 #[.val (.int p0)] [(.int p0)])) _
                refine Jvm.Stand.ldcI X7 hx hown (mvT hZ (hw _ (List.mem_of_getElem? (i := 22) rfl))) (g := (mkF m 41 #[.val (.int p0)] [(.int p0)])) rfl (hb hby d2_41) ?_
                show Steps p.tables e below (T7.setTop (mkF m 43 #[.val (.int p0)] [(.int (65536 : Int32)), (.int p0)])) _
                refine Jvm.Stand.ldcI X7 hx hown (mvT hZ (hw _ (List.mem_of_getElem? (i := 23) rfl))) (g := (mkF m 43 #[.val (.int p0)] [(.int (65536 : Int32)), (.int p0)])) rfl (hb hby d2_43) ?_
                show Steps p.tables e below (T7.setTop (mkF m 45 #[.val (.int p0)] [(.int (1114111 : Int32)), (.int (65536 : Int32)), (.int p0)])) _
                refine st8 _ ?_
                show Steps p.tables e below (T8.setTop (mkF m 48 #[.val (.int p0)] [(.int (if (p0 < (65536 : Int32) ∨ (1114111 : Int32) < p0) then (0 : Int32) else (1 : Int32)))])) _
                rw [if_pos h6]
                show Steps p.tables e below (T8.setTop (mkF m 48 #[.val (.int p0)] [(.int (0 : Int32))])) _
                refine XS.ifYes X8.here hx rfl (pc0 := 48) (pc' := 55) rfl (hb hby d2_48) rfl (XT.i0_eq_t (by decide)) (by decide) (by decide) ?_
                show Steps p.tables e below (T8.setTop (mkF m 55 #[.val (.int p0)] [])) _
                refine XS.iconst X8.here hx rfl (hb hby d2_55) ?_
                show Steps p.tables e below (T8.setTop (mkF m 56 #[.val (.int p0)] [(.int (0 : Int32))])) _
                exact retN X8 hx (t := .boolean) Bd.returns (by simp) (hb hby d2_56) hr
              · show Q_own_e10 Z p0  h0 n0 _ T8.heap _
                rw [eh8]
                exact ⟨by simp [h1, h2, h3, h4, h5, h6], N8, rfl⟩
            · obtain ⟨fs, hr, hrun, hended, hW, hsame⟩ := X8.leave (v := some (.int (1 : Int32))) (fun h => by rw [Bd.returns] at h; cases h)
              refine ⟨_, _, pre0 _ ?_, hrun, hended, _, _, rfl, ?_, ⟨_, rfl⟩, hW, hsame.mono (by decide) (by decide)⟩
              · show Steps p.tables e below (s₁.setTop (mkF m 0 #[.val (.int p0)] [])) _
                refine XS.iloadN X0.here hx rfl (hb hby d2_0) rfl ?_
                show Steps p.tables e below (s₁.setTop (mkF m 1 #[.val (.int p0)] [(.int p0)])) _
                refine XS.bipush X0.here hx rfl (hb hby d2_1) ?_
                show Steps p.tables e below (s₁.setTop (mkF m 3 #[.val (.int p0)] [(.int (9 : Int32)), (.int p0)])) _
                refine XS.icmpNo X0.here hx rfl (hb hby d2_3) rfl (XT.ii_eq_f h1) ?_
                show Steps p.tables e below (s₁.setTop (mkF m 6 #[.val (.int p0)] [])) _
                refine XS.iloadN X0.here hx rfl (hb hby d2_6) rfl ?_
                show Steps p.tables e below (s₁.setTop (mkF m 7 #[.val (.int p0)] [(.int p0)])) _
                refine XS.bipush X0.here hx rfl (hb hby d2_7) ?_
                show Steps p.tables e below (s₁.setTop (mkF m 9 #[.val (.int p0)] [(.int (10 : Int32)), (.int p0)])) _
                refine XS.icmpNo X0.here hx rfl (hb hby d2_9) rfl (XT.ii_eq_f h2) ?_
                show Steps p.tables e below (s₁.setTop (mkF m 12 #[.val (.int p0)] [])) _
                refine XS.iloadN X0.here hx rfl (hb hby d2_12) rfl ?_
                show Steps p.tables e below (s₁.setTop (mkF m 13 #[.val (.int p0)] [(.int p0)])) _
                refine XS.bipush X0.here hx rfl (hb hby d2_13) ?_
                show Steps p.tables e below (s₁.setTop (mkF m 15 #[.val (.int p0)] [(.int (13 : Int32)), (.int p0)])) _
                refine XS.icmpNo X0.here hx rfl (hb hby d2_15) rfl (XT.ii_eq_f h3) ?_
                show Steps p.tables e below (s₁.setTop (mkF m 18 #[.val (.int p0)] [])) _
                refine XS.iloadN X0.here hx rfl (hb hby d2_18) rfl ?_
                show Steps p.tables e below (s₁.setTop (mkF m 19 #[.val (.int p0)] [(.int p0)])) _
                refine XS.bipush X0.here hx rfl (hb hby d2_19) ?_
                show Steps p.tables e below (s₁.setTop (mkF m 21 #[.val (.int p0)] [(.int (32 : Int32)), (.int p0)])) _
                refine Jvm.Stand.ldcI X0 hx hown (mvT hZ (hw _ (List.mem_of_getElem? (i := 16) rfl))) (g := (mkF m 21 #[.val (.int p0)] [(.int (32 : Int32)), (.int p0)])) rfl (hb hby d2_21) ?_
                show Steps p.tables e below (s₁.setTop (mkF m 23 #[.val (.int p0)] [(.int (55295 : Int32)), (.int (32 : Int32)), (.int p0)])) _
                refine st6 _ ?_
                show Steps p.tables e below (T6.setTop (mkF m 26 #[.val (.int p0)] [(.int (if (p0 < (32 : Int32) ∨ (55295 : Int32) < p0) then (0 : Int32) else (1 : Int32)))])) _
                rw [if_pos h4]
                show Steps p.tables e below (T6.setTop (mkF m 26 #[.val (.int p0)] [(.int (0 : Int32))])) _
                refine XS.ifNo X6.here hx rfl (hb hby d2_26) rfl (XT.i0_ne_f (by decide)) ?_
                show Steps p.tables e below (T6.setTop (mkF m 29 #[.val (.int p0)] [])) _
                refine XS.iloadN X6.here hx rfl (hb hby d2_29) rfl ?_
                show Steps p.tables e below (T6.setTop (mkF m 30 #[.val (.int p0)] [(.int p0)])) _
                refine Jvm.Stand.ldcI X6 hx hown (mvT hZ (hw _ (List.mem_of_getElem? (i := 20) rfl))) (g := (mkF m 30 #[.val (.int p0)] [(.int p0)])) rfl (hb hby d2_30) ?_
                show Steps p.tables e below (T6.setTop (mkF m 32 #[.val (.int p0)] [(.int (57344 : Int32)), (.int p0)])) _
                refine Jvm.Stand.ldcI X6 hx hown (mvT hZ (hw _ (List.mem_of_getElem? (i := 21) rfl))) (g := (mkF m 32 #[.val (.int p0)] [(.int (57344 : Int32)), (.int p0)])) rfl (hb hby d2_32) ?_
                show Steps p.tables e below (T6.setTop (mkF m 34 #[.val (.int p0)] [(.int (65533 : Int32)), (.int (57344 : Int32)), (.int p0)])) _
                refine st7 _ ?_
                show Steps p.tables e below (T7.setTop (mkF m 37 #[.val (.int p0)] [(.int (if (p0 < (57344 : Int32) ∨ (65533 : Int32) < p0) then (0 : Int32) else (1 : Int32)))])) _
                rw [if_pos h5]
                show Steps p.tables e below (T7.setTop (mkF m 37 #[.val (.int p0)] [(.int (0 : Int32))])) _
                refine XS.ifNo X7.here hx rfl (hb hby d2_37) rfl (XT.i0_ne_f (by decide)) ?_
                show Steps p.tables e below (T7.setTop (mkF m 40 #[.val (.int p0)] [])) _
                refine XS.iloadN X7.here hx rfl (hb hby d2_40) rfl ?_
                show Steps p.tables e below (T7.setTop (mkF m 41 #[.val (.int p0)] [(.int p0)])) _
                refine Jvm.Stand.ldcI X7 hx hown (mvT hZ (hw _ (List.mem_of_getElem? (i := 22) rfl))) (g := (mkF m 41 #[.val (.int p0)] [(.int p0)])) rfl (hb hby d2_41) ?_
                show Steps p.tables e below (T7.setTop (mkF m 43 #[.val (.int p0)] [(.int (65536 : Int32)), (.int p0)])) _
                refine Jvm.Stand.ldcI X7 hx hown (mvT hZ (hw _ (List.mem_of_getElem? (i := 23) rfl))) (g := (mkF m 43 #[.val (.int p0)] [(.int (65536 : Int32)), (.int p0)])) rfl (hb hby d2_43) ?_
                show Steps p.tables e below (T7.setTop (mkF m 45 #[.val (.int p0)] [(.int (1114111 : Int32)), (.int (65536 : Int32)), (.int p0)])) _
                refine st8 _ ?_
                show Steps p.tables e below (T8.setTop (mkF m 48 #[.val (.int p0)] [(.int (if (p0 < (65536 : Int32) ∨ (1114111 : Int32) < p0) then (0 : Int32) else (1 : Int32)))])) _
                rw [if_neg h6]
                show Steps p.tables e below (T8.setTop (mkF m 48 #[.val (.int p0)] [(.int (1 : Int32))])) _
                refine XS.ifNo X8.here hx rfl (hb hby d2_48) rfl (XT.i0_eq_f (by decide)) ?_
                show Steps p.tables e below (T8.setTop (mkF m 51 #[.val (.int p0)] [])) _
                refine XS.iconst X8.here hx rfl (hb hby d2_51) ?_
                show Steps p.tables e below (T8.setTop (mkF m 52 #[.val (.int p0)] [(.int (1 : Int32))])) _
                refine XS.goto X8.here hx rfl (pc0 := 52) (pc' := 56) rfl (hb hby d2_52) (by decide) (by decide) ?_
                show Steps p.tables e below (T8.setTop (mkF m 56 #[.val (.int p0)] [(.int (1 : Int32))])) _
                exact retN X8 hx (t := .boolean) Bd.returns (by simp) (hb hby d2_56) hr
              · show Q_own_e10 Z p0  h0 n0 _ T8.heap _
                rw [eh8]
                exact ⟨by simp [h1, h2, h3, h4, h5, h6], N8, rfl⟩
          · obtain ⟨fs, hr, hrun, hended, hW, hsame⟩ := X7.leave (v := some (.int (1 : Int32))) (fun h => by rw [Bd.returns] at h; cases h)
            refine ⟨_, _, pre0 _ ?_, hrun, hended, _, _, rfl, ?_, ⟨_, rfl⟩, hW, hsame.mono (by decide) (by decide)⟩
            · show Steps p.tables e below (s₁.setTop (mkF m 0 #[.val (.int p0)] [])) _
              refine XS.iloadN X0.here hx rfl (hb hby d2_0) rfl ?_
              show Steps p.tables e below (s₁.setTop (mkF m 1 #[.val (.int p0)] [(.int p0)])) _
              refine XS.bipush X0.here hx rfl (hb hby d2_1) ?_
              show Steps p.tables e below (s₁.setTop (mkF m 3 #[.val (.int p0)] [(.int (9 : Int32)), (.int p0)])) _
              refine XS.icmpNo X0.here hx rfl (hb hby d2_3) rfl (XT.ii_eq_f h1) ?_
              show Steps p.tables e below (s₁.setTop (mkF m 6 #[.val (.int p0)] [])) _
              refine XS.iloadN X0.here hx rfl (hb hby d2_6) rfl ?_
              show Steps p.tables e below (s₁.setTop (mkF m 7 #[.val (.int p0)] [(.int p0)])) _
              refine XS.bipush X0.here hx rfl (hb hby d2_7) ?_
              show Steps p.tables e below (s₁.setTop (mkF m 9 #[.val (.int p0)] [(.int (10 : Int32)), (.int p0)])) _
              refine XS.icmpNo X0.here hx rfl (hb hby d2_9) rfl (XT.ii_eq_f h2) ?_
              show Steps p.tables e below (s₁.setTop (mkF m 12 #[.val (.int p0)] [])) _
              refine XS.iloadN X0.here hx rfl (hb hby d2_12) rfl ?_
              show Steps p.tables e below (s₁.setTop (mkF m 13 #[.val (.int p0)] [(.int p0)])) _
              refine XS.bipush X0.here hx rfl (hb hby d2_13) ?_
              show Steps p.tables e below (s₁.setTop (mkF m 15 #[.val (.int p0)] [(.int (13 : Int32)), (.int p0)])) _
              refine XS.icmpNo X0.here hx rfl (hb hby d2_15) rfl (XT.ii_eq_f h3) ?_
              show Steps p.tables e below (s₁.setTop (mkF m 18 #[.val (.int p0)] [])) _
              refine XS.iloadN X0.here hx rfl (hb hby d2_18) rfl ?_
              show Steps p.tables e below (s₁.setTop (mkF m 19 #[.val (.int p0)] [(.int p0)])) _
              refine XS.bipush X0.here hx rfl (hb hby d2_19) ?_
              show Steps p.tables e below (s₁.setTop (mkF m 21 #[.val (.int p0)] [(.int (32 : Int32)), (.int p0)])) _
              refine Jvm.Stand.ldcI X0 hx hown (mvT hZ (hw _ (List.mem_of_getElem? (i := 16) rfl))) (g := (mkF m 21 #[.val (.int p0)] [(.int (32 : Int32)), (.int p0)])) rfl (hb hby d2_21) ?_
              show Steps p.tables e below (s₁.setTop (mkF m 23 #[.val (.int p0)] [(.int (55295 : Int32)), (.int (32 : Int32)), (.int p0)])) _
              refine st6 _ ?_
              show Steps p.tables e below (T6.setTop (mkF m 26 #[.val (.int p0)] [(.int (if (p0 < (32 : Int32) ∨ (55295 : Int32) < p0) then (0 : Int32) else (1 : Int32)))])) _
              rw [if_pos h4]
              show Steps p.tables e below (T6.setTop (mkF m 26 #[.val (.int p0)] [(.int (0 : Int32))])) _
              refine XS.ifNo X6.here hx rfl (hb hby d2_26) rfl (XT.i0_ne_f (by decide)) ?_
              show Steps p.tables e below (T6.setTop (mkF m 29 #[.val (.int p0)] [])) _
              refine XS.iloadN X6.here hx rfl (hb hby d2_29) rfl ?_
              show Steps p.tables e below (T6.setTop (mkF m 30 #[.val (.int p0)] [(.int p0)])) _
              refine Jvm.Stand.ldcI X6 hx hown (mvT hZ (hw _ (List.mem_of_getElem? (i := 20) rfl))) (g := (mkF m 30 #[.val (.int p0)] [(.int p0)])) rfl (hb hby d2_30) ?_
              show Steps p.tables e below (T6.setTop (mkF m 32 #[.val (.int p0)] [(.int (57344 : Int32)), (.int p0)])) _
              refine Jvm.Stand.ldcI X6 hx hown (mvT hZ (hw _ (List.mem_of_getElem? (i := 21) rfl))) (g := (mkF m 32 #[.val (.int p0)] [(.int (57344 : Int32)), (.int p0)])) rfl (hb hby d2_32) ?_
              show Steps p.tables e below (T6.setTop (mkF m 34 #[.val (.int p0)] [(.int (65533 : Int32)), (.int (57344 : Int32)), (.int p0)])) _
              refine st7 _ ?_
              show Steps p.tables e below (T7.setTop (mkF m 37 #[.val (.int p0)] [(.int (if (p0 < (57344 : Int32) ∨ (65533 : Int32) < p0) then (0 : Int32) else (1 : Int32)))])) _
              rw [if_neg h5]
              show Steps p.tables e below (T7.setTop (mkF m 37 #[.val (.int p0)] [(.int (1 : Int32))])) _
              refine XS.ifYes X7.here hx rfl (pc0 := 37) (pc' := 51) rfl (hb hby d2_37) rfl (XT.i0_ne_t (by decide)) (by decide) (by decide) ?_
              show Steps p.tables e below (T7.setTop (mkF m 51 #[.val (.int p0)] [])) _
              refine XS.iconst X7.here hx rfl (hb hby d2_51) ?_
              show Steps p.tables e below (T7.setTop (mkF m 52 #[.val (.int p0)] [(.int (1 : Int32))])) _
              refine XS.goto X7.here hx rfl (pc0 := 52) (pc' := 56) rfl (hb hby d2_52) (by decide) (by decide) ?_
              show Steps p.tables e below (T7.setTop (mkF m 56 #[.val (.int p0)] [(.int (1 : Int32))])) _
              exact retN X7 hx (t := .boolean) Bd.returns (by simp) (hb hby d2_56) hr
            · show Q_own_e10 Z p0  h0 n0 _ T7.heap _
              rw [eh7]
              exact ⟨by simp [h1, h2, h3, h4, h5], N7, rfl⟩
        · obtain ⟨fs, hr, hrun, hended, hW, hsame⟩ := X6.leave (v := some (.int (1 : Int32))) (fun h => by rw [Bd.returns] at h; cases h)
          refine ⟨_, _, pre0 _ ?_, hrun, hended, _, _, rfl, ?_, ⟨_, rfl⟩, hW, hsame.mono (by decide) (by decide)⟩
          · show Steps p.tables e below (s₁.setTop (mkF m 0 #[.val (.int p0)] [])) _
            refine XS.iloadN X0.here hx rfl (hb hby d2_0) rfl ?_
            show Steps p.tables e below (s₁.setTop (mkF m 1 #[.val (.int p0)] [(.int p0)])) _
            refine XS.bipush X0.here hx rfl (hb hby d2_1) ?_
            show Steps p.tables e below (s₁.setTop (mkF m 3 #[.val (.int p0)] [(.int (9 : Int32)), (.int p0)])) _
            refine XS.icmpNo X0.here hx rfl (hb hby d2_3) rfl (XT.ii_eq_f h1) ?_
            show Steps p.tables e below (s₁.setTop (mkF m 6 #[.val (.int p0)] [])) _
            refine XS.iloadN X0.here hx rfl (hb hby d2_6) rfl ?_
            show Steps p.tables e below (s₁.setTop (mkF m 7 #[.val (.int p0)] [(.int p0)])) _
            refine XS.bipush X0.here hx rfl (hb hby d2_7) ?_
            show Steps p.tables e below (s₁.setTop (mkF m 9 #[.val (.int p0)] [(.int (10 : Int32)), (.int p0)])) _
            refine XS.icmpNo X0.here hx rfl (hb hby d2_9) rfl (XT.ii_eq_f h2) ?_
            show Steps p.tables e below (s₁.setTop (mkF m 12 #[.val (.int p0)] [])) _
            refine XS.iloadN X0.here hx rfl (hb hby d2_12) rfl ?_
            show Steps p.tables e below (s₁.setTop (mkF m 13 #[.val (.int p0)] [(.int p0)])) _
            refine XS.bipush X0.here hx rfl (hb hby d2_13) ?_
            show Steps p.tables e below (s₁.setTop (mkF m 15 #[.val (.int p0)] [(.int (13 : Int32)), (.int p0)])) _
            refine XS.icmpNo X0.here hx rfl (hb hby d2_15) rfl (XT.ii_eq_f h3) ?_
            show Steps p.tables e below (s₁.setTop (mkF m 18 #[.val (.int p0)] [])) _
            refine XS.iloadN X0.here hx rfl (hb hby d2_18) rfl ?_
            show Steps p.tables e below (s₁.setTop (mkF m 19 #[.val (.int p0)] [(.int p0)])) _
            refine XS.bipush X0.here hx rfl (hb hby d2_19) ?_
            show Steps p.tables e below (s₁.setTop (mkF m 21 #[.val (.int p0)] [(.int (32 : Int32)), (.int p0)])) _
            refine Jvm.Stand.ldcI X0 hx hown (mvT hZ (hw _ (List.mem_of_getElem? (i := 16) rfl))) (g := (mkF m 21 #[.val (.int p0)] [(.int (32 : Int32)), (.int p0)])) rfl (hb hby d2_21) ?_
            show Steps p.tables e below (s₁.setTop (mkF m 23 #[.val (.int p0)] [(.int (55295 : Int32)), (.int (32 : Int32)), (.int p0)])) _
            refine st6 _ ?_
            show Steps p.tables e below (T6.setTop (mkF m 26 #[.val (.int p0)] [(.int (if (p0 < (32 : Int32) ∨ (55295 : Int32) < p0) then (0 : Int32) else (1 : Int32)))])) _
            rw [if_neg h4]
            show Steps p.tables e below (T6.setTop (mkF m 26 #[.val (.int p0)] [(.int (1 : Int32))])) _
            refine XS.ifYes X6.here hx rfl (pc0 := 26) (pc' := 51) rfl (hb hby d2_26) rfl (XT.i0_ne_t (by decide)) (by decide) (by decide) ?_
            show Steps p.tables e below (T6.setTop (mkF m 51 #[.val (.int p0)] [])) _
            refine XS.iconst X6.here hx rfl (hb hby d2_51) ?_
            show Steps p.tables e below (T6.setTop (mkF m 52 #[.val (.int p0)] [(.int (1 : Int32))])) _
            refine XS.goto X6.here hx rfl (pc0 := 52) (pc' := 56) rfl (hb hby d2_52) (by decide) (by decide) ?_
            show Steps p.tables e below (T6.setTop (mkF m 56 #[.val (.int p0)] [(.int (1 : Int32))])) _
            exact retN X6 hx (t := .boolean) Bd.returns (by simp) (hb hby d2_56) hr
          · show Q_own_e10 Z p0  h0 n0 _ T6.heap _
            rw [eh6]
            exact ⟨by simp [h1, h2, h3, h4], N6, rfl⟩
theorem d4_0 : decode method_4_code 0 = .ok (.iload_n 0, 1) := by decide +kernel
theorem d4_1 : decode method_4_code 1 = .ok (.iconst 1, 1) := by decide +kernel
theorem d4_2 : decode method_4_code 2 = .ok (.ldc 7, 2) := by decide +kernel
theorem d4_4 : decode method_4_code 4 = .ok (.invokestatic 8, 3) := by decide +kernel
theorem d4_7 : decode method_4_code 7 = .ok (.ifCond .ne 25, 3) := by decide +kernel
theorem d4_10 : decode method_4_code 10 = .ok (.iload_n 0, 1) := by decide +kernel
theorem d4_11 : decode method_4_code 11 = .ok (.ldc 14, 2) := by decide +kernel
theorem d4_13 : decode method_4_code 13 = .ok (.ldc 15, 2) := by decide +kernel
theorem d4_15 : decode method_4_code 15 = .ok (.invokestatic 8, 3) := by decide +kernel
theorem d4_18 : decode method_4_code 18 = .ok (.ifCond .ne 14, 3) := by decide +kernel
theorem d4_21 : decode method_4_code 21 = .ok (.iload_n 0, 1) := by decide +kernel
theorem d4_22 : decode method_4_code 22 = .ok (.ldc 16, 2) := by decide +kernel
theorem d4_24 : decode method_4_code 24 = .ok (.ldc 17, 2) := by decide +kernel
theorem d4_26 : decode method_4_code 26 = .ok (.invokestatic 8, 3) := by decide +kernel
theorem d4_29 : decode method_4_code 29 = .ok (.ifCond .eq 7, 3) := by decide +kernel
theorem d4_32 : decode method_4_code 32 = .ok (.iconst 1, 1) := by decide +kernel
theorem d4_33 : decode method_4_code 33 = .ok (.goto 4, 3) := by decide +kernel
theorem d4_36 : decode method_4_code 36 = .ok (.iconst 0, 1) := by decide +kernel
theorem d4_37 : decode method_4_code 37 = .ok (.istore_n 1, 1) := by decide +kernel
theorem d4_38 : decode method_4_code 38 = .ok (.iload_n 0, 1) := by decide +kernel
theorem d4_39 : decode method_4_code 39 = .ok (.iconst 1, 1) := by decide +kernel
theorem d4_40 : decode method_4_code 40 = .ok (.bipush 8, 2) := by decide +kernel
theorem d4_42 : decode method_4_code 42 = .ok (.invokestatic 8, 3) := by decide +kernel
theorem d4_45 : decode method_4_code 45 = .ok (.ifCond .ne 50, 3) := by decide +kernel
theorem d4_48 : decode method_4_code 48 = .ok (.iload_n 0, 1) := by decide +kernel
theorem d4_49 : decode method_4_code 49 = .ok (.bipush 11, 2) := by decide +kernel
theorem d4_51 : decode method_4_code 51 = .ok (.bipush 12, 2) := by decide +kernel
theorem d4_53 : decode method_4_code 53 = .ok (.invokestatic 8, 3) := by decide +kernel
theorem d4_56 : decode method_4_code 56 = .ok (.ifCond .ne 39, 3) := by decide +kernel
theorem d4_59 : decode method_4_code 59 = .ok (.iload_n 0, 1) := by decide +kernel
theorem d4_60 : decode method_4_code 60 = .ok (.bipush 14, 2) := by decide +kernel
theorem d4_62 : decode method_4_code 62 = .ok (.bipush 31, 2) := by decide +kernel
theorem d4_64 : decode method_4_code 64 = .ok (.invokestatic 8, 3) := by decide +kernel
theorem d4_67 : decode method_4_code 67 = .ok (.ifCond .ne 28, 3) := by decide +kernel
theorem d4_70 : decode method_4_code 70 = .ok (.iload_n 0, 1) := by decide +kernel
theorem d4_71 : decode method_4_code 71 = .ok (.bipush 127, 2) := by decide +kernel
theorem d4_73 : decode method_4_code 73 = .ok (.sipush 132, 3) := by decide +kernel
theorem d4_76 : decode method_4_code 76 = .ok (.invokestatic 8, 3) := by decide +kernel
theorem d4_79 : decode method_4_code 79 = .ok (.ifCond .ne 16, 3) := by decide +kernel
theorem d4_82 : decode method_4_code 82 = .ok (.iload_n 0, 1) := by decide +kernel
theorem d4_83 : decode method_4_code 83 = .ok (.sipush 134, 3) := by decide +kernel
theorem d4_86 : decode method_4_code 86 = .ok (.sipush 159, 3) := by decide +kernel
theorem d4_89 : decode method_4_code 89 = .ok (.invokestatic 8, 3) := by decide +kernel
theorem d4_92 : decode method_4_code 92 = .ok (.ifCond .eq 7, 3) := by decide +kernel
theorem d4_95 : decode method_4_code 95 = .ok (.iconst 1, 1) := by decide +kernel
theorem d4_96 : decode method_4_code 96 = .ok (.goto 4, 3) := by decide +kernel
theorem d4_99 : decode method_4_code 99 = .ok (.iconst 0, 1) := by decide +kernel
theorem d4_100 : decode method_4_code 100 = .ok (.istore_n 2, 1) := by decide +kernel
theorem d4_101 : decode method_4_code 101 = .ok (.iload_n 1, 1) := by decide +kernel
theorem d4_102 : decode method_4_code 102 = .ok (.ifCond .eq 11, 3) := by decide +kernel
theorem d4_105 : decode method_4_code 105 = .ok (.iload_n 2, 1) := by decide +kernel
theorem d4_106 : decode method_4_code 106 = .ok (.ifCond .ne 7, 3) := by decide +kernel
theorem d4_109 : decode method_4_code 109 = .ok (.iconst 1, 1) := by decide +kernel
theorem d4_110 : decode method_4_code 110 = .ok (.goto 4, 3) := by decide +kernel
theorem d4_113 : decode method_4_code 113 = .ok (.iconst 0, 1) := by decide +kernel
theorem d4_114 : decode method_4_code 114 = .ok (.ireturn, 1) := by decide +kernel
theorem pn_own_e11 : plainName "com/example/xml_element_search/xmlelementsearch/VersionAllowsPinLaw" = true := by first | (simp [plainName, overriddenIn]; done) | decide +kernel
set_option maxRecDepth 65536 in
set_option maxHeartbeats 40000000 in
theorem own_sa {p : Program} {l : Launch} {e : Env} {s : State} {m : MethodId} {args : Array Value} {below : List Frame} {meth : Method} {c : Code} {T : State} {locs : List Loc} {Z : State} {a0 : Array Value} {h : Heap} {n0 : Nat} (hw : ∀ d ∈ tables_1, d.before a0 Z = true) (X : Stand p l e ({ frames := 1, cells := 0, slots := 0, locals := 14 } : Room) s m args below meth c T locs 0 0) (hx : p.tables.exec = Jvm.exec) (hZ : Z.Warmed39 s.vm) (hby : c.code = method_4_code) (hml : c.maxLocals = 3) (hown : s.vm.findClass "com/example/xml_element_search/xmlelementsearch/VersionAllowsPinLaw" = some m.cls) (eT : T.heap = h) (N : Fr n0 locs) (Z0 : n0 ≤ h.size) (p0 : Int32)  :
    ∃ T' L', Stand p l e ({ frames := 1, cells := 0, slots := 0, locals := 14 } : Room) s m args below meth c T' L' 0 0 ∧ T'.heap = h ∧ Fr n0 L' ∧ ∀ target, Steps p.tables e below (T'.setTop (mkF m 37 #[.val (.int p0), .unset, .unset] [(.int (if (¬ (p0 < (1 : Int32) ∨ (55295 : Int32) < p0) ∨ ¬ (p0 < (57344 : Int32) ∨ (65533 : Int32) < p0) ∨ ¬ (p0 < (65536 : Int32) ∨ (1114111 : Int32) < p0)) then (1 : Int32) else (0 : Int32)))])) target → Steps p.tables e below (T.setTop (mkF m 0 #[.val (.int p0), .unset, .unset] [])) target := by
  obtain ⟨_, _, ⟨T9, L9, k9, n9⟩, -, X9, ⟨Lc9, hQ9, l9, y9, z9⟩, st9⟩ := Jvm.LawKit.callS X hx (y := (⟨"com/example/xml_element_search/xmlelementsearch/VersionAllowsPinLaw", "in", "(III)Z"⟩ : MethodName)) hown (mvT hZ (hw _ (List.mem_of_getElem? (i := 17) rfl))) (mvT hZ (hw _ (List.mem_of_getElem? (i := 18) rfl))) (mvT hZ (hw _ (List.mem_of_getElem? (i := 14) rfl))) (mvT hZ (hw _ (List.mem_of_getElem? (i := 19) rfl))) (by decide) (backOf (W := 0) (own_in l Z a0 hw [] p0 (1 : Int32) (55295 : Int32) h n0 Z0 ) hZ (hw _ (List.mem_of_getElem? (i := 19) rfl)) (hw _ (List.mem_of_getElem? (i := 14) rfl)) (by decide) (by decide)) (g := (mkF m 4 #[.val (.int p0), .unset, .unset] [(.int (55295 : Int32)), (.int (1 : Int32)), (.int p0)])) rfl (by rw [hml]; rfl) (argsL := [(.int p0), (.int (1 : Int32)), (.int (55295 : Int32))]) (rest := []) (lenOf pd_0 rfl) rfl (by show 2 * 0 + _ ≤ _; exact Nat.le_of_eq rfl) (hb hby d4_4) (fun _ _ => ⟨rfl, eT, (by decide : 0 + 0 ≤ _), (by decide : 0 + 0 ≤ _)⟩)
  dsimp only [Pt.U, Pt.locs, Pt.cells, Pt.slots] at X9 l9 y9 z9 st9 hQ9
  subst l9 y9 z9
  obtain ⟨rfl, N9q, eh9⟩ := hQ9
  have N9 := Fr.app N N9q
  by_cases h4 : (p0 < (1 : Int32) ∨ (55295 : Int32) < p0)
  · obtain ⟨_, _, ⟨T10, L10, k10, n10⟩, -, X10, ⟨Lc10, hQ10, l10, y10, z10⟩, st10⟩ := Jvm.LawKit.callS X9 hx (y := (⟨"com/example/xml_element_search/xmlelementsearch/VersionAllowsPinLaw", "in", "(III)Z"⟩ : MethodName)) hown (mvT hZ (hw _ (List.mem_of_getElem? (i := 17) rfl))) (mvT hZ (hw _ (List.mem_of_getElem? (i := 18) rfl))) (mvT hZ (hw _ (List.mem_of_getElem? (i := 14) rfl))) (mvT hZ (hw _ (List.mem_of_getElem? (i := 19) rfl))) (by decide) (backOf (W := 0) (own_in l Z a0 hw [] p0 (57344 : Int32) (65533 : Int32) h n0 Z0 ) hZ (hw _ (List.mem_of_getElem? (i := 19) rfl)) (hw _ (List.mem_of_getElem? (i := 14) rfl)) (by decide) (by decide)) (g := (mkF m 15 #[.val (.int p0), .unset, .unset] [(.int (65533 : Int32)), (.int (57344 : Int32)), (.int p0)])) rfl (by rw [hml]; rfl) (argsL := [(.int p0), (.int (57344 : Int32)), (.int (65533 : Int32))]) (rest := []) (lenOf pd_0 rfl) rfl (by show 2 * 0 + _ ≤ _; exact Nat.le_of_eq rfl) (hb hby d4_15) (fun _ _ => ⟨rfl, eh9, (by decide : 0 + 0 ≤ _), (by decide : 0 + 0 ≤ _)⟩)
    dsimp only [Pt.U, Pt.locs, Pt.cells, Pt.slots] at X10 l10 y10 z10 st10 hQ10
    subst l10 y10 z10
    obtain ⟨rfl, N10q, eh10⟩ := hQ10
    have N10 := Fr.app N9 N10q
    by_cases h5 : (p0 < (57344 : Int32) ∨ (65533 : Int32) < p0)
    · obtain ⟨_, _, ⟨T11, L11, k11, n11⟩, -, X11, ⟨Lc11, hQ11, l11, y11, z11⟩, st11⟩ := Jvm.LawKit.callS X10 hx (y := (⟨"com/example/xml_element_search/xmlelementsearch/VersionAllowsPinLaw", "in", "(III)Z"⟩ : MethodName)) hown (mvT hZ (hw _ (List.mem_of_getElem? (i := 17) rfl))) (mvT hZ (hw _ (List.mem_of_getElem? (i := 18) rfl))) (mvT hZ (hw _ (List.mem_of_getElem? (i := 14) rfl))) (mvT hZ (hw _ (List.mem_of_getElem? (i := 19) rfl))) (by decide) (backOf (W := 0) (own_in l Z a0 hw [] p0 (65536 : Int32) (1114111 : Int32) h n0 Z0 ) hZ (hw _ (List.mem_of_getElem? (i := 19) rfl)) (hw _ (List.mem_of_getElem? (i := 14) rfl)) (by decide) (by decide)) (g := (mkF m 26 #[.val (.int p0), .unset, .unset] [(.int (1114111 : Int32)), (.int (65536 : Int32)), (.int p0)])) rfl (by rw [hml]; rfl) (argsL := [(.int p0), (.int (65536 : Int32)), (.int (1114111 : Int32))]) (rest := []) (lenOf pd_0 rfl) rfl (by show 2 * 0 + _ ≤ _; exact Nat.le_of_eq rfl) (hb hby d4_26) (fun _ _ => ⟨rfl, eh10, (by decide : 0 + 0 ≤ _), (by decide : 0 + 0 ≤ _)⟩)
      dsimp only [Pt.U, Pt.locs, Pt.cells, Pt.slots] at X11 l11 y11 z11 st11 hQ11
      subst l11 y11 z11
      obtain ⟨rfl, N11q, eh11⟩ := hQ11
      have N11 := Fr.app N10 N11q
      by_cases h6 : (p0 < (65536 : Int32) ∨ (1114111 : Int32) < p0)
      · refine ⟨T11, _, X11, eh11, N11, fun target k => ?_⟩
        have hj : (if (¬ (p0 < (1 : Int32) ∨ (55295 : Int32) < p0) ∨ ¬ (p0 < (57344 : Int32) ∨ (65533 : Int32) < p0) ∨ ¬ (p0 < (65536 : Int32) ∨ (1114111 : Int32) < p0)) then (1 : Int32) else (0 : Int32)) = (0 : Int32) := by simp [h4, h5, h6]
        rw [hj] at k
        show Steps p.tables e below (T.setTop (mkF m 0 #[.val (.int p0), .unset, .unset] [])) _
        refine XS.iloadN X.here hx rfl (hb hby d4_0) rfl ?_
        show Steps p.tables e below (T.setTop (mkF m 1 #[.val (.int p0), .unset, .unset] [(.int p0)])) _
        refine XS.iconst X.here hx rfl (hb hby d4_1) ?_
        show Steps p.tables e below (T.setTop (mkF m 2 #[.val (.int p0), .unset, .unset] [(.int (1 : Int32)), (.int p0)])) _
        refine Jvm.Stand.ldcI X hx hown (mvT hZ (hw _ (List.mem_of_getElem? (i := 16) rfl))) (g := (mkF m 2 #[.val (.int p0), .unset, .unset] [(.int (1 : Int32)), (.int p0)])) rfl (hb hby d4_2) ?_
        show Steps p.tables e below (T.setTop (mkF m 4 #[.val (.int p0), .unset, .unset] [(.int (55295 : Int32)), (.int (1 : Int32)), (.int p0)])) _
        refine st9 _ ?_
        show Steps p.tables e below (T9.setTop (mkF m 7 #[.val (.int p0), .unset, .unset] [(.int (if (p0 < (1 : Int32) ∨ (55295 : Int32) < p0) then (0 : Int32) else (1 : Int32)))])) _
        rw [if_pos h4]
        show Steps p.tables e below (T9.setTop (mkF m 7 #[.val (.int p0), .unset, .unset] [(.int (0 : Int32))])) _
        refine XS.ifNo X9.here hx rfl (hb hby d4_7) rfl (XT.i0_ne_f (by decide)) ?_
        show Steps p.tables e below (T9.setTop (mkF m 10 #[.val (.int p0), .unset, .unset] [])) _
        refine XS.iloadN X9.here hx rfl (hb hby d4_10) rfl ?_
        show Steps p.tables e below (T9.setTop (mkF m 11 #[.val (.int p0), .unset, .unset] [(.int p0)])) _
        refine Jvm.Stand.ldcI X9 hx hown (mvT hZ (hw _ (List.mem_of_getElem? (i := 20) rfl))) (g := (mkF m 11 #[.val (.int p0), .unset, .unset] [(.int p0)])) rfl (hb hby d4_11) ?_
        show Steps p.tables e below (T9.setTop (mkF m 13 #[.val (.int p0), .unset, .unset] [(.int (57344 : Int32)), (.int p0)])) _
        refine Jvm.Stand.ldcI X9 hx hown (mvT hZ (hw _ (List.mem_of_getElem? (i := 21) rfl))) (g := (mkF m 13 #[.val (.int p0), .unset, .unset] [(.int (57344 : Int32)), (.int p0)])) rfl (hb hby d4_13) ?_
        show Steps p.tables e below (T9.setTop (mkF m 15 #[.val (.int p0), .unset, .unset] [(.int (65533 : Int32)), (.int (57344 : Int32)), (.int p0)])) _
        refine st10 _ ?_
        show Steps p.tables e below (T10.setTop (mkF m 18 #[.val (.int p0), .unset, .unset] [(.int (if (p0 < (57344 : Int32) ∨ (65533 : Int32) < p0) then (0 : Int32) else (1 : Int32)))])) _
        rw [if_pos h5]
        show Steps p.tables e below (T10.setTop (mkF m 18 #[.val (.int p0), .unset, .unset] [(.int (0 : Int32))])) _
        refine XS.ifNo X10.here hx rfl (hb hby d4_18) rfl (XT.i0_ne_f (by decide)) ?_
        show Steps p.tables e below (T10.setTop (mkF m 21 #[.val (.int p0), .unset, .unset] [])) _
        refine XS.iloadN X10.here hx rfl (hb hby d4_21) rfl ?_
        show Steps p.tables e below (T10.setTop (mkF m 22 #[.val (.int p0), .unset, .unset] [(.int p0)])) _
        refine Jvm.Stand.ldcI X10 hx hown (mvT hZ (hw _ (List.mem_of_getElem? (i := 22) rfl))) (g := (mkF m 22 #[.val (.int p0), .unset, .unset] [(.int p0)])) rfl (hb hby d4_22) ?_
        show Steps p.tables e below (T10.setTop (mkF m 24 #[.val (.int p0), .unset, .unset] [(.int (65536 : Int32)), (.int p0)])) _
        refine Jvm.Stand.ldcI X10 hx hown (mvT hZ (hw _ (List.mem_of_getElem? (i := 23) rfl))) (g := (mkF m 24 #[.val (.int p0), .unset, .unset] [(.int (65536 : Int32)), (.int p0)])) rfl (hb hby d4_24) ?_
        show Steps p.tables e below (T10.setTop (mkF m 26 #[.val (.int p0), .unset, .unset] [(.int (1114111 : Int32)), (.int (65536 : Int32)), (.int p0)])) _
        refine st11 _ ?_
        show Steps p.tables e below (T11.setTop (mkF m 29 #[.val (.int p0), .unset, .unset] [(.int (if (p0 < (65536 : Int32) ∨ (1114111 : Int32) < p0) then (0 : Int32) else (1 : Int32)))])) _
        rw [if_pos h6]
        show Steps p.tables e below (T11.setTop (mkF m 29 #[.val (.int p0), .unset, .unset] [(.int (0 : Int32))])) _
        refine XS.ifYes X11.here hx rfl (pc0 := 29) (pc' := 36) rfl (hb hby d4_29) rfl (XT.i0_eq_t (by decide)) (by decide) (by decide) ?_
        show Steps p.tables e below (T11.setTop (mkF m 36 #[.val (.int p0), .unset, .unset] [])) _
        refine XS.iconst X11.here hx rfl (hb hby d4_36) ?_
        show Steps p.tables e below (T11.setTop (mkF m 37 #[.val (.int p0), .unset, .unset] [(.int (0 : Int32))])) _
        exact k
      · refine ⟨T11, _, X11, eh11, N11, fun target k => ?_⟩
        have hj : (if (¬ (p0 < (1 : Int32) ∨ (55295 : Int32) < p0) ∨ ¬ (p0 < (57344 : Int32) ∨ (65533 : Int32) < p0) ∨ ¬ (p0 < (65536 : Int32) ∨ (1114111 : Int32) < p0)) then (1 : Int32) else (0 : Int32)) = (1 : Int32) := by simp [h4, h5, h6]
        rw [hj] at k
        show Steps p.tables e below (T.setTop (mkF m 0 #[.val (.int p0), .unset, .unset] [])) _
        refine XS.iloadN X.here hx rfl (hb hby d4_0) rfl ?_
        show Steps p.tables e below (T.setTop (mkF m 1 #[.val (.int p0), .unset, .unset] [(.int p0)])) _
        refine XS.iconst X.here hx rfl (hb hby d4_1) ?_
        show Steps p.tables e below (T.setTop (mkF m 2 #[.val (.int p0), .unset, .unset] [(.int (1 : Int32)), (.int p0)])) _
        refine Jvm.Stand.ldcI X hx hown (mvT hZ (hw _ (List.mem_of_getElem? (i := 16) rfl))) (g := (mkF m 2 #[.val (.int p0), .unset, .unset] [(.int (1 : Int32)), (.int p0)])) rfl (hb hby d4_2) ?_
        show Steps p.tables e below (T.setTop (mkF m 4 #[.val (.int p0), .unset, .unset] [(.int (55295 : Int32)), (.int (1 : Int32)), (.int p0)])) _
        refine st9 _ ?_
        show Steps p.tables e below (T9.setTop (mkF m 7 #[.val (.int p0), .unset, .unset] [(.int (if (p0 < (1 : Int32) ∨ (55295 : Int32) < p0) then (0 : Int32) else (1 : Int32)))])) _
        rw [if_pos h4]
        show Steps p.tables e below (T9.setTop (mkF m 7 #[.val (.int p0), .unset, .unset] [(.int (0 : Int32))])) _
        refine XS.ifNo X9.here hx rfl (hb hby d4_7) rfl (XT.i0_ne_f (by decide)) ?_
        show Steps p.tables e below (T9.setTop (mkF m 10 #[.val (.int p0), .unset, .unset] [])) _
        refine XS.iloadN X9.here hx rfl (hb hby d4_10) rfl ?_
        show Steps p.tables e below (T9.setTop (mkF m 11 #[.val (.int p0), .unset, .unset] [(.int p0)])) _
        refine Jvm.Stand.ldcI X9 hx hown (mvT hZ (hw _ (List.mem_of_getElem? (i := 20) rfl))) (g := (mkF m 11 #[.val (.int p0), .unset, .unset] [(.int p0)])) rfl (hb hby d4_11) ?_
        show Steps p.tables e below (T9.setTop (mkF m 13 #[.val (.int p0), .unset, .unset] [(.int (57344 : Int32)), (.int p0)])) _
        refine Jvm.Stand.ldcI X9 hx hown (mvT hZ (hw _ (List.mem_of_getElem? (i := 21) rfl))) (g := (mkF m 13 #[.val (.int p0), .unset, .unset] [(.int (57344 : Int32)), (.int p0)])) rfl (hb hby d4_13) ?_
        show Steps p.tables e below (T9.setTop (mkF m 15 #[.val (.int p0), .unset, .unset] [(.int (65533 : Int32)), (.int (57344 : Int32)), (.int p0)])) _
        refine st10 _ ?_
        show Steps p.tables e below (T10.setTop (mkF m 18 #[.val (.int p0), .unset, .unset] [(.int (if (p0 < (57344 : Int32) ∨ (65533 : Int32) < p0) then (0 : Int32) else (1 : Int32)))])) _
        rw [if_pos h5]
        show Steps p.tables e below (T10.setTop (mkF m 18 #[.val (.int p0), .unset, .unset] [(.int (0 : Int32))])) _
        refine XS.ifNo X10.here hx rfl (hb hby d4_18) rfl (XT.i0_ne_f (by decide)) ?_
        show Steps p.tables e below (T10.setTop (mkF m 21 #[.val (.int p0), .unset, .unset] [])) _
        refine XS.iloadN X10.here hx rfl (hb hby d4_21) rfl ?_
        show Steps p.tables e below (T10.setTop (mkF m 22 #[.val (.int p0), .unset, .unset] [(.int p0)])) _
        refine Jvm.Stand.ldcI X10 hx hown (mvT hZ (hw _ (List.mem_of_getElem? (i := 22) rfl))) (g := (mkF m 22 #[.val (.int p0), .unset, .unset] [(.int p0)])) rfl (hb hby d4_22) ?_
        show Steps p.tables e below (T10.setTop (mkF m 24 #[.val (.int p0), .unset, .unset] [(.int (65536 : Int32)), (.int p0)])) _
        refine Jvm.Stand.ldcI X10 hx hown (mvT hZ (hw _ (List.mem_of_getElem? (i := 23) rfl))) (g := (mkF m 24 #[.val (.int p0), .unset, .unset] [(.int (65536 : Int32)), (.int p0)])) rfl (hb hby d4_24) ?_
        show Steps p.tables e below (T10.setTop (mkF m 26 #[.val (.int p0), .unset, .unset] [(.int (1114111 : Int32)), (.int (65536 : Int32)), (.int p0)])) _
        refine st11 _ ?_
        show Steps p.tables e below (T11.setTop (mkF m 29 #[.val (.int p0), .unset, .unset] [(.int (if (p0 < (65536 : Int32) ∨ (1114111 : Int32) < p0) then (0 : Int32) else (1 : Int32)))])) _
        rw [if_neg h6]
        show Steps p.tables e below (T11.setTop (mkF m 29 #[.val (.int p0), .unset, .unset] [(.int (1 : Int32))])) _
        refine XS.ifNo X11.here hx rfl (hb hby d4_29) rfl (XT.i0_eq_f (by decide)) ?_
        show Steps p.tables e below (T11.setTop (mkF m 32 #[.val (.int p0), .unset, .unset] [])) _
        refine XS.iconst X11.here hx rfl (hb hby d4_32) ?_
        show Steps p.tables e below (T11.setTop (mkF m 33 #[.val (.int p0), .unset, .unset] [(.int (1 : Int32))])) _
        refine XS.goto X11.here hx rfl (pc0 := 33) (pc' := 37) rfl (hb hby d4_33) (by decide) (by decide) ?_
        show Steps p.tables e below (T11.setTop (mkF m 37 #[.val (.int p0), .unset, .unset] [(.int (1 : Int32))])) _
        exact k
    · refine ⟨T10, _, X10, eh10, N10, fun target k => ?_⟩
      have hj : (if (¬ (p0 < (1 : Int32) ∨ (55295 : Int32) < p0) ∨ ¬ (p0 < (57344 : Int32) ∨ (65533 : Int32) < p0) ∨ ¬ (p0 < (65536 : Int32) ∨ (1114111 : Int32) < p0)) then (1 : Int32) else (0 : Int32)) = (1 : Int32) := by simp [h4, h5]
      rw [hj] at k
      show Steps p.tables e below (T.setTop (mkF m 0 #[.val (.int p0), .unset, .unset] [])) _
      refine XS.iloadN X.here hx rfl (hb hby d4_0) rfl ?_
      show Steps p.tables e below (T.setTop (mkF m 1 #[.val (.int p0), .unset, .unset] [(.int p0)])) _
      refine XS.iconst X.here hx rfl (hb hby d4_1) ?_
      show Steps p.tables e below (T.setTop (mkF m 2 #[.val (.int p0), .unset, .unset] [(.int (1 : Int32)), (.int p0)])) _
      refine Jvm.Stand.ldcI X hx hown (mvT hZ (hw _ (List.mem_of_getElem? (i := 16) rfl))) (g := (mkF m 2 #[.val (.int p0), .unset, .unset] [(.int (1 : Int32)), (.int p0)])) rfl (hb hby d4_2) ?_
      show Steps p.tables e below (T.setTop (mkF m 4 #[.val (.int p0), .unset, .unset] [(.int (55295 : Int32)), (.int (1 : Int32)), (.int p0)])) _
      refine st9 _ ?_
      show Steps p.tables e below (T9.setTop (mkF m 7 #[.val (.int p0), .unset, .unset] [(.int (if (p0 < (1 : Int32) ∨ (55295 : Int32) < p0) then (0 : Int32) else (1 : Int32)))])) _
      rw [if_pos h4]
      show Steps p.tables e below (T9.setTop (mkF m 7 #[.val (.int p0), .unset, .unset] [(.int (0 : Int32))])) _
      refine XS.ifNo X9.here hx rfl (hb hby d4_7) rfl (XT.i0_ne_f (by decide)) ?_
      show Steps p.tables e below (T9.setTop (mkF m 10 #[.val (.int p0), .unset, .unset] [])) _
      refine XS.iloadN X9.here hx rfl (hb hby d4_10) rfl ?_
      show Steps p.tables e below (T9.setTop (mkF m 11 #[.val (.int p0), .unset, .unset] [(.int p0)])) _
      refine Jvm.Stand.ldcI X9 hx hown (mvT hZ (hw _ (List.mem_of_getElem? (i := 20) rfl))) (g := (mkF m 11 #[.val (.int p0), .unset, .unset] [(.int p0)])) rfl (hb hby d4_11) ?_
      show Steps p.tables e below (T9.setTop (mkF m 13 #[.val (.int p0), .unset, .unset] [(.int (57344 : Int32)), (.int p0)])) _
      refine Jvm.Stand.ldcI X9 hx hown (mvT hZ (hw _ (List.mem_of_getElem? (i := 21) rfl))) (g := (mkF m 13 #[.val (.int p0), .unset, .unset] [(.int (57344 : Int32)), (.int p0)])) rfl (hb hby d4_13) ?_
      show Steps p.tables e below (T9.setTop (mkF m 15 #[.val (.int p0), .unset, .unset] [(.int (65533 : Int32)), (.int (57344 : Int32)), (.int p0)])) _
      refine st10 _ ?_
      show Steps p.tables e below (T10.setTop (mkF m 18 #[.val (.int p0), .unset, .unset] [(.int (if (p0 < (57344 : Int32) ∨ (65533 : Int32) < p0) then (0 : Int32) else (1 : Int32)))])) _
      rw [if_neg h5]
      show Steps p.tables e below (T10.setTop (mkF m 18 #[.val (.int p0), .unset, .unset] [(.int (1 : Int32))])) _
      refine XS.ifYes X10.here hx rfl (pc0 := 18) (pc' := 32) rfl (hb hby d4_18) rfl (XT.i0_ne_t (by decide)) (by decide) (by decide) ?_
      show Steps p.tables e below (T10.setTop (mkF m 32 #[.val (.int p0), .unset, .unset] [])) _
      refine XS.iconst X10.here hx rfl (hb hby d4_32) ?_
      show Steps p.tables e below (T10.setTop (mkF m 33 #[.val (.int p0), .unset, .unset] [(.int (1 : Int32))])) _
      refine XS.goto X10.here hx rfl (pc0 := 33) (pc' := 37) rfl (hb hby d4_33) (by decide) (by decide) ?_
      show Steps p.tables e below (T10.setTop (mkF m 37 #[.val (.int p0), .unset, .unset] [(.int (1 : Int32))])) _
      exact k
  · refine ⟨T9, _, X9, eh9, N9, fun target k => ?_⟩
    have hj : (if (¬ (p0 < (1 : Int32) ∨ (55295 : Int32) < p0) ∨ ¬ (p0 < (57344 : Int32) ∨ (65533 : Int32) < p0) ∨ ¬ (p0 < (65536 : Int32) ∨ (1114111 : Int32) < p0)) then (1 : Int32) else (0 : Int32)) = (1 : Int32) := by simp [h4]
    rw [hj] at k
    show Steps p.tables e below (T.setTop (mkF m 0 #[.val (.int p0), .unset, .unset] [])) _
    refine XS.iloadN X.here hx rfl (hb hby d4_0) rfl ?_
    show Steps p.tables e below (T.setTop (mkF m 1 #[.val (.int p0), .unset, .unset] [(.int p0)])) _
    refine XS.iconst X.here hx rfl (hb hby d4_1) ?_
    show Steps p.tables e below (T.setTop (mkF m 2 #[.val (.int p0), .unset, .unset] [(.int (1 : Int32)), (.int p0)])) _
    refine Jvm.Stand.ldcI X hx hown (mvT hZ (hw _ (List.mem_of_getElem? (i := 16) rfl))) (g := (mkF m 2 #[.val (.int p0), .unset, .unset] [(.int (1 : Int32)), (.int p0)])) rfl (hb hby d4_2) ?_
    show Steps p.tables e below (T.setTop (mkF m 4 #[.val (.int p0), .unset, .unset] [(.int (55295 : Int32)), (.int (1 : Int32)), (.int p0)])) _
    refine st9 _ ?_
    show Steps p.tables e below (T9.setTop (mkF m 7 #[.val (.int p0), .unset, .unset] [(.int (if (p0 < (1 : Int32) ∨ (55295 : Int32) < p0) then (0 : Int32) else (1 : Int32)))])) _
    rw [if_neg h4]
    show Steps p.tables e below (T9.setTop (mkF m 7 #[.val (.int p0), .unset, .unset] [(.int (1 : Int32))])) _
    refine XS.ifYes X9.here hx rfl (pc0 := 7) (pc' := 32) rfl (hb hby d4_7) rfl (XT.i0_ne_t (by decide)) (by decide) (by decide) ?_
    show Steps p.tables e below (T9.setTop (mkF m 32 #[.val (.int p0), .unset, .unset] [])) _
    refine XS.iconst X9.here hx rfl (hb hby d4_32) ?_
    show Steps p.tables e below (T9.setTop (mkF m 33 #[.val (.int p0), .unset, .unset] [(.int (1 : Int32))])) _
    refine XS.goto X9.here hx rfl (pc0 := 33) (pc' := 37) rfl (hb hby d4_33) (by decide) (by decide) ?_
    show Steps p.tables e below (T9.setTop (mkF m 37 #[.val (.int p0), .unset, .unset] [(.int (1 : Int32))])) _
    exact k
set_option maxRecDepth 65536 in
set_option maxHeartbeats 40000000 in
theorem own_sb {p : Program} {l : Launch} {e : Env} {s : State} {m : MethodId} {args : Array Value} {below : List Frame} {meth : Method} {c : Code} {T : State} {locs : List Loc} {Z : State} {a0 : Array Value} {h : Heap} {n0 : Nat} (hw : ∀ d ∈ tables_1, d.before a0 Z = true) (X : Stand p l e ({ frames := 1, cells := 0, slots := 0, locals := 14 } : Room) s m args below meth c T locs 0 0) (hx : p.tables.exec = Jvm.exec) (hZ : Z.Warmed39 s.vm) (hby : c.code = method_4_code) (hml : c.maxLocals = 3) (hown : s.vm.findClass "com/example/xml_element_search/xmlelementsearch/VersionAllowsPinLaw" = some m.cls) (eT : T.heap = h) (N : Fr n0 locs) (Z0 : n0 ≤ h.size) (p0 : Int32) (q : Int32)  :
    ∃ T' L', Stand p l e ({ frames := 1, cells := 0, slots := 0, locals := 14 } : Room) s m args below meth c T' L' 0 0 ∧ T'.heap = h ∧ Fr n0 L' ∧ ∀ target, Steps p.tables e below (T'.setTop (mkF m 100 #[.val (.int p0), .val (.int q), .unset] [(.int (if (¬ (p0 < (1 : Int32) ∨ (8 : Int32) < p0) ∨ ¬ (p0 < (11 : Int32) ∨ (12 : Int32) < p0) ∨ ¬ (p0 < (14 : Int32) ∨ (31 : Int32) < p0) ∨ ¬ (p0 < (127 : Int32) ∨ (132 : Int32) < p0) ∨ ¬ (p0 < (134 : Int32) ∨ (159 : Int32) < p0)) then (1 : Int32) else (0 : Int32)))])) target → Steps p.tables e below (T.setTop (mkF m 38 #[.val (.int p0), .val (.int q), .unset] [])) target := by
  obtain ⟨_, _, ⟨T12, L12, k12, n12⟩, -, X12, ⟨Lc12, hQ12, l12, y12, z12⟩, st12⟩ := Jvm.LawKit.callS X hx (y := (⟨"com/example/xml_element_search/xmlelementsearch/VersionAllowsPinLaw", "in", "(III)Z"⟩ : MethodName)) hown (mvT hZ (hw _ (List.mem_of_getElem? (i := 17) rfl))) (mvT hZ (hw _ (List.mem_of_getElem? (i := 18) rfl))) (mvT hZ (hw _ (List.mem_of_getElem? (i := 14) rfl))) (mvT hZ (hw _ (List.mem_of_getElem? (i := 19) rfl))) (by decide) (backOf (W := 0) (own_in l Z a0 hw [] p0 (1 : Int32) (8 : Int32) h n0 Z0 ) hZ (hw _ (List.mem_of_getElem? (i := 19) rfl)) (hw _ (List.mem_of_getElem? (i := 14) rfl)) (by decide) (by decide)) (g := (mkF m 42 #[.val (.int p0), .val (.int q), .unset] [(.int (8 : Int32)), (.int (1 : Int32)), (.int p0)])) rfl (by rw [hml]; rfl) (argsL := [(.int p0), (.int (1 : Int32)), (.int (8 : Int32))]) (rest := []) (lenOf pd_0 rfl) rfl (by show 2 * 0 + _ ≤ _; exact Nat.le_of_eq rfl) (hb hby d4_42) (fun _ _ => ⟨rfl, eT, (by decide : 0 + 0 ≤ _), (by decide : 0 + 0 ≤ _)⟩)
  dsimp only [Pt.U, Pt.locs, Pt.cells, Pt.slots] at X12 l12 y12 z12 st12 hQ12
  subst l12 y12 z12
  obtain ⟨rfl, N12q, eh12⟩ := hQ12
  have N12 := Fr.app N N12q
  by_cases h1 : (p0 < (1 : Int32) ∨ (8 : Int32) < p0)
  · obtain ⟨_, _, ⟨T13, L13, k13, n13⟩, -, X13, ⟨Lc13, hQ13, l13, y13, z13⟩, st13⟩ := Jvm.LawKit.callS X12 hx (y := (⟨"com/example/xml_element_search/xmlelementsearch/VersionAllowsPinLaw", "in", "(III)Z"⟩ : MethodName)) hown (mvT hZ (hw _ (List.mem_of_getElem? (i := 17) rfl))) (mvT hZ (hw _ (List.mem_of_getElem? (i := 18) rfl))) (mvT hZ (hw _ (List.mem_of_getElem? (i := 14) rfl))) (mvT hZ (hw _ (List.mem_of_getElem? (i := 19) rfl))) (by decide) (backOf (W := 0) (own_in l Z a0 hw [] p0 (11 : Int32) (12 : Int32) h n0 Z0 ) hZ (hw _ (List.mem_of_getElem? (i := 19) rfl)) (hw _ (List.mem_of_getElem? (i := 14) rfl)) (by decide) (by decide)) (g := (mkF m 53 #[.val (.int p0), .val (.int q), .unset] [(.int (12 : Int32)), (.int (11 : Int32)), (.int p0)])) rfl (by rw [hml]; rfl) (argsL := [(.int p0), (.int (11 : Int32)), (.int (12 : Int32))]) (rest := []) (lenOf pd_0 rfl) rfl (by show 2 * 0 + _ ≤ _; exact Nat.le_of_eq rfl) (hb hby d4_53) (fun _ _ => ⟨rfl, eh12, (by decide : 0 + 0 ≤ _), (by decide : 0 + 0 ≤ _)⟩)
    dsimp only [Pt.U, Pt.locs, Pt.cells, Pt.slots] at X13 l13 y13 z13 st13 hQ13
    subst l13 y13 z13
    obtain ⟨rfl, N13q, eh13⟩ := hQ13
    have N13 := Fr.app N12 N13q
    by_cases h2 : (p0 < (11 : Int32) ∨ (12 : Int32) < p0)
    · obtain ⟨_, _, ⟨T14, L14, k14, n14⟩, -, X14, ⟨Lc14, hQ14, l14, y14, z14⟩, st14⟩ := Jvm.LawKit.callS X13 hx (y := (⟨"com/example/xml_element_search/xmlelementsearch/VersionAllowsPinLaw", "in", "(III)Z"⟩ : MethodName)) hown (mvT hZ (hw _ (List.mem_of_getElem? (i := 17) rfl))) (mvT hZ (hw _ (List.mem_of_getElem? (i := 18) rfl))) (mvT hZ (hw _ (List.mem_of_getElem? (i := 14) rfl))) (mvT hZ (hw _ (List.mem_of_getElem? (i := 19) rfl))) (by decide) (backOf (W := 0) (own_in l Z a0 hw [] p0 (14 : Int32) (31 : Int32) h n0 Z0 ) hZ (hw _ (List.mem_of_getElem? (i := 19) rfl)) (hw _ (List.mem_of_getElem? (i := 14) rfl)) (by decide) (by decide)) (g := (mkF m 64 #[.val (.int p0), .val (.int q), .unset] [(.int (31 : Int32)), (.int (14 : Int32)), (.int p0)])) rfl (by rw [hml]; rfl) (argsL := [(.int p0), (.int (14 : Int32)), (.int (31 : Int32))]) (rest := []) (lenOf pd_0 rfl) rfl (by show 2 * 0 + _ ≤ _; exact Nat.le_of_eq rfl) (hb hby d4_64) (fun _ _ => ⟨rfl, eh13, (by decide : 0 + 0 ≤ _), (by decide : 0 + 0 ≤ _)⟩)
      dsimp only [Pt.U, Pt.locs, Pt.cells, Pt.slots] at X14 l14 y14 z14 st14 hQ14
      subst l14 y14 z14
      obtain ⟨rfl, N14q, eh14⟩ := hQ14
      have N14 := Fr.app N13 N14q
      by_cases h3 : (p0 < (14 : Int32) ∨ (31 : Int32) < p0)
      · obtain ⟨_, _, ⟨T15, L15, k15, n15⟩, -, X15, ⟨Lc15, hQ15, l15, y15, z15⟩, st15⟩ := Jvm.LawKit.callS X14 hx (y := (⟨"com/example/xml_element_search/xmlelementsearch/VersionAllowsPinLaw", "in", "(III)Z"⟩ : MethodName)) hown (mvT hZ (hw _ (List.mem_of_getElem? (i := 17) rfl))) (mvT hZ (hw _ (List.mem_of_getElem? (i := 18) rfl))) (mvT hZ (hw _ (List.mem_of_getElem? (i := 14) rfl))) (mvT hZ (hw _ (List.mem_of_getElem? (i := 19) rfl))) (by decide) (backOf (W := 0) (own_in l Z a0 hw [] p0 (127 : Int32) (132 : Int32) h n0 Z0 ) hZ (hw _ (List.mem_of_getElem? (i := 19) rfl)) (hw _ (List.mem_of_getElem? (i := 14) rfl)) (by decide) (by decide)) (g := (mkF m 76 #[.val (.int p0), .val (.int q), .unset] [(.int (132 : Int32)), (.int (127 : Int32)), (.int p0)])) rfl (by rw [hml]; rfl) (argsL := [(.int p0), (.int (127 : Int32)), (.int (132 : Int32))]) (rest := []) (lenOf pd_0 rfl) rfl (by show 2 * 0 + _ ≤ _; exact Nat.le_of_eq rfl) (hb hby d4_76) (fun _ _ => ⟨rfl, eh14, (by decide : 0 + 0 ≤ _), (by decide : 0 + 0 ≤ _)⟩)
        dsimp only [Pt.U, Pt.locs, Pt.cells, Pt.slots] at X15 l15 y15 z15 st15 hQ15
        subst l15 y15 z15
        obtain ⟨rfl, N15q, eh15⟩ := hQ15
        have N15 := Fr.app N14 N15q
        by_cases h4 : (p0 < (127 : Int32) ∨ (132 : Int32) < p0)
        · obtain ⟨_, _, ⟨T16, L16, k16, n16⟩, -, X16, ⟨Lc16, hQ16, l16, y16, z16⟩, st16⟩ := Jvm.LawKit.callS X15 hx (y := (⟨"com/example/xml_element_search/xmlelementsearch/VersionAllowsPinLaw", "in", "(III)Z"⟩ : MethodName)) hown (mvT hZ (hw _ (List.mem_of_getElem? (i := 17) rfl))) (mvT hZ (hw _ (List.mem_of_getElem? (i := 18) rfl))) (mvT hZ (hw _ (List.mem_of_getElem? (i := 14) rfl))) (mvT hZ (hw _ (List.mem_of_getElem? (i := 19) rfl))) (by decide) (backOf (W := 0) (own_in l Z a0 hw [] p0 (134 : Int32) (159 : Int32) h n0 Z0 ) hZ (hw _ (List.mem_of_getElem? (i := 19) rfl)) (hw _ (List.mem_of_getElem? (i := 14) rfl)) (by decide) (by decide)) (g := (mkF m 89 #[.val (.int p0), .val (.int q), .unset] [(.int (159 : Int32)), (.int (134 : Int32)), (.int p0)])) rfl (by rw [hml]; rfl) (argsL := [(.int p0), (.int (134 : Int32)), (.int (159 : Int32))]) (rest := []) (lenOf pd_0 rfl) rfl (by show 2 * 0 + _ ≤ _; exact Nat.le_of_eq rfl) (hb hby d4_89) (fun _ _ => ⟨rfl, eh15, (by decide : 0 + 0 ≤ _), (by decide : 0 + 0 ≤ _)⟩)
          dsimp only [Pt.U, Pt.locs, Pt.cells, Pt.slots] at X16 l16 y16 z16 st16 hQ16
          subst l16 y16 z16
          obtain ⟨rfl, N16q, eh16⟩ := hQ16
          have N16 := Fr.app N15 N16q
          by_cases h5 : (p0 < (134 : Int32) ∨ (159 : Int32) < p0)
          · refine ⟨T16, _, X16, eh16, N16, fun target k => ?_⟩
            have hj : (if (¬ (p0 < (1 : Int32) ∨ (8 : Int32) < p0) ∨ ¬ (p0 < (11 : Int32) ∨ (12 : Int32) < p0) ∨ ¬ (p0 < (14 : Int32) ∨ (31 : Int32) < p0) ∨ ¬ (p0 < (127 : Int32) ∨ (132 : Int32) < p0) ∨ ¬ (p0 < (134 : Int32) ∨ (159 : Int32) < p0)) then (1 : Int32) else (0 : Int32)) = (0 : Int32) := by simp [h1, h2, h3, h4, h5]
            rw [hj] at k
            show Steps p.tables e below (T.setTop (mkF m 38 #[.val (.int p0), .val (.int q), .unset] [])) _
            refine XS.iloadN X.here hx rfl (hb hby d4_38) rfl ?_
            show Steps p.tables e below (T.setTop (mkF m 39 #[.val (.int p0), .val (.int q), .unset] [(.int p0)])) _
            refine XS.iconst X.here hx rfl (hb hby d4_39) ?_
            show Steps p.tables e below (T.setTop (mkF m 40 #[.val (.int p0), .val (.int q), .unset] [(.int (1 : Int32)), (.int p0)])) _
            refine XS.bipush X.here hx rfl (hb hby d4_40) ?_
            show Steps p.tables e below (T.setTop (mkF m 42 #[.val (.int p0), .val (.int q), .unset] [(.int (8 : Int32)), (.int (1 : Int32)), (.int p0)])) _
            refine st12 _ ?_
            show Steps p.tables e below (T12.setTop (mkF m 45 #[.val (.int p0), .val (.int q), .unset] [(.int (if (p0 < (1 : Int32) ∨ (8 : Int32) < p0) then (0 : Int32) else (1 : Int32)))])) _
            rw [if_pos h1]
            show Steps p.tables e below (T12.setTop (mkF m 45 #[.val (.int p0), .val (.int q), .unset] [(.int (0 : Int32))])) _
            refine XS.ifNo X12.here hx rfl (hb hby d4_45) rfl (XT.i0_ne_f (by decide)) ?_
            show Steps p.tables e below (T12.setTop (mkF m 48 #[.val (.int p0), .val (.int q), .unset] [])) _
            refine XS.iloadN X12.here hx rfl (hb hby d4_48) rfl ?_
            show Steps p.tables e below (T12.setTop (mkF m 49 #[.val (.int p0), .val (.int q), .unset] [(.int p0)])) _
            refine XS.bipush X12.here hx rfl (hb hby d4_49) ?_
            show Steps p.tables e below (T12.setTop (mkF m 51 #[.val (.int p0), .val (.int q), .unset] [(.int (11 : Int32)), (.int p0)])) _
            refine XS.bipush X12.here hx rfl (hb hby d4_51) ?_
            show Steps p.tables e below (T12.setTop (mkF m 53 #[.val (.int p0), .val (.int q), .unset] [(.int (12 : Int32)), (.int (11 : Int32)), (.int p0)])) _
            refine st13 _ ?_
            show Steps p.tables e below (T13.setTop (mkF m 56 #[.val (.int p0), .val (.int q), .unset] [(.int (if (p0 < (11 : Int32) ∨ (12 : Int32) < p0) then (0 : Int32) else (1 : Int32)))])) _
            rw [if_pos h2]
            show Steps p.tables e below (T13.setTop (mkF m 56 #[.val (.int p0), .val (.int q), .unset] [(.int (0 : Int32))])) _
            refine XS.ifNo X13.here hx rfl (hb hby d4_56) rfl (XT.i0_ne_f (by decide)) ?_
            show Steps p.tables e below (T13.setTop (mkF m 59 #[.val (.int p0), .val (.int q), .unset] [])) _
            refine XS.iloadN X13.here hx rfl (hb hby d4_59) rfl ?_
            show Steps p.tables e below (T13.setTop (mkF m 60 #[.val (.int p0), .val (.int q), .unset] [(.int p0)])) _
            refine XS.bipush X13.here hx rfl (hb hby d4_60) ?_
            show Steps p.tables e below (T13.setTop (mkF m 62 #[.val (.int p0), .val (.int q), .unset] [(.int (14 : Int32)), (.int p0)])) _
            refine XS.bipush X13.here hx rfl (hb hby d4_62) ?_
            show Steps p.tables e below (T13.setTop (mkF m 64 #[.val (.int p0), .val (.int q), .unset] [(.int (31 : Int32)), (.int (14 : Int32)), (.int p0)])) _
            refine st14 _ ?_
            show Steps p.tables e below (T14.setTop (mkF m 67 #[.val (.int p0), .val (.int q), .unset] [(.int (if (p0 < (14 : Int32) ∨ (31 : Int32) < p0) then (0 : Int32) else (1 : Int32)))])) _
            rw [if_pos h3]
            show Steps p.tables e below (T14.setTop (mkF m 67 #[.val (.int p0), .val (.int q), .unset] [(.int (0 : Int32))])) _
            refine XS.ifNo X14.here hx rfl (hb hby d4_67) rfl (XT.i0_ne_f (by decide)) ?_
            show Steps p.tables e below (T14.setTop (mkF m 70 #[.val (.int p0), .val (.int q), .unset] [])) _
            refine XS.iloadN X14.here hx rfl (hb hby d4_70) rfl ?_
            show Steps p.tables e below (T14.setTop (mkF m 71 #[.val (.int p0), .val (.int q), .unset] [(.int p0)])) _
            refine XS.bipush X14.here hx rfl (hb hby d4_71) ?_
            show Steps p.tables e below (T14.setTop (mkF m 73 #[.val (.int p0), .val (.int q), .unset] [(.int (127 : Int32)), (.int p0)])) _
            refine XS.sipush X14.here hx rfl (hb hby d4_73) ?_
            show Steps p.tables e below (T14.setTop (mkF m 76 #[.val (.int p0), .val (.int q), .unset] [(.int (132 : Int32)), (.int (127 : Int32)), (.int p0)])) _
            refine st15 _ ?_
            show Steps p.tables e below (T15.setTop (mkF m 79 #[.val (.int p0), .val (.int q), .unset] [(.int (if (p0 < (127 : Int32) ∨ (132 : Int32) < p0) then (0 : Int32) else (1 : Int32)))])) _
            rw [if_pos h4]
            show Steps p.tables e below (T15.setTop (mkF m 79 #[.val (.int p0), .val (.int q), .unset] [(.int (0 : Int32))])) _
            refine XS.ifNo X15.here hx rfl (hb hby d4_79) rfl (XT.i0_ne_f (by decide)) ?_
            show Steps p.tables e below (T15.setTop (mkF m 82 #[.val (.int p0), .val (.int q), .unset] [])) _
            refine XS.iloadN X15.here hx rfl (hb hby d4_82) rfl ?_
            show Steps p.tables e below (T15.setTop (mkF m 83 #[.val (.int p0), .val (.int q), .unset] [(.int p0)])) _
            refine XS.sipush X15.here hx rfl (hb hby d4_83) ?_
            show Steps p.tables e below (T15.setTop (mkF m 86 #[.val (.int p0), .val (.int q), .unset] [(.int (134 : Int32)), (.int p0)])) _
            refine XS.sipush X15.here hx rfl (hb hby d4_86) ?_
            show Steps p.tables e below (T15.setTop (mkF m 89 #[.val (.int p0), .val (.int q), .unset] [(.int (159 : Int32)), (.int (134 : Int32)), (.int p0)])) _
            refine st16 _ ?_
            show Steps p.tables e below (T16.setTop (mkF m 92 #[.val (.int p0), .val (.int q), .unset] [(.int (if (p0 < (134 : Int32) ∨ (159 : Int32) < p0) then (0 : Int32) else (1 : Int32)))])) _
            rw [if_pos h5]
            show Steps p.tables e below (T16.setTop (mkF m 92 #[.val (.int p0), .val (.int q), .unset] [(.int (0 : Int32))])) _
            refine XS.ifYes X16.here hx rfl (pc0 := 92) (pc' := 99) rfl (hb hby d4_92) rfl (XT.i0_eq_t (by decide)) (by decide) (by decide) ?_
            show Steps p.tables e below (T16.setTop (mkF m 99 #[.val (.int p0), .val (.int q), .unset] [])) _
            refine XS.iconst X16.here hx rfl (hb hby d4_99) ?_
            show Steps p.tables e below (T16.setTop (mkF m 100 #[.val (.int p0), .val (.int q), .unset] [(.int (0 : Int32))])) _
            exact k
          · refine ⟨T16, _, X16, eh16, N16, fun target k => ?_⟩
            have hj : (if (¬ (p0 < (1 : Int32) ∨ (8 : Int32) < p0) ∨ ¬ (p0 < (11 : Int32) ∨ (12 : Int32) < p0) ∨ ¬ (p0 < (14 : Int32) ∨ (31 : Int32) < p0) ∨ ¬ (p0 < (127 : Int32) ∨ (132 : Int32) < p0) ∨ ¬ (p0 < (134 : Int32) ∨ (159 : Int32) < p0)) then (1 : Int32) else (0 : Int32)) = (1 : Int32) := by simp [h1, h2, h3, h4, h5]
            rw [hj] at k
            show Steps p.tables e below (T.setTop (mkF m 38 #[.val (.int p0), .val (.int q), .unset] [])) _
            refine XS.iloadN X.here hx rfl (hb hby d4_38) rfl ?_
            show Steps p.tables e below (T.setTop (mkF m 39 #[.val (.int p0), .val (.int q), .unset] [(.int p0)])) _
            refine XS.iconst X.here hx rfl (hb hby d4_39) ?_
            show Steps p.tables e below (T.setTop (mkF m 40 #[.val (.int p0), .val (.int q), .unset] [(.int (1 : Int32)), (.int p0)])) _
            refine XS.bipush X.here hx rfl (hb hby d4_40) ?_
            show Steps p.tables e below (T.setTop (mkF m 42 #[.val (.int p0), .val (.int q), .unset] [(.int (8 : Int32)), (.int (1 : Int32)), (.int p0)])) _
            refine st12 _ ?_
            show Steps p.tables e below (T12.setTop (mkF m 45 #[.val (.int p0), .val (.int q), .unset] [(.int (if (p0 < (1 : Int32) ∨ (8 : Int32) < p0) then (0 : Int32) else (1 : Int32)))])) _
            rw [if_pos h1]
            show Steps p.tables e below (T12.setTop (mkF m 45 #[.val (.int p0), .val (.int q), .unset] [(.int (0 : Int32))])) _
            refine XS.ifNo X12.here hx rfl (hb hby d4_45) rfl (XT.i0_ne_f (by decide)) ?_
            show Steps p.tables e below (T12.setTop (mkF m 48 #[.val (.int p0), .val (.int q), .unset] [])) _
            refine XS.iloadN X12.here hx rfl (hb hby d4_48) rfl ?_
            show Steps p.tables e below (T12.setTop (mkF m 49 #[.val (.int p0), .val (.int q), .unset] [(.int p0)])) _
            refine XS.bipush X12.here hx rfl (hb hby d4_49) ?_
            show Steps p.tables e below (T12.setTop (mkF m 51 #[.val (.int p0), .val (.int q), .unset] [(.int (11 : Int32)), (.int p0)])) _
            refine XS.bipush X12.here hx rfl (hb hby d4_51) ?_
            show Steps p.tables e below (T12.setTop (mkF m 53 #[.val (.int p0), .val (.int q), .unset] [(.int (12 : Int32)), (.int (11 : Int32)), (.int p0)])) _
            refine st13 _ ?_
            show Steps p.tables e below (T13.setTop (mkF m 56 #[.val (.int p0), .val (.int q), .unset] [(.int (if (p0 < (11 : Int32) ∨ (12 : Int32) < p0) then (0 : Int32) else (1 : Int32)))])) _
            rw [if_pos h2]
            show Steps p.tables e below (T13.setTop (mkF m 56 #[.val (.int p0), .val (.int q), .unset] [(.int (0 : Int32))])) _
            refine XS.ifNo X13.here hx rfl (hb hby d4_56) rfl (XT.i0_ne_f (by decide)) ?_
            show Steps p.tables e below (T13.setTop (mkF m 59 #[.val (.int p0), .val (.int q), .unset] [])) _
            refine XS.iloadN X13.here hx rfl (hb hby d4_59) rfl ?_
            show Steps p.tables e below (T13.setTop (mkF m 60 #[.val (.int p0), .val (.int q), .unset] [(.int p0)])) _
            refine XS.bipush X13.here hx rfl (hb hby d4_60) ?_
            show Steps p.tables e below (T13.setTop (mkF m 62 #[.val (.int p0), .val (.int q), .unset] [(.int (14 : Int32)), (.int p0)])) _
            refine XS.bipush X13.here hx rfl (hb hby d4_62) ?_
            show Steps p.tables e below (T13.setTop (mkF m 64 #[.val (.int p0), .val (.int q), .unset] [(.int (31 : Int32)), (.int (14 : Int32)), (.int p0)])) _
            refine st14 _ ?_
            show Steps p.tables e below (T14.setTop (mkF m 67 #[.val (.int p0), .val (.int q), .unset] [(.int (if (p0 < (14 : Int32) ∨ (31 : Int32) < p0) then (0 : Int32) else (1 : Int32)))])) _
            rw [if_pos h3]
            show Steps p.tables e below (T14.setTop (mkF m 67 #[.val (.int p0), .val (.int q), .unset] [(.int (0 : Int32))])) _
            refine XS.ifNo X14.here hx rfl (hb hby d4_67) rfl (XT.i0_ne_f (by decide)) ?_
            show Steps p.tables e below (T14.setTop (mkF m 70 #[.val (.int p0), .val (.int q), .unset] [])) _
            refine XS.iloadN X14.here hx rfl (hb hby d4_70) rfl ?_
            show Steps p.tables e below (T14.setTop (mkF m 71 #[.val (.int p0), .val (.int q), .unset] [(.int p0)])) _
            refine XS.bipush X14.here hx rfl (hb hby d4_71) ?_
            show Steps p.tables e below (T14.setTop (mkF m 73 #[.val (.int p0), .val (.int q), .unset] [(.int (127 : Int32)), (.int p0)])) _
            refine XS.sipush X14.here hx rfl (hb hby d4_73) ?_
            show Steps p.tables e below (T14.setTop (mkF m 76 #[.val (.int p0), .val (.int q), .unset] [(.int (132 : Int32)), (.int (127 : Int32)), (.int p0)])) _
            refine st15 _ ?_
            show Steps p.tables e below (T15.setTop (mkF m 79 #[.val (.int p0), .val (.int q), .unset] [(.int (if (p0 < (127 : Int32) ∨ (132 : Int32) < p0) then (0 : Int32) else (1 : Int32)))])) _
            rw [if_pos h4]
            show Steps p.tables e below (T15.setTop (mkF m 79 #[.val (.int p0), .val (.int q), .unset] [(.int (0 : Int32))])) _
            refine XS.ifNo X15.here hx rfl (hb hby d4_79) rfl (XT.i0_ne_f (by decide)) ?_
            show Steps p.tables e below (T15.setTop (mkF m 82 #[.val (.int p0), .val (.int q), .unset] [])) _
            refine XS.iloadN X15.here hx rfl (hb hby d4_82) rfl ?_
            show Steps p.tables e below (T15.setTop (mkF m 83 #[.val (.int p0), .val (.int q), .unset] [(.int p0)])) _
            refine XS.sipush X15.here hx rfl (hb hby d4_83) ?_
            show Steps p.tables e below (T15.setTop (mkF m 86 #[.val (.int p0), .val (.int q), .unset] [(.int (134 : Int32)), (.int p0)])) _
            refine XS.sipush X15.here hx rfl (hb hby d4_86) ?_
            show Steps p.tables e below (T15.setTop (mkF m 89 #[.val (.int p0), .val (.int q), .unset] [(.int (159 : Int32)), (.int (134 : Int32)), (.int p0)])) _
            refine st16 _ ?_
            show Steps p.tables e below (T16.setTop (mkF m 92 #[.val (.int p0), .val (.int q), .unset] [(.int (if (p0 < (134 : Int32) ∨ (159 : Int32) < p0) then (0 : Int32) else (1 : Int32)))])) _
            rw [if_neg h5]
            show Steps p.tables e below (T16.setTop (mkF m 92 #[.val (.int p0), .val (.int q), .unset] [(.int (1 : Int32))])) _
            refine XS.ifNo X16.here hx rfl (hb hby d4_92) rfl (XT.i0_eq_f (by decide)) ?_
            show Steps p.tables e below (T16.setTop (mkF m 95 #[.val (.int p0), .val (.int q), .unset] [])) _
            refine XS.iconst X16.here hx rfl (hb hby d4_95) ?_
            show Steps p.tables e below (T16.setTop (mkF m 96 #[.val (.int p0), .val (.int q), .unset] [(.int (1 : Int32))])) _
            refine XS.goto X16.here hx rfl (pc0 := 96) (pc' := 100) rfl (hb hby d4_96) (by decide) (by decide) ?_
            show Steps p.tables e below (T16.setTop (mkF m 100 #[.val (.int p0), .val (.int q), .unset] [(.int (1 : Int32))])) _
            exact k
        · refine ⟨T15, _, X15, eh15, N15, fun target k => ?_⟩
          have hj : (if (¬ (p0 < (1 : Int32) ∨ (8 : Int32) < p0) ∨ ¬ (p0 < (11 : Int32) ∨ (12 : Int32) < p0) ∨ ¬ (p0 < (14 : Int32) ∨ (31 : Int32) < p0) ∨ ¬ (p0 < (127 : Int32) ∨ (132 : Int32) < p0) ∨ ¬ (p0 < (134 : Int32) ∨ (159 : Int32) < p0)) then (1 : Int32) else (0 : Int32)) = (1 : Int32) := by simp [h1, h2, h3, h4]
          rw [hj] at k
          show Steps p.tables e below (T.setTop (mkF m 38 #[.val (.int p0), .val (.int q), .unset] [])) _
          refine XS.iloadN X.here hx rfl (hb hby d4_38) rfl ?_
          show Steps p.tables e below (T.setTop (mkF m 39 #[.val (.int p0), .val (.int q), .unset] [(.int p0)])) _
          refine XS.iconst X.here hx rfl (hb hby d4_39) ?_
          show Steps p.tables e below (T.setTop (mkF m 40 #[.val (.int p0), .val (.int q), .unset] [(.int (1 : Int32)), (.int p0)])) _
          refine XS.bipush X.here hx rfl (hb hby d4_40) ?_
          show Steps p.tables e below (T.setTop (mkF m 42 #[.val (.int p0), .val (.int q), .unset] [(.int (8 : Int32)), (.int (1 : Int32)), (.int p0)])) _
          refine st12 _ ?_
          show Steps p.tables e below (T12.setTop (mkF m 45 #[.val (.int p0), .val (.int q), .unset] [(.int (if (p0 < (1 : Int32) ∨ (8 : Int32) < p0) then (0 : Int32) else (1 : Int32)))])) _
          rw [if_pos h1]
          show Steps p.tables e below (T12.setTop (mkF m 45 #[.val (.int p0), .val (.int q), .unset] [(.int (0 : Int32))])) _
          refine XS.ifNo X12.here hx rfl (hb hby d4_45) rfl (XT.i0_ne_f (by decide)) ?_
          show Steps p.tables e below (T12.setTop (mkF m 48 #[.val (.int p0), .val (.int q), .unset] [])) _
          refine XS.iloadN X12.here hx rfl (hb hby d4_48) rfl ?_
          show Steps p.tables e below (T12.setTop (mkF m 49 #[.val (.int p0), .val (.int q), .unset] [(.int p0)])) _
          refine XS.bipush X12.here hx rfl (hb hby d4_49) ?_
          show Steps p.tables e below (T12.setTop (mkF m 51 #[.val (.int p0), .val (.int q), .unset] [(.int (11 : Int32)), (.int p0)])) _
          refine XS.bipush X12.here hx rfl (hb hby d4_51) ?_
          show Steps p.tables e below (T12.setTop (mkF m 53 #[.val (.int p0), .val (.int q), .unset] [(.int (12 : Int32)), (.int (11 : Int32)), (.int p0)])) _
          refine st13 _ ?_
          show Steps p.tables e below (T13.setTop (mkF m 56 #[.val (.int p0), .val (.int q), .unset] [(.int (if (p0 < (11 : Int32) ∨ (12 : Int32) < p0) then (0 : Int32) else (1 : Int32)))])) _
          rw [if_pos h2]
          show Steps p.tables e below (T13.setTop (mkF m 56 #[.val (.int p0), .val (.int q), .unset] [(.int (0 : Int32))])) _
          refine XS.ifNo X13.here hx rfl (hb hby d4_56) rfl (XT.i0_ne_f (by decide)) ?_
          show Steps p.tables e below (T13.setTop (mkF m 59 #[.val (.int p0), .val (.int q), .unset] [])) _
          refine XS.iloadN X13.here hx rfl (hb hby d4_59) rfl ?_
          show Steps p.tables e below (T13.setTop (mkF m 60 #[.val (.int p0), .val (.int q), .unset] [(.int p0)])) _
          refine XS.bipush X13.here hx rfl (hb hby d4_60) ?_
          show Steps p.tables e below (T13.setTop (mkF m 62 #[.val (.int p0), .val (.int q), .unset] [(.int (14 : Int32)), (.int p0)])) _
          refine XS.bipush X13.here hx rfl (hb hby d4_62) ?_
          show Steps p.tables e below (T13.setTop (mkF m 64 #[.val (.int p0), .val (.int q), .unset] [(.int (31 : Int32)), (.int (14 : Int32)), (.int p0)])) _
          refine st14 _ ?_
          show Steps p.tables e below (T14.setTop (mkF m 67 #[.val (.int p0), .val (.int q), .unset] [(.int (if (p0 < (14 : Int32) ∨ (31 : Int32) < p0) then (0 : Int32) else (1 : Int32)))])) _
          rw [if_pos h3]
          show Steps p.tables e below (T14.setTop (mkF m 67 #[.val (.int p0), .val (.int q), .unset] [(.int (0 : Int32))])) _
          refine XS.ifNo X14.here hx rfl (hb hby d4_67) rfl (XT.i0_ne_f (by decide)) ?_
          show Steps p.tables e below (T14.setTop (mkF m 70 #[.val (.int p0), .val (.int q), .unset] [])) _
          refine XS.iloadN X14.here hx rfl (hb hby d4_70) rfl ?_
          show Steps p.tables e below (T14.setTop (mkF m 71 #[.val (.int p0), .val (.int q), .unset] [(.int p0)])) _
          refine XS.bipush X14.here hx rfl (hb hby d4_71) ?_
          show Steps p.tables e below (T14.setTop (mkF m 73 #[.val (.int p0), .val (.int q), .unset] [(.int (127 : Int32)), (.int p0)])) _
          refine XS.sipush X14.here hx rfl (hb hby d4_73) ?_
          show Steps p.tables e below (T14.setTop (mkF m 76 #[.val (.int p0), .val (.int q), .unset] [(.int (132 : Int32)), (.int (127 : Int32)), (.int p0)])) _
          refine st15 _ ?_
          show Steps p.tables e below (T15.setTop (mkF m 79 #[.val (.int p0), .val (.int q), .unset] [(.int (if (p0 < (127 : Int32) ∨ (132 : Int32) < p0) then (0 : Int32) else (1 : Int32)))])) _
          rw [if_neg h4]
          show Steps p.tables e below (T15.setTop (mkF m 79 #[.val (.int p0), .val (.int q), .unset] [(.int (1 : Int32))])) _
          refine XS.ifYes X15.here hx rfl (pc0 := 79) (pc' := 95) rfl (hb hby d4_79) rfl (XT.i0_ne_t (by decide)) (by decide) (by decide) ?_
          show Steps p.tables e below (T15.setTop (mkF m 95 #[.val (.int p0), .val (.int q), .unset] [])) _
          refine XS.iconst X15.here hx rfl (hb hby d4_95) ?_
          show Steps p.tables e below (T15.setTop (mkF m 96 #[.val (.int p0), .val (.int q), .unset] [(.int (1 : Int32))])) _
          refine XS.goto X15.here hx rfl (pc0 := 96) (pc' := 100) rfl (hb hby d4_96) (by decide) (by decide) ?_
          show Steps p.tables e below (T15.setTop (mkF m 100 #[.val (.int p0), .val (.int q), .unset] [(.int (1 : Int32))])) _
          exact k
      · refine ⟨T14, _, X14, eh14, N14, fun target k => ?_⟩
        have hj : (if (¬ (p0 < (1 : Int32) ∨ (8 : Int32) < p0) ∨ ¬ (p0 < (11 : Int32) ∨ (12 : Int32) < p0) ∨ ¬ (p0 < (14 : Int32) ∨ (31 : Int32) < p0) ∨ ¬ (p0 < (127 : Int32) ∨ (132 : Int32) < p0) ∨ ¬ (p0 < (134 : Int32) ∨ (159 : Int32) < p0)) then (1 : Int32) else (0 : Int32)) = (1 : Int32) := by simp [h1, h2, h3]
        rw [hj] at k
        show Steps p.tables e below (T.setTop (mkF m 38 #[.val (.int p0), .val (.int q), .unset] [])) _
        refine XS.iloadN X.here hx rfl (hb hby d4_38) rfl ?_
        show Steps p.tables e below (T.setTop (mkF m 39 #[.val (.int p0), .val (.int q), .unset] [(.int p0)])) _
        refine XS.iconst X.here hx rfl (hb hby d4_39) ?_
        show Steps p.tables e below (T.setTop (mkF m 40 #[.val (.int p0), .val (.int q), .unset] [(.int (1 : Int32)), (.int p0)])) _
        refine XS.bipush X.here hx rfl (hb hby d4_40) ?_
        show Steps p.tables e below (T.setTop (mkF m 42 #[.val (.int p0), .val (.int q), .unset] [(.int (8 : Int32)), (.int (1 : Int32)), (.int p0)])) _
        refine st12 _ ?_
        show Steps p.tables e below (T12.setTop (mkF m 45 #[.val (.int p0), .val (.int q), .unset] [(.int (if (p0 < (1 : Int32) ∨ (8 : Int32) < p0) then (0 : Int32) else (1 : Int32)))])) _
        rw [if_pos h1]
        show Steps p.tables e below (T12.setTop (mkF m 45 #[.val (.int p0), .val (.int q), .unset] [(.int (0 : Int32))])) _
        refine XS.ifNo X12.here hx rfl (hb hby d4_45) rfl (XT.i0_ne_f (by decide)) ?_
        show Steps p.tables e below (T12.setTop (mkF m 48 #[.val (.int p0), .val (.int q), .unset] [])) _
        refine XS.iloadN X12.here hx rfl (hb hby d4_48) rfl ?_
        show Steps p.tables e below (T12.setTop (mkF m 49 #[.val (.int p0), .val (.int q), .unset] [(.int p0)])) _
        refine XS.bipush X12.here hx rfl (hb hby d4_49) ?_
        show Steps p.tables e below (T12.setTop (mkF m 51 #[.val (.int p0), .val (.int q), .unset] [(.int (11 : Int32)), (.int p0)])) _
        refine XS.bipush X12.here hx rfl (hb hby d4_51) ?_
        show Steps p.tables e below (T12.setTop (mkF m 53 #[.val (.int p0), .val (.int q), .unset] [(.int (12 : Int32)), (.int (11 : Int32)), (.int p0)])) _
        refine st13 _ ?_
        show Steps p.tables e below (T13.setTop (mkF m 56 #[.val (.int p0), .val (.int q), .unset] [(.int (if (p0 < (11 : Int32) ∨ (12 : Int32) < p0) then (0 : Int32) else (1 : Int32)))])) _
        rw [if_pos h2]
        show Steps p.tables e below (T13.setTop (mkF m 56 #[.val (.int p0), .val (.int q), .unset] [(.int (0 : Int32))])) _
        refine XS.ifNo X13.here hx rfl (hb hby d4_56) rfl (XT.i0_ne_f (by decide)) ?_
        show Steps p.tables e below (T13.setTop (mkF m 59 #[.val (.int p0), .val (.int q), .unset] [])) _
        refine XS.iloadN X13.here hx rfl (hb hby d4_59) rfl ?_
        show Steps p.tables e below (T13.setTop (mkF m 60 #[.val (.int p0), .val (.int q), .unset] [(.int p0)])) _
        refine XS.bipush X13.here hx rfl (hb hby d4_60) ?_
        show Steps p.tables e below (T13.setTop (mkF m 62 #[.val (.int p0), .val (.int q), .unset] [(.int (14 : Int32)), (.int p0)])) _
        refine XS.bipush X13.here hx rfl (hb hby d4_62) ?_
        show Steps p.tables e below (T13.setTop (mkF m 64 #[.val (.int p0), .val (.int q), .unset] [(.int (31 : Int32)), (.int (14 : Int32)), (.int p0)])) _
        refine st14 _ ?_
        show Steps p.tables e below (T14.setTop (mkF m 67 #[.val (.int p0), .val (.int q), .unset] [(.int (if (p0 < (14 : Int32) ∨ (31 : Int32) < p0) then (0 : Int32) else (1 : Int32)))])) _
        rw [if_neg h3]
        show Steps p.tables e below (T14.setTop (mkF m 67 #[.val (.int p0), .val (.int q), .unset] [(.int (1 : Int32))])) _
        refine XS.ifYes X14.here hx rfl (pc0 := 67) (pc' := 95) rfl (hb hby d4_67) rfl (XT.i0_ne_t (by decide)) (by decide) (by decide) ?_
        show Steps p.tables e below (T14.setTop (mkF m 95 #[.val (.int p0), .val (.int q), .unset] [])) _
        refine XS.iconst X14.here hx rfl (hb hby d4_95) ?_
        show Steps p.tables e below (T14.setTop (mkF m 96 #[.val (.int p0), .val (.int q), .unset] [(.int (1 : Int32))])) _
        refine XS.goto X14.here hx rfl (pc0 := 96) (pc' := 100) rfl (hb hby d4_96) (by decide) (by decide) ?_
        show Steps p.tables e below (T14.setTop (mkF m 100 #[.val (.int p0), .val (.int q), .unset] [(.int (1 : Int32))])) _
        exact k
    · refine ⟨T13, _, X13, eh13, N13, fun target k => ?_⟩
      have hj : (if (¬ (p0 < (1 : Int32) ∨ (8 : Int32) < p0) ∨ ¬ (p0 < (11 : Int32) ∨ (12 : Int32) < p0) ∨ ¬ (p0 < (14 : Int32) ∨ (31 : Int32) < p0) ∨ ¬ (p0 < (127 : Int32) ∨ (132 : Int32) < p0) ∨ ¬ (p0 < (134 : Int32) ∨ (159 : Int32) < p0)) then (1 : Int32) else (0 : Int32)) = (1 : Int32) := by simp [h1, h2]
      rw [hj] at k
      show Steps p.tables e below (T.setTop (mkF m 38 #[.val (.int p0), .val (.int q), .unset] [])) _
      refine XS.iloadN X.here hx rfl (hb hby d4_38) rfl ?_
      show Steps p.tables e below (T.setTop (mkF m 39 #[.val (.int p0), .val (.int q), .unset] [(.int p0)])) _
      refine XS.iconst X.here hx rfl (hb hby d4_39) ?_
      show Steps p.tables e below (T.setTop (mkF m 40 #[.val (.int p0), .val (.int q), .unset] [(.int (1 : Int32)), (.int p0)])) _
      refine XS.bipush X.here hx rfl (hb hby d4_40) ?_
      show Steps p.tables e below (T.setTop (mkF m 42 #[.val (.int p0), .val (.int q), .unset] [(.int (8 : Int32)), (.int (1 : Int32)), (.int p0)])) _
      refine st12 _ ?_
      show Steps p.tables e below (T12.setTop (mkF m 45 #[.val (.int p0), .val (.int q), .unset] [(.int (if (p0 < (1 : Int32) ∨ (8 : Int32) < p0) then (0 : Int32) else (1 : Int32)))])) _
      rw [if_pos h1]
      show Steps p.tables e below (T12.setTop (mkF m 45 #[.val (.int p0), .val (.int q), .unset] [(.int (0 : Int32))])) _
      refine XS.ifNo X12.here hx rfl (hb hby d4_45) rfl (XT.i0_ne_f (by decide)) ?_
      show Steps p.tables e below (T12.setTop (mkF m 48 #[.val (.int p0), .val (.int q), .unset] [])) _
      refine XS.iloadN X12.here hx rfl (hb hby d4_48) rfl ?_
      show Steps p.tables e below (T12.setTop (mkF m 49 #[.val (.int p0), .val (.int q), .unset] [(.int p0)])) _
      refine XS.bipush X12.here hx rfl (hb hby d4_49) ?_
      show Steps p.tables e below (T12.setTop (mkF m 51 #[.val (.int p0), .val (.int q), .unset] [(.int (11 : Int32)), (.int p0)])) _
      refine XS.bipush X12.here hx rfl (hb hby d4_51) ?_
      show Steps p.tables e below (T12.setTop (mkF m 53 #[.val (.int p0), .val (.int q), .unset] [(.int (12 : Int32)), (.int (11 : Int32)), (.int p0)])) _
      refine st13 _ ?_
      show Steps p.tables e below (T13.setTop (mkF m 56 #[.val (.int p0), .val (.int q), .unset] [(.int (if (p0 < (11 : Int32) ∨ (12 : Int32) < p0) then (0 : Int32) else (1 : Int32)))])) _
      rw [if_neg h2]
      show Steps p.tables e below (T13.setTop (mkF m 56 #[.val (.int p0), .val (.int q), .unset] [(.int (1 : Int32))])) _
      refine XS.ifYes X13.here hx rfl (pc0 := 56) (pc' := 95) rfl (hb hby d4_56) rfl (XT.i0_ne_t (by decide)) (by decide) (by decide) ?_
      show Steps p.tables e below (T13.setTop (mkF m 95 #[.val (.int p0), .val (.int q), .unset] [])) _
      refine XS.iconst X13.here hx rfl (hb hby d4_95) ?_
      show Steps p.tables e below (T13.setTop (mkF m 96 #[.val (.int p0), .val (.int q), .unset] [(.int (1 : Int32))])) _
      refine XS.goto X13.here hx rfl (pc0 := 96) (pc' := 100) rfl (hb hby d4_96) (by decide) (by decide) ?_
      show Steps p.tables e below (T13.setTop (mkF m 100 #[.val (.int p0), .val (.int q), .unset] [(.int (1 : Int32))])) _
      exact k
  · refine ⟨T12, _, X12, eh12, N12, fun target k => ?_⟩
    have hj : (if (¬ (p0 < (1 : Int32) ∨ (8 : Int32) < p0) ∨ ¬ (p0 < (11 : Int32) ∨ (12 : Int32) < p0) ∨ ¬ (p0 < (14 : Int32) ∨ (31 : Int32) < p0) ∨ ¬ (p0 < (127 : Int32) ∨ (132 : Int32) < p0) ∨ ¬ (p0 < (134 : Int32) ∨ (159 : Int32) < p0)) then (1 : Int32) else (0 : Int32)) = (1 : Int32) := by simp [h1]
    rw [hj] at k
    show Steps p.tables e below (T.setTop (mkF m 38 #[.val (.int p0), .val (.int q), .unset] [])) _
    refine XS.iloadN X.here hx rfl (hb hby d4_38) rfl ?_
    show Steps p.tables e below (T.setTop (mkF m 39 #[.val (.int p0), .val (.int q), .unset] [(.int p0)])) _
    refine XS.iconst X.here hx rfl (hb hby d4_39) ?_
    show Steps p.tables e below (T.setTop (mkF m 40 #[.val (.int p0), .val (.int q), .unset] [(.int (1 : Int32)), (.int p0)])) _
    refine XS.bipush X.here hx rfl (hb hby d4_40) ?_
    show Steps p.tables e below (T.setTop (mkF m 42 #[.val (.int p0), .val (.int q), .unset] [(.int (8 : Int32)), (.int (1 : Int32)), (.int p0)])) _
    refine st12 _ ?_
    show Steps p.tables e below (T12.setTop (mkF m 45 #[.val (.int p0), .val (.int q), .unset] [(.int (if (p0 < (1 : Int32) ∨ (8 : Int32) < p0) then (0 : Int32) else (1 : Int32)))])) _
    rw [if_neg h1]
    show Steps p.tables e below (T12.setTop (mkF m 45 #[.val (.int p0), .val (.int q), .unset] [(.int (1 : Int32))])) _
    refine XS.ifYes X12.here hx rfl (pc0 := 45) (pc' := 95) rfl (hb hby d4_45) rfl (XT.i0_ne_t (by decide)) (by decide) (by decide) ?_
    show Steps p.tables e below (T12.setTop (mkF m 95 #[.val (.int p0), .val (.int q), .unset] [])) _
    refine XS.iconst X12.here hx rfl (hb hby d4_95) ?_
    show Steps p.tables e below (T12.setTop (mkF m 96 #[.val (.int p0), .val (.int q), .unset] [(.int (1 : Int32))])) _
    refine XS.goto X12.here hx rfl (pc0 := 96) (pc' := 100) rfl (hb hby d4_96) (by decide) (by decide) ?_
    show Steps p.tables e below (T12.setTop (mkF m 100 #[.val (.int p0), .val (.int q), .unset] [(.int (1 : Int32))])) _
    exact k
theorem ef_own_e11 (m : MethodId) (x0 : Int32) : entryFrame m #[(.int x0)] 3 = mkF m 0 #[.val (.int x0), .unset, .unset] [] := by first | (simp [entryFrame, mkF, argsToLocals, Value.category]; done) | rfl
def Q_own_e11 (Z : State) (p0 : Int32)  (h0 : Heap) (n0 : Nat) (v : Option Value) (h : Heap) (L : List Loc) : Prop := v = some (.int (if ((¬ (p0 < (1 : Int32) ∨ (55295 : Int32) < p0) ∨ ¬ (p0 < (57344 : Int32) ∨ (65533 : Int32) < p0) ∨ ¬ (p0 < (65536 : Int32) ∨ (1114111 : Int32) < p0)) ∧ ¬ (¬ (p0 < (1 : Int32) ∨ (8 : Int32) < p0) ∨ ¬ (p0 < (11 : Int32) ∨ (12 : Int32) < p0) ∨ ¬ (p0 < (14 : Int32) ∨ (31 : Int32) < p0) ∨ ¬ (p0 < (127 : Int32) ∨ (132 : Int32) < p0) ∨ ¬ (p0 < (134 : Int32) ∨ (159 : Int32) < p0))) then (1 : Int32) else (0 : Int32))) ∧ Fr n0 L ∧ h = h0
set_option maxRecDepth 65536 in
set_option maxHeartbeats 40000000 in
theorem own_e11 (l : Launch) (Z : State) (a0 : Array Value) (hw : ∀ d ∈ tables_1, d.before a0 Z = true) (ws : List Jvm.Cond) (p0 : Int32)  (h0 : Heap) (n0 : Nat) (Z0 : n0 ≤ h0.size)  :
    MetFree l (⟨"com/example/xml_element_search/xmlelementsearch/VersionAllowsPinLaw", "expected11", "(I)Z"⟩ : MethodName) (head1 (Jvm.Cond.code (⟨"com/example/xml_element_search/xmlelementsearch/VersionAllowsPinLaw", "expected11", "(I)Z"⟩ : MethodName) method_4_code 3 (some .boolean) :: ws) ({ frames := 1, cells := 0, slots := 0, locals := 14 } : Room)) (fun a U => a = #[(.int p0)] ∧ Z.Warmed39 U.vm ∧ U.heap = h0) (fun _ _ _ _ _ => True) (fun _ U o U' => ∃ v L, o = .returned v ∧ Q_own_e11 Z p0  h0 n0 v U'.heap L ∧ FrameEnd U o U' L ({ frames := 1, cells := 0, slots := 0, locals := 14 } : Room).cells ({ frames := 1, cells := 0, slots := 0, locals := 14 } : Room).slots) := by
  refine MetFree.of_bodySF (plainFor_of_name pn_own_e11) hisR ?_
  intro p e s m args below meth c s₁ Bd hml0 hP hK
  obtain ⟨rfl, hZ, hh⟩ := hP
  have hx := Bd.exec
  have hby := Bd.bytes
  have hml : c.maxLocals = 3 := hml0
  have hown : s.vm.findClass "com/example/xml_element_search/xmlelementsearch/VersionAllowsPinLaw" = some m.cls := findClass_of_methodNamed Bd.named
  have hnm := (name_of_methodNamed Bd.named Bd.method).1
  have X0 : Stand p l e ({ frames := 1, cells := 0, slots := 0, locals := 14 } : Room) s m #[(.int p0)] below meth c s₁ [] 0 0 := Stand.of_body Bd
  have e0 : s₁.heap = h0 := by rw [← hh, Bd.state]; rfl
  have N0 := Fr.nil n0
  have pre0 : ∀ t, Steps p.tables e below (s₁.setTop (mkF m 0 #[.val (.int p0), .unset, .unset] [])) t → Steps p.tables e below (s₁.setTop (entryFrame m #[(.int p0)] 3)) t := fun t k => castTop (ef_own_e11 m (p0)) k
  obtain ⟨T17, L17, X17, e17, N17, st17⟩ := own_sa hw X0 hx hZ hby hml hown e0 N0 Z0 p0
  by_cases hC : (¬ (p0 < (1 : Int32) ∨ (55295 : Int32) < p0) ∨ ¬ (p0 < (57344 : Int32) ∨ (65533 : Int32) < p0) ∨ ¬ (p0 < (65536 : Int32) ∨ (1114111 : Int32) < p0))
  · obtain ⟨T18, L18, X18, e18, N18, st18⟩ := own_sb hw X17 hx hZ hby hml hown e17 N17 Z0 p0 (1 : Int32)
    by_cases hR : (¬ (p0 < (1 : Int32) ∨ (8 : Int32) < p0) ∨ ¬ (p0 < (11 : Int32) ∨ (12 : Int32) < p0) ∨ ¬ (p0 < (14 : Int32) ∨ (31 : Int32) < p0) ∨ ¬ (p0 < (127 : Int32) ∨ (132 : Int32) < p0) ∨ ¬ (p0 < (134 : Int32) ∨ (159 : Int32) < p0))
    · obtain ⟨fs, hr, hrun, hended, hW, hsame⟩ := X18.leave (v := some (.int (0 : Int32))) (fun h => by rw [Bd.returns] at h; cases h)
      refine ⟨_, _, pre0 _ ?_, hrun, hended, _, _, rfl, ?_, ⟨_, rfl⟩, hW, hsame.mono (by decide) (by decide)⟩
      · show Steps p.tables e below (s₁.setTop (mkF m 0 #[.val (.int p0), .unset, .unset] [])) _
        refine st17 _ ?_
        show Steps p.tables e below (T17.setTop (mkF m 37 #[.val (.int p0), .unset, .unset] [(.int (if (¬ (p0 < (1 : Int32) ∨ (55295 : Int32) < p0) ∨ ¬ (p0 < (57344 : Int32) ∨ (65533 : Int32) < p0) ∨ ¬ (p0 < (65536 : Int32) ∨ (1114111 : Int32) < p0)) then (1 : Int32) else (0 : Int32)))])) _
        rw [if_pos hC]
        show Steps p.tables e below (T17.setTop (mkF m 37 #[.val (.int p0), .unset, .unset] [(.int (1 : Int32))])) _
        refine XS.istoreN X17.here hx rfl (hb hby d4_37) rfl (l' := #[.val (.int p0), .val (.int (1 : Int32)), .unset]) rfl ?_
        show Steps p.tables e below (T17.setTop (mkF m 38 #[.val (.int p0), .val (.int (1 : Int32)), .unset] [])) _
        refine st18 _ ?_
        show Steps p.tables e below (T18.setTop (mkF m 100 #[.val (.int p0), .val (.int (1 : Int32)), .unset] [(.int (if (¬ (p0 < (1 : Int32) ∨ (8 : Int32) < p0) ∨ ¬ (p0 < (11 : Int32) ∨ (12 : Int32) < p0) ∨ ¬ (p0 < (14 : Int32) ∨ (31 : Int32) < p0) ∨ ¬ (p0 < (127 : Int32) ∨ (132 : Int32) < p0) ∨ ¬ (p0 < (134 : Int32) ∨ (159 : Int32) < p0)) then (1 : Int32) else (0 : Int32)))])) _
        rw [if_pos hR]
        show Steps p.tables e below (T18.setTop (mkF m 100 #[.val (.int p0), .val (.int (1 : Int32)), .unset] [(.int (1 : Int32))])) _
        refine XS.istoreN X18.here hx rfl (hb hby d4_100) rfl (l' := #[.val (.int p0), .val (.int (1 : Int32)), .val (.int (1 : Int32))]) rfl ?_
        show Steps p.tables e below (T18.setTop (mkF m 101 #[.val (.int p0), .val (.int (1 : Int32)), .val (.int (1 : Int32))] [])) _
        refine XS.iloadN X18.here hx rfl (hb hby d4_101) rfl ?_
        show Steps p.tables e below (T18.setTop (mkF m 102 #[.val (.int p0), .val (.int (1 : Int32)), .val (.int (1 : Int32))] [(.int (1 : Int32))])) _
        refine XS.ifNo X18.here hx rfl (hb hby d4_102) rfl (XT.i0_eq_f (by decide)) ?_
        show Steps p.tables e below (T18.setTop (mkF m 105 #[.val (.int p0), .val (.int (1 : Int32)), .val (.int (1 : Int32))] [])) _
        refine XS.iloadN X18.here hx rfl (hb hby d4_105) rfl ?_
        show Steps p.tables e below (T18.setTop (mkF m 106 #[.val (.int p0), .val (.int (1 : Int32)), .val (.int (1 : Int32))] [(.int (1 : Int32))])) _
        refine XS.ifYes X18.here hx rfl (pc0 := 106) (pc' := 113) rfl (hb hby d4_106) rfl (XT.i0_ne_t (by decide)) (by decide) (by decide) ?_
        show Steps p.tables e below (T18.setTop (mkF m 113 #[.val (.int p0), .val (.int (1 : Int32)), .val (.int (1 : Int32))] [])) _
        refine XS.iconst X18.here hx rfl (hb hby d4_113) ?_
        show Steps p.tables e below (T18.setTop (mkF m 114 #[.val (.int p0), .val (.int (1 : Int32)), .val (.int (1 : Int32))] [(.int (0 : Int32))])) _
        exact retN X18 hx (t := .boolean) Bd.returns (by simp) (hb hby d4_114) hr
      · show Q_own_e11 Z p0  h0 n0 _ T18.heap _
        rw [e18]
        exact ⟨by rw [if_neg (fun q => q.2 hR)], N18, rfl⟩
    · obtain ⟨fs, hr, hrun, hended, hW, hsame⟩ := X18.leave (v := some (.int (1 : Int32))) (fun h => by rw [Bd.returns] at h; cases h)
      refine ⟨_, _, pre0 _ ?_, hrun, hended, _, _, rfl, ?_, ⟨_, rfl⟩, hW, hsame.mono (by decide) (by decide)⟩
      · show Steps p.tables e below (s₁.setTop (mkF m 0 #[.val (.int p0), .unset, .unset] [])) _
        refine st17 _ ?_
        show Steps p.tables e below (T17.setTop (mkF m 37 #[.val (.int p0), .unset, .unset] [(.int (if (¬ (p0 < (1 : Int32) ∨ (55295 : Int32) < p0) ∨ ¬ (p0 < (57344 : Int32) ∨ (65533 : Int32) < p0) ∨ ¬ (p0 < (65536 : Int32) ∨ (1114111 : Int32) < p0)) then (1 : Int32) else (0 : Int32)))])) _
        rw [if_pos hC]
        show Steps p.tables e below (T17.setTop (mkF m 37 #[.val (.int p0), .unset, .unset] [(.int (1 : Int32))])) _
        refine XS.istoreN X17.here hx rfl (hb hby d4_37) rfl (l' := #[.val (.int p0), .val (.int (1 : Int32)), .unset]) rfl ?_
        show Steps p.tables e below (T17.setTop (mkF m 38 #[.val (.int p0), .val (.int (1 : Int32)), .unset] [])) _
        refine st18 _ ?_
        show Steps p.tables e below (T18.setTop (mkF m 100 #[.val (.int p0), .val (.int (1 : Int32)), .unset] [(.int (if (¬ (p0 < (1 : Int32) ∨ (8 : Int32) < p0) ∨ ¬ (p0 < (11 : Int32) ∨ (12 : Int32) < p0) ∨ ¬ (p0 < (14 : Int32) ∨ (31 : Int32) < p0) ∨ ¬ (p0 < (127 : Int32) ∨ (132 : Int32) < p0) ∨ ¬ (p0 < (134 : Int32) ∨ (159 : Int32) < p0)) then (1 : Int32) else (0 : Int32)))])) _
        rw [if_neg hR]
        show Steps p.tables e below (T18.setTop (mkF m 100 #[.val (.int p0), .val (.int (1 : Int32)), .unset] [(.int (0 : Int32))])) _
        refine XS.istoreN X18.here hx rfl (hb hby d4_100) rfl (l' := #[.val (.int p0), .val (.int (1 : Int32)), .val (.int (0 : Int32))]) rfl ?_
        show Steps p.tables e below (T18.setTop (mkF m 101 #[.val (.int p0), .val (.int (1 : Int32)), .val (.int (0 : Int32))] [])) _
        refine XS.iloadN X18.here hx rfl (hb hby d4_101) rfl ?_
        show Steps p.tables e below (T18.setTop (mkF m 102 #[.val (.int p0), .val (.int (1 : Int32)), .val (.int (0 : Int32))] [(.int (1 : Int32))])) _
        refine XS.ifNo X18.here hx rfl (hb hby d4_102) rfl (XT.i0_eq_f (by decide)) ?_
        show Steps p.tables e below (T18.setTop (mkF m 105 #[.val (.int p0), .val (.int (1 : Int32)), .val (.int (0 : Int32))] [])) _
        refine XS.iloadN X18.here hx rfl (hb hby d4_105) rfl ?_
        show Steps p.tables e below (T18.setTop (mkF m 106 #[.val (.int p0), .val (.int (1 : Int32)), .val (.int (0 : Int32))] [(.int (0 : Int32))])) _
        refine XS.ifNo X18.here hx rfl (hb hby d4_106) rfl (XT.i0_ne_f (by decide)) ?_
        show Steps p.tables e below (T18.setTop (mkF m 109 #[.val (.int p0), .val (.int (1 : Int32)), .val (.int (0 : Int32))] [])) _
        refine XS.iconst X18.here hx rfl (hb hby d4_109) ?_
        show Steps p.tables e below (T18.setTop (mkF m 110 #[.val (.int p0), .val (.int (1 : Int32)), .val (.int (0 : Int32))] [(.int (1 : Int32))])) _
        refine XS.goto X18.here hx rfl (pc0 := 110) (pc' := 114) rfl (hb hby d4_110) (by decide) (by decide) ?_
        show Steps p.tables e below (T18.setTop (mkF m 114 #[.val (.int p0), .val (.int (1 : Int32)), .val (.int (0 : Int32))] [(.int (1 : Int32))])) _
        exact retN X18 hx (t := .boolean) Bd.returns (by simp) (hb hby d4_114) hr
      · show Q_own_e11 Z p0  h0 n0 _ T18.heap _
        rw [e18]
        exact ⟨by rw [if_pos ⟨hC, hR⟩], N18, rfl⟩
  · obtain ⟨T19, L19, X19, e19, N19, st19⟩ := own_sb hw X17 hx hZ hby hml hown e17 N17 Z0 p0 (0 : Int32)
    by_cases hR : (¬ (p0 < (1 : Int32) ∨ (8 : Int32) < p0) ∨ ¬ (p0 < (11 : Int32) ∨ (12 : Int32) < p0) ∨ ¬ (p0 < (14 : Int32) ∨ (31 : Int32) < p0) ∨ ¬ (p0 < (127 : Int32) ∨ (132 : Int32) < p0) ∨ ¬ (p0 < (134 : Int32) ∨ (159 : Int32) < p0))
    · obtain ⟨fs, hr, hrun, hended, hW, hsame⟩ := X19.leave (v := some (.int (0 : Int32))) (fun h => by rw [Bd.returns] at h; cases h)
      refine ⟨_, _, pre0 _ ?_, hrun, hended, _, _, rfl, ?_, ⟨_, rfl⟩, hW, hsame.mono (by decide) (by decide)⟩
      · show Steps p.tables e below (s₁.setTop (mkF m 0 #[.val (.int p0), .unset, .unset] [])) _
        refine st17 _ ?_
        show Steps p.tables e below (T17.setTop (mkF m 37 #[.val (.int p0), .unset, .unset] [(.int (if (¬ (p0 < (1 : Int32) ∨ (55295 : Int32) < p0) ∨ ¬ (p0 < (57344 : Int32) ∨ (65533 : Int32) < p0) ∨ ¬ (p0 < (65536 : Int32) ∨ (1114111 : Int32) < p0)) then (1 : Int32) else (0 : Int32)))])) _
        rw [if_neg hC]
        show Steps p.tables e below (T17.setTop (mkF m 37 #[.val (.int p0), .unset, .unset] [(.int (0 : Int32))])) _
        refine XS.istoreN X17.here hx rfl (hb hby d4_37) rfl (l' := #[.val (.int p0), .val (.int (0 : Int32)), .unset]) rfl ?_
        show Steps p.tables e below (T17.setTop (mkF m 38 #[.val (.int p0), .val (.int (0 : Int32)), .unset] [])) _
        refine st19 _ ?_
        show Steps p.tables e below (T19.setTop (mkF m 100 #[.val (.int p0), .val (.int (0 : Int32)), .unset] [(.int (if (¬ (p0 < (1 : Int32) ∨ (8 : Int32) < p0) ∨ ¬ (p0 < (11 : Int32) ∨ (12 : Int32) < p0) ∨ ¬ (p0 < (14 : Int32) ∨ (31 : Int32) < p0) ∨ ¬ (p0 < (127 : Int32) ∨ (132 : Int32) < p0) ∨ ¬ (p0 < (134 : Int32) ∨ (159 : Int32) < p0)) then (1 : Int32) else (0 : Int32)))])) _
        rw [if_pos hR]
        show Steps p.tables e below (T19.setTop (mkF m 100 #[.val (.int p0), .val (.int (0 : Int32)), .unset] [(.int (1 : Int32))])) _
        refine XS.istoreN X19.here hx rfl (hb hby d4_100) rfl (l' := #[.val (.int p0), .val (.int (0 : Int32)), .val (.int (1 : Int32))]) rfl ?_
        show Steps p.tables e below (T19.setTop (mkF m 101 #[.val (.int p0), .val (.int (0 : Int32)), .val (.int (1 : Int32))] [])) _
        refine XS.iloadN X19.here hx rfl (hb hby d4_101) rfl ?_
        show Steps p.tables e below (T19.setTop (mkF m 102 #[.val (.int p0), .val (.int (0 : Int32)), .val (.int (1 : Int32))] [(.int (0 : Int32))])) _
        refine XS.ifYes X19.here hx rfl (pc0 := 102) (pc' := 113) rfl (hb hby d4_102) rfl (XT.i0_eq_t (by decide)) (by decide) (by decide) ?_
        show Steps p.tables e below (T19.setTop (mkF m 113 #[.val (.int p0), .val (.int (0 : Int32)), .val (.int (1 : Int32))] [])) _
        refine XS.iconst X19.here hx rfl (hb hby d4_113) ?_
        show Steps p.tables e below (T19.setTop (mkF m 114 #[.val (.int p0), .val (.int (0 : Int32)), .val (.int (1 : Int32))] [(.int (0 : Int32))])) _
        exact retN X19 hx (t := .boolean) Bd.returns (by simp) (hb hby d4_114) hr
      · show Q_own_e11 Z p0  h0 n0 _ T19.heap _
        rw [e19]
        exact ⟨by rw [if_neg (fun q => hC q.1)], N19, rfl⟩
    · obtain ⟨fs, hr, hrun, hended, hW, hsame⟩ := X19.leave (v := some (.int (0 : Int32))) (fun h => by rw [Bd.returns] at h; cases h)
      refine ⟨_, _, pre0 _ ?_, hrun, hended, _, _, rfl, ?_, ⟨_, rfl⟩, hW, hsame.mono (by decide) (by decide)⟩
      · show Steps p.tables e below (s₁.setTop (mkF m 0 #[.val (.int p0), .unset, .unset] [])) _
        refine st17 _ ?_
        show Steps p.tables e below (T17.setTop (mkF m 37 #[.val (.int p0), .unset, .unset] [(.int (if (¬ (p0 < (1 : Int32) ∨ (55295 : Int32) < p0) ∨ ¬ (p0 < (57344 : Int32) ∨ (65533 : Int32) < p0) ∨ ¬ (p0 < (65536 : Int32) ∨ (1114111 : Int32) < p0)) then (1 : Int32) else (0 : Int32)))])) _
        rw [if_neg hC]
        show Steps p.tables e below (T17.setTop (mkF m 37 #[.val (.int p0), .unset, .unset] [(.int (0 : Int32))])) _
        refine XS.istoreN X17.here hx rfl (hb hby d4_37) rfl (l' := #[.val (.int p0), .val (.int (0 : Int32)), .unset]) rfl ?_
        show Steps p.tables e below (T17.setTop (mkF m 38 #[.val (.int p0), .val (.int (0 : Int32)), .unset] [])) _
        refine st19 _ ?_
        show Steps p.tables e below (T19.setTop (mkF m 100 #[.val (.int p0), .val (.int (0 : Int32)), .unset] [(.int (if (¬ (p0 < (1 : Int32) ∨ (8 : Int32) < p0) ∨ ¬ (p0 < (11 : Int32) ∨ (12 : Int32) < p0) ∨ ¬ (p0 < (14 : Int32) ∨ (31 : Int32) < p0) ∨ ¬ (p0 < (127 : Int32) ∨ (132 : Int32) < p0) ∨ ¬ (p0 < (134 : Int32) ∨ (159 : Int32) < p0)) then (1 : Int32) else (0 : Int32)))])) _
        rw [if_neg hR]
        show Steps p.tables e below (T19.setTop (mkF m 100 #[.val (.int p0), .val (.int (0 : Int32)), .unset] [(.int (0 : Int32))])) _
        refine XS.istoreN X19.here hx rfl (hb hby d4_100) rfl (l' := #[.val (.int p0), .val (.int (0 : Int32)), .val (.int (0 : Int32))]) rfl ?_
        show Steps p.tables e below (T19.setTop (mkF m 101 #[.val (.int p0), .val (.int (0 : Int32)), .val (.int (0 : Int32))] [])) _
        refine XS.iloadN X19.here hx rfl (hb hby d4_101) rfl ?_
        show Steps p.tables e below (T19.setTop (mkF m 102 #[.val (.int p0), .val (.int (0 : Int32)), .val (.int (0 : Int32))] [(.int (0 : Int32))])) _
        refine XS.ifYes X19.here hx rfl (pc0 := 102) (pc' := 113) rfl (hb hby d4_102) rfl (XT.i0_eq_t (by decide)) (by decide) (by decide) ?_
        show Steps p.tables e below (T19.setTop (mkF m 113 #[.val (.int p0), .val (.int (0 : Int32)), .val (.int (0 : Int32))] [])) _
        refine XS.iconst X19.here hx rfl (hb hby d4_113) ?_
        show Steps p.tables e below (T19.setTop (mkF m 114 #[.val (.int p0), .val (.int (0 : Int32)), .val (.int (0 : Int32))] [(.int (0 : Int32))])) _
        exact retN X19 hx (t := .boolean) Bd.returns (by simp) (hb hby d4_114) hr
      · show Q_own_e11 Z p0  h0 n0 _ T19.heap _
        rw [e19]
        exact ⟨by rw [if_neg (fun q => hC q.1)], N19, rfl⟩
theorem d1_0 : decode prog_67_method_4_code 0 = .ok (.iload_n 1, 1) := by decide +kernel
theorem d1_1 : decode prog_67_method_4_code 1 = .ok (.bipush 9, 2) := by decide +kernel
theorem d1_3 : decode prog_67_method_4_code 3 = .ok (.if_icmp .eq 51, 3) := by decide +kernel
theorem d1_6 : decode prog_67_method_4_code 6 = .ok (.iload_n 1, 1) := by decide +kernel
theorem d1_7 : decode prog_67_method_4_code 7 = .ok (.bipush 10, 2) := by decide +kernel
theorem d1_9 : decode prog_67_method_4_code 9 = .ok (.if_icmp .eq 45, 3) := by decide +kernel
theorem d1_12 : decode prog_67_method_4_code 12 = .ok (.iload_n 1, 1) := by decide +kernel
theorem d1_13 : decode prog_67_method_4_code 13 = .ok (.bipush 13, 2) := by decide +kernel
theorem d1_15 : decode prog_67_method_4_code 15 = .ok (.if_icmp .eq 39, 3) := by decide +kernel
theorem d1_18 : decode prog_67_method_4_code 18 = .ok (.iload_n 1, 1) := by decide +kernel
theorem d1_19 : decode prog_67_method_4_code 19 = .ok (.bipush 32, 2) := by decide +kernel
theorem d1_21 : decode prog_67_method_4_code 21 = .ok (.if_icmp .lt 9, 3) := by decide +kernel
theorem d1_24 : decode prog_67_method_4_code 24 = .ok (.iload_n 1, 1) := by decide +kernel
theorem d1_25 : decode prog_67_method_4_code 25 = .ok (.ldc 31, 2) := by decide +kernel
theorem d1_27 : decode prog_67_method_4_code 27 = .ok (.if_icmp .le 27, 3) := by decide +kernel
theorem d1_30 : decode prog_67_method_4_code 30 = .ok (.iload_n 1, 1) := by decide +kernel
theorem d1_31 : decode prog_67_method_4_code 31 = .ok (.ldc 32, 2) := by decide +kernel
theorem d1_33 : decode prog_67_method_4_code 33 = .ok (.if_icmp .lt 9, 3) := by decide +kernel
theorem d1_36 : decode prog_67_method_4_code 36 = .ok (.iload_n 1, 1) := by decide +kernel
theorem d1_37 : decode prog_67_method_4_code 37 = .ok (.ldc 33, 2) := by decide +kernel
theorem d1_39 : decode prog_67_method_4_code 39 = .ok (.if_icmp .le 15, 3) := by decide +kernel
theorem d1_42 : decode prog_67_method_4_code 42 = .ok (.iload_n 1, 1) := by decide +kernel
theorem d1_43 : decode prog_67_method_4_code 43 = .ok (.ldc 34, 2) := by decide +kernel
theorem d1_45 : decode prog_67_method_4_code 45 = .ok (.if_icmp .lt 13, 3) := by decide +kernel
theorem d1_48 : decode prog_67_method_4_code 48 = .ok (.iload_n 1, 1) := by decide +kernel
theorem d1_49 : decode prog_67_method_4_code 49 = .ok (.ldc 35, 2) := by decide +kernel
theorem d1_51 : decode prog_67_method_4_code 51 = .ok (.if_icmp .gt 7, 3) := by decide +kernel
theorem d1_54 : decode prog_67_method_4_code 54 = .ok (.iconst 1, 1) := by decide +kernel
theorem d1_55 : decode prog_67_method_4_code 55 = .ok (.goto 4, 3) := by decide +kernel
theorem d1_58 : decode prog_67_method_4_code 58 = .ok (.iconst 0, 1) := by decide +kernel
theorem d1_59 : decode prog_67_method_4_code 59 = .ok (.istore_n 2, 1) := by decide +kernel
theorem d1_60 : decode prog_67_method_4_code 60 = .ok (.iload_n 2, 1) := by decide +kernel
theorem d1_61 : decode prog_67_method_4_code 61 = .ok (.ifCond .eq 34, 3) := by decide +kernel
theorem d1_64 : decode prog_67_method_4_code 64 = .ok (.aload_n 0, 1) := by decide +kernel
theorem d1_65 : decode prog_67_method_4_code 65 = .ok (.getstatic 5, 3) := by decide +kernel
theorem d1_68 : decode prog_67_method_4_code 68 = .ok (.if_acmp .eq 23, 3) := by decide +kernel
theorem d1_71 : decode prog_67_method_4_code 71 = .ok (.iload_n 1, 1) := by decide +kernel
theorem d1_72 : decode prog_67_method_4_code 72 = .ok (.bipush 127, 2) := by decide +kernel
theorem d1_74 : decode prog_67_method_4_code 74 = .ok (.if_icmp .lt 17, 3) := by decide +kernel
theorem d1_77 : decode prog_67_method_4_code 77 = .ok (.iload_n 1, 1) := by decide +kernel
theorem d1_78 : decode prog_67_method_4_code 78 = .ok (.sipush 133, 3) := by decide +kernel
theorem d1_81 : decode prog_67_method_4_code 81 = .ok (.if_icmp .eq 10, 3) := by decide +kernel
theorem d1_84 : decode prog_67_method_4_code 84 = .ok (.iload_n 1, 1) := by decide +kernel
theorem d1_85 : decode prog_67_method_4_code 85 = .ok (.sipush 159, 3) := by decide +kernel
theorem d1_88 : decode prog_67_method_4_code 88 = .ok (.if_icmp .le 7, 3) := by decide +kernel
theorem d1_91 : decode prog_67_method_4_code 91 = .ok (.iconst 1, 1) := by decide +kernel
theorem d1_92 : decode prog_67_method_4_code 92 = .ok (.goto 4, 3) := by decide +kernel
theorem d1_95 : decode prog_67_method_4_code 95 = .ok (.iconst 0, 1) := by decide +kernel
theorem d1_96 : decode prog_67_method_4_code 96 = .ok (.ireturn, 1) := by decide +kernel
theorem pn_own_al : plainName "com/example/xml_element_search/xmlelementsearch/MarkupFilter$Version" = true := by first | (simp [plainName, overriddenIn]; done) | decide +kernel
set_option maxRecDepth 65536 in
set_option maxHeartbeats 40000000 in
theorem own_sc {p : Program} {l : Launch} {e : Env} {s : State} {m : MethodId} {args : Array Value} {below : List Frame} {meth : Method} {c : Code} {T : State} {locs : List Loc} {Z : State} {a0 : Array Value} {h : Heap} {n0 : Nat} (hw : ∀ d ∈ tables_1, d.before a0 Z = true) (X : Stand p l e ({ frames := 0, cells := 0, slots := 0, locals := 0 } : Room) s m args below meth c T locs 0 0) (hx : p.tables.exec = Jvm.exec) (hZ : Z.Warmed39 s.vm) (hby : c.code = prog_67_method_4_code) (hml : c.maxLocals = 3) (hown : s.vm.findClass "com/example/xml_element_search/xmlelementsearch/MarkupFilter$Version" = some m.cls) (eT : T.heap = h) (N : Fr n0 locs) (Z0 : n0 ≤ h.size) (a1 : Addr) (p1 : Int32)  :
    ∃ T' L', Stand p l e ({ frames := 0, cells := 0, slots := 0, locals := 0 } : Room) s m args below meth c T' L' 0 0 ∧ T'.heap = h ∧ Fr n0 L' ∧ ∀ target, Steps p.tables e below (T'.setTop (mkF m 59 #[.val (.ref a1), .val (.int p1), .unset] [(.int (if (p1 = (9 : Int32) ∨ p1 = (10 : Int32) ∨ p1 = (13 : Int32) ∨ (¬ p1 < (32 : Int32) ∧ ¬ (55295 : Int32) < p1) ∨ (¬ p1 < (57344 : Int32) ∧ ¬ (65533 : Int32) < p1) ∨ (¬ p1 < (65536 : Int32) ∧ ¬ (1114111 : Int32) < p1)) then (1 : Int32) else (0 : Int32)))])) target → Steps p.tables e below (T.setTop (mkF m 0 #[.val (.ref a1), .val (.int p1), .unset] [])) target := by
  by_cases h1 : p1 = (9 : Int32)
  · refine ⟨T, _, X, eT, N, fun target k => ?_⟩
    have hj : (if (p1 = (9 : Int32) ∨ p1 = (10 : Int32) ∨ p1 = (13 : Int32) ∨ (¬ p1 < (32 : Int32) ∧ ¬ (55295 : Int32) < p1) ∨ (¬ p1 < (57344 : Int32) ∧ ¬ (65533 : Int32) < p1) ∨ (¬ p1 < (65536 : Int32) ∧ ¬ (1114111 : Int32) < p1)) then (1 : Int32) else (0 : Int32)) = (1 : Int32) := by simp [h1]
    rw [hj] at k
    show Steps p.tables e below (T.setTop (mkF m 0 #[.val (.ref a1), .val (.int p1), .unset] [])) _
    refine XS.iloadN X.here hx rfl (hb hby d1_0) rfl ?_
    show Steps p.tables e below (T.setTop (mkF m 1 #[.val (.ref a1), .val (.int p1), .unset] [(.int p1)])) _
    refine XS.bipush X.here hx rfl (hb hby d1_1) ?_
    show Steps p.tables e below (T.setTop (mkF m 3 #[.val (.ref a1), .val (.int p1), .unset] [(.int (9 : Int32)), (.int p1)])) _
    refine XS.icmpYes X.here hx rfl (pc0 := 3) (pc' := 54) rfl (hb hby d1_3) rfl (XT.ii_eq_t h1) (by decide) (by decide) ?_
    show Steps p.tables e below (T.setTop (mkF m 54 #[.val (.ref a1), .val (.int p1), .unset] [])) _
    refine XS.iconst X.here hx rfl (hb hby d1_54) ?_
    show Steps p.tables e below (T.setTop (mkF m 55 #[.val (.ref a1), .val (.int p1), .unset] [(.int (1 : Int32))])) _
    refine XS.goto X.here hx rfl (pc0 := 55) (pc' := 59) rfl (hb hby d1_55) (by decide) (by decide) ?_
    show Steps p.tables e below (T.setTop (mkF m 59 #[.val (.ref a1), .val (.int p1), .unset] [(.int (1 : Int32))])) _
    exact k
  · by_cases h2 : p1 = (10 : Int32)
    · refine ⟨T, _, X, eT, N, fun target k => ?_⟩
      have hj : (if (p1 = (9 : Int32) ∨ p1 = (10 : Int32) ∨ p1 = (13 : Int32) ∨ (¬ p1 < (32 : Int32) ∧ ¬ (55295 : Int32) < p1) ∨ (¬ p1 < (57344 : Int32) ∧ ¬ (65533 : Int32) < p1) ∨ (¬ p1 < (65536 : Int32) ∧ ¬ (1114111 : Int32) < p1)) then (1 : Int32) else (0 : Int32)) = (1 : Int32) := by simp [h1, h2]
      rw [hj] at k
      show Steps p.tables e below (T.setTop (mkF m 0 #[.val (.ref a1), .val (.int p1), .unset] [])) _
      refine XS.iloadN X.here hx rfl (hb hby d1_0) rfl ?_
      show Steps p.tables e below (T.setTop (mkF m 1 #[.val (.ref a1), .val (.int p1), .unset] [(.int p1)])) _
      refine XS.bipush X.here hx rfl (hb hby d1_1) ?_
      show Steps p.tables e below (T.setTop (mkF m 3 #[.val (.ref a1), .val (.int p1), .unset] [(.int (9 : Int32)), (.int p1)])) _
      refine XS.icmpNo X.here hx rfl (hb hby d1_3) rfl (XT.ii_eq_f h1) ?_
      show Steps p.tables e below (T.setTop (mkF m 6 #[.val (.ref a1), .val (.int p1), .unset] [])) _
      refine XS.iloadN X.here hx rfl (hb hby d1_6) rfl ?_
      show Steps p.tables e below (T.setTop (mkF m 7 #[.val (.ref a1), .val (.int p1), .unset] [(.int p1)])) _
      refine XS.bipush X.here hx rfl (hb hby d1_7) ?_
      show Steps p.tables e below (T.setTop (mkF m 9 #[.val (.ref a1), .val (.int p1), .unset] [(.int (10 : Int32)), (.int p1)])) _
      refine XS.icmpYes X.here hx rfl (pc0 := 9) (pc' := 54) rfl (hb hby d1_9) rfl (XT.ii_eq_t h2) (by decide) (by decide) ?_
      show Steps p.tables e below (T.setTop (mkF m 54 #[.val (.ref a1), .val (.int p1), .unset] [])) _
      refine XS.iconst X.here hx rfl (hb hby d1_54) ?_
      show Steps p.tables e below (T.setTop (mkF m 55 #[.val (.ref a1), .val (.int p1), .unset] [(.int (1 : Int32))])) _
      refine XS.goto X.here hx rfl (pc0 := 55) (pc' := 59) rfl (hb hby d1_55) (by decide) (by decide) ?_
      show Steps p.tables e below (T.setTop (mkF m 59 #[.val (.ref a1), .val (.int p1), .unset] [(.int (1 : Int32))])) _
      exact k
    · by_cases h3 : p1 = (13 : Int32)
      · refine ⟨T, _, X, eT, N, fun target k => ?_⟩
        have hj : (if (p1 = (9 : Int32) ∨ p1 = (10 : Int32) ∨ p1 = (13 : Int32) ∨ (¬ p1 < (32 : Int32) ∧ ¬ (55295 : Int32) < p1) ∨ (¬ p1 < (57344 : Int32) ∧ ¬ (65533 : Int32) < p1) ∨ (¬ p1 < (65536 : Int32) ∧ ¬ (1114111 : Int32) < p1)) then (1 : Int32) else (0 : Int32)) = (1 : Int32) := by simp [h1, h2, h3]
        rw [hj] at k
        show Steps p.tables e below (T.setTop (mkF m 0 #[.val (.ref a1), .val (.int p1), .unset] [])) _
        refine XS.iloadN X.here hx rfl (hb hby d1_0) rfl ?_
        show Steps p.tables e below (T.setTop (mkF m 1 #[.val (.ref a1), .val (.int p1), .unset] [(.int p1)])) _
        refine XS.bipush X.here hx rfl (hb hby d1_1) ?_
        show Steps p.tables e below (T.setTop (mkF m 3 #[.val (.ref a1), .val (.int p1), .unset] [(.int (9 : Int32)), (.int p1)])) _
        refine XS.icmpNo X.here hx rfl (hb hby d1_3) rfl (XT.ii_eq_f h1) ?_
        show Steps p.tables e below (T.setTop (mkF m 6 #[.val (.ref a1), .val (.int p1), .unset] [])) _
        refine XS.iloadN X.here hx rfl (hb hby d1_6) rfl ?_
        show Steps p.tables e below (T.setTop (mkF m 7 #[.val (.ref a1), .val (.int p1), .unset] [(.int p1)])) _
        refine XS.bipush X.here hx rfl (hb hby d1_7) ?_
        show Steps p.tables e below (T.setTop (mkF m 9 #[.val (.ref a1), .val (.int p1), .unset] [(.int (10 : Int32)), (.int p1)])) _
        refine XS.icmpNo X.here hx rfl (hb hby d1_9) rfl (XT.ii_eq_f h2) ?_
        show Steps p.tables e below (T.setTop (mkF m 12 #[.val (.ref a1), .val (.int p1), .unset] [])) _
        refine XS.iloadN X.here hx rfl (hb hby d1_12) rfl ?_
        show Steps p.tables e below (T.setTop (mkF m 13 #[.val (.ref a1), .val (.int p1), .unset] [(.int p1)])) _
        refine XS.bipush X.here hx rfl (hb hby d1_13) ?_
        show Steps p.tables e below (T.setTop (mkF m 15 #[.val (.ref a1), .val (.int p1), .unset] [(.int (13 : Int32)), (.int p1)])) _
        refine XS.icmpYes X.here hx rfl (pc0 := 15) (pc' := 54) rfl (hb hby d1_15) rfl (XT.ii_eq_t h3) (by decide) (by decide) ?_
        show Steps p.tables e below (T.setTop (mkF m 54 #[.val (.ref a1), .val (.int p1), .unset] [])) _
        refine XS.iconst X.here hx rfl (hb hby d1_54) ?_
        show Steps p.tables e below (T.setTop (mkF m 55 #[.val (.ref a1), .val (.int p1), .unset] [(.int (1 : Int32))])) _
        refine XS.goto X.here hx rfl (pc0 := 55) (pc' := 59) rfl (hb hby d1_55) (by decide) (by decide) ?_
        show Steps p.tables e below (T.setTop (mkF m 59 #[.val (.ref a1), .val (.int p1), .unset] [(.int (1 : Int32))])) _
        exact k
      · by_cases h4 : p1 < (32 : Int32)
        · by_cases h6 : p1 < (57344 : Int32)
          · by_cases h8 : p1 < (65536 : Int32)
            · refine ⟨T, _, X, eT, N, fun target k => ?_⟩
              have hj : (if (p1 = (9 : Int32) ∨ p1 = (10 : Int32) ∨ p1 = (13 : Int32) ∨ (¬ p1 < (32 : Int32) ∧ ¬ (55295 : Int32) < p1) ∨ (¬ p1 < (57344 : Int32) ∧ ¬ (65533 : Int32) < p1) ∨ (¬ p1 < (65536 : Int32) ∧ ¬ (1114111 : Int32) < p1)) then (1 : Int32) else (0 : Int32)) = (0 : Int32) := by simp [h1, h2, h3, h4, h6, h8]
              rw [hj] at k
              show Steps p.tables e below (T.setTop (mkF m 0 #[.val (.ref a1), .val (.int p1), .unset] [])) _
              refine XS.iloadN X.here hx rfl (hb hby d1_0) rfl ?_
              show Steps p.tables e below (T.setTop (mkF m 1 #[.val (.ref a1), .val (.int p1), .unset] [(.int p1)])) _
              refine XS.bipush X.here hx rfl (hb hby d1_1) ?_
              show Steps p.tables e below (T.setTop (mkF m 3 #[.val (.ref a1), .val (.int p1), .unset] [(.int (9 : Int32)), (.int p1)])) _
              refine XS.icmpNo X.here hx rfl (hb hby d1_3) rfl (XT.ii_eq_f h1) ?_
              show Steps p.tables e below (T.setTop (mkF m 6 #[.val (.ref a1), .val (.int p1), .unset] [])) _
              refine XS.iloadN X.here hx rfl (hb hby d1_6) rfl ?_
              show Steps p.tables e below (T.setTop (mkF m 7 #[.val (.ref a1), .val (.int p1), .unset] [(.int p1)])) _
              refine XS.bipush X.here hx rfl (hb hby d1_7) ?_
              show Steps p.tables e below (T.setTop (mkF m 9 #[.val (.ref a1), .val (.int p1), .unset] [(.int (10 : Int32)), (.int p1)])) _
              refine XS.icmpNo X.here hx rfl (hb hby d1_9) rfl (XT.ii_eq_f h2) ?_
              show Steps p.tables e below (T.setTop (mkF m 12 #[.val (.ref a1), .val (.int p1), .unset] [])) _
              refine XS.iloadN X.here hx rfl (hb hby d1_12) rfl ?_
              show Steps p.tables e below (T.setTop (mkF m 13 #[.val (.ref a1), .val (.int p1), .unset] [(.int p1)])) _
              refine XS.bipush X.here hx rfl (hb hby d1_13) ?_
              show Steps p.tables e below (T.setTop (mkF m 15 #[.val (.ref a1), .val (.int p1), .unset] [(.int (13 : Int32)), (.int p1)])) _
              refine XS.icmpNo X.here hx rfl (hb hby d1_15) rfl (XT.ii_eq_f h3) ?_
              show Steps p.tables e below (T.setTop (mkF m 18 #[.val (.ref a1), .val (.int p1), .unset] [])) _
              refine XS.iloadN X.here hx rfl (hb hby d1_18) rfl ?_
              show Steps p.tables e below (T.setTop (mkF m 19 #[.val (.ref a1), .val (.int p1), .unset] [(.int p1)])) _
              refine XS.bipush X.here hx rfl (hb hby d1_19) ?_
              show Steps p.tables e below (T.setTop (mkF m 21 #[.val (.ref a1), .val (.int p1), .unset] [(.int (32 : Int32)), (.int p1)])) _
              refine XS.icmpYes X.here hx rfl (pc0 := 21) (pc' := 30) rfl (hb hby d1_21) rfl (XT.ii_lt_t h4) (by decide) (by decide) ?_
              show Steps p.tables e below (T.setTop (mkF m 30 #[.val (.ref a1), .val (.int p1), .unset] [])) _
              refine XS.iloadN X.here hx rfl (hb hby d1_30) rfl ?_
              show Steps p.tables e below (T.setTop (mkF m 31 #[.val (.ref a1), .val (.int p1), .unset] [(.int p1)])) _
              refine Jvm.Stand.ldcI X hx hown (mvT hZ (hw _ (List.mem_of_getElem? (i := 8) rfl))) (g := (mkF m 31 #[.val (.ref a1), .val (.int p1), .unset] [(.int p1)])) rfl (hb hby d1_31) ?_
              show Steps p.tables e below (T.setTop (mkF m 33 #[.val (.ref a1), .val (.int p1), .unset] [(.int (57344 : Int32)), (.int p1)])) _
              refine XS.icmpYes X.here hx rfl (pc0 := 33) (pc' := 42) rfl (hb hby d1_33) rfl (XT.ii_lt_t h6) (by decide) (by decide) ?_
              show Steps p.tables e below (T.setTop (mkF m 42 #[.val (.ref a1), .val (.int p1), .unset] [])) _
              refine XS.iloadN X.here hx rfl (hb hby d1_42) rfl ?_
              show Steps p.tables e below (T.setTop (mkF m 43 #[.val (.ref a1), .val (.int p1), .unset] [(.int p1)])) _
              refine Jvm.Stand.ldcI X hx hown (mvT hZ (hw _ (List.mem_of_getElem? (i := 9) rfl))) (g := (mkF m 43 #[.val (.ref a1), .val (.int p1), .unset] [(.int p1)])) rfl (hb hby d1_43) ?_
              show Steps p.tables e below (T.setTop (mkF m 45 #[.val (.ref a1), .val (.int p1), .unset] [(.int (65536 : Int32)), (.int p1)])) _
              refine XS.icmpYes X.here hx rfl (pc0 := 45) (pc' := 58) rfl (hb hby d1_45) rfl (XT.ii_lt_t h8) (by decide) (by decide) ?_
              show Steps p.tables e below (T.setTop (mkF m 58 #[.val (.ref a1), .val (.int p1), .unset] [])) _
              refine XS.iconst X.here hx rfl (hb hby d1_58) ?_
              show Steps p.tables e below (T.setTop (mkF m 59 #[.val (.ref a1), .val (.int p1), .unset] [(.int (0 : Int32))])) _
              exact k
            · by_cases h9 : (1114111 : Int32) < p1
              · refine ⟨T, _, X, eT, N, fun target k => ?_⟩
                have hj : (if (p1 = (9 : Int32) ∨ p1 = (10 : Int32) ∨ p1 = (13 : Int32) ∨ (¬ p1 < (32 : Int32) ∧ ¬ (55295 : Int32) < p1) ∨ (¬ p1 < (57344 : Int32) ∧ ¬ (65533 : Int32) < p1) ∨ (¬ p1 < (65536 : Int32) ∧ ¬ (1114111 : Int32) < p1)) then (1 : Int32) else (0 : Int32)) = (0 : Int32) := by simp [h1, h2, h3, h4, h6, h8, h9]
                rw [hj] at k
                show Steps p.tables e below (T.setTop (mkF m 0 #[.val (.ref a1), .val (.int p1), .unset] [])) _
                refine XS.iloadN X.here hx rfl (hb hby d1_0) rfl ?_
                show Steps p.tables e below (T.setTop (mkF m 1 #[.val (.ref a1), .val (.int p1), .unset] [(.int p1)])) _
                refine XS.bipush X.here hx rfl (hb hby d1_1) ?_
                show Steps p.tables e below (T.setTop (mkF m 3 #[.val (.ref a1), .val (.int p1), .unset] [(.int (9 : Int32)), (.int p1)])) _
                refine XS.icmpNo X.here hx rfl (hb hby d1_3) rfl (XT.ii_eq_f h1) ?_
                show Steps p.tables e below (T.setTop (mkF m 6 #[.val (.ref a1), .val (.int p1), .unset] [])) _
                refine XS.iloadN X.here hx rfl (hb hby d1_6) rfl ?_
                show Steps p.tables e below (T.setTop (mkF m 7 #[.val (.ref a1), .val (.int p1), .unset] [(.int p1)])) _
                refine XS.bipush X.here hx rfl (hb hby d1_7) ?_
                show Steps p.tables e below (T.setTop (mkF m 9 #[.val (.ref a1), .val (.int p1), .unset] [(.int (10 : Int32)), (.int p1)])) _
                refine XS.icmpNo X.here hx rfl (hb hby d1_9) rfl (XT.ii_eq_f h2) ?_
                show Steps p.tables e below (T.setTop (mkF m 12 #[.val (.ref a1), .val (.int p1), .unset] [])) _
                refine XS.iloadN X.here hx rfl (hb hby d1_12) rfl ?_
                show Steps p.tables e below (T.setTop (mkF m 13 #[.val (.ref a1), .val (.int p1), .unset] [(.int p1)])) _
                refine XS.bipush X.here hx rfl (hb hby d1_13) ?_
                show Steps p.tables e below (T.setTop (mkF m 15 #[.val (.ref a1), .val (.int p1), .unset] [(.int (13 : Int32)), (.int p1)])) _
                refine XS.icmpNo X.here hx rfl (hb hby d1_15) rfl (XT.ii_eq_f h3) ?_
                show Steps p.tables e below (T.setTop (mkF m 18 #[.val (.ref a1), .val (.int p1), .unset] [])) _
                refine XS.iloadN X.here hx rfl (hb hby d1_18) rfl ?_
                show Steps p.tables e below (T.setTop (mkF m 19 #[.val (.ref a1), .val (.int p1), .unset] [(.int p1)])) _
                refine XS.bipush X.here hx rfl (hb hby d1_19) ?_
                show Steps p.tables e below (T.setTop (mkF m 21 #[.val (.ref a1), .val (.int p1), .unset] [(.int (32 : Int32)), (.int p1)])) _
                refine XS.icmpYes X.here hx rfl (pc0 := 21) (pc' := 30) rfl (hb hby d1_21) rfl (XT.ii_lt_t h4) (by decide) (by decide) ?_
                show Steps p.tables e below (T.setTop (mkF m 30 #[.val (.ref a1), .val (.int p1), .unset] [])) _
                refine XS.iloadN X.here hx rfl (hb hby d1_30) rfl ?_
                show Steps p.tables e below (T.setTop (mkF m 31 #[.val (.ref a1), .val (.int p1), .unset] [(.int p1)])) _
                refine Jvm.Stand.ldcI X hx hown (mvT hZ (hw _ (List.mem_of_getElem? (i := 8) rfl))) (g := (mkF m 31 #[.val (.ref a1), .val (.int p1), .unset] [(.int p1)])) rfl (hb hby d1_31) ?_
                show Steps p.tables e below (T.setTop (mkF m 33 #[.val (.ref a1), .val (.int p1), .unset] [(.int (57344 : Int32)), (.int p1)])) _
                refine XS.icmpYes X.here hx rfl (pc0 := 33) (pc' := 42) rfl (hb hby d1_33) rfl (XT.ii_lt_t h6) (by decide) (by decide) ?_
                show Steps p.tables e below (T.setTop (mkF m 42 #[.val (.ref a1), .val (.int p1), .unset] [])) _
                refine XS.iloadN X.here hx rfl (hb hby d1_42) rfl ?_
                show Steps p.tables e below (T.setTop (mkF m 43 #[.val (.ref a1), .val (.int p1), .unset] [(.int p1)])) _
                refine Jvm.Stand.ldcI X hx hown (mvT hZ (hw _ (List.mem_of_getElem? (i := 9) rfl))) (g := (mkF m 43 #[.val (.ref a1), .val (.int p1), .unset] [(.int p1)])) rfl (hb hby d1_43) ?_
                show Steps p.tables e below (T.setTop (mkF m 45 #[.val (.ref a1), .val (.int p1), .unset] [(.int (65536 : Int32)), (.int p1)])) _
                refine XS.icmpNo X.here hx rfl (hb hby d1_45) rfl (XT.ii_lt_f h8) ?_
                show Steps p.tables e below (T.setTop (mkF m 48 #[.val (.ref a1), .val (.int p1), .unset] [])) _
                refine XS.iloadN X.here hx rfl (hb hby d1_48) rfl ?_
                show Steps p.tables e below (T.setTop (mkF m 49 #[.val (.ref a1), .val (.int p1), .unset] [(.int p1)])) _
                refine Jvm.Stand.ldcI X hx hown (mvT hZ (hw _ (List.mem_of_getElem? (i := 30) rfl))) (g := (mkF m 49 #[.val (.ref a1), .val (.int p1), .unset] [(.int p1)])) rfl (hb hby d1_49) ?_
                show Steps p.tables e below (T.setTop (mkF m 51 #[.val (.ref a1), .val (.int p1), .unset] [(.int (1114111 : Int32)), (.int p1)])) _
                refine XS.icmpYes X.here hx rfl (pc0 := 51) (pc' := 58) rfl (hb hby d1_51) rfl (XT.ii_gt_t h9) (by decide) (by decide) ?_
                show Steps p.tables e below (T.setTop (mkF m 58 #[.val (.ref a1), .val (.int p1), .unset] [])) _
                refine XS.iconst X.here hx rfl (hb hby d1_58) ?_
                show Steps p.tables e below (T.setTop (mkF m 59 #[.val (.ref a1), .val (.int p1), .unset] [(.int (0 : Int32))])) _
                exact k
              · refine ⟨T, _, X, eT, N, fun target k => ?_⟩
                have hj : (if (p1 = (9 : Int32) ∨ p1 = (10 : Int32) ∨ p1 = (13 : Int32) ∨ (¬ p1 < (32 : Int32) ∧ ¬ (55295 : Int32) < p1) ∨ (¬ p1 < (57344 : Int32) ∧ ¬ (65533 : Int32) < p1) ∨ (¬ p1 < (65536 : Int32) ∧ ¬ (1114111 : Int32) < p1)) then (1 : Int32) else (0 : Int32)) = (1 : Int32) := by simp [h1, h2, h3, h4, h6, h8, h9]
                rw [hj] at k
                show Steps p.tables e below (T.setTop (mkF m 0 #[.val (.ref a1), .val (.int p1), .unset] [])) _
                refine XS.iloadN X.here hx rfl (hb hby d1_0) rfl ?_
                show Steps p.tables e below (T.setTop (mkF m 1 #[.val (.ref a1), .val (.int p1), .unset] [(.int p1)])) _
                refine XS.bipush X.here hx rfl (hb hby d1_1) ?_
                show Steps p.tables e below (T.setTop (mkF m 3 #[.val (.ref a1), .val (.int p1), .unset] [(.int (9 : Int32)), (.int p1)])) _
                refine XS.icmpNo X.here hx rfl (hb hby d1_3) rfl (XT.ii_eq_f h1) ?_
                show Steps p.tables e below (T.setTop (mkF m 6 #[.val (.ref a1), .val (.int p1), .unset] [])) _
                refine XS.iloadN X.here hx rfl (hb hby d1_6) rfl ?_
                show Steps p.tables e below (T.setTop (mkF m 7 #[.val (.ref a1), .val (.int p1), .unset] [(.int p1)])) _
                refine XS.bipush X.here hx rfl (hb hby d1_7) ?_
                show Steps p.tables e below (T.setTop (mkF m 9 #[.val (.ref a1), .val (.int p1), .unset] [(.int (10 : Int32)), (.int p1)])) _
                refine XS.icmpNo X.here hx rfl (hb hby d1_9) rfl (XT.ii_eq_f h2) ?_
                show Steps p.tables e below (T.setTop (mkF m 12 #[.val (.ref a1), .val (.int p1), .unset] [])) _
                refine XS.iloadN X.here hx rfl (hb hby d1_12) rfl ?_
                show Steps p.tables e below (T.setTop (mkF m 13 #[.val (.ref a1), .val (.int p1), .unset] [(.int p1)])) _
                refine XS.bipush X.here hx rfl (hb hby d1_13) ?_
                show Steps p.tables e below (T.setTop (mkF m 15 #[.val (.ref a1), .val (.int p1), .unset] [(.int (13 : Int32)), (.int p1)])) _
                refine XS.icmpNo X.here hx rfl (hb hby d1_15) rfl (XT.ii_eq_f h3) ?_
                show Steps p.tables e below (T.setTop (mkF m 18 #[.val (.ref a1), .val (.int p1), .unset] [])) _
                refine XS.iloadN X.here hx rfl (hb hby d1_18) rfl ?_
                show Steps p.tables e below (T.setTop (mkF m 19 #[.val (.ref a1), .val (.int p1), .unset] [(.int p1)])) _
                refine XS.bipush X.here hx rfl (hb hby d1_19) ?_
                show Steps p.tables e below (T.setTop (mkF m 21 #[.val (.ref a1), .val (.int p1), .unset] [(.int (32 : Int32)), (.int p1)])) _
                refine XS.icmpYes X.here hx rfl (pc0 := 21) (pc' := 30) rfl (hb hby d1_21) rfl (XT.ii_lt_t h4) (by decide) (by decide) ?_
                show Steps p.tables e below (T.setTop (mkF m 30 #[.val (.ref a1), .val (.int p1), .unset] [])) _
                refine XS.iloadN X.here hx rfl (hb hby d1_30) rfl ?_
                show Steps p.tables e below (T.setTop (mkF m 31 #[.val (.ref a1), .val (.int p1), .unset] [(.int p1)])) _
                refine Jvm.Stand.ldcI X hx hown (mvT hZ (hw _ (List.mem_of_getElem? (i := 8) rfl))) (g := (mkF m 31 #[.val (.ref a1), .val (.int p1), .unset] [(.int p1)])) rfl (hb hby d1_31) ?_
                show Steps p.tables e below (T.setTop (mkF m 33 #[.val (.ref a1), .val (.int p1), .unset] [(.int (57344 : Int32)), (.int p1)])) _
                refine XS.icmpYes X.here hx rfl (pc0 := 33) (pc' := 42) rfl (hb hby d1_33) rfl (XT.ii_lt_t h6) (by decide) (by decide) ?_
                show Steps p.tables e below (T.setTop (mkF m 42 #[.val (.ref a1), .val (.int p1), .unset] [])) _
                refine XS.iloadN X.here hx rfl (hb hby d1_42) rfl ?_
                show Steps p.tables e below (T.setTop (mkF m 43 #[.val (.ref a1), .val (.int p1), .unset] [(.int p1)])) _
                refine Jvm.Stand.ldcI X hx hown (mvT hZ (hw _ (List.mem_of_getElem? (i := 9) rfl))) (g := (mkF m 43 #[.val (.ref a1), .val (.int p1), .unset] [(.int p1)])) rfl (hb hby d1_43) ?_
                show Steps p.tables e below (T.setTop (mkF m 45 #[.val (.ref a1), .val (.int p1), .unset] [(.int (65536 : Int32)), (.int p1)])) _
                refine XS.icmpNo X.here hx rfl (hb hby d1_45) rfl (XT.ii_lt_f h8) ?_
                show Steps p.tables e below (T.setTop (mkF m 48 #[.val (.ref a1), .val (.int p1), .unset] [])) _
                refine XS.iloadN X.here hx rfl (hb hby d1_48) rfl ?_
                show Steps p.tables e below (T.setTop (mkF m 49 #[.val (.ref a1), .val (.int p1), .unset] [(.int p1)])) _
                refine Jvm.Stand.ldcI X hx hown (mvT hZ (hw _ (List.mem_of_getElem? (i := 30) rfl))) (g := (mkF m 49 #[.val (.ref a1), .val (.int p1), .unset] [(.int p1)])) rfl (hb hby d1_49) ?_
                show Steps p.tables e below (T.setTop (mkF m 51 #[.val (.ref a1), .val (.int p1), .unset] [(.int (1114111 : Int32)), (.int p1)])) _
                refine XS.icmpNo X.here hx rfl (hb hby d1_51) rfl (XT.ii_gt_f h9) ?_
                show Steps p.tables e below (T.setTop (mkF m 54 #[.val (.ref a1), .val (.int p1), .unset] [])) _
                refine XS.iconst X.here hx rfl (hb hby d1_54) ?_
                show Steps p.tables e below (T.setTop (mkF m 55 #[.val (.ref a1), .val (.int p1), .unset] [(.int (1 : Int32))])) _
                refine XS.goto X.here hx rfl (pc0 := 55) (pc' := 59) rfl (hb hby d1_55) (by decide) (by decide) ?_
                show Steps p.tables e below (T.setTop (mkF m 59 #[.val (.ref a1), .val (.int p1), .unset] [(.int (1 : Int32))])) _
                exact k
          · by_cases h7 : (65533 : Int32) < p1
            · by_cases h8 : p1 < (65536 : Int32)
              · refine ⟨T, _, X, eT, N, fun target k => ?_⟩
                have hj : (if (p1 = (9 : Int32) ∨ p1 = (10 : Int32) ∨ p1 = (13 : Int32) ∨ (¬ p1 < (32 : Int32) ∧ ¬ (55295 : Int32) < p1) ∨ (¬ p1 < (57344 : Int32) ∧ ¬ (65533 : Int32) < p1) ∨ (¬ p1 < (65536 : Int32) ∧ ¬ (1114111 : Int32) < p1)) then (1 : Int32) else (0 : Int32)) = (0 : Int32) := by simp [h1, h2, h3, h4, h6, h7, h8]
                rw [hj] at k
                show Steps p.tables e below (T.setTop (mkF m 0 #[.val (.ref a1), .val (.int p1), .unset] [])) _
                refine XS.iloadN X.here hx rfl (hb hby d1_0) rfl ?_
                show Steps p.tables e below (T.setTop (mkF m 1 #[.val (.ref a1), .val (.int p1), .unset] [(.int p1)])) _
                refine XS.bipush X.here hx rfl (hb hby d1_1) ?_
                show Steps p.tables e below (T.setTop (mkF m 3 #[.val (.ref a1), .val (.int p1), .unset] [(.int (9 : Int32)), (.int p1)])) _
                refine XS.icmpNo X.here hx rfl (hb hby d1_3) rfl (XT.ii_eq_f h1) ?_
                show Steps p.tables e below (T.setTop (mkF m 6 #[.val (.ref a1), .val (.int p1), .unset] [])) _
                refine XS.iloadN X.here hx rfl (hb hby d1_6) rfl ?_
                show Steps p.tables e below (T.setTop (mkF m 7 #[.val (.ref a1), .val (.int p1), .unset] [(.int p1)])) _
                refine XS.bipush X.here hx rfl (hb hby d1_7) ?_
                show Steps p.tables e below (T.setTop (mkF m 9 #[.val (.ref a1), .val (.int p1), .unset] [(.int (10 : Int32)), (.int p1)])) _
                refine XS.icmpNo X.here hx rfl (hb hby d1_9) rfl (XT.ii_eq_f h2) ?_
                show Steps p.tables e below (T.setTop (mkF m 12 #[.val (.ref a1), .val (.int p1), .unset] [])) _
                refine XS.iloadN X.here hx rfl (hb hby d1_12) rfl ?_
                show Steps p.tables e below (T.setTop (mkF m 13 #[.val (.ref a1), .val (.int p1), .unset] [(.int p1)])) _
                refine XS.bipush X.here hx rfl (hb hby d1_13) ?_
                show Steps p.tables e below (T.setTop (mkF m 15 #[.val (.ref a1), .val (.int p1), .unset] [(.int (13 : Int32)), (.int p1)])) _
                refine XS.icmpNo X.here hx rfl (hb hby d1_15) rfl (XT.ii_eq_f h3) ?_
                show Steps p.tables e below (T.setTop (mkF m 18 #[.val (.ref a1), .val (.int p1), .unset] [])) _
                refine XS.iloadN X.here hx rfl (hb hby d1_18) rfl ?_
                show Steps p.tables e below (T.setTop (mkF m 19 #[.val (.ref a1), .val (.int p1), .unset] [(.int p1)])) _
                refine XS.bipush X.here hx rfl (hb hby d1_19) ?_
                show Steps p.tables e below (T.setTop (mkF m 21 #[.val (.ref a1), .val (.int p1), .unset] [(.int (32 : Int32)), (.int p1)])) _
                refine XS.icmpYes X.here hx rfl (pc0 := 21) (pc' := 30) rfl (hb hby d1_21) rfl (XT.ii_lt_t h4) (by decide) (by decide) ?_
                show Steps p.tables e below (T.setTop (mkF m 30 #[.val (.ref a1), .val (.int p1), .unset] [])) _
                refine XS.iloadN X.here hx rfl (hb hby d1_30) rfl ?_
                show Steps p.tables e below (T.setTop (mkF m 31 #[.val (.ref a1), .val (.int p1), .unset] [(.int p1)])) _
                refine Jvm.Stand.ldcI X hx hown (mvT hZ (hw _ (List.mem_of_getElem? (i := 8) rfl))) (g := (mkF m 31 #[.val (.ref a1), .val (.int p1), .unset] [(.int p1)])) rfl (hb hby d1_31) ?_
                show Steps p.tables e below (T.setTop (mkF m 33 #[.val (.ref a1), .val (.int p1), .unset] [(.int (57344 : Int32)), (.int p1)])) _
                refine XS.icmpNo X.here hx rfl (hb hby d1_33) rfl (XT.ii_lt_f h6) ?_
                show Steps p.tables e below (T.setTop (mkF m 36 #[.val (.ref a1), .val (.int p1), .unset] [])) _
                refine XS.iloadN X.here hx rfl (hb hby d1_36) rfl ?_
                show Steps p.tables e below (T.setTop (mkF m 37 #[.val (.ref a1), .val (.int p1), .unset] [(.int p1)])) _
                refine Jvm.Stand.ldcI X hx hown (mvT hZ (hw _ (List.mem_of_getElem? (i := 29) rfl))) (g := (mkF m 37 #[.val (.ref a1), .val (.int p1), .unset] [(.int p1)])) rfl (hb hby d1_37) ?_
                show Steps p.tables e below (T.setTop (mkF m 39 #[.val (.ref a1), .val (.int p1), .unset] [(.int (65533 : Int32)), (.int p1)])) _
                refine XS.icmpNo X.here hx rfl (hb hby d1_39) rfl (XT.ii_le_f h7) ?_
                show Steps p.tables e below (T.setTop (mkF m 42 #[.val (.ref a1), .val (.int p1), .unset] [])) _
                refine XS.iloadN X.here hx rfl (hb hby d1_42) rfl ?_
                show Steps p.tables e below (T.setTop (mkF m 43 #[.val (.ref a1), .val (.int p1), .unset] [(.int p1)])) _
                refine Jvm.Stand.ldcI X hx hown (mvT hZ (hw _ (List.mem_of_getElem? (i := 9) rfl))) (g := (mkF m 43 #[.val (.ref a1), .val (.int p1), .unset] [(.int p1)])) rfl (hb hby d1_43) ?_
                show Steps p.tables e below (T.setTop (mkF m 45 #[.val (.ref a1), .val (.int p1), .unset] [(.int (65536 : Int32)), (.int p1)])) _
                refine XS.icmpYes X.here hx rfl (pc0 := 45) (pc' := 58) rfl (hb hby d1_45) rfl (XT.ii_lt_t h8) (by decide) (by decide) ?_
                show Steps p.tables e below (T.setTop (mkF m 58 #[.val (.ref a1), .val (.int p1), .unset] [])) _
                refine XS.iconst X.here hx rfl (hb hby d1_58) ?_
                show Steps p.tables e below (T.setTop (mkF m 59 #[.val (.ref a1), .val (.int p1), .unset] [(.int (0 : Int32))])) _
                exact k
              · by_cases h9 : (1114111 : Int32) < p1
                · refine ⟨T, _, X, eT, N, fun target k => ?_⟩
                  have hj : (if (p1 = (9 : Int32) ∨ p1 = (10 : Int32) ∨ p1 = (13 : Int32) ∨ (¬ p1 < (32 : Int32) ∧ ¬ (55295 : Int32) < p1) ∨ (¬ p1 < (57344 : Int32) ∧ ¬ (65533 : Int32) < p1) ∨ (¬ p1 < (65536 : Int32) ∧ ¬ (1114111 : Int32) < p1)) then (1 : Int32) else (0 : Int32)) = (0 : Int32) := by simp [h1, h2, h3, h4, h6, h7, h8, h9]
                  rw [hj] at k
                  show Steps p.tables e below (T.setTop (mkF m 0 #[.val (.ref a1), .val (.int p1), .unset] [])) _
                  refine XS.iloadN X.here hx rfl (hb hby d1_0) rfl ?_
                  show Steps p.tables e below (T.setTop (mkF m 1 #[.val (.ref a1), .val (.int p1), .unset] [(.int p1)])) _
                  refine XS.bipush X.here hx rfl (hb hby d1_1) ?_
                  show Steps p.tables e below (T.setTop (mkF m 3 #[.val (.ref a1), .val (.int p1), .unset] [(.int (9 : Int32)), (.int p1)])) _
                  refine XS.icmpNo X.here hx rfl (hb hby d1_3) rfl (XT.ii_eq_f h1) ?_
                  show Steps p.tables e below (T.setTop (mkF m 6 #[.val (.ref a1), .val (.int p1), .unset] [])) _
                  refine XS.iloadN X.here hx rfl (hb hby d1_6) rfl ?_
                  show Steps p.tables e below (T.setTop (mkF m 7 #[.val (.ref a1), .val (.int p1), .unset] [(.int p1)])) _
                  refine XS.bipush X.here hx rfl (hb hby d1_7) ?_
                  show Steps p.tables e below (T.setTop (mkF m 9 #[.val (.ref a1), .val (.int p1), .unset] [(.int (10 : Int32)), (.int p1)])) _
                  refine XS.icmpNo X.here hx rfl (hb hby d1_9) rfl (XT.ii_eq_f h2) ?_
                  show Steps p.tables e below (T.setTop (mkF m 12 #[.val (.ref a1), .val (.int p1), .unset] [])) _
                  refine XS.iloadN X.here hx rfl (hb hby d1_12) rfl ?_
                  show Steps p.tables e below (T.setTop (mkF m 13 #[.val (.ref a1), .val (.int p1), .unset] [(.int p1)])) _
                  refine XS.bipush X.here hx rfl (hb hby d1_13) ?_
                  show Steps p.tables e below (T.setTop (mkF m 15 #[.val (.ref a1), .val (.int p1), .unset] [(.int (13 : Int32)), (.int p1)])) _
                  refine XS.icmpNo X.here hx rfl (hb hby d1_15) rfl (XT.ii_eq_f h3) ?_
                  show Steps p.tables e below (T.setTop (mkF m 18 #[.val (.ref a1), .val (.int p1), .unset] [])) _
                  refine XS.iloadN X.here hx rfl (hb hby d1_18) rfl ?_
                  show Steps p.tables e below (T.setTop (mkF m 19 #[.val (.ref a1), .val (.int p1), .unset] [(.int p1)])) _
                  refine XS.bipush X.here hx rfl (hb hby d1_19) ?_
                  show Steps p.tables e below (T.setTop (mkF m 21 #[.val (.ref a1), .val (.int p1), .unset] [(.int (32 : Int32)), (.int p1)])) _
                  refine XS.icmpYes X.here hx rfl (pc0 := 21) (pc' := 30) rfl (hb hby d1_21) rfl (XT.ii_lt_t h4) (by decide) (by decide) ?_
                  show Steps p.tables e below (T.setTop (mkF m 30 #[.val (.ref a1), .val (.int p1), .unset] [])) _
                  refine XS.iloadN X.here hx rfl (hb hby d1_30) rfl ?_
                  show Steps p.tables e below (T.setTop (mkF m 31 #[.val (.ref a1), .val (.int p1), .unset] [(.int p1)])) _
                  refine Jvm.Stand.ldcI X hx hown (mvT hZ (hw _ (List.mem_of_getElem? (i := 8) rfl))) (g := (mkF m 31 #[.val (.ref a1), .val (.int p1), .unset] [(.int p1)])) rfl (hb hby d1_31) ?_
                  show Steps p.tables e below (T.setTop (mkF m 33 #[.val (.ref a1), .val (.int p1), .unset] [(.int (57344 : Int32)), (.int p1)])) _
                  refine XS.icmpNo X.here hx rfl (hb hby d1_33) rfl (XT.ii_lt_f h6) ?_
                  show Steps p.tables e below (T.setTop (mkF m 36 #[.val (.ref a1), .val (.int p1), .unset] [])) _
                  refine XS.iloadN X.here hx rfl (hb hby d1_36) rfl ?_
                  show Steps p.tables e below (T.setTop (mkF m 37 #[.val (.ref a1), .val (.int p1), .unset] [(.int p1)])) _
                  refine Jvm.Stand.ldcI X hx hown (mvT hZ (hw _ (List.mem_of_getElem? (i := 29) rfl))) (g := (mkF m 37 #[.val (.ref a1), .val (.int p1), .unset] [(.int p1)])) rfl (hb hby d1_37) ?_
                  show Steps p.tables e below (T.setTop (mkF m 39 #[.val (.ref a1), .val (.int p1), .unset] [(.int (65533 : Int32)), (.int p1)])) _
                  refine XS.icmpNo X.here hx rfl (hb hby d1_39) rfl (XT.ii_le_f h7) ?_
                  show Steps p.tables e below (T.setTop (mkF m 42 #[.val (.ref a1), .val (.int p1), .unset] [])) _
                  refine XS.iloadN X.here hx rfl (hb hby d1_42) rfl ?_
                  show Steps p.tables e below (T.setTop (mkF m 43 #[.val (.ref a1), .val (.int p1), .unset] [(.int p1)])) _
                  refine Jvm.Stand.ldcI X hx hown (mvT hZ (hw _ (List.mem_of_getElem? (i := 9) rfl))) (g := (mkF m 43 #[.val (.ref a1), .val (.int p1), .unset] [(.int p1)])) rfl (hb hby d1_43) ?_
                  show Steps p.tables e below (T.setTop (mkF m 45 #[.val (.ref a1), .val (.int p1), .unset] [(.int (65536 : Int32)), (.int p1)])) _
                  refine XS.icmpNo X.here hx rfl (hb hby d1_45) rfl (XT.ii_lt_f h8) ?_
                  show Steps p.tables e below (T.setTop (mkF m 48 #[.val (.ref a1), .val (.int p1), .unset] [])) _
                  refine XS.iloadN X.here hx rfl (hb hby d1_48) rfl ?_
                  show Steps p.tables e below (T.setTop (mkF m 49 #[.val (.ref a1), .val (.int p1), .unset] [(.int p1)])) _
                  refine Jvm.Stand.ldcI X hx hown (mvT hZ (hw _ (List.mem_of_getElem? (i := 30) rfl))) (g := (mkF m 49 #[.val (.ref a1), .val (.int p1), .unset] [(.int p1)])) rfl (hb hby d1_49) ?_
                  show Steps p.tables e below (T.setTop (mkF m 51 #[.val (.ref a1), .val (.int p1), .unset] [(.int (1114111 : Int32)), (.int p1)])) _
                  refine XS.icmpYes X.here hx rfl (pc0 := 51) (pc' := 58) rfl (hb hby d1_51) rfl (XT.ii_gt_t h9) (by decide) (by decide) ?_
                  show Steps p.tables e below (T.setTop (mkF m 58 #[.val (.ref a1), .val (.int p1), .unset] [])) _
                  refine XS.iconst X.here hx rfl (hb hby d1_58) ?_
                  show Steps p.tables e below (T.setTop (mkF m 59 #[.val (.ref a1), .val (.int p1), .unset] [(.int (0 : Int32))])) _
                  exact k
                · refine ⟨T, _, X, eT, N, fun target k => ?_⟩
                  have hj : (if (p1 = (9 : Int32) ∨ p1 = (10 : Int32) ∨ p1 = (13 : Int32) ∨ (¬ p1 < (32 : Int32) ∧ ¬ (55295 : Int32) < p1) ∨ (¬ p1 < (57344 : Int32) ∧ ¬ (65533 : Int32) < p1) ∨ (¬ p1 < (65536 : Int32) ∧ ¬ (1114111 : Int32) < p1)) then (1 : Int32) else (0 : Int32)) = (1 : Int32) := by simp [h1, h2, h3, h4, h6, h7, h8, h9]
                  rw [hj] at k
                  show Steps p.tables e below (T.setTop (mkF m 0 #[.val (.ref a1), .val (.int p1), .unset] [])) _
                  refine XS.iloadN X.here hx rfl (hb hby d1_0) rfl ?_
                  show Steps p.tables e below (T.setTop (mkF m 1 #[.val (.ref a1), .val (.int p1), .unset] [(.int p1)])) _
                  refine XS.bipush X.here hx rfl (hb hby d1_1) ?_
                  show Steps p.tables e below (T.setTop (mkF m 3 #[.val (.ref a1), .val (.int p1), .unset] [(.int (9 : Int32)), (.int p1)])) _
                  refine XS.icmpNo X.here hx rfl (hb hby d1_3) rfl (XT.ii_eq_f h1) ?_
                  show Steps p.tables e below (T.setTop (mkF m 6 #[.val (.ref a1), .val (.int p1), .unset] [])) _
                  refine XS.iloadN X.here hx rfl (hb hby d1_6) rfl ?_
                  show Steps p.tables e below (T.setTop (mkF m 7 #[.val (.ref a1), .val (.int p1), .unset] [(.int p1)])) _
                  refine XS.bipush X.here hx rfl (hb hby d1_7) ?_
                  show Steps p.tables e below (T.setTop (mkF m 9 #[.val (.ref a1), .val (.int p1), .unset] [(.int (10 : Int32)), (.int p1)])) _
                  refine XS.icmpNo X.here hx rfl (hb hby d1_9) rfl (XT.ii_eq_f h2) ?_
                  show Steps p.tables e below (T.setTop (mkF m 12 #[.val (.ref a1), .val (.int p1), .unset] [])) _
                  refine XS.iloadN X.here hx rfl (hb hby d1_12) rfl ?_
                  show Steps p.tables e below (T.setTop (mkF m 13 #[.val (.ref a1), .val (.int p1), .unset] [(.int p1)])) _
                  refine XS.bipush X.here hx rfl (hb hby d1_13) ?_
                  show Steps p.tables e below (T.setTop (mkF m 15 #[.val (.ref a1), .val (.int p1), .unset] [(.int (13 : Int32)), (.int p1)])) _
                  refine XS.icmpNo X.here hx rfl (hb hby d1_15) rfl (XT.ii_eq_f h3) ?_
                  show Steps p.tables e below (T.setTop (mkF m 18 #[.val (.ref a1), .val (.int p1), .unset] [])) _
                  refine XS.iloadN X.here hx rfl (hb hby d1_18) rfl ?_
                  show Steps p.tables e below (T.setTop (mkF m 19 #[.val (.ref a1), .val (.int p1), .unset] [(.int p1)])) _
                  refine XS.bipush X.here hx rfl (hb hby d1_19) ?_
                  show Steps p.tables e below (T.setTop (mkF m 21 #[.val (.ref a1), .val (.int p1), .unset] [(.int (32 : Int32)), (.int p1)])) _
                  refine XS.icmpYes X.here hx rfl (pc0 := 21) (pc' := 30) rfl (hb hby d1_21) rfl (XT.ii_lt_t h4) (by decide) (by decide) ?_
                  show Steps p.tables e below (T.setTop (mkF m 30 #[.val (.ref a1), .val (.int p1), .unset] [])) _
                  refine XS.iloadN X.here hx rfl (hb hby d1_30) rfl ?_
                  show Steps p.tables e below (T.setTop (mkF m 31 #[.val (.ref a1), .val (.int p1), .unset] [(.int p1)])) _
                  refine Jvm.Stand.ldcI X hx hown (mvT hZ (hw _ (List.mem_of_getElem? (i := 8) rfl))) (g := (mkF m 31 #[.val (.ref a1), .val (.int p1), .unset] [(.int p1)])) rfl (hb hby d1_31) ?_
                  show Steps p.tables e below (T.setTop (mkF m 33 #[.val (.ref a1), .val (.int p1), .unset] [(.int (57344 : Int32)), (.int p1)])) _
                  refine XS.icmpNo X.here hx rfl (hb hby d1_33) rfl (XT.ii_lt_f h6) ?_
                  show Steps p.tables e below (T.setTop (mkF m 36 #[.val (.ref a1), .val (.int p1), .unset] [])) _
                  refine XS.iloadN X.here hx rfl (hb hby d1_36) rfl ?_
                  show Steps p.tables e below (T.setTop (mkF m 37 #[.val (.ref a1), .val (.int p1), .unset] [(.int p1)])) _
                  refine Jvm.Stand.ldcI X hx hown (mvT hZ (hw _ (List.mem_of_getElem? (i := 29) rfl))) (g := (mkF m 37 #[.val (.ref a1), .val (.int p1), .unset] [(.int p1)])) rfl (hb hby d1_37) ?_
                  show Steps p.tables e below (T.setTop (mkF m 39 #[.val (.ref a1), .val (.int p1), .unset] [(.int (65533 : Int32)), (.int p1)])) _
                  refine XS.icmpNo X.here hx rfl (hb hby d1_39) rfl (XT.ii_le_f h7) ?_
                  show Steps p.tables e below (T.setTop (mkF m 42 #[.val (.ref a1), .val (.int p1), .unset] [])) _
                  refine XS.iloadN X.here hx rfl (hb hby d1_42) rfl ?_
                  show Steps p.tables e below (T.setTop (mkF m 43 #[.val (.ref a1), .val (.int p1), .unset] [(.int p1)])) _
                  refine Jvm.Stand.ldcI X hx hown (mvT hZ (hw _ (List.mem_of_getElem? (i := 9) rfl))) (g := (mkF m 43 #[.val (.ref a1), .val (.int p1), .unset] [(.int p1)])) rfl (hb hby d1_43) ?_
                  show Steps p.tables e below (T.setTop (mkF m 45 #[.val (.ref a1), .val (.int p1), .unset] [(.int (65536 : Int32)), (.int p1)])) _
                  refine XS.icmpNo X.here hx rfl (hb hby d1_45) rfl (XT.ii_lt_f h8) ?_
                  show Steps p.tables e below (T.setTop (mkF m 48 #[.val (.ref a1), .val (.int p1), .unset] [])) _
                  refine XS.iloadN X.here hx rfl (hb hby d1_48) rfl ?_
                  show Steps p.tables e below (T.setTop (mkF m 49 #[.val (.ref a1), .val (.int p1), .unset] [(.int p1)])) _
                  refine Jvm.Stand.ldcI X hx hown (mvT hZ (hw _ (List.mem_of_getElem? (i := 30) rfl))) (g := (mkF m 49 #[.val (.ref a1), .val (.int p1), .unset] [(.int p1)])) rfl (hb hby d1_49) ?_
                  show Steps p.tables e below (T.setTop (mkF m 51 #[.val (.ref a1), .val (.int p1), .unset] [(.int (1114111 : Int32)), (.int p1)])) _
                  refine XS.icmpNo X.here hx rfl (hb hby d1_51) rfl (XT.ii_gt_f h9) ?_
                  show Steps p.tables e below (T.setTop (mkF m 54 #[.val (.ref a1), .val (.int p1), .unset] [])) _
                  refine XS.iconst X.here hx rfl (hb hby d1_54) ?_
                  show Steps p.tables e below (T.setTop (mkF m 55 #[.val (.ref a1), .val (.int p1), .unset] [(.int (1 : Int32))])) _
                  refine XS.goto X.here hx rfl (pc0 := 55) (pc' := 59) rfl (hb hby d1_55) (by decide) (by decide) ?_
                  show Steps p.tables e below (T.setTop (mkF m 59 #[.val (.ref a1), .val (.int p1), .unset] [(.int (1 : Int32))])) _
                  exact k
            · refine ⟨T, _, X, eT, N, fun target k => ?_⟩
              have hj : (if (p1 = (9 : Int32) ∨ p1 = (10 : Int32) ∨ p1 = (13 : Int32) ∨ (¬ p1 < (32 : Int32) ∧ ¬ (55295 : Int32) < p1) ∨ (¬ p1 < (57344 : Int32) ∧ ¬ (65533 : Int32) < p1) ∨ (¬ p1 < (65536 : Int32) ∧ ¬ (1114111 : Int32) < p1)) then (1 : Int32) else (0 : Int32)) = (1 : Int32) := by simp [h1, h2, h3, h4, h6, h7]
              rw [hj] at k
              show Steps p.tables e below (T.setTop (mkF m 0 #[.val (.ref a1), .val (.int p1), .unset] [])) _
              refine XS.iloadN X.here hx rfl (hb hby d1_0) rfl ?_
              show Steps p.tables e below (T.setTop (mkF m 1 #[.val (.ref a1), .val (.int p1), .unset] [(.int p1)])) _
              refine XS.bipush X.here hx rfl (hb hby d1_1) ?_
              show Steps p.tables e below (T.setTop (mkF m 3 #[.val (.ref a1), .val (.int p1), .unset] [(.int (9 : Int32)), (.int p1)])) _
              refine XS.icmpNo X.here hx rfl (hb hby d1_3) rfl (XT.ii_eq_f h1) ?_
              show Steps p.tables e below (T.setTop (mkF m 6 #[.val (.ref a1), .val (.int p1), .unset] [])) _
              refine XS.iloadN X.here hx rfl (hb hby d1_6) rfl ?_
              show Steps p.tables e below (T.setTop (mkF m 7 #[.val (.ref a1), .val (.int p1), .unset] [(.int p1)])) _
              refine XS.bipush X.here hx rfl (hb hby d1_7) ?_
              show Steps p.tables e below (T.setTop (mkF m 9 #[.val (.ref a1), .val (.int p1), .unset] [(.int (10 : Int32)), (.int p1)])) _
              refine XS.icmpNo X.here hx rfl (hb hby d1_9) rfl (XT.ii_eq_f h2) ?_
              show Steps p.tables e below (T.setTop (mkF m 12 #[.val (.ref a1), .val (.int p1), .unset] [])) _
              refine XS.iloadN X.here hx rfl (hb hby d1_12) rfl ?_
              show Steps p.tables e below (T.setTop (mkF m 13 #[.val (.ref a1), .val (.int p1), .unset] [(.int p1)])) _
              refine XS.bipush X.here hx rfl (hb hby d1_13) ?_
              show Steps p.tables e below (T.setTop (mkF m 15 #[.val (.ref a1), .val (.int p1), .unset] [(.int (13 : Int32)), (.int p1)])) _
              refine XS.icmpNo X.here hx rfl (hb hby d1_15) rfl (XT.ii_eq_f h3) ?_
              show Steps p.tables e below (T.setTop (mkF m 18 #[.val (.ref a1), .val (.int p1), .unset] [])) _
              refine XS.iloadN X.here hx rfl (hb hby d1_18) rfl ?_
              show Steps p.tables e below (T.setTop (mkF m 19 #[.val (.ref a1), .val (.int p1), .unset] [(.int p1)])) _
              refine XS.bipush X.here hx rfl (hb hby d1_19) ?_
              show Steps p.tables e below (T.setTop (mkF m 21 #[.val (.ref a1), .val (.int p1), .unset] [(.int (32 : Int32)), (.int p1)])) _
              refine XS.icmpYes X.here hx rfl (pc0 := 21) (pc' := 30) rfl (hb hby d1_21) rfl (XT.ii_lt_t h4) (by decide) (by decide) ?_
              show Steps p.tables e below (T.setTop (mkF m 30 #[.val (.ref a1), .val (.int p1), .unset] [])) _
              refine XS.iloadN X.here hx rfl (hb hby d1_30) rfl ?_
              show Steps p.tables e below (T.setTop (mkF m 31 #[.val (.ref a1), .val (.int p1), .unset] [(.int p1)])) _
              refine Jvm.Stand.ldcI X hx hown (mvT hZ (hw _ (List.mem_of_getElem? (i := 8) rfl))) (g := (mkF m 31 #[.val (.ref a1), .val (.int p1), .unset] [(.int p1)])) rfl (hb hby d1_31) ?_
              show Steps p.tables e below (T.setTop (mkF m 33 #[.val (.ref a1), .val (.int p1), .unset] [(.int (57344 : Int32)), (.int p1)])) _
              refine XS.icmpNo X.here hx rfl (hb hby d1_33) rfl (XT.ii_lt_f h6) ?_
              show Steps p.tables e below (T.setTop (mkF m 36 #[.val (.ref a1), .val (.int p1), .unset] [])) _
              refine XS.iloadN X.here hx rfl (hb hby d1_36) rfl ?_
              show Steps p.tables e below (T.setTop (mkF m 37 #[.val (.ref a1), .val (.int p1), .unset] [(.int p1)])) _
              refine Jvm.Stand.ldcI X hx hown (mvT hZ (hw _ (List.mem_of_getElem? (i := 29) rfl))) (g := (mkF m 37 #[.val (.ref a1), .val (.int p1), .unset] [(.int p1)])) rfl (hb hby d1_37) ?_
              show Steps p.tables e below (T.setTop (mkF m 39 #[.val (.ref a1), .val (.int p1), .unset] [(.int (65533 : Int32)), (.int p1)])) _
              refine XS.icmpYes X.here hx rfl (pc0 := 39) (pc' := 54) rfl (hb hby d1_39) rfl (XT.ii_le_t h7) (by decide) (by decide) ?_
              show Steps p.tables e below (T.setTop (mkF m 54 #[.val (.ref a1), .val (.int p1), .unset] [])) _
              refine XS.iconst X.here hx rfl (hb hby d1_54) ?_
              show Steps p.tables e below (T.setTop (mkF m 55 #[.val (.ref a1), .val (.int p1), .unset] [(.int (1 : Int32))])) _
              refine XS.goto X.here hx rfl (pc0 := 55) (pc' := 59) rfl (hb hby d1_55) (by decide) (by decide) ?_
              show Steps p.tables e below (T.setTop (mkF m 59 #[.val (.ref a1), .val (.int p1), .unset] [(.int (1 : Int32))])) _
              exact k
        · by_cases h5 : (55295 : Int32) < p1
          · by_cases h6 : p1 < (57344 : Int32)
            · by_cases h8 : p1 < (65536 : Int32)
              · refine ⟨T, _, X, eT, N, fun target k => ?_⟩
                have hj : (if (p1 = (9 : Int32) ∨ p1 = (10 : Int32) ∨ p1 = (13 : Int32) ∨ (¬ p1 < (32 : Int32) ∧ ¬ (55295 : Int32) < p1) ∨ (¬ p1 < (57344 : Int32) ∧ ¬ (65533 : Int32) < p1) ∨ (¬ p1 < (65536 : Int32) ∧ ¬ (1114111 : Int32) < p1)) then (1 : Int32) else (0 : Int32)) = (0 : Int32) := by simp [h1, h2, h3, h4, h5, h6, h8]
                rw [hj] at k
                show Steps p.tables e below (T.setTop (mkF m 0 #[.val (.ref a1), .val (.int p1), .unset] [])) _
                refine XS.iloadN X.here hx rfl (hb hby d1_0) rfl ?_
                show Steps p.tables e below (T.setTop (mkF m 1 #[.val (.ref a1), .val (.int p1), .unset] [(.int p1)])) _
                refine XS.bipush X.here hx rfl (hb hby d1_1) ?_
                show Steps p.tables e below (T.setTop (mkF m 3 #[.val (.ref a1), .val (.int p1), .unset] [(.int (9 : Int32)), (.int p1)])) _
                refine XS.icmpNo X.here hx rfl (hb hby d1_3) rfl (XT.ii_eq_f h1) ?_
                show Steps p.tables e below (T.setTop (mkF m 6 #[.val (.ref a1), .val (.int p1), .unset] [])) _
                refine XS.iloadN X.here hx rfl (hb hby d1_6) rfl ?_
                show Steps p.tables e below (T.setTop (mkF m 7 #[.val (.ref a1), .val (.int p1), .unset] [(.int p1)])) _
                refine XS.bipush X.here hx rfl (hb hby d1_7) ?_
                show Steps p.tables e below (T.setTop (mkF m 9 #[.val (.ref a1), .val (.int p1), .unset] [(.int (10 : Int32)), (.int p1)])) _
                refine XS.icmpNo X.here hx rfl (hb hby d1_9) rfl (XT.ii_eq_f h2) ?_
                show Steps p.tables e below (T.setTop (mkF m 12 #[.val (.ref a1), .val (.int p1), .unset] [])) _
                refine XS.iloadN X.here hx rfl (hb hby d1_12) rfl ?_
                show Steps p.tables e below (T.setTop (mkF m 13 #[.val (.ref a1), .val (.int p1), .unset] [(.int p1)])) _
                refine XS.bipush X.here hx rfl (hb hby d1_13) ?_
                show Steps p.tables e below (T.setTop (mkF m 15 #[.val (.ref a1), .val (.int p1), .unset] [(.int (13 : Int32)), (.int p1)])) _
                refine XS.icmpNo X.here hx rfl (hb hby d1_15) rfl (XT.ii_eq_f h3) ?_
                show Steps p.tables e below (T.setTop (mkF m 18 #[.val (.ref a1), .val (.int p1), .unset] [])) _
                refine XS.iloadN X.here hx rfl (hb hby d1_18) rfl ?_
                show Steps p.tables e below (T.setTop (mkF m 19 #[.val (.ref a1), .val (.int p1), .unset] [(.int p1)])) _
                refine XS.bipush X.here hx rfl (hb hby d1_19) ?_
                show Steps p.tables e below (T.setTop (mkF m 21 #[.val (.ref a1), .val (.int p1), .unset] [(.int (32 : Int32)), (.int p1)])) _
                refine XS.icmpNo X.here hx rfl (hb hby d1_21) rfl (XT.ii_lt_f h4) ?_
                show Steps p.tables e below (T.setTop (mkF m 24 #[.val (.ref a1), .val (.int p1), .unset] [])) _
                refine XS.iloadN X.here hx rfl (hb hby d1_24) rfl ?_
                show Steps p.tables e below (T.setTop (mkF m 25 #[.val (.ref a1), .val (.int p1), .unset] [(.int p1)])) _
                refine Jvm.Stand.ldcI X hx hown (mvT hZ (hw _ (List.mem_of_getElem? (i := 27) rfl))) (g := (mkF m 25 #[.val (.ref a1), .val (.int p1), .unset] [(.int p1)])) rfl (hb hby d1_25) ?_
                show Steps p.tables e below (T.setTop (mkF m 27 #[.val (.ref a1), .val (.int p1), .unset] [(.int (55295 : Int32)), (.int p1)])) _
                refine XS.icmpNo X.here hx rfl (hb hby d1_27) rfl (XT.ii_le_f h5) ?_
                show Steps p.tables e below (T.setTop (mkF m 30 #[.val (.ref a1), .val (.int p1), .unset] [])) _
                refine XS.iloadN X.here hx rfl (hb hby d1_30) rfl ?_
                show Steps p.tables e below (T.setTop (mkF m 31 #[.val (.ref a1), .val (.int p1), .unset] [(.int p1)])) _
                refine Jvm.Stand.ldcI X hx hown (mvT hZ (hw _ (List.mem_of_getElem? (i := 8) rfl))) (g := (mkF m 31 #[.val (.ref a1), .val (.int p1), .unset] [(.int p1)])) rfl (hb hby d1_31) ?_
                show Steps p.tables e below (T.setTop (mkF m 33 #[.val (.ref a1), .val (.int p1), .unset] [(.int (57344 : Int32)), (.int p1)])) _
                refine XS.icmpYes X.here hx rfl (pc0 := 33) (pc' := 42) rfl (hb hby d1_33) rfl (XT.ii_lt_t h6) (by decide) (by decide) ?_
                show Steps p.tables e below (T.setTop (mkF m 42 #[.val (.ref a1), .val (.int p1), .unset] [])) _
                refine XS.iloadN X.here hx rfl (hb hby d1_42) rfl ?_
                show Steps p.tables e below (T.setTop (mkF m 43 #[.val (.ref a1), .val (.int p1), .unset] [(.int p1)])) _
                refine Jvm.Stand.ldcI X hx hown (mvT hZ (hw _ (List.mem_of_getElem? (i := 9) rfl))) (g := (mkF m 43 #[.val (.ref a1), .val (.int p1), .unset] [(.int p1)])) rfl (hb hby d1_43) ?_
                show Steps p.tables e below (T.setTop (mkF m 45 #[.val (.ref a1), .val (.int p1), .unset] [(.int (65536 : Int32)), (.int p1)])) _
                refine XS.icmpYes X.here hx rfl (pc0 := 45) (pc' := 58) rfl (hb hby d1_45) rfl (XT.ii_lt_t h8) (by decide) (by decide) ?_
                show Steps p.tables e below (T.setTop (mkF m 58 #[.val (.ref a1), .val (.int p1), .unset] [])) _
                refine XS.iconst X.here hx rfl (hb hby d1_58) ?_
                show Steps p.tables e below (T.setTop (mkF m 59 #[.val (.ref a1), .val (.int p1), .unset] [(.int (0 : Int32))])) _
                exact k
              · by_cases h9 : (1114111 : Int32) < p1
                · refine ⟨T, _, X, eT, N, fun target k => ?_⟩
                  have hj : (if (p1 = (9 : Int32) ∨ p1 = (10 : Int32) ∨ p1 = (13 : Int32) ∨ (¬ p1 < (32 : Int32) ∧ ¬ (55295 : Int32) < p1) ∨ (¬ p1 < (57344 : Int32) ∧ ¬ (65533 : Int32) < p1) ∨ (¬ p1 < (65536 : Int32) ∧ ¬ (1114111 : Int32) < p1)) then (1 : Int32) else (0 : Int32)) = (0 : Int32) := by simp [h1, h2, h3, h4, h5, h6, h8, h9]
                  rw [hj] at k
                  show Steps p.tables e below (T.setTop (mkF m 0 #[.val (.ref a1), .val (.int p1), .unset] [])) _
                  refine XS.iloadN X.here hx rfl (hb hby d1_0) rfl ?_
                  show Steps p.tables e below (T.setTop (mkF m 1 #[.val (.ref a1), .val (.int p1), .unset] [(.int p1)])) _
                  refine XS.bipush X.here hx rfl (hb hby d1_1) ?_
                  show Steps p.tables e below (T.setTop (mkF m 3 #[.val (.ref a1), .val (.int p1), .unset] [(.int (9 : Int32)), (.int p1)])) _
                  refine XS.icmpNo X.here hx rfl (hb hby d1_3) rfl (XT.ii_eq_f h1) ?_
                  show Steps p.tables e below (T.setTop (mkF m 6 #[.val (.ref a1), .val (.int p1), .unset] [])) _
                  refine XS.iloadN X.here hx rfl (hb hby d1_6) rfl ?_
                  show Steps p.tables e below (T.setTop (mkF m 7 #[.val (.ref a1), .val (.int p1), .unset] [(.int p1)])) _
                  refine XS.bipush X.here hx rfl (hb hby d1_7) ?_
                  show Steps p.tables e below (T.setTop (mkF m 9 #[.val (.ref a1), .val (.int p1), .unset] [(.int (10 : Int32)), (.int p1)])) _
                  refine XS.icmpNo X.here hx rfl (hb hby d1_9) rfl (XT.ii_eq_f h2) ?_
                  show Steps p.tables e below (T.setTop (mkF m 12 #[.val (.ref a1), .val (.int p1), .unset] [])) _
                  refine XS.iloadN X.here hx rfl (hb hby d1_12) rfl ?_
                  show Steps p.tables e below (T.setTop (mkF m 13 #[.val (.ref a1), .val (.int p1), .unset] [(.int p1)])) _
                  refine XS.bipush X.here hx rfl (hb hby d1_13) ?_
                  show Steps p.tables e below (T.setTop (mkF m 15 #[.val (.ref a1), .val (.int p1), .unset] [(.int (13 : Int32)), (.int p1)])) _
                  refine XS.icmpNo X.here hx rfl (hb hby d1_15) rfl (XT.ii_eq_f h3) ?_
                  show Steps p.tables e below (T.setTop (mkF m 18 #[.val (.ref a1), .val (.int p1), .unset] [])) _
                  refine XS.iloadN X.here hx rfl (hb hby d1_18) rfl ?_
                  show Steps p.tables e below (T.setTop (mkF m 19 #[.val (.ref a1), .val (.int p1), .unset] [(.int p1)])) _
                  refine XS.bipush X.here hx rfl (hb hby d1_19) ?_
                  show Steps p.tables e below (T.setTop (mkF m 21 #[.val (.ref a1), .val (.int p1), .unset] [(.int (32 : Int32)), (.int p1)])) _
                  refine XS.icmpNo X.here hx rfl (hb hby d1_21) rfl (XT.ii_lt_f h4) ?_
                  show Steps p.tables e below (T.setTop (mkF m 24 #[.val (.ref a1), .val (.int p1), .unset] [])) _
                  refine XS.iloadN X.here hx rfl (hb hby d1_24) rfl ?_
                  show Steps p.tables e below (T.setTop (mkF m 25 #[.val (.ref a1), .val (.int p1), .unset] [(.int p1)])) _
                  refine Jvm.Stand.ldcI X hx hown (mvT hZ (hw _ (List.mem_of_getElem? (i := 27) rfl))) (g := (mkF m 25 #[.val (.ref a1), .val (.int p1), .unset] [(.int p1)])) rfl (hb hby d1_25) ?_
                  show Steps p.tables e below (T.setTop (mkF m 27 #[.val (.ref a1), .val (.int p1), .unset] [(.int (55295 : Int32)), (.int p1)])) _
                  refine XS.icmpNo X.here hx rfl (hb hby d1_27) rfl (XT.ii_le_f h5) ?_
                  show Steps p.tables e below (T.setTop (mkF m 30 #[.val (.ref a1), .val (.int p1), .unset] [])) _
                  refine XS.iloadN X.here hx rfl (hb hby d1_30) rfl ?_
                  show Steps p.tables e below (T.setTop (mkF m 31 #[.val (.ref a1), .val (.int p1), .unset] [(.int p1)])) _
                  refine Jvm.Stand.ldcI X hx hown (mvT hZ (hw _ (List.mem_of_getElem? (i := 8) rfl))) (g := (mkF m 31 #[.val (.ref a1), .val (.int p1), .unset] [(.int p1)])) rfl (hb hby d1_31) ?_
                  show Steps p.tables e below (T.setTop (mkF m 33 #[.val (.ref a1), .val (.int p1), .unset] [(.int (57344 : Int32)), (.int p1)])) _
                  refine XS.icmpYes X.here hx rfl (pc0 := 33) (pc' := 42) rfl (hb hby d1_33) rfl (XT.ii_lt_t h6) (by decide) (by decide) ?_
                  show Steps p.tables e below (T.setTop (mkF m 42 #[.val (.ref a1), .val (.int p1), .unset] [])) _
                  refine XS.iloadN X.here hx rfl (hb hby d1_42) rfl ?_
                  show Steps p.tables e below (T.setTop (mkF m 43 #[.val (.ref a1), .val (.int p1), .unset] [(.int p1)])) _
                  refine Jvm.Stand.ldcI X hx hown (mvT hZ (hw _ (List.mem_of_getElem? (i := 9) rfl))) (g := (mkF m 43 #[.val (.ref a1), .val (.int p1), .unset] [(.int p1)])) rfl (hb hby d1_43) ?_
                  show Steps p.tables e below (T.setTop (mkF m 45 #[.val (.ref a1), .val (.int p1), .unset] [(.int (65536 : Int32)), (.int p1)])) _
                  refine XS.icmpNo X.here hx rfl (hb hby d1_45) rfl (XT.ii_lt_f h8) ?_
                  show Steps p.tables e below (T.setTop (mkF m 48 #[.val (.ref a1), .val (.int p1), .unset] [])) _
                  refine XS.iloadN X.here hx rfl (hb hby d1_48) rfl ?_
                  show Steps p.tables e below (T.setTop (mkF m 49 #[.val (.ref a1), .val (.int p1), .unset] [(.int p1)])) _
                  refine Jvm.Stand.ldcI X hx hown (mvT hZ (hw _ (List.mem_of_getElem? (i := 30) rfl))) (g := (mkF m 49 #[.val (.ref a1), .val (.int p1), .unset] [(.int p1)])) rfl (hb hby d1_49) ?_
                  show Steps p.tables e below (T.setTop (mkF m 51 #[.val (.ref a1), .val (.int p1), .unset] [(.int (1114111 : Int32)), (.int p1)])) _
                  refine XS.icmpYes X.here hx rfl (pc0 := 51) (pc' := 58) rfl (hb hby d1_51) rfl (XT.ii_gt_t h9) (by decide) (by decide) ?_
                  show Steps p.tables e below (T.setTop (mkF m 58 #[.val (.ref a1), .val (.int p1), .unset] [])) _
                  refine XS.iconst X.here hx rfl (hb hby d1_58) ?_
                  show Steps p.tables e below (T.setTop (mkF m 59 #[.val (.ref a1), .val (.int p1), .unset] [(.int (0 : Int32))])) _
                  exact k
                · refine ⟨T, _, X, eT, N, fun target k => ?_⟩
                  have hj : (if (p1 = (9 : Int32) ∨ p1 = (10 : Int32) ∨ p1 = (13 : Int32) ∨ (¬ p1 < (32 : Int32) ∧ ¬ (55295 : Int32) < p1) ∨ (¬ p1 < (57344 : Int32) ∧ ¬ (65533 : Int32) < p1) ∨ (¬ p1 < (65536 : Int32) ∧ ¬ (1114111 : Int32) < p1)) then (1 : Int32) else (0 : Int32)) = (1 : Int32) := by simp [h1, h2, h3, h4, h5, h6, h8, h9]
                  rw [hj] at k
                  show Steps p.tables e below (T.setTop (mkF m 0 #[.val (.ref a1), .val (.int p1), .unset] [])) _
                  refine XS.iloadN X.here hx rfl (hb hby d1_0) rfl ?_
                  show Steps p.tables e below (T.setTop (mkF m 1 #[.val (.ref a1), .val (.int p1), .unset] [(.int p1)])) _
                  refine XS.bipush X.here hx rfl (hb hby d1_1) ?_
                  show Steps p.tables e below (T.setTop (mkF m 3 #[.val (.ref a1), .val (.int p1), .unset] [(.int (9 : Int32)), (.int p1)])) _
                  refine XS.icmpNo X.here hx rfl (hb hby d1_3) rfl (XT.ii_eq_f h1) ?_
                  show Steps p.tables e below (T.setTop (mkF m 6 #[.val (.ref a1), .val (.int p1), .unset] [])) _
                  refine XS.iloadN X.here hx rfl (hb hby d1_6) rfl ?_
                  show Steps p.tables e below (T.setTop (mkF m 7 #[.val (.ref a1), .val (.int p1), .unset] [(.int p1)])) _
                  refine XS.bipush X.here hx rfl (hb hby d1_7) ?_
                  show Steps p.tables e below (T.setTop (mkF m 9 #[.val (.ref a1), .val (.int p1), .unset] [(.int (10 : Int32)), (.int p1)])) _
                  refine XS.icmpNo X.here hx rfl (hb hby d1_9) rfl (XT.ii_eq_f h2) ?_
                  show Steps p.tables e below (T.setTop (mkF m 12 #[.val (.ref a1), .val (.int p1), .unset] [])) _
                  refine XS.iloadN X.here hx rfl (hb hby d1_12) rfl ?_
                  show Steps p.tables e below (T.setTop (mkF m 13 #[.val (.ref a1), .val (.int p1), .unset] [(.int p1)])) _
                  refine XS.bipush X.here hx rfl (hb hby d1_13) ?_
                  show Steps p.tables e below (T.setTop (mkF m 15 #[.val (.ref a1), .val (.int p1), .unset] [(.int (13 : Int32)), (.int p1)])) _
                  refine XS.icmpNo X.here hx rfl (hb hby d1_15) rfl (XT.ii_eq_f h3) ?_
                  show Steps p.tables e below (T.setTop (mkF m 18 #[.val (.ref a1), .val (.int p1), .unset] [])) _
                  refine XS.iloadN X.here hx rfl (hb hby d1_18) rfl ?_
                  show Steps p.tables e below (T.setTop (mkF m 19 #[.val (.ref a1), .val (.int p1), .unset] [(.int p1)])) _
                  refine XS.bipush X.here hx rfl (hb hby d1_19) ?_
                  show Steps p.tables e below (T.setTop (mkF m 21 #[.val (.ref a1), .val (.int p1), .unset] [(.int (32 : Int32)), (.int p1)])) _
                  refine XS.icmpNo X.here hx rfl (hb hby d1_21) rfl (XT.ii_lt_f h4) ?_
                  show Steps p.tables e below (T.setTop (mkF m 24 #[.val (.ref a1), .val (.int p1), .unset] [])) _
                  refine XS.iloadN X.here hx rfl (hb hby d1_24) rfl ?_
                  show Steps p.tables e below (T.setTop (mkF m 25 #[.val (.ref a1), .val (.int p1), .unset] [(.int p1)])) _
                  refine Jvm.Stand.ldcI X hx hown (mvT hZ (hw _ (List.mem_of_getElem? (i := 27) rfl))) (g := (mkF m 25 #[.val (.ref a1), .val (.int p1), .unset] [(.int p1)])) rfl (hb hby d1_25) ?_
                  show Steps p.tables e below (T.setTop (mkF m 27 #[.val (.ref a1), .val (.int p1), .unset] [(.int (55295 : Int32)), (.int p1)])) _
                  refine XS.icmpNo X.here hx rfl (hb hby d1_27) rfl (XT.ii_le_f h5) ?_
                  show Steps p.tables e below (T.setTop (mkF m 30 #[.val (.ref a1), .val (.int p1), .unset] [])) _
                  refine XS.iloadN X.here hx rfl (hb hby d1_30) rfl ?_
                  show Steps p.tables e below (T.setTop (mkF m 31 #[.val (.ref a1), .val (.int p1), .unset] [(.int p1)])) _
                  refine Jvm.Stand.ldcI X hx hown (mvT hZ (hw _ (List.mem_of_getElem? (i := 8) rfl))) (g := (mkF m 31 #[.val (.ref a1), .val (.int p1), .unset] [(.int p1)])) rfl (hb hby d1_31) ?_
                  show Steps p.tables e below (T.setTop (mkF m 33 #[.val (.ref a1), .val (.int p1), .unset] [(.int (57344 : Int32)), (.int p1)])) _
                  refine XS.icmpYes X.here hx rfl (pc0 := 33) (pc' := 42) rfl (hb hby d1_33) rfl (XT.ii_lt_t h6) (by decide) (by decide) ?_
                  show Steps p.tables e below (T.setTop (mkF m 42 #[.val (.ref a1), .val (.int p1), .unset] [])) _
                  refine XS.iloadN X.here hx rfl (hb hby d1_42) rfl ?_
                  show Steps p.tables e below (T.setTop (mkF m 43 #[.val (.ref a1), .val (.int p1), .unset] [(.int p1)])) _
                  refine Jvm.Stand.ldcI X hx hown (mvT hZ (hw _ (List.mem_of_getElem? (i := 9) rfl))) (g := (mkF m 43 #[.val (.ref a1), .val (.int p1), .unset] [(.int p1)])) rfl (hb hby d1_43) ?_
                  show Steps p.tables e below (T.setTop (mkF m 45 #[.val (.ref a1), .val (.int p1), .unset] [(.int (65536 : Int32)), (.int p1)])) _
                  refine XS.icmpNo X.here hx rfl (hb hby d1_45) rfl (XT.ii_lt_f h8) ?_
                  show Steps p.tables e below (T.setTop (mkF m 48 #[.val (.ref a1), .val (.int p1), .unset] [])) _
                  refine XS.iloadN X.here hx rfl (hb hby d1_48) rfl ?_
                  show Steps p.tables e below (T.setTop (mkF m 49 #[.val (.ref a1), .val (.int p1), .unset] [(.int p1)])) _
                  refine Jvm.Stand.ldcI X hx hown (mvT hZ (hw _ (List.mem_of_getElem? (i := 30) rfl))) (g := (mkF m 49 #[.val (.ref a1), .val (.int p1), .unset] [(.int p1)])) rfl (hb hby d1_49) ?_
                  show Steps p.tables e below (T.setTop (mkF m 51 #[.val (.ref a1), .val (.int p1), .unset] [(.int (1114111 : Int32)), (.int p1)])) _
                  refine XS.icmpNo X.here hx rfl (hb hby d1_51) rfl (XT.ii_gt_f h9) ?_
                  show Steps p.tables e below (T.setTop (mkF m 54 #[.val (.ref a1), .val (.int p1), .unset] [])) _
                  refine XS.iconst X.here hx rfl (hb hby d1_54) ?_
                  show Steps p.tables e below (T.setTop (mkF m 55 #[.val (.ref a1), .val (.int p1), .unset] [(.int (1 : Int32))])) _
                  refine XS.goto X.here hx rfl (pc0 := 55) (pc' := 59) rfl (hb hby d1_55) (by decide) (by decide) ?_
                  show Steps p.tables e below (T.setTop (mkF m 59 #[.val (.ref a1), .val (.int p1), .unset] [(.int (1 : Int32))])) _
                  exact k
            · by_cases h7 : (65533 : Int32) < p1
              · by_cases h8 : p1 < (65536 : Int32)
                · refine ⟨T, _, X, eT, N, fun target k => ?_⟩
                  have hj : (if (p1 = (9 : Int32) ∨ p1 = (10 : Int32) ∨ p1 = (13 : Int32) ∨ (¬ p1 < (32 : Int32) ∧ ¬ (55295 : Int32) < p1) ∨ (¬ p1 < (57344 : Int32) ∧ ¬ (65533 : Int32) < p1) ∨ (¬ p1 < (65536 : Int32) ∧ ¬ (1114111 : Int32) < p1)) then (1 : Int32) else (0 : Int32)) = (0 : Int32) := by simp [h1, h2, h3, h4, h5, h6, h7, h8]
                  rw [hj] at k
                  show Steps p.tables e below (T.setTop (mkF m 0 #[.val (.ref a1), .val (.int p1), .unset] [])) _
                  refine XS.iloadN X.here hx rfl (hb hby d1_0) rfl ?_
                  show Steps p.tables e below (T.setTop (mkF m 1 #[.val (.ref a1), .val (.int p1), .unset] [(.int p1)])) _
                  refine XS.bipush X.here hx rfl (hb hby d1_1) ?_
                  show Steps p.tables e below (T.setTop (mkF m 3 #[.val (.ref a1), .val (.int p1), .unset] [(.int (9 : Int32)), (.int p1)])) _
                  refine XS.icmpNo X.here hx rfl (hb hby d1_3) rfl (XT.ii_eq_f h1) ?_
                  show Steps p.tables e below (T.setTop (mkF m 6 #[.val (.ref a1), .val (.int p1), .unset] [])) _
                  refine XS.iloadN X.here hx rfl (hb hby d1_6) rfl ?_
                  show Steps p.tables e below (T.setTop (mkF m 7 #[.val (.ref a1), .val (.int p1), .unset] [(.int p1)])) _
                  refine XS.bipush X.here hx rfl (hb hby d1_7) ?_
                  show Steps p.tables e below (T.setTop (mkF m 9 #[.val (.ref a1), .val (.int p1), .unset] [(.int (10 : Int32)), (.int p1)])) _
                  refine XS.icmpNo X.here hx rfl (hb hby d1_9) rfl (XT.ii_eq_f h2) ?_
                  show Steps p.tables e below (T.setTop (mkF m 12 #[.val (.ref a1), .val (.int p1), .unset] [])) _
                  refine XS.iloadN X.here hx rfl (hb hby d1_12) rfl ?_
                  show Steps p.tables e below (T.setTop (mkF m 13 #[.val (.ref a1), .val (.int p1), .unset] [(.int p1)])) _
                  refine XS.bipush X.here hx rfl (hb hby d1_13) ?_
                  show Steps p.tables e below (T.setTop (mkF m 15 #[.val (.ref a1), .val (.int p1), .unset] [(.int (13 : Int32)), (.int p1)])) _
                  refine XS.icmpNo X.here hx rfl (hb hby d1_15) rfl (XT.ii_eq_f h3) ?_
                  show Steps p.tables e below (T.setTop (mkF m 18 #[.val (.ref a1), .val (.int p1), .unset] [])) _
                  refine XS.iloadN X.here hx rfl (hb hby d1_18) rfl ?_
                  show Steps p.tables e below (T.setTop (mkF m 19 #[.val (.ref a1), .val (.int p1), .unset] [(.int p1)])) _
                  refine XS.bipush X.here hx rfl (hb hby d1_19) ?_
                  show Steps p.tables e below (T.setTop (mkF m 21 #[.val (.ref a1), .val (.int p1), .unset] [(.int (32 : Int32)), (.int p1)])) _
                  refine XS.icmpNo X.here hx rfl (hb hby d1_21) rfl (XT.ii_lt_f h4) ?_
                  show Steps p.tables e below (T.setTop (mkF m 24 #[.val (.ref a1), .val (.int p1), .unset] [])) _
                  refine XS.iloadN X.here hx rfl (hb hby d1_24) rfl ?_
                  show Steps p.tables e below (T.setTop (mkF m 25 #[.val (.ref a1), .val (.int p1), .unset] [(.int p1)])) _
                  refine Jvm.Stand.ldcI X hx hown (mvT hZ (hw _ (List.mem_of_getElem? (i := 27) rfl))) (g := (mkF m 25 #[.val (.ref a1), .val (.int p1), .unset] [(.int p1)])) rfl (hb hby d1_25) ?_
                  show Steps p.tables e below (T.setTop (mkF m 27 #[.val (.ref a1), .val (.int p1), .unset] [(.int (55295 : Int32)), (.int p1)])) _
                  refine XS.icmpNo X.here hx rfl (hb hby d1_27) rfl (XT.ii_le_f h5) ?_
                  show Steps p.tables e below (T.setTop (mkF m 30 #[.val (.ref a1), .val (.int p1), .unset] [])) _
                  refine XS.iloadN X.here hx rfl (hb hby d1_30) rfl ?_
                  show Steps p.tables e below (T.setTop (mkF m 31 #[.val (.ref a1), .val (.int p1), .unset] [(.int p1)])) _
                  refine Jvm.Stand.ldcI X hx hown (mvT hZ (hw _ (List.mem_of_getElem? (i := 8) rfl))) (g := (mkF m 31 #[.val (.ref a1), .val (.int p1), .unset] [(.int p1)])) rfl (hb hby d1_31) ?_
                  show Steps p.tables e below (T.setTop (mkF m 33 #[.val (.ref a1), .val (.int p1), .unset] [(.int (57344 : Int32)), (.int p1)])) _
                  refine XS.icmpNo X.here hx rfl (hb hby d1_33) rfl (XT.ii_lt_f h6) ?_
                  show Steps p.tables e below (T.setTop (mkF m 36 #[.val (.ref a1), .val (.int p1), .unset] [])) _
                  refine XS.iloadN X.here hx rfl (hb hby d1_36) rfl ?_
                  show Steps p.tables e below (T.setTop (mkF m 37 #[.val (.ref a1), .val (.int p1), .unset] [(.int p1)])) _
                  refine Jvm.Stand.ldcI X hx hown (mvT hZ (hw _ (List.mem_of_getElem? (i := 29) rfl))) (g := (mkF m 37 #[.val (.ref a1), .val (.int p1), .unset] [(.int p1)])) rfl (hb hby d1_37) ?_
                  show Steps p.tables e below (T.setTop (mkF m 39 #[.val (.ref a1), .val (.int p1), .unset] [(.int (65533 : Int32)), (.int p1)])) _
                  refine XS.icmpNo X.here hx rfl (hb hby d1_39) rfl (XT.ii_le_f h7) ?_
                  show Steps p.tables e below (T.setTop (mkF m 42 #[.val (.ref a1), .val (.int p1), .unset] [])) _
                  refine XS.iloadN X.here hx rfl (hb hby d1_42) rfl ?_
                  show Steps p.tables e below (T.setTop (mkF m 43 #[.val (.ref a1), .val (.int p1), .unset] [(.int p1)])) _
                  refine Jvm.Stand.ldcI X hx hown (mvT hZ (hw _ (List.mem_of_getElem? (i := 9) rfl))) (g := (mkF m 43 #[.val (.ref a1), .val (.int p1), .unset] [(.int p1)])) rfl (hb hby d1_43) ?_
                  show Steps p.tables e below (T.setTop (mkF m 45 #[.val (.ref a1), .val (.int p1), .unset] [(.int (65536 : Int32)), (.int p1)])) _
                  refine XS.icmpYes X.here hx rfl (pc0 := 45) (pc' := 58) rfl (hb hby d1_45) rfl (XT.ii_lt_t h8) (by decide) (by decide) ?_
                  show Steps p.tables e below (T.setTop (mkF m 58 #[.val (.ref a1), .val (.int p1), .unset] [])) _
                  refine XS.iconst X.here hx rfl (hb hby d1_58) ?_
                  show Steps p.tables e below (T.setTop (mkF m 59 #[.val (.ref a1), .val (.int p1), .unset] [(.int (0 : Int32))])) _
                  exact k
                · by_cases h9 : (1114111 : Int32) < p1
                  · refine ⟨T, _, X, eT, N, fun target k => ?_⟩
                    have hj : (if (p1 = (9 : Int32) ∨ p1 = (10 : Int32) ∨ p1 = (13 : Int32) ∨ (¬ p1 < (32 : Int32) ∧ ¬ (55295 : Int32) < p1) ∨ (¬ p1 < (57344 : Int32) ∧ ¬ (65533 : Int32) < p1) ∨ (¬ p1 < (65536 : Int32) ∧ ¬ (1114111 : Int32) < p1)) then (1 : Int32) else (0 : Int32)) = (0 : Int32) := by simp [h1, h2, h3, h4, h5, h6, h7, h8, h9]
                    rw [hj] at k
                    show Steps p.tables e below (T.setTop (mkF m 0 #[.val (.ref a1), .val (.int p1), .unset] [])) _
                    refine XS.iloadN X.here hx rfl (hb hby d1_0) rfl ?_
                    show Steps p.tables e below (T.setTop (mkF m 1 #[.val (.ref a1), .val (.int p1), .unset] [(.int p1)])) _
                    refine XS.bipush X.here hx rfl (hb hby d1_1) ?_
                    show Steps p.tables e below (T.setTop (mkF m 3 #[.val (.ref a1), .val (.int p1), .unset] [(.int (9 : Int32)), (.int p1)])) _
                    refine XS.icmpNo X.here hx rfl (hb hby d1_3) rfl (XT.ii_eq_f h1) ?_
                    show Steps p.tables e below (T.setTop (mkF m 6 #[.val (.ref a1), .val (.int p1), .unset] [])) _
                    refine XS.iloadN X.here hx rfl (hb hby d1_6) rfl ?_
                    show Steps p.tables e below (T.setTop (mkF m 7 #[.val (.ref a1), .val (.int p1), .unset] [(.int p1)])) _
                    refine XS.bipush X.here hx rfl (hb hby d1_7) ?_
                    show Steps p.tables e below (T.setTop (mkF m 9 #[.val (.ref a1), .val (.int p1), .unset] [(.int (10 : Int32)), (.int p1)])) _
                    refine XS.icmpNo X.here hx rfl (hb hby d1_9) rfl (XT.ii_eq_f h2) ?_
                    show Steps p.tables e below (T.setTop (mkF m 12 #[.val (.ref a1), .val (.int p1), .unset] [])) _
                    refine XS.iloadN X.here hx rfl (hb hby d1_12) rfl ?_
                    show Steps p.tables e below (T.setTop (mkF m 13 #[.val (.ref a1), .val (.int p1), .unset] [(.int p1)])) _
                    refine XS.bipush X.here hx rfl (hb hby d1_13) ?_
                    show Steps p.tables e below (T.setTop (mkF m 15 #[.val (.ref a1), .val (.int p1), .unset] [(.int (13 : Int32)), (.int p1)])) _
                    refine XS.icmpNo X.here hx rfl (hb hby d1_15) rfl (XT.ii_eq_f h3) ?_
                    show Steps p.tables e below (T.setTop (mkF m 18 #[.val (.ref a1), .val (.int p1), .unset] [])) _
                    refine XS.iloadN X.here hx rfl (hb hby d1_18) rfl ?_
                    show Steps p.tables e below (T.setTop (mkF m 19 #[.val (.ref a1), .val (.int p1), .unset] [(.int p1)])) _
                    refine XS.bipush X.here hx rfl (hb hby d1_19) ?_
                    show Steps p.tables e below (T.setTop (mkF m 21 #[.val (.ref a1), .val (.int p1), .unset] [(.int (32 : Int32)), (.int p1)])) _
                    refine XS.icmpNo X.here hx rfl (hb hby d1_21) rfl (XT.ii_lt_f h4) ?_
                    show Steps p.tables e below (T.setTop (mkF m 24 #[.val (.ref a1), .val (.int p1), .unset] [])) _
                    refine XS.iloadN X.here hx rfl (hb hby d1_24) rfl ?_
                    show Steps p.tables e below (T.setTop (mkF m 25 #[.val (.ref a1), .val (.int p1), .unset] [(.int p1)])) _
                    refine Jvm.Stand.ldcI X hx hown (mvT hZ (hw _ (List.mem_of_getElem? (i := 27) rfl))) (g := (mkF m 25 #[.val (.ref a1), .val (.int p1), .unset] [(.int p1)])) rfl (hb hby d1_25) ?_
                    show Steps p.tables e below (T.setTop (mkF m 27 #[.val (.ref a1), .val (.int p1), .unset] [(.int (55295 : Int32)), (.int p1)])) _
                    refine XS.icmpNo X.here hx rfl (hb hby d1_27) rfl (XT.ii_le_f h5) ?_
                    show Steps p.tables e below (T.setTop (mkF m 30 #[.val (.ref a1), .val (.int p1), .unset] [])) _
                    refine XS.iloadN X.here hx rfl (hb hby d1_30) rfl ?_
                    show Steps p.tables e below (T.setTop (mkF m 31 #[.val (.ref a1), .val (.int p1), .unset] [(.int p1)])) _
                    refine Jvm.Stand.ldcI X hx hown (mvT hZ (hw _ (List.mem_of_getElem? (i := 8) rfl))) (g := (mkF m 31 #[.val (.ref a1), .val (.int p1), .unset] [(.int p1)])) rfl (hb hby d1_31) ?_
                    show Steps p.tables e below (T.setTop (mkF m 33 #[.val (.ref a1), .val (.int p1), .unset] [(.int (57344 : Int32)), (.int p1)])) _
                    refine XS.icmpNo X.here hx rfl (hb hby d1_33) rfl (XT.ii_lt_f h6) ?_
                    show Steps p.tables e below (T.setTop (mkF m 36 #[.val (.ref a1), .val (.int p1), .unset] [])) _
                    refine XS.iloadN X.here hx rfl (hb hby d1_36) rfl ?_
                    show Steps p.tables e below (T.setTop (mkF m 37 #[.val (.ref a1), .val (.int p1), .unset] [(.int p1)])) _
                    refine Jvm.Stand.ldcI X hx hown (mvT hZ (hw _ (List.mem_of_getElem? (i := 29) rfl))) (g := (mkF m 37 #[.val (.ref a1), .val (.int p1), .unset] [(.int p1)])) rfl (hb hby d1_37) ?_
                    show Steps p.tables e below (T.setTop (mkF m 39 #[.val (.ref a1), .val (.int p1), .unset] [(.int (65533 : Int32)), (.int p1)])) _
                    refine XS.icmpNo X.here hx rfl (hb hby d1_39) rfl (XT.ii_le_f h7) ?_
                    show Steps p.tables e below (T.setTop (mkF m 42 #[.val (.ref a1), .val (.int p1), .unset] [])) _
                    refine XS.iloadN X.here hx rfl (hb hby d1_42) rfl ?_
                    show Steps p.tables e below (T.setTop (mkF m 43 #[.val (.ref a1), .val (.int p1), .unset] [(.int p1)])) _
                    refine Jvm.Stand.ldcI X hx hown (mvT hZ (hw _ (List.mem_of_getElem? (i := 9) rfl))) (g := (mkF m 43 #[.val (.ref a1), .val (.int p1), .unset] [(.int p1)])) rfl (hb hby d1_43) ?_
                    show Steps p.tables e below (T.setTop (mkF m 45 #[.val (.ref a1), .val (.int p1), .unset] [(.int (65536 : Int32)), (.int p1)])) _
                    refine XS.icmpNo X.here hx rfl (hb hby d1_45) rfl (XT.ii_lt_f h8) ?_
                    show Steps p.tables e below (T.setTop (mkF m 48 #[.val (.ref a1), .val (.int p1), .unset] [])) _
                    refine XS.iloadN X.here hx rfl (hb hby d1_48) rfl ?_
                    show Steps p.tables e below (T.setTop (mkF m 49 #[.val (.ref a1), .val (.int p1), .unset] [(.int p1)])) _
                    refine Jvm.Stand.ldcI X hx hown (mvT hZ (hw _ (List.mem_of_getElem? (i := 30) rfl))) (g := (mkF m 49 #[.val (.ref a1), .val (.int p1), .unset] [(.int p1)])) rfl (hb hby d1_49) ?_
                    show Steps p.tables e below (T.setTop (mkF m 51 #[.val (.ref a1), .val (.int p1), .unset] [(.int (1114111 : Int32)), (.int p1)])) _
                    refine XS.icmpYes X.here hx rfl (pc0 := 51) (pc' := 58) rfl (hb hby d1_51) rfl (XT.ii_gt_t h9) (by decide) (by decide) ?_
                    show Steps p.tables e below (T.setTop (mkF m 58 #[.val (.ref a1), .val (.int p1), .unset] [])) _
                    refine XS.iconst X.here hx rfl (hb hby d1_58) ?_
                    show Steps p.tables e below (T.setTop (mkF m 59 #[.val (.ref a1), .val (.int p1), .unset] [(.int (0 : Int32))])) _
                    exact k
                  · refine ⟨T, _, X, eT, N, fun target k => ?_⟩
                    have hj : (if (p1 = (9 : Int32) ∨ p1 = (10 : Int32) ∨ p1 = (13 : Int32) ∨ (¬ p1 < (32 : Int32) ∧ ¬ (55295 : Int32) < p1) ∨ (¬ p1 < (57344 : Int32) ∧ ¬ (65533 : Int32) < p1) ∨ (¬ p1 < (65536 : Int32) ∧ ¬ (1114111 : Int32) < p1)) then (1 : Int32) else (0 : Int32)) = (1 : Int32) := by simp [h1, h2, h3, h4, h5, h6, h7, h8, h9]
                    rw [hj] at k
                    show Steps p.tables e below (T.setTop (mkF m 0 #[.val (.ref a1), .val (.int p1), .unset] [])) _
                    refine XS.iloadN X.here hx rfl (hb hby d1_0) rfl ?_
                    show Steps p.tables e below (T.setTop (mkF m 1 #[.val (.ref a1), .val (.int p1), .unset] [(.int p1)])) _
                    refine XS.bipush X.here hx rfl (hb hby d1_1) ?_
                    show Steps p.tables e below (T.setTop (mkF m 3 #[.val (.ref a1), .val (.int p1), .unset] [(.int (9 : Int32)), (.int p1)])) _
                    refine XS.icmpNo X.here hx rfl (hb hby d1_3) rfl (XT.ii_eq_f h1) ?_
                    show Steps p.tables e below (T.setTop (mkF m 6 #[.val (.ref a1), .val (.int p1), .unset] [])) _
                    refine XS.iloadN X.here hx rfl (hb hby d1_6) rfl ?_
                    show Steps p.tables e below (T.setTop (mkF m 7 #[.val (.ref a1), .val (.int p1), .unset] [(.int p1)])) _
                    refine XS.bipush X.here hx rfl (hb hby d1_7) ?_
                    show Steps p.tables e below (T.setTop (mkF m 9 #[.val (.ref a1), .val (.int p1), .unset] [(.int (10 : Int32)), (.int p1)])) _
                    refine XS.icmpNo X.here hx rfl (hb hby d1_9) rfl (XT.ii_eq_f h2) ?_
                    show Steps p.tables e below (T.setTop (mkF m 12 #[.val (.ref a1), .val (.int p1), .unset] [])) _
                    refine XS.iloadN X.here hx rfl (hb hby d1_12) rfl ?_
                    show Steps p.tables e below (T.setTop (mkF m 13 #[.val (.ref a1), .val (.int p1), .unset] [(.int p1)])) _
                    refine XS.bipush X.here hx rfl (hb hby d1_13) ?_
                    show Steps p.tables e below (T.setTop (mkF m 15 #[.val (.ref a1), .val (.int p1), .unset] [(.int (13 : Int32)), (.int p1)])) _
                    refine XS.icmpNo X.here hx rfl (hb hby d1_15) rfl (XT.ii_eq_f h3) ?_
                    show Steps p.tables e below (T.setTop (mkF m 18 #[.val (.ref a1), .val (.int p1), .unset] [])) _
                    refine XS.iloadN X.here hx rfl (hb hby d1_18) rfl ?_
                    show Steps p.tables e below (T.setTop (mkF m 19 #[.val (.ref a1), .val (.int p1), .unset] [(.int p1)])) _
                    refine XS.bipush X.here hx rfl (hb hby d1_19) ?_
                    show Steps p.tables e below (T.setTop (mkF m 21 #[.val (.ref a1), .val (.int p1), .unset] [(.int (32 : Int32)), (.int p1)])) _
                    refine XS.icmpNo X.here hx rfl (hb hby d1_21) rfl (XT.ii_lt_f h4) ?_
                    show Steps p.tables e below (T.setTop (mkF m 24 #[.val (.ref a1), .val (.int p1), .unset] [])) _
                    refine XS.iloadN X.here hx rfl (hb hby d1_24) rfl ?_
                    show Steps p.tables e below (T.setTop (mkF m 25 #[.val (.ref a1), .val (.int p1), .unset] [(.int p1)])) _
                    refine Jvm.Stand.ldcI X hx hown (mvT hZ (hw _ (List.mem_of_getElem? (i := 27) rfl))) (g := (mkF m 25 #[.val (.ref a1), .val (.int p1), .unset] [(.int p1)])) rfl (hb hby d1_25) ?_
                    show Steps p.tables e below (T.setTop (mkF m 27 #[.val (.ref a1), .val (.int p1), .unset] [(.int (55295 : Int32)), (.int p1)])) _
                    refine XS.icmpNo X.here hx rfl (hb hby d1_27) rfl (XT.ii_le_f h5) ?_
                    show Steps p.tables e below (T.setTop (mkF m 30 #[.val (.ref a1), .val (.int p1), .unset] [])) _
                    refine XS.iloadN X.here hx rfl (hb hby d1_30) rfl ?_
                    show Steps p.tables e below (T.setTop (mkF m 31 #[.val (.ref a1), .val (.int p1), .unset] [(.int p1)])) _
                    refine Jvm.Stand.ldcI X hx hown (mvT hZ (hw _ (List.mem_of_getElem? (i := 8) rfl))) (g := (mkF m 31 #[.val (.ref a1), .val (.int p1), .unset] [(.int p1)])) rfl (hb hby d1_31) ?_
                    show Steps p.tables e below (T.setTop (mkF m 33 #[.val (.ref a1), .val (.int p1), .unset] [(.int (57344 : Int32)), (.int p1)])) _
                    refine XS.icmpNo X.here hx rfl (hb hby d1_33) rfl (XT.ii_lt_f h6) ?_
                    show Steps p.tables e below (T.setTop (mkF m 36 #[.val (.ref a1), .val (.int p1), .unset] [])) _
                    refine XS.iloadN X.here hx rfl (hb hby d1_36) rfl ?_
                    show Steps p.tables e below (T.setTop (mkF m 37 #[.val (.ref a1), .val (.int p1), .unset] [(.int p1)])) _
                    refine Jvm.Stand.ldcI X hx hown (mvT hZ (hw _ (List.mem_of_getElem? (i := 29) rfl))) (g := (mkF m 37 #[.val (.ref a1), .val (.int p1), .unset] [(.int p1)])) rfl (hb hby d1_37) ?_
                    show Steps p.tables e below (T.setTop (mkF m 39 #[.val (.ref a1), .val (.int p1), .unset] [(.int (65533 : Int32)), (.int p1)])) _
                    refine XS.icmpNo X.here hx rfl (hb hby d1_39) rfl (XT.ii_le_f h7) ?_
                    show Steps p.tables e below (T.setTop (mkF m 42 #[.val (.ref a1), .val (.int p1), .unset] [])) _
                    refine XS.iloadN X.here hx rfl (hb hby d1_42) rfl ?_
                    show Steps p.tables e below (T.setTop (mkF m 43 #[.val (.ref a1), .val (.int p1), .unset] [(.int p1)])) _
                    refine Jvm.Stand.ldcI X hx hown (mvT hZ (hw _ (List.mem_of_getElem? (i := 9) rfl))) (g := (mkF m 43 #[.val (.ref a1), .val (.int p1), .unset] [(.int p1)])) rfl (hb hby d1_43) ?_
                    show Steps p.tables e below (T.setTop (mkF m 45 #[.val (.ref a1), .val (.int p1), .unset] [(.int (65536 : Int32)), (.int p1)])) _
                    refine XS.icmpNo X.here hx rfl (hb hby d1_45) rfl (XT.ii_lt_f h8) ?_
                    show Steps p.tables e below (T.setTop (mkF m 48 #[.val (.ref a1), .val (.int p1), .unset] [])) _
                    refine XS.iloadN X.here hx rfl (hb hby d1_48) rfl ?_
                    show Steps p.tables e below (T.setTop (mkF m 49 #[.val (.ref a1), .val (.int p1), .unset] [(.int p1)])) _
                    refine Jvm.Stand.ldcI X hx hown (mvT hZ (hw _ (List.mem_of_getElem? (i := 30) rfl))) (g := (mkF m 49 #[.val (.ref a1), .val (.int p1), .unset] [(.int p1)])) rfl (hb hby d1_49) ?_
                    show Steps p.tables e below (T.setTop (mkF m 51 #[.val (.ref a1), .val (.int p1), .unset] [(.int (1114111 : Int32)), (.int p1)])) _
                    refine XS.icmpNo X.here hx rfl (hb hby d1_51) rfl (XT.ii_gt_f h9) ?_
                    show Steps p.tables e below (T.setTop (mkF m 54 #[.val (.ref a1), .val (.int p1), .unset] [])) _
                    refine XS.iconst X.here hx rfl (hb hby d1_54) ?_
                    show Steps p.tables e below (T.setTop (mkF m 55 #[.val (.ref a1), .val (.int p1), .unset] [(.int (1 : Int32))])) _
                    refine XS.goto X.here hx rfl (pc0 := 55) (pc' := 59) rfl (hb hby d1_55) (by decide) (by decide) ?_
                    show Steps p.tables e below (T.setTop (mkF m 59 #[.val (.ref a1), .val (.int p1), .unset] [(.int (1 : Int32))])) _
                    exact k
              · refine ⟨T, _, X, eT, N, fun target k => ?_⟩
                have hj : (if (p1 = (9 : Int32) ∨ p1 = (10 : Int32) ∨ p1 = (13 : Int32) ∨ (¬ p1 < (32 : Int32) ∧ ¬ (55295 : Int32) < p1) ∨ (¬ p1 < (57344 : Int32) ∧ ¬ (65533 : Int32) < p1) ∨ (¬ p1 < (65536 : Int32) ∧ ¬ (1114111 : Int32) < p1)) then (1 : Int32) else (0 : Int32)) = (1 : Int32) := by simp [h1, h2, h3, h4, h5, h6, h7]
                rw [hj] at k
                show Steps p.tables e below (T.setTop (mkF m 0 #[.val (.ref a1), .val (.int p1), .unset] [])) _
                refine XS.iloadN X.here hx rfl (hb hby d1_0) rfl ?_
                show Steps p.tables e below (T.setTop (mkF m 1 #[.val (.ref a1), .val (.int p1), .unset] [(.int p1)])) _
                refine XS.bipush X.here hx rfl (hb hby d1_1) ?_
                show Steps p.tables e below (T.setTop (mkF m 3 #[.val (.ref a1), .val (.int p1), .unset] [(.int (9 : Int32)), (.int p1)])) _
                refine XS.icmpNo X.here hx rfl (hb hby d1_3) rfl (XT.ii_eq_f h1) ?_
                show Steps p.tables e below (T.setTop (mkF m 6 #[.val (.ref a1), .val (.int p1), .unset] [])) _
                refine XS.iloadN X.here hx rfl (hb hby d1_6) rfl ?_
                show Steps p.tables e below (T.setTop (mkF m 7 #[.val (.ref a1), .val (.int p1), .unset] [(.int p1)])) _
                refine XS.bipush X.here hx rfl (hb hby d1_7) ?_
                show Steps p.tables e below (T.setTop (mkF m 9 #[.val (.ref a1), .val (.int p1), .unset] [(.int (10 : Int32)), (.int p1)])) _
                refine XS.icmpNo X.here hx rfl (hb hby d1_9) rfl (XT.ii_eq_f h2) ?_
                show Steps p.tables e below (T.setTop (mkF m 12 #[.val (.ref a1), .val (.int p1), .unset] [])) _
                refine XS.iloadN X.here hx rfl (hb hby d1_12) rfl ?_
                show Steps p.tables e below (T.setTop (mkF m 13 #[.val (.ref a1), .val (.int p1), .unset] [(.int p1)])) _
                refine XS.bipush X.here hx rfl (hb hby d1_13) ?_
                show Steps p.tables e below (T.setTop (mkF m 15 #[.val (.ref a1), .val (.int p1), .unset] [(.int (13 : Int32)), (.int p1)])) _
                refine XS.icmpNo X.here hx rfl (hb hby d1_15) rfl (XT.ii_eq_f h3) ?_
                show Steps p.tables e below (T.setTop (mkF m 18 #[.val (.ref a1), .val (.int p1), .unset] [])) _
                refine XS.iloadN X.here hx rfl (hb hby d1_18) rfl ?_
                show Steps p.tables e below (T.setTop (mkF m 19 #[.val (.ref a1), .val (.int p1), .unset] [(.int p1)])) _
                refine XS.bipush X.here hx rfl (hb hby d1_19) ?_
                show Steps p.tables e below (T.setTop (mkF m 21 #[.val (.ref a1), .val (.int p1), .unset] [(.int (32 : Int32)), (.int p1)])) _
                refine XS.icmpNo X.here hx rfl (hb hby d1_21) rfl (XT.ii_lt_f h4) ?_
                show Steps p.tables e below (T.setTop (mkF m 24 #[.val (.ref a1), .val (.int p1), .unset] [])) _
                refine XS.iloadN X.here hx rfl (hb hby d1_24) rfl ?_
                show Steps p.tables e below (T.setTop (mkF m 25 #[.val (.ref a1), .val (.int p1), .unset] [(.int p1)])) _
                refine Jvm.Stand.ldcI X hx hown (mvT hZ (hw _ (List.mem_of_getElem? (i := 27) rfl))) (g := (mkF m 25 #[.val (.ref a1), .val (.int p1), .unset] [(.int p1)])) rfl (hb hby d1_25) ?_
                show Steps p.tables e below (T.setTop (mkF m 27 #[.val (.ref a1), .val (.int p1), .unset] [(.int (55295 : Int32)), (.int p1)])) _
                refine XS.icmpNo X.here hx rfl (hb hby d1_27) rfl (XT.ii_le_f h5) ?_
                show Steps p.tables e below (T.setTop (mkF m 30 #[.val (.ref a1), .val (.int p1), .unset] [])) _
                refine XS.iloadN X.here hx rfl (hb hby d1_30) rfl ?_
                show Steps p.tables e below (T.setTop (mkF m 31 #[.val (.ref a1), .val (.int p1), .unset] [(.int p1)])) _
                refine Jvm.Stand.ldcI X hx hown (mvT hZ (hw _ (List.mem_of_getElem? (i := 8) rfl))) (g := (mkF m 31 #[.val (.ref a1), .val (.int p1), .unset] [(.int p1)])) rfl (hb hby d1_31) ?_
                show Steps p.tables e below (T.setTop (mkF m 33 #[.val (.ref a1), .val (.int p1), .unset] [(.int (57344 : Int32)), (.int p1)])) _
                refine XS.icmpNo X.here hx rfl (hb hby d1_33) rfl (XT.ii_lt_f h6) ?_
                show Steps p.tables e below (T.setTop (mkF m 36 #[.val (.ref a1), .val (.int p1), .unset] [])) _
                refine XS.iloadN X.here hx rfl (hb hby d1_36) rfl ?_
                show Steps p.tables e below (T.setTop (mkF m 37 #[.val (.ref a1), .val (.int p1), .unset] [(.int p1)])) _
                refine Jvm.Stand.ldcI X hx hown (mvT hZ (hw _ (List.mem_of_getElem? (i := 29) rfl))) (g := (mkF m 37 #[.val (.ref a1), .val (.int p1), .unset] [(.int p1)])) rfl (hb hby d1_37) ?_
                show Steps p.tables e below (T.setTop (mkF m 39 #[.val (.ref a1), .val (.int p1), .unset] [(.int (65533 : Int32)), (.int p1)])) _
                refine XS.icmpYes X.here hx rfl (pc0 := 39) (pc' := 54) rfl (hb hby d1_39) rfl (XT.ii_le_t h7) (by decide) (by decide) ?_
                show Steps p.tables e below (T.setTop (mkF m 54 #[.val (.ref a1), .val (.int p1), .unset] [])) _
                refine XS.iconst X.here hx rfl (hb hby d1_54) ?_
                show Steps p.tables e below (T.setTop (mkF m 55 #[.val (.ref a1), .val (.int p1), .unset] [(.int (1 : Int32))])) _
                refine XS.goto X.here hx rfl (pc0 := 55) (pc' := 59) rfl (hb hby d1_55) (by decide) (by decide) ?_
                show Steps p.tables e below (T.setTop (mkF m 59 #[.val (.ref a1), .val (.int p1), .unset] [(.int (1 : Int32))])) _
                exact k
          · refine ⟨T, _, X, eT, N, fun target k => ?_⟩
            have hj : (if (p1 = (9 : Int32) ∨ p1 = (10 : Int32) ∨ p1 = (13 : Int32) ∨ (¬ p1 < (32 : Int32) ∧ ¬ (55295 : Int32) < p1) ∨ (¬ p1 < (57344 : Int32) ∧ ¬ (65533 : Int32) < p1) ∨ (¬ p1 < (65536 : Int32) ∧ ¬ (1114111 : Int32) < p1)) then (1 : Int32) else (0 : Int32)) = (1 : Int32) := by simp [h1, h2, h3, h4, h5]
            rw [hj] at k
            show Steps p.tables e below (T.setTop (mkF m 0 #[.val (.ref a1), .val (.int p1), .unset] [])) _
            refine XS.iloadN X.here hx rfl (hb hby d1_0) rfl ?_
            show Steps p.tables e below (T.setTop (mkF m 1 #[.val (.ref a1), .val (.int p1), .unset] [(.int p1)])) _
            refine XS.bipush X.here hx rfl (hb hby d1_1) ?_
            show Steps p.tables e below (T.setTop (mkF m 3 #[.val (.ref a1), .val (.int p1), .unset] [(.int (9 : Int32)), (.int p1)])) _
            refine XS.icmpNo X.here hx rfl (hb hby d1_3) rfl (XT.ii_eq_f h1) ?_
            show Steps p.tables e below (T.setTop (mkF m 6 #[.val (.ref a1), .val (.int p1), .unset] [])) _
            refine XS.iloadN X.here hx rfl (hb hby d1_6) rfl ?_
            show Steps p.tables e below (T.setTop (mkF m 7 #[.val (.ref a1), .val (.int p1), .unset] [(.int p1)])) _
            refine XS.bipush X.here hx rfl (hb hby d1_7) ?_
            show Steps p.tables e below (T.setTop (mkF m 9 #[.val (.ref a1), .val (.int p1), .unset] [(.int (10 : Int32)), (.int p1)])) _
            refine XS.icmpNo X.here hx rfl (hb hby d1_9) rfl (XT.ii_eq_f h2) ?_
            show Steps p.tables e below (T.setTop (mkF m 12 #[.val (.ref a1), .val (.int p1), .unset] [])) _
            refine XS.iloadN X.here hx rfl (hb hby d1_12) rfl ?_
            show Steps p.tables e below (T.setTop (mkF m 13 #[.val (.ref a1), .val (.int p1), .unset] [(.int p1)])) _
            refine XS.bipush X.here hx rfl (hb hby d1_13) ?_
            show Steps p.tables e below (T.setTop (mkF m 15 #[.val (.ref a1), .val (.int p1), .unset] [(.int (13 : Int32)), (.int p1)])) _
            refine XS.icmpNo X.here hx rfl (hb hby d1_15) rfl (XT.ii_eq_f h3) ?_
            show Steps p.tables e below (T.setTop (mkF m 18 #[.val (.ref a1), .val (.int p1), .unset] [])) _
            refine XS.iloadN X.here hx rfl (hb hby d1_18) rfl ?_
            show Steps p.tables e below (T.setTop (mkF m 19 #[.val (.ref a1), .val (.int p1), .unset] [(.int p1)])) _
            refine XS.bipush X.here hx rfl (hb hby d1_19) ?_
            show Steps p.tables e below (T.setTop (mkF m 21 #[.val (.ref a1), .val (.int p1), .unset] [(.int (32 : Int32)), (.int p1)])) _
            refine XS.icmpNo X.here hx rfl (hb hby d1_21) rfl (XT.ii_lt_f h4) ?_
            show Steps p.tables e below (T.setTop (mkF m 24 #[.val (.ref a1), .val (.int p1), .unset] [])) _
            refine XS.iloadN X.here hx rfl (hb hby d1_24) rfl ?_
            show Steps p.tables e below (T.setTop (mkF m 25 #[.val (.ref a1), .val (.int p1), .unset] [(.int p1)])) _
            refine Jvm.Stand.ldcI X hx hown (mvT hZ (hw _ (List.mem_of_getElem? (i := 27) rfl))) (g := (mkF m 25 #[.val (.ref a1), .val (.int p1), .unset] [(.int p1)])) rfl (hb hby d1_25) ?_
            show Steps p.tables e below (T.setTop (mkF m 27 #[.val (.ref a1), .val (.int p1), .unset] [(.int (55295 : Int32)), (.int p1)])) _
            refine XS.icmpYes X.here hx rfl (pc0 := 27) (pc' := 54) rfl (hb hby d1_27) rfl (XT.ii_le_t h5) (by decide) (by decide) ?_
            show Steps p.tables e below (T.setTop (mkF m 54 #[.val (.ref a1), .val (.int p1), .unset] [])) _
            refine XS.iconst X.here hx rfl (hb hby d1_54) ?_
            show Steps p.tables e below (T.setTop (mkF m 55 #[.val (.ref a1), .val (.int p1), .unset] [(.int (1 : Int32))])) _
            refine XS.goto X.here hx rfl (pc0 := 55) (pc' := 59) rfl (hb hby d1_55) (by decide) (by decide) ?_
            show Steps p.tables e below (T.setTop (mkF m 59 #[.val (.ref a1), .val (.int p1), .unset] [(.int (1 : Int32))])) _
            exact k
theorem ef_own_al (m : MethodId) (x0 : Addr) (x1 : Int32) : entryFrame m #[(.ref x0), (.int x1)] 3 = mkF m 0 #[.val (.ref x0), .val (.int x1), .unset] [] := by first | (simp [entryFrame, mkF, argsToLocals, Value.category]; done) | rfl
def Q_own_al (Z : State) (a1 : Addr) (p1 : Int32) (x10 : Addr) (h0 : Heap) (n0 : Nat) (v : Option Value) (h : Heap) (L : List Loc) : Prop := v = some (.int (if ((p1 = (9 : Int32) ∨ p1 = (10 : Int32) ∨ p1 = (13 : Int32) ∨ (¬ p1 < (32 : Int32) ∧ ¬ (55295 : Int32) < p1) ∨ (¬ p1 < (57344 : Int32) ∧ ¬ (65533 : Int32) < p1) ∨ (¬ p1 < (65536 : Int32) ∧ ¬ (1114111 : Int32) < p1)) ∧ ((Value.ref a1) = (Value.ref x10) ∨ p1 < (127 : Int32) ∨ p1 = (133 : Int32) ∨ (159 : Int32) < p1)) then (1 : Int32) else (0 : Int32))) ∧ Fr n0 L ∧ h = h0
set_option maxRecDepth 65536 in
set_option maxHeartbeats 40000000 in
theorem own_al (l : Launch) (Z : State) (a0 : Array Value) (hw : ∀ d ∈ tables_1, d.before a0 Z = true) (ws : List Jvm.Cond) (a1 : Addr) (p1 : Int32) (x10 : Addr) (h0 : Heap) (n0 : Nat) (Z0 : n0 ≤ h0.size) (S10 : Sta Z h0 "com/example/xml_element_search/xmlelementsearch/MarkupFilter$Version" "XML_1_0" "Lcom/example/xml_element_search/xmlelementsearch/MarkupFilter$Version;" (.ref x10)) :
    MetFree l (⟨"com/example/xml_element_search/xmlelementsearch/MarkupFilter$Version", "allows", "(I)Z"⟩ : MethodName) (head1 (Jvm.Cond.code (⟨"com/example/xml_element_search/xmlelementsearch/MarkupFilter$Version", "allows", "(I)Z"⟩ : MethodName) prog_67_method_4_code 3 (some .boolean) :: ws) ({ frames := 0, cells := 0, slots := 0, locals := 0 } : Room)) (fun a U => a = #[(.ref a1), (.int p1)] ∧ Z.Warmed39 U.vm ∧ U.heap = h0) (fun _ _ _ _ _ => True) (fun _ U o U' => ∃ v L, o = .returned v ∧ Q_own_al Z a1 p1 x10 h0 n0 v U'.heap L ∧ FrameEnd U o U' L ({ frames := 0, cells := 0, slots := 0, locals := 0 } : Room).cells ({ frames := 0, cells := 0, slots := 0, locals := 0 } : Room).slots) := by
  refine MetFree.of_bodySF (plainFor_of_name pn_own_al) hisR ?_
  intro p e s m args below meth c s₁ Bd hml0 hP hK
  obtain ⟨rfl, hZ, hh⟩ := hP
  have hx := Bd.exec
  have hby := Bd.bytes
  have hml : c.maxLocals = 3 := hml0
  have hown : s.vm.findClass "com/example/xml_element_search/xmlelementsearch/MarkupFilter$Version" = some m.cls := findClass_of_methodNamed Bd.named
  have hnm := (name_of_methodNamed Bd.named Bd.method).1
  have X0 : Stand p l e ({ frames := 0, cells := 0, slots := 0, locals := 0 } : Room) s m #[(.ref a1), (.int p1)] below meth c s₁ [] 0 0 := Stand.of_body Bd
  have e0 : s₁.heap = h0 := by rw [← hh, Bd.state]; rfl
  have N0 := Fr.nil n0
  have pre0 : ∀ t, Steps p.tables e below (s₁.setTop (mkF m 0 #[.val (.ref a1), .val (.int p1), .unset] [])) t → Steps p.tables e below (s₁.setTop (entryFrame m #[(.ref a1), (.int p1)] 3)) t := fun t k => castTop (ef_own_al m (a1) (p1)) k
  obtain ⟨T37, L37, X37, e37, N37, st37⟩ := own_sc hw X0 hx hZ hby hml hown e0 N0 Z0 a1 p1
  by_cases hP : (p1 = (9 : Int32) ∨ p1 = (10 : Int32) ∨ p1 = (13 : Int32) ∨ (¬ p1 < (32 : Int32) ∧ ¬ (55295 : Int32) < p1) ∨ (¬ p1 < (57344 : Int32) ∧ ¬ (65533 : Int32) < p1) ∨ (¬ p1 < (65536 : Int32) ∧ ¬ (1114111 : Int32) < p1))
  · obtain ⟨T38, X38, e38, st38⟩ := getS2 X37 hx hZ hown (host := "") (Or.inl (hw _ (List.mem_of_getElem? (i := 28) rfl))) Via.refl e37 S10 (g := (mkF m 65 #[.val (.ref a1), .val (.int p1), .val (.int (1 : Int32))] [(.ref a1)])) rfl (hb hby d1_65)
    by_cases hs : (Value.ref a1) = (Value.ref x10)
    · obtain ⟨fs, hr, hrun, hended, hW, hsame⟩ := X38.leave (v := some (.int (1 : Int32))) (fun h => by rw [Bd.returns] at h; cases h)
      refine ⟨_, _, pre0 _ ?_, hrun, hended, _, _, rfl, ?_, ⟨_, rfl⟩, hW, hsame.mono (by decide) (by decide)⟩
      · show Steps p.tables e below (s₁.setTop (mkF m 0 #[.val (.ref a1), .val (.int p1), .unset] [])) _
        refine st37 _ ?_
        show Steps p.tables e below (T37.setTop (mkF m 59 #[.val (.ref a1), .val (.int p1), .unset] [(.int (if (p1 = (9 : Int32) ∨ p1 = (10 : Int32) ∨ p1 = (13 : Int32) ∨ (¬ p1 < (32 : Int32) ∧ ¬ (55295 : Int32) < p1) ∨ (¬ p1 < (57344 : Int32) ∧ ¬ (65533 : Int32) < p1) ∨ (¬ p1 < (65536 : Int32) ∧ ¬ (1114111 : Int32) < p1)) then (1 : Int32) else (0 : Int32)))])) _
        rw [if_pos hP]
        show Steps p.tables e below (T37.setTop (mkF m 59 #[.val (.ref a1), .val (.int p1), .unset] [(.int (1 : Int32))])) _
        refine XS.istoreN X37.here hx rfl (hb hby d1_59) rfl (l' := #[.val (.ref a1), .val (.int p1), .val (.int (1 : Int32))]) rfl ?_
        show Steps p.tables e below (T37.setTop (mkF m 60 #[.val (.ref a1), .val (.int p1), .val (.int (1 : Int32))] [])) _
        refine XS.iloadN X37.here hx rfl (hb hby d1_60) rfl ?_
        show Steps p.tables e below (T37.setTop (mkF m 61 #[.val (.ref a1), .val (.int p1), .val (.int (1 : Int32))] [(.int (1 : Int32))])) _
        refine XS.ifNo X37.here hx rfl (hb hby d1_61) rfl (XT.i0_eq_f (by decide)) ?_
        show Steps p.tables e below (T37.setTop (mkF m 64 #[.val (.ref a1), .val (.int p1), .val (.int (1 : Int32))] [])) _
        refine XS.aloadN X37.here hx rfl (hb hby d1_64) rfl rfl ?_
        show Steps p.tables e below (T37.setTop (mkF m 65 #[.val (.ref a1), .val (.int p1), .val (.int (1 : Int32))] [(.ref a1)])) _
        refine st38 _ ?_
        show Steps p.tables e below (T38.setTop (mkF m 68 #[.val (.ref a1), .val (.int p1), .val (.int (1 : Int32))] [(.ref x10), (.ref a1)])) _
        refine XT.acmpYes X38.here hx rfl (pc0 := 68) (pc' := 91) rfl (hb hby d1_68) rfl rfl rfl (XT.aa_eq_t hs) (by decide) (by decide) ?_
        show Steps p.tables e below (T38.setTop (mkF m 91 #[.val (.ref a1), .val (.int p1), .val (.int (1 : Int32))] [])) _
        refine XS.iconst X38.here hx rfl (hb hby d1_91) ?_
        show Steps p.tables e below (T38.setTop (mkF m 92 #[.val (.ref a1), .val (.int p1), .val (.int (1 : Int32))] [(.int (1 : Int32))])) _
        refine XS.goto X38.here hx rfl (pc0 := 92) (pc' := 96) rfl (hb hby d1_92) (by decide) (by decide) ?_
        show Steps p.tables e below (T38.setTop (mkF m 96 #[.val (.ref a1), .val (.int p1), .val (.int (1 : Int32))] [(.int (1 : Int32))])) _
        exact retN X38 hx (t := .boolean) Bd.returns (by simp) (hb hby d1_96) hr
      · show Q_own_al Z a1 p1 x10 h0 n0 _ T38.heap _
        rw [e38]
        exact ⟨by rw [if_pos ⟨hP, Or.inl hs⟩], N37, rfl⟩
    · by_cases k1 : p1 < (127 : Int32)
      · obtain ⟨fs, hr, hrun, hended, hW, hsame⟩ := X38.leave (v := some (.int (1 : Int32))) (fun h => by rw [Bd.returns] at h; cases h)
        refine ⟨_, _, pre0 _ ?_, hrun, hended, _, _, rfl, ?_, ⟨_, rfl⟩, hW, hsame.mono (by decide) (by decide)⟩
        · show Steps p.tables e below (s₁.setTop (mkF m 0 #[.val (.ref a1), .val (.int p1), .unset] [])) _
          refine st37 _ ?_
          show Steps p.tables e below (T37.setTop (mkF m 59 #[.val (.ref a1), .val (.int p1), .unset] [(.int (if (p1 = (9 : Int32) ∨ p1 = (10 : Int32) ∨ p1 = (13 : Int32) ∨ (¬ p1 < (32 : Int32) ∧ ¬ (55295 : Int32) < p1) ∨ (¬ p1 < (57344 : Int32) ∧ ¬ (65533 : Int32) < p1) ∨ (¬ p1 < (65536 : Int32) ∧ ¬ (1114111 : Int32) < p1)) then (1 : Int32) else (0 : Int32)))])) _
          rw [if_pos hP]
          show Steps p.tables e below (T37.setTop (mkF m 59 #[.val (.ref a1), .val (.int p1), .unset] [(.int (1 : Int32))])) _
          refine XS.istoreN X37.here hx rfl (hb hby d1_59) rfl (l' := #[.val (.ref a1), .val (.int p1), .val (.int (1 : Int32))]) rfl ?_
          show Steps p.tables e below (T37.setTop (mkF m 60 #[.val (.ref a1), .val (.int p1), .val (.int (1 : Int32))] [])) _
          refine XS.iloadN X37.here hx rfl (hb hby d1_60) rfl ?_
          show Steps p.tables e below (T37.setTop (mkF m 61 #[.val (.ref a1), .val (.int p1), .val (.int (1 : Int32))] [(.int (1 : Int32))])) _
          refine XS.ifNo X37.here hx rfl (hb hby d1_61) rfl (XT.i0_eq_f (by decide)) ?_
          show Steps p.tables e below (T37.setTop (mkF m 64 #[.val (.ref a1), .val (.int p1), .val (.int (1 : Int32))] [])) _
          refine XS.aloadN X37.here hx rfl (hb hby d1_64) rfl rfl ?_
          show Steps p.tables e below (T37.setTop (mkF m 65 #[.val (.ref a1), .val (.int p1), .val (.int (1 : Int32))] [(.ref a1)])) _
          refine st38 _ ?_
          show Steps p.tables e below (T38.setTop (mkF m 68 #[.val (.ref a1), .val (.int p1), .val (.int (1 : Int32))] [(.ref x10), (.ref a1)])) _
          refine XT.acmpNo X38.here hx rfl (hb hby d1_68) rfl rfl rfl (XT.aa_eq_f hs) ?_
          show Steps p.tables e below (T38.setTop (mkF m 71 #[.val (.ref a1), .val (.int p1), .val (.int (1 : Int32))] [])) _
          refine XS.iloadN X38.here hx rfl (hb hby d1_71) rfl ?_
          show Steps p.tables e below (T38.setTop (mkF m 72 #[.val (.ref a1), .val (.int p1), .val (.int (1 : Int32))] [(.int p1)])) _
          refine XS.bipush X38.here hx rfl (hb hby d1_72) ?_
          show Steps p.tables e below (T38.setTop (mkF m 74 #[.val (.ref a1), .val (.int p1), .val (.int (1 : Int32))] [(.int (127 : Int32)), (.int p1)])) _
          refine XS.icmpYes X38.here hx rfl (pc0 := 74) (pc' := 91) rfl (hb hby d1_74) rfl (XT.ii_lt_t k1) (by decide) (by decide) ?_
          show Steps p.tables e below (T38.setTop (mkF m 91 #[.val (.ref a1), .val (.int p1), .val (.int (1 : Int32))] [])) _
          refine XS.iconst X38.here hx rfl (hb hby d1_91) ?_
          show Steps p.tables e below (T38.setTop (mkF m 92 #[.val (.ref a1), .val (.int p1), .val (.int (1 : Int32))] [(.int (1 : Int32))])) _
          refine XS.goto X38.here hx rfl (pc0 := 92) (pc' := 96) rfl (hb hby d1_92) (by decide) (by decide) ?_
          show Steps p.tables e below (T38.setTop (mkF m 96 #[.val (.ref a1), .val (.int p1), .val (.int (1 : Int32))] [(.int (1 : Int32))])) _
          exact retN X38 hx (t := .boolean) Bd.returns (by simp) (hb hby d1_96) hr
        · show Q_own_al Z a1 p1 x10 h0 n0 _ T38.heap _
          rw [e38]
          exact ⟨by rw [if_pos ⟨hP, Or.inr (Or.inl k1)⟩], N37, rfl⟩
      · by_cases k2 : p1 = (133 : Int32)
        · obtain ⟨fs, hr, hrun, hended, hW, hsame⟩ := X38.leave (v := some (.int (1 : Int32))) (fun h => by rw [Bd.returns] at h; cases h)
          refine ⟨_, _, pre0 _ ?_, hrun, hended, _, _, rfl, ?_, ⟨_, rfl⟩, hW, hsame.mono (by decide) (by decide)⟩
          · show Steps p.tables e below (s₁.setTop (mkF m 0 #[.val (.ref a1), .val (.int p1), .unset] [])) _
            refine st37 _ ?_
            show Steps p.tables e below (T37.setTop (mkF m 59 #[.val (.ref a1), .val (.int p1), .unset] [(.int (if (p1 = (9 : Int32) ∨ p1 = (10 : Int32) ∨ p1 = (13 : Int32) ∨ (¬ p1 < (32 : Int32) ∧ ¬ (55295 : Int32) < p1) ∨ (¬ p1 < (57344 : Int32) ∧ ¬ (65533 : Int32) < p1) ∨ (¬ p1 < (65536 : Int32) ∧ ¬ (1114111 : Int32) < p1)) then (1 : Int32) else (0 : Int32)))])) _
            rw [if_pos hP]
            show Steps p.tables e below (T37.setTop (mkF m 59 #[.val (.ref a1), .val (.int p1), .unset] [(.int (1 : Int32))])) _
            refine XS.istoreN X37.here hx rfl (hb hby d1_59) rfl (l' := #[.val (.ref a1), .val (.int p1), .val (.int (1 : Int32))]) rfl ?_
            show Steps p.tables e below (T37.setTop (mkF m 60 #[.val (.ref a1), .val (.int p1), .val (.int (1 : Int32))] [])) _
            refine XS.iloadN X37.here hx rfl (hb hby d1_60) rfl ?_
            show Steps p.tables e below (T37.setTop (mkF m 61 #[.val (.ref a1), .val (.int p1), .val (.int (1 : Int32))] [(.int (1 : Int32))])) _
            refine XS.ifNo X37.here hx rfl (hb hby d1_61) rfl (XT.i0_eq_f (by decide)) ?_
            show Steps p.tables e below (T37.setTop (mkF m 64 #[.val (.ref a1), .val (.int p1), .val (.int (1 : Int32))] [])) _
            refine XS.aloadN X37.here hx rfl (hb hby d1_64) rfl rfl ?_
            show Steps p.tables e below (T37.setTop (mkF m 65 #[.val (.ref a1), .val (.int p1), .val (.int (1 : Int32))] [(.ref a1)])) _
            refine st38 _ ?_
            show Steps p.tables e below (T38.setTop (mkF m 68 #[.val (.ref a1), .val (.int p1), .val (.int (1 : Int32))] [(.ref x10), (.ref a1)])) _
            refine XT.acmpNo X38.here hx rfl (hb hby d1_68) rfl rfl rfl (XT.aa_eq_f hs) ?_
            show Steps p.tables e below (T38.setTop (mkF m 71 #[.val (.ref a1), .val (.int p1), .val (.int (1 : Int32))] [])) _
            refine XS.iloadN X38.here hx rfl (hb hby d1_71) rfl ?_
            show Steps p.tables e below (T38.setTop (mkF m 72 #[.val (.ref a1), .val (.int p1), .val (.int (1 : Int32))] [(.int p1)])) _
            refine XS.bipush X38.here hx rfl (hb hby d1_72) ?_
            show Steps p.tables e below (T38.setTop (mkF m 74 #[.val (.ref a1), .val (.int p1), .val (.int (1 : Int32))] [(.int (127 : Int32)), (.int p1)])) _
            refine XS.icmpNo X38.here hx rfl (hb hby d1_74) rfl (XT.ii_lt_f k1) ?_
            show Steps p.tables e below (T38.setTop (mkF m 77 #[.val (.ref a1), .val (.int p1), .val (.int (1 : Int32))] [])) _
            refine XS.iloadN X38.here hx rfl (hb hby d1_77) rfl ?_
            show Steps p.tables e below (T38.setTop (mkF m 78 #[.val (.ref a1), .val (.int p1), .val (.int (1 : Int32))] [(.int p1)])) _
            refine XS.sipush X38.here hx rfl (hb hby d1_78) ?_
            show Steps p.tables e below (T38.setTop (mkF m 81 #[.val (.ref a1), .val (.int p1), .val (.int (1 : Int32))] [(.int (133 : Int32)), (.int p1)])) _
            refine XS.icmpYes X38.here hx rfl (pc0 := 81) (pc' := 91) rfl (hb hby d1_81) rfl (XT.ii_eq_t k2) (by decide) (by decide) ?_
            show Steps p.tables e below (T38.setTop (mkF m 91 #[.val (.ref a1), .val (.int p1), .val (.int (1 : Int32))] [])) _
            refine XS.iconst X38.here hx rfl (hb hby d1_91) ?_
            show Steps p.tables e below (T38.setTop (mkF m 92 #[.val (.ref a1), .val (.int p1), .val (.int (1 : Int32))] [(.int (1 : Int32))])) _
            refine XS.goto X38.here hx rfl (pc0 := 92) (pc' := 96) rfl (hb hby d1_92) (by decide) (by decide) ?_
            show Steps p.tables e below (T38.setTop (mkF m 96 #[.val (.ref a1), .val (.int p1), .val (.int (1 : Int32))] [(.int (1 : Int32))])) _
            exact retN X38 hx (t := .boolean) Bd.returns (by simp) (hb hby d1_96) hr
          · show Q_own_al Z a1 p1 x10 h0 n0 _ T38.heap _
            rw [e38]
            exact ⟨by rw [if_pos ⟨hP, Or.inr (Or.inr (Or.inl k2))⟩], N37, rfl⟩
        · by_cases k3 : (159 : Int32) < p1
          · obtain ⟨fs, hr, hrun, hended, hW, hsame⟩ := X38.leave (v := some (.int (1 : Int32))) (fun h => by rw [Bd.returns] at h; cases h)
            refine ⟨_, _, pre0 _ ?_, hrun, hended, _, _, rfl, ?_, ⟨_, rfl⟩, hW, hsame.mono (by decide) (by decide)⟩
            · show Steps p.tables e below (s₁.setTop (mkF m 0 #[.val (.ref a1), .val (.int p1), .unset] [])) _
              refine st37 _ ?_
              show Steps p.tables e below (T37.setTop (mkF m 59 #[.val (.ref a1), .val (.int p1), .unset] [(.int (if (p1 = (9 : Int32) ∨ p1 = (10 : Int32) ∨ p1 = (13 : Int32) ∨ (¬ p1 < (32 : Int32) ∧ ¬ (55295 : Int32) < p1) ∨ (¬ p1 < (57344 : Int32) ∧ ¬ (65533 : Int32) < p1) ∨ (¬ p1 < (65536 : Int32) ∧ ¬ (1114111 : Int32) < p1)) then (1 : Int32) else (0 : Int32)))])) _
              rw [if_pos hP]
              show Steps p.tables e below (T37.setTop (mkF m 59 #[.val (.ref a1), .val (.int p1), .unset] [(.int (1 : Int32))])) _
              refine XS.istoreN X37.here hx rfl (hb hby d1_59) rfl (l' := #[.val (.ref a1), .val (.int p1), .val (.int (1 : Int32))]) rfl ?_
              show Steps p.tables e below (T37.setTop (mkF m 60 #[.val (.ref a1), .val (.int p1), .val (.int (1 : Int32))] [])) _
              refine XS.iloadN X37.here hx rfl (hb hby d1_60) rfl ?_
              show Steps p.tables e below (T37.setTop (mkF m 61 #[.val (.ref a1), .val (.int p1), .val (.int (1 : Int32))] [(.int (1 : Int32))])) _
              refine XS.ifNo X37.here hx rfl (hb hby d1_61) rfl (XT.i0_eq_f (by decide)) ?_
              show Steps p.tables e below (T37.setTop (mkF m 64 #[.val (.ref a1), .val (.int p1), .val (.int (1 : Int32))] [])) _
              refine XS.aloadN X37.here hx rfl (hb hby d1_64) rfl rfl ?_
              show Steps p.tables e below (T37.setTop (mkF m 65 #[.val (.ref a1), .val (.int p1), .val (.int (1 : Int32))] [(.ref a1)])) _
              refine st38 _ ?_
              show Steps p.tables e below (T38.setTop (mkF m 68 #[.val (.ref a1), .val (.int p1), .val (.int (1 : Int32))] [(.ref x10), (.ref a1)])) _
              refine XT.acmpNo X38.here hx rfl (hb hby d1_68) rfl rfl rfl (XT.aa_eq_f hs) ?_
              show Steps p.tables e below (T38.setTop (mkF m 71 #[.val (.ref a1), .val (.int p1), .val (.int (1 : Int32))] [])) _
              refine XS.iloadN X38.here hx rfl (hb hby d1_71) rfl ?_
              show Steps p.tables e below (T38.setTop (mkF m 72 #[.val (.ref a1), .val (.int p1), .val (.int (1 : Int32))] [(.int p1)])) _
              refine XS.bipush X38.here hx rfl (hb hby d1_72) ?_
              show Steps p.tables e below (T38.setTop (mkF m 74 #[.val (.ref a1), .val (.int p1), .val (.int (1 : Int32))] [(.int (127 : Int32)), (.int p1)])) _
              refine XS.icmpNo X38.here hx rfl (hb hby d1_74) rfl (XT.ii_lt_f k1) ?_
              show Steps p.tables e below (T38.setTop (mkF m 77 #[.val (.ref a1), .val (.int p1), .val (.int (1 : Int32))] [])) _
              refine XS.iloadN X38.here hx rfl (hb hby d1_77) rfl ?_
              show Steps p.tables e below (T38.setTop (mkF m 78 #[.val (.ref a1), .val (.int p1), .val (.int (1 : Int32))] [(.int p1)])) _
              refine XS.sipush X38.here hx rfl (hb hby d1_78) ?_
              show Steps p.tables e below (T38.setTop (mkF m 81 #[.val (.ref a1), .val (.int p1), .val (.int (1 : Int32))] [(.int (133 : Int32)), (.int p1)])) _
              refine XS.icmpNo X38.here hx rfl (hb hby d1_81) rfl (XT.ii_eq_f k2) ?_
              show Steps p.tables e below (T38.setTop (mkF m 84 #[.val (.ref a1), .val (.int p1), .val (.int (1 : Int32))] [])) _
              refine XS.iloadN X38.here hx rfl (hb hby d1_84) rfl ?_
              show Steps p.tables e below (T38.setTop (mkF m 85 #[.val (.ref a1), .val (.int p1), .val (.int (1 : Int32))] [(.int p1)])) _
              refine XS.sipush X38.here hx rfl (hb hby d1_85) ?_
              show Steps p.tables e below (T38.setTop (mkF m 88 #[.val (.ref a1), .val (.int p1), .val (.int (1 : Int32))] [(.int (159 : Int32)), (.int p1)])) _
              refine XS.icmpNo X38.here hx rfl (hb hby d1_88) rfl (XT.ii_le_f k3) ?_
              show Steps p.tables e below (T38.setTop (mkF m 91 #[.val (.ref a1), .val (.int p1), .val (.int (1 : Int32))] [])) _
              refine XS.iconst X38.here hx rfl (hb hby d1_91) ?_
              show Steps p.tables e below (T38.setTop (mkF m 92 #[.val (.ref a1), .val (.int p1), .val (.int (1 : Int32))] [(.int (1 : Int32))])) _
              refine XS.goto X38.here hx rfl (pc0 := 92) (pc' := 96) rfl (hb hby d1_92) (by decide) (by decide) ?_
              show Steps p.tables e below (T38.setTop (mkF m 96 #[.val (.ref a1), .val (.int p1), .val (.int (1 : Int32))] [(.int (1 : Int32))])) _
              exact retN X38 hx (t := .boolean) Bd.returns (by simp) (hb hby d1_96) hr
            · show Q_own_al Z a1 p1 x10 h0 n0 _ T38.heap _
              rw [e38]
              exact ⟨by rw [if_pos ⟨hP, Or.inr (Or.inr (Or.inr k3))⟩], N37, rfl⟩
          · obtain ⟨fs, hr, hrun, hended, hW, hsame⟩ := X38.leave (v := some (.int (0 : Int32))) (fun h => by rw [Bd.returns] at h; cases h)
            refine ⟨_, _, pre0 _ ?_, hrun, hended, _, _, rfl, ?_, ⟨_, rfl⟩, hW, hsame.mono (by decide) (by decide)⟩
            · show Steps p.tables e below (s₁.setTop (mkF m 0 #[.val (.ref a1), .val (.int p1), .unset] [])) _
              refine st37 _ ?_
              show Steps p.tables e below (T37.setTop (mkF m 59 #[.val (.ref a1), .val (.int p1), .unset] [(.int (if (p1 = (9 : Int32) ∨ p1 = (10 : Int32) ∨ p1 = (13 : Int32) ∨ (¬ p1 < (32 : Int32) ∧ ¬ (55295 : Int32) < p1) ∨ (¬ p1 < (57344 : Int32) ∧ ¬ (65533 : Int32) < p1) ∨ (¬ p1 < (65536 : Int32) ∧ ¬ (1114111 : Int32) < p1)) then (1 : Int32) else (0 : Int32)))])) _
              rw [if_pos hP]
              show Steps p.tables e below (T37.setTop (mkF m 59 #[.val (.ref a1), .val (.int p1), .unset] [(.int (1 : Int32))])) _
              refine XS.istoreN X37.here hx rfl (hb hby d1_59) rfl (l' := #[.val (.ref a1), .val (.int p1), .val (.int (1 : Int32))]) rfl ?_
              show Steps p.tables e below (T37.setTop (mkF m 60 #[.val (.ref a1), .val (.int p1), .val (.int (1 : Int32))] [])) _
              refine XS.iloadN X37.here hx rfl (hb hby d1_60) rfl ?_
              show Steps p.tables e below (T37.setTop (mkF m 61 #[.val (.ref a1), .val (.int p1), .val (.int (1 : Int32))] [(.int (1 : Int32))])) _
              refine XS.ifNo X37.here hx rfl (hb hby d1_61) rfl (XT.i0_eq_f (by decide)) ?_
              show Steps p.tables e below (T37.setTop (mkF m 64 #[.val (.ref a1), .val (.int p1), .val (.int (1 : Int32))] [])) _
              refine XS.aloadN X37.here hx rfl (hb hby d1_64) rfl rfl ?_
              show Steps p.tables e below (T37.setTop (mkF m 65 #[.val (.ref a1), .val (.int p1), .val (.int (1 : Int32))] [(.ref a1)])) _
              refine st38 _ ?_
              show Steps p.tables e below (T38.setTop (mkF m 68 #[.val (.ref a1), .val (.int p1), .val (.int (1 : Int32))] [(.ref x10), (.ref a1)])) _
              refine XT.acmpNo X38.here hx rfl (hb hby d1_68) rfl rfl rfl (XT.aa_eq_f hs) ?_
              show Steps p.tables e below (T38.setTop (mkF m 71 #[.val (.ref a1), .val (.int p1), .val (.int (1 : Int32))] [])) _
              refine XS.iloadN X38.here hx rfl (hb hby d1_71) rfl ?_
              show Steps p.tables e below (T38.setTop (mkF m 72 #[.val (.ref a1), .val (.int p1), .val (.int (1 : Int32))] [(.int p1)])) _
              refine XS.bipush X38.here hx rfl (hb hby d1_72) ?_
              show Steps p.tables e below (T38.setTop (mkF m 74 #[.val (.ref a1), .val (.int p1), .val (.int (1 : Int32))] [(.int (127 : Int32)), (.int p1)])) _
              refine XS.icmpNo X38.here hx rfl (hb hby d1_74) rfl (XT.ii_lt_f k1) ?_
              show Steps p.tables e below (T38.setTop (mkF m 77 #[.val (.ref a1), .val (.int p1), .val (.int (1 : Int32))] [])) _
              refine XS.iloadN X38.here hx rfl (hb hby d1_77) rfl ?_
              show Steps p.tables e below (T38.setTop (mkF m 78 #[.val (.ref a1), .val (.int p1), .val (.int (1 : Int32))] [(.int p1)])) _
              refine XS.sipush X38.here hx rfl (hb hby d1_78) ?_
              show Steps p.tables e below (T38.setTop (mkF m 81 #[.val (.ref a1), .val (.int p1), .val (.int (1 : Int32))] [(.int (133 : Int32)), (.int p1)])) _
              refine XS.icmpNo X38.here hx rfl (hb hby d1_81) rfl (XT.ii_eq_f k2) ?_
              show Steps p.tables e below (T38.setTop (mkF m 84 #[.val (.ref a1), .val (.int p1), .val (.int (1 : Int32))] [])) _
              refine XS.iloadN X38.here hx rfl (hb hby d1_84) rfl ?_
              show Steps p.tables e below (T38.setTop (mkF m 85 #[.val (.ref a1), .val (.int p1), .val (.int (1 : Int32))] [(.int p1)])) _
              refine XS.sipush X38.here hx rfl (hb hby d1_85) ?_
              show Steps p.tables e below (T38.setTop (mkF m 88 #[.val (.ref a1), .val (.int p1), .val (.int (1 : Int32))] [(.int (159 : Int32)), (.int p1)])) _
              refine XS.icmpYes X38.here hx rfl (pc0 := 88) (pc' := 95) rfl (hb hby d1_88) rfl (XT.ii_le_t k3) (by decide) (by decide) ?_
              show Steps p.tables e below (T38.setTop (mkF m 95 #[.val (.ref a1), .val (.int p1), .val (.int (1 : Int32))] [])) _
              refine XS.iconst X38.here hx rfl (hb hby d1_95) ?_
              show Steps p.tables e below (T38.setTop (mkF m 96 #[.val (.ref a1), .val (.int p1), .val (.int (1 : Int32))] [(.int (0 : Int32))])) _
              exact retN X38 hx (t := .boolean) Bd.returns (by simp) (hb hby d1_96) hr
            · show Q_own_al Z a1 p1 x10 h0 n0 _ T38.heap _
              rw [e38]
              exact ⟨by rw [if_neg (fun q => q.2.elim hs fun q => q.elim k1 fun q => q.elim k2 k3)], N37, rfl⟩
  · obtain ⟨fs, hr, hrun, hended, hW, hsame⟩ := X37.leave (v := some (.int (0 : Int32))) (fun h => by rw [Bd.returns] at h; cases h)
    refine ⟨_, _, pre0 _ ?_, hrun, hended, _, _, rfl, ?_, ⟨_, rfl⟩, hW, hsame.mono (by decide) (by decide)⟩
    · show Steps p.tables e below (s₁.setTop (mkF m 0 #[.val (.ref a1), .val (.int p1), .unset] [])) _
      refine st37 _ ?_
      show Steps p.tables e below (T37.setTop (mkF m 59 #[.val (.ref a1), .val (.int p1), .unset] [(.int (if (p1 = (9 : Int32) ∨ p1 = (10 : Int32) ∨ p1 = (13 : Int32) ∨ (¬ p1 < (32 : Int32) ∧ ¬ (55295 : Int32) < p1) ∨ (¬ p1 < (57344 : Int32) ∧ ¬ (65533 : Int32) < p1) ∨ (¬ p1 < (65536 : Int32) ∧ ¬ (1114111 : Int32) < p1)) then (1 : Int32) else (0 : Int32)))])) _
      rw [if_neg hP]
      show Steps p.tables e below (T37.setTop (mkF m 59 #[.val (.ref a1), .val (.int p1), .unset] [(.int (0 : Int32))])) _
      refine XS.istoreN X37.here hx rfl (hb hby d1_59) rfl (l' := #[.val (.ref a1), .val (.int p1), .val (.int (0 : Int32))]) rfl ?_
      show Steps p.tables e below (T37.setTop (mkF m 60 #[.val (.ref a1), .val (.int p1), .val (.int (0 : Int32))] [])) _
      refine XS.iloadN X37.here hx rfl (hb hby d1_60) rfl ?_
      show Steps p.tables e below (T37.setTop (mkF m 61 #[.val (.ref a1), .val (.int p1), .val (.int (0 : Int32))] [(.int (0 : Int32))])) _
      refine XS.ifYes X37.here hx rfl (pc0 := 61) (pc' := 95) rfl (hb hby d1_61) rfl (XT.i0_eq_t (by decide)) (by decide) (by decide) ?_
      show Steps p.tables e below (T37.setTop (mkF m 95 #[.val (.ref a1), .val (.int p1), .val (.int (0 : Int32))] [])) _
      refine XS.iconst X37.here hx rfl (hb hby d1_95) ?_
      show Steps p.tables e below (T37.setTop (mkF m 96 #[.val (.ref a1), .val (.int p1), .val (.int (0 : Int32))] [(.int (0 : Int32))])) _
      exact retN X37 hx (t := .boolean) Bd.returns (by simp) (hb hby d1_96) hr
    · show Q_own_al Z a1 p1 x10 h0 n0 _ T37.heap _
      rw [e37]
      exact ⟨by rw [if_neg (fun q => hP q.1)], N37, rfl⟩
theorem own_ifc {P Q : Prop} [Decidable P] [Decidable Q] (h : P ↔ Q) (a b : Int32) : (if P then a else b) = (if Q then a else b) := by
  by_cases q : Q
  · rw [if_pos q, if_pos (h.mpr q)]
  · rw [if_neg q, if_neg (fun r => q (h.mp r))]
theorem own_10 (x : Addr) (p : Int32) : (if ((p = (9 : Int32) ∨ p = (10 : Int32) ∨ p = (13 : Int32) ∨ (¬ p < (32 : Int32) ∧ ¬ (55295 : Int32) < p) ∨ (¬ p < (57344 : Int32) ∧ ¬ (65533 : Int32) < p) ∨ (¬ p < (65536 : Int32) ∧ ¬ (1114111 : Int32) < p)) ∧ ((Value.ref x) = (Value.ref x) ∨ p < (127 : Int32) ∨ p = (133 : Int32) ∨ (159 : Int32) < p)) then (1 : Int32) else (0 : Int32)) = (if (p = (9 : Int32) ∨ p = (10 : Int32) ∨ p = (13 : Int32) ∨ ¬ (p < (32 : Int32) ∨ (55295 : Int32) < p) ∨ ¬ (p < (57344 : Int32) ∨ (65533 : Int32) < p) ∨ ¬ (p < (65536 : Int32) ∨ (1114111 : Int32) < p)) then (1 : Int32) else (0 : Int32)) := by
  have h : ((p = (9 : Int32) ∨ p = (10 : Int32) ∨ p = (13 : Int32) ∨ (¬ p < (32 : Int32) ∧ ¬ (55295 : Int32) < p) ∨ (¬ p < (57344 : Int32) ∧ ¬ (65533 : Int32) < p) ∨ (¬ p < (65536 : Int32) ∧ ¬ (1114111 : Int32) < p)) ∧ ((Value.ref x) = (Value.ref x) ∨ p < (127 : Int32) ∨ p = (133 : Int32) ∨ (159 : Int32) < p)) ↔ (p = (9 : Int32) ∨ p = (10 : Int32) ∨ p = (13 : Int32) ∨ ¬ (p < (32 : Int32) ∨ (55295 : Int32) < p) ∨ ¬ (p < (57344 : Int32) ∨ (65533 : Int32) < p) ∨ ¬ (p < (65536 : Int32) ∨ (1114111 : Int32) < p)) := by
    simp only [true_or, and_true, not_or]
  exact own_ifc h _ _
theorem own_11 (x y : Addr) (hne : x ≠ y) (p : Int32) : (if ((p = (9 : Int32) ∨ p = (10 : Int32) ∨ p = (13 : Int32) ∨ (¬ p < (32 : Int32) ∧ ¬ (55295 : Int32) < p) ∨ (¬ p < (57344 : Int32) ∧ ¬ (65533 : Int32) < p) ∨ (¬ p < (65536 : Int32) ∧ ¬ (1114111 : Int32) < p)) ∧ ((Value.ref x) = (Value.ref y) ∨ p < (127 : Int32) ∨ p = (133 : Int32) ∨ (159 : Int32) < p)) then (1 : Int32) else (0 : Int32)) = (if ((¬ (p < (1 : Int32) ∨ (55295 : Int32) < p) ∨ ¬ (p < (57344 : Int32) ∨ (65533 : Int32) < p) ∨ ¬ (p < (65536 : Int32) ∨ (1114111 : Int32) < p)) ∧ ¬ (¬ (p < (1 : Int32) ∨ (8 : Int32) < p) ∨ ¬ (p < (11 : Int32) ∨ (12 : Int32) < p) ∨ ¬ (p < (14 : Int32) ∨ (31 : Int32) < p) ∨ ¬ (p < (127 : Int32) ∨ (132 : Int32) < p) ∨ ¬ (p < (134 : Int32) ∨ (159 : Int32) < p))) then (1 : Int32) else (0 : Int32)) := by
  have hv : ((Value.ref x) = (Value.ref y)) ↔ False := ⟨fun q => hne (Value.ref.inj q), False.elim⟩
  have r := rng32 p
  have l1 : (1 : Int32).toInt = 1 := rfl
  have l8 : (8 : Int32).toInt = 8 := rfl
  have l9 : (9 : Int32).toInt = 9 := rfl
  have l10 : (10 : Int32).toInt = 10 := rfl
  have l11 : (11 : Int32).toInt = 11 := rfl
  have l12 : (12 : Int32).toInt = 12 := rfl
  have l13 : (13 : Int32).toInt = 13 := rfl
  have l14 : (14 : Int32).toInt = 14 := rfl
  have l31 : (31 : Int32).toInt = 31 := rfl
  have l32 : (32 : Int32).toInt = 32 := rfl
  have l127 : (127 : Int32).toInt = 127 := rfl
  have l132 : (132 : Int32).toInt = 132 := rfl
  have l133 : (133 : Int32).toInt = 133 := rfl
  have l134 : (134 : Int32).toInt = 134 := rfl
  have l159 : (159 : Int32).toInt = 159 := rfl
  have l55295 : (55295 : Int32).toInt = 55295 := rfl
  have l57344 : (57344 : Int32).toInt = 57344 := rfl
  have l65533 : (65533 : Int32).toInt = 65533 := rfl
  have l65536 : (65536 : Int32).toInt = 65536 := rfl
  have l1114111 : (1114111 : Int32).toInt = 1114111 := rfl
  have h : ((p = (9 : Int32) ∨ p = (10 : Int32) ∨ p = (13 : Int32) ∨ (¬ p < (32 : Int32) ∧ ¬ (55295 : Int32) < p) ∨ (¬ p < (57344 : Int32) ∧ ¬ (65533 : Int32) < p) ∨ (¬ p < (65536 : Int32) ∧ ¬ (1114111 : Int32) < p)) ∧ ((Value.ref x) = (Value.ref y) ∨ p < (127 : Int32) ∨ p = (133 : Int32) ∨ (159 : Int32) < p)) ↔ ((¬ (p < (1 : Int32) ∨ (55295 : Int32) < p) ∨ ¬ (p < (57344 : Int32) ∨ (65533 : Int32) < p) ∨ ¬ (p < (65536 : Int32) ∨ (1114111 : Int32) < p)) ∧ ¬ (¬ (p < (1 : Int32) ∨ (8 : Int32) < p) ∨ ¬ (p < (11 : Int32) ∨ (12 : Int32) < p) ∨ ¬ (p < (14 : Int32) ∨ (31 : Int32) < p) ∨ ¬ (p < (127 : Int32) ∨ (132 : Int32) < p) ∨ ¬ (p < (134 : Int32) ∨ (159 : Int32) < p))) := by
    simp only [hv, false_or, Int32.lt_iff_toInt_lt, ← Int32.toInt_inj]
    omega
  exact own_ifc h _ _
theorem pn_own_law : plainName "com/example/xml_element_search/xmlelementsearch/VersionAllowsPinLaw" = true := by first | (simp [plainName, overriddenIn]; done) | decide +kernel
theorem ef_own_law (m : MethodId) (x0 : Int32) : entryFrame m #[(.int x0)] maxLocals = mkF m 0 #[.val (.int x0), .unset, .unset] [] := by first | (simp [entryFrame, mkF, argsToLocals, Value.category, maxLocals]; done) | rfl
def Q_own_law (Z : State) (p0 : Int32) (x10 : Addr) (x11 : Addr) (h0 : Heap) (n0 : Nat) (v : Option Value) (h : Heap) (L : List Loc) : Prop := v = some (.int 1) ∧ Fr n0 L
set_option maxRecDepth 65536 in
set_option maxHeartbeats 40000000 in
theorem own_law (l : Launch) (Z : State) (a0 : Array Value) (hw : ∀ d ∈ tables_1, d.before a0 Z = true) (ws : List Jvm.Cond) (p0 : Int32) (x10 : Addr) (x11 : Addr) (h0 : Heap) (n0 : Nat) (Z0 : n0 ≤ h0.size) (S10 : Sta Z h0 "com/example/xml_element_search/xmlelementsearch/MarkupFilter$Version" "XML_1_0" "Lcom/example/xml_element_search/xmlelementsearch/MarkupFilter$Version;" (.ref x10)) (S11 : Sta Z h0 "com/example/xml_element_search/xmlelementsearch/MarkupFilter$Version" "XML_1_1" "Lcom/example/xml_element_search/xmlelementsearch/MarkupFilter$Version;" (.ref x11)) (E10 : Exa Z h0 x10 "com/example/xml_element_search/xmlelementsearch/MarkupFilter$Version") (E11 : Exa Z h0 x11 "com/example/xml_element_search/xmlelementsearch/MarkupFilter$Version") (hne : x11 ≠ x10) :
    MetFree l x (head1 (Jvm.Cond.code x code maxLocals ret :: ws) room_1) (fun a U => a = #[(.int p0)] ∧ Z.Warmed39 U.vm ∧ U.heap = h0) (fun _ _ _ _ _ => True) (fun _ U o U' => ∃ v L, o = .returned v ∧ Q_own_law Z p0 x10 x11 h0 n0 v U'.heap L ∧ FrameEnd U o U' L 0 0) := by
  refine MetFree.of_bodySF (plainFor_of_name pn_own_law) hisR ?_
  intro p e s m args below meth c s₁ Bd hml0 hP hK
  obtain ⟨rfl, hZ, hh⟩ := hP
  have hx := Bd.exec
  have hby := Bd.bytes
  have hml : c.maxLocals = 3 := hml0
  have hown : s.vm.findClass "com/example/xml_element_search/xmlelementsearch/VersionAllowsPinLaw" = some m.cls := findClass_of_methodNamed Bd.named
  have hnm := (name_of_methodNamed Bd.named Bd.method).1
  have X0 : Stand p l e room_1 s m #[(.int p0)] below meth c s₁ [] 0 0 := Stand.of_body Bd
  have e0 : s₁.heap = h0 := by rw [← hh, Bd.state]; rfl
  have N0 := Fr.nil n0
  have pre0 : ∀ t, Steps p.tables e below (s₁.setTop (mkF m 0 #[.val (.int p0), .unset, .unset] [])) t → Steps p.tables e below (s₁.setTop (entryFrame m #[(.int p0)] maxLocals)) t := fun t k => castTop (ef_own_law m (p0)) k
  obtain ⟨T43, X43, e43, st43⟩ := getS2 X0 hx hZ hown (host := "") (Or.inl (hw _ (List.mem_of_getElem? (i := 0) rfl))) Via.refl e0 S10 (g := (mkF m 0 #[.val (.int p0), .unset, .unset] [])) rfl (hb hby at_0)
  obtain ⟨cq44, kq44, q44a, q44b, q44c⟩ := isOf hZ e43 E10
  obtain ⟨_, _, ⟨T44, L44, k44, n44⟩, -, X44, ⟨Lc44, hQ44, l44, y44, z44⟩, st44⟩ := X43.virtualBack hx (y := (⟨"com/example/xml_element_search/xmlelementsearch/MarkupFilter$Version", "allows", "(I)Z"⟩ : MethodName)) (z := (⟨"com/example/xml_element_search/xmlelementsearch/MarkupFilter$Version", "allows", "(I)Z"⟩ : MethodName)) hown (mvT hZ (hw _ (List.mem_of_getElem? (i := 3) rfl))) (mvT hZ (hw _ (List.mem_of_getElem? (i := 4) rfl))) (notFace_of_selects (args := #[]) (mvT hZ (hw _ (List.mem_of_getElem? (i := 6) rfl)))) (mvT hZ (hw _ (List.mem_of_getElem? (i := 6) rfl))) (mvT hZ (hw _ (List.mem_of_getElem? (i := 5) rfl))) (by decide) (backOf (W := 0) (own_al l Z a0 hw [] x10 p0 x10 h0 n0 Z0 S10) hZ (hw _ (List.mem_of_getElem? (i := 7) rfl)) (hw _ (List.mem_of_getElem? (i := 1) rfl)) (by decide) (by decide)) q44a q44c (g := (mkF m 4 #[.val (.int p0), .unset, .unset] [(.int p0), (.ref x10)])) rfl (by rw [hml]; rfl) (Steps.refl _) (argsL := [(.int p0)]) (rest := []) (lenOf pd_1 rfl) rfl (by show 2 * 0 + _ ≤ _; exact Nat.le_of_eq rfl) (hb hby at_4) (fun _ _ => ⟨rfl, e43, (by decide : 0 + 0 ≤ _), (by decide : 0 + 0 ≤ _)⟩)
  dsimp only [Pt.U, Pt.locs, Pt.cells, Pt.slots] at X44 l44 y44 z44 st44 hQ44
  subst l44 y44 z44
  obtain ⟨rfl, N44q, eh44⟩ := hQ44
  have N44 := Fr.app N0 N44q
  obtain ⟨T45, X45, e45, st45⟩ := getS2 X44 hx hZ hown (host := "") (Or.inl (hw _ (List.mem_of_getElem? (i := 10) rfl))) Via.refl eh44 S11 (g := (mkF m 8 #[.val (.int p0), .val (.int (if ((p0 = (9 : Int32) ∨ p0 = (10 : Int32) ∨ p0 = (13 : Int32) ∨ (¬ p0 < (32 : Int32) ∧ ¬ (55295 : Int32) < p0) ∨ (¬ p0 < (57344 : Int32) ∧ ¬ (65533 : Int32) < p0) ∨ (¬ p0 < (65536 : Int32) ∧ ¬ (1114111 : Int32) < p0)) ∧ ((Value.ref x10) = (Value.ref x10) ∨ p0 < (127 : Int32) ∨ p0 = (133 : Int32) ∨ (159 : Int32) < p0)) then (1 : Int32) else (0 : Int32))), .unset] [])) rfl (hb hby at_8)
  obtain ⟨cq46, kq46, q46a, q46b, q46c⟩ := isOf hZ e45 E11
  obtain ⟨_, _, ⟨T46, L46, k46, n46⟩, -, X46, ⟨Lc46, hQ46, l46, y46, z46⟩, st46⟩ := X45.virtualBack hx (y := (⟨"com/example/xml_element_search/xmlelementsearch/MarkupFilter$Version", "allows", "(I)Z"⟩ : MethodName)) (z := (⟨"com/example/xml_element_search/xmlelementsearch/MarkupFilter$Version", "allows", "(I)Z"⟩ : MethodName)) hown (mvT hZ (hw _ (List.mem_of_getElem? (i := 3) rfl))) (mvT hZ (hw _ (List.mem_of_getElem? (i := 4) rfl))) (notFace_of_selects (args := #[]) (mvT hZ (hw _ (List.mem_of_getElem? (i := 6) rfl)))) (mvT hZ (hw _ (List.mem_of_getElem? (i := 6) rfl))) (mvT hZ (hw _ (List.mem_of_getElem? (i := 5) rfl))) (by decide) (backOf (W := 0) (own_al l Z a0 hw [] x11 p0 x10 h0 n0 Z0 S10) hZ (hw _ (List.mem_of_getElem? (i := 7) rfl)) (hw _ (List.mem_of_getElem? (i := 1) rfl)) (by decide) (by decide)) q46a q46c (g := (mkF m 12 #[.val (.int p0), .val (.int (if ((p0 = (9 : Int32) ∨ p0 = (10 : Int32) ∨ p0 = (13 : Int32) ∨ (¬ p0 < (32 : Int32) ∧ ¬ (55295 : Int32) < p0) ∨ (¬ p0 < (57344 : Int32) ∧ ¬ (65533 : Int32) < p0) ∨ (¬ p0 < (65536 : Int32) ∧ ¬ (1114111 : Int32) < p0)) ∧ ((Value.ref x10) = (Value.ref x10) ∨ p0 < (127 : Int32) ∨ p0 = (133 : Int32) ∨ (159 : Int32) < p0)) then (1 : Int32) else (0 : Int32))), .unset] [(.int p0), (.ref x11)])) rfl (by rw [hml]; rfl) (Steps.refl _) (argsL := [(.int p0)]) (rest := []) (lenOf pd_1 rfl) rfl (by show 2 * 0 + _ ≤ _; exact Nat.le_of_eq rfl) (hb hby at_12) (fun _ _ => ⟨rfl, e45, (by decide : 0 + 0 ≤ _), (by decide : 0 + 0 ≤ _)⟩)
  dsimp only [Pt.U, Pt.locs, Pt.cells, Pt.slots] at X46 l46 y46 z46 st46 hQ46
  subst l46 y46 z46
  obtain ⟨rfl, N46q, eh46⟩ := hQ46
  have N46 := Fr.app N44 N46q
  obtain ⟨_, _, ⟨T47, L47, k47, n47⟩, -, X47, ⟨Lc47, hQ47, l47, y47, z47⟩, st47⟩ := Jvm.LawKit.callS X46 hx (y := (⟨"com/example/xml_element_search/xmlelementsearch/VersionAllowsPinLaw", "expected10", "(I)Z"⟩ : MethodName)) hown (mvT hZ (hw _ (List.mem_of_getElem? (i := 12) rfl))) (mvT hZ (hw _ (List.mem_of_getElem? (i := 13) rfl))) (mvT hZ (hw _ (List.mem_of_getElem? (i := 14) rfl))) (mvT hZ (hw _ (List.mem_of_getElem? (i := 15) rfl))) (by decide) (backOf (W := 1) (own_e10 l Z a0 hw [] p0 h0 n0 Z0 ) hZ (hw _ (List.mem_of_getElem? (i := 15) rfl)) (hw _ (List.mem_of_getElem? (i := 14) rfl)) (by decide) (by decide)) (g := (mkF m 18 #[.val (.int p0), .val (.int (if ((p0 = (9 : Int32) ∨ p0 = (10 : Int32) ∨ p0 = (13 : Int32) ∨ (¬ p0 < (32 : Int32) ∧ ¬ (55295 : Int32) < p0) ∨ (¬ p0 < (57344 : Int32) ∧ ¬ (65533 : Int32) < p0) ∨ (¬ p0 < (65536 : Int32) ∧ ¬ (1114111 : Int32) < p0)) ∧ ((Value.ref x10) = (Value.ref x10) ∨ p0 < (127 : Int32) ∨ p0 = (133 : Int32) ∨ (159 : Int32) < p0)) then (1 : Int32) else (0 : Int32))), .val (.int (if ((p0 = (9 : Int32) ∨ p0 = (10 : Int32) ∨ p0 = (13 : Int32) ∨ (¬ p0 < (32 : Int32) ∧ ¬ (55295 : Int32) < p0) ∨ (¬ p0 < (57344 : Int32) ∧ ¬ (65533 : Int32) < p0) ∨ (¬ p0 < (65536 : Int32) ∧ ¬ (1114111 : Int32) < p0)) ∧ ((Value.ref x11) = (Value.ref x10) ∨ p0 < (127 : Int32) ∨ p0 = (133 : Int32) ∨ (159 : Int32) < p0)) then (1 : Int32) else (0 : Int32)))] [(.int p0), (.int (if ((p0 = (9 : Int32) ∨ p0 = (10 : Int32) ∨ p0 = (13 : Int32) ∨ (¬ p0 < (32 : Int32) ∧ ¬ (55295 : Int32) < p0) ∨ (¬ p0 < (57344 : Int32) ∧ ¬ (65533 : Int32) < p0) ∨ (¬ p0 < (65536 : Int32) ∧ ¬ (1114111 : Int32) < p0)) ∧ ((Value.ref x10) = (Value.ref x10) ∨ p0 < (127 : Int32) ∨ p0 = (133 : Int32) ∨ (159 : Int32) < p0)) then (1 : Int32) else (0 : Int32)))])) rfl (by rw [hml]; rfl) (argsL := [(.int p0)]) (rest := [(.int (if ((p0 = (9 : Int32) ∨ p0 = (10 : Int32) ∨ p0 = (13 : Int32) ∨ (¬ p0 < (32 : Int32) ∧ ¬ (55295 : Int32) < p0) ∨ (¬ p0 < (57344 : Int32) ∧ ¬ (65533 : Int32) < p0) ∨ (¬ p0 < (65536 : Int32) ∧ ¬ (1114111 : Int32) < p0)) ∧ ((Value.ref x10) = (Value.ref x10) ∨ p0 < (127 : Int32) ∨ p0 = (133 : Int32) ∨ (159 : Int32) < p0)) then (1 : Int32) else (0 : Int32)))]) (lenOf pd_1 rfl) rfl (by show 2 * 0 + _ ≤ _; exact Nat.le_of_eq rfl) (hb hby at_18) (fun _ _ => ⟨rfl, eh46, (by decide : 0 + 0 ≤ _), (by decide : 0 + 0 ≤ _)⟩)
  dsimp only [Pt.U, Pt.locs, Pt.cells, Pt.slots] at X47 l47 y47 z47 st47 hQ47
  subst l47 y47 z47
  obtain ⟨rfl, N47q, eh47⟩ := hQ47
  have N47 := Fr.app N46 N47q
  obtain ⟨_, _, ⟨T48, L48, k48, n48⟩, -, X48, ⟨Lc48, hQ48, l48, y48, z48⟩, st48⟩ := Jvm.LawKit.callS X47 hx (y := (⟨"com/example/xml_element_search/xmlelementsearch/VersionAllowsPinLaw", "expected11", "(I)Z"⟩ : MethodName)) hown (mvT hZ (hw _ (List.mem_of_getElem? (i := 24) rfl))) (mvT hZ (hw _ (List.mem_of_getElem? (i := 25) rfl))) (mvT hZ (hw _ (List.mem_of_getElem? (i := 14) rfl))) (mvT hZ (hw _ (List.mem_of_getElem? (i := 26) rfl))) (by decide) (backOf (W := 1) (own_e11 l Z a0 hw [] p0 h0 n0 Z0 ) hZ (hw _ (List.mem_of_getElem? (i := 26) rfl)) (hw _ (List.mem_of_getElem? (i := 14) rfl)) (by decide) (by decide)) (g := (mkF m 26 #[.val (.int p0), .val (.int (if ((p0 = (9 : Int32) ∨ p0 = (10 : Int32) ∨ p0 = (13 : Int32) ∨ (¬ p0 < (32 : Int32) ∧ ¬ (55295 : Int32) < p0) ∨ (¬ p0 < (57344 : Int32) ∧ ¬ (65533 : Int32) < p0) ∨ (¬ p0 < (65536 : Int32) ∧ ¬ (1114111 : Int32) < p0)) ∧ ((Value.ref x10) = (Value.ref x10) ∨ p0 < (127 : Int32) ∨ p0 = (133 : Int32) ∨ (159 : Int32) < p0)) then (1 : Int32) else (0 : Int32))), .val (.int (if ((p0 = (9 : Int32) ∨ p0 = (10 : Int32) ∨ p0 = (13 : Int32) ∨ (¬ p0 < (32 : Int32) ∧ ¬ (55295 : Int32) < p0) ∨ (¬ p0 < (57344 : Int32) ∧ ¬ (65533 : Int32) < p0) ∨ (¬ p0 < (65536 : Int32) ∧ ¬ (1114111 : Int32) < p0)) ∧ ((Value.ref x11) = (Value.ref x10) ∨ p0 < (127 : Int32) ∨ p0 = (133 : Int32) ∨ (159 : Int32) < p0)) then (1 : Int32) else (0 : Int32)))] [(.int p0), (.int (if ((p0 = (9 : Int32) ∨ p0 = (10 : Int32) ∨ p0 = (13 : Int32) ∨ (¬ p0 < (32 : Int32) ∧ ¬ (55295 : Int32) < p0) ∨ (¬ p0 < (57344 : Int32) ∧ ¬ (65533 : Int32) < p0) ∨ (¬ p0 < (65536 : Int32) ∧ ¬ (1114111 : Int32) < p0)) ∧ ((Value.ref x11) = (Value.ref x10) ∨ p0 < (127 : Int32) ∨ p0 = (133 : Int32) ∨ (159 : Int32) < p0)) then (1 : Int32) else (0 : Int32)))])) rfl (by rw [hml]; rfl) (argsL := [(.int p0)]) (rest := [(.int (if ((p0 = (9 : Int32) ∨ p0 = (10 : Int32) ∨ p0 = (13 : Int32) ∨ (¬ p0 < (32 : Int32) ∧ ¬ (55295 : Int32) < p0) ∨ (¬ p0 < (57344 : Int32) ∧ ¬ (65533 : Int32) < p0) ∨ (¬ p0 < (65536 : Int32) ∧ ¬ (1114111 : Int32) < p0)) ∧ ((Value.ref x11) = (Value.ref x10) ∨ p0 < (127 : Int32) ∨ p0 = (133 : Int32) ∨ (159 : Int32) < p0)) then (1 : Int32) else (0 : Int32)))]) (lenOf pd_1 rfl) rfl (by show 2 * 0 + _ ≤ _; exact Nat.le_of_eq rfl) (hb hby at_26) (fun _ _ => ⟨rfl, eh47, (by decide : 0 + 0 ≤ _), (by decide : 0 + 0 ≤ _)⟩)
  dsimp only [Pt.U, Pt.locs, Pt.cells, Pt.slots] at X48 l48 y48 z48 st48 hQ48
  subst l48 y48 z48
  obtain ⟨rfl, N48q, eh48⟩ := hQ48
  have N48 := Fr.app N47 N48q
  obtain ⟨fs, hr, hrun, hended, hW, hsame⟩ := X48.leave (v := some (.int (1 : Int32))) (fun h => by rw [Bd.returns] at h; cases h)
  refine ⟨_, _, pre0 _ ?_, hrun, hended, _, _, rfl, ?_, ⟨_, rfl⟩, hW, hsame.mono (by decide) (by decide)⟩
  · show Steps p.tables e below (s₁.setTop (mkF m 0 #[.val (.int p0), .unset, .unset] [])) _
    refine st43 _ ?_
    show Steps p.tables e below (T43.setTop (mkF m 3 #[.val (.int p0), .unset, .unset] [(.ref x10)])) _
    refine XS.iloadN X43.here hx rfl (hb hby at_3) rfl ?_
    show Steps p.tables e below (T43.setTop (mkF m 4 #[.val (.int p0), .unset, .unset] [(.int p0), (.ref x10)])) _
    refine st44.trans ?_
    show Steps p.tables e below (T44.setTop (mkF m 7 #[.val (.int p0), .unset, .unset] [(.int (if ((p0 = (9 : Int32) ∨ p0 = (10 : Int32) ∨ p0 = (13 : Int32) ∨ (¬ p0 < (32 : Int32) ∧ ¬ (55295 : Int32) < p0) ∨ (¬ p0 < (57344 : Int32) ∧ ¬ (65533 : Int32) < p0) ∨ (¬ p0 < (65536 : Int32) ∧ ¬ (1114111 : Int32) < p0)) ∧ ((Value.ref x10) = (Value.ref x10) ∨ p0 < (127 : Int32) ∨ p0 = (133 : Int32) ∨ (159 : Int32) < p0)) then (1 : Int32) else (0 : Int32)))])) _
    refine XS.istoreN X44.here hx rfl (hb hby at_7) rfl (l' := #[.val (.int p0), .val (.int (if ((p0 = (9 : Int32) ∨ p0 = (10 : Int32) ∨ p0 = (13 : Int32) ∨ (¬ p0 < (32 : Int32) ∧ ¬ (55295 : Int32) < p0) ∨ (¬ p0 < (57344 : Int32) ∧ ¬ (65533 : Int32) < p0) ∨ (¬ p0 < (65536 : Int32) ∧ ¬ (1114111 : Int32) < p0)) ∧ ((Value.ref x10) = (Value.ref x10) ∨ p0 < (127 : Int32) ∨ p0 = (133 : Int32) ∨ (159 : Int32) < p0)) then (1 : Int32) else (0 : Int32))), .unset]) rfl ?_
    show Steps p.tables e below (T44.setTop (mkF m 8 #[.val (.int p0), .val (.int (if ((p0 = (9 : Int32) ∨ p0 = (10 : Int32) ∨ p0 = (13 : Int32) ∨ (¬ p0 < (32 : Int32) ∧ ¬ (55295 : Int32) < p0) ∨ (¬ p0 < (57344 : Int32) ∧ ¬ (65533 : Int32) < p0) ∨ (¬ p0 < (65536 : Int32) ∧ ¬ (1114111 : Int32) < p0)) ∧ ((Value.ref x10) = (Value.ref x10) ∨ p0 < (127 : Int32) ∨ p0 = (133 : Int32) ∨ (159 : Int32) < p0)) then (1 : Int32) else (0 : Int32))), .unset] [])) _
    refine st45 _ ?_
    show Steps p.tables e below (T45.setTop (mkF m 11 #[.val (.int p0), .val (.int (if ((p0 = (9 : Int32) ∨ p0 = (10 : Int32) ∨ p0 = (13 : Int32) ∨ (¬ p0 < (32 : Int32) ∧ ¬ (55295 : Int32) < p0) ∨ (¬ p0 < (57344 : Int32) ∧ ¬ (65533 : Int32) < p0) ∨ (¬ p0 < (65536 : Int32) ∧ ¬ (1114111 : Int32) < p0)) ∧ ((Value.ref x10) = (Value.ref x10) ∨ p0 < (127 : Int32) ∨ p0 = (133 : Int32) ∨ (159 : Int32) < p0)) then (1 : Int32) else (0 : Int32))), .unset] [(.ref x11)])) _
    refine XS.iloadN X45.here hx rfl (hb hby at_11) rfl ?_
    show Steps p.tables e below (T45.setTop (mkF m 12 #[.val (.int p0), .val (.int (if ((p0 = (9 : Int32) ∨ p0 = (10 : Int32) ∨ p0 = (13 : Int32) ∨ (¬ p0 < (32 : Int32) ∧ ¬ (55295 : Int32) < p0) ∨ (¬ p0 < (57344 : Int32) ∧ ¬ (65533 : Int32) < p0) ∨ (¬ p0 < (65536 : Int32) ∧ ¬ (1114111 : Int32) < p0)) ∧ ((Value.ref x10) = (Value.ref x10) ∨ p0 < (127 : Int32) ∨ p0 = (133 : Int32) ∨ (159 : Int32) < p0)) then (1 : Int32) else (0 : Int32))), .unset] [(.int p0), (.ref x11)])) _
    refine st46.trans ?_
    show Steps p.tables e below (T46.setTop (mkF m 15 #[.val (.int p0), .val (.int (if ((p0 = (9 : Int32) ∨ p0 = (10 : Int32) ∨ p0 = (13 : Int32) ∨ (¬ p0 < (32 : Int32) ∧ ¬ (55295 : Int32) < p0) ∨ (¬ p0 < (57344 : Int32) ∧ ¬ (65533 : Int32) < p0) ∨ (¬ p0 < (65536 : Int32) ∧ ¬ (1114111 : Int32) < p0)) ∧ ((Value.ref x10) = (Value.ref x10) ∨ p0 < (127 : Int32) ∨ p0 = (133 : Int32) ∨ (159 : Int32) < p0)) then (1 : Int32) else (0 : Int32))), .unset] [(.int (if ((p0 = (9 : Int32) ∨ p0 = (10 : Int32) ∨ p0 = (13 : Int32) ∨ (¬ p0 < (32 : Int32) ∧ ¬ (55295 : Int32) < p0) ∨ (¬ p0 < (57344 : Int32) ∧ ¬ (65533 : Int32) < p0) ∨ (¬ p0 < (65536 : Int32) ∧ ¬ (1114111 : Int32) < p0)) ∧ ((Value.ref x11) = (Value.ref x10) ∨ p0 < (127 : Int32) ∨ p0 = (133 : Int32) ∨ (159 : Int32) < p0)) then (1 : Int32) else (0 : Int32)))])) _
    refine XS.istoreN X46.here hx rfl (hb hby at_15) rfl (l' := #[.val (.int p0), .val (.int (if ((p0 = (9 : Int32) ∨ p0 = (10 : Int32) ∨ p0 = (13 : Int32) ∨ (¬ p0 < (32 : Int32) ∧ ¬ (55295 : Int32) < p0) ∨ (¬ p0 < (57344 : Int32) ∧ ¬ (65533 : Int32) < p0) ∨ (¬ p0 < (65536 : Int32) ∧ ¬ (1114111 : Int32) < p0)) ∧ ((Value.ref x10) = (Value.ref x10) ∨ p0 < (127 : Int32) ∨ p0 = (133 : Int32) ∨ (159 : Int32) < p0)) then (1 : Int32) else (0 : Int32))), .val (.int (if ((p0 = (9 : Int32) ∨ p0 = (10 : Int32) ∨ p0 = (13 : Int32) ∨ (¬ p0 < (32 : Int32) ∧ ¬ (55295 : Int32) < p0) ∨ (¬ p0 < (57344 : Int32) ∧ ¬ (65533 : Int32) < p0) ∨ (¬ p0 < (65536 : Int32) ∧ ¬ (1114111 : Int32) < p0)) ∧ ((Value.ref x11) = (Value.ref x10) ∨ p0 < (127 : Int32) ∨ p0 = (133 : Int32) ∨ (159 : Int32) < p0)) then (1 : Int32) else (0 : Int32)))]) rfl ?_
    show Steps p.tables e below (T46.setTop (mkF m 16 #[.val (.int p0), .val (.int (if ((p0 = (9 : Int32) ∨ p0 = (10 : Int32) ∨ p0 = (13 : Int32) ∨ (¬ p0 < (32 : Int32) ∧ ¬ (55295 : Int32) < p0) ∨ (¬ p0 < (57344 : Int32) ∧ ¬ (65533 : Int32) < p0) ∨ (¬ p0 < (65536 : Int32) ∧ ¬ (1114111 : Int32) < p0)) ∧ ((Value.ref x10) = (Value.ref x10) ∨ p0 < (127 : Int32) ∨ p0 = (133 : Int32) ∨ (159 : Int32) < p0)) then (1 : Int32) else (0 : Int32))), .val (.int (if ((p0 = (9 : Int32) ∨ p0 = (10 : Int32) ∨ p0 = (13 : Int32) ∨ (¬ p0 < (32 : Int32) ∧ ¬ (55295 : Int32) < p0) ∨ (¬ p0 < (57344 : Int32) ∧ ¬ (65533 : Int32) < p0) ∨ (¬ p0 < (65536 : Int32) ∧ ¬ (1114111 : Int32) < p0)) ∧ ((Value.ref x11) = (Value.ref x10) ∨ p0 < (127 : Int32) ∨ p0 = (133 : Int32) ∨ (159 : Int32) < p0)) then (1 : Int32) else (0 : Int32)))] [])) _
    refine XS.iloadN X46.here hx rfl (hb hby at_16) rfl ?_
    show Steps p.tables e below (T46.setTop (mkF m 17 #[.val (.int p0), .val (.int (if ((p0 = (9 : Int32) ∨ p0 = (10 : Int32) ∨ p0 = (13 : Int32) ∨ (¬ p0 < (32 : Int32) ∧ ¬ (55295 : Int32) < p0) ∨ (¬ p0 < (57344 : Int32) ∧ ¬ (65533 : Int32) < p0) ∨ (¬ p0 < (65536 : Int32) ∧ ¬ (1114111 : Int32) < p0)) ∧ ((Value.ref x10) = (Value.ref x10) ∨ p0 < (127 : Int32) ∨ p0 = (133 : Int32) ∨ (159 : Int32) < p0)) then (1 : Int32) else (0 : Int32))), .val (.int (if ((p0 = (9 : Int32) ∨ p0 = (10 : Int32) ∨ p0 = (13 : Int32) ∨ (¬ p0 < (32 : Int32) ∧ ¬ (55295 : Int32) < p0) ∨ (¬ p0 < (57344 : Int32) ∧ ¬ (65533 : Int32) < p0) ∨ (¬ p0 < (65536 : Int32) ∧ ¬ (1114111 : Int32) < p0)) ∧ ((Value.ref x11) = (Value.ref x10) ∨ p0 < (127 : Int32) ∨ p0 = (133 : Int32) ∨ (159 : Int32) < p0)) then (1 : Int32) else (0 : Int32)))] [(.int (if ((p0 = (9 : Int32) ∨ p0 = (10 : Int32) ∨ p0 = (13 : Int32) ∨ (¬ p0 < (32 : Int32) ∧ ¬ (55295 : Int32) < p0) ∨ (¬ p0 < (57344 : Int32) ∧ ¬ (65533 : Int32) < p0) ∨ (¬ p0 < (65536 : Int32) ∧ ¬ (1114111 : Int32) < p0)) ∧ ((Value.ref x10) = (Value.ref x10) ∨ p0 < (127 : Int32) ∨ p0 = (133 : Int32) ∨ (159 : Int32) < p0)) then (1 : Int32) else (0 : Int32)))])) _
    refine XS.iloadN X46.here hx rfl (hb hby at_17) rfl ?_
    show Steps p.tables e below (T46.setTop (mkF m 18 #[.val (.int p0), .val (.int (if ((p0 = (9 : Int32) ∨ p0 = (10 : Int32) ∨ p0 = (13 : Int32) ∨ (¬ p0 < (32 : Int32) ∧ ¬ (55295 : Int32) < p0) ∨ (¬ p0 < (57344 : Int32) ∧ ¬ (65533 : Int32) < p0) ∨ (¬ p0 < (65536 : Int32) ∧ ¬ (1114111 : Int32) < p0)) ∧ ((Value.ref x10) = (Value.ref x10) ∨ p0 < (127 : Int32) ∨ p0 = (133 : Int32) ∨ (159 : Int32) < p0)) then (1 : Int32) else (0 : Int32))), .val (.int (if ((p0 = (9 : Int32) ∨ p0 = (10 : Int32) ∨ p0 = (13 : Int32) ∨ (¬ p0 < (32 : Int32) ∧ ¬ (55295 : Int32) < p0) ∨ (¬ p0 < (57344 : Int32) ∧ ¬ (65533 : Int32) < p0) ∨ (¬ p0 < (65536 : Int32) ∧ ¬ (1114111 : Int32) < p0)) ∧ ((Value.ref x11) = (Value.ref x10) ∨ p0 < (127 : Int32) ∨ p0 = (133 : Int32) ∨ (159 : Int32) < p0)) then (1 : Int32) else (0 : Int32)))] [(.int p0), (.int (if ((p0 = (9 : Int32) ∨ p0 = (10 : Int32) ∨ p0 = (13 : Int32) ∨ (¬ p0 < (32 : Int32) ∧ ¬ (55295 : Int32) < p0) ∨ (¬ p0 < (57344 : Int32) ∧ ¬ (65533 : Int32) < p0) ∨ (¬ p0 < (65536 : Int32) ∧ ¬ (1114111 : Int32) < p0)) ∧ ((Value.ref x10) = (Value.ref x10) ∨ p0 < (127 : Int32) ∨ p0 = (133 : Int32) ∨ (159 : Int32) < p0)) then (1 : Int32) else (0 : Int32)))])) _
    refine st47 _ ?_
    show Steps p.tables e below (T47.setTop (mkF m 21 #[.val (.int p0), .val (.int (if ((p0 = (9 : Int32) ∨ p0 = (10 : Int32) ∨ p0 = (13 : Int32) ∨ (¬ p0 < (32 : Int32) ∧ ¬ (55295 : Int32) < p0) ∨ (¬ p0 < (57344 : Int32) ∧ ¬ (65533 : Int32) < p0) ∨ (¬ p0 < (65536 : Int32) ∧ ¬ (1114111 : Int32) < p0)) ∧ ((Value.ref x10) = (Value.ref x10) ∨ p0 < (127 : Int32) ∨ p0 = (133 : Int32) ∨ (159 : Int32) < p0)) then (1 : Int32) else (0 : Int32))), .val (.int (if ((p0 = (9 : Int32) ∨ p0 = (10 : Int32) ∨ p0 = (13 : Int32) ∨ (¬ p0 < (32 : Int32) ∧ ¬ (55295 : Int32) < p0) ∨ (¬ p0 < (57344 : Int32) ∧ ¬ (65533 : Int32) < p0) ∨ (¬ p0 < (65536 : Int32) ∧ ¬ (1114111 : Int32) < p0)) ∧ ((Value.ref x11) = (Value.ref x10) ∨ p0 < (127 : Int32) ∨ p0 = (133 : Int32) ∨ (159 : Int32) < p0)) then (1 : Int32) else (0 : Int32)))] [(.int (if (p0 = (9 : Int32) ∨ p0 = (10 : Int32) ∨ p0 = (13 : Int32) ∨ ¬ (p0 < (32 : Int32) ∨ (55295 : Int32) < p0) ∨ ¬ (p0 < (57344 : Int32) ∨ (65533 : Int32) < p0) ∨ ¬ (p0 < (65536 : Int32) ∨ (1114111 : Int32) < p0)) then (1 : Int32) else (0 : Int32))), (.int (if ((p0 = (9 : Int32) ∨ p0 = (10 : Int32) ∨ p0 = (13 : Int32) ∨ (¬ p0 < (32 : Int32) ∧ ¬ (55295 : Int32) < p0) ∨ (¬ p0 < (57344 : Int32) ∧ ¬ (65533 : Int32) < p0) ∨ (¬ p0 < (65536 : Int32) ∧ ¬ (1114111 : Int32) < p0)) ∧ ((Value.ref x10) = (Value.ref x10) ∨ p0 < (127 : Int32) ∨ p0 = (133 : Int32) ∨ (159 : Int32) < p0)) then (1 : Int32) else (0 : Int32)))])) _
    refine XS.icmpNo X47.here hx rfl (hb hby at_21) rfl (XT.ii_ne_f (own_10 x10 p0)) ?_
    show Steps p.tables e below (T47.setTop (mkF m 24 #[.val (.int p0), .val (.int (if ((p0 = (9 : Int32) ∨ p0 = (10 : Int32) ∨ p0 = (13 : Int32) ∨ (¬ p0 < (32 : Int32) ∧ ¬ (55295 : Int32) < p0) ∨ (¬ p0 < (57344 : Int32) ∧ ¬ (65533 : Int32) < p0) ∨ (¬ p0 < (65536 : Int32) ∧ ¬ (1114111 : Int32) < p0)) ∧ ((Value.ref x10) = (Value.ref x10) ∨ p0 < (127 : Int32) ∨ p0 = (133 : Int32) ∨ (159 : Int32) < p0)) then (1 : Int32) else (0 : Int32))), .val (.int (if ((p0 = (9 : Int32) ∨ p0 = (10 : Int32) ∨ p0 = (13 : Int32) ∨ (¬ p0 < (32 : Int32) ∧ ¬ (55295 : Int32) < p0) ∨ (¬ p0 < (57344 : Int32) ∧ ¬ (65533 : Int32) < p0) ∨ (¬ p0 < (65536 : Int32) ∧ ¬ (1114111 : Int32) < p0)) ∧ ((Value.ref x11) = (Value.ref x10) ∨ p0 < (127 : Int32) ∨ p0 = (133 : Int32) ∨ (159 : Int32) < p0)) then (1 : Int32) else (0 : Int32)))] [])) _
    refine XS.iloadN X47.here hx rfl (hb hby at_24) rfl ?_
    show Steps p.tables e below (T47.setTop (mkF m 25 #[.val (.int p0), .val (.int (if ((p0 = (9 : Int32) ∨ p0 = (10 : Int32) ∨ p0 = (13 : Int32) ∨ (¬ p0 < (32 : Int32) ∧ ¬ (55295 : Int32) < p0) ∨ (¬ p0 < (57344 : Int32) ∧ ¬ (65533 : Int32) < p0) ∨ (¬ p0 < (65536 : Int32) ∧ ¬ (1114111 : Int32) < p0)) ∧ ((Value.ref x10) = (Value.ref x10) ∨ p0 < (127 : Int32) ∨ p0 = (133 : Int32) ∨ (159 : Int32) < p0)) then (1 : Int32) else (0 : Int32))), .val (.int (if ((p0 = (9 : Int32) ∨ p0 = (10 : Int32) ∨ p0 = (13 : Int32) ∨ (¬ p0 < (32 : Int32) ∧ ¬ (55295 : Int32) < p0) ∨ (¬ p0 < (57344 : Int32) ∧ ¬ (65533 : Int32) < p0) ∨ (¬ p0 < (65536 : Int32) ∧ ¬ (1114111 : Int32) < p0)) ∧ ((Value.ref x11) = (Value.ref x10) ∨ p0 < (127 : Int32) ∨ p0 = (133 : Int32) ∨ (159 : Int32) < p0)) then (1 : Int32) else (0 : Int32)))] [(.int (if ((p0 = (9 : Int32) ∨ p0 = (10 : Int32) ∨ p0 = (13 : Int32) ∨ (¬ p0 < (32 : Int32) ∧ ¬ (55295 : Int32) < p0) ∨ (¬ p0 < (57344 : Int32) ∧ ¬ (65533 : Int32) < p0) ∨ (¬ p0 < (65536 : Int32) ∧ ¬ (1114111 : Int32) < p0)) ∧ ((Value.ref x11) = (Value.ref x10) ∨ p0 < (127 : Int32) ∨ p0 = (133 : Int32) ∨ (159 : Int32) < p0)) then (1 : Int32) else (0 : Int32)))])) _
    refine XS.iloadN X47.here hx rfl (hb hby at_25) rfl ?_
    show Steps p.tables e below (T47.setTop (mkF m 26 #[.val (.int p0), .val (.int (if ((p0 = (9 : Int32) ∨ p0 = (10 : Int32) ∨ p0 = (13 : Int32) ∨ (¬ p0 < (32 : Int32) ∧ ¬ (55295 : Int32) < p0) ∨ (¬ p0 < (57344 : Int32) ∧ ¬ (65533 : Int32) < p0) ∨ (¬ p0 < (65536 : Int32) ∧ ¬ (1114111 : Int32) < p0)) ∧ ((Value.ref x10) = (Value.ref x10) ∨ p0 < (127 : Int32) ∨ p0 = (133 : Int32) ∨ (159 : Int32) < p0)) then (1 : Int32) else (0 : Int32))), .val (.int (if ((p0 = (9 : Int32) ∨ p0 = (10 : Int32) ∨ p0 = (13 : Int32) ∨ (¬ p0 < (32 : Int32) ∧ ¬ (55295 : Int32) < p0) ∨ (¬ p0 < (57344 : Int32) ∧ ¬ (65533 : Int32) < p0) ∨ (¬ p0 < (65536 : Int32) ∧ ¬ (1114111 : Int32) < p0)) ∧ ((Value.ref x11) = (Value.ref x10) ∨ p0 < (127 : Int32) ∨ p0 = (133 : Int32) ∨ (159 : Int32) < p0)) then (1 : Int32) else (0 : Int32)))] [(.int p0), (.int (if ((p0 = (9 : Int32) ∨ p0 = (10 : Int32) ∨ p0 = (13 : Int32) ∨ (¬ p0 < (32 : Int32) ∧ ¬ (55295 : Int32) < p0) ∨ (¬ p0 < (57344 : Int32) ∧ ¬ (65533 : Int32) < p0) ∨ (¬ p0 < (65536 : Int32) ∧ ¬ (1114111 : Int32) < p0)) ∧ ((Value.ref x11) = (Value.ref x10) ∨ p0 < (127 : Int32) ∨ p0 = (133 : Int32) ∨ (159 : Int32) < p0)) then (1 : Int32) else (0 : Int32)))])) _
    refine st48 _ ?_
    show Steps p.tables e below (T48.setTop (mkF m 29 #[.val (.int p0), .val (.int (if ((p0 = (9 : Int32) ∨ p0 = (10 : Int32) ∨ p0 = (13 : Int32) ∨ (¬ p0 < (32 : Int32) ∧ ¬ (55295 : Int32) < p0) ∨ (¬ p0 < (57344 : Int32) ∧ ¬ (65533 : Int32) < p0) ∨ (¬ p0 < (65536 : Int32) ∧ ¬ (1114111 : Int32) < p0)) ∧ ((Value.ref x10) = (Value.ref x10) ∨ p0 < (127 : Int32) ∨ p0 = (133 : Int32) ∨ (159 : Int32) < p0)) then (1 : Int32) else (0 : Int32))), .val (.int (if ((p0 = (9 : Int32) ∨ p0 = (10 : Int32) ∨ p0 = (13 : Int32) ∨ (¬ p0 < (32 : Int32) ∧ ¬ (55295 : Int32) < p0) ∨ (¬ p0 < (57344 : Int32) ∧ ¬ (65533 : Int32) < p0) ∨ (¬ p0 < (65536 : Int32) ∧ ¬ (1114111 : Int32) < p0)) ∧ ((Value.ref x11) = (Value.ref x10) ∨ p0 < (127 : Int32) ∨ p0 = (133 : Int32) ∨ (159 : Int32) < p0)) then (1 : Int32) else (0 : Int32)))] [(.int (if ((¬ (p0 < (1 : Int32) ∨ (55295 : Int32) < p0) ∨ ¬ (p0 < (57344 : Int32) ∨ (65533 : Int32) < p0) ∨ ¬ (p0 < (65536 : Int32) ∨ (1114111 : Int32) < p0)) ∧ ¬ (¬ (p0 < (1 : Int32) ∨ (8 : Int32) < p0) ∨ ¬ (p0 < (11 : Int32) ∨ (12 : Int32) < p0) ∨ ¬ (p0 < (14 : Int32) ∨ (31 : Int32) < p0) ∨ ¬ (p0 < (127 : Int32) ∨ (132 : Int32) < p0) ∨ ¬ (p0 < (134 : Int32) ∨ (159 : Int32) < p0))) then (1 : Int32) else (0 : Int32))), (.int (if ((p0 = (9 : Int32) ∨ p0 = (10 : Int32) ∨ p0 = (13 : Int32) ∨ (¬ p0 < (32 : Int32) ∧ ¬ (55295 : Int32) < p0) ∨ (¬ p0 < (57344 : Int32) ∧ ¬ (65533 : Int32) < p0) ∨ (¬ p0 < (65536 : Int32) ∧ ¬ (1114111 : Int32) < p0)) ∧ ((Value.ref x11) = (Value.ref x10) ∨ p0 < (127 : Int32) ∨ p0 = (133 : Int32) ∨ (159 : Int32) < p0)) then (1 : Int32) else (0 : Int32)))])) _
    refine XS.icmpNo X48.here hx rfl (hb hby at_29) rfl (XT.ii_ne_f (own_11 x11 x10 hne p0)) ?_
    show Steps p.tables e below (T48.setTop (mkF m 32 #[.val (.int p0), .val (.int (if ((p0 = (9 : Int32) ∨ p0 = (10 : Int32) ∨ p0 = (13 : Int32) ∨ (¬ p0 < (32 : Int32) ∧ ¬ (55295 : Int32) < p0) ∨ (¬ p0 < (57344 : Int32) ∧ ¬ (65533 : Int32) < p0) ∨ (¬ p0 < (65536 : Int32) ∧ ¬ (1114111 : Int32) < p0)) ∧ ((Value.ref x10) = (Value.ref x10) ∨ p0 < (127 : Int32) ∨ p0 = (133 : Int32) ∨ (159 : Int32) < p0)) then (1 : Int32) else (0 : Int32))), .val (.int (if ((p0 = (9 : Int32) ∨ p0 = (10 : Int32) ∨ p0 = (13 : Int32) ∨ (¬ p0 < (32 : Int32) ∧ ¬ (55295 : Int32) < p0) ∨ (¬ p0 < (57344 : Int32) ∧ ¬ (65533 : Int32) < p0) ∨ (¬ p0 < (65536 : Int32) ∧ ¬ (1114111 : Int32) < p0)) ∧ ((Value.ref x11) = (Value.ref x10) ∨ p0 < (127 : Int32) ∨ p0 = (133 : Int32) ∨ (159 : Int32) < p0)) then (1 : Int32) else (0 : Int32)))] [])) _
    refine XS.iconst X48.here hx rfl (hb hby at_32) ?_
    show Steps p.tables e below (T48.setTop (mkF m 33 #[.val (.int p0), .val (.int (if ((p0 = (9 : Int32) ∨ p0 = (10 : Int32) ∨ p0 = (13 : Int32) ∨ (¬ p0 < (32 : Int32) ∧ ¬ (55295 : Int32) < p0) ∨ (¬ p0 < (57344 : Int32) ∧ ¬ (65533 : Int32) < p0) ∨ (¬ p0 < (65536 : Int32) ∧ ¬ (1114111 : Int32) < p0)) ∧ ((Value.ref x10) = (Value.ref x10) ∨ p0 < (127 : Int32) ∨ p0 = (133 : Int32) ∨ (159 : Int32) < p0)) then (1 : Int32) else (0 : Int32))), .val (.int (if ((p0 = (9 : Int32) ∨ p0 = (10 : Int32) ∨ p0 = (13 : Int32) ∨ (¬ p0 < (32 : Int32) ∧ ¬ (55295 : Int32) < p0) ∨ (¬ p0 < (57344 : Int32) ∧ ¬ (65533 : Int32) < p0) ∨ (¬ p0 < (65536 : Int32) ∧ ¬ (1114111 : Int32) < p0)) ∧ ((Value.ref x11) = (Value.ref x10) ∨ p0 < (127 : Int32) ∨ p0 = (133 : Int32) ∨ (159 : Int32) < p0)) then (1 : Int32) else (0 : Int32)))] [(.int (1 : Int32))])) _
    refine XS.goto X48.here hx rfl (pc0 := 33) (pc' := 37) rfl (hb hby at_33) (by decide) (by decide) ?_
    show Steps p.tables e below (T48.setTop (mkF m 37 #[.val (.int p0), .val (.int (if ((p0 = (9 : Int32) ∨ p0 = (10 : Int32) ∨ p0 = (13 : Int32) ∨ (¬ p0 < (32 : Int32) ∧ ¬ (55295 : Int32) < p0) ∨ (¬ p0 < (57344 : Int32) ∧ ¬ (65533 : Int32) < p0) ∨ (¬ p0 < (65536 : Int32) ∧ ¬ (1114111 : Int32) < p0)) ∧ ((Value.ref x10) = (Value.ref x10) ∨ p0 < (127 : Int32) ∨ p0 = (133 : Int32) ∨ (159 : Int32) < p0)) then (1 : Int32) else (0 : Int32))), .val (.int (if ((p0 = (9 : Int32) ∨ p0 = (10 : Int32) ∨ p0 = (13 : Int32) ∨ (¬ p0 < (32 : Int32) ∧ ¬ (55295 : Int32) < p0) ∨ (¬ p0 < (57344 : Int32) ∧ ¬ (65533 : Int32) < p0) ∨ (¬ p0 < (65536 : Int32) ∧ ¬ (1114111 : Int32) < p0)) ∧ ((Value.ref x11) = (Value.ref x10) ∨ p0 < (127 : Int32) ∨ p0 = (133 : Int32) ∨ (159 : Int32) < p0)) then (1 : Int32) else (0 : Int32)))] [(.int (1 : Int32))])) _
    exact retN X48 hx (t := .boolean) Bd.returns (by simp) (hb hby at_37) hr
  · show Q_own_law Z p0 x10 x11 h0 n0 _ T48.heap _
    rw [eh48]
    exact ⟨rfl, N48⟩
theorem own_eqi {args : Array Value} {s : State} {t : Term} {k : Int32} (h : (Jvm.Cond.eq t (.int k)).value args s none s [] = some true) : t.eval args s none [] s = some (.int k) := by
  obtain ⟨x, y, hx, hy, -, K⟩ := cmp_v (Or.inl h)
  cases (Term.int_eval k).symm.trans hy
  obtain ⟨z, rfl⟩ := K
  rw [hx, gotT (Cond.eq_ints hx (Term.int_eval k)) h]
theorem own_ord {args : Array Value} {s : State} {t : Term} {k : Int32} {a : Addr} (ev : t.eval args s none [] s = some (.ref a)) (h : (Jvm.Cond.eq (.field t "java/lang/Enum" "ordinal" "I") (.int k)).value args s none s [] = some true) : s.fieldOf? a "java/lang/Enum" "ordinal" "I" = some (.int k) := by
  have f := fld_at (C := "java/lang/Enum") (n := "ordinal") (dd := "I") ev
  rw [← f]
  exact own_eqi h
set_option maxRecDepth 65536 in
set_option maxHeartbeats 40000000 in
theorem comes_1 {Post : Tables → Env → Array Value → State → Outcome → State → Prop} (hpost : ∀ tb e args s v u, (limb_1_1.after args s (.returned v) u = true ∧ limb_1_2.after args s (.returned v) u = true ∧ True) → FrameEnd s (.returned v) u (Jvm.fieldLocs frame_1_writes args s ++ Jvm.arrayLocs frame_1_arrays args s ++ Jvm.staticLocs frame_1_statics s) 0 0 → Post tb e args s (.returned v) u) :
    ArmFor flags0 classFile x code maxLocals ret World_1 tables_1 room_1 Calls_1 rest_1 Pre_1 Post := by
  intro l hfl _ _ p e ha hc hk s m args below hf hA hF happ hP
  obtain ⟨hcalls, hrest, hpre⟩ := hP
  obtain ⟨-, -, -, hnamed, -, -, -, hat⟩ := (Spec.applies_iff hf).mp happ
  obtain ⟨hg, hn⟩ := and_e (Cond.before_iff.mp (show (Jvm.Cond.and given_1 narrow_1).before args s = true from hpre))
  obtain ⟨hcount, hq0⟩ := and_e hg
  have ha0 := hq0
  obtain ⟨w0, rfl⟩ : ∃ w0 : Value, args = #[w0] := by
    have hs : args.size = 1 := by simpa [Cond.value, given_1] using hcount
    obtain ⟨L⟩ := args
    match L, hs with
    | [w0], _ => exact ⟨w0, rfl⟩
  have hw := fun d (hd : d ∈ tables_1) => atoms_spec (ws := Jvm.Cond.code x code maxLocals ret :: tables_1) hat d (List.mem_cons_of_mem _ hd)
  have hfit : Fit s := fun {y c} hc i hi => by
    obtain ⟨ha, rfl⟩ := Array.getElem?_eq_some_iff.mp hc
    have q := List.all_eq_true.mp ((Array.all_eq_true_iff_forall_mem.mp hF) _ (Array.getElem_mem ha)) i (List.mem_range.mpr hi)
    simpa [Array.getElem?_eq_getElem hi] using q
  obtain ⟨i0, ei0⟩ := is_v ha0
  obtain rfl : w0 = (.int i0) := Option.some.inj ei0
  obtain ⟨hn1, hn5⟩ := and_e hn
  obtain ⟨hn2, hn6⟩ := and_e hn5
  obtain ⟨hn3, hn4⟩ := and_e hn6
  obtain ⟨x10, ev10⟩ := exa_v hn1
  obtain ⟨x11, ev11⟩ := exa_v hn2
  have S10 := Sta.start ev10 (Or.inr ⟨(hw _ (List.mem_of_getElem? (i := 1) rfl)), (hw _ (List.mem_of_getElem? (i := 2) rfl))⟩)
  have S11 := Sta.start ev11 (Or.inr ⟨(hw _ (List.mem_of_getElem? (i := 1) rfl)), (hw _ (List.mem_of_getElem? (i := 11) rfl))⟩)
  have E10 := Exa.start ev10 hn1
  have E11 := Exa.start ev11 hn2
  have hne : x11 ≠ x10 := fun q => by
    have f1 := own_ord ev11 hn3
    have f0 := own_ord ev10 hn4
    rw [q, f0] at f1; exact absurd (Value.int.inj (Option.some.inj f1)) (by decide)
  obtain ⟨n, o, h1, h2, h3, _, L, rfl, ⟨rfl, N⟩, hq⟩ := own_law l s _ hw tables_1 i0 x10 x11 s.heap s.heap.size (Nat.le_refl _) S10 S11 E10 E11 hne p e ha hc hk s m _ below hf ((Spec.applies_iff_loose hf).mp happ).1 ⟨rfl, State.Warmed39.refl s, rfl⟩ trivial
  refine ⟨n, _, h1, h2, h3, hpost _ _ _ _ _ _ ⟨Cond.after_iff.mpr rfl, Cond.after_iff.mpr (eq_i res_at (Term.int_eval (1)) rfl), trivial⟩ ⟨hq.1, hq.2.1, (hq.2.2.sift fun y hy => Or.inr (N y hy)).mono (by decide) (by decide)⟩⟩
theorem main_1_1 : Claimed_1_1 := comes_1 fun _ _ _ _ _ _ h hF => ⟨h.1, hF⟩
theorem main_1_2 : Claimed_1_2 := comes_1 fun _ _ _ _ _ _ h hF => ⟨h.2.1, hF⟩
end Jvm.Pilot.@@N@@
namespace Jvm.Pilot.@@N@@
open Jvm Jvm.ClassFile Sem Op Lib Jvm.Free Jvm.Stand Jvm.Pilot.@@N@@.Jvm.D
/-! MADE BY PROGRAM (witnessworld.py) out of the Statement's table words and the real class files: 10 classes; the members and pool entries that the words name. The judged class is class 1, her method 4. -/
namespace start1
open Jvm.ClassFile
def u (s : String) : CpInfo := .utf8 (stringToUtf16 s)
/-- a pool by its gaps: so many unusable entries, then the entry; so many at the end -/
def gap : Nat → List CpInfo → List CpInfo
  | 0, r => r
  | n + 1, r => .unusable :: gap n r
def poolList (es : List (Nat × CpInfo)) (last : Nat) : List CpInfo := es.foldr (fun e r => gap e.1 (e.2 :: r)) (gap last [])
def pool (es : List (Nat × CpInfo)) (last : Nat) : Array CpInfo := ⟨poolList es last⟩
def fileOf (pool : Array CpInfo) (this : Nat) (attrs : Array Attribute := #[]) (ms : Array MethodInfo := #[]) (fl : Nat := 33) (sup : Nat := 0) (ifs : Array Nat := #[]) (fds : Array FieldInfo := #[]) : ClassFile where
  minorVersion := 0
  majorVersion := 65
  constantPool := pool
  accessFlags := fl
  thisClass := this
  superClass := sup
  interfaces := ifs
  fields := fds
  methods := ms
  attributes := attrs
def plain (name : String) (sup : Option ClassId) : Class where
  name := name
  kind := .ordinary
  loader := none
  accessFlags := 33
  super := sup
  interfaces := #[]
  cf := none
  fields := #[]
  methods := #[]
  instanceTypes := #[]
  staticTypes := #[]
  resolved := #[]
  callSites := []
  init := .initialized
  statics := none
  mirror := none

def pool0 : Array CpInfo := pool [(5, u "<init>"), (0, u "()V"), (1, .class_ 10), (1, u "java/lang/Object")] 113

def k0m0 : Method := { name := "<init>", desc := "()V", sig := { parameters := [], returnType := none }, accessFlags := 1, code := none }
/-- java/lang/Object -/
def k0 : Class := { plain "java/lang/Object" none with
  accessFlags := 33
  interfaces := #[]
  cf := some (fileOf pool0 8 #[] #[{ accessFlags := 1, nameIndex := 5, descriptorIndex := 6, attributes := #[] }] 33 0 #[] #[])
  fields := #[]
  methods := #[k0m0]
  instanceTypes := #[]
  staticTypes := #[]
  resolved := Array.replicate 124 none
  statics := none }

def pool1 : Array CpInfo := pool [(2, .class_ 4), (1, u "java/lang/Object"), (0, u "<init>"), (0, u "()V"), (0, .integer 55295), (0, .methodref 9 10), (0, .class_ 11), (0, .nameAndType 12 13), (0, u "com/example/xml_element_search/xmlelementsearch/VersionAllowsPinLaw"), (0, u "in"), (0, u "(III)Z"), (0, .integer 57344), (0, .integer 65533), (0, .integer 65536), (0, .integer 1114111), (0, .fieldref 19 20), (0, .class_ 21), (0, .nameAndType 22 23), (0, u "com/example/xml_element_search/xmlelementsearch/MarkupFilter$Version"), (0, u "XML_1_0"), (0, u "Lcom/example/xml_element_search/xmlelementsearch/MarkupFilter$Version;"), (0, .methodref 19 25), (0, .nameAndType 26 27), (0, u "allows"), (0, u "(I)Z"), (0, .fieldref 19 29), (0, .nameAndType 30 23), (0, u "XML_1_1"), (0, .methodref 9 32), (0, .nameAndType 33 27), (0, u "expected10"), (0, .methodref 9 35), (0, .nameAndType 36 27), (0, u "expected11"), (3, u "law")] 6

def k1m0 : Method := { name := "<init>", desc := "()V", sig := { parameters := [], returnType := none }, accessFlags := 1, code := none }
def k1c1 : Code := { maxStack := 2, maxLocals := 3, code := method_2_code, exceptionTable := #[], attributes := #[] }
def k1m1 : Method := { name := "in", desc := "(III)Z", sig := { parameters := [.int, .int, .int], returnType := some .boolean }, accessFlags := 10, code := some k1c1 }
def k1c2 : Code := { maxStack := 3, maxLocals := 1, code := method_3_code, exceptionTable := #[], attributes := #[] }
def k1m2 : Method := { name := "expected10", desc := "(I)Z", sig := { parameters := [.int], returnType := some .boolean }, accessFlags := 10, code := some k1c2 }
def k1c3 : Code := { maxStack := 3, maxLocals := 3, code := method_4_code, exceptionTable := #[], attributes := #[] }
def k1m3 : Method := { name := "expected11", desc := "(I)Z", sig := { parameters := [.int], returnType := some .boolean }, accessFlags := 10, code := some k1c3 }
def k1c4 : Code := { maxStack := 2, maxLocals := 3, code := code, exceptionTable := #[], attributes := #[] }
def k1m4 : Method := { name := "law", desc := "(I)Z", sig := { parameters := [.int], returnType := some .boolean }, accessFlags := 9, code := some k1c4 }
/-- com/example/xml_element_search/xmlelementsearch/VersionAllowsPinLaw -/
def k1 : Class := { plain "com/example/xml_element_search/xmlelementsearch/VersionAllowsPinLaw" (some 0) with
  accessFlags := 49
  interfaces := #[]
  cf := some (fileOf pool1 9 #[] #[{ accessFlags := 1, nameIndex := 5, descriptorIndex := 6, attributes := #[] }, { accessFlags := 10, nameIndex := 12, descriptorIndex := 13, attributes := #[] }, { accessFlags := 10, nameIndex := 33, descriptorIndex := 27, attributes := #[] }, { accessFlags := 10, nameIndex := 36, descriptorIndex := 27, attributes := #[] }, { accessFlags := 9, nameIndex := 40, descriptorIndex := 27, attributes := #[] }] 49 2 #[] #[])
  fields := #[]
  methods := #[k1m0, k1m1, k1m2, k1m3, k1m4]
  instanceTypes := #[]
  staticTypes := #[]
  resolved := Array.replicate 47 none
  statics := none }

def pool2 : Array CpInfo := pool [(1, .class_ 2), (0, u "java/lang/constant/Constable"), (0, .class_ 4), (0, u "java/lang/Object")] 6

/-- java/lang/constant/Constable -/
def k2 : Class := { plain "java/lang/constant/Constable" (some 0) with
  accessFlags := 1537
  interfaces := #[]
  cf := some (fileOf pool2 1 #[] #[] 1537 3 #[] #[])
  fields := #[]
  methods := #[]
  instanceTypes := #[]
  staticTypes := #[]
  resolved := Array.replicate 11 none
  statics := none }

def pool3 : Array CpInfo := pool [(1, .class_ 2), (0, u "java/lang/Comparable"), (0, .class_ 4), (0, u "java/lang/Object")] 7

/-- java/lang/Comparable -/
def k3 : Class := { plain "java/lang/Comparable" (some 0) with
  accessFlags := 1537
  interfaces := #[]
  cf := some (fileOf pool3 1 #[] #[] 1537 3 #[] #[])
  fields := #[]
  methods := #[]
  instanceTypes := #[]
  staticTypes := #[]
  resolved := Array.replicate 12 none
  statics := none }

def pool4 : Array CpInfo := pool [(1, .class_ 2), (0, u "java/io/Serializable"), (0, .class_ 4), (0, u "java/lang/Object")] 2

/-- java/io/Serializable -/
def k4 : Class := { plain "java/io/Serializable" (some 0) with
  accessFlags := 1537
  interfaces := #[]
  cf := some (fileOf pool4 1 #[] #[] 1537 3 #[] #[])
  fields := #[]
  methods := #[]
  instanceTypes := #[]
  staticTypes := #[]
  resolved := Array.replicate 7 none
  statics := none }

def pool5 : Array CpInfo := pool [(2, .class_ 4), (1, u "java/lang/Enum"), (0, u "name"), (0, u "Ljava/lang/String;"), (2, u "ordinal"), (0, u "I"), (1, .class_ 14), (1, u "java/lang/Object"), (4, u "hash"), (86, .class_ 108), (1, u "java/lang/Enum$EnumDesc"), (2, .class_ 112), (0, u "java/lang/constant/Constable"), (0, .class_ 114), (0, u "java/lang/Comparable"), (0, .class_ 116), (0, u "java/io/Serializable")] 87

/-- java/lang/Enum -/
def k5 : Class := { plain "java/lang/Enum" (some 0) with
  accessFlags := 1057
  interfaces := #[2, 3, 4]
  cf := some (fileOf pool5 2 #[.nestMembers #[106]] #[] 1057 12 #[111, 113, 115] #[{ accessFlags := 18, nameIndex := 5, descriptorIndex := 6, attributes := #[] }, { accessFlags := 18, nameIndex := 9, descriptorIndex := 10, attributes := #[] }, { accessFlags := 2, nameIndex := 19, descriptorIndex := 10, attributes := #[] }])
  fields := #[{ name := "name", type := (.object "java/lang/String"), accessFlags := 18, slot := 0, constantValue := 0 }, { name := "ordinal", type := .int, accessFlags := 18, slot := 1, constantValue := 0 }, { name := "hash", type := .int, accessFlags := 2, slot := 2, constantValue := 0 }]
  methods := #[]
  instanceTypes := #[(.object "java/lang/String"), .int, .int]
  staticTypes := #[]
  resolved := Array.replicate 204 none
  statics := none }

def pool6 : Array CpInfo := pool [(1, .class_ 2), (0, u "com/example/xml_element_search/xmlelementsearch/MarkupFilter"), (0, .class_ 4), (0, u "com/example/xml_element_search/xmlelementsearch/MarkupFilter$Version"), (0, .fieldref 3 6), (0, .nameAndType 7 8), (0, u "XML_1_0"), (0, u "Lcom/example/xml_element_search/xmlelementsearch/MarkupFilter$Version;"), (2, u "XML_1_1"), (2, u "$VALUES"), (0, u "[Lcom/example/xml_element_search/xmlelementsearch/MarkupFilter$Version;"), (6, .class_ 24), (1, u "java/lang/Enum"), (6, .integer 55295), (0, .integer 57344), (0, .integer 65533), (0, .integer 65536), (0, .integer 1114111), (3, u "(I)Z"), (27, u "allows")] 11

def k6c0 : Code := { maxStack := 2, maxLocals := 3, code := prog_67_method_4_code, exceptionTable := #[], attributes := #[] }
def k6m0 : Method := { name := "allows", desc := "(I)Z", sig := { parameters := [.int], returnType := some .boolean }, accessFlags := 0, code := some k6c0 }
/-- com/example/xml_element_search/xmlelementsearch/MarkupFilter$Version -/
def k6 : Class := { plain "com/example/xml_element_search/xmlelementsearch/MarkupFilter$Version" (some 5) with
  accessFlags := 16432
  interfaces := #[]
  cf := some (fileOf pool6 3 #[.nestHost 1] #[{ accessFlags := 0, nameIndex := 67, descriptorIndex := 39, attributes := #[] }] 16432 22 #[] #[{ accessFlags := 16409, nameIndex := 7, descriptorIndex := 8, attributes := #[] }, { accessFlags := 16409, nameIndex := 11, descriptorIndex := 8, attributes := #[] }, { accessFlags := 4122, nameIndex := 14, descriptorIndex := 15, attributes := #[] }])
  fields := #[{ name := "XML_1_0", type := (.object "com/example/xml_element_search/xmlelementsearch/MarkupFilter$Version"), accessFlags := 16409, slot := 0, constantValue := 0 }, { name := "XML_1_1", type := (.object "com/example/xml_element_search/xmlelementsearch/MarkupFilter$Version"), accessFlags := 16409, slot := 1, constantValue := 0 }, { name := "$VALUES", type := (.array (.object "com/example/xml_element_search/xmlelementsearch/MarkupFilter$Version")), accessFlags := 4122, slot := 2, constantValue := 0 }]
  methods := #[k6m0]
  instanceTypes := #[(.object "java/lang/String"), .int, .int]
  staticTypes := #[(.object "com/example/xml_element_search/xmlelementsearch/MarkupFilter$Version"), (.object "com/example/xml_element_search/xmlelementsearch/MarkupFilter$Version"), (.array (.object "com/example/xml_element_search/xmlelementsearch/MarkupFilter$Version"))]
  resolved := Array.replicate 79 none
  statics := some 0 }

def pool7 : Array CpInfo := pool [(1, u "java/lang/Cloneable"), (0, .class_ 1), (0, u "java/lang/Object"), (0, .class_ 3)] 3

/-- java/lang/Cloneable -/
def k7 : Class := { plain "java/lang/Cloneable" (some 0) with
  accessFlags := 1537
  interfaces := #[]
  cf := some (fileOf pool7 2 #[] #[] 1537 4 #[] #[])
  fields := #[]
  methods := #[]
  instanceTypes := #[]
  staticTypes := #[]
  resolved := Array.replicate 8 none
  statics := none }

/-- the primitive byte -/
def k8 : Class := { plain "byte" none with kind := .primitive 'B', accessFlags := 0x411 }
/-- [B -/
def k9 : Class := { plain "[B" (some 0) with kind := .array 8 .byte, interfaces := #[7, 4], accessFlags := 1041 }

def heap : Heap := #[{ cls := 6, slots := #[.ref 1, .ref 2, .null], vm := .statics 6 },
  { cls := 6, slots := #[.null, .int 0, .int 0], vm := .none },
  { cls := 6, slots := #[.null, .int 1, .int 0], vm := .none }]
def classes : Array Class := #[k0, k1, k2, k3, k4, k5, k6, k7, k8, k9]
def interned : List (Array UInt16 × Addr) := []
def slotsUsed : Nat := 9
def theMethod : MethodId := ⟨1, 4⟩
def args0 : Array Value := #[.int 65]
def aboutOver (below : List Frame) : State where
  vm := { classes := classes, interned := interned.toArray }
  heap := heap
  slotsUsed := slotsUsed
  threads := #[{ frames := .invoking theMethod args0 :: below }]
def below0 : List Frame := [.native { method := ⟨0, 0⟩, args := #[] }]
def about1 : State := aboutOver below0
def p0 : Program := .bare "" "" ""
def e0 : Env := launch0.env 0 0 0
theorem w_frames : about1.frames = Frame.invoking theMethod args0 :: below0 := rfl
set_option maxRecDepth 65536 in
theorem w_args : argsFit about1.vm theMethod args0 = true := by decide +kernel
set_option maxRecDepth 65536 in
theorem w_heap : heapFits about1 = true := by decide +kernel
set_option maxRecDepth 65536 in
theorem w_runnable : about1.curStatus? = some .runnable := by decide +kernel
set_option maxRecDepth 65536 in
theorem w_alone : about1.alone = true := by decide +kernel
set_option maxRecDepth 65536 in
theorem w_named : about1.methodNamed? x = some theMethod := by decide +kernel
set_option maxRecDepth 65536 in
theorem w_hears : about1.hears theMethod below0 = true := by decide +kernel
set_option maxRecDepth 65536 in
theorem w_ripe : about1.ripe theMethod args0 below0 = true := by decide +kernel
theorem w_running : about1.status = .running := rfl
set_option maxRecDepth 65536 in
theorem w_room : about1.hasRoom e0.platform room_1 = true :=
  launch0.hasRoom_least _ room_1 (by decide +kernel) (by decide +kernel) (by decide +kernel) (by decide +kernel) (by decide +kernel) (by decide +kernel)
theorem allAtoms_all (ts : List Jvm.Cond) (a : Array Jvm.Value) (st : Jvm.State) : (allAtoms ts).before a st = ts.all (fun c => c.before a st) := by
  induction ts with
  | nil => rfl
  | cons c t ih =>
    show (Jvm.Cond.and c (allAtoms t)).before a st = _
    rw [Jvm.Cond.before_and, ih, List.all_cons]
def words1 : List Jvm.Cond := Jvm.Cond.code x code maxLocals ret :: tables_1
/-- a 'code' word, met by the world's own term for the bytes: nothing is compared byte by byte -/
theorem code_word {y : MethodName} {bytes : ByteArray} {mx : Nat} {rt : Option FieldType} {a : Array Value} {s : State} {m : MethodId} {meth : Method} {c : Code} (h1 : s.methodNamed? y = some m) (h2 : s.vm.method? m = some meth) (h3 : meth.code = some c) (h4 : c.code = bytes)
    (h5 : (c.maxLocals == mx && c.exceptionTable.isEmpty && decide (c.maxStack ≤ mostOperands) && decide (meth.sig.returnType = rt) && !meth.locks && decide (parseMethodDescriptor y.desc = some meth.sig)) = true) : (Jvm.Cond.code y bytes mx rt).before a s = true := by
  simp only [Bool.and_eq_true, beq_iff_eq, Bool.not_eq_true', decide_eq_true_eq] at h5
  obtain ⟨⟨⟨⟨⟨g1, g2⟩, g3⟩, g4⟩, g5⟩, g6⟩ := h5
  simp [Cond.before, Cond.holds, Cond.value, h1, h2, h3, h4, g1, g2, g3, g4, g5, g6]
def isCode : Jvm.Cond → Bool
  | .code _ _ _ _ => true
  | _ => false
theorem all_split {L : List Jvm.Cond} {P : Jvm.Cond → Bool} (h1 : L.all (fun c => isCode c || P c) = true) (h2 : ∀ c ∈ L.filter isCode, P c = true) : L.all P = true := by
  refine List.all_eq_true.mpr fun c hc => ?_
  have h := List.all_eq_true.mp h1 c hc
  rcases Bool.eq_false_or_eq_true (isCode c) with hi | hi
  · exact h2 c (List.mem_filter.mpr ⟨hc, hi⟩)
  · simpa [hi] using h
set_option maxRecDepth 65536 in
theorem w_c0 : (Jvm.Cond.code x code maxLocals ret).before args0 about1 = true := code_word (m := ⟨1, 4⟩) (meth := k1m4) (c := k1c4) (by decide +kernel) rfl rfl rfl (by decide +kernel)
set_option maxRecDepth 65536 in
theorem w_c1 : (Jvm.Cond.code ({ cls := "com/example/xml_element_search/xmlelementsearch/MarkupFilter$Version", name := "allows", desc := "(I)Z" } : Jvm.MethodName) prog_67_method_4_code (3 : Nat) (Option.some Jvm.ClassFile.FieldType.boolean)).before args0 about1 = true := code_word (m := ⟨6, 0⟩) (meth := k6m0) (c := k6c0) (by decide +kernel) rfl rfl rfl (by decide +kernel)
set_option maxRecDepth 65536 in
theorem w_c2 : (Jvm.Cond.code ({ cls := "com/example/xml_element_search/xmlelementsearch/VersionAllowsPinLaw", name := "expected10", desc := "(I)Z" } : Jvm.MethodName) method_3_code (1 : Nat) (Option.some Jvm.ClassFile.FieldType.boolean)).before args0 about1 = true := code_word (m := ⟨1, 2⟩) (meth := k1m2) (c := k1c2) (by decide +kernel) rfl rfl rfl (by decide +kernel)
set_option maxRecDepth 65536 in
theorem w_c3 : (Jvm.Cond.code ({ cls := "com/example/xml_element_search/xmlelementsearch/VersionAllowsPinLaw", name := "in", desc := "(III)Z" } : Jvm.MethodName) method_2_code (3 : Nat) (Option.some Jvm.ClassFile.FieldType.boolean)).before args0 about1 = true := code_word (m := ⟨1, 1⟩) (meth := k1m1) (c := k1c1) (by decide +kernel) rfl rfl rfl (by decide +kernel)
set_option maxRecDepth 65536 in
theorem w_c4 : (Jvm.Cond.code ({ cls := "com/example/xml_element_search/xmlelementsearch/VersionAllowsPinLaw", name := "expected11", desc := "(I)Z" } : Jvm.MethodName) method_4_code (3 : Nat) (Option.some Jvm.ClassFile.FieldType.boolean)).before args0 about1 = true := code_word (m := ⟨1, 3⟩) (meth := k1m3) (c := k1c3) (by decide +kernel) rfl rfl rfl (by decide +kernel)
def codes1 : List Jvm.Cond := [Jvm.Cond.code x code maxLocals ret, Jvm.Cond.code ({ cls := "com/example/xml_element_search/xmlelementsearch/MarkupFilter$Version", name := "allows", desc := "(I)Z" } : Jvm.MethodName) prog_67_method_4_code (3 : Nat) (Option.some Jvm.ClassFile.FieldType.boolean), Jvm.Cond.code ({ cls := "com/example/xml_element_search/xmlelementsearch/VersionAllowsPinLaw", name := "expected10", desc := "(I)Z" } : Jvm.MethodName) method_3_code (1 : Nat) (Option.some Jvm.ClassFile.FieldType.boolean), Jvm.Cond.code ({ cls := "com/example/xml_element_search/xmlelementsearch/VersionAllowsPinLaw", name := "in", desc := "(III)Z" } : Jvm.MethodName) method_2_code (3 : Nat) (Option.some Jvm.ClassFile.FieldType.boolean), Jvm.Cond.code ({ cls := "com/example/xml_element_search/xmlelementsearch/VersionAllowsPinLaw", name := "expected11", desc := "(I)Z" } : Jvm.MethodName) method_4_code (3 : Nat) (Option.some Jvm.ClassFile.FieldType.boolean)]
set_option maxRecDepth 65536 in
theorem codes_eq : words1.filter isCode = codes1 := rfl
theorem w_codes : ∀ c ∈ words1.filter isCode, c.before args0 about1 = true := by
  rw [codes_eq]
  intro c hc
  simp only [codes1, List.mem_cons, List.not_mem_nil, or_false] at hc
  rcases hc with rfl | rfl | rfl | rfl | rfl
  · exact w_c0
  · exact w_c1
  · exact w_c2
  · exact w_c3
  · exact w_c4
set_option maxRecDepth 65536 in
theorem w_t1 : (words1.take 24).all (fun c => isCode c || c.before args0 about1) = true := by decide +kernel
set_option maxRecDepth 65536 in
theorem w_t2 : (words1.drop 24).all (fun c => isCode c || c.before args0 about1) = true := by decide +kernel
theorem w_tables : (allAtoms (Jvm.Cond.code x code maxLocals ret :: tables_1)).before args0 about1 = true := by
  rw [allAtoms_all]
  show words1.all (fun c => c.before args0 about1) = true
  refine all_split ?_ w_codes
  rw [← List.take_append_drop 24 words1, List.all_append, w_t1, w_t2]
  rfl
set_option maxRecDepth 65536 in
theorem w_case : (Jvm.Cond.and given_1 narrow_1).before args0 about1 = true := by decide +kernel
theorem w_applies : (headSpec (Jvm.Cond.code x code maxLocals ret :: tables_1) room_1).applies x e0.platform about1 = true :=
  (Spec.applies_iff w_frames).mpr ⟨w_running, w_runnable, w_alone, w_named, w_hears, w_ripe, w_room, w_tables⟩
theorem atStart : AtStart classFile x code maxLocals ret World_1 tables_1 room_1 Calls_1 rest_1 Pre_1 launch0 p0 e0 about1 theMethod args0 below0 :=
  ⟨lists_1, trivial, launch0.admits_env _ _ _, launch0.least_env, fairChoices_fair.cas, fairChoices_fair.clock, w_frames, w_args, w_heap, w_applies, trivial, trivial, w_case⟩
end start1
theorem witness_1 : WitnessClaimed_1 := ⟨start1.p0, start1.e0, start1.about1, start1.theMethod, start1.args0, start1.below0, start1.atStart⟩
end Jvm.Pilot.@@N@@
