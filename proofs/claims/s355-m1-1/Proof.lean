import JvmDerived
import JvmDerived.Pilot.@@N@@Statement
import JvmDerived.Pilot.@@N@@Code
set_option linter.unusedVariables false
set_option linter.unusedSimpArgs false
namespace Jvm.RoadKit
open Sem ClassFile Op Lib Jvm.Stand Jvm.Free Jvm.LawKit
section New
variable {p : Program} {l : Launch} {e : Env} {R : Room} {s : State} {m : MethodId} {args : Array Value} {below : List Frame} {meth : Method} {c : Code} {T : State} {locs : List Loc} {cells slots : Nat}
theorem retI (X : Stand p l e R s m args below meth c T locs cells slots) (hx : p.tables.exec = Jvm.exec) {pc : Nat} {Ls : Array Slot} {z : Int32} {rest : List Value} (hret : meth.sig.returnType = some .int) (hd : decode c.code pc = .ok (.ireturn, 1)) {fs : List Frame}
    (hl : ∀ (f : JFrame) (acts : List Action), f.method = m → f.locked = none → f.entered = [] → (doReturn e (T.setTop f) acts (some (.int z))).1 = T.setFrames fs) : Steps p.tables e below (T.setTop (mkF m pc Ls (.int z :: rest))) (T.setFrames fs) := by
  have hm' : T.vm.method? m = some meth := X.method'
  have hn : narrow .int (.int z) = .int z := rfl
  show Steps p.tables e below (T.setTop { method := m, pc := pc, locals := Ls, stack := _ :: rest, locked := none }) _
  jvm_step X.here [X.here.top, hx, hd, hm', hret, hn]
  first | (intro acts; rw [hl _ acts rfl rfl rfl]) | rw [hl _ _ rfl rfl rfl]
  exact Steps.refl _
end New
end Jvm.RoadKit
namespace Jvm.Pilot.@@N@@
open Jvm Jvm.ClassFile Sem Op Lib Jvm.Free Jvm.Stand Jvm.LawKit Jvm.RoadKit Bundle Jvm.Pilot.@@N@@.Jvm.D
def own_bl (c : Int32) : Int64 := if c = 0 then (4096 : Int64) else if (c &&& (256 : Int32)) = 0 then c.toInt64 else if (c &&& (224 : Int32)) = 0 then (((256 : Int32) + ((c &&& (15 : Int32)) * (16 : Int32))) + (((XT.ushr c (4 : Int32)) &&& (1 : Int32)) * (8 : Int32))).toInt64 else ((c &&& (255 : Int32)) * (16 : Int32)).toInt64
theorem d1_0 : decode prog_26_method_19_code 0 = .ok (.iload_n 0, 1) := by decide +kernel
theorem d1_1 : decode prog_26_method_19_code 1 = .ok (.bipush 20, 2) := by decide +kernel
theorem d1_3 : decode prog_26_method_19_code 3 = .ok (.iushr, 1) := by decide +kernel
theorem d1_4 : decode prog_26_method_19_code 4 = .ok (.sipush 511, 3) := by decide +kernel
theorem d1_7 : decode prog_26_method_19_code 7 = .ok (.iand, 1) := by decide +kernel
theorem d1_8 : decode prog_26_method_19_code 8 = .ok (.istore_n 1, 1) := by decide +kernel
theorem d1_9 : decode prog_26_method_19_code 9 = .ok (.iload_n 1, 1) := by decide +kernel
theorem d1_10 : decode prog_26_method_19_code 10 = .ok (.ifCond .ne 10, 3) := by decide +kernel
theorem d1_13 : decode prog_26_method_19_code 13 = .ok (.ldc2_w 16, 3) := by decide +kernel
theorem d1_16 : decode prog_26_method_19_code 16 = .ok (.lstore_n 2, 1) := by decide +kernel
theorem d1_17 : decode prog_26_method_19_code 17 = .ok (.goto 60, 3) := by decide +kernel
theorem d1_20 : decode prog_26_method_19_code 20 = .ok (.iload_n 1, 1) := by decide +kernel
theorem d1_21 : decode prog_26_method_19_code 21 = .ok (.sipush 256, 3) := by decide +kernel
theorem d1_24 : decode prog_26_method_19_code 24 = .ok (.iand, 1) := by decide +kernel
theorem d1_25 : decode prog_26_method_19_code 25 = .ok (.ifCond .ne 9, 3) := by decide +kernel
theorem d1_28 : decode prog_26_method_19_code 28 = .ok (.iload_n 1, 1) := by decide +kernel
theorem d1_29 : decode prog_26_method_19_code 29 = .ok (.i2l, 1) := by decide +kernel
theorem d1_30 : decode prog_26_method_19_code 30 = .ok (.lstore_n 2, 1) := by decide +kernel
theorem d1_31 : decode prog_26_method_19_code 31 = .ok (.goto 46, 3) := by decide +kernel
theorem d1_34 : decode prog_26_method_19_code 34 = .ok (.iload_n 1, 1) := by decide +kernel
theorem d1_35 : decode prog_26_method_19_code 35 = .ok (.sipush 224, 3) := by decide +kernel
theorem d1_38 : decode prog_26_method_19_code 38 = .ok (.iand, 1) := by decide +kernel
theorem d1_39 : decode prog_26_method_19_code 39 = .ok (.ifCond .ne 28, 3) := by decide +kernel
theorem d1_42 : decode prog_26_method_19_code 42 = .ok (.sipush 256, 3) := by decide +kernel
theorem d1_45 : decode prog_26_method_19_code 45 = .ok (.iload_n 1, 1) := by decide +kernel
theorem d1_46 : decode prog_26_method_19_code 46 = .ok (.bipush 15, 2) := by decide +kernel
theorem d1_48 : decode prog_26_method_19_code 48 = .ok (.iand, 1) := by decide +kernel
theorem d1_49 : decode prog_26_method_19_code 49 = .ok (.bipush 16, 2) := by decide +kernel
theorem d1_51 : decode prog_26_method_19_code 51 = .ok (.imul, 1) := by decide +kernel
theorem d1_52 : decode prog_26_method_19_code 52 = .ok (.iadd, 1) := by decide +kernel
theorem d1_53 : decode prog_26_method_19_code 53 = .ok (.iload_n 1, 1) := by decide +kernel
theorem d1_54 : decode prog_26_method_19_code 54 = .ok (.iconst 4, 1) := by decide +kernel
theorem d1_55 : decode prog_26_method_19_code 55 = .ok (.iushr, 1) := by decide +kernel
theorem d1_56 : decode prog_26_method_19_code 56 = .ok (.iconst 1, 1) := by decide +kernel
theorem d1_57 : decode prog_26_method_19_code 57 = .ok (.iand, 1) := by decide +kernel
theorem d1_58 : decode prog_26_method_19_code 58 = .ok (.bipush 8, 2) := by decide +kernel
theorem d1_60 : decode prog_26_method_19_code 60 = .ok (.imul, 1) := by decide +kernel
theorem d1_61 : decode prog_26_method_19_code 61 = .ok (.iadd, 1) := by decide +kernel
theorem d1_62 : decode prog_26_method_19_code 62 = .ok (.i2l, 1) := by decide +kernel
theorem d1_63 : decode prog_26_method_19_code 63 = .ok (.lstore_n 2, 1) := by decide +kernel
theorem d1_64 : decode prog_26_method_19_code 64 = .ok (.goto 13, 3) := by decide +kernel
theorem d1_67 : decode prog_26_method_19_code 67 = .ok (.iload_n 1, 1) := by decide +kernel
theorem d1_68 : decode prog_26_method_19_code 68 = .ok (.sipush 255, 3) := by decide +kernel
theorem d1_71 : decode prog_26_method_19_code 71 = .ok (.iand, 1) := by decide +kernel
theorem d1_72 : decode prog_26_method_19_code 72 = .ok (.bipush 16, 2) := by decide +kernel
theorem d1_74 : decode prog_26_method_19_code 74 = .ok (.imul, 1) := by decide +kernel
theorem d1_75 : decode prog_26_method_19_code 75 = .ok (.i2l, 1) := by decide +kernel
theorem d1_76 : decode prog_26_method_19_code 76 = .ok (.lstore_n 2, 1) := by decide +kernel
theorem d1_77 : decode prog_26_method_19_code 77 = .ok (.lload_n 2, 1) := by decide +kernel
theorem d1_78 : decode prog_26_method_19_code 78 = .ok (.lreturn, 1) := by decide +kernel
theorem pn_own_bnd : plainName "com/example/madingley/madingley/machine/Encoding" = true := by first | (simp [plainName, overriddenIn]; done) | decide +kernel
theorem ef_own_bnd (m : MethodId) (x0 : Int32) : entryFrame m #[(.int x0)] 4 = mkF m 0 #[.val (.int x0), .unset, .unset, .unset] [] := by first | (simp [entryFrame, mkF, argsToLocals, Value.category]; done) | rfl
def Q_own_bnd (Z : State) (p0 : Int32)  (h0 : Heap) (n0 : Nat) (v : Option Value) (h : Heap) (L : List Loc) : Prop := v = some (.long (own_bl ((XT.ushr p0 (20 : Int32)) &&& (511 : Int32)))) ∧ Fr n0 L ∧ h = h0
set_option maxRecDepth 65536 in
set_option maxHeartbeats 40000000 in
theorem own_bnd (l : Launch) (Z : State) (a0 : Array Value) (hw : ∀ d ∈ tables_1, d.before a0 Z = true) (ws : List Jvm.Cond) (p0 : Int32)  (h0 : Heap) (n0 : Nat) (Z0 : n0 ≤ h0.size)  :
    MetFree l (⟨"com/example/madingley/madingley/machine/Encoding", "boundsLength", "(I)J"⟩ : MethodName) (head1 (Jvm.Cond.code (⟨"com/example/madingley/madingley/machine/Encoding", "boundsLength", "(I)J"⟩ : MethodName) prog_26_method_19_code 4 (some .long) :: ws) ({ frames := 0, cells := 0, slots := 0, locals := 0 } : Room)) (fun a U => a = #[(.int p0)] ∧ Z.Warmed39 U.vm ∧ U.heap = h0) (fun _ _ _ _ _ => True) (fun _ U o U' => ∃ v L, o = .returned v ∧ Q_own_bnd Z p0  h0 n0 v U'.heap L ∧ FrameEnd U o U' L ({ frames := 0, cells := 0, slots := 0, locals := 0 } : Room).cells ({ frames := 0, cells := 0, slots := 0, locals := 0 } : Room).slots) := by
  refine MetFree.of_bodySF (plainFor_of_name pn_own_bnd) hisR ?_
  intro p e s m args below meth c s₁ Bd hml0 hP hK
  obtain ⟨rfl, hZ, hh⟩ := hP
  have hx := Bd.exec
  have hby := Bd.bytes
  have hml : c.maxLocals = 4 := hml0
  have hown : s.vm.findClass "com/example/madingley/madingley/machine/Encoding" = some m.cls := findClass_of_methodNamed Bd.named
  have hnm := (name_of_methodNamed Bd.named Bd.method).1
  have X0 : Stand p l e ({ frames := 0, cells := 0, slots := 0, locals := 0 } : Room) s m #[(.int p0)] below meth c s₁ [] 0 0 := Stand.of_body Bd
  have e0 : s₁.heap = h0 := by rw [← hh, Bd.state]; rfl
  have N0 := Fr.nil n0
  have pre0 : ∀ t, Steps p.tables e below (s₁.setTop (mkF m 0 #[.val (.int p0), .unset, .unset, .unset] [])) t → Steps p.tables e below (s₁.setTop (entryFrame m #[(.int p0)] 4)) t := fun t k => castTop (ef_own_bnd m (p0)) k
  by_cases h1 : ((XT.ushr p0 (20 : Int32)) &&& (511 : Int32)) = 0
  · obtain ⟨fs, hr, hrun, hended, hW, hsame⟩ := X0.leave (v := some (.long (4096 : Int64))) (fun h => by rw [Bd.returns] at h; cases h)
    refine ⟨_, _, pre0 _ ?_, hrun, hended, _, _, rfl, ?_, ⟨_, rfl⟩, hW, hsame.mono (by decide) (by decide)⟩
    · show Steps p.tables e below (s₁.setTop (mkF m 0 #[.val (.int p0), .unset, .unset, .unset] [])) _
      refine XS.iloadN X0.here hx rfl (hb hby d1_0) rfl ?_
      show Steps p.tables e below (s₁.setTop (mkF m 1 #[.val (.int p0), .unset, .unset, .unset] [(.int p0)])) _
      refine XS.bipush X0.here hx rfl (hb hby d1_1) ?_
      show Steps p.tables e below (s₁.setTop (mkF m 3 #[.val (.int p0), .unset, .unset, .unset] [(.int (20 : Int32)), (.int p0)])) _
      refine XT.iushr X0.here hx rfl (hb hby d1_3) rfl ?_
      show Steps p.tables e below (s₁.setTop (mkF m 4 #[.val (.int p0), .unset, .unset, .unset] [(.int (XT.ushr p0 (20 : Int32)))])) _
      refine XS.sipush X0.here hx rfl (hb hby d1_4) ?_
      show Steps p.tables e below (s₁.setTop (mkF m 7 #[.val (.int p0), .unset, .unset, .unset] [(.int (511 : Int32)), (.int (XT.ushr p0 (20 : Int32)))])) _
      refine XS.iand X0.here hx rfl (hb hby d1_7) rfl ?_
      show Steps p.tables e below (s₁.setTop (mkF m 8 #[.val (.int p0), .unset, .unset, .unset] [(.int ((XT.ushr p0 (20 : Int32)) &&& (511 : Int32)))])) _
      refine XS.istoreN X0.here hx rfl (hb hby d1_8) rfl (l' := #[.val (.int p0), .val (.int ((XT.ushr p0 (20 : Int32)) &&& (511 : Int32))), .unset, .unset]) rfl ?_
      show Steps p.tables e below (s₁.setTop (mkF m 9 #[.val (.int p0), .val (.int ((XT.ushr p0 (20 : Int32)) &&& (511 : Int32))), .unset, .unset] [])) _
      refine XS.iloadN X0.here hx rfl (hb hby d1_9) rfl ?_
      show Steps p.tables e below (s₁.setTop (mkF m 10 #[.val (.int p0), .val (.int ((XT.ushr p0 (20 : Int32)) &&& (511 : Int32))), .unset, .unset] [(.int ((XT.ushr p0 (20 : Int32)) &&& (511 : Int32)))])) _
      refine XS.ifNo X0.here hx rfl (hb hby d1_10) rfl (XT.i0_ne_f h1) ?_
      show Steps p.tables e below (s₁.setTop (mkF m 13 #[.val (.int p0), .val (.int ((XT.ushr p0 (20 : Int32)) &&& (511 : Int32))), .unset, .unset] [])) _
      refine Jvm.Stand.ldc2J X0 hx hown (mvT hZ (hw _ (List.mem_of_getElem? (i := 6) rfl))) (g := (mkF m 13 #[.val (.int p0), .val (.int ((XT.ushr p0 (20 : Int32)) &&& (511 : Int32))), .unset, .unset] [])) rfl (hb hby d1_13) ?_
      show Steps p.tables e below (s₁.setTop (mkF m 16 #[.val (.int p0), .val (.int ((XT.ushr p0 (20 : Int32)) &&& (511 : Int32))), .unset, .unset] [(.long (4096 : Int64))])) _
      refine XT.lstoreN X0.here hx rfl (hb hby d1_16) rfl (l' := #[.val (.int p0), .val (.int ((XT.ushr p0 (20 : Int32)) &&& (511 : Int32))), .val (.long (4096 : Int64)), .second]) rfl ?_
      show Steps p.tables e below (s₁.setTop (mkF m 17 #[.val (.int p0), .val (.int ((XT.ushr p0 (20 : Int32)) &&& (511 : Int32))), .val (.long (4096 : Int64)), .second] [])) _
      refine XS.goto X0.here hx rfl (pc0 := 17) (pc' := 77) rfl (hb hby d1_17) (by decide) (by decide) ?_
      show Steps p.tables e below (s₁.setTop (mkF m 77 #[.val (.int p0), .val (.int ((XT.ushr p0 (20 : Int32)) &&& (511 : Int32))), .val (.long (4096 : Int64)), .second] [])) _
      refine XT.lloadN X0.here hx rfl (hb hby d1_77) rfl ?_
      show Steps p.tables e below (s₁.setTop (mkF m 78 #[.val (.int p0), .val (.int ((XT.ushr p0 (20 : Int32)) &&& (511 : Int32))), .val (.long (4096 : Int64)), .second] [(.long (4096 : Int64))])) _
      exact retOut X0 hx (t := .long) Bd.returns rfl (Or.inr (Or.inl ⟨rfl, rfl, _, rfl⟩)) (hb hby d1_78) hr
    · show Q_own_bnd Z p0  h0 n0 _ s₁.heap _
      rw [e0]
      exact ⟨by unfold own_bl; rw [if_pos h1], N0, rfl⟩
  · by_cases h2 : (((XT.ushr p0 (20 : Int32)) &&& (511 : Int32)) &&& (256 : Int32)) = 0
    · obtain ⟨fs, hr, hrun, hended, hW, hsame⟩ := X0.leave (v := some (.long ((XT.ushr p0 (20 : Int32)) &&& (511 : Int32)).toInt64)) (fun h => by rw [Bd.returns] at h; cases h)
      refine ⟨_, _, pre0 _ ?_, hrun, hended, _, _, rfl, ?_, ⟨_, rfl⟩, hW, hsame.mono (by decide) (by decide)⟩
      · show Steps p.tables e below (s₁.setTop (mkF m 0 #[.val (.int p0), .unset, .unset, .unset] [])) _
        refine XS.iloadN X0.here hx rfl (hb hby d1_0) rfl ?_
        show Steps p.tables e below (s₁.setTop (mkF m 1 #[.val (.int p0), .unset, .unset, .unset] [(.int p0)])) _
        refine XS.bipush X0.here hx rfl (hb hby d1_1) ?_
        show Steps p.tables e below (s₁.setTop (mkF m 3 #[.val (.int p0), .unset, .unset, .unset] [(.int (20 : Int32)), (.int p0)])) _
        refine XT.iushr X0.here hx rfl (hb hby d1_3) rfl ?_
        show Steps p.tables e below (s₁.setTop (mkF m 4 #[.val (.int p0), .unset, .unset, .unset] [(.int (XT.ushr p0 (20 : Int32)))])) _
        refine XS.sipush X0.here hx rfl (hb hby d1_4) ?_
        show Steps p.tables e below (s₁.setTop (mkF m 7 #[.val (.int p0), .unset, .unset, .unset] [(.int (511 : Int32)), (.int (XT.ushr p0 (20 : Int32)))])) _
        refine XS.iand X0.here hx rfl (hb hby d1_7) rfl ?_
        show Steps p.tables e below (s₁.setTop (mkF m 8 #[.val (.int p0), .unset, .unset, .unset] [(.int ((XT.ushr p0 (20 : Int32)) &&& (511 : Int32)))])) _
        refine XS.istoreN X0.here hx rfl (hb hby d1_8) rfl (l' := #[.val (.int p0), .val (.int ((XT.ushr p0 (20 : Int32)) &&& (511 : Int32))), .unset, .unset]) rfl ?_
        show Steps p.tables e below (s₁.setTop (mkF m 9 #[.val (.int p0), .val (.int ((XT.ushr p0 (20 : Int32)) &&& (511 : Int32))), .unset, .unset] [])) _
        refine XS.iloadN X0.here hx rfl (hb hby d1_9) rfl ?_
        show Steps p.tables e below (s₁.setTop (mkF m 10 #[.val (.int p0), .val (.int ((XT.ushr p0 (20 : Int32)) &&& (511 : Int32))), .unset, .unset] [(.int ((XT.ushr p0 (20 : Int32)) &&& (511 : Int32)))])) _
        refine XS.ifYes X0.here hx rfl (pc0 := 10) (pc' := 20) rfl (hb hby d1_10) rfl (XT.i0_ne_t h1) (by decide) (by decide) ?_
        show Steps p.tables e below (s₁.setTop (mkF m 20 #[.val (.int p0), .val (.int ((XT.ushr p0 (20 : Int32)) &&& (511 : Int32))), .unset, .unset] [])) _
        refine XS.iloadN X0.here hx rfl (hb hby d1_20) rfl ?_
        show Steps p.tables e below (s₁.setTop (mkF m 21 #[.val (.int p0), .val (.int ((XT.ushr p0 (20 : Int32)) &&& (511 : Int32))), .unset, .unset] [(.int ((XT.ushr p0 (20 : Int32)) &&& (511 : Int32)))])) _
        refine XS.sipush X0.here hx rfl (hb hby d1_21) ?_
        show Steps p.tables e below (s₁.setTop (mkF m 24 #[.val (.int p0), .val (.int ((XT.ushr p0 (20 : Int32)) &&& (511 : Int32))), .unset, .unset] [(.int (256 : Int32)), (.int ((XT.ushr p0 (20 : Int32)) &&& (511 : Int32)))])) _
        refine XS.iand X0.here hx rfl (hb hby d1_24) rfl ?_
        show Steps p.tables e below (s₁.setTop (mkF m 25 #[.val (.int p0), .val (.int ((XT.ushr p0 (20 : Int32)) &&& (511 : Int32))), .unset, .unset] [(.int (((XT.ushr p0 (20 : Int32)) &&& (511 : Int32)) &&& (256 : Int32)))])) _
        refine XS.ifNo X0.here hx rfl (hb hby d1_25) rfl (XT.i0_ne_f h2) ?_
        show Steps p.tables e below (s₁.setTop (mkF m 28 #[.val (.int p0), .val (.int ((XT.ushr p0 (20 : Int32)) &&& (511 : Int32))), .unset, .unset] [])) _
        refine XS.iloadN X0.here hx rfl (hb hby d1_28) rfl ?_
        show Steps p.tables e below (s₁.setTop (mkF m 29 #[.val (.int p0), .val (.int ((XT.ushr p0 (20 : Int32)) &&& (511 : Int32))), .unset, .unset] [(.int ((XT.ushr p0 (20 : Int32)) &&& (511 : Int32)))])) _
        refine XT.i2l X0.here hx rfl (hb hby d1_29) rfl ?_
        show Steps p.tables e below (s₁.setTop (mkF m 30 #[.val (.int p0), .val (.int ((XT.ushr p0 (20 : Int32)) &&& (511 : Int32))), .unset, .unset] [(.long ((XT.ushr p0 (20 : Int32)) &&& (511 : Int32)).toInt64)])) _
        refine XT.lstoreN X0.here hx rfl (hb hby d1_30) rfl (l' := #[.val (.int p0), .val (.int ((XT.ushr p0 (20 : Int32)) &&& (511 : Int32))), .val (.long ((XT.ushr p0 (20 : Int32)) &&& (511 : Int32)).toInt64), .second]) rfl ?_
        show Steps p.tables e below (s₁.setTop (mkF m 31 #[.val (.int p0), .val (.int ((XT.ushr p0 (20 : Int32)) &&& (511 : Int32))), .val (.long ((XT.ushr p0 (20 : Int32)) &&& (511 : Int32)).toInt64), .second] [])) _
        refine XS.goto X0.here hx rfl (pc0 := 31) (pc' := 77) rfl (hb hby d1_31) (by decide) (by decide) ?_
        show Steps p.tables e below (s₁.setTop (mkF m 77 #[.val (.int p0), .val (.int ((XT.ushr p0 (20 : Int32)) &&& (511 : Int32))), .val (.long ((XT.ushr p0 (20 : Int32)) &&& (511 : Int32)).toInt64), .second] [])) _
        refine XT.lloadN X0.here hx rfl (hb hby d1_77) rfl ?_
        show Steps p.tables e below (s₁.setTop (mkF m 78 #[.val (.int p0), .val (.int ((XT.ushr p0 (20 : Int32)) &&& (511 : Int32))), .val (.long ((XT.ushr p0 (20 : Int32)) &&& (511 : Int32)).toInt64), .second] [(.long ((XT.ushr p0 (20 : Int32)) &&& (511 : Int32)).toInt64)])) _
        exact retOut X0 hx (t := .long) Bd.returns rfl (Or.inr (Or.inl ⟨rfl, rfl, _, rfl⟩)) (hb hby d1_78) hr
      · show Q_own_bnd Z p0  h0 n0 _ s₁.heap _
        rw [e0]
        exact ⟨by unfold own_bl; rw [if_neg h1, if_pos h2], N0, rfl⟩
    · by_cases h3 : (((XT.ushr p0 (20 : Int32)) &&& (511 : Int32)) &&& (224 : Int32)) = 0
      · obtain ⟨fs, hr, hrun, hended, hW, hsame⟩ := X0.leave (v := some (.long (((256 : Int32) + ((((XT.ushr p0 (20 : Int32)) &&& (511 : Int32)) &&& (15 : Int32)) * (16 : Int32))) + (((XT.ushr ((XT.ushr p0 (20 : Int32)) &&& (511 : Int32)) (4 : Int32)) &&& (1 : Int32)) * (8 : Int32))).toInt64)) (fun h => by rw [Bd.returns] at h; cases h)
        refine ⟨_, _, pre0 _ ?_, hrun, hended, _, _, rfl, ?_, ⟨_, rfl⟩, hW, hsame.mono (by decide) (by decide)⟩
        · show Steps p.tables e below (s₁.setTop (mkF m 0 #[.val (.int p0), .unset, .unset, .unset] [])) _
          refine XS.iloadN X0.here hx rfl (hb hby d1_0) rfl ?_
          show Steps p.tables e below (s₁.setTop (mkF m 1 #[.val (.int p0), .unset, .unset, .unset] [(.int p0)])) _
          refine XS.bipush X0.here hx rfl (hb hby d1_1) ?_
          show Steps p.tables e below (s₁.setTop (mkF m 3 #[.val (.int p0), .unset, .unset, .unset] [(.int (20 : Int32)), (.int p0)])) _
          refine XT.iushr X0.here hx rfl (hb hby d1_3) rfl ?_
          show Steps p.tables e below (s₁.setTop (mkF m 4 #[.val (.int p0), .unset, .unset, .unset] [(.int (XT.ushr p0 (20 : Int32)))])) _
          refine XS.sipush X0.here hx rfl (hb hby d1_4) ?_
          show Steps p.tables e below (s₁.setTop (mkF m 7 #[.val (.int p0), .unset, .unset, .unset] [(.int (511 : Int32)), (.int (XT.ushr p0 (20 : Int32)))])) _
          refine XS.iand X0.here hx rfl (hb hby d1_7) rfl ?_
          show Steps p.tables e below (s₁.setTop (mkF m 8 #[.val (.int p0), .unset, .unset, .unset] [(.int ((XT.ushr p0 (20 : Int32)) &&& (511 : Int32)))])) _
          refine XS.istoreN X0.here hx rfl (hb hby d1_8) rfl (l' := #[.val (.int p0), .val (.int ((XT.ushr p0 (20 : Int32)) &&& (511 : Int32))), .unset, .unset]) rfl ?_
          show Steps p.tables e below (s₁.setTop (mkF m 9 #[.val (.int p0), .val (.int ((XT.ushr p0 (20 : Int32)) &&& (511 : Int32))), .unset, .unset] [])) _
          refine XS.iloadN X0.here hx rfl (hb hby d1_9) rfl ?_
          show Steps p.tables e below (s₁.setTop (mkF m 10 #[.val (.int p0), .val (.int ((XT.ushr p0 (20 : Int32)) &&& (511 : Int32))), .unset, .unset] [(.int ((XT.ushr p0 (20 : Int32)) &&& (511 : Int32)))])) _
          refine XS.ifYes X0.here hx rfl (pc0 := 10) (pc' := 20) rfl (hb hby d1_10) rfl (XT.i0_ne_t h1) (by decide) (by decide) ?_
          show Steps p.tables e below (s₁.setTop (mkF m 20 #[.val (.int p0), .val (.int ((XT.ushr p0 (20 : Int32)) &&& (511 : Int32))), .unset, .unset] [])) _
          refine XS.iloadN X0.here hx rfl (hb hby d1_20) rfl ?_
          show Steps p.tables e below (s₁.setTop (mkF m 21 #[.val (.int p0), .val (.int ((XT.ushr p0 (20 : Int32)) &&& (511 : Int32))), .unset, .unset] [(.int ((XT.ushr p0 (20 : Int32)) &&& (511 : Int32)))])) _
          refine XS.sipush X0.here hx rfl (hb hby d1_21) ?_
          show Steps p.tables e below (s₁.setTop (mkF m 24 #[.val (.int p0), .val (.int ((XT.ushr p0 (20 : Int32)) &&& (511 : Int32))), .unset, .unset] [(.int (256 : Int32)), (.int ((XT.ushr p0 (20 : Int32)) &&& (511 : Int32)))])) _
          refine XS.iand X0.here hx rfl (hb hby d1_24) rfl ?_
          show Steps p.tables e below (s₁.setTop (mkF m 25 #[.val (.int p0), .val (.int ((XT.ushr p0 (20 : Int32)) &&& (511 : Int32))), .unset, .unset] [(.int (((XT.ushr p0 (20 : Int32)) &&& (511 : Int32)) &&& (256 : Int32)))])) _
          refine XS.ifYes X0.here hx rfl (pc0 := 25) (pc' := 34) rfl (hb hby d1_25) rfl (XT.i0_ne_t h2) (by decide) (by decide) ?_
          show Steps p.tables e below (s₁.setTop (mkF m 34 #[.val (.int p0), .val (.int ((XT.ushr p0 (20 : Int32)) &&& (511 : Int32))), .unset, .unset] [])) _
          refine XS.iloadN X0.here hx rfl (hb hby d1_34) rfl ?_
          show Steps p.tables e below (s₁.setTop (mkF m 35 #[.val (.int p0), .val (.int ((XT.ushr p0 (20 : Int32)) &&& (511 : Int32))), .unset, .unset] [(.int ((XT.ushr p0 (20 : Int32)) &&& (511 : Int32)))])) _
          refine XS.sipush X0.here hx rfl (hb hby d1_35) ?_
          show Steps p.tables e below (s₁.setTop (mkF m 38 #[.val (.int p0), .val (.int ((XT.ushr p0 (20 : Int32)) &&& (511 : Int32))), .unset, .unset] [(.int (224 : Int32)), (.int ((XT.ushr p0 (20 : Int32)) &&& (511 : Int32)))])) _
          refine XS.iand X0.here hx rfl (hb hby d1_38) rfl ?_
          show Steps p.tables e below (s₁.setTop (mkF m 39 #[.val (.int p0), .val (.int ((XT.ushr p0 (20 : Int32)) &&& (511 : Int32))), .unset, .unset] [(.int (((XT.ushr p0 (20 : Int32)) &&& (511 : Int32)) &&& (224 : Int32)))])) _
          refine XS.ifNo X0.here hx rfl (hb hby d1_39) rfl (XT.i0_ne_f h3) ?_
          show Steps p.tables e below (s₁.setTop (mkF m 42 #[.val (.int p0), .val (.int ((XT.ushr p0 (20 : Int32)) &&& (511 : Int32))), .unset, .unset] [])) _
          refine XS.sipush X0.here hx rfl (hb hby d1_42) ?_
          show Steps p.tables e below (s₁.setTop (mkF m 45 #[.val (.int p0), .val (.int ((XT.ushr p0 (20 : Int32)) &&& (511 : Int32))), .unset, .unset] [(.int (256 : Int32))])) _
          refine XS.iloadN X0.here hx rfl (hb hby d1_45) rfl ?_
          show Steps p.tables e below (s₁.setTop (mkF m 46 #[.val (.int p0), .val (.int ((XT.ushr p0 (20 : Int32)) &&& (511 : Int32))), .unset, .unset] [(.int ((XT.ushr p0 (20 : Int32)) &&& (511 : Int32))), (.int (256 : Int32))])) _
          refine XS.bipush X0.here hx rfl (hb hby d1_46) ?_
          show Steps p.tables e below (s₁.setTop (mkF m 48 #[.val (.int p0), .val (.int ((XT.ushr p0 (20 : Int32)) &&& (511 : Int32))), .unset, .unset] [(.int (15 : Int32)), (.int ((XT.ushr p0 (20 : Int32)) &&& (511 : Int32))), (.int (256 : Int32))])) _
          refine XS.iand X0.here hx rfl (hb hby d1_48) rfl ?_
          show Steps p.tables e below (s₁.setTop (mkF m 49 #[.val (.int p0), .val (.int ((XT.ushr p0 (20 : Int32)) &&& (511 : Int32))), .unset, .unset] [(.int (((XT.ushr p0 (20 : Int32)) &&& (511 : Int32)) &&& (15 : Int32))), (.int (256 : Int32))])) _
          refine XS.bipush X0.here hx rfl (hb hby d1_49) ?_
          show Steps p.tables e below (s₁.setTop (mkF m 51 #[.val (.int p0), .val (.int ((XT.ushr p0 (20 : Int32)) &&& (511 : Int32))), .unset, .unset] [(.int (16 : Int32)), (.int (((XT.ushr p0 (20 : Int32)) &&& (511 : Int32)) &&& (15 : Int32))), (.int (256 : Int32))])) _
          refine XS.imul X0.here hx rfl (hb hby d1_51) rfl ?_
          show Steps p.tables e below (s₁.setTop (mkF m 52 #[.val (.int p0), .val (.int ((XT.ushr p0 (20 : Int32)) &&& (511 : Int32))), .unset, .unset] [(.int ((((XT.ushr p0 (20 : Int32)) &&& (511 : Int32)) &&& (15 : Int32)) * (16 : Int32))), (.int (256 : Int32))])) _
          refine XS.iadd X0.here hx rfl (hb hby d1_52) rfl ?_
          show Steps p.tables e below (s₁.setTop (mkF m 53 #[.val (.int p0), .val (.int ((XT.ushr p0 (20 : Int32)) &&& (511 : Int32))), .unset, .unset] [(.int ((256 : Int32) + ((((XT.ushr p0 (20 : Int32)) &&& (511 : Int32)) &&& (15 : Int32)) * (16 : Int32))))])) _
          refine XS.iloadN X0.here hx rfl (hb hby d1_53) rfl ?_
          show Steps p.tables e below (s₁.setTop (mkF m 54 #[.val (.int p0), .val (.int ((XT.ushr p0 (20 : Int32)) &&& (511 : Int32))), .unset, .unset] [(.int ((XT.ushr p0 (20 : Int32)) &&& (511 : Int32))), (.int ((256 : Int32) + ((((XT.ushr p0 (20 : Int32)) &&& (511 : Int32)) &&& (15 : Int32)) * (16 : Int32))))])) _
          refine XS.iconst X0.here hx rfl (hb hby d1_54) ?_
          show Steps p.tables e below (s₁.setTop (mkF m 55 #[.val (.int p0), .val (.int ((XT.ushr p0 (20 : Int32)) &&& (511 : Int32))), .unset, .unset] [(.int (4 : Int32)), (.int ((XT.ushr p0 (20 : Int32)) &&& (511 : Int32))), (.int ((256 : Int32) + ((((XT.ushr p0 (20 : Int32)) &&& (511 : Int32)) &&& (15 : Int32)) * (16 : Int32))))])) _
          refine XT.iushr X0.here hx rfl (hb hby d1_55) rfl ?_
          show Steps p.tables e below (s₁.setTop (mkF m 56 #[.val (.int p0), .val (.int ((XT.ushr p0 (20 : Int32)) &&& (511 : Int32))), .unset, .unset] [(.int (XT.ushr ((XT.ushr p0 (20 : Int32)) &&& (511 : Int32)) (4 : Int32))), (.int ((256 : Int32) + ((((XT.ushr p0 (20 : Int32)) &&& (511 : Int32)) &&& (15 : Int32)) * (16 : Int32))))])) _
          refine XS.iconst X0.here hx rfl (hb hby d1_56) ?_
          show Steps p.tables e below (s₁.setTop (mkF m 57 #[.val (.int p0), .val (.int ((XT.ushr p0 (20 : Int32)) &&& (511 : Int32))), .unset, .unset] [(.int (1 : Int32)), (.int (XT.ushr ((XT.ushr p0 (20 : Int32)) &&& (511 : Int32)) (4 : Int32))), (.int ((256 : Int32) + ((((XT.ushr p0 (20 : Int32)) &&& (511 : Int32)) &&& (15 : Int32)) * (16 : Int32))))])) _
          refine XS.iand X0.here hx rfl (hb hby d1_57) rfl ?_
          show Steps p.tables e below (s₁.setTop (mkF m 58 #[.val (.int p0), .val (.int ((XT.ushr p0 (20 : Int32)) &&& (511 : Int32))), .unset, .unset] [(.int ((XT.ushr ((XT.ushr p0 (20 : Int32)) &&& (511 : Int32)) (4 : Int32)) &&& (1 : Int32))), (.int ((256 : Int32) + ((((XT.ushr p0 (20 : Int32)) &&& (511 : Int32)) &&& (15 : Int32)) * (16 : Int32))))])) _
          refine XS.bipush X0.here hx rfl (hb hby d1_58) ?_
          show Steps p.tables e below (s₁.setTop (mkF m 60 #[.val (.int p0), .val (.int ((XT.ushr p0 (20 : Int32)) &&& (511 : Int32))), .unset, .unset] [(.int (8 : Int32)), (.int ((XT.ushr ((XT.ushr p0 (20 : Int32)) &&& (511 : Int32)) (4 : Int32)) &&& (1 : Int32))), (.int ((256 : Int32) + ((((XT.ushr p0 (20 : Int32)) &&& (511 : Int32)) &&& (15 : Int32)) * (16 : Int32))))])) _
          refine XS.imul X0.here hx rfl (hb hby d1_60) rfl ?_
          show Steps p.tables e below (s₁.setTop (mkF m 61 #[.val (.int p0), .val (.int ((XT.ushr p0 (20 : Int32)) &&& (511 : Int32))), .unset, .unset] [(.int (((XT.ushr ((XT.ushr p0 (20 : Int32)) &&& (511 : Int32)) (4 : Int32)) &&& (1 : Int32)) * (8 : Int32))), (.int ((256 : Int32) + ((((XT.ushr p0 (20 : Int32)) &&& (511 : Int32)) &&& (15 : Int32)) * (16 : Int32))))])) _
          refine XS.iadd X0.here hx rfl (hb hby d1_61) rfl ?_
          show Steps p.tables e below (s₁.setTop (mkF m 62 #[.val (.int p0), .val (.int ((XT.ushr p0 (20 : Int32)) &&& (511 : Int32))), .unset, .unset] [(.int (((256 : Int32) + ((((XT.ushr p0 (20 : Int32)) &&& (511 : Int32)) &&& (15 : Int32)) * (16 : Int32))) + (((XT.ushr ((XT.ushr p0 (20 : Int32)) &&& (511 : Int32)) (4 : Int32)) &&& (1 : Int32)) * (8 : Int32))))])) _
          refine XT.i2l X0.here hx rfl (hb hby d1_62) rfl ?_
          show Steps p.tables e below (s₁.setTop (mkF m 63 #[.val (.int p0), .val (.int ((XT.ushr p0 (20 : Int32)) &&& (511 : Int32))), .unset, .unset] [(.long (((256 : Int32) + ((((XT.ushr p0 (20 : Int32)) &&& (511 : Int32)) &&& (15 : Int32)) * (16 : Int32))) + (((XT.ushr ((XT.ushr p0 (20 : Int32)) &&& (511 : Int32)) (4 : Int32)) &&& (1 : Int32)) * (8 : Int32))).toInt64)])) _
          refine XT.lstoreN X0.here hx rfl (hb hby d1_63) rfl (l' := #[.val (.int p0), .val (.int ((XT.ushr p0 (20 : Int32)) &&& (511 : Int32))), .val (.long (((256 : Int32) + ((((XT.ushr p0 (20 : Int32)) &&& (511 : Int32)) &&& (15 : Int32)) * (16 : Int32))) + (((XT.ushr ((XT.ushr p0 (20 : Int32)) &&& (511 : Int32)) (4 : Int32)) &&& (1 : Int32)) * (8 : Int32))).toInt64), .second]) rfl ?_
          show Steps p.tables e below (s₁.setTop (mkF m 64 #[.val (.int p0), .val (.int ((XT.ushr p0 (20 : Int32)) &&& (511 : Int32))), .val (.long (((256 : Int32) + ((((XT.ushr p0 (20 : Int32)) &&& (511 : Int32)) &&& (15 : Int32)) * (16 : Int32))) + (((XT.ushr ((XT.ushr p0 (20 : Int32)) &&& (511 : Int32)) (4 : Int32)) &&& (1 : Int32)) * (8 : Int32))).toInt64), .second] [])) _
          refine XS.goto X0.here hx rfl (pc0 := 64) (pc' := 77) rfl (hb hby d1_64) (by decide) (by decide) ?_
          show Steps p.tables e below (s₁.setTop (mkF m 77 #[.val (.int p0), .val (.int ((XT.ushr p0 (20 : Int32)) &&& (511 : Int32))), .val (.long (((256 : Int32) + ((((XT.ushr p0 (20 : Int32)) &&& (511 : Int32)) &&& (15 : Int32)) * (16 : Int32))) + (((XT.ushr ((XT.ushr p0 (20 : Int32)) &&& (511 : Int32)) (4 : Int32)) &&& (1 : Int32)) * (8 : Int32))).toInt64), .second] [])) _
          refine XT.lloadN X0.here hx rfl (hb hby d1_77) rfl ?_
          show Steps p.tables e below (s₁.setTop (mkF m 78 #[.val (.int p0), .val (.int ((XT.ushr p0 (20 : Int32)) &&& (511 : Int32))), .val (.long (((256 : Int32) + ((((XT.ushr p0 (20 : Int32)) &&& (511 : Int32)) &&& (15 : Int32)) * (16 : Int32))) + (((XT.ushr ((XT.ushr p0 (20 : Int32)) &&& (511 : Int32)) (4 : Int32)) &&& (1 : Int32)) * (8 : Int32))).toInt64), .second] [(.long (((256 : Int32) + ((((XT.ushr p0 (20 : Int32)) &&& (511 : Int32)) &&& (15 : Int32)) * (16 : Int32))) + (((XT.ushr ((XT.ushr p0 (20 : Int32)) &&& (511 : Int32)) (4 : Int32)) &&& (1 : Int32)) * (8 : Int32))).toInt64)])) _
          exact retOut X0 hx (t := .long) Bd.returns rfl (Or.inr (Or.inl ⟨rfl, rfl, _, rfl⟩)) (hb hby d1_78) hr
        · show Q_own_bnd Z p0  h0 n0 _ s₁.heap _
          rw [e0]
          exact ⟨by unfold own_bl; rw [if_neg h1, if_neg h2, if_pos h3], N0, rfl⟩
      · obtain ⟨fs, hr, hrun, hended, hW, hsame⟩ := X0.leave (v := some (.long ((((XT.ushr p0 (20 : Int32)) &&& (511 : Int32)) &&& (255 : Int32)) * (16 : Int32)).toInt64)) (fun h => by rw [Bd.returns] at h; cases h)
        refine ⟨_, _, pre0 _ ?_, hrun, hended, _, _, rfl, ?_, ⟨_, rfl⟩, hW, hsame.mono (by decide) (by decide)⟩
        · show Steps p.tables e below (s₁.setTop (mkF m 0 #[.val (.int p0), .unset, .unset, .unset] [])) _
          refine XS.iloadN X0.here hx rfl (hb hby d1_0) rfl ?_
          show Steps p.tables e below (s₁.setTop (mkF m 1 #[.val (.int p0), .unset, .unset, .unset] [(.int p0)])) _
          refine XS.bipush X0.here hx rfl (hb hby d1_1) ?_
          show Steps p.tables e below (s₁.setTop (mkF m 3 #[.val (.int p0), .unset, .unset, .unset] [(.int (20 : Int32)), (.int p0)])) _
          refine XT.iushr X0.here hx rfl (hb hby d1_3) rfl ?_
          show Steps p.tables e below (s₁.setTop (mkF m 4 #[.val (.int p0), .unset, .unset, .unset] [(.int (XT.ushr p0 (20 : Int32)))])) _
          refine XS.sipush X0.here hx rfl (hb hby d1_4) ?_
          show Steps p.tables e below (s₁.setTop (mkF m 7 #[.val (.int p0), .unset, .unset, .unset] [(.int (511 : Int32)), (.int (XT.ushr p0 (20 : Int32)))])) _
          refine XS.iand X0.here hx rfl (hb hby d1_7) rfl ?_
          show Steps p.tables e below (s₁.setTop (mkF m 8 #[.val (.int p0), .unset, .unset, .unset] [(.int ((XT.ushr p0 (20 : Int32)) &&& (511 : Int32)))])) _
          refine XS.istoreN X0.here hx rfl (hb hby d1_8) rfl (l' := #[.val (.int p0), .val (.int ((XT.ushr p0 (20 : Int32)) &&& (511 : Int32))), .unset, .unset]) rfl ?_
          show Steps p.tables e below (s₁.setTop (mkF m 9 #[.val (.int p0), .val (.int ((XT.ushr p0 (20 : Int32)) &&& (511 : Int32))), .unset, .unset] [])) _
          refine XS.iloadN X0.here hx rfl (hb hby d1_9) rfl ?_
          show Steps p.tables e below (s₁.setTop (mkF m 10 #[.val (.int p0), .val (.int ((XT.ushr p0 (20 : Int32)) &&& (511 : Int32))), .unset, .unset] [(.int ((XT.ushr p0 (20 : Int32)) &&& (511 : Int32)))])) _
          refine XS.ifYes X0.here hx rfl (pc0 := 10) (pc' := 20) rfl (hb hby d1_10) rfl (XT.i0_ne_t h1) (by decide) (by decide) ?_
          show Steps p.tables e below (s₁.setTop (mkF m 20 #[.val (.int p0), .val (.int ((XT.ushr p0 (20 : Int32)) &&& (511 : Int32))), .unset, .unset] [])) _
          refine XS.iloadN X0.here hx rfl (hb hby d1_20) rfl ?_
          show Steps p.tables e below (s₁.setTop (mkF m 21 #[.val (.int p0), .val (.int ((XT.ushr p0 (20 : Int32)) &&& (511 : Int32))), .unset, .unset] [(.int ((XT.ushr p0 (20 : Int32)) &&& (511 : Int32)))])) _
          refine XS.sipush X0.here hx rfl (hb hby d1_21) ?_
          show Steps p.tables e below (s₁.setTop (mkF m 24 #[.val (.int p0), .val (.int ((XT.ushr p0 (20 : Int32)) &&& (511 : Int32))), .unset, .unset] [(.int (256 : Int32)), (.int ((XT.ushr p0 (20 : Int32)) &&& (511 : Int32)))])) _
          refine XS.iand X0.here hx rfl (hb hby d1_24) rfl ?_
          show Steps p.tables e below (s₁.setTop (mkF m 25 #[.val (.int p0), .val (.int ((XT.ushr p0 (20 : Int32)) &&& (511 : Int32))), .unset, .unset] [(.int (((XT.ushr p0 (20 : Int32)) &&& (511 : Int32)) &&& (256 : Int32)))])) _
          refine XS.ifYes X0.here hx rfl (pc0 := 25) (pc' := 34) rfl (hb hby d1_25) rfl (XT.i0_ne_t h2) (by decide) (by decide) ?_
          show Steps p.tables e below (s₁.setTop (mkF m 34 #[.val (.int p0), .val (.int ((XT.ushr p0 (20 : Int32)) &&& (511 : Int32))), .unset, .unset] [])) _
          refine XS.iloadN X0.here hx rfl (hb hby d1_34) rfl ?_
          show Steps p.tables e below (s₁.setTop (mkF m 35 #[.val (.int p0), .val (.int ((XT.ushr p0 (20 : Int32)) &&& (511 : Int32))), .unset, .unset] [(.int ((XT.ushr p0 (20 : Int32)) &&& (511 : Int32)))])) _
          refine XS.sipush X0.here hx rfl (hb hby d1_35) ?_
          show Steps p.tables e below (s₁.setTop (mkF m 38 #[.val (.int p0), .val (.int ((XT.ushr p0 (20 : Int32)) &&& (511 : Int32))), .unset, .unset] [(.int (224 : Int32)), (.int ((XT.ushr p0 (20 : Int32)) &&& (511 : Int32)))])) _
          refine XS.iand X0.here hx rfl (hb hby d1_38) rfl ?_
          show Steps p.tables e below (s₁.setTop (mkF m 39 #[.val (.int p0), .val (.int ((XT.ushr p0 (20 : Int32)) &&& (511 : Int32))), .unset, .unset] [(.int (((XT.ushr p0 (20 : Int32)) &&& (511 : Int32)) &&& (224 : Int32)))])) _
          refine XS.ifYes X0.here hx rfl (pc0 := 39) (pc' := 67) rfl (hb hby d1_39) rfl (XT.i0_ne_t h3) (by decide) (by decide) ?_
          show Steps p.tables e below (s₁.setTop (mkF m 67 #[.val (.int p0), .val (.int ((XT.ushr p0 (20 : Int32)) &&& (511 : Int32))), .unset, .unset] [])) _
          refine XS.iloadN X0.here hx rfl (hb hby d1_67) rfl ?_
          show Steps p.tables e below (s₁.setTop (mkF m 68 #[.val (.int p0), .val (.int ((XT.ushr p0 (20 : Int32)) &&& (511 : Int32))), .unset, .unset] [(.int ((XT.ushr p0 (20 : Int32)) &&& (511 : Int32)))])) _
          refine XS.sipush X0.here hx rfl (hb hby d1_68) ?_
          show Steps p.tables e below (s₁.setTop (mkF m 71 #[.val (.int p0), .val (.int ((XT.ushr p0 (20 : Int32)) &&& (511 : Int32))), .unset, .unset] [(.int (255 : Int32)), (.int ((XT.ushr p0 (20 : Int32)) &&& (511 : Int32)))])) _
          refine XS.iand X0.here hx rfl (hb hby d1_71) rfl ?_
          show Steps p.tables e below (s₁.setTop (mkF m 72 #[.val (.int p0), .val (.int ((XT.ushr p0 (20 : Int32)) &&& (511 : Int32))), .unset, .unset] [(.int (((XT.ushr p0 (20 : Int32)) &&& (511 : Int32)) &&& (255 : Int32)))])) _
          refine XS.bipush X0.here hx rfl (hb hby d1_72) ?_
          show Steps p.tables e below (s₁.setTop (mkF m 74 #[.val (.int p0), .val (.int ((XT.ushr p0 (20 : Int32)) &&& (511 : Int32))), .unset, .unset] [(.int (16 : Int32)), (.int (((XT.ushr p0 (20 : Int32)) &&& (511 : Int32)) &&& (255 : Int32)))])) _
          refine XS.imul X0.here hx rfl (hb hby d1_74) rfl ?_
          show Steps p.tables e below (s₁.setTop (mkF m 75 #[.val (.int p0), .val (.int ((XT.ushr p0 (20 : Int32)) &&& (511 : Int32))), .unset, .unset] [(.int ((((XT.ushr p0 (20 : Int32)) &&& (511 : Int32)) &&& (255 : Int32)) * (16 : Int32)))])) _
          refine XT.i2l X0.here hx rfl (hb hby d1_75) rfl ?_
          show Steps p.tables e below (s₁.setTop (mkF m 76 #[.val (.int p0), .val (.int ((XT.ushr p0 (20 : Int32)) &&& (511 : Int32))), .unset, .unset] [(.long ((((XT.ushr p0 (20 : Int32)) &&& (511 : Int32)) &&& (255 : Int32)) * (16 : Int32)).toInt64)])) _
          refine XT.lstoreN X0.here hx rfl (hb hby d1_76) rfl (l' := #[.val (.int p0), .val (.int ((XT.ushr p0 (20 : Int32)) &&& (511 : Int32))), .val (.long ((((XT.ushr p0 (20 : Int32)) &&& (511 : Int32)) &&& (255 : Int32)) * (16 : Int32)).toInt64), .second]) rfl ?_
          show Steps p.tables e below (s₁.setTop (mkF m 77 #[.val (.int p0), .val (.int ((XT.ushr p0 (20 : Int32)) &&& (511 : Int32))), .val (.long ((((XT.ushr p0 (20 : Int32)) &&& (511 : Int32)) &&& (255 : Int32)) * (16 : Int32)).toInt64), .second] [])) _
          refine XT.lloadN X0.here hx rfl (hb hby d1_77) rfl ?_
          show Steps p.tables e below (s₁.setTop (mkF m 78 #[.val (.int p0), .val (.int ((XT.ushr p0 (20 : Int32)) &&& (511 : Int32))), .val (.long ((((XT.ushr p0 (20 : Int32)) &&& (511 : Int32)) &&& (255 : Int32)) * (16 : Int32)).toInt64), .second] [(.long ((((XT.ushr p0 (20 : Int32)) &&& (511 : Int32)) &&& (255 : Int32)) * (16 : Int32)).toInt64)])) _
          exact retOut X0 hx (t := .long) Bd.returns rfl (Or.inr (Or.inl ⟨rfl, rfl, _, rfl⟩)) (hb hby d1_78) hr
        · show Q_own_bnd Z p0  h0 n0 _ s₁.heap _
          rw [e0]
          exact ⟨by unfold own_bl; rw [if_neg h1, if_neg h2, if_neg h3], N0, rfl⟩
theorem own_ushr (x y : Int32) : XT.ushr x y = (x.toUInt32 >>> (y &&& 31).toUInt32).toInt32 := rfl
theorem own_code (hi cd lo : Int32) (h0 : 0 ≤ cd.toInt) (h1 : cd.toInt < 512) : ((XT.ushr (((hi <<< ((29 : Int32) &&& 31)) ||| (cd <<< ((20 : Int32) &&& 31))) ||| (lo &&& (1048575 : Int32))) (20 : Int32)) &&& (511 : Int32)) = cd := by
  apply Int32.toInt_inj.mp
  have a1 := c_ishl hi (29 : Int32) 29 (by decide)
  have a2 := c_ishl cd (20 : Int32) 20 (by decide)
  have a3 := c_mask lo (1048575 : Int32) 20 (by decide) (by decide)
  have b1 := rng32 (hi <<< ((29 : Int32) &&& 31))
  have b2 := rng32 (cd <<< ((20 : Int32) &&& 31))
  have b3 := rng32 (lo &&& (1048575 : Int32))
  simp only [Nat.reducePow] at a1 a2 a3
  generalize (hi <<< ((29 : Int32) &&& 31)) = A at *
  generalize (cd <<< ((20 : Int32) &&& 31)) = B at *
  generalize (lo &&& (1048575 : Int32)) = G at *
  have a4 := c_or A B 29 (by decide) 536870912 (by decide) (by omega) (by omega) (by omega)
  have b4 := rng32 (A ||| B)
  generalize A ||| B = E at *
  have a5 := c_or E G 20 (by decide) 1048576 (by decide) (by omega) (by omega) (by omega)
  have b5 := rng32 (E ||| G)
  generalize E ||| G = F at *
  have a6 := c_iushr F (20 : Int32) 20 (by decide) (by decide)
  rw [← own_ushr] at a6
  have b6 := rng32 (XT.ushr F (20 : Int32))
  generalize XT.ushr F (20 : Int32) = H at *
  have a7 := c_mask H (511 : Int32) 9 (by decide) (by decide)
  simp only [Nat.reducePow] at a6 a7
  omega
theorem own_fin (n : Nat) (x : Int32) (h0 : 0 ≤ x.toInt) (h1 : x.toInt < n) : ∃ k : Fin n, x = k.val.toInt32 := by
  have hn : ¬ x < 0 := by rw [Int32.lt_iff_toInt_lt]; have e0 : (0 : Int32).toInt = 0 := rfl; omega
  exact ⟨⟨x.toNatClampNeg, by simp only [Int32.toNatClampNeg]; omega⟩, (back32 hn).1.symm⟩
theorem own_e1 : ∀ k : Fin 256, k.val.toInt32 ≠ 0 → own_bl k.val.toInt32 = k.val.toInt32.toInt64 := by decide +kernel
theorem own_e2 : ∀ (a : Fin 16) (b : Fin 2), own_bl (((256 : Int32) ||| (b.val.toInt32 <<< ((4 : Int32) &&& 31))) ||| a.val.toInt32) = (((256 : Int64) + ((16 : Int64) * a.val.toInt32.toInt64)) + ((8 : Int64) * b.val.toInt32.toInt64)) ∧ 0 ≤ (((256 : Int32) ||| (b.val.toInt32 <<< ((4 : Int32) &&& 31))) ||| a.val.toInt32).toInt ∧ (((256 : Int32) ||| (b.val.toInt32 <<< ((4 : Int32) &&& 31))) ||| a.val.toInt32).toInt < 512 := by decide +kernel
theorem own_e3 : ∀ (a : Fin 8) (b : Fin 32), a.val ≠ 0 → own_bl ((256 : Int32) ||| ((a.val.toInt32 <<< ((5 : Int32) &&& 31)) ||| b.val.toInt32)) = ((16 : Int64) * ((a.val.toInt32 <<< ((5 : Int32) &&& 31)) ||| b.val.toInt32).toInt64) ∧ 0 ≤ ((256 : Int32) ||| ((a.val.toInt32 <<< ((5 : Int32) &&& 31)) ||| b.val.toInt32)).toInt ∧ ((256 : Int32) ||| ((a.val.toInt32 <<< ((5 : Int32) &&& 31)) ||| b.val.toInt32)).toInt < 512 := by decide +kernel
theorem own_rem (x d : Int32) (D : Int) (hd : d.toInt = D) (h1 : 0 < D) (h2 : D < 1000) : 1 ≤ ((1 : Int32) + ((x &&& (2147483647 : Int32)) % d)).toInt ∧ ((1 : Int32) + ((x &&& (2147483647 : Int32)) % d)).toInt ≤ D := by
  have a1 := c_mask x (2147483647 : Int32) 31 (by decide) (by decide)
  simp only [Nat.reducePow] at a1
  generalize (x &&& (2147483647 : Int32)) = y at *
  have a2 := (c_irem y d D hd).1 (by omega)
  have a3 := c_iadd (1 : Int32) (y % d)
  have b3 := rng32 ((1 : Int32) + (y % d))
  have e1 : (1 : Int32).toInt = 1 := rfl
  have m1 := Int.emod_nonneg y.toInt (b := D) (by omega)
  have m2 := Int.emod_lt_of_pos y.toInt (b := D) h1
  omega
theorem own_p0 (hi lo : Int32) : own_bl ((XT.ushr (((hi <<< ((29 : Int32) &&& 31)) ||| ((0 : Int32) <<< ((20 : Int32) &&& 31))) ||| (lo &&& (1048575 : Int32))) (20 : Int32)) &&& (511 : Int32)) = (4096 : Int64) := by
  rw [own_code hi 0 lo (by decide) (by decide)]; rfl
theorem own_p1 (hi lo x : Int32) : own_bl ((XT.ushr (((hi <<< ((29 : Int32) &&& 31)) ||| (((1 : Int32) + ((x &&& (2147483647 : Int32)) % (255 : Int32))) <<< ((20 : Int32) &&& 31))) ||| (lo &&& (1048575 : Int32))) (20 : Int32)) &&& (511 : Int32)) = ((1 : Int32) + ((x &&& (2147483647 : Int32)) % (255 : Int32))).toInt64 := by
  obtain ⟨h1, h2⟩ := own_rem x 255 255 rfl (by decide) (by decide)
  rw [own_code _ _ _ (by omega) (by omega)]
  obtain ⟨k, e⟩ := own_fin 256 _ (by omega) (by omega : ((1 : Int32) + ((x &&& (2147483647 : Int32)) % (255 : Int32))).toInt < 256)
  rw [e] at h1 ⊢
  exact own_e1 k (fun q => by rw [q] at h1; exact absurd h1 (by decide))
theorem own_p2 (hi lo x : Int32) : own_bl ((XT.ushr (((hi <<< ((29 : Int32) &&& 31)) ||| ((((256 : Int32) ||| (((XT.ushr x (4 : Int32)) &&& (1 : Int32)) <<< ((4 : Int32) &&& 31))) ||| (x &&& (15 : Int32))) <<< ((20 : Int32) &&& 31))) ||| (lo &&& (1048575 : Int32))) (20 : Int32)) &&& (511 : Int32)) = (((256 : Int64) + ((16 : Int64) * (x &&& (15 : Int32)).toInt64)) + ((8 : Int64) * ((XT.ushr x (4 : Int32)) &&& (1 : Int32)).toInt64)) := by
  have a1 := c_mask x (15 : Int32) 4 (by decide) (by decide)
  have a2 := c_mask (XT.ushr x (4 : Int32)) (1 : Int32) 1 (by decide) (by decide)
  simp only [Nat.reducePow] at a1 a2
  obtain ⟨k1, e1⟩ := own_fin 16 (x &&& (15 : Int32)) (by omega) (by omega)
  obtain ⟨k2, e2⟩ := own_fin 2 ((XT.ushr x (4 : Int32)) &&& (1 : Int32)) (by omega) (by omega)
  rw [e1, e2]
  obtain ⟨q1, q2, q3⟩ := own_e2 k1 k2
  rw [own_code _ _ _ q2 q3]; exact q1
theorem own_p3 (hi lo x : Int32) : own_bl ((XT.ushr (((hi <<< ((29 : Int32) &&& 31)) ||| (((256 : Int32) ||| ((((1 : Int32) + ((x &&& (2147483647 : Int32)) % (7 : Int32))) <<< ((5 : Int32) &&& 31)) ||| ((XT.ushr x (8 : Int32)) &&& (31 : Int32)))) <<< ((20 : Int32) &&& 31))) ||| (lo &&& (1048575 : Int32))) (20 : Int32)) &&& (511 : Int32)) = ((16 : Int64) * (((((1 : Int32) + ((x &&& (2147483647 : Int32)) % (7 : Int32))) <<< ((5 : Int32) &&& 31)) ||| ((XT.ushr x (8 : Int32)) &&& (31 : Int32)))).toInt64) := by
  obtain ⟨h1, h2⟩ := own_rem x 7 7 rfl (by decide) (by decide)
  have a2 := c_mask (XT.ushr x (8 : Int32)) (31 : Int32) 5 (by decide) (by decide)
  simp only [Nat.reducePow] at a2
  obtain ⟨k1, e1⟩ := own_fin 8 _ (by omega) (by omega : ((1 : Int32) + ((x &&& (2147483647 : Int32)) % (7 : Int32))).toInt < 8)
  obtain ⟨k2, e2⟩ := own_fin 32 ((XT.ushr x (8 : Int32)) &&& (31 : Int32)) (by omega) (by omega)
  rw [e1] at h1 ⊢
  rw [e2]
  obtain ⟨q1, q2, q3⟩ := own_e3 k1 k2 (fun q => by rw [q] at h1; exact absurd h1 (by decide))
  rw [own_code _ _ _ q2 q3]; exact q1
theorem pd_0 : parseMethodDescriptor "(I)J" = some ⟨[.int], some .long⟩ := by decide +kernel
theorem pn_own_law : plainName "com/example/madingley/madingley/machine/EncodingBoundsLengthPinLaw" = true := by first | (simp [plainName, overriddenIn]; done) | decide +kernel
theorem ef_own_law (m : MethodId) (x0 : Int32) (x1 : Int32) (x2 : Int32) (x3 : Int32) : entryFrame m #[(.int x0), (.int x1), (.int x2), (.int x3)] maxLocals = mkF m 0 #[.val (.int x0), .val (.int x1), .val (.int x2), .val (.int x3), .unset, .unset, .unset, .unset, .unset, .unset, .unset] [] := by first | (simp [entryFrame, mkF, argsToLocals, Value.category, maxLocals]; done) | rfl
def Q_own_law (Z : State) (p0 : Int32) (p1 : Int32) (p2 : Int32) (p3 : Int32)  (h0 : Heap) (n0 : Nat) (v : Option Value) (h : Heap) (L : List Loc) : Prop := v = some (.int 1) ∧ Fr n0 L
set_option maxRecDepth 65536 in
set_option maxHeartbeats 40000000 in
theorem own_law (l : Launch) (Z : State) (a0 : Array Value) (hw : ∀ d ∈ tables_1, d.before a0 Z = true) (ws : List Jvm.Cond) (p0 : Int32) (p1 : Int32) (p2 : Int32) (p3 : Int32)  (h0 : Heap) (n0 : Nat) (Z0 : n0 ≤ h0.size)  :
    MetFree l x (head1 (Jvm.Cond.code x code maxLocals ret :: ws) room_1) (fun a U => a = #[(.int p0), (.int p1), (.int p2), (.int p3)] ∧ Z.Warmed39 U.vm ∧ U.heap = h0) (fun _ _ _ _ _ => True) (fun _ U o U' => ∃ v L, o = .returned v ∧ Q_own_law Z p0 p1 p2 p3  h0 n0 v U'.heap L ∧ FrameEnd U o U' L 0 0) := by
  refine MetFree.of_bodySF (plainFor_of_name pn_own_law) hisR ?_
  intro p e s m args below meth c s₁ Bd hml0 hP hK
  obtain ⟨rfl, hZ, hh⟩ := hP
  have hx := Bd.exec
  have hby := Bd.bytes
  have hml : c.maxLocals = 11 := hml0
  have hown : s.vm.findClass "com/example/madingley/madingley/machine/EncodingBoundsLengthPinLaw" = some m.cls := findClass_of_methodNamed Bd.named
  have hnm := (name_of_methodNamed Bd.named Bd.method).1
  have X0 : Stand p l e room_1 s m #[(.int p0), (.int p1), (.int p2), (.int p3)] below meth c s₁ [] 0 0 := Stand.of_body Bd
  have e0 : s₁.heap = h0 := by rw [← hh, Bd.state]; rfl
  have N0 := Fr.nil n0
  have pre0 : ∀ t, Steps p.tables e below (s₁.setTop (mkF m 0 #[.val (.int p0), .val (.int p1), .val (.int p2), .val (.int p3), .unset, .unset, .unset, .unset, .unset, .unset, .unset] [])) t → Steps p.tables e below (s₁.setTop (entryFrame m #[(.int p0), (.int p1), (.int p2), (.int p3)] maxLocals)) t := fun t k => castTop (ef_own_law m (p0) (p1) (p2) (p3)) k
  by_cases ha : (p0 &&& (3 : Int32)) = 0
  · obtain ⟨_, _, ⟨T5, L5, k5, n5⟩, -, X5, ⟨Lc5, hQ5, l5, y5, z5⟩, st5⟩ := Jvm.LawKit.callS X0 hx (y := (⟨"com/example/madingley/madingley/machine/Encoding", "boundsLength", "(I)J"⟩ : MethodName)) hown (mvT hZ (hw _ (List.mem_of_getElem? (i := 2) rfl))) (mvT hZ (hw _ (List.mem_of_getElem? (i := 3) rfl))) (mvT hZ (hw _ (List.mem_of_getElem? (i := 4) rfl))) (mvT hZ (hw _ (List.mem_of_getElem? (i := 5) rfl))) (by decide) (backOf (W := 0) (own_bnd l Z a0 hw [] (((p2 <<< ((29 : Int32) &&& 31)) ||| ((0 : Int32) <<< ((20 : Int32) &&& 31))) ||| (p3 &&& (1048575 : Int32))) h0 n0 Z0 ) hZ (hw _ (List.mem_of_getElem? (i := 5) rfl)) (hw _ (List.mem_of_getElem? (i := 4) rfl)) (by decide) (by decide)) (g := (mkF m 172 #[.val (.int p0), .val (.int p1), .val (.int p2), .val (.int p3), .val (.int (p0 &&& (3 : Int32))), .val (.int (0 : Int32)), .val (.long (4096 : Int64)), .second, .val (.int (((p2 <<< ((29 : Int32) &&& 31)) ||| ((0 : Int32) <<< ((20 : Int32) &&& 31))) ||| (p3 &&& (1048575 : Int32)))), .unset, .unset] [(.int (((p2 <<< ((29 : Int32) &&& 31)) ||| ((0 : Int32) <<< ((20 : Int32) &&& 31))) ||| (p3 &&& (1048575 : Int32))))])) rfl (by rw [hml]; rfl) (argsL := [(.int (((p2 <<< ((29 : Int32) &&& 31)) ||| ((0 : Int32) <<< ((20 : Int32) &&& 31))) ||| (p3 &&& (1048575 : Int32))))]) (rest := []) (lenOf pd_0 rfl) rfl (by show 2 * 0 + _ ≤ _; exact Nat.le_of_eq rfl) (hb hby at_172) (fun _ _ => ⟨rfl, e0, (by decide : 0 + 0 ≤ _), (by decide : 0 + 0 ≤ _)⟩)
    dsimp only [Pt.U, Pt.locs, Pt.cells, Pt.slots] at X5 l5 y5 z5 st5 hQ5
    subst l5 y5 z5
    obtain ⟨rfl, N5q, eh5⟩ := hQ5
    have N5 := Fr.app N0 N5q
    obtain ⟨fs, hr, hrun, hended, hW, hsame⟩ := X5.leave (v := some (.int (1 : Int32))) (fun h => by rw [Bd.returns] at h; cases h)
    refine ⟨_, _, pre0 _ ?_, hrun, hended, _, _, rfl, ?_, ⟨_, rfl⟩, hW, hsame.mono (by decide) (by decide)⟩
    · show Steps p.tables e below (s₁.setTop (mkF m 0 #[.val (.int p0), .val (.int p1), .val (.int p2), .val (.int p3), .unset, .unset, .unset, .unset, .unset, .unset, .unset] [])) _
      refine XS.iloadN X0.here hx rfl (hb hby at_0) rfl ?_
      show Steps p.tables e below (s₁.setTop (mkF m 1 #[.val (.int p0), .val (.int p1), .val (.int p2), .val (.int p3), .unset, .unset, .unset, .unset, .unset, .unset, .unset] [(.int p0)])) _
      refine XS.iconst X0.here hx rfl (hb hby at_1) ?_
      show Steps p.tables e below (s₁.setTop (mkF m 2 #[.val (.int p0), .val (.int p1), .val (.int p2), .val (.int p3), .unset, .unset, .unset, .unset, .unset, .unset, .unset] [(.int (3 : Int32)), (.int p0)])) _
      refine XS.iand X0.here hx rfl (hb hby at_2) rfl ?_
      show Steps p.tables e below (s₁.setTop (mkF m 3 #[.val (.int p0), .val (.int p1), .val (.int p2), .val (.int p3), .unset, .unset, .unset, .unset, .unset, .unset, .unset] [(.int (p0 &&& (3 : Int32)))])) _
      refine XS.istore X0.here hx rfl (hb hby at_3) rfl (l' := #[.val (.int p0), .val (.int p1), .val (.int p2), .val (.int p3), .val (.int (p0 &&& (3 : Int32))), .unset, .unset, .unset, .unset, .unset, .unset]) rfl ?_
      show Steps p.tables e below (s₁.setTop (mkF m 5 #[.val (.int p0), .val (.int p1), .val (.int p2), .val (.int p3), .val (.int (p0 &&& (3 : Int32))), .unset, .unset, .unset, .unset, .unset, .unset] [])) _
      refine XS.iload X0.here hx rfl (hb hby at_5) rfl ?_
      show Steps p.tables e below (s₁.setTop (mkF m 7 #[.val (.int p0), .val (.int p1), .val (.int p2), .val (.int p3), .val (.int (p0 &&& (3 : Int32))), .unset, .unset, .unset, .unset, .unset, .unset] [(.int (p0 &&& (3 : Int32)))])) _
      refine XS.ifNo X0.here hx rfl (hb hby at_7) rfl (XT.i0_ne_f ha) ?_
      show Steps p.tables e below (s₁.setTop (mkF m 10 #[.val (.int p0), .val (.int p1), .val (.int p2), .val (.int p3), .val (.int (p0 &&& (3 : Int32))), .unset, .unset, .unset, .unset, .unset, .unset] [])) _
      refine XS.iconst X0.here hx rfl (hb hby at_10) ?_
      show Steps p.tables e below (s₁.setTop (mkF m 11 #[.val (.int p0), .val (.int p1), .val (.int p2), .val (.int p3), .val (.int (p0 &&& (3 : Int32))), .unset, .unset, .unset, .unset, .unset, .unset] [(.int (0 : Int32))])) _
      refine XS.istore X0.here hx rfl (hb hby at_11) rfl (l' := #[.val (.int p0), .val (.int p1), .val (.int p2), .val (.int p3), .val (.int (p0 &&& (3 : Int32))), .val (.int (0 : Int32)), .unset, .unset, .unset, .unset, .unset]) rfl ?_
      show Steps p.tables e below (s₁.setTop (mkF m 13 #[.val (.int p0), .val (.int p1), .val (.int p2), .val (.int p3), .val (.int (p0 &&& (3 : Int32))), .val (.int (0 : Int32)), .unset, .unset, .unset, .unset, .unset] [])) _
      refine Jvm.Stand.ldc2J X0 hx hown (mvT hZ (hw _ (List.mem_of_getElem? (i := 0) rfl))) (g := (mkF m 13 #[.val (.int p0), .val (.int p1), .val (.int p2), .val (.int p3), .val (.int (p0 &&& (3 : Int32))), .val (.int (0 : Int32)), .unset, .unset, .unset, .unset, .unset] [])) rfl (hb hby at_13) ?_
      show Steps p.tables e below (s₁.setTop (mkF m 16 #[.val (.int p0), .val (.int p1), .val (.int p2), .val (.int p3), .val (.int (p0 &&& (3 : Int32))), .val (.int (0 : Int32)), .unset, .unset, .unset, .unset, .unset] [(.long (4096 : Int64))])) _
      refine XT.lstore X0.here hx rfl (hb hby at_16) rfl (l' := #[.val (.int p0), .val (.int p1), .val (.int p2), .val (.int p3), .val (.int (p0 &&& (3 : Int32))), .val (.int (0 : Int32)), .val (.long (4096 : Int64)), .second, .unset, .unset, .unset]) rfl ?_
      show Steps p.tables e below (s₁.setTop (mkF m 18 #[.val (.int p0), .val (.int p1), .val (.int p2), .val (.int p3), .val (.int (p0 &&& (3 : Int32))), .val (.int (0 : Int32)), .val (.long (4096 : Int64)), .second, .unset, .unset, .unset] [])) _
      refine XS.goto X0.here hx rfl (pc0 := 18) (pc' := 153) rfl (hb hby at_18) (by decide) (by decide) ?_
      show Steps p.tables e below (s₁.setTop (mkF m 153 #[.val (.int p0), .val (.int p1), .val (.int p2), .val (.int p3), .val (.int (p0 &&& (3 : Int32))), .val (.int (0 : Int32)), .val (.long (4096 : Int64)), .second, .unset, .unset, .unset] [])) _
      refine XS.iloadN X0.here hx rfl (hb hby at_153) rfl ?_
      show Steps p.tables e below (s₁.setTop (mkF m 154 #[.val (.int p0), .val (.int p1), .val (.int p2), .val (.int p3), .val (.int (p0 &&& (3 : Int32))), .val (.int (0 : Int32)), .val (.long (4096 : Int64)), .second, .unset, .unset, .unset] [(.int p2)])) _
      refine XS.bipush X0.here hx rfl (hb hby at_154) ?_
      show Steps p.tables e below (s₁.setTop (mkF m 156 #[.val (.int p0), .val (.int p1), .val (.int p2), .val (.int p3), .val (.int (p0 &&& (3 : Int32))), .val (.int (0 : Int32)), .val (.long (4096 : Int64)), .second, .unset, .unset, .unset] [(.int (29 : Int32)), (.int p2)])) _
      refine XT.ishl X0.here hx rfl (hb hby at_156) rfl ?_
      show Steps p.tables e below (s₁.setTop (mkF m 157 #[.val (.int p0), .val (.int p1), .val (.int p2), .val (.int p3), .val (.int (p0 &&& (3 : Int32))), .val (.int (0 : Int32)), .val (.long (4096 : Int64)), .second, .unset, .unset, .unset] [(.int (p2 <<< ((29 : Int32) &&& 31)))])) _
      refine XS.iload X0.here hx rfl (hb hby at_157) rfl ?_
      show Steps p.tables e below (s₁.setTop (mkF m 159 #[.val (.int p0), .val (.int p1), .val (.int p2), .val (.int p3), .val (.int (p0 &&& (3 : Int32))), .val (.int (0 : Int32)), .val (.long (4096 : Int64)), .second, .unset, .unset, .unset] [(.int (0 : Int32)), (.int (p2 <<< ((29 : Int32) &&& 31)))])) _
      refine XS.bipush X0.here hx rfl (hb hby at_159) ?_
      show Steps p.tables e below (s₁.setTop (mkF m 161 #[.val (.int p0), .val (.int p1), .val (.int p2), .val (.int p3), .val (.int (p0 &&& (3 : Int32))), .val (.int (0 : Int32)), .val (.long (4096 : Int64)), .second, .unset, .unset, .unset] [(.int (20 : Int32)), (.int (0 : Int32)), (.int (p2 <<< ((29 : Int32) &&& 31)))])) _
      refine XT.ishl X0.here hx rfl (hb hby at_161) rfl ?_
      show Steps p.tables e below (s₁.setTop (mkF m 162 #[.val (.int p0), .val (.int p1), .val (.int p2), .val (.int p3), .val (.int (p0 &&& (3 : Int32))), .val (.int (0 : Int32)), .val (.long (4096 : Int64)), .second, .unset, .unset, .unset] [(.int ((0 : Int32) <<< ((20 : Int32) &&& 31))), (.int (p2 <<< ((29 : Int32) &&& 31)))])) _
      refine XT.ior X0.here hx rfl (hb hby at_162) rfl ?_
      show Steps p.tables e below (s₁.setTop (mkF m 163 #[.val (.int p0), .val (.int p1), .val (.int p2), .val (.int p3), .val (.int (p0 &&& (3 : Int32))), .val (.int (0 : Int32)), .val (.long (4096 : Int64)), .second, .unset, .unset, .unset] [(.int ((p2 <<< ((29 : Int32) &&& 31)) ||| ((0 : Int32) <<< ((20 : Int32) &&& 31))))])) _
      refine XS.iloadN X0.here hx rfl (hb hby at_163) rfl ?_
      show Steps p.tables e below (s₁.setTop (mkF m 164 #[.val (.int p0), .val (.int p1), .val (.int p2), .val (.int p3), .val (.int (p0 &&& (3 : Int32))), .val (.int (0 : Int32)), .val (.long (4096 : Int64)), .second, .unset, .unset, .unset] [(.int p3), (.int ((p2 <<< ((29 : Int32) &&& 31)) ||| ((0 : Int32) <<< ((20 : Int32) &&& 31))))])) _
      refine Jvm.Stand.ldcI X0 hx hown (mvT hZ (hw _ (List.mem_of_getElem? (i := 1) rfl))) (g := (mkF m 164 #[.val (.int p0), .val (.int p1), .val (.int p2), .val (.int p3), .val (.int (p0 &&& (3 : Int32))), .val (.int (0 : Int32)), .val (.long (4096 : Int64)), .second, .unset, .unset, .unset] [(.int p3), (.int ((p2 <<< ((29 : Int32) &&& 31)) ||| ((0 : Int32) <<< ((20 : Int32) &&& 31))))])) rfl (hb hby at_164) ?_
      show Steps p.tables e below (s₁.setTop (mkF m 166 #[.val (.int p0), .val (.int p1), .val (.int p2), .val (.int p3), .val (.int (p0 &&& (3 : Int32))), .val (.int (0 : Int32)), .val (.long (4096 : Int64)), .second, .unset, .unset, .unset] [(.int (1048575 : Int32)), (.int p3), (.int ((p2 <<< ((29 : Int32) &&& 31)) ||| ((0 : Int32) <<< ((20 : Int32) &&& 31))))])) _
      refine XS.iand X0.here hx rfl (hb hby at_166) rfl ?_
      show Steps p.tables e below (s₁.setTop (mkF m 167 #[.val (.int p0), .val (.int p1), .val (.int p2), .val (.int p3), .val (.int (p0 &&& (3 : Int32))), .val (.int (0 : Int32)), .val (.long (4096 : Int64)), .second, .unset, .unset, .unset] [(.int (p3 &&& (1048575 : Int32))), (.int ((p2 <<< ((29 : Int32) &&& 31)) ||| ((0 : Int32) <<< ((20 : Int32) &&& 31))))])) _
      refine XT.ior X0.here hx rfl (hb hby at_167) rfl ?_
      show Steps p.tables e below (s₁.setTop (mkF m 168 #[.val (.int p0), .val (.int p1), .val (.int p2), .val (.int p3), .val (.int (p0 &&& (3 : Int32))), .val (.int (0 : Int32)), .val (.long (4096 : Int64)), .second, .unset, .unset, .unset] [(.int (((p2 <<< ((29 : Int32) &&& 31)) ||| ((0 : Int32) <<< ((20 : Int32) &&& 31))) ||| (p3 &&& (1048575 : Int32))))])) _
      refine XS.istore X0.here hx rfl (hb hby at_168) rfl (l' := #[.val (.int p0), .val (.int p1), .val (.int p2), .val (.int p3), .val (.int (p0 &&& (3 : Int32))), .val (.int (0 : Int32)), .val (.long (4096 : Int64)), .second, .val (.int (((p2 <<< ((29 : Int32) &&& 31)) ||| ((0 : Int32) <<< ((20 : Int32) &&& 31))) ||| (p3 &&& (1048575 : Int32)))), .unset, .unset]) rfl ?_
      show Steps p.tables e below (s₁.setTop (mkF m 170 #[.val (.int p0), .val (.int p1), .val (.int p2), .val (.int p3), .val (.int (p0 &&& (3 : Int32))), .val (.int (0 : Int32)), .val (.long (4096 : Int64)), .second, .val (.int (((p2 <<< ((29 : Int32) &&& 31)) ||| ((0 : Int32) <<< ((20 : Int32) &&& 31))) ||| (p3 &&& (1048575 : Int32)))), .unset, .unset] [])) _
      refine XS.iload X0.here hx rfl (hb hby at_170) rfl ?_
      show Steps p.tables e below (s₁.setTop (mkF m 172 #[.val (.int p0), .val (.int p1), .val (.int p2), .val (.int p3), .val (.int (p0 &&& (3 : Int32))), .val (.int (0 : Int32)), .val (.long (4096 : Int64)), .second, .val (.int (((p2 <<< ((29 : Int32) &&& 31)) ||| ((0 : Int32) <<< ((20 : Int32) &&& 31))) ||| (p3 &&& (1048575 : Int32)))), .unset, .unset] [(.int (((p2 <<< ((29 : Int32) &&& 31)) ||| ((0 : Int32) <<< ((20 : Int32) &&& 31))) ||| (p3 &&& (1048575 : Int32))))])) _
      refine st5 _ ?_
      show Steps p.tables e below (T5.setTop (mkF m 175 #[.val (.int p0), .val (.int p1), .val (.int p2), .val (.int p3), .val (.int (p0 &&& (3 : Int32))), .val (.int (0 : Int32)), .val (.long (4096 : Int64)), .second, .val (.int (((p2 <<< ((29 : Int32) &&& 31)) ||| ((0 : Int32) <<< ((20 : Int32) &&& 31))) ||| (p3 &&& (1048575 : Int32)))), .unset, .unset] [(.long (own_bl ((XT.ushr (((p2 <<< ((29 : Int32) &&& 31)) ||| ((0 : Int32) <<< ((20 : Int32) &&& 31))) ||| (p3 &&& (1048575 : Int32))) (20 : Int32)) &&& (511 : Int32))))])) _
      refine XT.lload X5.here hx rfl (hb hby at_175) rfl ?_
      show Steps p.tables e below (T5.setTop (mkF m 177 #[.val (.int p0), .val (.int p1), .val (.int p2), .val (.int p3), .val (.int (p0 &&& (3 : Int32))), .val (.int (0 : Int32)), .val (.long (4096 : Int64)), .second, .val (.int (((p2 <<< ((29 : Int32) &&& 31)) ||| ((0 : Int32) <<< ((20 : Int32) &&& 31))) ||| (p3 &&& (1048575 : Int32)))), .unset, .unset] [(.long (4096 : Int64)), (.long (own_bl ((XT.ushr (((p2 <<< ((29 : Int32) &&& 31)) ||| ((0 : Int32) <<< ((20 : Int32) &&& 31))) ||| (p3 &&& (1048575 : Int32))) (20 : Int32)) &&& (511 : Int32))))])) _
      refine XT.lcmp X5.here hx rfl (hb hby at_177) rfl ?_
      show Steps p.tables e below (T5.setTop (mkF m 178 #[.val (.int p0), .val (.int p1), .val (.int p2), .val (.int p3), .val (.int (p0 &&& (3 : Int32))), .val (.int (0 : Int32)), .val (.long (4096 : Int64)), .second, .val (.int (((p2 <<< ((29 : Int32) &&& 31)) ||| ((0 : Int32) <<< ((20 : Int32) &&& 31))) ||| (p3 &&& (1048575 : Int32)))), .unset, .unset] [(.int (XT.cmpL (own_bl ((XT.ushr (((p2 <<< ((29 : Int32) &&& 31)) ||| ((0 : Int32) <<< ((20 : Int32) &&& 31))) ||| (p3 &&& (1048575 : Int32))) (20 : Int32)) &&& (511 : Int32))) (4096 : Int64)))])) _
      refine XS.ifNo X5.here hx rfl (hb hby at_178) rfl (XT.ll_ne_f (own_p0 p2 p3)) ?_
      show Steps p.tables e below (T5.setTop (mkF m 181 #[.val (.int p0), .val (.int p1), .val (.int p2), .val (.int p3), .val (.int (p0 &&& (3 : Int32))), .val (.int (0 : Int32)), .val (.long (4096 : Int64)), .second, .val (.int (((p2 <<< ((29 : Int32) &&& 31)) ||| ((0 : Int32) <<< ((20 : Int32) &&& 31))) ||| (p3 &&& (1048575 : Int32)))), .unset, .unset] [])) _
      refine XS.iconst X5.here hx rfl (hb hby at_181) ?_
      show Steps p.tables e below (T5.setTop (mkF m 182 #[.val (.int p0), .val (.int p1), .val (.int p2), .val (.int p3), .val (.int (p0 &&& (3 : Int32))), .val (.int (0 : Int32)), .val (.long (4096 : Int64)), .second, .val (.int (((p2 <<< ((29 : Int32) &&& 31)) ||| ((0 : Int32) <<< ((20 : Int32) &&& 31))) ||| (p3 &&& (1048575 : Int32)))), .unset, .unset] [(.int (1 : Int32))])) _
      refine XS.goto X5.here hx rfl (pc0 := 182) (pc' := 186) rfl (hb hby at_182) (by decide) (by decide) ?_
      show Steps p.tables e below (T5.setTop (mkF m 186 #[.val (.int p0), .val (.int p1), .val (.int p2), .val (.int p3), .val (.int (p0 &&& (3 : Int32))), .val (.int (0 : Int32)), .val (.long (4096 : Int64)), .second, .val (.int (((p2 <<< ((29 : Int32) &&& 31)) ||| ((0 : Int32) <<< ((20 : Int32) &&& 31))) ||| (p3 &&& (1048575 : Int32)))), .unset, .unset] [(.int (1 : Int32))])) _
      exact retN X5 hx (t := .boolean) Bd.returns (by simp) (hb hby at_186) hr
    · show Q_own_law Z p0 p1 p2 p3  h0 n0 _ T5.heap _
      rw [eh5]
      exact ⟨rfl, N5⟩
  · by_cases hb_ : (p0 &&& (3 : Int32)) = (1 : Int32)
    · obtain ⟨_, _, ⟨T7, L7, k7, n7⟩, -, X7, ⟨Lc7, hQ7, l7, y7, z7⟩, st7⟩ := Jvm.LawKit.callS X0 hx (y := (⟨"com/example/madingley/madingley/machine/Encoding", "boundsLength", "(I)J"⟩ : MethodName)) hown (mvT hZ (hw _ (List.mem_of_getElem? (i := 2) rfl))) (mvT hZ (hw _ (List.mem_of_getElem? (i := 3) rfl))) (mvT hZ (hw _ (List.mem_of_getElem? (i := 4) rfl))) (mvT hZ (hw _ (List.mem_of_getElem? (i := 5) rfl))) (by decide) (backOf (W := 0) (own_bnd l Z a0 hw [] (((p2 <<< ((29 : Int32) &&& 31)) ||| (((1 : Int32) + ((p1 &&& (2147483647 : Int32)) % (255 : Int32))) <<< ((20 : Int32) &&& 31))) ||| (p3 &&& (1048575 : Int32))) h0 n0 Z0 ) hZ (hw _ (List.mem_of_getElem? (i := 5) rfl)) (hw _ (List.mem_of_getElem? (i := 4) rfl)) (by decide) (by decide)) (g := (mkF m 172 #[.val (.int p0), .val (.int p1), .val (.int p2), .val (.int p3), .val (.int (p0 &&& (3 : Int32))), .val (.int ((1 : Int32) + ((p1 &&& (2147483647 : Int32)) % (255 : Int32)))), .val (.long ((1 : Int32) + ((p1 &&& (2147483647 : Int32)) % (255 : Int32))).toInt64), .second, .val (.int (((p2 <<< ((29 : Int32) &&& 31)) ||| (((1 : Int32) + ((p1 &&& (2147483647 : Int32)) % (255 : Int32))) <<< ((20 : Int32) &&& 31))) ||| (p3 &&& (1048575 : Int32)))), .unset, .unset] [(.int (((p2 <<< ((29 : Int32) &&& 31)) ||| (((1 : Int32) + ((p1 &&& (2147483647 : Int32)) % (255 : Int32))) <<< ((20 : Int32) &&& 31))) ||| (p3 &&& (1048575 : Int32))))])) rfl (by rw [hml]; rfl) (argsL := [(.int (((p2 <<< ((29 : Int32) &&& 31)) ||| (((1 : Int32) + ((p1 &&& (2147483647 : Int32)) % (255 : Int32))) <<< ((20 : Int32) &&& 31))) ||| (p3 &&& (1048575 : Int32))))]) (rest := []) (lenOf pd_0 rfl) rfl (by show 2 * 0 + _ ≤ _; exact Nat.le_of_eq rfl) (hb hby at_172) (fun _ _ => ⟨rfl, e0, (by decide : 0 + 0 ≤ _), (by decide : 0 + 0 ≤ _)⟩)
      dsimp only [Pt.U, Pt.locs, Pt.cells, Pt.slots] at X7 l7 y7 z7 st7 hQ7
      subst l7 y7 z7
      obtain ⟨rfl, N7q, eh7⟩ := hQ7
      have N7 := Fr.app N0 N7q
      obtain ⟨fs, hr, hrun, hended, hW, hsame⟩ := X7.leave (v := some (.int (1 : Int32))) (fun h => by rw [Bd.returns] at h; cases h)
      refine ⟨_, _, pre0 _ ?_, hrun, hended, _, _, rfl, ?_, ⟨_, rfl⟩, hW, hsame.mono (by decide) (by decide)⟩
      · show Steps p.tables e below (s₁.setTop (mkF m 0 #[.val (.int p0), .val (.int p1), .val (.int p2), .val (.int p3), .unset, .unset, .unset, .unset, .unset, .unset, .unset] [])) _
        refine XS.iloadN X0.here hx rfl (hb hby at_0) rfl ?_
        show Steps p.tables e below (s₁.setTop (mkF m 1 #[.val (.int p0), .val (.int p1), .val (.int p2), .val (.int p3), .unset, .unset, .unset, .unset, .unset, .unset, .unset] [(.int p0)])) _
        refine XS.iconst X0.here hx rfl (hb hby at_1) ?_
        show Steps p.tables e below (s₁.setTop (mkF m 2 #[.val (.int p0), .val (.int p1), .val (.int p2), .val (.int p3), .unset, .unset, .unset, .unset, .unset, .unset, .unset] [(.int (3 : Int32)), (.int p0)])) _
        refine XS.iand X0.here hx rfl (hb hby at_2) rfl ?_
        show Steps p.tables e below (s₁.setTop (mkF m 3 #[.val (.int p0), .val (.int p1), .val (.int p2), .val (.int p3), .unset, .unset, .unset, .unset, .unset, .unset, .unset] [(.int (p0 &&& (3 : Int32)))])) _
        refine XS.istore X0.here hx rfl (hb hby at_3) rfl (l' := #[.val (.int p0), .val (.int p1), .val (.int p2), .val (.int p3), .val (.int (p0 &&& (3 : Int32))), .unset, .unset, .unset, .unset, .unset, .unset]) rfl ?_
        show Steps p.tables e below (s₁.setTop (mkF m 5 #[.val (.int p0), .val (.int p1), .val (.int p2), .val (.int p3), .val (.int (p0 &&& (3 : Int32))), .unset, .unset, .unset, .unset, .unset, .unset] [])) _
        refine XS.iload X0.here hx rfl (hb hby at_5) rfl ?_
        show Steps p.tables e below (s₁.setTop (mkF m 7 #[.val (.int p0), .val (.int p1), .val (.int p2), .val (.int p3), .val (.int (p0 &&& (3 : Int32))), .unset, .unset, .unset, .unset, .unset, .unset] [(.int (p0 &&& (3 : Int32)))])) _
        refine XS.ifYes X0.here hx rfl (pc0 := 7) (pc' := 21) rfl (hb hby at_7) rfl (XT.i0_ne_t ha) (by decide) (by decide) ?_
        show Steps p.tables e below (s₁.setTop (mkF m 21 #[.val (.int p0), .val (.int p1), .val (.int p2), .val (.int p3), .val (.int (p0 &&& (3 : Int32))), .unset, .unset, .unset, .unset, .unset, .unset] [])) _
        refine XS.iload X0.here hx rfl (hb hby at_21) rfl ?_
        show Steps p.tables e below (s₁.setTop (mkF m 23 #[.val (.int p0), .val (.int p1), .val (.int p2), .val (.int p3), .val (.int (p0 &&& (3 : Int32))), .unset, .unset, .unset, .unset, .unset, .unset] [(.int (p0 &&& (3 : Int32)))])) _
        refine XS.iconst X0.here hx rfl (hb hby at_23) ?_
        show Steps p.tables e below (s₁.setTop (mkF m 24 #[.val (.int p0), .val (.int p1), .val (.int p2), .val (.int p3), .val (.int (p0 &&& (3 : Int32))), .unset, .unset, .unset, .unset, .unset, .unset] [(.int (1 : Int32)), (.int (p0 &&& (3 : Int32)))])) _
        refine XS.icmpNo X0.here hx rfl (hb hby at_24) rfl (XT.ii_ne_f hb_) ?_
        show Steps p.tables e below (s₁.setTop (mkF m 27 #[.val (.int p0), .val (.int p1), .val (.int p2), .val (.int p3), .val (.int (p0 &&& (3 : Int32))), .unset, .unset, .unset, .unset, .unset, .unset] [])) _
        refine XS.iconst X0.here hx rfl (hb hby at_27) ?_
        show Steps p.tables e below (s₁.setTop (mkF m 28 #[.val (.int p0), .val (.int p1), .val (.int p2), .val (.int p3), .val (.int (p0 &&& (3 : Int32))), .unset, .unset, .unset, .unset, .unset, .unset] [(.int (1 : Int32))])) _
        refine XS.iloadN X0.here hx rfl (hb hby at_28) rfl ?_
        show Steps p.tables e below (s₁.setTop (mkF m 29 #[.val (.int p0), .val (.int p1), .val (.int p2), .val (.int p3), .val (.int (p0 &&& (3 : Int32))), .unset, .unset, .unset, .unset, .unset, .unset] [(.int p1), (.int (1 : Int32))])) _
        refine Jvm.Stand.ldcI X0 hx hown (mvT hZ (hw _ (List.mem_of_getElem? (i := 7) rfl))) (g := (mkF m 29 #[.val (.int p0), .val (.int p1), .val (.int p2), .val (.int p3), .val (.int (p0 &&& (3 : Int32))), .unset, .unset, .unset, .unset, .unset, .unset] [(.int p1), (.int (1 : Int32))])) rfl (hb hby at_29) ?_
        show Steps p.tables e below (s₁.setTop (mkF m 31 #[.val (.int p0), .val (.int p1), .val (.int p2), .val (.int p3), .val (.int (p0 &&& (3 : Int32))), .unset, .unset, .unset, .unset, .unset, .unset] [(.int (2147483647 : Int32)), (.int p1), (.int (1 : Int32))])) _
        refine XS.iand X0.here hx rfl (hb hby at_31) rfl ?_
        show Steps p.tables e below (s₁.setTop (mkF m 32 #[.val (.int p0), .val (.int p1), .val (.int p2), .val (.int p3), .val (.int (p0 &&& (3 : Int32))), .unset, .unset, .unset, .unset, .unset, .unset] [(.int (p1 &&& (2147483647 : Int32))), (.int (1 : Int32))])) _
        refine XS.sipush X0.here hx rfl (hb hby at_32) ?_
        show Steps p.tables e below (s₁.setTop (mkF m 35 #[.val (.int p0), .val (.int p1), .val (.int p2), .val (.int p3), .val (.int (p0 &&& (3 : Int32))), .unset, .unset, .unset, .unset, .unset, .unset] [(.int (255 : Int32)), (.int (p1 &&& (2147483647 : Int32))), (.int (1 : Int32))])) _
        refine Jvm.RoadKit.iremM (g := (mkF m 35 #[.val (.int p0), .val (.int p1), .val (.int p2), .val (.int p3), .val (.int (p0 &&& (3 : Int32))), .unset, .unset, .unset, .unset, .unset, .unset] [(.int (255 : Int32)), (.int (p1 &&& (2147483647 : Int32))), (.int (1 : Int32))])) X0 hx rfl (hb hby at_35) rfl (by decide) ?_
        show Steps p.tables e below (s₁.setTop (mkF m 36 #[.val (.int p0), .val (.int p1), .val (.int p2), .val (.int p3), .val (.int (p0 &&& (3 : Int32))), .unset, .unset, .unset, .unset, .unset, .unset] [(.int ((p1 &&& (2147483647 : Int32)) % (255 : Int32))), (.int (1 : Int32))])) _
        refine XS.iadd X0.here hx rfl (hb hby at_36) rfl ?_
        show Steps p.tables e below (s₁.setTop (mkF m 37 #[.val (.int p0), .val (.int p1), .val (.int p2), .val (.int p3), .val (.int (p0 &&& (3 : Int32))), .unset, .unset, .unset, .unset, .unset, .unset] [(.int ((1 : Int32) + ((p1 &&& (2147483647 : Int32)) % (255 : Int32))))])) _
        refine XS.istore X0.here hx rfl (hb hby at_37) rfl (l' := #[.val (.int p0), .val (.int p1), .val (.int p2), .val (.int p3), .val (.int (p0 &&& (3 : Int32))), .unset, .unset, .unset, .val (.int ((1 : Int32) + ((p1 &&& (2147483647 : Int32)) % (255 : Int32)))), .unset, .unset]) rfl ?_
        show Steps p.tables e below (s₁.setTop (mkF m 39 #[.val (.int p0), .val (.int p1), .val (.int p2), .val (.int p3), .val (.int (p0 &&& (3 : Int32))), .unset, .unset, .unset, .val (.int ((1 : Int32) + ((p1 &&& (2147483647 : Int32)) % (255 : Int32)))), .unset, .unset] [])) _
        refine XS.iload X0.here hx rfl (hb hby at_39) rfl ?_
        show Steps p.tables e below (s₁.setTop (mkF m 41 #[.val (.int p0), .val (.int p1), .val (.int p2), .val (.int p3), .val (.int (p0 &&& (3 : Int32))), .unset, .unset, .unset, .val (.int ((1 : Int32) + ((p1 &&& (2147483647 : Int32)) % (255 : Int32)))), .unset, .unset] [(.int ((1 : Int32) + ((p1 &&& (2147483647 : Int32)) % (255 : Int32))))])) _
        refine XS.istore X0.here hx rfl (hb hby at_41) rfl (l' := #[.val (.int p0), .val (.int p1), .val (.int p2), .val (.int p3), .val (.int (p0 &&& (3 : Int32))), .val (.int ((1 : Int32) + ((p1 &&& (2147483647 : Int32)) % (255 : Int32)))), .unset, .unset, .val (.int ((1 : Int32) + ((p1 &&& (2147483647 : Int32)) % (255 : Int32)))), .unset, .unset]) rfl ?_
        show Steps p.tables e below (s₁.setTop (mkF m 43 #[.val (.int p0), .val (.int p1), .val (.int p2), .val (.int p3), .val (.int (p0 &&& (3 : Int32))), .val (.int ((1 : Int32) + ((p1 &&& (2147483647 : Int32)) % (255 : Int32)))), .unset, .unset, .val (.int ((1 : Int32) + ((p1 &&& (2147483647 : Int32)) % (255 : Int32)))), .unset, .unset] [])) _
        refine XS.iload X0.here hx rfl (hb hby at_43) rfl ?_
        show Steps p.tables e below (s₁.setTop (mkF m 45 #[.val (.int p0), .val (.int p1), .val (.int p2), .val (.int p3), .val (.int (p0 &&& (3 : Int32))), .val (.int ((1 : Int32) + ((p1 &&& (2147483647 : Int32)) % (255 : Int32)))), .unset, .unset, .val (.int ((1 : Int32) + ((p1 &&& (2147483647 : Int32)) % (255 : Int32)))), .unset, .unset] [(.int ((1 : Int32) + ((p1 &&& (2147483647 : Int32)) % (255 : Int32))))])) _
        refine XT.i2l X0.here hx rfl (hb hby at_45) rfl ?_
        show Steps p.tables e below (s₁.setTop (mkF m 46 #[.val (.int p0), .val (.int p1), .val (.int p2), .val (.int p3), .val (.int (p0 &&& (3 : Int32))), .val (.int ((1 : Int32) + ((p1 &&& (2147483647 : Int32)) % (255 : Int32)))), .unset, .unset, .val (.int ((1 : Int32) + ((p1 &&& (2147483647 : Int32)) % (255 : Int32)))), .unset, .unset] [(.long ((1 : Int32) + ((p1 &&& (2147483647 : Int32)) % (255 : Int32))).toInt64)])) _
        refine XT.lstore X0.here hx rfl (hb hby at_46) rfl (l' := #[.val (.int p0), .val (.int p1), .val (.int p2), .val (.int p3), .val (.int (p0 &&& (3 : Int32))), .val (.int ((1 : Int32) + ((p1 &&& (2147483647 : Int32)) % (255 : Int32)))), .val (.long ((1 : Int32) + ((p1 &&& (2147483647 : Int32)) % (255 : Int32))).toInt64), .second, .val (.int ((1 : Int32) + ((p1 &&& (2147483647 : Int32)) % (255 : Int32)))), .unset, .unset]) rfl ?_
        show Steps p.tables e below (s₁.setTop (mkF m 48 #[.val (.int p0), .val (.int p1), .val (.int p2), .val (.int p3), .val (.int (p0 &&& (3 : Int32))), .val (.int ((1 : Int32) + ((p1 &&& (2147483647 : Int32)) % (255 : Int32)))), .val (.long ((1 : Int32) + ((p1 &&& (2147483647 : Int32)) % (255 : Int32))).toInt64), .second, .val (.int ((1 : Int32) + ((p1 &&& (2147483647 : Int32)) % (255 : Int32)))), .unset, .unset] [])) _
        refine XS.goto X0.here hx rfl (pc0 := 48) (pc' := 153) rfl (hb hby at_48) (by decide) (by decide) ?_
        show Steps p.tables e below (s₁.setTop (mkF m 153 #[.val (.int p0), .val (.int p1), .val (.int p2), .val (.int p3), .val (.int (p0 &&& (3 : Int32))), .val (.int ((1 : Int32) + ((p1 &&& (2147483647 : Int32)) % (255 : Int32)))), .val (.long ((1 : Int32) + ((p1 &&& (2147483647 : Int32)) % (255 : Int32))).toInt64), .second, .val (.int ((1 : Int32) + ((p1 &&& (2147483647 : Int32)) % (255 : Int32)))), .unset, .unset] [])) _
        refine XS.iloadN X0.here hx rfl (hb hby at_153) rfl ?_
        show Steps p.tables e below (s₁.setTop (mkF m 154 #[.val (.int p0), .val (.int p1), .val (.int p2), .val (.int p3), .val (.int (p0 &&& (3 : Int32))), .val (.int ((1 : Int32) + ((p1 &&& (2147483647 : Int32)) % (255 : Int32)))), .val (.long ((1 : Int32) + ((p1 &&& (2147483647 : Int32)) % (255 : Int32))).toInt64), .second, .val (.int ((1 : Int32) + ((p1 &&& (2147483647 : Int32)) % (255 : Int32)))), .unset, .unset] [(.int p2)])) _
        refine XS.bipush X0.here hx rfl (hb hby at_154) ?_
        show Steps p.tables e below (s₁.setTop (mkF m 156 #[.val (.int p0), .val (.int p1), .val (.int p2), .val (.int p3), .val (.int (p0 &&& (3 : Int32))), .val (.int ((1 : Int32) + ((p1 &&& (2147483647 : Int32)) % (255 : Int32)))), .val (.long ((1 : Int32) + ((p1 &&& (2147483647 : Int32)) % (255 : Int32))).toInt64), .second, .val (.int ((1 : Int32) + ((p1 &&& (2147483647 : Int32)) % (255 : Int32)))), .unset, .unset] [(.int (29 : Int32)), (.int p2)])) _
        refine XT.ishl X0.here hx rfl (hb hby at_156) rfl ?_
        show Steps p.tables e below (s₁.setTop (mkF m 157 #[.val (.int p0), .val (.int p1), .val (.int p2), .val (.int p3), .val (.int (p0 &&& (3 : Int32))), .val (.int ((1 : Int32) + ((p1 &&& (2147483647 : Int32)) % (255 : Int32)))), .val (.long ((1 : Int32) + ((p1 &&& (2147483647 : Int32)) % (255 : Int32))).toInt64), .second, .val (.int ((1 : Int32) + ((p1 &&& (2147483647 : Int32)) % (255 : Int32)))), .unset, .unset] [(.int (p2 <<< ((29 : Int32) &&& 31)))])) _
        refine XS.iload X0.here hx rfl (hb hby at_157) rfl ?_
        show Steps p.tables e below (s₁.setTop (mkF m 159 #[.val (.int p0), .val (.int p1), .val (.int p2), .val (.int p3), .val (.int (p0 &&& (3 : Int32))), .val (.int ((1 : Int32) + ((p1 &&& (2147483647 : Int32)) % (255 : Int32)))), .val (.long ((1 : Int32) + ((p1 &&& (2147483647 : Int32)) % (255 : Int32))).toInt64), .second, .val (.int ((1 : Int32) + ((p1 &&& (2147483647 : Int32)) % (255 : Int32)))), .unset, .unset] [(.int ((1 : Int32) + ((p1 &&& (2147483647 : Int32)) % (255 : Int32)))), (.int (p2 <<< ((29 : Int32) &&& 31)))])) _
        refine XS.bipush X0.here hx rfl (hb hby at_159) ?_
        show Steps p.tables e below (s₁.setTop (mkF m 161 #[.val (.int p0), .val (.int p1), .val (.int p2), .val (.int p3), .val (.int (p0 &&& (3 : Int32))), .val (.int ((1 : Int32) + ((p1 &&& (2147483647 : Int32)) % (255 : Int32)))), .val (.long ((1 : Int32) + ((p1 &&& (2147483647 : Int32)) % (255 : Int32))).toInt64), .second, .val (.int ((1 : Int32) + ((p1 &&& (2147483647 : Int32)) % (255 : Int32)))), .unset, .unset] [(.int (20 : Int32)), (.int ((1 : Int32) + ((p1 &&& (2147483647 : Int32)) % (255 : Int32)))), (.int (p2 <<< ((29 : Int32) &&& 31)))])) _
        refine XT.ishl X0.here hx rfl (hb hby at_161) rfl ?_
        show Steps p.tables e below (s₁.setTop (mkF m 162 #[.val (.int p0), .val (.int p1), .val (.int p2), .val (.int p3), .val (.int (p0 &&& (3 : Int32))), .val (.int ((1 : Int32) + ((p1 &&& (2147483647 : Int32)) % (255 : Int32)))), .val (.long ((1 : Int32) + ((p1 &&& (2147483647 : Int32)) % (255 : Int32))).toInt64), .second, .val (.int ((1 : Int32) + ((p1 &&& (2147483647 : Int32)) % (255 : Int32)))), .unset, .unset] [(.int (((1 : Int32) + ((p1 &&& (2147483647 : Int32)) % (255 : Int32))) <<< ((20 : Int32) &&& 31))), (.int (p2 <<< ((29 : Int32) &&& 31)))])) _
        refine XT.ior X0.here hx rfl (hb hby at_162) rfl ?_
        show Steps p.tables e below (s₁.setTop (mkF m 163 #[.val (.int p0), .val (.int p1), .val (.int p2), .val (.int p3), .val (.int (p0 &&& (3 : Int32))), .val (.int ((1 : Int32) + ((p1 &&& (2147483647 : Int32)) % (255 : Int32)))), .val (.long ((1 : Int32) + ((p1 &&& (2147483647 : Int32)) % (255 : Int32))).toInt64), .second, .val (.int ((1 : Int32) + ((p1 &&& (2147483647 : Int32)) % (255 : Int32)))), .unset, .unset] [(.int ((p2 <<< ((29 : Int32) &&& 31)) ||| (((1 : Int32) + ((p1 &&& (2147483647 : Int32)) % (255 : Int32))) <<< ((20 : Int32) &&& 31))))])) _
        refine XS.iloadN X0.here hx rfl (hb hby at_163) rfl ?_
        show Steps p.tables e below (s₁.setTop (mkF m 164 #[.val (.int p0), .val (.int p1), .val (.int p2), .val (.int p3), .val (.int (p0 &&& (3 : Int32))), .val (.int ((1 : Int32) + ((p1 &&& (2147483647 : Int32)) % (255 : Int32)))), .val (.long ((1 : Int32) + ((p1 &&& (2147483647 : Int32)) % (255 : Int32))).toInt64), .second, .val (.int ((1 : Int32) + ((p1 &&& (2147483647 : Int32)) % (255 : Int32)))), .unset, .unset] [(.int p3), (.int ((p2 <<< ((29 : Int32) &&& 31)) ||| (((1 : Int32) + ((p1 &&& (2147483647 : Int32)) % (255 : Int32))) <<< ((20 : Int32) &&& 31))))])) _
        refine Jvm.Stand.ldcI X0 hx hown (mvT hZ (hw _ (List.mem_of_getElem? (i := 1) rfl))) (g := (mkF m 164 #[.val (.int p0), .val (.int p1), .val (.int p2), .val (.int p3), .val (.int (p0 &&& (3 : Int32))), .val (.int ((1 : Int32) + ((p1 &&& (2147483647 : Int32)) % (255 : Int32)))), .val (.long ((1 : Int32) + ((p1 &&& (2147483647 : Int32)) % (255 : Int32))).toInt64), .second, .val (.int ((1 : Int32) + ((p1 &&& (2147483647 : Int32)) % (255 : Int32)))), .unset, .unset] [(.int p3), (.int ((p2 <<< ((29 : Int32) &&& 31)) ||| (((1 : Int32) + ((p1 &&& (2147483647 : Int32)) % (255 : Int32))) <<< ((20 : Int32) &&& 31))))])) rfl (hb hby at_164) ?_
        show Steps p.tables e below (s₁.setTop (mkF m 166 #[.val (.int p0), .val (.int p1), .val (.int p2), .val (.int p3), .val (.int (p0 &&& (3 : Int32))), .val (.int ((1 : Int32) + ((p1 &&& (2147483647 : Int32)) % (255 : Int32)))), .val (.long ((1 : Int32) + ((p1 &&& (2147483647 : Int32)) % (255 : Int32))).toInt64), .second, .val (.int ((1 : Int32) + ((p1 &&& (2147483647 : Int32)) % (255 : Int32)))), .unset, .unset] [(.int (1048575 : Int32)), (.int p3), (.int ((p2 <<< ((29 : Int32) &&& 31)) ||| (((1 : Int32) + ((p1 &&& (2147483647 : Int32)) % (255 : Int32))) <<< ((20 : Int32) &&& 31))))])) _
        refine XS.iand X0.here hx rfl (hb hby at_166) rfl ?_
        show Steps p.tables e below (s₁.setTop (mkF m 167 #[.val (.int p0), .val (.int p1), .val (.int p2), .val (.int p3), .val (.int (p0 &&& (3 : Int32))), .val (.int ((1 : Int32) + ((p1 &&& (2147483647 : Int32)) % (255 : Int32)))), .val (.long ((1 : Int32) + ((p1 &&& (2147483647 : Int32)) % (255 : Int32))).toInt64), .second, .val (.int ((1 : Int32) + ((p1 &&& (2147483647 : Int32)) % (255 : Int32)))), .unset, .unset] [(.int (p3 &&& (1048575 : Int32))), (.int ((p2 <<< ((29 : Int32) &&& 31)) ||| (((1 : Int32) + ((p1 &&& (2147483647 : Int32)) % (255 : Int32))) <<< ((20 : Int32) &&& 31))))])) _
        refine XT.ior X0.here hx rfl (hb hby at_167) rfl ?_
        show Steps p.tables e below (s₁.setTop (mkF m 168 #[.val (.int p0), .val (.int p1), .val (.int p2), .val (.int p3), .val (.int (p0 &&& (3 : Int32))), .val (.int ((1 : Int32) + ((p1 &&& (2147483647 : Int32)) % (255 : Int32)))), .val (.long ((1 : Int32) + ((p1 &&& (2147483647 : Int32)) % (255 : Int32))).toInt64), .second, .val (.int ((1 : Int32) + ((p1 &&& (2147483647 : Int32)) % (255 : Int32)))), .unset, .unset] [(.int (((p2 <<< ((29 : Int32) &&& 31)) ||| (((1 : Int32) + ((p1 &&& (2147483647 : Int32)) % (255 : Int32))) <<< ((20 : Int32) &&& 31))) ||| (p3 &&& (1048575 : Int32))))])) _
        refine XS.istore X0.here hx rfl (hb hby at_168) rfl (l' := #[.val (.int p0), .val (.int p1), .val (.int p2), .val (.int p3), .val (.int (p0 &&& (3 : Int32))), .val (.int ((1 : Int32) + ((p1 &&& (2147483647 : Int32)) % (255 : Int32)))), .val (.long ((1 : Int32) + ((p1 &&& (2147483647 : Int32)) % (255 : Int32))).toInt64), .second, .val (.int (((p2 <<< ((29 : Int32) &&& 31)) ||| (((1 : Int32) + ((p1 &&& (2147483647 : Int32)) % (255 : Int32))) <<< ((20 : Int32) &&& 31))) ||| (p3 &&& (1048575 : Int32)))), .unset, .unset]) rfl ?_
        show Steps p.tables e below (s₁.setTop (mkF m 170 #[.val (.int p0), .val (.int p1), .val (.int p2), .val (.int p3), .val (.int (p0 &&& (3 : Int32))), .val (.int ((1 : Int32) + ((p1 &&& (2147483647 : Int32)) % (255 : Int32)))), .val (.long ((1 : Int32) + ((p1 &&& (2147483647 : Int32)) % (255 : Int32))).toInt64), .second, .val (.int (((p2 <<< ((29 : Int32) &&& 31)) ||| (((1 : Int32) + ((p1 &&& (2147483647 : Int32)) % (255 : Int32))) <<< ((20 : Int32) &&& 31))) ||| (p3 &&& (1048575 : Int32)))), .unset, .unset] [])) _
        refine XS.iload X0.here hx rfl (hb hby at_170) rfl ?_
        show Steps p.tables e below (s₁.setTop (mkF m 172 #[.val (.int p0), .val (.int p1), .val (.int p2), .val (.int p3), .val (.int (p0 &&& (3 : Int32))), .val (.int ((1 : Int32) + ((p1 &&& (2147483647 : Int32)) % (255 : Int32)))), .val (.long ((1 : Int32) + ((p1 &&& (2147483647 : Int32)) % (255 : Int32))).toInt64), .second, .val (.int (((p2 <<< ((29 : Int32) &&& 31)) ||| (((1 : Int32) + ((p1 &&& (2147483647 : Int32)) % (255 : Int32))) <<< ((20 : Int32) &&& 31))) ||| (p3 &&& (1048575 : Int32)))), .unset, .unset] [(.int (((p2 <<< ((29 : Int32) &&& 31)) ||| (((1 : Int32) + ((p1 &&& (2147483647 : Int32)) % (255 : Int32))) <<< ((20 : Int32) &&& 31))) ||| (p3 &&& (1048575 : Int32))))])) _
        refine st7 _ ?_
        show Steps p.tables e below (T7.setTop (mkF m 175 #[.val (.int p0), .val (.int p1), .val (.int p2), .val (.int p3), .val (.int (p0 &&& (3 : Int32))), .val (.int ((1 : Int32) + ((p1 &&& (2147483647 : Int32)) % (255 : Int32)))), .val (.long ((1 : Int32) + ((p1 &&& (2147483647 : Int32)) % (255 : Int32))).toInt64), .second, .val (.int (((p2 <<< ((29 : Int32) &&& 31)) ||| (((1 : Int32) + ((p1 &&& (2147483647 : Int32)) % (255 : Int32))) <<< ((20 : Int32) &&& 31))) ||| (p3 &&& (1048575 : Int32)))), .unset, .unset] [(.long (own_bl ((XT.ushr (((p2 <<< ((29 : Int32) &&& 31)) ||| (((1 : Int32) + ((p1 &&& (2147483647 : Int32)) % (255 : Int32))) <<< ((20 : Int32) &&& 31))) ||| (p3 &&& (1048575 : Int32))) (20 : Int32)) &&& (511 : Int32))))])) _
        refine XT.lload X7.here hx rfl (hb hby at_175) rfl ?_
        show Steps p.tables e below (T7.setTop (mkF m 177 #[.val (.int p0), .val (.int p1), .val (.int p2), .val (.int p3), .val (.int (p0 &&& (3 : Int32))), .val (.int ((1 : Int32) + ((p1 &&& (2147483647 : Int32)) % (255 : Int32)))), .val (.long ((1 : Int32) + ((p1 &&& (2147483647 : Int32)) % (255 : Int32))).toInt64), .second, .val (.int (((p2 <<< ((29 : Int32) &&& 31)) ||| (((1 : Int32) + ((p1 &&& (2147483647 : Int32)) % (255 : Int32))) <<< ((20 : Int32) &&& 31))) ||| (p3 &&& (1048575 : Int32)))), .unset, .unset] [(.long ((1 : Int32) + ((p1 &&& (2147483647 : Int32)) % (255 : Int32))).toInt64), (.long (own_bl ((XT.ushr (((p2 <<< ((29 : Int32) &&& 31)) ||| (((1 : Int32) + ((p1 &&& (2147483647 : Int32)) % (255 : Int32))) <<< ((20 : Int32) &&& 31))) ||| (p3 &&& (1048575 : Int32))) (20 : Int32)) &&& (511 : Int32))))])) _
        refine XT.lcmp X7.here hx rfl (hb hby at_177) rfl ?_
        show Steps p.tables e below (T7.setTop (mkF m 178 #[.val (.int p0), .val (.int p1), .val (.int p2), .val (.int p3), .val (.int (p0 &&& (3 : Int32))), .val (.int ((1 : Int32) + ((p1 &&& (2147483647 : Int32)) % (255 : Int32)))), .val (.long ((1 : Int32) + ((p1 &&& (2147483647 : Int32)) % (255 : Int32))).toInt64), .second, .val (.int (((p2 <<< ((29 : Int32) &&& 31)) ||| (((1 : Int32) + ((p1 &&& (2147483647 : Int32)) % (255 : Int32))) <<< ((20 : Int32) &&& 31))) ||| (p3 &&& (1048575 : Int32)))), .unset, .unset] [(.int (XT.cmpL (own_bl ((XT.ushr (((p2 <<< ((29 : Int32) &&& 31)) ||| (((1 : Int32) + ((p1 &&& (2147483647 : Int32)) % (255 : Int32))) <<< ((20 : Int32) &&& 31))) ||| (p3 &&& (1048575 : Int32))) (20 : Int32)) &&& (511 : Int32))) ((1 : Int32) + ((p1 &&& (2147483647 : Int32)) % (255 : Int32))).toInt64))])) _
        refine XS.ifNo X7.here hx rfl (hb hby at_178) rfl (XT.ll_ne_f (own_p1 p2 p3 p1)) ?_
        show Steps p.tables e below (T7.setTop (mkF m 181 #[.val (.int p0), .val (.int p1), .val (.int p2), .val (.int p3), .val (.int (p0 &&& (3 : Int32))), .val (.int ((1 : Int32) + ((p1 &&& (2147483647 : Int32)) % (255 : Int32)))), .val (.long ((1 : Int32) + ((p1 &&& (2147483647 : Int32)) % (255 : Int32))).toInt64), .second, .val (.int (((p2 <<< ((29 : Int32) &&& 31)) ||| (((1 : Int32) + ((p1 &&& (2147483647 : Int32)) % (255 : Int32))) <<< ((20 : Int32) &&& 31))) ||| (p3 &&& (1048575 : Int32)))), .unset, .unset] [])) _
        refine XS.iconst X7.here hx rfl (hb hby at_181) ?_
        show Steps p.tables e below (T7.setTop (mkF m 182 #[.val (.int p0), .val (.int p1), .val (.int p2), .val (.int p3), .val (.int (p0 &&& (3 : Int32))), .val (.int ((1 : Int32) + ((p1 &&& (2147483647 : Int32)) % (255 : Int32)))), .val (.long ((1 : Int32) + ((p1 &&& (2147483647 : Int32)) % (255 : Int32))).toInt64), .second, .val (.int (((p2 <<< ((29 : Int32) &&& 31)) ||| (((1 : Int32) + ((p1 &&& (2147483647 : Int32)) % (255 : Int32))) <<< ((20 : Int32) &&& 31))) ||| (p3 &&& (1048575 : Int32)))), .unset, .unset] [(.int (1 : Int32))])) _
        refine XS.goto X7.here hx rfl (pc0 := 182) (pc' := 186) rfl (hb hby at_182) (by decide) (by decide) ?_
        show Steps p.tables e below (T7.setTop (mkF m 186 #[.val (.int p0), .val (.int p1), .val (.int p2), .val (.int p3), .val (.int (p0 &&& (3 : Int32))), .val (.int ((1 : Int32) + ((p1 &&& (2147483647 : Int32)) % (255 : Int32)))), .val (.long ((1 : Int32) + ((p1 &&& (2147483647 : Int32)) % (255 : Int32))).toInt64), .second, .val (.int (((p2 <<< ((29 : Int32) &&& 31)) ||| (((1 : Int32) + ((p1 &&& (2147483647 : Int32)) % (255 : Int32))) <<< ((20 : Int32) &&& 31))) ||| (p3 &&& (1048575 : Int32)))), .unset, .unset] [(.int (1 : Int32))])) _
        exact retN X7 hx (t := .boolean) Bd.returns (by simp) (hb hby at_186) hr
      · show Q_own_law Z p0 p1 p2 p3  h0 n0 _ T7.heap _
        rw [eh7]
        exact ⟨rfl, N7⟩
    · by_cases hc_ : (p0 &&& (3 : Int32)) = (2 : Int32)
      · obtain ⟨_, _, ⟨T9, L9, k9, n9⟩, -, X9, ⟨Lc9, hQ9, l9, y9, z9⟩, st9⟩ := Jvm.LawKit.callS X0 hx (y := (⟨"com/example/madingley/madingley/machine/Encoding", "boundsLength", "(I)J"⟩ : MethodName)) hown (mvT hZ (hw _ (List.mem_of_getElem? (i := 2) rfl))) (mvT hZ (hw _ (List.mem_of_getElem? (i := 3) rfl))) (mvT hZ (hw _ (List.mem_of_getElem? (i := 4) rfl))) (mvT hZ (hw _ (List.mem_of_getElem? (i := 5) rfl))) (by decide) (backOf (W := 0) (own_bnd l Z a0 hw [] (((p2 <<< ((29 : Int32) &&& 31)) ||| ((((256 : Int32) ||| (((XT.ushr p1 (4 : Int32)) &&& (1 : Int32)) <<< ((4 : Int32) &&& 31))) ||| (p1 &&& (15 : Int32))) <<< ((20 : Int32) &&& 31))) ||| (p3 &&& (1048575 : Int32))) h0 n0 Z0 ) hZ (hw _ (List.mem_of_getElem? (i := 5) rfl)) (hw _ (List.mem_of_getElem? (i := 4) rfl)) (by decide) (by decide)) (g := (mkF m 172 #[.val (.int p0), .val (.int p1), .val (.int p2), .val (.int p3), .val (.int (p0 &&& (3 : Int32))), .val (.int (((256 : Int32) ||| (((XT.ushr p1 (4 : Int32)) &&& (1 : Int32)) <<< ((4 : Int32) &&& 31))) ||| (p1 &&& (15 : Int32)))), .val (.long (((256 : Int64) + ((16 : Int64) * (p1 &&& (15 : Int32)).toInt64)) + ((8 : Int64) * ((XT.ushr p1 (4 : Int32)) &&& (1 : Int32)).toInt64))), .second, .val (.int (((p2 <<< ((29 : Int32) &&& 31)) ||| ((((256 : Int32) ||| (((XT.ushr p1 (4 : Int32)) &&& (1 : Int32)) <<< ((4 : Int32) &&& 31))) ||| (p1 &&& (15 : Int32))) <<< ((20 : Int32) &&& 31))) ||| (p3 &&& (1048575 : Int32)))), .val (.int ((XT.ushr p1 (4 : Int32)) &&& (1 : Int32))), .unset] [(.int (((p2 <<< ((29 : Int32) &&& 31)) ||| ((((256 : Int32) ||| (((XT.ushr p1 (4 : Int32)) &&& (1 : Int32)) <<< ((4 : Int32) &&& 31))) ||| (p1 &&& (15 : Int32))) <<< ((20 : Int32) &&& 31))) ||| (p3 &&& (1048575 : Int32))))])) rfl (by rw [hml]; rfl) (argsL := [(.int (((p2 <<< ((29 : Int32) &&& 31)) ||| ((((256 : Int32) ||| (((XT.ushr p1 (4 : Int32)) &&& (1 : Int32)) <<< ((4 : Int32) &&& 31))) ||| (p1 &&& (15 : Int32))) <<< ((20 : Int32) &&& 31))) ||| (p3 &&& (1048575 : Int32))))]) (rest := []) (lenOf pd_0 rfl) rfl (by show 2 * 0 + _ ≤ _; exact Nat.le_of_eq rfl) (hb hby at_172) (fun _ _ => ⟨rfl, e0, (by decide : 0 + 0 ≤ _), (by decide : 0 + 0 ≤ _)⟩)
        dsimp only [Pt.U, Pt.locs, Pt.cells, Pt.slots] at X9 l9 y9 z9 st9 hQ9
        subst l9 y9 z9
        obtain ⟨rfl, N9q, eh9⟩ := hQ9
        have N9 := Fr.app N0 N9q
        obtain ⟨fs, hr, hrun, hended, hW, hsame⟩ := X9.leave (v := some (.int (1 : Int32))) (fun h => by rw [Bd.returns] at h; cases h)
        refine ⟨_, _, pre0 _ ?_, hrun, hended, _, _, rfl, ?_, ⟨_, rfl⟩, hW, hsame.mono (by decide) (by decide)⟩
        · show Steps p.tables e below (s₁.setTop (mkF m 0 #[.val (.int p0), .val (.int p1), .val (.int p2), .val (.int p3), .unset, .unset, .unset, .unset, .unset, .unset, .unset] [])) _
          refine XS.iloadN X0.here hx rfl (hb hby at_0) rfl ?_
          show Steps p.tables e below (s₁.setTop (mkF m 1 #[.val (.int p0), .val (.int p1), .val (.int p2), .val (.int p3), .unset, .unset, .unset, .unset, .unset, .unset, .unset] [(.int p0)])) _
          refine XS.iconst X0.here hx rfl (hb hby at_1) ?_
          show Steps p.tables e below (s₁.setTop (mkF m 2 #[.val (.int p0), .val (.int p1), .val (.int p2), .val (.int p3), .unset, .unset, .unset, .unset, .unset, .unset, .unset] [(.int (3 : Int32)), (.int p0)])) _
          refine XS.iand X0.here hx rfl (hb hby at_2) rfl ?_
          show Steps p.tables e below (s₁.setTop (mkF m 3 #[.val (.int p0), .val (.int p1), .val (.int p2), .val (.int p3), .unset, .unset, .unset, .unset, .unset, .unset, .unset] [(.int (p0 &&& (3 : Int32)))])) _
          refine XS.istore X0.here hx rfl (hb hby at_3) rfl (l' := #[.val (.int p0), .val (.int p1), .val (.int p2), .val (.int p3), .val (.int (p0 &&& (3 : Int32))), .unset, .unset, .unset, .unset, .unset, .unset]) rfl ?_
          show Steps p.tables e below (s₁.setTop (mkF m 5 #[.val (.int p0), .val (.int p1), .val (.int p2), .val (.int p3), .val (.int (p0 &&& (3 : Int32))), .unset, .unset, .unset, .unset, .unset, .unset] [])) _
          refine XS.iload X0.here hx rfl (hb hby at_5) rfl ?_
          show Steps p.tables e below (s₁.setTop (mkF m 7 #[.val (.int p0), .val (.int p1), .val (.int p2), .val (.int p3), .val (.int (p0 &&& (3 : Int32))), .unset, .unset, .unset, .unset, .unset, .unset] [(.int (p0 &&& (3 : Int32)))])) _
          refine XS.ifYes X0.here hx rfl (pc0 := 7) (pc' := 21) rfl (hb hby at_7) rfl (XT.i0_ne_t ha) (by decide) (by decide) ?_
          show Steps p.tables e below (s₁.setTop (mkF m 21 #[.val (.int p0), .val (.int p1), .val (.int p2), .val (.int p3), .val (.int (p0 &&& (3 : Int32))), .unset, .unset, .unset, .unset, .unset, .unset] [])) _
          refine XS.iload X0.here hx rfl (hb hby at_21) rfl ?_
          show Steps p.tables e below (s₁.setTop (mkF m 23 #[.val (.int p0), .val (.int p1), .val (.int p2), .val (.int p3), .val (.int (p0 &&& (3 : Int32))), .unset, .unset, .unset, .unset, .unset, .unset] [(.int (p0 &&& (3 : Int32)))])) _
          refine XS.iconst X0.here hx rfl (hb hby at_23) ?_
          show Steps p.tables e below (s₁.setTop (mkF m 24 #[.val (.int p0), .val (.int p1), .val (.int p2), .val (.int p3), .val (.int (p0 &&& (3 : Int32))), .unset, .unset, .unset, .unset, .unset, .unset] [(.int (1 : Int32)), (.int (p0 &&& (3 : Int32)))])) _
          refine XS.icmpYes X0.here hx rfl (pc0 := 24) (pc' := 51) rfl (hb hby at_24) rfl (XT.ii_ne_t hb_) (by decide) (by decide) ?_
          show Steps p.tables e below (s₁.setTop (mkF m 51 #[.val (.int p0), .val (.int p1), .val (.int p2), .val (.int p3), .val (.int (p0 &&& (3 : Int32))), .unset, .unset, .unset, .unset, .unset, .unset] [])) _
          refine XS.iload X0.here hx rfl (hb hby at_51) rfl ?_
          show Steps p.tables e below (s₁.setTop (mkF m 53 #[.val (.int p0), .val (.int p1), .val (.int p2), .val (.int p3), .val (.int (p0 &&& (3 : Int32))), .unset, .unset, .unset, .unset, .unset, .unset] [(.int (p0 &&& (3 : Int32)))])) _
          refine XS.iconst X0.here hx rfl (hb hby at_53) ?_
          show Steps p.tables e below (s₁.setTop (mkF m 54 #[.val (.int p0), .val (.int p1), .val (.int p2), .val (.int p3), .val (.int (p0 &&& (3 : Int32))), .unset, .unset, .unset, .unset, .unset, .unset] [(.int (2 : Int32)), (.int (p0 &&& (3 : Int32)))])) _
          refine XS.icmpNo X0.here hx rfl (hb hby at_54) rfl (XT.ii_ne_f hc_) ?_
          show Steps p.tables e below (s₁.setTop (mkF m 57 #[.val (.int p0), .val (.int p1), .val (.int p2), .val (.int p3), .val (.int (p0 &&& (3 : Int32))), .unset, .unset, .unset, .unset, .unset, .unset] [])) _
          refine XS.iloadN X0.here hx rfl (hb hby at_57) rfl ?_
          show Steps p.tables e below (s₁.setTop (mkF m 58 #[.val (.int p0), .val (.int p1), .val (.int p2), .val (.int p3), .val (.int (p0 &&& (3 : Int32))), .unset, .unset, .unset, .unset, .unset, .unset] [(.int p1)])) _
          refine XS.bipush X0.here hx rfl (hb hby at_58) ?_
          show Steps p.tables e below (s₁.setTop (mkF m 60 #[.val (.int p0), .val (.int p1), .val (.int p2), .val (.int p3), .val (.int (p0 &&& (3 : Int32))), .unset, .unset, .unset, .unset, .unset, .unset] [(.int (15 : Int32)), (.int p1)])) _
          refine XS.iand X0.here hx rfl (hb hby at_60) rfl ?_
          show Steps p.tables e below (s₁.setTop (mkF m 61 #[.val (.int p0), .val (.int p1), .val (.int p2), .val (.int p3), .val (.int (p0 &&& (3 : Int32))), .unset, .unset, .unset, .unset, .unset, .unset] [(.int (p1 &&& (15 : Int32)))])) _
          refine XS.istore X0.here hx rfl (hb hby at_61) rfl (l' := #[.val (.int p0), .val (.int p1), .val (.int p2), .val (.int p3), .val (.int (p0 &&& (3 : Int32))), .unset, .unset, .unset, .val (.int (p1 &&& (15 : Int32))), .unset, .unset]) rfl ?_
          show Steps p.tables e below (s₁.setTop (mkF m 63 #[.val (.int p0), .val (.int p1), .val (.int p2), .val (.int p3), .val (.int (p0 &&& (3 : Int32))), .unset, .unset, .unset, .val (.int (p1 &&& (15 : Int32))), .unset, .unset] [])) _
          refine XS.iloadN X0.here hx rfl (hb hby at_63) rfl ?_
          show Steps p.tables e below (s₁.setTop (mkF m 64 #[.val (.int p0), .val (.int p1), .val (.int p2), .val (.int p3), .val (.int (p0 &&& (3 : Int32))), .unset, .unset, .unset, .val (.int (p1 &&& (15 : Int32))), .unset, .unset] [(.int p1)])) _
          refine XS.iconst X0.here hx rfl (hb hby at_64) ?_
          show Steps p.tables e below (s₁.setTop (mkF m 65 #[.val (.int p0), .val (.int p1), .val (.int p2), .val (.int p3), .val (.int (p0 &&& (3 : Int32))), .unset, .unset, .unset, .val (.int (p1 &&& (15 : Int32))), .unset, .unset] [(.int (4 : Int32)), (.int p1)])) _
          refine XT.iushr X0.here hx rfl (hb hby at_65) rfl ?_
          show Steps p.tables e below (s₁.setTop (mkF m 66 #[.val (.int p0), .val (.int p1), .val (.int p2), .val (.int p3), .val (.int (p0 &&& (3 : Int32))), .unset, .unset, .unset, .val (.int (p1 &&& (15 : Int32))), .unset, .unset] [(.int (XT.ushr p1 (4 : Int32)))])) _
          refine XS.iconst X0.here hx rfl (hb hby at_66) ?_
          show Steps p.tables e below (s₁.setTop (mkF m 67 #[.val (.int p0), .val (.int p1), .val (.int p2), .val (.int p3), .val (.int (p0 &&& (3 : Int32))), .unset, .unset, .unset, .val (.int (p1 &&& (15 : Int32))), .unset, .unset] [(.int (1 : Int32)), (.int (XT.ushr p1 (4 : Int32)))])) _
          refine XS.iand X0.here hx rfl (hb hby at_67) rfl ?_
          show Steps p.tables e below (s₁.setTop (mkF m 68 #[.val (.int p0), .val (.int p1), .val (.int p2), .val (.int p3), .val (.int (p0 &&& (3 : Int32))), .unset, .unset, .unset, .val (.int (p1 &&& (15 : Int32))), .unset, .unset] [(.int ((XT.ushr p1 (4 : Int32)) &&& (1 : Int32)))])) _
          refine XS.istore X0.here hx rfl (hb hby at_68) rfl (l' := #[.val (.int p0), .val (.int p1), .val (.int p2), .val (.int p3), .val (.int (p0 &&& (3 : Int32))), .unset, .unset, .unset, .val (.int (p1 &&& (15 : Int32))), .val (.int ((XT.ushr p1 (4 : Int32)) &&& (1 : Int32))), .unset]) rfl ?_
          show Steps p.tables e below (s₁.setTop (mkF m 70 #[.val (.int p0), .val (.int p1), .val (.int p2), .val (.int p3), .val (.int (p0 &&& (3 : Int32))), .unset, .unset, .unset, .val (.int (p1 &&& (15 : Int32))), .val (.int ((XT.ushr p1 (4 : Int32)) &&& (1 : Int32))), .unset] [])) _
          refine XS.sipush X0.here hx rfl (hb hby at_70) ?_
          show Steps p.tables e below (s₁.setTop (mkF m 73 #[.val (.int p0), .val (.int p1), .val (.int p2), .val (.int p3), .val (.int (p0 &&& (3 : Int32))), .unset, .unset, .unset, .val (.int (p1 &&& (15 : Int32))), .val (.int ((XT.ushr p1 (4 : Int32)) &&& (1 : Int32))), .unset] [(.int (256 : Int32))])) _
          refine XS.iload X0.here hx rfl (hb hby at_73) rfl ?_
          show Steps p.tables e below (s₁.setTop (mkF m 75 #[.val (.int p0), .val (.int p1), .val (.int p2), .val (.int p3), .val (.int (p0 &&& (3 : Int32))), .unset, .unset, .unset, .val (.int (p1 &&& (15 : Int32))), .val (.int ((XT.ushr p1 (4 : Int32)) &&& (1 : Int32))), .unset] [(.int ((XT.ushr p1 (4 : Int32)) &&& (1 : Int32))), (.int (256 : Int32))])) _
          refine XS.iconst X0.here hx rfl (hb hby at_75) ?_
          show Steps p.tables e below (s₁.setTop (mkF m 76 #[.val (.int p0), .val (.int p1), .val (.int p2), .val (.int p3), .val (.int (p0 &&& (3 : Int32))), .unset, .unset, .unset, .val (.int (p1 &&& (15 : Int32))), .val (.int ((XT.ushr p1 (4 : Int32)) &&& (1 : Int32))), .unset] [(.int (4 : Int32)), (.int ((XT.ushr p1 (4 : Int32)) &&& (1 : Int32))), (.int (256 : Int32))])) _
          refine XT.ishl X0.here hx rfl (hb hby at_76) rfl ?_
          show Steps p.tables e below (s₁.setTop (mkF m 77 #[.val (.int p0), .val (.int p1), .val (.int p2), .val (.int p3), .val (.int (p0 &&& (3 : Int32))), .unset, .unset, .unset, .val (.int (p1 &&& (15 : Int32))), .val (.int ((XT.ushr p1 (4 : Int32)) &&& (1 : Int32))), .unset] [(.int (((XT.ushr p1 (4 : Int32)) &&& (1 : Int32)) <<< ((4 : Int32) &&& 31))), (.int (256 : Int32))])) _
          refine XT.ior X0.here hx rfl (hb hby at_77) rfl ?_
          show Steps p.tables e below (s₁.setTop (mkF m 78 #[.val (.int p0), .val (.int p1), .val (.int p2), .val (.int p3), .val (.int (p0 &&& (3 : Int32))), .unset, .unset, .unset, .val (.int (p1 &&& (15 : Int32))), .val (.int ((XT.ushr p1 (4 : Int32)) &&& (1 : Int32))), .unset] [(.int ((256 : Int32) ||| (((XT.ushr p1 (4 : Int32)) &&& (1 : Int32)) <<< ((4 : Int32) &&& 31))))])) _
          refine XS.iload X0.here hx rfl (hb hby at_78) rfl ?_
          show Steps p.tables e below (s₁.setTop (mkF m 80 #[.val (.int p0), .val (.int p1), .val (.int p2), .val (.int p3), .val (.int (p0 &&& (3 : Int32))), .unset, .unset, .unset, .val (.int (p1 &&& (15 : Int32))), .val (.int ((XT.ushr p1 (4 : Int32)) &&& (1 : Int32))), .unset] [(.int (p1 &&& (15 : Int32))), (.int ((256 : Int32) ||| (((XT.ushr p1 (4 : Int32)) &&& (1 : Int32)) <<< ((4 : Int32) &&& 31))))])) _
          refine XT.ior X0.here hx rfl (hb hby at_80) rfl ?_
          show Steps p.tables e below (s₁.setTop (mkF m 81 #[.val (.int p0), .val (.int p1), .val (.int p2), .val (.int p3), .val (.int (p0 &&& (3 : Int32))), .unset, .unset, .unset, .val (.int (p1 &&& (15 : Int32))), .val (.int ((XT.ushr p1 (4 : Int32)) &&& (1 : Int32))), .unset] [(.int (((256 : Int32) ||| (((XT.ushr p1 (4 : Int32)) &&& (1 : Int32)) <<< ((4 : Int32) &&& 31))) ||| (p1 &&& (15 : Int32))))])) _
          refine XS.istore X0.here hx rfl (hb hby at_81) rfl (l' := #[.val (.int p0), .val (.int p1), .val (.int p2), .val (.int p3), .val (.int (p0 &&& (3 : Int32))), .val (.int (((256 : Int32) ||| (((XT.ushr p1 (4 : Int32)) &&& (1 : Int32)) <<< ((4 : Int32) &&& 31))) ||| (p1 &&& (15 : Int32)))), .unset, .unset, .val (.int (p1 &&& (15 : Int32))), .val (.int ((XT.ushr p1 (4 : Int32)) &&& (1 : Int32))), .unset]) rfl ?_
          show Steps p.tables e below (s₁.setTop (mkF m 83 #[.val (.int p0), .val (.int p1), .val (.int p2), .val (.int p3), .val (.int (p0 &&& (3 : Int32))), .val (.int (((256 : Int32) ||| (((XT.ushr p1 (4 : Int32)) &&& (1 : Int32)) <<< ((4 : Int32) &&& 31))) ||| (p1 &&& (15 : Int32)))), .unset, .unset, .val (.int (p1 &&& (15 : Int32))), .val (.int ((XT.ushr p1 (4 : Int32)) &&& (1 : Int32))), .unset] [])) _
          refine Jvm.Stand.ldc2J X0 hx hown (mvT hZ (hw _ (List.mem_of_getElem? (i := 9) rfl))) (g := (mkF m 83 #[.val (.int p0), .val (.int p1), .val (.int p2), .val (.int p3), .val (.int (p0 &&& (3 : Int32))), .val (.int (((256 : Int32) ||| (((XT.ushr p1 (4 : Int32)) &&& (1 : Int32)) <<< ((4 : Int32) &&& 31))) ||| (p1 &&& (15 : Int32)))), .unset, .unset, .val (.int (p1 &&& (15 : Int32))), .val (.int ((XT.ushr p1 (4 : Int32)) &&& (1 : Int32))), .unset] [])) rfl (hb hby at_83) ?_
          show Steps p.tables e below (s₁.setTop (mkF m 86 #[.val (.int p0), .val (.int p1), .val (.int p2), .val (.int p3), .val (.int (p0 &&& (3 : Int32))), .val (.int (((256 : Int32) ||| (((XT.ushr p1 (4 : Int32)) &&& (1 : Int32)) <<< ((4 : Int32) &&& 31))) ||| (p1 &&& (15 : Int32)))), .unset, .unset, .val (.int (p1 &&& (15 : Int32))), .val (.int ((XT.ushr p1 (4 : Int32)) &&& (1 : Int32))), .unset] [(.long (256 : Int64))])) _
          refine Jvm.Stand.ldc2J X0 hx hown (mvT hZ (hw _ (List.mem_of_getElem? (i := 8) rfl))) (g := (mkF m 86 #[.val (.int p0), .val (.int p1), .val (.int p2), .val (.int p3), .val (.int (p0 &&& (3 : Int32))), .val (.int (((256 : Int32) ||| (((XT.ushr p1 (4 : Int32)) &&& (1 : Int32)) <<< ((4 : Int32) &&& 31))) ||| (p1 &&& (15 : Int32)))), .unset, .unset, .val (.int (p1 &&& (15 : Int32))), .val (.int ((XT.ushr p1 (4 : Int32)) &&& (1 : Int32))), .unset] [(.long (256 : Int64))])) rfl (hb hby at_86) ?_
          show Steps p.tables e below (s₁.setTop (mkF m 89 #[.val (.int p0), .val (.int p1), .val (.int p2), .val (.int p3), .val (.int (p0 &&& (3 : Int32))), .val (.int (((256 : Int32) ||| (((XT.ushr p1 (4 : Int32)) &&& (1 : Int32)) <<< ((4 : Int32) &&& 31))) ||| (p1 &&& (15 : Int32)))), .unset, .unset, .val (.int (p1 &&& (15 : Int32))), .val (.int ((XT.ushr p1 (4 : Int32)) &&& (1 : Int32))), .unset] [(.long (16 : Int64)), (.long (256 : Int64))])) _
          refine XS.iload X0.here hx rfl (hb hby at_89) rfl ?_
          show Steps p.tables e below (s₁.setTop (mkF m 91 #[.val (.int p0), .val (.int p1), .val (.int p2), .val (.int p3), .val (.int (p0 &&& (3 : Int32))), .val (.int (((256 : Int32) ||| (((XT.ushr p1 (4 : Int32)) &&& (1 : Int32)) <<< ((4 : Int32) &&& 31))) ||| (p1 &&& (15 : Int32)))), .unset, .unset, .val (.int (p1 &&& (15 : Int32))), .val (.int ((XT.ushr p1 (4 : Int32)) &&& (1 : Int32))), .unset] [(.int (p1 &&& (15 : Int32))), (.long (16 : Int64)), (.long (256 : Int64))])) _
          refine XT.i2l X0.here hx rfl (hb hby at_91) rfl ?_
          show Steps p.tables e below (s₁.setTop (mkF m 92 #[.val (.int p0), .val (.int p1), .val (.int p2), .val (.int p3), .val (.int (p0 &&& (3 : Int32))), .val (.int (((256 : Int32) ||| (((XT.ushr p1 (4 : Int32)) &&& (1 : Int32)) <<< ((4 : Int32) &&& 31))) ||| (p1 &&& (15 : Int32)))), .unset, .unset, .val (.int (p1 &&& (15 : Int32))), .val (.int ((XT.ushr p1 (4 : Int32)) &&& (1 : Int32))), .unset] [(.long (p1 &&& (15 : Int32)).toInt64), (.long (16 : Int64)), (.long (256 : Int64))])) _
          refine XT.lmul X0.here hx rfl (hb hby at_92) rfl ?_
          show Steps p.tables e below (s₁.setTop (mkF m 93 #[.val (.int p0), .val (.int p1), .val (.int p2), .val (.int p3), .val (.int (p0 &&& (3 : Int32))), .val (.int (((256 : Int32) ||| (((XT.ushr p1 (4 : Int32)) &&& (1 : Int32)) <<< ((4 : Int32) &&& 31))) ||| (p1 &&& (15 : Int32)))), .unset, .unset, .val (.int (p1 &&& (15 : Int32))), .val (.int ((XT.ushr p1 (4 : Int32)) &&& (1 : Int32))), .unset] [(.long ((16 : Int64) * (p1 &&& (15 : Int32)).toInt64)), (.long (256 : Int64))])) _
          refine XT.ladd X0.here hx rfl (hb hby at_93) rfl ?_
          show Steps p.tables e below (s₁.setTop (mkF m 94 #[.val (.int p0), .val (.int p1), .val (.int p2), .val (.int p3), .val (.int (p0 &&& (3 : Int32))), .val (.int (((256 : Int32) ||| (((XT.ushr p1 (4 : Int32)) &&& (1 : Int32)) <<< ((4 : Int32) &&& 31))) ||| (p1 &&& (15 : Int32)))), .unset, .unset, .val (.int (p1 &&& (15 : Int32))), .val (.int ((XT.ushr p1 (4 : Int32)) &&& (1 : Int32))), .unset] [(.long ((256 : Int64) + ((16 : Int64) * (p1 &&& (15 : Int32)).toInt64)))])) _
          refine Jvm.Stand.ldc2J X0 hx hown (mvT hZ (hw _ (List.mem_of_getElem? (i := 10) rfl))) (g := (mkF m 94 #[.val (.int p0), .val (.int p1), .val (.int p2), .val (.int p3), .val (.int (p0 &&& (3 : Int32))), .val (.int (((256 : Int32) ||| (((XT.ushr p1 (4 : Int32)) &&& (1 : Int32)) <<< ((4 : Int32) &&& 31))) ||| (p1 &&& (15 : Int32)))), .unset, .unset, .val (.int (p1 &&& (15 : Int32))), .val (.int ((XT.ushr p1 (4 : Int32)) &&& (1 : Int32))), .unset] [(.long ((256 : Int64) + ((16 : Int64) * (p1 &&& (15 : Int32)).toInt64)))])) rfl (hb hby at_94) ?_
          show Steps p.tables e below (s₁.setTop (mkF m 97 #[.val (.int p0), .val (.int p1), .val (.int p2), .val (.int p3), .val (.int (p0 &&& (3 : Int32))), .val (.int (((256 : Int32) ||| (((XT.ushr p1 (4 : Int32)) &&& (1 : Int32)) <<< ((4 : Int32) &&& 31))) ||| (p1 &&& (15 : Int32)))), .unset, .unset, .val (.int (p1 &&& (15 : Int32))), .val (.int ((XT.ushr p1 (4 : Int32)) &&& (1 : Int32))), .unset] [(.long (8 : Int64)), (.long ((256 : Int64) + ((16 : Int64) * (p1 &&& (15 : Int32)).toInt64)))])) _
          refine XS.iload X0.here hx rfl (hb hby at_97) rfl ?_
          show Steps p.tables e below (s₁.setTop (mkF m 99 #[.val (.int p0), .val (.int p1), .val (.int p2), .val (.int p3), .val (.int (p0 &&& (3 : Int32))), .val (.int (((256 : Int32) ||| (((XT.ushr p1 (4 : Int32)) &&& (1 : Int32)) <<< ((4 : Int32) &&& 31))) ||| (p1 &&& (15 : Int32)))), .unset, .unset, .val (.int (p1 &&& (15 : Int32))), .val (.int ((XT.ushr p1 (4 : Int32)) &&& (1 : Int32))), .unset] [(.int ((XT.ushr p1 (4 : Int32)) &&& (1 : Int32))), (.long (8 : Int64)), (.long ((256 : Int64) + ((16 : Int64) * (p1 &&& (15 : Int32)).toInt64)))])) _
          refine XT.i2l X0.here hx rfl (hb hby at_99) rfl ?_
          show Steps p.tables e below (s₁.setTop (mkF m 100 #[.val (.int p0), .val (.int p1), .val (.int p2), .val (.int p3), .val (.int (p0 &&& (3 : Int32))), .val (.int (((256 : Int32) ||| (((XT.ushr p1 (4 : Int32)) &&& (1 : Int32)) <<< ((4 : Int32) &&& 31))) ||| (p1 &&& (15 : Int32)))), .unset, .unset, .val (.int (p1 &&& (15 : Int32))), .val (.int ((XT.ushr p1 (4 : Int32)) &&& (1 : Int32))), .unset] [(.long ((XT.ushr p1 (4 : Int32)) &&& (1 : Int32)).toInt64), (.long (8 : Int64)), (.long ((256 : Int64) + ((16 : Int64) * (p1 &&& (15 : Int32)).toInt64)))])) _
          refine XT.lmul X0.here hx rfl (hb hby at_100) rfl ?_
          show Steps p.tables e below (s₁.setTop (mkF m 101 #[.val (.int p0), .val (.int p1), .val (.int p2), .val (.int p3), .val (.int (p0 &&& (3 : Int32))), .val (.int (((256 : Int32) ||| (((XT.ushr p1 (4 : Int32)) &&& (1 : Int32)) <<< ((4 : Int32) &&& 31))) ||| (p1 &&& (15 : Int32)))), .unset, .unset, .val (.int (p1 &&& (15 : Int32))), .val (.int ((XT.ushr p1 (4 : Int32)) &&& (1 : Int32))), .unset] [(.long ((8 : Int64) * ((XT.ushr p1 (4 : Int32)) &&& (1 : Int32)).toInt64)), (.long ((256 : Int64) + ((16 : Int64) * (p1 &&& (15 : Int32)).toInt64)))])) _
          refine XT.ladd X0.here hx rfl (hb hby at_101) rfl ?_
          show Steps p.tables e below (s₁.setTop (mkF m 102 #[.val (.int p0), .val (.int p1), .val (.int p2), .val (.int p3), .val (.int (p0 &&& (3 : Int32))), .val (.int (((256 : Int32) ||| (((XT.ushr p1 (4 : Int32)) &&& (1 : Int32)) <<< ((4 : Int32) &&& 31))) ||| (p1 &&& (15 : Int32)))), .unset, .unset, .val (.int (p1 &&& (15 : Int32))), .val (.int ((XT.ushr p1 (4 : Int32)) &&& (1 : Int32))), .unset] [(.long (((256 : Int64) + ((16 : Int64) * (p1 &&& (15 : Int32)).toInt64)) + ((8 : Int64) * ((XT.ushr p1 (4 : Int32)) &&& (1 : Int32)).toInt64)))])) _
          refine XT.lstore X0.here hx rfl (hb hby at_102) rfl (l' := #[.val (.int p0), .val (.int p1), .val (.int p2), .val (.int p3), .val (.int (p0 &&& (3 : Int32))), .val (.int (((256 : Int32) ||| (((XT.ushr p1 (4 : Int32)) &&& (1 : Int32)) <<< ((4 : Int32) &&& 31))) ||| (p1 &&& (15 : Int32)))), .val (.long (((256 : Int64) + ((16 : Int64) * (p1 &&& (15 : Int32)).toInt64)) + ((8 : Int64) * ((XT.ushr p1 (4 : Int32)) &&& (1 : Int32)).toInt64))), .second, .val (.int (p1 &&& (15 : Int32))), .val (.int ((XT.ushr p1 (4 : Int32)) &&& (1 : Int32))), .unset]) rfl ?_
          show Steps p.tables e below (s₁.setTop (mkF m 104 #[.val (.int p0), .val (.int p1), .val (.int p2), .val (.int p3), .val (.int (p0 &&& (3 : Int32))), .val (.int (((256 : Int32) ||| (((XT.ushr p1 (4 : Int32)) &&& (1 : Int32)) <<< ((4 : Int32) &&& 31))) ||| (p1 &&& (15 : Int32)))), .val (.long (((256 : Int64) + ((16 : Int64) * (p1 &&& (15 : Int32)).toInt64)) + ((8 : Int64) * ((XT.ushr p1 (4 : Int32)) &&& (1 : Int32)).toInt64))), .second, .val (.int (p1 &&& (15 : Int32))), .val (.int ((XT.ushr p1 (4 : Int32)) &&& (1 : Int32))), .unset] [])) _
          refine XS.goto X0.here hx rfl (pc0 := 104) (pc' := 153) rfl (hb hby at_104) (by decide) (by decide) ?_
          show Steps p.tables e below (s₁.setTop (mkF m 153 #[.val (.int p0), .val (.int p1), .val (.int p2), .val (.int p3), .val (.int (p0 &&& (3 : Int32))), .val (.int (((256 : Int32) ||| (((XT.ushr p1 (4 : Int32)) &&& (1 : Int32)) <<< ((4 : Int32) &&& 31))) ||| (p1 &&& (15 : Int32)))), .val (.long (((256 : Int64) + ((16 : Int64) * (p1 &&& (15 : Int32)).toInt64)) + ((8 : Int64) * ((XT.ushr p1 (4 : Int32)) &&& (1 : Int32)).toInt64))), .second, .val (.int (p1 &&& (15 : Int32))), .val (.int ((XT.ushr p1 (4 : Int32)) &&& (1 : Int32))), .unset] [])) _
          refine XS.iloadN X0.here hx rfl (hb hby at_153) rfl ?_
          show Steps p.tables e below (s₁.setTop (mkF m 154 #[.val (.int p0), .val (.int p1), .val (.int p2), .val (.int p3), .val (.int (p0 &&& (3 : Int32))), .val (.int (((256 : Int32) ||| (((XT.ushr p1 (4 : Int32)) &&& (1 : Int32)) <<< ((4 : Int32) &&& 31))) ||| (p1 &&& (15 : Int32)))), .val (.long (((256 : Int64) + ((16 : Int64) * (p1 &&& (15 : Int32)).toInt64)) + ((8 : Int64) * ((XT.ushr p1 (4 : Int32)) &&& (1 : Int32)).toInt64))), .second, .val (.int (p1 &&& (15 : Int32))), .val (.int ((XT.ushr p1 (4 : Int32)) &&& (1 : Int32))), .unset] [(.int p2)])) _
          refine XS.bipush X0.here hx rfl (hb hby at_154) ?_
          show Steps p.tables e below (s₁.setTop (mkF m 156 #[.val (.int p0), .val (.int p1), .val (.int p2), .val (.int p3), .val (.int (p0 &&& (3 : Int32))), .val (.int (((256 : Int32) ||| (((XT.ushr p1 (4 : Int32)) &&& (1 : Int32)) <<< ((4 : Int32) &&& 31))) ||| (p1 &&& (15 : Int32)))), .val (.long (((256 : Int64) + ((16 : Int64) * (p1 &&& (15 : Int32)).toInt64)) + ((8 : Int64) * ((XT.ushr p1 (4 : Int32)) &&& (1 : Int32)).toInt64))), .second, .val (.int (p1 &&& (15 : Int32))), .val (.int ((XT.ushr p1 (4 : Int32)) &&& (1 : Int32))), .unset] [(.int (29 : Int32)), (.int p2)])) _
          refine XT.ishl X0.here hx rfl (hb hby at_156) rfl ?_
          show Steps p.tables e below (s₁.setTop (mkF m 157 #[.val (.int p0), .val (.int p1), .val (.int p2), .val (.int p3), .val (.int (p0 &&& (3 : Int32))), .val (.int (((256 : Int32) ||| (((XT.ushr p1 (4 : Int32)) &&& (1 : Int32)) <<< ((4 : Int32) &&& 31))) ||| (p1 &&& (15 : Int32)))), .val (.long (((256 : Int64) + ((16 : Int64) * (p1 &&& (15 : Int32)).toInt64)) + ((8 : Int64) * ((XT.ushr p1 (4 : Int32)) &&& (1 : Int32)).toInt64))), .second, .val (.int (p1 &&& (15 : Int32))), .val (.int ((XT.ushr p1 (4 : Int32)) &&& (1 : Int32))), .unset] [(.int (p2 <<< ((29 : Int32) &&& 31)))])) _
          refine XS.iload X0.here hx rfl (hb hby at_157) rfl ?_
          show Steps p.tables e below (s₁.setTop (mkF m 159 #[.val (.int p0), .val (.int p1), .val (.int p2), .val (.int p3), .val (.int (p0 &&& (3 : Int32))), .val (.int (((256 : Int32) ||| (((XT.ushr p1 (4 : Int32)) &&& (1 : Int32)) <<< ((4 : Int32) &&& 31))) ||| (p1 &&& (15 : Int32)))), .val (.long (((256 : Int64) + ((16 : Int64) * (p1 &&& (15 : Int32)).toInt64)) + ((8 : Int64) * ((XT.ushr p1 (4 : Int32)) &&& (1 : Int32)).toInt64))), .second, .val (.int (p1 &&& (15 : Int32))), .val (.int ((XT.ushr p1 (4 : Int32)) &&& (1 : Int32))), .unset] [(.int (((256 : Int32) ||| (((XT.ushr p1 (4 : Int32)) &&& (1 : Int32)) <<< ((4 : Int32) &&& 31))) ||| (p1 &&& (15 : Int32)))), (.int (p2 <<< ((29 : Int32) &&& 31)))])) _
          refine XS.bipush X0.here hx rfl (hb hby at_159) ?_
          show Steps p.tables e below (s₁.setTop (mkF m 161 #[.val (.int p0), .val (.int p1), .val (.int p2), .val (.int p3), .val (.int (p0 &&& (3 : Int32))), .val (.int (((256 : Int32) ||| (((XT.ushr p1 (4 : Int32)) &&& (1 : Int32)) <<< ((4 : Int32) &&& 31))) ||| (p1 &&& (15 : Int32)))), .val (.long (((256 : Int64) + ((16 : Int64) * (p1 &&& (15 : Int32)).toInt64)) + ((8 : Int64) * ((XT.ushr p1 (4 : Int32)) &&& (1 : Int32)).toInt64))), .second, .val (.int (p1 &&& (15 : Int32))), .val (.int ((XT.ushr p1 (4 : Int32)) &&& (1 : Int32))), .unset] [(.int (20 : Int32)), (.int (((256 : Int32) ||| (((XT.ushr p1 (4 : Int32)) &&& (1 : Int32)) <<< ((4 : Int32) &&& 31))) ||| (p1 &&& (15 : Int32)))), (.int (p2 <<< ((29 : Int32) &&& 31)))])) _
          refine XT.ishl X0.here hx rfl (hb hby at_161) rfl ?_
          show Steps p.tables e below (s₁.setTop (mkF m 162 #[.val (.int p0), .val (.int p1), .val (.int p2), .val (.int p3), .val (.int (p0 &&& (3 : Int32))), .val (.int (((256 : Int32) ||| (((XT.ushr p1 (4 : Int32)) &&& (1 : Int32)) <<< ((4 : Int32) &&& 31))) ||| (p1 &&& (15 : Int32)))), .val (.long (((256 : Int64) + ((16 : Int64) * (p1 &&& (15 : Int32)).toInt64)) + ((8 : Int64) * ((XT.ushr p1 (4 : Int32)) &&& (1 : Int32)).toInt64))), .second, .val (.int (p1 &&& (15 : Int32))), .val (.int ((XT.ushr p1 (4 : Int32)) &&& (1 : Int32))), .unset] [(.int ((((256 : Int32) ||| (((XT.ushr p1 (4 : Int32)) &&& (1 : Int32)) <<< ((4 : Int32) &&& 31))) ||| (p1 &&& (15 : Int32))) <<< ((20 : Int32) &&& 31))), (.int (p2 <<< ((29 : Int32) &&& 31)))])) _
          refine XT.ior X0.here hx rfl (hb hby at_162) rfl ?_
          show Steps p.tables e below (s₁.setTop (mkF m 163 #[.val (.int p0), .val (.int p1), .val (.int p2), .val (.int p3), .val (.int (p0 &&& (3 : Int32))), .val (.int (((256 : Int32) ||| (((XT.ushr p1 (4 : Int32)) &&& (1 : Int32)) <<< ((4 : Int32) &&& 31))) ||| (p1 &&& (15 : Int32)))), .val (.long (((256 : Int64) + ((16 : Int64) * (p1 &&& (15 : Int32)).toInt64)) + ((8 : Int64) * ((XT.ushr p1 (4 : Int32)) &&& (1 : Int32)).toInt64))), .second, .val (.int (p1 &&& (15 : Int32))), .val (.int ((XT.ushr p1 (4 : Int32)) &&& (1 : Int32))), .unset] [(.int ((p2 <<< ((29 : Int32) &&& 31)) ||| ((((256 : Int32) ||| (((XT.ushr p1 (4 : Int32)) &&& (1 : Int32)) <<< ((4 : Int32) &&& 31))) ||| (p1 &&& (15 : Int32))) <<< ((20 : Int32) &&& 31))))])) _
          refine XS.iloadN X0.here hx rfl (hb hby at_163) rfl ?_
          show Steps p.tables e below (s₁.setTop (mkF m 164 #[.val (.int p0), .val (.int p1), .val (.int p2), .val (.int p3), .val (.int (p0 &&& (3 : Int32))), .val (.int (((256 : Int32) ||| (((XT.ushr p1 (4 : Int32)) &&& (1 : Int32)) <<< ((4 : Int32) &&& 31))) ||| (p1 &&& (15 : Int32)))), .val (.long (((256 : Int64) + ((16 : Int64) * (p1 &&& (15 : Int32)).toInt64)) + ((8 : Int64) * ((XT.ushr p1 (4 : Int32)) &&& (1 : Int32)).toInt64))), .second, .val (.int (p1 &&& (15 : Int32))), .val (.int ((XT.ushr p1 (4 : Int32)) &&& (1 : Int32))), .unset] [(.int p3), (.int ((p2 <<< ((29 : Int32) &&& 31)) ||| ((((256 : Int32) ||| (((XT.ushr p1 (4 : Int32)) &&& (1 : Int32)) <<< ((4 : Int32) &&& 31))) ||| (p1 &&& (15 : Int32))) <<< ((20 : Int32) &&& 31))))])) _
          refine Jvm.Stand.ldcI X0 hx hown (mvT hZ (hw _ (List.mem_of_getElem? (i := 1) rfl))) (g := (mkF m 164 #[.val (.int p0), .val (.int p1), .val (.int p2), .val (.int p3), .val (.int (p0 &&& (3 : Int32))), .val (.int (((256 : Int32) ||| (((XT.ushr p1 (4 : Int32)) &&& (1 : Int32)) <<< ((4 : Int32) &&& 31))) ||| (p1 &&& (15 : Int32)))), .val (.long (((256 : Int64) + ((16 : Int64) * (p1 &&& (15 : Int32)).toInt64)) + ((8 : Int64) * ((XT.ushr p1 (4 : Int32)) &&& (1 : Int32)).toInt64))), .second, .val (.int (p1 &&& (15 : Int32))), .val (.int ((XT.ushr p1 (4 : Int32)) &&& (1 : Int32))), .unset] [(.int p3), (.int ((p2 <<< ((29 : Int32) &&& 31)) ||| ((((256 : Int32) ||| (((XT.ushr p1 (4 : Int32)) &&& (1 : Int32)) <<< ((4 : Int32) &&& 31))) ||| (p1 &&& (15 : Int32))) <<< ((20 : Int32) &&& 31))))])) rfl (hb hby at_164) ?_
          show Steps p.tables e below (s₁.setTop (mkF m 166 #[.val (.int p0), .val (.int p1), .val (.int p2), .val (.int p3), .val (.int (p0 &&& (3 : Int32))), .val (.int (((256 : Int32) ||| (((XT.ushr p1 (4 : Int32)) &&& (1 : Int32)) <<< ((4 : Int32) &&& 31))) ||| (p1 &&& (15 : Int32)))), .val (.long (((256 : Int64) + ((16 : Int64) * (p1 &&& (15 : Int32)).toInt64)) + ((8 : Int64) * ((XT.ushr p1 (4 : Int32)) &&& (1 : Int32)).toInt64))), .second, .val (.int (p1 &&& (15 : Int32))), .val (.int ((XT.ushr p1 (4 : Int32)) &&& (1 : Int32))), .unset] [(.int (1048575 : Int32)), (.int p3), (.int ((p2 <<< ((29 : Int32) &&& 31)) ||| ((((256 : Int32) ||| (((XT.ushr p1 (4 : Int32)) &&& (1 : Int32)) <<< ((4 : Int32) &&& 31))) ||| (p1 &&& (15 : Int32))) <<< ((20 : Int32) &&& 31))))])) _
          refine XS.iand X0.here hx rfl (hb hby at_166) rfl ?_
          show Steps p.tables e below (s₁.setTop (mkF m 167 #[.val (.int p0), .val (.int p1), .val (.int p2), .val (.int p3), .val (.int (p0 &&& (3 : Int32))), .val (.int (((256 : Int32) ||| (((XT.ushr p1 (4 : Int32)) &&& (1 : Int32)) <<< ((4 : Int32) &&& 31))) ||| (p1 &&& (15 : Int32)))), .val (.long (((256 : Int64) + ((16 : Int64) * (p1 &&& (15 : Int32)).toInt64)) + ((8 : Int64) * ((XT.ushr p1 (4 : Int32)) &&& (1 : Int32)).toInt64))), .second, .val (.int (p1 &&& (15 : Int32))), .val (.int ((XT.ushr p1 (4 : Int32)) &&& (1 : Int32))), .unset] [(.int (p3 &&& (1048575 : Int32))), (.int ((p2 <<< ((29 : Int32) &&& 31)) ||| ((((256 : Int32) ||| (((XT.ushr p1 (4 : Int32)) &&& (1 : Int32)) <<< ((4 : Int32) &&& 31))) ||| (p1 &&& (15 : Int32))) <<< ((20 : Int32) &&& 31))))])) _
          refine XT.ior X0.here hx rfl (hb hby at_167) rfl ?_
          show Steps p.tables e below (s₁.setTop (mkF m 168 #[.val (.int p0), .val (.int p1), .val (.int p2), .val (.int p3), .val (.int (p0 &&& (3 : Int32))), .val (.int (((256 : Int32) ||| (((XT.ushr p1 (4 : Int32)) &&& (1 : Int32)) <<< ((4 : Int32) &&& 31))) ||| (p1 &&& (15 : Int32)))), .val (.long (((256 : Int64) + ((16 : Int64) * (p1 &&& (15 : Int32)).toInt64)) + ((8 : Int64) * ((XT.ushr p1 (4 : Int32)) &&& (1 : Int32)).toInt64))), .second, .val (.int (p1 &&& (15 : Int32))), .val (.int ((XT.ushr p1 (4 : Int32)) &&& (1 : Int32))), .unset] [(.int (((p2 <<< ((29 : Int32) &&& 31)) ||| ((((256 : Int32) ||| (((XT.ushr p1 (4 : Int32)) &&& (1 : Int32)) <<< ((4 : Int32) &&& 31))) ||| (p1 &&& (15 : Int32))) <<< ((20 : Int32) &&& 31))) ||| (p3 &&& (1048575 : Int32))))])) _
          refine XS.istore X0.here hx rfl (hb hby at_168) rfl (l' := #[.val (.int p0), .val (.int p1), .val (.int p2), .val (.int p3), .val (.int (p0 &&& (3 : Int32))), .val (.int (((256 : Int32) ||| (((XT.ushr p1 (4 : Int32)) &&& (1 : Int32)) <<< ((4 : Int32) &&& 31))) ||| (p1 &&& (15 : Int32)))), .val (.long (((256 : Int64) + ((16 : Int64) * (p1 &&& (15 : Int32)).toInt64)) + ((8 : Int64) * ((XT.ushr p1 (4 : Int32)) &&& (1 : Int32)).toInt64))), .second, .val (.int (((p2 <<< ((29 : Int32) &&& 31)) ||| ((((256 : Int32) ||| (((XT.ushr p1 (4 : Int32)) &&& (1 : Int32)) <<< ((4 : Int32) &&& 31))) ||| (p1 &&& (15 : Int32))) <<< ((20 : Int32) &&& 31))) ||| (p3 &&& (1048575 : Int32)))), .val (.int ((XT.ushr p1 (4 : Int32)) &&& (1 : Int32))), .unset]) rfl ?_
          show Steps p.tables e below (s₁.setTop (mkF m 170 #[.val (.int p0), .val (.int p1), .val (.int p2), .val (.int p3), .val (.int (p0 &&& (3 : Int32))), .val (.int (((256 : Int32) ||| (((XT.ushr p1 (4 : Int32)) &&& (1 : Int32)) <<< ((4 : Int32) &&& 31))) ||| (p1 &&& (15 : Int32)))), .val (.long (((256 : Int64) + ((16 : Int64) * (p1 &&& (15 : Int32)).toInt64)) + ((8 : Int64) * ((XT.ushr p1 (4 : Int32)) &&& (1 : Int32)).toInt64))), .second, .val (.int (((p2 <<< ((29 : Int32) &&& 31)) ||| ((((256 : Int32) ||| (((XT.ushr p1 (4 : Int32)) &&& (1 : Int32)) <<< ((4 : Int32) &&& 31))) ||| (p1 &&& (15 : Int32))) <<< ((20 : Int32) &&& 31))) ||| (p3 &&& (1048575 : Int32)))), .val (.int ((XT.ushr p1 (4 : Int32)) &&& (1 : Int32))), .unset] [])) _
          refine XS.iload X0.here hx rfl (hb hby at_170) rfl ?_
          show Steps p.tables e below (s₁.setTop (mkF m 172 #[.val (.int p0), .val (.int p1), .val (.int p2), .val (.int p3), .val (.int (p0 &&& (3 : Int32))), .val (.int (((256 : Int32) ||| (((XT.ushr p1 (4 : Int32)) &&& (1 : Int32)) <<< ((4 : Int32) &&& 31))) ||| (p1 &&& (15 : Int32)))), .val (.long (((256 : Int64) + ((16 : Int64) * (p1 &&& (15 : Int32)).toInt64)) + ((8 : Int64) * ((XT.ushr p1 (4 : Int32)) &&& (1 : Int32)).toInt64))), .second, .val (.int (((p2 <<< ((29 : Int32) &&& 31)) ||| ((((256 : Int32) ||| (((XT.ushr p1 (4 : Int32)) &&& (1 : Int32)) <<< ((4 : Int32) &&& 31))) ||| (p1 &&& (15 : Int32))) <<< ((20 : Int32) &&& 31))) ||| (p3 &&& (1048575 : Int32)))), .val (.int ((XT.ushr p1 (4 : Int32)) &&& (1 : Int32))), .unset] [(.int (((p2 <<< ((29 : Int32) &&& 31)) ||| ((((256 : Int32) ||| (((XT.ushr p1 (4 : Int32)) &&& (1 : Int32)) <<< ((4 : Int32) &&& 31))) ||| (p1 &&& (15 : Int32))) <<< ((20 : Int32) &&& 31))) ||| (p3 &&& (1048575 : Int32))))])) _
          refine st9 _ ?_
          show Steps p.tables e below (T9.setTop (mkF m 175 #[.val (.int p0), .val (.int p1), .val (.int p2), .val (.int p3), .val (.int (p0 &&& (3 : Int32))), .val (.int (((256 : Int32) ||| (((XT.ushr p1 (4 : Int32)) &&& (1 : Int32)) <<< ((4 : Int32) &&& 31))) ||| (p1 &&& (15 : Int32)))), .val (.long (((256 : Int64) + ((16 : Int64) * (p1 &&& (15 : Int32)).toInt64)) + ((8 : Int64) * ((XT.ushr p1 (4 : Int32)) &&& (1 : Int32)).toInt64))), .second, .val (.int (((p2 <<< ((29 : Int32) &&& 31)) ||| ((((256 : Int32) ||| (((XT.ushr p1 (4 : Int32)) &&& (1 : Int32)) <<< ((4 : Int32) &&& 31))) ||| (p1 &&& (15 : Int32))) <<< ((20 : Int32) &&& 31))) ||| (p3 &&& (1048575 : Int32)))), .val (.int ((XT.ushr p1 (4 : Int32)) &&& (1 : Int32))), .unset] [(.long (own_bl ((XT.ushr (((p2 <<< ((29 : Int32) &&& 31)) ||| ((((256 : Int32) ||| (((XT.ushr p1 (4 : Int32)) &&& (1 : Int32)) <<< ((4 : Int32) &&& 31))) ||| (p1 &&& (15 : Int32))) <<< ((20 : Int32) &&& 31))) ||| (p3 &&& (1048575 : Int32))) (20 : Int32)) &&& (511 : Int32))))])) _
          refine XT.lload X9.here hx rfl (hb hby at_175) rfl ?_
          show Steps p.tables e below (T9.setTop (mkF m 177 #[.val (.int p0), .val (.int p1), .val (.int p2), .val (.int p3), .val (.int (p0 &&& (3 : Int32))), .val (.int (((256 : Int32) ||| (((XT.ushr p1 (4 : Int32)) &&& (1 : Int32)) <<< ((4 : Int32) &&& 31))) ||| (p1 &&& (15 : Int32)))), .val (.long (((256 : Int64) + ((16 : Int64) * (p1 &&& (15 : Int32)).toInt64)) + ((8 : Int64) * ((XT.ushr p1 (4 : Int32)) &&& (1 : Int32)).toInt64))), .second, .val (.int (((p2 <<< ((29 : Int32) &&& 31)) ||| ((((256 : Int32) ||| (((XT.ushr p1 (4 : Int32)) &&& (1 : Int32)) <<< ((4 : Int32) &&& 31))) ||| (p1 &&& (15 : Int32))) <<< ((20 : Int32) &&& 31))) ||| (p3 &&& (1048575 : Int32)))), .val (.int ((XT.ushr p1 (4 : Int32)) &&& (1 : Int32))), .unset] [(.long (((256 : Int64) + ((16 : Int64) * (p1 &&& (15 : Int32)).toInt64)) + ((8 : Int64) * ((XT.ushr p1 (4 : Int32)) &&& (1 : Int32)).toInt64))), (.long (own_bl ((XT.ushr (((p2 <<< ((29 : Int32) &&& 31)) ||| ((((256 : Int32) ||| (((XT.ushr p1 (4 : Int32)) &&& (1 : Int32)) <<< ((4 : Int32) &&& 31))) ||| (p1 &&& (15 : Int32))) <<< ((20 : Int32) &&& 31))) ||| (p3 &&& (1048575 : Int32))) (20 : Int32)) &&& (511 : Int32))))])) _
          refine XT.lcmp X9.here hx rfl (hb hby at_177) rfl ?_
          show Steps p.tables e below (T9.setTop (mkF m 178 #[.val (.int p0), .val (.int p1), .val (.int p2), .val (.int p3), .val (.int (p0 &&& (3 : Int32))), .val (.int (((256 : Int32) ||| (((XT.ushr p1 (4 : Int32)) &&& (1 : Int32)) <<< ((4 : Int32) &&& 31))) ||| (p1 &&& (15 : Int32)))), .val (.long (((256 : Int64) + ((16 : Int64) * (p1 &&& (15 : Int32)).toInt64)) + ((8 : Int64) * ((XT.ushr p1 (4 : Int32)) &&& (1 : Int32)).toInt64))), .second, .val (.int (((p2 <<< ((29 : Int32) &&& 31)) ||| ((((256 : Int32) ||| (((XT.ushr p1 (4 : Int32)) &&& (1 : Int32)) <<< ((4 : Int32) &&& 31))) ||| (p1 &&& (15 : Int32))) <<< ((20 : Int32) &&& 31))) ||| (p3 &&& (1048575 : Int32)))), .val (.int ((XT.ushr p1 (4 : Int32)) &&& (1 : Int32))), .unset] [(.int (XT.cmpL (own_bl ((XT.ushr (((p2 <<< ((29 : Int32) &&& 31)) ||| ((((256 : Int32) ||| (((XT.ushr p1 (4 : Int32)) &&& (1 : Int32)) <<< ((4 : Int32) &&& 31))) ||| (p1 &&& (15 : Int32))) <<< ((20 : Int32) &&& 31))) ||| (p3 &&& (1048575 : Int32))) (20 : Int32)) &&& (511 : Int32))) (((256 : Int64) + ((16 : Int64) * (p1 &&& (15 : Int32)).toInt64)) + ((8 : Int64) * ((XT.ushr p1 (4 : Int32)) &&& (1 : Int32)).toInt64))))])) _
          refine XS.ifNo X9.here hx rfl (hb hby at_178) rfl (XT.ll_ne_f (own_p2 p2 p3 p1)) ?_
          show Steps p.tables e below (T9.setTop (mkF m 181 #[.val (.int p0), .val (.int p1), .val (.int p2), .val (.int p3), .val (.int (p0 &&& (3 : Int32))), .val (.int (((256 : Int32) ||| (((XT.ushr p1 (4 : Int32)) &&& (1 : Int32)) <<< ((4 : Int32) &&& 31))) ||| (p1 &&& (15 : Int32)))), .val (.long (((256 : Int64) + ((16 : Int64) * (p1 &&& (15 : Int32)).toInt64)) + ((8 : Int64) * ((XT.ushr p1 (4 : Int32)) &&& (1 : Int32)).toInt64))), .second, .val (.int (((p2 <<< ((29 : Int32) &&& 31)) ||| ((((256 : Int32) ||| (((XT.ushr p1 (4 : Int32)) &&& (1 : Int32)) <<< ((4 : Int32) &&& 31))) ||| (p1 &&& (15 : Int32))) <<< ((20 : Int32) &&& 31))) ||| (p3 &&& (1048575 : Int32)))), .val (.int ((XT.ushr p1 (4 : Int32)) &&& (1 : Int32))), .unset] [])) _
          refine XS.iconst X9.here hx rfl (hb hby at_181) ?_
          show Steps p.tables e below (T9.setTop (mkF m 182 #[.val (.int p0), .val (.int p1), .val (.int p2), .val (.int p3), .val (.int (p0 &&& (3 : Int32))), .val (.int (((256 : Int32) ||| (((XT.ushr p1 (4 : Int32)) &&& (1 : Int32)) <<< ((4 : Int32) &&& 31))) ||| (p1 &&& (15 : Int32)))), .val (.long (((256 : Int64) + ((16 : Int64) * (p1 &&& (15 : Int32)).toInt64)) + ((8 : Int64) * ((XT.ushr p1 (4 : Int32)) &&& (1 : Int32)).toInt64))), .second, .val (.int (((p2 <<< ((29 : Int32) &&& 31)) ||| ((((256 : Int32) ||| (((XT.ushr p1 (4 : Int32)) &&& (1 : Int32)) <<< ((4 : Int32) &&& 31))) ||| (p1 &&& (15 : Int32))) <<< ((20 : Int32) &&& 31))) ||| (p3 &&& (1048575 : Int32)))), .val (.int ((XT.ushr p1 (4 : Int32)) &&& (1 : Int32))), .unset] [(.int (1 : Int32))])) _
          refine XS.goto X9.here hx rfl (pc0 := 182) (pc' := 186) rfl (hb hby at_182) (by decide) (by decide) ?_
          show Steps p.tables e below (T9.setTop (mkF m 186 #[.val (.int p0), .val (.int p1), .val (.int p2), .val (.int p3), .val (.int (p0 &&& (3 : Int32))), .val (.int (((256 : Int32) ||| (((XT.ushr p1 (4 : Int32)) &&& (1 : Int32)) <<< ((4 : Int32) &&& 31))) ||| (p1 &&& (15 : Int32)))), .val (.long (((256 : Int64) + ((16 : Int64) * (p1 &&& (15 : Int32)).toInt64)) + ((8 : Int64) * ((XT.ushr p1 (4 : Int32)) &&& (1 : Int32)).toInt64))), .second, .val (.int (((p2 <<< ((29 : Int32) &&& 31)) ||| ((((256 : Int32) ||| (((XT.ushr p1 (4 : Int32)) &&& (1 : Int32)) <<< ((4 : Int32) &&& 31))) ||| (p1 &&& (15 : Int32))) <<< ((20 : Int32) &&& 31))) ||| (p3 &&& (1048575 : Int32)))), .val (.int ((XT.ushr p1 (4 : Int32)) &&& (1 : Int32))), .unset] [(.int (1 : Int32))])) _
          exact retN X9 hx (t := .boolean) Bd.returns (by simp) (hb hby at_186) hr
        · show Q_own_law Z p0 p1 p2 p3  h0 n0 _ T9.heap _
          rw [eh9]
          exact ⟨rfl, N9⟩
      · obtain ⟨_, _, ⟨T10, L10, k10, n10⟩, -, X10, ⟨Lc10, hQ10, l10, y10, z10⟩, st10⟩ := Jvm.LawKit.callS X0 hx (y := (⟨"com/example/madingley/madingley/machine/Encoding", "boundsLength", "(I)J"⟩ : MethodName)) hown (mvT hZ (hw _ (List.mem_of_getElem? (i := 2) rfl))) (mvT hZ (hw _ (List.mem_of_getElem? (i := 3) rfl))) (mvT hZ (hw _ (List.mem_of_getElem? (i := 4) rfl))) (mvT hZ (hw _ (List.mem_of_getElem? (i := 5) rfl))) (by decide) (backOf (W := 0) (own_bnd l Z a0 hw [] (((p2 <<< ((29 : Int32) &&& 31)) ||| (((256 : Int32) ||| ((((1 : Int32) + ((p1 &&& (2147483647 : Int32)) % (7 : Int32))) <<< ((5 : Int32) &&& 31)) ||| ((XT.ushr p1 (8 : Int32)) &&& (31 : Int32)))) <<< ((20 : Int32) &&& 31))) ||| (p3 &&& (1048575 : Int32))) h0 n0 Z0 ) hZ (hw _ (List.mem_of_getElem? (i := 5) rfl)) (hw _ (List.mem_of_getElem? (i := 4) rfl)) (by decide) (by decide)) (g := (mkF m 172 #[.val (.int p0), .val (.int p1), .val (.int p2), .val (.int p3), .val (.int (p0 &&& (3 : Int32))), .val (.int ((256 : Int32) ||| ((((1 : Int32) + ((p1 &&& (2147483647 : Int32)) % (7 : Int32))) <<< ((5 : Int32) &&& 31)) ||| ((XT.ushr p1 (8 : Int32)) &&& (31 : Int32))))), .val (.long ((16 : Int64) * ((((1 : Int32) + ((p1 &&& (2147483647 : Int32)) % (7 : Int32))) <<< ((5 : Int32) &&& 31)) ||| ((XT.ushr p1 (8 : Int32)) &&& (31 : Int32))).toInt64)), .second, .val (.int (((p2 <<< ((29 : Int32) &&& 31)) ||| (((256 : Int32) ||| ((((1 : Int32) + ((p1 &&& (2147483647 : Int32)) % (7 : Int32))) <<< ((5 : Int32) &&& 31)) ||| ((XT.ushr p1 (8 : Int32)) &&& (31 : Int32)))) <<< ((20 : Int32) &&& 31))) ||| (p3 &&& (1048575 : Int32)))), .val (.int ((XT.ushr p1 (8 : Int32)) &&& (31 : Int32))), .val (.int ((((1 : Int32) + ((p1 &&& (2147483647 : Int32)) % (7 : Int32))) <<< ((5 : Int32) &&& 31)) ||| ((XT.ushr p1 (8 : Int32)) &&& (31 : Int32))))] [(.int (((p2 <<< ((29 : Int32) &&& 31)) ||| (((256 : Int32) ||| ((((1 : Int32) + ((p1 &&& (2147483647 : Int32)) % (7 : Int32))) <<< ((5 : Int32) &&& 31)) ||| ((XT.ushr p1 (8 : Int32)) &&& (31 : Int32)))) <<< ((20 : Int32) &&& 31))) ||| (p3 &&& (1048575 : Int32))))])) rfl (by rw [hml]; rfl) (argsL := [(.int (((p2 <<< ((29 : Int32) &&& 31)) ||| (((256 : Int32) ||| ((((1 : Int32) + ((p1 &&& (2147483647 : Int32)) % (7 : Int32))) <<< ((5 : Int32) &&& 31)) ||| ((XT.ushr p1 (8 : Int32)) &&& (31 : Int32)))) <<< ((20 : Int32) &&& 31))) ||| (p3 &&& (1048575 : Int32))))]) (rest := []) (lenOf pd_0 rfl) rfl (by show 2 * 0 + _ ≤ _; exact Nat.le_of_eq rfl) (hb hby at_172) (fun _ _ => ⟨rfl, e0, (by decide : 0 + 0 ≤ _), (by decide : 0 + 0 ≤ _)⟩)
        dsimp only [Pt.U, Pt.locs, Pt.cells, Pt.slots] at X10 l10 y10 z10 st10 hQ10
        subst l10 y10 z10
        obtain ⟨rfl, N10q, eh10⟩ := hQ10
        have N10 := Fr.app N0 N10q
        obtain ⟨fs, hr, hrun, hended, hW, hsame⟩ := X10.leave (v := some (.int (1 : Int32))) (fun h => by rw [Bd.returns] at h; cases h)
        refine ⟨_, _, pre0 _ ?_, hrun, hended, _, _, rfl, ?_, ⟨_, rfl⟩, hW, hsame.mono (by decide) (by decide)⟩
        · show Steps p.tables e below (s₁.setTop (mkF m 0 #[.val (.int p0), .val (.int p1), .val (.int p2), .val (.int p3), .unset, .unset, .unset, .unset, .unset, .unset, .unset] [])) _
          refine XS.iloadN X0.here hx rfl (hb hby at_0) rfl ?_
          show Steps p.tables e below (s₁.setTop (mkF m 1 #[.val (.int p0), .val (.int p1), .val (.int p2), .val (.int p3), .unset, .unset, .unset, .unset, .unset, .unset, .unset] [(.int p0)])) _
          refine XS.iconst X0.here hx rfl (hb hby at_1) ?_
          show Steps p.tables e below (s₁.setTop (mkF m 2 #[.val (.int p0), .val (.int p1), .val (.int p2), .val (.int p3), .unset, .unset, .unset, .unset, .unset, .unset, .unset] [(.int (3 : Int32)), (.int p0)])) _
          refine XS.iand X0.here hx rfl (hb hby at_2) rfl ?_
          show Steps p.tables e below (s₁.setTop (mkF m 3 #[.val (.int p0), .val (.int p1), .val (.int p2), .val (.int p3), .unset, .unset, .unset, .unset, .unset, .unset, .unset] [(.int (p0 &&& (3 : Int32)))])) _
          refine XS.istore X0.here hx rfl (hb hby at_3) rfl (l' := #[.val (.int p0), .val (.int p1), .val (.int p2), .val (.int p3), .val (.int (p0 &&& (3 : Int32))), .unset, .unset, .unset, .unset, .unset, .unset]) rfl ?_
          show Steps p.tables e below (s₁.setTop (mkF m 5 #[.val (.int p0), .val (.int p1), .val (.int p2), .val (.int p3), .val (.int (p0 &&& (3 : Int32))), .unset, .unset, .unset, .unset, .unset, .unset] [])) _
          refine XS.iload X0.here hx rfl (hb hby at_5) rfl ?_
          show Steps p.tables e below (s₁.setTop (mkF m 7 #[.val (.int p0), .val (.int p1), .val (.int p2), .val (.int p3), .val (.int (p0 &&& (3 : Int32))), .unset, .unset, .unset, .unset, .unset, .unset] [(.int (p0 &&& (3 : Int32)))])) _
          refine XS.ifYes X0.here hx rfl (pc0 := 7) (pc' := 21) rfl (hb hby at_7) rfl (XT.i0_ne_t ha) (by decide) (by decide) ?_
          show Steps p.tables e below (s₁.setTop (mkF m 21 #[.val (.int p0), .val (.int p1), .val (.int p2), .val (.int p3), .val (.int (p0 &&& (3 : Int32))), .unset, .unset, .unset, .unset, .unset, .unset] [])) _
          refine XS.iload X0.here hx rfl (hb hby at_21) rfl ?_
          show Steps p.tables e below (s₁.setTop (mkF m 23 #[.val (.int p0), .val (.int p1), .val (.int p2), .val (.int p3), .val (.int (p0 &&& (3 : Int32))), .unset, .unset, .unset, .unset, .unset, .unset] [(.int (p0 &&& (3 : Int32)))])) _
          refine XS.iconst X0.here hx rfl (hb hby at_23) ?_
          show Steps p.tables e below (s₁.setTop (mkF m 24 #[.val (.int p0), .val (.int p1), .val (.int p2), .val (.int p3), .val (.int (p0 &&& (3 : Int32))), .unset, .unset, .unset, .unset, .unset, .unset] [(.int (1 : Int32)), (.int (p0 &&& (3 : Int32)))])) _
          refine XS.icmpYes X0.here hx rfl (pc0 := 24) (pc' := 51) rfl (hb hby at_24) rfl (XT.ii_ne_t hb_) (by decide) (by decide) ?_
          show Steps p.tables e below (s₁.setTop (mkF m 51 #[.val (.int p0), .val (.int p1), .val (.int p2), .val (.int p3), .val (.int (p0 &&& (3 : Int32))), .unset, .unset, .unset, .unset, .unset, .unset] [])) _
          refine XS.iload X0.here hx rfl (hb hby at_51) rfl ?_
          show Steps p.tables e below (s₁.setTop (mkF m 53 #[.val (.int p0), .val (.int p1), .val (.int p2), .val (.int p3), .val (.int (p0 &&& (3 : Int32))), .unset, .unset, .unset, .unset, .unset, .unset] [(.int (p0 &&& (3 : Int32)))])) _
          refine XS.iconst X0.here hx rfl (hb hby at_53) ?_
          show Steps p.tables e below (s₁.setTop (mkF m 54 #[.val (.int p0), .val (.int p1), .val (.int p2), .val (.int p3), .val (.int (p0 &&& (3 : Int32))), .unset, .unset, .unset, .unset, .unset, .unset] [(.int (2 : Int32)), (.int (p0 &&& (3 : Int32)))])) _
          refine XS.icmpYes X0.here hx rfl (pc0 := 54) (pc' := 107) rfl (hb hby at_54) rfl (XT.ii_ne_t hc_) (by decide) (by decide) ?_
          show Steps p.tables e below (s₁.setTop (mkF m 107 #[.val (.int p0), .val (.int p1), .val (.int p2), .val (.int p3), .val (.int (p0 &&& (3 : Int32))), .unset, .unset, .unset, .unset, .unset, .unset] [])) _
          refine XS.iconst X0.here hx rfl (hb hby at_107) ?_
          show Steps p.tables e below (s₁.setTop (mkF m 108 #[.val (.int p0), .val (.int p1), .val (.int p2), .val (.int p3), .val (.int (p0 &&& (3 : Int32))), .unset, .unset, .unset, .unset, .unset, .unset] [(.int (1 : Int32))])) _
          refine XS.iloadN X0.here hx rfl (hb hby at_108) rfl ?_
          show Steps p.tables e below (s₁.setTop (mkF m 109 #[.val (.int p0), .val (.int p1), .val (.int p2), .val (.int p3), .val (.int (p0 &&& (3 : Int32))), .unset, .unset, .unset, .unset, .unset, .unset] [(.int p1), (.int (1 : Int32))])) _
          refine Jvm.Stand.ldcI X0 hx hown (mvT hZ (hw _ (List.mem_of_getElem? (i := 7) rfl))) (g := (mkF m 109 #[.val (.int p0), .val (.int p1), .val (.int p2), .val (.int p3), .val (.int (p0 &&& (3 : Int32))), .unset, .unset, .unset, .unset, .unset, .unset] [(.int p1), (.int (1 : Int32))])) rfl (hb hby at_109) ?_
          show Steps p.tables e below (s₁.setTop (mkF m 111 #[.val (.int p0), .val (.int p1), .val (.int p2), .val (.int p3), .val (.int (p0 &&& (3 : Int32))), .unset, .unset, .unset, .unset, .unset, .unset] [(.int (2147483647 : Int32)), (.int p1), (.int (1 : Int32))])) _
          refine XS.iand X0.here hx rfl (hb hby at_111) rfl ?_
          show Steps p.tables e below (s₁.setTop (mkF m 112 #[.val (.int p0), .val (.int p1), .val (.int p2), .val (.int p3), .val (.int (p0 &&& (3 : Int32))), .unset, .unset, .unset, .unset, .unset, .unset] [(.int (p1 &&& (2147483647 : Int32))), (.int (1 : Int32))])) _
          refine XS.bipush X0.here hx rfl (hb hby at_112) ?_
          show Steps p.tables e below (s₁.setTop (mkF m 114 #[.val (.int p0), .val (.int p1), .val (.int p2), .val (.int p3), .val (.int (p0 &&& (3 : Int32))), .unset, .unset, .unset, .unset, .unset, .unset] [(.int (7 : Int32)), (.int (p1 &&& (2147483647 : Int32))), (.int (1 : Int32))])) _
          refine Jvm.RoadKit.iremM (g := (mkF m 114 #[.val (.int p0), .val (.int p1), .val (.int p2), .val (.int p3), .val (.int (p0 &&& (3 : Int32))), .unset, .unset, .unset, .unset, .unset, .unset] [(.int (7 : Int32)), (.int (p1 &&& (2147483647 : Int32))), (.int (1 : Int32))])) X0 hx rfl (hb hby at_114) rfl (by decide) ?_
          show Steps p.tables e below (s₁.setTop (mkF m 115 #[.val (.int p0), .val (.int p1), .val (.int p2), .val (.int p3), .val (.int (p0 &&& (3 : Int32))), .unset, .unset, .unset, .unset, .unset, .unset] [(.int ((p1 &&& (2147483647 : Int32)) % (7 : Int32))), (.int (1 : Int32))])) _
          refine XS.iadd X0.here hx rfl (hb hby at_115) rfl ?_
          show Steps p.tables e below (s₁.setTop (mkF m 116 #[.val (.int p0), .val (.int p1), .val (.int p2), .val (.int p3), .val (.int (p0 &&& (3 : Int32))), .unset, .unset, .unset, .unset, .unset, .unset] [(.int ((1 : Int32) + ((p1 &&& (2147483647 : Int32)) % (7 : Int32))))])) _
          refine XS.istore X0.here hx rfl (hb hby at_116) rfl (l' := #[.val (.int p0), .val (.int p1), .val (.int p2), .val (.int p3), .val (.int (p0 &&& (3 : Int32))), .unset, .unset, .unset, .val (.int ((1 : Int32) + ((p1 &&& (2147483647 : Int32)) % (7 : Int32)))), .unset, .unset]) rfl ?_
          show Steps p.tables e below (s₁.setTop (mkF m 118 #[.val (.int p0), .val (.int p1), .val (.int p2), .val (.int p3), .val (.int (p0 &&& (3 : Int32))), .unset, .unset, .unset, .val (.int ((1 : Int32) + ((p1 &&& (2147483647 : Int32)) % (7 : Int32)))), .unset, .unset] [])) _
          refine XS.iloadN X0.here hx rfl (hb hby at_118) rfl ?_
          show Steps p.tables e below (s₁.setTop (mkF m 119 #[.val (.int p0), .val (.int p1), .val (.int p2), .val (.int p3), .val (.int (p0 &&& (3 : Int32))), .unset, .unset, .unset, .val (.int ((1 : Int32) + ((p1 &&& (2147483647 : Int32)) % (7 : Int32)))), .unset, .unset] [(.int p1)])) _
          refine XS.bipush X0.here hx rfl (hb hby at_119) ?_
          show Steps p.tables e below (s₁.setTop (mkF m 121 #[.val (.int p0), .val (.int p1), .val (.int p2), .val (.int p3), .val (.int (p0 &&& (3 : Int32))), .unset, .unset, .unset, .val (.int ((1 : Int32) + ((p1 &&& (2147483647 : Int32)) % (7 : Int32)))), .unset, .unset] [(.int (8 : Int32)), (.int p1)])) _
          refine XT.iushr X0.here hx rfl (hb hby at_121) rfl ?_
          show Steps p.tables e below (s₁.setTop (mkF m 122 #[.val (.int p0), .val (.int p1), .val (.int p2), .val (.int p3), .val (.int (p0 &&& (3 : Int32))), .unset, .unset, .unset, .val (.int ((1 : Int32) + ((p1 &&& (2147483647 : Int32)) % (7 : Int32)))), .unset, .unset] [(.int (XT.ushr p1 (8 : Int32)))])) _
          refine XS.bipush X0.here hx rfl (hb hby at_122) ?_
          show Steps p.tables e below (s₁.setTop (mkF m 124 #[.val (.int p0), .val (.int p1), .val (.int p2), .val (.int p3), .val (.int (p0 &&& (3 : Int32))), .unset, .unset, .unset, .val (.int ((1 : Int32) + ((p1 &&& (2147483647 : Int32)) % (7 : Int32)))), .unset, .unset] [(.int (31 : Int32)), (.int (XT.ushr p1 (8 : Int32)))])) _
          refine XS.iand X0.here hx rfl (hb hby at_124) rfl ?_
          show Steps p.tables e below (s₁.setTop (mkF m 125 #[.val (.int p0), .val (.int p1), .val (.int p2), .val (.int p3), .val (.int (p0 &&& (3 : Int32))), .unset, .unset, .unset, .val (.int ((1 : Int32) + ((p1 &&& (2147483647 : Int32)) % (7 : Int32)))), .unset, .unset] [(.int ((XT.ushr p1 (8 : Int32)) &&& (31 : Int32)))])) _
          refine XS.istore X0.here hx rfl (hb hby at_125) rfl (l' := #[.val (.int p0), .val (.int p1), .val (.int p2), .val (.int p3), .val (.int (p0 &&& (3 : Int32))), .unset, .unset, .unset, .val (.int ((1 : Int32) + ((p1 &&& (2147483647 : Int32)) % (7 : Int32)))), .val (.int ((XT.ushr p1 (8 : Int32)) &&& (31 : Int32))), .unset]) rfl ?_
          show Steps p.tables e below (s₁.setTop (mkF m 127 #[.val (.int p0), .val (.int p1), .val (.int p2), .val (.int p3), .val (.int (p0 &&& (3 : Int32))), .unset, .unset, .unset, .val (.int ((1 : Int32) + ((p1 &&& (2147483647 : Int32)) % (7 : Int32)))), .val (.int ((XT.ushr p1 (8 : Int32)) &&& (31 : Int32))), .unset] [])) _
          refine XS.iload X0.here hx rfl (hb hby at_127) rfl ?_
          show Steps p.tables e below (s₁.setTop (mkF m 129 #[.val (.int p0), .val (.int p1), .val (.int p2), .val (.int p3), .val (.int (p0 &&& (3 : Int32))), .unset, .unset, .unset, .val (.int ((1 : Int32) + ((p1 &&& (2147483647 : Int32)) % (7 : Int32)))), .val (.int ((XT.ushr p1 (8 : Int32)) &&& (31 : Int32))), .unset] [(.int ((1 : Int32) + ((p1 &&& (2147483647 : Int32)) % (7 : Int32))))])) _
          refine XS.iconst X0.here hx rfl (hb hby at_129) ?_
          show Steps p.tables e below (s₁.setTop (mkF m 130 #[.val (.int p0), .val (.int p1), .val (.int p2), .val (.int p3), .val (.int (p0 &&& (3 : Int32))), .unset, .unset, .unset, .val (.int ((1 : Int32) + ((p1 &&& (2147483647 : Int32)) % (7 : Int32)))), .val (.int ((XT.ushr p1 (8 : Int32)) &&& (31 : Int32))), .unset] [(.int (5 : Int32)), (.int ((1 : Int32) + ((p1 &&& (2147483647 : Int32)) % (7 : Int32))))])) _
          refine XT.ishl X0.here hx rfl (hb hby at_130) rfl ?_
          show Steps p.tables e below (s₁.setTop (mkF m 131 #[.val (.int p0), .val (.int p1), .val (.int p2), .val (.int p3), .val (.int (p0 &&& (3 : Int32))), .unset, .unset, .unset, .val (.int ((1 : Int32) + ((p1 &&& (2147483647 : Int32)) % (7 : Int32)))), .val (.int ((XT.ushr p1 (8 : Int32)) &&& (31 : Int32))), .unset] [(.int (((1 : Int32) + ((p1 &&& (2147483647 : Int32)) % (7 : Int32))) <<< ((5 : Int32) &&& 31)))])) _
          refine XS.iload X0.here hx rfl (hb hby at_131) rfl ?_
          show Steps p.tables e below (s₁.setTop (mkF m 133 #[.val (.int p0), .val (.int p1), .val (.int p2), .val (.int p3), .val (.int (p0 &&& (3 : Int32))), .unset, .unset, .unset, .val (.int ((1 : Int32) + ((p1 &&& (2147483647 : Int32)) % (7 : Int32)))), .val (.int ((XT.ushr p1 (8 : Int32)) &&& (31 : Int32))), .unset] [(.int ((XT.ushr p1 (8 : Int32)) &&& (31 : Int32))), (.int (((1 : Int32) + ((p1 &&& (2147483647 : Int32)) % (7 : Int32))) <<< ((5 : Int32) &&& 31)))])) _
          refine XT.ior X0.here hx rfl (hb hby at_133) rfl ?_
          show Steps p.tables e below (s₁.setTop (mkF m 134 #[.val (.int p0), .val (.int p1), .val (.int p2), .val (.int p3), .val (.int (p0 &&& (3 : Int32))), .unset, .unset, .unset, .val (.int ((1 : Int32) + ((p1 &&& (2147483647 : Int32)) % (7 : Int32)))), .val (.int ((XT.ushr p1 (8 : Int32)) &&& (31 : Int32))), .unset] [(.int ((((1 : Int32) + ((p1 &&& (2147483647 : Int32)) % (7 : Int32))) <<< ((5 : Int32) &&& 31)) ||| ((XT.ushr p1 (8 : Int32)) &&& (31 : Int32))))])) _
          refine XS.istore X0.here hx rfl (hb hby at_134) rfl (l' := #[.val (.int p0), .val (.int p1), .val (.int p2), .val (.int p3), .val (.int (p0 &&& (3 : Int32))), .unset, .unset, .unset, .val (.int ((1 : Int32) + ((p1 &&& (2147483647 : Int32)) % (7 : Int32)))), .val (.int ((XT.ushr p1 (8 : Int32)) &&& (31 : Int32))), .val (.int ((((1 : Int32) + ((p1 &&& (2147483647 : Int32)) % (7 : Int32))) <<< ((5 : Int32) &&& 31)) ||| ((XT.ushr p1 (8 : Int32)) &&& (31 : Int32))))]) rfl ?_
          show Steps p.tables e below (s₁.setTop (mkF m 136 #[.val (.int p0), .val (.int p1), .val (.int p2), .val (.int p3), .val (.int (p0 &&& (3 : Int32))), .unset, .unset, .unset, .val (.int ((1 : Int32) + ((p1 &&& (2147483647 : Int32)) % (7 : Int32)))), .val (.int ((XT.ushr p1 (8 : Int32)) &&& (31 : Int32))), .val (.int ((((1 : Int32) + ((p1 &&& (2147483647 : Int32)) % (7 : Int32))) <<< ((5 : Int32) &&& 31)) ||| ((XT.ushr p1 (8 : Int32)) &&& (31 : Int32))))] [])) _
          refine XS.sipush X0.here hx rfl (hb hby at_136) ?_
          show Steps p.tables e below (s₁.setTop (mkF m 139 #[.val (.int p0), .val (.int p1), .val (.int p2), .val (.int p3), .val (.int (p0 &&& (3 : Int32))), .unset, .unset, .unset, .val (.int ((1 : Int32) + ((p1 &&& (2147483647 : Int32)) % (7 : Int32)))), .val (.int ((XT.ushr p1 (8 : Int32)) &&& (31 : Int32))), .val (.int ((((1 : Int32) + ((p1 &&& (2147483647 : Int32)) % (7 : Int32))) <<< ((5 : Int32) &&& 31)) ||| ((XT.ushr p1 (8 : Int32)) &&& (31 : Int32))))] [(.int (256 : Int32))])) _
          refine XS.iload X0.here hx rfl (hb hby at_139) rfl ?_
          show Steps p.tables e below (s₁.setTop (mkF m 141 #[.val (.int p0), .val (.int p1), .val (.int p2), .val (.int p3), .val (.int (p0 &&& (3 : Int32))), .unset, .unset, .unset, .val (.int ((1 : Int32) + ((p1 &&& (2147483647 : Int32)) % (7 : Int32)))), .val (.int ((XT.ushr p1 (8 : Int32)) &&& (31 : Int32))), .val (.int ((((1 : Int32) + ((p1 &&& (2147483647 : Int32)) % (7 : Int32))) <<< ((5 : Int32) &&& 31)) ||| ((XT.ushr p1 (8 : Int32)) &&& (31 : Int32))))] [(.int ((((1 : Int32) + ((p1 &&& (2147483647 : Int32)) % (7 : Int32))) <<< ((5 : Int32) &&& 31)) ||| ((XT.ushr p1 (8 : Int32)) &&& (31 : Int32)))), (.int (256 : Int32))])) _
          refine XT.ior X0.here hx rfl (hb hby at_141) rfl ?_
          show Steps p.tables e below (s₁.setTop (mkF m 142 #[.val (.int p0), .val (.int p1), .val (.int p2), .val (.int p3), .val (.int (p0 &&& (3 : Int32))), .unset, .unset, .unset, .val (.int ((1 : Int32) + ((p1 &&& (2147483647 : Int32)) % (7 : Int32)))), .val (.int ((XT.ushr p1 (8 : Int32)) &&& (31 : Int32))), .val (.int ((((1 : Int32) + ((p1 &&& (2147483647 : Int32)) % (7 : Int32))) <<< ((5 : Int32) &&& 31)) ||| ((XT.ushr p1 (8 : Int32)) &&& (31 : Int32))))] [(.int ((256 : Int32) ||| ((((1 : Int32) + ((p1 &&& (2147483647 : Int32)) % (7 : Int32))) <<< ((5 : Int32) &&& 31)) ||| ((XT.ushr p1 (8 : Int32)) &&& (31 : Int32)))))])) _
          refine XS.istore X0.here hx rfl (hb hby at_142) rfl (l' := #[.val (.int p0), .val (.int p1), .val (.int p2), .val (.int p3), .val (.int (p0 &&& (3 : Int32))), .val (.int ((256 : Int32) ||| ((((1 : Int32) + ((p1 &&& (2147483647 : Int32)) % (7 : Int32))) <<< ((5 : Int32) &&& 31)) ||| ((XT.ushr p1 (8 : Int32)) &&& (31 : Int32))))), .unset, .unset, .val (.int ((1 : Int32) + ((p1 &&& (2147483647 : Int32)) % (7 : Int32)))), .val (.int ((XT.ushr p1 (8 : Int32)) &&& (31 : Int32))), .val (.int ((((1 : Int32) + ((p1 &&& (2147483647 : Int32)) % (7 : Int32))) <<< ((5 : Int32) &&& 31)) ||| ((XT.ushr p1 (8 : Int32)) &&& (31 : Int32))))]) rfl ?_
          show Steps p.tables e below (s₁.setTop (mkF m 144 #[.val (.int p0), .val (.int p1), .val (.int p2), .val (.int p3), .val (.int (p0 &&& (3 : Int32))), .val (.int ((256 : Int32) ||| ((((1 : Int32) + ((p1 &&& (2147483647 : Int32)) % (7 : Int32))) <<< ((5 : Int32) &&& 31)) ||| ((XT.ushr p1 (8 : Int32)) &&& (31 : Int32))))), .unset, .unset, .val (.int ((1 : Int32) + ((p1 &&& (2147483647 : Int32)) % (7 : Int32)))), .val (.int ((XT.ushr p1 (8 : Int32)) &&& (31 : Int32))), .val (.int ((((1 : Int32) + ((p1 &&& (2147483647 : Int32)) % (7 : Int32))) <<< ((5 : Int32) &&& 31)) ||| ((XT.ushr p1 (8 : Int32)) &&& (31 : Int32))))] [])) _
          refine Jvm.Stand.ldc2J X0 hx hown (mvT hZ (hw _ (List.mem_of_getElem? (i := 8) rfl))) (g := (mkF m 144 #[.val (.int p0), .val (.int p1), .val (.int p2), .val (.int p3), .val (.int (p0 &&& (3 : Int32))), .val (.int ((256 : Int32) ||| ((((1 : Int32) + ((p1 &&& (2147483647 : Int32)) % (7 : Int32))) <<< ((5 : Int32) &&& 31)) ||| ((XT.ushr p1 (8 : Int32)) &&& (31 : Int32))))), .unset, .unset, .val (.int ((1 : Int32) + ((p1 &&& (2147483647 : Int32)) % (7 : Int32)))), .val (.int ((XT.ushr p1 (8 : Int32)) &&& (31 : Int32))), .val (.int ((((1 : Int32) + ((p1 &&& (2147483647 : Int32)) % (7 : Int32))) <<< ((5 : Int32) &&& 31)) ||| ((XT.ushr p1 (8 : Int32)) &&& (31 : Int32))))] [])) rfl (hb hby at_144) ?_
          show Steps p.tables e below (s₁.setTop (mkF m 147 #[.val (.int p0), .val (.int p1), .val (.int p2), .val (.int p3), .val (.int (p0 &&& (3 : Int32))), .val (.int ((256 : Int32) ||| ((((1 : Int32) + ((p1 &&& (2147483647 : Int32)) % (7 : Int32))) <<< ((5 : Int32) &&& 31)) ||| ((XT.ushr p1 (8 : Int32)) &&& (31 : Int32))))), .unset, .unset, .val (.int ((1 : Int32) + ((p1 &&& (2147483647 : Int32)) % (7 : Int32)))), .val (.int ((XT.ushr p1 (8 : Int32)) &&& (31 : Int32))), .val (.int ((((1 : Int32) + ((p1 &&& (2147483647 : Int32)) % (7 : Int32))) <<< ((5 : Int32) &&& 31)) ||| ((XT.ushr p1 (8 : Int32)) &&& (31 : Int32))))] [(.long (16 : Int64))])) _
          refine XS.iload X0.here hx rfl (hb hby at_147) rfl ?_
          show Steps p.tables e below (s₁.setTop (mkF m 149 #[.val (.int p0), .val (.int p1), .val (.int p2), .val (.int p3), .val (.int (p0 &&& (3 : Int32))), .val (.int ((256 : Int32) ||| ((((1 : Int32) + ((p1 &&& (2147483647 : Int32)) % (7 : Int32))) <<< ((5 : Int32) &&& 31)) ||| ((XT.ushr p1 (8 : Int32)) &&& (31 : Int32))))), .unset, .unset, .val (.int ((1 : Int32) + ((p1 &&& (2147483647 : Int32)) % (7 : Int32)))), .val (.int ((XT.ushr p1 (8 : Int32)) &&& (31 : Int32))), .val (.int ((((1 : Int32) + ((p1 &&& (2147483647 : Int32)) % (7 : Int32))) <<< ((5 : Int32) &&& 31)) ||| ((XT.ushr p1 (8 : Int32)) &&& (31 : Int32))))] [(.int ((((1 : Int32) + ((p1 &&& (2147483647 : Int32)) % (7 : Int32))) <<< ((5 : Int32) &&& 31)) ||| ((XT.ushr p1 (8 : Int32)) &&& (31 : Int32)))), (.long (16 : Int64))])) _
          refine XT.i2l X0.here hx rfl (hb hby at_149) rfl ?_
          show Steps p.tables e below (s₁.setTop (mkF m 150 #[.val (.int p0), .val (.int p1), .val (.int p2), .val (.int p3), .val (.int (p0 &&& (3 : Int32))), .val (.int ((256 : Int32) ||| ((((1 : Int32) + ((p1 &&& (2147483647 : Int32)) % (7 : Int32))) <<< ((5 : Int32) &&& 31)) ||| ((XT.ushr p1 (8 : Int32)) &&& (31 : Int32))))), .unset, .unset, .val (.int ((1 : Int32) + ((p1 &&& (2147483647 : Int32)) % (7 : Int32)))), .val (.int ((XT.ushr p1 (8 : Int32)) &&& (31 : Int32))), .val (.int ((((1 : Int32) + ((p1 &&& (2147483647 : Int32)) % (7 : Int32))) <<< ((5 : Int32) &&& 31)) ||| ((XT.ushr p1 (8 : Int32)) &&& (31 : Int32))))] [(.long ((((1 : Int32) + ((p1 &&& (2147483647 : Int32)) % (7 : Int32))) <<< ((5 : Int32) &&& 31)) ||| ((XT.ushr p1 (8 : Int32)) &&& (31 : Int32))).toInt64), (.long (16 : Int64))])) _
          refine XT.lmul X0.here hx rfl (hb hby at_150) rfl ?_
          show Steps p.tables e below (s₁.setTop (mkF m 151 #[.val (.int p0), .val (.int p1), .val (.int p2), .val (.int p3), .val (.int (p0 &&& (3 : Int32))), .val (.int ((256 : Int32) ||| ((((1 : Int32) + ((p1 &&& (2147483647 : Int32)) % (7 : Int32))) <<< ((5 : Int32) &&& 31)) ||| ((XT.ushr p1 (8 : Int32)) &&& (31 : Int32))))), .unset, .unset, .val (.int ((1 : Int32) + ((p1 &&& (2147483647 : Int32)) % (7 : Int32)))), .val (.int ((XT.ushr p1 (8 : Int32)) &&& (31 : Int32))), .val (.int ((((1 : Int32) + ((p1 &&& (2147483647 : Int32)) % (7 : Int32))) <<< ((5 : Int32) &&& 31)) ||| ((XT.ushr p1 (8 : Int32)) &&& (31 : Int32))))] [(.long ((16 : Int64) * ((((1 : Int32) + ((p1 &&& (2147483647 : Int32)) % (7 : Int32))) <<< ((5 : Int32) &&& 31)) ||| ((XT.ushr p1 (8 : Int32)) &&& (31 : Int32))).toInt64))])) _
          refine XT.lstore X0.here hx rfl (hb hby at_151) rfl (l' := #[.val (.int p0), .val (.int p1), .val (.int p2), .val (.int p3), .val (.int (p0 &&& (3 : Int32))), .val (.int ((256 : Int32) ||| ((((1 : Int32) + ((p1 &&& (2147483647 : Int32)) % (7 : Int32))) <<< ((5 : Int32) &&& 31)) ||| ((XT.ushr p1 (8 : Int32)) &&& (31 : Int32))))), .val (.long ((16 : Int64) * ((((1 : Int32) + ((p1 &&& (2147483647 : Int32)) % (7 : Int32))) <<< ((5 : Int32) &&& 31)) ||| ((XT.ushr p1 (8 : Int32)) &&& (31 : Int32))).toInt64)), .second, .val (.int ((1 : Int32) + ((p1 &&& (2147483647 : Int32)) % (7 : Int32)))), .val (.int ((XT.ushr p1 (8 : Int32)) &&& (31 : Int32))), .val (.int ((((1 : Int32) + ((p1 &&& (2147483647 : Int32)) % (7 : Int32))) <<< ((5 : Int32) &&& 31)) ||| ((XT.ushr p1 (8 : Int32)) &&& (31 : Int32))))]) rfl ?_
          show Steps p.tables e below (s₁.setTop (mkF m 153 #[.val (.int p0), .val (.int p1), .val (.int p2), .val (.int p3), .val (.int (p0 &&& (3 : Int32))), .val (.int ((256 : Int32) ||| ((((1 : Int32) + ((p1 &&& (2147483647 : Int32)) % (7 : Int32))) <<< ((5 : Int32) &&& 31)) ||| ((XT.ushr p1 (8 : Int32)) &&& (31 : Int32))))), .val (.long ((16 : Int64) * ((((1 : Int32) + ((p1 &&& (2147483647 : Int32)) % (7 : Int32))) <<< ((5 : Int32) &&& 31)) ||| ((XT.ushr p1 (8 : Int32)) &&& (31 : Int32))).toInt64)), .second, .val (.int ((1 : Int32) + ((p1 &&& (2147483647 : Int32)) % (7 : Int32)))), .val (.int ((XT.ushr p1 (8 : Int32)) &&& (31 : Int32))), .val (.int ((((1 : Int32) + ((p1 &&& (2147483647 : Int32)) % (7 : Int32))) <<< ((5 : Int32) &&& 31)) ||| ((XT.ushr p1 (8 : Int32)) &&& (31 : Int32))))] [])) _
          refine XS.iloadN X0.here hx rfl (hb hby at_153) rfl ?_
          show Steps p.tables e below (s₁.setTop (mkF m 154 #[.val (.int p0), .val (.int p1), .val (.int p2), .val (.int p3), .val (.int (p0 &&& (3 : Int32))), .val (.int ((256 : Int32) ||| ((((1 : Int32) + ((p1 &&& (2147483647 : Int32)) % (7 : Int32))) <<< ((5 : Int32) &&& 31)) ||| ((XT.ushr p1 (8 : Int32)) &&& (31 : Int32))))), .val (.long ((16 : Int64) * ((((1 : Int32) + ((p1 &&& (2147483647 : Int32)) % (7 : Int32))) <<< ((5 : Int32) &&& 31)) ||| ((XT.ushr p1 (8 : Int32)) &&& (31 : Int32))).toInt64)), .second, .val (.int ((1 : Int32) + ((p1 &&& (2147483647 : Int32)) % (7 : Int32)))), .val (.int ((XT.ushr p1 (8 : Int32)) &&& (31 : Int32))), .val (.int ((((1 : Int32) + ((p1 &&& (2147483647 : Int32)) % (7 : Int32))) <<< ((5 : Int32) &&& 31)) ||| ((XT.ushr p1 (8 : Int32)) &&& (31 : Int32))))] [(.int p2)])) _
          refine XS.bipush X0.here hx rfl (hb hby at_154) ?_
          show Steps p.tables e below (s₁.setTop (mkF m 156 #[.val (.int p0), .val (.int p1), .val (.int p2), .val (.int p3), .val (.int (p0 &&& (3 : Int32))), .val (.int ((256 : Int32) ||| ((((1 : Int32) + ((p1 &&& (2147483647 : Int32)) % (7 : Int32))) <<< ((5 : Int32) &&& 31)) ||| ((XT.ushr p1 (8 : Int32)) &&& (31 : Int32))))), .val (.long ((16 : Int64) * ((((1 : Int32) + ((p1 &&& (2147483647 : Int32)) % (7 : Int32))) <<< ((5 : Int32) &&& 31)) ||| ((XT.ushr p1 (8 : Int32)) &&& (31 : Int32))).toInt64)), .second, .val (.int ((1 : Int32) + ((p1 &&& (2147483647 : Int32)) % (7 : Int32)))), .val (.int ((XT.ushr p1 (8 : Int32)) &&& (31 : Int32))), .val (.int ((((1 : Int32) + ((p1 &&& (2147483647 : Int32)) % (7 : Int32))) <<< ((5 : Int32) &&& 31)) ||| ((XT.ushr p1 (8 : Int32)) &&& (31 : Int32))))] [(.int (29 : Int32)), (.int p2)])) _
          refine XT.ishl X0.here hx rfl (hb hby at_156) rfl ?_
          show Steps p.tables e below (s₁.setTop (mkF m 157 #[.val (.int p0), .val (.int p1), .val (.int p2), .val (.int p3), .val (.int (p0 &&& (3 : Int32))), .val (.int ((256 : Int32) ||| ((((1 : Int32) + ((p1 &&& (2147483647 : Int32)) % (7 : Int32))) <<< ((5 : Int32) &&& 31)) ||| ((XT.ushr p1 (8 : Int32)) &&& (31 : Int32))))), .val (.long ((16 : Int64) * ((((1 : Int32) + ((p1 &&& (2147483647 : Int32)) % (7 : Int32))) <<< ((5 : Int32) &&& 31)) ||| ((XT.ushr p1 (8 : Int32)) &&& (31 : Int32))).toInt64)), .second, .val (.int ((1 : Int32) + ((p1 &&& (2147483647 : Int32)) % (7 : Int32)))), .val (.int ((XT.ushr p1 (8 : Int32)) &&& (31 : Int32))), .val (.int ((((1 : Int32) + ((p1 &&& (2147483647 : Int32)) % (7 : Int32))) <<< ((5 : Int32) &&& 31)) ||| ((XT.ushr p1 (8 : Int32)) &&& (31 : Int32))))] [(.int (p2 <<< ((29 : Int32) &&& 31)))])) _
          refine XS.iload X0.here hx rfl (hb hby at_157) rfl ?_
          show Steps p.tables e below (s₁.setTop (mkF m 159 #[.val (.int p0), .val (.int p1), .val (.int p2), .val (.int p3), .val (.int (p0 &&& (3 : Int32))), .val (.int ((256 : Int32) ||| ((((1 : Int32) + ((p1 &&& (2147483647 : Int32)) % (7 : Int32))) <<< ((5 : Int32) &&& 31)) ||| ((XT.ushr p1 (8 : Int32)) &&& (31 : Int32))))), .val (.long ((16 : Int64) * ((((1 : Int32) + ((p1 &&& (2147483647 : Int32)) % (7 : Int32))) <<< ((5 : Int32) &&& 31)) ||| ((XT.ushr p1 (8 : Int32)) &&& (31 : Int32))).toInt64)), .second, .val (.int ((1 : Int32) + ((p1 &&& (2147483647 : Int32)) % (7 : Int32)))), .val (.int ((XT.ushr p1 (8 : Int32)) &&& (31 : Int32))), .val (.int ((((1 : Int32) + ((p1 &&& (2147483647 : Int32)) % (7 : Int32))) <<< ((5 : Int32) &&& 31)) ||| ((XT.ushr p1 (8 : Int32)) &&& (31 : Int32))))] [(.int ((256 : Int32) ||| ((((1 : Int32) + ((p1 &&& (2147483647 : Int32)) % (7 : Int32))) <<< ((5 : Int32) &&& 31)) ||| ((XT.ushr p1 (8 : Int32)) &&& (31 : Int32))))), (.int (p2 <<< ((29 : Int32) &&& 31)))])) _
          refine XS.bipush X0.here hx rfl (hb hby at_159) ?_
          show Steps p.tables e below (s₁.setTop (mkF m 161 #[.val (.int p0), .val (.int p1), .val (.int p2), .val (.int p3), .val (.int (p0 &&& (3 : Int32))), .val (.int ((256 : Int32) ||| ((((1 : Int32) + ((p1 &&& (2147483647 : Int32)) % (7 : Int32))) <<< ((5 : Int32) &&& 31)) ||| ((XT.ushr p1 (8 : Int32)) &&& (31 : Int32))))), .val (.long ((16 : Int64) * ((((1 : Int32) + ((p1 &&& (2147483647 : Int32)) % (7 : Int32))) <<< ((5 : Int32) &&& 31)) ||| ((XT.ushr p1 (8 : Int32)) &&& (31 : Int32))).toInt64)), .second, .val (.int ((1 : Int32) + ((p1 &&& (2147483647 : Int32)) % (7 : Int32)))), .val (.int ((XT.ushr p1 (8 : Int32)) &&& (31 : Int32))), .val (.int ((((1 : Int32) + ((p1 &&& (2147483647 : Int32)) % (7 : Int32))) <<< ((5 : Int32) &&& 31)) ||| ((XT.ushr p1 (8 : Int32)) &&& (31 : Int32))))] [(.int (20 : Int32)), (.int ((256 : Int32) ||| ((((1 : Int32) + ((p1 &&& (2147483647 : Int32)) % (7 : Int32))) <<< ((5 : Int32) &&& 31)) ||| ((XT.ushr p1 (8 : Int32)) &&& (31 : Int32))))), (.int (p2 <<< ((29 : Int32) &&& 31)))])) _
          refine XT.ishl X0.here hx rfl (hb hby at_161) rfl ?_
          show Steps p.tables e below (s₁.setTop (mkF m 162 #[.val (.int p0), .val (.int p1), .val (.int p2), .val (.int p3), .val (.int (p0 &&& (3 : Int32))), .val (.int ((256 : Int32) ||| ((((1 : Int32) + ((p1 &&& (2147483647 : Int32)) % (7 : Int32))) <<< ((5 : Int32) &&& 31)) ||| ((XT.ushr p1 (8 : Int32)) &&& (31 : Int32))))), .val (.long ((16 : Int64) * ((((1 : Int32) + ((p1 &&& (2147483647 : Int32)) % (7 : Int32))) <<< ((5 : Int32) &&& 31)) ||| ((XT.ushr p1 (8 : Int32)) &&& (31 : Int32))).toInt64)), .second, .val (.int ((1 : Int32) + ((p1 &&& (2147483647 : Int32)) % (7 : Int32)))), .val (.int ((XT.ushr p1 (8 : Int32)) &&& (31 : Int32))), .val (.int ((((1 : Int32) + ((p1 &&& (2147483647 : Int32)) % (7 : Int32))) <<< ((5 : Int32) &&& 31)) ||| ((XT.ushr p1 (8 : Int32)) &&& (31 : Int32))))] [(.int (((256 : Int32) ||| ((((1 : Int32) + ((p1 &&& (2147483647 : Int32)) % (7 : Int32))) <<< ((5 : Int32) &&& 31)) ||| ((XT.ushr p1 (8 : Int32)) &&& (31 : Int32)))) <<< ((20 : Int32) &&& 31))), (.int (p2 <<< ((29 : Int32) &&& 31)))])) _
          refine XT.ior X0.here hx rfl (hb hby at_162) rfl ?_
          show Steps p.tables e below (s₁.setTop (mkF m 163 #[.val (.int p0), .val (.int p1), .val (.int p2), .val (.int p3), .val (.int (p0 &&& (3 : Int32))), .val (.int ((256 : Int32) ||| ((((1 : Int32) + ((p1 &&& (2147483647 : Int32)) % (7 : Int32))) <<< ((5 : Int32) &&& 31)) ||| ((XT.ushr p1 (8 : Int32)) &&& (31 : Int32))))), .val (.long ((16 : Int64) * ((((1 : Int32) + ((p1 &&& (2147483647 : Int32)) % (7 : Int32))) <<< ((5 : Int32) &&& 31)) ||| ((XT.ushr p1 (8 : Int32)) &&& (31 : Int32))).toInt64)), .second, .val (.int ((1 : Int32) + ((p1 &&& (2147483647 : Int32)) % (7 : Int32)))), .val (.int ((XT.ushr p1 (8 : Int32)) &&& (31 : Int32))), .val (.int ((((1 : Int32) + ((p1 &&& (2147483647 : Int32)) % (7 : Int32))) <<< ((5 : Int32) &&& 31)) ||| ((XT.ushr p1 (8 : Int32)) &&& (31 : Int32))))] [(.int ((p2 <<< ((29 : Int32) &&& 31)) ||| (((256 : Int32) ||| ((((1 : Int32) + ((p1 &&& (2147483647 : Int32)) % (7 : Int32))) <<< ((5 : Int32) &&& 31)) ||| ((XT.ushr p1 (8 : Int32)) &&& (31 : Int32)))) <<< ((20 : Int32) &&& 31))))])) _
          refine XS.iloadN X0.here hx rfl (hb hby at_163) rfl ?_
          show Steps p.tables e below (s₁.setTop (mkF m 164 #[.val (.int p0), .val (.int p1), .val (.int p2), .val (.int p3), .val (.int (p0 &&& (3 : Int32))), .val (.int ((256 : Int32) ||| ((((1 : Int32) + ((p1 &&& (2147483647 : Int32)) % (7 : Int32))) <<< ((5 : Int32) &&& 31)) ||| ((XT.ushr p1 (8 : Int32)) &&& (31 : Int32))))), .val (.long ((16 : Int64) * ((((1 : Int32) + ((p1 &&& (2147483647 : Int32)) % (7 : Int32))) <<< ((5 : Int32) &&& 31)) ||| ((XT.ushr p1 (8 : Int32)) &&& (31 : Int32))).toInt64)), .second, .val (.int ((1 : Int32) + ((p1 &&& (2147483647 : Int32)) % (7 : Int32)))), .val (.int ((XT.ushr p1 (8 : Int32)) &&& (31 : Int32))), .val (.int ((((1 : Int32) + ((p1 &&& (2147483647 : Int32)) % (7 : Int32))) <<< ((5 : Int32) &&& 31)) ||| ((XT.ushr p1 (8 : Int32)) &&& (31 : Int32))))] [(.int p3), (.int ((p2 <<< ((29 : Int32) &&& 31)) ||| (((256 : Int32) ||| ((((1 : Int32) + ((p1 &&& (2147483647 : Int32)) % (7 : Int32))) <<< ((5 : Int32) &&& 31)) ||| ((XT.ushr p1 (8 : Int32)) &&& (31 : Int32)))) <<< ((20 : Int32) &&& 31))))])) _
          refine Jvm.Stand.ldcI X0 hx hown (mvT hZ (hw _ (List.mem_of_getElem? (i := 1) rfl))) (g := (mkF m 164 #[.val (.int p0), .val (.int p1), .val (.int p2), .val (.int p3), .val (.int (p0 &&& (3 : Int32))), .val (.int ((256 : Int32) ||| ((((1 : Int32) + ((p1 &&& (2147483647 : Int32)) % (7 : Int32))) <<< ((5 : Int32) &&& 31)) ||| ((XT.ushr p1 (8 : Int32)) &&& (31 : Int32))))), .val (.long ((16 : Int64) * ((((1 : Int32) + ((p1 &&& (2147483647 : Int32)) % (7 : Int32))) <<< ((5 : Int32) &&& 31)) ||| ((XT.ushr p1 (8 : Int32)) &&& (31 : Int32))).toInt64)), .second, .val (.int ((1 : Int32) + ((p1 &&& (2147483647 : Int32)) % (7 : Int32)))), .val (.int ((XT.ushr p1 (8 : Int32)) &&& (31 : Int32))), .val (.int ((((1 : Int32) + ((p1 &&& (2147483647 : Int32)) % (7 : Int32))) <<< ((5 : Int32) &&& 31)) ||| ((XT.ushr p1 (8 : Int32)) &&& (31 : Int32))))] [(.int p3), (.int ((p2 <<< ((29 : Int32) &&& 31)) ||| (((256 : Int32) ||| ((((1 : Int32) + ((p1 &&& (2147483647 : Int32)) % (7 : Int32))) <<< ((5 : Int32) &&& 31)) ||| ((XT.ushr p1 (8 : Int32)) &&& (31 : Int32)))) <<< ((20 : Int32) &&& 31))))])) rfl (hb hby at_164) ?_
          show Steps p.tables e below (s₁.setTop (mkF m 166 #[.val (.int p0), .val (.int p1), .val (.int p2), .val (.int p3), .val (.int (p0 &&& (3 : Int32))), .val (.int ((256 : Int32) ||| ((((1 : Int32) + ((p1 &&& (2147483647 : Int32)) % (7 : Int32))) <<< ((5 : Int32) &&& 31)) ||| ((XT.ushr p1 (8 : Int32)) &&& (31 : Int32))))), .val (.long ((16 : Int64) * ((((1 : Int32) + ((p1 &&& (2147483647 : Int32)) % (7 : Int32))) <<< ((5 : Int32) &&& 31)) ||| ((XT.ushr p1 (8 : Int32)) &&& (31 : Int32))).toInt64)), .second, .val (.int ((1 : Int32) + ((p1 &&& (2147483647 : Int32)) % (7 : Int32)))), .val (.int ((XT.ushr p1 (8 : Int32)) &&& (31 : Int32))), .val (.int ((((1 : Int32) + ((p1 &&& (2147483647 : Int32)) % (7 : Int32))) <<< ((5 : Int32) &&& 31)) ||| ((XT.ushr p1 (8 : Int32)) &&& (31 : Int32))))] [(.int (1048575 : Int32)), (.int p3), (.int ((p2 <<< ((29 : Int32) &&& 31)) ||| (((256 : Int32) ||| ((((1 : Int32) + ((p1 &&& (2147483647 : Int32)) % (7 : Int32))) <<< ((5 : Int32) &&& 31)) ||| ((XT.ushr p1 (8 : Int32)) &&& (31 : Int32)))) <<< ((20 : Int32) &&& 31))))])) _
          refine XS.iand X0.here hx rfl (hb hby at_166) rfl ?_
          show Steps p.tables e below (s₁.setTop (mkF m 167 #[.val (.int p0), .val (.int p1), .val (.int p2), .val (.int p3), .val (.int (p0 &&& (3 : Int32))), .val (.int ((256 : Int32) ||| ((((1 : Int32) + ((p1 &&& (2147483647 : Int32)) % (7 : Int32))) <<< ((5 : Int32) &&& 31)) ||| ((XT.ushr p1 (8 : Int32)) &&& (31 : Int32))))), .val (.long ((16 : Int64) * ((((1 : Int32) + ((p1 &&& (2147483647 : Int32)) % (7 : Int32))) <<< ((5 : Int32) &&& 31)) ||| ((XT.ushr p1 (8 : Int32)) &&& (31 : Int32))).toInt64)), .second, .val (.int ((1 : Int32) + ((p1 &&& (2147483647 : Int32)) % (7 : Int32)))), .val (.int ((XT.ushr p1 (8 : Int32)) &&& (31 : Int32))), .val (.int ((((1 : Int32) + ((p1 &&& (2147483647 : Int32)) % (7 : Int32))) <<< ((5 : Int32) &&& 31)) ||| ((XT.ushr p1 (8 : Int32)) &&& (31 : Int32))))] [(.int (p3 &&& (1048575 : Int32))), (.int ((p2 <<< ((29 : Int32) &&& 31)) ||| (((256 : Int32) ||| ((((1 : Int32) + ((p1 &&& (2147483647 : Int32)) % (7 : Int32))) <<< ((5 : Int32) &&& 31)) ||| ((XT.ushr p1 (8 : Int32)) &&& (31 : Int32)))) <<< ((20 : Int32) &&& 31))))])) _
          refine XT.ior X0.here hx rfl (hb hby at_167) rfl ?_
          show Steps p.tables e below (s₁.setTop (mkF m 168 #[.val (.int p0), .val (.int p1), .val (.int p2), .val (.int p3), .val (.int (p0 &&& (3 : Int32))), .val (.int ((256 : Int32) ||| ((((1 : Int32) + ((p1 &&& (2147483647 : Int32)) % (7 : Int32))) <<< ((5 : Int32) &&& 31)) ||| ((XT.ushr p1 (8 : Int32)) &&& (31 : Int32))))), .val (.long ((16 : Int64) * ((((1 : Int32) + ((p1 &&& (2147483647 : Int32)) % (7 : Int32))) <<< ((5 : Int32) &&& 31)) ||| ((XT.ushr p1 (8 : Int32)) &&& (31 : Int32))).toInt64)), .second, .val (.int ((1 : Int32) + ((p1 &&& (2147483647 : Int32)) % (7 : Int32)))), .val (.int ((XT.ushr p1 (8 : Int32)) &&& (31 : Int32))), .val (.int ((((1 : Int32) + ((p1 &&& (2147483647 : Int32)) % (7 : Int32))) <<< ((5 : Int32) &&& 31)) ||| ((XT.ushr p1 (8 : Int32)) &&& (31 : Int32))))] [(.int (((p2 <<< ((29 : Int32) &&& 31)) ||| (((256 : Int32) ||| ((((1 : Int32) + ((p1 &&& (2147483647 : Int32)) % (7 : Int32))) <<< ((5 : Int32) &&& 31)) ||| ((XT.ushr p1 (8 : Int32)) &&& (31 : Int32)))) <<< ((20 : Int32) &&& 31))) ||| (p3 &&& (1048575 : Int32))))])) _
          refine XS.istore X0.here hx rfl (hb hby at_168) rfl (l' := #[.val (.int p0), .val (.int p1), .val (.int p2), .val (.int p3), .val (.int (p0 &&& (3 : Int32))), .val (.int ((256 : Int32) ||| ((((1 : Int32) + ((p1 &&& (2147483647 : Int32)) % (7 : Int32))) <<< ((5 : Int32) &&& 31)) ||| ((XT.ushr p1 (8 : Int32)) &&& (31 : Int32))))), .val (.long ((16 : Int64) * ((((1 : Int32) + ((p1 &&& (2147483647 : Int32)) % (7 : Int32))) <<< ((5 : Int32) &&& 31)) ||| ((XT.ushr p1 (8 : Int32)) &&& (31 : Int32))).toInt64)), .second, .val (.int (((p2 <<< ((29 : Int32) &&& 31)) ||| (((256 : Int32) ||| ((((1 : Int32) + ((p1 &&& (2147483647 : Int32)) % (7 : Int32))) <<< ((5 : Int32) &&& 31)) ||| ((XT.ushr p1 (8 : Int32)) &&& (31 : Int32)))) <<< ((20 : Int32) &&& 31))) ||| (p3 &&& (1048575 : Int32)))), .val (.int ((XT.ushr p1 (8 : Int32)) &&& (31 : Int32))), .val (.int ((((1 : Int32) + ((p1 &&& (2147483647 : Int32)) % (7 : Int32))) <<< ((5 : Int32) &&& 31)) ||| ((XT.ushr p1 (8 : Int32)) &&& (31 : Int32))))]) rfl ?_
          show Steps p.tables e below (s₁.setTop (mkF m 170 #[.val (.int p0), .val (.int p1), .val (.int p2), .val (.int p3), .val (.int (p0 &&& (3 : Int32))), .val (.int ((256 : Int32) ||| ((((1 : Int32) + ((p1 &&& (2147483647 : Int32)) % (7 : Int32))) <<< ((5 : Int32) &&& 31)) ||| ((XT.ushr p1 (8 : Int32)) &&& (31 : Int32))))), .val (.long ((16 : Int64) * ((((1 : Int32) + ((p1 &&& (2147483647 : Int32)) % (7 : Int32))) <<< ((5 : Int32) &&& 31)) ||| ((XT.ushr p1 (8 : Int32)) &&& (31 : Int32))).toInt64)), .second, .val (.int (((p2 <<< ((29 : Int32) &&& 31)) ||| (((256 : Int32) ||| ((((1 : Int32) + ((p1 &&& (2147483647 : Int32)) % (7 : Int32))) <<< ((5 : Int32) &&& 31)) ||| ((XT.ushr p1 (8 : Int32)) &&& (31 : Int32)))) <<< ((20 : Int32) &&& 31))) ||| (p3 &&& (1048575 : Int32)))), .val (.int ((XT.ushr p1 (8 : Int32)) &&& (31 : Int32))), .val (.int ((((1 : Int32) + ((p1 &&& (2147483647 : Int32)) % (7 : Int32))) <<< ((5 : Int32) &&& 31)) ||| ((XT.ushr p1 (8 : Int32)) &&& (31 : Int32))))] [])) _
          refine XS.iload X0.here hx rfl (hb hby at_170) rfl ?_
          show Steps p.tables e below (s₁.setTop (mkF m 172 #[.val (.int p0), .val (.int p1), .val (.int p2), .val (.int p3), .val (.int (p0 &&& (3 : Int32))), .val (.int ((256 : Int32) ||| ((((1 : Int32) + ((p1 &&& (2147483647 : Int32)) % (7 : Int32))) <<< ((5 : Int32) &&& 31)) ||| ((XT.ushr p1 (8 : Int32)) &&& (31 : Int32))))), .val (.long ((16 : Int64) * ((((1 : Int32) + ((p1 &&& (2147483647 : Int32)) % (7 : Int32))) <<< ((5 : Int32) &&& 31)) ||| ((XT.ushr p1 (8 : Int32)) &&& (31 : Int32))).toInt64)), .second, .val (.int (((p2 <<< ((29 : Int32) &&& 31)) ||| (((256 : Int32) ||| ((((1 : Int32) + ((p1 &&& (2147483647 : Int32)) % (7 : Int32))) <<< ((5 : Int32) &&& 31)) ||| ((XT.ushr p1 (8 : Int32)) &&& (31 : Int32)))) <<< ((20 : Int32) &&& 31))) ||| (p3 &&& (1048575 : Int32)))), .val (.int ((XT.ushr p1 (8 : Int32)) &&& (31 : Int32))), .val (.int ((((1 : Int32) + ((p1 &&& (2147483647 : Int32)) % (7 : Int32))) <<< ((5 : Int32) &&& 31)) ||| ((XT.ushr p1 (8 : Int32)) &&& (31 : Int32))))] [(.int (((p2 <<< ((29 : Int32) &&& 31)) ||| (((256 : Int32) ||| ((((1 : Int32) + ((p1 &&& (2147483647 : Int32)) % (7 : Int32))) <<< ((5 : Int32) &&& 31)) ||| ((XT.ushr p1 (8 : Int32)) &&& (31 : Int32)))) <<< ((20 : Int32) &&& 31))) ||| (p3 &&& (1048575 : Int32))))])) _
          refine st10 _ ?_
          show Steps p.tables e below (T10.setTop (mkF m 175 #[.val (.int p0), .val (.int p1), .val (.int p2), .val (.int p3), .val (.int (p0 &&& (3 : Int32))), .val (.int ((256 : Int32) ||| ((((1 : Int32) + ((p1 &&& (2147483647 : Int32)) % (7 : Int32))) <<< ((5 : Int32) &&& 31)) ||| ((XT.ushr p1 (8 : Int32)) &&& (31 : Int32))))), .val (.long ((16 : Int64) * ((((1 : Int32) + ((p1 &&& (2147483647 : Int32)) % (7 : Int32))) <<< ((5 : Int32) &&& 31)) ||| ((XT.ushr p1 (8 : Int32)) &&& (31 : Int32))).toInt64)), .second, .val (.int (((p2 <<< ((29 : Int32) &&& 31)) ||| (((256 : Int32) ||| ((((1 : Int32) + ((p1 &&& (2147483647 : Int32)) % (7 : Int32))) <<< ((5 : Int32) &&& 31)) ||| ((XT.ushr p1 (8 : Int32)) &&& (31 : Int32)))) <<< ((20 : Int32) &&& 31))) ||| (p3 &&& (1048575 : Int32)))), .val (.int ((XT.ushr p1 (8 : Int32)) &&& (31 : Int32))), .val (.int ((((1 : Int32) + ((p1 &&& (2147483647 : Int32)) % (7 : Int32))) <<< ((5 : Int32) &&& 31)) ||| ((XT.ushr p1 (8 : Int32)) &&& (31 : Int32))))] [(.long (own_bl ((XT.ushr (((p2 <<< ((29 : Int32) &&& 31)) ||| (((256 : Int32) ||| ((((1 : Int32) + ((p1 &&& (2147483647 : Int32)) % (7 : Int32))) <<< ((5 : Int32) &&& 31)) ||| ((XT.ushr p1 (8 : Int32)) &&& (31 : Int32)))) <<< ((20 : Int32) &&& 31))) ||| (p3 &&& (1048575 : Int32))) (20 : Int32)) &&& (511 : Int32))))])) _
          refine XT.lload X10.here hx rfl (hb hby at_175) rfl ?_
          show Steps p.tables e below (T10.setTop (mkF m 177 #[.val (.int p0), .val (.int p1), .val (.int p2), .val (.int p3), .val (.int (p0 &&& (3 : Int32))), .val (.int ((256 : Int32) ||| ((((1 : Int32) + ((p1 &&& (2147483647 : Int32)) % (7 : Int32))) <<< ((5 : Int32) &&& 31)) ||| ((XT.ushr p1 (8 : Int32)) &&& (31 : Int32))))), .val (.long ((16 : Int64) * ((((1 : Int32) + ((p1 &&& (2147483647 : Int32)) % (7 : Int32))) <<< ((5 : Int32) &&& 31)) ||| ((XT.ushr p1 (8 : Int32)) &&& (31 : Int32))).toInt64)), .second, .val (.int (((p2 <<< ((29 : Int32) &&& 31)) ||| (((256 : Int32) ||| ((((1 : Int32) + ((p1 &&& (2147483647 : Int32)) % (7 : Int32))) <<< ((5 : Int32) &&& 31)) ||| ((XT.ushr p1 (8 : Int32)) &&& (31 : Int32)))) <<< ((20 : Int32) &&& 31))) ||| (p3 &&& (1048575 : Int32)))), .val (.int ((XT.ushr p1 (8 : Int32)) &&& (31 : Int32))), .val (.int ((((1 : Int32) + ((p1 &&& (2147483647 : Int32)) % (7 : Int32))) <<< ((5 : Int32) &&& 31)) ||| ((XT.ushr p1 (8 : Int32)) &&& (31 : Int32))))] [(.long ((16 : Int64) * ((((1 : Int32) + ((p1 &&& (2147483647 : Int32)) % (7 : Int32))) <<< ((5 : Int32) &&& 31)) ||| ((XT.ushr p1 (8 : Int32)) &&& (31 : Int32))).toInt64)), (.long (own_bl ((XT.ushr (((p2 <<< ((29 : Int32) &&& 31)) ||| (((256 : Int32) ||| ((((1 : Int32) + ((p1 &&& (2147483647 : Int32)) % (7 : Int32))) <<< ((5 : Int32) &&& 31)) ||| ((XT.ushr p1 (8 : Int32)) &&& (31 : Int32)))) <<< ((20 : Int32) &&& 31))) ||| (p3 &&& (1048575 : Int32))) (20 : Int32)) &&& (511 : Int32))))])) _
          refine XT.lcmp X10.here hx rfl (hb hby at_177) rfl ?_
          show Steps p.tables e below (T10.setTop (mkF m 178 #[.val (.int p0), .val (.int p1), .val (.int p2), .val (.int p3), .val (.int (p0 &&& (3 : Int32))), .val (.int ((256 : Int32) ||| ((((1 : Int32) + ((p1 &&& (2147483647 : Int32)) % (7 : Int32))) <<< ((5 : Int32) &&& 31)) ||| ((XT.ushr p1 (8 : Int32)) &&& (31 : Int32))))), .val (.long ((16 : Int64) * ((((1 : Int32) + ((p1 &&& (2147483647 : Int32)) % (7 : Int32))) <<< ((5 : Int32) &&& 31)) ||| ((XT.ushr p1 (8 : Int32)) &&& (31 : Int32))).toInt64)), .second, .val (.int (((p2 <<< ((29 : Int32) &&& 31)) ||| (((256 : Int32) ||| ((((1 : Int32) + ((p1 &&& (2147483647 : Int32)) % (7 : Int32))) <<< ((5 : Int32) &&& 31)) ||| ((XT.ushr p1 (8 : Int32)) &&& (31 : Int32)))) <<< ((20 : Int32) &&& 31))) ||| (p3 &&& (1048575 : Int32)))), .val (.int ((XT.ushr p1 (8 : Int32)) &&& (31 : Int32))), .val (.int ((((1 : Int32) + ((p1 &&& (2147483647 : Int32)) % (7 : Int32))) <<< ((5 : Int32) &&& 31)) ||| ((XT.ushr p1 (8 : Int32)) &&& (31 : Int32))))] [(.int (XT.cmpL (own_bl ((XT.ushr (((p2 <<< ((29 : Int32) &&& 31)) ||| (((256 : Int32) ||| ((((1 : Int32) + ((p1 &&& (2147483647 : Int32)) % (7 : Int32))) <<< ((5 : Int32) &&& 31)) ||| ((XT.ushr p1 (8 : Int32)) &&& (31 : Int32)))) <<< ((20 : Int32) &&& 31))) ||| (p3 &&& (1048575 : Int32))) (20 : Int32)) &&& (511 : Int32))) ((16 : Int64) * ((((1 : Int32) + ((p1 &&& (2147483647 : Int32)) % (7 : Int32))) <<< ((5 : Int32) &&& 31)) ||| ((XT.ushr p1 (8 : Int32)) &&& (31 : Int32))).toInt64)))])) _
          refine XS.ifNo X10.here hx rfl (hb hby at_178) rfl (XT.ll_ne_f (own_p3 p2 p3 p1)) ?_
          show Steps p.tables e below (T10.setTop (mkF m 181 #[.val (.int p0), .val (.int p1), .val (.int p2), .val (.int p3), .val (.int (p0 &&& (3 : Int32))), .val (.int ((256 : Int32) ||| ((((1 : Int32) + ((p1 &&& (2147483647 : Int32)) % (7 : Int32))) <<< ((5 : Int32) &&& 31)) ||| ((XT.ushr p1 (8 : Int32)) &&& (31 : Int32))))), .val (.long ((16 : Int64) * ((((1 : Int32) + ((p1 &&& (2147483647 : Int32)) % (7 : Int32))) <<< ((5 : Int32) &&& 31)) ||| ((XT.ushr p1 (8 : Int32)) &&& (31 : Int32))).toInt64)), .second, .val (.int (((p2 <<< ((29 : Int32) &&& 31)) ||| (((256 : Int32) ||| ((((1 : Int32) + ((p1 &&& (2147483647 : Int32)) % (7 : Int32))) <<< ((5 : Int32) &&& 31)) ||| ((XT.ushr p1 (8 : Int32)) &&& (31 : Int32)))) <<< ((20 : Int32) &&& 31))) ||| (p3 &&& (1048575 : Int32)))), .val (.int ((XT.ushr p1 (8 : Int32)) &&& (31 : Int32))), .val (.int ((((1 : Int32) + ((p1 &&& (2147483647 : Int32)) % (7 : Int32))) <<< ((5 : Int32) &&& 31)) ||| ((XT.ushr p1 (8 : Int32)) &&& (31 : Int32))))] [])) _
          refine XS.iconst X10.here hx rfl (hb hby at_181) ?_
          show Steps p.tables e below (T10.setTop (mkF m 182 #[.val (.int p0), .val (.int p1), .val (.int p2), .val (.int p3), .val (.int (p0 &&& (3 : Int32))), .val (.int ((256 : Int32) ||| ((((1 : Int32) + ((p1 &&& (2147483647 : Int32)) % (7 : Int32))) <<< ((5 : Int32) &&& 31)) ||| ((XT.ushr p1 (8 : Int32)) &&& (31 : Int32))))), .val (.long ((16 : Int64) * ((((1 : Int32) + ((p1 &&& (2147483647 : Int32)) % (7 : Int32))) <<< ((5 : Int32) &&& 31)) ||| ((XT.ushr p1 (8 : Int32)) &&& (31 : Int32))).toInt64)), .second, .val (.int (((p2 <<< ((29 : Int32) &&& 31)) ||| (((256 : Int32) ||| ((((1 : Int32) + ((p1 &&& (2147483647 : Int32)) % (7 : Int32))) <<< ((5 : Int32) &&& 31)) ||| ((XT.ushr p1 (8 : Int32)) &&& (31 : Int32)))) <<< ((20 : Int32) &&& 31))) ||| (p3 &&& (1048575 : Int32)))), .val (.int ((XT.ushr p1 (8 : Int32)) &&& (31 : Int32))), .val (.int ((((1 : Int32) + ((p1 &&& (2147483647 : Int32)) % (7 : Int32))) <<< ((5 : Int32) &&& 31)) ||| ((XT.ushr p1 (8 : Int32)) &&& (31 : Int32))))] [(.int (1 : Int32))])) _
          refine XS.goto X10.here hx rfl (pc0 := 182) (pc' := 186) rfl (hb hby at_182) (by decide) (by decide) ?_
          show Steps p.tables e below (T10.setTop (mkF m 186 #[.val (.int p0), .val (.int p1), .val (.int p2), .val (.int p3), .val (.int (p0 &&& (3 : Int32))), .val (.int ((256 : Int32) ||| ((((1 : Int32) + ((p1 &&& (2147483647 : Int32)) % (7 : Int32))) <<< ((5 : Int32) &&& 31)) ||| ((XT.ushr p1 (8 : Int32)) &&& (31 : Int32))))), .val (.long ((16 : Int64) * ((((1 : Int32) + ((p1 &&& (2147483647 : Int32)) % (7 : Int32))) <<< ((5 : Int32) &&& 31)) ||| ((XT.ushr p1 (8 : Int32)) &&& (31 : Int32))).toInt64)), .second, .val (.int (((p2 <<< ((29 : Int32) &&& 31)) ||| (((256 : Int32) ||| ((((1 : Int32) + ((p1 &&& (2147483647 : Int32)) % (7 : Int32))) <<< ((5 : Int32) &&& 31)) ||| ((XT.ushr p1 (8 : Int32)) &&& (31 : Int32)))) <<< ((20 : Int32) &&& 31))) ||| (p3 &&& (1048575 : Int32)))), .val (.int ((XT.ushr p1 (8 : Int32)) &&& (31 : Int32))), .val (.int ((((1 : Int32) + ((p1 &&& (2147483647 : Int32)) % (7 : Int32))) <<< ((5 : Int32) &&& 31)) ||| ((XT.ushr p1 (8 : Int32)) &&& (31 : Int32))))] [(.int (1 : Int32))])) _
          exact retN X10 hx (t := .boolean) Bd.returns (by simp) (hb hby at_186) hr
        · show Q_own_law Z p0 p1 p2 p3  h0 n0 _ T10.heap _
          rw [eh10]
          exact ⟨rfl, N10⟩
set_option maxRecDepth 65536 in
set_option maxHeartbeats 40000000 in
theorem comes_1 {Post : Tables → Env → Array Value → State → Outcome → State → Prop} (hpost : ∀ tb e args s v u, (limb_1_1.after args s (.returned v) u = true ∧ limb_1_2.after args s (.returned v) u = true ∧ True) → FrameEnd s (.returned v) u (Jvm.fieldLocs frame_1_writes args s ++ Jvm.arrayLocs frame_1_arrays args s ++ Jvm.staticLocs frame_1_statics s) 0 0 → Post tb e args s (.returned v) u) :
    ArmFor flags0 classFile x code maxLocals ret World_1 tables_1 room_1 Calls_1 rest_1 Pre_1 Post := by
  intro l hfl _ _ p e ha hc hk s m args below hf hA hF happ hP
  obtain ⟨hcalls, hrest, hpre⟩ := hP
  obtain ⟨-, -, -, hnamed, -, -, -, hat⟩ := (Spec.applies_iff hf).mp happ
  obtain ⟨hg, hn⟩ := and_e (Cond.before_iff.mp (show (Jvm.Cond.and given_1 narrow_1).before args s = true from hpre))
  obtain ⟨hcount, hq0⟩ := and_e hg
  obtain ⟨ha0, hq1⟩ := and_e hq0
  obtain ⟨ha1, hq2⟩ := and_e hq1
  obtain ⟨ha2, hq3⟩ := and_e hq2
  have ha3 := hq3
  obtain ⟨w0, w1, w2, w3, rfl⟩ : ∃ w0 w1 w2 w3 : Value, args = #[w0, w1, w2, w3] := by
    have hs : args.size = 4 := by simpa [Cond.value, given_1] using hcount
    obtain ⟨L⟩ := args
    match L, hs with
    | [w0, w1, w2, w3], _ => exact ⟨w0, w1, w2, w3, rfl⟩
  have hw := fun d (hd : d ∈ tables_1) => atoms_spec (ws := Jvm.Cond.code x code maxLocals ret :: tables_1) hat d (List.mem_cons_of_mem _ hd)
  have hfit : Fit s := fun {y c} hc i hi => by
    obtain ⟨ha, rfl⟩ := Array.getElem?_eq_some_iff.mp hc
    have q := List.all_eq_true.mp ((Array.all_eq_true_iff_forall_mem.mp hF) _ (Array.getElem_mem ha)) i (List.mem_range.mpr hi)
    simpa [Array.getElem?_eq_getElem hi] using q
  obtain ⟨i0, ei0⟩ := is_v ha0
  obtain rfl : w0 = (.int i0) := Option.some.inj ei0
  obtain ⟨i1, ei1⟩ := is_v ha1
  obtain rfl : w1 = (.int i1) := Option.some.inj ei1
  obtain ⟨i2, ei2⟩ := is_v ha2
  obtain rfl : w2 = (.int i2) := Option.some.inj ei2
  obtain ⟨i3, ei3⟩ := is_v ha3
  obtain rfl : w3 = (.int i3) := Option.some.inj ei3
  obtain ⟨n, o, h1, h2, h3, _, L, rfl, ⟨rfl, N⟩, hq⟩ := own_law l s _ hw tables_1 i0 i1 i2 i3 s.heap s.heap.size (Nat.le_refl _) p e ha hc hk s m _ below hf ((Spec.applies_iff_loose hf).mp happ).1 ⟨rfl, State.Warmed39.refl s, rfl⟩ trivial
  refine ⟨n, _, h1, h2, h3, hpost _ _ _ _ _ _ ⟨Cond.after_iff.mpr rfl, Cond.after_iff.mpr (eq_i res_at (Term.int_eval (1)) rfl), trivial⟩ ⟨hq.1, hq.2.1, (hq.2.2.sift fun y hy => Or.inr (N y hy)).mono (by decide) (by decide)⟩⟩
theorem main_1_1 : Claimed_1_1 := comes_1 fun _ _ _ _ _ _ h hF => ⟨h.1, hF⟩
theorem main_1_2 : Claimed_1_2 := comes_1 fun _ _ _ _ _ _ h hF => ⟨h.2.1, hF⟩
end Jvm.Pilot.@@N@@
namespace Jvm.Pilot.@@N@@
open Jvm Jvm.ClassFile Sem Op Lib Jvm.Free Jvm.Stand Jvm.Pilot.@@N@@.Jvm.D
/-! MADE BY PROGRAM (witnessworld.py) out of the Statement's table words and the real class files: 9 classes; the members and pool entries that the words name. The judged class is class 1, her method 1. -/
namespace start1
open Jvm.ClassFile
def u (s : String) : CpInfo := .utf8 (stringToUtf16 s)
/-- a pool by its gaps: so many unusable entries, then the entry; so many at the end -/
def gap : Nat → List CpInfo → List CpInfo
  | 0, r => r
  | n + 1, r => .unusable :: gap n r
def poolList (es : List (Nat × CpInfo)) (last : Nat) : List CpInfo := es.foldr (fun e r => gap e.1 (e.2 :: r)) (gap last [])
def pool (es : List (Nat × CpInfo)) (last : Nat) : Array CpInfo := ⟨poolList es last⟩
def fileOf (pool : Array CpInfo) (this : Nat) (attrs : Array Attribute := #[]) (ms : Array MethodInfo := #[]) (fl : Nat := 33) (sup : Nat := 0) (ifs : Array Nat := #[]) (fds : Array FieldInfo := #[]) : ClassFile where
  minorVersion := 0
  majorVersion := 65
  constantPool := pool
  accessFlags := fl
  thisClass := this
  superClass := sup
  interfaces := ifs
  fields := fds
  methods := ms
  attributes := attrs
def plain (name : String) (sup : Option ClassId) : Class where
  name := name
  kind := .ordinary
  loader := none
  accessFlags := 33
  super := sup
  interfaces := #[]
  cf := none
  fields := #[]
  methods := #[]
  instanceTypes := #[]
  staticTypes := #[]
  resolved := #[]
  callSites := []
  init := .initialized
  statics := none
  mirror := none

def pool0 : Array CpInfo := pool [(5, u "<init>"), (0, u "()V"), (1, .class_ 10), (1, u "java/lang/Object")] 113

def k0m0 : Method := { name := "<init>", desc := "()V", sig := { parameters := [], returnType := none }, accessFlags := 1, code := none }
/-- java/lang/Object -/
def k0 : Class := { plain "java/lang/Object" none with
  accessFlags := 33
  interfaces := #[]
  cf := some (fileOf pool0 8 #[] #[{ accessFlags := 1, nameIndex := 5, descriptorIndex := 6, attributes := #[] }] 33 0 #[] #[])
  fields := #[]
  methods := #[k0m0]
  instanceTypes := #[]
  staticTypes := #[]
  resolved := Array.replicate 124 none
  statics := none }

def pool1 : Array CpInfo := pool [(2, .class_ 4), (1, u "java/lang/Object"), (0, u "<init>"), (0, u "()V"), (0, .long 4096), (1, .integer 2147483647), (0, .long 256), (1, .long 16), (1, .long 8), (1, .integer 1048575), (0, .methodref 18 19), (0, .class_ 20), (0, .nameAndType 21 22), (0, u "com/example/madingley/madingley/machine/Encoding"), (0, u "boundsLength"), (0, u "(I)J"), (0, .class_ 24), (0, u "com/example/madingley/madingley/machine/EncodingBoundsLengthPinLaw"), (2, u "law"), (0, u "(IIII)Z")] 3

def k1m0 : Method := { name := "<init>", desc := "()V", sig := { parameters := [], returnType := none }, accessFlags := 2, code := none }
def k1c1 : Code := { maxStack := 6, maxLocals := 11, code := code, exceptionTable := #[], attributes := #[] }
def k1m1 : Method := { name := "law", desc := "(IIII)Z", sig := { parameters := [.int, .int, .int, .int], returnType := some .boolean }, accessFlags := 9, code := some k1c1 }
/-- com/example/madingley/madingley/machine/EncodingBoundsLengthPinLaw -/
def k1 : Class := { plain "com/example/madingley/madingley/machine/EncodingBoundsLengthPinLaw" (some 0) with
  accessFlags := 49
  interfaces := #[]
  cf := some (fileOf pool1 23 #[] #[{ accessFlags := 2, nameIndex := 5, descriptorIndex := 6, attributes := #[] }, { accessFlags := 9, nameIndex := 27, descriptorIndex := 28, attributes := #[] }] 49 2 #[] #[])
  fields := #[]
  methods := #[k1m0, k1m1]
  instanceTypes := #[]
  staticTypes := #[]
  resolved := Array.replicate 32 none
  statics := none }

def pool2 : Array CpInfo := pool [(2, .class_ 4), (1, u "java/lang/Object"), (0, u "<init>"), (0, u "()V"), (1, .class_ 10), (1, u "com/example/madingley/madingley/machine/Encoding"), (5, .long 4096), (1, u "LOAD"), (0, u "I"), (2, u "MISC_MEM"), (1, u "OP_IMM"), (1, u "AUIPC"), (1, u "OP_IMM_32"), (1, u "STORE"), (1, u "OP"), (1, u "LUI"), (1, u "OP_32"), (1, u "BRANCH"), (1, u "JALR"), (1, u "JAL"), (1, u "SYSTEM"), (1, u "RVY"), (1, u "LB"), (1, u "LH"), (1, u "LW"), (1, u "LD"), (0, u "LBU"), (1, u "LHU"), (1, u "LWU"), (1, u "SB"), (0, u "SH"), (0, u "SW"), (0, u "SD"), (0, u "BEQ"), (0, u "BNE"), (0, u "BLT"), (0, u "BGE"), (0, u "BLTU"), (0, u "BGEU"), (1, u "ADDI"), (0, u "SLTI"), (0, u "SLTIU"), (0, u "XORI"), (0, u "ORI"), (0, u "ANDI"), (0, u "SLLI"), (0, u "SRLI"), (0, u "ADD"), (0, u "SUB"), (1, u "SLL"), (0, u "SLT"), (0, u "SLTU"), (0, u "XOR"), (0, u "SRL"), (0, u "SRA"), (1, u "OR"), (0, u "AND"), (0, u "MUL"), (1, u "MULH"), (1, u "MULHSU"), (1, u "MULHU"), (1, u "DIV"), (1, u "DIVU"), (1, u "REM"), (1, u "REMU"), (0, u "FENCE"), (0, u "FENCE_I"), (0, u "PRIV"), (0, u "CSRRW"), (0, u "CSRRS"), (0, u "CSRRC"), (0, u "CSR_IMMEDIATE"), (0, u "ECALL"), (0, u "EBREAK"), (1, u "MRET"), (1, u "WFI"), (1, u "Y_REGISTER"), (0, u "LY"), (0, u "SY"), (0, u "YADDI"), (0, u "Y_IMMEDIATE"), (0, u "YHIW"), (0, u "YADD"), (0, u "YEQ"), (0, u "YADDRW"), (0, u "YSS"), (0, u "YPERMC"), (0, u "YSENTRY"), (0, u "YBNDSW"), (0, u "YBNDSRW"), (0, u "YMODEW"), (1, u "Y_INTEGER"), (1, u "Y_READ"), (1, u "YBASER"), (0, u "YPERMR"), (0, u "YTOPR"), (0, u "YLENR"), (0, u "YTAGR"), (0, u "YTYPER"), (0, u "YMODER"), (0, u "YAMASK"), (0, u "YMODESWY"), (0, u "YMODESWI"), (0, u "YHIR"), (1, u "YBNDSWI"), (0, u "SHIFT_LOGICAL"), (0, u "SHIFT_ARITHMETIC"), (13, u "(I)J"), (5, u "boundsLength")] 3

def k2m0 : Method := { name := "<init>", desc := "()V", sig := { parameters := [], returnType := none }, accessFlags := 2, code := none }
def k2c1 : Code := { maxStack := 3, maxLocals := 4, code := prog_26_method_19_code, exceptionTable := #[], attributes := #[] }
def k2m1 : Method := { name := "boundsLength", desc := "(I)J", sig := { parameters := [.int], returnType := some .long }, accessFlags := 8, code := some k2c1 }
/-- com/example/madingley/madingley/machine/Encoding -/
def k2 : Class := { plain "com/example/madingley/madingley/machine/Encoding" (some 0) with
  accessFlags := 48
  interfaces := #[]
  cf := some (fileOf pool2 8 #[] #[{ accessFlags := 2, nameIndex := 5, descriptorIndex := 6, attributes := #[] }, { accessFlags := 8, nameIndex := 175, descriptorIndex := 169, attributes := #[] }] 48 2 #[] #[{ accessFlags := 24, nameIndex := 18, descriptorIndex := 19, attributes := #[] }, { accessFlags := 24, nameIndex := 22, descriptorIndex := 19, attributes := #[] }, { accessFlags := 24, nameIndex := 24, descriptorIndex := 19, attributes := #[] }, { accessFlags := 24, nameIndex := 26, descriptorIndex := 19, attributes := #[] }, { accessFlags := 24, nameIndex := 28, descriptorIndex := 19, attributes := #[] }, { accessFlags := 24, nameIndex := 30, descriptorIndex := 19, attributes := #[] }, { accessFlags := 24, nameIndex := 32, descriptorIndex := 19, attributes := #[] }, { accessFlags := 24, nameIndex := 34, descriptorIndex := 19, attributes := #[] }, { accessFlags := 24, nameIndex := 36, descriptorIndex := 19, attributes := #[] }, { accessFlags := 24, nameIndex := 38, descriptorIndex := 19, attributes := #[] }, { accessFlags := 24, nameIndex := 40, descriptorIndex := 19, attributes := #[] }, { accessFlags := 24, nameIndex := 42, descriptorIndex := 19, attributes := #[] }, { accessFlags := 24, nameIndex := 44, descriptorIndex := 19, attributes := #[] }, { accessFlags := 24, nameIndex := 46, descriptorIndex := 19, attributes := #[] }, { accessFlags := 24, nameIndex := 48, descriptorIndex := 19, attributes := #[] }, { accessFlags := 24, nameIndex := 50, descriptorIndex := 19, attributes := #[] }, { accessFlags := 24, nameIndex := 52, descriptorIndex := 19, attributes := #[] }, { accessFlags := 24, nameIndex := 54, descriptorIndex := 19, attributes := #[] }, { accessFlags := 24, nameIndex := 55, descriptorIndex := 19, attributes := #[] }, { accessFlags := 24, nameIndex := 57, descriptorIndex := 19, attributes := #[] }, { accessFlags := 24, nameIndex := 59, descriptorIndex := 19, attributes := #[] }, { accessFlags := 24, nameIndex := 61, descriptorIndex := 19, attributes := #[] }, { accessFlags := 24, nameIndex := 62, descriptorIndex := 19, attributes := #[] }, { accessFlags := 24, nameIndex := 63, descriptorIndex := 19, attributes := #[] }, { accessFlags := 24, nameIndex := 64, descriptorIndex := 19, attributes := #[] }, { accessFlags := 24, nameIndex := 65, descriptorIndex := 19, attributes := #[] }, { accessFlags := 24, nameIndex := 66, descriptorIndex := 19, attributes := #[] }, { accessFlags := 24, nameIndex := 67, descriptorIndex := 19, attributes := #[] }, { accessFlags := 24, nameIndex := 68, descriptorIndex := 19, attributes := #[] }, { accessFlags := 24, nameIndex := 69, descriptorIndex := 19, attributes := #[] }, { accessFlags := 24, nameIndex := 70, descriptorIndex := 19, attributes := #[] }, { accessFlags := 24, nameIndex := 72, descriptorIndex := 19, attributes := #[] }, { accessFlags := 24, nameIndex := 73, descriptorIndex := 19, attributes := #[] }, { accessFlags := 24, nameIndex := 74, descriptorIndex := 19, attributes := #[] }, { accessFlags := 24, nameIndex := 75, descriptorIndex := 19, attributes := #[] }, { accessFlags := 24, nameIndex := 76, descriptorIndex := 19, attributes := #[] }, { accessFlags := 24, nameIndex := 77, descriptorIndex := 19, attributes := #[] }, { accessFlags := 24, nameIndex := 78, descriptorIndex := 19, attributes := #[] }, { accessFlags := 24, nameIndex := 79, descriptorIndex := 19, attributes := #[] }, { accessFlags := 24, nameIndex := 80, descriptorIndex := 19, attributes := #[] }, { accessFlags := 24, nameIndex := 81, descriptorIndex := 19, attributes := #[] }, { accessFlags := 24, nameIndex := 83, descriptorIndex := 19, attributes := #[] }, { accessFlags := 24, nameIndex := 84, descriptorIndex := 19, attributes := #[] }, { accessFlags := 24, nameIndex := 85, descriptorIndex := 19, attributes := #[] }, { accessFlags := 24, nameIndex := 86, descriptorIndex := 19, attributes := #[] }, { accessFlags := 24, nameIndex := 87, descriptorIndex := 19, attributes := #[] }, { accessFlags := 24, nameIndex := 88, descriptorIndex := 19, attributes := #[] }, { accessFlags := 24, nameIndex := 90, descriptorIndex := 19, attributes := #[] }, { accessFlags := 24, nameIndex := 91, descriptorIndex := 19, attributes := #[] }, { accessFlags := 24, nameIndex := 92, descriptorIndex := 19, attributes := #[] }, { accessFlags := 24, nameIndex := 94, descriptorIndex := 19, attributes := #[] }, { accessFlags := 24, nameIndex := 96, descriptorIndex := 19, attributes := #[] }, { accessFlags := 24, nameIndex := 98, descriptorIndex := 19, attributes := #[] }, { accessFlags := 24, nameIndex := 100, descriptorIndex := 19, attributes := #[] }, { accessFlags := 24, nameIndex := 102, descriptorIndex := 19, attributes := #[] }, { accessFlags := 24, nameIndex := 104, descriptorIndex := 19, attributes := #[] }, { accessFlags := 24, nameIndex := 106, descriptorIndex := 19, attributes := #[] }, { accessFlags := 24, nameIndex := 107, descriptorIndex := 19, attributes := #[] }, { accessFlags := 24, nameIndex := 108, descriptorIndex := 19, attributes := #[] }, { accessFlags := 24, nameIndex := 109, descriptorIndex := 19, attributes := #[] }, { accessFlags := 24, nameIndex := 110, descriptorIndex := 19, attributes := #[] }, { accessFlags := 24, nameIndex := 111, descriptorIndex := 19, attributes := #[] }, { accessFlags := 24, nameIndex := 112, descriptorIndex := 19, attributes := #[] }, { accessFlags := 24, nameIndex := 113, descriptorIndex := 19, attributes := #[] }, { accessFlags := 24, nameIndex := 114, descriptorIndex := 19, attributes := #[] }, { accessFlags := 24, nameIndex := 115, descriptorIndex := 19, attributes := #[] }, { accessFlags := 24, nameIndex := 117, descriptorIndex := 19, attributes := #[] }, { accessFlags := 24, nameIndex := 119, descriptorIndex := 19, attributes := #[] }, { accessFlags := 24, nameIndex := 121, descriptorIndex := 19, attributes := #[] }, { accessFlags := 24, nameIndex := 122, descriptorIndex := 19, attributes := #[] }, { accessFlags := 24, nameIndex := 123, descriptorIndex := 19, attributes := #[] }, { accessFlags := 24, nameIndex := 124, descriptorIndex := 19, attributes := #[] }, { accessFlags := 24, nameIndex := 125, descriptorIndex := 19, attributes := #[] }, { accessFlags := 24, nameIndex := 126, descriptorIndex := 19, attributes := #[] }, { accessFlags := 24, nameIndex := 127, descriptorIndex := 19, attributes := #[] }, { accessFlags := 24, nameIndex := 128, descriptorIndex := 19, attributes := #[] }, { accessFlags := 24, nameIndex := 129, descriptorIndex := 19, attributes := #[] }, { accessFlags := 24, nameIndex := 130, descriptorIndex := 19, attributes := #[] }, { accessFlags := 24, nameIndex := 131, descriptorIndex := 19, attributes := #[] }, { accessFlags := 24, nameIndex := 132, descriptorIndex := 19, attributes := #[] }, { accessFlags := 24, nameIndex := 133, descriptorIndex := 19, attributes := #[] }, { accessFlags := 24, nameIndex := 134, descriptorIndex := 19, attributes := #[] }, { accessFlags := 24, nameIndex := 135, descriptorIndex := 19, attributes := #[] }, { accessFlags := 24, nameIndex := 137, descriptorIndex := 19, attributes := #[] }, { accessFlags := 24, nameIndex := 139, descriptorIndex := 19, attributes := #[] }, { accessFlags := 24, nameIndex := 141, descriptorIndex := 19, attributes := #[] }, { accessFlags := 24, nameIndex := 142, descriptorIndex := 19, attributes := #[] }, { accessFlags := 24, nameIndex := 143, descriptorIndex := 19, attributes := #[] }, { accessFlags := 24, nameIndex := 144, descriptorIndex := 19, attributes := #[] }, { accessFlags := 24, nameIndex := 145, descriptorIndex := 19, attributes := #[] }, { accessFlags := 24, nameIndex := 146, descriptorIndex := 19, attributes := #[] }, { accessFlags := 24, nameIndex := 147, descriptorIndex := 19, attributes := #[] }, { accessFlags := 24, nameIndex := 148, descriptorIndex := 19, attributes := #[] }, { accessFlags := 24, nameIndex := 149, descriptorIndex := 19, attributes := #[] }, { accessFlags := 24, nameIndex := 150, descriptorIndex := 19, attributes := #[] }, { accessFlags := 24, nameIndex := 151, descriptorIndex := 19, attributes := #[] }, { accessFlags := 24, nameIndex := 153, descriptorIndex := 19, attributes := #[] }, { accessFlags := 24, nameIndex := 154, descriptorIndex := 19, attributes := #[] }, { accessFlags := 24, nameIndex := 155, descriptorIndex := 19, attributes := #[] }])
  fields := #[{ name := "LOAD", type := .int, accessFlags := 24, slot := 0, constantValue := 0 }, { name := "MISC_MEM", type := .int, accessFlags := 24, slot := 1, constantValue := 0 }, { name := "OP_IMM", type := .int, accessFlags := 24, slot := 2, constantValue := 0 }, { name := "AUIPC", type := .int, accessFlags := 24, slot := 3, constantValue := 0 }, { name := "OP_IMM_32", type := .int, accessFlags := 24, slot := 4, constantValue := 0 }, { name := "STORE", type := .int, accessFlags := 24, slot := 5, constantValue := 0 }, { name := "OP", type := .int, accessFlags := 24, slot := 6, constantValue := 0 }, { name := "LUI", type := .int, accessFlags := 24, slot := 7, constantValue := 0 }, { name := "OP_32", type := .int, accessFlags := 24, slot := 8, constantValue := 0 }, { name := "BRANCH", type := .int, accessFlags := 24, slot := 9, constantValue := 0 }, { name := "JALR", type := .int, accessFlags := 24, slot := 10, constantValue := 0 }, { name := "JAL", type := .int, accessFlags := 24, slot := 11, constantValue := 0 }, { name := "SYSTEM", type := .int, accessFlags := 24, slot := 12, constantValue := 0 }, { name := "RVY", type := .int, accessFlags := 24, slot := 13, constantValue := 0 }, { name := "LB", type := .int, accessFlags := 24, slot := 14, constantValue := 0 }, { name := "LH", type := .int, accessFlags := 24, slot := 15, constantValue := 0 }, { name := "LW", type := .int, accessFlags := 24, slot := 16, constantValue := 0 }, { name := "LD", type := .int, accessFlags := 24, slot := 17, constantValue := 0 }, { name := "LBU", type := .int, accessFlags := 24, slot := 18, constantValue := 0 }, { name := "LHU", type := .int, accessFlags := 24, slot := 19, constantValue := 0 }, { name := "LWU", type := .int, accessFlags := 24, slot := 20, constantValue := 0 }, { name := "SB", type := .int, accessFlags := 24, slot := 21, constantValue := 0 }, { name := "SH", type := .int, accessFlags := 24, slot := 22, constantValue := 0 }, { name := "SW", type := .int, accessFlags := 24, slot := 23, constantValue := 0 }, { name := "SD", type := .int, accessFlags := 24, slot := 24, constantValue := 0 }, { name := "BEQ", type := .int, accessFlags := 24, slot := 25, constantValue := 0 }, { name := "BNE", type := .int, accessFlags := 24, slot := 26, constantValue := 0 }, { name := "BLT", type := .int, accessFlags := 24, slot := 27, constantValue := 0 }, { name := "BGE", type := .int, accessFlags := 24, slot := 28, constantValue := 0 }, { name := "BLTU", type := .int, accessFlags := 24, slot := 29, constantValue := 0 }, { name := "BGEU", type := .int, accessFlags := 24, slot := 30, constantValue := 0 }, { name := "ADDI", type := .int, accessFlags := 24, slot := 31, constantValue := 0 }, { name := "SLTI", type := .int, accessFlags := 24, slot := 32, constantValue := 0 }, { name := "SLTIU", type := .int, accessFlags := 24, slot := 33, constantValue := 0 }, { name := "XORI", type := .int, accessFlags := 24, slot := 34, constantValue := 0 }, { name := "ORI", type := .int, accessFlags := 24, slot := 35, constantValue := 0 }, { name := "ANDI", type := .int, accessFlags := 24, slot := 36, constantValue := 0 }, { name := "SLLI", type := .int, accessFlags := 24, slot := 37, constantValue := 0 }, { name := "SRLI", type := .int, accessFlags := 24, slot := 38, constantValue := 0 }, { name := "ADD", type := .int, accessFlags := 24, slot := 39, constantValue := 0 }, { name := "SUB", type := .int, accessFlags := 24, slot := 40, constantValue := 0 }, { name := "SLL", type := .int, accessFlags := 24, slot := 41, constantValue := 0 }, { name := "SLT", type := .int, accessFlags := 24, slot := 42, constantValue := 0 }, { name := "SLTU", type := .int, accessFlags := 24, slot := 43, constantValue := 0 }, { name := "XOR", type := .int, accessFlags := 24, slot := 44, constantValue := 0 }, { name := "SRL", type := .int, accessFlags := 24, slot := 45, constantValue := 0 }, { name := "SRA", type := .int, accessFlags := 24, slot := 46, constantValue := 0 }, { name := "OR", type := .int, accessFlags := 24, slot := 47, constantValue := 0 }, { name := "AND", type := .int, accessFlags := 24, slot := 48, constantValue := 0 }, { name := "MUL", type := .int, accessFlags := 24, slot := 49, constantValue := 0 }, { name := "MULH", type := .int, accessFlags := 24, slot := 50, constantValue := 0 }, { name := "MULHSU", type := .int, accessFlags := 24, slot := 51, constantValue := 0 }, { name := "MULHU", type := .int, accessFlags := 24, slot := 52, constantValue := 0 }, { name := "DIV", type := .int, accessFlags := 24, slot := 53, constantValue := 0 }, { name := "DIVU", type := .int, accessFlags := 24, slot := 54, constantValue := 0 }, { name := "REM", type := .int, accessFlags := 24, slot := 55, constantValue := 0 }, { name := "REMU", type := .int, accessFlags := 24, slot := 56, constantValue := 0 }, { name := "FENCE", type := .int, accessFlags := 24, slot := 57, constantValue := 0 }, { name := "FENCE_I", type := .int, accessFlags := 24, slot := 58, constantValue := 0 }, { name := "PRIV", type := .int, accessFlags := 24, slot := 59, constantValue := 0 }, { name := "CSRRW", type := .int, accessFlags := 24, slot := 60, constantValue := 0 }, { name := "CSRRS", type := .int, accessFlags := 24, slot := 61, constantValue := 0 }, { name := "CSRRC", type := .int, accessFlags := 24, slot := 62, constantValue := 0 }, { name := "CSR_IMMEDIATE", type := .int, accessFlags := 24, slot := 63, constantValue := 0 }, { name := "ECALL", type := .int, accessFlags := 24, slot := 64, constantValue := 0 }, { name := "EBREAK", type := .int, accessFlags := 24, slot := 65, constantValue := 0 }, { name := "MRET", type := .int, accessFlags := 24, slot := 66, constantValue := 0 }, { name := "WFI", type := .int, accessFlags := 24, slot := 67, constantValue := 0 }, { name := "Y_REGISTER", type := .int, accessFlags := 24, slot := 68, constantValue := 0 }, { name := "LY", type := .int, accessFlags := 24, slot := 69, constantValue := 0 }, { name := "SY", type := .int, accessFlags := 24, slot := 70, constantValue := 0 }, { name := "YADDI", type := .int, accessFlags := 24, slot := 71, constantValue := 0 }, { name := "Y_IMMEDIATE", type := .int, accessFlags := 24, slot := 72, constantValue := 0 }, { name := "YHIW", type := .int, accessFlags := 24, slot := 73, constantValue := 0 }, { name := "YADD", type := .int, accessFlags := 24, slot := 74, constantValue := 0 }, { name := "YEQ", type := .int, accessFlags := 24, slot := 75, constantValue := 0 }, { name := "YADDRW", type := .int, accessFlags := 24, slot := 76, constantValue := 0 }, { name := "YSS", type := .int, accessFlags := 24, slot := 77, constantValue := 0 }, { name := "YPERMC", type := .int, accessFlags := 24, slot := 78, constantValue := 0 }, { name := "YSENTRY", type := .int, accessFlags := 24, slot := 79, constantValue := 0 }, { name := "YBNDSW", type := .int, accessFlags := 24, slot := 80, constantValue := 0 }, { name := "YBNDSRW", type := .int, accessFlags := 24, slot := 81, constantValue := 0 }, { name := "YMODEW", type := .int, accessFlags := 24, slot := 82, constantValue := 0 }, { name := "Y_INTEGER", type := .int, accessFlags := 24, slot := 83, constantValue := 0 }, { name := "Y_READ", type := .int, accessFlags := 24, slot := 84, constantValue := 0 }, { name := "YBASER", type := .int, accessFlags := 24, slot := 85, constantValue := 0 }, { name := "YPERMR", type := .int, accessFlags := 24, slot := 86, constantValue := 0 }, { name := "YTOPR", type := .int, accessFlags := 24, slot := 87, constantValue := 0 }, { name := "YLENR", type := .int, accessFlags := 24, slot := 88, constantValue := 0 }, { name := "YTAGR", type := .int, accessFlags := 24, slot := 89, constantValue := 0 }, { name := "YTYPER", type := .int, accessFlags := 24, slot := 90, constantValue := 0 }, { name := "YMODER", type := .int, accessFlags := 24, slot := 91, constantValue := 0 }, { name := "YAMASK", type := .int, accessFlags := 24, slot := 92, constantValue := 0 }, { name := "YMODESWY", type := .int, accessFlags := 24, slot := 93, constantValue := 0 }, { name := "YMODESWI", type := .int, accessFlags := 24, slot := 94, constantValue := 0 }, { name := "YHIR", type := .int, accessFlags := 24, slot := 95, constantValue := 0 }, { name := "YBNDSWI", type := .int, accessFlags := 24, slot := 96, constantValue := 0 }, { name := "SHIFT_LOGICAL", type := .int, accessFlags := 24, slot := 97, constantValue := 0 }, { name := "SHIFT_ARITHMETIC", type := .int, accessFlags := 24, slot := 98, constantValue := 0 }]
  methods := #[k2m0, k2m1]
  instanceTypes := #[]
  staticTypes := #[.int, .int, .int, .int, .int, .int, .int, .int, .int, .int, .int, .int, .int, .int, .int, .int, .int, .int, .int, .int, .int, .int, .int, .int, .int, .int, .int, .int, .int, .int, .int, .int, .int, .int, .int, .int, .int, .int, .int, .int, .int, .int, .int, .int, .int, .int, .int, .int, .int, .int, .int, .int, .int, .int, .int, .int, .int, .int, .int, .int, .int, .int, .int, .int, .int, .int, .int, .int, .int, .int, .int, .int, .int, .int, .int, .int, .int, .int, .int, .int, .int, .int, .int, .int, .int, .int, .int, .int, .int, .int, .int, .int, .int, .int, .int, .int, .int, .int, .int]
  resolved := Array.replicate 179 none
  statics := none }

def pool3 : Array CpInfo := pool [(1, u "java/lang/Cloneable"), (0, .class_ 1), (0, u "java/lang/Object"), (0, .class_ 3)] 3

/-- java/lang/Cloneable -/
def k3 : Class := { plain "java/lang/Cloneable" (some 0) with
  accessFlags := 1537
  interfaces := #[]
  cf := some (fileOf pool3 2 #[] #[] 1537 4 #[] #[])
  fields := #[]
  methods := #[]
  instanceTypes := #[]
  staticTypes := #[]
  resolved := Array.replicate 8 none
  statics := none }

def pool4 : Array CpInfo := pool [(1, u "java/io/Serializable"), (0, .class_ 1), (0, u "java/lang/Object"), (0, .class_ 3)] 3

/-- java/io/Serializable -/
def k4 : Class := { plain "java/io/Serializable" (some 0) with
  accessFlags := 1537
  interfaces := #[]
  cf := some (fileOf pool4 2 #[] #[] 1537 4 #[] #[])
  fields := #[]
  methods := #[]
  instanceTypes := #[]
  staticTypes := #[]
  resolved := Array.replicate 8 none
  statics := none }

/-- the primitive byte -/
def k5 : Class := { plain "byte" none with kind := .primitive 'B', accessFlags := 0x411 }
/-- [B -/
def k6 : Class := { plain "[B" (some 0) with kind := .array 5 .byte, interfaces := #[3, 4], accessFlags := 1041 }

/-- the primitive int -/
def k7 : Class := { plain "int" none with kind := .primitive 'I', accessFlags := 0x411 }
/-- [I -/
def k8 : Class := { plain "[I" (some 0) with kind := .array 7 .int, interfaces := #[3, 4], accessFlags := 1041 }

def heap : Heap := #[]
def classes : Array Class := #[k0, k1, k2, k3, k4, k5, k6, k7, k8]
def interned : List (Array UInt16 × Addr) := []
def slotsUsed : Nat := 0
def theMethod : MethodId := ⟨1, 1⟩
def args0 : Array Value := #[.int 1, .int 5, .int 3, .int 9]
def aboutOver (below : List Frame) : State where
  vm := { classes := classes, interned := interned.toArray }
  heap := heap
  slotsUsed := slotsUsed
  threads := #[{ frames := .invoking theMethod args0 :: below }]
def below0 : List Frame := [.native { method := ⟨0, 0⟩, args := #[] }]
def about1 : State := aboutOver below0
def p0 : Program := .bare "" "" ""
def e0 : Env := launch0.env 0 0 0
theorem w_frames : about1.frames = Frame.invoking theMethod args0 :: below0 := rfl
set_option maxRecDepth 65536 in
theorem w_args : argsFit about1.vm theMethod args0 = true := by decide +kernel
set_option maxRecDepth 65536 in
theorem w_heap : heapFits about1 = true := by decide +kernel
set_option maxRecDepth 65536 in
theorem w_runnable : about1.curStatus? = some .runnable := by decide +kernel
set_option maxRecDepth 65536 in
theorem w_alone : about1.alone = true := by decide +kernel
set_option maxRecDepth 65536 in
theorem w_named : about1.methodNamed? x = some theMethod := by decide +kernel
set_option maxRecDepth 65536 in
theorem w_hears : about1.hears theMethod below0 = true := by decide +kernel
set_option maxRecDepth 65536 in
theorem w_ripe : about1.ripe theMethod args0 below0 = true := by decide +kernel
theorem w_running : about1.status = .running := rfl
set_option maxRecDepth 65536 in
theorem w_room : about1.hasRoom e0.platform room_1 = true :=
  launch0.hasRoom_least _ room_1 (by decide +kernel) (by decide +kernel) (by decide +kernel) (by decide +kernel) (by decide +kernel) (by decide +kernel)
theorem allAtoms_all (ts : List Jvm.Cond) (a : Array Jvm.Value) (st : Jvm.State) : (allAtoms ts).before a st = ts.all (fun c => c.before a st) := by
  induction ts with
  | nil => rfl
  | cons c t ih =>
    show (Jvm.Cond.and c (allAtoms t)).before a st = _
    rw [Jvm.Cond.before_and, ih, List.all_cons]
def words1 : List Jvm.Cond := Jvm.Cond.code x code maxLocals ret :: tables_1
/-- a 'code' word, met by the world's own term for the bytes: nothing is compared byte by byte -/
theorem code_word {y : MethodName} {bytes : ByteArray} {mx : Nat} {rt : Option FieldType} {a : Array Value} {s : State} {m : MethodId} {meth : Method} {c : Code} (h1 : s.methodNamed? y = some m) (h2 : s.vm.method? m = some meth) (h3 : meth.code = some c) (h4 : c.code = bytes)
    (h5 : (c.maxLocals == mx && c.exceptionTable.isEmpty && decide (c.maxStack ≤ mostOperands) && decide (meth.sig.returnType = rt) && !meth.locks && decide (parseMethodDescriptor y.desc = some meth.sig)) = true) : (Jvm.Cond.code y bytes mx rt).before a s = true := by
  simp only [Bool.and_eq_true, beq_iff_eq, Bool.not_eq_true', decide_eq_true_eq] at h5
  obtain ⟨⟨⟨⟨⟨g1, g2⟩, g3⟩, g4⟩, g5⟩, g6⟩ := h5
  simp [Cond.before, Cond.holds, Cond.value, h1, h2, h3, h4, g1, g2, g3, g4, g5, g6]
def isCode : Jvm.Cond → Bool
  | .code _ _ _ _ => true
  | _ => false
theorem all_split {L : List Jvm.Cond} {P : Jvm.Cond → Bool} (h1 : L.all (fun c => isCode c || P c) = true) (h2 : ∀ c ∈ L.filter isCode, P c = true) : L.all P = true := by
  refine List.all_eq_true.mpr fun c hc => ?_
  have h := List.all_eq_true.mp h1 c hc
  rcases Bool.eq_false_or_eq_true (isCode c) with hi | hi
  · exact h2 c (List.mem_filter.mpr ⟨hc, hi⟩)
  · simpa [hi] using h
set_option maxRecDepth 65536 in
theorem w_c0 : (Jvm.Cond.code x code maxLocals ret).before args0 about1 = true := code_word (m := ⟨1, 1⟩) (meth := k1m1) (c := k1c1) (by decide +kernel) rfl rfl rfl (by decide +kernel)
set_option maxRecDepth 65536 in
theorem w_c1 : (Jvm.Cond.code ({ cls := "com/example/madingley/madingley/machine/Encoding", name := "boundsLength", desc := "(I)J" } : Jvm.MethodName) prog_26_method_19_code (4 : Nat) (Option.some Jvm.ClassFile.FieldType.long)).before args0 about1 = true := code_word (m := ⟨2, 1⟩) (meth := k2m1) (c := k2c1) (by decide +kernel) rfl rfl rfl (by decide +kernel)
def codes1 : List Jvm.Cond := [Jvm.Cond.code x code maxLocals ret, Jvm.Cond.code ({ cls := "com/example/madingley/madingley/machine/Encoding", name := "boundsLength", desc := "(I)J" } : Jvm.MethodName) prog_26_method_19_code (4 : Nat) (Option.some Jvm.ClassFile.FieldType.long)]
set_option maxRecDepth 65536 in
theorem codes_eq : words1.filter isCode = codes1 := rfl
theorem w_codes : ∀ c ∈ words1.filter isCode, c.before args0 about1 = true := by
  rw [codes_eq]
  intro c hc
  simp only [codes1, List.mem_cons, List.not_mem_nil, or_false] at hc
  rcases hc with rfl | rfl
  · exact w_c0
  · exact w_c1
set_option maxRecDepth 65536 in
theorem w_t1 : words1.all (fun c => isCode c || c.before args0 about1) = true := by decide +kernel
theorem w_tables : (allAtoms (Jvm.Cond.code x code maxLocals ret :: tables_1)).before args0 about1 = true := by
  rw [allAtoms_all]
  show words1.all (fun c => c.before args0 about1) = true
  refine all_split ?_ w_codes
  rw [w_t1]
set_option maxRecDepth 65536 in
theorem w_case : (Jvm.Cond.and given_1 narrow_1).before args0 about1 = true := by decide +kernel
theorem w_applies : (headSpec (Jvm.Cond.code x code maxLocals ret :: tables_1) room_1).applies x e0.platform about1 = true :=
  (Spec.applies_iff w_frames).mpr ⟨w_running, w_runnable, w_alone, w_named, w_hears, w_ripe, w_room, w_tables⟩
theorem atStart : AtStart classFile x code maxLocals ret World_1 tables_1 room_1 Calls_1 rest_1 Pre_1 launch0 p0 e0 about1 theMethod args0 below0 :=
  ⟨lists_1, trivial, launch0.admits_env _ _ _, launch0.least_env, fairChoices_fair.cas, fairChoices_fair.clock, w_frames, w_args, w_heap, w_applies, trivial, trivial, w_case⟩
end start1
theorem witness_1 : WitnessClaimed_1 := ⟨start1.p0, start1.e0, start1.about1, start1.theMethod, start1.args0, start1.below0, start1.atStart⟩
end Jvm.Pilot.@@N@@
