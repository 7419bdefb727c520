import JvmDerived
import JvmDerived.Pilot.@@N@@Statement
import JvmDerived.Pilot.@@N@@Code
set_option linter.unusedVariables false
set_option linter.unusedSimpArgs false
namespace Jvm.RoadKit
open Sem ClassFile Op Lib Jvm.Stand Jvm.Free Jvm.LawKit
section New
variable {p : Program} {l : Launch} {e : Env} {R : Room} {s : State} {m : MethodId} {args : Array Value} {below : List Frame} {meth : Method} {c : Code} {T : State} {locs : List Loc} {cells slots : Nat}
theorem retI (X : Stand p l e R s m args below meth c T locs cells slots) (hx : p.tables.exec = Jvm.exec) {pc : Nat} {Ls : Array Slot} {z : Int32} {rest : List Value} (hret : meth.sig.returnType = some .int) (hd : decode c.code pc = .ok (.ireturn, 1)) {fs : List Frame}
    (hl : ∀ (f : JFrame) (acts : List Action), f.method = m → f.locked = none → f.entered = [] → (doReturn e (T.setTop f) acts (some (.int z))).1 = T.setFrames fs) : Steps p.tables e below (T.setTop (mkF m pc Ls (.int z :: rest))) (T.setFrames fs) := by
  have hm' : T.vm.method? m = some meth := X.method'
  have hn : narrow .int (.int z) = .int z := rfl
  show Steps p.tables e below (T.setTop { method := m, pc := pc, locals := Ls, stack := _ :: rest, locked := none }) _
  jvm_step X.here [X.here.top, hx, hd, hm', hret, hn]
  first | (intro acts; rw [hl _ acts rfl rfl rfl]) | rw [hl _ _ rfl rfl rfl]
  exact Steps.refl _
end New
end Jvm.RoadKit
namespace Jvm.Pilot.@@N@@
open Jvm Jvm.ClassFile Sem Op Lib Jvm.Free Jvm.Stand Jvm.LawKit Jvm.RoadKit Bundle Jvm.Pilot.@@N@@.Jvm.D
theorem pd_0 : parseMethodDescriptor "(I)Lcom/example/factwell/factwell/pkb/EntityKind;" = some ⟨[.int], some (.object "com/example/factwell/factwell/pkb/EntityKind")⟩ := by decide +kernel
theorem pd_1 : parseMethodDescriptor "(Lcom/example/factwell/factwell/pkb/EntityKind;)Z" = some ⟨[(.object "com/example/factwell/factwell/pkb/EntityKind")], some .boolean⟩ := by decide +kernel
theorem d2_0 : decode prog_16_method_6_code 0 = .ok (.aload_n 0, 1) := by decide +kernel
theorem d2_1 : decode prog_16_method_6_code 1 = .ok (.aload_n 1, 1) := by decide +kernel
theorem d2_2 : decode prog_16_method_6_code 2 = .ok (.if_acmp .eq 17, 3) := by decide +kernel
theorem d2_5 : decode prog_16_method_6_code 5 = .ok (.aload_n 1, 1) := by decide +kernel
theorem d2_6 : decode prog_16_method_6_code 6 = .ok (.getstatic 3, 3) := by decide +kernel
theorem d2_9 : decode prog_16_method_6_code 9 = .ok (.if_acmp .ne 14, 3) := by decide +kernel
theorem d2_12 : decode prog_16_method_6_code 12 = .ok (.aload_n 0, 1) := by decide +kernel
theorem d2_13 : decode prog_16_method_6_code 13 = .ok (.getfield 57, 3) := by decide +kernel
theorem d2_16 : decode prog_16_method_6_code 16 = .ok (.ifnull 7, 3) := by decide +kernel
theorem d2_19 : decode prog_16_method_6_code 19 = .ok (.iconst 1, 1) := by decide +kernel
theorem d2_20 : decode prog_16_method_6_code 20 = .ok (.goto 4, 3) := by decide +kernel
theorem d2_23 : decode prog_16_method_6_code 23 = .ok (.iconst 0, 1) := by decide +kernel
theorem d2_24 : decode prog_16_method_6_code 24 = .ok (.ireturn, 1) := by decide +kernel
theorem pn_own_within : plainName "com/example/factwell/factwell/pkb/EntityKind" = true := by first | (simp [plainName, overriddenIn]; done) | decide +kernel
theorem ef_own_within (m : MethodId) (x0 : Addr) (x1 : Addr) : entryFrame m #[(.ref x0), (.ref x1)] 2 = mkF m 0 #[.val (.ref x0), .val (.ref x1)] [] := by first | (simp [entryFrame, mkF, argsToLocals, Value.category]; done) | rfl
def Q_own_within (Z : State) (a1 : Addr) (a2 : Addr) (ks : Addr) (u : Value) (h0 : Heap) (n0 : Nat) (v : Option Value) (h : Heap) (L : List Loc) : Prop := v = some (.int (if ((Value.ref a1) = (Value.ref a2) ∨ ((Value.ref a2) = (Value.ref ks) ∧ ¬ u = Value.null)) then (1 : Int32) else (0 : Int32))) ∧ Fr n0 L ∧ h = h0
set_option maxRecDepth 65536 in
set_option maxHeartbeats 40000000 in
theorem own_within (l : Launch) (Z : State) (a0 : Array Value) (hw : ∀ d ∈ tables_1, d.before a0 Z = true) (ws : List Jvm.Cond) (a1 : Addr) (a2 : Addr) (ks : Addr) (u : Value) (h0 : Heap) (n0 : Nat) (Z0 : n0 ≤ h0.size) (hu : u.isRef = true) (S0 : Sta Z h0 "com/example/factwell/factwell/pkb/EntityKind" "STMT" "Lcom/example/factwell/factwell/pkb/EntityKind;" (.ref ks)) (Fs : Fld Z h0 a1 "com/example/factwell/factwell/pkb/EntityKind" "statementKind" "Lcom/example/factwell/factwell/simple/StatementKind;" u) :
    MetFree l (⟨"com/example/factwell/factwell/pkb/EntityKind", "within", "(Lcom/example/factwell/factwell/pkb/EntityKind;)Z"⟩ : MethodName) (head1 (Jvm.Cond.code (⟨"com/example/factwell/factwell/pkb/EntityKind", "within", "(Lcom/example/factwell/factwell/pkb/EntityKind;)Z"⟩ : MethodName) prog_16_method_6_code 2 (some .boolean) :: ws) ({ frames := 0, cells := 0, slots := 0, locals := 0 } : Room)) (fun a U => a = #[(.ref a1), (.ref a2)] ∧ Z.Warmed39 U.vm ∧ U.heap = h0) (fun _ _ _ _ _ => True) (fun _ U o U' => ∃ v L, o = .returned v ∧ Q_own_within Z a1 a2 ks u h0 n0 v U'.heap L ∧ FrameEnd U o U' L ({ frames := 0, cells := 0, slots := 0, locals := 0 } : Room).cells ({ frames := 0, cells := 0, slots := 0, locals := 0 } : Room).slots) := by
  refine MetFree.of_bodySF (plainFor_of_name pn_own_within) hisR ?_
  intro p e s m args below meth c s₁ Bd hml0 hP hK
  obtain ⟨rfl, hZ, hh⟩ := hP
  have hx := Bd.exec
  have hby := Bd.bytes
  have hml : c.maxLocals = 2 := hml0
  have hown : s.vm.findClass "com/example/factwell/factwell/pkb/EntityKind" = some m.cls := findClass_of_methodNamed Bd.named
  have hnm := (name_of_methodNamed Bd.named Bd.method).1
  have X0 : Stand p l e ({ frames := 0, cells := 0, slots := 0, locals := 0 } : Room) s m #[(.ref a1), (.ref a2)] below meth c s₁ [] 0 0 := Stand.of_body Bd
  have e0 : s₁.heap = h0 := by rw [← hh, Bd.state]; rfl
  have N0 := Fr.nil n0
  have pre0 : ∀ t, Steps p.tables e below (s₁.setTop (mkF m 0 #[.val (.ref a1), .val (.ref a2)] [])) t → Steps p.tables e below (s₁.setTop (entryFrame m #[(.ref a1), (.ref a2)] 2)) t := fun t k => castTop (ef_own_within m (a1) (a2)) k
  by_cases h1 : (Value.ref a1) = (Value.ref a2)
  · obtain ⟨fs, hr, hrun, hended, hW, hsame⟩ := X0.leave (v := some (.int (1 : Int32))) (fun h => by rw [Bd.returns] at h; cases h)
    refine ⟨_, _, pre0 _ ?_, hrun, hended, _, _, rfl, ?_, ⟨_, rfl⟩, hW, hsame.mono (by decide) (by decide)⟩
    · show Steps p.tables e below (s₁.setTop (mkF m 0 #[.val (.ref a1), .val (.ref a2)] [])) _
      refine XS.aloadN X0.here hx rfl (hb hby d2_0) rfl rfl ?_
      show Steps p.tables e below (s₁.setTop (mkF m 1 #[.val (.ref a1), .val (.ref a2)] [(.ref a1)])) _
      refine XS.aloadN X0.here hx rfl (hb hby d2_1) rfl rfl ?_
      show Steps p.tables e below (s₁.setTop (mkF m 2 #[.val (.ref a1), .val (.ref a2)] [(.ref a2), (.ref a1)])) _
      refine XT.acmpYes X0.here hx rfl (pc0 := 2) (pc' := 19) rfl (hb hby d2_2) rfl rfl rfl (XT.aa_eq_t h1) (by decide) (by decide) ?_
      show Steps p.tables e below (s₁.setTop (mkF m 19 #[.val (.ref a1), .val (.ref a2)] [])) _
      refine XS.iconst X0.here hx rfl (hb hby d2_19) ?_
      show Steps p.tables e below (s₁.setTop (mkF m 20 #[.val (.ref a1), .val (.ref a2)] [(.int (1 : Int32))])) _
      refine XS.goto X0.here hx rfl (pc0 := 20) (pc' := 24) rfl (hb hby d2_20) (by decide) (by decide) ?_
      show Steps p.tables e below (s₁.setTop (mkF m 24 #[.val (.ref a1), .val (.ref a2)] [(.int (1 : Int32))])) _
      exact retN X0 hx (t := .boolean) Bd.returns (by simp) (hb hby d2_24) hr
    · show Q_own_within Z a1 a2 ks u h0 n0 _ s₁.heap _
      rw [e0]
      exact ⟨by rw [if_pos (Or.inl h1)], N0, rfl⟩
  · obtain ⟨T2, X2, e2, st2⟩ := getS2 X0 hx hZ hown (host := "") (Or.inl (hw _ (List.mem_of_getElem? (i := 15) rfl))) Via.refl e0 S0 (g := (mkF m 6 #[.val (.ref a1), .val (.ref a2)] [(.ref a2)])) rfl (hb hby d2_6)
    by_cases h2 : (Value.ref a2) = (Value.ref ks)
    · obtain ⟨T4, X4, e4, st4⟩ := getF X2 hx hZ hown (host := "") (Or.inl (hw _ (List.mem_of_getElem? (i := 24) rfl))) Via.refl e2 Fs (g := (mkF m 13 #[.val (.ref a1), .val (.ref a2)] [(.ref a1)])) rfl rfl (hb hby d2_13)
      by_cases h3 : u = Value.null
      · obtain ⟨fs, hr, hrun, hended, hW, hsame⟩ := X4.leave (v := some (.int (0 : Int32))) (fun h => by rw [Bd.returns] at h; cases h)
        refine ⟨_, _, pre0 _ ?_, hrun, hended, _, _, rfl, ?_, ⟨_, rfl⟩, hW, hsame.mono (by decide) (by decide)⟩
        · show Steps p.tables e below (s₁.setTop (mkF m 0 #[.val (.ref a1), .val (.ref a2)] [])) _
          refine XS.aloadN X0.here hx rfl (hb hby d2_0) rfl rfl ?_
          show Steps p.tables e below (s₁.setTop (mkF m 1 #[.val (.ref a1), .val (.ref a2)] [(.ref a1)])) _
          refine XS.aloadN X0.here hx rfl (hb hby d2_1) rfl rfl ?_
          show Steps p.tables e below (s₁.setTop (mkF m 2 #[.val (.ref a1), .val (.ref a2)] [(.ref a2), (.ref a1)])) _
          refine XT.acmpNo X0.here hx rfl (hb hby d2_2) rfl rfl rfl (XT.aa_eq_f h1) ?_
          show Steps p.tables e below (s₁.setTop (mkF m 5 #[.val (.ref a1), .val (.ref a2)] [])) _
          refine XS.aloadN X0.here hx rfl (hb hby d2_5) rfl rfl ?_
          show Steps p.tables e below (s₁.setTop (mkF m 6 #[.val (.ref a1), .val (.ref a2)] [(.ref a2)])) _
          refine st2 _ ?_
          show Steps p.tables e below (T2.setTop (mkF m 9 #[.val (.ref a1), .val (.ref a2)] [(.ref ks), (.ref a2)])) _
          refine XT.acmpNo X2.here hx rfl (hb hby d2_9) rfl rfl rfl (XT.aa_ne_f h2) ?_
          show Steps p.tables e below (T2.setTop (mkF m 12 #[.val (.ref a1), .val (.ref a2)] [])) _
          refine XS.aloadN X2.here hx rfl (hb hby d2_12) rfl rfl ?_
          show Steps p.tables e below (T2.setTop (mkF m 13 #[.val (.ref a1), .val (.ref a2)] [(.ref a1)])) _
          refine st4 _ ?_
          show Steps p.tables e below (T4.setTop (mkF m 16 #[.val (.ref a1), .val (.ref a2)] [u])) _
          refine XT.nullYes X4.here hx rfl (pc0 := 16) (pc' := 23) rfl (hb hby d2_16) rfl h3 (by decide) (by decide) ?_
          show Steps p.tables e below (T4.setTop (mkF m 23 #[.val (.ref a1), .val (.ref a2)] [])) _
          refine XS.iconst X4.here hx rfl (hb hby d2_23) ?_
          show Steps p.tables e below (T4.setTop (mkF m 24 #[.val (.ref a1), .val (.ref a2)] [(.int (0 : Int32))])) _
          exact retN X4 hx (t := .boolean) Bd.returns (by simp) (hb hby d2_24) hr
        · show Q_own_within Z a1 a2 ks u h0 n0 _ T4.heap _
          rw [e4]
          exact ⟨by rw [if_neg (fun q => q.elim h1 fun r => r.2 h3)], N0, rfl⟩
      · obtain ⟨fs, hr, hrun, hended, hW, hsame⟩ := X4.leave (v := some (.int (1 : Int32))) (fun h => by rw [Bd.returns] at h; cases h)
        refine ⟨_, _, pre0 _ ?_, hrun, hended, _, _, rfl, ?_, ⟨_, rfl⟩, hW, hsame.mono (by decide) (by decide)⟩
        · show Steps p.tables e below (s₁.setTop (mkF m 0 #[.val (.ref a1), .val (.ref a2)] [])) _
          refine XS.aloadN X0.here hx rfl (hb hby d2_0) rfl rfl ?_
          show Steps p.tables e below (s₁.setTop (mkF m 1 #[.val (.ref a1), .val (.ref a2)] [(.ref a1)])) _
          refine XS.aloadN X0.here hx rfl (hb hby d2_1) rfl rfl ?_
          show Steps p.tables e below (s₁.setTop (mkF m 2 #[.val (.ref a1), .val (.ref a2)] [(.ref a2), (.ref a1)])) _
          refine XT.acmpNo X0.here hx rfl (hb hby d2_2) rfl rfl rfl (XT.aa_eq_f h1) ?_
          show Steps p.tables e below (s₁.setTop (mkF m 5 #[.val (.ref a1), .val (.ref a2)] [])) _
          refine XS.aloadN X0.here hx rfl (hb hby d2_5) rfl rfl ?_
          show Steps p.tables e below (s₁.setTop (mkF m 6 #[.val (.ref a1), .val (.ref a2)] [(.ref a2)])) _
          refine st2 _ ?_
          show Steps p.tables e below (T2.setTop (mkF m 9 #[.val (.ref a1), .val (.ref a2)] [(.ref ks), (.ref a2)])) _
          refine XT.acmpNo X2.here hx rfl (hb hby d2_9) rfl rfl rfl (XT.aa_ne_f h2) ?_
          show Steps p.tables e below (T2.setTop (mkF m 12 #[.val (.ref a1), .val (.ref a2)] [])) _
          refine XS.aloadN X2.here hx rfl (hb hby d2_12) rfl rfl ?_
          show Steps p.tables e below (T2.setTop (mkF m 13 #[.val (.ref a1), .val (.ref a2)] [(.ref a1)])) _
          refine st4 _ ?_
          show Steps p.tables e below (T4.setTop (mkF m 16 #[.val (.ref a1), .val (.ref a2)] [u])) _
          refine XT.nullNo X4.here hx rfl (hb hby d2_16) rfl hu h3 ?_
          show Steps p.tables e below (T4.setTop (mkF m 19 #[.val (.ref a1), .val (.ref a2)] [])) _
          refine XS.iconst X4.here hx rfl (hb hby d2_19) ?_
          show Steps p.tables e below (T4.setTop (mkF m 20 #[.val (.ref a1), .val (.ref a2)] [(.int (1 : Int32))])) _
          refine XS.goto X4.here hx rfl (pc0 := 20) (pc' := 24) rfl (hb hby d2_20) (by decide) (by decide) ?_
          show Steps p.tables e below (T4.setTop (mkF m 24 #[.val (.ref a1), .val (.ref a2)] [(.int (1 : Int32))])) _
          exact retN X4 hx (t := .boolean) Bd.returns (by simp) (hb hby d2_24) hr
        · show Q_own_within Z a1 a2 ks u h0 n0 _ T4.heap _
          rw [e4]
          exact ⟨by rw [if_pos (Or.inr ⟨h2, h3⟩)], N0, rfl⟩
    · obtain ⟨fs, hr, hrun, hended, hW, hsame⟩ := X2.leave (v := some (.int (0 : Int32))) (fun h => by rw [Bd.returns] at h; cases h)
      refine ⟨_, _, pre0 _ ?_, hrun, hended, _, _, rfl, ?_, ⟨_, rfl⟩, hW, hsame.mono (by decide) (by decide)⟩
      · show Steps p.tables e below (s₁.setTop (mkF m 0 #[.val (.ref a1), .val (.ref a2)] [])) _
        refine XS.aloadN X0.here hx rfl (hb hby d2_0) rfl rfl ?_
        show Steps p.tables e below (s₁.setTop (mkF m 1 #[.val (.ref a1), .val (.ref a2)] [(.ref a1)])) _
        refine XS.aloadN X0.here hx rfl (hb hby d2_1) rfl rfl ?_
        show Steps p.tables e below (s₁.setTop (mkF m 2 #[.val (.ref a1), .val (.ref a2)] [(.ref a2), (.ref a1)])) _
        refine XT.acmpNo X0.here hx rfl (hb hby d2_2) rfl rfl rfl (XT.aa_eq_f h1) ?_
        show Steps p.tables e below (s₁.setTop (mkF m 5 #[.val (.ref a1), .val (.ref a2)] [])) _
        refine XS.aloadN X0.here hx rfl (hb hby d2_5) rfl rfl ?_
        show Steps p.tables e below (s₁.setTop (mkF m 6 #[.val (.ref a1), .val (.ref a2)] [(.ref a2)])) _
        refine st2 _ ?_
        show Steps p.tables e below (T2.setTop (mkF m 9 #[.val (.ref a1), .val (.ref a2)] [(.ref ks), (.ref a2)])) _
        refine XT.acmpYes X2.here hx rfl (pc0 := 9) (pc' := 23) rfl (hb hby d2_9) rfl rfl rfl (XT.aa_ne_t h2) (by decide) (by decide) ?_
        show Steps p.tables e below (T2.setTop (mkF m 23 #[.val (.ref a1), .val (.ref a2)] [])) _
        refine XS.iconst X2.here hx rfl (hb hby d2_23) ?_
        show Steps p.tables e below (T2.setTop (mkF m 24 #[.val (.ref a1), .val (.ref a2)] [(.int (0 : Int32))])) _
        exact retN X2 hx (t := .boolean) Bd.returns (by simp) (hb hby d2_24) hr
      · show Q_own_within Z a1 a2 ks u h0 n0 _ T2.heap _
        rw [e2]
        exact ⟨by rw [if_neg (fun q => q.elim h1 fun r => h2 r.1)], N0, rfl⟩
def own_kind (kf : Fin 10 → Addr) (p0 : Int32) : Addr := if p0 = 0 then kf 0 else if p0 = 1 then kf 1 else if p0 = 2 then kf 2 else if p0 = 3 then kf 3 else if p0 = 4 then kf 4 else if p0 = 5 then kf 5 else if p0 = 6 then kf 6 else if p0 = 7 then kf 7 else if p0 = 8 then kf 8 else kf 9
theorem own_kind_at (kf : Fin 10 → Addr) (i : Fin 10) : own_kind kf i.val.toInt32 = kf i := by
  match i with
  | ⟨0, _⟩ => rfl
  | ⟨1, _⟩ => rfl
  | ⟨2, _⟩ => rfl
  | ⟨3, _⟩ => rfl
  | ⟨4, _⟩ => rfl
  | ⟨5, _⟩ => rfl
  | ⟨6, _⟩ => rfl
  | ⟨7, _⟩ => rfl
  | ⟨8, _⟩ => rfl
  | ⟨9, _⟩ => rfl
theorem d1_0 : decode method_2_code 0 = .ok (.iload_n 0, 1) := by decide +kernel
theorem d1_1 : decode method_2_code 1 = .ok (.ifCond .ne 7, 3) := by decide +kernel
theorem d1_4 : decode method_2_code 4 = .ok (.getstatic 7, 3) := by decide +kernel
theorem d1_7 : decode method_2_code 7 = .ok (.areturn, 1) := by decide +kernel
theorem d1_8 : decode method_2_code 8 = .ok (.iload_n 0, 1) := by decide +kernel
theorem d1_9 : decode method_2_code 9 = .ok (.iconst 1, 1) := by decide +kernel
theorem d1_10 : decode method_2_code 10 = .ok (.if_icmp .ne 7, 3) := by decide +kernel
theorem d1_13 : decode method_2_code 13 = .ok (.getstatic 13, 3) := by decide +kernel
theorem d1_16 : decode method_2_code 16 = .ok (.areturn, 1) := by decide +kernel
theorem d1_17 : decode method_2_code 17 = .ok (.iload_n 0, 1) := by decide +kernel
theorem d1_18 : decode method_2_code 18 = .ok (.iconst 2, 1) := by decide +kernel
theorem d1_19 : decode method_2_code 19 = .ok (.if_icmp .ne 7, 3) := by decide +kernel
theorem d1_22 : decode method_2_code 22 = .ok (.getstatic 16, 3) := by decide +kernel
theorem d1_25 : decode method_2_code 25 = .ok (.areturn, 1) := by decide +kernel
theorem d1_26 : decode method_2_code 26 = .ok (.iload_n 0, 1) := by decide +kernel
theorem d1_27 : decode method_2_code 27 = .ok (.iconst 3, 1) := by decide +kernel
theorem d1_28 : decode method_2_code 28 = .ok (.if_icmp .ne 7, 3) := by decide +kernel
theorem d1_31 : decode method_2_code 31 = .ok (.getstatic 19, 3) := by decide +kernel
theorem d1_34 : decode method_2_code 34 = .ok (.areturn, 1) := by decide +kernel
theorem d1_35 : decode method_2_code 35 = .ok (.iload_n 0, 1) := by decide +kernel
theorem d1_36 : decode method_2_code 36 = .ok (.iconst 4, 1) := by decide +kernel
theorem d1_37 : decode method_2_code 37 = .ok (.if_icmp .ne 7, 3) := by decide +kernel
theorem d1_40 : decode method_2_code 40 = .ok (.getstatic 22, 3) := by decide +kernel
theorem d1_43 : decode method_2_code 43 = .ok (.areturn, 1) := by decide +kernel
theorem d1_44 : decode method_2_code 44 = .ok (.iload_n 0, 1) := by decide +kernel
theorem d1_45 : decode method_2_code 45 = .ok (.iconst 5, 1) := by decide +kernel
theorem d1_46 : decode method_2_code 46 = .ok (.if_icmp .ne 7, 3) := by decide +kernel
theorem d1_49 : decode method_2_code 49 = .ok (.getstatic 25, 3) := by decide +kernel
theorem d1_52 : decode method_2_code 52 = .ok (.areturn, 1) := by decide +kernel
theorem d1_53 : decode method_2_code 53 = .ok (.iload_n 0, 1) := by decide +kernel
theorem d1_54 : decode method_2_code 54 = .ok (.bipush 6, 2) := by decide +kernel
theorem d1_56 : decode method_2_code 56 = .ok (.if_icmp .ne 7, 3) := by decide +kernel
theorem d1_59 : decode method_2_code 59 = .ok (.getstatic 28, 3) := by decide +kernel
theorem d1_62 : decode method_2_code 62 = .ok (.areturn, 1) := by decide +kernel
theorem d1_63 : decode method_2_code 63 = .ok (.iload_n 0, 1) := by decide +kernel
theorem d1_64 : decode method_2_code 64 = .ok (.bipush 7, 2) := by decide +kernel
theorem d1_66 : decode method_2_code 66 = .ok (.if_icmp .ne 7, 3) := by decide +kernel
theorem d1_69 : decode method_2_code 69 = .ok (.getstatic 31, 3) := by decide +kernel
theorem d1_72 : decode method_2_code 72 = .ok (.areturn, 1) := by decide +kernel
theorem d1_73 : decode method_2_code 73 = .ok (.iload_n 0, 1) := by decide +kernel
theorem d1_74 : decode method_2_code 74 = .ok (.bipush 8, 2) := by decide +kernel
theorem d1_76 : decode method_2_code 76 = .ok (.if_icmp .ne 7, 3) := by decide +kernel
theorem d1_79 : decode method_2_code 79 = .ok (.getstatic 34, 3) := by decide +kernel
theorem d1_82 : decode method_2_code 82 = .ok (.areturn, 1) := by decide +kernel
theorem d1_83 : decode method_2_code 83 = .ok (.getstatic 37, 3) := by decide +kernel
theorem d1_86 : decode method_2_code 86 = .ok (.areturn, 1) := by decide +kernel
theorem pn_own_kd : plainName "com/example/factwell/factwell/pkb/EntityKindWithinPinLaw" = true := by first | (simp [plainName, overriddenIn]; done) | decide +kernel
theorem ef_own_kd (m : MethodId) (x0 : Int32) : entryFrame m #[(.int x0)] 1 = mkF m 0 #[.val (.int x0)] [] := by first | (simp [entryFrame, mkF, argsToLocals, Value.category]; done) | rfl
def Q_own_kd (Z : State) (p0 : Int32) (kf : Fin 10 → Addr) (h0 : Heap) (n0 : Nat) (v : Option Value) (h : Heap) (L : List Loc) : Prop := v = some (.ref (own_kind kf p0)) ∧ Fr n0 L ∧ h = h0
set_option maxRecDepth 65536 in
set_option maxHeartbeats 40000000 in
theorem own_kd (l : Launch) (Z : State) (a0 : Array Value) (hw : ∀ d ∈ tables_1, d.before a0 Z = true) (ws : List Jvm.Cond) (p0 : Int32) (kf : Fin 10 → Addr) (h0 : Heap) (n0 : Nat) (Z0 : n0 ≤ h0.size) (S0 : Sta Z h0 "com/example/factwell/factwell/pkb/EntityKind" "STMT" "Lcom/example/factwell/factwell/pkb/EntityKind;" (.ref (kf 0))) (S1 : Sta Z h0 "com/example/factwell/factwell/pkb/EntityKind" "READ" "Lcom/example/factwell/factwell/pkb/EntityKind;" (.ref (kf 1))) (S2 : Sta Z h0 "com/example/factwell/factwell/pkb/EntityKind" "PRINT" "Lcom/example/factwell/factwell/pkb/EntityKind;" (.ref (kf 2))) (S3 : Sta Z h0 "com/example/factwell/factwell/pkb/EntityKind" "CALL" "Lcom/example/factwell/factwell/pkb/EntityKind;" (.ref (kf 3))) (S4 : Sta Z h0 "com/example/factwell/factwell/pkb/EntityKind" "WHILE" "Lcom/example/factwell/factwell/pkb/EntityKind;" (.ref (kf 4))) (S5 : Sta Z h0 "com/example/factwell/factwell/pkb/EntityKind" "IF" "Lcom/example/factwell/factwell/pkb/EntityKind;" (.ref (kf 5))) (S6 : Sta Z h0 "com/example/factwell/factwell/pkb/EntityKind" "ASSIGN" "Lcom/example/factwell/factwell/pkb/EntityKind;" (.ref (kf 6))) (S7 : Sta Z h0 "com/example/factwell/factwell/pkb/EntityKind" "VARIABLE" "Lcom/example/factwell/factwell/pkb/EntityKind;" (.ref (kf 7))) (S8 : Sta Z h0 "com/example/factwell/factwell/pkb/EntityKind" "CONSTANT" "Lcom/example/factwell/factwell/pkb/EntityKind;" (.ref (kf 8))) (S9 : Sta Z h0 "com/example/factwell/factwell/pkb/EntityKind" "PROCEDURE" "Lcom/example/factwell/factwell/pkb/EntityKind;" (.ref (kf 9))) :
    MetFree l (⟨"com/example/factwell/factwell/pkb/EntityKindWithinPinLaw", "kind", "(I)Lcom/example/factwell/factwell/pkb/EntityKind;"⟩ : MethodName) (head1 (Jvm.Cond.code (⟨"com/example/factwell/factwell/pkb/EntityKindWithinPinLaw", "kind", "(I)Lcom/example/factwell/factwell/pkb/EntityKind;"⟩ : MethodName) method_2_code 1 (some (.object "com/example/factwell/factwell/pkb/EntityKind")) :: ws) ({ frames := 0, cells := 0, slots := 0, locals := 0 } : Room)) (fun a U => a = #[(.int p0)] ∧ Z.Warmed39 U.vm ∧ U.heap = h0) (fun _ _ _ _ _ => True) (fun _ U o U' => ∃ v L, o = .returned v ∧ Q_own_kd Z p0 kf h0 n0 v U'.heap L ∧ FrameEnd U o U' L ({ frames := 0, cells := 0, slots := 0, locals := 0 } : Room).cells ({ frames := 0, cells := 0, slots := 0, locals := 0 } : Room).slots) := by
  refine MetFree.of_bodySF (plainFor_of_name pn_own_kd) hisR ?_
  intro p e s m args below meth c s₁ Bd hml0 hP hK
  obtain ⟨rfl, hZ, hh⟩ := hP
  have hx := Bd.exec
  have hby := Bd.bytes
  have hml : c.maxLocals = 1 := hml0
  have hown : s.vm.findClass "com/example/factwell/factwell/pkb/EntityKindWithinPinLaw" = some m.cls := findClass_of_methodNamed Bd.named
  have hnm := (name_of_methodNamed Bd.named Bd.method).1
  have X0 : Stand p l e ({ frames := 0, cells := 0, slots := 0, locals := 0 } : Room) s m #[(.int p0)] below meth c s₁ [] 0 0 := Stand.of_body Bd
  have e0 : s₁.heap = h0 := by rw [← hh, Bd.state]; rfl
  have N0 := Fr.nil n0
  have pre0 : ∀ t, Steps p.tables e below (s₁.setTop (mkF m 0 #[.val (.int p0)] [])) t → Steps p.tables e below (s₁.setTop (entryFrame m #[(.int p0)] 1)) t := fun t k => castTop (ef_own_kd m (p0)) k
  by_cases hp0 : p0 = 0
  · obtain ⟨T7, X7, e7, st7⟩ := getS2 X0 hx hZ hown (host := "") (Or.inl (hw _ (List.mem_of_getElem? (i := 5) rfl))) Via.refl e0 S0 (g := (mkF m 4 #[.val (.int p0)] [])) rfl (hb hby d1_4)
    obtain ⟨fs, hr, hrun, hended, hW, hsame⟩ := X7.leave (v := some (.ref (kf 0))) (fun h => by rw [Bd.returns] at h; cases h)
    refine ⟨_, _, pre0 _ ?_, hrun, hended, _, _, rfl, ?_, ⟨_, rfl⟩, hW, hsame.mono (by decide) (by decide)⟩
    · show Steps p.tables e below (s₁.setTop (mkF m 0 #[.val (.int p0)] [])) _
      refine XS.iloadN X0.here hx rfl (hb hby d1_0) rfl ?_
      show Steps p.tables e below (s₁.setTop (mkF m 1 #[.val (.int p0)] [(.int p0)])) _
      refine XS.ifNo X0.here hx rfl (hb hby d1_1) rfl (XT.i0_ne_f hp0) ?_
      show Steps p.tables e below (s₁.setTop (mkF m 4 #[.val (.int p0)] [])) _
      refine st7 _ ?_
      show Steps p.tables e below (T7.setTop (mkF m 7 #[.val (.int p0)] [(.ref (kf 0))])) _
      exact retOut X7 hx (t := (.object "com/example/factwell/factwell/pkb/EntityKind")) Bd.returns rfl (Or.inr (Or.inr (Or.inr (Or.inr ⟨rfl, rfl, rfl⟩)))) (hb hby d1_7) hr
    · show Q_own_kd Z p0 kf h0 n0 _ T7.heap _
      rw [e7]
      exact ⟨by unfold own_kind; rw [if_pos hp0], N0, rfl⟩
  · by_cases hp1 : p0 = (1 : Int32)
    · obtain ⟨T9, X9, e9, st9⟩ := getS2 X0 hx hZ hown (host := "") (Or.inl (hw _ (List.mem_of_getElem? (i := 18) rfl))) Via.refl e0 S1 (g := (mkF m 13 #[.val (.int p0)] [])) rfl (hb hby d1_13)
      obtain ⟨fs, hr, hrun, hended, hW, hsame⟩ := X9.leave (v := some (.ref (kf 1))) (fun h => by rw [Bd.returns] at h; cases h)
      refine ⟨_, _, pre0 _ ?_, hrun, hended, _, _, rfl, ?_, ⟨_, rfl⟩, hW, hsame.mono (by decide) (by decide)⟩
      · show Steps p.tables e below (s₁.setTop (mkF m 0 #[.val (.int p0)] [])) _
        refine XS.iloadN X0.here hx rfl (hb hby d1_0) rfl ?_
        show Steps p.tables e below (s₁.setTop (mkF m 1 #[.val (.int p0)] [(.int p0)])) _
        refine XS.ifYes X0.here hx rfl (pc0 := 1) (pc' := 8) rfl (hb hby d1_1) rfl (XT.i0_ne_t hp0) (by decide) (by decide) ?_
        show Steps p.tables e below (s₁.setTop (mkF m 8 #[.val (.int p0)] [])) _
        refine XS.iloadN X0.here hx rfl (hb hby d1_8) rfl ?_
        show Steps p.tables e below (s₁.setTop (mkF m 9 #[.val (.int p0)] [(.int p0)])) _
        refine XS.iconst X0.here hx rfl (hb hby d1_9) ?_
        show Steps p.tables e below (s₁.setTop (mkF m 10 #[.val (.int p0)] [(.int (1 : Int32)), (.int p0)])) _
        refine XS.icmpNo X0.here hx rfl (hb hby d1_10) rfl (XT.ii_ne_f hp1) ?_
        show Steps p.tables e below (s₁.setTop (mkF m 13 #[.val (.int p0)] [])) _
        refine st9 _ ?_
        show Steps p.tables e below (T9.setTop (mkF m 16 #[.val (.int p0)] [(.ref (kf 1))])) _
        exact retOut X9 hx (t := (.object "com/example/factwell/factwell/pkb/EntityKind")) Bd.returns rfl (Or.inr (Or.inr (Or.inr (Or.inr ⟨rfl, rfl, rfl⟩)))) (hb hby d1_16) hr
      · show Q_own_kd Z p0 kf h0 n0 _ T9.heap _
        rw [e9]
        exact ⟨by unfold own_kind; rw [if_neg hp0, if_pos hp1], N0, rfl⟩
    · by_cases hp2 : p0 = (2 : Int32)
      · obtain ⟨T11, X11, e11, st11⟩ := getS2 X0 hx hZ hown (host := "") (Or.inl (hw _ (List.mem_of_getElem? (i := 32) rfl))) Via.refl e0 S2 (g := (mkF m 22 #[.val (.int p0)] [])) rfl (hb hby d1_22)
        obtain ⟨fs, hr, hrun, hended, hW, hsame⟩ := X11.leave (v := some (.ref (kf 2))) (fun h => by rw [Bd.returns] at h; cases h)
        refine ⟨_, _, pre0 _ ?_, hrun, hended, _, _, rfl, ?_, ⟨_, rfl⟩, hW, hsame.mono (by decide) (by decide)⟩
        · show Steps p.tables e below (s₁.setTop (mkF m 0 #[.val (.int p0)] [])) _
          refine XS.iloadN X0.here hx rfl (hb hby d1_0) rfl ?_
          show Steps p.tables e below (s₁.setTop (mkF m 1 #[.val (.int p0)] [(.int p0)])) _
          refine XS.ifYes X0.here hx rfl (pc0 := 1) (pc' := 8) rfl (hb hby d1_1) rfl (XT.i0_ne_t hp0) (by decide) (by decide) ?_
          show Steps p.tables e below (s₁.setTop (mkF m 8 #[.val (.int p0)] [])) _
          refine XS.iloadN X0.here hx rfl (hb hby d1_8) rfl ?_
          show Steps p.tables e below (s₁.setTop (mkF m 9 #[.val (.int p0)] [(.int p0)])) _
          refine XS.iconst X0.here hx rfl (hb hby d1_9) ?_
          show Steps p.tables e below (s₁.setTop (mkF m 10 #[.val (.int p0)] [(.int (1 : Int32)), (.int p0)])) _
          refine XS.icmpYes X0.here hx rfl (pc0 := 10) (pc' := 17) rfl (hb hby d1_10) rfl (XT.ii_ne_t hp1) (by decide) (by decide) ?_
          show Steps p.tables e below (s₁.setTop (mkF m 17 #[.val (.int p0)] [])) _
          refine XS.iloadN X0.here hx rfl (hb hby d1_17) rfl ?_
          show Steps p.tables e below (s₁.setTop (mkF m 18 #[.val (.int p0)] [(.int p0)])) _
          refine XS.iconst X0.here hx rfl (hb hby d1_18) ?_
          show Steps p.tables e below (s₁.setTop (mkF m 19 #[.val (.int p0)] [(.int (2 : Int32)), (.int p0)])) _
          refine XS.icmpNo X0.here hx rfl (hb hby d1_19) rfl (XT.ii_ne_f hp2) ?_
          show Steps p.tables e below (s₁.setTop (mkF m 22 #[.val (.int p0)] [])) _
          refine st11 _ ?_
          show Steps p.tables e below (T11.setTop (mkF m 25 #[.val (.int p0)] [(.ref (kf 2))])) _
          exact retOut X11 hx (t := (.object "com/example/factwell/factwell/pkb/EntityKind")) Bd.returns rfl (Or.inr (Or.inr (Or.inr (Or.inr ⟨rfl, rfl, rfl⟩)))) (hb hby d1_25) hr
        · show Q_own_kd Z p0 kf h0 n0 _ T11.heap _
          rw [e11]
          exact ⟨by unfold own_kind; rw [if_neg hp0, if_neg hp1, if_pos hp2], N0, rfl⟩
      · by_cases hp3 : p0 = (3 : Int32)
        · obtain ⟨T13, X13, e13, st13⟩ := getS2 X0 hx hZ hown (host := "") (Or.inl (hw _ (List.mem_of_getElem? (i := 8) rfl))) Via.refl e0 S3 (g := (mkF m 31 #[.val (.int p0)] [])) rfl (hb hby d1_31)
          obtain ⟨fs, hr, hrun, hended, hW, hsame⟩ := X13.leave (v := some (.ref (kf 3))) (fun h => by rw [Bd.returns] at h; cases h)
          refine ⟨_, _, pre0 _ ?_, hrun, hended, _, _, rfl, ?_, ⟨_, rfl⟩, hW, hsame.mono (by decide) (by decide)⟩
          · show Steps p.tables e below (s₁.setTop (mkF m 0 #[.val (.int p0)] [])) _
            refine XS.iloadN X0.here hx rfl (hb hby d1_0) rfl ?_
            show Steps p.tables e below (s₁.setTop (mkF m 1 #[.val (.int p0)] [(.int p0)])) _
            refine XS.ifYes X0.here hx rfl (pc0 := 1) (pc' := 8) rfl (hb hby d1_1) rfl (XT.i0_ne_t hp0) (by decide) (by decide) ?_
            show Steps p.tables e below (s₁.setTop (mkF m 8 #[.val (.int p0)] [])) _
            refine XS.iloadN X0.here hx rfl (hb hby d1_8) rfl ?_
            show Steps p.tables e below (s₁.setTop (mkF m 9 #[.val (.int p0)] [(.int p0)])) _
            refine XS.iconst X0.here hx rfl (hb hby d1_9) ?_
            show Steps p.tables e below (s₁.setTop (mkF m 10 #[.val (.int p0)] [(.int (1 : Int32)), (.int p0)])) _
            refine XS.icmpYes X0.here hx rfl (pc0 := 10) (pc' := 17) rfl (hb hby d1_10) rfl (XT.ii_ne_t hp1) (by decide) (by decide) ?_
            show Steps p.tables e below (s₁.setTop (mkF m 17 #[.val (.int p0)] [])) _
            refine XS.iloadN X0.here hx rfl (hb hby d1_17) rfl ?_
            show Steps p.tables e below (s₁.setTop (mkF m 18 #[.val (.int p0)] [(.int p0)])) _
            refine XS.iconst X0.here hx rfl (hb hby d1_18) ?_
            show Steps p.tables e below (s₁.setTop (mkF m 19 #[.val (.int p0)] [(.int (2 : Int32)), (.int p0)])) _
            refine XS.icmpYes X0.here hx rfl (pc0 := 19) (pc' := 26) rfl (hb hby d1_19) rfl (XT.ii_ne_t hp2) (by decide) (by decide) ?_
            show Steps p.tables e below (s₁.setTop (mkF m 26 #[.val (.int p0)] [])) _
            refine XS.iloadN X0.here hx rfl (hb hby d1_26) rfl ?_
            show Steps p.tables e below (s₁.setTop (mkF m 27 #[.val (.int p0)] [(.int p0)])) _
            refine XS.iconst X0.here hx rfl (hb hby d1_27) ?_
            show Steps p.tables e below (s₁.setTop (mkF m 28 #[.val (.int p0)] [(.int (3 : Int32)), (.int p0)])) _
            refine XS.icmpNo X0.here hx rfl (hb hby d1_28) rfl (XT.ii_ne_f hp3) ?_
            show Steps p.tables e below (s₁.setTop (mkF m 31 #[.val (.int p0)] [])) _
            refine st13 _ ?_
            show Steps p.tables e below (T13.setTop (mkF m 34 #[.val (.int p0)] [(.ref (kf 3))])) _
            exact retOut X13 hx (t := (.object "com/example/factwell/factwell/pkb/EntityKind")) Bd.returns rfl (Or.inr (Or.inr (Or.inr (Or.inr ⟨rfl, rfl, rfl⟩)))) (hb hby d1_34) hr
          · show Q_own_kd Z p0 kf h0 n0 _ T13.heap _
            rw [e13]
            exact ⟨by unfold own_kind; rw [if_neg hp0, if_neg hp1, if_neg hp2, if_pos hp3], N0, rfl⟩
        · by_cases hp4 : p0 = (4 : Int32)
          · obtain ⟨T15, X15, e15, st15⟩ := getS2 X0 hx hZ hown (host := "") (Or.inl (hw _ (List.mem_of_getElem? (i := 16) rfl))) Via.refl e0 S4 (g := (mkF m 40 #[.val (.int p0)] [])) rfl (hb hby d1_40)
            obtain ⟨fs, hr, hrun, hended, hW, hsame⟩ := X15.leave (v := some (.ref (kf 4))) (fun h => by rw [Bd.returns] at h; cases h)
            refine ⟨_, _, pre0 _ ?_, hrun, hended, _, _, rfl, ?_, ⟨_, rfl⟩, hW, hsame.mono (by decide) (by decide)⟩
            · show Steps p.tables e below (s₁.setTop (mkF m 0 #[.val (.int p0)] [])) _
              refine XS.iloadN X0.here hx rfl (hb hby d1_0) rfl ?_
              show Steps p.tables e below (s₁.setTop (mkF m 1 #[.val (.int p0)] [(.int p0)])) _
              refine XS.ifYes X0.here hx rfl (pc0 := 1) (pc' := 8) rfl (hb hby d1_1) rfl (XT.i0_ne_t hp0) (by decide) (by decide) ?_
              show Steps p.tables e below (s₁.setTop (mkF m 8 #[.val (.int p0)] [])) _
              refine XS.iloadN X0.here hx rfl (hb hby d1_8) rfl ?_
              show Steps p.tables e below (s₁.setTop (mkF m 9 #[.val (.int p0)] [(.int p0)])) _
              refine XS.iconst X0.here hx rfl (hb hby d1_9) ?_
              show Steps p.tables e below (s₁.setTop (mkF m 10 #[.val (.int p0)] [(.int (1 : Int32)), (.int p0)])) _
              refine XS.icmpYes X0.here hx rfl (pc0 := 10) (pc' := 17) rfl (hb hby d1_10) rfl (XT.ii_ne_t hp1) (by decide) (by decide) ?_
              show Steps p.tables e below (s₁.setTop (mkF m 17 #[.val (.int p0)] [])) _
              refine XS.iloadN X0.here hx rfl (hb hby d1_17) rfl ?_
              show Steps p.tables e below (s₁.setTop (mkF m 18 #[.val (.int p0)] [(.int p0)])) _
              refine XS.iconst X0.here hx rfl (hb hby d1_18) ?_
              show Steps p.tables e below (s₁.setTop (mkF m 19 #[.val (.int p0)] [(.int (2 : Int32)), (.int p0)])) _
              refine XS.icmpYes X0.here hx rfl (pc0 := 19) (pc' := 26) rfl (hb hby d1_19) rfl (XT.ii_ne_t hp2) (by decide) (by decide) ?_
              show Steps p.tables e below (s₁.setTop (mkF m 26 #[.val (.int p0)] [])) _
              refine XS.iloadN X0.here hx rfl (hb hby d1_26) rfl ?_
              show Steps p.tables e below (s₁.setTop (mkF m 27 #[.val (.int p0)] [(.int p0)])) _
              refine XS.iconst X0.here hx rfl (hb hby d1_27) ?_
              show Steps p.tables e below (s₁.setTop (mkF m 28 #[.val (.int p0)] [(.int (3 : Int32)), (.int p0)])) _
              refine XS.icmpYes X0.here hx rfl (pc0 := 28) (pc' := 35) rfl (hb hby d1_28) rfl (XT.ii_ne_t hp3) (by decide) (by decide) ?_
              show Steps p.tables e below (s₁.setTop (mkF m 35 #[.val (.int p0)] [])) _
              refine XS.iloadN X0.here hx rfl (hb hby d1_35) rfl ?_
              show Steps p.tables e below (s₁.setTop (mkF m 36 #[.val (.int p0)] [(.int p0)])) _
              refine XS.iconst X0.here hx rfl (hb hby d1_36) ?_
              show Steps p.tables e below (s₁.setTop (mkF m 37 #[.val (.int p0)] [(.int (4 : Int32)), (.int p0)])) _
              refine XS.icmpNo X0.here hx rfl (hb hby d1_37) rfl (XT.ii_ne_f hp4) ?_
              show Steps p.tables e below (s₁.setTop (mkF m 40 #[.val (.int p0)] [])) _
              refine st15 _ ?_
              show Steps p.tables e below (T15.setTop (mkF m 43 #[.val (.int p0)] [(.ref (kf 4))])) _
              exact retOut X15 hx (t := (.object "com/example/factwell/factwell/pkb/EntityKind")) Bd.returns rfl (Or.inr (Or.inr (Or.inr (Or.inr ⟨rfl, rfl, rfl⟩)))) (hb hby d1_43) hr
            · show Q_own_kd Z p0 kf h0 n0 _ T15.heap _
              rw [e15]
              exact ⟨by unfold own_kind; rw [if_neg hp0, if_neg hp1, if_neg hp2, if_neg hp3, if_pos hp4], N0, rfl⟩
          · by_cases hp5 : p0 = (5 : Int32)
            · obtain ⟨T17, X17, e17, st17⟩ := getS2 X0 hx hZ hown (host := "") (Or.inl (hw _ (List.mem_of_getElem? (i := 34) rfl))) Via.refl e0 S5 (g := (mkF m 49 #[.val (.int p0)] [])) rfl (hb hby d1_49)
              obtain ⟨fs, hr, hrun, hended, hW, hsame⟩ := X17.leave (v := some (.ref (kf 5))) (fun h => by rw [Bd.returns] at h; cases h)
              refine ⟨_, _, pre0 _ ?_, hrun, hended, _, _, rfl, ?_, ⟨_, rfl⟩, hW, hsame.mono (by decide) (by decide)⟩
              · show Steps p.tables e below (s₁.setTop (mkF m 0 #[.val (.int p0)] [])) _
                refine XS.iloadN X0.here hx rfl (hb hby d1_0) rfl ?_
                show Steps p.tables e below (s₁.setTop (mkF m 1 #[.val (.int p0)] [(.int p0)])) _
                refine XS.ifYes X0.here hx rfl (pc0 := 1) (pc' := 8) rfl (hb hby d1_1) rfl (XT.i0_ne_t hp0) (by decide) (by decide) ?_
                show Steps p.tables e below (s₁.setTop (mkF m 8 #[.val (.int p0)] [])) _
                refine XS.iloadN X0.here hx rfl (hb hby d1_8) rfl ?_
                show Steps p.tables e below (s₁.setTop (mkF m 9 #[.val (.int p0)] [(.int p0)])) _
                refine XS.iconst X0.here hx rfl (hb hby d1_9) ?_
                show Steps p.tables e below (s₁.setTop (mkF m 10 #[.val (.int p0)] [(.int (1 : Int32)), (.int p0)])) _
                refine XS.icmpYes X0.here hx rfl (pc0 := 10) (pc' := 17) rfl (hb hby d1_10) rfl (XT.ii_ne_t hp1) (by decide) (by decide) ?_
                show Steps p.tables e below (s₁.setTop (mkF m 17 #[.val (.int p0)] [])) _
                refine XS.iloadN X0.here hx rfl (hb hby d1_17) rfl ?_
                show Steps p.tables e below (s₁.setTop (mkF m 18 #[.val (.int p0)] [(.int p0)])) _
                refine XS.iconst X0.here hx rfl (hb hby d1_18) ?_
                show Steps p.tables e below (s₁.setTop (mkF m 19 #[.val (.int p0)] [(.int (2 : Int32)), (.int p0)])) _
                refine XS.icmpYes X0.here hx rfl (pc0 := 19) (pc' := 26) rfl (hb hby d1_19) rfl (XT.ii_ne_t hp2) (by decide) (by decide) ?_
                show Steps p.tables e below (s₁.setTop (mkF m 26 #[.val (.int p0)] [])) _
                refine XS.iloadN X0.here hx rfl (hb hby d1_26) rfl ?_
                show Steps p.tables e below (s₁.setTop (mkF m 27 #[.val (.int p0)] [(.int p0)])) _
                refine XS.iconst X0.here hx rfl (hb hby d1_27) ?_
                show Steps p.tables e below (s₁.setTop (mkF m 28 #[.val (.int p0)] [(.int (3 : Int32)), (.int p0)])) _
                refine XS.icmpYes X0.here hx rfl (pc0 := 28) (pc' := 35) rfl (hb hby d1_28) rfl (XT.ii_ne_t hp3) (by decide) (by decide) ?_
                show Steps p.tables e below (s₁.setTop (mkF m 35 #[.val (.int p0)] [])) _
                refine XS.iloadN X0.here hx rfl (hb hby d1_35) rfl ?_
                show Steps p.tables e below (s₁.setTop (mkF m 36 #[.val (.int p0)] [(.int p0)])) _
                refine XS.iconst X0.here hx rfl (hb hby d1_36) ?_
                show Steps p.tables e below (s₁.setTop (mkF m 37 #[.val (.int p0)] [(.int (4 : Int32)), (.int p0)])) _
                refine XS.icmpYes X0.here hx rfl (pc0 := 37) (pc' := 44) rfl (hb hby d1_37) rfl (XT.ii_ne_t hp4) (by decide) (by decide) ?_
                show Steps p.tables e below (s₁.setTop (mkF m 44 #[.val (.int p0)] [])) _
                refine XS.iloadN X0.here hx rfl (hb hby d1_44) rfl ?_
                show Steps p.tables e below (s₁.setTop (mkF m 45 #[.val (.int p0)] [(.int p0)])) _
                refine XS.iconst X0.here hx rfl (hb hby d1_45) ?_
                show Steps p.tables e below (s₁.setTop (mkF m 46 #[.val (.int p0)] [(.int (5 : Int32)), (.int p0)])) _
                refine XS.icmpNo X0.here hx rfl (hb hby d1_46) rfl (XT.ii_ne_f hp5) ?_
                show Steps p.tables e below (s₁.setTop (mkF m 49 #[.val (.int p0)] [])) _
                refine st17 _ ?_
                show Steps p.tables e below (T17.setTop (mkF m 52 #[.val (.int p0)] [(.ref (kf 5))])) _
                exact retOut X17 hx (t := (.object "com/example/factwell/factwell/pkb/EntityKind")) Bd.returns rfl (Or.inr (Or.inr (Or.inr (Or.inr ⟨rfl, rfl, rfl⟩)))) (hb hby d1_52) hr
              · show Q_own_kd Z p0 kf h0 n0 _ T17.heap _
                rw [e17]
                exact ⟨by unfold own_kind; rw [if_neg hp0, if_neg hp1, if_neg hp2, if_neg hp3, if_neg hp4, if_pos hp5], N0, rfl⟩
            · by_cases hp6 : p0 = (6 : Int32)
              · obtain ⟨T19, X19, e19, st19⟩ := getS2 X0 hx hZ hown (host := "") (Or.inl (hw _ (List.mem_of_getElem? (i := 22) rfl))) Via.refl e0 S6 (g := (mkF m 59 #[.val (.int p0)] [])) rfl (hb hby d1_59)
                obtain ⟨fs, hr, hrun, hended, hW, hsame⟩ := X19.leave (v := some (.ref (kf 6))) (fun h => by rw [Bd.returns] at h; cases h)
                refine ⟨_, _, pre0 _ ?_, hrun, hended, _, _, rfl, ?_, ⟨_, rfl⟩, hW, hsame.mono (by decide) (by decide)⟩
                · show Steps p.tables e below (s₁.setTop (mkF m 0 #[.val (.int p0)] [])) _
                  refine XS.iloadN X0.here hx rfl (hb hby d1_0) rfl ?_
                  show Steps p.tables e below (s₁.setTop (mkF m 1 #[.val (.int p0)] [(.int p0)])) _
                  refine XS.ifYes X0.here hx rfl (pc0 := 1) (pc' := 8) rfl (hb hby d1_1) rfl (XT.i0_ne_t hp0) (by decide) (by decide) ?_
                  show Steps p.tables e below (s₁.setTop (mkF m 8 #[.val (.int p0)] [])) _
                  refine XS.iloadN X0.here hx rfl (hb hby d1_8) rfl ?_
                  show Steps p.tables e below (s₁.setTop (mkF m 9 #[.val (.int p0)] [(.int p0)])) _
                  refine XS.iconst X0.here hx rfl (hb hby d1_9) ?_
                  show Steps p.tables e below (s₁.setTop (mkF m 10 #[.val (.int p0)] [(.int (1 : Int32)), (.int p0)])) _
                  refine XS.icmpYes X0.here hx rfl (pc0 := 10) (pc' := 17) rfl (hb hby d1_10) rfl (XT.ii_ne_t hp1) (by decide) (by decide) ?_
                  show Steps p.tables e below (s₁.setTop (mkF m 17 #[.val (.int p0)] [])) _
                  refine XS.iloadN X0.here hx rfl (hb hby d1_17) rfl ?_
                  show Steps p.tables e below (s₁.setTop (mkF m 18 #[.val (.int p0)] [(.int p0)])) _
                  refine XS.iconst X0.here hx rfl (hb hby d1_18) ?_
                  show Steps p.tables e below (s₁.setTop (mkF m 19 #[.val (.int p0)] [(.int (2 : Int32)), (.int p0)])) _
                  refine XS.icmpYes X0.here hx rfl (pc0 := 19) (pc' := 26) rfl (hb hby d1_19) rfl (XT.ii_ne_t hp2) (by decide) (by decide) ?_
                  show Steps p.tables e below (s₁.setTop (mkF m 26 #[.val (.int p0)] [])) _
                  refine XS.iloadN X0.here hx rfl (hb hby d1_26) rfl ?_
                  show Steps p.tables e below (s₁.setTop (mkF m 27 #[.val (.int p0)] [(.int p0)])) _
                  refine XS.iconst X0.here hx rfl (hb hby d1_27) ?_
                  show Steps p.tables e below (s₁.setTop (mkF m 28 #[.val (.int p0)] [(.int (3 : Int32)), (.int p0)])) _
                  refine XS.icmpYes X0.here hx rfl (pc0 := 28) (pc' := 35) rfl (hb hby d1_28) rfl (XT.ii_ne_t hp3) (by decide) (by decide) ?_
                  show Steps p.tables e below (s₁.setTop (mkF m 35 #[.val (.int p0)] [])) _
                  refine XS.iloadN X0.here hx rfl (hb hby d1_35) rfl ?_
                  show Steps p.tables e below (s₁.setTop (mkF m 36 #[.val (.int p0)] [(.int p0)])) _
                  refine XS.iconst X0.here hx rfl (hb hby d1_36) ?_
                  show Steps p.tables e below (s₁.setTop (mkF m 37 #[.val (.int p0)] [(.int (4 : Int32)), (.int p0)])) _
                  refine XS.icmpYes X0.here hx rfl (pc0 := 37) (pc' := 44) rfl (hb hby d1_37) rfl (XT.ii_ne_t hp4) (by decide) (by decide) ?_
                  show Steps p.tables e below (s₁.setTop (mkF m 44 #[.val (.int p0)] [])) _
                  refine XS.iloadN X0.here hx rfl (hb hby d1_44) rfl ?_
                  show Steps p.tables e below (s₁.setTop (mkF m 45 #[.val (.int p0)] [(.int p0)])) _
                  refine XS.iconst X0.here hx rfl (hb hby d1_45) ?_
                  show Steps p.tables e below (s₁.setTop (mkF m 46 #[.val (.int p0)] [(.int (5 : Int32)), (.int p0)])) _
                  refine XS.icmpYes X0.here hx rfl (pc0 := 46) (pc' := 53) rfl (hb hby d1_46) rfl (XT.ii_ne_t hp5) (by decide) (by decide) ?_
                  show Steps p.tables e below (s₁.setTop (mkF m 53 #[.val (.int p0)] [])) _
                  refine XS.iloadN X0.here hx rfl (hb hby d1_53) rfl ?_
                  show Steps p.tables e below (s₁.setTop (mkF m 54 #[.val (.int p0)] [(.int p0)])) _
                  refine XS.bipush X0.here hx rfl (hb hby d1_54) ?_
                  show Steps p.tables e below (s₁.setTop (mkF m 56 #[.val (.int p0)] [(.int (6 : Int32)), (.int p0)])) _
                  refine XS.icmpNo X0.here hx rfl (hb hby d1_56) rfl (XT.ii_ne_f hp6) ?_
                  show Steps p.tables e below (s₁.setTop (mkF m 59 #[.val (.int p0)] [])) _
                  refine st19 _ ?_
                  show Steps p.tables e below (T19.setTop (mkF m 62 #[.val (.int p0)] [(.ref (kf 6))])) _
                  exact retOut X19 hx (t := (.object "com/example/factwell/factwell/pkb/EntityKind")) Bd.returns rfl (Or.inr (Or.inr (Or.inr (Or.inr ⟨rfl, rfl, rfl⟩)))) (hb hby d1_62) hr
                · show Q_own_kd Z p0 kf h0 n0 _ T19.heap _
                  rw [e19]
                  exact ⟨by unfold own_kind; rw [if_neg hp0, if_neg hp1, if_neg hp2, if_neg hp3, if_neg hp4, if_neg hp5, if_pos hp6], N0, rfl⟩
              · by_cases hp7 : p0 = (7 : Int32)
                · obtain ⟨T21, X21, e21, st21⟩ := getS2 X0 hx hZ hown (host := "") (Or.inl (hw _ (List.mem_of_getElem? (i := 30) rfl))) Via.refl e0 S7 (g := (mkF m 69 #[.val (.int p0)] [])) rfl (hb hby d1_69)
                  obtain ⟨fs, hr, hrun, hended, hW, hsame⟩ := X21.leave (v := some (.ref (kf 7))) (fun h => by rw [Bd.returns] at h; cases h)
                  refine ⟨_, _, pre0 _ ?_, hrun, hended, _, _, rfl, ?_, ⟨_, rfl⟩, hW, hsame.mono (by decide) (by decide)⟩
                  · show Steps p.tables e below (s₁.setTop (mkF m 0 #[.val (.int p0)] [])) _
                    refine XS.iloadN X0.here hx rfl (hb hby d1_0) rfl ?_
                    show Steps p.tables e below (s₁.setTop (mkF m 1 #[.val (.int p0)] [(.int p0)])) _
                    refine XS.ifYes X0.here hx rfl (pc0 := 1) (pc' := 8) rfl (hb hby d1_1) rfl (XT.i0_ne_t hp0) (by decide) (by decide) ?_
                    show Steps p.tables e below (s₁.setTop (mkF m 8 #[.val (.int p0)] [])) _
                    refine XS.iloadN X0.here hx rfl (hb hby d1_8) rfl ?_
                    show Steps p.tables e below (s₁.setTop (mkF m 9 #[.val (.int p0)] [(.int p0)])) _
                    refine XS.iconst X0.here hx rfl (hb hby d1_9) ?_
                    show Steps p.tables e below (s₁.setTop (mkF m 10 #[.val (.int p0)] [(.int (1 : Int32)), (.int p0)])) _
                    refine XS.icmpYes X0.here hx rfl (pc0 := 10) (pc' := 17) rfl (hb hby d1_10) rfl (XT.ii_ne_t hp1) (by decide) (by decide) ?_
                    show Steps p.tables e below (s₁.setTop (mkF m 17 #[.val (.int p0)] [])) _
                    refine XS.iloadN X0.here hx rfl (hb hby d1_17) rfl ?_
                    show Steps p.tables e below (s₁.setTop (mkF m 18 #[.val (.int p0)] [(.int p0)])) _
                    refine XS.iconst X0.here hx rfl (hb hby d1_18) ?_
                    show Steps p.tables e below (s₁.setTop (mkF m 19 #[.val (.int p0)] [(.int (2 : Int32)), (.int p0)])) _
                    refine XS.icmpYes X0.here hx rfl (pc0 := 19) (pc' := 26) rfl (hb hby d1_19) rfl (XT.ii_ne_t hp2) (by decide) (by decide) ?_
                    show Steps p.tables e below (s₁.setTop (mkF m 26 #[.val (.int p0)] [])) _
                    refine XS.iloadN X0.here hx rfl (hb hby d1_26) rfl ?_
                    show Steps p.tables e below (s₁.setTop (mkF m 27 #[.val (.int p0)] [(.int p0)])) _
                    refine XS.iconst X0.here hx rfl (hb hby d1_27) ?_
                    show Steps p.tables e below (s₁.setTop (mkF m 28 #[.val (.int p0)] [(.int (3 : Int32)), (.int p0)])) _
                    refine XS.icmpYes X0.here hx rfl (pc0 := 28) (pc' := 35) rfl (hb hby d1_28) rfl (XT.ii_ne_t hp3) (by decide) (by decide) ?_
                    show Steps p.tables e below (s₁.setTop (mkF m 35 #[.val (.int p0)] [])) _
                    refine XS.iloadN X0.here hx rfl (hb hby d1_35) rfl ?_
                    show Steps p.tables e below (s₁.setTop (mkF m 36 #[.val (.int p0)] [(.int p0)])) _
                    refine XS.iconst X0.here hx rfl (hb hby d1_36) ?_
                    show Steps p.tables e below (s₁.setTop (mkF m 37 #[.val (.int p0)] [(.int (4 : Int32)), (.int p0)])) _
                    refine XS.icmpYes X0.here hx rfl (pc0 := 37) (pc' := 44) rfl (hb hby d1_37) rfl (XT.ii_ne_t hp4) (by decide) (by decide) ?_
                    show Steps p.tables e below (s₁.setTop (mkF m 44 #[.val (.int p0)] [])) _
                    refine XS.iloadN X0.here hx rfl (hb hby d1_44) rfl ?_
                    show Steps p.tables e below (s₁.setTop (mkF m 45 #[.val (.int p0)] [(.int p0)])) _
                    refine XS.iconst X0.here hx rfl (hb hby d1_45) ?_
                    show Steps p.tables e below (s₁.setTop (mkF m 46 #[.val (.int p0)] [(.int (5 : Int32)), (.int p0)])) _
                    refine XS.icmpYes X0.here hx rfl (pc0 := 46) (pc' := 53) rfl (hb hby d1_46) rfl (XT.ii_ne_t hp5) (by decide) (by decide) ?_
                    show Steps p.tables e below (s₁.setTop (mkF m 53 #[.val (.int p0)] [])) _
                    refine XS.iloadN X0.here hx rfl (hb hby d1_53) rfl ?_
                    show Steps p.tables e below (s₁.setTop (mkF m 54 #[.val (.int p0)] [(.int p0)])) _
                    refine XS.bipush X0.here hx rfl (hb hby d1_54) ?_
                    show Steps p.tables e below (s₁.setTop (mkF m 56 #[.val (.int p0)] [(.int (6 : Int32)), (.int p0)])) _
                    refine XS.icmpYes X0.here hx rfl (pc0 := 56) (pc' := 63) rfl (hb hby d1_56) rfl (XT.ii_ne_t hp6) (by decide) (by decide) ?_
                    show Steps p.tables e below (s₁.setTop (mkF m 63 #[.val (.int p0)] [])) _
                    refine XS.iloadN X0.here hx rfl (hb hby d1_63) rfl ?_
                    show Steps p.tables e below (s₁.setTop (mkF m 64 #[.val (.int p0)] [(.int p0)])) _
                    refine XS.bipush X0.here hx rfl (hb hby d1_64) ?_
                    show Steps p.tables e below (s₁.setTop (mkF m 66 #[.val (.int p0)] [(.int (7 : Int32)), (.int p0)])) _
                    refine XS.icmpNo X0.here hx rfl (hb hby d1_66) rfl (XT.ii_ne_f hp7) ?_
                    show Steps p.tables e below (s₁.setTop (mkF m 69 #[.val (.int p0)] [])) _
                    refine st21 _ ?_
                    show Steps p.tables e below (T21.setTop (mkF m 72 #[.val (.int p0)] [(.ref (kf 7))])) _
                    exact retOut X21 hx (t := (.object "com/example/factwell/factwell/pkb/EntityKind")) Bd.returns rfl (Or.inr (Or.inr (Or.inr (Or.inr ⟨rfl, rfl, rfl⟩)))) (hb hby d1_72) hr
                  · show Q_own_kd Z p0 kf h0 n0 _ T21.heap _
                    rw [e21]
                    exact ⟨by unfold own_kind; rw [if_neg hp0, if_neg hp1, if_neg hp2, if_neg hp3, if_neg hp4, if_neg hp5, if_neg hp6, if_pos hp7], N0, rfl⟩
                · by_cases hp8 : p0 = (8 : Int32)
                  · obtain ⟨T23, X23, e23, st23⟩ := getS2 X0 hx hZ hown (host := "") (Or.inl (hw _ (List.mem_of_getElem? (i := 20) rfl))) Via.refl e0 S8 (g := (mkF m 79 #[.val (.int p0)] [])) rfl (hb hby d1_79)
                    obtain ⟨fs, hr, hrun, hended, hW, hsame⟩ := X23.leave (v := some (.ref (kf 8))) (fun h => by rw [Bd.returns] at h; cases h)
                    refine ⟨_, _, pre0 _ ?_, hrun, hended, _, _, rfl, ?_, ⟨_, rfl⟩, hW, hsame.mono (by decide) (by decide)⟩
                    · show Steps p.tables e below (s₁.setTop (mkF m 0 #[.val (.int p0)] [])) _
                      refine XS.iloadN X0.here hx rfl (hb hby d1_0) rfl ?_
                      show Steps p.tables e below (s₁.setTop (mkF m 1 #[.val (.int p0)] [(.int p0)])) _
                      refine XS.ifYes X0.here hx rfl (pc0 := 1) (pc' := 8) rfl (hb hby d1_1) rfl (XT.i0_ne_t hp0) (by decide) (by decide) ?_
                      show Steps p.tables e below (s₁.setTop (mkF m 8 #[.val (.int p0)] [])) _
                      refine XS.iloadN X0.here hx rfl (hb hby d1_8) rfl ?_
                      show Steps p.tables e below (s₁.setTop (mkF m 9 #[.val (.int p0)] [(.int p0)])) _
                      refine XS.iconst X0.here hx rfl (hb hby d1_9) ?_
                      show Steps p.tables e below (s₁.setTop (mkF m 10 #[.val (.int p0)] [(.int (1 : Int32)), (.int p0)])) _
                      refine XS.icmpYes X0.here hx rfl (pc0 := 10) (pc' := 17) rfl (hb hby d1_10) rfl (XT.ii_ne_t hp1) (by decide) (by decide) ?_
                      show Steps p.tables e below (s₁.setTop (mkF m 17 #[.val (.int p0)] [])) _
                      refine XS.iloadN X0.here hx rfl (hb hby d1_17) rfl ?_
                      show Steps p.tables e below (s₁.setTop (mkF m 18 #[.val (.int p0)] [(.int p0)])) _
                      refine XS.iconst X0.here hx rfl (hb hby d1_18) ?_
                      show Steps p.tables e below (s₁.setTop (mkF m 19 #[.val (.int p0)] [(.int (2 : Int32)), (.int p0)])) _
                      refine XS.icmpYes X0.here hx rfl (pc0 := 19) (pc' := 26) rfl (hb hby d1_19) rfl (XT.ii_ne_t hp2) (by decide) (by decide) ?_
                      show Steps p.tables e below (s₁.setTop (mkF m 26 #[.val (.int p0)] [])) _
                      refine XS.iloadN X0.here hx rfl (hb hby d1_26) rfl ?_
                      show Steps p.tables e below (s₁.setTop (mkF m 27 #[.val (.int p0)] [(.int p0)])) _
                      refine XS.iconst X0.here hx rfl (hb hby d1_27) ?_
                      show Steps p.tables e below (s₁.setTop (mkF m 28 #[.val (.int p0)] [(.int (3 : Int32)), (.int p0)])) _
                      refine XS.icmpYes X0.here hx rfl (pc0 := 28) (pc' := 35) rfl (hb hby d1_28) rfl (XT.ii_ne_t hp3) (by decide) (by decide) ?_
                      show Steps p.tables e below (s₁.setTop (mkF m 35 #[.val (.int p0)] [])) _
                      refine XS.iloadN X0.here hx rfl (hb hby d1_35) rfl ?_
                      show Steps p.tables e below (s₁.setTop (mkF m 36 #[.val (.int p0)] [(.int p0)])) _
                      refine XS.iconst X0.here hx rfl (hb hby d1_36) ?_
                      show Steps p.tables e below (s₁.setTop (mkF m 37 #[.val (.int p0)] [(.int (4 : Int32)), (.int p0)])) _
                      refine XS.icmpYes X0.here hx rfl (pc0 := 37) (pc' := 44) rfl (hb hby d1_37) rfl (XT.ii_ne_t hp4) (by decide) (by decide) ?_
                      show Steps p.tables e below (s₁.setTop (mkF m 44 #[.val (.int p0)] [])) _
                      refine XS.iloadN X0.here hx rfl (hb hby d1_44) rfl ?_
                      show Steps p.tables e below (s₁.setTop (mkF m 45 #[.val (.int p0)] [(.int p0)])) _
                      refine XS.iconst X0.here hx rfl (hb hby d1_45) ?_
                      show Steps p.tables e below (s₁.setTop (mkF m 46 #[.val (.int p0)] [(.int (5 : Int32)), (.int p0)])) _
                      refine XS.icmpYes X0.here hx rfl (pc0 := 46) (pc' := 53) rfl (hb hby d1_46) rfl (XT.ii_ne_t hp5) (by decide) (by decide) ?_
                      show Steps p.tables e below (s₁.setTop (mkF m 53 #[.val (.int p0)] [])) _
                      refine XS.iloadN X0.here hx rfl (hb hby d1_53) rfl ?_
                      show Steps p.tables e below (s₁.setTop (mkF m 54 #[.val (.int p0)] [(.int p0)])) _
                      refine XS.bipush X0.here hx rfl (hb hby d1_54) ?_
                      show Steps p.tables e below (s₁.setTop (mkF m 56 #[.val (.int p0)] [(.int (6 : Int32)), (.int p0)])) _
                      refine XS.icmpYes X0.here hx rfl (pc0 := 56) (pc' := 63) rfl (hb hby d1_56) rfl (XT.ii_ne_t hp6) (by decide) (by decide) ?_
                      show Steps p.tables e below (s₁.setTop (mkF m 63 #[.val (.int p0)] [])) _
                      refine XS.iloadN X0.here hx rfl (hb hby d1_63) rfl ?_
                      show Steps p.tables e below (s₁.setTop (mkF m 64 #[.val (.int p0)] [(.int p0)])) _
                      refine XS.bipush X0.here hx rfl (hb hby d1_64) ?_
                      show Steps p.tables e below (s₁.setTop (mkF m 66 #[.val (.int p0)] [(.int (7 : Int32)), (.int p0)])) _
                      refine XS.icmpYes X0.here hx rfl (pc0 := 66) (pc' := 73) rfl (hb hby d1_66) rfl (XT.ii_ne_t hp7) (by decide) (by decide) ?_
                      show Steps p.tables e below (s₁.setTop (mkF m 73 #[.val (.int p0)] [])) _
                      refine XS.iloadN X0.here hx rfl (hb hby d1_73) rfl ?_
                      show Steps p.tables e below (s₁.setTop (mkF m 74 #[.val (.int p0)] [(.int p0)])) _
                      refine XS.bipush X0.here hx rfl (hb hby d1_74) ?_
                      show Steps p.tables e below (s₁.setTop (mkF m 76 #[.val (.int p0)] [(.int (8 : Int32)), (.int p0)])) _
                      refine XS.icmpNo X0.here hx rfl (hb hby d1_76) rfl (XT.ii_ne_f hp8) ?_
                      show Steps p.tables e below (s₁.setTop (mkF m 79 #[.val (.int p0)] [])) _
                      refine st23 _ ?_
                      show Steps p.tables e below (T23.setTop (mkF m 82 #[.val (.int p0)] [(.ref (kf 8))])) _
                      exact retOut X23 hx (t := (.object "com/example/factwell/factwell/pkb/EntityKind")) Bd.returns rfl (Or.inr (Or.inr (Or.inr (Or.inr ⟨rfl, rfl, rfl⟩)))) (hb hby d1_82) hr
                    · show Q_own_kd Z p0 kf h0 n0 _ T23.heap _
                      rw [e23]
                      exact ⟨by unfold own_kind; rw [if_neg hp0, if_neg hp1, if_neg hp2, if_neg hp3, if_neg hp4, if_neg hp5, if_neg hp6, if_neg hp7, if_pos hp8], N0, rfl⟩
                  · obtain ⟨T24, X24, e24, st24⟩ := getS2 X0 hx hZ hown (host := "") (Or.inl (hw _ (List.mem_of_getElem? (i := 28) rfl))) Via.refl e0 S9 (g := (mkF m 83 #[.val (.int p0)] [])) rfl (hb hby d1_83)
                    obtain ⟨fs, hr, hrun, hended, hW, hsame⟩ := X24.leave (v := some (.ref (kf 9))) (fun h => by rw [Bd.returns] at h; cases h)
                    refine ⟨_, _, pre0 _ ?_, hrun, hended, _, _, rfl, ?_, ⟨_, rfl⟩, hW, hsame.mono (by decide) (by decide)⟩
                    · show Steps p.tables e below (s₁.setTop (mkF m 0 #[.val (.int p0)] [])) _
                      refine XS.iloadN X0.here hx rfl (hb hby d1_0) rfl ?_
                      show Steps p.tables e below (s₁.setTop (mkF m 1 #[.val (.int p0)] [(.int p0)])) _
                      refine XS.ifYes X0.here hx rfl (pc0 := 1) (pc' := 8) rfl (hb hby d1_1) rfl (XT.i0_ne_t hp0) (by decide) (by decide) ?_
                      show Steps p.tables e below (s₁.setTop (mkF m 8 #[.val (.int p0)] [])) _
                      refine XS.iloadN X0.here hx rfl (hb hby d1_8) rfl ?_
                      show Steps p.tables e below (s₁.setTop (mkF m 9 #[.val (.int p0)] [(.int p0)])) _
                      refine XS.iconst X0.here hx rfl (hb hby d1_9) ?_
                      show Steps p.tables e below (s₁.setTop (mkF m 10 #[.val (.int p0)] [(.int (1 : Int32)), (.int p0)])) _
                      refine XS.icmpYes X0.here hx rfl (pc0 := 10) (pc' := 17) rfl (hb hby d1_10) rfl (XT.ii_ne_t hp1) (by decide) (by decide) ?_
                      show Steps p.tables e below (s₁.setTop (mkF m 17 #[.val (.int p0)] [])) _
                      refine XS.iloadN X0.here hx rfl (hb hby d1_17) rfl ?_
                      show Steps p.tables e below (s₁.setTop (mkF m 18 #[.val (.int p0)] [(.int p0)])) _
                      refine XS.iconst X0.here hx rfl (hb hby d1_18) ?_
                      show Steps p.tables e below (s₁.setTop (mkF m 19 #[.val (.int p0)] [(.int (2 : Int32)), (.int p0)])) _
                      refine XS.icmpYes X0.here hx rfl (pc0 := 19) (pc' := 26) rfl (hb hby d1_19) rfl (XT.ii_ne_t hp2) (by decide) (by decide) ?_
                      show Steps p.tables e below (s₁.setTop (mkF m 26 #[.val (.int p0)] [])) _
                      refine XS.iloadN X0.here hx rfl (hb hby d1_26) rfl ?_
                      show Steps p.tables e below (s₁.setTop (mkF m 27 #[.val (.int p0)] [(.int p0)])) _
                      refine XS.iconst X0.here hx rfl (hb hby d1_27) ?_
                      show Steps p.tables e below (s₁.setTop (mkF m 28 #[.val (.int p0)] [(.int (3 : Int32)), (.int p0)])) _
                      refine XS.icmpYes X0.here hx rfl (pc0 := 28) (pc' := 35) rfl (hb hby d1_28) rfl (XT.ii_ne_t hp3) (by decide) (by decide) ?_
                      show Steps p.tables e below (s₁.setTop (mkF m 35 #[.val (.int p0)] [])) _
                      refine XS.iloadN X0.here hx rfl (hb hby d1_35) rfl ?_
                      show Steps p.tables e below (s₁.setTop (mkF m 36 #[.val (.int p0)] [(.int p0)])) _
                      refine XS.iconst X0.here hx rfl (hb hby d1_36) ?_
                      show Steps p.tables e below (s₁.setTop (mkF m 37 #[.val (.int p0)] [(.int (4 : Int32)), (.int p0)])) _
                      refine XS.icmpYes X0.here hx rfl (pc0 := 37) (pc' := 44) rfl (hb hby d1_37) rfl (XT.ii_ne_t hp4) (by decide) (by decide) ?_
                      show Steps p.tables e below (s₁.setTop (mkF m 44 #[.val (.int p0)] [])) _
                      refine XS.iloadN X0.here hx rfl (hb hby d1_44) rfl ?_
                      show Steps p.tables e below (s₁.setTop (mkF m 45 #[.val (.int p0)] [(.int p0)])) _
                      refine XS.iconst X0.here hx rfl (hb hby d1_45) ?_
                      show Steps p.tables e below (s₁.setTop (mkF m 46 #[.val (.int p0)] [(.int (5 : Int32)), (.int p0)])) _
                      refine XS.icmpYes X0.here hx rfl (pc0 := 46) (pc' := 53) rfl (hb hby d1_46) rfl (XT.ii_ne_t hp5) (by decide) (by decide) ?_
                      show Steps p.tables e below (s₁.setTop (mkF m 53 #[.val (.int p0)] [])) _
                      refine XS.iloadN X0.here hx rfl (hb hby d1_53) rfl ?_
                      show Steps p.tables e below (s₁.setTop (mkF m 54 #[.val (.int p0)] [(.int p0)])) _
                      refine XS.bipush X0.here hx rfl (hb hby d1_54) ?_
                      show Steps p.tables e below (s₁.setTop (mkF m 56 #[.val (.int p0)] [(.int (6 : Int32)), (.int p0)])) _
                      refine XS.icmpYes X0.here hx rfl (pc0 := 56) (pc' := 63) rfl (hb hby d1_56) rfl (XT.ii_ne_t hp6) (by decide) (by decide) ?_
                      show Steps p.tables e below (s₁.setTop (mkF m 63 #[.val (.int p0)] [])) _
                      refine XS.iloadN X0.here hx rfl (hb hby d1_63) rfl ?_
                      show Steps p.tables e below (s₁.setTop (mkF m 64 #[.val (.int p0)] [(.int p0)])) _
                      refine XS.bipush X0.here hx rfl (hb hby d1_64) ?_
                      show Steps p.tables e below (s₁.setTop (mkF m 66 #[.val (.int p0)] [(.int (7 : Int32)), (.int p0)])) _
                      refine XS.icmpYes X0.here hx rfl (pc0 := 66) (pc' := 73) rfl (hb hby d1_66) rfl (XT.ii_ne_t hp7) (by decide) (by decide) ?_
                      show Steps p.tables e below (s₁.setTop (mkF m 73 #[.val (.int p0)] [])) _
                      refine XS.iloadN X0.here hx rfl (hb hby d1_73) rfl ?_
                      show Steps p.tables e below (s₁.setTop (mkF m 74 #[.val (.int p0)] [(.int p0)])) _
                      refine XS.bipush X0.here hx rfl (hb hby d1_74) ?_
                      show Steps p.tables e below (s₁.setTop (mkF m 76 #[.val (.int p0)] [(.int (8 : Int32)), (.int p0)])) _
                      refine XS.icmpYes X0.here hx rfl (pc0 := 76) (pc' := 83) rfl (hb hby d1_76) rfl (XT.ii_ne_t hp8) (by decide) (by decide) ?_
                      show Steps p.tables e below (s₁.setTop (mkF m 83 #[.val (.int p0)] [])) _
                      refine st24 _ ?_
                      show Steps p.tables e below (T24.setTop (mkF m 86 #[.val (.int p0)] [(.ref (kf 9))])) _
                      exact retOut X24 hx (t := (.object "com/example/factwell/factwell/pkb/EntityKind")) Bd.returns rfl (Or.inr (Or.inr (Or.inr (Or.inr ⟨rfl, rfl, rfl⟩)))) (hb hby d1_86) hr
                    · show Q_own_kd Z p0 kf h0 n0 _ T24.heap _
                      rw [e24]
                      exact ⟨by unfold own_kind; rw [if_neg hp0, if_neg hp1, if_neg hp2, if_neg hp3, if_neg hp4, if_neg hp5, if_neg hp6, if_neg hp7, if_neg hp8], N0, rfl⟩
set_option maxRecDepth 65536 in
set_option maxHeartbeats 40000000 in
theorem own_sa {p : Program} {l : Launch} {e : Env} {s : State} {m : MethodId} {args : Array Value} {below : List Frame} {meth : Method} {c : Code} {T : State} {locs : List Loc} {Z : State} {a0 : Array Value} {h : Heap} {n0 : Nat} (hw : ∀ d ∈ tables_1, d.before a0 Z = true) (X : Stand p l e room_1 s m args below meth c T locs 0 0) (hx : p.tables.exec = Jvm.exec) (hZ : Z.Warmed39 s.vm) (hby : c.code = code) (hml : c.maxLocals = 8) (hown : s.vm.findClass "com/example/factwell/factwell/pkb/EntityKindWithinPinLaw" = some m.cls) (eT : T.heap = h) (N : Fr n0 locs) (Z0 : n0 ≤ h.size) (p0 p1 i j : Int32) (a b : Addr)  :
    ∃ T' L', Stand p l e room_1 s m args below meth c T' L' 0 0 ∧ T'.heap = h ∧ Fr n0 L' ∧ ∀ target, Steps p.tables e below (T'.setTop (mkF m 44 #[.val (.int p0), .val (.int p1), .val (.int i), .val (.int j), .val (.ref a), .val (.ref b), .unset, .unset] [(.int (if (i < (1 : Int32) ∨ (6 : Int32) < i) then (0 : Int32) else (1 : Int32)))])) target → Steps p.tables e below (T.setTop (mkF m 28 #[.val (.int p0), .val (.int p1), .val (.int i), .val (.int j), .val (.ref a), .val (.ref b), .unset, .unset] [])) target := by
  by_cases hc25_30 : i < (1 : Int32)
  · refine ⟨T, _, X, eT, N, fun target k => ?_⟩
    have hj : (if (i < (1 : Int32) ∨ (6 : Int32) < i) then (0 : Int32) else (1 : Int32)) = (0 : Int32) := by simp [hc25_30]
    rw [hj] at k
    show Steps p.tables e below (T.setTop (mkF m 28 #[.val (.int p0), .val (.int p1), .val (.int i), .val (.int j), .val (.ref a), .val (.ref b), .unset, .unset] [])) _
    refine XS.iloadN X.here hx rfl (hb hby at_28) rfl ?_
    show Steps p.tables e below (T.setTop (mkF m 29 #[.val (.int p0), .val (.int p1), .val (.int i), .val (.int j), .val (.ref a), .val (.ref b), .unset, .unset] [(.int i)])) _
    refine XS.iconst X.here hx rfl (hb hby at_29) ?_
    show Steps p.tables e below (T.setTop (mkF m 30 #[.val (.int p0), .val (.int p1), .val (.int i), .val (.int j), .val (.ref a), .val (.ref b), .unset, .unset] [(.int (1 : Int32)), (.int i)])) _
    refine XS.icmpYes X.here hx rfl (pc0 := 30) (pc' := 43) rfl (hb hby at_30) rfl (XT.ii_lt_t hc25_30) (by decide) (by decide) ?_
    show Steps p.tables e below (T.setTop (mkF m 43 #[.val (.int p0), .val (.int p1), .val (.int i), .val (.int j), .val (.ref a), .val (.ref b), .unset, .unset] [])) _
    refine XS.iconst X.here hx rfl (hb hby at_43) ?_
    show Steps p.tables e below (T.setTop (mkF m 44 #[.val (.int p0), .val (.int p1), .val (.int i), .val (.int j), .val (.ref a), .val (.ref b), .unset, .unset] [(.int (0 : Int32))])) _
    exact k
  · by_cases hc26_36 : (6 : Int32) < i
    · refine ⟨T, _, X, eT, N, fun target k => ?_⟩
      have hj : (if (i < (1 : Int32) ∨ (6 : Int32) < i) then (0 : Int32) else (1 : Int32)) = (0 : Int32) := by simp [hc25_30, hc26_36]
      rw [hj] at k
      show Steps p.tables e below (T.setTop (mkF m 28 #[.val (.int p0), .val (.int p1), .val (.int i), .val (.int j), .val (.ref a), .val (.ref b), .unset, .unset] [])) _
      refine XS.iloadN X.here hx rfl (hb hby at_28) rfl ?_
      show Steps p.tables e below (T.setTop (mkF m 29 #[.val (.int p0), .val (.int p1), .val (.int i), .val (.int j), .val (.ref a), .val (.ref b), .unset, .unset] [(.int i)])) _
      refine XS.iconst X.here hx rfl (hb hby at_29) ?_
      show Steps p.tables e below (T.setTop (mkF m 30 #[.val (.int p0), .val (.int p1), .val (.int i), .val (.int j), .val (.ref a), .val (.ref b), .unset, .unset] [(.int (1 : Int32)), (.int i)])) _
      refine XS.icmpNo X.here hx rfl (hb hby at_30) rfl (XT.ii_lt_f hc25_30) ?_
      show Steps p.tables e below (T.setTop (mkF m 33 #[.val (.int p0), .val (.int p1), .val (.int i), .val (.int j), .val (.ref a), .val (.ref b), .unset, .unset] [])) _
      refine XS.iloadN X.here hx rfl (hb hby at_33) rfl ?_
      show Steps p.tables e below (T.setTop (mkF m 34 #[.val (.int p0), .val (.int p1), .val (.int i), .val (.int j), .val (.ref a), .val (.ref b), .unset, .unset] [(.int i)])) _
      refine XS.bipush X.here hx rfl (hb hby at_34) ?_
      show Steps p.tables e below (T.setTop (mkF m 36 #[.val (.int p0), .val (.int p1), .val (.int i), .val (.int j), .val (.ref a), .val (.ref b), .unset, .unset] [(.int (6 : Int32)), (.int i)])) _
      refine XS.icmpYes X.here hx rfl (pc0 := 36) (pc' := 43) rfl (hb hby at_36) rfl (XT.ii_gt_t hc26_36) (by decide) (by decide) ?_
      show Steps p.tables e below (T.setTop (mkF m 43 #[.val (.int p0), .val (.int p1), .val (.int i), .val (.int j), .val (.ref a), .val (.ref b), .unset, .unset] [])) _
      refine XS.iconst X.here hx rfl (hb hby at_43) ?_
      show Steps p.tables e below (T.setTop (mkF m 44 #[.val (.int p0), .val (.int p1), .val (.int i), .val (.int j), .val (.ref a), .val (.ref b), .unset, .unset] [(.int (0 : Int32))])) _
      exact k
    · refine ⟨T, _, X, eT, N, fun target k => ?_⟩
      have hj : (if (i < (1 : Int32) ∨ (6 : Int32) < i) then (0 : Int32) else (1 : Int32)) = (1 : Int32) := by simp [hc25_30, hc26_36]
      rw [hj] at k
      show Steps p.tables e below (T.setTop (mkF m 28 #[.val (.int p0), .val (.int p1), .val (.int i), .val (.int j), .val (.ref a), .val (.ref b), .unset, .unset] [])) _
      refine XS.iloadN X.here hx rfl (hb hby at_28) rfl ?_
      show Steps p.tables e below (T.setTop (mkF m 29 #[.val (.int p0), .val (.int p1), .val (.int i), .val (.int j), .val (.ref a), .val (.ref b), .unset, .unset] [(.int i)])) _
      refine XS.iconst X.here hx rfl (hb hby at_29) ?_
      show Steps p.tables e below (T.setTop (mkF m 30 #[.val (.int p0), .val (.int p1), .val (.int i), .val (.int j), .val (.ref a), .val (.ref b), .unset, .unset] [(.int (1 : Int32)), (.int i)])) _
      refine XS.icmpNo X.here hx rfl (hb hby at_30) rfl (XT.ii_lt_f hc25_30) ?_
      show Steps p.tables e below (T.setTop (mkF m 33 #[.val (.int p0), .val (.int p1), .val (.int i), .val (.int j), .val (.ref a), .val (.ref b), .unset, .unset] [])) _
      refine XS.iloadN X.here hx rfl (hb hby at_33) rfl ?_
      show Steps p.tables e below (T.setTop (mkF m 34 #[.val (.int p0), .val (.int p1), .val (.int i), .val (.int j), .val (.ref a), .val (.ref b), .unset, .unset] [(.int i)])) _
      refine XS.bipush X.here hx rfl (hb hby at_34) ?_
      show Steps p.tables e below (T.setTop (mkF m 36 #[.val (.int p0), .val (.int p1), .val (.int i), .val (.int j), .val (.ref a), .val (.ref b), .unset, .unset] [(.int (6 : Int32)), (.int i)])) _
      refine XS.icmpNo X.here hx rfl (hb hby at_36) rfl (XT.ii_gt_f hc26_36) ?_
      show Steps p.tables e below (T.setTop (mkF m 39 #[.val (.int p0), .val (.int p1), .val (.int i), .val (.int j), .val (.ref a), .val (.ref b), .unset, .unset] [])) _
      refine XS.iconst X.here hx rfl (hb hby at_39) ?_
      show Steps p.tables e below (T.setTop (mkF m 40 #[.val (.int p0), .val (.int p1), .val (.int i), .val (.int j), .val (.ref a), .val (.ref b), .unset, .unset] [(.int (1 : Int32))])) _
      refine XS.goto X.here hx rfl (pc0 := 40) (pc' := 44) rfl (hb hby at_40) (by decide) (by decide) ?_
      show Steps p.tables e below (T.setTop (mkF m 44 #[.val (.int p0), .val (.int p1), .val (.int i), .val (.int j), .val (.ref a), .val (.ref b), .unset, .unset] [(.int (1 : Int32))])) _
      exact k
set_option maxRecDepth 65536 in
set_option maxHeartbeats 40000000 in
theorem own_sb {p : Program} {l : Launch} {e : Env} {s : State} {m : MethodId} {args : Array Value} {below : List Frame} {meth : Method} {c : Code} {T : State} {locs : List Loc} {Z : State} {a0 : Array Value} {h : Heap} {n0 : Nat} (hw : ∀ d ∈ tables_1, d.before a0 Z = true) (X : Stand p l e room_1 s m args below meth c T locs 0 0) (hx : p.tables.exec = Jvm.exec) (hZ : Z.Warmed39 s.vm) (hby : c.code = code) (hml : c.maxLocals = 8) (hown : s.vm.findClass "com/example/factwell/factwell/pkb/EntityKindWithinPinLaw" = some m.cls) (eT : T.heap = h) (N : Fr n0 locs) (Z0 : n0 ≤ h.size) (p0 p1 i j : Int32) (a b : Addr) (q : Int32)  :
    ∃ T' L', Stand p l e room_1 s m args below meth c T' L' 0 0 ∧ T'.heap = h ∧ Fr n0 L' ∧ ∀ target, Steps p.tables e below (T'.setTop (mkF m 65 #[.val (.int p0), .val (.int p1), .val (.int i), .val (.int j), .val (.ref a), .val (.ref b), .val (.int q), .unset] [(.int (if (i = j ∨ (j = 0 ∧ ¬ q = 0)) then (1 : Int32) else (0 : Int32)))])) target → Steps p.tables e below (T.setTop (mkF m 46 #[.val (.int p0), .val (.int p1), .val (.int i), .val (.int j), .val (.ref a), .val (.ref b), .val (.int q), .unset] [])) target := by
  by_cases hc27_48 : i = j
  · refine ⟨T, _, X, eT, N, fun target k => ?_⟩
    rw [if_pos (Or.inl hc27_48)] at k
    show Steps p.tables e below (T.setTop (mkF m 46 #[.val (.int p0), .val (.int p1), .val (.int i), .val (.int j), .val (.ref a), .val (.ref b), .val (.int q), .unset] [])) _
    refine XS.iloadN X.here hx rfl (hb hby at_46) rfl ?_
    show Steps p.tables e below (T.setTop (mkF m 47 #[.val (.int p0), .val (.int p1), .val (.int i), .val (.int j), .val (.ref a), .val (.ref b), .val (.int q), .unset] [(.int i)])) _
    refine XS.iloadN X.here hx rfl (hb hby at_47) rfl ?_
    show Steps p.tables e below (T.setTop (mkF m 48 #[.val (.int p0), .val (.int p1), .val (.int i), .val (.int j), .val (.ref a), .val (.ref b), .val (.int q), .unset] [(.int j), (.int i)])) _
    refine XS.icmpYes X.here hx rfl (pc0 := 48) (pc' := 60) rfl (hb hby at_48) rfl (XT.ii_eq_t hc27_48) (by decide) (by decide) ?_
    show Steps p.tables e below (T.setTop (mkF m 60 #[.val (.int p0), .val (.int p1), .val (.int i), .val (.int j), .val (.ref a), .val (.ref b), .val (.int q), .unset] [])) _
    refine XS.iconst X.here hx rfl (hb hby at_60) ?_
    show Steps p.tables e below (T.setTop (mkF m 61 #[.val (.int p0), .val (.int p1), .val (.int i), .val (.int j), .val (.ref a), .val (.ref b), .val (.int q), .unset] [(.int (1 : Int32))])) _
    refine XS.goto X.here hx rfl (pc0 := 61) (pc' := 65) rfl (hb hby at_61) (by decide) (by decide) ?_
    show Steps p.tables e below (T.setTop (mkF m 65 #[.val (.int p0), .val (.int p1), .val (.int i), .val (.int j), .val (.ref a), .val (.ref b), .val (.int q), .unset] [(.int (1 : Int32))])) _
    exact k
  · by_cases hc28_52 : j = 0
    · by_cases hc29_57 : q = 0
      · refine ⟨T, _, X, eT, N, fun target k => ?_⟩
        rw [if_neg (fun z => z.elim hc27_48 fun r => r.2 hc29_57)] at k
        show Steps p.tables e below (T.setTop (mkF m 46 #[.val (.int p0), .val (.int p1), .val (.int i), .val (.int j), .val (.ref a), .val (.ref b), .val (.int q), .unset] [])) _
        refine XS.iloadN X.here hx rfl (hb hby at_46) rfl ?_
        show Steps p.tables e below (T.setTop (mkF m 47 #[.val (.int p0), .val (.int p1), .val (.int i), .val (.int j), .val (.ref a), .val (.ref b), .val (.int q), .unset] [(.int i)])) _
        refine XS.iloadN X.here hx rfl (hb hby at_47) rfl ?_
        show Steps p.tables e below (T.setTop (mkF m 48 #[.val (.int p0), .val (.int p1), .val (.int i), .val (.int j), .val (.ref a), .val (.ref b), .val (.int q), .unset] [(.int j), (.int i)])) _
        refine XS.icmpNo X.here hx rfl (hb hby at_48) rfl (XT.ii_eq_f hc27_48) ?_
        show Steps p.tables e below (T.setTop (mkF m 51 #[.val (.int p0), .val (.int p1), .val (.int i), .val (.int j), .val (.ref a), .val (.ref b), .val (.int q), .unset] [])) _
        refine XS.iloadN X.here hx rfl (hb hby at_51) rfl ?_
        show Steps p.tables e below (T.setTop (mkF m 52 #[.val (.int p0), .val (.int p1), .val (.int i), .val (.int j), .val (.ref a), .val (.ref b), .val (.int q), .unset] [(.int j)])) _
        refine XS.ifNo X.here hx rfl (hb hby at_52) rfl (XT.i0_ne_f hc28_52) ?_
        show Steps p.tables e below (T.setTop (mkF m 55 #[.val (.int p0), .val (.int p1), .val (.int i), .val (.int j), .val (.ref a), .val (.ref b), .val (.int q), .unset] [])) _
        refine XS.iload X.here hx rfl (hb hby at_55) rfl ?_
        show Steps p.tables e below (T.setTop (mkF m 57 #[.val (.int p0), .val (.int p1), .val (.int i), .val (.int j), .val (.ref a), .val (.ref b), .val (.int q), .unset] [(.int q)])) _
        refine XS.ifYes X.here hx rfl (pc0 := 57) (pc' := 64) rfl (hb hby at_57) rfl (XT.i0_eq_t hc29_57) (by decide) (by decide) ?_
        show Steps p.tables e below (T.setTop (mkF m 64 #[.val (.int p0), .val (.int p1), .val (.int i), .val (.int j), .val (.ref a), .val (.ref b), .val (.int q), .unset] [])) _
        refine XS.iconst X.here hx rfl (hb hby at_64) ?_
        show Steps p.tables e below (T.setTop (mkF m 65 #[.val (.int p0), .val (.int p1), .val (.int i), .val (.int j), .val (.ref a), .val (.ref b), .val (.int q), .unset] [(.int (0 : Int32))])) _
        exact k
      · refine ⟨T, _, X, eT, N, fun target k => ?_⟩
        rw [if_pos (Or.inr ⟨hc28_52, hc29_57⟩)] at k
        show Steps p.tables e below (T.setTop (mkF m 46 #[.val (.int p0), .val (.int p1), .val (.int i), .val (.int j), .val (.ref a), .val (.ref b), .val (.int q), .unset] [])) _
        refine XS.iloadN X.here hx rfl (hb hby at_46) rfl ?_
        show Steps p.tables e below (T.setTop (mkF m 47 #[.val (.int p0), .val (.int p1), .val (.int i), .val (.int j), .val (.ref a), .val (.ref b), .val (.int q), .unset] [(.int i)])) _
        refine XS.iloadN X.here hx rfl (hb hby at_47) rfl ?_
        show Steps p.tables e below (T.setTop (mkF m 48 #[.val (.int p0), .val (.int p1), .val (.int i), .val (.int j), .val (.ref a), .val (.ref b), .val (.int q), .unset] [(.int j), (.int i)])) _
        refine XS.icmpNo X.here hx rfl (hb hby at_48) rfl (XT.ii_eq_f hc27_48) ?_
        show Steps p.tables e below (T.setTop (mkF m 51 #[.val (.int p0), .val (.int p1), .val (.int i), .val (.int j), .val (.ref a), .val (.ref b), .val (.int q), .unset] [])) _
        refine XS.iloadN X.here hx rfl (hb hby at_51) rfl ?_
        show Steps p.tables e below (T.setTop (mkF m 52 #[.val (.int p0), .val (.int p1), .val (.int i), .val (.int j), .val (.ref a), .val (.ref b), .val (.int q), .unset] [(.int j)])) _
        refine XS.ifNo X.here hx rfl (hb hby at_52) rfl (XT.i0_ne_f hc28_52) ?_
        show Steps p.tables e below (T.setTop (mkF m 55 #[.val (.int p0), .val (.int p1), .val (.int i), .val (.int j), .val (.ref a), .val (.ref b), .val (.int q), .unset] [])) _
        refine XS.iload X.here hx rfl (hb hby at_55) rfl ?_
        show Steps p.tables e below (T.setTop (mkF m 57 #[.val (.int p0), .val (.int p1), .val (.int i), .val (.int j), .val (.ref a), .val (.ref b), .val (.int q), .unset] [(.int q)])) _
        refine XS.ifNo X.here hx rfl (hb hby at_57) rfl (XT.i0_eq_f hc29_57) ?_
        show Steps p.tables e below (T.setTop (mkF m 60 #[.val (.int p0), .val (.int p1), .val (.int i), .val (.int j), .val (.ref a), .val (.ref b), .val (.int q), .unset] [])) _
        refine XS.iconst X.here hx rfl (hb hby at_60) ?_
        show Steps p.tables e below (T.setTop (mkF m 61 #[.val (.int p0), .val (.int p1), .val (.int i), .val (.int j), .val (.ref a), .val (.ref b), .val (.int q), .unset] [(.int (1 : Int32))])) _
        refine XS.goto X.here hx rfl (pc0 := 61) (pc' := 65) rfl (hb hby at_61) (by decide) (by decide) ?_
        show Steps p.tables e below (T.setTop (mkF m 65 #[.val (.int p0), .val (.int p1), .val (.int i), .val (.int j), .val (.ref a), .val (.ref b), .val (.int q), .unset] [(.int (1 : Int32))])) _
        exact k
    · refine ⟨T, _, X, eT, N, fun target k => ?_⟩
      rw [if_neg (fun z => z.elim hc27_48 fun r => hc28_52 r.1)] at k
      show Steps p.tables e below (T.setTop (mkF m 46 #[.val (.int p0), .val (.int p1), .val (.int i), .val (.int j), .val (.ref a), .val (.ref b), .val (.int q), .unset] [])) _
      refine XS.iloadN X.here hx rfl (hb hby at_46) rfl ?_
      show Steps p.tables e below (T.setTop (mkF m 47 #[.val (.int p0), .val (.int p1), .val (.int i), .val (.int j), .val (.ref a), .val (.ref b), .val (.int q), .unset] [(.int i)])) _
      refine XS.iloadN X.here hx rfl (hb hby at_47) rfl ?_
      show Steps p.tables e below (T.setTop (mkF m 48 #[.val (.int p0), .val (.int p1), .val (.int i), .val (.int j), .val (.ref a), .val (.ref b), .val (.int q), .unset] [(.int j), (.int i)])) _
      refine XS.icmpNo X.here hx rfl (hb hby at_48) rfl (XT.ii_eq_f hc27_48) ?_
      show Steps p.tables e below (T.setTop (mkF m 51 #[.val (.int p0), .val (.int p1), .val (.int i), .val (.int j), .val (.ref a), .val (.ref b), .val (.int q), .unset] [])) _
      refine XS.iloadN X.here hx rfl (hb hby at_51) rfl ?_
      show Steps p.tables e below (T.setTop (mkF m 52 #[.val (.int p0), .val (.int p1), .val (.int i), .val (.int j), .val (.ref a), .val (.ref b), .val (.int q), .unset] [(.int j)])) _
      refine XS.ifYes X.here hx rfl (pc0 := 52) (pc' := 64) rfl (hb hby at_52) rfl (XT.i0_ne_t hc28_52) (by decide) (by decide) ?_
      show Steps p.tables e below (T.setTop (mkF m 64 #[.val (.int p0), .val (.int p1), .val (.int i), .val (.int j), .val (.ref a), .val (.ref b), .val (.int q), .unset] [])) _
      refine XS.iconst X.here hx rfl (hb hby at_64) ?_
      show Steps p.tables e below (T.setTop (mkF m 65 #[.val (.int p0), .val (.int p1), .val (.int i), .val (.int j), .val (.ref a), .val (.ref b), .val (.int q), .unset] [(.int (0 : Int32))])) _
      exact k
theorem own_dec : ∀ i j : Fin 10, (if (i = j ∨ (j = 0 ∧ (1 ≤ i.val ∧ i.val ≤ 6))) then (1 : Int32) else (0 : Int32)) = (if (i.val.toInt32 = j.val.toInt32 ∨ (j.val.toInt32 = 0 ∧ ¬ (if (i.val.toInt32 < (1 : Int32) ∨ (6 : Int32) < i.val.toInt32) then (0 : Int32) else (1 : Int32)) = 0)) then (1 : Int32) else (0 : Int32)) := by decide +kernel
theorem own_final (kf : Fin 10 → Addr) (vf : Fin 10 → Value) (hk : ∀ i j, kf i = kf j → i = j) (hv : ∀ i, vf i = .null ↔ ¬ (1 ≤ i.val ∧ i.val ≤ 6)) (i j : Fin 10) : (if ((Value.ref (kf i)) = (Value.ref (kf j)) ∨ ((Value.ref (kf j)) = (Value.ref (kf 0)) ∧ ¬ (vf i) = Value.null)) then (1 : Int32) else (0 : Int32)) = (if (i.val.toInt32 = j.val.toInt32 ∨ (j.val.toInt32 = 0 ∧ ¬ (if (i.val.toInt32 < (1 : Int32) ∨ (6 : Int32) < i.val.toInt32) then (0 : Int32) else (1 : Int32)) = 0)) then (1 : Int32) else (0 : Int32)) := by
  rw [← own_dec]
  have a1 : ((Value.ref (kf i)) = (Value.ref (kf j))) ↔ i = j := ⟨fun q => hk _ _ (Value.ref.inj q), fun q => by rw [q]⟩
  have a2 : ((Value.ref (kf j)) = (Value.ref (kf 0))) ↔ j = 0 := ⟨fun q => hk _ _ (Value.ref.inj q), fun q => by rw [q]⟩
  have a3 : (¬ vf i = Value.null) ↔ (1 ≤ i.val ∧ i.val ≤ 6) := by rw [hv]; exact Classical.not_not
  simp only [a1, a2, a3]
theorem pn_own_law : plainName "com/example/factwell/factwell/pkb/EntityKindWithinPinLaw" = true := by first | (simp [plainName, overriddenIn]; done) | decide +kernel
theorem ef_own_law (m : MethodId) (x0 : Int32) (x1 : Int32) : entryFrame m #[(.int x0), (.int x1)] maxLocals = mkF m 0 #[.val (.int x0), .val (.int x1), .unset, .unset, .unset, .unset, .unset, .unset] [] := by first | (simp [entryFrame, mkF, argsToLocals, Value.category, maxLocals]; done) | rfl
def Q_own_law (Z : State) (p0 : Int32) (p1 : Int32) (i : Fin 10) (j : Fin 10) (kf : Fin 10 → Addr) (vf : Fin 10 → Value) (h0 : Heap) (n0 : Nat) (v : Option Value) (h : Heap) (L : List Loc) : Prop := v = some (.int 1) ∧ Fr n0 L
set_option maxRecDepth 65536 in
set_option maxHeartbeats 40000000 in
theorem own_law (l : Launch) (Z : State) (a0 : Array Value) (hw : ∀ d ∈ tables_1, d.before a0 Z = true) (ws : List Jvm.Cond) (p0 : Int32) (p1 : Int32) (i : Fin 10) (j : Fin 10) (kf : Fin 10 → Addr) (vf : Fin 10 → Value) (h0 : Heap) (n0 : Nat) (Z0 : n0 ≤ h0.size) (hi : ((p0 &&& (2147483647 : Int32)) % (10 : Int32)) = i.val.toInt32) (hj : ((p1 &&& (2147483647 : Int32)) % (10 : Int32)) = j.val.toInt32) (hk : ∀ i j, kf i = kf j → i = j) (hv : ∀ i, vf i = .null ↔ ¬ (1 ≤ i.val ∧ i.val ≤ 6)) (hu : ∀ i, (vf i).isRef = true) (S0 : Sta Z h0 "com/example/factwell/factwell/pkb/EntityKind" "STMT" "Lcom/example/factwell/factwell/pkb/EntityKind;" (.ref (kf 0))) (S1 : Sta Z h0 "com/example/factwell/factwell/pkb/EntityKind" "READ" "Lcom/example/factwell/factwell/pkb/EntityKind;" (.ref (kf 1))) (S2 : Sta Z h0 "com/example/factwell/factwell/pkb/EntityKind" "PRINT" "Lcom/example/factwell/factwell/pkb/EntityKind;" (.ref (kf 2))) (S3 : Sta Z h0 "com/example/factwell/factwell/pkb/EntityKind" "CALL" "Lcom/example/factwell/factwell/pkb/EntityKind;" (.ref (kf 3))) (S4 : Sta Z h0 "com/example/factwell/factwell/pkb/EntityKind" "WHILE" "Lcom/example/factwell/factwell/pkb/EntityKind;" (.ref (kf 4))) (S5 : Sta Z h0 "com/example/factwell/factwell/pkb/EntityKind" "IF" "Lcom/example/factwell/factwell/pkb/EntityKind;" (.ref (kf 5))) (S6 : Sta Z h0 "com/example/factwell/factwell/pkb/EntityKind" "ASSIGN" "Lcom/example/factwell/factwell/pkb/EntityKind;" (.ref (kf 6))) (S7 : Sta Z h0 "com/example/factwell/factwell/pkb/EntityKind" "VARIABLE" "Lcom/example/factwell/factwell/pkb/EntityKind;" (.ref (kf 7))) (S8 : Sta Z h0 "com/example/factwell/factwell/pkb/EntityKind" "CONSTANT" "Lcom/example/factwell/factwell/pkb/EntityKind;" (.ref (kf 8))) (S9 : Sta Z h0 "com/example/factwell/factwell/pkb/EntityKind" "PROCEDURE" "Lcom/example/factwell/factwell/pkb/EntityKind;" (.ref (kf 9))) (EE : ∀ i, Exa Z h0 (kf i) "com/example/factwell/factwell/pkb/EntityKind") (FF : ∀ i, Fld Z h0 (kf i) "com/example/factwell/factwell/pkb/EntityKind" "statementKind" "Lcom/example/factwell/factwell/simple/StatementKind;" (vf i)) :
    MetFree l x (head1 (Jvm.Cond.code x code maxLocals ret :: ws) room_1) (fun a U => a = #[(.int p0), (.int p1)] ∧ Z.Warmed39 U.vm ∧ U.heap = h0) (fun _ _ _ _ _ => True) (fun _ U o U' => ∃ v L, o = .returned v ∧ Q_own_law Z p0 p1 i j kf vf h0 n0 v U'.heap L ∧ FrameEnd U o U' L 0 0) := by
  refine MetFree.of_bodySF (plainFor_of_name pn_own_law) hisR ?_
  intro p e s m args below meth c s₁ Bd hml0 hP hK
  obtain ⟨rfl, hZ, hh⟩ := hP
  have hx := Bd.exec
  have hby := Bd.bytes
  have hml : c.maxLocals = 8 := hml0
  have hown : s.vm.findClass "com/example/factwell/factwell/pkb/EntityKindWithinPinLaw" = some m.cls := findClass_of_methodNamed Bd.named
  have hnm := (name_of_methodNamed Bd.named Bd.method).1
  have X0 : Stand p l e room_1 s m #[(.int p0), (.int p1)] below meth c s₁ [] 0 0 := Stand.of_body Bd
  have e0 : s₁.heap = h0 := by rw [← hh, Bd.state]; rfl
  have N0 := Fr.nil n0
  have pre0 : ∀ t, Steps p.tables e below (s₁.setTop (mkF m 0 #[.val (.int p0), .val (.int p1), .unset, .unset, .unset, .unset, .unset, .unset] [])) t → Steps p.tables e below (s₁.setTop (entryFrame m #[(.int p0), (.int p1)] maxLocals)) t := fun t k => castTop (ef_own_law m (p0) (p1)) k
  obtain ⟨_, _, ⟨T30, L30, k30, n30⟩, -, X30, ⟨Lc30, hQ30, l30, y30, z30⟩, st30⟩ := Jvm.LawKit.callS X0 hx (y := (⟨"com/example/factwell/factwell/pkb/EntityKindWithinPinLaw", "kind", "(I)Lcom/example/factwell/factwell/pkb/EntityKind;"⟩ : MethodName)) hown (mvT hZ (hw _ (List.mem_of_getElem? (i := 1) rfl))) (mvT hZ (hw _ (List.mem_of_getElem? (i := 2) rfl))) (mvT hZ (hw _ (List.mem_of_getElem? (i := 3) rfl))) (mvT hZ (hw _ (List.mem_of_getElem? (i := 4) rfl))) (by decide) (backOf (W := 0) (own_kd l Z a0 hw [] i.val.toInt32 kf h0 n0 Z0 S0 S1 S2 S3 S4 S5 S6 S7 S8 S9) hZ (hw _ (List.mem_of_getElem? (i := 4) rfl)) (hw _ (List.mem_of_getElem? (i := 3) rfl)) (by decide) (by decide)) (g := (mkF m 17 #[.val (.int p0), .val (.int p1), .val (.int i.val.toInt32), .val (.int j.val.toInt32), .unset, .unset, .unset, .unset] [(.int i.val.toInt32)])) rfl (by rw [hml]; rfl) (argsL := [(.int i.val.toInt32)]) (rest := []) (lenOf pd_0 rfl) rfl (by show 2 * 0 + _ ≤ _; exact Nat.le_of_eq rfl) (hb hby at_17) (fun _ _ => ⟨rfl, e0, (by decide : 0 + 0 ≤ _), (by decide : 0 + 0 ≤ _)⟩)
  dsimp only [Pt.U, Pt.locs, Pt.cells, Pt.slots] at X30 l30 y30 z30 st30 hQ30
  subst l30 y30 z30
  obtain ⟨rfl, N30q, eh30⟩ := hQ30
  have N30 := Fr.app N0 N30q
  obtain ⟨_, _, ⟨T31, L31, k31, n31⟩, -, X31, ⟨Lc31, hQ31, l31, y31, z31⟩, st31⟩ := Jvm.LawKit.callS X30 hx (y := (⟨"com/example/factwell/factwell/pkb/EntityKindWithinPinLaw", "kind", "(I)Lcom/example/factwell/factwell/pkb/EntityKind;"⟩ : MethodName)) hown (mvT hZ (hw _ (List.mem_of_getElem? (i := 1) rfl))) (mvT hZ (hw _ (List.mem_of_getElem? (i := 2) rfl))) (mvT hZ (hw _ (List.mem_of_getElem? (i := 3) rfl))) (mvT hZ (hw _ (List.mem_of_getElem? (i := 4) rfl))) (by decide) (backOf (W := 0) (own_kd l Z a0 hw [] j.val.toInt32 kf h0 n0 Z0 S0 S1 S2 S3 S4 S5 S6 S7 S8 S9) hZ (hw _ (List.mem_of_getElem? (i := 4) rfl)) (hw _ (List.mem_of_getElem? (i := 3) rfl)) (by decide) (by decide)) (g := (mkF m 23 #[.val (.int p0), .val (.int p1), .val (.int i.val.toInt32), .val (.int j.val.toInt32), .val (.ref (kf i)), .unset, .unset, .unset] [(.int j.val.toInt32)])) rfl (by rw [hml]; rfl) (argsL := [(.int j.val.toInt32)]) (rest := []) (lenOf pd_0 rfl) rfl (by show 2 * 0 + _ ≤ _; exact Nat.le_of_eq rfl) (hb hby at_23) (fun _ _ => ⟨rfl, eh30, (by decide : 0 + 0 ≤ _), (by decide : 0 + 0 ≤ _)⟩)
  dsimp only [Pt.U, Pt.locs, Pt.cells, Pt.slots] at X31 l31 y31 z31 st31 hQ31
  subst l31 y31 z31
  obtain ⟨rfl, N31q, eh31⟩ := hQ31
  have N31 := Fr.app N30 N31q
  obtain ⟨T32, L32, X32, e32, N32, st32⟩ := own_sa hw X31 hx hZ hby hml hown eh31 N31 Z0 p0 p1 i.val.toInt32 j.val.toInt32 (kf i) (kf j)
  obtain ⟨T33, L33, X33, e33, N33, st33⟩ := own_sb hw X32 hx hZ hby hml hown e32 N32 Z0 p0 p1 i.val.toInt32 j.val.toInt32 (kf i) (kf j) (if (i.val.toInt32 < (1 : Int32) ∨ (6 : Int32) < i.val.toInt32) then (0 : Int32) else (1 : Int32))
  obtain ⟨cq34, kq34, q34a, q34b, q34c⟩ := isOf hZ e33 (EE i)
  obtain ⟨_, _, ⟨T34, L34, k34, n34⟩, -, X34, ⟨Lc34, hQ34, l34, y34, z34⟩, st34⟩ := X33.virtualBack hx (y := (⟨"com/example/factwell/factwell/pkb/EntityKind", "within", "(Lcom/example/factwell/factwell/pkb/EntityKind;)Z"⟩ : MethodName)) (z := (⟨"com/example/factwell/factwell/pkb/EntityKind", "within", "(Lcom/example/factwell/factwell/pkb/EntityKind;)Z"⟩ : MethodName)) hown (mvT hZ (hw _ (List.mem_of_getElem? (i := 10) rfl))) (mvT hZ (hw _ (List.mem_of_getElem? (i := 11) rfl))) (notFace_of_selects (args := #[]) (mvT hZ (hw _ (List.mem_of_getElem? (i := 13) rfl)))) (mvT hZ (hw _ (List.mem_of_getElem? (i := 13) rfl))) (mvT hZ (hw _ (List.mem_of_getElem? (i := 12) rfl))) (by decide) (backOf (W := 0) (own_within l Z a0 hw [] (kf i) (kf j) (kf 0) (vf i) h0 n0 Z0 (hu i) S0 (FF i)) hZ (hw _ (List.mem_of_getElem? (i := 14) rfl)) (hw _ (List.mem_of_getElem? (i := 6) rfl)) (by decide) (by decide)) q34a q34c (g := (mkF m 71 #[.val (.int p0), .val (.int p1), .val (.int i.val.toInt32), .val (.int j.val.toInt32), .val (.ref (kf i)), .val (.ref (kf j)), .val (.int (if (i.val.toInt32 < (1 : Int32) ∨ (6 : Int32) < i.val.toInt32) then (0 : Int32) else (1 : Int32))), .val (.int (if (i.val.toInt32 = j.val.toInt32 ∨ (j.val.toInt32 = 0 ∧ ¬ (if (i.val.toInt32 < (1 : Int32) ∨ (6 : Int32) < i.val.toInt32) then (0 : Int32) else (1 : Int32)) = 0)) then (1 : Int32) else (0 : Int32)))] [(.ref (kf j)), (.ref (kf i))])) rfl (by rw [hml]; rfl) (Steps.refl _) (argsL := [(.ref (kf j))]) (rest := []) (lenOf pd_1 rfl) rfl (by show 2 * 0 + _ ≤ _; exact Nat.le_of_eq rfl) (hb hby at_71) (fun _ _ => ⟨rfl, e33, (by decide : 0 + 0 ≤ _), (by decide : 0 + 0 ≤ _)⟩)
  dsimp only [Pt.U, Pt.locs, Pt.cells, Pt.slots] at X34 l34 y34 z34 st34 hQ34
  subst l34 y34 z34
  obtain ⟨rfl, N34q, eh34⟩ := hQ34
  have N34 := Fr.app N33 N34q
  obtain ⟨fs, hr, hrun, hended, hW, hsame⟩ := X34.leave (v := some (.int (1 : Int32))) (fun h => by rw [Bd.returns] at h; cases h)
  refine ⟨_, _, pre0 _ ?_, hrun, hended, _, _, rfl, ?_, ⟨_, rfl⟩, hW, hsame.mono (by decide) (by decide)⟩
  · show Steps p.tables e below (s₁.setTop (mkF m 0 #[.val (.int p0), .val (.int p1), .unset, .unset, .unset, .unset, .unset, .unset] [])) _
    refine XS.iloadN X0.here hx rfl (hb hby at_0) rfl ?_
    show Steps p.tables e below (s₁.setTop (mkF m 1 #[.val (.int p0), .val (.int p1), .unset, .unset, .unset, .unset, .unset, .unset] [(.int p0)])) _
    refine Jvm.Stand.ldcI X0 hx hown (mvT hZ (hw _ (List.mem_of_getElem? (i := 0) rfl))) (g := (mkF m 1 #[.val (.int p0), .val (.int p1), .unset, .unset, .unset, .unset, .unset, .unset] [(.int p0)])) rfl (hb hby at_1) ?_
    show Steps p.tables e below (s₁.setTop (mkF m 3 #[.val (.int p0), .val (.int p1), .unset, .unset, .unset, .unset, .unset, .unset] [(.int (2147483647 : Int32)), (.int p0)])) _
    refine XS.iand X0.here hx rfl (hb hby at_3) rfl ?_
    show Steps p.tables e below (s₁.setTop (mkF m 4 #[.val (.int p0), .val (.int p1), .unset, .unset, .unset, .unset, .unset, .unset] [(.int (p0 &&& (2147483647 : Int32)))])) _
    refine XS.bipush X0.here hx rfl (hb hby at_4) ?_
    show Steps p.tables e below (s₁.setTop (mkF m 6 #[.val (.int p0), .val (.int p1), .unset, .unset, .unset, .unset, .unset, .unset] [(.int (10 : Int32)), (.int (p0 &&& (2147483647 : Int32)))])) _
    refine Jvm.RoadKit.iremM (g := (mkF m 6 #[.val (.int p0), .val (.int p1), .unset, .unset, .unset, .unset, .unset, .unset] [(.int (10 : Int32)), (.int (p0 &&& (2147483647 : Int32)))])) X0 hx rfl (hb hby at_6) rfl (by decide) ?_
    show Steps p.tables e below (s₁.setTop (mkF m 7 #[.val (.int p0), .val (.int p1), .unset, .unset, .unset, .unset, .unset, .unset] [(.int ((p0 &&& (2147483647 : Int32)) % (10 : Int32)))])) _
    rw [hi]
    show Steps p.tables e below (s₁.setTop (mkF m 7 #[.val (.int p0), .val (.int p1), .unset, .unset, .unset, .unset, .unset, .unset] [(.int i.val.toInt32)])) _
    refine XS.istoreN X0.here hx rfl (hb hby at_7) rfl (l' := #[.val (.int p0), .val (.int p1), .val (.int i.val.toInt32), .unset, .unset, .unset, .unset, .unset]) rfl ?_
    show Steps p.tables e below (s₁.setTop (mkF m 8 #[.val (.int p0), .val (.int p1), .val (.int i.val.toInt32), .unset, .unset, .unset, .unset, .unset] [])) _
    refine XS.iloadN X0.here hx rfl (hb hby at_8) rfl ?_
    show Steps p.tables e below (s₁.setTop (mkF m 9 #[.val (.int p0), .val (.int p1), .val (.int i.val.toInt32), .unset, .unset, .unset, .unset, .unset] [(.int p1)])) _
    refine Jvm.Stand.ldcI X0 hx hown (mvT hZ (hw _ (List.mem_of_getElem? (i := 0) rfl))) (g := (mkF m 9 #[.val (.int p0), .val (.int p1), .val (.int i.val.toInt32), .unset, .unset, .unset, .unset, .unset] [(.int p1)])) rfl (hb hby at_9) ?_
    show Steps p.tables e below (s₁.setTop (mkF m 11 #[.val (.int p0), .val (.int p1), .val (.int i.val.toInt32), .unset, .unset, .unset, .unset, .unset] [(.int (2147483647 : Int32)), (.int p1)])) _
    refine XS.iand X0.here hx rfl (hb hby at_11) rfl ?_
    show Steps p.tables e below (s₁.setTop (mkF m 12 #[.val (.int p0), .val (.int p1), .val (.int i.val.toInt32), .unset, .unset, .unset, .unset, .unset] [(.int (p1 &&& (2147483647 : Int32)))])) _
    refine XS.bipush X0.here hx rfl (hb hby at_12) ?_
    show Steps p.tables e below (s₁.setTop (mkF m 14 #[.val (.int p0), .val (.int p1), .val (.int i.val.toInt32), .unset, .unset, .unset, .unset, .unset] [(.int (10 : Int32)), (.int (p1 &&& (2147483647 : Int32)))])) _
    refine Jvm.RoadKit.iremM (g := (mkF m 14 #[.val (.int p0), .val (.int p1), .val (.int i.val.toInt32), .unset, .unset, .unset, .unset, .unset] [(.int (10 : Int32)), (.int (p1 &&& (2147483647 : Int32)))])) X0 hx rfl (hb hby at_14) rfl (by decide) ?_
    show Steps p.tables e below (s₁.setTop (mkF m 15 #[.val (.int p0), .val (.int p1), .val (.int i.val.toInt32), .unset, .unset, .unset, .unset, .unset] [(.int ((p1 &&& (2147483647 : Int32)) % (10 : Int32)))])) _
    rw [hj]
    show Steps p.tables e below (s₁.setTop (mkF m 15 #[.val (.int p0), .val (.int p1), .val (.int i.val.toInt32), .unset, .unset, .unset, .unset, .unset] [(.int j.val.toInt32)])) _
    refine XS.istoreN X0.here hx rfl (hb hby at_15) rfl (l' := #[.val (.int p0), .val (.int p1), .val (.int i.val.toInt32), .val (.int j.val.toInt32), .unset, .unset, .unset, .unset]) rfl ?_
    show Steps p.tables e below (s₁.setTop (mkF m 16 #[.val (.int p0), .val (.int p1), .val (.int i.val.toInt32), .val (.int j.val.toInt32), .unset, .unset, .unset, .unset] [])) _
    refine XS.iloadN X0.here hx rfl (hb hby at_16) rfl ?_
    show Steps p.tables e below (s₁.setTop (mkF m 17 #[.val (.int p0), .val (.int p1), .val (.int i.val.toInt32), .val (.int j.val.toInt32), .unset, .unset, .unset, .unset] [(.int i.val.toInt32)])) _
    refine st30 _ ?_
    show Steps p.tables e below (T30.setTop (mkF m 20 #[.val (.int p0), .val (.int p1), .val (.int i.val.toInt32), .val (.int j.val.toInt32), .unset, .unset, .unset, .unset] [(.ref (own_kind kf i.val.toInt32))])) _
    rw [own_kind_at]
    show Steps p.tables e below (T30.setTop (mkF m 20 #[.val (.int p0), .val (.int p1), .val (.int i.val.toInt32), .val (.int j.val.toInt32), .unset, .unset, .unset, .unset] [(.ref (kf i))])) _
    refine XS.astore X30.here hx rfl (hb hby at_20) rfl rfl (l' := #[.val (.int p0), .val (.int p1), .val (.int i.val.toInt32), .val (.int j.val.toInt32), .val (.ref (kf i)), .unset, .unset, .unset]) rfl ?_
    show Steps p.tables e below (T30.setTop (mkF m 22 #[.val (.int p0), .val (.int p1), .val (.int i.val.toInt32), .val (.int j.val.toInt32), .val (.ref (kf i)), .unset, .unset, .unset] [])) _
    refine XS.iloadN X30.here hx rfl (hb hby at_22) rfl ?_
    show Steps p.tables e below (T30.setTop (mkF m 23 #[.val (.int p0), .val (.int p1), .val (.int i.val.toInt32), .val (.int j.val.toInt32), .val (.ref (kf i)), .unset, .unset, .unset] [(.int j.val.toInt32)])) _
    refine st31 _ ?_
    show Steps p.tables e below (T31.setTop (mkF m 26 #[.val (.int p0), .val (.int p1), .val (.int i.val.toInt32), .val (.int j.val.toInt32), .val (.ref (kf i)), .unset, .unset, .unset] [(.ref (own_kind kf j.val.toInt32))])) _
    rw [own_kind_at]
    show Steps p.tables e below (T31.setTop (mkF m 26 #[.val (.int p0), .val (.int p1), .val (.int i.val.toInt32), .val (.int j.val.toInt32), .val (.ref (kf i)), .unset, .unset, .unset] [(.ref (kf j))])) _
    refine XS.astore X31.here hx rfl (hb hby at_26) rfl rfl (l' := #[.val (.int p0), .val (.int p1), .val (.int i.val.toInt32), .val (.int j.val.toInt32), .val (.ref (kf i)), .val (.ref (kf j)), .unset, .unset]) rfl ?_
    show Steps p.tables e below (T31.setTop (mkF m 28 #[.val (.int p0), .val (.int p1), .val (.int i.val.toInt32), .val (.int j.val.toInt32), .val (.ref (kf i)), .val (.ref (kf j)), .unset, .unset] [])) _
    refine st32 _ ?_
    show Steps p.tables e below (T32.setTop (mkF m 44 #[.val (.int p0), .val (.int p1), .val (.int i.val.toInt32), .val (.int j.val.toInt32), .val (.ref (kf i)), .val (.ref (kf j)), .unset, .unset] [(.int (if (i.val.toInt32 < (1 : Int32) ∨ (6 : Int32) < i.val.toInt32) then (0 : Int32) else (1 : Int32)))])) _
    refine XS.istore X32.here hx rfl (hb hby at_44) rfl (l' := #[.val (.int p0), .val (.int p1), .val (.int i.val.toInt32), .val (.int j.val.toInt32), .val (.ref (kf i)), .val (.ref (kf j)), .val (.int (if (i.val.toInt32 < (1 : Int32) ∨ (6 : Int32) < i.val.toInt32) then (0 : Int32) else (1 : Int32))), .unset]) rfl ?_
    show Steps p.tables e below (T32.setTop (mkF m 46 #[.val (.int p0), .val (.int p1), .val (.int i.val.toInt32), .val (.int j.val.toInt32), .val (.ref (kf i)), .val (.ref (kf j)), .val (.int (if (i.val.toInt32 < (1 : Int32) ∨ (6 : Int32) < i.val.toInt32) then (0 : Int32) else (1 : Int32))), .unset] [])) _
    refine st33 _ ?_
    show Steps p.tables e below (T33.setTop (mkF m 65 #[.val (.int p0), .val (.int p1), .val (.int i.val.toInt32), .val (.int j.val.toInt32), .val (.ref (kf i)), .val (.ref (kf j)), .val (.int (if (i.val.toInt32 < (1 : Int32) ∨ (6 : Int32) < i.val.toInt32) then (0 : Int32) else (1 : Int32))), .unset] [(.int (if (i.val.toInt32 = j.val.toInt32 ∨ (j.val.toInt32 = 0 ∧ ¬ (if (i.val.toInt32 < (1 : Int32) ∨ (6 : Int32) < i.val.toInt32) then (0 : Int32) else (1 : Int32)) = 0)) then (1 : Int32) else (0 : Int32)))])) _
    refine XS.istore X33.here hx rfl (hb hby at_65) rfl (l' := #[.val (.int p0), .val (.int p1), .val (.int i.val.toInt32), .val (.int j.val.toInt32), .val (.ref (kf i)), .val (.ref (kf j)), .val (.int (if (i.val.toInt32 < (1 : Int32) ∨ (6 : Int32) < i.val.toInt32) then (0 : Int32) else (1 : Int32))), .val (.int (if (i.val.toInt32 = j.val.toInt32 ∨ (j.val.toInt32 = 0 ∧ ¬ (if (i.val.toInt32 < (1 : Int32) ∨ (6 : Int32) < i.val.toInt32) then (0 : Int32) else (1 : Int32)) = 0)) then (1 : Int32) else (0 : Int32)))]) rfl ?_
    show Steps p.tables e below (T33.setTop (mkF m 67 #[.val (.int p0), .val (.int p1), .val (.int i.val.toInt32), .val (.int j.val.toInt32), .val (.ref (kf i)), .val (.ref (kf j)), .val (.int (if (i.val.toInt32 < (1 : Int32) ∨ (6 : Int32) < i.val.toInt32) then (0 : Int32) else (1 : Int32))), .val (.int (if (i.val.toInt32 = j.val.toInt32 ∨ (j.val.toInt32 = 0 ∧ ¬ (if (i.val.toInt32 < (1 : Int32) ∨ (6 : Int32) < i.val.toInt32) then (0 : Int32) else (1 : Int32)) = 0)) then (1 : Int32) else (0 : Int32)))] [])) _
    refine XS.aload X33.here hx rfl (hb hby at_67) rfl rfl ?_
    show Steps p.tables e below (T33.setTop (mkF m 69 #[.val (.int p0), .val (.int p1), .val (.int i.val.toInt32), .val (.int j.val.toInt32), .val (.ref (kf i)), .val (.ref (kf j)), .val (.int (if (i.val.toInt32 < (1 : Int32) ∨ (6 : Int32) < i.val.toInt32) then (0 : Int32) else (1 : Int32))), .val (.int (if (i.val.toInt32 = j.val.toInt32 ∨ (j.val.toInt32 = 0 ∧ ¬ (if (i.val.toInt32 < (1 : Int32) ∨ (6 : Int32) < i.val.toInt32) then (0 : Int32) else (1 : Int32)) = 0)) then (1 : Int32) else (0 : Int32)))] [(.ref (kf i))])) _
    refine XS.aload X33.here hx rfl (hb hby at_69) rfl rfl ?_
    show Steps p.tables e below (T33.setTop (mkF m 71 #[.val (.int p0), .val (.int p1), .val (.int i.val.toInt32), .val (.int j.val.toInt32), .val (.ref (kf i)), .val (.ref (kf j)), .val (.int (if (i.val.toInt32 < (1 : Int32) ∨ (6 : Int32) < i.val.toInt32) then (0 : Int32) else (1 : Int32))), .val (.int (if (i.val.toInt32 = j.val.toInt32 ∨ (j.val.toInt32 = 0 ∧ ¬ (if (i.val.toInt32 < (1 : Int32) ∨ (6 : Int32) < i.val.toInt32) then (0 : Int32) else (1 : Int32)) = 0)) then (1 : Int32) else (0 : Int32)))] [(.ref (kf j)), (.ref (kf i))])) _
    refine st34.trans ?_
    show Steps p.tables e below (T34.setTop (mkF m 74 #[.val (.int p0), .val (.int p1), .val (.int i.val.toInt32), .val (.int j.val.toInt32), .val (.ref (kf i)), .val (.ref (kf j)), .val (.int (if (i.val.toInt32 < (1 : Int32) ∨ (6 : Int32) < i.val.toInt32) then (0 : Int32) else (1 : Int32))), .val (.int (if (i.val.toInt32 = j.val.toInt32 ∨ (j.val.toInt32 = 0 ∧ ¬ (if (i.val.toInt32 < (1 : Int32) ∨ (6 : Int32) < i.val.toInt32) then (0 : Int32) else (1 : Int32)) = 0)) then (1 : Int32) else (0 : Int32)))] [(.int (if ((Value.ref (kf i)) = (Value.ref (kf j)) ∨ ((Value.ref (kf j)) = (Value.ref (kf 0)) ∧ ¬ (vf i) = Value.null)) then (1 : Int32) else (0 : Int32)))])) _
    refine XS.iload X34.here hx rfl (hb hby at_74) rfl ?_
    show Steps p.tables e below (T34.setTop (mkF m 76 #[.val (.int p0), .val (.int p1), .val (.int i.val.toInt32), .val (.int j.val.toInt32), .val (.ref (kf i)), .val (.ref (kf j)), .val (.int (if (i.val.toInt32 < (1 : Int32) ∨ (6 : Int32) < i.val.toInt32) then (0 : Int32) else (1 : Int32))), .val (.int (if (i.val.toInt32 = j.val.toInt32 ∨ (j.val.toInt32 = 0 ∧ ¬ (if (i.val.toInt32 < (1 : Int32) ∨ (6 : Int32) < i.val.toInt32) then (0 : Int32) else (1 : Int32)) = 0)) then (1 : Int32) else (0 : Int32)))] [(.int (if (i.val.toInt32 = j.val.toInt32 ∨ (j.val.toInt32 = 0 ∧ ¬ (if (i.val.toInt32 < (1 : Int32) ∨ (6 : Int32) < i.val.toInt32) then (0 : Int32) else (1 : Int32)) = 0)) then (1 : Int32) else (0 : Int32))), (.int (if ((Value.ref (kf i)) = (Value.ref (kf j)) ∨ ((Value.ref (kf j)) = (Value.ref (kf 0)) ∧ ¬ (vf i) = Value.null)) then (1 : Int32) else (0 : Int32)))])) _
    refine XS.icmpNo X34.here hx rfl (hb hby at_76) rfl (XT.ii_ne_f (own_final kf vf hk hv i j)) ?_
    show Steps p.tables e below (T34.setTop (mkF m 79 #[.val (.int p0), .val (.int p1), .val (.int i.val.toInt32), .val (.int j.val.toInt32), .val (.ref (kf i)), .val (.ref (kf j)), .val (.int (if (i.val.toInt32 < (1 : Int32) ∨ (6 : Int32) < i.val.toInt32) then (0 : Int32) else (1 : Int32))), .val (.int (if (i.val.toInt32 = j.val.toInt32 ∨ (j.val.toInt32 = 0 ∧ ¬ (if (i.val.toInt32 < (1 : Int32) ∨ (6 : Int32) < i.val.toInt32) then (0 : Int32) else (1 : Int32)) = 0)) then (1 : Int32) else (0 : Int32)))] [])) _
    refine XS.iconst X34.here hx rfl (hb hby at_79) ?_
    show Steps p.tables e below (T34.setTop (mkF m 80 #[.val (.int p0), .val (.int p1), .val (.int i.val.toInt32), .val (.int j.val.toInt32), .val (.ref (kf i)), .val (.ref (kf j)), .val (.int (if (i.val.toInt32 < (1 : Int32) ∨ (6 : Int32) < i.val.toInt32) then (0 : Int32) else (1 : Int32))), .val (.int (if (i.val.toInt32 = j.val.toInt32 ∨ (j.val.toInt32 = 0 ∧ ¬ (if (i.val.toInt32 < (1 : Int32) ∨ (6 : Int32) < i.val.toInt32) then (0 : Int32) else (1 : Int32)) = 0)) then (1 : Int32) else (0 : Int32)))] [(.int (1 : Int32))])) _
    refine XS.goto X34.here hx rfl (pc0 := 80) (pc' := 84) rfl (hb hby at_80) (by decide) (by decide) ?_
    show Steps p.tables e below (T34.setTop (mkF m 84 #[.val (.int p0), .val (.int p1), .val (.int i.val.toInt32), .val (.int j.val.toInt32), .val (.ref (kf i)), .val (.ref (kf j)), .val (.int (if (i.val.toInt32 < (1 : Int32) ∨ (6 : Int32) < i.val.toInt32) then (0 : Int32) else (1 : Int32))), .val (.int (if (i.val.toInt32 = j.val.toInt32 ∨ (j.val.toInt32 = 0 ∧ ¬ (if (i.val.toInt32 < (1 : Int32) ∨ (6 : Int32) < i.val.toInt32) then (0 : Int32) else (1 : Int32)) = 0)) then (1 : Int32) else (0 : Int32)))] [(.int (1 : Int32))])) _
    exact retN X34 hx (t := .boolean) Bd.returns (by simp) (hb hby at_84) hr
  · show Q_own_law Z p0 p1 i j kf vf h0 n0 _ T34.heap _
    rw [eh34]
    exact ⟨rfl, N34⟩
theorem own_eqi {args : Array Value} {s : State} {t : Term} {k : Int32} (h : (Jvm.Cond.eq t (.int k)).value args s none s [] = some true) : t.eval args s none [] s = some (.int k) := by
  obtain ⟨x, y, hx, hy, -, K⟩ := cmp_v (Or.inl h)
  cases (Term.int_eval k).symm.trans hy
  obtain ⟨z, rfl⟩ := K
  rw [hx, gotT (Cond.eq_ints hx (Term.int_eval k)) h]
theorem own_ord {args : Array Value} {s : State} {t : Term} {k : Int32} {a : Addr} (ev : t.eval args s none [] s = some (.ref a)) (h : (Jvm.Cond.eq (.field t "java/lang/Enum" "ordinal" "I") (.int k)).value args s none s [] = some true) : s.fieldOf? a "java/lang/Enum" "ordinal" "I" = some (.int k) := by
  have f := fld_at (C := "java/lang/Enum") (n := "ordinal") (dd := "I") ev
  rw [← f]
  exact own_eqi h
theorem own_eqr {args : Array Value} {s : State} {a b : Term} {y : Addr} (hb : b.eval args s none [] s = some (.ref y)) (h : (Jvm.Cond.eq a b).value args s none s [] = some true) : a.eval args s none [] s = some (.ref y) := by
  cases ha : a.eval args s none [] s with
  | none => simp [Cond.value, ha] at h
  | some x => cases x <;> simp [Cond.value, ha, hb] at h ⊢; exact h
theorem own_fin (n : Nat) (x : Int32) (h0 : 0 ≤ x.toInt) (h1 : x.toInt < n) : ∃ k : Fin n, x = k.val.toInt32 := by
  have hn : ¬ x < 0 := by rw [Int32.lt_iff_toInt_lt]; have e0 : (0 : Int32).toInt = 0 := rfl; omega
  exact ⟨⟨x.toNatClampNeg, by simp only [Int32.toNatClampNeg]; omega⟩, (back32 hn).1.symm⟩
theorem own_ten (x : Int32) : ∃ k : Fin 10, ((x &&& (2147483647 : Int32)) % (10 : Int32)) = k.val.toInt32 := by
  have a1 := c_mask x (2147483647 : Int32) 31 (by decide) (by decide)
  simp only [Nat.reducePow] at a1
  have a2 := (c_irem (x &&& (2147483647 : Int32)) 10 10 rfl).1 (by omega)
  exact own_fin 10 _ (by omega) (by omega)
def own_pick {α : Type} (k0 k1 k2 k3 k4 k5 k6 k7 k8 k9 : α) (i : Fin 10) : α := match i with
  | ⟨0, _⟩ => k0 | ⟨1, _⟩ => k1 | ⟨2, _⟩ => k2 | ⟨3, _⟩ => k3 | ⟨4, _⟩ => k4 | ⟨5, _⟩ => k5 | ⟨6, _⟩ => k6 | ⟨7, _⟩ => k7 | ⟨8, _⟩ => k8 | ⟨9, _⟩ => k9
theorem own_all {P : Fin 10 → Prop} (h0 : P 0) (h1 : P 1) (h2 : P 2) (h3 : P 3) (h4 : P 4) (h5 : P 5) (h6 : P 6) (h7 : P 7) (h8 : P 8) (h9 : P 9) : ∀ i, P i := fun i => match i with
  | ⟨0, _⟩ => h0 | ⟨1, _⟩ => h1 | ⟨2, _⟩ => h2 | ⟨3, _⟩ => h3 | ⟨4, _⟩ => h4 | ⟨5, _⟩ => h5 | ⟨6, _⟩ => h6 | ⟨7, _⟩ => h7 | ⟨8, _⟩ => h8 | ⟨9, _⟩ => h9
theorem own_inj : ∀ i j : Fin 10, i.val.toInt32 = j.val.toInt32 → i = j := by decide +kernel
set_option maxRecDepth 65536 in
set_option maxHeartbeats 40000000 in
theorem comes_1 {Post : Tables → Env → Array Value → State → Outcome → State → Prop} (hpost : ∀ tb e args s v u, (limb_1_1.after args s (.returned v) u = true ∧ limb_1_2.after args s (.returned v) u = true ∧ True) → FrameEnd s (.returned v) u (Jvm.fieldLocs frame_1_writes args s ++ Jvm.arrayLocs frame_1_arrays args s ++ Jvm.staticLocs frame_1_statics s) 0 0 → Post tb e args s (.returned v) u) :
    ArmFor flags0 classFile x code maxLocals ret World_1 tables_1 room_1 Calls_1 rest_1 Pre_1 Post := by
  intro l hfl _ _ p e ha hc hk s m args below hf hA hF happ hP
  obtain ⟨hcalls, hrest, hpre⟩ := hP
  obtain ⟨-, -, -, hnamed, -, -, -, hat⟩ := (Spec.applies_iff hf).mp happ
  obtain ⟨hg, hn⟩ := and_e (Cond.before_iff.mp (show (Jvm.Cond.and given_1 narrow_1).before args s = true from hpre))
  obtain ⟨hcount, hq0⟩ := and_e hg
  obtain ⟨ha0, hq1⟩ := and_e hq0
  have ha1 := hq1
  obtain ⟨w0, w1, rfl⟩ : ∃ w0 w1 : Value, args = #[w0, w1] := by
    have hs : args.size = 2 := by simpa [Cond.value, given_1] using hcount
    obtain ⟨L⟩ := args
    match L, hs with
    | [w0, w1], _ => exact ⟨w0, w1, rfl⟩
  have hw := fun d (hd : d ∈ tables_1) => atoms_spec (ws := Jvm.Cond.code x code maxLocals ret :: tables_1) hat d (List.mem_cons_of_mem _ hd)
  have hfit : Fit s := fun {y c} hc i hi => by
    obtain ⟨ha, rfl⟩ := Array.getElem?_eq_some_iff.mp hc
    have q := List.all_eq_true.mp ((Array.all_eq_true_iff_forall_mem.mp hF) _ (Array.getElem_mem ha)) i (List.mem_range.mpr hi)
    simpa [Array.getElem?_eq_getElem hi] using q
  obtain ⟨i0, ei0⟩ := is_v ha0
  obtain rfl : w0 = (.int i0) := Option.some.inj ei0
  obtain ⟨i1, ei1⟩ := is_v ha1
  obtain rfl : w1 = (.int i1) := Option.some.inj ei1
  obtain ⟨c0, r0⟩ := and_e hn
  obtain ⟨c1, r1⟩ := and_e r0
  obtain ⟨c2, r2⟩ := and_e r1
  obtain ⟨c3, r3⟩ := and_e r2
  obtain ⟨c4, r4⟩ := and_e r3
  obtain ⟨c5, r5⟩ := and_e r4
  obtain ⟨c6, r6⟩ := and_e r5
  obtain ⟨c7, r7⟩ := and_e r6
  obtain ⟨c8, r8⟩ := and_e r7
  obtain ⟨c9, r9⟩ := and_e r8
  obtain ⟨c10, r10⟩ := and_e r9
  obtain ⟨c11, r11⟩ := and_e r10
  obtain ⟨c12, r12⟩ := and_e r11
  obtain ⟨c13, r13⟩ := and_e r12
  obtain ⟨c14, r14⟩ := and_e r13
  obtain ⟨c15, r15⟩ := and_e r14
  obtain ⟨c16, r16⟩ := and_e r15
  obtain ⟨c17, r17⟩ := and_e r16
  obtain ⟨c18, r18⟩ := and_e r17
  obtain ⟨c19, r19⟩ := and_e r18
  obtain ⟨c20, r20⟩ := and_e r19
  obtain ⟨c21, r21⟩ := and_e r20
  obtain ⟨c22, r22⟩ := and_e r21
  obtain ⟨c23, r23⟩ := and_e r22
  obtain ⟨c24, r24⟩ := and_e r23
  obtain ⟨c25, r25⟩ := and_e r24
  obtain ⟨c26, r26⟩ := and_e r25
  obtain ⟨c27, r27⟩ := and_e r26
  obtain ⟨c28, r28⟩ := and_e r27
  obtain ⟨c29, r29⟩ := and_e r28
  obtain ⟨c30, r30⟩ := and_e r29
  obtain ⟨c31, r31⟩ := and_e r30
  obtain ⟨c32, r32⟩ := and_e r31
  obtain ⟨c33, r33⟩ := and_e r32
  obtain ⟨c34, r34⟩ := and_e r33
  have c35 := r34
  obtain ⟨k_STMT, evk_STMT⟩ := exa_v c0
  have S_STMT := Sta.start evk_STMT (Or.inr ⟨(hw _ (List.mem_of_getElem? (i := 6) rfl)), (hw _ (List.mem_of_getElem? (i := 7) rfl))⟩)
  have E_STMT := Exa.start evk_STMT c0
  obtain ⟨k_CALL, evk_CALL⟩ := exa_v c1
  have S_CALL := Sta.start evk_CALL (Or.inr ⟨(hw _ (List.mem_of_getElem? (i := 6) rfl)), (hw _ (List.mem_of_getElem? (i := 9) rfl))⟩)
  have E_CALL := Exa.start evk_CALL c1
  obtain ⟨k_WHILE, evk_WHILE⟩ := exa_v c4
  have S_WHILE := Sta.start evk_WHILE (Or.inr ⟨(hw _ (List.mem_of_getElem? (i := 6) rfl)), (hw _ (List.mem_of_getElem? (i := 17) rfl))⟩)
  have E_WHILE := Exa.start evk_WHILE c4
  obtain ⟨k_READ, evk_READ⟩ := exa_v c5
  have S_READ := Sta.start evk_READ (Or.inr ⟨(hw _ (List.mem_of_getElem? (i := 6) rfl)), (hw _ (List.mem_of_getElem? (i := 19) rfl))⟩)
  have E_READ := Exa.start evk_READ c5
  obtain ⟨k_CONSTANT, evk_CONSTANT⟩ := exa_v c8
  have S_CONSTANT := Sta.start evk_CONSTANT (Or.inr ⟨(hw _ (List.mem_of_getElem? (i := 6) rfl)), (hw _ (List.mem_of_getElem? (i := 21) rfl))⟩)
  have E_CONSTANT := Exa.start evk_CONSTANT c8
  obtain ⟨k_ASSIGN, evk_ASSIGN⟩ := exa_v c10
  have S_ASSIGN := Sta.start evk_ASSIGN (Or.inr ⟨(hw _ (List.mem_of_getElem? (i := 6) rfl)), (hw _ (List.mem_of_getElem? (i := 23) rfl))⟩)
  have E_ASSIGN := Exa.start evk_ASSIGN c10
  obtain ⟨s_ASSIGN, evs_ASSIGN⟩ := exa_v c12
  obtain ⟨k_PROCEDURE, evk_PROCEDURE⟩ := exa_v c14
  have S_PROCEDURE := Sta.start evk_PROCEDURE (Or.inr ⟨(hw _ (List.mem_of_getElem? (i := 6) rfl)), (hw _ (List.mem_of_getElem? (i := 29) rfl))⟩)
  have E_PROCEDURE := Exa.start evk_PROCEDURE c14
  obtain ⟨k_VARIABLE, evk_VARIABLE⟩ := exa_v c16
  have S_VARIABLE := Sta.start evk_VARIABLE (Or.inr ⟨(hw _ (List.mem_of_getElem? (i := 6) rfl)), (hw _ (List.mem_of_getElem? (i := 31) rfl))⟩)
  have E_VARIABLE := Exa.start evk_VARIABLE c16
  obtain ⟨k_PRINT, evk_PRINT⟩ := exa_v c18
  have S_PRINT := Sta.start evk_PRINT (Or.inr ⟨(hw _ (List.mem_of_getElem? (i := 6) rfl)), (hw _ (List.mem_of_getElem? (i := 33) rfl))⟩)
  have E_PRINT := Exa.start evk_PRINT c18
  obtain ⟨k_IF, evk_IF⟩ := exa_v c19
  have S_IF := Sta.start evk_IF (Or.inr ⟨(hw _ (List.mem_of_getElem? (i := 6) rfl)), (hw _ (List.mem_of_getElem? (i := 35) rfl))⟩)
  have E_IF := Exa.start evk_IF c19
  obtain ⟨s_PRINT, evs_PRINT⟩ := exa_v c23
  obtain ⟨s_IF, evs_IF⟩ := exa_v c25
  obtain ⟨s_READ, evs_READ⟩ := exa_v c27
  obtain ⟨s_CALL, evs_CALL⟩ := exa_v c29
  obtain ⟨s_WHILE, evs_WHILE⟩ := exa_v c31
  have o_STMT := own_ord evk_STMT c2
  have o_CALL := own_ord evk_CALL c3
  have o_WHILE := own_ord evk_WHILE c6
  have o_READ := own_ord evk_READ c7
  have o_CONSTANT := own_ord evk_CONSTANT c9
  have o_ASSIGN := own_ord evk_ASSIGN c11
  have F_ASSIGN := Fld.start ((fld_at evk_ASSIGN).symm.trans (own_eqr evs_ASSIGN c13))
  have o_PROCEDURE := own_ord evk_PROCEDURE c15
  have o_VARIABLE := own_ord evk_VARIABLE c17
  have o_PRINT := own_ord evk_PRINT c20
  have o_IF := own_ord evk_IF c21
  have F_PROCEDURE := Fld.start ((fld_at evk_PROCEDURE).symm.trans (null_v c22))
  have F_PRINT := Fld.start ((fld_at evk_PRINT).symm.trans (own_eqr evs_PRINT c24))
  have F_IF := Fld.start ((fld_at evk_IF).symm.trans (own_eqr evs_IF c26))
  have F_READ := Fld.start ((fld_at evk_READ).symm.trans (own_eqr evs_READ c28))
  have F_CALL := Fld.start ((fld_at evk_CALL).symm.trans (own_eqr evs_CALL c30))
  have F_WHILE := Fld.start ((fld_at evk_WHILE).symm.trans (own_eqr evs_WHILE c32))
  have F_VARIABLE := Fld.start ((fld_at evk_VARIABLE).symm.trans (null_v c33))
  have F_CONSTANT := Fld.start ((fld_at evk_CONSTANT).symm.trans (null_v c34))
  have F_STMT := Fld.start ((fld_at evk_STMT).symm.trans (null_v c35))
  obtain ⟨i, hi⟩ := own_ten i0
  obtain ⟨j, hj⟩ := own_ten i1
  have ho : ∀ i, s.fieldOf? ((own_pick k_STMT k_READ k_PRINT k_CALL k_WHILE k_IF k_ASSIGN k_VARIABLE k_CONSTANT k_PROCEDURE) i) "java/lang/Enum" "ordinal" "I" = some (.int i.val.toInt32) := own_all o_STMT o_READ o_PRINT o_CALL o_WHILE o_IF o_ASSIGN o_VARIABLE o_CONSTANT o_PROCEDURE
  have hkk : ∀ i j, (own_pick k_STMT k_READ k_PRINT k_CALL k_WHILE k_IF k_ASSIGN k_VARIABLE k_CONSTANT k_PROCEDURE) i = (own_pick k_STMT k_READ k_PRINT k_CALL k_WHILE k_IF k_ASSIGN k_VARIABLE k_CONSTANT k_PROCEDURE) j → i = j := fun i j q => own_inj i j (Value.int.inj (Option.some.inj ((ho i).symm.trans (by rw [q]; exact ho j))))
  have hv : ∀ i, (own_pick Value.null (Value.ref s_READ) (Value.ref s_PRINT) (Value.ref s_CALL) (Value.ref s_WHILE) (Value.ref s_IF) (Value.ref s_ASSIGN) Value.null Value.null Value.null) i = .null ↔ ¬ (1 ≤ i.val ∧ i.val ≤ 6) := own_all ⟨fun _ => by decide, fun _ => rfl⟩ ⟨fun q => (nomatch q), fun q => absurd (by decide) q⟩ ⟨fun q => (nomatch q), fun q => absurd (by decide) q⟩ ⟨fun q => (nomatch q), fun q => absurd (by decide) q⟩ ⟨fun q => (nomatch q), fun q => absurd (by decide) q⟩ ⟨fun q => (nomatch q), fun q => absurd (by decide) q⟩ ⟨fun q => (nomatch q), fun q => absurd (by decide) q⟩ ⟨fun _ => by decide, fun _ => rfl⟩ ⟨fun _ => by decide, fun _ => rfl⟩ ⟨fun _ => by decide, fun _ => rfl⟩
  have hu : ∀ i, ((own_pick Value.null (Value.ref s_READ) (Value.ref s_PRINT) (Value.ref s_CALL) (Value.ref s_WHILE) (Value.ref s_IF) (Value.ref s_ASSIGN) Value.null Value.null Value.null) i).isRef = true := own_all rfl rfl rfl rfl rfl rfl rfl rfl rfl rfl
  have EE : ∀ i, Exa s s.heap ((own_pick k_STMT k_READ k_PRINT k_CALL k_WHILE k_IF k_ASSIGN k_VARIABLE k_CONSTANT k_PROCEDURE) i) "com/example/factwell/factwell/pkb/EntityKind" := own_all E_STMT E_READ E_PRINT E_CALL E_WHILE E_IF E_ASSIGN E_VARIABLE E_CONSTANT E_PROCEDURE
  have FF : ∀ i, Fld s s.heap ((own_pick k_STMT k_READ k_PRINT k_CALL k_WHILE k_IF k_ASSIGN k_VARIABLE k_CONSTANT k_PROCEDURE) i) "com/example/factwell/factwell/pkb/EntityKind" "statementKind" "Lcom/example/factwell/factwell/simple/StatementKind;" ((own_pick Value.null (Value.ref s_READ) (Value.ref s_PRINT) (Value.ref s_CALL) (Value.ref s_WHILE) (Value.ref s_IF) (Value.ref s_ASSIGN) Value.null Value.null Value.null) i) := own_all F_STMT F_READ F_PRINT F_CALL F_WHILE F_IF F_ASSIGN F_VARIABLE F_CONSTANT F_PROCEDURE
  obtain ⟨n, o, h1, h2, h3, _, L, rfl, ⟨rfl, N⟩, hq⟩ := own_law l s _ hw tables_1 i0 i1 i j (own_pick k_STMT k_READ k_PRINT k_CALL k_WHILE k_IF k_ASSIGN k_VARIABLE k_CONSTANT k_PROCEDURE) (own_pick Value.null (Value.ref s_READ) (Value.ref s_PRINT) (Value.ref s_CALL) (Value.ref s_WHILE) (Value.ref s_IF) (Value.ref s_ASSIGN) Value.null Value.null Value.null) s.heap s.heap.size (Nat.le_refl _) hi hj hkk hv hu S_STMT S_READ S_PRINT S_CALL S_WHILE S_IF S_ASSIGN S_VARIABLE S_CONSTANT S_PROCEDURE EE FF p e ha hc hk s m _ below hf ((Spec.applies_iff_loose hf).mp happ).1 ⟨rfl, State.Warmed39.refl s, rfl⟩ trivial
  refine ⟨n, _, h1, h2, h3, hpost _ _ _ _ _ _ ⟨Cond.after_iff.mpr rfl, Cond.after_iff.mpr (eq_i res_at (Term.int_eval (1)) rfl), trivial⟩ ⟨hq.1, hq.2.1, (hq.2.2.sift fun y hy => Or.inr (N y hy)).mono (by decide) (by decide)⟩⟩
theorem main_1_1 : Claimed_1_1 := comes_1 fun _ _ _ _ _ _ h hF => ⟨h.1, hF⟩
theorem main_1_2 : Claimed_1_2 := comes_1 fun _ _ _ _ _ _ h hF => ⟨h.2.1, hF⟩
end Jvm.Pilot.@@N@@
namespace Jvm.Pilot.@@N@@
open Jvm Jvm.ClassFile Sem Op Lib Jvm.Free Jvm.Stand Jvm.Pilot.@@N@@.Jvm.D
/-! MADE BY PROGRAM (witnessworld.py) out of the Statement's table words and the real class files: 11 classes; the members and pool entries that the words name. The judged class is class 1, her method 2. -/
namespace start1
open Jvm.ClassFile
def u (s : String) : CpInfo := .utf8 (stringToUtf16 s)
/-- a pool by its gaps: so many unusable entries, then the entry; so many at the end -/
def gap : Nat → List CpInfo → List CpInfo
  | 0, r => r
  | n + 1, r => .unusable :: gap n r
def poolList (es : List (Nat × CpInfo)) (last : Nat) : List CpInfo := es.foldr (fun e r => gap e.1 (e.2 :: r)) (gap last [])
def pool (es : List (Nat × CpInfo)) (last : Nat) : Array CpInfo := ⟨poolList es last⟩
def fileOf (pool : Array CpInfo) (this : Nat) (attrs : Array Attribute := #[]) (ms : Array MethodInfo := #[]) (fl : Nat := 33) (sup : Nat := 0) (ifs : Array Nat := #[]) (fds : Array FieldInfo := #[]) : ClassFile where
  minorVersion := 0
  majorVersion := 65
  constantPool := pool
  accessFlags := fl
  thisClass := this
  superClass := sup
  interfaces := ifs
  fields := fds
  methods := ms
  attributes := attrs
def plain (name : String) (sup : Option ClassId) : Class where
  name := name
  kind := .ordinary
  loader := none
  accessFlags := 33
  super := sup
  interfaces := #[]
  cf := none
  fields := #[]
  methods := #[]
  instanceTypes := #[]
  staticTypes := #[]
  resolved := #[]
  callSites := []
  init := .initialized
  statics := none
  mirror := none

def pool0 : Array CpInfo := pool [(5, u "<init>"), (0, u "()V"), (1, .class_ 10), (1, u "java/lang/Object")] 113

def k0m0 : Method := { name := "<init>", desc := "()V", sig := { parameters := [], returnType := none }, accessFlags := 1, code := none }
/-- java/lang/Object -/
def k0 : Class := { plain "java/lang/Object" none with
  accessFlags := 33
  interfaces := #[]
  cf := some (fileOf pool0 8 #[] #[{ accessFlags := 1, nameIndex := 5, descriptorIndex := 6, attributes := #[] }] 33 0 #[] #[])
  fields := #[]
  methods := #[k0m0]
  instanceTypes := #[]
  staticTypes := #[]
  resolved := Array.replicate 124 none
  statics := none }

def pool1 : Array CpInfo := pool [(2, .class_ 4), (1, u "java/lang/Object"), (0, u "<init>"), (0, u "()V"), (0, .fieldref 8 9), (0, .class_ 10), (0, .nameAndType 11 12), (0, u "com/example/factwell/factwell/pkb/EntityKind"), (0, u "STMT"), (0, u "Lcom/example/factwell/factwell/pkb/EntityKind;"), (0, .fieldref 8 14), (0, .nameAndType 15 12), (0, u "READ"), (0, .fieldref 8 17), (0, .nameAndType 18 12), (0, u "PRINT"), (0, .fieldref 8 20), (0, .nameAndType 21 12), (0, u "CALL"), (0, .fieldref 8 23), (0, .nameAndType 24 12), (0, u "WHILE"), (0, .fieldref 8 26), (0, .nameAndType 27 12), (0, u "IF"), (0, .fieldref 8 29), (0, .nameAndType 30 12), (0, u "ASSIGN"), (0, .fieldref 8 32), (0, .nameAndType 33 12), (0, u "VARIABLE"), (0, .fieldref 8 35), (0, .nameAndType 36 12), (0, u "CONSTANT"), (0, .fieldref 8 38), (0, .nameAndType 39 12), (0, u "PROCEDURE"), (0, .integer 2147483647), (0, .methodref 42 43), (0, .class_ 44), (0, .nameAndType 45 46), (0, u "com/example/factwell/factwell/pkb/EntityKindWithinPinLaw"), (0, u "kind"), (0, u "(I)Lcom/example/factwell/factwell/pkb/EntityKind;"), (0, .methodref 8 48), (0, .nameAndType 49 50), (0, u "within"), (0, u "(Lcom/example/factwell/factwell/pkb/EntityKind;)Z"), (3, u "law"), (0, u "(II)Z")] 2

def k1m0 : Method := { name := "<init>", desc := "()V", sig := { parameters := [], returnType := none }, accessFlags := 1, code := none }
def k1c1 : Code := { maxStack := 2, maxLocals := 1, code := method_2_code, exceptionTable := #[], attributes := #[] }
def k1m1 : Method := { name := "kind", desc := "(I)Lcom/example/factwell/factwell/pkb/EntityKind;", sig := { parameters := [.int], returnType := some (.object "com/example/factwell/factwell/pkb/EntityKind") }, accessFlags := 10, code := some k1c1 }
def k1c2 : Code := { maxStack := 2, maxLocals := 8, code := code, exceptionTable := #[], attributes := #[] }
def k1m2 : Method := { name := "law", desc := "(II)Z", sig := { parameters := [.int, .int], returnType := some .boolean }, accessFlags := 9, code := some k1c2 }
/-- com/example/factwell/factwell/pkb/EntityKindWithinPinLaw -/
def k1 : Class := { plain "com/example/factwell/factwell/pkb/EntityKindWithinPinLaw" (some 0) with
  accessFlags := 49
  interfaces := #[]
  cf := some (fileOf pool1 42 #[] #[{ accessFlags := 1, nameIndex := 5, descriptorIndex := 6, attributes := #[] }, { accessFlags := 10, nameIndex := 45, descriptorIndex := 46, attributes := #[] }, { accessFlags := 9, nameIndex := 54, descriptorIndex := 55, attributes := #[] }] 49 2 #[] #[])
  fields := #[]
  methods := #[k1m0, k1m1, k1m2]
  instanceTypes := #[]
  staticTypes := #[]
  resolved := Array.replicate 58 none
  statics := none }

def pool2 : Array CpInfo := pool [(1, .class_ 2), (0, u "java/lang/constant/Constable"), (0, .class_ 4), (0, u "java/lang/Object")] 6

/-- java/lang/constant/Constable -/
def k2 : Class := { plain "java/lang/constant/Constable" (some 0) with
  accessFlags := 1537
  interfaces := #[]
  cf := some (fileOf pool2 1 #[] #[] 1537 3 #[] #[])
  fields := #[]
  methods := #[]
  instanceTypes := #[]
  staticTypes := #[]
  resolved := Array.replicate 11 none
  statics := none }

def pool3 : Array CpInfo := pool [(1, .class_ 2), (0, u "java/lang/Comparable"), (0, .class_ 4), (0, u "java/lang/Object")] 7

/-- java/lang/Comparable -/
def k3 : Class := { plain "java/lang/Comparable" (some 0) with
  accessFlags := 1537
  interfaces := #[]
  cf := some (fileOf pool3 1 #[] #[] 1537 3 #[] #[])
  fields := #[]
  methods := #[]
  instanceTypes := #[]
  staticTypes := #[]
  resolved := Array.replicate 12 none
  statics := none }

def pool4 : Array CpInfo := pool [(1, .class_ 2), (0, u "java/io/Serializable"), (0, .class_ 4), (0, u "java/lang/Object")] 2

/-- java/io/Serializable -/
def k4 : Class := { plain "java/io/Serializable" (some 0) with
  accessFlags := 1537
  interfaces := #[]
  cf := some (fileOf pool4 1 #[] #[] 1537 3 #[] #[])
  fields := #[]
  methods := #[]
  instanceTypes := #[]
  staticTypes := #[]
  resolved := Array.replicate 7 none
  statics := none }

def pool5 : Array CpInfo := pool [(2, .class_ 4), (1, u "java/lang/Enum"), (0, u "name"), (0, u "Ljava/lang/String;"), (2, u "ordinal"), (0, u "I"), (1, .class_ 14), (1, u "java/lang/Object"), (4, u "hash"), (86, .class_ 108), (1, u "java/lang/Enum$EnumDesc"), (2, .class_ 112), (0, u "java/lang/constant/Constable"), (0, .class_ 114), (0, u "java/lang/Comparable"), (0, .class_ 116), (0, u "java/io/Serializable")] 87

/-- java/lang/Enum -/
def k5 : Class := { plain "java/lang/Enum" (some 0) with
  accessFlags := 1057
  interfaces := #[2, 3, 4]
  cf := some (fileOf pool5 2 #[.nestMembers #[106]] #[] 1057 12 #[111, 113, 115] #[{ accessFlags := 18, nameIndex := 5, descriptorIndex := 6, attributes := #[] }, { accessFlags := 18, nameIndex := 9, descriptorIndex := 10, attributes := #[] }, { accessFlags := 2, nameIndex := 19, descriptorIndex := 10, attributes := #[] }])
  fields := #[{ name := "name", type := (.object "java/lang/String"), accessFlags := 18, slot := 0, constantValue := 0 }, { name := "ordinal", type := .int, accessFlags := 18, slot := 1, constantValue := 0 }, { name := "hash", type := .int, accessFlags := 2, slot := 2, constantValue := 0 }]
  methods := #[]
  instanceTypes := #[(.object "java/lang/String"), .int, .int]
  staticTypes := #[]
  resolved := Array.replicate 204 none
  statics := none }

def pool6 : Array CpInfo := pool [(1, .class_ 2), (0, u "com/example/factwell/factwell/pkb/EntityKind"), (0, .fieldref 1 4), (0, .nameAndType 5 6), (0, u "STMT"), (0, u "Lcom/example/factwell/factwell/pkb/EntityKind;"), (2, u "READ"), (2, u "PRINT"), (2, u "CALL"), (2, u "WHILE"), (2, u "IF"), (2, u "ASSIGN"), (2, u "VARIABLE"), (2, u "CONSTANT"), (2, u "PROCEDURE"), (2, u "$VALUES"), (0, u "[Lcom/example/factwell/factwell/pkb/EntityKind;"), (6, .class_ 46), (1, u "java/lang/Enum"), (8, u "keyword"), (0, u "Ljava/lang/String;"), (0, .fieldref 1 58), (0, .nameAndType 59 60), (0, u "statementKind"), (0, u "Lcom/example/factwell/factwell/simple/StatementKind;"), (81, u "within"), (0, u "(Lcom/example/factwell/factwell/pkb/EntityKind;)Z")] 6

def k6c0 : Code := { maxStack := 2, maxLocals := 2, code := prog_16_method_6_code, exceptionTable := #[], attributes := #[] }
def k6m0 : Method := { name := "within", desc := "(Lcom/example/factwell/factwell/pkb/EntityKind;)Z", sig := { parameters := [(.object "com/example/factwell/factwell/pkb/EntityKind")], returnType := some .boolean }, accessFlags := 1, code := some k6c0 }
/-- com/example/factwell/factwell/pkb/EntityKind -/
def k6 : Class := { plain "com/example/factwell/factwell/pkb/EntityKind" (some 5) with
  accessFlags := 16433
  interfaces := #[]
  cf := some (fileOf pool6 1 #[] #[{ accessFlags := 1, nameIndex := 142, descriptorIndex := 143, attributes := #[] }] 16433 44 #[] #[{ accessFlags := 16409, nameIndex := 5, descriptorIndex := 6, attributes := #[] }, { accessFlags := 16409, nameIndex := 9, descriptorIndex := 6, attributes := #[] }, { accessFlags := 16409, nameIndex := 12, descriptorIndex := 6, attributes := #[] }, { accessFlags := 16409, nameIndex := 15, descriptorIndex := 6, attributes := #[] }, { accessFlags := 16409, nameIndex := 18, descriptorIndex := 6, attributes := #[] }, { accessFlags := 16409, nameIndex := 21, descriptorIndex := 6, attributes := #[] }, { accessFlags := 16409, nameIndex := 24, descriptorIndex := 6, attributes := #[] }, { accessFlags := 16409, nameIndex := 27, descriptorIndex := 6, attributes := #[] }, { accessFlags := 16409, nameIndex := 30, descriptorIndex := 6, attributes := #[] }, { accessFlags := 16409, nameIndex := 33, descriptorIndex := 6, attributes := #[] }, { accessFlags := 18, nameIndex := 55, descriptorIndex := 56, attributes := #[] }, { accessFlags := 18, nameIndex := 59, descriptorIndex := 60, attributes := #[] }, { accessFlags := 4122, nameIndex := 36, descriptorIndex := 37, attributes := #[] }])
  fields := #[{ name := "STMT", type := (.object "com/example/factwell/factwell/pkb/EntityKind"), accessFlags := 16409, slot := 0, constantValue := 0 }, { name := "READ", type := (.object "com/example/factwell/factwell/pkb/EntityKind"), accessFlags := 16409, slot := 1, constantValue := 0 }, { name := "PRINT", type := (.object "com/example/factwell/factwell/pkb/EntityKind"), accessFlags := 16409, slot := 2, constantValue := 0 }, { name := "CALL", type := (.object "com/example/factwell/factwell/pkb/EntityKind"), accessFlags := 16409, slot := 3, constantValue := 0 }, { name := "WHILE", type := (.object "com/example/factwell/factwell/pkb/EntityKind"), accessFlags := 16409, slot := 4, constantValue := 0 }, { name := "IF", type := (.object "com/example/factwell/factwell/pkb/EntityKind"), accessFlags := 16409, slot := 5, constantValue := 0 }, { name := "ASSIGN", type := (.object "com/example/factwell/factwell/pkb/EntityKind"), accessFlags := 16409, slot := 6, constantValue := 0 }, { name := "VARIABLE", type := (.object "com/example/factwell/factwell/pkb/EntityKind"), accessFlags := 16409, slot := 7, constantValue := 0 }, { name := "CONSTANT", type := (.object "com/example/factwell/factwell/pkb/EntityKind"), accessFlags := 16409, slot := 8, constantValue := 0 }, { name := "PROCEDURE", type := (.object "com/example/factwell/factwell/pkb/EntityKind"), accessFlags := 16409, slot := 9, constantValue := 0 }, { name := "keyword", type := (.object "java/lang/String"), accessFlags := 18, slot := 3, constantValue := 0 }, { name := "statementKind", type := (.object "com/example/factwell/factwell/simple/StatementKind"), accessFlags := 18, slot := 4, constantValue := 0 }, { name := "$VALUES", type := (.array (.object "com/example/factwell/factwell/pkb/EntityKind")), accessFlags := 4122, slot := 10, constantValue := 0 }]
  methods := #[k6m0]
  instanceTypes := #[(.object "java/lang/String"), .int, .int, (.object "java/lang/String"), (.object "com/example/factwell/factwell/simple/StatementKind")]
  staticTypes := #[(.object "com/example/factwell/factwell/pkb/EntityKind"), (.object "com/example/factwell/factwell/pkb/EntityKind"), (.object "com/example/factwell/factwell/pkb/EntityKind"), (.object "com/example/factwell/factwell/pkb/EntityKind"), (.object "com/example/factwell/factwell/pkb/EntityKind"), (.object "com/example/factwell/factwell/pkb/EntityKind"), (.object "com/example/factwell/factwell/pkb/EntityKind"), (.object "com/example/factwell/factwell/pkb/EntityKind"), (.object "com/example/factwell/factwell/pkb/EntityKind"), (.object "com/example/factwell/factwell/pkb/EntityKind"), (.array (.object "com/example/factwell/factwell/pkb/EntityKind"))]
  resolved := Array.replicate 150 none
  statics := some 0 }

def pool7 : Array CpInfo := pool [(1, .class_ 2), (0, u "com/example/factwell/factwell/simple/StatementKind"), (2, u "READ"), (0, u "Lcom/example/factwell/factwell/simple/StatementKind;"), (2, u "PRINT"), (2, u "CALL"), (2, u "WHILE"), (2, u "IF"), (2, u "ASSIGN"), (2, u "$VALUES"), (0, u "[Lcom/example/factwell/factwell/simple/StatementKind;"), (6, .class_ 34), (1, u "java/lang/Enum")] 28

/-- com/example/factwell/factwell/simple/StatementKind -/
def k7 : Class := { plain "com/example/factwell/factwell/simple/StatementKind" (some 5) with
  accessFlags := 16433
  interfaces := #[]
  cf := some (fileOf pool7 1 #[] #[] 16433 32 #[] #[{ accessFlags := 16409, nameIndex := 5, descriptorIndex := 6, attributes := #[] }, { accessFlags := 16409, nameIndex := 9, descriptorIndex := 6, attributes := #[] }, { accessFlags := 16409, nameIndex := 12, descriptorIndex := 6, attributes := #[] }, { accessFlags := 16409, nameIndex := 15, descriptorIndex := 6, attributes := #[] }, { accessFlags := 16409, nameIndex := 18, descriptorIndex := 6, attributes := #[] }, { accessFlags := 16409, nameIndex := 21, descriptorIndex := 6, attributes := #[] }, { accessFlags := 4122, nameIndex := 24, descriptorIndex := 25, attributes := #[] }])
  fields := #[{ name := "READ", type := (.object "com/example/factwell/factwell/simple/StatementKind"), accessFlags := 16409, slot := 0, constantValue := 0 }, { name := "PRINT", type := (.object "com/example/factwell/factwell/simple/StatementKind"), accessFlags := 16409, slot := 1, constantValue := 0 }, { name := "CALL", type := (.object "com/example/factwell/factwell/simple/StatementKind"), accessFlags := 16409, slot := 2, constantValue := 0 }, { name := "WHILE", type := (.object "com/example/factwell/factwell/simple/StatementKind"), accessFlags := 16409, slot := 3, constantValue := 0 }, { name := "IF", type := (.object "com/example/factwell/factwell/simple/StatementKind"), accessFlags := 16409, slot := 4, constantValue := 0 }, { name := "ASSIGN", type := (.object "com/example/factwell/factwell/simple/StatementKind"), accessFlags := 16409, slot := 5, constantValue := 0 }, { name := "$VALUES", type := (.array (.object "com/example/factwell/factwell/simple/StatementKind")), accessFlags := 4122, slot := 6, constantValue := 0 }]
  methods := #[]
  instanceTypes := #[(.object "java/lang/String"), .int, .int]
  staticTypes := #[(.object "com/example/factwell/factwell/simple/StatementKind"), (.object "com/example/factwell/factwell/simple/StatementKind"), (.object "com/example/factwell/factwell/simple/StatementKind"), (.object "com/example/factwell/factwell/simple/StatementKind"), (.object "com/example/factwell/factwell/simple/StatementKind"), (.object "com/example/factwell/factwell/simple/StatementKind"), (.array (.object "com/example/factwell/factwell/simple/StatementKind"))]
  resolved := Array.replicate 63 none
  statics := some 1 }

def pool8 : Array CpInfo := pool [(1, u "java/lang/Cloneable"), (0, .class_ 1), (0, u "java/lang/Object"), (0, .class_ 3)] 3

/-- java/lang/Cloneable -/
def k8 : Class := { plain "java/lang/Cloneable" (some 0) with
  accessFlags := 1537
  interfaces := #[]
  cf := some (fileOf pool8 2 #[] #[] 1537 4 #[] #[])
  fields := #[]
  methods := #[]
  instanceTypes := #[]
  staticTypes := #[]
  resolved := Array.replicate 8 none
  statics := none }

/-- the primitive byte -/
def k9 : Class := { plain "byte" none with kind := .primitive 'B', accessFlags := 0x411 }
/-- [B -/
def k10 : Class := { plain "[B" (some 0) with kind := .array 9 .byte, interfaces := #[8, 4], accessFlags := 1041 }

def heap : Heap := #[{ cls := 6, slots := #[.ref 2, .ref 3, .ref 4, .ref 5, .ref 6, .ref 7, .ref 8, .ref 9, .ref 10, .ref 11, .null], vm := .statics 6 },
  { cls := 7, slots := #[.ref 12, .ref 13, .ref 14, .ref 15, .ref 16, .ref 17, .null], vm := .statics 7 },
  { cls := 6, slots := #[.null, .int 0, .int 0, .null, .null], vm := .none },
  { cls := 6, slots := #[.null, .int 1, .int 0, .null, .ref 12], vm := .none },
  { cls := 6, slots := #[.null, .int 2, .int 0, .null, .ref 13], vm := .none },
  { cls := 6, slots := #[.null, .int 3, .int 0, .null, .ref 14], vm := .none },
  { cls := 6, slots := #[.null, .int 4, .int 0, .null, .ref 15], vm := .none },
  { cls := 6, slots := #[.null, .int 5, .int 0, .null, .ref 16], vm := .none },
  { cls := 6, slots := #[.null, .int 6, .int 0, .null, .ref 17], vm := .none },
  { cls := 6, slots := #[.null, .int 7, .int 0, .null, .null], vm := .none },
  { cls := 6, slots := #[.null, .int 8, .int 0, .null, .null], vm := .none },
  { cls := 6, slots := #[.null, .int 9, .int 0, .null, .null], vm := .none },
  { cls := 7, slots := #[.null, .int 0, .int 0], vm := .none },
  { cls := 7, slots := #[.null, .int 1, .int 0], vm := .none },
  { cls := 7, slots := #[.null, .int 2, .int 0], vm := .none },
  { cls := 7, slots := #[.null, .int 3, .int 0], vm := .none },
  { cls := 7, slots := #[.null, .int 4, .int 0], vm := .none },
  { cls := 7, slots := #[.null, .int 5, .int 0], vm := .none }]
def classes : Array Class := #[k0, k1, k2, k3, k4, k5, k6, k7, k8, k9, k10]
def interned : List (Array UInt16 × Addr) := []
def slotsUsed : Nat := 86
def theMethod : MethodId := ⟨1, 2⟩
def args0 : Array Value := #[.int 5, .int 3]
def aboutOver (below : List Frame) : State where
  vm := { classes := classes, interned := interned.toArray }
  heap := heap
  slotsUsed := slotsUsed
  threads := #[{ frames := .invoking theMethod args0 :: below }]
def below0 : List Frame := [.native { method := ⟨0, 0⟩, args := #[] }]
def about1 : State := aboutOver below0
def p0 : Program := .bare "" "" ""
def e0 : Env := launch0.env 0 0 0
theorem w_frames : about1.frames = Frame.invoking theMethod args0 :: below0 := rfl
set_option maxRecDepth 65536 in
theorem w_args : argsFit about1.vm theMethod args0 = true := by decide +kernel
set_option maxRecDepth 65536 in
theorem w_heap : heapFits about1 = true := by decide +kernel
set_option maxRecDepth 65536 in
theorem w_runnable : about1.curStatus? = some .runnable := by decide +kernel
set_option maxRecDepth 65536 in
theorem w_alone : about1.alone = true := by decide +kernel
set_option maxRecDepth 65536 in
theorem w_named : about1.methodNamed? x = some theMethod := by decide +kernel
set_option maxRecDepth 65536 in
theorem w_hears : about1.hears theMethod below0 = true := by decide +kernel
set_option maxRecDepth 65536 in
theorem w_ripe : about1.ripe theMethod args0 below0 = true := by decide +kernel
theorem w_running : about1.status = .running := rfl
set_option maxRecDepth 65536 in
theorem w_room : about1.hasRoom e0.platform room_1 = true :=
  launch0.hasRoom_least _ room_1 (by decide +kernel) (by decide +kernel) (by decide +kernel) (by decide +kernel) (by decide +kernel) (by decide +kernel)
theorem allAtoms_all (ts : List Jvm.Cond) (a : Array Jvm.Value) (st : Jvm.State) : (allAtoms ts).before a st = ts.all (fun c => c.before a st) := by
  induction ts with
  | nil => rfl
  | cons c t ih =>
    show (Jvm.Cond.and c (allAtoms t)).before a st = _
    rw [Jvm.Cond.before_and, ih, List.all_cons]
def words1 : List Jvm.Cond := Jvm.Cond.code x code maxLocals ret :: tables_1
/-- a 'code' word, met by the world's own term for the bytes: nothing is compared byte by byte -/
theorem code_word {y : MethodName} {bytes : ByteArray} {mx : Nat} {rt : Option FieldType} {a : Array Value} {s : State} {m : MethodId} {meth : Method} {c : Code} (h1 : s.methodNamed? y = some m) (h2 : s.vm.method? m = some meth) (h3 : meth.code = some c) (h4 : c.code = bytes)
    (h5 : (c.maxLocals == mx && c.exceptionTable.isEmpty && decide (c.maxStack ≤ mostOperands) && decide (meth.sig.returnType = rt) && !meth.locks && decide (parseMethodDescriptor y.desc = some meth.sig)) = true) : (Jvm.Cond.code y bytes mx rt).before a s = true := by
  simp only [Bool.and_eq_true, beq_iff_eq, Bool.not_eq_true', decide_eq_true_eq] at h5
  obtain ⟨⟨⟨⟨⟨g1, g2⟩, g3⟩, g4⟩, g5⟩, g6⟩ := h5
  simp [Cond.before, Cond.holds, Cond.value, h1, h2, h3, h4, g1, g2, g3, g4, g5, g6]
def isCode : Jvm.Cond → Bool
  | .code _ _ _ _ => true
  | _ => false
theorem all_split {L : List Jvm.Cond} {P : Jvm.Cond → Bool} (h1 : L.all (fun c => isCode c || P c) = true) (h2 : ∀ c ∈ L.filter isCode, P c = true) : L.all P = true := by
  refine List.all_eq_true.mpr fun c hc => ?_
  have h := List.all_eq_true.mp h1 c hc
  rcases Bool.eq_false_or_eq_true (isCode c) with hi | hi
  · exact h2 c (List.mem_filter.mpr ⟨hc, hi⟩)
  · simpa [hi] using h
set_option maxRecDepth 65536 in
theorem w_c0 : (Jvm.Cond.code x code maxLocals ret).before args0 about1 = true := code_word (m := ⟨1, 2⟩) (meth := k1m2) (c := k1c2) (by decide +kernel) rfl rfl rfl (by decide +kernel)
set_option maxRecDepth 65536 in
theorem w_c1 : (Jvm.Cond.code ({ cls := "com/example/factwell/factwell/pkb/EntityKindWithinPinLaw", name := "kind", desc := "(I)Lcom/example/factwell/factwell/pkb/EntityKind;" } : Jvm.MethodName) method_2_code (1 : Nat) (Option.some (Jvm.ClassFile.FieldType.object "com/example/factwell/factwell/pkb/EntityKind"))).before args0 about1 = true := code_word (m := ⟨1, 1⟩) (meth := k1m1) (c := k1c1) (by decide +kernel) rfl rfl rfl (by decide +kernel)
set_option maxRecDepth 65536 in
theorem w_c2 : (Jvm.Cond.code ({ cls := "com/example/factwell/factwell/pkb/EntityKind", name := "within", desc := "(Lcom/example/factwell/factwell/pkb/EntityKind;)Z" } : Jvm.MethodName) prog_16_method_6_code (2 : Nat) (Option.some Jvm.ClassFile.FieldType.boolean)).before args0 about1 = true := code_word (m := ⟨6, 0⟩) (meth := k6m0) (c := k6c0) (by decide +kernel) rfl rfl rfl (by decide +kernel)
def codes1 : List Jvm.Cond := [Jvm.Cond.code x code maxLocals ret, Jvm.Cond.code ({ cls := "com/example/factwell/factwell/pkb/EntityKindWithinPinLaw", name := "kind", desc := "(I)Lcom/example/factwell/factwell/pkb/EntityKind;" } : Jvm.MethodName) method_2_code (1 : Nat) (Option.some (Jvm.ClassFile.FieldType.object "com/example/factwell/factwell/pkb/EntityKind")), Jvm.Cond.code ({ cls := "com/example/factwell/factwell/pkb/EntityKind", name := "within", desc := "(Lcom/example/factwell/factwell/pkb/EntityKind;)Z" } : Jvm.MethodName) prog_16_method_6_code (2 : Nat) (Option.some Jvm.ClassFile.FieldType.boolean)]
set_option maxRecDepth 65536 in
theorem codes_eq : words1.filter isCode = codes1 := rfl
theorem w_codes : ∀ c ∈ words1.filter isCode, c.before args0 about1 = true := by
  rw [codes_eq]
  intro c hc
  simp only [codes1, List.mem_cons, List.not_mem_nil, or_false] at hc
  rcases hc with rfl | rfl | rfl
  · exact w_c0
  · exact w_c1
  · exact w_c2
set_option maxRecDepth 65536 in
theorem w_t1 : (words1.take 24).all (fun c => isCode c || c.before args0 about1) = true := by decide +kernel
set_option maxRecDepth 65536 in
theorem w_t2 : (words1.drop 24).all (fun c => isCode c || c.before args0 about1) = true := by decide +kernel
theorem w_tables : (allAtoms (Jvm.Cond.code x code maxLocals ret :: tables_1)).before args0 about1 = true := by
  rw [allAtoms_all]
  show words1.all (fun c => c.before args0 about1) = true
  refine all_split ?_ w_codes
  rw [← List.take_append_drop 24 words1, List.all_append, w_t1, w_t2]
  rfl
set_option maxRecDepth 65536 in
theorem w_case : (Jvm.Cond.and given_1 narrow_1).before args0 about1 = true := by decide +kernel
theorem w_applies : (headSpec (Jvm.Cond.code x code maxLocals ret :: tables_1) room_1).applies x e0.platform about1 = true :=
  (Spec.applies_iff w_frames).mpr ⟨w_running, w_runnable, w_alone, w_named, w_hears, w_ripe, w_room, w_tables⟩
theorem atStart : AtStart classFile x code maxLocals ret World_1 tables_1 room_1 Calls_1 rest_1 Pre_1 launch0 p0 e0 about1 theMethod args0 below0 :=
  ⟨lists_1, trivial, launch0.admits_env _ _ _, launch0.least_env, fairChoices_fair.cas, fairChoices_fair.clock, w_frames, w_args, w_heap, w_applies, trivial, trivial, w_case⟩
end start1
theorem witness_1 : WitnessClaimed_1 := ⟨start1.p0, start1.e0, start1.about1, start1.theMethod, start1.args0, start1.below0, start1.atStart⟩
end Jvm.Pilot.@@N@@
