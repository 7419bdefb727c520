import JvmDerived
import JvmDerived.Pilot.@@N@@Statement
import JvmDerived.Pilot.@@N@@Code
set_option linter.unusedVariables false
set_option linter.unusedSimpArgs false
namespace Jvm.RoadKit
open Sem ClassFile Op Lib Jvm.Stand Jvm.Free Jvm.LawKit
section New
variable {p : Program} {l : Launch} {e : Env} {R : Room} {s : State} {m : MethodId} {args : Array Value} {below : List Frame} {meth : Method} {c : Code} {T : State} {locs : List Loc} {cells slots : Nat}
theorem retI (X : Stand p l e R s m args below meth c T locs cells slots) (hx : p.tables.exec = Jvm.exec) {pc : Nat} {Ls : Array Slot} {z : Int32} {rest : List Value} (hret : meth.sig.returnType = some .int) (hd : decode c.code pc = .ok (.ireturn, 1)) {fs : List Frame}
    (hl : ∀ (f : JFrame) (acts : List Action), f.method = m → f.locked = none → f.entered = [] → (doReturn e (T.setTop f) acts (some (.int z))).1 = T.setFrames fs) : Steps p.tables e below (T.setTop (mkF m pc Ls (.int z :: rest))) (T.setFrames fs) := by
  have hm' : T.vm.method? m = some meth := X.method'
  have hn : narrow .int (.int z) = .int z := rfl
  show Steps p.tables e below (T.setTop { method := m, pc := pc, locals := Ls, stack := _ :: rest, locked := none }) _
  jvm_step X.here [X.here.top, hx, hd, hm', hret, hn]
  first | (intro acts; rw [hl _ acts rfl rfl rfl]) | rw [hl _ _ rfl rfl rfl]
  exact Steps.refl _
end New
end Jvm.RoadKit
namespace Jvm.Pilot.@@N@@
open Jvm Jvm.ClassFile Sem Op Lib Jvm.Free Jvm.Stand Jvm.LawKit Jvm.RoadKit Bundle Jvm.Pilot.@@N@@.Jvm.D
theorem own_dloadN {tb : Tables} [Ours tb] {e : Env} {below : List Frame} {T target : State} {m : MethodId} {c : Code} {g : JFrame} (h : At T m c below) (hx : tb.exec = Jvm.exec) (hg : g.method = m) {k : Fin 4} {v : UInt64} (hd : decode c.code g.pc = .ok (.dload_n k, 1)) (hl : g.locals[k.val]? = some (.val (.double v)))
    (hr : Steps tb e below (T.setTop { g with pc := g.pc + 1, stack := .double v :: g.stack }) target) : Steps tb e below (T.setTop g) target := by
  subst hg
  jvm_step h [h.top, hx, hd, hl]
  exact hr
theorem own_dload {tb : Tables} [Ours tb] {e : Env} {below : List Frame} {T target : State} {m : MethodId} {c : Code} {g : JFrame} (h : At T m c below) (hx : tb.exec = Jvm.exec) (hg : g.method = m) {k : Nat} {v : UInt64} (hd : decode c.code g.pc = .ok (.dload k, 2)) (hl : g.locals[k]? = some (.val (.double v)))
    (hr : Steps tb e below (T.setTop { g with pc := g.pc + 2, stack := .double v :: g.stack }) target) : Steps tb e below (T.setTop g) target := by
  subst hg
  jvm_step h [h.top, hx, hd, hl]
  exact hr
theorem own_i2d {tb : Tables} [Ours tb] {e : Env} {below : List Frame} {T target : State} {m : MethodId} {c : Code} {g : JFrame} (h : At T m c below) (hx : tb.exec = Jvm.exec) (hg : g.method = m) {x : Int32} {rest : List Value} (hd : decode c.code g.pc = .ok (.i2d, 1)) (hs : g.stack = .int x :: rest)
    (hr : Steps tb e below (T.setTop { g with pc := g.pc + 1, stack := .double (FP.i2d x) :: rest }) target) : Steps tb e below (T.setTop g) target := by
  subst hg
  jvm_step h [h.top, hx, hd, hs]
  exact hr
theorem own_dcmp {tb : Tables} [Ours tb] {e : Env} {below : List Frame} {T target : State} {m : MethodId} {c : Code} {g : JFrame} (h : At T m c below) (hx : tb.exec = Jvm.exec) (hg : g.method = m) {op : CmpOp} {x y : UInt64} {rest : List Value} (hd : decode c.code g.pc = .ok (.dcmp op, 1)) (hs : g.stack = .double y :: .double x :: rest)
    (hr : Steps tb e below (T.setTop { g with pc := g.pc + 1, stack := .int (cmpValue (FP.dcmp x y) op) :: rest }) target) : Steps tb e below (T.setTop g) target := by
  subst hg
  jvm_step h [h.top, hx, hd, hs]
  exact hr
theorem own_fp_int (a : Int32) : ∃ k : Nat, FP.Core.decode FP.Core.b64 (FP.i2d a).toNat = .fin (decide (a.toInt < 0)) (a.toInt.natAbs * 2 ^ k) (-(k : Int)) := by
  have hfit := FP.Core.round_fits FP.Core.good_b64 (FP.Core.ofInt a.toInt)
  have hlt := FP.Core.encode_lt FP.Core.good_b64 _ hfit
  rw [FP.Core.size_b64] at hlt
  have e1 : (FP.i2d a).toNat = FP.Core.encode FP.Core.b64 (FP.Core.round FP.Core.b64 (FP.Core.ofInt a.toInt)) := by
    show (UInt64.ofNat _).toNat = _
    rw [UInt64.toNat_ofNat']
    exact Nat.mod_eq_of_lt hlt
  rw [e1, FP.Core.decode_encode FP.Core.good_b64 _ hfit]
  have hr := rng32 a
  show ∃ k : Nat, FP.Core.roundRatio FP.Core.b64 (decide (a.toInt < 0)) a.toInt.natAbs 1 0 = _
  generalize decide (a.toInt < 0) = sg
  have hb : a.toInt.natAbs < 2 ^ 32 := by omega
  generalize a.toInt.natAbs = A at *
  by_cases h0 : A = 0
  · refine ⟨1074, ?_⟩
    refine FP.Core.roundRatio_exact FP.Core.good_b64 (by decide) ?_ ?_
    · rw [h0, Nat.zero_mul]
      exact ⟨by decide, by decide, by decide, Or.inl (by decide)⟩
    · rw [h0]; simp
  · have hl1 : 2 ^ A.log2 ≤ A := Nat.log2_self_le h0
    have hl2 : A < 2 ^ (A.log2 + 1) := Nat.lt_log2_self
    have hl3 : A.log2 < 32 := (Nat.log2_lt h0).mpr hb
    generalize A.log2 = g at *
    refine ⟨52 - g, ?_⟩
    have hp : 0 < 2 ^ (52 - g) := Nat.two_pow_pos _
    refine FP.Core.roundRatio_exact FP.Core.good_b64 (by decide) ⟨?_, ?_, ?_, Or.inr ?_⟩ ?_
    · show A * 2 ^ (52 - g) < 2 ^ 53
      have q : 2 ^ (g + 1) * 2 ^ (52 - g) = 2 ^ 53 := by rw [← Nat.pow_add]; congr 1; omega
      rw [← q]
      exact Nat.mul_lt_mul_of_pos_right hl2 hp
    · show (2 : Int) - ((1023 : Nat) : Int) - ((53 : Nat) : Int) ≤ -((52 - g : Nat) : Int); omega
    · show -((52 - g : Nat) : Int) ≤ ((1023 : Nat) : Int) - ((53 : Nat) : Int) + 1; omega
    · show 2 ^ 52 ≤ A * 2 ^ (52 - g)
      have q : 2 ^ g * 2 ^ (52 - g) = 2 ^ 52 := by rw [← Nat.pow_add]; congr 1; omega
      rw [← q]
      exact Nat.mul_le_mul_right _ hl1
    · have q1 : ((0 : Int) - -((52 - g : Nat) : Int)).toNat = 52 - g := by omega
      have q2 : (-((52 - g : Nat) : Int) - 0).toNat = 0 := by omega
      rw [q1, q2, Nat.pow_zero, Nat.mul_one, Nat.mul_one]
theorem own_sg (x : Int) (k K : Nat) (hk : k ≤ K) : FP.Core.signed (decide (x < 0)) (FP.Core.inUnits (x.natAbs * 2 ^ k) (-(k : Int)) (-(K : Int))) = x * 2 ^ K := by
  have e : (-(k : Int) - -(K : Int)).toNat = K - k := by omega
  have e2 : FP.Core.inUnits (x.natAbs * 2 ^ k) (-(k : Int)) (-(K : Int)) = x.natAbs * 2 ^ K := by
    show x.natAbs * 2 ^ k * 2 ^ (-(k : Int) - -(K : Int)).toNat = _
    rw [e, Nat.mul_assoc, ← Nat.pow_add, Nat.add_sub_cancel' hk]
  rw [e2]
  show (if decide (x < 0) = true then -((x.natAbs * 2 ^ K : Nat) : Int) else ((x.natAbs * 2 ^ K : Nat) : Int)) = _
  have c : ((x.natAbs * 2 ^ K : Nat) : Int) = (x.natAbs : Int) * 2 ^ K := by simp
  rw [c]
  by_cases hx : x < 0
  · rw [if_pos (decide_eq_true hx), show (x.natAbs : Int) = -x by omega, Int.neg_mul, Int.neg_neg]
  · rw [if_neg (by simp [hx]), show (x.natAbs : Int) = x by omega]
theorem own_dc (i j : Int32) : FP.dcmp (FP.i2d i) (FP.i2d j) = some (compare i.toInt j.toInt) := by
  obtain ⟨k1, e1⟩ := own_fp_int i
  obtain ⟨k2, e2⟩ := own_fp_int j
  show FP.Core.order (FP.Core.decode FP.Core.b64 (FP.i2d i).toNat) (FP.Core.decode FP.Core.b64 (FP.i2d j).toNat) = _
  rw [e1, e2]
  show some (compare (FP.Core.signed _ (FP.Core.inUnits _ _ (min (-(k1 : Int)) (-(k2 : Int))))) (FP.Core.signed _ (FP.Core.inUnits _ _ (min (-(k1 : Int)) (-(k2 : Int)))))) = _
  have hm : min (-(k1 : Int)) (-(k2 : Int)) = -((max k1 k2 : Nat) : Int) := by omega
  rw [hm, own_sg _ _ _ (Nat.le_max_left k1 k2), own_sg _ _ _ (Nat.le_max_right k1 k2)]
  congr 1
  have hp : (0 : Int) < 2 ^ (max k1 k2) := Int.pow_pos (by decide)
  rcases Int.lt_trichotomy i.toInt j.toInt with q | q | q
  · rw [Int.compare_eq_lt.mpr q, Int.compare_eq_lt.mpr (Int.mul_lt_mul_of_pos_right q hp)]
  · rw [q]; rw [Int.compare_eq_eq.mpr rfl, Int.compare_eq_eq.mpr rfl]
  · rw [Int.compare_eq_gt.mpr q, Int.compare_eq_gt.mpr (Int.mul_lt_mul_of_pos_right q hp)]

theorem pd_0 : parseMethodDescriptor "()V" = some ⟨[], none⟩ := by decide +kernel
theorem pd_1 : parseMethodDescriptor "(II)I" = some ⟨[.int, .int], some .int⟩ := by decide +kernel
theorem pd_2 : parseMethodDescriptor "(DD)V" = some ⟨[.double, .double], none⟩ := by decide +kernel
theorem pd_3 : parseMethodDescriptor "(Lcom/example/knitwork/knitwork/Bounds;)Z" = some ⟨[(.object "com/example/knitwork/knitwork/Bounds")], some .boolean⟩ := by decide +kernel
theorem d1_0 : decode jdk_29_method_69_code 0 = .ok (.iload_n 0, 1) := by decide +kernel
theorem d1_1 : decode jdk_29_method_69_code 1 = .ok (.iload_n 1, 1) := by decide +kernel
theorem d1_2 : decode jdk_29_method_69_code 2 = .ok (.if_icmp .gt 7, 3) := by decide +kernel
theorem d1_5 : decode jdk_29_method_69_code 5 = .ok (.iload_n 0, 1) := by decide +kernel
theorem d1_6 : decode jdk_29_method_69_code 6 = .ok (.goto 4, 3) := by decide +kernel
theorem d1_9 : decode jdk_29_method_69_code 9 = .ok (.iload_n 1, 1) := by decide +kernel
theorem d1_10 : decode jdk_29_method_69_code 10 = .ok (.ireturn, 1) := by decide +kernel
theorem ef_own_min (m : MethodId) (x0 : Int32) (x1 : Int32) : entryFrame m #[(.int x0), (.int x1)] 2 = mkF m 0 #[.val (.int x0), .val (.int x1)] [] := by first | (simp [entryFrame, mkF, argsToLocals, Value.category]; done) | rfl
def Q_own_min (Z : State) (p0 : Int32) (p1 : Int32)  (h0 : Heap) (n0 : Nat) (v : Option Value) (h : Heap) (L : List Loc) : Prop := v = some (.int (if p1 < p0 then p1 else p0)) ∧ Fr n0 L ∧ h = h0
set_option maxRecDepth 65536 in
set_option maxHeartbeats 40000000 in
theorem own_min (l : Launch) (Z : State) (a0 : Array Value) (hw : ∀ d ∈ tables_1, d.before a0 Z = true) (ws : List Jvm.Cond) (p0 : Int32) (p1 : Int32)  (h0 : Heap) (n0 : Nat) (Z0 : n0 ≤ h0.size)  :
    MetFree l (⟨"java/lang/Math", "min", "(II)I"⟩ : MethodName) (head1 (Jvm.Cond.code (⟨"java/lang/Math", "min", "(II)I"⟩ : MethodName) jdk_29_method_69_code 2 (some .int) :: ws) ({ frames := 0, cells := 0, slots := 0, locals := 0 } : Room)) (fun a U => a = #[(.int p0), (.int p1)] ∧ Z.Warmed39 U.vm ∧ U.heap = h0) (fun _ _ _ _ _ => True) (fun _ U o U' => ∃ v L, o = .returned v ∧ Q_own_min Z p0 p1  h0 n0 v U'.heap L ∧ FrameEnd U o U' L ({ frames := 0, cells := 0, slots := 0, locals := 0 } : Room).cells ({ frames := 0, cells := 0, slots := 0, locals := 0 } : Room).slots) := by
  refine MetFree.of_bodySF (by decide +kernel) hisR ?_
  intro p e s m args below meth c s₁ Bd hml0 hP hK
  obtain ⟨rfl, hZ, hh⟩ := hP
  have hx := Bd.exec
  have hby := Bd.bytes
  have hml : c.maxLocals = 2 := hml0
  have hown : s.vm.findClass "java/lang/Math" = some m.cls := findClass_of_methodNamed Bd.named
  have hnm := (name_of_methodNamed Bd.named Bd.method).1
  have X0 : Stand p l e ({ frames := 0, cells := 0, slots := 0, locals := 0 } : Room) s m #[(.int p0), (.int p1)] below meth c s₁ [] 0 0 := Stand.of_body Bd
  have e0 : s₁.heap = h0 := by rw [← hh, Bd.state]; rfl
  have N0 := Fr.nil n0
  have pre0 : ∀ t, Steps p.tables e below (s₁.setTop (mkF m 0 #[.val (.int p0), .val (.int p1)] [])) t → Steps p.tables e below (s₁.setTop (entryFrame m #[(.int p0), (.int p1)] 2)) t := fun t k => castTop (ef_own_min m (p0) (p1)) k
  by_cases hq : p1 < p0
  · obtain ⟨fs, hr, hrun, hended, hW, hsame⟩ := X0.leave (v := some (.int p1)) (fun h => by rw [Bd.returns] at h; cases h)
    refine ⟨_, _, pre0 _ ?_, hrun, hended, _, _, rfl, ?_, ⟨_, rfl⟩, hW, hsame.mono (by decide) (by decide)⟩
    · show Steps p.tables e below (s₁.setTop (mkF m 0 #[.val (.int p0), .val (.int p1)] [])) _
      refine XS.iloadN X0.here hx rfl (hb hby d1_0) rfl ?_
      show Steps p.tables e below (s₁.setTop (mkF m 1 #[.val (.int p0), .val (.int p1)] [(.int p0)])) _
      refine XS.iloadN X0.here hx rfl (hb hby d1_1) rfl ?_
      show Steps p.tables e below (s₁.setTop (mkF m 2 #[.val (.int p0), .val (.int p1)] [(.int p1), (.int p0)])) _
      refine XS.icmpYes X0.here hx rfl (pc0 := 2) (pc' := 9) rfl (hb hby d1_2) rfl (XT.ii_gt_t hq) (by decide) (by decide) ?_
      show Steps p.tables e below (s₁.setTop (mkF m 9 #[.val (.int p0), .val (.int p1)] [])) _
      refine XS.iloadN X0.here hx rfl (hb hby d1_9) rfl ?_
      show Steps p.tables e below (s₁.setTop (mkF m 10 #[.val (.int p0), .val (.int p1)] [(.int p1)])) _
      exact retI X0 hx Bd.returns (hb hby d1_10) hr
    · show Q_own_min Z p0 p1  h0 n0 _ s₁.heap _
      rw [e0]
      exact ⟨by rw [if_pos hq], N0, rfl⟩
  · obtain ⟨fs, hr, hrun, hended, hW, hsame⟩ := X0.leave (v := some (.int p0)) (fun h => by rw [Bd.returns] at h; cases h)
    refine ⟨_, _, pre0 _ ?_, hrun, hended, _, _, rfl, ?_, ⟨_, rfl⟩, hW, hsame.mono (by decide) (by decide)⟩
    · show Steps p.tables e below (s₁.setTop (mkF m 0 #[.val (.int p0), .val (.int p1)] [])) _
      refine XS.iloadN X0.here hx rfl (hb hby d1_0) rfl ?_
      show Steps p.tables e below (s₁.setTop (mkF m 1 #[.val (.int p0), .val (.int p1)] [(.int p0)])) _
      refine XS.iloadN X0.here hx rfl (hb hby d1_1) rfl ?_
      show Steps p.tables e below (s₁.setTop (mkF m 2 #[.val (.int p0), .val (.int p1)] [(.int p1), (.int p0)])) _
      refine XS.icmpNo X0.here hx rfl (hb hby d1_2) rfl (XT.ii_gt_f hq) ?_
      show Steps p.tables e below (s₁.setTop (mkF m 5 #[.val (.int p0), .val (.int p1)] [])) _
      refine XS.iloadN X0.here hx rfl (hb hby d1_5) rfl ?_
      show Steps p.tables e below (s₁.setTop (mkF m 6 #[.val (.int p0), .val (.int p1)] [(.int p0)])) _
      refine XS.goto X0.here hx rfl (pc0 := 6) (pc' := 10) rfl (hb hby d1_6) (by decide) (by decide) ?_
      show Steps p.tables e below (s₁.setTop (mkF m 10 #[.val (.int p0), .val (.int p1)] [(.int p0)])) _
      exact retI X0 hx Bd.returns (hb hby d1_10) hr
    · show Q_own_min Z p0 p1  h0 n0 _ s₁.heap _
      rw [e0]
      exact ⟨by rw [if_neg hq], N0, rfl⟩
theorem d2_0 : decode jdk_29_method_65_code 0 = .ok (.iload_n 0, 1) := by decide +kernel
theorem d2_1 : decode jdk_29_method_65_code 1 = .ok (.iload_n 1, 1) := by decide +kernel
theorem d2_2 : decode jdk_29_method_65_code 2 = .ok (.if_icmp .lt 7, 3) := by decide +kernel
theorem d2_5 : decode jdk_29_method_65_code 5 = .ok (.iload_n 0, 1) := by decide +kernel
theorem d2_6 : decode jdk_29_method_65_code 6 = .ok (.goto 4, 3) := by decide +kernel
theorem d2_9 : decode jdk_29_method_65_code 9 = .ok (.iload_n 1, 1) := by decide +kernel
theorem d2_10 : decode jdk_29_method_65_code 10 = .ok (.ireturn, 1) := by decide +kernel
theorem ef_own_max (m : MethodId) (x0 : Int32) (x1 : Int32) : entryFrame m #[(.int x0), (.int x1)] 2 = mkF m 0 #[.val (.int x0), .val (.int x1)] [] := by first | (simp [entryFrame, mkF, argsToLocals, Value.category]; done) | rfl
def Q_own_max (Z : State) (p0 : Int32) (p1 : Int32)  (h0 : Heap) (n0 : Nat) (v : Option Value) (h : Heap) (L : List Loc) : Prop := v = some (.int (if p0 < p1 then p1 else p0)) ∧ Fr n0 L ∧ h = h0
set_option maxRecDepth 65536 in
set_option maxHeartbeats 40000000 in
theorem own_max (l : Launch) (Z : State) (a0 : Array Value) (hw : ∀ d ∈ tables_1, d.before a0 Z = true) (ws : List Jvm.Cond) (p0 : Int32) (p1 : Int32)  (h0 : Heap) (n0 : Nat) (Z0 : n0 ≤ h0.size)  :
    MetFree l (⟨"java/lang/Math", "max", "(II)I"⟩ : MethodName) (head1 (Jvm.Cond.code (⟨"java/lang/Math", "max", "(II)I"⟩ : MethodName) jdk_29_method_65_code 2 (some .int) :: ws) ({ frames := 0, cells := 0, slots := 0, locals := 0 } : Room)) (fun a U => a = #[(.int p0), (.int p1)] ∧ Z.Warmed39 U.vm ∧ U.heap = h0) (fun _ _ _ _ _ => True) (fun _ U o U' => ∃ v L, o = .returned v ∧ Q_own_max Z p0 p1  h0 n0 v U'.heap L ∧ FrameEnd U o U' L ({ frames := 0, cells := 0, slots := 0, locals := 0 } : Room).cells ({ frames := 0, cells := 0, slots := 0, locals := 0 } : Room).slots) := by
  refine MetFree.of_bodySF (by decide +kernel) hisR ?_
  intro p e s m args below meth c s₁ Bd hml0 hP hK
  obtain ⟨rfl, hZ, hh⟩ := hP
  have hx := Bd.exec
  have hby := Bd.bytes
  have hml : c.maxLocals = 2 := hml0
  have hown : s.vm.findClass "java/lang/Math" = some m.cls := findClass_of_methodNamed Bd.named
  have hnm := (name_of_methodNamed Bd.named Bd.method).1
  have X0 : Stand p l e ({ frames := 0, cells := 0, slots := 0, locals := 0 } : Room) s m #[(.int p0), (.int p1)] below meth c s₁ [] 0 0 := Stand.of_body Bd
  have e0 : s₁.heap = h0 := by rw [← hh, Bd.state]; rfl
  have N0 := Fr.nil n0
  have pre0 : ∀ t, Steps p.tables e below (s₁.setTop (mkF m 0 #[.val (.int p0), .val (.int p1)] [])) t → Steps p.tables e below (s₁.setTop (entryFrame m #[(.int p0), (.int p1)] 2)) t := fun t k => castTop (ef_own_max m (p0) (p1)) k
  by_cases hq : p0 < p1
  · obtain ⟨fs, hr, hrun, hended, hW, hsame⟩ := X0.leave (v := some (.int p1)) (fun h => by rw [Bd.returns] at h; cases h)
    refine ⟨_, _, pre0 _ ?_, hrun, hended, _, _, rfl, ?_, ⟨_, rfl⟩, hW, hsame.mono (by decide) (by decide)⟩
    · show Steps p.tables e below (s₁.setTop (mkF m 0 #[.val (.int p0), .val (.int p1)] [])) _
      refine XS.iloadN X0.here hx rfl (hb hby d2_0) rfl ?_
      show Steps p.tables e below (s₁.setTop (mkF m 1 #[.val (.int p0), .val (.int p1)] [(.int p0)])) _
      refine XS.iloadN X0.here hx rfl (hb hby d2_1) rfl ?_
      show Steps p.tables e below (s₁.setTop (mkF m 2 #[.val (.int p0), .val (.int p1)] [(.int p1), (.int p0)])) _
      refine XS.icmpYes X0.here hx rfl (pc0 := 2) (pc' := 9) rfl (hb hby d2_2) rfl (XT.ii_lt_t hq) (by decide) (by decide) ?_
      show Steps p.tables e below (s₁.setTop (mkF m 9 #[.val (.int p0), .val (.int p1)] [])) _
      refine XS.iloadN X0.here hx rfl (hb hby d2_9) rfl ?_
      show Steps p.tables e below (s₁.setTop (mkF m 10 #[.val (.int p0), .val (.int p1)] [(.int p1)])) _
      exact retI X0 hx Bd.returns (hb hby d2_10) hr
    · show Q_own_max Z p0 p1  h0 n0 _ s₁.heap _
      rw [e0]
      exact ⟨by rw [if_pos hq], N0, rfl⟩
  · obtain ⟨fs, hr, hrun, hended, hW, hsame⟩ := X0.leave (v := some (.int p0)) (fun h => by rw [Bd.returns] at h; cases h)
    refine ⟨_, _, pre0 _ ?_, hrun, hended, _, _, rfl, ?_, ⟨_, rfl⟩, hW, hsame.mono (by decide) (by decide)⟩
    · show Steps p.tables e below (s₁.setTop (mkF m 0 #[.val (.int p0), .val (.int p1)] [])) _
      refine XS.iloadN X0.here hx rfl (hb hby d2_0) rfl ?_
      show Steps p.tables e below (s₁.setTop (mkF m 1 #[.val (.int p0), .val (.int p1)] [(.int p0)])) _
      refine XS.iloadN X0.here hx rfl (hb hby d2_1) rfl ?_
      show Steps p.tables e below (s₁.setTop (mkF m 2 #[.val (.int p0), .val (.int p1)] [(.int p1), (.int p0)])) _
      refine XS.icmpNo X0.here hx rfl (hb hby d2_2) rfl (XT.ii_lt_f hq) ?_
      show Steps p.tables e below (s₁.setTop (mkF m 5 #[.val (.int p0), .val (.int p1)] [])) _
      refine XS.iloadN X0.here hx rfl (hb hby d2_5) rfl ?_
      show Steps p.tables e below (s₁.setTop (mkF m 6 #[.val (.int p0), .val (.int p1)] [(.int p0)])) _
      refine XS.goto X0.here hx rfl (pc0 := 6) (pc' := 10) rfl (hb hby d2_6) (by decide) (by decide) ?_
      show Steps p.tables e below (s₁.setTop (mkF m 10 #[.val (.int p0), .val (.int p1)] [(.int p0)])) _
      exact retI X0 hx Bd.returns (hb hby d2_10) hr
    · show Q_own_max Z p0 p1  h0 n0 _ s₁.heap _
      rw [e0]
      exact ⟨by rw [if_neg hq], N0, rfl⟩
theorem d4_0 : decode jdk_30_method_1_code 0 = .ok (.aload_n 0, 1) := by decide +kernel
theorem d4_1 : decode jdk_30_method_1_code 1 = .ok (.invokespecial 1, 3) := by decide +kernel
theorem d4_4 : decode jdk_30_method_1_code 4 = .ok (.return_, 1) := by decide +kernel
theorem pn_own_rec : plainName "java/lang/Record" = true := by first | (simp [plainName, overriddenIn]; done) | decide +kernel
theorem ef_own_rec (m : MethodId) (x0 : Addr) : entryFrame m #[(.ref x0)] 1 = mkF m 0 #[.val (.ref x0)] [] := by first | (simp [entryFrame, mkF, argsToLocals, Value.category]; done) | rfl
def Q_own_rec (Z : State) (a1 : Addr)  (h0 : Heap) (n0 : Nat) (v : Option Value) (h : Heap) (L : List Loc) : Prop := v = none ∧ Fr n0 L ∧ h = h0
set_option maxRecDepth 65536 in
set_option maxHeartbeats 40000000 in
theorem own_rec (l : Launch) (Z : State) (a0 : Array Value) (hw : ∀ d ∈ tables_1, d.before a0 Z = true) (ws : List Jvm.Cond) (a1 : Addr)  (h0 : Heap) (n0 : Nat) (Z0 : n0 ≤ h0.size)  :
    MetFree l (⟨"java/lang/Record", "<init>", "()V"⟩ : MethodName) (head1 (Jvm.Cond.code (⟨"java/lang/Record", "<init>", "()V"⟩ : MethodName) jdk_30_method_1_code 1 none :: ws) ({ frames := 1, cells := 0, slots := 0, locals := 12 } : Room)) (fun a U => a = #[(.ref a1)] ∧ Z.Warmed39 U.vm ∧ U.heap = h0) (fun _ _ _ _ _ => True) (fun _ U o U' => ∃ v L, o = .returned v ∧ Q_own_rec Z a1  h0 n0 v U'.heap L ∧ FrameEnd U o U' L ({ frames := 1, cells := 0, slots := 0, locals := 12 } : Room).cells ({ frames := 1, cells := 0, slots := 0, locals := 12 } : Room).slots) := by
  refine MetFree.of_bodySF (plainFor_of_name pn_own_rec) hisR ?_
  intro p e s m args below meth c s₁ Bd hml0 hP hK
  obtain ⟨rfl, hZ, hh⟩ := hP
  have hx := Bd.exec
  have hby := Bd.bytes
  have hml : c.maxLocals = 1 := hml0
  have hown : s.vm.findClass "java/lang/Record" = some m.cls := findClass_of_methodNamed Bd.named
  have hnm := (name_of_methodNamed Bd.named Bd.method).1
  have X0 : Stand p l e ({ frames := 1, cells := 0, slots := 0, locals := 12 } : Room) s m #[(.ref a1)] below meth c s₁ [] 0 0 := Stand.of_body Bd
  have e0 : s₁.heap = h0 := by rw [← hh, Bd.state]; rfl
  have N0 := Fr.nil n0
  have pre0 : ∀ t, Steps p.tables e below (s₁.setTop (mkF m 0 #[.val (.ref a1)] [])) t → Steps p.tables e below (s₁.setTop (entryFrame m #[(.ref a1)] 1)) t := fun t k => castTop (ef_own_rec m (a1)) k
  obtain ⟨T3, X3, e3, st3⟩ := initO X0 hx hZ hown (hw _ (List.mem_of_getElem? (i := 18) rfl)) (hw _ (List.mem_of_getElem? (i := 19) rfl)) (hw _ (List.mem_of_getElem? (i := 20) rfl)) e0 (g := (mkF m 1 #[.val (.ref a1)] [(.ref a1)])) rfl (by rw [hml]; rfl) rfl (hb hby d4_1) (by decide) (W := 0) (by show 2 * 0 + _ ≤ _; exact Nat.le_of_eq rfl) (by decide)
  obtain ⟨fs, hr, hrun, hended, hW, hsame⟩ := X3.leave (v := none) (fun _ => rfl)
  refine ⟨_, _, pre0 _ ?_, hrun, hended, _, _, rfl, ?_, ⟨_, rfl⟩, hW, hsame.mono (by decide) (by decide)⟩
  · show Steps p.tables e below (s₁.setTop (mkF m 0 #[.val (.ref a1)] [])) _
    refine XS.aloadN X0.here hx rfl (hb hby d4_0) rfl rfl ?_
    show Steps p.tables e below (s₁.setTop (mkF m 1 #[.val (.ref a1)] [(.ref a1)])) _
    refine st3 _ ?_
    show Steps p.tables e below (T3.setTop (mkF m 4 #[.val (.ref a1)] [])) _
    exact X3.returnOut hx Bd.returns (hb hby d4_4) hr
  · show Q_own_rec Z a1  h0 n0 _ T3.heap _
    rw [e3]
    exact ⟨rfl, N0, rfl⟩
theorem d3_0 : decode prog_2_method_1_code 0 = .ok (.aload_n 0, 1) := by decide +kernel
theorem d3_1 : decode prog_2_method_1_code 1 = .ok (.invokespecial 1, 3) := by decide +kernel
theorem d3_4 : decode prog_2_method_1_code 4 = .ok (.aload_n 0, 1) := by decide +kernel
theorem d3_5 : decode prog_2_method_1_code 5 = .ok (.dload_n 1, 1) := by decide +kernel
theorem d3_6 : decode prog_2_method_1_code 6 = .ok (.putfield 7, 3) := by decide +kernel
theorem d3_9 : decode prog_2_method_1_code 9 = .ok (.aload_n 0, 1) := by decide +kernel
theorem d3_10 : decode prog_2_method_1_code 10 = .ok (.dload_n 3, 1) := by decide +kernel
theorem d3_11 : decode prog_2_method_1_code 11 = .ok (.putfield 13, 3) := by decide +kernel
theorem d3_14 : decode prog_2_method_1_code 14 = .ok (.return_, 1) := by decide +kernel
theorem pn_own_init : plainName "com/example/knitwork/knitwork/Bounds" = true := by first | (simp [plainName, overriddenIn]; done) | decide +kernel
theorem ef_own_init (m : MethodId) (x0 : Addr) (x1 : UInt64) (x2 : UInt64) : entryFrame m #[(.ref x0), (.double x1), (.double x2)] 5 = mkF m 0 #[.val (.ref x0), .val (.double x1), .second, .val (.double x2), .second] [] := by first | (simp [entryFrame, mkF, argsToLocals, Value.category]; done) | rfl
def Q_own_init (Z : State) (a1 : Addr) (d1 : UInt64) (d2 : UInt64)  (h0 : Heap) (n0 : Nat) (v : Option Value) (h : Heap) (L : List Loc) : Prop := v = none ∧ Fr n0 L ∧ Keep h0 h [a1] ∧ Fld Z h a1 "com/example/knitwork/knitwork/Bounds" "low" "D" (.double d1) ∧ Fld Z h a1 "com/example/knitwork/knitwork/Bounds" "high" "D" (.double d2)
set_option maxRecDepth 65536 in
set_option maxHeartbeats 40000000 in
theorem own_init (l : Launch) (Z : State) (a0 : Array Value) (hw : ∀ d ∈ tables_1, d.before a0 Z = true) (ws : List Jvm.Cond) (a1 : Addr) (d1 : UInt64) (d2 : UInt64)  (h0 : Heap) (n0 : Nat) (Z0 : n0 ≤ h0.size) (E_ : Exa Z h0 a1 "com/example/knitwork/knitwork/Bounds") (F_l : Fld Z h0 a1 "com/example/knitwork/knitwork/Bounds" "low" "D" (.double 0)) (F_h : Fld Z h0 a1 "com/example/knitwork/knitwork/Bounds" "high" "D" (.double 0)) (g_a1 : n0 ≤ a1) :
    MetFree l (⟨"com/example/knitwork/knitwork/Bounds", "<init>", "(DD)V"⟩ : MethodName) (head1 (Jvm.Cond.code (⟨"com/example/knitwork/knitwork/Bounds", "<init>", "(DD)V"⟩ : MethodName) prog_2_method_1_code 5 none :: ws) ({ frames := 2, cells := 0, slots := 0, locals := 24 } : Room)) (fun a U => a = #[(.ref a1), (.double d1), (.double d2)] ∧ Z.Warmed39 U.vm ∧ U.heap = h0) (fun _ _ _ _ _ => True) (fun _ U o U' => ∃ v L, o = .returned v ∧ Q_own_init Z a1 d1 d2  h0 n0 v U'.heap L ∧ FrameEnd U o U' L ({ frames := 2, cells := 0, slots := 0, locals := 24 } : Room).cells ({ frames := 2, cells := 0, slots := 0, locals := 24 } : Room).slots) := by
  refine MetFree.of_bodySF (plainFor_of_name pn_own_init) hisR ?_
  intro p e s m args below meth c s₁ Bd hml0 hP hK
  obtain ⟨rfl, hZ, hh⟩ := hP
  have hx := Bd.exec
  have hby := Bd.bytes
  have hml : c.maxLocals = 5 := hml0
  have hown : s.vm.findClass "com/example/knitwork/knitwork/Bounds" = some m.cls := findClass_of_methodNamed Bd.named
  have hnm := (name_of_methodNamed Bd.named Bd.method).1
  have X0 : Stand p l e ({ frames := 2, cells := 0, slots := 0, locals := 24 } : Room) s m #[(.ref a1), (.double d1), (.double d2)] below meth c s₁ [] 0 0 := Stand.of_body Bd
  have e0 : s₁.heap = h0 := by rw [← hh, Bd.state]; rfl
  have N0 := Fr.nil n0
  have pre0 : ∀ t, Steps p.tables e below (s₁.setTop (mkF m 0 #[.val (.ref a1), .val (.double d1), .second, .val (.double d2), .second] [])) t → Steps p.tables e below (s₁.setTop (entryFrame m #[(.ref a1), (.double d1), (.double d2)] 5)) t := fun t k => castTop (ef_own_init m (a1) (d1) (d2)) k
  obtain ⟨_, _, ⟨T4, L4, k4, n4⟩, -, X4, ⟨Lc4, hQ4, l4, y4, z4⟩, st4⟩ := X0.specialBack hx (y := (⟨"java/lang/Record", "<init>", "()V"⟩ : MethodName)) rfl hown (mvT hZ (hw _ (List.mem_of_getElem? (i := 13) rfl))) (mvT hZ (hw _ (List.mem_of_getElem? (i := 14) rfl))) (mvT hZ (hw _ (List.mem_of_getElem? (i := 17) rfl))) (by decide) (backOf (W := 0) (own_rec l Z a0 hw [] a1 h0 n0 Z0 ) hZ (hw _ (List.mem_of_getElem? (i := 17) rfl)) (hw _ (List.mem_of_getElem? (i := 16) rfl)) (by decide) (by decide)) (g := (mkF m 1 #[.val (.ref a1), .val (.double d1), .second, .val (.double d2), .second] [(.ref a1)])) rfl (by rw [hml]; rfl) (Steps.refl _) (a := a1) (argsL := []) (rest := []) (lenOf pd_0 rfl) rfl (by show 2 * 0 + _ ≤ _; exact Nat.le_of_eq rfl) (hb hby d3_1) (fun _ _ => ⟨rfl, e0, (by decide : 0 + 0 ≤ _), (by decide : 0 + 0 ≤ _)⟩)
  dsimp only [Pt.U, Pt.locs, Pt.cells, Pt.slots] at X4 l4 y4 z4 st4 hQ4
  subst l4 y4 z4
  obtain ⟨rfl, N4q, eh4⟩ := hQ4
  have N4 := Fr.app N0 N4q
  obtain ⟨T5, h5, X5, e5, W5, st5⟩ := putF X4 hx hZ hown (host := "") (Or.inl (hw _ (List.mem_of_getElem? (i := 21) rfl))) Via.refl eh4 F_l E_ (Or.inr ⟨(hw _ (List.mem_of_getElem? (i := 22) rfl)), rfl, hnm⟩) (hw _ (List.mem_of_getElem? (i := 8) rfl)) (ty := .double) (by decide) rfl rfl (g := (mkF m 6 #[.val (.ref a1), .val (.double d1), .second, .val (.double d2), .second] [(.double d1), (.ref a1)])) rfl rfl (hb hby d3_6)
  have Fw5 := F_l.same W5
  have N5 := Fr.snoc X5 N4 g_a1
  have K5 : Keep h0 h5 [a1] := (Keep.refl h0 [a1]).wr W5 (Or.inl (List.mem_of_getElem? (i := 0) rfl))
  obtain ⟨T6, h6, X6, e6, W6, st6⟩ := putF X5 hx hZ hown (host := "") (Or.inl (hw _ (List.mem_of_getElem? (i := 23) rfl))) Via.refl e5 (F_h.other W5 (Or.inr (slot_ne (Or.inr (hw _ (List.mem_of_getElem? (i := 24) rfl))) (Or.inr (hw _ (List.mem_of_getElem? (i := 22) rfl))) (by decide) (t := .double) (t' := .double) (by decide) (by decide)))) (E_.wr W5) (Or.inr ⟨(hw _ (List.mem_of_getElem? (i := 24) rfl)), rfl, hnm⟩) (hw _ (List.mem_of_getElem? (i := 8) rfl)) (ty := .double) (by decide) rfl rfl (g := (mkF m 11 #[.val (.ref a1), .val (.double d1), .second, .val (.double d2), .second] [(.double d2), (.ref a1)])) rfl rfl (hb hby d3_11)
  have Fw6 := (F_h.other W5 (Or.inr (slot_ne (Or.inr (hw _ (List.mem_of_getElem? (i := 24) rfl))) (Or.inr (hw _ (List.mem_of_getElem? (i := 22) rfl))) (by decide) (t := .double) (t' := .double) (by decide) (by decide)))).same W6
  have N6 := Fr.snoc X6 N5 g_a1
  have K6 : Keep h0 h6 [a1] := K5.wr W6 (Or.inl (List.mem_of_getElem? (i := 0) rfl))
  obtain ⟨fs, hr, hrun, hended, hW, hsame⟩ := X6.leave (v := none) (fun _ => rfl)
  refine ⟨_, _, pre0 _ ?_, hrun, hended, _, _, rfl, ?_, ⟨_, rfl⟩, hW, hsame.mono (by decide) (by decide)⟩
  · show Steps p.tables e below (s₁.setTop (mkF m 0 #[.val (.ref a1), .val (.double d1), .second, .val (.double d2), .second] [])) _
    refine XS.aloadN X0.here hx rfl (hb hby d3_0) rfl rfl ?_
    show Steps p.tables e below (s₁.setTop (mkF m 1 #[.val (.ref a1), .val (.double d1), .second, .val (.double d2), .second] [(.ref a1)])) _
    refine st4.trans ?_
    show Steps p.tables e below (T4.setTop (mkF m 4 #[.val (.ref a1), .val (.double d1), .second, .val (.double d2), .second] [])) _
    refine XS.aloadN X4.here hx rfl (hb hby d3_4) rfl rfl ?_
    show Steps p.tables e below (T4.setTop (mkF m 5 #[.val (.ref a1), .val (.double d1), .second, .val (.double d2), .second] [(.ref a1)])) _
    refine own_dloadN X4.here hx rfl (hb hby d3_5) rfl ?_
    show Steps p.tables e below (T4.setTop (mkF m 6 #[.val (.ref a1), .val (.double d1), .second, .val (.double d2), .second] [(.double d1), (.ref a1)])) _
    refine st5 _ ?_
    show Steps p.tables e below (T5.setTop (mkF m 9 #[.val (.ref a1), .val (.double d1), .second, .val (.double d2), .second] [])) _
    refine XS.aloadN X5.here hx rfl (hb hby d3_9) rfl rfl ?_
    show Steps p.tables e below (T5.setTop (mkF m 10 #[.val (.ref a1), .val (.double d1), .second, .val (.double d2), .second] [(.ref a1)])) _
    refine own_dloadN X5.here hx rfl (hb hby d3_10) rfl ?_
    show Steps p.tables e below (T5.setTop (mkF m 11 #[.val (.ref a1), .val (.double d1), .second, .val (.double d2), .second] [(.double d2), (.ref a1)])) _
    refine st6 _ ?_
    show Steps p.tables e below (T6.setTop (mkF m 14 #[.val (.ref a1), .val (.double d1), .second, .val (.double d2), .second] [])) _
    exact X6.returnOut hx Bd.returns (hb hby d3_14) hr
  · show Q_own_init Z a1 d1 d2  h0 n0 _ T6.heap _
    rw [e6]
    exact ⟨rfl, N6, K6, (Fw5.other W6 (Or.inr (slot_ne (Or.inr (hw _ (List.mem_of_getElem? (i := 22) rfl))) (Or.inr (hw _ (List.mem_of_getElem? (i := 24) rfl))) (by decide) (t := .double) (t' := .double) (by decide) (by decide)))), Fw6⟩
theorem d7_0 : decode prog_2_method_7_code 0 = .ok (.aload_n 0, 1) := by decide +kernel
theorem d7_1 : decode prog_2_method_7_code 1 = .ok (.getfield 13, 3) := by decide +kernel
theorem d7_4 : decode prog_2_method_7_code 4 = .ok (.aload_n 1, 1) := by decide +kernel
theorem d7_5 : decode prog_2_method_7_code 5 = .ok (.getfield 7, 3) := by decide +kernel
theorem d7_8 : decode prog_2_method_7_code 8 = .ok (.dcmp .g, 1) := by decide +kernel
theorem d7_9 : decode prog_2_method_7_code 9 = .ok (.ifCond .ge 7, 3) := by decide +kernel
theorem d7_12 : decode prog_2_method_7_code 12 = .ok (.iconst 1, 1) := by decide +kernel
theorem d7_13 : decode prog_2_method_7_code 13 = .ok (.goto 4, 3) := by decide +kernel
theorem d7_16 : decode prog_2_method_7_code 16 = .ok (.iconst 0, 1) := by decide +kernel
theorem d7_17 : decode prog_2_method_7_code 17 = .ok (.ireturn, 1) := by decide +kernel
theorem pn_own_below : plainName "com/example/knitwork/knitwork/Bounds" = true := by first | (simp [plainName, overriddenIn]; done) | decide +kernel
theorem ef_own_below (m : MethodId) (x0 : Addr) (x1 : Addr) : entryFrame m #[(.ref x0), (.ref x1)] 2 = mkF m 0 #[.val (.ref x0), .val (.ref x1)] [] := by first | (simp [entryFrame, mkF, argsToLocals, Value.category]; done) | rfl
def Q_own_below (Z : State) (a1 : Addr) (a2 : Addr) (x : UInt64) (y : UInt64) (h0 : Heap) (n0 : Nat) (v : Option Value) (h : Heap) (L : List Loc) : Prop := v = some (.int (if (cmpValue (FP.dcmp x y) .g) < 0 then (1 : Int32) else (0 : Int32))) ∧ Fr n0 L ∧ h = h0
set_option maxRecDepth 65536 in
set_option maxHeartbeats 40000000 in
theorem own_below (l : Launch) (Z : State) (a0 : Array Value) (hw : ∀ d ∈ tables_1, d.before a0 Z = true) (ws : List Jvm.Cond) (a1 : Addr) (a2 : Addr) (x : UInt64) (y : UInt64) (h0 : Heap) (n0 : Nat) (Z0 : n0 ≤ h0.size) (F_1 : Fld Z h0 a1 "com/example/knitwork/knitwork/Bounds" "high" "D" (.double x)) (F_2 : Fld Z h0 a2 "com/example/knitwork/knitwork/Bounds" "low" "D" (.double y)) :
    MetFree l (⟨"com/example/knitwork/knitwork/Bounds", "below", "(Lcom/example/knitwork/knitwork/Bounds;)Z"⟩ : MethodName) (head1 (Jvm.Cond.code (⟨"com/example/knitwork/knitwork/Bounds", "below", "(Lcom/example/knitwork/knitwork/Bounds;)Z"⟩ : MethodName) prog_2_method_7_code 2 (some .boolean) :: ws) ({ frames := 0, cells := 0, slots := 0, locals := 0 } : Room)) (fun a U => a = #[(.ref a1), (.ref a2)] ∧ Z.Warmed39 U.vm ∧ U.heap = h0) (fun _ _ _ _ _ => True) (fun _ U o U' => ∃ v L, o = .returned v ∧ Q_own_below Z a1 a2 x y h0 n0 v U'.heap L ∧ FrameEnd U o U' L ({ frames := 0, cells := 0, slots := 0, locals := 0 } : Room).cells ({ frames := 0, cells := 0, slots := 0, locals := 0 } : Room).slots) := by
  refine MetFree.of_bodySF (plainFor_of_name pn_own_below) hisR ?_
  intro p e s m args below meth c s₁ Bd hml0 hP hK
  obtain ⟨rfl, hZ, hh⟩ := hP
  have hx := Bd.exec
  have hby := Bd.bytes
  have hml : c.maxLocals = 2 := hml0
  have hown : s.vm.findClass "com/example/knitwork/knitwork/Bounds" = some m.cls := findClass_of_methodNamed Bd.named
  have hnm := (name_of_methodNamed Bd.named Bd.method).1
  have X0 : Stand p l e ({ frames := 0, cells := 0, slots := 0, locals := 0 } : Room) s m #[(.ref a1), (.ref a2)] below meth c s₁ [] 0 0 := Stand.of_body Bd
  have e0 : s₁.heap = h0 := by rw [← hh, Bd.state]; rfl
  have N0 := Fr.nil n0
  have pre0 : ∀ t, Steps p.tables e below (s₁.setTop (mkF m 0 #[.val (.ref a1), .val (.ref a2)] [])) t → Steps p.tables e below (s₁.setTop (entryFrame m #[(.ref a1), (.ref a2)] 2)) t := fun t k => castTop (ef_own_below m (a1) (a2)) k
  obtain ⟨T7, X7, e7, st7⟩ := getF X0 hx hZ hown (host := "") (Or.inl (hw _ (List.mem_of_getElem? (i := 23) rfl))) Via.refl e0 F_1 (g := (mkF m 1 #[.val (.ref a1), .val (.ref a2)] [(.ref a1)])) rfl rfl (hb hby d7_1)
  obtain ⟨T8, X8, e8, st8⟩ := getF X7 hx hZ hown (host := "") (Or.inl (hw _ (List.mem_of_getElem? (i := 21) rfl))) Via.refl e7 F_2 (g := (mkF m 5 #[.val (.ref a1), .val (.ref a2)] [(.ref a2), (.double x)])) rfl rfl (hb hby d7_5)
  by_cases hq : (cmpValue (FP.dcmp x y) .g) < 0
  · obtain ⟨fs, hr, hrun, hended, hW, hsame⟩ := X8.leave (v := some (.int (1 : Int32))) (fun h => by rw [Bd.returns] at h; cases h)
    refine ⟨_, _, pre0 _ ?_, hrun, hended, _, _, rfl, ?_, ⟨_, rfl⟩, hW, hsame.mono (by decide) (by decide)⟩
    · show Steps p.tables e below (s₁.setTop (mkF m 0 #[.val (.ref a1), .val (.ref a2)] [])) _
      refine XS.aloadN X0.here hx rfl (hb hby d7_0) rfl rfl ?_
      show Steps p.tables e below (s₁.setTop (mkF m 1 #[.val (.ref a1), .val (.ref a2)] [(.ref a1)])) _
      refine st7 _ ?_
      show Steps p.tables e below (T7.setTop (mkF m 4 #[.val (.ref a1), .val (.ref a2)] [(.double x)])) _
      refine XS.aloadN X7.here hx rfl (hb hby d7_4) rfl rfl ?_
      show Steps p.tables e below (T7.setTop (mkF m 5 #[.val (.ref a1), .val (.ref a2)] [(.ref a2), (.double x)])) _
      refine st8 _ ?_
      show Steps p.tables e below (T8.setTop (mkF m 8 #[.val (.ref a1), .val (.ref a2)] [(.double y), (.double x)])) _
      refine own_dcmp X8.here hx rfl (hb hby d7_8) rfl ?_
      show Steps p.tables e below (T8.setTop (mkF m 9 #[.val (.ref a1), .val (.ref a2)] [(.int (cmpValue (FP.dcmp x y) .g))])) _
      refine XS.ifNo X8.here hx rfl (hb hby d7_9) rfl (XT.i0_ge_f hq) ?_
      show Steps p.tables e below (T8.setTop (mkF m 12 #[.val (.ref a1), .val (.ref a2)] [])) _
      refine XS.iconst X8.here hx rfl (hb hby d7_12) ?_
      show Steps p.tables e below (T8.setTop (mkF m 13 #[.val (.ref a1), .val (.ref a2)] [(.int (1 : Int32))])) _
      refine XS.goto X8.here hx rfl (pc0 := 13) (pc' := 17) rfl (hb hby d7_13) (by decide) (by decide) ?_
      show Steps p.tables e below (T8.setTop (mkF m 17 #[.val (.ref a1), .val (.ref a2)] [(.int (1 : Int32))])) _
      exact retN X8 hx (t := .boolean) Bd.returns (by simp) (hb hby d7_17) hr
    · show Q_own_below Z a1 a2 x y h0 n0 _ T8.heap _
      rw [e8]
      exact ⟨by rw [if_pos hq], N0, rfl⟩
  · obtain ⟨fs, hr, hrun, hended, hW, hsame⟩ := X8.leave (v := some (.int (0 : Int32))) (fun h => by rw [Bd.returns] at h; cases h)
    refine ⟨_, _, pre0 _ ?_, hrun, hended, _, _, rfl, ?_, ⟨_, rfl⟩, hW, hsame.mono (by decide) (by decide)⟩
    · show Steps p.tables e below (s₁.setTop (mkF m 0 #[.val (.ref a1), .val (.ref a2)] [])) _
      refine XS.aloadN X0.here hx rfl (hb hby d7_0) rfl rfl ?_
      show Steps p.tables e below (s₁.setTop (mkF m 1 #[.val (.ref a1), .val (.ref a2)] [(.ref a1)])) _
      refine st7 _ ?_
      show Steps p.tables e below (T7.setTop (mkF m 4 #[.val (.ref a1), .val (.ref a2)] [(.double x)])) _
      refine XS.aloadN X7.here hx rfl (hb hby d7_4) rfl rfl ?_
      show Steps p.tables e below (T7.setTop (mkF m 5 #[.val (.ref a1), .val (.ref a2)] [(.ref a2), (.double x)])) _
      refine st8 _ ?_
      show Steps p.tables e below (T8.setTop (mkF m 8 #[.val (.ref a1), .val (.ref a2)] [(.double y), (.double x)])) _
      refine own_dcmp X8.here hx rfl (hb hby d7_8) rfl ?_
      show Steps p.tables e below (T8.setTop (mkF m 9 #[.val (.ref a1), .val (.ref a2)] [(.int (cmpValue (FP.dcmp x y) .g))])) _
      refine XS.ifYes X8.here hx rfl (pc0 := 9) (pc' := 16) rfl (hb hby d7_9) rfl (XT.i0_ge_t hq) (by decide) (by decide) ?_
      show Steps p.tables e below (T8.setTop (mkF m 16 #[.val (.ref a1), .val (.ref a2)] [])) _
      refine XS.iconst X8.here hx rfl (hb hby d7_16) ?_
      show Steps p.tables e below (T8.setTop (mkF m 17 #[.val (.ref a1), .val (.ref a2)] [(.int (0 : Int32))])) _
      exact retN X8 hx (t := .boolean) Bd.returns (by simp) (hb hby d7_17) hr
    · show Q_own_below Z a1 a2 x y h0 n0 _ T8.heap _
      rw [e8]
      exact ⟨by rw [if_neg hq], N0, rfl⟩
theorem d6_0 : decode prog_2_method_8_code 0 = .ok (.aload_n 0, 1) := by decide +kernel
theorem d6_1 : decode prog_2_method_8_code 1 = .ok (.getfield 7, 3) := by decide +kernel
theorem d6_4 : decode prog_2_method_8_code 4 = .ok (.aload_n 1, 1) := by decide +kernel
theorem d6_5 : decode prog_2_method_8_code 5 = .ok (.getfield 13, 3) := by decide +kernel
theorem d6_8 : decode prog_2_method_8_code 8 = .ok (.dcmp .l, 1) := by decide +kernel
theorem d6_9 : decode prog_2_method_8_code 9 = .ok (.ifCond .le 7, 3) := by decide +kernel
theorem d6_12 : decode prog_2_method_8_code 12 = .ok (.iconst 1, 1) := by decide +kernel
theorem d6_13 : decode prog_2_method_8_code 13 = .ok (.goto 4, 3) := by decide +kernel
theorem d6_16 : decode prog_2_method_8_code 16 = .ok (.iconst 0, 1) := by decide +kernel
theorem d6_17 : decode prog_2_method_8_code 17 = .ok (.ireturn, 1) := by decide +kernel
theorem pn_own_above : plainName "com/example/knitwork/knitwork/Bounds" = true := by first | (simp [plainName, overriddenIn]; done) | decide +kernel
theorem ef_own_above (m : MethodId) (x0 : Addr) (x1 : Addr) : entryFrame m #[(.ref x0), (.ref x1)] 2 = mkF m 0 #[.val (.ref x0), .val (.ref x1)] [] := by first | (simp [entryFrame, mkF, argsToLocals, Value.category]; done) | rfl
def Q_own_above (Z : State) (a1 : Addr) (a2 : Addr) (x : UInt64) (y : UInt64) (h0 : Heap) (n0 : Nat) (v : Option Value) (h : Heap) (L : List Loc) : Prop := v = some (.int (if 0 < (cmpValue (FP.dcmp x y) .l) then (1 : Int32) else (0 : Int32))) ∧ Fr n0 L ∧ h = h0
set_option maxRecDepth 65536 in
set_option maxHeartbeats 40000000 in
theorem own_above (l : Launch) (Z : State) (a0 : Array Value) (hw : ∀ d ∈ tables_1, d.before a0 Z = true) (ws : List Jvm.Cond) (a1 : Addr) (a2 : Addr) (x : UInt64) (y : UInt64) (h0 : Heap) (n0 : Nat) (Z0 : n0 ≤ h0.size) (F_1 : Fld Z h0 a1 "com/example/knitwork/knitwork/Bounds" "low" "D" (.double x)) (F_2 : Fld Z h0 a2 "com/example/knitwork/knitwork/Bounds" "high" "D" (.double y)) :
    MetFree l (⟨"com/example/knitwork/knitwork/Bounds", "above", "(Lcom/example/knitwork/knitwork/Bounds;)Z"⟩ : MethodName) (head1 (Jvm.Cond.code (⟨"com/example/knitwork/knitwork/Bounds", "above", "(Lcom/example/knitwork/knitwork/Bounds;)Z"⟩ : MethodName) prog_2_method_8_code 2 (some .boolean) :: ws) ({ frames := 0, cells := 0, slots := 0, locals := 0 } : Room)) (fun a U => a = #[(.ref a1), (.ref a2)] ∧ Z.Warmed39 U.vm ∧ U.heap = h0) (fun _ _ _ _ _ => True) (fun _ U o U' => ∃ v L, o = .returned v ∧ Q_own_above Z a1 a2 x y h0 n0 v U'.heap L ∧ FrameEnd U o U' L ({ frames := 0, cells := 0, slots := 0, locals := 0 } : Room).cells ({ frames := 0, cells := 0, slots := 0, locals := 0 } : Room).slots) := by
  refine MetFree.of_bodySF (plainFor_of_name pn_own_above) hisR ?_
  intro p e s m args below meth c s₁ Bd hml0 hP hK
  obtain ⟨rfl, hZ, hh⟩ := hP
  have hx := Bd.exec
  have hby := Bd.bytes
  have hml : c.maxLocals = 2 := hml0
  have hown : s.vm.findClass "com/example/knitwork/knitwork/Bounds" = some m.cls := findClass_of_methodNamed Bd.named
  have hnm := (name_of_methodNamed Bd.named Bd.method).1
  have X0 : Stand p l e ({ frames := 0, cells := 0, slots := 0, locals := 0 } : Room) s m #[(.ref a1), (.ref a2)] below meth c s₁ [] 0 0 := Stand.of_body Bd
  have e0 : s₁.heap = h0 := by rw [← hh, Bd.state]; rfl
  have N0 := Fr.nil n0
  have pre0 : ∀ t, Steps p.tables e below (s₁.setTop (mkF m 0 #[.val (.ref a1), .val (.ref a2)] [])) t → Steps p.tables e below (s₁.setTop (entryFrame m #[(.ref a1), (.ref a2)] 2)) t := fun t k => castTop (ef_own_above m (a1) (a2)) k
  obtain ⟨T10, X10, e10, st10⟩ := getF X0 hx hZ hown (host := "") (Or.inl (hw _ (List.mem_of_getElem? (i := 21) rfl))) Via.refl e0 F_1 (g := (mkF m 1 #[.val (.ref a1), .val (.ref a2)] [(.ref a1)])) rfl rfl (hb hby d6_1)
  obtain ⟨T11, X11, e11, st11⟩ := getF X10 hx hZ hown (host := "") (Or.inl (hw _ (List.mem_of_getElem? (i := 23) rfl))) Via.refl e10 F_2 (g := (mkF m 5 #[.val (.ref a1), .val (.ref a2)] [(.ref a2), (.double x)])) rfl rfl (hb hby d6_5)
  by_cases hq : 0 < (cmpValue (FP.dcmp x y) .l)
  · obtain ⟨fs, hr, hrun, hended, hW, hsame⟩ := X11.leave (v := some (.int (1 : Int32))) (fun h => by rw [Bd.returns] at h; cases h)
    refine ⟨_, _, pre0 _ ?_, hrun, hended, _, _, rfl, ?_, ⟨_, rfl⟩, hW, hsame.mono (by decide) (by decide)⟩
    · show Steps p.tables e below (s₁.setTop (mkF m 0 #[.val (.ref a1), .val (.ref a2)] [])) _
      refine XS.aloadN X0.here hx rfl (hb hby d6_0) rfl rfl ?_
      show Steps p.tables e below (s₁.setTop (mkF m 1 #[.val (.ref a1), .val (.ref a2)] [(.ref a1)])) _
      refine st10 _ ?_
      show Steps p.tables e below (T10.setTop (mkF m 4 #[.val (.ref a1), .val (.ref a2)] [(.double x)])) _
      refine XS.aloadN X10.here hx rfl (hb hby d6_4) rfl rfl ?_
      show Steps p.tables e below (T10.setTop (mkF m 5 #[.val (.ref a1), .val (.ref a2)] [(.ref a2), (.double x)])) _
      refine st11 _ ?_
      show Steps p.tables e below (T11.setTop (mkF m 8 #[.val (.ref a1), .val (.ref a2)] [(.double y), (.double x)])) _
      refine own_dcmp X11.here hx rfl (hb hby d6_8) rfl ?_
      show Steps p.tables e below (T11.setTop (mkF m 9 #[.val (.ref a1), .val (.ref a2)] [(.int (cmpValue (FP.dcmp x y) .l))])) _
      refine XS.ifNo X11.here hx rfl (hb hby d6_9) rfl (XT.i0_le_f hq) ?_
      show Steps p.tables e below (T11.setTop (mkF m 12 #[.val (.ref a1), .val (.ref a2)] [])) _
      refine XS.iconst X11.here hx rfl (hb hby d6_12) ?_
      show Steps p.tables e below (T11.setTop (mkF m 13 #[.val (.ref a1), .val (.ref a2)] [(.int (1 : Int32))])) _
      refine XS.goto X11.here hx rfl (pc0 := 13) (pc' := 17) rfl (hb hby d6_13) (by decide) (by decide) ?_
      show Steps p.tables e below (T11.setTop (mkF m 17 #[.val (.ref a1), .val (.ref a2)] [(.int (1 : Int32))])) _
      exact retN X11 hx (t := .boolean) Bd.returns (by simp) (hb hby d6_17) hr
    · show Q_own_above Z a1 a2 x y h0 n0 _ T11.heap _
      rw [e11]
      exact ⟨by rw [if_pos hq], N0, rfl⟩
  · obtain ⟨fs, hr, hrun, hended, hW, hsame⟩ := X11.leave (v := some (.int (0 : Int32))) (fun h => by rw [Bd.returns] at h; cases h)
    refine ⟨_, _, pre0 _ ?_, hrun, hended, _, _, rfl, ?_, ⟨_, rfl⟩, hW, hsame.mono (by decide) (by decide)⟩
    · show Steps p.tables e below (s₁.setTop (mkF m 0 #[.val (.ref a1), .val (.ref a2)] [])) _
      refine XS.aloadN X0.here hx rfl (hb hby d6_0) rfl rfl ?_
      show Steps p.tables e below (s₁.setTop (mkF m 1 #[.val (.ref a1), .val (.ref a2)] [(.ref a1)])) _
      refine st10 _ ?_
      show Steps p.tables e below (T10.setTop (mkF m 4 #[.val (.ref a1), .val (.ref a2)] [(.double x)])) _
      refine XS.aloadN X10.here hx rfl (hb hby d6_4) rfl rfl ?_
      show Steps p.tables e below (T10.setTop (mkF m 5 #[.val (.ref a1), .val (.ref a2)] [(.ref a2), (.double x)])) _
      refine st11 _ ?_
      show Steps p.tables e below (T11.setTop (mkF m 8 #[.val (.ref a1), .val (.ref a2)] [(.double y), (.double x)])) _
      refine own_dcmp X11.here hx rfl (hb hby d6_8) rfl ?_
      show Steps p.tables e below (T11.setTop (mkF m 9 #[.val (.ref a1), .val (.ref a2)] [(.int (cmpValue (FP.dcmp x y) .l))])) _
      refine XS.ifYes X11.here hx rfl (pc0 := 9) (pc' := 16) rfl (hb hby d6_9) rfl (XT.i0_le_t hq) (by decide) (by decide) ?_
      show Steps p.tables e below (T11.setTop (mkF m 16 #[.val (.ref a1), .val (.ref a2)] [])) _
      refine XS.iconst X11.here hx rfl (hb hby d6_16) ?_
      show Steps p.tables e below (T11.setTop (mkF m 17 #[.val (.ref a1), .val (.ref a2)] [(.int (0 : Int32))])) _
      exact retN X11 hx (t := .boolean) Bd.returns (by simp) (hb hby d6_17) hr
    · show Q_own_above Z a1 a2 x y h0 n0 _ T11.heap _
      rw [e11]
      exact ⟨by rw [if_neg hq], N0, rfl⟩
theorem own_bel (i j : Int32) : (if (cmpValue (FP.dcmp (FP.i2d i) (FP.i2d j)) .g) < 0 then (1 : Int32) else (0 : Int32)) = (if i < j then (1 : Int32) else (0 : Int32)) := by
  rw [own_dc i j]
  rcases Int.lt_trichotomy i.toInt j.toInt with q | q | q
  · rw [Int.compare_eq_lt.mpr q, if_pos (by decide), if_pos (Int32.lt_iff_toInt_lt.mpr q)]
  · rw [Int.compare_eq_eq.mpr q, if_neg (by decide), if_neg (by rw [Int32.lt_iff_toInt_lt]; omega)]
  · rw [Int.compare_eq_gt.mpr q, if_neg (by decide), if_neg (by rw [Int32.lt_iff_toInt_lt]; omega)]
theorem own_abv (i j : Int32) : (if 0 < (cmpValue (FP.dcmp (FP.i2d i) (FP.i2d j)) .l) then (1 : Int32) else (0 : Int32)) = (if j < i then (1 : Int32) else (0 : Int32)) := by
  rw [own_dc i j]
  rcases Int.lt_trichotomy i.toInt j.toInt with q | q | q
  · rw [Int.compare_eq_lt.mpr q, if_neg (by decide), if_neg (by rw [Int32.lt_iff_toInt_lt]; omega)]
  · rw [Int.compare_eq_eq.mpr q, if_neg (by decide), if_neg (by rw [Int32.lt_iff_toInt_lt]; omega)]
  · rw [Int.compare_eq_gt.mpr q, if_pos (by decide), if_pos (Int32.lt_iff_toInt_lt.mpr q)]
set_option maxRecDepth 65536 in
set_option maxHeartbeats 40000000 in
theorem own_sy {p : Program} {l : Launch} {e : Env} {s : State} {m : MethodId} {args : Array Value} {below : List Frame} {meth : Method} {c : Code} {T : State} {locs : List Loc} {Z : State} {a0 : Array Value} {h : Heap} {n0 : Nat} (hw : ∀ d ∈ tables_1, d.before a0 Z = true) (X : Stand p l e room_1 s m args below meth c T locs 0 0) (hx : p.tables.exec = Jvm.exec) (hZ : Z.Warmed39 s.vm) (hby : c.code = code) (hml : c.maxLocals = 16) (hown : s.vm.findClass "com/example/knitwork/knitwork/BoundsAbovePinLaw" = some m.cls) (eT : T.heap = h) (N : Fr n0 locs) (Z0 : n0 ≤ h.size) (p0 p1 p2 p3 p4 la ha : Int32)  :
    ∃ T' L', Stand p l e room_1 s m args below meth c T' L' 0 0 ∧ T'.heap = h ∧ Fr n0 L' ∧ ∀ target, Steps p.tables e below (T'.setTop (mkF m 27 #[.val (.int p0), .val (.int p1), .val (.int p2), .val (.int p3), .val (.int p4), .val (.int la), .val (.int ha), .unset, .unset, .unset, .unset, .unset, .unset, .unset, .unset, .unset] [(.int (if (p4 &&& (1 : Int32)) = 0 then p3 else la))])) target → Steps p.tables e below (T.setTop (mkF m 14 #[.val (.int p0), .val (.int p1), .val (.int p2), .val (.int p3), .val (.int p4), .val (.int la), .val (.int ha), .unset, .unset, .unset, .unset, .unset, .unset, .unset, .unset, .unset] [])) target := by
  by_cases hm : (p4 &&& (1 : Int32)) = 0
  · refine ⟨T, _, X, eT, N, fun target k => ?_⟩
    rw [if_pos hm] at k
    show Steps p.tables e below (T.setTop (mkF m 14 #[.val (.int p0), .val (.int p1), .val (.int p2), .val (.int p3), .val (.int p4), .val (.int la), .val (.int ha), .unset, .unset, .unset, .unset, .unset, .unset, .unset, .unset, .unset] [])) _
    refine XS.iload X.here hx rfl (hb hby at_14) rfl ?_
    show Steps p.tables e below (T.setTop (mkF m 16 #[.val (.int p0), .val (.int p1), .val (.int p2), .val (.int p3), .val (.int p4), .val (.int la), .val (.int ha), .unset, .unset, .unset, .unset, .unset, .unset, .unset, .unset, .unset] [(.int p4)])) _
    refine XS.iconst X.here hx rfl (hb hby at_16) ?_
    show Steps p.tables e below (T.setTop (mkF m 17 #[.val (.int p0), .val (.int p1), .val (.int p2), .val (.int p3), .val (.int p4), .val (.int la), .val (.int ha), .unset, .unset, .unset, .unset, .unset, .unset, .unset, .unset, .unset] [(.int (1 : Int32)), (.int p4)])) _
    refine XS.iand X.here hx rfl (hb hby at_17) rfl ?_
    show Steps p.tables e below (T.setTop (mkF m 18 #[.val (.int p0), .val (.int p1), .val (.int p2), .val (.int p3), .val (.int p4), .val (.int la), .val (.int ha), .unset, .unset, .unset, .unset, .unset, .unset, .unset, .unset, .unset] [(.int (p4 &&& (1 : Int32)))])) _
    refine XS.ifYes X.here hx rfl (pc0 := 18) (pc' := 26) rfl (hb hby at_18) rfl (XT.i0_eq_t hm) (by decide) (by decide) ?_
    show Steps p.tables e below (T.setTop (mkF m 26 #[.val (.int p0), .val (.int p1), .val (.int p2), .val (.int p3), .val (.int p4), .val (.int la), .val (.int ha), .unset, .unset, .unset, .unset, .unset, .unset, .unset, .unset, .unset] [])) _
    refine XS.iloadN X.here hx rfl (hb hby at_26) rfl ?_
    show Steps p.tables e below (T.setTop (mkF m 27 #[.val (.int p0), .val (.int p1), .val (.int p2), .val (.int p3), .val (.int p4), .val (.int la), .val (.int ha), .unset, .unset, .unset, .unset, .unset, .unset, .unset, .unset, .unset] [(.int p3)])) _
    exact k
  · refine ⟨T, _, X, eT, N, fun target k => ?_⟩
    rw [if_neg hm] at k
    show Steps p.tables e below (T.setTop (mkF m 14 #[.val (.int p0), .val (.int p1), .val (.int p2), .val (.int p3), .val (.int p4), .val (.int la), .val (.int ha), .unset, .unset, .unset, .unset, .unset, .unset, .unset, .unset, .unset] [])) _
    refine XS.iload X.here hx rfl (hb hby at_14) rfl ?_
    show Steps p.tables e below (T.setTop (mkF m 16 #[.val (.int p0), .val (.int p1), .val (.int p2), .val (.int p3), .val (.int p4), .val (.int la), .val (.int ha), .unset, .unset, .unset, .unset, .unset, .unset, .unset, .unset, .unset] [(.int p4)])) _
    refine XS.iconst X.here hx rfl (hb hby at_16) ?_
    show Steps p.tables e below (T.setTop (mkF m 17 #[.val (.int p0), .val (.int p1), .val (.int p2), .val (.int p3), .val (.int p4), .val (.int la), .val (.int ha), .unset, .unset, .unset, .unset, .unset, .unset, .unset, .unset, .unset] [(.int (1 : Int32)), (.int p4)])) _
    refine XS.iand X.here hx rfl (hb hby at_17) rfl ?_
    show Steps p.tables e below (T.setTop (mkF m 18 #[.val (.int p0), .val (.int p1), .val (.int p2), .val (.int p3), .val (.int p4), .val (.int la), .val (.int ha), .unset, .unset, .unset, .unset, .unset, .unset, .unset, .unset, .unset] [(.int (p4 &&& (1 : Int32)))])) _
    refine XS.ifNo X.here hx rfl (hb hby at_18) rfl (XT.i0_eq_f hm) ?_
    show Steps p.tables e below (T.setTop (mkF m 21 #[.val (.int p0), .val (.int p1), .val (.int p2), .val (.int p3), .val (.int p4), .val (.int la), .val (.int ha), .unset, .unset, .unset, .unset, .unset, .unset, .unset, .unset, .unset] [])) _
    refine XS.iload X.here hx rfl (hb hby at_21) rfl ?_
    show Steps p.tables e below (T.setTop (mkF m 23 #[.val (.int p0), .val (.int p1), .val (.int p2), .val (.int p3), .val (.int p4), .val (.int la), .val (.int ha), .unset, .unset, .unset, .unset, .unset, .unset, .unset, .unset, .unset] [(.int la)])) _
    refine XS.goto X.here hx rfl (pc0 := 23) (pc' := 27) rfl (hb hby at_23) (by decide) (by decide) ?_
    show Steps p.tables e below (T.setTop (mkF m 27 #[.val (.int p0), .val (.int p1), .val (.int p2), .val (.int p3), .val (.int p4), .val (.int la), .val (.int ha), .unset, .unset, .unset, .unset, .unset, .unset, .unset, .unset, .unset] [(.int la)])) _
    exact k
theorem own_ord (x y : Int32) : ¬ (if x < y then y else x) < (if y < x then y else x) := by
  simp only [Int32.lt_iff_toInt_lt]
  split <;> split <;> omega
theorem own_not {la ha lb hb : Int32} (h1 : ¬ ha < la) (h2 : ¬ hb < lb) (h3 : hb < la) : ¬ ha < lb := by
  simp only [Int32.lt_iff_toInt_lt] at *
  omega
theorem pn_own_law : plainName "com/example/knitwork/knitwork/BoundsAbovePinLaw" = true := by first | (simp [plainName, overriddenIn]; done) | decide +kernel
theorem ef_own_law (m : MethodId) (x0 : Int32) (x1 : Int32) (x2 : Int32) (x3 : Int32) (x4 : Int32) : entryFrame m #[(.int x0), (.int x1), (.int x2), (.int x3), (.int x4)] maxLocals = mkF m 0 #[.val (.int x0), .val (.int x1), .val (.int x2), .val (.int x3), .val (.int x4), .unset, .unset, .unset, .unset, .unset, .unset, .unset, .unset, .unset, .unset, .unset] [] := by first | (simp [entryFrame, mkF, argsToLocals, Value.category, maxLocals]; done) | rfl
def Q_own_law (Z : State) (p0 : Int32) (p1 : Int32) (p2 : Int32) (p3 : Int32) (p4 : Int32) (la : Int32) (ha : Int32) (yy : Int32) (lb : Int32) (hb_ : Int32) (h0 : Heap) (n0 : Nat) (v : Option Value) (h : Heap) (L : List Loc) : Prop := v = some (.int 1) ∧ Fr n0 L
set_option maxRecDepth 65536 in
set_option maxHeartbeats 40000000 in
theorem own_law (l : Launch) (Z : State) (a0 : Array Value) (hw : ∀ d ∈ tables_1, d.before a0 Z = true) (ws : List Jvm.Cond) (p0 : Int32) (p1 : Int32) (p2 : Int32) (p3 : Int32) (p4 : Int32) (la : Int32) (ha : Int32) (yy : Int32) (lb : Int32) (hb_ : Int32) (h0 : Heap) (n0 : Nat) (Z0 : n0 ≤ h0.size) (h1 : (if p1 < p0 then p1 else p0) = la) (h2 : (if p0 < p1 then p1 else p0) = ha) (hyy : (if (p4 &&& (1 : Int32)) = 0 then p3 else la) = yy) (h3 : (if yy < p2 then yy else p2) = lb) (h4 : (if p2 < yy then yy else p2) = hb_) (hlh : ¬ ha < la) (hlh2 : ¬ hb_ < lb) :
    MetFree l x (head1 (Jvm.Cond.code x code maxLocals ret :: ws) room_1) (fun a U => a = #[(.int p0), (.int p1), (.int p2), (.int p3), (.int p4)] ∧ Z.Warmed39 U.vm ∧ U.heap = h0) (fun _ _ _ _ _ => True) (fun _ U o U' => ∃ v L, o = .returned v ∧ Q_own_law Z p0 p1 p2 p3 p4 la ha yy lb hb_ h0 n0 v U'.heap L ∧ FrameEnd U o U' L 16 128) := by
  refine MetFree.of_bodySF (plainFor_of_name pn_own_law) hisR ?_
  intro p e s m args below meth c s₁ Bd hml0 hP hK
  obtain ⟨rfl, hZ, hh⟩ := hP
  have hx := Bd.exec
  have hby := Bd.bytes
  have hml : c.maxLocals = 16 := hml0
  have hown : s.vm.findClass "com/example/knitwork/knitwork/BoundsAbovePinLaw" = some m.cls := findClass_of_methodNamed Bd.named
  have hnm := (name_of_methodNamed Bd.named Bd.method).1
  have X0 : Stand p l e room_1 s m #[(.int p0), (.int p1), (.int p2), (.int p3), (.int p4)] below meth c s₁ [] 0 0 := Stand.of_body Bd
  have e0 : s₁.heap = h0 := by rw [← hh, Bd.state]; rfl
  have N0 := Fr.nil n0
  have pre0 : ∀ t, Steps p.tables e below (s₁.setTop (mkF m 0 #[.val (.int p0), .val (.int p1), .val (.int p2), .val (.int p3), .val (.int p4), .unset, .unset, .unset, .unset, .unset, .unset, .unset, .unset, .unset, .unset, .unset] [])) t → Steps p.tables e below (s₁.setTop (entryFrame m #[(.int p0), (.int p1), (.int p2), (.int p3), (.int p4)] maxLocals)) t := fun t k => castTop (ef_own_law m (p0) (p1) (p2) (p3) (p4)) k
  obtain ⟨_, _, ⟨T14, L14, k14, n14⟩, -, X14, ⟨Lc14, hQ14, l14, y14, z14⟩, st14⟩ := Jvm.LawKit.callS X0 hx (y := (⟨"java/lang/Math", "min", "(II)I"⟩ : MethodName)) hown (mvT hZ (hw _ (List.mem_of_getElem? (i := 0) rfl))) (mvT hZ (hw _ (List.mem_of_getElem? (i := 1) rfl))) (mvT hZ (hw _ (List.mem_of_getElem? (i := 2) rfl))) (mvT hZ (hw _ (List.mem_of_getElem? (i := 3) rfl))) (by decide) (backOf (W := 0) (own_min l Z a0 hw [] p0 p1 h0 n0 Z0 ) hZ (hw _ (List.mem_of_getElem? (i := 3) rfl)) (hw _ (List.mem_of_getElem? (i := 2) rfl)) (by decide) (by decide)) (g := (mkF m 2 #[.val (.int p0), .val (.int p1), .val (.int p2), .val (.int p3), .val (.int p4), .unset, .unset, .unset, .unset, .unset, .unset, .unset, .unset, .unset, .unset, .unset] [(.int p1), (.int p0)])) rfl (by rw [hml]; rfl) (argsL := [(.int p0), (.int p1)]) (rest := []) (lenOf pd_1 rfl) rfl (by show 2 * 0 + _ ≤ _; exact Nat.le_of_eq rfl) (hb hby at_2) (fun _ _ => ⟨rfl, e0, (by decide : 0 + 0 ≤ _), (by decide : 0 + 0 ≤ _)⟩)
  dsimp only [Pt.U, Pt.locs, Pt.cells, Pt.slots] at X14 l14 y14 z14 st14 hQ14
  subst l14 y14 z14
  obtain ⟨rfl, N14q, eh14⟩ := hQ14
  have N14 := Fr.app N0 N14q
  obtain ⟨_, _, ⟨T15, L15, k15, n15⟩, -, X15, ⟨Lc15, hQ15, l15, y15, z15⟩, st15⟩ := Jvm.LawKit.callS X14 hx (y := (⟨"java/lang/Math", "max", "(II)I"⟩ : MethodName)) hown (mvT hZ (hw _ (List.mem_of_getElem? (i := 4) rfl))) (mvT hZ (hw _ (List.mem_of_getElem? (i := 5) rfl))) (mvT hZ (hw _ (List.mem_of_getElem? (i := 2) rfl))) (mvT hZ (hw _ (List.mem_of_getElem? (i := 6) rfl))) (by decide) (backOf (W := 0) (own_max l Z a0 hw [] p0 p1 h0 n0 Z0 ) hZ (hw _ (List.mem_of_getElem? (i := 6) rfl)) (hw _ (List.mem_of_getElem? (i := 2) rfl)) (by decide) (by decide)) (g := (mkF m 9 #[.val (.int p0), .val (.int p1), .val (.int p2), .val (.int p3), .val (.int p4), .val (.int la), .unset, .unset, .unset, .unset, .unset, .unset, .unset, .unset, .unset, .unset] [(.int p1), (.int p0)])) rfl (by rw [hml]; rfl) (argsL := [(.int p0), (.int p1)]) (rest := []) (lenOf pd_1 rfl) rfl (by show 2 * 0 + _ ≤ _; exact Nat.le_of_eq rfl) (hb hby at_9) (fun _ _ => ⟨rfl, eh14, (by decide : 0 + 0 ≤ _), (by decide : 0 + 0 ≤ _)⟩)
  dsimp only [Pt.U, Pt.locs, Pt.cells, Pt.slots] at X15 l15 y15 z15 st15 hQ15
  subst l15 y15 z15
  obtain ⟨rfl, N15q, eh15⟩ := hQ15
  have N15 := Fr.app N14 N15q
  obtain ⟨T16, L16, X16, e16, N16, st16⟩ := own_sy hw X15 hx hZ hby hml hown eh15 N15 Z0 p0 p1 p2 p3 p4 la ha
  obtain ⟨_, _, ⟨T17, L17, k17, n17⟩, -, X17, ⟨Lc17, hQ17, l17, y17, z17⟩, st17⟩ := Jvm.LawKit.callS X16 hx (y := (⟨"java/lang/Math", "min", "(II)I"⟩ : MethodName)) hown (mvT hZ (hw _ (List.mem_of_getElem? (i := 0) rfl))) (mvT hZ (hw _ (List.mem_of_getElem? (i := 1) rfl))) (mvT hZ (hw _ (List.mem_of_getElem? (i := 2) rfl))) (mvT hZ (hw _ (List.mem_of_getElem? (i := 3) rfl))) (by decide) (backOf (W := 0) (own_min l Z a0 hw [] p2 yy h0 n0 Z0 ) hZ (hw _ (List.mem_of_getElem? (i := 3) rfl)) (hw _ (List.mem_of_getElem? (i := 2) rfl)) (by decide) (by decide)) (g := (mkF m 32 #[.val (.int p0), .val (.int p1), .val (.int p2), .val (.int p3), .val (.int p4), .val (.int la), .val (.int ha), .val (.int yy), .unset, .unset, .unset, .unset, .unset, .unset, .unset, .unset] [(.int yy), (.int p2)])) rfl (by rw [hml]; rfl) (argsL := [(.int p2), (.int yy)]) (rest := []) (lenOf pd_1 rfl) rfl (by show 2 * 0 + _ ≤ _; exact Nat.le_of_eq rfl) (hb hby at_32) (fun _ _ => ⟨rfl, e16, (by decide : 0 + 0 ≤ _), (by decide : 0 + 0 ≤ _)⟩)
  dsimp only [Pt.U, Pt.locs, Pt.cells, Pt.slots] at X17 l17 y17 z17 st17 hQ17
  subst l17 y17 z17
  obtain ⟨rfl, N17q, eh17⟩ := hQ17
  have N17 := Fr.app N16 N17q
  obtain ⟨_, _, ⟨T18, L18, k18, n18⟩, -, X18, ⟨Lc18, hQ18, l18, y18, z18⟩, st18⟩ := Jvm.LawKit.callS X17 hx (y := (⟨"java/lang/Math", "max", "(II)I"⟩ : MethodName)) hown (mvT hZ (hw _ (List.mem_of_getElem? (i := 4) rfl))) (mvT hZ (hw _ (List.mem_of_getElem? (i := 5) rfl))) (mvT hZ (hw _ (List.mem_of_getElem? (i := 2) rfl))) (mvT hZ (hw _ (List.mem_of_getElem? (i := 6) rfl))) (by decide) (backOf (W := 0) (own_max l Z a0 hw [] p2 yy h0 n0 Z0 ) hZ (hw _ (List.mem_of_getElem? (i := 6) rfl)) (hw _ (List.mem_of_getElem? (i := 2) rfl)) (by decide) (by decide)) (g := (mkF m 40 #[.val (.int p0), .val (.int p1), .val (.int p2), .val (.int p3), .val (.int p4), .val (.int la), .val (.int ha), .val (.int yy), .val (.int lb), .unset, .unset, .unset, .unset, .unset, .unset, .unset] [(.int yy), (.int p2)])) rfl (by rw [hml]; rfl) (argsL := [(.int p2), (.int yy)]) (rest := []) (lenOf pd_1 rfl) rfl (by show 2 * 0 + _ ≤ _; exact Nat.le_of_eq rfl) (hb hby at_40) (fun _ _ => ⟨rfl, eh17, (by decide : 0 + 0 ≤ _), (by decide : 0 + 0 ≤ _)⟩)
  dsimp only [Pt.U, Pt.locs, Pt.cells, Pt.slots] at X18 l18 y18 z18 st18 hQ18
  subst l18 y18 z18
  obtain ⟨rfl, N18q, eh18⟩ := hQ18
  have N18 := Fr.app N17 N18q
  obtain ⟨T19, h19, X19, e19, E19, A19, D19, -, st19⟩ := newO X18 hx hZ hown (hw _ (List.mem_of_getElem? (i := 7) rfl)) (hw _ (List.mem_of_getElem? (i := 8) rfl)) (hw _ (List.mem_of_getElem? (i := 9) rfl)) eh18 (g := (mkF m 45 #[.val (.int p0), .val (.int p1), .val (.int p2), .val (.int p3), .val (.int p4), .val (.int la), .val (.int ha), .val (.int yy), .val (.int lb), .val (.int hb_), .unset, .unset, .unset, .unset, .unset, .unset] [])) rfl (hb hby at_45) (by decide) (by decide)
  obtain ⟨b19, g19⟩ : ∃ z, z = h0.size := ⟨_, rfl⟩
  rw [← g19] at A19 D19 st19
  have g_b19 : n0 ≤ b19 := Nat.le_trans Z0 (Nat.le_of_eq g19.symm)
  have F19_low : Fld Z h19 b19 "com/example/knitwork/knitwork/Bounds" "low" "D" (.double 0) := D19 (Or.inr (hw _ (List.mem_of_getElem? (i := 22) rfl))) (ty := .double) (by decide)
  have F19_high : Fld Z h19 b19 "com/example/knitwork/knitwork/Bounds" "high" "D" (.double 0) := D19 (Or.inr (hw _ (List.mem_of_getElem? (i := 24) rfl))) (ty := .double) (by decide)
  obtain ⟨_, _, ⟨T20, L20, k20, n20⟩, -, X20, ⟨Lc20, hQ20, l20, y20, z20⟩, st20⟩ := X19.specialBack hx (y := (⟨"com/example/knitwork/knitwork/Bounds", "<init>", "(DD)V"⟩ : MethodName)) rfl hown (mvT hZ (hw _ (List.mem_of_getElem? (i := 10) rfl))) (mvT hZ (hw _ (List.mem_of_getElem? (i := 11) rfl))) (mvT hZ (hw _ (List.mem_of_getElem? (i := 12) rfl))) (by decide) (backOf (W := 1) (own_init l Z a0 hw [] b19 (FP.i2d la) (FP.i2d ha) h19 n0 (Nat.le_trans Z0 E19.1) A19 F19_low F19_high g_b19) hZ (hw _ (List.mem_of_getElem? (i := 12) rfl)) (hw _ (List.mem_of_getElem? (i := 9) rfl)) (by decide) (by decide)) (g := (mkF m 55 #[.val (.int p0), .val (.int p1), .val (.int p2), .val (.int p3), .val (.int p4), .val (.int la), .val (.int ha), .val (.int yy), .val (.int lb), .val (.int hb_), .unset, .unset, .unset, .unset, .unset, .unset] [(.double (FP.i2d ha)), (.double (FP.i2d la)), (.ref b19), (.ref b19)])) rfl (by rw [hml]; rfl) (Steps.refl _) (a := b19) (argsL := [(.double (FP.i2d la)), (.double (FP.i2d ha))]) (rest := [(.ref b19)]) (lenOf pd_2 rfl) rfl (by show 2 * 0 + _ ≤ _; exact Nat.le_of_eq rfl) (hb hby at_55) (fun _ _ => ⟨rfl, e19, (by decide : 1 + 0 ≤ _), (by decide : 2 + 0 ≤ _)⟩)
  dsimp only [Pt.U, Pt.locs, Pt.cells, Pt.slots] at X20 l20 y20 z20 st20 hQ20
  subst l20 y20 z20
  obtain ⟨rfl, N20q, K20, Fl20, Fh20⟩ := hQ20
  have N20 := Fr.app N18 N20q
  obtain ⟨T21, h21, X21, e21, E21, A21, D21, -, st21⟩ := newO X20 hx hZ hown (hw _ (List.mem_of_getElem? (i := 7) rfl)) (hw _ (List.mem_of_getElem? (i := 8) rfl)) (hw _ (List.mem_of_getElem? (i := 9) rfl)) rfl (g := (mkF m 60 #[.val (.int p0), .val (.int p1), .val (.int p2), .val (.int p3), .val (.int p4), .val (.int la), .val (.int ha), .val (.int yy), .val (.int lb), .val (.int hb_), .val (.ref b19), .unset, .unset, .unset, .unset, .unset] [])) rfl (hb hby at_60) (by decide) (by decide)
  obtain ⟨b21, g21⟩ : ∃ z, z = T20.heap.size := ⟨_, rfl⟩
  rw [← g21] at A21 D21 st21
  have g_b21 : n0 ≤ b21 := Nat.le_trans (Nat.le_trans (Nat.le_trans Z0 E19.1) K20.1) (Nat.le_of_eq g21.symm)
  have lt_b19_b21 : b19 < b21 := Nat.lt_of_lt_of_eq (A19.keep K20).lt g21.symm
  have F21_low : Fld Z h21 b21 "com/example/knitwork/knitwork/Bounds" "low" "D" (.double 0) := D21 (Or.inr (hw _ (List.mem_of_getElem? (i := 22) rfl))) (ty := .double) (by decide)
  have F21_high : Fld Z h21 b21 "com/example/knitwork/knitwork/Bounds" "high" "D" (.double 0) := D21 (Or.inr (hw _ (List.mem_of_getElem? (i := 24) rfl))) (ty := .double) (by decide)
  obtain ⟨_, _, ⟨T22, L22, k22, n22⟩, -, X22, ⟨Lc22, hQ22, l22, y22, z22⟩, st22⟩ := X21.specialBack hx (y := (⟨"com/example/knitwork/knitwork/Bounds", "<init>", "(DD)V"⟩ : MethodName)) rfl hown (mvT hZ (hw _ (List.mem_of_getElem? (i := 10) rfl))) (mvT hZ (hw _ (List.mem_of_getElem? (i := 11) rfl))) (mvT hZ (hw _ (List.mem_of_getElem? (i := 12) rfl))) (by decide) (backOf (W := 1) (own_init l Z a0 hw [] b21 (FP.i2d lb) (FP.i2d hb_) h21 n0 (Nat.le_trans (Nat.le_trans (Nat.le_trans Z0 E19.1) K20.1) E21.1) A21 F21_low F21_high g_b21) hZ (hw _ (List.mem_of_getElem? (i := 12) rfl)) (hw _ (List.mem_of_getElem? (i := 9) rfl)) (by decide) (by decide)) (g := (mkF m 70 #[.val (.int p0), .val (.int p1), .val (.int p2), .val (.int p3), .val (.int p4), .val (.int la), .val (.int ha), .val (.int yy), .val (.int lb), .val (.int hb_), .val (.ref b19), .unset, .unset, .unset, .unset, .unset] [(.double (FP.i2d hb_)), (.double (FP.i2d lb)), (.ref b21), (.ref b21)])) rfl (by rw [hml]; rfl) (Steps.refl _) (a := b21) (argsL := [(.double (FP.i2d lb)), (.double (FP.i2d hb_))]) (rest := [(.ref b21)]) (lenOf pd_2 rfl) rfl (by show 2 * 0 + _ ≤ _; exact Nat.le_of_eq rfl) (hb hby at_70) (fun _ _ => ⟨rfl, e21, (by decide : 2 + 0 ≤ _), (by decide : 4 + 0 ≤ _)⟩)
  dsimp only [Pt.U, Pt.locs, Pt.cells, Pt.slots] at X22 l22 y22 z22 st22 hQ22
  subst l22 y22 z22
  obtain ⟨rfl, N22q, K22, Fl22, Fh22⟩ := hQ22
  have N22 := Fr.app N20 N22q
  obtain ⟨cq23, kq23, q23a, q23b, q23c⟩ := isOf hZ rfl (((A19.keep K20).ext E21).keep K22)
  obtain ⟨_, _, ⟨T23, L23, k23, n23⟩, -, X23, ⟨Lc23, hQ23, l23, y23, z23⟩, st23⟩ := X22.virtualBack hx (y := (⟨"com/example/knitwork/knitwork/Bounds", "above", "(Lcom/example/knitwork/knitwork/Bounds;)Z"⟩ : MethodName)) (z := (⟨"com/example/knitwork/knitwork/Bounds", "above", "(Lcom/example/knitwork/knitwork/Bounds;)Z"⟩ : MethodName)) hown (mvT hZ (hw _ (List.mem_of_getElem? (i := 25) rfl))) (mvT hZ (hw _ (List.mem_of_getElem? (i := 26) rfl))) (notFace_of_selects (args := #[]) (mvT hZ (hw _ (List.mem_of_getElem? (i := 28) rfl)))) (mvT hZ (hw _ (List.mem_of_getElem? (i := 28) rfl))) (mvT hZ (hw _ (List.mem_of_getElem? (i := 27) rfl))) (by decide) (backOf (W := 0) (own_above l Z a0 hw [] b19 b21 (FP.i2d la) (FP.i2d hb_) T22.heap n0 (Nat.le_trans (Nat.le_trans (Nat.le_trans (Nat.le_trans Z0 E19.1) K20.1) E21.1) K22.1) ((Fl20.ext E21).keep K22 (ninS (Nat.ne_of_lt lt_b19_b21) nin0)) Fh22) hZ (hw _ (List.mem_of_getElem? (i := 29) rfl)) (hw _ (List.mem_of_getElem? (i := 9) rfl)) (by decide) (by decide)) q23a q23c (g := (mkF m 79 #[.val (.int p0), .val (.int p1), .val (.int p2), .val (.int p3), .val (.int p4), .val (.int la), .val (.int ha), .val (.int yy), .val (.int lb), .val (.int hb_), .val (.ref b19), .val (.ref b21), .unset, .unset, .unset, .unset] [(.ref b21), (.ref b19)])) rfl (by rw [hml]; rfl) (Steps.refl _) (argsL := [(.ref b21)]) (rest := []) (lenOf pd_3 rfl) rfl (by show 2 * 0 + _ ≤ _; exact Nat.le_of_eq rfl) (hb hby at_79) (fun _ _ => ⟨rfl, rfl, (by decide : 2 + 0 ≤ _), (by decide : 4 + 0 ≤ _)⟩)
  dsimp only [Pt.U, Pt.locs, Pt.cells, Pt.slots] at X23 l23 y23 z23 st23 hQ23
  subst l23 y23 z23
  obtain ⟨rfl, N23q, eh23⟩ := hQ23
  have N23 := Fr.app N22 N23q
  obtain ⟨cq24, kq24, q24a, q24b, q24c⟩ := isOf hZ eh23 (A21.keep K22)
  obtain ⟨_, _, ⟨T24, L24, k24, n24⟩, -, X24, ⟨Lc24, hQ24, l24, y24, z24⟩, st24⟩ := X23.virtualBack hx (y := (⟨"com/example/knitwork/knitwork/Bounds", "above", "(Lcom/example/knitwork/knitwork/Bounds;)Z"⟩ : MethodName)) (z := (⟨"com/example/knitwork/knitwork/Bounds", "above", "(Lcom/example/knitwork/knitwork/Bounds;)Z"⟩ : MethodName)) hown (mvT hZ (hw _ (List.mem_of_getElem? (i := 25) rfl))) (mvT hZ (hw _ (List.mem_of_getElem? (i := 26) rfl))) (notFace_of_selects (args := #[]) (mvT hZ (hw _ (List.mem_of_getElem? (i := 28) rfl)))) (mvT hZ (hw _ (List.mem_of_getElem? (i := 28) rfl))) (mvT hZ (hw _ (List.mem_of_getElem? (i := 27) rfl))) (by decide) (backOf (W := 0) (own_above l Z a0 hw [] b21 b19 (FP.i2d lb) (FP.i2d ha) T22.heap n0 (Nat.le_trans (Nat.le_trans (Nat.le_trans (Nat.le_trans Z0 E19.1) K20.1) E21.1) K22.1) Fl22 ((Fh20.ext E21).keep K22 (ninS (Nat.ne_of_lt lt_b19_b21) nin0))) hZ (hw _ (List.mem_of_getElem? (i := 29) rfl)) (hw _ (List.mem_of_getElem? (i := 9) rfl)) (by decide) (by decide)) q24a q24c (g := (mkF m 88 #[.val (.int p0), .val (.int p1), .val (.int p2), .val (.int p3), .val (.int p4), .val (.int la), .val (.int ha), .val (.int yy), .val (.int lb), .val (.int hb_), .val (.ref b19), .val (.ref b21), .val (.int (if hb_ < la then (1 : Int32) else (0 : Int32))), .unset, .unset, .unset] [(.ref b19), (.ref b21)])) rfl (by rw [hml]; rfl) (Steps.refl _) (argsL := [(.ref b19)]) (rest := []) (lenOf pd_3 rfl) rfl (by show 2 * 0 + _ ≤ _; exact Nat.le_of_eq rfl) (hb hby at_88) (fun _ _ => ⟨rfl, eh23, (by decide : 2 + 0 ≤ _), (by decide : 4 + 0 ≤ _)⟩)
  dsimp only [Pt.U, Pt.locs, Pt.cells, Pt.slots] at X24 l24 y24 z24 st24 hQ24
  subst l24 y24 z24
  obtain ⟨rfl, N24q, eh24⟩ := hQ24
  have N24 := Fr.app N23 N24q
  obtain ⟨cq25, kq25, q25a, q25b, q25c⟩ := isOf hZ eh24 (((A19.keep K20).ext E21).keep K22)
  obtain ⟨_, _, ⟨T25, L25, k25, n25⟩, -, X25, ⟨Lc25, hQ25, l25, y25, z25⟩, st25⟩ := X24.virtualBack hx (y := (⟨"com/example/knitwork/knitwork/Bounds", "above", "(Lcom/example/knitwork/knitwork/Bounds;)Z"⟩ : MethodName)) (z := (⟨"com/example/knitwork/knitwork/Bounds", "above", "(Lcom/example/knitwork/knitwork/Bounds;)Z"⟩ : MethodName)) hown (mvT hZ (hw _ (List.mem_of_getElem? (i := 25) rfl))) (mvT hZ (hw _ (List.mem_of_getElem? (i := 26) rfl))) (notFace_of_selects (args := #[]) (mvT hZ (hw _ (List.mem_of_getElem? (i := 28) rfl)))) (mvT hZ (hw _ (List.mem_of_getElem? (i := 28) rfl))) (mvT hZ (hw _ (List.mem_of_getElem? (i := 27) rfl))) (by decide) (backOf (W := 0) (own_above l Z a0 hw [] b19 b19 (FP.i2d la) (FP.i2d ha) T22.heap n0 (Nat.le_trans (Nat.le_trans (Nat.le_trans (Nat.le_trans Z0 E19.1) K20.1) E21.1) K22.1) ((Fl20.ext E21).keep K22 (ninS (Nat.ne_of_lt lt_b19_b21) nin0)) ((Fh20.ext E21).keep K22 (ninS (Nat.ne_of_lt lt_b19_b21) nin0))) hZ (hw _ (List.mem_of_getElem? (i := 29) rfl)) (hw _ (List.mem_of_getElem? (i := 9) rfl)) (by decide) (by decide)) q25a q25c (g := (mkF m 97 #[.val (.int p0), .val (.int p1), .val (.int p2), .val (.int p3), .val (.int p4), .val (.int la), .val (.int ha), .val (.int yy), .val (.int lb), .val (.int hb_), .val (.ref b19), .val (.ref b21), .val (.int (if hb_ < la then (1 : Int32) else (0 : Int32))), .val (.int (if ha < lb then (1 : Int32) else (0 : Int32))), .unset, .unset] [(.ref b19), (.ref b19)])) rfl (by rw [hml]; rfl) (Steps.refl _) (argsL := [(.ref b19)]) (rest := []) (lenOf pd_3 rfl) rfl (by show 2 * 0 + _ ≤ _; exact Nat.le_of_eq rfl) (hb hby at_97) (fun _ _ => ⟨rfl, eh24, (by decide : 2 + 0 ≤ _), (by decide : 4 + 0 ≤ _)⟩)
  dsimp only [Pt.U, Pt.locs, Pt.cells, Pt.slots] at X25 l25 y25 z25 st25 hQ25
  subst l25 y25 z25
  obtain ⟨rfl, N25q, eh25⟩ := hQ25
  have N25 := Fr.app N24 N25q
  obtain ⟨cq26, kq26, q26a, q26b, q26c⟩ := isOf hZ eh25 (A21.keep K22)
  obtain ⟨_, _, ⟨T26, L26, k26, n26⟩, -, X26, ⟨Lc26, hQ26, l26, y26, z26⟩, st26⟩ := X25.virtualBack hx (y := (⟨"com/example/knitwork/knitwork/Bounds", "below", "(Lcom/example/knitwork/knitwork/Bounds;)Z"⟩ : MethodName)) (z := (⟨"com/example/knitwork/knitwork/Bounds", "below", "(Lcom/example/knitwork/knitwork/Bounds;)Z"⟩ : MethodName)) hown (mvT hZ (hw _ (List.mem_of_getElem? (i := 30) rfl))) (mvT hZ (hw _ (List.mem_of_getElem? (i := 31) rfl))) (notFace_of_selects (args := #[]) (mvT hZ (hw _ (List.mem_of_getElem? (i := 33) rfl)))) (mvT hZ (hw _ (List.mem_of_getElem? (i := 33) rfl))) (mvT hZ (hw _ (List.mem_of_getElem? (i := 32) rfl))) (by decide) (backOf (W := 0) (own_below l Z a0 hw [] b21 b19 (FP.i2d hb_) (FP.i2d la) T22.heap n0 (Nat.le_trans (Nat.le_trans (Nat.le_trans (Nat.le_trans Z0 E19.1) K20.1) E21.1) K22.1) Fh22 ((Fl20.ext E21).keep K22 (ninS (Nat.ne_of_lt lt_b19_b21) nin0))) hZ (hw _ (List.mem_of_getElem? (i := 34) rfl)) (hw _ (List.mem_of_getElem? (i := 9) rfl)) (by decide) (by decide)) q26a q26c (g := (mkF m 106 #[.val (.int p0), .val (.int p1), .val (.int p2), .val (.int p3), .val (.int p4), .val (.int la), .val (.int ha), .val (.int yy), .val (.int lb), .val (.int hb_), .val (.ref b19), .val (.ref b21), .val (.int (if hb_ < la then (1 : Int32) else (0 : Int32))), .val (.int (if ha < lb then (1 : Int32) else (0 : Int32))), .val (.int (if ha < la then (1 : Int32) else (0 : Int32))), .unset] [(.ref b19), (.ref b21)])) rfl (by rw [hml]; rfl) (Steps.refl _) (argsL := [(.ref b19)]) (rest := []) (lenOf pd_3 rfl) rfl (by show 2 * 0 + _ ≤ _; exact Nat.le_of_eq rfl) (hb hby at_106) (fun _ _ => ⟨rfl, eh25, (by decide : 2 + 0 ≤ _), (by decide : 4 + 0 ≤ _)⟩)
  dsimp only [Pt.U, Pt.locs, Pt.cells, Pt.slots] at X26 l26 y26 z26 st26 hQ26
  subst l26 y26 z26
  obtain ⟨rfl, N26q, eh26⟩ := hQ26
  have N26 := Fr.app N25 N26q
  by_cases hq1 : hb_ < la
  · by_cases hq2 : ha < lb
    · exact absurd hq2 (own_not hlh hlh2 hq1)
    · obtain ⟨fs, hr, hrun, hended, hW, hsame⟩ := X26.leave (v := some (.int (1 : Int32))) (fun h => by rw [Bd.returns] at h; cases h)
      refine ⟨_, _, pre0 _ ?_, hrun, hended, _, _, rfl, ?_, ⟨_, rfl⟩, hW, hsame.mono (by decide) (by decide)⟩
      · show Steps p.tables e below (s₁.setTop (mkF m 0 #[.val (.int p0), .val (.int p1), .val (.int p2), .val (.int p3), .val (.int p4), .unset, .unset, .unset, .unset, .unset, .unset, .unset, .unset, .unset, .unset, .unset] [])) _
        refine XS.iloadN X0.here hx rfl (hb hby at_0) rfl ?_
        show Steps p.tables e below (s₁.setTop (mkF m 1 #[.val (.int p0), .val (.int p1), .val (.int p2), .val (.int p3), .val (.int p4), .unset, .unset, .unset, .unset, .unset, .unset, .unset, .unset, .unset, .unset, .unset] [(.int p0)])) _
        refine XS.iloadN X0.here hx rfl (hb hby at_1) rfl ?_
        show Steps p.tables e below (s₁.setTop (mkF m 2 #[.val (.int p0), .val (.int p1), .val (.int p2), .val (.int p3), .val (.int p4), .unset, .unset, .unset, .unset, .unset, .unset, .unset, .unset, .unset, .unset, .unset] [(.int p1), (.int p0)])) _
        refine st14 _ ?_
        show Steps p.tables e below (T14.setTop (mkF m 5 #[.val (.int p0), .val (.int p1), .val (.int p2), .val (.int p3), .val (.int p4), .unset, .unset, .unset, .unset, .unset, .unset, .unset, .unset, .unset, .unset, .unset] [(.int (if p1 < p0 then p1 else p0))])) _
        rw [h1]
        show Steps p.tables e below (T14.setTop (mkF m 5 #[.val (.int p0), .val (.int p1), .val (.int p2), .val (.int p3), .val (.int p4), .unset, .unset, .unset, .unset, .unset, .unset, .unset, .unset, .unset, .unset, .unset] [(.int la)])) _
        refine XS.istore X14.here hx rfl (hb hby at_5) rfl (l' := #[.val (.int p0), .val (.int p1), .val (.int p2), .val (.int p3), .val (.int p4), .val (.int la), .unset, .unset, .unset, .unset, .unset, .unset, .unset, .unset, .unset, .unset]) rfl ?_
        show Steps p.tables e below (T14.setTop (mkF m 7 #[.val (.int p0), .val (.int p1), .val (.int p2), .val (.int p3), .val (.int p4), .val (.int la), .unset, .unset, .unset, .unset, .unset, .unset, .unset, .unset, .unset, .unset] [])) _
        refine XS.iloadN X14.here hx rfl (hb hby at_7) rfl ?_
        show Steps p.tables e below (T14.setTop (mkF m 8 #[.val (.int p0), .val (.int p1), .val (.int p2), .val (.int p3), .val (.int p4), .val (.int la), .unset, .unset, .unset, .unset, .unset, .unset, .unset, .unset, .unset, .unset] [(.int p0)])) _
        refine XS.iloadN X14.here hx rfl (hb hby at_8) rfl ?_
        show Steps p.tables e below (T14.setTop (mkF m 9 #[.val (.int p0), .val (.int p1), .val (.int p2), .val (.int p3), .val (.int p4), .val (.int la), .unset, .unset, .unset, .unset, .unset, .unset, .unset, .unset, .unset, .unset] [(.int p1), (.int p0)])) _
        refine st15 _ ?_
        show Steps p.tables e below (T15.setTop (mkF m 12 #[.val (.int p0), .val (.int p1), .val (.int p2), .val (.int p3), .val (.int p4), .val (.int la), .unset, .unset, .unset, .unset, .unset, .unset, .unset, .unset, .unset, .unset] [(.int (if p0 < p1 then p1 else p0))])) _
        rw [h2]
        show Steps p.tables e below (T15.setTop (mkF m 12 #[.val (.int p0), .val (.int p1), .val (.int p2), .val (.int p3), .val (.int p4), .val (.int la), .unset, .unset, .unset, .unset, .unset, .unset, .unset, .unset, .unset, .unset] [(.int ha)])) _
        refine XS.istore X15.here hx rfl (hb hby at_12) rfl (l' := #[.val (.int p0), .val (.int p1), .val (.int p2), .val (.int p3), .val (.int p4), .val (.int la), .val (.int ha), .unset, .unset, .unset, .unset, .unset, .unset, .unset, .unset, .unset]) rfl ?_
        show Steps p.tables e below (T15.setTop (mkF m 14 #[.val (.int p0), .val (.int p1), .val (.int p2), .val (.int p3), .val (.int p4), .val (.int la), .val (.int ha), .unset, .unset, .unset, .unset, .unset, .unset, .unset, .unset, .unset] [])) _
        refine st16 _ ?_
        show Steps p.tables e below (T16.setTop (mkF m 27 #[.val (.int p0), .val (.int p1), .val (.int p2), .val (.int p3), .val (.int p4), .val (.int la), .val (.int ha), .unset, .unset, .unset, .unset, .unset, .unset, .unset, .unset, .unset] [(.int (if (p4 &&& (1 : Int32)) = 0 then p3 else la))])) _
        rw [hyy]
        show Steps p.tables e below (T16.setTop (mkF m 27 #[.val (.int p0), .val (.int p1), .val (.int p2), .val (.int p3), .val (.int p4), .val (.int la), .val (.int ha), .unset, .unset, .unset, .unset, .unset, .unset, .unset, .unset, .unset] [(.int yy)])) _
        refine XS.istore X16.here hx rfl (hb hby at_27) rfl (l' := #[.val (.int p0), .val (.int p1), .val (.int p2), .val (.int p3), .val (.int p4), .val (.int la), .val (.int ha), .val (.int yy), .unset, .unset, .unset, .unset, .unset, .unset, .unset, .unset]) rfl ?_
        show Steps p.tables e below (T16.setTop (mkF m 29 #[.val (.int p0), .val (.int p1), .val (.int p2), .val (.int p3), .val (.int p4), .val (.int la), .val (.int ha), .val (.int yy), .unset, .unset, .unset, .unset, .unset, .unset, .unset, .unset] [])) _
        refine XS.iloadN X16.here hx rfl (hb hby at_29) rfl ?_
        show Steps p.tables e below (T16.setTop (mkF m 30 #[.val (.int p0), .val (.int p1), .val (.int p2), .val (.int p3), .val (.int p4), .val (.int la), .val (.int ha), .val (.int yy), .unset, .unset, .unset, .unset, .unset, .unset, .unset, .unset] [(.int p2)])) _
        refine XS.iload X16.here hx rfl (hb hby at_30) rfl ?_
        show Steps p.tables e below (T16.setTop (mkF m 32 #[.val (.int p0), .val (.int p1), .val (.int p2), .val (.int p3), .val (.int p4), .val (.int la), .val (.int ha), .val (.int yy), .unset, .unset, .unset, .unset, .unset, .unset, .unset, .unset] [(.int yy), (.int p2)])) _
        refine st17 _ ?_
        show Steps p.tables e below (T17.setTop (mkF m 35 #[.val (.int p0), .val (.int p1), .val (.int p2), .val (.int p3), .val (.int p4), .val (.int la), .val (.int ha), .val (.int yy), .unset, .unset, .unset, .unset, .unset, .unset, .unset, .unset] [(.int (if yy < p2 then yy else p2))])) _
        rw [h3]
        show Steps p.tables e below (T17.setTop (mkF m 35 #[.val (.int p0), .val (.int p1), .val (.int p2), .val (.int p3), .val (.int p4), .val (.int la), .val (.int ha), .val (.int yy), .unset, .unset, .unset, .unset, .unset, .unset, .unset, .unset] [(.int lb)])) _
        refine XS.istore X17.here hx rfl (hb hby at_35) rfl (l' := #[.val (.int p0), .val (.int p1), .val (.int p2), .val (.int p3), .val (.int p4), .val (.int la), .val (.int ha), .val (.int yy), .val (.int lb), .unset, .unset, .unset, .unset, .unset, .unset, .unset]) rfl ?_
        show Steps p.tables e below (T17.setTop (mkF m 37 #[.val (.int p0), .val (.int p1), .val (.int p2), .val (.int p3), .val (.int p4), .val (.int la), .val (.int ha), .val (.int yy), .val (.int lb), .unset, .unset, .unset, .unset, .unset, .unset, .unset] [])) _
        refine XS.iloadN X17.here hx rfl (hb hby at_37) rfl ?_
        show Steps p.tables e below (T17.setTop (mkF m 38 #[.val (.int p0), .val (.int p1), .val (.int p2), .val (.int p3), .val (.int p4), .val (.int la), .val (.int ha), .val (.int yy), .val (.int lb), .unset, .unset, .unset, .unset, .unset, .unset, .unset] [(.int p2)])) _
        refine XS.iload X17.here hx rfl (hb hby at_38) rfl ?_
        show Steps p.tables e below (T17.setTop (mkF m 40 #[.val (.int p0), .val (.int p1), .val (.int p2), .val (.int p3), .val (.int p4), .val (.int la), .val (.int ha), .val (.int yy), .val (.int lb), .unset, .unset, .unset, .unset, .unset, .unset, .unset] [(.int yy), (.int p2)])) _
        refine st18 _ ?_
        show Steps p.tables e below (T18.setTop (mkF m 43 #[.val (.int p0), .val (.int p1), .val (.int p2), .val (.int p3), .val (.int p4), .val (.int la), .val (.int ha), .val (.int yy), .val (.int lb), .unset, .unset, .unset, .unset, .unset, .unset, .unset] [(.int (if p2 < yy then yy else p2))])) _
        rw [h4]
        show Steps p.tables e below (T18.setTop (mkF m 43 #[.val (.int p0), .val (.int p1), .val (.int p2), .val (.int p3), .val (.int p4), .val (.int la), .val (.int ha), .val (.int yy), .val (.int lb), .unset, .unset, .unset, .unset, .unset, .unset, .unset] [(.int hb_)])) _
        refine XS.istore X18.here hx rfl (hb hby at_43) rfl (l' := #[.val (.int p0), .val (.int p1), .val (.int p2), .val (.int p3), .val (.int p4), .val (.int la), .val (.int ha), .val (.int yy), .val (.int lb), .val (.int hb_), .unset, .unset, .unset, .unset, .unset, .unset]) rfl ?_
        show Steps p.tables e below (T18.setTop (mkF m 45 #[.val (.int p0), .val (.int p1), .val (.int p2), .val (.int p3), .val (.int p4), .val (.int la), .val (.int ha), .val (.int yy), .val (.int lb), .val (.int hb_), .unset, .unset, .unset, .unset, .unset, .unset] [])) _
        refine st19 _ ?_
        show Steps p.tables e below (T19.setTop (mkF m 48 #[.val (.int p0), .val (.int p1), .val (.int p2), .val (.int p3), .val (.int p4), .val (.int la), .val (.int ha), .val (.int yy), .val (.int lb), .val (.int hb_), .unset, .unset, .unset, .unset, .unset, .unset] [(.ref b19)])) _
        refine XS.dup X19.here hx rfl (hb hby at_48) rfl rfl ?_
        show Steps p.tables e below (T19.setTop (mkF m 49 #[.val (.int p0), .val (.int p1), .val (.int p2), .val (.int p3), .val (.int p4), .val (.int la), .val (.int ha), .val (.int yy), .val (.int lb), .val (.int hb_), .unset, .unset, .unset, .unset, .unset, .unset] [(.ref b19), (.ref b19)])) _
        refine XS.iload X19.here hx rfl (hb hby at_49) rfl ?_
        show Steps p.tables e below (T19.setTop (mkF m 51 #[.val (.int p0), .val (.int p1), .val (.int p2), .val (.int p3), .val (.int p4), .val (.int la), .val (.int ha), .val (.int yy), .val (.int lb), .val (.int hb_), .unset, .unset, .unset, .unset, .unset, .unset] [(.int la), (.ref b19), (.ref b19)])) _
        refine own_i2d X19.here hx rfl (hb hby at_51) rfl ?_
        show Steps p.tables e below (T19.setTop (mkF m 52 #[.val (.int p0), .val (.int p1), .val (.int p2), .val (.int p3), .val (.int p4), .val (.int la), .val (.int ha), .val (.int yy), .val (.int lb), .val (.int hb_), .unset, .unset, .unset, .unset, .unset, .unset] [(.double (FP.i2d la)), (.ref b19), (.ref b19)])) _
        refine XS.iload X19.here hx rfl (hb hby at_52) rfl ?_
        show Steps p.tables e below (T19.setTop (mkF m 54 #[.val (.int p0), .val (.int p1), .val (.int p2), .val (.int p3), .val (.int p4), .val (.int la), .val (.int ha), .val (.int yy), .val (.int lb), .val (.int hb_), .unset, .unset, .unset, .unset, .unset, .unset] [(.int ha), (.double (FP.i2d la)), (.ref b19), (.ref b19)])) _
        refine own_i2d X19.here hx rfl (hb hby at_54) rfl ?_
        show Steps p.tables e below (T19.setTop (mkF m 55 #[.val (.int p0), .val (.int p1), .val (.int p2), .val (.int p3), .val (.int p4), .val (.int la), .val (.int ha), .val (.int yy), .val (.int lb), .val (.int hb_), .unset, .unset, .unset, .unset, .unset, .unset] [(.double (FP.i2d ha)), (.double (FP.i2d la)), (.ref b19), (.ref b19)])) _
        refine st20.trans ?_
        show Steps p.tables e below (T20.setTop (mkF m 58 #[.val (.int p0), .val (.int p1), .val (.int p2), .val (.int p3), .val (.int p4), .val (.int la), .val (.int ha), .val (.int yy), .val (.int lb), .val (.int hb_), .unset, .unset, .unset, .unset, .unset, .unset] [(.ref b19)])) _
        refine XS.astore X20.here hx rfl (hb hby at_58) rfl rfl (l' := #[.val (.int p0), .val (.int p1), .val (.int p2), .val (.int p3), .val (.int p4), .val (.int la), .val (.int ha), .val (.int yy), .val (.int lb), .val (.int hb_), .val (.ref b19), .unset, .unset, .unset, .unset, .unset]) rfl ?_
        show Steps p.tables e below (T20.setTop (mkF m 60 #[.val (.int p0), .val (.int p1), .val (.int p2), .val (.int p3), .val (.int p4), .val (.int la), .val (.int ha), .val (.int yy), .val (.int lb), .val (.int hb_), .val (.ref b19), .unset, .unset, .unset, .unset, .unset] [])) _
        refine st21 _ ?_
        show Steps p.tables e below (T21.setTop (mkF m 63 #[.val (.int p0), .val (.int p1), .val (.int p2), .val (.int p3), .val (.int p4), .val (.int la), .val (.int ha), .val (.int yy), .val (.int lb), .val (.int hb_), .val (.ref b19), .unset, .unset, .unset, .unset, .unset] [(.ref b21)])) _
        refine XS.dup X21.here hx rfl (hb hby at_63) rfl rfl ?_
        show Steps p.tables e below (T21.setTop (mkF m 64 #[.val (.int p0), .val (.int p1), .val (.int p2), .val (.int p3), .val (.int p4), .val (.int la), .val (.int ha), .val (.int yy), .val (.int lb), .val (.int hb_), .val (.ref b19), .unset, .unset, .unset, .unset, .unset] [(.ref b21), (.ref b21)])) _
        refine XS.iload X21.here hx rfl (hb hby at_64) rfl ?_
        show Steps p.tables e below (T21.setTop (mkF m 66 #[.val (.int p0), .val (.int p1), .val (.int p2), .val (.int p3), .val (.int p4), .val (.int la), .val (.int ha), .val (.int yy), .val (.int lb), .val (.int hb_), .val (.ref b19), .unset, .unset, .unset, .unset, .unset] [(.int lb), (.ref b21), (.ref b21)])) _
        refine own_i2d X21.here hx rfl (hb hby at_66) rfl ?_
        show Steps p.tables e below (T21.setTop (mkF m 67 #[.val (.int p0), .val (.int p1), .val (.int p2), .val (.int p3), .val (.int p4), .val (.int la), .val (.int ha), .val (.int yy), .val (.int lb), .val (.int hb_), .val (.ref b19), .unset, .unset, .unset, .unset, .unset] [(.double (FP.i2d lb)), (.ref b21), (.ref b21)])) _
        refine XS.iload X21.here hx rfl (hb hby at_67) rfl ?_
        show Steps p.tables e below (T21.setTop (mkF m 69 #[.val (.int p0), .val (.int p1), .val (.int p2), .val (.int p3), .val (.int p4), .val (.int la), .val (.int ha), .val (.int yy), .val (.int lb), .val (.int hb_), .val (.ref b19), .unset, .unset, .unset, .unset, .unset] [(.int hb_), (.double (FP.i2d lb)), (.ref b21), (.ref b21)])) _
        refine own_i2d X21.here hx rfl (hb hby at_69) rfl ?_
        show Steps p.tables e below (T21.setTop (mkF m 70 #[.val (.int p0), .val (.int p1), .val (.int p2), .val (.int p3), .val (.int p4), .val (.int la), .val (.int ha), .val (.int yy), .val (.int lb), .val (.int hb_), .val (.ref b19), .unset, .unset, .unset, .unset, .unset] [(.double (FP.i2d hb_)), (.double (FP.i2d lb)), (.ref b21), (.ref b21)])) _
        refine st22.trans ?_
        show Steps p.tables e below (T22.setTop (mkF m 73 #[.val (.int p0), .val (.int p1), .val (.int p2), .val (.int p3), .val (.int p4), .val (.int la), .val (.int ha), .val (.int yy), .val (.int lb), .val (.int hb_), .val (.ref b19), .unset, .unset, .unset, .unset, .unset] [(.ref b21)])) _
        refine XS.astore X22.here hx rfl (hb hby at_73) rfl rfl (l' := #[.val (.int p0), .val (.int p1), .val (.int p2), .val (.int p3), .val (.int p4), .val (.int la), .val (.int ha), .val (.int yy), .val (.int lb), .val (.int hb_), .val (.ref b19), .val (.ref b21), .unset, .unset, .unset, .unset]) rfl ?_
        show Steps p.tables e below (T22.setTop (mkF m 75 #[.val (.int p0), .val (.int p1), .val (.int p2), .val (.int p3), .val (.int p4), .val (.int la), .val (.int ha), .val (.int yy), .val (.int lb), .val (.int hb_), .val (.ref b19), .val (.ref b21), .unset, .unset, .unset, .unset] [])) _
        refine XS.aload X22.here hx rfl (hb hby at_75) rfl rfl ?_
        show Steps p.tables e below (T22.setTop (mkF m 77 #[.val (.int p0), .val (.int p1), .val (.int p2), .val (.int p3), .val (.int p4), .val (.int la), .val (.int ha), .val (.int yy), .val (.int lb), .val (.int hb_), .val (.ref b19), .val (.ref b21), .unset, .unset, .unset, .unset] [(.ref b19)])) _
        refine XS.aload X22.here hx rfl (hb hby at_77) rfl rfl ?_
        show Steps p.tables e below (T22.setTop (mkF m 79 #[.val (.int p0), .val (.int p1), .val (.int p2), .val (.int p3), .val (.int p4), .val (.int la), .val (.int ha), .val (.int yy), .val (.int lb), .val (.int hb_), .val (.ref b19), .val (.ref b21), .unset, .unset, .unset, .unset] [(.ref b21), (.ref b19)])) _
        refine st23.trans ?_
        show Steps p.tables e below (T23.setTop (mkF m 82 #[.val (.int p0), .val (.int p1), .val (.int p2), .val (.int p3), .val (.int p4), .val (.int la), .val (.int ha), .val (.int yy), .val (.int lb), .val (.int hb_), .val (.ref b19), .val (.ref b21), .unset, .unset, .unset, .unset] [(.int (if 0 < (cmpValue (FP.dcmp (FP.i2d la) (FP.i2d hb_)) .l) then (1 : Int32) else (0 : Int32)))])) _
        rw [own_abv la hb_]
        show Steps p.tables e below (T23.setTop (mkF m 82 #[.val (.int p0), .val (.int p1), .val (.int p2), .val (.int p3), .val (.int p4), .val (.int la), .val (.int ha), .val (.int yy), .val (.int lb), .val (.int hb_), .val (.ref b19), .val (.ref b21), .unset, .unset, .unset, .unset] [(.int (if hb_ < la then (1 : Int32) else (0 : Int32)))])) _
        refine XS.istore X23.here hx rfl (hb hby at_82) rfl (l' := #[.val (.int p0), .val (.int p1), .val (.int p2), .val (.int p3), .val (.int p4), .val (.int la), .val (.int ha), .val (.int yy), .val (.int lb), .val (.int hb_), .val (.ref b19), .val (.ref b21), .val (.int (if hb_ < la then (1 : Int32) else (0 : Int32))), .unset, .unset, .unset]) rfl ?_
        show Steps p.tables e below (T23.setTop (mkF m 84 #[.val (.int p0), .val (.int p1), .val (.int p2), .val (.int p3), .val (.int p4), .val (.int la), .val (.int ha), .val (.int yy), .val (.int lb), .val (.int hb_), .val (.ref b19), .val (.ref b21), .val (.int (if hb_ < la then (1 : Int32) else (0 : Int32))), .unset, .unset, .unset] [])) _
        refine XS.aload X23.here hx rfl (hb hby at_84) rfl rfl ?_
        show Steps p.tables e below (T23.setTop (mkF m 86 #[.val (.int p0), .val (.int p1), .val (.int p2), .val (.int p3), .val (.int p4), .val (.int la), .val (.int ha), .val (.int yy), .val (.int lb), .val (.int hb_), .val (.ref b19), .val (.ref b21), .val (.int (if hb_ < la then (1 : Int32) else (0 : Int32))), .unset, .unset, .unset] [(.ref b21)])) _
        refine XS.aload X23.here hx rfl (hb hby at_86) rfl rfl ?_
        show Steps p.tables e below (T23.setTop (mkF m 88 #[.val (.int p0), .val (.int p1), .val (.int p2), .val (.int p3), .val (.int p4), .val (.int la), .val (.int ha), .val (.int yy), .val (.int lb), .val (.int hb_), .val (.ref b19), .val (.ref b21), .val (.int (if hb_ < la then (1 : Int32) else (0 : Int32))), .unset, .unset, .unset] [(.ref b19), (.ref b21)])) _
        refine st24.trans ?_
        show Steps p.tables e below (T24.setTop (mkF m 91 #[.val (.int p0), .val (.int p1), .val (.int p2), .val (.int p3), .val (.int p4), .val (.int la), .val (.int ha), .val (.int yy), .val (.int lb), .val (.int hb_), .val (.ref b19), .val (.ref b21), .val (.int (if hb_ < la then (1 : Int32) else (0 : Int32))), .unset, .unset, .unset] [(.int (if 0 < (cmpValue (FP.dcmp (FP.i2d lb) (FP.i2d ha)) .l) then (1 : Int32) else (0 : Int32)))])) _
        rw [own_abv lb ha]
        show Steps p.tables e below (T24.setTop (mkF m 91 #[.val (.int p0), .val (.int p1), .val (.int p2), .val (.int p3), .val (.int p4), .val (.int la), .val (.int ha), .val (.int yy), .val (.int lb), .val (.int hb_), .val (.ref b19), .val (.ref b21), .val (.int (if hb_ < la then (1 : Int32) else (0 : Int32))), .unset, .unset, .unset] [(.int (if ha < lb then (1 : Int32) else (0 : Int32)))])) _
        refine XS.istore X24.here hx rfl (hb hby at_91) rfl (l' := #[.val (.int p0), .val (.int p1), .val (.int p2), .val (.int p3), .val (.int p4), .val (.int la), .val (.int ha), .val (.int yy), .val (.int lb), .val (.int hb_), .val (.ref b19), .val (.ref b21), .val (.int (if hb_ < la then (1 : Int32) else (0 : Int32))), .val (.int (if ha < lb then (1 : Int32) else (0 : Int32))), .unset, .unset]) rfl ?_
        show Steps p.tables e below (T24.setTop (mkF m 93 #[.val (.int p0), .val (.int p1), .val (.int p2), .val (.int p3), .val (.int p4), .val (.int la), .val (.int ha), .val (.int yy), .val (.int lb), .val (.int hb_), .val (.ref b19), .val (.ref b21), .val (.int (if hb_ < la then (1 : Int32) else (0 : Int32))), .val (.int (if ha < lb then (1 : Int32) else (0 : Int32))), .unset, .unset] [])) _
        refine XS.aload X24.here hx rfl (hb hby at_93) rfl rfl ?_
        show Steps p.tables e below (T24.setTop (mkF m 95 #[.val (.int p0), .val (.int p1), .val (.int p2), .val (.int p3), .val (.int p4), .val (.int la), .val (.int ha), .val (.int yy), .val (.int lb), .val (.int hb_), .val (.ref b19), .val (.ref b21), .val (.int (if hb_ < la then (1 : Int32) else (0 : Int32))), .val (.int (if ha < lb then (1 : Int32) else (0 : Int32))), .unset, .unset] [(.ref b19)])) _
        refine XS.aload X24.here hx rfl (hb hby at_95) rfl rfl ?_
        show Steps p.tables e below (T24.setTop (mkF m 97 #[.val (.int p0), .val (.int p1), .val (.int p2), .val (.int p3), .val (.int p4), .val (.int la), .val (.int ha), .val (.int yy), .val (.int lb), .val (.int hb_), .val (.ref b19), .val (.ref b21), .val (.int (if hb_ < la then (1 : Int32) else (0 : Int32))), .val (.int (if ha < lb then (1 : Int32) else (0 : Int32))), .unset, .unset] [(.ref b19), (.ref b19)])) _
        refine st25.trans ?_
        show Steps p.tables e below (T25.setTop (mkF m 100 #[.val (.int p0), .val (.int p1), .val (.int p2), .val (.int p3), .val (.int p4), .val (.int la), .val (.int ha), .val (.int yy), .val (.int lb), .val (.int hb_), .val (.ref b19), .val (.ref b21), .val (.int (if hb_ < la then (1 : Int32) else (0 : Int32))), .val (.int (if ha < lb then (1 : Int32) else (0 : Int32))), .unset, .unset] [(.int (if 0 < (cmpValue (FP.dcmp (FP.i2d la) (FP.i2d ha)) .l) then (1 : Int32) else (0 : Int32)))])) _
        rw [own_abv la ha]
        show Steps p.tables e below (T25.setTop (mkF m 100 #[.val (.int p0), .val (.int p1), .val (.int p2), .val (.int p3), .val (.int p4), .val (.int la), .val (.int ha), .val (.int yy), .val (.int lb), .val (.int hb_), .val (.ref b19), .val (.ref b21), .val (.int (if hb_ < la then (1 : Int32) else (0 : Int32))), .val (.int (if ha < lb then (1 : Int32) else (0 : Int32))), .unset, .unset] [(.int (if ha < la then (1 : Int32) else (0 : Int32)))])) _
        refine XS.istore X25.here hx rfl (hb hby at_100) rfl (l' := #[.val (.int p0), .val (.int p1), .val (.int p2), .val (.int p3), .val (.int p4), .val (.int la), .val (.int ha), .val (.int yy), .val (.int lb), .val (.int hb_), .val (.ref b19), .val (.ref b21), .val (.int (if hb_ < la then (1 : Int32) else (0 : Int32))), .val (.int (if ha < lb then (1 : Int32) else (0 : Int32))), .val (.int (if ha < la then (1 : Int32) else (0 : Int32))), .unset]) rfl ?_
        show Steps p.tables e below (T25.setTop (mkF m 102 #[.val (.int p0), .val (.int p1), .val (.int p2), .val (.int p3), .val (.int p4), .val (.int la), .val (.int ha), .val (.int yy), .val (.int lb), .val (.int hb_), .val (.ref b19), .val (.ref b21), .val (.int (if hb_ < la then (1 : Int32) else (0 : Int32))), .val (.int (if ha < lb then (1 : Int32) else (0 : Int32))), .val (.int (if ha < la then (1 : Int32) else (0 : Int32))), .unset] [])) _
        refine XS.aload X25.here hx rfl (hb hby at_102) rfl rfl ?_
        show Steps p.tables e below (T25.setTop (mkF m 104 #[.val (.int p0), .val (.int p1), .val (.int p2), .val (.int p3), .val (.int p4), .val (.int la), .val (.int ha), .val (.int yy), .val (.int lb), .val (.int hb_), .val (.ref b19), .val (.ref b21), .val (.int (if hb_ < la then (1 : Int32) else (0 : Int32))), .val (.int (if ha < lb then (1 : Int32) else (0 : Int32))), .val (.int (if ha < la then (1 : Int32) else (0 : Int32))), .unset] [(.ref b21)])) _
        refine XS.aload X25.here hx rfl (hb hby at_104) rfl rfl ?_
        show Steps p.tables e below (T25.setTop (mkF m 106 #[.val (.int p0), .val (.int p1), .val (.int p2), .val (.int p3), .val (.int p4), .val (.int la), .val (.int ha), .val (.int yy), .val (.int lb), .val (.int hb_), .val (.ref b19), .val (.ref b21), .val (.int (if hb_ < la then (1 : Int32) else (0 : Int32))), .val (.int (if ha < lb then (1 : Int32) else (0 : Int32))), .val (.int (if ha < la then (1 : Int32) else (0 : Int32))), .unset] [(.ref b19), (.ref b21)])) _
        refine st26.trans ?_
        show Steps p.tables e below (T26.setTop (mkF m 109 #[.val (.int p0), .val (.int p1), .val (.int p2), .val (.int p3), .val (.int p4), .val (.int la), .val (.int ha), .val (.int yy), .val (.int lb), .val (.int hb_), .val (.ref b19), .val (.ref b21), .val (.int (if hb_ < la then (1 : Int32) else (0 : Int32))), .val (.int (if ha < lb then (1 : Int32) else (0 : Int32))), .val (.int (if ha < la then (1 : Int32) else (0 : Int32))), .unset] [(.int (if (cmpValue (FP.dcmp (FP.i2d hb_) (FP.i2d la)) .g) < 0 then (1 : Int32) else (0 : Int32)))])) _
        rw [own_bel hb_ la]
        show Steps p.tables e below (T26.setTop (mkF m 109 #[.val (.int p0), .val (.int p1), .val (.int p2), .val (.int p3), .val (.int p4), .val (.int la), .val (.int ha), .val (.int yy), .val (.int lb), .val (.int hb_), .val (.ref b19), .val (.ref b21), .val (.int (if hb_ < la then (1 : Int32) else (0 : Int32))), .val (.int (if ha < lb then (1 : Int32) else (0 : Int32))), .val (.int (if ha < la then (1 : Int32) else (0 : Int32))), .unset] [(.int (if hb_ < la then (1 : Int32) else (0 : Int32)))])) _
        refine XS.istore X26.here hx rfl (hb hby at_109) rfl (l' := #[.val (.int p0), .val (.int p1), .val (.int p2), .val (.int p3), .val (.int p4), .val (.int la), .val (.int ha), .val (.int yy), .val (.int lb), .val (.int hb_), .val (.ref b19), .val (.ref b21), .val (.int (if hb_ < la then (1 : Int32) else (0 : Int32))), .val (.int (if ha < lb then (1 : Int32) else (0 : Int32))), .val (.int (if ha < la then (1 : Int32) else (0 : Int32))), .val (.int (if hb_ < la then (1 : Int32) else (0 : Int32)))]) rfl ?_
        show Steps p.tables e below (T26.setTop (mkF m 111 #[.val (.int p0), .val (.int p1), .val (.int p2), .val (.int p3), .val (.int p4), .val (.int la), .val (.int ha), .val (.int yy), .val (.int lb), .val (.int hb_), .val (.ref b19), .val (.ref b21), .val (.int (if hb_ < la then (1 : Int32) else (0 : Int32))), .val (.int (if ha < lb then (1 : Int32) else (0 : Int32))), .val (.int (if ha < la then (1 : Int32) else (0 : Int32))), .val (.int (if hb_ < la then (1 : Int32) else (0 : Int32)))] [])) _
        refine XS.iload X26.here hx rfl (hb hby at_111) rfl ?_
        show Steps p.tables e below (T26.setTop (mkF m 113 #[.val (.int p0), .val (.int p1), .val (.int p2), .val (.int p3), .val (.int p4), .val (.int la), .val (.int ha), .val (.int yy), .val (.int lb), .val (.int hb_), .val (.ref b19), .val (.ref b21), .val (.int (if hb_ < la then (1 : Int32) else (0 : Int32))), .val (.int (if ha < lb then (1 : Int32) else (0 : Int32))), .val (.int (if ha < la then (1 : Int32) else (0 : Int32))), .val (.int (if hb_ < la then (1 : Int32) else (0 : Int32)))] [(.int (if hb_ < la then (1 : Int32) else (0 : Int32)))])) _
        refine XS.iload X26.here hx rfl (hb hby at_113) rfl ?_
        show Steps p.tables e below (T26.setTop (mkF m 115 #[.val (.int p0), .val (.int p1), .val (.int p2), .val (.int p3), .val (.int p4), .val (.int la), .val (.int ha), .val (.int yy), .val (.int lb), .val (.int hb_), .val (.ref b19), .val (.ref b21), .val (.int (if hb_ < la then (1 : Int32) else (0 : Int32))), .val (.int (if ha < lb then (1 : Int32) else (0 : Int32))), .val (.int (if ha < la then (1 : Int32) else (0 : Int32))), .val (.int (if hb_ < la then (1 : Int32) else (0 : Int32)))] [(.int la), (.int (if hb_ < la then (1 : Int32) else (0 : Int32)))])) _
        refine XS.iload X26.here hx rfl (hb hby at_115) rfl ?_
        show Steps p.tables e below (T26.setTop (mkF m 117 #[.val (.int p0), .val (.int p1), .val (.int p2), .val (.int p3), .val (.int p4), .val (.int la), .val (.int ha), .val (.int yy), .val (.int lb), .val (.int hb_), .val (.ref b19), .val (.ref b21), .val (.int (if hb_ < la then (1 : Int32) else (0 : Int32))), .val (.int (if ha < lb then (1 : Int32) else (0 : Int32))), .val (.int (if ha < la then (1 : Int32) else (0 : Int32))), .val (.int (if hb_ < la then (1 : Int32) else (0 : Int32)))] [(.int hb_), (.int la), (.int (if hb_ < la then (1 : Int32) else (0 : Int32)))])) _
        refine XS.icmpNo X26.here hx rfl (hb hby at_117) rfl (XT.ii_le_f hq1) ?_
        show Steps p.tables e below (T26.setTop (mkF m 120 #[.val (.int p0), .val (.int p1), .val (.int p2), .val (.int p3), .val (.int p4), .val (.int la), .val (.int ha), .val (.int yy), .val (.int lb), .val (.int hb_), .val (.ref b19), .val (.ref b21), .val (.int (if hb_ < la then (1 : Int32) else (0 : Int32))), .val (.int (if ha < lb then (1 : Int32) else (0 : Int32))), .val (.int (if ha < la then (1 : Int32) else (0 : Int32))), .val (.int (if hb_ < la then (1 : Int32) else (0 : Int32)))] [(.int (if hb_ < la then (1 : Int32) else (0 : Int32)))])) _
        refine XS.iconst X26.here hx rfl (hb hby at_120) ?_
        show Steps p.tables e below (T26.setTop (mkF m 121 #[.val (.int p0), .val (.int p1), .val (.int p2), .val (.int p3), .val (.int p4), .val (.int la), .val (.int ha), .val (.int yy), .val (.int lb), .val (.int hb_), .val (.ref b19), .val (.ref b21), .val (.int (if hb_ < la then (1 : Int32) else (0 : Int32))), .val (.int (if ha < lb then (1 : Int32) else (0 : Int32))), .val (.int (if ha < la then (1 : Int32) else (0 : Int32))), .val (.int (if hb_ < la then (1 : Int32) else (0 : Int32)))] [(.int (1 : Int32)), (.int (if hb_ < la then (1 : Int32) else (0 : Int32)))])) _
        refine XS.goto X26.here hx rfl (pc0 := 121) (pc' := 125) rfl (hb hby at_121) (by decide) (by decide) ?_
        show Steps p.tables e below (T26.setTop (mkF m 125 #[.val (.int p0), .val (.int p1), .val (.int p2), .val (.int p3), .val (.int p4), .val (.int la), .val (.int ha), .val (.int yy), .val (.int lb), .val (.int hb_), .val (.ref b19), .val (.ref b21), .val (.int (if hb_ < la then (1 : Int32) else (0 : Int32))), .val (.int (if ha < lb then (1 : Int32) else (0 : Int32))), .val (.int (if ha < la then (1 : Int32) else (0 : Int32))), .val (.int (if hb_ < la then (1 : Int32) else (0 : Int32)))] [(.int (1 : Int32)), (.int (if hb_ < la then (1 : Int32) else (0 : Int32)))])) _
        refine XS.icmpNo X26.here hx rfl (hb hby at_125) rfl (XT.ii_ne_f (if_pos hq1)) ?_
        show Steps p.tables e below (T26.setTop (mkF m 128 #[.val (.int p0), .val (.int p1), .val (.int p2), .val (.int p3), .val (.int p4), .val (.int la), .val (.int ha), .val (.int yy), .val (.int lb), .val (.int hb_), .val (.ref b19), .val (.ref b21), .val (.int (if hb_ < la then (1 : Int32) else (0 : Int32))), .val (.int (if ha < lb then (1 : Int32) else (0 : Int32))), .val (.int (if ha < la then (1 : Int32) else (0 : Int32))), .val (.int (if hb_ < la then (1 : Int32) else (0 : Int32)))] [])) _
        refine XS.iload X26.here hx rfl (hb hby at_128) rfl ?_
        show Steps p.tables e below (T26.setTop (mkF m 130 #[.val (.int p0), .val (.int p1), .val (.int p2), .val (.int p3), .val (.int p4), .val (.int la), .val (.int ha), .val (.int yy), .val (.int lb), .val (.int hb_), .val (.ref b19), .val (.ref b21), .val (.int (if hb_ < la then (1 : Int32) else (0 : Int32))), .val (.int (if ha < lb then (1 : Int32) else (0 : Int32))), .val (.int (if ha < la then (1 : Int32) else (0 : Int32))), .val (.int (if hb_ < la then (1 : Int32) else (0 : Int32)))] [(.int (if ha < lb then (1 : Int32) else (0 : Int32)))])) _
        refine XS.iload X26.here hx rfl (hb hby at_130) rfl ?_
        show Steps p.tables e below (T26.setTop (mkF m 132 #[.val (.int p0), .val (.int p1), .val (.int p2), .val (.int p3), .val (.int p4), .val (.int la), .val (.int ha), .val (.int yy), .val (.int lb), .val (.int hb_), .val (.ref b19), .val (.ref b21), .val (.int (if hb_ < la then (1 : Int32) else (0 : Int32))), .val (.int (if ha < lb then (1 : Int32) else (0 : Int32))), .val (.int (if ha < la then (1 : Int32) else (0 : Int32))), .val (.int (if hb_ < la then (1 : Int32) else (0 : Int32)))] [(.int lb), (.int (if ha < lb then (1 : Int32) else (0 : Int32)))])) _
        refine XS.iload X26.here hx rfl (hb hby at_132) rfl ?_
        show Steps p.tables e below (T26.setTop (mkF m 134 #[.val (.int p0), .val (.int p1), .val (.int p2), .val (.int p3), .val (.int p4), .val (.int la), .val (.int ha), .val (.int yy), .val (.int lb), .val (.int hb_), .val (.ref b19), .val (.ref b21), .val (.int (if hb_ < la then (1 : Int32) else (0 : Int32))), .val (.int (if ha < lb then (1 : Int32) else (0 : Int32))), .val (.int (if ha < la then (1 : Int32) else (0 : Int32))), .val (.int (if hb_ < la then (1 : Int32) else (0 : Int32)))] [(.int ha), (.int lb), (.int (if ha < lb then (1 : Int32) else (0 : Int32)))])) _
        refine XS.icmpYes X26.here hx rfl (pc0 := 134) (pc' := 141) rfl (hb hby at_134) rfl (XT.ii_le_t hq2) (by decide) (by decide) ?_
        show Steps p.tables e below (T26.setTop (mkF m 141 #[.val (.int p0), .val (.int p1), .val (.int p2), .val (.int p3), .val (.int p4), .val (.int la), .val (.int ha), .val (.int yy), .val (.int lb), .val (.int hb_), .val (.ref b19), .val (.ref b21), .val (.int (if hb_ < la then (1 : Int32) else (0 : Int32))), .val (.int (if ha < lb then (1 : Int32) else (0 : Int32))), .val (.int (if ha < la then (1 : Int32) else (0 : Int32))), .val (.int (if hb_ < la then (1 : Int32) else (0 : Int32)))] [(.int (if ha < lb then (1 : Int32) else (0 : Int32)))])) _
        refine XS.iconst X26.here hx rfl (hb hby at_141) ?_
        show Steps p.tables e below (T26.setTop (mkF m 142 #[.val (.int p0), .val (.int p1), .val (.int p2), .val (.int p3), .val (.int p4), .val (.int la), .val (.int ha), .val (.int yy), .val (.int lb), .val (.int hb_), .val (.ref b19), .val (.ref b21), .val (.int (if hb_ < la then (1 : Int32) else (0 : Int32))), .val (.int (if ha < lb then (1 : Int32) else (0 : Int32))), .val (.int (if ha < la then (1 : Int32) else (0 : Int32))), .val (.int (if hb_ < la then (1 : Int32) else (0 : Int32)))] [(.int (0 : Int32)), (.int (if ha < lb then (1 : Int32) else (0 : Int32)))])) _
        refine XS.icmpNo X26.here hx rfl (hb hby at_142) rfl (XT.ii_ne_f (if_neg hq2)) ?_
        show Steps p.tables e below (T26.setTop (mkF m 145 #[.val (.int p0), .val (.int p1), .val (.int p2), .val (.int p3), .val (.int p4), .val (.int la), .val (.int ha), .val (.int yy), .val (.int lb), .val (.int hb_), .val (.ref b19), .val (.ref b21), .val (.int (if hb_ < la then (1 : Int32) else (0 : Int32))), .val (.int (if ha < lb then (1 : Int32) else (0 : Int32))), .val (.int (if ha < la then (1 : Int32) else (0 : Int32))), .val (.int (if hb_ < la then (1 : Int32) else (0 : Int32)))] [])) _
        refine XS.iload X26.here hx rfl (hb hby at_145) rfl ?_
        show Steps p.tables e below (T26.setTop (mkF m 147 #[.val (.int p0), .val (.int p1), .val (.int p2), .val (.int p3), .val (.int p4), .val (.int la), .val (.int ha), .val (.int yy), .val (.int lb), .val (.int hb_), .val (.ref b19), .val (.ref b21), .val (.int (if hb_ < la then (1 : Int32) else (0 : Int32))), .val (.int (if ha < lb then (1 : Int32) else (0 : Int32))), .val (.int (if ha < la then (1 : Int32) else (0 : Int32))), .val (.int (if hb_ < la then (1 : Int32) else (0 : Int32)))] [(.int (if ha < la then (1 : Int32) else (0 : Int32)))])) _
        refine XS.ifNo X26.here hx rfl (hb hby at_147) rfl (XT.i0_ne_f (if_neg hlh)) ?_
        show Steps p.tables e below (T26.setTop (mkF m 150 #[.val (.int p0), .val (.int p1), .val (.int p2), .val (.int p3), .val (.int p4), .val (.int la), .val (.int ha), .val (.int yy), .val (.int lb), .val (.int hb_), .val (.ref b19), .val (.ref b21), .val (.int (if hb_ < la then (1 : Int32) else (0 : Int32))), .val (.int (if ha < lb then (1 : Int32) else (0 : Int32))), .val (.int (if ha < la then (1 : Int32) else (0 : Int32))), .val (.int (if hb_ < la then (1 : Int32) else (0 : Int32)))] [])) _
        refine XS.iload X26.here hx rfl (hb hby at_150) rfl ?_
        show Steps p.tables e below (T26.setTop (mkF m 152 #[.val (.int p0), .val (.int p1), .val (.int p2), .val (.int p3), .val (.int p4), .val (.int la), .val (.int ha), .val (.int yy), .val (.int lb), .val (.int hb_), .val (.ref b19), .val (.ref b21), .val (.int (if hb_ < la then (1 : Int32) else (0 : Int32))), .val (.int (if ha < lb then (1 : Int32) else (0 : Int32))), .val (.int (if ha < la then (1 : Int32) else (0 : Int32))), .val (.int (if hb_ < la then (1 : Int32) else (0 : Int32)))] [(.int (if hb_ < la then (1 : Int32) else (0 : Int32)))])) _
        refine XS.ifNo X26.here hx rfl (hb hby at_152) rfl (XT.i0_eq_f (by rw [if_pos hq1]; decide)) ?_
        show Steps p.tables e below (T26.setTop (mkF m 155 #[.val (.int p0), .val (.int p1), .val (.int p2), .val (.int p3), .val (.int p4), .val (.int la), .val (.int ha), .val (.int yy), .val (.int lb), .val (.int hb_), .val (.ref b19), .val (.ref b21), .val (.int (if hb_ < la then (1 : Int32) else (0 : Int32))), .val (.int (if ha < lb then (1 : Int32) else (0 : Int32))), .val (.int (if ha < la then (1 : Int32) else (0 : Int32))), .val (.int (if hb_ < la then (1 : Int32) else (0 : Int32)))] [])) _
        refine XS.iload X26.here hx rfl (hb hby at_155) rfl ?_
        show Steps p.tables e below (T26.setTop (mkF m 157 #[.val (.int p0), .val (.int p1), .val (.int p2), .val (.int p3), .val (.int p4), .val (.int la), .val (.int ha), .val (.int yy), .val (.int lb), .val (.int hb_), .val (.ref b19), .val (.ref b21), .val (.int (if hb_ < la then (1 : Int32) else (0 : Int32))), .val (.int (if ha < lb then (1 : Int32) else (0 : Int32))), .val (.int (if ha < la then (1 : Int32) else (0 : Int32))), .val (.int (if hb_ < la then (1 : Int32) else (0 : Int32)))] [(.int (if ha < lb then (1 : Int32) else (0 : Int32)))])) _
        refine XS.ifNo X26.here hx rfl (hb hby at_157) rfl (XT.i0_ne_f (if_neg hq2)) ?_
        show Steps p.tables e below (T26.setTop (mkF m 160 #[.val (.int p0), .val (.int p1), .val (.int p2), .val (.int p3), .val (.int p4), .val (.int la), .val (.int ha), .val (.int yy), .val (.int lb), .val (.int hb_), .val (.ref b19), .val (.ref b21), .val (.int (if hb_ < la then (1 : Int32) else (0 : Int32))), .val (.int (if ha < lb then (1 : Int32) else (0 : Int32))), .val (.int (if ha < la then (1 : Int32) else (0 : Int32))), .val (.int (if hb_ < la then (1 : Int32) else (0 : Int32)))] [])) _
        refine XS.iload X26.here hx rfl (hb hby at_160) rfl ?_
        show Steps p.tables e below (T26.setTop (mkF m 162 #[.val (.int p0), .val (.int p1), .val (.int p2), .val (.int p3), .val (.int p4), .val (.int la), .val (.int ha), .val (.int yy), .val (.int lb), .val (.int hb_), .val (.ref b19), .val (.ref b21), .val (.int (if hb_ < la then (1 : Int32) else (0 : Int32))), .val (.int (if ha < lb then (1 : Int32) else (0 : Int32))), .val (.int (if ha < la then (1 : Int32) else (0 : Int32))), .val (.int (if hb_ < la then (1 : Int32) else (0 : Int32)))] [(.int (if hb_ < la then (1 : Int32) else (0 : Int32)))])) _
        refine XS.iload X26.here hx rfl (hb hby at_162) rfl ?_
        show Steps p.tables e below (T26.setTop (mkF m 164 #[.val (.int p0), .val (.int p1), .val (.int p2), .val (.int p3), .val (.int p4), .val (.int la), .val (.int ha), .val (.int yy), .val (.int lb), .val (.int hb_), .val (.ref b19), .val (.ref b21), .val (.int (if hb_ < la then (1 : Int32) else (0 : Int32))), .val (.int (if ha < lb then (1 : Int32) else (0 : Int32))), .val (.int (if ha < la then (1 : Int32) else (0 : Int32))), .val (.int (if hb_ < la then (1 : Int32) else (0 : Int32)))] [(.int (if hb_ < la then (1 : Int32) else (0 : Int32))), (.int (if hb_ < la then (1 : Int32) else (0 : Int32)))])) _
        refine XS.icmpNo X26.here hx rfl (hb hby at_164) rfl (XT.ii_ne_f rfl) ?_
        show Steps p.tables e below (T26.setTop (mkF m 167 #[.val (.int p0), .val (.int p1), .val (.int p2), .val (.int p3), .val (.int p4), .val (.int la), .val (.int ha), .val (.int yy), .val (.int lb), .val (.int hb_), .val (.ref b19), .val (.ref b21), .val (.int (if hb_ < la then (1 : Int32) else (0 : Int32))), .val (.int (if ha < lb then (1 : Int32) else (0 : Int32))), .val (.int (if ha < la then (1 : Int32) else (0 : Int32))), .val (.int (if hb_ < la then (1 : Int32) else (0 : Int32)))] [])) _
        refine XS.iconst X26.here hx rfl (hb hby at_167) ?_
        show Steps p.tables e below (T26.setTop (mkF m 168 #[.val (.int p0), .val (.int p1), .val (.int p2), .val (.int p3), .val (.int p4), .val (.int la), .val (.int ha), .val (.int yy), .val (.int lb), .val (.int hb_), .val (.ref b19), .val (.ref b21), .val (.int (if hb_ < la then (1 : Int32) else (0 : Int32))), .val (.int (if ha < lb then (1 : Int32) else (0 : Int32))), .val (.int (if ha < la then (1 : Int32) else (0 : Int32))), .val (.int (if hb_ < la then (1 : Int32) else (0 : Int32)))] [(.int (1 : Int32))])) _
        refine XS.goto X26.here hx rfl (pc0 := 168) (pc' := 172) rfl (hb hby at_168) (by decide) (by decide) ?_
        show Steps p.tables e below (T26.setTop (mkF m 172 #[.val (.int p0), .val (.int p1), .val (.int p2), .val (.int p3), .val (.int p4), .val (.int la), .val (.int ha), .val (.int yy), .val (.int lb), .val (.int hb_), .val (.ref b19), .val (.ref b21), .val (.int (if hb_ < la then (1 : Int32) else (0 : Int32))), .val (.int (if ha < lb then (1 : Int32) else (0 : Int32))), .val (.int (if ha < la then (1 : Int32) else (0 : Int32))), .val (.int (if hb_ < la then (1 : Int32) else (0 : Int32)))] [(.int (1 : Int32))])) _
        exact retN X26 hx (t := .boolean) Bd.returns (by simp) (hb hby at_172) hr
      · show Q_own_law Z p0 p1 p2 p3 p4 la ha yy lb hb_ h0 n0 _ T26.heap _
        rw [eh26]
        exact ⟨rfl, N26⟩
  · by_cases hq2 : ha < lb
    · obtain ⟨fs, hr, hrun, hended, hW, hsame⟩ := X26.leave (v := some (.int (1 : Int32))) (fun h => by rw [Bd.returns] at h; cases h)
      refine ⟨_, _, pre0 _ ?_, hrun, hended, _, _, rfl, ?_, ⟨_, rfl⟩, hW, hsame.mono (by decide) (by decide)⟩
      · show Steps p.tables e below (s₁.setTop (mkF m 0 #[.val (.int p0), .val (.int p1), .val (.int p2), .val (.int p3), .val (.int p4), .unset, .unset, .unset, .unset, .unset, .unset, .unset, .unset, .unset, .unset, .unset] [])) _
        refine XS.iloadN X0.here hx rfl (hb hby at_0) rfl ?_
        show Steps p.tables e below (s₁.setTop (mkF m 1 #[.val (.int p0), .val (.int p1), .val (.int p2), .val (.int p3), .val (.int p4), .unset, .unset, .unset, .unset, .unset, .unset, .unset, .unset, .unset, .unset, .unset] [(.int p0)])) _
        refine XS.iloadN X0.here hx rfl (hb hby at_1) rfl ?_
        show Steps p.tables e below (s₁.setTop (mkF m 2 #[.val (.int p0), .val (.int p1), .val (.int p2), .val (.int p3), .val (.int p4), .unset, .unset, .unset, .unset, .unset, .unset, .unset, .unset, .unset, .unset, .unset] [(.int p1), (.int p0)])) _
        refine st14 _ ?_
        show Steps p.tables e below (T14.setTop (mkF m 5 #[.val (.int p0), .val (.int p1), .val (.int p2), .val (.int p3), .val (.int p4), .unset, .unset, .unset, .unset, .unset, .unset, .unset, .unset, .unset, .unset, .unset] [(.int (if p1 < p0 then p1 else p0))])) _
        rw [h1]
        show Steps p.tables e below (T14.setTop (mkF m 5 #[.val (.int p0), .val (.int p1), .val (.int p2), .val (.int p3), .val (.int p4), .unset, .unset, .unset, .unset, .unset, .unset, .unset, .unset, .unset, .unset, .unset] [(.int la)])) _
        refine XS.istore X14.here hx rfl (hb hby at_5) rfl (l' := #[.val (.int p0), .val (.int p1), .val (.int p2), .val (.int p3), .val (.int p4), .val (.int la), .unset, .unset, .unset, .unset, .unset, .unset, .unset, .unset, .unset, .unset]) rfl ?_
        show Steps p.tables e below (T14.setTop (mkF m 7 #[.val (.int p0), .val (.int p1), .val (.int p2), .val (.int p3), .val (.int p4), .val (.int la), .unset, .unset, .unset, .unset, .unset, .unset, .unset, .unset, .unset, .unset] [])) _
        refine XS.iloadN X14.here hx rfl (hb hby at_7) rfl ?_
        show Steps p.tables e below (T14.setTop (mkF m 8 #[.val (.int p0), .val (.int p1), .val (.int p2), .val (.int p3), .val (.int p4), .val (.int la), .unset, .unset, .unset, .unset, .unset, .unset, .unset, .unset, .unset, .unset] [(.int p0)])) _
        refine XS.iloadN X14.here hx rfl (hb hby at_8) rfl ?_
        show Steps p.tables e below (T14.setTop (mkF m 9 #[.val (.int p0), .val (.int p1), .val (.int p2), .val (.int p3), .val (.int p4), .val (.int la), .unset, .unset, .unset, .unset, .unset, .unset, .unset, .unset, .unset, .unset] [(.int p1), (.int p0)])) _
        refine st15 _ ?_
        show Steps p.tables e below (T15.setTop (mkF m 12 #[.val (.int p0), .val (.int p1), .val (.int p2), .val (.int p3), .val (.int p4), .val (.int la), .unset, .unset, .unset, .unset, .unset, .unset, .unset, .unset, .unset, .unset] [(.int (if p0 < p1 then p1 else p0))])) _
        rw [h2]
        show Steps p.tables e below (T15.setTop (mkF m 12 #[.val (.int p0), .val (.int p1), .val (.int p2), .val (.int p3), .val (.int p4), .val (.int la), .unset, .unset, .unset, .unset, .unset, .unset, .unset, .unset, .unset, .unset] [(.int ha)])) _
        refine XS.istore X15.here hx rfl (hb hby at_12) rfl (l' := #[.val (.int p0), .val (.int p1), .val (.int p2), .val (.int p3), .val (.int p4), .val (.int la), .val (.int ha), .unset, .unset, .unset, .unset, .unset, .unset, .unset, .unset, .unset]) rfl ?_
        show Steps p.tables e below (T15.setTop (mkF m 14 #[.val (.int p0), .val (.int p1), .val (.int p2), .val (.int p3), .val (.int p4), .val (.int la), .val (.int ha), .unset, .unset, .unset, .unset, .unset, .unset, .unset, .unset, .unset] [])) _
        refine st16 _ ?_
        show Steps p.tables e below (T16.setTop (mkF m 27 #[.val (.int p0), .val (.int p1), .val (.int p2), .val (.int p3), .val (.int p4), .val (.int la), .val (.int ha), .unset, .unset, .unset, .unset, .unset, .unset, .unset, .unset, .unset] [(.int (if (p4 &&& (1 : Int32)) = 0 then p3 else la))])) _
        rw [hyy]
        show Steps p.tables e below (T16.setTop (mkF m 27 #[.val (.int p0), .val (.int p1), .val (.int p2), .val (.int p3), .val (.int p4), .val (.int la), .val (.int ha), .unset, .unset, .unset, .unset, .unset, .unset, .unset, .unset, .unset] [(.int yy)])) _
        refine XS.istore X16.here hx rfl (hb hby at_27) rfl (l' := #[.val (.int p0), .val (.int p1), .val (.int p2), .val (.int p3), .val (.int p4), .val (.int la), .val (.int ha), .val (.int yy), .unset, .unset, .unset, .unset, .unset, .unset, .unset, .unset]) rfl ?_
        show Steps p.tables e below (T16.setTop (mkF m 29 #[.val (.int p0), .val (.int p1), .val (.int p2), .val (.int p3), .val (.int p4), .val (.int la), .val (.int ha), .val (.int yy), .unset, .unset, .unset, .unset, .unset, .unset, .unset, .unset] [])) _
        refine XS.iloadN X16.here hx rfl (hb hby at_29) rfl ?_
        show Steps p.tables e below (T16.setTop (mkF m 30 #[.val (.int p0), .val (.int p1), .val (.int p2), .val (.int p3), .val (.int p4), .val (.int la), .val (.int ha), .val (.int yy), .unset, .unset, .unset, .unset, .unset, .unset, .unset, .unset] [(.int p2)])) _
        refine XS.iload X16.here hx rfl (hb hby at_30) rfl ?_
        show Steps p.tables e below (T16.setTop (mkF m 32 #[.val (.int p0), .val (.int p1), .val (.int p2), .val (.int p3), .val (.int p4), .val (.int la), .val (.int ha), .val (.int yy), .unset, .unset, .unset, .unset, .unset, .unset, .unset, .unset] [(.int yy), (.int p2)])) _
        refine st17 _ ?_
        show Steps p.tables e below (T17.setTop (mkF m 35 #[.val (.int p0), .val (.int p1), .val (.int p2), .val (.int p3), .val (.int p4), .val (.int la), .val (.int ha), .val (.int yy), .unset, .unset, .unset, .unset, .unset, .unset, .unset, .unset] [(.int (if yy < p2 then yy else p2))])) _
        rw [h3]
        show Steps p.tables e below (T17.setTop (mkF m 35 #[.val (.int p0), .val (.int p1), .val (.int p2), .val (.int p3), .val (.int p4), .val (.int la), .val (.int ha), .val (.int yy), .unset, .unset, .unset, .unset, .unset, .unset, .unset, .unset] [(.int lb)])) _
        refine XS.istore X17.here hx rfl (hb hby at_35) rfl (l' := #[.val (.int p0), .val (.int p1), .val (.int p2), .val (.int p3), .val (.int p4), .val (.int la), .val (.int ha), .val (.int yy), .val (.int lb), .unset, .unset, .unset, .unset, .unset, .unset, .unset]) rfl ?_
        show Steps p.tables e below (T17.setTop (mkF m 37 #[.val (.int p0), .val (.int p1), .val (.int p2), .val (.int p3), .val (.int p4), .val (.int la), .val (.int ha), .val (.int yy), .val (.int lb), .unset, .unset, .unset, .unset, .unset, .unset, .unset] [])) _
        refine XS.iloadN X17.here hx rfl (hb hby at_37) rfl ?_
        show Steps p.tables e below (T17.setTop (mkF m 38 #[.val (.int p0), .val (.int p1), .val (.int p2), .val (.int p3), .val (.int p4), .val (.int la), .val (.int ha), .val (.int yy), .val (.int lb), .unset, .unset, .unset, .unset, .unset, .unset, .unset] [(.int p2)])) _
        refine XS.iload X17.here hx rfl (hb hby at_38) rfl ?_
        show Steps p.tables e below (T17.setTop (mkF m 40 #[.val (.int p0), .val (.int p1), .val (.int p2), .val (.int p3), .val (.int p4), .val (.int la), .val (.int ha), .val (.int yy), .val (.int lb), .unset, .unset, .unset, .unset, .unset, .unset, .unset] [(.int yy), (.int p2)])) _
        refine st18 _ ?_
        show Steps p.tables e below (T18.setTop (mkF m 43 #[.val (.int p0), .val (.int p1), .val (.int p2), .val (.int p3), .val (.int p4), .val (.int la), .val (.int ha), .val (.int yy), .val (.int lb), .unset, .unset, .unset, .unset, .unset, .unset, .unset] [(.int (if p2 < yy then yy else p2))])) _
        rw [h4]
        show Steps p.tables e below (T18.setTop (mkF m 43 #[.val (.int p0), .val (.int p1), .val (.int p2), .val (.int p3), .val (.int p4), .val (.int la), .val (.int ha), .val (.int yy), .val (.int lb), .unset, .unset, .unset, .unset, .unset, .unset, .unset] [(.int hb_)])) _
        refine XS.istore X18.here hx rfl (hb hby at_43) rfl (l' := #[.val (.int p0), .val (.int p1), .val (.int p2), .val (.int p3), .val (.int p4), .val (.int la), .val (.int ha), .val (.int yy), .val (.int lb), .val (.int hb_), .unset, .unset, .unset, .unset, .unset, .unset]) rfl ?_
        show Steps p.tables e below (T18.setTop (mkF m 45 #[.val (.int p0), .val (.int p1), .val (.int p2), .val (.int p3), .val (.int p4), .val (.int la), .val (.int ha), .val (.int yy), .val (.int lb), .val (.int hb_), .unset, .unset, .unset, .unset, .unset, .unset] [])) _
        refine st19 _ ?_
        show Steps p.tables e below (T19.setTop (mkF m 48 #[.val (.int p0), .val (.int p1), .val (.int p2), .val (.int p3), .val (.int p4), .val (.int la), .val (.int ha), .val (.int yy), .val (.int lb), .val (.int hb_), .unset, .unset, .unset, .unset, .unset, .unset] [(.ref b19)])) _
        refine XS.dup X19.here hx rfl (hb hby at_48) rfl rfl ?_
        show Steps p.tables e below (T19.setTop (mkF m 49 #[.val (.int p0), .val (.int p1), .val (.int p2), .val (.int p3), .val (.int p4), .val (.int la), .val (.int ha), .val (.int yy), .val (.int lb), .val (.int hb_), .unset, .unset, .unset, .unset, .unset, .unset] [(.ref b19), (.ref b19)])) _
        refine XS.iload X19.here hx rfl (hb hby at_49) rfl ?_
        show Steps p.tables e below (T19.setTop (mkF m 51 #[.val (.int p0), .val (.int p1), .val (.int p2), .val (.int p3), .val (.int p4), .val (.int la), .val (.int ha), .val (.int yy), .val (.int lb), .val (.int hb_), .unset, .unset, .unset, .unset, .unset, .unset] [(.int la), (.ref b19), (.ref b19)])) _
        refine own_i2d X19.here hx rfl (hb hby at_51) rfl ?_
        show Steps p.tables e below (T19.setTop (mkF m 52 #[.val (.int p0), .val (.int p1), .val (.int p2), .val (.int p3), .val (.int p4), .val (.int la), .val (.int ha), .val (.int yy), .val (.int lb), .val (.int hb_), .unset, .unset, .unset, .unset, .unset, .unset] [(.double (FP.i2d la)), (.ref b19), (.ref b19)])) _
        refine XS.iload X19.here hx rfl (hb hby at_52) rfl ?_
        show Steps p.tables e below (T19.setTop (mkF m 54 #[.val (.int p0), .val (.int p1), .val (.int p2), .val (.int p3), .val (.int p4), .val (.int la), .val (.int ha), .val (.int yy), .val (.int lb), .val (.int hb_), .unset, .unset, .unset, .unset, .unset, .unset] [(.int ha), (.double (FP.i2d la)), (.ref b19), (.ref b19)])) _
        refine own_i2d X19.here hx rfl (hb hby at_54) rfl ?_
        show Steps p.tables e below (T19.setTop (mkF m 55 #[.val (.int p0), .val (.int p1), .val (.int p2), .val (.int p3), .val (.int p4), .val (.int la), .val (.int ha), .val (.int yy), .val (.int lb), .val (.int hb_), .unset, .unset, .unset, .unset, .unset, .unset] [(.double (FP.i2d ha)), (.double (FP.i2d la)), (.ref b19), (.ref b19)])) _
        refine st20.trans ?_
        show Steps p.tables e below (T20.setTop (mkF m 58 #[.val (.int p0), .val (.int p1), .val (.int p2), .val (.int p3), .val (.int p4), .val (.int la), .val (.int ha), .val (.int yy), .val (.int lb), .val (.int hb_), .unset, .unset, .unset, .unset, .unset, .unset] [(.ref b19)])) _
        refine XS.astore X20.here hx rfl (hb hby at_58) rfl rfl (l' := #[.val (.int p0), .val (.int p1), .val (.int p2), .val (.int p3), .val (.int p4), .val (.int la), .val (.int ha), .val (.int yy), .val (.int lb), .val (.int hb_), .val (.ref b19), .unset, .unset, .unset, .unset, .unset]) rfl ?_
        show Steps p.tables e below (T20.setTop (mkF m 60 #[.val (.int p0), .val (.int p1), .val (.int p2), .val (.int p3), .val (.int p4), .val (.int la), .val (.int ha), .val (.int yy), .val (.int lb), .val (.int hb_), .val (.ref b19), .unset, .unset, .unset, .unset, .unset] [])) _
        refine st21 _ ?_
        show Steps p.tables e below (T21.setTop (mkF m 63 #[.val (.int p0), .val (.int p1), .val (.int p2), .val (.int p3), .val (.int p4), .val (.int la), .val (.int ha), .val (.int yy), .val (.int lb), .val (.int hb_), .val (.ref b19), .unset, .unset, .unset, .unset, .unset] [(.ref b21)])) _
        refine XS.dup X21.here hx rfl (hb hby at_63) rfl rfl ?_
        show Steps p.tables e below (T21.setTop (mkF m 64 #[.val (.int p0), .val (.int p1), .val (.int p2), .val (.int p3), .val (.int p4), .val (.int la), .val (.int ha), .val (.int yy), .val (.int lb), .val (.int hb_), .val (.ref b19), .unset, .unset, .unset, .unset, .unset] [(.ref b21), (.ref b21)])) _
        refine XS.iload X21.here hx rfl (hb hby at_64) rfl ?_
        show Steps p.tables e below (T21.setTop (mkF m 66 #[.val (.int p0), .val (.int p1), .val (.int p2), .val (.int p3), .val (.int p4), .val (.int la), .val (.int ha), .val (.int yy), .val (.int lb), .val (.int hb_), .val (.ref b19), .unset, .unset, .unset, .unset, .unset] [(.int lb), (.ref b21), (.ref b21)])) _
        refine own_i2d X21.here hx rfl (hb hby at_66) rfl ?_
        show Steps p.tables e below (T21.setTop (mkF m 67 #[.val (.int p0), .val (.int p1), .val (.int p2), .val (.int p3), .val (.int p4), .val (.int la), .val (.int ha), .val (.int yy), .val (.int lb), .val (.int hb_), .val (.ref b19), .unset, .unset, .unset, .unset, .unset] [(.double (FP.i2d lb)), (.ref b21), (.ref b21)])) _
        refine XS.iload X21.here hx rfl (hb hby at_67) rfl ?_
        show Steps p.tables e below (T21.setTop (mkF m 69 #[.val (.int p0), .val (.int p1), .val (.int p2), .val (.int p3), .val (.int p4), .val (.int la), .val (.int ha), .val (.int yy), .val (.int lb), .val (.int hb_), .val (.ref b19), .unset, .unset, .unset, .unset, .unset] [(.int hb_), (.double (FP.i2d lb)), (.ref b21), (.ref b21)])) _
        refine own_i2d X21.here hx rfl (hb hby at_69) rfl ?_
        show Steps p.tables e below (T21.setTop (mkF m 70 #[.val (.int p0), .val (.int p1), .val (.int p2), .val (.int p3), .val (.int p4), .val (.int la), .val (.int ha), .val (.int yy), .val (.int lb), .val (.int hb_), .val (.ref b19), .unset, .unset, .unset, .unset, .unset] [(.double (FP.i2d hb_)), (.double (FP.i2d lb)), (.ref b21), (.ref b21)])) _
        refine st22.trans ?_
        show Steps p.tables e below (T22.setTop (mkF m 73 #[.val (.int p0), .val (.int p1), .val (.int p2), .val (.int p3), .val (.int p4), .val (.int la), .val (.int ha), .val (.int yy), .val (.int lb), .val (.int hb_), .val (.ref b19), .unset, .unset, .unset, .unset, .unset] [(.ref b21)])) _
        refine XS.astore X22.here hx rfl (hb hby at_73) rfl rfl (l' := #[.val (.int p0), .val (.int p1), .val (.int p2), .val (.int p3), .val (.int p4), .val (.int la), .val (.int ha), .val (.int yy), .val (.int lb), .val (.int hb_), .val (.ref b19), .val (.ref b21), .unset, .unset, .unset, .unset]) rfl ?_
        show Steps p.tables e below (T22.setTop (mkF m 75 #[.val (.int p0), .val (.int p1), .val (.int p2), .val (.int p3), .val (.int p4), .val (.int la), .val (.int ha), .val (.int yy), .val (.int lb), .val (.int hb_), .val (.ref b19), .val (.ref b21), .unset, .unset, .unset, .unset] [])) _
        refine XS.aload X22.here hx rfl (hb hby at_75) rfl rfl ?_
        show Steps p.tables e below (T22.setTop (mkF m 77 #[.val (.int p0), .val (.int p1), .val (.int p2), .val (.int p3), .val (.int p4), .val (.int la), .val (.int ha), .val (.int yy), .val (.int lb), .val (.int hb_), .val (.ref b19), .val (.ref b21), .unset, .unset, .unset, .unset] [(.ref b19)])) _
        refine XS.aload X22.here hx rfl (hb hby at_77) rfl rfl ?_
        show Steps p.tables e below (T22.setTop (mkF m 79 #[.val (.int p0), .val (.int p1), .val (.int p2), .val (.int p3), .val (.int p4), .val (.int la), .val (.int ha), .val (.int yy), .val (.int lb), .val (.int hb_), .val (.ref b19), .val (.ref b21), .unset, .unset, .unset, .unset] [(.ref b21), (.ref b19)])) _
        refine st23.trans ?_
        show Steps p.tables e below (T23.setTop (mkF m 82 #[.val (.int p0), .val (.int p1), .val (.int p2), .val (.int p3), .val (.int p4), .val (.int la), .val (.int ha), .val (.int yy), .val (.int lb), .val (.int hb_), .val (.ref b19), .val (.ref b21), .unset, .unset, .unset, .unset] [(.int (if 0 < (cmpValue (FP.dcmp (FP.i2d la) (FP.i2d hb_)) .l) then (1 : Int32) else (0 : Int32)))])) _
        rw [own_abv la hb_]
        show Steps p.tables e below (T23.setTop (mkF m 82 #[.val (.int p0), .val (.int p1), .val (.int p2), .val (.int p3), .val (.int p4), .val (.int la), .val (.int ha), .val (.int yy), .val (.int lb), .val (.int hb_), .val (.ref b19), .val (.ref b21), .unset, .unset, .unset, .unset] [(.int (if hb_ < la then (1 : Int32) else (0 : Int32)))])) _
        refine XS.istore X23.here hx rfl (hb hby at_82) rfl (l' := #[.val (.int p0), .val (.int p1), .val (.int p2), .val (.int p3), .val (.int p4), .val (.int la), .val (.int ha), .val (.int yy), .val (.int lb), .val (.int hb_), .val (.ref b19), .val (.ref b21), .val (.int (if hb_ < la then (1 : Int32) else (0 : Int32))), .unset, .unset, .unset]) rfl ?_
        show Steps p.tables e below (T23.setTop (mkF m 84 #[.val (.int p0), .val (.int p1), .val (.int p2), .val (.int p3), .val (.int p4), .val (.int la), .val (.int ha), .val (.int yy), .val (.int lb), .val (.int hb_), .val (.ref b19), .val (.ref b21), .val (.int (if hb_ < la then (1 : Int32) else (0 : Int32))), .unset, .unset, .unset] [])) _
        refine XS.aload X23.here hx rfl (hb hby at_84) rfl rfl ?_
        show Steps p.tables e below (T23.setTop (mkF m 86 #[.val (.int p0), .val (.int p1), .val (.int p2), .val (.int p3), .val (.int p4), .val (.int la), .val (.int ha), .val (.int yy), .val (.int lb), .val (.int hb_), .val (.ref b19), .val (.ref b21), .val (.int (if hb_ < la then (1 : Int32) else (0 : Int32))), .unset, .unset, .unset] [(.ref b21)])) _
        refine XS.aload X23.here hx rfl (hb hby at_86) rfl rfl ?_
        show Steps p.tables e below (T23.setTop (mkF m 88 #[.val (.int p0), .val (.int p1), .val (.int p2), .val (.int p3), .val (.int p4), .val (.int la), .val (.int ha), .val (.int yy), .val (.int lb), .val (.int hb_), .val (.ref b19), .val (.ref b21), .val (.int (if hb_ < la then (1 : Int32) else (0 : Int32))), .unset, .unset, .unset] [(.ref b19), (.ref b21)])) _
        refine st24.trans ?_
        show Steps p.tables e below (T24.setTop (mkF m 91 #[.val (.int p0), .val (.int p1), .val (.int p2), .val (.int p3), .val (.int p4), .val (.int la), .val (.int ha), .val (.int yy), .val (.int lb), .val (.int hb_), .val (.ref b19), .val (.ref b21), .val (.int (if hb_ < la then (1 : Int32) else (0 : Int32))), .unset, .unset, .unset] [(.int (if 0 < (cmpValue (FP.dcmp (FP.i2d lb) (FP.i2d ha)) .l) then (1 : Int32) else (0 : Int32)))])) _
        rw [own_abv lb ha]
        show Steps p.tables e below (T24.setTop (mkF m 91 #[.val (.int p0), .val (.int p1), .val (.int p2), .val (.int p3), .val (.int p4), .val (.int la), .val (.int ha), .val (.int yy), .val (.int lb), .val (.int hb_), .val (.ref b19), .val (.ref b21), .val (.int (if hb_ < la then (1 : Int32) else (0 : Int32))), .unset, .unset, .unset] [(.int (if ha < lb then (1 : Int32) else (0 : Int32)))])) _
        refine XS.istore X24.here hx rfl (hb hby at_91) rfl (l' := #[.val (.int p0), .val (.int p1), .val (.int p2), .val (.int p3), .val (.int p4), .val (.int la), .val (.int ha), .val (.int yy), .val (.int lb), .val (.int hb_), .val (.ref b19), .val (.ref b21), .val (.int (if hb_ < la then (1 : Int32) else (0 : Int32))), .val (.int (if ha < lb then (1 : Int32) else (0 : Int32))), .unset, .unset]) rfl ?_
        show Steps p.tables e below (T24.setTop (mkF m 93 #[.val (.int p0), .val (.int p1), .val (.int p2), .val (.int p3), .val (.int p4), .val (.int la), .val (.int ha), .val (.int yy), .val (.int lb), .val (.int hb_), .val (.ref b19), .val (.ref b21), .val (.int (if hb_ < la then (1 : Int32) else (0 : Int32))), .val (.int (if ha < lb then (1 : Int32) else (0 : Int32))), .unset, .unset] [])) _
        refine XS.aload X24.here hx rfl (hb hby at_93) rfl rfl ?_
        show Steps p.tables e below (T24.setTop (mkF m 95 #[.val (.int p0), .val (.int p1), .val (.int p2), .val (.int p3), .val (.int p4), .val (.int la), .val (.int ha), .val (.int yy), .val (.int lb), .val (.int hb_), .val (.ref b19), .val (.ref b21), .val (.int (if hb_ < la then (1 : Int32) else (0 : Int32))), .val (.int (if ha < lb then (1 : Int32) else (0 : Int32))), .unset, .unset] [(.ref b19)])) _
        refine XS.aload X24.here hx rfl (hb hby at_95) rfl rfl ?_
        show Steps p.tables e below (T24.setTop (mkF m 97 #[.val (.int p0), .val (.int p1), .val (.int p2), .val (.int p3), .val (.int p4), .val (.int la), .val (.int ha), .val (.int yy), .val (.int lb), .val (.int hb_), .val (.ref b19), .val (.ref b21), .val (.int (if hb_ < la then (1 : Int32) else (0 : Int32))), .val (.int (if ha < lb then (1 : Int32) else (0 : Int32))), .unset, .unset] [(.ref b19), (.ref b19)])) _
        refine st25.trans ?_
        show Steps p.tables e below (T25.setTop (mkF m 100 #[.val (.int p0), .val (.int p1), .val (.int p2), .val (.int p3), .val (.int p4), .val (.int la), .val (.int ha), .val (.int yy), .val (.int lb), .val (.int hb_), .val (.ref b19), .val (.ref b21), .val (.int (if hb_ < la then (1 : Int32) else (0 : Int32))), .val (.int (if ha < lb then (1 : Int32) else (0 : Int32))), .unset, .unset] [(.int (if 0 < (cmpValue (FP.dcmp (FP.i2d la) (FP.i2d ha)) .l) then (1 : Int32) else (0 : Int32)))])) _
        rw [own_abv la ha]
        show Steps p.tables e below (T25.setTop (mkF m 100 #[.val (.int p0), .val (.int p1), .val (.int p2), .val (.int p3), .val (.int p4), .val (.int la), .val (.int ha), .val (.int yy), .val (.int lb), .val (.int hb_), .val (.ref b19), .val (.ref b21), .val (.int (if hb_ < la then (1 : Int32) else (0 : Int32))), .val (.int (if ha < lb then (1 : Int32) else (0 : Int32))), .unset, .unset] [(.int (if ha < la then (1 : Int32) else (0 : Int32)))])) _
        refine XS.istore X25.here hx rfl (hb hby at_100) rfl (l' := #[.val (.int p0), .val (.int p1), .val (.int p2), .val (.int p3), .val (.int p4), .val (.int la), .val (.int ha), .val (.int yy), .val (.int lb), .val (.int hb_), .val (.ref b19), .val (.ref b21), .val (.int (if hb_ < la then (1 : Int32) else (0 : Int32))), .val (.int (if ha < lb then (1 : Int32) else (0 : Int32))), .val (.int (if ha < la then (1 : Int32) else (0 : Int32))), .unset]) rfl ?_
        show Steps p.tables e below (T25.setTop (mkF m 102 #[.val (.int p0), .val (.int p1), .val (.int p2), .val (.int p3), .val (.int p4), .val (.int la), .val (.int ha), .val (.int yy), .val (.int lb), .val (.int hb_), .val (.ref b19), .val (.ref b21), .val (.int (if hb_ < la then (1 : Int32) else (0 : Int32))), .val (.int (if ha < lb then (1 : Int32) else (0 : Int32))), .val (.int (if ha < la then (1 : Int32) else (0 : Int32))), .unset] [])) _
        refine XS.aload X25.here hx rfl (hb hby at_102) rfl rfl ?_
        show Steps p.tables e below (T25.setTop (mkF m 104 #[.val (.int p0), .val (.int p1), .val (.int p2), .val (.int p3), .val (.int p4), .val (.int la), .val (.int ha), .val (.int yy), .val (.int lb), .val (.int hb_), .val (.ref b19), .val (.ref b21), .val (.int (if hb_ < la then (1 : Int32) else (0 : Int32))), .val (.int (if ha < lb then (1 : Int32) else (0 : Int32))), .val (.int (if ha < la then (1 : Int32) else (0 : Int32))), .unset] [(.ref b21)])) _
        refine XS.aload X25.here hx rfl (hb hby at_104) rfl rfl ?_
        show Steps p.tables e below (T25.setTop (mkF m 106 #[.val (.int p0), .val (.int p1), .val (.int p2), .val (.int p3), .val (.int p4), .val (.int la), .val (.int ha), .val (.int yy), .val (.int lb), .val (.int hb_), .val (.ref b19), .val (.ref b21), .val (.int (if hb_ < la then (1 : Int32) else (0 : Int32))), .val (.int (if ha < lb then (1 : Int32) else (0 : Int32))), .val (.int (if ha < la then (1 : Int32) else (0 : Int32))), .unset] [(.ref b19), (.ref b21)])) _
        refine st26.trans ?_
        show Steps p.tables e below (T26.setTop (mkF m 109 #[.val (.int p0), .val (.int p1), .val (.int p2), .val (.int p3), .val (.int p4), .val (.int la), .val (.int ha), .val (.int yy), .val (.int lb), .val (.int hb_), .val (.ref b19), .val (.ref b21), .val (.int (if hb_ < la then (1 : Int32) else (0 : Int32))), .val (.int (if ha < lb then (1 : Int32) else (0 : Int32))), .val (.int (if ha < la then (1 : Int32) else (0 : Int32))), .unset] [(.int (if (cmpValue (FP.dcmp (FP.i2d hb_) (FP.i2d la)) .g) < 0 then (1 : Int32) else (0 : Int32)))])) _
        rw [own_bel hb_ la]
        show Steps p.tables e below (T26.setTop (mkF m 109 #[.val (.int p0), .val (.int p1), .val (.int p2), .val (.int p3), .val (.int p4), .val (.int la), .val (.int ha), .val (.int yy), .val (.int lb), .val (.int hb_), .val (.ref b19), .val (.ref b21), .val (.int (if hb_ < la then (1 : Int32) else (0 : Int32))), .val (.int (if ha < lb then (1 : Int32) else (0 : Int32))), .val (.int (if ha < la then (1 : Int32) else (0 : Int32))), .unset] [(.int (if hb_ < la then (1 : Int32) else (0 : Int32)))])) _
        refine XS.istore X26.here hx rfl (hb hby at_109) rfl (l' := #[.val (.int p0), .val (.int p1), .val (.int p2), .val (.int p3), .val (.int p4), .val (.int la), .val (.int ha), .val (.int yy), .val (.int lb), .val (.int hb_), .val (.ref b19), .val (.ref b21), .val (.int (if hb_ < la then (1 : Int32) else (0 : Int32))), .val (.int (if ha < lb then (1 : Int32) else (0 : Int32))), .val (.int (if ha < la then (1 : Int32) else (0 : Int32))), .val (.int (if hb_ < la then (1 : Int32) else (0 : Int32)))]) rfl ?_
        show Steps p.tables e below (T26.setTop (mkF m 111 #[.val (.int p0), .val (.int p1), .val (.int p2), .val (.int p3), .val (.int p4), .val (.int la), .val (.int ha), .val (.int yy), .val (.int lb), .val (.int hb_), .val (.ref b19), .val (.ref b21), .val (.int (if hb_ < la then (1 : Int32) else (0 : Int32))), .val (.int (if ha < lb then (1 : Int32) else (0 : Int32))), .val (.int (if ha < la then (1 : Int32) else (0 : Int32))), .val (.int (if hb_ < la then (1 : Int32) else (0 : Int32)))] [])) _
        refine XS.iload X26.here hx rfl (hb hby at_111) rfl ?_
        show Steps p.tables e below (T26.setTop (mkF m 113 #[.val (.int p0), .val (.int p1), .val (.int p2), .val (.int p3), .val (.int p4), .val (.int la), .val (.int ha), .val (.int yy), .val (.int lb), .val (.int hb_), .val (.ref b19), .val (.ref b21), .val (.int (if hb_ < la then (1 : Int32) else (0 : Int32))), .val (.int (if ha < lb then (1 : Int32) else (0 : Int32))), .val (.int (if ha < la then (1 : Int32) else (0 : Int32))), .val (.int (if hb_ < la then (1 : Int32) else (0 : Int32)))] [(.int (if hb_ < la then (1 : Int32) else (0 : Int32)))])) _
        refine XS.iload X26.here hx rfl (hb hby at_113) rfl ?_
        show Steps p.tables e below (T26.setTop (mkF m 115 #[.val (.int p0), .val (.int p1), .val (.int p2), .val (.int p3), .val (.int p4), .val (.int la), .val (.int ha), .val (.int yy), .val (.int lb), .val (.int hb_), .val (.ref b19), .val (.ref b21), .val (.int (if hb_ < la then (1 : Int32) else (0 : Int32))), .val (.int (if ha < lb then (1 : Int32) else (0 : Int32))), .val (.int (if ha < la then (1 : Int32) else (0 : Int32))), .val (.int (if hb_ < la then (1 : Int32) else (0 : Int32)))] [(.int la), (.int (if hb_ < la then (1 : Int32) else (0 : Int32)))])) _
        refine XS.iload X26.here hx rfl (hb hby at_115) rfl ?_
        show Steps p.tables e below (T26.setTop (mkF m 117 #[.val (.int p0), .val (.int p1), .val (.int p2), .val (.int p3), .val (.int p4), .val (.int la), .val (.int ha), .val (.int yy), .val (.int lb), .val (.int hb_), .val (.ref b19), .val (.ref b21), .val (.int (if hb_ < la then (1 : Int32) else (0 : Int32))), .val (.int (if ha < lb then (1 : Int32) else (0 : Int32))), .val (.int (if ha < la then (1 : Int32) else (0 : Int32))), .val (.int (if hb_ < la then (1 : Int32) else (0 : Int32)))] [(.int hb_), (.int la), (.int (if hb_ < la then (1 : Int32) else (0 : Int32)))])) _
        refine XS.icmpYes X26.here hx rfl (pc0 := 117) (pc' := 124) rfl (hb hby at_117) rfl (XT.ii_le_t hq1) (by decide) (by decide) ?_
        show Steps p.tables e below (T26.setTop (mkF m 124 #[.val (.int p0), .val (.int p1), .val (.int p2), .val (.int p3), .val (.int p4), .val (.int la), .val (.int ha), .val (.int yy), .val (.int lb), .val (.int hb_), .val (.ref b19), .val (.ref b21), .val (.int (if hb_ < la then (1 : Int32) else (0 : Int32))), .val (.int (if ha < lb then (1 : Int32) else (0 : Int32))), .val (.int (if ha < la then (1 : Int32) else (0 : Int32))), .val (.int (if hb_ < la then (1 : Int32) else (0 : Int32)))] [(.int (if hb_ < la then (1 : Int32) else (0 : Int32)))])) _
        refine XS.iconst X26.here hx rfl (hb hby at_124) ?_
        show Steps p.tables e below (T26.setTop (mkF m 125 #[.val (.int p0), .val (.int p1), .val (.int p2), .val (.int p3), .val (.int p4), .val (.int la), .val (.int ha), .val (.int yy), .val (.int lb), .val (.int hb_), .val (.ref b19), .val (.ref b21), .val (.int (if hb_ < la then (1 : Int32) else (0 : Int32))), .val (.int (if ha < lb then (1 : Int32) else (0 : Int32))), .val (.int (if ha < la then (1 : Int32) else (0 : Int32))), .val (.int (if hb_ < la then (1 : Int32) else (0 : Int32)))] [(.int (0 : Int32)), (.int (if hb_ < la then (1 : Int32) else (0 : Int32)))])) _
        refine XS.icmpNo X26.here hx rfl (hb hby at_125) rfl (XT.ii_ne_f (if_neg hq1)) ?_
        show Steps p.tables e below (T26.setTop (mkF m 128 #[.val (.int p0), .val (.int p1), .val (.int p2), .val (.int p3), .val (.int p4), .val (.int la), .val (.int ha), .val (.int yy), .val (.int lb), .val (.int hb_), .val (.ref b19), .val (.ref b21), .val (.int (if hb_ < la then (1 : Int32) else (0 : Int32))), .val (.int (if ha < lb then (1 : Int32) else (0 : Int32))), .val (.int (if ha < la then (1 : Int32) else (0 : Int32))), .val (.int (if hb_ < la then (1 : Int32) else (0 : Int32)))] [])) _
        refine XS.iload X26.here hx rfl (hb hby at_128) rfl ?_
        show Steps p.tables e below (T26.setTop (mkF m 130 #[.val (.int p0), .val (.int p1), .val (.int p2), .val (.int p3), .val (.int p4), .val (.int la), .val (.int ha), .val (.int yy), .val (.int lb), .val (.int hb_), .val (.ref b19), .val (.ref b21), .val (.int (if hb_ < la then (1 : Int32) else (0 : Int32))), .val (.int (if ha < lb then (1 : Int32) else (0 : Int32))), .val (.int (if ha < la then (1 : Int32) else (0 : Int32))), .val (.int (if hb_ < la then (1 : Int32) else (0 : Int32)))] [(.int (if ha < lb then (1 : Int32) else (0 : Int32)))])) _
        refine XS.iload X26.here hx rfl (hb hby at_130) rfl ?_
        show Steps p.tables e below (T26.setTop (mkF m 132 #[.val (.int p0), .val (.int p1), .val (.int p2), .val (.int p3), .val (.int p4), .val (.int la), .val (.int ha), .val (.int yy), .val (.int lb), .val (.int hb_), .val (.ref b19), .val (.ref b21), .val (.int (if hb_ < la then (1 : Int32) else (0 : Int32))), .val (.int (if ha < lb then (1 : Int32) else (0 : Int32))), .val (.int (if ha < la then (1 : Int32) else (0 : Int32))), .val (.int (if hb_ < la then (1 : Int32) else (0 : Int32)))] [(.int lb), (.int (if ha < lb then (1 : Int32) else (0 : Int32)))])) _
        refine XS.iload X26.here hx rfl (hb hby at_132) rfl ?_
        show Steps p.tables e below (T26.setTop (mkF m 134 #[.val (.int p0), .val (.int p1), .val (.int p2), .val (.int p3), .val (.int p4), .val (.int la), .val (.int ha), .val (.int yy), .val (.int lb), .val (.int hb_), .val (.ref b19), .val (.ref b21), .val (.int (if hb_ < la then (1 : Int32) else (0 : Int32))), .val (.int (if ha < lb then (1 : Int32) else (0 : Int32))), .val (.int (if ha < la then (1 : Int32) else (0 : Int32))), .val (.int (if hb_ < la then (1 : Int32) else (0 : Int32)))] [(.int ha), (.int lb), (.int (if ha < lb then (1 : Int32) else (0 : Int32)))])) _
        refine XS.icmpNo X26.here hx rfl (hb hby at_134) rfl (XT.ii_le_f hq2) ?_
        show Steps p.tables e below (T26.setTop (mkF m 137 #[.val (.int p0), .val (.int p1), .val (.int p2), .val (.int p3), .val (.int p4), .val (.int la), .val (.int ha), .val (.int yy), .val (.int lb), .val (.int hb_), .val (.ref b19), .val (.ref b21), .val (.int (if hb_ < la then (1 : Int32) else (0 : Int32))), .val (.int (if ha < lb then (1 : Int32) else (0 : Int32))), .val (.int (if ha < la then (1 : Int32) else (0 : Int32))), .val (.int (if hb_ < la then (1 : Int32) else (0 : Int32)))] [(.int (if ha < lb then (1 : Int32) else (0 : Int32)))])) _
        refine XS.iconst X26.here hx rfl (hb hby at_137) ?_
        show Steps p.tables e below (T26.setTop (mkF m 138 #[.val (.int p0), .val (.int p1), .val (.int p2), .val (.int p3), .val (.int p4), .val (.int la), .val (.int ha), .val (.int yy), .val (.int lb), .val (.int hb_), .val (.ref b19), .val (.ref b21), .val (.int (if hb_ < la then (1 : Int32) else (0 : Int32))), .val (.int (if ha < lb then (1 : Int32) else (0 : Int32))), .val (.int (if ha < la then (1 : Int32) else (0 : Int32))), .val (.int (if hb_ < la then (1 : Int32) else (0 : Int32)))] [(.int (1 : Int32)), (.int (if ha < lb then (1 : Int32) else (0 : Int32)))])) _
        refine XS.goto X26.here hx rfl (pc0 := 138) (pc' := 142) rfl (hb hby at_138) (by decide) (by decide) ?_
        show Steps p.tables e below (T26.setTop (mkF m 142 #[.val (.int p0), .val (.int p1), .val (.int p2), .val (.int p3), .val (.int p4), .val (.int la), .val (.int ha), .val (.int yy), .val (.int lb), .val (.int hb_), .val (.ref b19), .val (.ref b21), .val (.int (if hb_ < la then (1 : Int32) else (0 : Int32))), .val (.int (if ha < lb then (1 : Int32) else (0 : Int32))), .val (.int (if ha < la then (1 : Int32) else (0 : Int32))), .val (.int (if hb_ < la then (1 : Int32) else (0 : Int32)))] [(.int (1 : Int32)), (.int (if ha < lb then (1 : Int32) else (0 : Int32)))])) _
        refine XS.icmpNo X26.here hx rfl (hb hby at_142) rfl (XT.ii_ne_f (if_pos hq2)) ?_
        show Steps p.tables e below (T26.setTop (mkF m 145 #[.val (.int p0), .val (.int p1), .val (.int p2), .val (.int p3), .val (.int p4), .val (.int la), .val (.int ha), .val (.int yy), .val (.int lb), .val (.int hb_), .val (.ref b19), .val (.ref b21), .val (.int (if hb_ < la then (1 : Int32) else (0 : Int32))), .val (.int (if ha < lb then (1 : Int32) else (0 : Int32))), .val (.int (if ha < la then (1 : Int32) else (0 : Int32))), .val (.int (if hb_ < la then (1 : Int32) else (0 : Int32)))] [])) _
        refine XS.iload X26.here hx rfl (hb hby at_145) rfl ?_
        show Steps p.tables e below (T26.setTop (mkF m 147 #[.val (.int p0), .val (.int p1), .val (.int p2), .val (.int p3), .val (.int p4), .val (.int la), .val (.int ha), .val (.int yy), .val (.int lb), .val (.int hb_), .val (.ref b19), .val (.ref b21), .val (.int (if hb_ < la then (1 : Int32) else (0 : Int32))), .val (.int (if ha < lb then (1 : Int32) else (0 : Int32))), .val (.int (if ha < la then (1 : Int32) else (0 : Int32))), .val (.int (if hb_ < la then (1 : Int32) else (0 : Int32)))] [(.int (if ha < la then (1 : Int32) else (0 : Int32)))])) _
        refine XS.ifNo X26.here hx rfl (hb hby at_147) rfl (XT.i0_ne_f (if_neg hlh)) ?_
        show Steps p.tables e below (T26.setTop (mkF m 150 #[.val (.int p0), .val (.int p1), .val (.int p2), .val (.int p3), .val (.int p4), .val (.int la), .val (.int ha), .val (.int yy), .val (.int lb), .val (.int hb_), .val (.ref b19), .val (.ref b21), .val (.int (if hb_ < la then (1 : Int32) else (0 : Int32))), .val (.int (if ha < lb then (1 : Int32) else (0 : Int32))), .val (.int (if ha < la then (1 : Int32) else (0 : Int32))), .val (.int (if hb_ < la then (1 : Int32) else (0 : Int32)))] [])) _
        refine XS.iload X26.here hx rfl (hb hby at_150) rfl ?_
        show Steps p.tables e below (T26.setTop (mkF m 152 #[.val (.int p0), .val (.int p1), .val (.int p2), .val (.int p3), .val (.int p4), .val (.int la), .val (.int ha), .val (.int yy), .val (.int lb), .val (.int hb_), .val (.ref b19), .val (.ref b21), .val (.int (if hb_ < la then (1 : Int32) else (0 : Int32))), .val (.int (if ha < lb then (1 : Int32) else (0 : Int32))), .val (.int (if ha < la then (1 : Int32) else (0 : Int32))), .val (.int (if hb_ < la then (1 : Int32) else (0 : Int32)))] [(.int (if hb_ < la then (1 : Int32) else (0 : Int32)))])) _
        refine XS.ifYes X26.here hx rfl (pc0 := 152) (pc' := 160) rfl (hb hby at_152) rfl (XT.i0_eq_t (if_neg hq1)) (by decide) (by decide) ?_
        show Steps p.tables e below (T26.setTop (mkF m 160 #[.val (.int p0), .val (.int p1), .val (.int p2), .val (.int p3), .val (.int p4), .val (.int la), .val (.int ha), .val (.int yy), .val (.int lb), .val (.int hb_), .val (.ref b19), .val (.ref b21), .val (.int (if hb_ < la then (1 : Int32) else (0 : Int32))), .val (.int (if ha < lb then (1 : Int32) else (0 : Int32))), .val (.int (if ha < la then (1 : Int32) else (0 : Int32))), .val (.int (if hb_ < la then (1 : Int32) else (0 : Int32)))] [])) _
        refine XS.iload X26.here hx rfl (hb hby at_160) rfl ?_
        show Steps p.tables e below (T26.setTop (mkF m 162 #[.val (.int p0), .val (.int p1), .val (.int p2), .val (.int p3), .val (.int p4), .val (.int la), .val (.int ha), .val (.int yy), .val (.int lb), .val (.int hb_), .val (.ref b19), .val (.ref b21), .val (.int (if hb_ < la then (1 : Int32) else (0 : Int32))), .val (.int (if ha < lb then (1 : Int32) else (0 : Int32))), .val (.int (if ha < la then (1 : Int32) else (0 : Int32))), .val (.int (if hb_ < la then (1 : Int32) else (0 : Int32)))] [(.int (if hb_ < la then (1 : Int32) else (0 : Int32)))])) _
        refine XS.iload X26.here hx rfl (hb hby at_162) rfl ?_
        show Steps p.tables e below (T26.setTop (mkF m 164 #[.val (.int p0), .val (.int p1), .val (.int p2), .val (.int p3), .val (.int p4), .val (.int la), .val (.int ha), .val (.int yy), .val (.int lb), .val (.int hb_), .val (.ref b19), .val (.ref b21), .val (.int (if hb_ < la then (1 : Int32) else (0 : Int32))), .val (.int (if ha < lb then (1 : Int32) else (0 : Int32))), .val (.int (if ha < la then (1 : Int32) else (0 : Int32))), .val (.int (if hb_ < la then (1 : Int32) else (0 : Int32)))] [(.int (if hb_ < la then (1 : Int32) else (0 : Int32))), (.int (if hb_ < la then (1 : Int32) else (0 : Int32)))])) _
        refine XS.icmpNo X26.here hx rfl (hb hby at_164) rfl (XT.ii_ne_f rfl) ?_
        show Steps p.tables e below (T26.setTop (mkF m 167 #[.val (.int p0), .val (.int p1), .val (.int p2), .val (.int p3), .val (.int p4), .val (.int la), .val (.int ha), .val (.int yy), .val (.int lb), .val (.int hb_), .val (.ref b19), .val (.ref b21), .val (.int (if hb_ < la then (1 : Int32) else (0 : Int32))), .val (.int (if ha < lb then (1 : Int32) else (0 : Int32))), .val (.int (if ha < la then (1 : Int32) else (0 : Int32))), .val (.int (if hb_ < la then (1 : Int32) else (0 : Int32)))] [])) _
        refine XS.iconst X26.here hx rfl (hb hby at_167) ?_
        show Steps p.tables e below (T26.setTop (mkF m 168 #[.val (.int p0), .val (.int p1), .val (.int p2), .val (.int p3), .val (.int p4), .val (.int la), .val (.int ha), .val (.int yy), .val (.int lb), .val (.int hb_), .val (.ref b19), .val (.ref b21), .val (.int (if hb_ < la then (1 : Int32) else (0 : Int32))), .val (.int (if ha < lb then (1 : Int32) else (0 : Int32))), .val (.int (if ha < la then (1 : Int32) else (0 : Int32))), .val (.int (if hb_ < la then (1 : Int32) else (0 : Int32)))] [(.int (1 : Int32))])) _
        refine XS.goto X26.here hx rfl (pc0 := 168) (pc' := 172) rfl (hb hby at_168) (by decide) (by decide) ?_
        show Steps p.tables e below (T26.setTop (mkF m 172 #[.val (.int p0), .val (.int p1), .val (.int p2), .val (.int p3), .val (.int p4), .val (.int la), .val (.int ha), .val (.int yy), .val (.int lb), .val (.int hb_), .val (.ref b19), .val (.ref b21), .val (.int (if hb_ < la then (1 : Int32) else (0 : Int32))), .val (.int (if ha < lb then (1 : Int32) else (0 : Int32))), .val (.int (if ha < la then (1 : Int32) else (0 : Int32))), .val (.int (if hb_ < la then (1 : Int32) else (0 : Int32)))] [(.int (1 : Int32))])) _
        exact retN X26 hx (t := .boolean) Bd.returns (by simp) (hb hby at_172) hr
      · show Q_own_law Z p0 p1 p2 p3 p4 la ha yy lb hb_ h0 n0 _ T26.heap _
        rw [eh26]
        exact ⟨rfl, N26⟩
    · obtain ⟨fs, hr, hrun, hended, hW, hsame⟩ := X26.leave (v := some (.int (1 : Int32))) (fun h => by rw [Bd.returns] at h; cases h)
      refine ⟨_, _, pre0 _ ?_, hrun, hended, _, _, rfl, ?_, ⟨_, rfl⟩, hW, hsame.mono (by decide) (by decide)⟩
      · show Steps p.tables e below (s₁.setTop (mkF m 0 #[.val (.int p0), .val (.int p1), .val (.int p2), .val (.int p3), .val (.int p4), .unset, .unset, .unset, .unset, .unset, .unset, .unset, .unset, .unset, .unset, .unset] [])) _
        refine XS.iloadN X0.here hx rfl (hb hby at_0) rfl ?_
        show Steps p.tables e below (s₁.setTop (mkF m 1 #[.val (.int p0), .val (.int p1), .val (.int p2), .val (.int p3), .val (.int p4), .unset, .unset, .unset, .unset, .unset, .unset, .unset, .unset, .unset, .unset, .unset] [(.int p0)])) _
        refine XS.iloadN X0.here hx rfl (hb hby at_1) rfl ?_
        show Steps p.tables e below (s₁.setTop (mkF m 2 #[.val (.int p0), .val (.int p1), .val (.int p2), .val (.int p3), .val (.int p4), .unset, .unset, .unset, .unset, .unset, .unset, .unset, .unset, .unset, .unset, .unset] [(.int p1), (.int p0)])) _
        refine st14 _ ?_
        show Steps p.tables e below (T14.setTop (mkF m 5 #[.val (.int p0), .val (.int p1), .val (.int p2), .val (.int p3), .val (.int p4), .unset, .unset, .unset, .unset, .unset, .unset, .unset, .unset, .unset, .unset, .unset] [(.int (if p1 < p0 then p1 else p0))])) _
        rw [h1]
        show Steps p.tables e below (T14.setTop (mkF m 5 #[.val (.int p0), .val (.int p1), .val (.int p2), .val (.int p3), .val (.int p4), .unset, .unset, .unset, .unset, .unset, .unset, .unset, .unset, .unset, .unset, .unset] [(.int la)])) _
        refine XS.istore X14.here hx rfl (hb hby at_5) rfl (l' := #[.val (.int p0), .val (.int p1), .val (.int p2), .val (.int p3), .val (.int p4), .val (.int la), .unset, .unset, .unset, .unset, .unset, .unset, .unset, .unset, .unset, .unset]) rfl ?_
        show Steps p.tables e below (T14.setTop (mkF m 7 #[.val (.int p0), .val (.int p1), .val (.int p2), .val (.int p3), .val (.int p4), .val (.int la), .unset, .unset, .unset, .unset, .unset, .unset, .unset, .unset, .unset, .unset] [])) _
        refine XS.iloadN X14.here hx rfl (hb hby at_7) rfl ?_
        show Steps p.tables e below (T14.setTop (mkF m 8 #[.val (.int p0), .val (.int p1), .val (.int p2), .val (.int p3), .val (.int p4), .val (.int la), .unset, .unset, .unset, .unset, .unset, .unset, .unset, .unset, .unset, .unset] [(.int p0)])) _
        refine XS.iloadN X14.here hx rfl (hb hby at_8) rfl ?_
        show Steps p.tables e below (T14.setTop (mkF m 9 #[.val (.int p0), .val (.int p1), .val (.int p2), .val (.int p3), .val (.int p4), .val (.int la), .unset, .unset, .unset, .unset, .unset, .unset, .unset, .unset, .unset, .unset] [(.int p1), (.int p0)])) _
        refine st15 _ ?_
        show Steps p.tables e below (T15.setTop (mkF m 12 #[.val (.int p0), .val (.int p1), .val (.int p2), .val (.int p3), .val (.int p4), .val (.int la), .unset, .unset, .unset, .unset, .unset, .unset, .unset, .unset, .unset, .unset] [(.int (if p0 < p1 then p1 else p0))])) _
        rw [h2]
        show Steps p.tables e below (T15.setTop (mkF m 12 #[.val (.int p0), .val (.int p1), .val (.int p2), .val (.int p3), .val (.int p4), .val (.int la), .unset, .unset, .unset, .unset, .unset, .unset, .unset, .unset, .unset, .unset] [(.int ha)])) _
        refine XS.istore X15.here hx rfl (hb hby at_12) rfl (l' := #[.val (.int p0), .val (.int p1), .val (.int p2), .val (.int p3), .val (.int p4), .val (.int la), .val (.int ha), .unset, .unset, .unset, .unset, .unset, .unset, .unset, .unset, .unset]) rfl ?_
        show Steps p.tables e below (T15.setTop (mkF m 14 #[.val (.int p0), .val (.int p1), .val (.int p2), .val (.int p3), .val (.int p4), .val (.int la), .val (.int ha), .unset, .unset, .unset, .unset, .unset, .unset, .unset, .unset, .unset] [])) _
        refine st16 _ ?_
        show Steps p.tables e below (T16.setTop (mkF m 27 #[.val (.int p0), .val (.int p1), .val (.int p2), .val (.int p3), .val (.int p4), .val (.int la), .val (.int ha), .unset, .unset, .unset, .unset, .unset, .unset, .unset, .unset, .unset] [(.int (if (p4 &&& (1 : Int32)) = 0 then p3 else la))])) _
        rw [hyy]
        show Steps p.tables e below (T16.setTop (mkF m 27 #[.val (.int p0), .val (.int p1), .val (.int p2), .val (.int p3), .val (.int p4), .val (.int la), .val (.int ha), .unset, .unset, .unset, .unset, .unset, .unset, .unset, .unset, .unset] [(.int yy)])) _
        refine XS.istore X16.here hx rfl (hb hby at_27) rfl (l' := #[.val (.int p0), .val (.int p1), .val (.int p2), .val (.int p3), .val (.int p4), .val (.int la), .val (.int ha), .val (.int yy), .unset, .unset, .unset, .unset, .unset, .unset, .unset, .unset]) rfl ?_
        show Steps p.tables e below (T16.setTop (mkF m 29 #[.val (.int p0), .val (.int p1), .val (.int p2), .val (.int p3), .val (.int p4), .val (.int la), .val (.int ha), .val (.int yy), .unset, .unset, .unset, .unset, .unset, .unset, .unset, .unset] [])) _
        refine XS.iloadN X16.here hx rfl (hb hby at_29) rfl ?_
        show Steps p.tables e below (T16.setTop (mkF m 30 #[.val (.int p0), .val (.int p1), .val (.int p2), .val (.int p3), .val (.int p4), .val (.int la), .val (.int ha), .val (.int yy), .unset, .unset, .unset, .unset, .unset, .unset, .unset, .unset] [(.int p2)])) _
        refine XS.iload X16.here hx rfl (hb hby at_30) rfl ?_
        show Steps p.tables e below (T16.setTop (mkF m 32 #[.val (.int p0), .val (.int p1), .val (.int p2), .val (.int p3), .val (.int p4), .val (.int la), .val (.int ha), .val (.int yy), .unset, .unset, .unset, .unset, .unset, .unset, .unset, .unset] [(.int yy), (.int p2)])) _
        refine st17 _ ?_
        show Steps p.tables e below (T17.setTop (mkF m 35 #[.val (.int p0), .val (.int p1), .val (.int p2), .val (.int p3), .val (.int p4), .val (.int la), .val (.int ha), .val (.int yy), .unset, .unset, .unset, .unset, .unset, .unset, .unset, .unset] [(.int (if yy < p2 then yy else p2))])) _
        rw [h3]
        show Steps p.tables e below (T17.setTop (mkF m 35 #[.val (.int p0), .val (.int p1), .val (.int p2), .val (.int p3), .val (.int p4), .val (.int la), .val (.int ha), .val (.int yy), .unset, .unset, .unset, .unset, .unset, .unset, .unset, .unset] [(.int lb)])) _
        refine XS.istore X17.here hx rfl (hb hby at_35) rfl (l' := #[.val (.int p0), .val (.int p1), .val (.int p2), .val (.int p3), .val (.int p4), .val (.int la), .val (.int ha), .val (.int yy), .val (.int lb), .unset, .unset, .unset, .unset, .unset, .unset, .unset]) rfl ?_
        show Steps p.tables e below (T17.setTop (mkF m 37 #[.val (.int p0), .val (.int p1), .val (.int p2), .val (.int p3), .val (.int p4), .val (.int la), .val (.int ha), .val (.int yy), .val (.int lb), .unset, .unset, .unset, .unset, .unset, .unset, .unset] [])) _
        refine XS.iloadN X17.here hx rfl (hb hby at_37) rfl ?_
        show Steps p.tables e below (T17.setTop (mkF m 38 #[.val (.int p0), .val (.int p1), .val (.int p2), .val (.int p3), .val (.int p4), .val (.int la), .val (.int ha), .val (.int yy), .val (.int lb), .unset, .unset, .unset, .unset, .unset, .unset, .unset] [(.int p2)])) _
        refine XS.iload X17.here hx rfl (hb hby at_38) rfl ?_
        show Steps p.tables e below (T17.setTop (mkF m 40 #[.val (.int p0), .val (.int p1), .val (.int p2), .val (.int p3), .val (.int p4), .val (.int la), .val (.int ha), .val (.int yy), .val (.int lb), .unset, .unset, .unset, .unset, .unset, .unset, .unset] [(.int yy), (.int p2)])) _
        refine st18 _ ?_
        show Steps p.tables e below (T18.setTop (mkF m 43 #[.val (.int p0), .val (.int p1), .val (.int p2), .val (.int p3), .val (.int p4), .val (.int la), .val (.int ha), .val (.int yy), .val (.int lb), .unset, .unset, .unset, .unset, .unset, .unset, .unset] [(.int (if p2 < yy then yy else p2))])) _
        rw [h4]
        show Steps p.tables e below (T18.setTop (mkF m 43 #[.val (.int p0), .val (.int p1), .val (.int p2), .val (.int p3), .val (.int p4), .val (.int la), .val (.int ha), .val (.int yy), .val (.int lb), .unset, .unset, .unset, .unset, .unset, .unset, .unset] [(.int hb_)])) _
        refine XS.istore X18.here hx rfl (hb hby at_43) rfl (l' := #[.val (.int p0), .val (.int p1), .val (.int p2), .val (.int p3), .val (.int p4), .val (.int la), .val (.int ha), .val (.int yy), .val (.int lb), .val (.int hb_), .unset, .unset, .unset, .unset, .unset, .unset]) rfl ?_
        show Steps p.tables e below (T18.setTop (mkF m 45 #[.val (.int p0), .val (.int p1), .val (.int p2), .val (.int p3), .val (.int p4), .val (.int la), .val (.int ha), .val (.int yy), .val (.int lb), .val (.int hb_), .unset, .unset, .unset, .unset, .unset, .unset] [])) _
        refine st19 _ ?_
        show Steps p.tables e below (T19.setTop (mkF m 48 #[.val (.int p0), .val (.int p1), .val (.int p2), .val (.int p3), .val (.int p4), .val (.int la), .val (.int ha), .val (.int yy), .val (.int lb), .val (.int hb_), .unset, .unset, .unset, .unset, .unset, .unset] [(.ref b19)])) _
        refine XS.dup X19.here hx rfl (hb hby at_48) rfl rfl ?_
        show Steps p.tables e below (T19.setTop (mkF m 49 #[.val (.int p0), .val (.int p1), .val (.int p2), .val (.int p3), .val (.int p4), .val (.int la), .val (.int ha), .val (.int yy), .val (.int lb), .val (.int hb_), .unset, .unset, .unset, .unset, .unset, .unset] [(.ref b19), (.ref b19)])) _
        refine XS.iload X19.here hx rfl (hb hby at_49) rfl ?_
        show Steps p.tables e below (T19.setTop (mkF m 51 #[.val (.int p0), .val (.int p1), .val (.int p2), .val (.int p3), .val (.int p4), .val (.int la), .val (.int ha), .val (.int yy), .val (.int lb), .val (.int hb_), .unset, .unset, .unset, .unset, .unset, .unset] [(.int la), (.ref b19), (.ref b19)])) _
        refine own_i2d X19.here hx rfl (hb hby at_51) rfl ?_
        show Steps p.tables e below (T19.setTop (mkF m 52 #[.val (.int p0), .val (.int p1), .val (.int p2), .val (.int p3), .val (.int p4), .val (.int la), .val (.int ha), .val (.int yy), .val (.int lb), .val (.int hb_), .unset, .unset, .unset, .unset, .unset, .unset] [(.double (FP.i2d la)), (.ref b19), (.ref b19)])) _
        refine XS.iload X19.here hx rfl (hb hby at_52) rfl ?_
        show Steps p.tables e below (T19.setTop (mkF m 54 #[.val (.int p0), .val (.int p1), .val (.int p2), .val (.int p3), .val (.int p4), .val (.int la), .val (.int ha), .val (.int yy), .val (.int lb), .val (.int hb_), .unset, .unset, .unset, .unset, .unset, .unset] [(.int ha), (.double (FP.i2d la)), (.ref b19), (.ref b19)])) _
        refine own_i2d X19.here hx rfl (hb hby at_54) rfl ?_
        show Steps p.tables e below (T19.setTop (mkF m 55 #[.val (.int p0), .val (.int p1), .val (.int p2), .val (.int p3), .val (.int p4), .val (.int la), .val (.int ha), .val (.int yy), .val (.int lb), .val (.int hb_), .unset, .unset, .unset, .unset, .unset, .unset] [(.double (FP.i2d ha)), (.double (FP.i2d la)), (.ref b19), (.ref b19)])) _
        refine st20.trans ?_
        show Steps p.tables e below (T20.setTop (mkF m 58 #[.val (.int p0), .val (.int p1), .val (.int p2), .val (.int p3), .val (.int p4), .val (.int la), .val (.int ha), .val (.int yy), .val (.int lb), .val (.int hb_), .unset, .unset, .unset, .unset, .unset, .unset] [(.ref b19)])) _
        refine XS.astore X20.here hx rfl (hb hby at_58) rfl rfl (l' := #[.val (.int p0), .val (.int p1), .val (.int p2), .val (.int p3), .val (.int p4), .val (.int la), .val (.int ha), .val (.int yy), .val (.int lb), .val (.int hb_), .val (.ref b19), .unset, .unset, .unset, .unset, .unset]) rfl ?_
        show Steps p.tables e below (T20.setTop (mkF m 60 #[.val (.int p0), .val (.int p1), .val (.int p2), .val (.int p3), .val (.int p4), .val (.int la), .val (.int ha), .val (.int yy), .val (.int lb), .val (.int hb_), .val (.ref b19), .unset, .unset, .unset, .unset, .unset] [])) _
        refine st21 _ ?_
        show Steps p.tables e below (T21.setTop (mkF m 63 #[.val (.int p0), .val (.int p1), .val (.int p2), .val (.int p3), .val (.int p4), .val (.int la), .val (.int ha), .val (.int yy), .val (.int lb), .val (.int hb_), .val (.ref b19), .unset, .unset, .unset, .unset, .unset] [(.ref b21)])) _
        refine XS.dup X21.here hx rfl (hb hby at_63) rfl rfl ?_
        show Steps p.tables e below (T21.setTop (mkF m 64 #[.val (.int p0), .val (.int p1), .val (.int p2), .val (.int p3), .val (.int p4), .val (.int la), .val (.int ha), .val (.int yy), .val (.int lb), .val (.int hb_), .val (.ref b19), .unset, .unset, .unset, .unset, .unset] [(.ref b21), (.ref b21)])) _
        refine XS.iload X21.here hx rfl (hb hby at_64) rfl ?_
        show Steps p.tables e below (T21.setTop (mkF m 66 #[.val (.int p0), .val (.int p1), .val (.int p2), .val (.int p3), .val (.int p4), .val (.int la), .val (.int ha), .val (.int yy), .val (.int lb), .val (.int hb_), .val (.ref b19), .unset, .unset, .unset, .unset, .unset] [(.int lb), (.ref b21), (.ref b21)])) _
        refine own_i2d X21.here hx rfl (hb hby at_66) rfl ?_
        show Steps p.tables e below (T21.setTop (mkF m 67 #[.val (.int p0), .val (.int p1), .val (.int p2), .val (.int p3), .val (.int p4), .val (.int la), .val (.int ha), .val (.int yy), .val (.int lb), .val (.int hb_), .val (.ref b19), .unset, .unset, .unset, .unset, .unset] [(.double (FP.i2d lb)), (.ref b21), (.ref b21)])) _
        refine XS.iload X21.here hx rfl (hb hby at_67) rfl ?_
        show Steps p.tables e below (T21.setTop (mkF m 69 #[.val (.int p0), .val (.int p1), .val (.int p2), .val (.int p3), .val (.int p4), .val (.int la), .val (.int ha), .val (.int yy), .val (.int lb), .val (.int hb_), .val (.ref b19), .unset, .unset, .unset, .unset, .unset] [(.int hb_), (.double (FP.i2d lb)), (.ref b21), (.ref b21)])) _
        refine own_i2d X21.here hx rfl (hb hby at_69) rfl ?_
        show Steps p.tables e below (T21.setTop (mkF m 70 #[.val (.int p0), .val (.int p1), .val (.int p2), .val (.int p3), .val (.int p4), .val (.int la), .val (.int ha), .val (.int yy), .val (.int lb), .val (.int hb_), .val (.ref b19), .unset, .unset, .unset, .unset, .unset] [(.double (FP.i2d hb_)), (.double (FP.i2d lb)), (.ref b21), (.ref b21)])) _
        refine st22.trans ?_
        show Steps p.tables e below (T22.setTop (mkF m 73 #[.val (.int p0), .val (.int p1), .val (.int p2), .val (.int p3), .val (.int p4), .val (.int la), .val (.int ha), .val (.int yy), .val (.int lb), .val (.int hb_), .val (.ref b19), .unset, .unset, .unset, .unset, .unset] [(.ref b21)])) _
        refine XS.astore X22.here hx rfl (hb hby at_73) rfl rfl (l' := #[.val (.int p0), .val (.int p1), .val (.int p2), .val (.int p3), .val (.int p4), .val (.int la), .val (.int ha), .val (.int yy), .val (.int lb), .val (.int hb_), .val (.ref b19), .val (.ref b21), .unset, .unset, .unset, .unset]) rfl ?_
        show Steps p.tables e below (T22.setTop (mkF m 75 #[.val (.int p0), .val (.int p1), .val (.int p2), .val (.int p3), .val (.int p4), .val (.int la), .val (.int ha), .val (.int yy), .val (.int lb), .val (.int hb_), .val (.ref b19), .val (.ref b21), .unset, .unset, .unset, .unset] [])) _
        refine XS.aload X22.here hx rfl (hb hby at_75) rfl rfl ?_
        show Steps p.tables e below (T22.setTop (mkF m 77 #[.val (.int p0), .val (.int p1), .val (.int p2), .val (.int p3), .val (.int p4), .val (.int la), .val (.int ha), .val (.int yy), .val (.int lb), .val (.int hb_), .val (.ref b19), .val (.ref b21), .unset, .unset, .unset, .unset] [(.ref b19)])) _
        refine XS.aload X22.here hx rfl (hb hby at_77) rfl rfl ?_
        show Steps p.tables e below (T22.setTop (mkF m 79 #[.val (.int p0), .val (.int p1), .val (.int p2), .val (.int p3), .val (.int p4), .val (.int la), .val (.int ha), .val (.int yy), .val (.int lb), .val (.int hb_), .val (.ref b19), .val (.ref b21), .unset, .unset, .unset, .unset] [(.ref b21), (.ref b19)])) _
        refine st23.trans ?_
        show Steps p.tables e below (T23.setTop (mkF m 82 #[.val (.int p0), .val (.int p1), .val (.int p2), .val (.int p3), .val (.int p4), .val (.int la), .val (.int ha), .val (.int yy), .val (.int lb), .val (.int hb_), .val (.ref b19), .val (.ref b21), .unset, .unset, .unset, .unset] [(.int (if 0 < (cmpValue (FP.dcmp (FP.i2d la) (FP.i2d hb_)) .l) then (1 : Int32) else (0 : Int32)))])) _
        rw [own_abv la hb_]
        show Steps p.tables e below (T23.setTop (mkF m 82 #[.val (.int p0), .val (.int p1), .val (.int p2), .val (.int p3), .val (.int p4), .val (.int la), .val (.int ha), .val (.int yy), .val (.int lb), .val (.int hb_), .val (.ref b19), .val (.ref b21), .unset, .unset, .unset, .unset] [(.int (if hb_ < la then (1 : Int32) else (0 : Int32)))])) _
        refine XS.istore X23.here hx rfl (hb hby at_82) rfl (l' := #[.val (.int p0), .val (.int p1), .val (.int p2), .val (.int p3), .val (.int p4), .val (.int la), .val (.int ha), .val (.int yy), .val (.int lb), .val (.int hb_), .val (.ref b19), .val (.ref b21), .val (.int (if hb_ < la then (1 : Int32) else (0 : Int32))), .unset, .unset, .unset]) rfl ?_
        show Steps p.tables e below (T23.setTop (mkF m 84 #[.val (.int p0), .val (.int p1), .val (.int p2), .val (.int p3), .val (.int p4), .val (.int la), .val (.int ha), .val (.int yy), .val (.int lb), .val (.int hb_), .val (.ref b19), .val (.ref b21), .val (.int (if hb_ < la then (1 : Int32) else (0 : Int32))), .unset, .unset, .unset] [])) _
        refine XS.aload X23.here hx rfl (hb hby at_84) rfl rfl ?_
        show Steps p.tables e below (T23.setTop (mkF m 86 #[.val (.int p0), .val (.int p1), .val (.int p2), .val (.int p3), .val (.int p4), .val (.int la), .val (.int ha), .val (.int yy), .val (.int lb), .val (.int hb_), .val (.ref b19), .val (.ref b21), .val (.int (if hb_ < la then (1 : Int32) else (0 : Int32))), .unset, .unset, .unset] [(.ref b21)])) _
        refine XS.aload X23.here hx rfl (hb hby at_86) rfl rfl ?_
        show Steps p.tables e below (T23.setTop (mkF m 88 #[.val (.int p0), .val (.int p1), .val (.int p2), .val (.int p3), .val (.int p4), .val (.int la), .val (.int ha), .val (.int yy), .val (.int lb), .val (.int hb_), .val (.ref b19), .val (.ref b21), .val (.int (if hb_ < la then (1 : Int32) else (0 : Int32))), .unset, .unset, .unset] [(.ref b19), (.ref b21)])) _
        refine st24.trans ?_
        show Steps p.tables e below (T24.setTop (mkF m 91 #[.val (.int p0), .val (.int p1), .val (.int p2), .val (.int p3), .val (.int p4), .val (.int la), .val (.int ha), .val (.int yy), .val (.int lb), .val (.int hb_), .val (.ref b19), .val (.ref b21), .val (.int (if hb_ < la then (1 : Int32) else (0 : Int32))), .unset, .unset, .unset] [(.int (if 0 < (cmpValue (FP.dcmp (FP.i2d lb) (FP.i2d ha)) .l) then (1 : Int32) else (0 : Int32)))])) _
        rw [own_abv lb ha]
        show Steps p.tables e below (T24.setTop (mkF m 91 #[.val (.int p0), .val (.int p1), .val (.int p2), .val (.int p3), .val (.int p4), .val (.int la), .val (.int ha), .val (.int yy), .val (.int lb), .val (.int hb_), .val (.ref b19), .val (.ref b21), .val (.int (if hb_ < la then (1 : Int32) else (0 : Int32))), .unset, .unset, .unset] [(.int (if ha < lb then (1 : Int32) else (0 : Int32)))])) _
        refine XS.istore X24.here hx rfl (hb hby at_91) rfl (l' := #[.val (.int p0), .val (.int p1), .val (.int p2), .val (.int p3), .val (.int p4), .val (.int la), .val (.int ha), .val (.int yy), .val (.int lb), .val (.int hb_), .val (.ref b19), .val (.ref b21), .val (.int (if hb_ < la then (1 : Int32) else (0 : Int32))), .val (.int (if ha < lb then (1 : Int32) else (0 : Int32))), .unset, .unset]) rfl ?_
        show Steps p.tables e below (T24.setTop (mkF m 93 #[.val (.int p0), .val (.int p1), .val (.int p2), .val (.int p3), .val (.int p4), .val (.int la), .val (.int ha), .val (.int yy), .val (.int lb), .val (.int hb_), .val (.ref b19), .val (.ref b21), .val (.int (if hb_ < la then (1 : Int32) else (0 : Int32))), .val (.int (if ha < lb then (1 : Int32) else (0 : Int32))), .unset, .unset] [])) _
        refine XS.aload X24.here hx rfl (hb hby at_93) rfl rfl ?_
        show Steps p.tables e below (T24.setTop (mkF m 95 #[.val (.int p0), .val (.int p1), .val (.int p2), .val (.int p3), .val (.int p4), .val (.int la), .val (.int ha), .val (.int yy), .val (.int lb), .val (.int hb_), .val (.ref b19), .val (.ref b21), .val (.int (if hb_ < la then (1 : Int32) else (0 : Int32))), .val (.int (if ha < lb then (1 : Int32) else (0 : Int32))), .unset, .unset] [(.ref b19)])) _
        refine XS.aload X24.here hx rfl (hb hby at_95) rfl rfl ?_
        show Steps p.tables e below (T24.setTop (mkF m 97 #[.val (.int p0), .val (.int p1), .val (.int p2), .val (.int p3), .val (.int p4), .val (.int la), .val (.int ha), .val (.int yy), .val (.int lb), .val (.int hb_), .val (.ref b19), .val (.ref b21), .val (.int (if hb_ < la then (1 : Int32) else (0 : Int32))), .val (.int (if ha < lb then (1 : Int32) else (0 : Int32))), .unset, .unset] [(.ref b19), (.ref b19)])) _
        refine st25.trans ?_
        show Steps p.tables e below (T25.setTop (mkF m 100 #[.val (.int p0), .val (.int p1), .val (.int p2), .val (.int p3), .val (.int p4), .val (.int la), .val (.int ha), .val (.int yy), .val (.int lb), .val (.int hb_), .val (.ref b19), .val (.ref b21), .val (.int (if hb_ < la then (1 : Int32) else (0 : Int32))), .val (.int (if ha < lb then (1 : Int32) else (0 : Int32))), .unset, .unset] [(.int (if 0 < (cmpValue (FP.dcmp (FP.i2d la) (FP.i2d ha)) .l) then (1 : Int32) else (0 : Int32)))])) _
        rw [own_abv la ha]
        show Steps p.tables e below (T25.setTop (mkF m 100 #[.val (.int p0), .val (.int p1), .val (.int p2), .val (.int p3), .val (.int p4), .val (.int la), .val (.int ha), .val (.int yy), .val (.int lb), .val (.int hb_), .val (.ref b19), .val (.ref b21), .val (.int (if hb_ < la then (1 : Int32) else (0 : Int32))), .val (.int (if ha < lb then (1 : Int32) else (0 : Int32))), .unset, .unset] [(.int (if ha < la then (1 : Int32) else (0 : Int32)))])) _
        refine XS.istore X25.here hx rfl (hb hby at_100) rfl (l' := #[.val (.int p0), .val (.int p1), .val (.int p2), .val (.int p3), .val (.int p4), .val (.int la), .val (.int ha), .val (.int yy), .val (.int lb), .val (.int hb_), .val (.ref b19), .val (.ref b21), .val (.int (if hb_ < la then (1 : Int32) else (0 : Int32))), .val (.int (if ha < lb then (1 : Int32) else (0 : Int32))), .val (.int (if ha < la then (1 : Int32) else (0 : Int32))), .unset]) rfl ?_
        show Steps p.tables e below (T25.setTop (mkF m 102 #[.val (.int p0), .val (.int p1), .val (.int p2), .val (.int p3), .val (.int p4), .val (.int la), .val (.int ha), .val (.int yy), .val (.int lb), .val (.int hb_), .val (.ref b19), .val (.ref b21), .val (.int (if hb_ < la then (1 : Int32) else (0 : Int32))), .val (.int (if ha < lb then (1 : Int32) else (0 : Int32))), .val (.int (if ha < la then (1 : Int32) else (0 : Int32))), .unset] [])) _
        refine XS.aload X25.here hx rfl (hb hby at_102) rfl rfl ?_
        show Steps p.tables e below (T25.setTop (mkF m 104 #[.val (.int p0), .val (.int p1), .val (.int p2), .val (.int p3), .val (.int p4), .val (.int la), .val (.int ha), .val (.int yy), .val (.int lb), .val (.int hb_), .val (.ref b19), .val (.ref b21), .val (.int (if hb_ < la then (1 : Int32) else (0 : Int32))), .val (.int (if ha < lb then (1 : Int32) else (0 : Int32))), .val (.int (if ha < la then (1 : Int32) else (0 : Int32))), .unset] [(.ref b21)])) _
        refine XS.aload X25.here hx rfl (hb hby at_104) rfl rfl ?_
        show Steps p.tables e below (T25.setTop (mkF m 106 #[.val (.int p0), .val (.int p1), .val (.int p2), .val (.int p3), .val (.int p4), .val (.int la), .val (.int ha), .val (.int yy), .val (.int lb), .val (.int hb_), .val (.ref b19), .val (.ref b21), .val (.int (if hb_ < la then (1 : Int32) else (0 : Int32))), .val (.int (if ha < lb then (1 : Int32) else (0 : Int32))), .val (.int (if ha < la then (1 : Int32) else (0 : Int32))), .unset] [(.ref b19), (.ref b21)])) _
        refine st26.trans ?_
        show Steps p.tables e below (T26.setTop (mkF m 109 #[.val (.int p0), .val (.int p1), .val (.int p2), .val (.int p3), .val (.int p4), .val (.int la), .val (.int ha), .val (.int yy), .val (.int lb), .val (.int hb_), .val (.ref b19), .val (.ref b21), .val (.int (if hb_ < la then (1 : Int32) else (0 : Int32))), .val (.int (if ha < lb then (1 : Int32) else (0 : Int32))), .val (.int (if ha < la then (1 : Int32) else (0 : Int32))), .unset] [(.int (if (cmpValue (FP.dcmp (FP.i2d hb_) (FP.i2d la)) .g) < 0 then (1 : Int32) else (0 : Int32)))])) _
        rw [own_bel hb_ la]
        show Steps p.tables e below (T26.setTop (mkF m 109 #[.val (.int p0), .val (.int p1), .val (.int p2), .val (.int p3), .val (.int p4), .val (.int la), .val (.int ha), .val (.int yy), .val (.int lb), .val (.int hb_), .val (.ref b19), .val (.ref b21), .val (.int (if hb_ < la then (1 : Int32) else (0 : Int32))), .val (.int (if ha < lb then (1 : Int32) else (0 : Int32))), .val (.int (if ha < la then (1 : Int32) else (0 : Int32))), .unset] [(.int (if hb_ < la then (1 : Int32) else (0 : Int32)))])) _
        refine XS.istore X26.here hx rfl (hb hby at_109) rfl (l' := #[.val (.int p0), .val (.int p1), .val (.int p2), .val (.int p3), .val (.int p4), .val (.int la), .val (.int ha), .val (.int yy), .val (.int lb), .val (.int hb_), .val (.ref b19), .val (.ref b21), .val (.int (if hb_ < la then (1 : Int32) else (0 : Int32))), .val (.int (if ha < lb then (1 : Int32) else (0 : Int32))), .val (.int (if ha < la then (1 : Int32) else (0 : Int32))), .val (.int (if hb_ < la then (1 : Int32) else (0 : Int32)))]) rfl ?_
        show Steps p.tables e below (T26.setTop (mkF m 111 #[.val (.int p0), .val (.int p1), .val (.int p2), .val (.int p3), .val (.int p4), .val (.int la), .val (.int ha), .val (.int yy), .val (.int lb), .val (.int hb_), .val (.ref b19), .val (.ref b21), .val (.int (if hb_ < la then (1 : Int32) else (0 : Int32))), .val (.int (if ha < lb then (1 : Int32) else (0 : Int32))), .val (.int (if ha < la then (1 : Int32) else (0 : Int32))), .val (.int (if hb_ < la then (1 : Int32) else (0 : Int32)))] [])) _
        refine XS.iload X26.here hx rfl (hb hby at_111) rfl ?_
        show Steps p.tables e below (T26.setTop (mkF m 113 #[.val (.int p0), .val (.int p1), .val (.int p2), .val (.int p3), .val (.int p4), .val (.int la), .val (.int ha), .val (.int yy), .val (.int lb), .val (.int hb_), .val (.ref b19), .val (.ref b21), .val (.int (if hb_ < la then (1 : Int32) else (0 : Int32))), .val (.int (if ha < lb then (1 : Int32) else (0 : Int32))), .val (.int (if ha < la then (1 : Int32) else (0 : Int32))), .val (.int (if hb_ < la then (1 : Int32) else (0 : Int32)))] [(.int (if hb_ < la then (1 : Int32) else (0 : Int32)))])) _
        refine XS.iload X26.here hx rfl (hb hby at_113) rfl ?_
        show Steps p.tables e below (T26.setTop (mkF m 115 #[.val (.int p0), .val (.int p1), .val (.int p2), .val (.int p3), .val (.int p4), .val (.int la), .val (.int ha), .val (.int yy), .val (.int lb), .val (.int hb_), .val (.ref b19), .val (.ref b21), .val (.int (if hb_ < la then (1 : Int32) else (0 : Int32))), .val (.int (if ha < lb then (1 : Int32) else (0 : Int32))), .val (.int (if ha < la then (1 : Int32) else (0 : Int32))), .val (.int (if hb_ < la then (1 : Int32) else (0 : Int32)))] [(.int la), (.int (if hb_ < la then (1 : Int32) else (0 : Int32)))])) _
        refine XS.iload X26.here hx rfl (hb hby at_115) rfl ?_
        show Steps p.tables e below (T26.setTop (mkF m 117 #[.val (.int p0), .val (.int p1), .val (.int p2), .val (.int p3), .val (.int p4), .val (.int la), .val (.int ha), .val (.int yy), .val (.int lb), .val (.int hb_), .val (.ref b19), .val (.ref b21), .val (.int (if hb_ < la then (1 : Int32) else (0 : Int32))), .val (.int (if ha < lb then (1 : Int32) else (0 : Int32))), .val (.int (if ha < la then (1 : Int32) else (0 : Int32))), .val (.int (if hb_ < la then (1 : Int32) else (0 : Int32)))] [(.int hb_), (.int la), (.int (if hb_ < la then (1 : Int32) else (0 : Int32)))])) _
        refine XS.icmpYes X26.here hx rfl (pc0 := 117) (pc' := 124) rfl (hb hby at_117) rfl (XT.ii_le_t hq1) (by decide) (by decide) ?_
        show Steps p.tables e below (T26.setTop (mkF m 124 #[.val (.int p0), .val (.int p1), .val (.int p2), .val (.int p3), .val (.int p4), .val (.int la), .val (.int ha), .val (.int yy), .val (.int lb), .val (.int hb_), .val (.ref b19), .val (.ref b21), .val (.int (if hb_ < la then (1 : Int32) else (0 : Int32))), .val (.int (if ha < lb then (1 : Int32) else (0 : Int32))), .val (.int (if ha < la then (1 : Int32) else (0 : Int32))), .val (.int (if hb_ < la then (1 : Int32) else (0 : Int32)))] [(.int (if hb_ < la then (1 : Int32) else (0 : Int32)))])) _
        refine XS.iconst X26.here hx rfl (hb hby at_124) ?_
        show Steps p.tables e below (T26.setTop (mkF m 125 #[.val (.int p0), .val (.int p1), .val (.int p2), .val (.int p3), .val (.int p4), .val (.int la), .val (.int ha), .val (.int yy), .val (.int lb), .val (.int hb_), .val (.ref b19), .val (.ref b21), .val (.int (if hb_ < la then (1 : Int32) else (0 : Int32))), .val (.int (if ha < lb then (1 : Int32) else (0 : Int32))), .val (.int (if ha < la then (1 : Int32) else (0 : Int32))), .val (.int (if hb_ < la then (1 : Int32) else (0 : Int32)))] [(.int (0 : Int32)), (.int (if hb_ < la then (1 : Int32) else (0 : Int32)))])) _
        refine XS.icmpNo X26.here hx rfl (hb hby at_125) rfl (XT.ii_ne_f (if_neg hq1)) ?_
        show Steps p.tables e below (T26.setTop (mkF m 128 #[.val (.int p0), .val (.int p1), .val (.int p2), .val (.int p3), .val (.int p4), .val (.int la), .val (.int ha), .val (.int yy), .val (.int lb), .val (.int hb_), .val (.ref b19), .val (.ref b21), .val (.int (if hb_ < la then (1 : Int32) else (0 : Int32))), .val (.int (if ha < lb then (1 : Int32) else (0 : Int32))), .val (.int (if ha < la then (1 : Int32) else (0 : Int32))), .val (.int (if hb_ < la then (1 : Int32) else (0 : Int32)))] [])) _
        refine XS.iload X26.here hx rfl (hb hby at_128) rfl ?_
        show Steps p.tables e below (T26.setTop (mkF m 130 #[.val (.int p0), .val (.int p1), .val (.int p2), .val (.int p3), .val (.int p4), .val (.int la), .val (.int ha), .val (.int yy), .val (.int lb), .val (.int hb_), .val (.ref b19), .val (.ref b21), .val (.int (if hb_ < la then (1 : Int32) else (0 : Int32))), .val (.int (if ha < lb then (1 : Int32) else (0 : Int32))), .val (.int (if ha < la then (1 : Int32) else (0 : Int32))), .val (.int (if hb_ < la then (1 : Int32) else (0 : Int32)))] [(.int (if ha < lb then (1 : Int32) else (0 : Int32)))])) _
        refine XS.iload X26.here hx rfl (hb hby at_130) rfl ?_
        show Steps p.tables e below (T26.setTop (mkF m 132 #[.val (.int p0), .val (.int p1), .val (.int p2), .val (.int p3), .val (.int p4), .val (.int la), .val (.int ha), .val (.int yy), .val (.int lb), .val (.int hb_), .val (.ref b19), .val (.ref b21), .val (.int (if hb_ < la then (1 : Int32) else (0 : Int32))), .val (.int (if ha < lb then (1 : Int32) else (0 : Int32))), .val (.int (if ha < la then (1 : Int32) else (0 : Int32))), .val (.int (if hb_ < la then (1 : Int32) else (0 : Int32)))] [(.int lb), (.int (if ha < lb then (1 : Int32) else (0 : Int32)))])) _
        refine XS.iload X26.here hx rfl (hb hby at_132) rfl ?_
        show Steps p.tables e below (T26.setTop (mkF m 134 #[.val (.int p0), .val (.int p1), .val (.int p2), .val (.int p3), .val (.int p4), .val (.int la), .val (.int ha), .val (.int yy), .val (.int lb), .val (.int hb_), .val (.ref b19), .val (.ref b21), .val (.int (if hb_ < la then (1 : Int32) else (0 : Int32))), .val (.int (if ha < lb then (1 : Int32) else (0 : Int32))), .val (.int (if ha < la then (1 : Int32) else (0 : Int32))), .val (.int (if hb_ < la then (1 : Int32) else (0 : Int32)))] [(.int ha), (.int lb), (.int (if ha < lb then (1 : Int32) else (0 : Int32)))])) _
        refine XS.icmpYes X26.here hx rfl (pc0 := 134) (pc' := 141) rfl (hb hby at_134) rfl (XT.ii_le_t hq2) (by decide) (by decide) ?_
        show Steps p.tables e below (T26.setTop (mkF m 141 #[.val (.int p0), .val (.int p1), .val (.int p2), .val (.int p3), .val (.int p4), .val (.int la), .val (.int ha), .val (.int yy), .val (.int lb), .val (.int hb_), .val (.ref b19), .val (.ref b21), .val (.int (if hb_ < la then (1 : Int32) else (0 : Int32))), .val (.int (if ha < lb then (1 : Int32) else (0 : Int32))), .val (.int (if ha < la then (1 : Int32) else (0 : Int32))), .val (.int (if hb_ < la then (1 : Int32) else (0 : Int32)))] [(.int (if ha < lb then (1 : Int32) else (0 : Int32)))])) _
        refine XS.iconst X26.here hx rfl (hb hby at_141) ?_
        show Steps p.tables e below (T26.setTop (mkF m 142 #[.val (.int p0), .val (.int p1), .val (.int p2), .val (.int p3), .val (.int p4), .val (.int la), .val (.int ha), .val (.int yy), .val (.int lb), .val (.int hb_), .val (.ref b19), .val (.ref b21), .val (.int (if hb_ < la then (1 : Int32) else (0 : Int32))), .val (.int (if ha < lb then (1 : Int32) else (0 : Int32))), .val (.int (if ha < la then (1 : Int32) else (0 : Int32))), .val (.int (if hb_ < la then (1 : Int32) else (0 : Int32)))] [(.int (0 : Int32)), (.int (if ha < lb then (1 : Int32) else (0 : Int32)))])) _
        refine XS.icmpNo X26.here hx rfl (hb hby at_142) rfl (XT.ii_ne_f (if_neg hq2)) ?_
        show Steps p.tables e below (T26.setTop (mkF m 145 #[.val (.int p0), .val (.int p1), .val (.int p2), .val (.int p3), .val (.int p4), .val (.int la), .val (.int ha), .val (.int yy), .val (.int lb), .val (.int hb_), .val (.ref b19), .val (.ref b21), .val (.int (if hb_ < la then (1 : Int32) else (0 : Int32))), .val (.int (if ha < lb then (1 : Int32) else (0 : Int32))), .val (.int (if ha < la then (1 : Int32) else (0 : Int32))), .val (.int (if hb_ < la then (1 : Int32) else (0 : Int32)))] [])) _
        refine XS.iload X26.here hx rfl (hb hby at_145) rfl ?_
        show Steps p.tables e below (T26.setTop (mkF m 147 #[.val (.int p0), .val (.int p1), .val (.int p2), .val (.int p3), .val (.int p4), .val (.int la), .val (.int ha), .val (.int yy), .val (.int lb), .val (.int hb_), .val (.ref b19), .val (.ref b21), .val (.int (if hb_ < la then (1 : Int32) else (0 : Int32))), .val (.int (if ha < lb then (1 : Int32) else (0 : Int32))), .val (.int (if ha < la then (1 : Int32) else (0 : Int32))), .val (.int (if hb_ < la then (1 : Int32) else (0 : Int32)))] [(.int (if ha < la then (1 : Int32) else (0 : Int32)))])) _
        refine XS.ifNo X26.here hx rfl (hb hby at_147) rfl (XT.i0_ne_f (if_neg hlh)) ?_
        show Steps p.tables e below (T26.setTop (mkF m 150 #[.val (.int p0), .val (.int p1), .val (.int p2), .val (.int p3), .val (.int p4), .val (.int la), .val (.int ha), .val (.int yy), .val (.int lb), .val (.int hb_), .val (.ref b19), .val (.ref b21), .val (.int (if hb_ < la then (1 : Int32) else (0 : Int32))), .val (.int (if ha < lb then (1 : Int32) else (0 : Int32))), .val (.int (if ha < la then (1 : Int32) else (0 : Int32))), .val (.int (if hb_ < la then (1 : Int32) else (0 : Int32)))] [])) _
        refine XS.iload X26.here hx rfl (hb hby at_150) rfl ?_
        show Steps p.tables e below (T26.setTop (mkF m 152 #[.val (.int p0), .val (.int p1), .val (.int p2), .val (.int p3), .val (.int p4), .val (.int la), .val (.int ha), .val (.int yy), .val (.int lb), .val (.int hb_), .val (.ref b19), .val (.ref b21), .val (.int (if hb_ < la then (1 : Int32) else (0 : Int32))), .val (.int (if ha < lb then (1 : Int32) else (0 : Int32))), .val (.int (if ha < la then (1 : Int32) else (0 : Int32))), .val (.int (if hb_ < la then (1 : Int32) else (0 : Int32)))] [(.int (if hb_ < la then (1 : Int32) else (0 : Int32)))])) _
        refine XS.ifYes X26.here hx rfl (pc0 := 152) (pc' := 160) rfl (hb hby at_152) rfl (XT.i0_eq_t (if_neg hq1)) (by decide) (by decide) ?_
        show Steps p.tables e below (T26.setTop (mkF m 160 #[.val (.int p0), .val (.int p1), .val (.int p2), .val (.int p3), .val (.int p4), .val (.int la), .val (.int ha), .val (.int yy), .val (.int lb), .val (.int hb_), .val (.ref b19), .val (.ref b21), .val (.int (if hb_ < la then (1 : Int32) else (0 : Int32))), .val (.int (if ha < lb then (1 : Int32) else (0 : Int32))), .val (.int (if ha < la then (1 : Int32) else (0 : Int32))), .val (.int (if hb_ < la then (1 : Int32) else (0 : Int32)))] [])) _
        refine XS.iload X26.here hx rfl (hb hby at_160) rfl ?_
        show Steps p.tables e below (T26.setTop (mkF m 162 #[.val (.int p0), .val (.int p1), .val (.int p2), .val (.int p3), .val (.int p4), .val (.int la), .val (.int ha), .val (.int yy), .val (.int lb), .val (.int hb_), .val (.ref b19), .val (.ref b21), .val (.int (if hb_ < la then (1 : Int32) else (0 : Int32))), .val (.int (if ha < lb then (1 : Int32) else (0 : Int32))), .val (.int (if ha < la then (1 : Int32) else (0 : Int32))), .val (.int (if hb_ < la then (1 : Int32) else (0 : Int32)))] [(.int (if hb_ < la then (1 : Int32) else (0 : Int32)))])) _
        refine XS.iload X26.here hx rfl (hb hby at_162) rfl ?_
        show Steps p.tables e below (T26.setTop (mkF m 164 #[.val (.int p0), .val (.int p1), .val (.int p2), .val (.int p3), .val (.int p4), .val (.int la), .val (.int ha), .val (.int yy), .val (.int lb), .val (.int hb_), .val (.ref b19), .val (.ref b21), .val (.int (if hb_ < la then (1 : Int32) else (0 : Int32))), .val (.int (if ha < lb then (1 : Int32) else (0 : Int32))), .val (.int (if ha < la then (1 : Int32) else (0 : Int32))), .val (.int (if hb_ < la then (1 : Int32) else (0 : Int32)))] [(.int (if hb_ < la then (1 : Int32) else (0 : Int32))), (.int (if hb_ < la then (1 : Int32) else (0 : Int32)))])) _
        refine XS.icmpNo X26.here hx rfl (hb hby at_164) rfl (XT.ii_ne_f rfl) ?_
        show Steps p.tables e below (T26.setTop (mkF m 167 #[.val (.int p0), .val (.int p1), .val (.int p2), .val (.int p3), .val (.int p4), .val (.int la), .val (.int ha), .val (.int yy), .val (.int lb), .val (.int hb_), .val (.ref b19), .val (.ref b21), .val (.int (if hb_ < la then (1 : Int32) else (0 : Int32))), .val (.int (if ha < lb then (1 : Int32) else (0 : Int32))), .val (.int (if ha < la then (1 : Int32) else (0 : Int32))), .val (.int (if hb_ < la then (1 : Int32) else (0 : Int32)))] [])) _
        refine XS.iconst X26.here hx rfl (hb hby at_167) ?_
        show Steps p.tables e below (T26.setTop (mkF m 168 #[.val (.int p0), .val (.int p1), .val (.int p2), .val (.int p3), .val (.int p4), .val (.int la), .val (.int ha), .val (.int yy), .val (.int lb), .val (.int hb_), .val (.ref b19), .val (.ref b21), .val (.int (if hb_ < la then (1 : Int32) else (0 : Int32))), .val (.int (if ha < lb then (1 : Int32) else (0 : Int32))), .val (.int (if ha < la then (1 : Int32) else (0 : Int32))), .val (.int (if hb_ < la then (1 : Int32) else (0 : Int32)))] [(.int (1 : Int32))])) _
        refine XS.goto X26.here hx rfl (pc0 := 168) (pc' := 172) rfl (hb hby at_168) (by decide) (by decide) ?_
        show Steps p.tables e below (T26.setTop (mkF m 172 #[.val (.int p0), .val (.int p1), .val (.int p2), .val (.int p3), .val (.int p4), .val (.int la), .val (.int ha), .val (.int yy), .val (.int lb), .val (.int hb_), .val (.ref b19), .val (.ref b21), .val (.int (if hb_ < la then (1 : Int32) else (0 : Int32))), .val (.int (if ha < lb then (1 : Int32) else (0 : Int32))), .val (.int (if ha < la then (1 : Int32) else (0 : Int32))), .val (.int (if hb_ < la then (1 : Int32) else (0 : Int32)))] [(.int (1 : Int32))])) _
        exact retN X26 hx (t := .boolean) Bd.returns (by simp) (hb hby at_172) hr
      · show Q_own_law Z p0 p1 p2 p3 p4 la ha yy lb hb_ h0 n0 _ T26.heap _
        rw [eh26]
        exact ⟨rfl, N26⟩
set_option maxRecDepth 65536 in
set_option maxHeartbeats 40000000 in
theorem comes_1 {Post : Tables → Env → Array Value → State → Outcome → State → Prop} (hpost : ∀ tb e args s v u, (limb_1_1.after args s (.returned v) u = true ∧ limb_1_2.after args s (.returned v) u = true ∧ True) → FrameEnd s (.returned v) u (Jvm.fieldLocs frame_1_writes args s ++ Jvm.arrayLocs frame_1_arrays args s ++ Jvm.staticLocs frame_1_statics s) 16 128 → Post tb e args s (.returned v) u) :
    ArmFor flags0 classFile x code maxLocals ret World_1 tables_1 room_1 Calls_1 rest_1 Pre_1 Post := by
  intro l hfl _ _ p e ha hc hk s m args below hf hA hF happ hP
  obtain ⟨hcalls, hrest, hpre⟩ := hP
  obtain ⟨-, -, -, hnamed, -, -, -, hat⟩ := (Spec.applies_iff hf).mp happ
  obtain ⟨hg, hn⟩ := and_e (Cond.before_iff.mp (show (Jvm.Cond.and given_1 narrow_1).before args s = true from hpre))
  obtain ⟨hcount, hq0⟩ := and_e hg
  obtain ⟨ha0, hq1⟩ := and_e hq0
  obtain ⟨ha1, hq2⟩ := and_e hq1
  obtain ⟨ha2, hq3⟩ := and_e hq2
  obtain ⟨ha3, hq4⟩ := and_e hq3
  have ha4 := hq4
  obtain ⟨w0, w1, w2, w3, w4, rfl⟩ : ∃ w0 w1 w2 w3 w4 : Value, args = #[w0, w1, w2, w3, w4] := by
    have hs : args.size = 5 := by simpa [Cond.value, given_1] using hcount
    obtain ⟨L⟩ := args
    match L, hs with
    | [w0, w1, w2, w3, w4], _ => exact ⟨w0, w1, w2, w3, w4, rfl⟩
  have hw := fun d (hd : d ∈ tables_1) => atoms_spec (ws := Jvm.Cond.code x code maxLocals ret :: tables_1) hat d (List.mem_cons_of_mem _ hd)
  have hfit : Fit s := fun {y c} hc i hi => by
    obtain ⟨ha, rfl⟩ := Array.getElem?_eq_some_iff.mp hc
    have q := List.all_eq_true.mp ((Array.all_eq_true_iff_forall_mem.mp hF) _ (Array.getElem_mem ha)) i (List.mem_range.mpr hi)
    simpa [Array.getElem?_eq_getElem hi] using q
  obtain ⟨i0, ei0⟩ := is_v ha0
  obtain rfl : w0 = (.int i0) := Option.some.inj ei0
  obtain ⟨i1, ei1⟩ := is_v ha1
  obtain rfl : w1 = (.int i1) := Option.some.inj ei1
  obtain ⟨i2, ei2⟩ := is_v ha2
  obtain rfl : w2 = (.int i2) := Option.some.inj ei2
  obtain ⟨i3, ei3⟩ := is_v ha3
  obtain rfl : w3 = (.int i3) := Option.some.inj ei3
  obtain ⟨i4, ei4⟩ := is_v ha4
  obtain rfl : w4 = (.int i4) := Option.some.inj ei4
  obtain ⟨n, o, h1, h2, h3, _, L, rfl, ⟨rfl, N⟩, hq⟩ := own_law l s _ hw tables_1 i0 i1 i2 i3 i4 _ _ _ _ _ s.heap s.heap.size (Nat.le_refl _) rfl rfl rfl rfl rfl (own_ord i0 i1) (own_ord i2 _) p e ha hc hk s m _ below hf ((Spec.applies_iff_loose hf).mp happ).1 ⟨rfl, State.Warmed39.refl s, rfl⟩ trivial
  refine ⟨n, _, h1, h2, h3, hpost _ _ _ _ _ _ ⟨Cond.after_iff.mpr rfl, Cond.after_iff.mpr (eq_i res_at (Term.int_eval (1)) rfl), trivial⟩ ⟨hq.1, hq.2.1, (hq.2.2.sift fun y hy => Or.inr (N y hy)).mono (by decide) (by decide)⟩⟩
theorem main_1_1 : Claimed_1_1 := comes_1 fun _ _ _ _ _ _ h hF => ⟨h.1, hF⟩
theorem main_1_2 : Claimed_1_2 := comes_1 fun _ _ _ _ _ _ h hF => ⟨h.2.1, hF⟩
end Jvm.Pilot.@@N@@
namespace Jvm.Pilot.@@N@@
open Jvm Jvm.ClassFile Sem Op Lib Jvm.Free Jvm.Stand Jvm.Pilot.@@N@@.Jvm.D
/-! MADE BY PROGRAM (witnessworld.py) out of the Statement's table words and the real class files: 11 classes; the members and pool entries that the words name. The judged class is class 1, her method 1. -/
namespace start1
open Jvm.ClassFile
def u (s : String) : CpInfo := .utf8 (stringToUtf16 s)
/-- a pool by its gaps: so many unusable entries, then the entry; so many at the end -/
def gap : Nat → List CpInfo → List CpInfo
  | 0, r => r
  | n + 1, r => .unusable :: gap n r
def poolList (es : List (Nat × CpInfo)) (last : Nat) : List CpInfo := es.foldr (fun e r => gap e.1 (e.2 :: r)) (gap last [])
def pool (es : List (Nat × CpInfo)) (last : Nat) : Array CpInfo := ⟨poolList es last⟩
def fileOf (pool : Array CpInfo) (this : Nat) (attrs : Array Attribute := #[]) (ms : Array MethodInfo := #[]) (fl : Nat := 33) (sup : Nat := 0) (ifs : Array Nat := #[]) (fds : Array FieldInfo := #[]) : ClassFile where
  minorVersion := 0
  majorVersion := 65
  constantPool := pool
  accessFlags := fl
  thisClass := this
  superClass := sup
  interfaces := ifs
  fields := fds
  methods := ms
  attributes := attrs
def plain (name : String) (sup : Option ClassId) : Class where
  name := name
  kind := .ordinary
  loader := none
  accessFlags := 33
  super := sup
  interfaces := #[]
  cf := none
  fields := #[]
  methods := #[]
  instanceTypes := #[]
  staticTypes := #[]
  resolved := #[]
  callSites := []
  init := .initialized
  statics := none
  mirror := none

def pool0 : Array CpInfo := pool [(5, u "<init>"), (0, u "()V"), (1, .class_ 10), (1, u "java/lang/Object")] 113

def k0c0 : Code := { maxStack := 0, maxLocals := 1, code := object_method_1_code, exceptionTable := #[], attributes := #[] }
def k0m0 : Method := { name := "<init>", desc := "()V", sig := { parameters := [], returnType := none }, accessFlags := 1, code := some k0c0 }
/-- java/lang/Object -/
def k0 : Class := { plain "java/lang/Object" none with
  accessFlags := 33
  interfaces := #[]
  cf := some (fileOf pool0 8 #[] #[{ accessFlags := 1, nameIndex := 5, descriptorIndex := 6, attributes := #[] }] 33 0 #[] #[])
  fields := #[]
  methods := #[k0m0]
  instanceTypes := #[]
  staticTypes := #[]
  resolved := Array.replicate 124 none
  statics := none }

def pool1 : Array CpInfo := pool [(2, .class_ 4), (1, u "java/lang/Object"), (0, u "<init>"), (0, u "()V"), (0, .methodref 8 9), (0, .class_ 10), (0, .nameAndType 11 12), (0, u "java/lang/Math"), (0, u "min"), (0, u "(II)I"), (0, .methodref 8 14), (0, .nameAndType 15 12), (0, u "max"), (0, .class_ 17), (0, u "com/example/knitwork/knitwork/Bounds"), (0, .methodref 16 19), (0, .nameAndType 5 20), (0, u "(DD)V"), (0, .methodref 16 22), (0, .nameAndType 23 24), (0, u "above"), (0, u "(Lcom/example/knitwork/knitwork/Bounds;)Z"), (0, .methodref 16 26), (0, .nameAndType 27 24), (0, u "below"), (0, .class_ 29), (0, u "com/example/knitwork/knitwork/BoundsAbovePinLaw"), (2, u "law"), (0, u "(IIIII)Z")] 3

def k1m0 : Method := { name := "<init>", desc := "()V", sig := { parameters := [], returnType := none }, accessFlags := 1, code := none }
def k1c1 : Code := { maxStack := 6, maxLocals := 16, code := code, exceptionTable := #[], attributes := #[] }
def k1m1 : Method := { name := "law", desc := "(IIIII)Z", sig := { parameters := [.int, .int, .int, .int, .int], returnType := some .boolean }, accessFlags := 9, code := some k1c1 }
/-- com/example/knitwork/knitwork/BoundsAbovePinLaw -/
def k1 : Class := { plain "com/example/knitwork/knitwork/BoundsAbovePinLaw" (some 0) with
  accessFlags := 49
  interfaces := #[]
  cf := some (fileOf pool1 28 #[] #[{ accessFlags := 1, nameIndex := 5, descriptorIndex := 6, attributes := #[] }, { accessFlags := 9, nameIndex := 32, descriptorIndex := 33, attributes := #[] }] 49 2 #[] #[])
  fields := #[]
  methods := #[k1m0, k1m1]
  instanceTypes := #[]
  staticTypes := #[]
  resolved := Array.replicate 37 none
  statics := none }

def pool2 : Array CpInfo := pool [(1, .class_ 2), (0, u "java/lang/Math"), (1, .class_ 6), (1, u "java/lang/Object"), (0, u "<init>"), (0, u "()V"), (89, .class_ 100), (1, u "java/lang/Math$RandomNumberGeneratorHolder"), (71, u "negativeZeroFloatBits"), (0, u "J"), (2, u "negativeZeroDoubleBits"), (21, u "max"), (2, u "min"), (43, u "$assertionsDisabled"), (0, u "Z"), (88, u "(II)I"), (2, u "twoToTheDoubleScaleDown"), (0, u "D"), (4, u "twoToTheDoubleScaleUp"), (9, u "E"), (3, u "PI"), (2, u "TAU"), (2, u "DEGREES_TO_RADIANS"), (0, u "RADIANS_TO_DEGREES")] 94

def k2m0 : Method := { name := "<init>", desc := "()V", sig := { parameters := [], returnType := none }, accessFlags := 2, code := none }
def k2c1 : Code := { maxStack := 2, maxLocals := 2, code := jdk_29_method_65_code, exceptionTable := #[], attributes := #[] }
def k2m1 : Method := { name := "max", desc := "(II)I", sig := { parameters := [.int, .int], returnType := some .int }, accessFlags := 9, code := some k2c1 }
def k2c2 : Code := { maxStack := 2, maxLocals := 2, code := jdk_29_method_69_code, exceptionTable := #[], attributes := #[] }
def k2m2 : Method := { name := "min", desc := "(II)I", sig := { parameters := [.int, .int], returnType := some .int }, accessFlags := 9, code := some k2c2 }
/-- java/lang/Math -/
def k2 : Class := { plain "java/lang/Math" (some 0) with
  accessFlags := 49
  interfaces := #[]
  cf := some (fileOf pool2 1 #[.nestMembers #[98]] #[{ accessFlags := 2, nameIndex := 7, descriptorIndex := 8, attributes := #[] }, { accessFlags := 9, nameIndex := 198, descriptorIndex := 335, attributes := #[] }, { accessFlags := 9, nameIndex := 201, descriptorIndex := 335, attributes := #[] }] 49 4 #[] #[{ accessFlags := 25, nameIndex := 354, descriptorIndex := 339, attributes := #[] }, { accessFlags := 25, nameIndex := 358, descriptorIndex := 339, attributes := #[] }, { accessFlags := 25, nameIndex := 361, descriptorIndex := 339, attributes := #[] }, { accessFlags := 26, nameIndex := 364, descriptorIndex := 339, attributes := #[] }, { accessFlags := 26, nameIndex := 365, descriptorIndex := 339, attributes := #[] }, { accessFlags := 26, nameIndex := 172, descriptorIndex := 173, attributes := #[] }, { accessFlags := 26, nameIndex := 176, descriptorIndex := 173, attributes := #[] }, { accessFlags := 8, nameIndex := 344, descriptorIndex := 339, attributes := #[] }, { accessFlags := 8, nameIndex := 338, descriptorIndex := 339, attributes := #[] }, { accessFlags := 4120, nameIndex := 245, descriptorIndex := 246, attributes := #[] }])
  fields := #[{ name := "E", type := .double, accessFlags := 25, slot := 0, constantValue := 0 }, { name := "PI", type := .double, accessFlags := 25, slot := 1, constantValue := 0 }, { name := "TAU", type := .double, accessFlags := 25, slot := 2, constantValue := 0 }, { name := "DEGREES_TO_RADIANS", type := .double, accessFlags := 26, slot := 3, constantValue := 0 }, { name := "RADIANS_TO_DEGREES", type := .double, accessFlags := 26, slot := 4, constantValue := 0 }, { name := "negativeZeroFloatBits", type := .long, accessFlags := 26, slot := 5, constantValue := 0 }, { name := "negativeZeroDoubleBits", type := .long, accessFlags := 26, slot := 6, constantValue := 0 }, { name := "twoToTheDoubleScaleUp", type := .double, accessFlags := 8, slot := 7, constantValue := 0 }, { name := "twoToTheDoubleScaleDown", type := .double, accessFlags := 8, slot := 8, constantValue := 0 }, { name := "$assertionsDisabled", type := .boolean, accessFlags := 4120, slot := 9, constantValue := 0 }]
  methods := #[k2m0, k2m1, k2m2]
  instanceTypes := #[]
  staticTypes := #[.double, .double, .double, .double, .double, .long, .long, .double, .double, .boolean]
  resolved := Array.replicate 460 none
  statics := none }

def pool3 : Array CpInfo := pool [(1, .methodref 2 3), (0, .class_ 4), (0, .nameAndType 5 6), (0, u "java/lang/Object"), (0, u "<init>"), (0, u "()V"), (0, .class_ 8), (0, u "java/lang/Record")] 13

def k3c0 : Code := { maxStack := 1, maxLocals := 1, code := jdk_30_method_1_code, exceptionTable := #[], attributes := #[] }
def k3m0 : Method := { name := "<init>", desc := "()V", sig := { parameters := [], returnType := none }, accessFlags := 4, code := some k3c0 }
/-- java/lang/Record -/
def k3 : Class := { plain "java/lang/Record" (some 0) with
  accessFlags := 1057
  interfaces := #[]
  cf := some (fileOf pool3 7 #[] #[{ accessFlags := 4, nameIndex := 5, descriptorIndex := 6, attributes := #[] }] 1057 2 #[] #[])
  fields := #[]
  methods := #[k3m0]
  instanceTypes := #[]
  staticTypes := #[]
  resolved := Array.replicate 22 none
  statics := none }

def pool4 : Array CpInfo := pool [(1, .methodref 2 3), (0, .class_ 4), (0, .nameAndType 5 6), (0, u "java/lang/Record"), (0, u "<init>"), (0, u "()V"), (0, .fieldref 8 9), (0, .class_ 10), (0, .nameAndType 11 12), (0, u "com/example/knitwork/knitwork/Bounds"), (0, u "low"), (0, u "D"), (0, .fieldref 8 14), (0, .nameAndType 15 12), (0, u "high"), (27, u "(DD)V"), (23, u "ZERO"), (0, u "Lcom/example/knitwork/knitwork/Bounds;"), (0, u "EXACT"), (0, u "J"), (12, u "below"), (0, u "(Lcom/example/knitwork/knitwork/Bounds;)Z"), (0, u "above")] 36

def k4c0 : Code := { maxStack := 3, maxLocals := 5, code := prog_2_method_1_code, exceptionTable := #[], attributes := #[] }
def k4m0 : Method := { name := "<init>", desc := "(DD)V", sig := { parameters := [.double, .double], returnType := none }, accessFlags := 1, code := some k4c0 }
def k4c1 : Code := { maxStack := 4, maxLocals := 2, code := prog_2_method_7_code, exceptionTable := #[], attributes := #[] }
def k4m1 : Method := { name := "below", desc := "(Lcom/example/knitwork/knitwork/Bounds;)Z", sig := { parameters := [(.object "com/example/knitwork/knitwork/Bounds")], returnType := some .boolean }, accessFlags := 1, code := some k4c1 }
def k4c2 : Code := { maxStack := 4, maxLocals := 2, code := prog_2_method_8_code, exceptionTable := #[], attributes := #[] }
def k4m2 : Method := { name := "above", desc := "(Lcom/example/knitwork/knitwork/Bounds;)Z", sig := { parameters := [(.object "com/example/knitwork/knitwork/Bounds")], returnType := some .boolean }, accessFlags := 1, code := some k4c2 }
/-- com/example/knitwork/knitwork/Bounds -/
def k4 : Class := { plain "com/example/knitwork/knitwork/Bounds" (some 3) with
  accessFlags := 49
  interfaces := #[]
  cf := some (fileOf pool4 8 #[] #[{ accessFlags := 1, nameIndex := 5, descriptorIndex := 43, attributes := #[] }, { accessFlags := 1, nameIndex := 83, descriptorIndex := 84, attributes := #[] }, { accessFlags := 1, nameIndex := 85, descriptorIndex := 84, attributes := #[] }] 49 2 #[] #[{ accessFlags := 18, nameIndex := 11, descriptorIndex := 12, attributes := #[] }, { accessFlags := 18, nameIndex := 15, descriptorIndex := 12, attributes := #[] }, { accessFlags := 25, nameIndex := 67, descriptorIndex := 68, attributes := #[] }, { accessFlags := 26, nameIndex := 69, descriptorIndex := 70, attributes := #[] }])
  fields := #[{ name := "low", type := .double, accessFlags := 18, slot := 0, constantValue := 0 }, { name := "high", type := .double, accessFlags := 18, slot := 1, constantValue := 0 }, { name := "ZERO", type := (.object "com/example/knitwork/knitwork/Bounds"), accessFlags := 25, slot := 0, constantValue := 0 }, { name := "EXACT", type := .long, accessFlags := 26, slot := 1, constantValue := 0 }]
  methods := #[k4m0, k4m1, k4m2]
  instanceTypes := #[.double, .double]
  staticTypes := #[(.object "com/example/knitwork/knitwork/Bounds"), .long]
  resolved := Array.replicate 122 none
  statics := none }

def pool5 : Array CpInfo := pool [(1, u "java/lang/Cloneable"), (0, .class_ 1), (0, u "java/lang/Object"), (0, .class_ 3)] 3

/-- java/lang/Cloneable -/
def k5 : Class := { plain "java/lang/Cloneable" (some 0) with
  accessFlags := 1537
  interfaces := #[]
  cf := some (fileOf pool5 2 #[] #[] 1537 4 #[] #[])
  fields := #[]
  methods := #[]
  instanceTypes := #[]
  staticTypes := #[]
  resolved := Array.replicate 8 none
  statics := none }

def pool6 : Array CpInfo := pool [(1, u "java/io/Serializable"), (0, .class_ 1), (0, u "java/lang/Object"), (0, .class_ 3)] 3

/-- java/io/Serializable -/
def k6 : Class := { plain "java/io/Serializable" (some 0) with
  accessFlags := 1537
  interfaces := #[]
  cf := some (fileOf pool6 2 #[] #[] 1537 4 #[] #[])
  fields := #[]
  methods := #[]
  instanceTypes := #[]
  staticTypes := #[]
  resolved := Array.replicate 8 none
  statics := none }

/-- the primitive byte -/
def k7 : Class := { plain "byte" none with kind := .primitive 'B', accessFlags := 0x411 }
/-- [B -/
def k8 : Class := { plain "[B" (some 0) with kind := .array 7 .byte, interfaces := #[5, 6], accessFlags := 1041 }

/-- the primitive int -/
def k9 : Class := { plain "int" none with kind := .primitive 'I', accessFlags := 0x411 }
/-- [I -/
def k10 : Class := { plain "[I" (some 0) with kind := .array 9 .int, interfaces := #[5, 6], accessFlags := 1041 }

def heap : Heap := #[]
def classes : Array Class := #[k0, k1, k2, k3, k4, k5, k6, k7, k8, k9, k10]
def interned : List (Array UInt16 × Addr) := []
def slotsUsed : Nat := 0
def theMethod : MethodId := ⟨1, 1⟩
def args0 : Array Value := #[.int 1, .int 2, .int 3, .int 4, .int 1]
def aboutOver (below : List Frame) : State where
  vm := { classes := classes, interned := interned.toArray }
  heap := heap
  slotsUsed := slotsUsed
  threads := #[{ frames := .invoking theMethod args0 :: below }]
def below0 : List Frame := [.native { method := ⟨0, 0⟩, args := #[] }]
def about1 : State := aboutOver below0
def p0 : Program := .bare "" "" ""
def e0 : Env := launch0.env 0 0 0
theorem w_frames : about1.frames = Frame.invoking theMethod args0 :: below0 := rfl
set_option maxRecDepth 65536 in
theorem w_args : argsFit about1.vm theMethod args0 = true := by decide +kernel
set_option maxRecDepth 65536 in
theorem w_heap : heapFits about1 = true := by decide +kernel
set_option maxRecDepth 65536 in
theorem w_runnable : about1.curStatus? = some .runnable := by decide +kernel
set_option maxRecDepth 65536 in
theorem w_alone : about1.alone = true := by decide +kernel
set_option maxRecDepth 65536 in
theorem w_named : about1.methodNamed? x = some theMethod := by decide +kernel
set_option maxRecDepth 65536 in
theorem w_hears : about1.hears theMethod below0 = true := by decide +kernel
set_option maxRecDepth 65536 in
theorem w_ripe : about1.ripe theMethod args0 below0 = true := by decide +kernel
theorem w_running : about1.status = .running := rfl
set_option maxRecDepth 65536 in
theorem w_room : about1.hasRoom e0.platform room_1 = true :=
  launch0.hasRoom_least _ room_1 (by decide +kernel) (by decide +kernel) (by decide +kernel) (by decide +kernel) (by decide +kernel) (by decide +kernel)
theorem allAtoms_all (ts : List Jvm.Cond) (a : Array Jvm.Value) (st : Jvm.State) : (allAtoms ts).before a st = ts.all (fun c => c.before a st) := by
  induction ts with
  | nil => rfl
  | cons c t ih =>
    show (Jvm.Cond.and c (allAtoms t)).before a st = _
    rw [Jvm.Cond.before_and, ih, List.all_cons]
def words1 : List Jvm.Cond := Jvm.Cond.code x code maxLocals ret :: tables_1
/-- a 'code' word, met by the world's own term for the bytes: nothing is compared byte by byte -/
theorem code_word {y : MethodName} {bytes : ByteArray} {mx : Nat} {rt : Option FieldType} {a : Array Value} {s : State} {m : MethodId} {meth : Method} {c : Code} (h1 : s.methodNamed? y = some m) (h2 : s.vm.method? m = some meth) (h3 : meth.code = some c) (h4 : c.code = bytes)
    (h5 : (c.maxLocals == mx && c.exceptionTable.isEmpty && decide (c.maxStack ≤ mostOperands) && decide (meth.sig.returnType = rt) && !meth.locks && decide (parseMethodDescriptor y.desc = some meth.sig)) = true) : (Jvm.Cond.code y bytes mx rt).before a s = true := by
  simp only [Bool.and_eq_true, beq_iff_eq, Bool.not_eq_true', decide_eq_true_eq] at h5
  obtain ⟨⟨⟨⟨⟨g1, g2⟩, g3⟩, g4⟩, g5⟩, g6⟩ := h5
  simp [Cond.before, Cond.holds, Cond.value, h1, h2, h3, h4, g1, g2, g3, g4, g5, g6]
def isCode : Jvm.Cond → Bool
  | .code _ _ _ _ => true
  | _ => false
theorem all_split {L : List Jvm.Cond} {P : Jvm.Cond → Bool} (h1 : L.all (fun c => isCode c || P c) = true) (h2 : ∀ c ∈ L.filter isCode, P c = true) : L.all P = true := by
  refine List.all_eq_true.mpr fun c hc => ?_
  have h := List.all_eq_true.mp h1 c hc
  rcases Bool.eq_false_or_eq_true (isCode c) with hi | hi
  · exact h2 c (List.mem_filter.mpr ⟨hc, hi⟩)
  · simpa [hi] using h
set_option maxRecDepth 65536 in
theorem w_c0 : (Jvm.Cond.code x code maxLocals ret).before args0 about1 = true := code_word (m := ⟨1, 1⟩) (meth := k1m1) (c := k1c1) (by decide +kernel) rfl rfl rfl (by decide +kernel)
set_option maxRecDepth 65536 in
theorem w_c1 : (Jvm.Cond.code ({ cls := "java/lang/Math", name := "min", desc := "(II)I" } : Jvm.MethodName) jdk_29_method_69_code (2 : Nat) (Option.some Jvm.ClassFile.FieldType.int)).before args0 about1 = true := code_word (m := ⟨2, 2⟩) (meth := k2m2) (c := k2c2) (by decide +kernel) rfl rfl rfl (by decide +kernel)
set_option maxRecDepth 65536 in
theorem w_c2 : (Jvm.Cond.code ({ cls := "java/lang/Math", name := "max", desc := "(II)I" } : Jvm.MethodName) jdk_29_method_65_code (2 : Nat) (Option.some Jvm.ClassFile.FieldType.int)).before args0 about1 = true := code_word (m := ⟨2, 1⟩) (meth := k2m1) (c := k2c1) (by decide +kernel) rfl rfl rfl (by decide +kernel)
set_option maxRecDepth 65536 in
theorem w_c3 : (Jvm.Cond.code ({ cls := "com/example/knitwork/knitwork/Bounds", name := "<init>", desc := "(DD)V" } : Jvm.MethodName) prog_2_method_1_code (5 : Nat) (Option.none : Option Jvm.ClassFile.FieldType)).before args0 about1 = true := code_word (m := ⟨4, 0⟩) (meth := k4m0) (c := k4c0) (by decide +kernel) rfl rfl rfl (by decide +kernel)
set_option maxRecDepth 65536 in
theorem w_c4 : (Jvm.Cond.code ({ cls := "java/lang/Record", name := "<init>", desc := "()V" } : Jvm.MethodName) jdk_30_method_1_code (1 : Nat) (Option.none : Option Jvm.ClassFile.FieldType)).before args0 about1 = true := code_word (m := ⟨3, 0⟩) (meth := k3m0) (c := k3c0) (by decide +kernel) rfl rfl rfl (by decide +kernel)
set_option maxRecDepth 65536 in
theorem w_c5 : (Jvm.Cond.code ({ cls := "java/lang/Object", name := "<init>", desc := "()V" } : Jvm.MethodName) object_method_1_code (1 : Nat) (Option.none : Option Jvm.ClassFile.FieldType)).before args0 about1 = true := code_word (m := ⟨0, 0⟩) (meth := k0m0) (c := k0c0) (by decide +kernel) rfl rfl rfl (by decide +kernel)
set_option maxRecDepth 65536 in
theorem w_c6 : (Jvm.Cond.code ({ cls := "com/example/knitwork/knitwork/Bounds", name := "above", desc := "(Lcom/example/knitwork/knitwork/Bounds;)Z" } : Jvm.MethodName) prog_2_method_8_code (2 : Nat) (Option.some Jvm.ClassFile.FieldType.boolean)).before args0 about1 = true := code_word (m := ⟨4, 2⟩) (meth := k4m2) (c := k4c2) (by decide +kernel) rfl rfl rfl (by decide +kernel)
set_option maxRecDepth 65536 in
theorem w_c7 : (Jvm.Cond.code ({ cls := "com/example/knitwork/knitwork/Bounds", name := "below", desc := "(Lcom/example/knitwork/knitwork/Bounds;)Z" } : Jvm.MethodName) prog_2_method_7_code (2 : Nat) (Option.some Jvm.ClassFile.FieldType.boolean)).before args0 about1 = true := code_word (m := ⟨4, 1⟩) (meth := k4m1) (c := k4c1) (by decide +kernel) rfl rfl rfl (by decide +kernel)
def codes1 : List Jvm.Cond := [Jvm.Cond.code x code maxLocals ret, Jvm.Cond.code ({ cls := "java/lang/Math", name := "min", desc := "(II)I" } : Jvm.MethodName) jdk_29_method_69_code (2 : Nat) (Option.some Jvm.ClassFile.FieldType.int), Jvm.Cond.code ({ cls := "java/lang/Math", name := "max", desc := "(II)I" } : Jvm.MethodName) jdk_29_method_65_code (2 : Nat) (Option.some Jvm.ClassFile.FieldType.int), Jvm.Cond.code ({ cls := "com/example/knitwork/knitwork/Bounds", name := "<init>", desc := "(DD)V" } : Jvm.MethodName) prog_2_method_1_code (5 : Nat) (Option.none : Option Jvm.ClassFile.FieldType), Jvm.Cond.code ({ cls := "java/lang/Record", name := "<init>", desc := "()V" } : Jvm.MethodName) jdk_30_method_1_code (1 : Nat) (Option.none : Option Jvm.ClassFile.FieldType), Jvm.Cond.code ({ cls := "java/lang/Object", name := "<init>", desc := "()V" } : Jvm.MethodName) object_method_1_code (1 : Nat) (Option.none : Option Jvm.ClassFile.FieldType), Jvm.Cond.code ({ cls := "com/example/knitwork/knitwork/Bounds", name := "above", desc := "(Lcom/example/knitwork/knitwork/Bounds;)Z" } : Jvm.MethodName) prog_2_method_8_code (2 : Nat) (Option.some Jvm.ClassFile.FieldType.boolean), Jvm.Cond.code ({ cls := "com/example/knitwork/knitwork/Bounds", name := "below", desc := "(Lcom/example/knitwork/knitwork/Bounds;)Z" } : Jvm.MethodName) prog_2_method_7_code (2 : Nat) (Option.some Jvm.ClassFile.FieldType.boolean)]
set_option maxRecDepth 65536 in
theorem codes_eq : words1.filter isCode = codes1 := rfl
theorem w_codes : ∀ c ∈ words1.filter isCode, c.before args0 about1 = true := by
  rw [codes_eq]
  intro c hc
  simp only [codes1, List.mem_cons, List.not_mem_nil, or_false] at hc
  rcases hc with rfl | rfl | rfl | rfl | rfl | rfl | rfl | rfl
  · exact w_c0
  · exact w_c1
  · exact w_c2
  · exact w_c3
  · exact w_c4
  · exact w_c5
  · exact w_c6
  · exact w_c7
set_option maxRecDepth 65536 in
theorem w_t1 : (words1.take 24).all (fun c => isCode c || c.before args0 about1) = true := by decide +kernel
set_option maxRecDepth 65536 in
theorem w_t2 : (words1.drop 24).all (fun c => isCode c || c.before args0 about1) = true := by decide +kernel
theorem w_tables : (allAtoms (Jvm.Cond.code x code maxLocals ret :: tables_1)).before args0 about1 = true := by
  rw [allAtoms_all]
  show words1.all (fun c => c.before args0 about1) = true
  refine all_split ?_ w_codes
  rw [← List.take_append_drop 24 words1, List.all_append, w_t1, w_t2]
  rfl
set_option maxRecDepth 65536 in
theorem w_case : (Jvm.Cond.and given_1 narrow_1).before args0 about1 = true := by decide +kernel
theorem w_applies : (headSpec (Jvm.Cond.code x code maxLocals ret :: tables_1) room_1).applies x e0.platform about1 = true :=
  (Spec.applies_iff w_frames).mpr ⟨w_running, w_runnable, w_alone, w_named, w_hears, w_ripe, w_room, w_tables⟩
theorem atStart : AtStart classFile x code maxLocals ret World_1 tables_1 room_1 Calls_1 rest_1 Pre_1 launch0 p0 e0 about1 theMethod args0 below0 :=
  ⟨lists_1, trivial, launch0.admits_env _ _ _, launch0.least_env, fairChoices_fair.cas, fairChoices_fair.clock, w_frames, w_args, w_heap, w_applies, trivial, trivial, w_case⟩
end start1
theorem witness_1 : WitnessClaimed_1 := ⟨start1.p0, start1.e0, start1.about1, start1.theMethod, start1.args0, start1.below0, start1.atStart⟩
end Jvm.Pilot.@@N@@
