import JvmDerived
import JvmDerived.Pilot.@@N@@Statement
import JvmDerived.Pilot.@@N@@Code
set_option linter.unusedVariables false
set_option linter.unusedSimpArgs false
namespace Jvm.RoadKit
open Sem ClassFile Op Lib Jvm.Stand Jvm.Free Jvm.LawKit
section New
variable {p : Program} {l : Launch} {e : Env} {R : Room} {s : State} {m : MethodId} {args : Array Value} {below : List Frame} {meth : Method} {c : Code} {T : State} {locs : List Loc} {cells slots : Nat}
theorem retI (X : Stand p l e R s m args below meth c T locs cells slots) (hx : p.tables.exec = Jvm.exec) {pc : Nat} {Ls : Array Slot} {z : Int32} {rest : List Value} (hret : meth.sig.returnType = some .int) (hd : decode c.code pc = .ok (.ireturn, 1)) {fs : List Frame}
    (hl : ∀ (f : JFrame) (acts : List Action), f.method = m → f.locked = none → f.entered = [] → (doReturn e (T.setTop f) acts (some (.int z))).1 = T.setFrames fs) : Steps p.tables e below (T.setTop (mkF m pc Ls (.int z :: rest))) (T.setFrames fs) := by
  have hm' : T.vm.method? m = some meth := X.method'
  have hn : narrow .int (.int z) = .int z := rfl
  show Steps p.tables e below (T.setTop { method := m, pc := pc, locals := Ls, stack := _ :: rest, locked := none }) _
  jvm_step X.here [X.here.top, hx, hd, hm', hret, hn]
  first | (intro acts; rw [hl _ acts rfl rfl rfl]) | rw [hl _ _ rfl rfl rfl]
  exact Steps.refl _
end New
end Jvm.RoadKit
namespace Jvm.Pilot.@@N@@
open Jvm Jvm.ClassFile Sem Op Lib Jvm.Free Jvm.Stand Jvm.LawKit Jvm.RoadKit Bundle Jvm.Pilot.@@N@@.Jvm.D
/-- an array of n places, the j-th holds f j -/
def Arf (Z : State) (h : Heap) (a : Addr) (k : ClassId) (ty : FieldType) (n : Nat) (f : Nat → Value) : Prop := ∃ c : Cell, Arr Z h a c ty ∧ c.cls = k ∧ c.slots.size = n ∧ n < 2 ^ 31 ∧ (∀ j, j < n → c.slots[j]? = some (f j)) ∧ ∀ j, j < n → fits ty (f j) = true
def upd (f : Nat → Value) (i : Nat) (v : Value) : Nat → Value := fun j => if j = i then v else f j
section Arfs
variable {Z : State} {h h' : Heap} {a b : Addr} {k : ClassId} {ty : FieldType} {n i : Nat} {f : Nat → Value} {v : Value} {sl : Nat} {ws : List Addr} {c : Cell} {j : Int32}
theorem Arf.lt (F : Arf Z h a k ty n f) : a < h.size := by obtain ⟨c, A, -⟩ := F; exact A.lt
theorem Arf.ext (F : Arf Z h a k ty n f) (E : Ext h h') : Arf Z h' a k ty n f := by obtain ⟨c, A, r⟩ := F; exact ⟨c, A.ext E, r⟩
theorem Arf.other (F : Arf Z h b k ty n f) (W : Wr h h' a sl v) (q : b ≠ a) : Arf Z h' b k ty n f := by obtain ⟨c, A, r⟩ := F; exact ⟨c, A.other W q, r⟩
theorem Arf.keep (F : Arf Z h a k ty n f) (K : Keep h h' ws) (q : a ∉ ws) : Arf Z h' a k ty n f := by obtain ⟨c, A, r⟩ := F; exact ⟨c, ⟨K.2.1 a c A.1 q, A.2⟩, r⟩
theorem Arf.new {z : Int32} (A : Arr Z h a (newA k ty z) ty) (q : ¬ z < 0) (hz : z.toNatClampNeg = n) : Arf Z h a k ty n (fun _ => defaultValue ty) := ⟨_, A, rfl, by rw [sz_new, hz], by rw [← hz]; exact (back32 q).2, fun i hi => by
  rw [← hz] at hi; simp [newA, hi], fun _ _ => by cases ty <;> rfl⟩
theorem Arf.eq {g : Nat → Value} (F : Arf Z h a k ty n f) (e : ∀ j, j < n → f j = g j) : Arf Z h a k ty n g := by obtain ⟨c, A, r1, r2, r3, H, G⟩ := F; exact ⟨c, A, r1, r2, r3, fun j hj => by rw [← e j hj]; exact H j hj, fun j hj => by rw [← e j hj]; exact G j hj⟩
theorem own_inb (S : c.slots.size = n) (ix : ¬ j < 0 ∧ j.toNatClampNeg = i) (hi : i < n) : ¬ (j < 0 ∨ c.slots.size ≤ j.toNatClampNeg) := by rw [S, ix.2]; exact fun q => q.elim ix.1 (Nat.not_le.mpr hi)
theorem own_hat (H : ∀ j, j < n → c.slots[j]? = some (f j)) (ix : ¬ j < 0 ∧ j.toNatClampNeg = i) (hi : i < n) (hv : f i = v) : c.slots[j.toNatClampNeg]? = some v := by rw [ix.2, H _ hi, hv]
theorem own_set (A : Arr Z h a c ty) (q : c.cls = k) (S : c.slots.size = n) (B : n < 2 ^ 31) (H : ∀ j, j < n → c.slots[j]? = some (f j)) (G : ∀ j, j < n → fits ty (f j) = true) (hv : fits ty v = true) (ix : ¬ j < 0 ∧ j.toNatClampNeg = i) (W : Wr h h' a j.toNatClampNeg v) : Arf Z h' a k ty n (upd f i v) := by
  refine ⟨_, A.same W, q, by rw [sz_set]; exact S, B, fun x hx => ?_, fun x hx => ?_⟩
  · rw [ix.2]
    by_cases u : x = i
    · subst u; simp [Cell.setSlot, S, hx, upd]
    · simp only [Cell.setSlot, upd, if_neg u]
      rw [Array.getElem?_setIfInBounds_ne (Ne.symm u)]; exact H x hx
  · unfold upd
    split
    · exact hv
    · exact G x hx
theorem own_ix {k : Nat} (hk : k < 2 ^ 31) : ¬ k.toInt32 < 0 ∧ k.toInt32.toNatClampNeg = k := by
  have e := len_toInt hk
  refine ⟨?_, ?_⟩
  · rw [Int32.lt_iff_toInt_lt, e]; show ¬ (k : Int) < 0; omega
  · simp only [Int32.toNatClampNeg, e]; rfl
end Arfs
theorem own_cache {Z : State} {args : Array Value} (hs : ∀ w ∈ jdkStatics_1, w.before args Z = true) : ∃ (ac : Addr) (kc : ClassId) (fc : Nat → Value) (lf : Nat → Addr), Sta Z Z.heap "java/lang/Long$LongCache" "cache" "[Ljava/lang/Long;" (.ref ac) ∧ Arf Z Z.heap ac kc (.object "java/lang/Long") 256 fc ∧ (∀ j, j < 256 → fc j = .ref (lf j)) ∧ ∀ j, j < 256 → Exa Z Z.heap (lf j) "java/lang/Long" := by
  have j1 := hs _ (List.mem_of_getElem? (i := 1) rfl)
  have j2 := Cond.before_iff.mp (hs _ (List.mem_of_getElem? (i := 2) rfl))
  have j4 := Cond.before_iff.mp (hs _ (List.mem_of_getElem? (i := 4) rfl))
  have j5 := Cond.before_iff.mp (hs _ (List.mem_of_getElem? (i := 5) rfl))
  obtain ⟨ac, evc⟩ := arr_v j2
  have S_c := Sta.start evc (Or.inl j1)
  obtain ⟨cl, Ar⟩ := Arr.start evc j2
  have ha := Ar.fin (Vm.Alike.refl _)
  have l4 := eqv_i (Term.int_eval 256) j4
  have hsz : cl.slots.size < 2 ^ 31 ∧ cl.slots.size.toInt32 = 256 := by
    by_cases q : cl.slots.size < 2 ^ 31
    · have := (len_f evc ha q).symm.trans l4
      exact ⟨q, Value.int.inj (Option.some.inj this)⟩
    · exfalso
      simp [Term.eval] at l4 evc
      simp [evc, ha] at l4
      omega
  have n256 : cl.slots.size = 256 := by
    have := len_toInt hsz.1
    rw [hsz.2] at this
    have e : (256 : Int32).toInt = 256 := rfl
    omega
  have Bx := Bxs.start (fun idx => evc) Ar hsz.1 hsz.2 (by decide) j5 (val := fun j => .long (j - 128).toInt64) (fun X j nj h => eqv_l (i2l_at (Term.sub_int (idx_at nj) (Term.int_eval 128))) h)
  have key : ∀ j, j < 256 → ∃ b : Addr, cl.slots[j]? = some (.ref b) ∧ Exa Z Z.heap b "java/lang/Long" := fun j hj => by
    obtain ⟨-, -, -, H⟩ := Bx
    have ix := own_ix (k := j) (by omega)
    obtain ⟨b, h1, h2, -⟩ := H j.toInt32 (own_inb n256 ix hj)
    rw [ix.2] at h1
    exact ⟨b, h1, h2⟩
  have hlf : ∀ j, j < 256 → cl.slots[j]? = some (.ref (match cl.slots[j]? with | some (.ref b) => b | _ => 0)) := fun j hj => by
    obtain ⟨b, h1, -⟩ := key j hj
    rw [h1]
  refine ⟨ac, cl.cls, fun j => .ref (match cl.slots[j]? with | some (.ref b) => b | _ => 0), fun j => (match cl.slots[j]? with | some (.ref b) => b | _ => 0), S_c, ⟨cl, Ar, rfl, n256, by decide, hlf, fun j hj => rfl⟩, fun j hj => rfl, fun j hj => ?_⟩
  obtain ⟨b, h1, h2⟩ := key j hj
  simp only [h1]
  exact h2

theorem pd_0 : parseMethodDescriptor "()V" = some ⟨[], none⟩ := by decide +kernel
theorem pd_1 : parseMethodDescriptor "(J)V" = some ⟨[.long], none⟩ := by decide +kernel
theorem pd_2 : parseMethodDescriptor "(JJ)V" = some ⟨[.long, .long], none⟩ := by decide +kernel
theorem pd_3 : parseMethodDescriptor "(Ljava/lang/Object;)Z" = some ⟨[(.object "java/lang/Object")], some .boolean⟩ := by decide +kernel
theorem pd_4 : parseMethodDescriptor "(J)Ljava/lang/Long;" = some ⟨[.long], some (.object "java/lang/Long")⟩ := by decide +kernel
theorem own_no {Z : State} {a0 : Array Value} (hw : ∀ d ∈ tables_1, d.before a0 Z = true) : ∃ c t, Z.vm.findClass "java/lang/Long" = some c ∧ Z.vm.findClass "com/example/madingley/madingley/capability/Capability" = some t ∧ Z.vm.assignable c t = false := by
  obtain ⟨t, kt, g1, g2, g3, g4, -⟩ := Cond.instantiable_spec (hw _ (List.mem_of_getElem? (i := 1) rfl))
  have n0 : NS Z "java/lang/Object" "com/example/madingley/madingley/capability/Capability" := by
    obtain ⟨c, k, h1, h2, h3, -, -⟩ := Cond.noSuperclass_spec (hw _ (List.mem_of_getElem? (i := 42) rfl))
    have ne := ids_ne h1 g1 (by decide)
    refine ⟨c, t, h1, g1, fun fuel => ?_⟩
    cases fuel with
    | zero => rfl
    | succ f => simp [Vm.isSubclassAux, ne, h2, h3]
  have n1 := NS.step (hw _ (List.mem_of_getElem? (i := 41) rfl)) n0 (by decide)
  have n2 := NS.step (hw _ (List.mem_of_getElem? (i := 40) rfl)) n1 (by decide)
  obtain ⟨c, t', h0, g0, n3⟩ := n2
  cases g1.symm.trans g0
  obtain ⟨p, k, kp, h1, h2, h3, h4, h5, -, h7⟩ := Cond.superclass_spec h0 (hw _ (List.mem_of_getElem? (i := 40) rfl))
  have ne := ids_ne h0 g0 (by decide)
  have g5 : kt.isInterface = false := by
    cases q : kt.isInterface with
    | false => rfl
    | true => rw [q] at g4; cases g4
  refine ⟨c, t, h0, g0, ?_⟩
  show Z.vm.assignableAux (255 + 1) c t = false
  simp [Vm.assignableAux, ne, h2, g2, h5, g3, g5, Vm.isSubclass, n3]
theorem d1_0 : decode prog_3_method_1_code 0 = .ok (.aload_n 0, 1) := by decide +kernel
theorem d1_1 : decode prog_3_method_1_code 1 = .ok (.invokespecial 1, 3) := by decide +kernel
theorem d1_4 : decode prog_3_method_1_code 4 = .ok (.aload_n 0, 1) := by decide +kernel
theorem d1_5 : decode prog_3_method_1_code 5 = .ok (.lload_n 1, 1) := by decide +kernel
theorem d1_6 : decode prog_3_method_1_code 6 = .ok (.putfield 7, 3) := by decide +kernel
theorem d1_9 : decode prog_3_method_1_code 9 = .ok (.aload_n 0, 1) := by decide +kernel
theorem d1_10 : decode prog_3_method_1_code 10 = .ok (.lload_n 3, 1) := by decide +kernel
theorem d1_11 : decode prog_3_method_1_code 11 = .ok (.putfield 13, 3) := by decide +kernel
theorem d1_14 : decode prog_3_method_1_code 14 = .ok (.return_, 1) := by decide +kernel
theorem pn_own_init : plainName "com/example/madingley/madingley/capability/Capability" = true := by first | (simp [plainName, overriddenIn]; done) | decide +kernel
theorem ef_own_init (m : MethodId) (x0 : Addr) (x1 : Int64) (x2 : Int64) : entryFrame m #[(.ref x0), (.long x1), (.long x2)] 5 = mkF m 0 #[.val (.ref x0), .val (.long x1), .second, .val (.long x2), .second] [] := by first | (simp [entryFrame, mkF, argsToLocals, Value.category]; done) | rfl
def Q_own_init (Z : State) (a1 : Addr) (q1 : Int64) (q2 : Int64)  (h0 : Heap) (n0 : Nat) (v : Option Value) (h : Heap) (L : List Loc) : Prop := v = none ∧ Fr n0 L ∧ Keep h0 h [a1] ∧ Fld Z h a1 "com/example/madingley/madingley/capability/Capability" "metadata" "J" (.long q1) ∧ Fld Z h a1 "com/example/madingley/madingley/capability/Capability" "address" "J" (.long q2)
set_option maxRecDepth 65536 in
set_option maxHeartbeats 40000000 in
theorem own_init (l : Launch) (Z : State) (a0 : Array Value) (hw : ∀ d ∈ tables_1, d.before a0 Z = true) (ws : List Jvm.Cond) (a1 : Addr) (q1 : Int64) (q2 : Int64)  (h0 : Heap) (n0 : Nat) (Z0 : n0 ≤ h0.size) (E_ : Exa Z h0 a1 "com/example/madingley/madingley/capability/Capability") (F_m : Fld Z h0 a1 "com/example/madingley/madingley/capability/Capability" "metadata" "J" (.long (0 : Int64))) (F_a : Fld Z h0 a1 "com/example/madingley/madingley/capability/Capability" "address" "J" (.long (0 : Int64))) (g_a1 : n0 ≤ a1) :
    MetFree l (⟨"com/example/madingley/madingley/capability/Capability", "<init>", "(JJ)V"⟩ : MethodName) (head1 (Jvm.Cond.code (⟨"com/example/madingley/madingley/capability/Capability", "<init>", "(JJ)V"⟩ : MethodName) prog_3_method_1_code 5 none :: ws) ({ frames := 1, cells := 0, slots := 0, locals := 12 } : Room)) (fun a U => a = #[(.ref a1), (.long q1), (.long q2)] ∧ Z.Warmed39 U.vm ∧ U.heap = h0) (fun _ _ _ _ _ => True) (fun _ U o U' => ∃ v L, o = .returned v ∧ Q_own_init Z a1 q1 q2  h0 n0 v U'.heap L ∧ FrameEnd U o U' L ({ frames := 1, cells := 0, slots := 0, locals := 12 } : Room).cells ({ frames := 1, cells := 0, slots := 0, locals := 12 } : Room).slots) := by
  refine MetFree.of_bodySF (plainFor_of_name pn_own_init) hisR ?_
  intro p e s m args below meth c s₁ Bd hml0 hP hK
  obtain ⟨rfl, hZ, hh⟩ := hP
  have hx := Bd.exec
  have hby := Bd.bytes
  have hml : c.maxLocals = 5 := hml0
  have hown : s.vm.findClass "com/example/madingley/madingley/capability/Capability" = some m.cls := findClass_of_methodNamed Bd.named
  have hnm := (name_of_methodNamed Bd.named Bd.method).1
  have X0 : Stand p l e ({ frames := 1, cells := 0, slots := 0, locals := 12 } : Room) s m #[(.ref a1), (.long q1), (.long q2)] below meth c s₁ [] 0 0 := Stand.of_body Bd
  have e0 : s₁.heap = h0 := by rw [← hh, Bd.state]; rfl
  have N0 := Fr.nil n0
  have pre0 : ∀ t, Steps p.tables e below (s₁.setTop (mkF m 0 #[.val (.ref a1), .val (.long q1), .second, .val (.long q2), .second] [])) t → Steps p.tables e below (s₁.setTop (entryFrame m #[(.ref a1), (.long q1), (.long q2)] 5)) t := fun t k => castTop (ef_own_init m (a1) (q1) (q2)) k
  obtain ⟨T1, X1, e1, st1⟩ := initO X0 hx hZ hown (hw _ (List.mem_of_getElem? (i := 6) rfl)) (hw _ (List.mem_of_getElem? (i := 7) rfl)) (hw _ (List.mem_of_getElem? (i := 8) rfl)) e0 (g := (mkF m 1 #[.val (.ref a1), .val (.long q1), .second, .val (.long q2), .second] [(.ref a1)])) rfl (by rw [hml]; rfl) rfl (hb hby d1_1) (by decide) (W := 0) (by show 2 * 0 + _ ≤ _; exact Nat.le_of_eq rfl) (by decide)
  obtain ⟨T2, h2, X2, e2, W2, st2⟩ := putF X1 hx hZ hown (host := "") (Or.inl (hw _ (List.mem_of_getElem? (i := 9) rfl))) Via.refl e1 F_m E_ (Or.inr ⟨(hw _ (List.mem_of_getElem? (i := 10) rfl)), rfl, hnm⟩) (hw _ (List.mem_of_getElem? (i := 1) rfl)) (ty := .long) (by decide) rfl rfl (g := (mkF m 6 #[.val (.ref a1), .val (.long q1), .second, .val (.long q2), .second] [(.long q1), (.ref a1)])) rfl rfl (hb hby d1_6)
  have Fw2 := F_m.same W2
  have N2 := Fr.snoc X2 N0 g_a1
  have K2 : Keep h0 h2 [a1] := (Keep.refl h0 [a1]).wr W2 (Or.inl (List.mem_of_getElem? (i := 0) rfl))
  obtain ⟨T3, h3, X3, e3, W3, st3⟩ := putF X2 hx hZ hown (host := "") (Or.inl (hw _ (List.mem_of_getElem? (i := 11) rfl))) Via.refl e2 (F_a.other W2 (Or.inr (slot_ne (Or.inr (hw _ (List.mem_of_getElem? (i := 12) rfl))) (Or.inr (hw _ (List.mem_of_getElem? (i := 10) rfl))) (by decide) (t := .long) (t' := .long) (by decide) (by decide)))) (E_.wr W2) (Or.inr ⟨(hw _ (List.mem_of_getElem? (i := 12) rfl)), rfl, hnm⟩) (hw _ (List.mem_of_getElem? (i := 1) rfl)) (ty := .long) (by decide) rfl rfl (g := (mkF m 11 #[.val (.ref a1), .val (.long q1), .second, .val (.long q2), .second] [(.long q2), (.ref a1)])) rfl rfl (hb hby d1_11)
  have Fw3 := (F_a.other W2 (Or.inr (slot_ne (Or.inr (hw _ (List.mem_of_getElem? (i := 12) rfl))) (Or.inr (hw _ (List.mem_of_getElem? (i := 10) rfl))) (by decide) (t := .long) (t' := .long) (by decide) (by decide)))).same W3
  have N3 := Fr.snoc X3 N2 g_a1
  have K3 : Keep h0 h3 [a1] := K2.wr W3 (Or.inl (List.mem_of_getElem? (i := 0) rfl))
  obtain ⟨fs, hr, hrun, hended, hW, hsame⟩ := X3.leave (v := none) (fun _ => rfl)
  refine ⟨_, _, pre0 _ ?_, hrun, hended, _, _, rfl, ?_, ⟨_, rfl⟩, hW, hsame.mono (by decide) (by decide)⟩
  · show Steps p.tables e below (s₁.setTop (mkF m 0 #[.val (.ref a1), .val (.long q1), .second, .val (.long q2), .second] [])) _
    refine XS.aloadN X0.here hx rfl (hb hby d1_0) rfl rfl ?_
    show Steps p.tables e below (s₁.setTop (mkF m 1 #[.val (.ref a1), .val (.long q1), .second, .val (.long q2), .second] [(.ref a1)])) _
    refine st1 _ ?_
    show Steps p.tables e below (T1.setTop (mkF m 4 #[.val (.ref a1), .val (.long q1), .second, .val (.long q2), .second] [])) _
    refine XS.aloadN X1.here hx rfl (hb hby d1_4) rfl rfl ?_
    show Steps p.tables e below (T1.setTop (mkF m 5 #[.val (.ref a1), .val (.long q1), .second, .val (.long q2), .second] [(.ref a1)])) _
    refine XT.lloadN X1.here hx rfl (hb hby d1_5) rfl ?_
    show Steps p.tables e below (T1.setTop (mkF m 6 #[.val (.ref a1), .val (.long q1), .second, .val (.long q2), .second] [(.long q1), (.ref a1)])) _
    refine st2 _ ?_
    show Steps p.tables e below (T2.setTop (mkF m 9 #[.val (.ref a1), .val (.long q1), .second, .val (.long q2), .second] [])) _
    refine XS.aloadN X2.here hx rfl (hb hby d1_9) rfl rfl ?_
    show Steps p.tables e below (T2.setTop (mkF m 10 #[.val (.ref a1), .val (.long q1), .second, .val (.long q2), .second] [(.ref a1)])) _
    refine XT.lloadN X2.here hx rfl (hb hby d1_10) rfl ?_
    show Steps p.tables e below (T2.setTop (mkF m 11 #[.val (.ref a1), .val (.long q1), .second, .val (.long q2), .second] [(.long q2), (.ref a1)])) _
    refine st3 _ ?_
    show Steps p.tables e below (T3.setTop (mkF m 14 #[.val (.ref a1), .val (.long q1), .second, .val (.long q2), .second] [])) _
    exact X3.returnOut hx Bd.returns (hb hby d1_14) hr
  · show Q_own_init Z a1 q1 q2  h0 n0 _ T3.heap _
    rw [e3]
    exact ⟨rfl, N3, K3, (Fw2.other W3 (Or.inr (slot_ne (Or.inr (hw _ (List.mem_of_getElem? (i := 10) rfl))) (Or.inr (hw _ (List.mem_of_getElem? (i := 12) rfl))) (by decide) (t := .long) (t' := .long) (by decide) (by decide)))), Fw3⟩
theorem d3_0 : decode prog_3_method_19_code 0 = .ok (.aload_n 1, 1) := by decide +kernel
theorem d3_1 : decode prog_3_method_19_code 1 = .ok (.instanceof 8, 3) := by decide +kernel
theorem d3_4 : decode prog_3_method_19_code 4 = .ok (.ifCond .eq 36, 3) := by decide +kernel
theorem d3_7 : decode prog_3_method_19_code 7 = .ok (.aload_n 1, 1) := by decide +kernel
theorem d3_8 : decode prog_3_method_19_code 8 = .ok (.checkcast 8, 3) := by decide +kernel
theorem d3_11 : decode prog_3_method_19_code 11 = .ok (.astore_n 2, 1) := by decide +kernel
theorem d3_12 : decode prog_3_method_19_code 12 = .ok (.aload_n 2, 1) := by decide +kernel
theorem d3_13 : decode prog_3_method_19_code 13 = .ok (.getfield 7, 3) := by decide +kernel
theorem d3_16 : decode prog_3_method_19_code 16 = .ok (.aload_n 0, 1) := by decide +kernel
theorem d3_17 : decode prog_3_method_19_code 17 = .ok (.getfield 7, 3) := by decide +kernel
theorem d3_20 : decode prog_3_method_19_code 20 = .ok (.lcmp, 1) := by decide +kernel
theorem d3_21 : decode prog_3_method_19_code 21 = .ok (.ifCond .ne 19, 3) := by decide +kernel
theorem d3_24 : decode prog_3_method_19_code 24 = .ok (.aload_n 2, 1) := by decide +kernel
theorem d3_25 : decode prog_3_method_19_code 25 = .ok (.getfield 13, 3) := by decide +kernel
theorem d3_28 : decode prog_3_method_19_code 28 = .ok (.aload_n 0, 1) := by decide +kernel
theorem d3_29 : decode prog_3_method_19_code 29 = .ok (.getfield 13, 3) := by decide +kernel
theorem d3_32 : decode prog_3_method_19_code 32 = .ok (.lcmp, 1) := by decide +kernel
theorem d3_33 : decode prog_3_method_19_code 33 = .ok (.ifCond .ne 7, 3) := by decide +kernel
theorem d3_36 : decode prog_3_method_19_code 36 = .ok (.iconst 1, 1) := by decide +kernel
theorem d3_37 : decode prog_3_method_19_code 37 = .ok (.goto 4, 3) := by decide +kernel
theorem d3_40 : decode prog_3_method_19_code 40 = .ok (.iconst 0, 1) := by decide +kernel
theorem d3_41 : decode prog_3_method_19_code 41 = .ok (.ireturn, 1) := by decide +kernel
theorem pn_own_eqA : plainName "com/example/madingley/madingley/capability/Capability" = true := by first | (simp [plainName, overriddenIn]; done) | decide +kernel
theorem pn_own_eqN : plainName "com/example/madingley/madingley/capability/Capability" = true := by first | (simp [plainName, overriddenIn]; done) | decide +kernel
theorem pn_own_eqL : plainName "com/example/madingley/madingley/capability/Capability" = true := by first | (simp [plainName, overriddenIn]; done) | decide +kernel
theorem ef_own_eqA (m : MethodId) (x0 : Addr) (x1 : Addr) : entryFrame m #[(.ref x0), (.ref x1)] 3 = mkF m 0 #[.val (.ref x0), .val (.ref x1), .unset] [] := by first | (simp [entryFrame, mkF, argsToLocals, Value.category]; done) | rfl
def Q_own_eqA (Z : State) (a1 : Addr) (a2 : Addr) (m1 : Int64) (d1 : Int64) (m2 : Int64) (d2 : Int64) (h0 : Heap) (n0 : Nat) (v : Option Value) (h : Heap) (L : List Loc) : Prop := v = some (.int (if (m2 = m1 ∧ d2 = d1) then (1 : Int32) else (0 : Int32))) ∧ Fr n0 L ∧ h = h0
set_option maxRecDepth 65536 in
set_option maxHeartbeats 40000000 in
theorem own_eqA (l : Launch) (Z : State) (a0 : Array Value) (hw : ∀ d ∈ tables_1, d.before a0 Z = true) (ws : List Jvm.Cond) (a1 : Addr) (a2 : Addr) (m1 : Int64) (d1 : Int64) (m2 : Int64) (d2 : Int64) (h0 : Heap) (n0 : Nat) (Z0 : n0 ≤ h0.size) (E_ : Exa Z h0 a2 "com/example/madingley/madingley/capability/Capability") (F_m1 : Fld Z h0 a1 "com/example/madingley/madingley/capability/Capability" "metadata" "J" (.long m1)) (F_a1 : Fld Z h0 a1 "com/example/madingley/madingley/capability/Capability" "address" "J" (.long d1)) (F_m2 : Fld Z h0 a2 "com/example/madingley/madingley/capability/Capability" "metadata" "J" (.long m2)) (F_a2 : Fld Z h0 a2 "com/example/madingley/madingley/capability/Capability" "address" "J" (.long d2)) :
    MetFree l (⟨"com/example/madingley/madingley/capability/Capability", "equals", "(Ljava/lang/Object;)Z"⟩ : MethodName) (head1 (Jvm.Cond.code (⟨"com/example/madingley/madingley/capability/Capability", "equals", "(Ljava/lang/Object;)Z"⟩ : MethodName) prog_3_method_19_code 3 (some .boolean) :: ws) ({ frames := 0, cells := 0, slots := 0, locals := 0 } : Room)) (fun a U => a = #[(.ref a1), (.ref a2)] ∧ Z.Warmed39 U.vm ∧ U.heap = h0) (fun _ _ _ _ _ => True) (fun _ U o U' => ∃ v L, o = .returned v ∧ Q_own_eqA Z a1 a2 m1 d1 m2 d2 h0 n0 v U'.heap L ∧ FrameEnd U o U' L ({ frames := 0, cells := 0, slots := 0, locals := 0 } : Room).cells ({ frames := 0, cells := 0, slots := 0, locals := 0 } : Room).slots) := by
  refine MetFree.of_bodySF (plainFor_of_name pn_own_eqA) hisR ?_
  intro p e s m args below meth c s₁ Bd hml0 hP hK
  obtain ⟨rfl, hZ, hh⟩ := hP
  have hx := Bd.exec
  have hby := Bd.bytes
  have hml : c.maxLocals = 3 := hml0
  have hown : s.vm.findClass "com/example/madingley/madingley/capability/Capability" = some m.cls := findClass_of_methodNamed Bd.named
  have hnm := (name_of_methodNamed Bd.named Bd.method).1
  have X0 : Stand p l e ({ frames := 0, cells := 0, slots := 0, locals := 0 } : Room) s m #[(.ref a1), (.ref a2)] below meth c s₁ [] 0 0 := Stand.of_body Bd
  have e0 : s₁.heap = h0 := by rw [← hh, Bd.state]; rfl
  have N0 := Fr.nil n0
  have pre0 : ∀ t, Steps p.tables e below (s₁.setTop (mkF m 0 #[.val (.ref a1), .val (.ref a2), .unset] [])) t → Steps p.tables e below (s₁.setTop (entryFrame m #[(.ref a1), (.ref a2)] 3)) t := fun t k => castTop (ef_own_eqA m (a1) (a2)) k
  obtain ⟨T4, X4, e4, st4⟩ := instY X0 hx hZ hown (hw _ (List.mem_of_getElem? (i := 18) rfl)) e0 (Ins.self E_) (g := (mkF m 1 #[.val (.ref a1), .val (.ref a2), .unset] [(.ref a2)])) rfl rfl (hb hby d3_1)
  obtain ⟨T5, X5, e5, st5⟩ := castY X4 hx hZ hown (hw _ (List.mem_of_getElem? (i := 18) rfl)) e4 (Ins.self E_) (g := (mkF m 8 #[.val (.ref a1), .val (.ref a2), .unset] [(.ref a2)])) rfl rfl (hb hby d3_8)
  obtain ⟨T6, X6, e6, st6⟩ := getF X5 hx hZ hown (host := "") (Or.inl (hw _ (List.mem_of_getElem? (i := 9) rfl))) Via.refl e5 F_m2 (g := (mkF m 13 #[.val (.ref a1), .val (.ref a2), .val (.ref a2)] [(.ref a2)])) rfl rfl (hb hby d3_13)
  obtain ⟨T7, X7, e7, st7⟩ := getF X6 hx hZ hown (host := "") (Or.inl (hw _ (List.mem_of_getElem? (i := 9) rfl))) Via.refl e6 F_m1 (g := (mkF m 17 #[.val (.ref a1), .val (.ref a2), .val (.ref a2)] [(.ref a1), (.long m2)])) rfl rfl (hb hby d3_17)
  by_cases h1 : m2 = m1
  · obtain ⟨T9, X9, e9, st9⟩ := getF X7 hx hZ hown (host := "") (Or.inl (hw _ (List.mem_of_getElem? (i := 11) rfl))) Via.refl e7 F_a2 (g := (mkF m 25 #[.val (.ref a1), .val (.ref a2), .val (.ref a2)] [(.ref a2)])) rfl rfl (hb hby d3_25)
    obtain ⟨T10, X10, e10, st10⟩ := getF X9 hx hZ hown (host := "") (Or.inl (hw _ (List.mem_of_getElem? (i := 11) rfl))) Via.refl e9 F_a1 (g := (mkF m 29 #[.val (.ref a1), .val (.ref a2), .val (.ref a2)] [(.ref a1), (.long d2)])) rfl rfl (hb hby d3_29)
    by_cases h2 : d2 = d1
    · obtain ⟨fs, hr, hrun, hended, hW, hsame⟩ := X10.leave (v := some (.int (1 : Int32))) (fun h => by rw [Bd.returns] at h; cases h)
      refine ⟨_, _, pre0 _ ?_, hrun, hended, _, _, rfl, ?_, ⟨_, rfl⟩, hW, hsame.mono (by decide) (by decide)⟩
      · show Steps p.tables e below (s₁.setTop (mkF m 0 #[.val (.ref a1), .val (.ref a2), .unset] [])) _
        refine XS.aloadN X0.here hx rfl (hb hby d3_0) rfl rfl ?_
        show Steps p.tables e below (s₁.setTop (mkF m 1 #[.val (.ref a1), .val (.ref a2), .unset] [(.ref a2)])) _
        refine st4 _ ?_
        show Steps p.tables e below (T4.setTop (mkF m 4 #[.val (.ref a1), .val (.ref a2), .unset] [(.int (1 : Int32))])) _
        refine XS.ifNo X4.here hx rfl (hb hby d3_4) rfl (XT.i0_eq_f (by decide)) ?_
        show Steps p.tables e below (T4.setTop (mkF m 7 #[.val (.ref a1), .val (.ref a2), .unset] [])) _
        refine XS.aloadN X4.here hx rfl (hb hby d3_7) rfl rfl ?_
        show Steps p.tables e below (T4.setTop (mkF m 8 #[.val (.ref a1), .val (.ref a2), .unset] [(.ref a2)])) _
        refine st5 _ ?_
        show Steps p.tables e below (T5.setTop (mkF m 11 #[.val (.ref a1), .val (.ref a2), .unset] [(.ref a2)])) _
        refine XS.astoreN X5.here hx rfl (hb hby d3_11) rfl rfl (l' := #[.val (.ref a1), .val (.ref a2), .val (.ref a2)]) rfl ?_
        show Steps p.tables e below (T5.setTop (mkF m 12 #[.val (.ref a1), .val (.ref a2), .val (.ref a2)] [])) _
        refine XS.aloadN X5.here hx rfl (hb hby d3_12) rfl rfl ?_
        show Steps p.tables e below (T5.setTop (mkF m 13 #[.val (.ref a1), .val (.ref a2), .val (.ref a2)] [(.ref a2)])) _
        refine st6 _ ?_
        show Steps p.tables e below (T6.setTop (mkF m 16 #[.val (.ref a1), .val (.ref a2), .val (.ref a2)] [(.long m2)])) _
        refine XS.aloadN X6.here hx rfl (hb hby d3_16) rfl rfl ?_
        show Steps p.tables e below (T6.setTop (mkF m 17 #[.val (.ref a1), .val (.ref a2), .val (.ref a2)] [(.ref a1), (.long m2)])) _
        refine st7 _ ?_
        show Steps p.tables e below (T7.setTop (mkF m 20 #[.val (.ref a1), .val (.ref a2), .val (.ref a2)] [(.long m1), (.long m2)])) _
        refine XT.lcmp X7.here hx rfl (hb hby d3_20) rfl ?_
        show Steps p.tables e below (T7.setTop (mkF m 21 #[.val (.ref a1), .val (.ref a2), .val (.ref a2)] [(.int (XT.cmpL m2 m1))])) _
        refine XS.ifNo X7.here hx rfl (hb hby d3_21) rfl (XT.ll_ne_f h1) ?_
        show Steps p.tables e below (T7.setTop (mkF m 24 #[.val (.ref a1), .val (.ref a2), .val (.ref a2)] [])) _
        refine XS.aloadN X7.here hx rfl (hb hby d3_24) rfl rfl ?_
        show Steps p.tables e below (T7.setTop (mkF m 25 #[.val (.ref a1), .val (.ref a2), .val (.ref a2)] [(.ref a2)])) _
        refine st9 _ ?_
        show Steps p.tables e below (T9.setTop (mkF m 28 #[.val (.ref a1), .val (.ref a2), .val (.ref a2)] [(.long d2)])) _
        refine XS.aloadN X9.here hx rfl (hb hby d3_28) rfl rfl ?_
        show Steps p.tables e below (T9.setTop (mkF m 29 #[.val (.ref a1), .val (.ref a2), .val (.ref a2)] [(.ref a1), (.long d2)])) _
        refine st10 _ ?_
        show Steps p.tables e below (T10.setTop (mkF m 32 #[.val (.ref a1), .val (.ref a2), .val (.ref a2)] [(.long d1), (.long d2)])) _
        refine XT.lcmp X10.here hx rfl (hb hby d3_32) rfl ?_
        show Steps p.tables e below (T10.setTop (mkF m 33 #[.val (.ref a1), .val (.ref a2), .val (.ref a2)] [(.int (XT.cmpL d2 d1))])) _
        refine XS.ifNo X10.here hx rfl (hb hby d3_33) rfl (XT.ll_ne_f h2) ?_
        show Steps p.tables e below (T10.setTop (mkF m 36 #[.val (.ref a1), .val (.ref a2), .val (.ref a2)] [])) _
        refine XS.iconst X10.here hx rfl (hb hby d3_36) ?_
        show Steps p.tables e below (T10.setTop (mkF m 37 #[.val (.ref a1), .val (.ref a2), .val (.ref a2)] [(.int (1 : Int32))])) _
        refine XS.goto X10.here hx rfl (pc0 := 37) (pc' := 41) rfl (hb hby d3_37) (by decide) (by decide) ?_
        show Steps p.tables e below (T10.setTop (mkF m 41 #[.val (.ref a1), .val (.ref a2), .val (.ref a2)] [(.int (1 : Int32))])) _
        exact retN X10 hx (t := .boolean) Bd.returns (by simp) (hb hby d3_41) hr
      · show Q_own_eqA Z a1 a2 m1 d1 m2 d2 h0 n0 _ T10.heap _
        rw [e10]
        exact ⟨by rw [if_pos ⟨h1, h2⟩], N0, rfl⟩
    · obtain ⟨fs, hr, hrun, hended, hW, hsame⟩ := X10.leave (v := some (.int (0 : Int32))) (fun h => by rw [Bd.returns] at h; cases h)
      refine ⟨_, _, pre0 _ ?_, hrun, hended, _, _, rfl, ?_, ⟨_, rfl⟩, hW, hsame.mono (by decide) (by decide)⟩
      · show Steps p.tables e below (s₁.setTop (mkF m 0 #[.val (.ref a1), .val (.ref a2), .unset] [])) _
        refine XS.aloadN X0.here hx rfl (hb hby d3_0) rfl rfl ?_
        show Steps p.tables e below (s₁.setTop (mkF m 1 #[.val (.ref a1), .val (.ref a2), .unset] [(.ref a2)])) _
        refine st4 _ ?_
        show Steps p.tables e below (T4.setTop (mkF m 4 #[.val (.ref a1), .val (.ref a2), .unset] [(.int (1 : Int32))])) _
        refine XS.ifNo X4.here hx rfl (hb hby d3_4) rfl (XT.i0_eq_f (by decide)) ?_
        show Steps p.tables e below (T4.setTop (mkF m 7 #[.val (.ref a1), .val (.ref a2), .unset] [])) _
        refine XS.aloadN X4.here hx rfl (hb hby d3_7) rfl rfl ?_
        show Steps p.tables e below (T4.setTop (mkF m 8 #[.val (.ref a1), .val (.ref a2), .unset] [(.ref a2)])) _
        refine st5 _ ?_
        show Steps p.tables e below (T5.setTop (mkF m 11 #[.val (.ref a1), .val (.ref a2), .unset] [(.ref a2)])) _
        refine XS.astoreN X5.here hx rfl (hb hby d3_11) rfl rfl (l' := #[.val (.ref a1), .val (.ref a2), .val (.ref a2)]) rfl ?_
        show Steps p.tables e below (T5.setTop (mkF m 12 #[.val (.ref a1), .val (.ref a2), .val (.ref a2)] [])) _
        refine XS.aloadN X5.here hx rfl (hb hby d3_12) rfl rfl ?_
        show Steps p.tables e below (T5.setTop (mkF m 13 #[.val (.ref a1), .val (.ref a2), .val (.ref a2)] [(.ref a2)])) _
        refine st6 _ ?_
        show Steps p.tables e below (T6.setTop (mkF m 16 #[.val (.ref a1), .val (.ref a2), .val (.ref a2)] [(.long m2)])) _
        refine XS.aloadN X6.here hx rfl (hb hby d3_16) rfl rfl ?_
        show Steps p.tables e below (T6.setTop (mkF m 17 #[.val (.ref a1), .val (.ref a2), .val (.ref a2)] [(.ref a1), (.long m2)])) _
        refine st7 _ ?_
        show Steps p.tables e below (T7.setTop (mkF m 20 #[.val (.ref a1), .val (.ref a2), .val (.ref a2)] [(.long m1), (.long m2)])) _
        refine XT.lcmp X7.here hx rfl (hb hby d3_20) rfl ?_
        show Steps p.tables e below (T7.setTop (mkF m 21 #[.val (.ref a1), .val (.ref a2), .val (.ref a2)] [(.int (XT.cmpL m2 m1))])) _
        refine XS.ifNo X7.here hx rfl (hb hby d3_21) rfl (XT.ll_ne_f h1) ?_
        show Steps p.tables e below (T7.setTop (mkF m 24 #[.val (.ref a1), .val (.ref a2), .val (.ref a2)] [])) _
        refine XS.aloadN X7.here hx rfl (hb hby d3_24) rfl rfl ?_
        show Steps p.tables e below (T7.setTop (mkF m 25 #[.val (.ref a1), .val (.ref a2), .val (.ref a2)] [(.ref a2)])) _
        refine st9 _ ?_
        show Steps p.tables e below (T9.setTop (mkF m 28 #[.val (.ref a1), .val (.ref a2), .val (.ref a2)] [(.long d2)])) _
        refine XS.aloadN X9.here hx rfl (hb hby d3_28) rfl rfl ?_
        show Steps p.tables e below (T9.setTop (mkF m 29 #[.val (.ref a1), .val (.ref a2), .val (.ref a2)] [(.ref a1), (.long d2)])) _
        refine st10 _ ?_
        show Steps p.tables e below (T10.setTop (mkF m 32 #[.val (.ref a1), .val (.ref a2), .val (.ref a2)] [(.long d1), (.long d2)])) _
        refine XT.lcmp X10.here hx rfl (hb hby d3_32) rfl ?_
        show Steps p.tables e below (T10.setTop (mkF m 33 #[.val (.ref a1), .val (.ref a2), .val (.ref a2)] [(.int (XT.cmpL d2 d1))])) _
        refine XS.ifYes X10.here hx rfl (pc0 := 33) (pc' := 40) rfl (hb hby d3_33) rfl (XT.ll_ne_t h2) (by decide) (by decide) ?_
        show Steps p.tables e below (T10.setTop (mkF m 40 #[.val (.ref a1), .val (.ref a2), .val (.ref a2)] [])) _
        refine XS.iconst X10.here hx rfl (hb hby d3_40) ?_
        show Steps p.tables e below (T10.setTop (mkF m 41 #[.val (.ref a1), .val (.ref a2), .val (.ref a2)] [(.int (0 : Int32))])) _
        exact retN X10 hx (t := .boolean) Bd.returns (by simp) (hb hby d3_41) hr
      · show Q_own_eqA Z a1 a2 m1 d1 m2 d2 h0 n0 _ T10.heap _
        rw [e10]
        exact ⟨by rw [if_neg (fun q => h2 q.2)], N0, rfl⟩
  · obtain ⟨fs, hr, hrun, hended, hW, hsame⟩ := X7.leave (v := some (.int (0 : Int32))) (fun h => by rw [Bd.returns] at h; cases h)
    refine ⟨_, _, pre0 _ ?_, hrun, hended, _, _, rfl, ?_, ⟨_, rfl⟩, hW, hsame.mono (by decide) (by decide)⟩
    · show Steps p.tables e below (s₁.setTop (mkF m 0 #[.val (.ref a1), .val (.ref a2), .unset] [])) _
      refine XS.aloadN X0.here hx rfl (hb hby d3_0) rfl rfl ?_
      show Steps p.tables e below (s₁.setTop (mkF m 1 #[.val (.ref a1), .val (.ref a2), .unset] [(.ref a2)])) _
      refine st4 _ ?_
      show Steps p.tables e below (T4.setTop (mkF m 4 #[.val (.ref a1), .val (.ref a2), .unset] [(.int (1 : Int32))])) _
      refine XS.ifNo X4.here hx rfl (hb hby d3_4) rfl (XT.i0_eq_f (by decide)) ?_
      show Steps p.tables e below (T4.setTop (mkF m 7 #[.val (.ref a1), .val (.ref a2), .unset] [])) _
      refine XS.aloadN X4.here hx rfl (hb hby d3_7) rfl rfl ?_
      show Steps p.tables e below (T4.setTop (mkF m 8 #[.val (.ref a1), .val (.ref a2), .unset] [(.ref a2)])) _
      refine st5 _ ?_
      show Steps p.tables e below (T5.setTop (mkF m 11 #[.val (.ref a1), .val (.ref a2), .unset] [(.ref a2)])) _
      refine XS.astoreN X5.here hx rfl (hb hby d3_11) rfl rfl (l' := #[.val (.ref a1), .val (.ref a2), .val (.ref a2)]) rfl ?_
      show Steps p.tables e below (T5.setTop (mkF m 12 #[.val (.ref a1), .val (.ref a2), .val (.ref a2)] [])) _
      refine XS.aloadN X5.here hx rfl (hb hby d3_12) rfl rfl ?_
      show Steps p.tables e below (T5.setTop (mkF m 13 #[.val (.ref a1), .val (.ref a2), .val (.ref a2)] [(.ref a2)])) _
      refine st6 _ ?_
      show Steps p.tables e below (T6.setTop (mkF m 16 #[.val (.ref a1), .val (.ref a2), .val (.ref a2)] [(.long m2)])) _
      refine XS.aloadN X6.here hx rfl (hb hby d3_16) rfl rfl ?_
      show Steps p.tables e below (T6.setTop (mkF m 17 #[.val (.ref a1), .val (.ref a2), .val (.ref a2)] [(.ref a1), (.long m2)])) _
      refine st7 _ ?_
      show Steps p.tables e below (T7.setTop (mkF m 20 #[.val (.ref a1), .val (.ref a2), .val (.ref a2)] [(.long m1), (.long m2)])) _
      refine XT.lcmp X7.here hx rfl (hb hby d3_20) rfl ?_
      show Steps p.tables e below (T7.setTop (mkF m 21 #[.val (.ref a1), .val (.ref a2), .val (.ref a2)] [(.int (XT.cmpL m2 m1))])) _
      refine XS.ifYes X7.here hx rfl (pc0 := 21) (pc' := 40) rfl (hb hby d3_21) rfl (XT.ll_ne_t h1) (by decide) (by decide) ?_
      show Steps p.tables e below (T7.setTop (mkF m 40 #[.val (.ref a1), .val (.ref a2), .val (.ref a2)] [])) _
      refine XS.iconst X7.here hx rfl (hb hby d3_40) ?_
      show Steps p.tables e below (T7.setTop (mkF m 41 #[.val (.ref a1), .val (.ref a2), .val (.ref a2)] [(.int (0 : Int32))])) _
      exact retN X7 hx (t := .boolean) Bd.returns (by simp) (hb hby d3_41) hr
    · show Q_own_eqA Z a1 a2 m1 d1 m2 d2 h0 n0 _ T7.heap _
      rw [e7]
      exact ⟨by rw [if_neg (fun q => h1 q.1)], N0, rfl⟩
theorem ef_own_eqN (m : MethodId) (x0 : Addr) : entryFrame m #[(.ref x0), .null] 3 = mkF m 0 #[.val (.ref x0), .val .null, .unset] [] := by first | (simp [entryFrame, mkF, argsToLocals, Value.category]; done) | rfl
def Q_own_eqN (Z : State) (a1 : Addr)  (h0 : Heap) (n0 : Nat) (v : Option Value) (h : Heap) (L : List Loc) : Prop := v = some (.int 0) ∧ Fr n0 L ∧ h = h0
set_option maxRecDepth 65536 in
set_option maxHeartbeats 40000000 in
theorem own_eqN (l : Launch) (Z : State) (a0 : Array Value) (hw : ∀ d ∈ tables_1, d.before a0 Z = true) (ws : List Jvm.Cond) (a1 : Addr)  (h0 : Heap) (n0 : Nat) (Z0 : n0 ≤ h0.size)  :
    MetFree l (⟨"com/example/madingley/madingley/capability/Capability", "equals", "(Ljava/lang/Object;)Z"⟩ : MethodName) (head1 (Jvm.Cond.code (⟨"com/example/madingley/madingley/capability/Capability", "equals", "(Ljava/lang/Object;)Z"⟩ : MethodName) prog_3_method_19_code 3 (some .boolean) :: ws) ({ frames := 0, cells := 0, slots := 0, locals := 0 } : Room)) (fun a U => a = #[(.ref a1), .null] ∧ Z.Warmed39 U.vm ∧ U.heap = h0) (fun _ _ _ _ _ => True) (fun _ U o U' => ∃ v L, o = .returned v ∧ Q_own_eqN Z a1  h0 n0 v U'.heap L ∧ FrameEnd U o U' L ({ frames := 0, cells := 0, slots := 0, locals := 0 } : Room).cells ({ frames := 0, cells := 0, slots := 0, locals := 0 } : Room).slots) := by
  refine MetFree.of_bodySF (plainFor_of_name pn_own_eqN) hisR ?_
  intro p e s m args below meth c s₁ Bd hml0 hP hK
  obtain ⟨rfl, hZ, hh⟩ := hP
  have hx := Bd.exec
  have hby := Bd.bytes
  have hml : c.maxLocals = 3 := hml0
  have hown : s.vm.findClass "com/example/madingley/madingley/capability/Capability" = some m.cls := findClass_of_methodNamed Bd.named
  have hnm := (name_of_methodNamed Bd.named Bd.method).1
  have X0 : Stand p l e ({ frames := 0, cells := 0, slots := 0, locals := 0 } : Room) s m #[(.ref a1), .null] below meth c s₁ [] 0 0 := Stand.of_body Bd
  have e0 : s₁.heap = h0 := by rw [← hh, Bd.state]; rfl
  have N0 := Fr.nil n0
  have pre0 : ∀ t, Steps p.tables e below (s₁.setTop (mkF m 0 #[.val (.ref a1), .val .null, .unset] [])) t → Steps p.tables e below (s₁.setTop (entryFrame m #[(.ref a1), .null] 3)) t := fun t k => castTop (ef_own_eqN m (a1)) k
  obtain ⟨fs, hr, hrun, hended, hW, hsame⟩ := X0.leave (v := some (.int (0 : Int32))) (fun h => by rw [Bd.returns] at h; cases h)
  refine ⟨_, _, pre0 _ ?_, hrun, hended, _, _, rfl, ?_, ⟨_, rfl⟩, hW, hsame.mono (by decide) (by decide)⟩
  · show Steps p.tables e below (s₁.setTop (mkF m 0 #[.val (.ref a1), .val .null, .unset] [])) _
    refine XS.aloadN X0.here hx rfl (hb hby d3_0) rfl rfl ?_
    show Steps p.tables e below (s₁.setTop (mkF m 1 #[.val (.ref a1), .val .null, .unset] [.null])) _
    refine X0.instanceofNull hx (g := (mkF m 1 #[.val (.ref a1), .val .null, .unset] [.null])) rfl rfl (hb hby d3_1) _ ?_
    show Steps p.tables e below (s₁.setTop (mkF m 4 #[.val (.ref a1), .val .null, .unset] [(.int (0 : Int32))])) _
    refine XS.ifYes X0.here hx rfl (pc0 := 4) (pc' := 40) rfl (hb hby d3_4) rfl (XT.i0_eq_t (by decide)) (by decide) (by decide) ?_
    show Steps p.tables e below (s₁.setTop (mkF m 40 #[.val (.ref a1), .val .null, .unset] [])) _
    refine XS.iconst X0.here hx rfl (hb hby d3_40) ?_
    show Steps p.tables e below (s₁.setTop (mkF m 41 #[.val (.ref a1), .val .null, .unset] [(.int (0 : Int32))])) _
    exact retN X0 hx (t := .boolean) Bd.returns (by simp) (hb hby d3_41) hr
  · show Q_own_eqN Z a1  h0 n0 _ s₁.heap _
    rw [e0]
    exact ⟨rfl, N0, rfl⟩
theorem ef_own_eqL (m : MethodId) (x0 : Addr) (x1 : Addr) : entryFrame m #[(.ref x0), (.ref x1)] 3 = mkF m 0 #[.val (.ref x0), .val (.ref x1), .unset] [] := by first | (simp [entryFrame, mkF, argsToLocals, Value.category]; done) | rfl
def Q_own_eqL (Z : State) (a1 : Addr) (a2 : Addr)  (h0 : Heap) (n0 : Nat) (v : Option Value) (h : Heap) (L : List Loc) : Prop := v = some (.int 0) ∧ Fr n0 L ∧ h = h0
set_option maxRecDepth 65536 in
set_option maxHeartbeats 40000000 in
theorem own_eqL (l : Launch) (Z : State) (a0 : Array Value) (hw : ∀ d ∈ tables_1, d.before a0 Z = true) (ws : List Jvm.Cond) (a1 : Addr) (a2 : Addr)  (h0 : Heap) (n0 : Nat) (Z0 : n0 ≤ h0.size) (E_ : Exa Z h0 a2 "java/lang/Long") :
    MetFree l (⟨"com/example/madingley/madingley/capability/Capability", "equals", "(Ljava/lang/Object;)Z"⟩ : MethodName) (head1 (Jvm.Cond.code (⟨"com/example/madingley/madingley/capability/Capability", "equals", "(Ljava/lang/Object;)Z"⟩ : MethodName) prog_3_method_19_code 3 (some .boolean) :: ws) ({ frames := 0, cells := 0, slots := 0, locals := 0 } : Room)) (fun a U => a = #[(.ref a1), (.ref a2)] ∧ Z.Warmed39 U.vm ∧ U.heap = h0) (fun _ _ _ _ _ => True) (fun _ U o U' => ∃ v L, o = .returned v ∧ Q_own_eqL Z a1 a2  h0 n0 v U'.heap L ∧ FrameEnd U o U' L ({ frames := 0, cells := 0, slots := 0, locals := 0 } : Room).cells ({ frames := 0, cells := 0, slots := 0, locals := 0 } : Room).slots) := by
  refine MetFree.of_bodySF (plainFor_of_name pn_own_eqL) hisR ?_
  intro p e s m args below meth c s₁ Bd hml0 hP hK
  obtain ⟨rfl, hZ, hh⟩ := hP
  have hx := Bd.exec
  have hby := Bd.bytes
  have hml : c.maxLocals = 3 := hml0
  have hown : s.vm.findClass "com/example/madingley/madingley/capability/Capability" = some m.cls := findClass_of_methodNamed Bd.named
  have hnm := (name_of_methodNamed Bd.named Bd.method).1
  have X0 : Stand p l e ({ frames := 0, cells := 0, slots := 0, locals := 0 } : Room) s m #[(.ref a1), (.ref a2)] below meth c s₁ [] 0 0 := Stand.of_body Bd
  have e0 : s₁.heap = h0 := by rw [← hh, Bd.state]; rfl
  have N0 := Fr.nil n0
  have pre0 : ∀ t, Steps p.tables e below (s₁.setTop (mkF m 0 #[.val (.ref a1), .val (.ref a2), .unset] [])) t → Steps p.tables e below (s₁.setTop (entryFrame m #[(.ref a1), (.ref a2)] 3)) t := fun t k => castTop (ef_own_eqL m (a1) (a2)) k
  obtain ⟨T12, X12, e12, st12⟩ := instNo X0 hx hZ hown (hw _ (List.mem_of_getElem? (i := 18) rfl)) e0 E_ (own_no hw) (g := (mkF m 1 #[.val (.ref a1), .val (.ref a2), .unset] [(.ref a2)])) rfl rfl (hb hby d3_1)
  obtain ⟨fs, hr, hrun, hended, hW, hsame⟩ := X12.leave (v := some (.int (0 : Int32))) (fun h => by rw [Bd.returns] at h; cases h)
  refine ⟨_, _, pre0 _ ?_, hrun, hended, _, _, rfl, ?_, ⟨_, rfl⟩, hW, hsame.mono (by decide) (by decide)⟩
  · show Steps p.tables e below (s₁.setTop (mkF m 0 #[.val (.ref a1), .val (.ref a2), .unset] [])) _
    refine XS.aloadN X0.here hx rfl (hb hby d3_0) rfl rfl ?_
    show Steps p.tables e below (s₁.setTop (mkF m 1 #[.val (.ref a1), .val (.ref a2), .unset] [(.ref a2)])) _
    refine st12 _ ?_
    show Steps p.tables e below (T12.setTop (mkF m 4 #[.val (.ref a1), .val (.ref a2), .unset] [(.int (0 : Int32))])) _
    refine XS.ifYes X12.here hx rfl (pc0 := 4) (pc' := 40) rfl (hb hby d3_4) rfl (XT.i0_eq_t (by decide)) (by decide) (by decide) ?_
    show Steps p.tables e below (T12.setTop (mkF m 40 #[.val (.ref a1), .val (.ref a2), .unset] [])) _
    refine XS.iconst X12.here hx rfl (hb hby d3_40) ?_
    show Steps p.tables e below (T12.setTop (mkF m 41 #[.val (.ref a1), .val (.ref a2), .unset] [(.int (0 : Int32))])) _
    exact retN X12 hx (t := .boolean) Bd.returns (by simp) (hb hby d3_41) hr
  · show Q_own_eqL Z a1 a2  h0 n0 _ T12.heap _
    rw [e12]
    exact ⟨rfl, N0, rfl⟩
theorem d6_0 : decode jdk_18_method_1_code 0 = .ok (.aload_n 0, 1) := by decide +kernel
theorem d6_1 : decode jdk_18_method_1_code 1 = .ok (.invokespecial 1, 3) := by decide +kernel
theorem d6_4 : decode jdk_18_method_1_code 4 = .ok (.return_, 1) := by decide +kernel
theorem pn_own_num : plainName "java/lang/Number" = true := by first | (simp [plainName, overriddenIn]; done) | decide +kernel
theorem ef_own_num (m : MethodId) (x0 : Addr) : entryFrame m #[(.ref x0)] 1 = mkF m 0 #[.val (.ref x0)] [] := by first | (simp [entryFrame, mkF, argsToLocals, Value.category]; done) | rfl
def Q_own_num (Z : State) (a1 : Addr)  (h0 : Heap) (n0 : Nat) (v : Option Value) (h : Heap) (L : List Loc) : Prop := v = none ∧ Fr n0 L ∧ h = h0
set_option maxRecDepth 65536 in
set_option maxHeartbeats 40000000 in
theorem own_num (l : Launch) (Z : State) (a0 : Array Value) (hw : ∀ d ∈ tables_1, d.before a0 Z = true) (ws : List Jvm.Cond) (a1 : Addr)  (h0 : Heap) (n0 : Nat) (Z0 : n0 ≤ h0.size)  :
    MetFree l (⟨"java/lang/Number", "<init>", "()V"⟩ : MethodName) (head1 (Jvm.Cond.code (⟨"java/lang/Number", "<init>", "()V"⟩ : MethodName) jdk_18_method_1_code 1 none :: ws) ({ frames := 1, cells := 0, slots := 0, locals := 12 } : Room)) (fun a U => a = #[(.ref a1)] ∧ Z.Warmed39 U.vm ∧ U.heap = h0) (fun _ _ _ _ _ => True) (fun _ U o U' => ∃ v L, o = .returned v ∧ Q_own_num Z a1  h0 n0 v U'.heap L ∧ FrameEnd U o U' L ({ frames := 1, cells := 0, slots := 0, locals := 12 } : Room).cells ({ frames := 1, cells := 0, slots := 0, locals := 12 } : Room).slots) := by
  refine MetFree.of_bodySF (plainFor_of_name pn_own_num) hisR ?_
  intro p e s m args below meth c s₁ Bd hml0 hP hK
  obtain ⟨rfl, hZ, hh⟩ := hP
  have hx := Bd.exec
  have hby := Bd.bytes
  have hml : c.maxLocals = 1 := hml0
  have hown : s.vm.findClass "java/lang/Number" = some m.cls := findClass_of_methodNamed Bd.named
  have hnm := (name_of_methodNamed Bd.named Bd.method).1
  have X0 : Stand p l e ({ frames := 1, cells := 0, slots := 0, locals := 12 } : Room) s m #[(.ref a1)] below meth c s₁ [] 0 0 := Stand.of_body Bd
  have e0 : s₁.heap = h0 := by rw [← hh, Bd.state]; rfl
  have N0 := Fr.nil n0
  have pre0 : ∀ t, Steps p.tables e below (s₁.setTop (mkF m 0 #[.val (.ref a1)] [])) t → Steps p.tables e below (s₁.setTop (entryFrame m #[(.ref a1)] 1)) t := fun t k => castTop (ef_own_num m (a1)) k
  obtain ⟨T13, X13, e13, st13⟩ := initO X0 hx hZ hown (hw _ (List.mem_of_getElem? (i := 37) rfl)) (hw _ (List.mem_of_getElem? (i := 7) rfl)) (hw _ (List.mem_of_getElem? (i := 8) rfl)) e0 (g := (mkF m 1 #[.val (.ref a1)] [(.ref a1)])) rfl (by rw [hml]; rfl) rfl (hb hby d6_1) (by decide) (W := 0) (by show 2 * 0 + _ ≤ _; exact Nat.le_of_eq rfl) (by decide)
  obtain ⟨fs, hr, hrun, hended, hW, hsame⟩ := X13.leave (v := none) (fun _ => rfl)
  refine ⟨_, _, pre0 _ ?_, hrun, hended, _, _, rfl, ?_, ⟨_, rfl⟩, hW, hsame.mono (by decide) (by decide)⟩
  · show Steps p.tables e below (s₁.setTop (mkF m 0 #[.val (.ref a1)] [])) _
    refine XS.aloadN X0.here hx rfl (hb hby d6_0) rfl rfl ?_
    show Steps p.tables e below (s₁.setTop (mkF m 1 #[.val (.ref a1)] [(.ref a1)])) _
    refine st13 _ ?_
    show Steps p.tables e below (T13.setTop (mkF m 4 #[.val (.ref a1)] [])) _
    exact X13.returnOut hx Bd.returns (hb hby d6_4) hr
  · show Q_own_num Z a1  h0 n0 _ T13.heap _
    rw [e13]
    exact ⟨rfl, N0, rfl⟩
theorem d5_0 : decode jdk_35_method_26_code 0 = .ok (.aload_n 0, 1) := by decide +kernel
theorem d5_1 : decode jdk_35_method_26_code 1 = .ok (.invokespecial 270, 3) := by decide +kernel
theorem d5_4 : decode jdk_35_method_26_code 4 = .ok (.aload_n 0, 1) := by decide +kernel
theorem d5_5 : decode jdk_35_method_26_code 5 = .ok (.lload_n 1, 1) := by decide +kernel
theorem d5_6 : decode jdk_35_method_26_code 6 = .ok (.putfield 273, 3) := by decide +kernel
theorem d5_9 : decode jdk_35_method_26_code 9 = .ok (.return_, 1) := by decide +kernel
theorem pn_own_linit : plainName "java/lang/Long" = true := by first | (simp [plainName, overriddenIn]; done) | decide +kernel
theorem ef_own_linit (m : MethodId) (x0 : Addr) (x1 : Int64) : entryFrame m #[(.ref x0), (.long x1)] 3 = mkF m 0 #[.val (.ref x0), .val (.long x1), .second] [] := by first | (simp [entryFrame, mkF, argsToLocals, Value.category]; done) | rfl
def Q_own_linit (Z : State) (a1 : Addr) (q1 : Int64)  (h0 : Heap) (n0 : Nat) (v : Option Value) (h : Heap) (L : List Loc) : Prop := v = none ∧ Fr n0 L ∧ Keep h0 h [a1]
set_option maxRecDepth 65536 in
set_option maxHeartbeats 40000000 in
theorem own_linit (l : Launch) (Z : State) (a0 : Array Value) (hw : ∀ d ∈ tables_1, d.before a0 Z = true) (ws : List Jvm.Cond) (a1 : Addr) (q1 : Int64)  (h0 : Heap) (n0 : Nat) (Z0 : n0 ≤ h0.size) (E_ : Exa Z h0 a1 "java/lang/Long") (F_v : Fld Z h0 a1 "java/lang/Long" "value" "J" (.long (0 : Int64))) (g_a1 : n0 ≤ a1) :
    MetFree l (⟨"java/lang/Long", "<init>", "(J)V"⟩ : MethodName) (head1 (Jvm.Cond.code (⟨"java/lang/Long", "<init>", "(J)V"⟩ : MethodName) jdk_35_method_26_code 3 none :: ws) ({ frames := 2, cells := 0, slots := 0, locals := 24 } : Room)) (fun a U => a = #[(.ref a1), (.long q1)] ∧ Z.Warmed39 U.vm ∧ U.heap = h0) (fun _ _ _ _ _ => True) (fun _ U o U' => ∃ v L, o = .returned v ∧ Q_own_linit Z a1 q1  h0 n0 v U'.heap L ∧ FrameEnd U o U' L ({ frames := 2, cells := 0, slots := 0, locals := 24 } : Room).cells ({ frames := 2, cells := 0, slots := 0, locals := 24 } : Room).slots) := by
  refine MetFree.of_bodySF (plainFor_of_name pn_own_linit) hisR ?_
  intro p e s m args below meth c s₁ Bd hml0 hP hK
  obtain ⟨rfl, hZ, hh⟩ := hP
  have hx := Bd.exec
  have hby := Bd.bytes
  have hml : c.maxLocals = 3 := hml0
  have hown : s.vm.findClass "java/lang/Long" = some m.cls := findClass_of_methodNamed Bd.named
  have hnm := (name_of_methodNamed Bd.named Bd.method).1
  have X0 : Stand p l e ({ frames := 2, cells := 0, slots := 0, locals := 24 } : Room) s m #[(.ref a1), (.long q1)] below meth c s₁ [] 0 0 := Stand.of_body Bd
  have e0 : s₁.heap = h0 := by rw [← hh, Bd.state]; rfl
  have N0 := Fr.nil n0
  have pre0 : ∀ t, Steps p.tables e below (s₁.setTop (mkF m 0 #[.val (.ref a1), .val (.long q1), .second] [])) t → Steps p.tables e below (s₁.setTop (entryFrame m #[(.ref a1), (.long q1)] 3)) t := fun t k => castTop (ef_own_linit m (a1) (q1)) k
  obtain ⟨_, _, ⟨T14, L14, k14, n14⟩, -, X14, ⟨Lc14, hQ14, l14, y14, z14⟩, st14⟩ := X0.specialBack hx (y := (⟨"java/lang/Number", "<init>", "()V"⟩ : MethodName)) rfl hown (mvT hZ (hw _ (List.mem_of_getElem? (i := 31) rfl))) (mvT hZ (hw _ (List.mem_of_getElem? (i := 32) rfl))) (mvT hZ (hw _ (List.mem_of_getElem? (i := 36) rfl))) (by decide) (backOf (W := 0) (own_num l Z a0 hw [] a1 h0 n0 Z0 ) hZ (hw _ (List.mem_of_getElem? (i := 36) rfl)) (hw _ (List.mem_of_getElem? (i := 35) rfl)) (by decide) (by decide)) (g := (mkF m 1 #[.val (.ref a1), .val (.long q1), .second] [(.ref a1)])) rfl (by rw [hml]; rfl) (Steps.refl _) (a := a1) (argsL := []) (rest := []) (lenOf pd_0 rfl) rfl (by show 2 * 0 + _ ≤ _; exact Nat.le_of_eq rfl) (hb hby d5_1) (fun _ _ => ⟨rfl, e0, (by decide : 0 + 0 ≤ _), (by decide : 0 + 0 ≤ _)⟩)
  dsimp only [Pt.U, Pt.locs, Pt.cells, Pt.slots] at X14 l14 y14 z14 st14 hQ14
  subst l14 y14 z14
  obtain ⟨rfl, N14q, eh14⟩ := hQ14
  have N14 := Fr.app N0 N14q
  obtain ⟨T15, h15, X15, e15, W15, st15⟩ := putF X14 hx hZ hown (host := "") (Or.inl (hw _ (List.mem_of_getElem? (i := 38) rfl))) Via.refl eh14 F_v E_ (Or.inr ⟨(hw _ (List.mem_of_getElem? (i := 39) rfl)), rfl, hnm⟩) (hw _ (List.mem_of_getElem? (i := 26) rfl)) (ty := .long) (by decide) rfl rfl (g := (mkF m 6 #[.val (.ref a1), .val (.long q1), .second] [(.long q1), (.ref a1)])) rfl rfl (hb hby d5_6)
  have Fw15 := F_v.same W15
  have N15 := Fr.snoc X15 N14 g_a1
  have K15 : Keep h0 h15 [a1] := (Keep.refl h0 [a1]).wr W15 (Or.inl (List.mem_of_getElem? (i := 0) rfl))
  obtain ⟨fs, hr, hrun, hended, hW, hsame⟩ := X15.leave (v := none) (fun _ => rfl)
  refine ⟨_, _, pre0 _ ?_, hrun, hended, _, _, rfl, ?_, ⟨_, rfl⟩, hW, hsame.mono (by decide) (by decide)⟩
  · show Steps p.tables e below (s₁.setTop (mkF m 0 #[.val (.ref a1), .val (.long q1), .second] [])) _
    refine XS.aloadN X0.here hx rfl (hb hby d5_0) rfl rfl ?_
    show Steps p.tables e below (s₁.setTop (mkF m 1 #[.val (.ref a1), .val (.long q1), .second] [(.ref a1)])) _
    refine st14.trans ?_
    show Steps p.tables e below (T14.setTop (mkF m 4 #[.val (.ref a1), .val (.long q1), .second] [])) _
    refine XS.aloadN X14.here hx rfl (hb hby d5_4) rfl rfl ?_
    show Steps p.tables e below (T14.setTop (mkF m 5 #[.val (.ref a1), .val (.long q1), .second] [(.ref a1)])) _
    refine XT.lloadN X14.here hx rfl (hb hby d5_5) rfl ?_
    show Steps p.tables e below (T14.setTop (mkF m 6 #[.val (.ref a1), .val (.long q1), .second] [(.long q1), (.ref a1)])) _
    refine st15 _ ?_
    show Steps p.tables e below (T15.setTop (mkF m 9 #[.val (.ref a1), .val (.long q1), .second] [])) _
    exact X15.returnOut hx Bd.returns (hb hby d5_9) hr
  · show Q_own_linit Z a1 q1  h0 n0 _ T15.heap _
    rw [e15]
    exact ⟨rfl, N15, K15⟩
def own_ci (q : Int64) : Nat := (q.toInt + 128).toNat
theorem own_cir {q : Int64} (h1 : ¬ q < (-128 : Int64)) (h2 : ¬ (127 : Int64) < q) : -128 ≤ q.toInt ∧ q.toInt ≤ 127 := by
  rw [Int64.lt_iff_toInt_lt] at h1 h2
  have e1 : (-128 : Int64).toInt = -128 := rfl
  have e2 : (127 : Int64).toInt = 127 := rfl
  omega
theorem own_ci_lt {q : Int64} (h1 : ¬ q < (-128 : Int64)) (h2 : ¬ (127 : Int64) < q) : own_ci q < 256 := by
  have := own_cir h1 h2
  unfold own_ci; omega
theorem own_cix {q : Int64} (h1 : ¬ q < (-128 : Int64)) (h2 : ¬ (127 : Int64) < q) : ¬ (q.toInt32 + (128 : Int32)) < 0 ∧ (q.toInt32 + (128 : Int32)).toNatClampNeg = own_ci q := by
  have r := own_cir h1 h2
  have a1 := c_l2i q
  have b1 := rng32 q.toInt32
  have a2 := c_iadd q.toInt32 (128 : Int32)
  have b2 := rng32 (q.toInt32 + (128 : Int32))
  have e1 : (128 : Int32).toInt = 128 := rfl
  have e0 : (0 : Int32).toInt = 0 := rfl
  rw [Int32.lt_iff_toInt_lt]
  simp only [Int32.toNatClampNeg, own_ci]
  omega
theorem d4_0 : decode jdk_35_method_24_code 0 = .ok (.sipush 128, 3) := by decide +kernel
theorem d4_3 : decode jdk_35_method_24_code 3 = .ok (.istore_n 2, 1) := by decide +kernel
theorem d4_4 : decode jdk_35_method_24_code 4 = .ok (.lload_n 0, 1) := by decide +kernel
theorem d4_5 : decode jdk_35_method_24_code 5 = .ok (.ldc2_w 230, 3) := by decide +kernel
theorem d4_8 : decode jdk_35_method_24_code 8 = .ok (.lcmp, 1) := by decide +kernel
theorem d4_9 : decode jdk_35_method_24_code 9 = .ok (.ifCond .lt 22, 3) := by decide +kernel
theorem d4_12 : decode jdk_35_method_24_code 12 = .ok (.lload_n 0, 1) := by decide +kernel
theorem d4_13 : decode jdk_35_method_24_code 13 = .ok (.ldc2_w 232, 3) := by decide +kernel
theorem d4_16 : decode jdk_35_method_24_code 16 = .ok (.lcmp, 1) := by decide +kernel
theorem d4_17 : decode jdk_35_method_24_code 17 = .ok (.ifCond .gt 14, 3) := by decide +kernel
theorem d4_20 : decode jdk_35_method_24_code 20 = .ok (.getstatic 234, 3) := by decide +kernel
theorem d4_23 : decode jdk_35_method_24_code 23 = .ok (.lload_n 0, 1) := by decide +kernel
theorem d4_24 : decode jdk_35_method_24_code 24 = .ok (.l2i, 1) := by decide +kernel
theorem d4_25 : decode jdk_35_method_24_code 25 = .ok (.sipush 128, 3) := by decide +kernel
theorem d4_28 : decode jdk_35_method_24_code 28 = .ok (.iadd, 1) := by decide +kernel
theorem d4_29 : decode jdk_35_method_24_code 29 = .ok (.aaload, 1) := by decide +kernel
theorem d4_30 : decode jdk_35_method_24_code 30 = .ok (.areturn, 1) := by decide +kernel
theorem d4_31 : decode jdk_35_method_24_code 31 = .ok (.new 1, 3) := by decide +kernel
theorem d4_34 : decode jdk_35_method_24_code 34 = .ok (.dup, 1) := by decide +kernel
theorem d4_35 : decode jdk_35_method_24_code 35 = .ok (.lload_n 0, 1) := by decide +kernel
theorem d4_36 : decode jdk_35_method_24_code 36 = .ok (.invokespecial 240, 3) := by decide +kernel
theorem d4_39 : decode jdk_35_method_24_code 39 = .ok (.areturn, 1) := by decide +kernel
theorem pn_own_vo : plainName "java/lang/Long" = true := by first | (simp [plainName, overriddenIn]; done) | decide +kernel
theorem ef_own_vo (m : MethodId) (x0 : Int64) : entryFrame m #[(.long x0)] 3 = mkF m 0 #[.val (.long x0), .second, .unset] [] := by first | (simp [entryFrame, mkF, argsToLocals, Value.category]; done) | rfl
def Q_own_vo (Z : State) (q1 : Int64) (ac : Addr) (kc : ClassId) (fc : Nat → Value) (lf : Nat → Addr) (h0 : Heap) (n0 : Nat) (v : Option Value) (h : Heap) (L : List Loc) : Prop := ∃ b : Addr, v = some (.ref b) ∧ Fr n0 L ∧ Keep h0 h [] ∧ Exa Z h b "java/lang/Long"
set_option maxRecDepth 65536 in
set_option maxHeartbeats 40000000 in
theorem own_vo (l : Launch) (Z : State) (a0 : Array Value) (hw : ∀ d ∈ tables_1, d.before a0 Z = true) (ws : List Jvm.Cond) (q1 : Int64) (ac : Addr) (kc : ClassId) (fc : Nat → Value) (lf : Nat → Addr) (h0 : Heap) (n0 : Nat) (Z0 : n0 ≤ h0.size) (S_c : Sta Z h0 "java/lang/Long$LongCache" "cache" "[Ljava/lang/Long;" (.ref ac)) (V_c : Arf Z h0 ac kc (.object "java/lang/Long") 256 fc) (hc : ∀ j, j < 256 → fc j = .ref (lf j)) (HE : ∀ j, j < 256 → Exa Z h0 (lf j) "java/lang/Long") :
    MetFree l (⟨"java/lang/Long", "valueOf", "(J)Ljava/lang/Long;"⟩ : MethodName) (head1 (Jvm.Cond.code (⟨"java/lang/Long", "valueOf", "(J)Ljava/lang/Long;"⟩ : MethodName) jdk_35_method_24_code 3 (some (.object "java/lang/Long")) :: ws) ({ frames := 3, cells := 1, slots := 1, locals := 39 } : Room)) (fun a U => a = #[(.long q1)] ∧ Z.Warmed39 U.vm ∧ U.heap = h0) (fun _ _ _ _ _ => True) (fun _ U o U' => ∃ v L, o = .returned v ∧ Q_own_vo Z q1 ac kc fc lf h0 n0 v U'.heap L ∧ FrameEnd U o U' L ({ frames := 3, cells := 1, slots := 1, locals := 39 } : Room).cells ({ frames := 3, cells := 1, slots := 1, locals := 39 } : Room).slots) := by
  refine MetFree.of_bodySF (plainFor_of_name pn_own_vo) hisR ?_
  intro p e s m args below meth c s₁ Bd hml0 hP hK
  obtain ⟨rfl, hZ, hh⟩ := hP
  have hx := Bd.exec
  have hby := Bd.bytes
  have hml : c.maxLocals = 3 := hml0
  have hown : s.vm.findClass "java/lang/Long" = some m.cls := findClass_of_methodNamed Bd.named
  have hnm := (name_of_methodNamed Bd.named Bd.method).1
  have X0 : Stand p l e ({ frames := 3, cells := 1, slots := 1, locals := 39 } : Room) s m #[(.long q1)] below meth c s₁ [] 0 0 := Stand.of_body Bd
  have e0 : s₁.heap = h0 := by rw [← hh, Bd.state]; rfl
  have N0 := Fr.nil n0
  have pre0 : ∀ t, Steps p.tables e below (s₁.setTop (mkF m 0 #[.val (.long q1), .second, .unset] [])) t → Steps p.tables e below (s₁.setTop (entryFrame m #[(.long q1)] 3)) t := fun t k => castTop (ef_own_vo m (q1)) k
  by_cases h1 : q1 < (-128 : Int64)
  · obtain ⟨T17, h17, X17, e17, E17, A17, D17, -, st17⟩ := newO X0 hx hZ hown (hw _ (List.mem_of_getElem? (i := 25) rfl)) (hw _ (List.mem_of_getElem? (i := 26) rfl)) (hw _ (List.mem_of_getElem? (i := 22) rfl)) e0 (g := (mkF m 31 #[.val (.long q1), .second, .val (.int (128 : Int32))] [])) rfl (hb hby d4_31) (by decide) (by decide)
    obtain ⟨b17, g17⟩ : ∃ z, z = h0.size := ⟨_, rfl⟩
    rw [← g17] at A17 D17 st17
    have g_b17 : n0 ≤ b17 := Nat.le_trans Z0 (Nat.le_of_eq g17.symm)
    have sz_b17 : h0.size ≤ b17 := (Nat.le_trans (Keep.refl h0 []).1 (Nat.le_of_eq g17.symm))
    have lt_ac_b17 : ac < b17 := Nat.lt_of_lt_of_eq V_c.lt g17.symm
    have K17 : Keep h0 h17 [] := (Keep.refl h0 []).ext E17
    have F17_value : Fld Z h17 b17 "java/lang/Long" "value" "J" (.long (0 : Int64)) := D17 (Or.inr (hw _ (List.mem_of_getElem? (i := 39) rfl))) (ty := .long) (by decide)
    obtain ⟨_, _, ⟨T18, L18, k18, n18⟩, -, X18, ⟨Lc18, hQ18, l18, y18, z18⟩, st18⟩ := X17.specialBack hx (y := (⟨"java/lang/Long", "<init>", "(J)V"⟩ : MethodName)) rfl hown (mvT hZ (hw _ (List.mem_of_getElem? (i := 27) rfl))) (mvT hZ (hw _ (List.mem_of_getElem? (i := 28) rfl))) (mvT hZ (hw _ (List.mem_of_getElem? (i := 30) rfl))) (by decide) (backOf (W := 1) (own_linit l Z a0 hw [] b17 q1 h17 n0 (Nat.le_trans Z0 E17.1) A17 F17_value g_b17) hZ (hw _ (List.mem_of_getElem? (i := 30) rfl)) (hw _ (List.mem_of_getElem? (i := 22) rfl)) (by decide) (by decide)) (g := (mkF m 36 #[.val (.long q1), .second, .val (.int (128 : Int32))] [(.long q1), (.ref b17), (.ref b17)])) rfl (by rw [hml]; rfl) (Steps.refl _) (a := b17) (argsL := [(.long q1)]) (rest := [(.ref b17)]) (lenOf pd_1 rfl) rfl (by show 2 * 0 + _ ≤ _; exact Nat.le_of_eq rfl) (hb hby d4_36) (fun _ _ => ⟨rfl, e17, (by decide : 1 + 0 ≤ _), (by decide : 1 + 0 ≤ _)⟩)
    dsimp only [Pt.U, Pt.locs, Pt.cells, Pt.slots] at X18 l18 y18 z18 st18 hQ18
    subst l18 y18 z18
    obtain ⟨rfl, N18q, K18⟩ := hQ18
    have N18 := Fr.app N0 N18q
    have Kx18 : Keep h0 T18.heap [] := K17.trans K18 (allS (Or.inr sz_b17) all0)
    obtain ⟨fs, hr, hrun, hended, hW, hsame⟩ := X18.leave (v := some (.ref b17)) (fun h => by rw [Bd.returns] at h; cases h)
    refine ⟨_, _, pre0 _ ?_, hrun, hended, _, _, rfl, ?_, ⟨_, rfl⟩, hW, hsame.mono (by decide) (by decide)⟩
    · show Steps p.tables e below (s₁.setTop (mkF m 0 #[.val (.long q1), .second, .unset] [])) _
      refine XS.sipush X0.here hx rfl (hb hby d4_0) ?_
      show Steps p.tables e below (s₁.setTop (mkF m 3 #[.val (.long q1), .second, .unset] [(.int (128 : Int32))])) _
      refine XS.istoreN X0.here hx rfl (hb hby d4_3) rfl (l' := #[.val (.long q1), .second, .val (.int (128 : Int32))]) rfl ?_
      show Steps p.tables e below (s₁.setTop (mkF m 4 #[.val (.long q1), .second, .val (.int (128 : Int32))] [])) _
      refine XT.lloadN X0.here hx rfl (hb hby d4_4) rfl ?_
      show Steps p.tables e below (s₁.setTop (mkF m 5 #[.val (.long q1), .second, .val (.int (128 : Int32))] [(.long q1)])) _
      refine Jvm.Stand.ldc2J X0 hx hown (mvT hZ (hw _ (List.mem_of_getElem? (i := 24) rfl))) (g := (mkF m 5 #[.val (.long q1), .second, .val (.int (128 : Int32))] [(.long q1)])) rfl (hb hby d4_5) ?_
      show Steps p.tables e below (s₁.setTop (mkF m 8 #[.val (.long q1), .second, .val (.int (128 : Int32))] [(.long (-128 : Int64)), (.long q1)])) _
      refine XT.lcmp X0.here hx rfl (hb hby d4_8) rfl ?_
      show Steps p.tables e below (s₁.setTop (mkF m 9 #[.val (.long q1), .second, .val (.int (128 : Int32))] [(.int (XT.cmpL q1 (-128 : Int64)))])) _
      refine XS.ifYes X0.here hx rfl (pc0 := 9) (pc' := 31) rfl (hb hby d4_9) rfl (XT.ll_lt_t h1) (by decide) (by decide) ?_
      show Steps p.tables e below (s₁.setTop (mkF m 31 #[.val (.long q1), .second, .val (.int (128 : Int32))] [])) _
      refine st17 _ ?_
      show Steps p.tables e below (T17.setTop (mkF m 34 #[.val (.long q1), .second, .val (.int (128 : Int32))] [(.ref b17)])) _
      refine XS.dup X17.here hx rfl (hb hby d4_34) rfl rfl ?_
      show Steps p.tables e below (T17.setTop (mkF m 35 #[.val (.long q1), .second, .val (.int (128 : Int32))] [(.ref b17), (.ref b17)])) _
      refine XT.lloadN X17.here hx rfl (hb hby d4_35) rfl ?_
      show Steps p.tables e below (T17.setTop (mkF m 36 #[.val (.long q1), .second, .val (.int (128 : Int32))] [(.long q1), (.ref b17), (.ref b17)])) _
      refine st18.trans ?_
      show Steps p.tables e below (T18.setTop (mkF m 39 #[.val (.long q1), .second, .val (.int (128 : Int32))] [(.ref b17)])) _
      exact retOut X18 hx (t := (.object "java/lang/Long")) Bd.returns rfl (Or.inr (Or.inr (Or.inr (Or.inr ⟨rfl, rfl, rfl⟩)))) (hb hby d4_39) hr
    · show Q_own_vo Z q1 ac kc fc lf h0 n0 _ T18.heap _
      exact ⟨_, rfl, N18, Kx18, (A17.keep K18)⟩
  · by_cases h2 : (127 : Int64) < q1
    · obtain ⟨T20, h20, X20, e20, E20, A20, D20, -, st20⟩ := newO X0 hx hZ hown (hw _ (List.mem_of_getElem? (i := 25) rfl)) (hw _ (List.mem_of_getElem? (i := 26) rfl)) (hw _ (List.mem_of_getElem? (i := 22) rfl)) e0 (g := (mkF m 31 #[.val (.long q1), .second, .val (.int (128 : Int32))] [])) rfl (hb hby d4_31) (by decide) (by decide)
      obtain ⟨b20, g20⟩ : ∃ z, z = h0.size := ⟨_, rfl⟩
      rw [← g20] at A20 D20 st20
      have g_b20 : n0 ≤ b20 := Nat.le_trans Z0 (Nat.le_of_eq g20.symm)
      have sz_b20 : h0.size ≤ b20 := (Nat.le_trans (Keep.refl h0 []).1 (Nat.le_of_eq g20.symm))
      have lt_ac_b20 : ac < b20 := Nat.lt_of_lt_of_eq V_c.lt g20.symm
      have K20 : Keep h0 h20 [] := (Keep.refl h0 []).ext E20
      have F20_value : Fld Z h20 b20 "java/lang/Long" "value" "J" (.long (0 : Int64)) := D20 (Or.inr (hw _ (List.mem_of_getElem? (i := 39) rfl))) (ty := .long) (by decide)
      obtain ⟨_, _, ⟨T21, L21, k21, n21⟩, -, X21, ⟨Lc21, hQ21, l21, y21, z21⟩, st21⟩ := X20.specialBack hx (y := (⟨"java/lang/Long", "<init>", "(J)V"⟩ : MethodName)) rfl hown (mvT hZ (hw _ (List.mem_of_getElem? (i := 27) rfl))) (mvT hZ (hw _ (List.mem_of_getElem? (i := 28) rfl))) (mvT hZ (hw _ (List.mem_of_getElem? (i := 30) rfl))) (by decide) (backOf (W := 1) (own_linit l Z a0 hw [] b20 q1 h20 n0 (Nat.le_trans Z0 E20.1) A20 F20_value g_b20) hZ (hw _ (List.mem_of_getElem? (i := 30) rfl)) (hw _ (List.mem_of_getElem? (i := 22) rfl)) (by decide) (by decide)) (g := (mkF m 36 #[.val (.long q1), .second, .val (.int (128 : Int32))] [(.long q1), (.ref b20), (.ref b20)])) rfl (by rw [hml]; rfl) (Steps.refl _) (a := b20) (argsL := [(.long q1)]) (rest := [(.ref b20)]) (lenOf pd_1 rfl) rfl (by show 2 * 0 + _ ≤ _; exact Nat.le_of_eq rfl) (hb hby d4_36) (fun _ _ => ⟨rfl, e20, (by decide : 1 + 0 ≤ _), (by decide : 1 + 0 ≤ _)⟩)
      dsimp only [Pt.U, Pt.locs, Pt.cells, Pt.slots] at X21 l21 y21 z21 st21 hQ21
      subst l21 y21 z21
      obtain ⟨rfl, N21q, K21⟩ := hQ21
      have N21 := Fr.app N0 N21q
      have Kx21 : Keep h0 T21.heap [] := K20.trans K21 (allS (Or.inr sz_b20) all0)
      obtain ⟨fs, hr, hrun, hended, hW, hsame⟩ := X21.leave (v := some (.ref b20)) (fun h => by rw [Bd.returns] at h; cases h)
      refine ⟨_, _, pre0 _ ?_, hrun, hended, _, _, rfl, ?_, ⟨_, rfl⟩, hW, hsame.mono (by decide) (by decide)⟩
      · show Steps p.tables e below (s₁.setTop (mkF m 0 #[.val (.long q1), .second, .unset] [])) _
        refine XS.sipush X0.here hx rfl (hb hby d4_0) ?_
        show Steps p.tables e below (s₁.setTop (mkF m 3 #[.val (.long q1), .second, .unset] [(.int (128 : Int32))])) _
        refine XS.istoreN X0.here hx rfl (hb hby d4_3) rfl (l' := #[.val (.long q1), .second, .val (.int (128 : Int32))]) rfl ?_
        show Steps p.tables e below (s₁.setTop (mkF m 4 #[.val (.long q1), .second, .val (.int (128 : Int32))] [])) _
        refine XT.lloadN X0.here hx rfl (hb hby d4_4) rfl ?_
        show Steps p.tables e below (s₁.setTop (mkF m 5 #[.val (.long q1), .second, .val (.int (128 : Int32))] [(.long q1)])) _
        refine Jvm.Stand.ldc2J X0 hx hown (mvT hZ (hw _ (List.mem_of_getElem? (i := 24) rfl))) (g := (mkF m 5 #[.val (.long q1), .second, .val (.int (128 : Int32))] [(.long q1)])) rfl (hb hby d4_5) ?_
        show Steps p.tables e below (s₁.setTop (mkF m 8 #[.val (.long q1), .second, .val (.int (128 : Int32))] [(.long (-128 : Int64)), (.long q1)])) _
        refine XT.lcmp X0.here hx rfl (hb hby d4_8) rfl ?_
        show Steps p.tables e below (s₁.setTop (mkF m 9 #[.val (.long q1), .second, .val (.int (128 : Int32))] [(.int (XT.cmpL q1 (-128 : Int64)))])) _
        refine XS.ifNo X0.here hx rfl (hb hby d4_9) rfl (XT.ll_lt_f h1) ?_
        show Steps p.tables e below (s₁.setTop (mkF m 12 #[.val (.long q1), .second, .val (.int (128 : Int32))] [])) _
        refine XT.lloadN X0.here hx rfl (hb hby d4_12) rfl ?_
        show Steps p.tables e below (s₁.setTop (mkF m 13 #[.val (.long q1), .second, .val (.int (128 : Int32))] [(.long q1)])) _
        refine Jvm.Stand.ldc2J X0 hx hown (mvT hZ (hw _ (List.mem_of_getElem? (i := 43) rfl))) (g := (mkF m 13 #[.val (.long q1), .second, .val (.int (128 : Int32))] [(.long q1)])) rfl (hb hby d4_13) ?_
        show Steps p.tables e below (s₁.setTop (mkF m 16 #[.val (.long q1), .second, .val (.int (128 : Int32))] [(.long (127 : Int64)), (.long q1)])) _
        refine XT.lcmp X0.here hx rfl (hb hby d4_16) rfl ?_
        show Steps p.tables e below (s₁.setTop (mkF m 17 #[.val (.long q1), .second, .val (.int (128 : Int32))] [(.int (XT.cmpL q1 (127 : Int64)))])) _
        refine XS.ifYes X0.here hx rfl (pc0 := 17) (pc' := 31) rfl (hb hby d4_17) rfl (XT.ll_gt_t h2) (by decide) (by decide) ?_
        show Steps p.tables e below (s₁.setTop (mkF m 31 #[.val (.long q1), .second, .val (.int (128 : Int32))] [])) _
        refine st20 _ ?_
        show Steps p.tables e below (T20.setTop (mkF m 34 #[.val (.long q1), .second, .val (.int (128 : Int32))] [(.ref b20)])) _
        refine XS.dup X20.here hx rfl (hb hby d4_34) rfl rfl ?_
        show Steps p.tables e below (T20.setTop (mkF m 35 #[.val (.long q1), .second, .val (.int (128 : Int32))] [(.ref b20), (.ref b20)])) _
        refine XT.lloadN X20.here hx rfl (hb hby d4_35) rfl ?_
        show Steps p.tables e below (T20.setTop (mkF m 36 #[.val (.long q1), .second, .val (.int (128 : Int32))] [(.long q1), (.ref b20), (.ref b20)])) _
        refine st21.trans ?_
        show Steps p.tables e below (T21.setTop (mkF m 39 #[.val (.long q1), .second, .val (.int (128 : Int32))] [(.ref b20)])) _
        exact retOut X21 hx (t := (.object "java/lang/Long")) Bd.returns rfl (Or.inr (Or.inr (Or.inr (Or.inr ⟨rfl, rfl, rfl⟩)))) (hb hby d4_39) hr
      · show Q_own_vo Z q1 ac kc fc lf h0 n0 _ T21.heap _
        exact ⟨_, rfl, N21, Kx21, (A20.keep K21)⟩
    · obtain ⟨T22, X22, e22, st22⟩ := getS2 X0 hx hZ hown (host := "") (Or.inl (hw _ (List.mem_of_getElem? (i := 44) rfl))) Via.refl e0 S_c (g := (mkF m 20 #[.val (.long q1), .second, .val (.int (128 : Int32))] [])) rfl (hb hby d4_20)
      obtain ⟨cl23, Ar23, qk23, S23, B23, H23, G23⟩ := id V_c
      have hin23 : ¬ ((q1.toInt32 + (128 : Int32)) < 0 ∨ cl23.slots.size ≤ ((q1.toInt32 + (128 : Int32))).toNatClampNeg) := own_inb S23 (own_cix h1 h2) (own_ci_lt h1 h2)
      have hat23 : cl23.slots[((q1.toInt32 + (128 : Int32))).toNatClampNeg]? = some (.ref (lf (own_ci q1))) := own_hat H23 (own_cix h1 h2) (own_ci_lt h1 h2) (hc _ (own_ci_lt h1 h2))
      obtain ⟨fs, hr, hrun, hended, hW, hsame⟩ := X22.leave (v := some (.ref (lf (own_ci q1)))) (fun h => by rw [Bd.returns] at h; cases h)
      refine ⟨_, _, pre0 _ ?_, hrun, hended, _, _, rfl, ?_, ⟨_, rfl⟩, hW, hsame.mono (by decide) (by decide)⟩
      · show Steps p.tables e below (s₁.setTop (mkF m 0 #[.val (.long q1), .second, .unset] [])) _
        refine XS.sipush X0.here hx rfl (hb hby d4_0) ?_
        show Steps p.tables e below (s₁.setTop (mkF m 3 #[.val (.long q1), .second, .unset] [(.int (128 : Int32))])) _
        refine XS.istoreN X0.here hx rfl (hb hby d4_3) rfl (l' := #[.val (.long q1), .second, .val (.int (128 : Int32))]) rfl ?_
        show Steps p.tables e below (s₁.setTop (mkF m 4 #[.val (.long q1), .second, .val (.int (128 : Int32))] [])) _
        refine XT.lloadN X0.here hx rfl (hb hby d4_4) rfl ?_
        show Steps p.tables e below (s₁.setTop (mkF m 5 #[.val (.long q1), .second, .val (.int (128 : Int32))] [(.long q1)])) _
        refine Jvm.Stand.ldc2J X0 hx hown (mvT hZ (hw _ (List.mem_of_getElem? (i := 24) rfl))) (g := (mkF m 5 #[.val (.long q1), .second, .val (.int (128 : Int32))] [(.long q1)])) rfl (hb hby d4_5) ?_
        show Steps p.tables e below (s₁.setTop (mkF m 8 #[.val (.long q1), .second, .val (.int (128 : Int32))] [(.long (-128 : Int64)), (.long q1)])) _
        refine XT.lcmp X0.here hx rfl (hb hby d4_8) rfl ?_
        show Steps p.tables e below (s₁.setTop (mkF m 9 #[.val (.long q1), .second, .val (.int (128 : Int32))] [(.int (XT.cmpL q1 (-128 : Int64)))])) _
        refine XS.ifNo X0.here hx rfl (hb hby d4_9) rfl (XT.ll_lt_f h1) ?_
        show Steps p.tables e below (s₁.setTop (mkF m 12 #[.val (.long q1), .second, .val (.int (128 : Int32))] [])) _
        refine XT.lloadN X0.here hx rfl (hb hby d4_12) rfl ?_
        show Steps p.tables e below (s₁.setTop (mkF m 13 #[.val (.long q1), .second, .val (.int (128 : Int32))] [(.long q1)])) _
        refine Jvm.Stand.ldc2J X0 hx hown (mvT hZ (hw _ (List.mem_of_getElem? (i := 43) rfl))) (g := (mkF m 13 #[.val (.long q1), .second, .val (.int (128 : Int32))] [(.long q1)])) rfl (hb hby d4_13) ?_
        show Steps p.tables e below (s₁.setTop (mkF m 16 #[.val (.long q1), .second, .val (.int (128 : Int32))] [(.long (127 : Int64)), (.long q1)])) _
        refine XT.lcmp X0.here hx rfl (hb hby d4_16) rfl ?_
        show Steps p.tables e below (s₁.setTop (mkF m 17 #[.val (.long q1), .second, .val (.int (128 : Int32))] [(.int (XT.cmpL q1 (127 : Int64)))])) _
        refine XS.ifNo X0.here hx rfl (hb hby d4_17) rfl (XT.ll_gt_f h2) ?_
        show Steps p.tables e below (s₁.setTop (mkF m 20 #[.val (.long q1), .second, .val (.int (128 : Int32))] [])) _
        refine st22 _ ?_
        show Steps p.tables e below (T22.setTop (mkF m 23 #[.val (.long q1), .second, .val (.int (128 : Int32))] [(.ref ac)])) _
        refine XT.lloadN X22.here hx rfl (hb hby d4_23) rfl ?_
        show Steps p.tables e below (T22.setTop (mkF m 24 #[.val (.long q1), .second, .val (.int (128 : Int32))] [(.long q1), (.ref ac)])) _
        refine XT.l2i X22.here hx rfl (hb hby d4_24) rfl ?_
        show Steps p.tables e below (T22.setTop (mkF m 25 #[.val (.long q1), .second, .val (.int (128 : Int32))] [(.int q1.toInt32), (.ref ac)])) _
        refine XS.sipush X22.here hx rfl (hb hby d4_25) ?_
        show Steps p.tables e below (T22.setTop (mkF m 28 #[.val (.long q1), .second, .val (.int (128 : Int32))] [(.int (128 : Int32)), (.int q1.toInt32), (.ref ac)])) _
        refine XS.iadd X22.here hx rfl (hb hby d4_28) rfl ?_
        show Steps p.tables e below (T22.setTop (mkF m 29 #[.val (.long q1), .second, .val (.int (128 : Int32))] [(.int (q1.toInt32 + (128 : Int32))), (.ref ac)])) _
        refine X22.aaload hx (j := (q1.toInt32 + (128 : Int32))) (v := (.ref (lf (own_ci q1)))) (by rw [e22]; exact Ar23.1) (State.isArrayOf_alike hZ.alike Ar23.2.1) rfl Ar23.2.2 hin23 hat23 (g := (mkF m 29 #[.val (.long q1), .second, .val (.int (128 : Int32))] [(.int (q1.toInt32 + (128 : Int32))), (.ref ac)])) rfl rfl (hb hby d4_29) _ ?_
        show Steps p.tables e below (T22.setTop (mkF m 30 #[.val (.long q1), .second, .val (.int (128 : Int32))] [(.ref (lf (own_ci q1)))])) _
        exact retOut X22 hx (t := (.object "java/lang/Long")) Bd.returns rfl (Or.inr (Or.inr (Or.inr (Or.inr ⟨rfl, rfl, rfl⟩)))) (hb hby d4_30) hr
      · show Q_own_vo Z q1 ac kc fc lf h0 n0 _ T22.heap _
        rw [e22]
        exact ⟨_, rfl, N0, (Keep.refl h0 []), HE _ (own_ci_lt h1 h2)⟩
set_option maxRecDepth 65536 in
set_option maxHeartbeats 40000000 in
theorem own_s1 {p : Program} {l : Launch} {e : Env} {s : State} {m : MethodId} {args : Array Value} {below : List Frame} {meth : Method} {c : Code} {T : State} {locs : List Loc} {Z : State} {a0 : Array Value} {h : Heap} {n0 : Nat} (hw : ∀ d ∈ tables_1, d.before a0 Z = true) (X : Stand p l e room_1 s m args below meth c T locs 0 0) (hx : p.tables.exec = Jvm.exec) (hZ : Z.Warmed39 s.vm) (hby : c.code = code) (hml : c.maxLocals = 19) (hown : s.vm.findClass "com/example/madingley/madingley/capability/CapabilityEqualsPinLaw" = some m.cls) (eT : T.heap = h) (N : Fr n0 locs) (Z0 : n0 ≤ h.size) (q1 q2 q3 q4 : Int64) (p4 : Int32)  :
    ∃ T' L', Stand p l e room_1 s m args below meth c T' L' 0 0 ∧ T'.heap = h ∧ Fr n0 L' ∧ ∀ target, Steps p.tables e below (T'.setTop (mkF m 13 #[.val (.long q1), .second, .val (.long q2), .second, .val (.long q3), .second, .val (.long q4), .second, .val (.int p4), .unset, .unset, .unset, .unset, .unset, .unset, .unset, .unset, .unset, .unset] [(.long (if (p4 &&& (1 : Int32)) = 0 then q3 else q1))])) target → Steps p.tables e below (T.setTop (mkF m 0 #[.val (.long q1), .second, .val (.long q2), .second, .val (.long q3), .second, .val (.long q4), .second, .val (.int p4), .unset, .unset, .unset, .unset, .unset, .unset, .unset, .unset, .unset, .unset] [])) target := by
  by_cases hb_ : (p4 &&& (1 : Int32)) = 0
  · refine ⟨T, _, X, eT, N, fun target k => ?_⟩
    rw [if_pos hb_] at k
    show Steps p.tables e below (T.setTop (mkF m 0 #[.val (.long q1), .second, .val (.long q2), .second, .val (.long q3), .second, .val (.long q4), .second, .val (.int p4), .unset, .unset, .unset, .unset, .unset, .unset, .unset, .unset, .unset, .unset] [])) _
    refine XS.iload X.here hx rfl (hb hby at_0) rfl ?_
    show Steps p.tables e below (T.setTop (mkF m 2 #[.val (.long q1), .second, .val (.long q2), .second, .val (.long q3), .second, .val (.long q4), .second, .val (.int p4), .unset, .unset, .unset, .unset, .unset, .unset, .unset, .unset, .unset, .unset] [(.int p4)])) _
    refine XS.iconst X.here hx rfl (hb hby at_2) ?_
    show Steps p.tables e below (T.setTop (mkF m 3 #[.val (.long q1), .second, .val (.long q2), .second, .val (.long q3), .second, .val (.long q4), .second, .val (.int p4), .unset, .unset, .unset, .unset, .unset, .unset, .unset, .unset, .unset, .unset] [(.int (1 : Int32)), (.int p4)])) _
    refine XS.iand X.here hx rfl (hb hby at_3) rfl ?_
    show Steps p.tables e below (T.setTop (mkF m 4 #[.val (.long q1), .second, .val (.long q2), .second, .val (.long q3), .second, .val (.long q4), .second, .val (.int p4), .unset, .unset, .unset, .unset, .unset, .unset, .unset, .unset, .unset, .unset] [(.int (p4 &&& (1 : Int32)))])) _
    refine XS.ifYes X.here hx rfl (pc0 := 4) (pc' := 11) rfl (hb hby at_4) rfl (XT.i0_eq_t hb_) (by decide) (by decide) ?_
    show Steps p.tables e below (T.setTop (mkF m 11 #[.val (.long q1), .second, .val (.long q2), .second, .val (.long q3), .second, .val (.long q4), .second, .val (.int p4), .unset, .unset, .unset, .unset, .unset, .unset, .unset, .unset, .unset, .unset] [])) _
    refine XT.lload X.here hx rfl (hb hby at_11) rfl ?_
    show Steps p.tables e below (T.setTop (mkF m 13 #[.val (.long q1), .second, .val (.long q2), .second, .val (.long q3), .second, .val (.long q4), .second, .val (.int p4), .unset, .unset, .unset, .unset, .unset, .unset, .unset, .unset, .unset, .unset] [(.long q3)])) _
    exact k
  · refine ⟨T, _, X, eT, N, fun target k => ?_⟩
    rw [if_neg hb_] at k
    show Steps p.tables e below (T.setTop (mkF m 0 #[.val (.long q1), .second, .val (.long q2), .second, .val (.long q3), .second, .val (.long q4), .second, .val (.int p4), .unset, .unset, .unset, .unset, .unset, .unset, .unset, .unset, .unset, .unset] [])) _
    refine XS.iload X.here hx rfl (hb hby at_0) rfl ?_
    show Steps p.tables e below (T.setTop (mkF m 2 #[.val (.long q1), .second, .val (.long q2), .second, .val (.long q3), .second, .val (.long q4), .second, .val (.int p4), .unset, .unset, .unset, .unset, .unset, .unset, .unset, .unset, .unset, .unset] [(.int p4)])) _
    refine XS.iconst X.here hx rfl (hb hby at_2) ?_
    show Steps p.tables e below (T.setTop (mkF m 3 #[.val (.long q1), .second, .val (.long q2), .second, .val (.long q3), .second, .val (.long q4), .second, .val (.int p4), .unset, .unset, .unset, .unset, .unset, .unset, .unset, .unset, .unset, .unset] [(.int (1 : Int32)), (.int p4)])) _
    refine XS.iand X.here hx rfl (hb hby at_3) rfl ?_
    show Steps p.tables e below (T.setTop (mkF m 4 #[.val (.long q1), .second, .val (.long q2), .second, .val (.long q3), .second, .val (.long q4), .second, .val (.int p4), .unset, .unset, .unset, .unset, .unset, .unset, .unset, .unset, .unset, .unset] [(.int (p4 &&& (1 : Int32)))])) _
    refine XS.ifNo X.here hx rfl (hb hby at_4) rfl (XT.i0_eq_f hb_) ?_
    show Steps p.tables e below (T.setTop (mkF m 7 #[.val (.long q1), .second, .val (.long q2), .second, .val (.long q3), .second, .val (.long q4), .second, .val (.int p4), .unset, .unset, .unset, .unset, .unset, .unset, .unset, .unset, .unset, .unset] [])) _
    refine XT.lloadN X.here hx rfl (hb hby at_7) rfl ?_
    show Steps p.tables e below (T.setTop (mkF m 8 #[.val (.long q1), .second, .val (.long q2), .second, .val (.long q3), .second, .val (.long q4), .second, .val (.int p4), .unset, .unset, .unset, .unset, .unset, .unset, .unset, .unset, .unset, .unset] [(.long q1)])) _
    refine XS.goto X.here hx rfl (pc0 := 8) (pc' := 13) rfl (hb hby at_8) (by decide) (by decide) ?_
    show Steps p.tables e below (T.setTop (mkF m 13 #[.val (.long q1), .second, .val (.long q2), .second, .val (.long q3), .second, .val (.long q4), .second, .val (.int p4), .unset, .unset, .unset, .unset, .unset, .unset, .unset, .unset, .unset, .unset] [(.long q1)])) _
    exact k
set_option maxRecDepth 65536 in
set_option maxHeartbeats 40000000 in
theorem own_s2 {p : Program} {l : Launch} {e : Env} {s : State} {m : MethodId} {args : Array Value} {below : List Frame} {meth : Method} {c : Code} {T : State} {locs : List Loc} {Z : State} {a0 : Array Value} {h : Heap} {n0 : Nat} (hw : ∀ d ∈ tables_1, d.before a0 Z = true) (X : Stand p l e room_1 s m args below meth c T locs 0 0) (hx : p.tables.exec = Jvm.exec) (hZ : Z.Warmed39 s.vm) (hby : c.code = code) (hml : c.maxLocals = 19) (hown : s.vm.findClass "com/example/madingley/madingley/capability/CapabilityEqualsPinLaw" = some m.cls) (eT : T.heap = h) (N : Fr n0 locs) (Z0 : n0 ≤ h.size) (q1 q2 q3 q4 : Int64) (p4 : Int32) (m2 : Int64)  :
    ∃ T' L', Stand p l e room_1 s m args below meth c T' L' 0 0 ∧ T'.heap = h ∧ Fr n0 L' ∧ ∀ target, Steps p.tables e below (T'.setTop (mkF m 28 #[.val (.long q1), .second, .val (.long q2), .second, .val (.long q3), .second, .val (.long q4), .second, .val (.int p4), .val (.long m2), .second, .unset, .unset, .unset, .unset, .unset, .unset, .unset, .unset] [(.long (if (p4 &&& (2 : Int32)) = 0 then q4 else q2))])) target → Steps p.tables e below (T.setTop (mkF m 15 #[.val (.long q1), .second, .val (.long q2), .second, .val (.long q3), .second, .val (.long q4), .second, .val (.int p4), .val (.long m2), .second, .unset, .unset, .unset, .unset, .unset, .unset, .unset, .unset] [])) target := by
  by_cases hb_ : (p4 &&& (2 : Int32)) = 0
  · refine ⟨T, _, X, eT, N, fun target k => ?_⟩
    rw [if_pos hb_] at k
    show Steps p.tables e below (T.setTop (mkF m 15 #[.val (.long q1), .second, .val (.long q2), .second, .val (.long q3), .second, .val (.long q4), .second, .val (.int p4), .val (.long m2), .second, .unset, .unset, .unset, .unset, .unset, .unset, .unset, .unset] [])) _
    refine XS.iload X.here hx rfl (hb hby at_15) rfl ?_
    show Steps p.tables e below (T.setTop (mkF m 17 #[.val (.long q1), .second, .val (.long q2), .second, .val (.long q3), .second, .val (.long q4), .second, .val (.int p4), .val (.long m2), .second, .unset, .unset, .unset, .unset, .unset, .unset, .unset, .unset] [(.int p4)])) _
    refine XS.iconst X.here hx rfl (hb hby at_17) ?_
    show Steps p.tables e below (T.setTop (mkF m 18 #[.val (.long q1), .second, .val (.long q2), .second, .val (.long q3), .second, .val (.long q4), .second, .val (.int p4), .val (.long m2), .second, .unset, .unset, .unset, .unset, .unset, .unset, .unset, .unset] [(.int (2 : Int32)), (.int p4)])) _
    refine XS.iand X.here hx rfl (hb hby at_18) rfl ?_
    show Steps p.tables e below (T.setTop (mkF m 19 #[.val (.long q1), .second, .val (.long q2), .second, .val (.long q3), .second, .val (.long q4), .second, .val (.int p4), .val (.long m2), .second, .unset, .unset, .unset, .unset, .unset, .unset, .unset, .unset] [(.int (p4 &&& (2 : Int32)))])) _
    refine XS.ifYes X.here hx rfl (pc0 := 19) (pc' := 26) rfl (hb hby at_19) rfl (XT.i0_eq_t hb_) (by decide) (by decide) ?_
    show Steps p.tables e below (T.setTop (mkF m 26 #[.val (.long q1), .second, .val (.long q2), .second, .val (.long q3), .second, .val (.long q4), .second, .val (.int p4), .val (.long m2), .second, .unset, .unset, .unset, .unset, .unset, .unset, .unset, .unset] [])) _
    refine XT.lload X.here hx rfl (hb hby at_26) rfl ?_
    show Steps p.tables e below (T.setTop (mkF m 28 #[.val (.long q1), .second, .val (.long q2), .second, .val (.long q3), .second, .val (.long q4), .second, .val (.int p4), .val (.long m2), .second, .unset, .unset, .unset, .unset, .unset, .unset, .unset, .unset] [(.long q4)])) _
    exact k
  · refine ⟨T, _, X, eT, N, fun target k => ?_⟩
    rw [if_neg hb_] at k
    show Steps p.tables e below (T.setTop (mkF m 15 #[.val (.long q1), .second, .val (.long q2), .second, .val (.long q3), .second, .val (.long q4), .second, .val (.int p4), .val (.long m2), .second, .unset, .unset, .unset, .unset, .unset, .unset, .unset, .unset] [])) _
    refine XS.iload X.here hx rfl (hb hby at_15) rfl ?_
    show Steps p.tables e below (T.setTop (mkF m 17 #[.val (.long q1), .second, .val (.long q2), .second, .val (.long q3), .second, .val (.long q4), .second, .val (.int p4), .val (.long m2), .second, .unset, .unset, .unset, .unset, .unset, .unset, .unset, .unset] [(.int p4)])) _
    refine XS.iconst X.here hx rfl (hb hby at_17) ?_
    show Steps p.tables e below (T.setTop (mkF m 18 #[.val (.long q1), .second, .val (.long q2), .second, .val (.long q3), .second, .val (.long q4), .second, .val (.int p4), .val (.long m2), .second, .unset, .unset, .unset, .unset, .unset, .unset, .unset, .unset] [(.int (2 : Int32)), (.int p4)])) _
    refine XS.iand X.here hx rfl (hb hby at_18) rfl ?_
    show Steps p.tables e below (T.setTop (mkF m 19 #[.val (.long q1), .second, .val (.long q2), .second, .val (.long q3), .second, .val (.long q4), .second, .val (.int p4), .val (.long m2), .second, .unset, .unset, .unset, .unset, .unset, .unset, .unset, .unset] [(.int (p4 &&& (2 : Int32)))])) _
    refine XS.ifNo X.here hx rfl (hb hby at_19) rfl (XT.i0_eq_f hb_) ?_
    show Steps p.tables e below (T.setTop (mkF m 22 #[.val (.long q1), .second, .val (.long q2), .second, .val (.long q3), .second, .val (.long q4), .second, .val (.int p4), .val (.long m2), .second, .unset, .unset, .unset, .unset, .unset, .unset, .unset, .unset] [])) _
    refine XT.lloadN X.here hx rfl (hb hby at_22) rfl ?_
    show Steps p.tables e below (T.setTop (mkF m 23 #[.val (.long q1), .second, .val (.long q2), .second, .val (.long q3), .second, .val (.long q4), .second, .val (.int p4), .val (.long m2), .second, .unset, .unset, .unset, .unset, .unset, .unset, .unset, .unset] [(.long q2)])) _
    refine XS.goto X.here hx rfl (pc0 := 23) (pc' := 28) rfl (hb hby at_23) (by decide) (by decide) ?_
    show Steps p.tables e below (T.setTop (mkF m 28 #[.val (.long q1), .second, .val (.long q2), .second, .val (.long q3), .second, .val (.long q4), .second, .val (.int p4), .val (.long m2), .second, .unset, .unset, .unset, .unset, .unset, .unset, .unset, .unset] [(.long q2)])) _
    exact k
set_option maxRecDepth 65536 in
set_option maxHeartbeats 40000000 in
theorem own_s3 {p : Program} {l : Launch} {e : Env} {s : State} {m : MethodId} {args : Array Value} {below : List Frame} {meth : Method} {c : Code} {T : State} {locs : List Loc} {Z : State} {a0 : Array Value} {h : Heap} {n0 : Nat} (hw : ∀ d ∈ tables_1, d.before a0 Z = true) (X : Stand p l e room_1 s m args below meth c T locs 2 4) (hx : p.tables.exec = Jvm.exec) (hZ : Z.Warmed39 s.vm) (hby : c.code = code) (hml : c.maxLocals = 19) (hown : s.vm.findClass "com/example/madingley/madingley/capability/CapabilityEqualsPinLaw" = some m.cls) (eT : T.heap = h) (N : Fr n0 locs) (Z0 : n0 ≤ h.size) (q1 q2 q3 q4 : Int64) (p4 : Int32) (m2 a2 : Int64) (kd : Int32) (oc od : Addr)  :
    ∃ T' L', Stand p l e room_1 s m args below meth c T' L' 2 4 ∧ T'.heap = h ∧ Fr n0 L' ∧ ∀ target, Steps p.tables e below (T'.setTop (mkF m 81 #[.val (.long q1), .second, .val (.long q2), .second, .val (.long q3), .second, .val (.long q4), .second, .val (.int p4), .val (.long m2), .second, .val (.long a2), .second, .val (.int kd), .val (.ref oc), .val (.ref od), .unset, .unset, .unset] [(.int (if (q1 = m2 ∧ q2 = a2) then (1 : Int32) else (0 : Int32)))])) target → Steps p.tables e below (T.setTop (mkF m 62 #[.val (.long q1), .second, .val (.long q2), .second, .val (.long q3), .second, .val (.long q4), .second, .val (.int p4), .val (.long m2), .second, .val (.long a2), .second, .val (.int kd), .val (.ref oc), .val (.ref od), .unset, .unset, .unset] [])) target := by
  by_cases h1 : q1 = m2
  · by_cases h2 : q2 = a2
    · refine ⟨T, _, X, eT, N, fun target k => ?_⟩
      rw [if_pos ⟨h1, h2⟩] at k
      show Steps p.tables e below (T.setTop (mkF m 62 #[.val (.long q1), .second, .val (.long q2), .second, .val (.long q3), .second, .val (.long q4), .second, .val (.int p4), .val (.long m2), .second, .val (.long a2), .second, .val (.int kd), .val (.ref oc), .val (.ref od), .unset, .unset, .unset] [])) _
      refine XT.lloadN X.here hx rfl (hb hby at_62) rfl ?_
      show Steps p.tables e below (T.setTop (mkF m 63 #[.val (.long q1), .second, .val (.long q2), .second, .val (.long q3), .second, .val (.long q4), .second, .val (.int p4), .val (.long m2), .second, .val (.long a2), .second, .val (.int kd), .val (.ref oc), .val (.ref od), .unset, .unset, .unset] [(.long q1)])) _
      refine XT.lload X.here hx rfl (hb hby at_63) rfl ?_
      show Steps p.tables e below (T.setTop (mkF m 65 #[.val (.long q1), .second, .val (.long q2), .second, .val (.long q3), .second, .val (.long q4), .second, .val (.int p4), .val (.long m2), .second, .val (.long a2), .second, .val (.int kd), .val (.ref oc), .val (.ref od), .unset, .unset, .unset] [(.long m2), (.long q1)])) _
      refine XT.lcmp X.here hx rfl (hb hby at_65) rfl ?_
      show Steps p.tables e below (T.setTop (mkF m 66 #[.val (.long q1), .second, .val (.long q2), .second, .val (.long q3), .second, .val (.long q4), .second, .val (.int p4), .val (.long m2), .second, .val (.long a2), .second, .val (.int kd), .val (.ref oc), .val (.ref od), .unset, .unset, .unset] [(.int (XT.cmpL q1 m2))])) _
      refine XS.ifNo X.here hx rfl (hb hby at_66) rfl (XT.ll_ne_f h1) ?_
      show Steps p.tables e below (T.setTop (mkF m 69 #[.val (.long q1), .second, .val (.long q2), .second, .val (.long q3), .second, .val (.long q4), .second, .val (.int p4), .val (.long m2), .second, .val (.long a2), .second, .val (.int kd), .val (.ref oc), .val (.ref od), .unset, .unset, .unset] [])) _
      refine XT.lloadN X.here hx rfl (hb hby at_69) rfl ?_
      show Steps p.tables e below (T.setTop (mkF m 70 #[.val (.long q1), .second, .val (.long q2), .second, .val (.long q3), .second, .val (.long q4), .second, .val (.int p4), .val (.long m2), .second, .val (.long a2), .second, .val (.int kd), .val (.ref oc), .val (.ref od), .unset, .unset, .unset] [(.long q2)])) _
      refine XT.lload X.here hx rfl (hb hby at_70) rfl ?_
      show Steps p.tables e below (T.setTop (mkF m 72 #[.val (.long q1), .second, .val (.long q2), .second, .val (.long q3), .second, .val (.long q4), .second, .val (.int p4), .val (.long m2), .second, .val (.long a2), .second, .val (.int kd), .val (.ref oc), .val (.ref od), .unset, .unset, .unset] [(.long a2), (.long q2)])) _
      refine XT.lcmp X.here hx rfl (hb hby at_72) rfl ?_
      show Steps p.tables e below (T.setTop (mkF m 73 #[.val (.long q1), .second, .val (.long q2), .second, .val (.long q3), .second, .val (.long q4), .second, .val (.int p4), .val (.long m2), .second, .val (.long a2), .second, .val (.int kd), .val (.ref oc), .val (.ref od), .unset, .unset, .unset] [(.int (XT.cmpL q2 a2))])) _
      refine XS.ifNo X.here hx rfl (hb hby at_73) rfl (XT.ll_ne_f h2) ?_
      show Steps p.tables e below (T.setTop (mkF m 76 #[.val (.long q1), .second, .val (.long q2), .second, .val (.long q3), .second, .val (.long q4), .second, .val (.int p4), .val (.long m2), .second, .val (.long a2), .second, .val (.int kd), .val (.ref oc), .val (.ref od), .unset, .unset, .unset] [])) _
      refine XS.iconst X.here hx rfl (hb hby at_76) ?_
      show Steps p.tables e below (T.setTop (mkF m 77 #[.val (.long q1), .second, .val (.long q2), .second, .val (.long q3), .second, .val (.long q4), .second, .val (.int p4), .val (.long m2), .second, .val (.long a2), .second, .val (.int kd), .val (.ref oc), .val (.ref od), .unset, .unset, .unset] [(.int (1 : Int32))])) _
      refine XS.goto X.here hx rfl (pc0 := 77) (pc' := 81) rfl (hb hby at_77) (by decide) (by decide) ?_
      show Steps p.tables e below (T.setTop (mkF m 81 #[.val (.long q1), .second, .val (.long q2), .second, .val (.long q3), .second, .val (.long q4), .second, .val (.int p4), .val (.long m2), .second, .val (.long a2), .second, .val (.int kd), .val (.ref oc), .val (.ref od), .unset, .unset, .unset] [(.int (1 : Int32))])) _
      exact k
    · refine ⟨T, _, X, eT, N, fun target k => ?_⟩
      rw [if_neg (fun q => h2 q.2)] at k
      show Steps p.tables e below (T.setTop (mkF m 62 #[.val (.long q1), .second, .val (.long q2), .second, .val (.long q3), .second, .val (.long q4), .second, .val (.int p4), .val (.long m2), .second, .val (.long a2), .second, .val (.int kd), .val (.ref oc), .val (.ref od), .unset, .unset, .unset] [])) _
      refine XT.lloadN X.here hx rfl (hb hby at_62) rfl ?_
      show Steps p.tables e below (T.setTop (mkF m 63 #[.val (.long q1), .second, .val (.long q2), .second, .val (.long q3), .second, .val (.long q4), .second, .val (.int p4), .val (.long m2), .second, .val (.long a2), .second, .val (.int kd), .val (.ref oc), .val (.ref od), .unset, .unset, .unset] [(.long q1)])) _
      refine XT.lload X.here hx rfl (hb hby at_63) rfl ?_
      show Steps p.tables e below (T.setTop (mkF m 65 #[.val (.long q1), .second, .val (.long q2), .second, .val (.long q3), .second, .val (.long q4), .second, .val (.int p4), .val (.long m2), .second, .val (.long a2), .second, .val (.int kd), .val (.ref oc), .val (.ref od), .unset, .unset, .unset] [(.long m2), (.long q1)])) _
      refine XT.lcmp X.here hx rfl (hb hby at_65) rfl ?_
      show Steps p.tables e below (T.setTop (mkF m 66 #[.val (.long q1), .second, .val (.long q2), .second, .val (.long q3), .second, .val (.long q4), .second, .val (.int p4), .val (.long m2), .second, .val (.long a2), .second, .val (.int kd), .val (.ref oc), .val (.ref od), .unset, .unset, .unset] [(.int (XT.cmpL q1 m2))])) _
      refine XS.ifNo X.here hx rfl (hb hby at_66) rfl (XT.ll_ne_f h1) ?_
      show Steps p.tables e below (T.setTop (mkF m 69 #[.val (.long q1), .second, .val (.long q2), .second, .val (.long q3), .second, .val (.long q4), .second, .val (.int p4), .val (.long m2), .second, .val (.long a2), .second, .val (.int kd), .val (.ref oc), .val (.ref od), .unset, .unset, .unset] [])) _
      refine XT.lloadN X.here hx rfl (hb hby at_69) rfl ?_
      show Steps p.tables e below (T.setTop (mkF m 70 #[.val (.long q1), .second, .val (.long q2), .second, .val (.long q3), .second, .val (.long q4), .second, .val (.int p4), .val (.long m2), .second, .val (.long a2), .second, .val (.int kd), .val (.ref oc), .val (.ref od), .unset, .unset, .unset] [(.long q2)])) _
      refine XT.lload X.here hx rfl (hb hby at_70) rfl ?_
      show Steps p.tables e below (T.setTop (mkF m 72 #[.val (.long q1), .second, .val (.long q2), .second, .val (.long q3), .second, .val (.long q4), .second, .val (.int p4), .val (.long m2), .second, .val (.long a2), .second, .val (.int kd), .val (.ref oc), .val (.ref od), .unset, .unset, .unset] [(.long a2), (.long q2)])) _
      refine XT.lcmp X.here hx rfl (hb hby at_72) rfl ?_
      show Steps p.tables e below (T.setTop (mkF m 73 #[.val (.long q1), .second, .val (.long q2), .second, .val (.long q3), .second, .val (.long q4), .second, .val (.int p4), .val (.long m2), .second, .val (.long a2), .second, .val (.int kd), .val (.ref oc), .val (.ref od), .unset, .unset, .unset] [(.int (XT.cmpL q2 a2))])) _
      refine XS.ifYes X.here hx rfl (pc0 := 73) (pc' := 80) rfl (hb hby at_73) rfl (XT.ll_ne_t h2) (by decide) (by decide) ?_
      show Steps p.tables e below (T.setTop (mkF m 80 #[.val (.long q1), .second, .val (.long q2), .second, .val (.long q3), .second, .val (.long q4), .second, .val (.int p4), .val (.long m2), .second, .val (.long a2), .second, .val (.int kd), .val (.ref oc), .val (.ref od), .unset, .unset, .unset] [])) _
      refine XS.iconst X.here hx rfl (hb hby at_80) ?_
      show Steps p.tables e below (T.setTop (mkF m 81 #[.val (.long q1), .second, .val (.long q2), .second, .val (.long q3), .second, .val (.long q4), .second, .val (.int p4), .val (.long m2), .second, .val (.long a2), .second, .val (.int kd), .val (.ref oc), .val (.ref od), .unset, .unset, .unset] [(.int (0 : Int32))])) _
      exact k
  · refine ⟨T, _, X, eT, N, fun target k => ?_⟩
    rw [if_neg (fun q => h1 q.1)] at k
    show Steps p.tables e below (T.setTop (mkF m 62 #[.val (.long q1), .second, .val (.long q2), .second, .val (.long q3), .second, .val (.long q4), .second, .val (.int p4), .val (.long m2), .second, .val (.long a2), .second, .val (.int kd), .val (.ref oc), .val (.ref od), .unset, .unset, .unset] [])) _
    refine XT.lloadN X.here hx rfl (hb hby at_62) rfl ?_
    show Steps p.tables e below (T.setTop (mkF m 63 #[.val (.long q1), .second, .val (.long q2), .second, .val (.long q3), .second, .val (.long q4), .second, .val (.int p4), .val (.long m2), .second, .val (.long a2), .second, .val (.int kd), .val (.ref oc), .val (.ref od), .unset, .unset, .unset] [(.long q1)])) _
    refine XT.lload X.here hx rfl (hb hby at_63) rfl ?_
    show Steps p.tables e below (T.setTop (mkF m 65 #[.val (.long q1), .second, .val (.long q2), .second, .val (.long q3), .second, .val (.long q4), .second, .val (.int p4), .val (.long m2), .second, .val (.long a2), .second, .val (.int kd), .val (.ref oc), .val (.ref od), .unset, .unset, .unset] [(.long m2), (.long q1)])) _
    refine XT.lcmp X.here hx rfl (hb hby at_65) rfl ?_
    show Steps p.tables e below (T.setTop (mkF m 66 #[.val (.long q1), .second, .val (.long q2), .second, .val (.long q3), .second, .val (.long q4), .second, .val (.int p4), .val (.long m2), .second, .val (.long a2), .second, .val (.int kd), .val (.ref oc), .val (.ref od), .unset, .unset, .unset] [(.int (XT.cmpL q1 m2))])) _
    refine XS.ifYes X.here hx rfl (pc0 := 66) (pc' := 80) rfl (hb hby at_66) rfl (XT.ll_ne_t h1) (by decide) (by decide) ?_
    show Steps p.tables e below (T.setTop (mkF m 80 #[.val (.long q1), .second, .val (.long q2), .second, .val (.long q3), .second, .val (.long q4), .second, .val (.int p4), .val (.long m2), .second, .val (.long a2), .second, .val (.int kd), .val (.ref oc), .val (.ref od), .unset, .unset, .unset] [])) _
    refine XS.iconst X.here hx rfl (hb hby at_80) ?_
    show Steps p.tables e below (T.setTop (mkF m 81 #[.val (.long q1), .second, .val (.long q2), .second, .val (.long q3), .second, .val (.long q4), .second, .val (.int p4), .val (.long m2), .second, .val (.long a2), .second, .val (.int kd), .val (.ref oc), .val (.ref od), .unset, .unset, .unset] [(.int (0 : Int32))])) _
    exact k
theorem own_sym (q1 q2 m2 a2 : Int64) : (if (m2 = q1 ∧ a2 = q2) then (1 : Int32) else (0 : Int32)) = (if (q1 = m2 ∧ q2 = a2) then (1 : Int32) else (0 : Int32)) := by
  have h : (m2 = q1 ∧ a2 = q2) ↔ (q1 = m2 ∧ q2 = a2) := ⟨fun q => ⟨q.1.symm, q.2.symm⟩, fun q => ⟨q.1.symm, q.2.symm⟩⟩
  simp only [h]
theorem pn_own_law : plainName "com/example/madingley/madingley/capability/CapabilityEqualsPinLaw" = true := by first | (simp [plainName, overriddenIn]; done) | decide +kernel
theorem ef_own_law (m : MethodId) (x0 : Int64) (x1 : Int64) (x2 : Int64) (x3 : Int64) (x4 : Int32) : entryFrame m #[(.long x0), (.long x1), (.long x2), (.long x3), (.int x4)] maxLocals = mkF m 0 #[.val (.long x0), .second, .val (.long x1), .second, .val (.long x2), .second, .val (.long x3), .second, .val (.int x4), .unset, .unset, .unset, .unset, .unset, .unset, .unset, .unset, .unset, .unset] [] := by first | (simp [entryFrame, mkF, argsToLocals, Value.category, maxLocals]; done) | rfl
def Q_own_law (Z : State) (q1 : Int64) (q2 : Int64) (q3 : Int64) (q4 : Int64) (p4 : Int32) (m2 : Int64) (a2 : Int64) (ac : Addr) (kc : ClassId) (fc : Nat → Value) (lf : Nat → Addr) (h0 : Heap) (n0 : Nat) (v : Option Value) (h : Heap) (L : List Loc) : Prop := v = some (.int 1) ∧ Fr n0 L
set_option maxRecDepth 65536 in
set_option maxHeartbeats 40000000 in
theorem own_law (l : Launch) (Z : State) (a0 : Array Value) (hw : ∀ d ∈ tables_1, d.before a0 Z = true) (ws : List Jvm.Cond) (q1 : Int64) (q2 : Int64) (q3 : Int64) (q4 : Int64) (p4 : Int32) (m2 : Int64) (a2 : Int64) (ac : Addr) (kc : ClassId) (fc : Nat → Value) (lf : Nat → Addr) (h0 : Heap) (n0 : Nat) (Z0 : n0 ≤ h0.size) (hm2 : (if (p4 &&& (1 : Int32)) = 0 then q3 else q1) = m2) (ha2 : (if (p4 &&& (2 : Int32)) = 0 then q4 else q2) = a2) (O0 : Old Z n0 h0) (S_c : Sta Z Z.heap "java/lang/Long$LongCache" "cache" "[Ljava/lang/Long;" (.ref ac)) (V_c : Arf Z Z.heap ac kc (.object "java/lang/Long") 256 fc) (hc : ∀ j, j < 256 → fc j = .ref (lf j)) (HE : ∀ j, j < 256 → Exa Z Z.heap (lf j) "java/lang/Long") :
    MetFree l x (head1 (Jvm.Cond.code x code maxLocals ret :: ws) room_1) (fun a U => a = #[(.long q1), (.long q2), (.long q3), (.long q4), (.int p4)] ∧ Z.Warmed39 U.vm ∧ U.heap = h0) (fun _ _ _ _ _ => True) (fun _ U o U' => ∃ v L, o = .returned v ∧ Q_own_law Z q1 q2 q3 q4 p4 m2 a2 ac kc fc lf h0 n0 v U'.heap L ∧ FrameEnd U o U' L 16 128) := by
  refine MetFree.of_bodySF (plainFor_of_name pn_own_law) hisR ?_
  intro p e s m args below meth c s₁ Bd hml0 hP hK
  obtain ⟨rfl, hZ, hh⟩ := hP
  have hx := Bd.exec
  have hby := Bd.bytes
  have hml : c.maxLocals = 19 := hml0
  have hown : s.vm.findClass "com/example/madingley/madingley/capability/CapabilityEqualsPinLaw" = some m.cls := findClass_of_methodNamed Bd.named
  have hnm := (name_of_methodNamed Bd.named Bd.method).1
  have X0 : Stand p l e room_1 s m #[(.long q1), (.long q2), (.long q3), (.long q4), (.int p4)] below meth c s₁ [] 0 0 := Stand.of_body Bd
  have e0 : s₁.heap = h0 := by rw [← hh, Bd.state]; rfl
  have N0 := Fr.nil n0
  have pre0 : ∀ t, Steps p.tables e below (s₁.setTop (mkF m 0 #[.val (.long q1), .second, .val (.long q2), .second, .val (.long q3), .second, .val (.long q4), .second, .val (.int p4), .unset, .unset, .unset, .unset, .unset, .unset, .unset, .unset, .unset, .unset] [])) t → Steps p.tables e below (s₁.setTop (entryFrame m #[(.long q1), (.long q2), (.long q3), (.long q4), (.int p4)] maxLocals)) t := fun t k => castTop (ef_own_law m (q1) (q2) (q3) (q4) (p4)) k
  obtain ⟨T28, L28, X28, e28, N28, st28⟩ := own_s1 hw X0 hx hZ hby hml hown e0 N0 Z0 q1 q2 q3 q4 p4
  obtain ⟨T29, L29, X29, e29, N29, st29⟩ := own_s2 hw X28 hx hZ hby hml hown e28 N28 Z0 q1 q2 q3 q4 p4 m2
  obtain ⟨T30, h30, X30, e30, E30, A30, D30, -, st30⟩ := newO X29 hx hZ hown (hw _ (List.mem_of_getElem? (i := 0) rfl)) (hw _ (List.mem_of_getElem? (i := 1) rfl)) (hw _ (List.mem_of_getElem? (i := 2) rfl)) e29 (g := (mkF m 38 #[.val (.long q1), .second, .val (.long q2), .second, .val (.long q3), .second, .val (.long q4), .second, .val (.int p4), .val (.long m2), .second, .val (.long a2), .second, .val (.int ((XT.ushr p4 (2 : Int32)) &&& (3 : Int32))), .unset, .unset, .unset, .unset, .unset] [])) rfl (hb hby at_38) (by decide) (by decide)
  obtain ⟨b30, g30⟩ : ∃ z, z = h0.size := ⟨_, rfl⟩
  rw [← g30] at A30 D30 st30
  have g_b30 : n0 ≤ b30 := Nat.le_trans Z0 (Nat.le_of_eq g30.symm)
  have lt_ac_b30 : ac < b30 := Nat.lt_of_lt_of_eq (V_c.ext O0.2).lt g30.symm
  have F30_metadata : Fld Z h30 b30 "com/example/madingley/madingley/capability/Capability" "metadata" "J" (.long (0 : Int64)) := D30 (Or.inr (hw _ (List.mem_of_getElem? (i := 10) rfl))) (ty := .long) (by decide)
  have F30_address : Fld Z h30 b30 "com/example/madingley/madingley/capability/Capability" "address" "J" (.long (0 : Int64)) := D30 (Or.inr (hw _ (List.mem_of_getElem? (i := 12) rfl))) (ty := .long) (by decide)
  obtain ⟨_, _, ⟨T31, L31, k31, n31⟩, -, X31, ⟨Lc31, hQ31, l31, y31, z31⟩, st31⟩ := X30.specialBack hx (y := (⟨"com/example/madingley/madingley/capability/Capability", "<init>", "(JJ)V"⟩ : MethodName)) rfl hown (mvT hZ (hw _ (List.mem_of_getElem? (i := 3) rfl))) (mvT hZ (hw _ (List.mem_of_getElem? (i := 4) rfl))) (mvT hZ (hw _ (List.mem_of_getElem? (i := 5) rfl))) (by decide) (backOf (W := 1) (own_init l Z a0 hw [] b30 q1 q2 h30 n0 (Nat.le_trans Z0 E30.1) A30 F30_metadata F30_address g_b30) hZ (hw _ (List.mem_of_getElem? (i := 5) rfl)) (hw _ (List.mem_of_getElem? (i := 2) rfl)) (by decide) (by decide)) (g := (mkF m 44 #[.val (.long q1), .second, .val (.long q2), .second, .val (.long q3), .second, .val (.long q4), .second, .val (.int p4), .val (.long m2), .second, .val (.long a2), .second, .val (.int ((XT.ushr p4 (2 : Int32)) &&& (3 : Int32))), .unset, .unset, .unset, .unset, .unset] [(.long q2), (.long q1), (.ref b30), (.ref b30)])) rfl (by rw [hml]; rfl) (Steps.refl _) (a := b30) (argsL := [(.long q1), (.long q2)]) (rest := [(.ref b30)]) (lenOf pd_2 rfl) rfl (by show 2 * 0 + _ ≤ _; exact Nat.le_of_eq rfl) (hb hby at_44) (fun _ _ => ⟨rfl, e30, (by decide : 1 + 0 ≤ _), (by decide : 2 + 0 ≤ _)⟩)
  dsimp only [Pt.U, Pt.locs, Pt.cells, Pt.slots] at X31 l31 y31 z31 st31 hQ31
  subst l31 y31 z31
  obtain ⟨rfl, N31q, K31, Fm31, Fa31⟩ := hQ31
  have N31 := Fr.app N29 N31q
  obtain ⟨T32, h32, X32, e32, E32, A32, D32, -, st32⟩ := newO X31 hx hZ hown (hw _ (List.mem_of_getElem? (i := 0) rfl)) (hw _ (List.mem_of_getElem? (i := 1) rfl)) (hw _ (List.mem_of_getElem? (i := 2) rfl)) rfl (g := (mkF m 49 #[.val (.long q1), .second, .val (.long q2), .second, .val (.long q3), .second, .val (.long q4), .second, .val (.int p4), .val (.long m2), .second, .val (.long a2), .second, .val (.int ((XT.ushr p4 (2 : Int32)) &&& (3 : Int32))), .val (.ref b30), .unset, .unset, .unset, .unset] [])) rfl (hb hby at_49) (by decide) (by decide)
  obtain ⟨b32, g32⟩ : ∃ z, z = T31.heap.size := ⟨_, rfl⟩
  rw [← g32] at A32 D32 st32
  have g_b32 : n0 ≤ b32 := Nat.le_trans (Nat.le_trans (Nat.le_trans Z0 E30.1) K31.1) (Nat.le_of_eq g32.symm)
  have lt_ac_b32 : ac < b32 := Nat.lt_of_lt_of_eq (V_c.ext ((O0.ext E30).keep K31 (allS g_b30 all0)).2).lt g32.symm
  have lt_b30_b32 : b30 < b32 := Nat.lt_of_lt_of_eq (A30.keep K31).lt g32.symm
  have F32_metadata : Fld Z h32 b32 "com/example/madingley/madingley/capability/Capability" "metadata" "J" (.long (0 : Int64)) := D32 (Or.inr (hw _ (List.mem_of_getElem? (i := 10) rfl))) (ty := .long) (by decide)
  have F32_address : Fld Z h32 b32 "com/example/madingley/madingley/capability/Capability" "address" "J" (.long (0 : Int64)) := D32 (Or.inr (hw _ (List.mem_of_getElem? (i := 12) rfl))) (ty := .long) (by decide)
  obtain ⟨_, _, ⟨T33, L33, k33, n33⟩, -, X33, ⟨Lc33, hQ33, l33, y33, z33⟩, st33⟩ := X32.specialBack hx (y := (⟨"com/example/madingley/madingley/capability/Capability", "<init>", "(JJ)V"⟩ : MethodName)) rfl hown (mvT hZ (hw _ (List.mem_of_getElem? (i := 3) rfl))) (mvT hZ (hw _ (List.mem_of_getElem? (i := 4) rfl))) (mvT hZ (hw _ (List.mem_of_getElem? (i := 5) rfl))) (by decide) (backOf (W := 1) (own_init l Z a0 hw [] b32 m2 a2 h32 n0 (Nat.le_trans (Nat.le_trans (Nat.le_trans Z0 E30.1) K31.1) E32.1) A32 F32_metadata F32_address g_b32) hZ (hw _ (List.mem_of_getElem? (i := 5) rfl)) (hw _ (List.mem_of_getElem? (i := 2) rfl)) (by decide) (by decide)) (g := (mkF m 57 #[.val (.long q1), .second, .val (.long q2), .second, .val (.long q3), .second, .val (.long q4), .second, .val (.int p4), .val (.long m2), .second, .val (.long a2), .second, .val (.int ((XT.ushr p4 (2 : Int32)) &&& (3 : Int32))), .val (.ref b30), .unset, .unset, .unset, .unset] [(.long a2), (.long m2), (.ref b32), (.ref b32)])) rfl (by rw [hml]; rfl) (Steps.refl _) (a := b32) (argsL := [(.long m2), (.long a2)]) (rest := [(.ref b32)]) (lenOf pd_2 rfl) rfl (by show 2 * 0 + _ ≤ _; exact Nat.le_of_eq rfl) (hb hby at_57) (fun _ _ => ⟨rfl, e32, (by decide : 2 + 0 ≤ _), (by decide : 4 + 0 ≤ _)⟩)
  dsimp only [Pt.U, Pt.locs, Pt.cells, Pt.slots] at X33 l33 y33 z33 st33 hQ33
  subst l33 y33 z33
  obtain ⟨rfl, N33q, K33, Fm33, Fa33⟩ := hQ33
  have N33 := Fr.app N31 N33q
  obtain ⟨T34, L34, X34, e34, N34, st34⟩ := own_s3 hw X33 hx hZ hby hml hown rfl N33 (Nat.le_trans (Nat.le_trans (Nat.le_trans (Nat.le_trans Z0 E30.1) K31.1) E32.1) K33.1) q1 q2 q3 q4 p4 m2 a2 ((XT.ushr p4 (2 : Int32)) &&& (3 : Int32)) b30 b32
  by_cases hk1 : ((XT.ushr p4 (2 : Int32)) &&& (3 : Int32)) = (1 : Int32)
  · obtain ⟨cq36, kq36, q36a, q36b, q36c⟩ := isOf hZ e34 (((A30.keep K31).ext E32).keep K33)
    obtain ⟨_, _, ⟨T36, L36, k36, n36⟩, -, X36, ⟨Lc36, hQ36, l36, y36, z36⟩, st36⟩ := X34.virtualBack hx (y := (⟨"com/example/madingley/madingley/capability/Capability", "equals", "(Ljava/lang/Object;)Z"⟩ : MethodName)) (z := (⟨"com/example/madingley/madingley/capability/Capability", "equals", "(Ljava/lang/Object;)Z"⟩ : MethodName)) hown (mvT hZ (hw _ (List.mem_of_getElem? (i := 13) rfl))) (mvT hZ (hw _ (List.mem_of_getElem? (i := 14) rfl))) (notFace_of_selects (args := #[]) (mvT hZ (hw _ (List.mem_of_getElem? (i := 16) rfl)))) (mvT hZ (hw _ (List.mem_of_getElem? (i := 16) rfl))) (mvT hZ (hw _ (List.mem_of_getElem? (i := 15) rfl))) (by decide) (backOf (W := 0) (own_eqN l Z a0 hw [] b30 T33.heap n0 (Nat.le_trans (Nat.le_trans (Nat.le_trans (Nat.le_trans Z0 E30.1) K31.1) E32.1) K33.1) ) hZ (hw _ (List.mem_of_getElem? (i := 17) rfl)) (hw _ (List.mem_of_getElem? (i := 2) rfl)) (by decide) (by decide)) q36a q36c (g := (mkF m 125 #[.val (.long q1), .second, .val (.long q2), .second, .val (.long q3), .second, .val (.long q4), .second, .val (.int p4), .val (.long m2), .second, .val (.long a2), .second, .val (.int ((XT.ushr p4 (2 : Int32)) &&& (3 : Int32))), .val (.ref b30), .val (.ref b32), .val (.int (if (q1 = m2 ∧ q2 = a2) then (1 : Int32) else (0 : Int32))), .val .null, .val (.int (0 : Int32))] [.null, (.ref b30)])) rfl (by rw [hml]; rfl) (Steps.refl _) (argsL := [.null]) (rest := []) (lenOf pd_3 rfl) rfl (by show 2 * 0 + _ ≤ _; exact Nat.le_of_eq rfl) (hb hby at_125) (fun _ _ => ⟨rfl, e34, (by decide : 2 + 0 ≤ _), (by decide : 4 + 0 ≤ _)⟩)
    dsimp only [Pt.U, Pt.locs, Pt.cells, Pt.slots] at X36 l36 y36 z36 st36 hQ36
    subst l36 y36 z36
    obtain ⟨rfl, N36q, eh36⟩ := hQ36
    have N36 := Fr.app N34 N36q
    obtain ⟨cq37, kq37, q37a, q37b, q37c⟩ := isOf hZ eh36 (((A30.keep K31).ext E32).keep K33)
    obtain ⟨_, _, ⟨T37, L37, k37, n37⟩, -, X37, ⟨Lc37, hQ37, l37, y37, z37⟩, st37⟩ := X36.virtualBack hx (y := (⟨"com/example/madingley/madingley/capability/Capability", "equals", "(Ljava/lang/Object;)Z"⟩ : MethodName)) (z := (⟨"com/example/madingley/madingley/capability/Capability", "equals", "(Ljava/lang/Object;)Z"⟩ : MethodName)) hown (mvT hZ (hw _ (List.mem_of_getElem? (i := 13) rfl))) (mvT hZ (hw _ (List.mem_of_getElem? (i := 14) rfl))) (notFace_of_selects (args := #[]) (mvT hZ (hw _ (List.mem_of_getElem? (i := 16) rfl)))) (mvT hZ (hw _ (List.mem_of_getElem? (i := 16) rfl))) (mvT hZ (hw _ (List.mem_of_getElem? (i := 15) rfl))) (by decide) (backOf (W := 0) (own_eqA l Z a0 hw [] b30 b30 q1 q2 q1 q2 T33.heap n0 (Nat.le_trans (Nat.le_trans (Nat.le_trans (Nat.le_trans Z0 E30.1) K31.1) E32.1) K33.1) (((A30.keep K31).ext E32).keep K33) ((Fm31.ext E32).keep K33 (ninS (Nat.ne_of_lt lt_b30_b32) nin0)) ((Fa31.ext E32).keep K33 (ninS (Nat.ne_of_lt lt_b30_b32) nin0)) ((Fm31.ext E32).keep K33 (ninS (Nat.ne_of_lt lt_b30_b32) nin0)) ((Fa31.ext E32).keep K33 (ninS (Nat.ne_of_lt lt_b30_b32) nin0))) hZ (hw _ (List.mem_of_getElem? (i := 17) rfl)) (hw _ (List.mem_of_getElem? (i := 2) rfl)) (by decide) (by decide)) q37a q37c (g := (mkF m 137 #[.val (.long q1), .second, .val (.long q2), .second, .val (.long q3), .second, .val (.long q4), .second, .val (.int p4), .val (.long m2), .second, .val (.long a2), .second, .val (.int ((XT.ushr p4 (2 : Int32)) &&& (3 : Int32))), .val (.ref b30), .val (.ref b32), .val (.int (if (q1 = m2 ∧ q2 = a2) then (1 : Int32) else (0 : Int32))), .val .null, .val (.int (0 : Int32))] [(.ref b30), (.ref b30)])) rfl (by rw [hml]; rfl) (Steps.refl _) (argsL := [(.ref b30)]) (rest := []) (lenOf pd_3 rfl) rfl (by show 2 * 0 + _ ≤ _; exact Nat.le_of_eq rfl) (hb hby at_137) (fun _ _ => ⟨rfl, eh36, (by decide : 2 + 0 ≤ _), (by decide : 4 + 0 ≤ _)⟩)
    dsimp only [Pt.U, Pt.locs, Pt.cells, Pt.slots] at X37 l37 y37 z37 st37 hQ37
    subst l37 y37 z37
    obtain ⟨rfl, N37q, eh37⟩ := hQ37
    have N37 := Fr.app N36 N37q
    obtain ⟨cq38, kq38, q38a, q38b, q38c⟩ := isOf hZ eh37 (A32.keep K33)
    obtain ⟨_, _, ⟨T38, L38, k38, n38⟩, -, X38, ⟨Lc38, hQ38, l38, y38, z38⟩, st38⟩ := X37.virtualBack hx (y := (⟨"com/example/madingley/madingley/capability/Capability", "equals", "(Ljava/lang/Object;)Z"⟩ : MethodName)) (z := (⟨"com/example/madingley/madingley/capability/Capability", "equals", "(Ljava/lang/Object;)Z"⟩ : MethodName)) hown (mvT hZ (hw _ (List.mem_of_getElem? (i := 13) rfl))) (mvT hZ (hw _ (List.mem_of_getElem? (i := 14) rfl))) (notFace_of_selects (args := #[]) (mvT hZ (hw _ (List.mem_of_getElem? (i := 16) rfl)))) (mvT hZ (hw _ (List.mem_of_getElem? (i := 16) rfl))) (mvT hZ (hw _ (List.mem_of_getElem? (i := 15) rfl))) (by decide) (backOf (W := 0) (own_eqA l Z a0 hw [] b32 b30 m2 a2 q1 q2 T33.heap n0 (Nat.le_trans (Nat.le_trans (Nat.le_trans (Nat.le_trans Z0 E30.1) K31.1) E32.1) K33.1) (((A30.keep K31).ext E32).keep K33) Fm33 Fa33 ((Fm31.ext E32).keep K33 (ninS (Nat.ne_of_lt lt_b30_b32) nin0)) ((Fa31.ext E32).keep K33 (ninS (Nat.ne_of_lt lt_b30_b32) nin0))) hZ (hw _ (List.mem_of_getElem? (i := 17) rfl)) (hw _ (List.mem_of_getElem? (i := 2) rfl)) (by decide) (by decide)) q38a q38c (g := (mkF m 147 #[.val (.long q1), .second, .val (.long q2), .second, .val (.long q3), .second, .val (.long q4), .second, .val (.int p4), .val (.long m2), .second, .val (.long a2), .second, .val (.int ((XT.ushr p4 (2 : Int32)) &&& (3 : Int32))), .val (.ref b30), .val (.ref b32), .val (.int (if (q1 = m2 ∧ q2 = a2) then (1 : Int32) else (0 : Int32))), .val .null, .val (.int (0 : Int32))] [(.ref b30), (.ref b32)])) rfl (by rw [hml]; rfl) (Steps.refl _) (argsL := [(.ref b30)]) (rest := []) (lenOf pd_3 rfl) rfl (by show 2 * 0 + _ ≤ _; exact Nat.le_of_eq rfl) (hb hby at_147) (fun _ _ => ⟨rfl, eh37, (by decide : 2 + 0 ≤ _), (by decide : 4 + 0 ≤ _)⟩)
    dsimp only [Pt.U, Pt.locs, Pt.cells, Pt.slots] at X38 l38 y38 z38 st38 hQ38
    subst l38 y38 z38
    obtain ⟨rfl, N38q, eh38⟩ := hQ38
    have N38 := Fr.app N37 N38q
    obtain ⟨fs, hr, hrun, hended, hW, hsame⟩ := X38.leave (v := some (.int (1 : Int32))) (fun h => by rw [Bd.returns] at h; cases h)
    refine ⟨_, _, pre0 _ ?_, hrun, hended, _, _, rfl, ?_, ⟨_, rfl⟩, hW, hsame.mono (by decide) (by decide)⟩
    · show Steps p.tables e below (s₁.setTop (mkF m 0 #[.val (.long q1), .second, .val (.long q2), .second, .val (.long q3), .second, .val (.long q4), .second, .val (.int p4), .unset, .unset, .unset, .unset, .unset, .unset, .unset, .unset, .unset, .unset] [])) _
      refine st28 _ ?_
      show Steps p.tables e below (T28.setTop (mkF m 13 #[.val (.long q1), .second, .val (.long q2), .second, .val (.long q3), .second, .val (.long q4), .second, .val (.int p4), .unset, .unset, .unset, .unset, .unset, .unset, .unset, .unset, .unset, .unset] [(.long (if (p4 &&& (1 : Int32)) = 0 then q3 else q1))])) _
      rw [hm2]
      show Steps p.tables e below (T28.setTop (mkF m 13 #[.val (.long q1), .second, .val (.long q2), .second, .val (.long q3), .second, .val (.long q4), .second, .val (.int p4), .unset, .unset, .unset, .unset, .unset, .unset, .unset, .unset, .unset, .unset] [(.long m2)])) _
      refine XT.lstore X28.here hx rfl (hb hby at_13) rfl (l' := #[.val (.long q1), .second, .val (.long q2), .second, .val (.long q3), .second, .val (.long q4), .second, .val (.int p4), .val (.long m2), .second, .unset, .unset, .unset, .unset, .unset, .unset, .unset, .unset]) rfl ?_
      show Steps p.tables e below (T28.setTop (mkF m 15 #[.val (.long q1), .second, .val (.long q2), .second, .val (.long q3), .second, .val (.long q4), .second, .val (.int p4), .val (.long m2), .second, .unset, .unset, .unset, .unset, .unset, .unset, .unset, .unset] [])) _
      refine st29 _ ?_
      show Steps p.tables e below (T29.setTop (mkF m 28 #[.val (.long q1), .second, .val (.long q2), .second, .val (.long q3), .second, .val (.long q4), .second, .val (.int p4), .val (.long m2), .second, .unset, .unset, .unset, .unset, .unset, .unset, .unset, .unset] [(.long (if (p4 &&& (2 : Int32)) = 0 then q4 else q2))])) _
      rw [ha2]
      show Steps p.tables e below (T29.setTop (mkF m 28 #[.val (.long q1), .second, .val (.long q2), .second, .val (.long q3), .second, .val (.long q4), .second, .val (.int p4), .val (.long m2), .second, .unset, .unset, .unset, .unset, .unset, .unset, .unset, .unset] [(.long a2)])) _
      refine XT.lstore X29.here hx rfl (hb hby at_28) rfl (l' := #[.val (.long q1), .second, .val (.long q2), .second, .val (.long q3), .second, .val (.long q4), .second, .val (.int p4), .val (.long m2), .second, .val (.long a2), .second, .unset, .unset, .unset, .unset, .unset, .unset]) rfl ?_
      show Steps p.tables e below (T29.setTop (mkF m 30 #[.val (.long q1), .second, .val (.long q2), .second, .val (.long q3), .second, .val (.long q4), .second, .val (.int p4), .val (.long m2), .second, .val (.long a2), .second, .unset, .unset, .unset, .unset, .unset, .unset] [])) _
      refine XS.iload X29.here hx rfl (hb hby at_30) rfl ?_
      show Steps p.tables e below (T29.setTop (mkF m 32 #[.val (.long q1), .second, .val (.long q2), .second, .val (.long q3), .second, .val (.long q4), .second, .val (.int p4), .val (.long m2), .second, .val (.long a2), .second, .unset, .unset, .unset, .unset, .unset, .unset] [(.int p4)])) _
      refine XS.iconst X29.here hx rfl (hb hby at_32) ?_
      show Steps p.tables e below (T29.setTop (mkF m 33 #[.val (.long q1), .second, .val (.long q2), .second, .val (.long q3), .second, .val (.long q4), .second, .val (.int p4), .val (.long m2), .second, .val (.long a2), .second, .unset, .unset, .unset, .unset, .unset, .unset] [(.int (2 : Int32)), (.int p4)])) _
      refine XT.iushr X29.here hx rfl (hb hby at_33) rfl ?_
      show Steps p.tables e below (T29.setTop (mkF m 34 #[.val (.long q1), .second, .val (.long q2), .second, .val (.long q3), .second, .val (.long q4), .second, .val (.int p4), .val (.long m2), .second, .val (.long a2), .second, .unset, .unset, .unset, .unset, .unset, .unset] [(.int (XT.ushr p4 (2 : Int32)))])) _
      refine XS.iconst X29.here hx rfl (hb hby at_34) ?_
      show Steps p.tables e below (T29.setTop (mkF m 35 #[.val (.long q1), .second, .val (.long q2), .second, .val (.long q3), .second, .val (.long q4), .second, .val (.int p4), .val (.long m2), .second, .val (.long a2), .second, .unset, .unset, .unset, .unset, .unset, .unset] [(.int (3 : Int32)), (.int (XT.ushr p4 (2 : Int32)))])) _
      refine XS.iand X29.here hx rfl (hb hby at_35) rfl ?_
      show Steps p.tables e below (T29.setTop (mkF m 36 #[.val (.long q1), .second, .val (.long q2), .second, .val (.long q3), .second, .val (.long q4), .second, .val (.int p4), .val (.long m2), .second, .val (.long a2), .second, .unset, .unset, .unset, .unset, .unset, .unset] [(.int ((XT.ushr p4 (2 : Int32)) &&& (3 : Int32)))])) _
      refine XS.istore X29.here hx rfl (hb hby at_36) rfl (l' := #[.val (.long q1), .second, .val (.long q2), .second, .val (.long q3), .second, .val (.long q4), .second, .val (.int p4), .val (.long m2), .second, .val (.long a2), .second, .val (.int ((XT.ushr p4 (2 : Int32)) &&& (3 : Int32))), .unset, .unset, .unset, .unset, .unset]) rfl ?_
      show Steps p.tables e below (T29.setTop (mkF m 38 #[.val (.long q1), .second, .val (.long q2), .second, .val (.long q3), .second, .val (.long q4), .second, .val (.int p4), .val (.long m2), .second, .val (.long a2), .second, .val (.int ((XT.ushr p4 (2 : Int32)) &&& (3 : Int32))), .unset, .unset, .unset, .unset, .unset] [])) _
      refine st30 _ ?_
      show Steps p.tables e below (T30.setTop (mkF m 41 #[.val (.long q1), .second, .val (.long q2), .second, .val (.long q3), .second, .val (.long q4), .second, .val (.int p4), .val (.long m2), .second, .val (.long a2), .second, .val (.int ((XT.ushr p4 (2 : Int32)) &&& (3 : Int32))), .unset, .unset, .unset, .unset, .unset] [(.ref b30)])) _
      refine XS.dup X30.here hx rfl (hb hby at_41) rfl rfl ?_
      show Steps p.tables e below (T30.setTop (mkF m 42 #[.val (.long q1), .second, .val (.long q2), .second, .val (.long q3), .second, .val (.long q4), .second, .val (.int p4), .val (.long m2), .second, .val (.long a2), .second, .val (.int ((XT.ushr p4 (2 : Int32)) &&& (3 : Int32))), .unset, .unset, .unset, .unset, .unset] [(.ref b30), (.ref b30)])) _
      refine XT.lloadN X30.here hx rfl (hb hby at_42) rfl ?_
      show Steps p.tables e below (T30.setTop (mkF m 43 #[.val (.long q1), .second, .val (.long q2), .second, .val (.long q3), .second, .val (.long q4), .second, .val (.int p4), .val (.long m2), .second, .val (.long a2), .second, .val (.int ((XT.ushr p4 (2 : Int32)) &&& (3 : Int32))), .unset, .unset, .unset, .unset, .unset] [(.long q1), (.ref b30), (.ref b30)])) _
      refine XT.lloadN X30.here hx rfl (hb hby at_43) rfl ?_
      show Steps p.tables e below (T30.setTop (mkF m 44 #[.val (.long q1), .second, .val (.long q2), .second, .val (.long q3), .second, .val (.long q4), .second, .val (.int p4), .val (.long m2), .second, .val (.long a2), .second, .val (.int ((XT.ushr p4 (2 : Int32)) &&& (3 : Int32))), .unset, .unset, .unset, .unset, .unset] [(.long q2), (.long q1), (.ref b30), (.ref b30)])) _
      refine st31.trans ?_
      show Steps p.tables e below (T31.setTop (mkF m 47 #[.val (.long q1), .second, .val (.long q2), .second, .val (.long q3), .second, .val (.long q4), .second, .val (.int p4), .val (.long m2), .second, .val (.long a2), .second, .val (.int ((XT.ushr p4 (2 : Int32)) &&& (3 : Int32))), .unset, .unset, .unset, .unset, .unset] [(.ref b30)])) _
      refine XS.astore X31.here hx rfl (hb hby at_47) rfl rfl (l' := #[.val (.long q1), .second, .val (.long q2), .second, .val (.long q3), .second, .val (.long q4), .second, .val (.int p4), .val (.long m2), .second, .val (.long a2), .second, .val (.int ((XT.ushr p4 (2 : Int32)) &&& (3 : Int32))), .val (.ref b30), .unset, .unset, .unset, .unset]) rfl ?_
      show Steps p.tables e below (T31.setTop (mkF m 49 #[.val (.long q1), .second, .val (.long q2), .second, .val (.long q3), .second, .val (.long q4), .second, .val (.int p4), .val (.long m2), .second, .val (.long a2), .second, .val (.int ((XT.ushr p4 (2 : Int32)) &&& (3 : Int32))), .val (.ref b30), .unset, .unset, .unset, .unset] [])) _
      refine st32 _ ?_
      show Steps p.tables e below (T32.setTop (mkF m 52 #[.val (.long q1), .second, .val (.long q2), .second, .val (.long q3), .second, .val (.long q4), .second, .val (.int p4), .val (.long m2), .second, .val (.long a2), .second, .val (.int ((XT.ushr p4 (2 : Int32)) &&& (3 : Int32))), .val (.ref b30), .unset, .unset, .unset, .unset] [(.ref b32)])) _
      refine XS.dup X32.here hx rfl (hb hby at_52) rfl rfl ?_
      show Steps p.tables e below (T32.setTop (mkF m 53 #[.val (.long q1), .second, .val (.long q2), .second, .val (.long q3), .second, .val (.long q4), .second, .val (.int p4), .val (.long m2), .second, .val (.long a2), .second, .val (.int ((XT.ushr p4 (2 : Int32)) &&& (3 : Int32))), .val (.ref b30), .unset, .unset, .unset, .unset] [(.ref b32), (.ref b32)])) _
      refine XT.lload X32.here hx rfl (hb hby at_53) rfl ?_
      show Steps p.tables e below (T32.setTop (mkF m 55 #[.val (.long q1), .second, .val (.long q2), .second, .val (.long q3), .second, .val (.long q4), .second, .val (.int p4), .val (.long m2), .second, .val (.long a2), .second, .val (.int ((XT.ushr p4 (2 : Int32)) &&& (3 : Int32))), .val (.ref b30), .unset, .unset, .unset, .unset] [(.long m2), (.ref b32), (.ref b32)])) _
      refine XT.lload X32.here hx rfl (hb hby at_55) rfl ?_
      show Steps p.tables e below (T32.setTop (mkF m 57 #[.val (.long q1), .second, .val (.long q2), .second, .val (.long q3), .second, .val (.long q4), .second, .val (.int p4), .val (.long m2), .second, .val (.long a2), .second, .val (.int ((XT.ushr p4 (2 : Int32)) &&& (3 : Int32))), .val (.ref b30), .unset, .unset, .unset, .unset] [(.long a2), (.long m2), (.ref b32), (.ref b32)])) _
      refine st33.trans ?_
      show Steps p.tables e below (T33.setTop (mkF m 60 #[.val (.long q1), .second, .val (.long q2), .second, .val (.long q3), .second, .val (.long q4), .second, .val (.int p4), .val (.long m2), .second, .val (.long a2), .second, .val (.int ((XT.ushr p4 (2 : Int32)) &&& (3 : Int32))), .val (.ref b30), .unset, .unset, .unset, .unset] [(.ref b32)])) _
      refine XS.astore X33.here hx rfl (hb hby at_60) rfl rfl (l' := #[.val (.long q1), .second, .val (.long q2), .second, .val (.long q3), .second, .val (.long q4), .second, .val (.int p4), .val (.long m2), .second, .val (.long a2), .second, .val (.int ((XT.ushr p4 (2 : Int32)) &&& (3 : Int32))), .val (.ref b30), .val (.ref b32), .unset, .unset, .unset]) rfl ?_
      show Steps p.tables e below (T33.setTop (mkF m 62 #[.val (.long q1), .second, .val (.long q2), .second, .val (.long q3), .second, .val (.long q4), .second, .val (.int p4), .val (.long m2), .second, .val (.long a2), .second, .val (.int ((XT.ushr p4 (2 : Int32)) &&& (3 : Int32))), .val (.ref b30), .val (.ref b32), .unset, .unset, .unset] [])) _
      refine st34 _ ?_
      show Steps p.tables e below (T34.setTop (mkF m 81 #[.val (.long q1), .second, .val (.long q2), .second, .val (.long q3), .second, .val (.long q4), .second, .val (.int p4), .val (.long m2), .second, .val (.long a2), .second, .val (.int ((XT.ushr p4 (2 : Int32)) &&& (3 : Int32))), .val (.ref b30), .val (.ref b32), .unset, .unset, .unset] [(.int (if (q1 = m2 ∧ q2 = a2) then (1 : Int32) else (0 : Int32)))])) _
      refine XS.istore X34.here hx rfl (hb hby at_81) rfl (l' := #[.val (.long q1), .second, .val (.long q2), .second, .val (.long q3), .second, .val (.long q4), .second, .val (.int p4), .val (.long m2), .second, .val (.long a2), .second, .val (.int ((XT.ushr p4 (2 : Int32)) &&& (3 : Int32))), .val (.ref b30), .val (.ref b32), .val (.int (if (q1 = m2 ∧ q2 = a2) then (1 : Int32) else (0 : Int32))), .unset, .unset]) rfl ?_
      show Steps p.tables e below (T34.setTop (mkF m 83 #[.val (.long q1), .second, .val (.long q2), .second, .val (.long q3), .second, .val (.long q4), .second, .val (.int p4), .val (.long m2), .second, .val (.long a2), .second, .val (.int ((XT.ushr p4 (2 : Int32)) &&& (3 : Int32))), .val (.ref b30), .val (.ref b32), .val (.int (if (q1 = m2 ∧ q2 = a2) then (1 : Int32) else (0 : Int32))), .unset, .unset] [])) _
      refine XS.aload X34.here hx rfl (hb hby at_83) rfl rfl ?_
      show Steps p.tables e below (T34.setTop (mkF m 85 #[.val (.long q1), .second, .val (.long q2), .second, .val (.long q3), .second, .val (.long q4), .second, .val (.int p4), .val (.long m2), .second, .val (.long a2), .second, .val (.int ((XT.ushr p4 (2 : Int32)) &&& (3 : Int32))), .val (.ref b30), .val (.ref b32), .val (.int (if (q1 = m2 ∧ q2 = a2) then (1 : Int32) else (0 : Int32))), .unset, .unset] [(.ref b32)])) _
      refine XS.astore X34.here hx rfl (hb hby at_85) rfl rfl (l' := #[.val (.long q1), .second, .val (.long q2), .second, .val (.long q3), .second, .val (.long q4), .second, .val (.int p4), .val (.long m2), .second, .val (.long a2), .second, .val (.int ((XT.ushr p4 (2 : Int32)) &&& (3 : Int32))), .val (.ref b30), .val (.ref b32), .val (.int (if (q1 = m2 ∧ q2 = a2) then (1 : Int32) else (0 : Int32))), .val (.ref b32), .unset]) rfl ?_
      show Steps p.tables e below (T34.setTop (mkF m 87 #[.val (.long q1), .second, .val (.long q2), .second, .val (.long q3), .second, .val (.long q4), .second, .val (.int p4), .val (.long m2), .second, .val (.long a2), .second, .val (.int ((XT.ushr p4 (2 : Int32)) &&& (3 : Int32))), .val (.ref b30), .val (.ref b32), .val (.int (if (q1 = m2 ∧ q2 = a2) then (1 : Int32) else (0 : Int32))), .val (.ref b32), .unset] [])) _
      refine XS.iload X34.here hx rfl (hb hby at_87) rfl ?_
      show Steps p.tables e below (T34.setTop (mkF m 89 #[.val (.long q1), .second, .val (.long q2), .second, .val (.long q3), .second, .val (.long q4), .second, .val (.int p4), .val (.long m2), .second, .val (.long a2), .second, .val (.int ((XT.ushr p4 (2 : Int32)) &&& (3 : Int32))), .val (.ref b30), .val (.ref b32), .val (.int (if (q1 = m2 ∧ q2 = a2) then (1 : Int32) else (0 : Int32))), .val (.ref b32), .unset] [(.int (if (q1 = m2 ∧ q2 = a2) then (1 : Int32) else (0 : Int32)))])) _
      refine XS.istore X34.here hx rfl (hb hby at_89) rfl (l' := #[.val (.long q1), .second, .val (.long q2), .second, .val (.long q3), .second, .val (.long q4), .second, .val (.int p4), .val (.long m2), .second, .val (.long a2), .second, .val (.int ((XT.ushr p4 (2 : Int32)) &&& (3 : Int32))), .val (.ref b30), .val (.ref b32), .val (.int (if (q1 = m2 ∧ q2 = a2) then (1 : Int32) else (0 : Int32))), .val (.ref b32), .val (.int (if (q1 = m2 ∧ q2 = a2) then (1 : Int32) else (0 : Int32)))]) rfl ?_
      show Steps p.tables e below (T34.setTop (mkF m 91 #[.val (.long q1), .second, .val (.long q2), .second, .val (.long q3), .second, .val (.long q4), .second, .val (.int p4), .val (.long m2), .second, .val (.long a2), .second, .val (.int ((XT.ushr p4 (2 : Int32)) &&& (3 : Int32))), .val (.ref b30), .val (.ref b32), .val (.int (if (q1 = m2 ∧ q2 = a2) then (1 : Int32) else (0 : Int32))), .val (.ref b32), .val (.int (if (q1 = m2 ∧ q2 = a2) then (1 : Int32) else (0 : Int32)))] [])) _
      refine XS.iload X34.here hx rfl (hb hby at_91) rfl ?_
      show Steps p.tables e below (T34.setTop (mkF m 93 #[.val (.long q1), .second, .val (.long q2), .second, .val (.long q3), .second, .val (.long q4), .second, .val (.int p4), .val (.long m2), .second, .val (.long a2), .second, .val (.int ((XT.ushr p4 (2 : Int32)) &&& (3 : Int32))), .val (.ref b30), .val (.ref b32), .val (.int (if (q1 = m2 ∧ q2 = a2) then (1 : Int32) else (0 : Int32))), .val (.ref b32), .val (.int (if (q1 = m2 ∧ q2 = a2) then (1 : Int32) else (0 : Int32)))] [(.int ((XT.ushr p4 (2 : Int32)) &&& (3 : Int32)))])) _
      refine XS.iconst X34.here hx rfl (hb hby at_93) ?_
      show Steps p.tables e below (T34.setTop (mkF m 94 #[.val (.long q1), .second, .val (.long q2), .second, .val (.long q3), .second, .val (.long q4), .second, .val (.int p4), .val (.long m2), .second, .val (.long a2), .second, .val (.int ((XT.ushr p4 (2 : Int32)) &&& (3 : Int32))), .val (.ref b30), .val (.ref b32), .val (.int (if (q1 = m2 ∧ q2 = a2) then (1 : Int32) else (0 : Int32))), .val (.ref b32), .val (.int (if (q1 = m2 ∧ q2 = a2) then (1 : Int32) else (0 : Int32)))] [(.int (1 : Int32)), (.int ((XT.ushr p4 (2 : Int32)) &&& (3 : Int32)))])) _
      refine XS.icmpNo X34.here hx rfl (hb hby at_94) rfl (XT.ii_ne_f hk1) ?_
      show Steps p.tables e below (T34.setTop (mkF m 97 #[.val (.long q1), .second, .val (.long q2), .second, .val (.long q3), .second, .val (.long q4), .second, .val (.int p4), .val (.long m2), .second, .val (.long a2), .second, .val (.int ((XT.ushr p4 (2 : Int32)) &&& (3 : Int32))), .val (.ref b30), .val (.ref b32), .val (.int (if (q1 = m2 ∧ q2 = a2) then (1 : Int32) else (0 : Int32))), .val (.ref b32), .val (.int (if (q1 = m2 ∧ q2 = a2) then (1 : Int32) else (0 : Int32)))] [])) _
      refine XS.aconstNull X34.here hx rfl (hb hby at_97) ?_
      show Steps p.tables e below (T34.setTop (mkF m 98 #[.val (.long q1), .second, .val (.long q2), .second, .val (.long q3), .second, .val (.long q4), .second, .val (.int p4), .val (.long m2), .second, .val (.long a2), .second, .val (.int ((XT.ushr p4 (2 : Int32)) &&& (3 : Int32))), .val (.ref b30), .val (.ref b32), .val (.int (if (q1 = m2 ∧ q2 = a2) then (1 : Int32) else (0 : Int32))), .val (.ref b32), .val (.int (if (q1 = m2 ∧ q2 = a2) then (1 : Int32) else (0 : Int32)))] [.null])) _
      refine XS.astore X34.here hx rfl (hb hby at_98) rfl rfl (l' := #[.val (.long q1), .second, .val (.long q2), .second, .val (.long q3), .second, .val (.long q4), .second, .val (.int p4), .val (.long m2), .second, .val (.long a2), .second, .val (.int ((XT.ushr p4 (2 : Int32)) &&& (3 : Int32))), .val (.ref b30), .val (.ref b32), .val (.int (if (q1 = m2 ∧ q2 = a2) then (1 : Int32) else (0 : Int32))), .val .null, .val (.int (if (q1 = m2 ∧ q2 = a2) then (1 : Int32) else (0 : Int32)))]) rfl ?_
      show Steps p.tables e below (T34.setTop (mkF m 100 #[.val (.long q1), .second, .val (.long q2), .second, .val (.long q3), .second, .val (.long q4), .second, .val (.int p4), .val (.long m2), .second, .val (.long a2), .second, .val (.int ((XT.ushr p4 (2 : Int32)) &&& (3 : Int32))), .val (.ref b30), .val (.ref b32), .val (.int (if (q1 = m2 ∧ q2 = a2) then (1 : Int32) else (0 : Int32))), .val .null, .val (.int (if (q1 = m2 ∧ q2 = a2) then (1 : Int32) else (0 : Int32)))] [])) _
      refine XS.iconst X34.here hx rfl (hb hby at_100) ?_
      show Steps p.tables e below (T34.setTop (mkF m 101 #[.val (.long q1), .second, .val (.long q2), .second, .val (.long q3), .second, .val (.long q4), .second, .val (.int p4), .val (.long m2), .second, .val (.long a2), .second, .val (.int ((XT.ushr p4 (2 : Int32)) &&& (3 : Int32))), .val (.ref b30), .val (.ref b32), .val (.int (if (q1 = m2 ∧ q2 = a2) then (1 : Int32) else (0 : Int32))), .val .null, .val (.int (if (q1 = m2 ∧ q2 = a2) then (1 : Int32) else (0 : Int32)))] [(.int (0 : Int32))])) _
      refine XS.istore X34.here hx rfl (hb hby at_101) rfl (l' := #[.val (.long q1), .second, .val (.long q2), .second, .val (.long q3), .second, .val (.long q4), .second, .val (.int p4), .val (.long m2), .second, .val (.long a2), .second, .val (.int ((XT.ushr p4 (2 : Int32)) &&& (3 : Int32))), .val (.ref b30), .val (.ref b32), .val (.int (if (q1 = m2 ∧ q2 = a2) then (1 : Int32) else (0 : Int32))), .val .null, .val (.int (0 : Int32))]) rfl ?_
      show Steps p.tables e below (T34.setTop (mkF m 103 #[.val (.long q1), .second, .val (.long q2), .second, .val (.long q3), .second, .val (.long q4), .second, .val (.int p4), .val (.long m2), .second, .val (.long a2), .second, .val (.int ((XT.ushr p4 (2 : Int32)) &&& (3 : Int32))), .val (.ref b30), .val (.ref b32), .val (.int (if (q1 = m2 ∧ q2 = a2) then (1 : Int32) else (0 : Int32))), .val .null, .val (.int (0 : Int32))] [])) _
      refine XS.goto X34.here hx rfl (pc0 := 103) (pc' := 121) rfl (hb hby at_103) (by decide) (by decide) ?_
      show Steps p.tables e below (T34.setTop (mkF m 121 #[.val (.long q1), .second, .val (.long q2), .second, .val (.long q3), .second, .val (.long q4), .second, .val (.int p4), .val (.long m2), .second, .val (.long a2), .second, .val (.int ((XT.ushr p4 (2 : Int32)) &&& (3 : Int32))), .val (.ref b30), .val (.ref b32), .val (.int (if (q1 = m2 ∧ q2 = a2) then (1 : Int32) else (0 : Int32))), .val .null, .val (.int (0 : Int32))] [])) _
      refine XS.aload X34.here hx rfl (hb hby at_121) rfl rfl ?_
      show Steps p.tables e below (T34.setTop (mkF m 123 #[.val (.long q1), .second, .val (.long q2), .second, .val (.long q3), .second, .val (.long q4), .second, .val (.int p4), .val (.long m2), .second, .val (.long a2), .second, .val (.int ((XT.ushr p4 (2 : Int32)) &&& (3 : Int32))), .val (.ref b30), .val (.ref b32), .val (.int (if (q1 = m2 ∧ q2 = a2) then (1 : Int32) else (0 : Int32))), .val .null, .val (.int (0 : Int32))] [(.ref b30)])) _
      refine XS.aload X34.here hx rfl (hb hby at_123) rfl rfl ?_
      show Steps p.tables e below (T34.setTop (mkF m 125 #[.val (.long q1), .second, .val (.long q2), .second, .val (.long q3), .second, .val (.long q4), .second, .val (.int p4), .val (.long m2), .second, .val (.long a2), .second, .val (.int ((XT.ushr p4 (2 : Int32)) &&& (3 : Int32))), .val (.ref b30), .val (.ref b32), .val (.int (if (q1 = m2 ∧ q2 = a2) then (1 : Int32) else (0 : Int32))), .val .null, .val (.int (0 : Int32))] [.null, (.ref b30)])) _
      refine st36.trans ?_
      show Steps p.tables e below (T36.setTop (mkF m 128 #[.val (.long q1), .second, .val (.long q2), .second, .val (.long q3), .second, .val (.long q4), .second, .val (.int p4), .val (.long m2), .second, .val (.long a2), .second, .val (.int ((XT.ushr p4 (2 : Int32)) &&& (3 : Int32))), .val (.ref b30), .val (.ref b32), .val (.int (if (q1 = m2 ∧ q2 = a2) then (1 : Int32) else (0 : Int32))), .val .null, .val (.int (0 : Int32))] [(.int (0 : Int32))])) _
      refine XS.iload X36.here hx rfl (hb hby at_128) rfl ?_
      show Steps p.tables e below (T36.setTop (mkF m 130 #[.val (.long q1), .second, .val (.long q2), .second, .val (.long q3), .second, .val (.long q4), .second, .val (.int p4), .val (.long m2), .second, .val (.long a2), .second, .val (.int ((XT.ushr p4 (2 : Int32)) &&& (3 : Int32))), .val (.ref b30), .val (.ref b32), .val (.int (if (q1 = m2 ∧ q2 = a2) then (1 : Int32) else (0 : Int32))), .val .null, .val (.int (0 : Int32))] [(.int (0 : Int32)), (.int (0 : Int32))])) _
      refine XS.icmpNo X36.here hx rfl (hb hby at_130) rfl (XT.ii_ne_f (by decide)) ?_
      show Steps p.tables e below (T36.setTop (mkF m 133 #[.val (.long q1), .second, .val (.long q2), .second, .val (.long q3), .second, .val (.long q4), .second, .val (.int p4), .val (.long m2), .second, .val (.long a2), .second, .val (.int ((XT.ushr p4 (2 : Int32)) &&& (3 : Int32))), .val (.ref b30), .val (.ref b32), .val (.int (if (q1 = m2 ∧ q2 = a2) then (1 : Int32) else (0 : Int32))), .val .null, .val (.int (0 : Int32))] [])) _
      refine XS.aload X36.here hx rfl (hb hby at_133) rfl rfl ?_
      show Steps p.tables e below (T36.setTop (mkF m 135 #[.val (.long q1), .second, .val (.long q2), .second, .val (.long q3), .second, .val (.long q4), .second, .val (.int p4), .val (.long m2), .second, .val (.long a2), .second, .val (.int ((XT.ushr p4 (2 : Int32)) &&& (3 : Int32))), .val (.ref b30), .val (.ref b32), .val (.int (if (q1 = m2 ∧ q2 = a2) then (1 : Int32) else (0 : Int32))), .val .null, .val (.int (0 : Int32))] [(.ref b30)])) _
      refine XS.aload X36.here hx rfl (hb hby at_135) rfl rfl ?_
      show Steps p.tables e below (T36.setTop (mkF m 137 #[.val (.long q1), .second, .val (.long q2), .second, .val (.long q3), .second, .val (.long q4), .second, .val (.int p4), .val (.long m2), .second, .val (.long a2), .second, .val (.int ((XT.ushr p4 (2 : Int32)) &&& (3 : Int32))), .val (.ref b30), .val (.ref b32), .val (.int (if (q1 = m2 ∧ q2 = a2) then (1 : Int32) else (0 : Int32))), .val .null, .val (.int (0 : Int32))] [(.ref b30), (.ref b30)])) _
      refine st37.trans ?_
      show Steps p.tables e below (T37.setTop (mkF m 140 #[.val (.long q1), .second, .val (.long q2), .second, .val (.long q3), .second, .val (.long q4), .second, .val (.int p4), .val (.long m2), .second, .val (.long a2), .second, .val (.int ((XT.ushr p4 (2 : Int32)) &&& (3 : Int32))), .val (.ref b30), .val (.ref b32), .val (.int (if (q1 = m2 ∧ q2 = a2) then (1 : Int32) else (0 : Int32))), .val .null, .val (.int (0 : Int32))] [(.int (if (q1 = q1 ∧ q2 = q2) then (1 : Int32) else (0 : Int32)))])) _
      refine XS.ifNo X37.here hx rfl (hb hby at_140) rfl (XT.i0_eq_f (by rw [if_pos ⟨rfl, rfl⟩]; decide)) ?_
      show Steps p.tables e below (T37.setTop (mkF m 143 #[.val (.long q1), .second, .val (.long q2), .second, .val (.long q3), .second, .val (.long q4), .second, .val (.int p4), .val (.long m2), .second, .val (.long a2), .second, .val (.int ((XT.ushr p4 (2 : Int32)) &&& (3 : Int32))), .val (.ref b30), .val (.ref b32), .val (.int (if (q1 = m2 ∧ q2 = a2) then (1 : Int32) else (0 : Int32))), .val .null, .val (.int (0 : Int32))] [])) _
      refine XS.aload X37.here hx rfl (hb hby at_143) rfl rfl ?_
      show Steps p.tables e below (T37.setTop (mkF m 145 #[.val (.long q1), .second, .val (.long q2), .second, .val (.long q3), .second, .val (.long q4), .second, .val (.int p4), .val (.long m2), .second, .val (.long a2), .second, .val (.int ((XT.ushr p4 (2 : Int32)) &&& (3 : Int32))), .val (.ref b30), .val (.ref b32), .val (.int (if (q1 = m2 ∧ q2 = a2) then (1 : Int32) else (0 : Int32))), .val .null, .val (.int (0 : Int32))] [(.ref b32)])) _
      refine XS.aload X37.here hx rfl (hb hby at_145) rfl rfl ?_
      show Steps p.tables e below (T37.setTop (mkF m 147 #[.val (.long q1), .second, .val (.long q2), .second, .val (.long q3), .second, .val (.long q4), .second, .val (.int p4), .val (.long m2), .second, .val (.long a2), .second, .val (.int ((XT.ushr p4 (2 : Int32)) &&& (3 : Int32))), .val (.ref b30), .val (.ref b32), .val (.int (if (q1 = m2 ∧ q2 = a2) then (1 : Int32) else (0 : Int32))), .val .null, .val (.int (0 : Int32))] [(.ref b30), (.ref b32)])) _
      refine st38.trans ?_
      show Steps p.tables e below (T38.setTop (mkF m 150 #[.val (.long q1), .second, .val (.long q2), .second, .val (.long q3), .second, .val (.long q4), .second, .val (.int p4), .val (.long m2), .second, .val (.long a2), .second, .val (.int ((XT.ushr p4 (2 : Int32)) &&& (3 : Int32))), .val (.ref b30), .val (.ref b32), .val (.int (if (q1 = m2 ∧ q2 = a2) then (1 : Int32) else (0 : Int32))), .val .null, .val (.int (0 : Int32))] [(.int (if (q1 = m2 ∧ q2 = a2) then (1 : Int32) else (0 : Int32)))])) _
      refine XS.iload X38.here hx rfl (hb hby at_150) rfl ?_
      show Steps p.tables e below (T38.setTop (mkF m 152 #[.val (.long q1), .second, .val (.long q2), .second, .val (.long q3), .second, .val (.long q4), .second, .val (.int p4), .val (.long m2), .second, .val (.long a2), .second, .val (.int ((XT.ushr p4 (2 : Int32)) &&& (3 : Int32))), .val (.ref b30), .val (.ref b32), .val (.int (if (q1 = m2 ∧ q2 = a2) then (1 : Int32) else (0 : Int32))), .val .null, .val (.int (0 : Int32))] [(.int (if (q1 = m2 ∧ q2 = a2) then (1 : Int32) else (0 : Int32))), (.int (if (q1 = m2 ∧ q2 = a2) then (1 : Int32) else (0 : Int32)))])) _
      refine XS.icmpNo X38.here hx rfl (hb hby at_152) rfl (XT.ii_ne_f rfl) ?_
      show Steps p.tables e below (T38.setTop (mkF m 155 #[.val (.long q1), .second, .val (.long q2), .second, .val (.long q3), .second, .val (.long q4), .second, .val (.int p4), .val (.long m2), .second, .val (.long a2), .second, .val (.int ((XT.ushr p4 (2 : Int32)) &&& (3 : Int32))), .val (.ref b30), .val (.ref b32), .val (.int (if (q1 = m2 ∧ q2 = a2) then (1 : Int32) else (0 : Int32))), .val .null, .val (.int (0 : Int32))] [])) _
      refine XS.iconst X38.here hx rfl (hb hby at_155) ?_
      show Steps p.tables e below (T38.setTop (mkF m 156 #[.val (.long q1), .second, .val (.long q2), .second, .val (.long q3), .second, .val (.long q4), .second, .val (.int p4), .val (.long m2), .second, .val (.long a2), .second, .val (.int ((XT.ushr p4 (2 : Int32)) &&& (3 : Int32))), .val (.ref b30), .val (.ref b32), .val (.int (if (q1 = m2 ∧ q2 = a2) then (1 : Int32) else (0 : Int32))), .val .null, .val (.int (0 : Int32))] [(.int (1 : Int32))])) _
      refine XS.goto X38.here hx rfl (pc0 := 156) (pc' := 160) rfl (hb hby at_156) (by decide) (by decide) ?_
      show Steps p.tables e below (T38.setTop (mkF m 160 #[.val (.long q1), .second, .val (.long q2), .second, .val (.long q3), .second, .val (.long q4), .second, .val (.int p4), .val (.long m2), .second, .val (.long a2), .second, .val (.int ((XT.ushr p4 (2 : Int32)) &&& (3 : Int32))), .val (.ref b30), .val (.ref b32), .val (.int (if (q1 = m2 ∧ q2 = a2) then (1 : Int32) else (0 : Int32))), .val .null, .val (.int (0 : Int32))] [(.int (1 : Int32))])) _
      exact retN X38 hx (t := .boolean) Bd.returns (by simp) (hb hby at_160) hr
    · show Q_own_law Z q1 q2 q3 q4 p4 m2 a2 ac kc fc lf h0 n0 _ T38.heap _
      rw [eh38]
      exact ⟨rfl, N38⟩
  · by_cases hk2 : ((XT.ushr p4 (2 : Int32)) &&& (3 : Int32)) = (2 : Int32)
    · obtain ⟨_, _, ⟨T40, L40, k40, n40⟩, -, X40, ⟨Lc40, hQ40, l40, y40, z40⟩, st40⟩ := Jvm.LawKit.callS X34 hx (y := (⟨"java/lang/Long", "valueOf", "(J)Ljava/lang/Long;"⟩ : MethodName)) hown (mvT hZ (hw _ (List.mem_of_getElem? (i := 20) rfl))) (mvT hZ (hw _ (List.mem_of_getElem? (i := 21) rfl))) (mvT hZ (hw _ (List.mem_of_getElem? (i := 22) rfl))) (mvT hZ (hw _ (List.mem_of_getElem? (i := 23) rfl))) (by decide) (backOf (W := 0) (own_vo l Z a0 hw [] q1 ac kc fc lf T33.heap n0 (Nat.le_trans (Nat.le_trans (Nat.le_trans (Nat.le_trans Z0 E30.1) K31.1) E32.1) K33.1) (S_c.ext ((((O0.ext E30).keep K31 (allS g_b30 all0)).ext E32).keep K33 (allS g_b32 all0)).2) (V_c.ext ((((O0.ext E30).keep K31 (allS g_b30 all0)).ext E32).keep K33 (allS g_b32 all0)).2) hc (fun j hj => ((HE j hj).ext ((((O0.ext E30).keep K31 (allS g_b30 all0)).ext E32).keep K33 (allS g_b32 all0)).2))) hZ (hw _ (List.mem_of_getElem? (i := 23) rfl)) (hw _ (List.mem_of_getElem? (i := 22) rfl)) (by decide) (by decide)) (g := (mkF m 113 #[.val (.long q1), .second, .val (.long q2), .second, .val (.long q3), .second, .val (.long q4), .second, .val (.int p4), .val (.long m2), .second, .val (.long a2), .second, .val (.int ((XT.ushr p4 (2 : Int32)) &&& (3 : Int32))), .val (.ref b30), .val (.ref b32), .val (.int (if (q1 = m2 ∧ q2 = a2) then (1 : Int32) else (0 : Int32))), .val (.ref b32), .val (.int (if (q1 = m2 ∧ q2 = a2) then (1 : Int32) else (0 : Int32)))] [(.long q1)])) rfl (by rw [hml]; rfl) (argsL := [(.long q1)]) (rest := []) (lenOf pd_4 rfl) rfl (by show 2 * 0 + _ ≤ _; exact Nat.le_of_eq rfl) (hb hby at_113) (fun _ _ => ⟨rfl, e34, (by decide : 2 + 1 ≤ _), (by decide : 4 + 1 ≤ _)⟩)
      dsimp only [Pt.U, Pt.locs, Pt.cells, Pt.slots] at X40 l40 y40 z40 st40 hQ40
      subst l40 y40 z40
      obtain ⟨bv40, rfl, N40q, K40, Ev40⟩ := hQ40
      have N40 := Fr.app N34 N40q
      obtain ⟨cq41, kq41, q41a, q41b, q41c⟩ := isOf hZ rfl ((((A30.keep K31).ext E32).keep K33).keep K40)
      obtain ⟨_, _, ⟨T41, L41, k41, n41⟩, -, X41, ⟨Lc41, hQ41, l41, y41, z41⟩, st41⟩ := X40.virtualBack hx (y := (⟨"com/example/madingley/madingley/capability/Capability", "equals", "(Ljava/lang/Object;)Z"⟩ : MethodName)) (z := (⟨"com/example/madingley/madingley/capability/Capability", "equals", "(Ljava/lang/Object;)Z"⟩ : MethodName)) hown (mvT hZ (hw _ (List.mem_of_getElem? (i := 13) rfl))) (mvT hZ (hw _ (List.mem_of_getElem? (i := 14) rfl))) (notFace_of_selects (args := #[]) (mvT hZ (hw _ (List.mem_of_getElem? (i := 16) rfl)))) (mvT hZ (hw _ (List.mem_of_getElem? (i := 16) rfl))) (mvT hZ (hw _ (List.mem_of_getElem? (i := 15) rfl))) (by decide) (backOf (W := 0) (own_eqL l Z a0 hw [] b30 bv40 T40.heap n0 (Nat.le_trans (Nat.le_trans (Nat.le_trans (Nat.le_trans (Nat.le_trans Z0 E30.1) K31.1) E32.1) K33.1) K40.1) Ev40) hZ (hw _ (List.mem_of_getElem? (i := 17) rfl)) (hw _ (List.mem_of_getElem? (i := 2) rfl)) (by decide) (by decide)) q41a q41c (g := (mkF m 125 #[.val (.long q1), .second, .val (.long q2), .second, .val (.long q3), .second, .val (.long q4), .second, .val (.int p4), .val (.long m2), .second, .val (.long a2), .second, .val (.int ((XT.ushr p4 (2 : Int32)) &&& (3 : Int32))), .val (.ref b30), .val (.ref b32), .val (.int (if (q1 = m2 ∧ q2 = a2) then (1 : Int32) else (0 : Int32))), .val (.ref bv40), .val (.int (0 : Int32))] [(.ref bv40), (.ref b30)])) rfl (by rw [hml]; rfl) (Steps.refl _) (argsL := [(.ref bv40)]) (rest := []) (lenOf pd_3 rfl) rfl (by show 2 * 0 + _ ≤ _; exact Nat.le_of_eq rfl) (hb hby at_125) (fun _ _ => ⟨rfl, rfl, (by decide : 3 + 0 ≤ _), (by decide : 5 + 0 ≤ _)⟩)
      dsimp only [Pt.U, Pt.locs, Pt.cells, Pt.slots] at X41 l41 y41 z41 st41 hQ41
      subst l41 y41 z41
      obtain ⟨rfl, N41q, eh41⟩ := hQ41
      have N41 := Fr.app N40 N41q
      obtain ⟨cq42, kq42, q42a, q42b, q42c⟩ := isOf hZ eh41 ((((A30.keep K31).ext E32).keep K33).keep K40)
      obtain ⟨_, _, ⟨T42, L42, k42, n42⟩, -, X42, ⟨Lc42, hQ42, l42, y42, z42⟩, st42⟩ := X41.virtualBack hx (y := (⟨"com/example/madingley/madingley/capability/Capability", "equals", "(Ljava/lang/Object;)Z"⟩ : MethodName)) (z := (⟨"com/example/madingley/madingley/capability/Capability", "equals", "(Ljava/lang/Object;)Z"⟩ : MethodName)) hown (mvT hZ (hw _ (List.mem_of_getElem? (i := 13) rfl))) (mvT hZ (hw _ (List.mem_of_getElem? (i := 14) rfl))) (notFace_of_selects (args := #[]) (mvT hZ (hw _ (List.mem_of_getElem? (i := 16) rfl)))) (mvT hZ (hw _ (List.mem_of_getElem? (i := 16) rfl))) (mvT hZ (hw _ (List.mem_of_getElem? (i := 15) rfl))) (by decide) (backOf (W := 0) (own_eqA l Z a0 hw [] b30 b30 q1 q2 q1 q2 T40.heap n0 (Nat.le_trans (Nat.le_trans (Nat.le_trans (Nat.le_trans (Nat.le_trans Z0 E30.1) K31.1) E32.1) K33.1) K40.1) ((((A30.keep K31).ext E32).keep K33).keep K40) (((Fm31.ext E32).keep K33 (ninS (Nat.ne_of_lt lt_b30_b32) nin0)).keep K40 nin0) (((Fa31.ext E32).keep K33 (ninS (Nat.ne_of_lt lt_b30_b32) nin0)).keep K40 nin0) (((Fm31.ext E32).keep K33 (ninS (Nat.ne_of_lt lt_b30_b32) nin0)).keep K40 nin0) (((Fa31.ext E32).keep K33 (ninS (Nat.ne_of_lt lt_b30_b32) nin0)).keep K40 nin0)) hZ (hw _ (List.mem_of_getElem? (i := 17) rfl)) (hw _ (List.mem_of_getElem? (i := 2) rfl)) (by decide) (by decide)) q42a q42c (g := (mkF m 137 #[.val (.long q1), .second, .val (.long q2), .second, .val (.long q3), .second, .val (.long q4), .second, .val (.int p4), .val (.long m2), .second, .val (.long a2), .second, .val (.int ((XT.ushr p4 (2 : Int32)) &&& (3 : Int32))), .val (.ref b30), .val (.ref b32), .val (.int (if (q1 = m2 ∧ q2 = a2) then (1 : Int32) else (0 : Int32))), .val (.ref bv40), .val (.int (0 : Int32))] [(.ref b30), (.ref b30)])) rfl (by rw [hml]; rfl) (Steps.refl _) (argsL := [(.ref b30)]) (rest := []) (lenOf pd_3 rfl) rfl (by show 2 * 0 + _ ≤ _; exact Nat.le_of_eq rfl) (hb hby at_137) (fun _ _ => ⟨rfl, eh41, (by decide : 3 + 0 ≤ _), (by decide : 5 + 0 ≤ _)⟩)
      dsimp only [Pt.U, Pt.locs, Pt.cells, Pt.slots] at X42 l42 y42 z42 st42 hQ42
      subst l42 y42 z42
      obtain ⟨rfl, N42q, eh42⟩ := hQ42
      have N42 := Fr.app N41 N42q
      obtain ⟨cq43, kq43, q43a, q43b, q43c⟩ := isOf hZ eh42 ((A32.keep K33).keep K40)
      obtain ⟨_, _, ⟨T43, L43, k43, n43⟩, -, X43, ⟨Lc43, hQ43, l43, y43, z43⟩, st43⟩ := X42.virtualBack hx (y := (⟨"com/example/madingley/madingley/capability/Capability", "equals", "(Ljava/lang/Object;)Z"⟩ : MethodName)) (z := (⟨"com/example/madingley/madingley/capability/Capability", "equals", "(Ljava/lang/Object;)Z"⟩ : MethodName)) hown (mvT hZ (hw _ (List.mem_of_getElem? (i := 13) rfl))) (mvT hZ (hw _ (List.mem_of_getElem? (i := 14) rfl))) (notFace_of_selects (args := #[]) (mvT hZ (hw _ (List.mem_of_getElem? (i := 16) rfl)))) (mvT hZ (hw _ (List.mem_of_getElem? (i := 16) rfl))) (mvT hZ (hw _ (List.mem_of_getElem? (i := 15) rfl))) (by decide) (backOf (W := 0) (own_eqA l Z a0 hw [] b32 b30 m2 a2 q1 q2 T40.heap n0 (Nat.le_trans (Nat.le_trans (Nat.le_trans (Nat.le_trans (Nat.le_trans Z0 E30.1) K31.1) E32.1) K33.1) K40.1) ((((A30.keep K31).ext E32).keep K33).keep K40) (Fm33.keep K40 nin0) (Fa33.keep K40 nin0) (((Fm31.ext E32).keep K33 (ninS (Nat.ne_of_lt lt_b30_b32) nin0)).keep K40 nin0) (((Fa31.ext E32).keep K33 (ninS (Nat.ne_of_lt lt_b30_b32) nin0)).keep K40 nin0)) hZ (hw _ (List.mem_of_getElem? (i := 17) rfl)) (hw _ (List.mem_of_getElem? (i := 2) rfl)) (by decide) (by decide)) q43a q43c (g := (mkF m 147 #[.val (.long q1), .second, .val (.long q2), .second, .val (.long q3), .second, .val (.long q4), .second, .val (.int p4), .val (.long m2), .second, .val (.long a2), .second, .val (.int ((XT.ushr p4 (2 : Int32)) &&& (3 : Int32))), .val (.ref b30), .val (.ref b32), .val (.int (if (q1 = m2 ∧ q2 = a2) then (1 : Int32) else (0 : Int32))), .val (.ref bv40), .val (.int (0 : Int32))] [(.ref b30), (.ref b32)])) rfl (by rw [hml]; rfl) (Steps.refl _) (argsL := [(.ref b30)]) (rest := []) (lenOf pd_3 rfl) rfl (by show 2 * 0 + _ ≤ _; exact Nat.le_of_eq rfl) (hb hby at_147) (fun _ _ => ⟨rfl, eh42, (by decide : 3 + 0 ≤ _), (by decide : 5 + 0 ≤ _)⟩)
      dsimp only [Pt.U, Pt.locs, Pt.cells, Pt.slots] at X43 l43 y43 z43 st43 hQ43
      subst l43 y43 z43
      obtain ⟨rfl, N43q, eh43⟩ := hQ43
      have N43 := Fr.app N42 N43q
      obtain ⟨fs, hr, hrun, hended, hW, hsame⟩ := X43.leave (v := some (.int (1 : Int32))) (fun h => by rw [Bd.returns] at h; cases h)
      refine ⟨_, _, pre0 _ ?_, hrun, hended, _, _, rfl, ?_, ⟨_, rfl⟩, hW, hsame.mono (by decide) (by decide)⟩
      · show Steps p.tables e below (s₁.setTop (mkF m 0 #[.val (.long q1), .second, .val (.long q2), .second, .val (.long q3), .second, .val (.long q4), .second, .val (.int p4), .unset, .unset, .unset, .unset, .unset, .unset, .unset, .unset, .unset, .unset] [])) _
        refine st28 _ ?_
        show Steps p.tables e below (T28.setTop (mkF m 13 #[.val (.long q1), .second, .val (.long q2), .second, .val (.long q3), .second, .val (.long q4), .second, .val (.int p4), .unset, .unset, .unset, .unset, .unset, .unset, .unset, .unset, .unset, .unset] [(.long (if (p4 &&& (1 : Int32)) = 0 then q3 else q1))])) _
        rw [hm2]
        show Steps p.tables e below (T28.setTop (mkF m 13 #[.val (.long q1), .second, .val (.long q2), .second, .val (.long q3), .second, .val (.long q4), .second, .val (.int p4), .unset, .unset, .unset, .unset, .unset, .unset, .unset, .unset, .unset, .unset] [(.long m2)])) _
        refine XT.lstore X28.here hx rfl (hb hby at_13) rfl (l' := #[.val (.long q1), .second, .val (.long q2), .second, .val (.long q3), .second, .val (.long q4), .second, .val (.int p4), .val (.long m2), .second, .unset, .unset, .unset, .unset, .unset, .unset, .unset, .unset]) rfl ?_
        show Steps p.tables e below (T28.setTop (mkF m 15 #[.val (.long q1), .second, .val (.long q2), .second, .val (.long q3), .second, .val (.long q4), .second, .val (.int p4), .val (.long m2), .second, .unset, .unset, .unset, .unset, .unset, .unset, .unset, .unset] [])) _
        refine st29 _ ?_
        show Steps p.tables e below (T29.setTop (mkF m 28 #[.val (.long q1), .second, .val (.long q2), .second, .val (.long q3), .second, .val (.long q4), .second, .val (.int p4), .val (.long m2), .second, .unset, .unset, .unset, .unset, .unset, .unset, .unset, .unset] [(.long (if (p4 &&& (2 : Int32)) = 0 then q4 else q2))])) _
        rw [ha2]
        show Steps p.tables e below (T29.setTop (mkF m 28 #[.val (.long q1), .second, .val (.long q2), .second, .val (.long q3), .second, .val (.long q4), .second, .val (.int p4), .val (.long m2), .second, .unset, .unset, .unset, .unset, .unset, .unset, .unset, .unset] [(.long a2)])) _
        refine XT.lstore X29.here hx rfl (hb hby at_28) rfl (l' := #[.val (.long q1), .second, .val (.long q2), .second, .val (.long q3), .second, .val (.long q4), .second, .val (.int p4), .val (.long m2), .second, .val (.long a2), .second, .unset, .unset, .unset, .unset, .unset, .unset]) rfl ?_
        show Steps p.tables e below (T29.setTop (mkF m 30 #[.val (.long q1), .second, .val (.long q2), .second, .val (.long q3), .second, .val (.long q4), .second, .val (.int p4), .val (.long m2), .second, .val (.long a2), .second, .unset, .unset, .unset, .unset, .unset, .unset] [])) _
        refine XS.iload X29.here hx rfl (hb hby at_30) rfl ?_
        show Steps p.tables e below (T29.setTop (mkF m 32 #[.val (.long q1), .second, .val (.long q2), .second, .val (.long q3), .second, .val (.long q4), .second, .val (.int p4), .val (.long m2), .second, .val (.long a2), .second, .unset, .unset, .unset, .unset, .unset, .unset] [(.int p4)])) _
        refine XS.iconst X29.here hx rfl (hb hby at_32) ?_
        show Steps p.tables e below (T29.setTop (mkF m 33 #[.val (.long q1), .second, .val (.long q2), .second, .val (.long q3), .second, .val (.long q4), .second, .val (.int p4), .val (.long m2), .second, .val (.long a2), .second, .unset, .unset, .unset, .unset, .unset, .unset] [(.int (2 : Int32)), (.int p4)])) _
        refine XT.iushr X29.here hx rfl (hb hby at_33) rfl ?_
        show Steps p.tables e below (T29.setTop (mkF m 34 #[.val (.long q1), .second, .val (.long q2), .second, .val (.long q3), .second, .val (.long q4), .second, .val (.int p4), .val (.long m2), .second, .val (.long a2), .second, .unset, .unset, .unset, .unset, .unset, .unset] [(.int (XT.ushr p4 (2 : Int32)))])) _
        refine XS.iconst X29.here hx rfl (hb hby at_34) ?_
        show Steps p.tables e below (T29.setTop (mkF m 35 #[.val (.long q1), .second, .val (.long q2), .second, .val (.long q3), .second, .val (.long q4), .second, .val (.int p4), .val (.long m2), .second, .val (.long a2), .second, .unset, .unset, .unset, .unset, .unset, .unset] [(.int (3 : Int32)), (.int (XT.ushr p4 (2 : Int32)))])) _
        refine XS.iand X29.here hx rfl (hb hby at_35) rfl ?_
        show Steps p.tables e below (T29.setTop (mkF m 36 #[.val (.long q1), .second, .val (.long q2), .second, .val (.long q3), .second, .val (.long q4), .second, .val (.int p4), .val (.long m2), .second, .val (.long a2), .second, .unset, .unset, .unset, .unset, .unset, .unset] [(.int ((XT.ushr p4 (2 : Int32)) &&& (3 : Int32)))])) _
        refine XS.istore X29.here hx rfl (hb hby at_36) rfl (l' := #[.val (.long q1), .second, .val (.long q2), .second, .val (.long q3), .second, .val (.long q4), .second, .val (.int p4), .val (.long m2), .second, .val (.long a2), .second, .val (.int ((XT.ushr p4 (2 : Int32)) &&& (3 : Int32))), .unset, .unset, .unset, .unset, .unset]) rfl ?_
        show Steps p.tables e below (T29.setTop (mkF m 38 #[.val (.long q1), .second, .val (.long q2), .second, .val (.long q3), .second, .val (.long q4), .second, .val (.int p4), .val (.long m2), .second, .val (.long a2), .second, .val (.int ((XT.ushr p4 (2 : Int32)) &&& (3 : Int32))), .unset, .unset, .unset, .unset, .unset] [])) _
        refine st30 _ ?_
        show Steps p.tables e below (T30.setTop (mkF m 41 #[.val (.long q1), .second, .val (.long q2), .second, .val (.long q3), .second, .val (.long q4), .second, .val (.int p4), .val (.long m2), .second, .val (.long a2), .second, .val (.int ((XT.ushr p4 (2 : Int32)) &&& (3 : Int32))), .unset, .unset, .unset, .unset, .unset] [(.ref b30)])) _
        refine XS.dup X30.here hx rfl (hb hby at_41) rfl rfl ?_
        show Steps p.tables e below (T30.setTop (mkF m 42 #[.val (.long q1), .second, .val (.long q2), .second, .val (.long q3), .second, .val (.long q4), .second, .val (.int p4), .val (.long m2), .second, .val (.long a2), .second, .val (.int ((XT.ushr p4 (2 : Int32)) &&& (3 : Int32))), .unset, .unset, .unset, .unset, .unset] [(.ref b30), (.ref b30)])) _
        refine XT.lloadN X30.here hx rfl (hb hby at_42) rfl ?_
        show Steps p.tables e below (T30.setTop (mkF m 43 #[.val (.long q1), .second, .val (.long q2), .second, .val (.long q3), .second, .val (.long q4), .second, .val (.int p4), .val (.long m2), .second, .val (.long a2), .second, .val (.int ((XT.ushr p4 (2 : Int32)) &&& (3 : Int32))), .unset, .unset, .unset, .unset, .unset] [(.long q1), (.ref b30), (.ref b30)])) _
        refine XT.lloadN X30.here hx rfl (hb hby at_43) rfl ?_
        show Steps p.tables e below (T30.setTop (mkF m 44 #[.val (.long q1), .second, .val (.long q2), .second, .val (.long q3), .second, .val (.long q4), .second, .val (.int p4), .val (.long m2), .second, .val (.long a2), .second, .val (.int ((XT.ushr p4 (2 : Int32)) &&& (3 : Int32))), .unset, .unset, .unset, .unset, .unset] [(.long q2), (.long q1), (.ref b30), (.ref b30)])) _
        refine st31.trans ?_
        show Steps p.tables e below (T31.setTop (mkF m 47 #[.val (.long q1), .second, .val (.long q2), .second, .val (.long q3), .second, .val (.long q4), .second, .val (.int p4), .val (.long m2), .second, .val (.long a2), .second, .val (.int ((XT.ushr p4 (2 : Int32)) &&& (3 : Int32))), .unset, .unset, .unset, .unset, .unset] [(.ref b30)])) _
        refine XS.astore X31.here hx rfl (hb hby at_47) rfl rfl (l' := #[.val (.long q1), .second, .val (.long q2), .second, .val (.long q3), .second, .val (.long q4), .second, .val (.int p4), .val (.long m2), .second, .val (.long a2), .second, .val (.int ((XT.ushr p4 (2 : Int32)) &&& (3 : Int32))), .val (.ref b30), .unset, .unset, .unset, .unset]) rfl ?_
        show Steps p.tables e below (T31.setTop (mkF m 49 #[.val (.long q1), .second, .val (.long q2), .second, .val (.long q3), .second, .val (.long q4), .second, .val (.int p4), .val (.long m2), .second, .val (.long a2), .second, .val (.int ((XT.ushr p4 (2 : Int32)) &&& (3 : Int32))), .val (.ref b30), .unset, .unset, .unset, .unset] [])) _
        refine st32 _ ?_
        show Steps p.tables e below (T32.setTop (mkF m 52 #[.val (.long q1), .second, .val (.long q2), .second, .val (.long q3), .second, .val (.long q4), .second, .val (.int p4), .val (.long m2), .second, .val (.long a2), .second, .val (.int ((XT.ushr p4 (2 : Int32)) &&& (3 : Int32))), .val (.ref b30), .unset, .unset, .unset, .unset] [(.ref b32)])) _
        refine XS.dup X32.here hx rfl (hb hby at_52) rfl rfl ?_
        show Steps p.tables e below (T32.setTop (mkF m 53 #[.val (.long q1), .second, .val (.long q2), .second, .val (.long q3), .second, .val (.long q4), .second, .val (.int p4), .val (.long m2), .second, .val (.long a2), .second, .val (.int ((XT.ushr p4 (2 : Int32)) &&& (3 : Int32))), .val (.ref b30), .unset, .unset, .unset, .unset] [(.ref b32), (.ref b32)])) _
        refine XT.lload X32.here hx rfl (hb hby at_53) rfl ?_
        show Steps p.tables e below (T32.setTop (mkF m 55 #[.val (.long q1), .second, .val (.long q2), .second, .val (.long q3), .second, .val (.long q4), .second, .val (.int p4), .val (.long m2), .second, .val (.long a2), .second, .val (.int ((XT.ushr p4 (2 : Int32)) &&& (3 : Int32))), .val (.ref b30), .unset, .unset, .unset, .unset] [(.long m2), (.ref b32), (.ref b32)])) _
        refine XT.lload X32.here hx rfl (hb hby at_55) rfl ?_
        show Steps p.tables e below (T32.setTop (mkF m 57 #[.val (.long q1), .second, .val (.long q2), .second, .val (.long q3), .second, .val (.long q4), .second, .val (.int p4), .val (.long m2), .second, .val (.long a2), .second, .val (.int ((XT.ushr p4 (2 : Int32)) &&& (3 : Int32))), .val (.ref b30), .unset, .unset, .unset, .unset] [(.long a2), (.long m2), (.ref b32), (.ref b32)])) _
        refine st33.trans ?_
        show Steps p.tables e below (T33.setTop (mkF m 60 #[.val (.long q1), .second, .val (.long q2), .second, .val (.long q3), .second, .val (.long q4), .second, .val (.int p4), .val (.long m2), .second, .val (.long a2), .second, .val (.int ((XT.ushr p4 (2 : Int32)) &&& (3 : Int32))), .val (.ref b30), .unset, .unset, .unset, .unset] [(.ref b32)])) _
        refine XS.astore X33.here hx rfl (hb hby at_60) rfl rfl (l' := #[.val (.long q1), .second, .val (.long q2), .second, .val (.long q3), .second, .val (.long q4), .second, .val (.int p4), .val (.long m2), .second, .val (.long a2), .second, .val (.int ((XT.ushr p4 (2 : Int32)) &&& (3 : Int32))), .val (.ref b30), .val (.ref b32), .unset, .unset, .unset]) rfl ?_
        show Steps p.tables e below (T33.setTop (mkF m 62 #[.val (.long q1), .second, .val (.long q2), .second, .val (.long q3), .second, .val (.long q4), .second, .val (.int p4), .val (.long m2), .second, .val (.long a2), .second, .val (.int ((XT.ushr p4 (2 : Int32)) &&& (3 : Int32))), .val (.ref b30), .val (.ref b32), .unset, .unset, .unset] [])) _
        refine st34 _ ?_
        show Steps p.tables e below (T34.setTop (mkF m 81 #[.val (.long q1), .second, .val (.long q2), .second, .val (.long q3), .second, .val (.long q4), .second, .val (.int p4), .val (.long m2), .second, .val (.long a2), .second, .val (.int ((XT.ushr p4 (2 : Int32)) &&& (3 : Int32))), .val (.ref b30), .val (.ref b32), .unset, .unset, .unset] [(.int (if (q1 = m2 ∧ q2 = a2) then (1 : Int32) else (0 : Int32)))])) _
        refine XS.istore X34.here hx rfl (hb hby at_81) rfl (l' := #[.val (.long q1), .second, .val (.long q2), .second, .val (.long q3), .second, .val (.long q4), .second, .val (.int p4), .val (.long m2), .second, .val (.long a2), .second, .val (.int ((XT.ushr p4 (2 : Int32)) &&& (3 : Int32))), .val (.ref b30), .val (.ref b32), .val (.int (if (q1 = m2 ∧ q2 = a2) then (1 : Int32) else (0 : Int32))), .unset, .unset]) rfl ?_
        show Steps p.tables e below (T34.setTop (mkF m 83 #[.val (.long q1), .second, .val (.long q2), .second, .val (.long q3), .second, .val (.long q4), .second, .val (.int p4), .val (.long m2), .second, .val (.long a2), .second, .val (.int ((XT.ushr p4 (2 : Int32)) &&& (3 : Int32))), .val (.ref b30), .val (.ref b32), .val (.int (if (q1 = m2 ∧ q2 = a2) then (1 : Int32) else (0 : Int32))), .unset, .unset] [])) _
        refine XS.aload X34.here hx rfl (hb hby at_83) rfl rfl ?_
        show Steps p.tables e below (T34.setTop (mkF m 85 #[.val (.long q1), .second, .val (.long q2), .second, .val (.long q3), .second, .val (.long q4), .second, .val (.int p4), .val (.long m2), .second, .val (.long a2), .second, .val (.int ((XT.ushr p4 (2 : Int32)) &&& (3 : Int32))), .val (.ref b30), .val (.ref b32), .val (.int (if (q1 = m2 ∧ q2 = a2) then (1 : Int32) else (0 : Int32))), .unset, .unset] [(.ref b32)])) _
        refine XS.astore X34.here hx rfl (hb hby at_85) rfl rfl (l' := #[.val (.long q1), .second, .val (.long q2), .second, .val (.long q3), .second, .val (.long q4), .second, .val (.int p4), .val (.long m2), .second, .val (.long a2), .second, .val (.int ((XT.ushr p4 (2 : Int32)) &&& (3 : Int32))), .val (.ref b30), .val (.ref b32), .val (.int (if (q1 = m2 ∧ q2 = a2) then (1 : Int32) else (0 : Int32))), .val (.ref b32), .unset]) rfl ?_
        show Steps p.tables e below (T34.setTop (mkF m 87 #[.val (.long q1), .second, .val (.long q2), .second, .val (.long q3), .second, .val (.long q4), .second, .val (.int p4), .val (.long m2), .second, .val (.long a2), .second, .val (.int ((XT.ushr p4 (2 : Int32)) &&& (3 : Int32))), .val (.ref b30), .val (.ref b32), .val (.int (if (q1 = m2 ∧ q2 = a2) then (1 : Int32) else (0 : Int32))), .val (.ref b32), .unset] [])) _
        refine XS.iload X34.here hx rfl (hb hby at_87) rfl ?_
        show Steps p.tables e below (T34.setTop (mkF m 89 #[.val (.long q1), .second, .val (.long q2), .second, .val (.long q3), .second, .val (.long q4), .second, .val (.int p4), .val (.long m2), .second, .val (.long a2), .second, .val (.int ((XT.ushr p4 (2 : Int32)) &&& (3 : Int32))), .val (.ref b30), .val (.ref b32), .val (.int (if (q1 = m2 ∧ q2 = a2) then (1 : Int32) else (0 : Int32))), .val (.ref b32), .unset] [(.int (if (q1 = m2 ∧ q2 = a2) then (1 : Int32) else (0 : Int32)))])) _
        refine XS.istore X34.here hx rfl (hb hby at_89) rfl (l' := #[.val (.long q1), .second, .val (.long q2), .second, .val (.long q3), .second, .val (.long q4), .second, .val (.int p4), .val (.long m2), .second, .val (.long a2), .second, .val (.int ((XT.ushr p4 (2 : Int32)) &&& (3 : Int32))), .val (.ref b30), .val (.ref b32), .val (.int (if (q1 = m2 ∧ q2 = a2) then (1 : Int32) else (0 : Int32))), .val (.ref b32), .val (.int (if (q1 = m2 ∧ q2 = a2) then (1 : Int32) else (0 : Int32)))]) rfl ?_
        show Steps p.tables e below (T34.setTop (mkF m 91 #[.val (.long q1), .second, .val (.long q2), .second, .val (.long q3), .second, .val (.long q4), .second, .val (.int p4), .val (.long m2), .second, .val (.long a2), .second, .val (.int ((XT.ushr p4 (2 : Int32)) &&& (3 : Int32))), .val (.ref b30), .val (.ref b32), .val (.int (if (q1 = m2 ∧ q2 = a2) then (1 : Int32) else (0 : Int32))), .val (.ref b32), .val (.int (if (q1 = m2 ∧ q2 = a2) then (1 : Int32) else (0 : Int32)))] [])) _
        refine XS.iload X34.here hx rfl (hb hby at_91) rfl ?_
        show Steps p.tables e below (T34.setTop (mkF m 93 #[.val (.long q1), .second, .val (.long q2), .second, .val (.long q3), .second, .val (.long q4), .second, .val (.int p4), .val (.long m2), .second, .val (.long a2), .second, .val (.int ((XT.ushr p4 (2 : Int32)) &&& (3 : Int32))), .val (.ref b30), .val (.ref b32), .val (.int (if (q1 = m2 ∧ q2 = a2) then (1 : Int32) else (0 : Int32))), .val (.ref b32), .val (.int (if (q1 = m2 ∧ q2 = a2) then (1 : Int32) else (0 : Int32)))] [(.int ((XT.ushr p4 (2 : Int32)) &&& (3 : Int32)))])) _
        refine XS.iconst X34.here hx rfl (hb hby at_93) ?_
        show Steps p.tables e below (T34.setTop (mkF m 94 #[.val (.long q1), .second, .val (.long q2), .second, .val (.long q3), .second, .val (.long q4), .second, .val (.int p4), .val (.long m2), .second, .val (.long a2), .second, .val (.int ((XT.ushr p4 (2 : Int32)) &&& (3 : Int32))), .val (.ref b30), .val (.ref b32), .val (.int (if (q1 = m2 ∧ q2 = a2) then (1 : Int32) else (0 : Int32))), .val (.ref b32), .val (.int (if (q1 = m2 ∧ q2 = a2) then (1 : Int32) else (0 : Int32)))] [(.int (1 : Int32)), (.int ((XT.ushr p4 (2 : Int32)) &&& (3 : Int32)))])) _
        refine XS.icmpYes X34.here hx rfl (pc0 := 94) (pc' := 106) rfl (hb hby at_94) rfl (XT.ii_ne_t hk1) (by decide) (by decide) ?_
        show Steps p.tables e below (T34.setTop (mkF m 106 #[.val (.long q1), .second, .val (.long q2), .second, .val (.long q3), .second, .val (.long q4), .second, .val (.int p4), .val (.long m2), .second, .val (.long a2), .second, .val (.int ((XT.ushr p4 (2 : Int32)) &&& (3 : Int32))), .val (.ref b30), .val (.ref b32), .val (.int (if (q1 = m2 ∧ q2 = a2) then (1 : Int32) else (0 : Int32))), .val (.ref b32), .val (.int (if (q1 = m2 ∧ q2 = a2) then (1 : Int32) else (0 : Int32)))] [])) _
        refine XS.iload X34.here hx rfl (hb hby at_106) rfl ?_
        show Steps p.tables e below (T34.setTop (mkF m 108 #[.val (.long q1), .second, .val (.long q2), .second, .val (.long q3), .second, .val (.long q4), .second, .val (.int p4), .val (.long m2), .second, .val (.long a2), .second, .val (.int ((XT.ushr p4 (2 : Int32)) &&& (3 : Int32))), .val (.ref b30), .val (.ref b32), .val (.int (if (q1 = m2 ∧ q2 = a2) then (1 : Int32) else (0 : Int32))), .val (.ref b32), .val (.int (if (q1 = m2 ∧ q2 = a2) then (1 : Int32) else (0 : Int32)))] [(.int ((XT.ushr p4 (2 : Int32)) &&& (3 : Int32)))])) _
        refine XS.iconst X34.here hx rfl (hb hby at_108) ?_
        show Steps p.tables e below (T34.setTop (mkF m 109 #[.val (.long q1), .second, .val (.long q2), .second, .val (.long q3), .second, .val (.long q4), .second, .val (.int p4), .val (.long m2), .second, .val (.long a2), .second, .val (.int ((XT.ushr p4 (2 : Int32)) &&& (3 : Int32))), .val (.ref b30), .val (.ref b32), .val (.int (if (q1 = m2 ∧ q2 = a2) then (1 : Int32) else (0 : Int32))), .val (.ref b32), .val (.int (if (q1 = m2 ∧ q2 = a2) then (1 : Int32) else (0 : Int32)))] [(.int (2 : Int32)), (.int ((XT.ushr p4 (2 : Int32)) &&& (3 : Int32)))])) _
        refine XS.icmpNo X34.here hx rfl (hb hby at_109) rfl (XT.ii_ne_f hk2) ?_
        show Steps p.tables e below (T34.setTop (mkF m 112 #[.val (.long q1), .second, .val (.long q2), .second, .val (.long q3), .second, .val (.long q4), .second, .val (.int p4), .val (.long m2), .second, .val (.long a2), .second, .val (.int ((XT.ushr p4 (2 : Int32)) &&& (3 : Int32))), .val (.ref b30), .val (.ref b32), .val (.int (if (q1 = m2 ∧ q2 = a2) then (1 : Int32) else (0 : Int32))), .val (.ref b32), .val (.int (if (q1 = m2 ∧ q2 = a2) then (1 : Int32) else (0 : Int32)))] [])) _
        refine XT.lloadN X34.here hx rfl (hb hby at_112) rfl ?_
        show Steps p.tables e below (T34.setTop (mkF m 113 #[.val (.long q1), .second, .val (.long q2), .second, .val (.long q3), .second, .val (.long q4), .second, .val (.int p4), .val (.long m2), .second, .val (.long a2), .second, .val (.int ((XT.ushr p4 (2 : Int32)) &&& (3 : Int32))), .val (.ref b30), .val (.ref b32), .val (.int (if (q1 = m2 ∧ q2 = a2) then (1 : Int32) else (0 : Int32))), .val (.ref b32), .val (.int (if (q1 = m2 ∧ q2 = a2) then (1 : Int32) else (0 : Int32)))] [(.long q1)])) _
        refine st40 _ ?_
        show Steps p.tables e below (T40.setTop (mkF m 116 #[.val (.long q1), .second, .val (.long q2), .second, .val (.long q3), .second, .val (.long q4), .second, .val (.int p4), .val (.long m2), .second, .val (.long a2), .second, .val (.int ((XT.ushr p4 (2 : Int32)) &&& (3 : Int32))), .val (.ref b30), .val (.ref b32), .val (.int (if (q1 = m2 ∧ q2 = a2) then (1 : Int32) else (0 : Int32))), .val (.ref b32), .val (.int (if (q1 = m2 ∧ q2 = a2) then (1 : Int32) else (0 : Int32)))] [(.ref bv40)])) _
        refine XS.astore X40.here hx rfl (hb hby at_116) rfl rfl (l' := #[.val (.long q1), .second, .val (.long q2), .second, .val (.long q3), .second, .val (.long q4), .second, .val (.int p4), .val (.long m2), .second, .val (.long a2), .second, .val (.int ((XT.ushr p4 (2 : Int32)) &&& (3 : Int32))), .val (.ref b30), .val (.ref b32), .val (.int (if (q1 = m2 ∧ q2 = a2) then (1 : Int32) else (0 : Int32))), .val (.ref bv40), .val (.int (if (q1 = m2 ∧ q2 = a2) then (1 : Int32) else (0 : Int32)))]) rfl ?_
        show Steps p.tables e below (T40.setTop (mkF m 118 #[.val (.long q1), .second, .val (.long q2), .second, .val (.long q3), .second, .val (.long q4), .second, .val (.int p4), .val (.long m2), .second, .val (.long a2), .second, .val (.int ((XT.ushr p4 (2 : Int32)) &&& (3 : Int32))), .val (.ref b30), .val (.ref b32), .val (.int (if (q1 = m2 ∧ q2 = a2) then (1 : Int32) else (0 : Int32))), .val (.ref bv40), .val (.int (if (q1 = m2 ∧ q2 = a2) then (1 : Int32) else (0 : Int32)))] [])) _
        refine XS.iconst X40.here hx rfl (hb hby at_118) ?_
        show Steps p.tables e below (T40.setTop (mkF m 119 #[.val (.long q1), .second, .val (.long q2), .second, .val (.long q3), .second, .val (.long q4), .second, .val (.int p4), .val (.long m2), .second, .val (.long a2), .second, .val (.int ((XT.ushr p4 (2 : Int32)) &&& (3 : Int32))), .val (.ref b30), .val (.ref b32), .val (.int (if (q1 = m2 ∧ q2 = a2) then (1 : Int32) else (0 : Int32))), .val (.ref bv40), .val (.int (if (q1 = m2 ∧ q2 = a2) then (1 : Int32) else (0 : Int32)))] [(.int (0 : Int32))])) _
        refine XS.istore X40.here hx rfl (hb hby at_119) rfl (l' := #[.val (.long q1), .second, .val (.long q2), .second, .val (.long q3), .second, .val (.long q4), .second, .val (.int p4), .val (.long m2), .second, .val (.long a2), .second, .val (.int ((XT.ushr p4 (2 : Int32)) &&& (3 : Int32))), .val (.ref b30), .val (.ref b32), .val (.int (if (q1 = m2 ∧ q2 = a2) then (1 : Int32) else (0 : Int32))), .val (.ref bv40), .val (.int (0 : Int32))]) rfl ?_
        show Steps p.tables e below (T40.setTop (mkF m 121 #[.val (.long q1), .second, .val (.long q2), .second, .val (.long q3), .second, .val (.long q4), .second, .val (.int p4), .val (.long m2), .second, .val (.long a2), .second, .val (.int ((XT.ushr p4 (2 : Int32)) &&& (3 : Int32))), .val (.ref b30), .val (.ref b32), .val (.int (if (q1 = m2 ∧ q2 = a2) then (1 : Int32) else (0 : Int32))), .val (.ref bv40), .val (.int (0 : Int32))] [])) _
        refine XS.aload X40.here hx rfl (hb hby at_121) rfl rfl ?_
        show Steps p.tables e below (T40.setTop (mkF m 123 #[.val (.long q1), .second, .val (.long q2), .second, .val (.long q3), .second, .val (.long q4), .second, .val (.int p4), .val (.long m2), .second, .val (.long a2), .second, .val (.int ((XT.ushr p4 (2 : Int32)) &&& (3 : Int32))), .val (.ref b30), .val (.ref b32), .val (.int (if (q1 = m2 ∧ q2 = a2) then (1 : Int32) else (0 : Int32))), .val (.ref bv40), .val (.int (0 : Int32))] [(.ref b30)])) _
        refine XS.aload X40.here hx rfl (hb hby at_123) rfl rfl ?_
        show Steps p.tables e below (T40.setTop (mkF m 125 #[.val (.long q1), .second, .val (.long q2), .second, .val (.long q3), .second, .val (.long q4), .second, .val (.int p4), .val (.long m2), .second, .val (.long a2), .second, .val (.int ((XT.ushr p4 (2 : Int32)) &&& (3 : Int32))), .val (.ref b30), .val (.ref b32), .val (.int (if (q1 = m2 ∧ q2 = a2) then (1 : Int32) else (0 : Int32))), .val (.ref bv40), .val (.int (0 : Int32))] [(.ref bv40), (.ref b30)])) _
        refine st41.trans ?_
        show Steps p.tables e below (T41.setTop (mkF m 128 #[.val (.long q1), .second, .val (.long q2), .second, .val (.long q3), .second, .val (.long q4), .second, .val (.int p4), .val (.long m2), .second, .val (.long a2), .second, .val (.int ((XT.ushr p4 (2 : Int32)) &&& (3 : Int32))), .val (.ref b30), .val (.ref b32), .val (.int (if (q1 = m2 ∧ q2 = a2) then (1 : Int32) else (0 : Int32))), .val (.ref bv40), .val (.int (0 : Int32))] [(.int (0 : Int32))])) _
        refine XS.iload X41.here hx rfl (hb hby at_128) rfl ?_
        show Steps p.tables e below (T41.setTop (mkF m 130 #[.val (.long q1), .second, .val (.long q2), .second, .val (.long q3), .second, .val (.long q4), .second, .val (.int p4), .val (.long m2), .second, .val (.long a2), .second, .val (.int ((XT.ushr p4 (2 : Int32)) &&& (3 : Int32))), .val (.ref b30), .val (.ref b32), .val (.int (if (q1 = m2 ∧ q2 = a2) then (1 : Int32) else (0 : Int32))), .val (.ref bv40), .val (.int (0 : Int32))] [(.int (0 : Int32)), (.int (0 : Int32))])) _
        refine XS.icmpNo X41.here hx rfl (hb hby at_130) rfl (XT.ii_ne_f (by decide)) ?_
        show Steps p.tables e below (T41.setTop (mkF m 133 #[.val (.long q1), .second, .val (.long q2), .second, .val (.long q3), .second, .val (.long q4), .second, .val (.int p4), .val (.long m2), .second, .val (.long a2), .second, .val (.int ((XT.ushr p4 (2 : Int32)) &&& (3 : Int32))), .val (.ref b30), .val (.ref b32), .val (.int (if (q1 = m2 ∧ q2 = a2) then (1 : Int32) else (0 : Int32))), .val (.ref bv40), .val (.int (0 : Int32))] [])) _
        refine XS.aload X41.here hx rfl (hb hby at_133) rfl rfl ?_
        show Steps p.tables e below (T41.setTop (mkF m 135 #[.val (.long q1), .second, .val (.long q2), .second, .val (.long q3), .second, .val (.long q4), .second, .val (.int p4), .val (.long m2), .second, .val (.long a2), .second, .val (.int ((XT.ushr p4 (2 : Int32)) &&& (3 : Int32))), .val (.ref b30), .val (.ref b32), .val (.int (if (q1 = m2 ∧ q2 = a2) then (1 : Int32) else (0 : Int32))), .val (.ref bv40), .val (.int (0 : Int32))] [(.ref b30)])) _
        refine XS.aload X41.here hx rfl (hb hby at_135) rfl rfl ?_
        show Steps p.tables e below (T41.setTop (mkF m 137 #[.val (.long q1), .second, .val (.long q2), .second, .val (.long q3), .second, .val (.long q4), .second, .val (.int p4), .val (.long m2), .second, .val (.long a2), .second, .val (.int ((XT.ushr p4 (2 : Int32)) &&& (3 : Int32))), .val (.ref b30), .val (.ref b32), .val (.int (if (q1 = m2 ∧ q2 = a2) then (1 : Int32) else (0 : Int32))), .val (.ref bv40), .val (.int (0 : Int32))] [(.ref b30), (.ref b30)])) _
        refine st42.trans ?_
        show Steps p.tables e below (T42.setTop (mkF m 140 #[.val (.long q1), .second, .val (.long q2), .second, .val (.long q3), .second, .val (.long q4), .second, .val (.int p4), .val (.long m2), .second, .val (.long a2), .second, .val (.int ((XT.ushr p4 (2 : Int32)) &&& (3 : Int32))), .val (.ref b30), .val (.ref b32), .val (.int (if (q1 = m2 ∧ q2 = a2) then (1 : Int32) else (0 : Int32))), .val (.ref bv40), .val (.int (0 : Int32))] [(.int (if (q1 = q1 ∧ q2 = q2) then (1 : Int32) else (0 : Int32)))])) _
        refine XS.ifNo X42.here hx rfl (hb hby at_140) rfl (XT.i0_eq_f (by rw [if_pos ⟨rfl, rfl⟩]; decide)) ?_
        show Steps p.tables e below (T42.setTop (mkF m 143 #[.val (.long q1), .second, .val (.long q2), .second, .val (.long q3), .second, .val (.long q4), .second, .val (.int p4), .val (.long m2), .second, .val (.long a2), .second, .val (.int ((XT.ushr p4 (2 : Int32)) &&& (3 : Int32))), .val (.ref b30), .val (.ref b32), .val (.int (if (q1 = m2 ∧ q2 = a2) then (1 : Int32) else (0 : Int32))), .val (.ref bv40), .val (.int (0 : Int32))] [])) _
        refine XS.aload X42.here hx rfl (hb hby at_143) rfl rfl ?_
        show Steps p.tables e below (T42.setTop (mkF m 145 #[.val (.long q1), .second, .val (.long q2), .second, .val (.long q3), .second, .val (.long q4), .second, .val (.int p4), .val (.long m2), .second, .val (.long a2), .second, .val (.int ((XT.ushr p4 (2 : Int32)) &&& (3 : Int32))), .val (.ref b30), .val (.ref b32), .val (.int (if (q1 = m2 ∧ q2 = a2) then (1 : Int32) else (0 : Int32))), .val (.ref bv40), .val (.int (0 : Int32))] [(.ref b32)])) _
        refine XS.aload X42.here hx rfl (hb hby at_145) rfl rfl ?_
        show Steps p.tables e below (T42.setTop (mkF m 147 #[.val (.long q1), .second, .val (.long q2), .second, .val (.long q3), .second, .val (.long q4), .second, .val (.int p4), .val (.long m2), .second, .val (.long a2), .second, .val (.int ((XT.ushr p4 (2 : Int32)) &&& (3 : Int32))), .val (.ref b30), .val (.ref b32), .val (.int (if (q1 = m2 ∧ q2 = a2) then (1 : Int32) else (0 : Int32))), .val (.ref bv40), .val (.int (0 : Int32))] [(.ref b30), (.ref b32)])) _
        refine st43.trans ?_
        show Steps p.tables e below (T43.setTop (mkF m 150 #[.val (.long q1), .second, .val (.long q2), .second, .val (.long q3), .second, .val (.long q4), .second, .val (.int p4), .val (.long m2), .second, .val (.long a2), .second, .val (.int ((XT.ushr p4 (2 : Int32)) &&& (3 : Int32))), .val (.ref b30), .val (.ref b32), .val (.int (if (q1 = m2 ∧ q2 = a2) then (1 : Int32) else (0 : Int32))), .val (.ref bv40), .val (.int (0 : Int32))] [(.int (if (q1 = m2 ∧ q2 = a2) then (1 : Int32) else (0 : Int32)))])) _
        refine XS.iload X43.here hx rfl (hb hby at_150) rfl ?_
        show Steps p.tables e below (T43.setTop (mkF m 152 #[.val (.long q1), .second, .val (.long q2), .second, .val (.long q3), .second, .val (.long q4), .second, .val (.int p4), .val (.long m2), .second, .val (.long a2), .second, .val (.int ((XT.ushr p4 (2 : Int32)) &&& (3 : Int32))), .val (.ref b30), .val (.ref b32), .val (.int (if (q1 = m2 ∧ q2 = a2) then (1 : Int32) else (0 : Int32))), .val (.ref bv40), .val (.int (0 : Int32))] [(.int (if (q1 = m2 ∧ q2 = a2) then (1 : Int32) else (0 : Int32))), (.int (if (q1 = m2 ∧ q2 = a2) then (1 : Int32) else (0 : Int32)))])) _
        refine XS.icmpNo X43.here hx rfl (hb hby at_152) rfl (XT.ii_ne_f rfl) ?_
        show Steps p.tables e below (T43.setTop (mkF m 155 #[.val (.long q1), .second, .val (.long q2), .second, .val (.long q3), .second, .val (.long q4), .second, .val (.int p4), .val (.long m2), .second, .val (.long a2), .second, .val (.int ((XT.ushr p4 (2 : Int32)) &&& (3 : Int32))), .val (.ref b30), .val (.ref b32), .val (.int (if (q1 = m2 ∧ q2 = a2) then (1 : Int32) else (0 : Int32))), .val (.ref bv40), .val (.int (0 : Int32))] [])) _
        refine XS.iconst X43.here hx rfl (hb hby at_155) ?_
        show Steps p.tables e below (T43.setTop (mkF m 156 #[.val (.long q1), .second, .val (.long q2), .second, .val (.long q3), .second, .val (.long q4), .second, .val (.int p4), .val (.long m2), .second, .val (.long a2), .second, .val (.int ((XT.ushr p4 (2 : Int32)) &&& (3 : Int32))), .val (.ref b30), .val (.ref b32), .val (.int (if (q1 = m2 ∧ q2 = a2) then (1 : Int32) else (0 : Int32))), .val (.ref bv40), .val (.int (0 : Int32))] [(.int (1 : Int32))])) _
        refine XS.goto X43.here hx rfl (pc0 := 156) (pc' := 160) rfl (hb hby at_156) (by decide) (by decide) ?_
        show Steps p.tables e below (T43.setTop (mkF m 160 #[.val (.long q1), .second, .val (.long q2), .second, .val (.long q3), .second, .val (.long q4), .second, .val (.int p4), .val (.long m2), .second, .val (.long a2), .second, .val (.int ((XT.ushr p4 (2 : Int32)) &&& (3 : Int32))), .val (.ref b30), .val (.ref b32), .val (.int (if (q1 = m2 ∧ q2 = a2) then (1 : Int32) else (0 : Int32))), .val (.ref bv40), .val (.int (0 : Int32))] [(.int (1 : Int32))])) _
        exact retN X43 hx (t := .boolean) Bd.returns (by simp) (hb hby at_160) hr
      · show Q_own_law Z q1 q2 q3 q4 p4 m2 a2 ac kc fc lf h0 n0 _ T43.heap _
        rw [eh43]
        exact ⟨rfl, N43⟩
    · obtain ⟨cq44, kq44, q44a, q44b, q44c⟩ := isOf hZ e34 (((A30.keep K31).ext E32).keep K33)
      obtain ⟨_, _, ⟨T44, L44, k44, n44⟩, -, X44, ⟨Lc44, hQ44, l44, y44, z44⟩, st44⟩ := X34.virtualBack hx (y := (⟨"com/example/madingley/madingley/capability/Capability", "equals", "(Ljava/lang/Object;)Z"⟩ : MethodName)) (z := (⟨"com/example/madingley/madingley/capability/Capability", "equals", "(Ljava/lang/Object;)Z"⟩ : MethodName)) hown (mvT hZ (hw _ (List.mem_of_getElem? (i := 13) rfl))) (mvT hZ (hw _ (List.mem_of_getElem? (i := 14) rfl))) (notFace_of_selects (args := #[]) (mvT hZ (hw _ (List.mem_of_getElem? (i := 16) rfl)))) (mvT hZ (hw _ (List.mem_of_getElem? (i := 16) rfl))) (mvT hZ (hw _ (List.mem_of_getElem? (i := 15) rfl))) (by decide) (backOf (W := 0) (own_eqA l Z a0 hw [] b30 b32 q1 q2 m2 a2 T33.heap n0 (Nat.le_trans (Nat.le_trans (Nat.le_trans (Nat.le_trans Z0 E30.1) K31.1) E32.1) K33.1) (A32.keep K33) ((Fm31.ext E32).keep K33 (ninS (Nat.ne_of_lt lt_b30_b32) nin0)) ((Fa31.ext E32).keep K33 (ninS (Nat.ne_of_lt lt_b30_b32) nin0)) Fm33 Fa33) hZ (hw _ (List.mem_of_getElem? (i := 17) rfl)) (hw _ (List.mem_of_getElem? (i := 2) rfl)) (by decide) (by decide)) q44a q44c (g := (mkF m 125 #[.val (.long q1), .second, .val (.long q2), .second, .val (.long q3), .second, .val (.long q4), .second, .val (.int p4), .val (.long m2), .second, .val (.long a2), .second, .val (.int ((XT.ushr p4 (2 : Int32)) &&& (3 : Int32))), .val (.ref b30), .val (.ref b32), .val (.int (if (q1 = m2 ∧ q2 = a2) then (1 : Int32) else (0 : Int32))), .val (.ref b32), .val (.int (if (q1 = m2 ∧ q2 = a2) then (1 : Int32) else (0 : Int32)))] [(.ref b32), (.ref b30)])) rfl (by rw [hml]; rfl) (Steps.refl _) (argsL := [(.ref b32)]) (rest := []) (lenOf pd_3 rfl) rfl (by show 2 * 0 + _ ≤ _; exact Nat.le_of_eq rfl) (hb hby at_125) (fun _ _ => ⟨rfl, e34, (by decide : 2 + 0 ≤ _), (by decide : 4 + 0 ≤ _)⟩)
      dsimp only [Pt.U, Pt.locs, Pt.cells, Pt.slots] at X44 l44 y44 z44 st44 hQ44
      subst l44 y44 z44
      obtain ⟨rfl, N44q, eh44⟩ := hQ44
      have N44 := Fr.app N34 N44q
      obtain ⟨cq45, kq45, q45a, q45b, q45c⟩ := isOf hZ eh44 (((A30.keep K31).ext E32).keep K33)
      obtain ⟨_, _, ⟨T45, L45, k45, n45⟩, -, X45, ⟨Lc45, hQ45, l45, y45, z45⟩, st45⟩ := X44.virtualBack hx (y := (⟨"com/example/madingley/madingley/capability/Capability", "equals", "(Ljava/lang/Object;)Z"⟩ : MethodName)) (z := (⟨"com/example/madingley/madingley/capability/Capability", "equals", "(Ljava/lang/Object;)Z"⟩ : MethodName)) hown (mvT hZ (hw _ (List.mem_of_getElem? (i := 13) rfl))) (mvT hZ (hw _ (List.mem_of_getElem? (i := 14) rfl))) (notFace_of_selects (args := #[]) (mvT hZ (hw _ (List.mem_of_getElem? (i := 16) rfl)))) (mvT hZ (hw _ (List.mem_of_getElem? (i := 16) rfl))) (mvT hZ (hw _ (List.mem_of_getElem? (i := 15) rfl))) (by decide) (backOf (W := 0) (own_eqA l Z a0 hw [] b30 b30 q1 q2 q1 q2 T33.heap n0 (Nat.le_trans (Nat.le_trans (Nat.le_trans (Nat.le_trans Z0 E30.1) K31.1) E32.1) K33.1) (((A30.keep K31).ext E32).keep K33) ((Fm31.ext E32).keep K33 (ninS (Nat.ne_of_lt lt_b30_b32) nin0)) ((Fa31.ext E32).keep K33 (ninS (Nat.ne_of_lt lt_b30_b32) nin0)) ((Fm31.ext E32).keep K33 (ninS (Nat.ne_of_lt lt_b30_b32) nin0)) ((Fa31.ext E32).keep K33 (ninS (Nat.ne_of_lt lt_b30_b32) nin0))) hZ (hw _ (List.mem_of_getElem? (i := 17) rfl)) (hw _ (List.mem_of_getElem? (i := 2) rfl)) (by decide) (by decide)) q45a q45c (g := (mkF m 137 #[.val (.long q1), .second, .val (.long q2), .second, .val (.long q3), .second, .val (.long q4), .second, .val (.int p4), .val (.long m2), .second, .val (.long a2), .second, .val (.int ((XT.ushr p4 (2 : Int32)) &&& (3 : Int32))), .val (.ref b30), .val (.ref b32), .val (.int (if (q1 = m2 ∧ q2 = a2) then (1 : Int32) else (0 : Int32))), .val (.ref b32), .val (.int (if (q1 = m2 ∧ q2 = a2) then (1 : Int32) else (0 : Int32)))] [(.ref b30), (.ref b30)])) rfl (by rw [hml]; rfl) (Steps.refl _) (argsL := [(.ref b30)]) (rest := []) (lenOf pd_3 rfl) rfl (by show 2 * 0 + _ ≤ _; exact Nat.le_of_eq rfl) (hb hby at_137) (fun _ _ => ⟨rfl, eh44, (by decide : 2 + 0 ≤ _), (by decide : 4 + 0 ≤ _)⟩)
      dsimp only [Pt.U, Pt.locs, Pt.cells, Pt.slots] at X45 l45 y45 z45 st45 hQ45
      subst l45 y45 z45
      obtain ⟨rfl, N45q, eh45⟩ := hQ45
      have N45 := Fr.app N44 N45q
      obtain ⟨cq46, kq46, q46a, q46b, q46c⟩ := isOf hZ eh45 (A32.keep K33)
      obtain ⟨_, _, ⟨T46, L46, k46, n46⟩, -, X46, ⟨Lc46, hQ46, l46, y46, z46⟩, st46⟩ := X45.virtualBack hx (y := (⟨"com/example/madingley/madingley/capability/Capability", "equals", "(Ljava/lang/Object;)Z"⟩ : MethodName)) (z := (⟨"com/example/madingley/madingley/capability/Capability", "equals", "(Ljava/lang/Object;)Z"⟩ : MethodName)) hown (mvT hZ (hw _ (List.mem_of_getElem? (i := 13) rfl))) (mvT hZ (hw _ (List.mem_of_getElem? (i := 14) rfl))) (notFace_of_selects (args := #[]) (mvT hZ (hw _ (List.mem_of_getElem? (i := 16) rfl)))) (mvT hZ (hw _ (List.mem_of_getElem? (i := 16) rfl))) (mvT hZ (hw _ (List.mem_of_getElem? (i := 15) rfl))) (by decide) (backOf (W := 0) (own_eqA l Z a0 hw [] b32 b30 m2 a2 q1 q2 T33.heap n0 (Nat.le_trans (Nat.le_trans (Nat.le_trans (Nat.le_trans Z0 E30.1) K31.1) E32.1) K33.1) (((A30.keep K31).ext E32).keep K33) Fm33 Fa33 ((Fm31.ext E32).keep K33 (ninS (Nat.ne_of_lt lt_b30_b32) nin0)) ((Fa31.ext E32).keep K33 (ninS (Nat.ne_of_lt lt_b30_b32) nin0))) hZ (hw _ (List.mem_of_getElem? (i := 17) rfl)) (hw _ (List.mem_of_getElem? (i := 2) rfl)) (by decide) (by decide)) q46a q46c (g := (mkF m 147 #[.val (.long q1), .second, .val (.long q2), .second, .val (.long q3), .second, .val (.long q4), .second, .val (.int p4), .val (.long m2), .second, .val (.long a2), .second, .val (.int ((XT.ushr p4 (2 : Int32)) &&& (3 : Int32))), .val (.ref b30), .val (.ref b32), .val (.int (if (q1 = m2 ∧ q2 = a2) then (1 : Int32) else (0 : Int32))), .val (.ref b32), .val (.int (if (q1 = m2 ∧ q2 = a2) then (1 : Int32) else (0 : Int32)))] [(.ref b30), (.ref b32)])) rfl (by rw [hml]; rfl) (Steps.refl _) (argsL := [(.ref b30)]) (rest := []) (lenOf pd_3 rfl) rfl (by show 2 * 0 + _ ≤ _; exact Nat.le_of_eq rfl) (hb hby at_147) (fun _ _ => ⟨rfl, eh45, (by decide : 2 + 0 ≤ _), (by decide : 4 + 0 ≤ _)⟩)
      dsimp only [Pt.U, Pt.locs, Pt.cells, Pt.slots] at X46 l46 y46 z46 st46 hQ46
      subst l46 y46 z46
      obtain ⟨rfl, N46q, eh46⟩ := hQ46
      have N46 := Fr.app N45 N46q
      obtain ⟨fs, hr, hrun, hended, hW, hsame⟩ := X46.leave (v := some (.int (1 : Int32))) (fun h => by rw [Bd.returns] at h; cases h)
      refine ⟨_, _, pre0 _ ?_, hrun, hended, _, _, rfl, ?_, ⟨_, rfl⟩, hW, hsame.mono (by decide) (by decide)⟩
      · show Steps p.tables e below (s₁.setTop (mkF m 0 #[.val (.long q1), .second, .val (.long q2), .second, .val (.long q3), .second, .val (.long q4), .second, .val (.int p4), .unset, .unset, .unset, .unset, .unset, .unset, .unset, .unset, .unset, .unset] [])) _
        refine st28 _ ?_
        show Steps p.tables e below (T28.setTop (mkF m 13 #[.val (.long q1), .second, .val (.long q2), .second, .val (.long q3), .second, .val (.long q4), .second, .val (.int p4), .unset, .unset, .unset, .unset, .unset, .unset, .unset, .unset, .unset, .unset] [(.long (if (p4 &&& (1 : Int32)) = 0 then q3 else q1))])) _
        rw [hm2]
        show Steps p.tables e below (T28.setTop (mkF m 13 #[.val (.long q1), .second, .val (.long q2), .second, .val (.long q3), .second, .val (.long q4), .second, .val (.int p4), .unset, .unset, .unset, .unset, .unset, .unset, .unset, .unset, .unset, .unset] [(.long m2)])) _
        refine XT.lstore X28.here hx rfl (hb hby at_13) rfl (l' := #[.val (.long q1), .second, .val (.long q2), .second, .val (.long q3), .second, .val (.long q4), .second, .val (.int p4), .val (.long m2), .second, .unset, .unset, .unset, .unset, .unset, .unset, .unset, .unset]) rfl ?_
        show Steps p.tables e below (T28.setTop (mkF m 15 #[.val (.long q1), .second, .val (.long q2), .second, .val (.long q3), .second, .val (.long q4), .second, .val (.int p4), .val (.long m2), .second, .unset, .unset, .unset, .unset, .unset, .unset, .unset, .unset] [])) _
        refine st29 _ ?_
        show Steps p.tables e below (T29.setTop (mkF m 28 #[.val (.long q1), .second, .val (.long q2), .second, .val (.long q3), .second, .val (.long q4), .second, .val (.int p4), .val (.long m2), .second, .unset, .unset, .unset, .unset, .unset, .unset, .unset, .unset] [(.long (if (p4 &&& (2 : Int32)) = 0 then q4 else q2))])) _
        rw [ha2]
        show Steps p.tables e below (T29.setTop (mkF m 28 #[.val (.long q1), .second, .val (.long q2), .second, .val (.long q3), .second, .val (.long q4), .second, .val (.int p4), .val (.long m2), .second, .unset, .unset, .unset, .unset, .unset, .unset, .unset, .unset] [(.long a2)])) _
        refine XT.lstore X29.here hx rfl (hb hby at_28) rfl (l' := #[.val (.long q1), .second, .val (.long q2), .second, .val (.long q3), .second, .val (.long q4), .second, .val (.int p4), .val (.long m2), .second, .val (.long a2), .second, .unset, .unset, .unset, .unset, .unset, .unset]) rfl ?_
        show Steps p.tables e below (T29.setTop (mkF m 30 #[.val (.long q1), .second, .val (.long q2), .second, .val (.long q3), .second, .val (.long q4), .second, .val (.int p4), .val (.long m2), .second, .val (.long a2), .second, .unset, .unset, .unset, .unset, .unset, .unset] [])) _
        refine XS.iload X29.here hx rfl (hb hby at_30) rfl ?_
        show Steps p.tables e below (T29.setTop (mkF m 32 #[.val (.long q1), .second, .val (.long q2), .second, .val (.long q3), .second, .val (.long q4), .second, .val (.int p4), .val (.long m2), .second, .val (.long a2), .second, .unset, .unset, .unset, .unset, .unset, .unset] [(.int p4)])) _
        refine XS.iconst X29.here hx rfl (hb hby at_32) ?_
        show Steps p.tables e below (T29.setTop (mkF m 33 #[.val (.long q1), .second, .val (.long q2), .second, .val (.long q3), .second, .val (.long q4), .second, .val (.int p4), .val (.long m2), .second, .val (.long a2), .second, .unset, .unset, .unset, .unset, .unset, .unset] [(.int (2 : Int32)), (.int p4)])) _
        refine XT.iushr X29.here hx rfl (hb hby at_33) rfl ?_
        show Steps p.tables e below (T29.setTop (mkF m 34 #[.val (.long q1), .second, .val (.long q2), .second, .val (.long q3), .second, .val (.long q4), .second, .val (.int p4), .val (.long m2), .second, .val (.long a2), .second, .unset, .unset, .unset, .unset, .unset, .unset] [(.int (XT.ushr p4 (2 : Int32)))])) _
        refine XS.iconst X29.here hx rfl (hb hby at_34) ?_
        show Steps p.tables e below (T29.setTop (mkF m 35 #[.val (.long q1), .second, .val (.long q2), .second, .val (.long q3), .second, .val (.long q4), .second, .val (.int p4), .val (.long m2), .second, .val (.long a2), .second, .unset, .unset, .unset, .unset, .unset, .unset] [(.int (3 : Int32)), (.int (XT.ushr p4 (2 : Int32)))])) _
        refine XS.iand X29.here hx rfl (hb hby at_35) rfl ?_
        show Steps p.tables e below (T29.setTop (mkF m 36 #[.val (.long q1), .second, .val (.long q2), .second, .val (.long q3), .second, .val (.long q4), .second, .val (.int p4), .val (.long m2), .second, .val (.long a2), .second, .unset, .unset, .unset, .unset, .unset, .unset] [(.int ((XT.ushr p4 (2 : Int32)) &&& (3 : Int32)))])) _
        refine XS.istore X29.here hx rfl (hb hby at_36) rfl (l' := #[.val (.long q1), .second, .val (.long q2), .second, .val (.long q3), .second, .val (.long q4), .second, .val (.int p4), .val (.long m2), .second, .val (.long a2), .second, .val (.int ((XT.ushr p4 (2 : Int32)) &&& (3 : Int32))), .unset, .unset, .unset, .unset, .unset]) rfl ?_
        show Steps p.tables e below (T29.setTop (mkF m 38 #[.val (.long q1), .second, .val (.long q2), .second, .val (.long q3), .second, .val (.long q4), .second, .val (.int p4), .val (.long m2), .second, .val (.long a2), .second, .val (.int ((XT.ushr p4 (2 : Int32)) &&& (3 : Int32))), .unset, .unset, .unset, .unset, .unset] [])) _
        refine st30 _ ?_
        show Steps p.tables e below (T30.setTop (mkF m 41 #[.val (.long q1), .second, .val (.long q2), .second, .val (.long q3), .second, .val (.long q4), .second, .val (.int p4), .val (.long m2), .second, .val (.long a2), .second, .val (.int ((XT.ushr p4 (2 : Int32)) &&& (3 : Int32))), .unset, .unset, .unset, .unset, .unset] [(.ref b30)])) _
        refine XS.dup X30.here hx rfl (hb hby at_41) rfl rfl ?_
        show Steps p.tables e below (T30.setTop (mkF m 42 #[.val (.long q1), .second, .val (.long q2), .second, .val (.long q3), .second, .val (.long q4), .second, .val (.int p4), .val (.long m2), .second, .val (.long a2), .second, .val (.int ((XT.ushr p4 (2 : Int32)) &&& (3 : Int32))), .unset, .unset, .unset, .unset, .unset] [(.ref b30), (.ref b30)])) _
        refine XT.lloadN X30.here hx rfl (hb hby at_42) rfl ?_
        show Steps p.tables e below (T30.setTop (mkF m 43 #[.val (.long q1), .second, .val (.long q2), .second, .val (.long q3), .second, .val (.long q4), .second, .val (.int p4), .val (.long m2), .second, .val (.long a2), .second, .val (.int ((XT.ushr p4 (2 : Int32)) &&& (3 : Int32))), .unset, .unset, .unset, .unset, .unset] [(.long q1), (.ref b30), (.ref b30)])) _
        refine XT.lloadN X30.here hx rfl (hb hby at_43) rfl ?_
        show Steps p.tables e below (T30.setTop (mkF m 44 #[.val (.long q1), .second, .val (.long q2), .second, .val (.long q3), .second, .val (.long q4), .second, .val (.int p4), .val (.long m2), .second, .val (.long a2), .second, .val (.int ((XT.ushr p4 (2 : Int32)) &&& (3 : Int32))), .unset, .unset, .unset, .unset, .unset] [(.long q2), (.long q1), (.ref b30), (.ref b30)])) _
        refine st31.trans ?_
        show Steps p.tables e below (T31.setTop (mkF m 47 #[.val (.long q1), .second, .val (.long q2), .second, .val (.long q3), .second, .val (.long q4), .second, .val (.int p4), .val (.long m2), .second, .val (.long a2), .second, .val (.int ((XT.ushr p4 (2 : Int32)) &&& (3 : Int32))), .unset, .unset, .unset, .unset, .unset] [(.ref b30)])) _
        refine XS.astore X31.here hx rfl (hb hby at_47) rfl rfl (l' := #[.val (.long q1), .second, .val (.long q2), .second, .val (.long q3), .second, .val (.long q4), .second, .val (.int p4), .val (.long m2), .second, .val (.long a2), .second, .val (.int ((XT.ushr p4 (2 : Int32)) &&& (3 : Int32))), .val (.ref b30), .unset, .unset, .unset, .unset]) rfl ?_
        show Steps p.tables e below (T31.setTop (mkF m 49 #[.val (.long q1), .second, .val (.long q2), .second, .val (.long q3), .second, .val (.long q4), .second, .val (.int p4), .val (.long m2), .second, .val (.long a2), .second, .val (.int ((XT.ushr p4 (2 : Int32)) &&& (3 : Int32))), .val (.ref b30), .unset, .unset, .unset, .unset] [])) _
        refine st32 _ ?_
        show Steps p.tables e below (T32.setTop (mkF m 52 #[.val (.long q1), .second, .val (.long q2), .second, .val (.long q3), .second, .val (.long q4), .second, .val (.int p4), .val (.long m2), .second, .val (.long a2), .second, .val (.int ((XT.ushr p4 (2 : Int32)) &&& (3 : Int32))), .val (.ref b30), .unset, .unset, .unset, .unset] [(.ref b32)])) _
        refine XS.dup X32.here hx rfl (hb hby at_52) rfl rfl ?_
        show Steps p.tables e below (T32.setTop (mkF m 53 #[.val (.long q1), .second, .val (.long q2), .second, .val (.long q3), .second, .val (.long q4), .second, .val (.int p4), .val (.long m2), .second, .val (.long a2), .second, .val (.int ((XT.ushr p4 (2 : Int32)) &&& (3 : Int32))), .val (.ref b30), .unset, .unset, .unset, .unset] [(.ref b32), (.ref b32)])) _
        refine XT.lload X32.here hx rfl (hb hby at_53) rfl ?_
        show Steps p.tables e below (T32.setTop (mkF m 55 #[.val (.long q1), .second, .val (.long q2), .second, .val (.long q3), .second, .val (.long q4), .second, .val (.int p4), .val (.long m2), .second, .val (.long a2), .second, .val (.int ((XT.ushr p4 (2 : Int32)) &&& (3 : Int32))), .val (.ref b30), .unset, .unset, .unset, .unset] [(.long m2), (.ref b32), (.ref b32)])) _
        refine XT.lload X32.here hx rfl (hb hby at_55) rfl ?_
        show Steps p.tables e below (T32.setTop (mkF m 57 #[.val (.long q1), .second, .val (.long q2), .second, .val (.long q3), .second, .val (.long q4), .second, .val (.int p4), .val (.long m2), .second, .val (.long a2), .second, .val (.int ((XT.ushr p4 (2 : Int32)) &&& (3 : Int32))), .val (.ref b30), .unset, .unset, .unset, .unset] [(.long a2), (.long m2), (.ref b32), (.ref b32)])) _
        refine st33.trans ?_
        show Steps p.tables e below (T33.setTop (mkF m 60 #[.val (.long q1), .second, .val (.long q2), .second, .val (.long q3), .second, .val (.long q4), .second, .val (.int p4), .val (.long m2), .second, .val (.long a2), .second, .val (.int ((XT.ushr p4 (2 : Int32)) &&& (3 : Int32))), .val (.ref b30), .unset, .unset, .unset, .unset] [(.ref b32)])) _
        refine XS.astore X33.here hx rfl (hb hby at_60) rfl rfl (l' := #[.val (.long q1), .second, .val (.long q2), .second, .val (.long q3), .second, .val (.long q4), .second, .val (.int p4), .val (.long m2), .second, .val (.long a2), .second, .val (.int ((XT.ushr p4 (2 : Int32)) &&& (3 : Int32))), .val (.ref b30), .val (.ref b32), .unset, .unset, .unset]) rfl ?_
        show Steps p.tables e below (T33.setTop (mkF m 62 #[.val (.long q1), .second, .val (.long q2), .second, .val (.long q3), .second, .val (.long q4), .second, .val (.int p4), .val (.long m2), .second, .val (.long a2), .second, .val (.int ((XT.ushr p4 (2 : Int32)) &&& (3 : Int32))), .val (.ref b30), .val (.ref b32), .unset, .unset, .unset] [])) _
        refine st34 _ ?_
        show Steps p.tables e below (T34.setTop (mkF m 81 #[.val (.long q1), .second, .val (.long q2), .second, .val (.long q3), .second, .val (.long q4), .second, .val (.int p4), .val (.long m2), .second, .val (.long a2), .second, .val (.int ((XT.ushr p4 (2 : Int32)) &&& (3 : Int32))), .val (.ref b30), .val (.ref b32), .unset, .unset, .unset] [(.int (if (q1 = m2 ∧ q2 = a2) then (1 : Int32) else (0 : Int32)))])) _
        refine XS.istore X34.here hx rfl (hb hby at_81) rfl (l' := #[.val (.long q1), .second, .val (.long q2), .second, .val (.long q3), .second, .val (.long q4), .second, .val (.int p4), .val (.long m2), .second, .val (.long a2), .second, .val (.int ((XT.ushr p4 (2 : Int32)) &&& (3 : Int32))), .val (.ref b30), .val (.ref b32), .val (.int (if (q1 = m2 ∧ q2 = a2) then (1 : Int32) else (0 : Int32))), .unset, .unset]) rfl ?_
        show Steps p.tables e below (T34.setTop (mkF m 83 #[.val (.long q1), .second, .val (.long q2), .second, .val (.long q3), .second, .val (.long q4), .second, .val (.int p4), .val (.long m2), .second, .val (.long a2), .second, .val (.int ((XT.ushr p4 (2 : Int32)) &&& (3 : Int32))), .val (.ref b30), .val (.ref b32), .val (.int (if (q1 = m2 ∧ q2 = a2) then (1 : Int32) else (0 : Int32))), .unset, .unset] [])) _
        refine XS.aload X34.here hx rfl (hb hby at_83) rfl rfl ?_
        show Steps p.tables e below (T34.setTop (mkF m 85 #[.val (.long q1), .second, .val (.long q2), .second, .val (.long q3), .second, .val (.long q4), .second, .val (.int p4), .val (.long m2), .second, .val (.long a2), .second, .val (.int ((XT.ushr p4 (2 : Int32)) &&& (3 : Int32))), .val (.ref b30), .val (.ref b32), .val (.int (if (q1 = m2 ∧ q2 = a2) then (1 : Int32) else (0 : Int32))), .unset, .unset] [(.ref b32)])) _
        refine XS.astore X34.here hx rfl (hb hby at_85) rfl rfl (l' := #[.val (.long q1), .second, .val (.long q2), .second, .val (.long q3), .second, .val (.long q4), .second, .val (.int p4), .val (.long m2), .second, .val (.long a2), .second, .val (.int ((XT.ushr p4 (2 : Int32)) &&& (3 : Int32))), .val (.ref b30), .val (.ref b32), .val (.int (if (q1 = m2 ∧ q2 = a2) then (1 : Int32) else (0 : Int32))), .val (.ref b32), .unset]) rfl ?_
        show Steps p.tables e below (T34.setTop (mkF m 87 #[.val (.long q1), .second, .val (.long q2), .second, .val (.long q3), .second, .val (.long q4), .second, .val (.int p4), .val (.long m2), .second, .val (.long a2), .second, .val (.int ((XT.ushr p4 (2 : Int32)) &&& (3 : Int32))), .val (.ref b30), .val (.ref b32), .val (.int (if (q1 = m2 ∧ q2 = a2) then (1 : Int32) else (0 : Int32))), .val (.ref b32), .unset] [])) _
        refine XS.iload X34.here hx rfl (hb hby at_87) rfl ?_
        show Steps p.tables e below (T34.setTop (mkF m 89 #[.val (.long q1), .second, .val (.long q2), .second, .val (.long q3), .second, .val (.long q4), .second, .val (.int p4), .val (.long m2), .second, .val (.long a2), .second, .val (.int ((XT.ushr p4 (2 : Int32)) &&& (3 : Int32))), .val (.ref b30), .val (.ref b32), .val (.int (if (q1 = m2 ∧ q2 = a2) then (1 : Int32) else (0 : Int32))), .val (.ref b32), .unset] [(.int (if (q1 = m2 ∧ q2 = a2) then (1 : Int32) else (0 : Int32)))])) _
        refine XS.istore X34.here hx rfl (hb hby at_89) rfl (l' := #[.val (.long q1), .second, .val (.long q2), .second, .val (.long q3), .second, .val (.long q4), .second, .val (.int p4), .val (.long m2), .second, .val (.long a2), .second, .val (.int ((XT.ushr p4 (2 : Int32)) &&& (3 : Int32))), .val (.ref b30), .val (.ref b32), .val (.int (if (q1 = m2 ∧ q2 = a2) then (1 : Int32) else (0 : Int32))), .val (.ref b32), .val (.int (if (q1 = m2 ∧ q2 = a2) then (1 : Int32) else (0 : Int32)))]) rfl ?_
        show Steps p.tables e below (T34.setTop (mkF m 91 #[.val (.long q1), .second, .val (.long q2), .second, .val (.long q3), .second, .val (.long q4), .second, .val (.int p4), .val (.long m2), .second, .val (.long a2), .second, .val (.int ((XT.ushr p4 (2 : Int32)) &&& (3 : Int32))), .val (.ref b30), .val (.ref b32), .val (.int (if (q1 = m2 ∧ q2 = a2) then (1 : Int32) else (0 : Int32))), .val (.ref b32), .val (.int (if (q1 = m2 ∧ q2 = a2) then (1 : Int32) else (0 : Int32)))] [])) _
        refine XS.iload X34.here hx rfl (hb hby at_91) rfl ?_
        show Steps p.tables e below (T34.setTop (mkF m 93 #[.val (.long q1), .second, .val (.long q2), .second, .val (.long q3), .second, .val (.long q4), .second, .val (.int p4), .val (.long m2), .second, .val (.long a2), .second, .val (.int ((XT.ushr p4 (2 : Int32)) &&& (3 : Int32))), .val (.ref b30), .val (.ref b32), .val (.int (if (q1 = m2 ∧ q2 = a2) then (1 : Int32) else (0 : Int32))), .val (.ref b32), .val (.int (if (q1 = m2 ∧ q2 = a2) then (1 : Int32) else (0 : Int32)))] [(.int ((XT.ushr p4 (2 : Int32)) &&& (3 : Int32)))])) _
        refine XS.iconst X34.here hx rfl (hb hby at_93) ?_
        show Steps p.tables e below (T34.setTop (mkF m 94 #[.val (.long q1), .second, .val (.long q2), .second, .val (.long q3), .second, .val (.long q4), .second, .val (.int p4), .val (.long m2), .second, .val (.long a2), .second, .val (.int ((XT.ushr p4 (2 : Int32)) &&& (3 : Int32))), .val (.ref b30), .val (.ref b32), .val (.int (if (q1 = m2 ∧ q2 = a2) then (1 : Int32) else (0 : Int32))), .val (.ref b32), .val (.int (if (q1 = m2 ∧ q2 = a2) then (1 : Int32) else (0 : Int32)))] [(.int (1 : Int32)), (.int ((XT.ushr p4 (2 : Int32)) &&& (3 : Int32)))])) _
        refine XS.icmpYes X34.here hx rfl (pc0 := 94) (pc' := 106) rfl (hb hby at_94) rfl (XT.ii_ne_t hk1) (by decide) (by decide) ?_
        show Steps p.tables e below (T34.setTop (mkF m 106 #[.val (.long q1), .second, .val (.long q2), .second, .val (.long q3), .second, .val (.long q4), .second, .val (.int p4), .val (.long m2), .second, .val (.long a2), .second, .val (.int ((XT.ushr p4 (2 : Int32)) &&& (3 : Int32))), .val (.ref b30), .val (.ref b32), .val (.int (if (q1 = m2 ∧ q2 = a2) then (1 : Int32) else (0 : Int32))), .val (.ref b32), .val (.int (if (q1 = m2 ∧ q2 = a2) then (1 : Int32) else (0 : Int32)))] [])) _
        refine XS.iload X34.here hx rfl (hb hby at_106) rfl ?_
        show Steps p.tables e below (T34.setTop (mkF m 108 #[.val (.long q1), .second, .val (.long q2), .second, .val (.long q3), .second, .val (.long q4), .second, .val (.int p4), .val (.long m2), .second, .val (.long a2), .second, .val (.int ((XT.ushr p4 (2 : Int32)) &&& (3 : Int32))), .val (.ref b30), .val (.ref b32), .val (.int (if (q1 = m2 ∧ q2 = a2) then (1 : Int32) else (0 : Int32))), .val (.ref b32), .val (.int (if (q1 = m2 ∧ q2 = a2) then (1 : Int32) else (0 : Int32)))] [(.int ((XT.ushr p4 (2 : Int32)) &&& (3 : Int32)))])) _
        refine XS.iconst X34.here hx rfl (hb hby at_108) ?_
        show Steps p.tables e below (T34.setTop (mkF m 109 #[.val (.long q1), .second, .val (.long q2), .second, .val (.long q3), .second, .val (.long q4), .second, .val (.int p4), .val (.long m2), .second, .val (.long a2), .second, .val (.int ((XT.ushr p4 (2 : Int32)) &&& (3 : Int32))), .val (.ref b30), .val (.ref b32), .val (.int (if (q1 = m2 ∧ q2 = a2) then (1 : Int32) else (0 : Int32))), .val (.ref b32), .val (.int (if (q1 = m2 ∧ q2 = a2) then (1 : Int32) else (0 : Int32)))] [(.int (2 : Int32)), (.int ((XT.ushr p4 (2 : Int32)) &&& (3 : Int32)))])) _
        refine XS.icmpYes X34.here hx rfl (pc0 := 109) (pc' := 121) rfl (hb hby at_109) rfl (XT.ii_ne_t hk2) (by decide) (by decide) ?_
        show Steps p.tables e below (T34.setTop (mkF m 121 #[.val (.long q1), .second, .val (.long q2), .second, .val (.long q3), .second, .val (.long q4), .second, .val (.int p4), .val (.long m2), .second, .val (.long a2), .second, .val (.int ((XT.ushr p4 (2 : Int32)) &&& (3 : Int32))), .val (.ref b30), .val (.ref b32), .val (.int (if (q1 = m2 ∧ q2 = a2) then (1 : Int32) else (0 : Int32))), .val (.ref b32), .val (.int (if (q1 = m2 ∧ q2 = a2) then (1 : Int32) else (0 : Int32)))] [])) _
        refine XS.aload X34.here hx rfl (hb hby at_121) rfl rfl ?_
        show Steps p.tables e below (T34.setTop (mkF m 123 #[.val (.long q1), .second, .val (.long q2), .second, .val (.long q3), .second, .val (.long q4), .second, .val (.int p4), .val (.long m2), .second, .val (.long a2), .second, .val (.int ((XT.ushr p4 (2 : Int32)) &&& (3 : Int32))), .val (.ref b30), .val (.ref b32), .val (.int (if (q1 = m2 ∧ q2 = a2) then (1 : Int32) else (0 : Int32))), .val (.ref b32), .val (.int (if (q1 = m2 ∧ q2 = a2) then (1 : Int32) else (0 : Int32)))] [(.ref b30)])) _
        refine XS.aload X34.here hx rfl (hb hby at_123) rfl rfl ?_
        show Steps p.tables e below (T34.setTop (mkF m 125 #[.val (.long q1), .second, .val (.long q2), .second, .val (.long q3), .second, .val (.long q4), .second, .val (.int p4), .val (.long m2), .second, .val (.long a2), .second, .val (.int ((XT.ushr p4 (2 : Int32)) &&& (3 : Int32))), .val (.ref b30), .val (.ref b32), .val (.int (if (q1 = m2 ∧ q2 = a2) then (1 : Int32) else (0 : Int32))), .val (.ref b32), .val (.int (if (q1 = m2 ∧ q2 = a2) then (1 : Int32) else (0 : Int32)))] [(.ref b32), (.ref b30)])) _
        refine st44.trans ?_
        show Steps p.tables e below (T44.setTop (mkF m 128 #[.val (.long q1), .second, .val (.long q2), .second, .val (.long q3), .second, .val (.long q4), .second, .val (.int p4), .val (.long m2), .second, .val (.long a2), .second, .val (.int ((XT.ushr p4 (2 : Int32)) &&& (3 : Int32))), .val (.ref b30), .val (.ref b32), .val (.int (if (q1 = m2 ∧ q2 = a2) then (1 : Int32) else (0 : Int32))), .val (.ref b32), .val (.int (if (q1 = m2 ∧ q2 = a2) then (1 : Int32) else (0 : Int32)))] [(.int (if (m2 = q1 ∧ a2 = q2) then (1 : Int32) else (0 : Int32)))])) _
        refine XS.iload X44.here hx rfl (hb hby at_128) rfl ?_
        show Steps p.tables e below (T44.setTop (mkF m 130 #[.val (.long q1), .second, .val (.long q2), .second, .val (.long q3), .second, .val (.long q4), .second, .val (.int p4), .val (.long m2), .second, .val (.long a2), .second, .val (.int ((XT.ushr p4 (2 : Int32)) &&& (3 : Int32))), .val (.ref b30), .val (.ref b32), .val (.int (if (q1 = m2 ∧ q2 = a2) then (1 : Int32) else (0 : Int32))), .val (.ref b32), .val (.int (if (q1 = m2 ∧ q2 = a2) then (1 : Int32) else (0 : Int32)))] [(.int (if (q1 = m2 ∧ q2 = a2) then (1 : Int32) else (0 : Int32))), (.int (if (m2 = q1 ∧ a2 = q2) then (1 : Int32) else (0 : Int32)))])) _
        refine XS.icmpNo X44.here hx rfl (hb hby at_130) rfl (XT.ii_ne_f (own_sym q1 q2 m2 a2)) ?_
        show Steps p.tables e below (T44.setTop (mkF m 133 #[.val (.long q1), .second, .val (.long q2), .second, .val (.long q3), .second, .val (.long q4), .second, .val (.int p4), .val (.long m2), .second, .val (.long a2), .second, .val (.int ((XT.ushr p4 (2 : Int32)) &&& (3 : Int32))), .val (.ref b30), .val (.ref b32), .val (.int (if (q1 = m2 ∧ q2 = a2) then (1 : Int32) else (0 : Int32))), .val (.ref b32), .val (.int (if (q1 = m2 ∧ q2 = a2) then (1 : Int32) else (0 : Int32)))] [])) _
        refine XS.aload X44.here hx rfl (hb hby at_133) rfl rfl ?_
        show Steps p.tables e below (T44.setTop (mkF m 135 #[.val (.long q1), .second, .val (.long q2), .second, .val (.long q3), .second, .val (.long q4), .second, .val (.int p4), .val (.long m2), .second, .val (.long a2), .second, .val (.int ((XT.ushr p4 (2 : Int32)) &&& (3 : Int32))), .val (.ref b30), .val (.ref b32), .val (.int (if (q1 = m2 ∧ q2 = a2) then (1 : Int32) else (0 : Int32))), .val (.ref b32), .val (.int (if (q1 = m2 ∧ q2 = a2) then (1 : Int32) else (0 : Int32)))] [(.ref b30)])) _
        refine XS.aload X44.here hx rfl (hb hby at_135) rfl rfl ?_
        show Steps p.tables e below (T44.setTop (mkF m 137 #[.val (.long q1), .second, .val (.long q2), .second, .val (.long q3), .second, .val (.long q4), .second, .val (.int p4), .val (.long m2), .second, .val (.long a2), .second, .val (.int ((XT.ushr p4 (2 : Int32)) &&& (3 : Int32))), .val (.ref b30), .val (.ref b32), .val (.int (if (q1 = m2 ∧ q2 = a2) then (1 : Int32) else (0 : Int32))), .val (.ref b32), .val (.int (if (q1 = m2 ∧ q2 = a2) then (1 : Int32) else (0 : Int32)))] [(.ref b30), (.ref b30)])) _
        refine st45.trans ?_
        show Steps p.tables e below (T45.setTop (mkF m 140 #[.val (.long q1), .second, .val (.long q2), .second, .val (.long q3), .second, .val (.long q4), .second, .val (.int p4), .val (.long m2), .second, .val (.long a2), .second, .val (.int ((XT.ushr p4 (2 : Int32)) &&& (3 : Int32))), .val (.ref b30), .val (.ref b32), .val (.int (if (q1 = m2 ∧ q2 = a2) then (1 : Int32) else (0 : Int32))), .val (.ref b32), .val (.int (if (q1 = m2 ∧ q2 = a2) then (1 : Int32) else (0 : Int32)))] [(.int (if (q1 = q1 ∧ q2 = q2) then (1 : Int32) else (0 : Int32)))])) _
        refine XS.ifNo X45.here hx rfl (hb hby at_140) rfl (XT.i0_eq_f (by rw [if_pos ⟨rfl, rfl⟩]; decide)) ?_
        show Steps p.tables e below (T45.setTop (mkF m 143 #[.val (.long q1), .second, .val (.long q2), .second, .val (.long q3), .second, .val (.long q4), .second, .val (.int p4), .val (.long m2), .second, .val (.long a2), .second, .val (.int ((XT.ushr p4 (2 : Int32)) &&& (3 : Int32))), .val (.ref b30), .val (.ref b32), .val (.int (if (q1 = m2 ∧ q2 = a2) then (1 : Int32) else (0 : Int32))), .val (.ref b32), .val (.int (if (q1 = m2 ∧ q2 = a2) then (1 : Int32) else (0 : Int32)))] [])) _
        refine XS.aload X45.here hx rfl (hb hby at_143) rfl rfl ?_
        show Steps p.tables e below (T45.setTop (mkF m 145 #[.val (.long q1), .second, .val (.long q2), .second, .val (.long q3), .second, .val (.long q4), .second, .val (.int p4), .val (.long m2), .second, .val (.long a2), .second, .val (.int ((XT.ushr p4 (2 : Int32)) &&& (3 : Int32))), .val (.ref b30), .val (.ref b32), .val (.int (if (q1 = m2 ∧ q2 = a2) then (1 : Int32) else (0 : Int32))), .val (.ref b32), .val (.int (if (q1 = m2 ∧ q2 = a2) then (1 : Int32) else (0 : Int32)))] [(.ref b32)])) _
        refine XS.aload X45.here hx rfl (hb hby at_145) rfl rfl ?_
        show Steps p.tables e below (T45.setTop (mkF m 147 #[.val (.long q1), .second, .val (.long q2), .second, .val (.long q3), .second, .val (.long q4), .second, .val (.int p4), .val (.long m2), .second, .val (.long a2), .second, .val (.int ((XT.ushr p4 (2 : Int32)) &&& (3 : Int32))), .val (.ref b30), .val (.ref b32), .val (.int (if (q1 = m2 ∧ q2 = a2) then (1 : Int32) else (0 : Int32))), .val (.ref b32), .val (.int (if (q1 = m2 ∧ q2 = a2) then (1 : Int32) else (0 : Int32)))] [(.ref b30), (.ref b32)])) _
        refine st46.trans ?_
        show Steps p.tables e below (T46.setTop (mkF m 150 #[.val (.long q1), .second, .val (.long q2), .second, .val (.long q3), .second, .val (.long q4), .second, .val (.int p4), .val (.long m2), .second, .val (.long a2), .second, .val (.int ((XT.ushr p4 (2 : Int32)) &&& (3 : Int32))), .val (.ref b30), .val (.ref b32), .val (.int (if (q1 = m2 ∧ q2 = a2) then (1 : Int32) else (0 : Int32))), .val (.ref b32), .val (.int (if (q1 = m2 ∧ q2 = a2) then (1 : Int32) else (0 : Int32)))] [(.int (if (q1 = m2 ∧ q2 = a2) then (1 : Int32) else (0 : Int32)))])) _
        refine XS.iload X46.here hx rfl (hb hby at_150) rfl ?_
        show Steps p.tables e below (T46.setTop (mkF m 152 #[.val (.long q1), .second, .val (.long q2), .second, .val (.long q3), .second, .val (.long q4), .second, .val (.int p4), .val (.long m2), .second, .val (.long a2), .second, .val (.int ((XT.ushr p4 (2 : Int32)) &&& (3 : Int32))), .val (.ref b30), .val (.ref b32), .val (.int (if (q1 = m2 ∧ q2 = a2) then (1 : Int32) else (0 : Int32))), .val (.ref b32), .val (.int (if (q1 = m2 ∧ q2 = a2) then (1 : Int32) else (0 : Int32)))] [(.int (if (q1 = m2 ∧ q2 = a2) then (1 : Int32) else (0 : Int32))), (.int (if (q1 = m2 ∧ q2 = a2) then (1 : Int32) else (0 : Int32)))])) _
        refine XS.icmpNo X46.here hx rfl (hb hby at_152) rfl (XT.ii_ne_f rfl) ?_
        show Steps p.tables e below (T46.setTop (mkF m 155 #[.val (.long q1), .second, .val (.long q2), .second, .val (.long q3), .second, .val (.long q4), .second, .val (.int p4), .val (.long m2), .second, .val (.long a2), .second, .val (.int ((XT.ushr p4 (2 : Int32)) &&& (3 : Int32))), .val (.ref b30), .val (.ref b32), .val (.int (if (q1 = m2 ∧ q2 = a2) then (1 : Int32) else (0 : Int32))), .val (.ref b32), .val (.int (if (q1 = m2 ∧ q2 = a2) then (1 : Int32) else (0 : Int32)))] [])) _
        refine XS.iconst X46.here hx rfl (hb hby at_155) ?_
        show Steps p.tables e below (T46.setTop (mkF m 156 #[.val (.long q1), .second, .val (.long q2), .second, .val (.long q3), .second, .val (.long q4), .second, .val (.int p4), .val (.long m2), .second, .val (.long a2), .second, .val (.int ((XT.ushr p4 (2 : Int32)) &&& (3 : Int32))), .val (.ref b30), .val (.ref b32), .val (.int (if (q1 = m2 ∧ q2 = a2) then (1 : Int32) else (0 : Int32))), .val (.ref b32), .val (.int (if (q1 = m2 ∧ q2 = a2) then (1 : Int32) else (0 : Int32)))] [(.int (1 : Int32))])) _
        refine XS.goto X46.here hx rfl (pc0 := 156) (pc' := 160) rfl (hb hby at_156) (by decide) (by decide) ?_
        show Steps p.tables e below (T46.setTop (mkF m 160 #[.val (.long q1), .second, .val (.long q2), .second, .val (.long q3), .second, .val (.long q4), .second, .val (.int p4), .val (.long m2), .second, .val (.long a2), .second, .val (.int ((XT.ushr p4 (2 : Int32)) &&& (3 : Int32))), .val (.ref b30), .val (.ref b32), .val (.int (if (q1 = m2 ∧ q2 = a2) then (1 : Int32) else (0 : Int32))), .val (.ref b32), .val (.int (if (q1 = m2 ∧ q2 = a2) then (1 : Int32) else (0 : Int32)))] [(.int (1 : Int32))])) _
        exact retN X46 hx (t := .boolean) Bd.returns (by simp) (hb hby at_160) hr
      · show Q_own_law Z q1 q2 q3 q4 p4 m2 a2 ac kc fc lf h0 n0 _ T46.heap _
        rw [eh46]
        exact ⟨rfl, N46⟩
set_option maxRecDepth 65536 in
set_option maxHeartbeats 40000000 in
theorem comes_1 {Post : Tables → Env → Array Value → State → Outcome → State → Prop} (hpost : ∀ tb e args s v u, (limb_1_1.after args s (.returned v) u = true ∧ limb_1_2.after args s (.returned v) u = true ∧ True) → FrameEnd s (.returned v) u (Jvm.fieldLocs frame_1_writes args s ++ Jvm.arrayLocs frame_1_arrays args s ++ Jvm.staticLocs frame_1_statics s) 16 128 → Post tb e args s (.returned v) u) :
    ArmFor flags0 classFile x code maxLocals ret World_1 tables_1 room_1 Calls_1 rest_1 Pre_1 Post := by
  intro l hfl _ _ p e ha hc hk s m args below hf hA hF happ hP
  obtain ⟨hcalls, hrest, hpre⟩ := hP
  obtain ⟨-, -, -, hnamed, -, -, -, hat⟩ := (Spec.applies_iff hf).mp happ
  obtain ⟨hg, hn⟩ := and_e (Cond.before_iff.mp (show (Jvm.Cond.and given_1 narrow_1).before args s = true from hpre))
  obtain ⟨hcount, hq0⟩ := and_e hg
  obtain ⟨ha0, hq1⟩ := and_e hq0
  obtain ⟨ha1, hq2⟩ := and_e hq1
  obtain ⟨ha2, hq3⟩ := and_e hq2
  obtain ⟨ha3, hq4⟩ := and_e hq3
  have ha4 := hq4
  obtain ⟨w0, w1, w2, w3, w4, rfl⟩ : ∃ w0 w1 w2 w3 w4 : Value, args = #[w0, w1, w2, w3, w4] := by
    have hs : args.size = 5 := by simpa [Cond.value, given_1] using hcount
    obtain ⟨L⟩ := args
    match L, hs with
    | [w0, w1, w2, w3, w4], _ => exact ⟨w0, w1, w2, w3, w4, rfl⟩
  have hw := fun d (hd : d ∈ tables_1) => atoms_spec (ws := Jvm.Cond.code x code maxLocals ret :: tables_1) hat d (List.mem_cons_of_mem _ hd)
  have hfit : Fit s := fun {y c} hc i hi => by
    obtain ⟨ha, rfl⟩ := Array.getElem?_eq_some_iff.mp hc
    have q := List.all_eq_true.mp ((Array.all_eq_true_iff_forall_mem.mp hF) _ (Array.getElem_mem ha)) i (List.mem_range.mpr hi)
    simpa [Array.getElem?_eq_getElem hi] using q
  obtain ⟨i0, ei0⟩ := isL_v ha0
  obtain rfl : w0 = (.long i0) := Option.some.inj ei0
  obtain ⟨i1, ei1⟩ := isL_v ha1
  obtain rfl : w1 = (.long i1) := Option.some.inj ei1
  obtain ⟨i2, ei2⟩ := isL_v ha2
  obtain rfl : w2 = (.long i2) := Option.some.inj ei2
  obtain ⟨i3, ei3⟩ := isL_v ha3
  obtain rfl : w3 = (.long i3) := Option.some.inj ei3
  obtain ⟨i4, ei4⟩ := is_v ha4
  obtain rfl : w4 = (.int i4) := Option.some.inj ei4
  have hsets := (atoms_of jdkStatics_1 (show (jdkStatics_1.foldr Jvm.Cond.and restOwn_1).before _ s = true from hrest)).1
  obtain ⟨ac, kc, fc, lf, S_c, V_c, hcc, HE⟩ := own_cache hsets
  obtain ⟨n, o, h1, h2, h3, _, L, rfl, ⟨rfl, N⟩, hq⟩ := own_law l s _ hw tables_1 i0 i1 i2 i3 i4 _ _ ac kc fc lf s.heap s.heap.size (Nat.le_refl _) rfl rfl (Old.start s) S_c V_c hcc HE p e ha hc hk s m _ below hf ((Spec.applies_iff_loose hf).mp happ).1 ⟨rfl, State.Warmed39.refl s, rfl⟩ trivial
  refine ⟨n, _, h1, h2, h3, hpost _ _ _ _ _ _ ⟨Cond.after_iff.mpr rfl, Cond.after_iff.mpr (eq_i res_at (Term.int_eval (1)) rfl), trivial⟩ ⟨hq.1, hq.2.1, (hq.2.2.sift fun y hy => Or.inr (N y hy)).mono (by decide) (by decide)⟩⟩
theorem main_1_1 : Claimed_1_1 := comes_1 fun _ _ _ _ _ _ h hF => ⟨h.1, hF⟩
theorem main_1_2 : Claimed_1_2 := comes_1 fun _ _ _ _ _ _ h hF => ⟨h.2.1, hF⟩
end Jvm.Pilot.@@N@@
namespace Jvm.Pilot.@@N@@
open Jvm Jvm.ClassFile Sem Op Lib Jvm.Free Jvm.Stand Jvm.Pilot.@@N@@.Jvm.D
/-! MADE BY PROGRAM (witnessworld.py) out of the Statement's table words and the real class files: 16 classes; the members and pool entries that the words name. The judged class is class 1, her method 1. -/
namespace start1
open Jvm.ClassFile
def u (s : String) : CpInfo := .utf8 (stringToUtf16 s)
/-- a pool by its gaps: so many unusable entries, then the entry; so many at the end -/
def gap : Nat → List CpInfo → List CpInfo
  | 0, r => r
  | n + 1, r => .unusable :: gap n r
def poolList (es : List (Nat × CpInfo)) (last : Nat) : List CpInfo := es.foldr (fun e r => gap e.1 (e.2 :: r)) (gap last [])
def pool (es : List (Nat × CpInfo)) (last : Nat) : Array CpInfo := ⟨poolList es last⟩
def fileOf (pool : Array CpInfo) (this : Nat) (attrs : Array Attribute := #[]) (ms : Array MethodInfo := #[]) (fl : Nat := 33) (sup : Nat := 0) (ifs : Array Nat := #[]) (fds : Array FieldInfo := #[]) : ClassFile where
  minorVersion := 0
  majorVersion := 65
  constantPool := pool
  accessFlags := fl
  thisClass := this
  superClass := sup
  interfaces := ifs
  fields := fds
  methods := ms
  attributes := attrs
def plain (name : String) (sup : Option ClassId) : Class where
  name := name
  kind := .ordinary
  loader := none
  accessFlags := 33
  super := sup
  interfaces := #[]
  cf := none
  fields := #[]
  methods := #[]
  instanceTypes := #[]
  staticTypes := #[]
  resolved := #[]
  callSites := []
  init := .initialized
  statics := none
  mirror := none

def pool0 : Array CpInfo := pool [(5, u "<init>"), (0, u "()V"), (1, .class_ 10), (1, u "java/lang/Object")] 113

def k0c0 : Code := { maxStack := 0, maxLocals := 1, code := object_method_1_code, exceptionTable := #[], attributes := #[] }
def k0m0 : Method := { name := "<init>", desc := "()V", sig := { parameters := [], returnType := none }, accessFlags := 1, code := some k0c0 }
/-- java/lang/Object -/
def k0 : Class := { plain "java/lang/Object" none with
  accessFlags := 33
  interfaces := #[]
  cf := some (fileOf pool0 8 #[] #[{ accessFlags := 1, nameIndex := 5, descriptorIndex := 6, attributes := #[] }] 33 0 #[] #[])
  fields := #[]
  methods := #[k0m0]
  instanceTypes := #[]
  staticTypes := #[]
  resolved := Array.replicate 124 none
  statics := none }

def pool1 : Array CpInfo := pool [(2, .class_ 4), (1, u "java/lang/Object"), (0, u "<init>"), (0, u "()V"), (0, .class_ 8), (0, u "com/example/madingley/madingley/capability/Capability"), (0, .methodref 7 10), (0, .nameAndType 5 11), (0, u "(JJ)V"), (0, .methodref 13 14), (0, .class_ 15), (0, .nameAndType 16 17), (0, u "java/lang/Long"), (0, u "valueOf"), (0, u "(J)Ljava/lang/Long;"), (0, .methodref 7 19), (0, .nameAndType 20 21), (0, u "equals"), (0, u "(Ljava/lang/Object;)Z"), (0, .class_ 23), (0, u "com/example/madingley/madingley/capability/CapabilityEqualsPinLaw"), (2, u "law"), (0, u "(JJJJI)Z")] 3

def k1m0 : Method := { name := "<init>", desc := "()V", sig := { parameters := [], returnType := none }, accessFlags := 1, code := none }
def k1c1 : Code := { maxStack := 6, maxLocals := 19, code := code, exceptionTable := #[], attributes := #[] }
def k1m1 : Method := { name := "law", desc := "(JJJJI)Z", sig := { parameters := [.long, .long, .long, .long, .int], returnType := some .boolean }, accessFlags := 9, code := some k1c1 }
/-- com/example/madingley/madingley/capability/CapabilityEqualsPinLaw -/
def k1 : Class := { plain "com/example/madingley/madingley/capability/CapabilityEqualsPinLaw" (some 0) with
  accessFlags := 49
  interfaces := #[]
  cf := some (fileOf pool1 22 #[] #[{ accessFlags := 1, nameIndex := 5, descriptorIndex := 6, attributes := #[] }, { accessFlags := 9, nameIndex := 26, descriptorIndex := 27, attributes := #[] }] 49 2 #[] #[])
  fields := #[]
  methods := #[k1m0, k1m1]
  instanceTypes := #[]
  staticTypes := #[]
  resolved := Array.replicate 31 none
  statics := none }

def pool2 : Array CpInfo := pool [(1, .methodref 2 3), (0, .class_ 4), (0, .nameAndType 5 6), (0, u "java/lang/Object"), (0, u "<init>"), (0, u "()V"), (0, .fieldref 8 9), (0, .class_ 10), (0, .nameAndType 11 12), (0, u "com/example/madingley/madingley/capability/Capability"), (0, u "metadata"), (0, u "J"), (0, .fieldref 8 14), (0, .nameAndType 15 12), (0, u "address"), (12, u "(JJ)V"), (39, u "(Ljava/lang/Object;)Z"), (73, u "RESERVED_BITS"), (109, u "INFINITE"), (0, u "Lcom/example/madingley/madingley/capability/Capability;"), (3, u "BYTES"), (0, u "I"), (23, u "equals")] 59

def k2c0 : Code := { maxStack := 3, maxLocals := 5, code := prog_3_method_1_code, exceptionTable := #[], attributes := #[] }
def k2m0 : Method := { name := "<init>", desc := "(JJ)V", sig := { parameters := [.long, .long], returnType := none }, accessFlags := 1, code := some k2c0 }
def k2c1 : Code := { maxStack := 4, maxLocals := 3, code := prog_3_method_19_code, exceptionTable := #[], attributes := #[] }
def k2m1 : Method := { name := "equals", desc := "(Ljava/lang/Object;)Z", sig := { parameters := [(.object "java/lang/Object")], returnType := some .boolean }, accessFlags := 1, code := some k2c1 }
/-- com/example/madingley/madingley/capability/Capability -/
def k2 : Class := { plain "com/example/madingley/madingley/capability/Capability" (some 0) with
  accessFlags := 49
  interfaces := #[]
  cf := some (fileOf pool2 8 #[] #[{ accessFlags := 1, nameIndex := 5, descriptorIndex := 28, attributes := #[] }, { accessFlags := 1, nameIndex := 282, descriptorIndex := 68, attributes := #[] }] 49 2 #[] #[{ accessFlags := 25, nameIndex := 252, descriptorIndex := 253, attributes := #[] }, { accessFlags := 25, nameIndex := 257, descriptorIndex := 258, attributes := #[] }, { accessFlags := 26, nameIndex := 142, descriptorIndex := 12, attributes := #[] }, { accessFlags := 18, nameIndex := 11, descriptorIndex := 12, attributes := #[] }, { accessFlags := 18, nameIndex := 15, descriptorIndex := 12, attributes := #[] }])
  fields := #[{ name := "INFINITE", type := (.object "com/example/madingley/madingley/capability/Capability"), accessFlags := 25, slot := 0, constantValue := 0 }, { name := "BYTES", type := .int, accessFlags := 25, slot := 1, constantValue := 0 }, { name := "RESERVED_BITS", type := .long, accessFlags := 26, slot := 2, constantValue := 0 }, { name := "metadata", type := .long, accessFlags := 18, slot := 0, constantValue := 0 }, { name := "address", type := .long, accessFlags := 18, slot := 1, constantValue := 0 }]
  methods := #[k2m0, k2m1]
  instanceTypes := #[.long, .long]
  staticTypes := #[(.object "com/example/madingley/madingley/capability/Capability"), .int, .long]
  resolved := Array.replicate 342 none
  statics := none }

def pool3 : Array CpInfo := pool [(1, .class_ 2), (0, u "java/io/Serializable"), (0, .class_ 4), (0, u "java/lang/Object")] 2

/-- java/io/Serializable -/
def k3 : Class := { plain "java/io/Serializable" (some 0) with
  accessFlags := 1537
  interfaces := #[]
  cf := some (fileOf pool3 1 #[] #[] 1537 3 #[] #[])
  fields := #[]
  methods := #[]
  instanceTypes := #[]
  staticTypes := #[]
  resolved := Array.replicate 7 none
  statics := none }

def pool4 : Array CpInfo := pool [(1, .methodref 2 3), (0, .class_ 4), (0, .nameAndType 5 6), (0, u "java/lang/Object"), (0, u "<init>"), (0, u "()V"), (1, .class_ 10), (1, u "java/lang/Number"), (2, .class_ 14), (0, u "java/io/Serializable"), (0, u "serialVersionUID"), (0, u "J")] 20

def k4c0 : Code := { maxStack := 1, maxLocals := 1, code := jdk_18_method_1_code, exceptionTable := #[], attributes := #[] }
def k4m0 : Method := { name := "<init>", desc := "()V", sig := { parameters := [], returnType := none }, accessFlags := 1, code := some k4c0 }
/-- java/lang/Number -/
def k4 : Class := { plain "java/lang/Number" (some 0) with
  accessFlags := 1057
  interfaces := #[3]
  cf := some (fileOf pool4 8 #[] #[{ accessFlags := 1, nameIndex := 5, descriptorIndex := 6, attributes := #[] }] 1057 2 #[13] #[{ accessFlags := 26, nameIndex := 15, descriptorIndex := 16, attributes := #[] }])
  fields := #[{ name := "serialVersionUID", type := .long, accessFlags := 26, slot := 0, constantValue := 0 }]
  methods := #[k4m0]
  instanceTypes := #[]
  staticTypes := #[.long]
  resolved := Array.replicate 37 none
  statics := none }

def pool5 : Array CpInfo := pool [(1, .class_ 2), (0, u "java/lang/Comparable"), (0, .class_ 4), (0, u "java/lang/Object")] 7

/-- java/lang/Comparable -/
def k5 : Class := { plain "java/lang/Comparable" (some 0) with
  accessFlags := 1537
  interfaces := #[]
  cf := some (fileOf pool5 1 #[] #[] 1537 3 #[] #[])
  fields := #[]
  methods := #[]
  instanceTypes := #[]
  staticTypes := #[]
  resolved := Array.replicate 12 none
  statics := none }

def pool6 : Array CpInfo := pool [(1, .class_ 2), (0, u "java/lang/constant/Constable"), (0, .class_ 4), (0, u "java/lang/Object")] 6

/-- java/lang/constant/Constable -/
def k6 : Class := { plain "java/lang/constant/Constable" (some 0) with
  accessFlags := 1537
  interfaces := #[]
  cf := some (fileOf pool6 1 #[] #[] 1537 3 #[] #[])
  fields := #[]
  methods := #[]
  instanceTypes := #[]
  staticTypes := #[]
  resolved := Array.replicate 11 none
  statics := none }

def pool7 : Array CpInfo := pool [(1, .class_ 2), (0, u "java/lang/constant/ConstantDesc"), (0, .class_ 4), (0, u "java/lang/Object")] 32

/-- java/lang/constant/ConstantDesc -/
def k7 : Class := { plain "java/lang/constant/ConstantDesc" (some 0) with
  accessFlags := 1537
  interfaces := #[]
  cf := some (fileOf pool7 1 #[] #[] 1537 3 #[] #[])
  fields := #[]
  methods := #[]
  instanceTypes := #[]
  staticTypes := #[]
  resolved := Array.replicate 37 none
  statics := none }

def pool8 : Array CpInfo := pool [(1, .class_ 2), (0, u "java/lang/Long"), (55, .nameAndType 59 60), (0, u "<init>"), (0, u "()V"), (24, u "valueOf"), (143, u "(J)Ljava/lang/Long;"), (0, .long 18446744073709551488), (1, .long 127), (1, .fieldref 235 236), (0, .class_ 237), (0, .nameAndType 238 239), (0, u "java/lang/Long$LongCache"), (0, u "cache"), (0, u "[Ljava/lang/Long;"), (0, .methodref 1 241), (0, .nameAndType 59 242), (0, u "(J)V"), (27, .methodref 271 58), (0, .class_ 272), (0, u "java/lang/Number"), (0, .fieldref 1 274), (0, .nameAndType 275 276), (0, u "value"), (0, u "J"), (84, u "TYPE"), (0, u "Ljava/lang/Class;"), (0, .class_ 364), (0, u "java/lang/Comparable"), (0, .class_ 366), (0, u "java/lang/constant/Constable"), (0, .class_ 368), (0, u "java/lang/constant/ConstantDesc"), (0, u "MIN_VALUE"), (1, u "MAX_VALUE"), (4, u "SIZE"), (0, u "I"), (1, u "BYTES"), (1, u "serialVersionUID")] 142

def k8c0 : Code := { maxStack := 4, maxLocals := 3, code := jdk_35_method_24_code, exceptionTable := #[], attributes := #[] }
def k8m0 : Method := { name := "valueOf", desc := "(J)Ljava/lang/Long;", sig := { parameters := [.long], returnType := some (.object "java/lang/Long") }, accessFlags := 9, code := some k8c0 }
def k8c1 : Code := { maxStack := 3, maxLocals := 3, code := jdk_35_method_26_code, exceptionTable := #[], attributes := #[] }
def k8m1 : Method := { name := "<init>", desc := "(J)V", sig := { parameters := [.long], returnType := none }, accessFlags := 1, code := some k8c1 }
/-- java/lang/Long -/
def k8 : Class := { plain "java/lang/Long" (some 4) with
  accessFlags := 49
  interfaces := #[5, 6, 7]
  cf := some (fileOf pool8 1 #[.nestMembers #[235]] #[{ accessFlags := 9, nameIndex := 85, descriptorIndex := 229, attributes := #[] }, { accessFlags := 1, nameIndex := 59, descriptorIndex := 242, attributes := #[] }] 49 271 #[363, 365, 367] #[{ accessFlags := 25, nameIndex := 369, descriptorIndex := 276, attributes := #[] }, { accessFlags := 25, nameIndex := 371, descriptorIndex := 276, attributes := #[] }, { accessFlags := 25, nameIndex := 361, descriptorIndex := 362, attributes := #[] }, { accessFlags := 18, nameIndex := 275, descriptorIndex := 276, attributes := #[] }, { accessFlags := 25, nameIndex := 376, descriptorIndex := 377, attributes := #[] }, { accessFlags := 25, nameIndex := 379, descriptorIndex := 377, attributes := #[] }, { accessFlags := 26, nameIndex := 381, descriptorIndex := 276, attributes := #[] }])
  fields := #[{ name := "MIN_VALUE", type := .long, accessFlags := 25, slot := 0, constantValue := 0 }, { name := "MAX_VALUE", type := .long, accessFlags := 25, slot := 1, constantValue := 0 }, { name := "TYPE", type := (.object "java/lang/Class"), accessFlags := 25, slot := 2, constantValue := 0 }, { name := "value", type := .long, accessFlags := 18, slot := 0, constantValue := 0 }, { name := "SIZE", type := .int, accessFlags := 25, slot := 3, constantValue := 0 }, { name := "BYTES", type := .int, accessFlags := 25, slot := 4, constantValue := 0 }, { name := "serialVersionUID", type := .long, accessFlags := 26, slot := 5, constantValue := 0 }]
  methods := #[k8m0, k8m1]
  instanceTypes := #[.long]
  staticTypes := #[.long, .long, (.object "java/lang/Class"), .int, .int, .long]
  resolved := Array.replicate 524 none
  statics := none }

def pool9 : Array CpInfo := pool [(2, .class_ 4), (1, u "java/lang/Object"), (0, u "<init>"), (0, u "()V"), (0, .class_ 8), (0, u "java/lang/Long"), (7, .class_ 18), (1, u "java/lang/Long$LongCache"), (0, u "$assertionsDisabled"), (0, u "Z"), (8, u "archivedCache"), (0, u "[Ljava/lang/Long;"), (7, u "cache")] 24

def k9m0 : Method := { name := "<init>", desc := "()V", sig := { parameters := [], returnType := none }, accessFlags := 2, code := none }
/-- java/lang/Long$LongCache -/
def k9 : Class := { plain "java/lang/Long$LongCache" (some 0) with
  accessFlags := 48
  interfaces := #[]
  cf := some (fileOf pool9 16 #[.nestHost 7] #[{ accessFlags := 2, nameIndex := 5, descriptorIndex := 6, attributes := #[] }] 48 2 #[] #[{ accessFlags := 24, nameIndex := 38, descriptorIndex := 30, attributes := #[] }, { accessFlags := 8, nameIndex := 29, descriptorIndex := 30, attributes := #[] }, { accessFlags := 4120, nameIndex := 19, descriptorIndex := 20, attributes := #[] }])
  fields := #[{ name := "cache", type := (.array (.object "java/lang/Long")), accessFlags := 24, slot := 0, constantValue := 0 }, { name := "archivedCache", type := (.array (.object "java/lang/Long")), accessFlags := 8, slot := 1, constantValue := 0 }, { name := "$assertionsDisabled", type := .boolean, accessFlags := 4120, slot := 2, constantValue := 0 }]
  methods := #[k9m0]
  instanceTypes := #[]
  staticTypes := #[(.array (.object "java/lang/Long")), (.array (.object "java/lang/Long")), .boolean]
  resolved := Array.replicate 63 none
  statics := some 0 }

def pool10 : Array CpInfo := pool [(1, u "java/lang/Cloneable"), (0, .class_ 1), (0, u "java/lang/Object"), (0, .class_ 3)] 3

/-- java/lang/Cloneable -/
def k10 : Class := { plain "java/lang/Cloneable" (some 0) with
  accessFlags := 1537
  interfaces := #[]
  cf := some (fileOf pool10 2 #[] #[] 1537 4 #[] #[])
  fields := #[]
  methods := #[]
  instanceTypes := #[]
  staticTypes := #[]
  resolved := Array.replicate 8 none
  statics := none }

/-- the primitive byte -/
def k11 : Class := { plain "byte" none with kind := .primitive 'B', accessFlags := 0x411 }
/-- [B -/
def k12 : Class := { plain "[B" (some 0) with kind := .array 11 .byte, interfaces := #[10, 3], accessFlags := 1041 }

/-- the primitive int -/
def k13 : Class := { plain "int" none with kind := .primitive 'I', accessFlags := 0x411 }
/-- [I -/
def k14 : Class := { plain "[I" (some 0) with kind := .array 13 .int, interfaces := #[10, 3], accessFlags := 1041 }

/-- [Ljava/lang/Long; -/
def k15 : Class := { plain "[Ljava/lang/Long;" (some 0) with kind := .array 8 (.object "java/lang/Long"), interfaces := #[10, 3], accessFlags := 1041 }

def heap : Heap := #[{ cls := 9, slots := #[.ref 1, .null, .int 0], vm := .statics 9 },
  { cls := 15, slots := #[.ref 2, .ref 3, .ref 4, .ref 5, .ref 6, .ref 7, .ref 8, .ref 9, .ref 10, .ref 11, .ref 12, .ref 13, .ref 14, .ref 15, .ref 16, .ref 17, .ref 18, .ref 19, .ref 20, .ref 21, .ref 22, .ref 23, .ref 24, .ref 25, .ref 26, .ref 27, .ref 28, .ref 29, .ref 30, .ref 31, .ref 32, .ref 33, .ref 34, .ref 35, .ref 36, .ref 37, .ref 38, .ref 39, .ref 40, .ref 41, .ref 42, .ref 43, .ref 44, .ref 45, .ref 46, .ref 47, .ref 48, .ref 49, .ref 50, .ref 51, .ref 52, .ref 53, .ref 54, .ref 55, .ref 56, .ref 57, .ref 58, .ref 59, .ref 60, .ref 61, .ref 62, .ref 63, .ref 64, .ref 65, .ref 66, .ref 67, .ref 68, .ref 69, .ref 70, .ref 71, .ref 72, .ref 73, .ref 74, .ref 75, .ref 76, .ref 77, .ref 78, .ref 79, .ref 80, .ref 81, .ref 82, .ref 83, .ref 84, .ref 85, .ref 86, .ref 87, .ref 88, .ref 89, .ref 90, .ref 91, .ref 92, .ref 93, .ref 94, .ref 95, .ref 96, .ref 97, .ref 98, .ref 99, .ref 100, .ref 101, .ref 102, .ref 103, .ref 104, .ref 105, .ref 106, .ref 107, .ref 108, .ref 109, .ref 110, .ref 111, .ref 112, .ref 113, .ref 114, .ref 115, .ref 116, .ref 117, .ref 118, .ref 119, .ref 120, .ref 121, .ref 122, .ref 123, .ref 124, .ref 125, .ref 126, .ref 127, .ref 128, .ref 129, .ref 130, .ref 131, .ref 132, .ref 133, .ref 134, .ref 135, .ref 136, .ref 137, .ref 138, .ref 139, .ref 140, .ref 141, .ref 142, .ref 143, .ref 144, .ref 145, .ref 146, .ref 147, .ref 148, .ref 149, .ref 150, .ref 151, .ref 152, .ref 153, .ref 154, .ref 155, .ref 156, .ref 157, .ref 158, .ref 159, .ref 160, .ref 161, .ref 162, .ref 163, .ref 164, .ref 165, .ref 166, .ref 167, .ref 168, .ref 169, .ref 170, .ref 171, .ref 172, .ref 173, .ref 174, .ref 175, .ref 176, .ref 177, .ref 178, .ref 179, .ref 180, .ref 181, .ref 182, .ref 183, .ref 184, .ref 185, .ref 186, .ref 187, .ref 188, .ref 189, .ref 190, .ref 191, .ref 192, .ref 193, .ref 194, .ref 195, .ref 196, .ref 197, .ref 198, .ref 199, .ref 200, .ref 201, .ref 202, .ref 203, .ref 204, .ref 205, .ref 206, .ref 207, .ref 208, .ref 209, .ref 210, .ref 211, .ref 212, .ref 213, .ref 214, .ref 215, .ref 216, .ref 217, .ref 218, .ref 219, .ref 220, .ref 221, .ref 222, .ref 223, .ref 224, .ref 225, .ref 226, .ref 227, .ref 228, .ref 229, .ref 230, .ref 231, .ref 232, .ref 233, .ref 234, .ref 235, .ref 236, .ref 237, .ref 238, .ref 239, .ref 240, .ref 241, .ref 242, .ref 243, .ref 244, .ref 245, .ref 246, .ref 247, .ref 248, .ref 249, .ref 250, .ref 251, .ref 252, .ref 253, .ref 254, .ref 255, .ref 256, .ref 257], vm := .none },
  { cls := 8, slots := #[.long (-128)], vm := .none },
  { cls := 8, slots := #[.long (-127)], vm := .none },
  { cls := 8, slots := #[.long (-126)], vm := .none },
  { cls := 8, slots := #[.long (-125)], vm := .none },
  { cls := 8, slots := #[.long (-124)], vm := .none },
  { cls := 8, slots := #[.long (-123)], vm := .none },
  { cls := 8, slots := #[.long (-122)], vm := .none },
  { cls := 8, slots := #[.long (-121)], vm := .none },
  { cls := 8, slots := #[.long (-120)], vm := .none },
  { cls := 8, slots := #[.long (-119)], vm := .none },
  { cls := 8, slots := #[.long (-118)], vm := .none },
  { cls := 8, slots := #[.long (-117)], vm := .none },
  { cls := 8, slots := #[.long (-116)], vm := .none },
  { cls := 8, slots := #[.long (-115)], vm := .none },
  { cls := 8, slots := #[.long (-114)], vm := .none },
  { cls := 8, slots := #[.long (-113)], vm := .none },
  { cls := 8, slots := #[.long (-112)], vm := .none },
  { cls := 8, slots := #[.long (-111)], vm := .none },
  { cls := 8, slots := #[.long (-110)], vm := .none },
  { cls := 8, slots := #[.long (-109)], vm := .none },
  { cls := 8, slots := #[.long (-108)], vm := .none },
  { cls := 8, slots := #[.long (-107)], vm := .none },
  { cls := 8, slots := #[.long (-106)], vm := .none },
  { cls := 8, slots := #[.long (-105)], vm := .none },
  { cls := 8, slots := #[.long (-104)], vm := .none },
  { cls := 8, slots := #[.long (-103)], vm := .none },
  { cls := 8, slots := #[.long (-102)], vm := .none },
  { cls := 8, slots := #[.long (-101)], vm := .none },
  { cls := 8, slots := #[.long (-100)], vm := .none },
  { cls := 8, slots := #[.long (-99)], vm := .none },
  { cls := 8, slots := #[.long (-98)], vm := .none },
  { cls := 8, slots := #[.long (-97)], vm := .none },
  { cls := 8, slots := #[.long (-96)], vm := .none },
  { cls := 8, slots := #[.long (-95)], vm := .none },
  { cls := 8, slots := #[.long (-94)], vm := .none },
  { cls := 8, slots := #[.long (-93)], vm := .none },
  { cls := 8, slots := #[.long (-92)], vm := .none },
  { cls := 8, slots := #[.long (-91)], vm := .none },
  { cls := 8, slots := #[.long (-90)], vm := .none },
  { cls := 8, slots := #[.long (-89)], vm := .none },
  { cls := 8, slots := #[.long (-88)], vm := .none },
  { cls := 8, slots := #[.long (-87)], vm := .none },
  { cls := 8, slots := #[.long (-86)], vm := .none },
  { cls := 8, slots := #[.long (-85)], vm := .none },
  { cls := 8, slots := #[.long (-84)], vm := .none },
  { cls := 8, slots := #[.long (-83)], vm := .none },
  { cls := 8, slots := #[.long (-82)], vm := .none },
  { cls := 8, slots := #[.long (-81)], vm := .none },
  { cls := 8, slots := #[.long (-80)], vm := .none },
  { cls := 8, slots := #[.long (-79)], vm := .none },
  { cls := 8, slots := #[.long (-78)], vm := .none },
  { cls := 8, slots := #[.long (-77)], vm := .none },
  { cls := 8, slots := #[.long (-76)], vm := .none },
  { cls := 8, slots := #[.long (-75)], vm := .none },
  { cls := 8, slots := #[.long (-74)], vm := .none },
  { cls := 8, slots := #[.long (-73)], vm := .none },
  { cls := 8, slots := #[.long (-72)], vm := .none },
  { cls := 8, slots := #[.long (-71)], vm := .none },
  { cls := 8, slots := #[.long (-70)], vm := .none },
  { cls := 8, slots := #[.long (-69)], vm := .none },
  { cls := 8, slots := #[.long (-68)], vm := .none },
  { cls := 8, slots := #[.long (-67)], vm := .none },
  { cls := 8, slots := #[.long (-66)], vm := .none },
  { cls := 8, slots := #[.long (-65)], vm := .none },
  { cls := 8, slots := #[.long (-64)], vm := .none },
  { cls := 8, slots := #[.long (-63)], vm := .none },
  { cls := 8, slots := #[.long (-62)], vm := .none },
  { cls := 8, slots := #[.long (-61)], vm := .none },
  { cls := 8, slots := #[.long (-60)], vm := .none },
  { cls := 8, slots := #[.long (-59)], vm := .none },
  { cls := 8, slots := #[.long (-58)], vm := .none },
  { cls := 8, slots := #[.long (-57)], vm := .none },
  { cls := 8, slots := #[.long (-56)], vm := .none },
  { cls := 8, slots := #[.long (-55)], vm := .none },
  { cls := 8, slots := #[.long (-54)], vm := .none },
  { cls := 8, slots := #[.long (-53)], vm := .none },
  { cls := 8, slots := #[.long (-52)], vm := .none },
  { cls := 8, slots := #[.long (-51)], vm := .none },
  { cls := 8, slots := #[.long (-50)], vm := .none },
  { cls := 8, slots := #[.long (-49)], vm := .none },
  { cls := 8, slots := #[.long (-48)], vm := .none },
  { cls := 8, slots := #[.long (-47)], vm := .none },
  { cls := 8, slots := #[.long (-46)], vm := .none },
  { cls := 8, slots := #[.long (-45)], vm := .none },
  { cls := 8, slots := #[.long (-44)], vm := .none },
  { cls := 8, slots := #[.long (-43)], vm := .none },
  { cls := 8, slots := #[.long (-42)], vm := .none },
  { cls := 8, slots := #[.long (-41)], vm := .none },
  { cls := 8, slots := #[.long (-40)], vm := .none },
  { cls := 8, slots := #[.long (-39)], vm := .none },
  { cls := 8, slots := #[.long (-38)], vm := .none },
  { cls := 8, slots := #[.long (-37)], vm := .none },
  { cls := 8, slots := #[.long (-36)], vm := .none },
  { cls := 8, slots := #[.long (-35)], vm := .none },
  { cls := 8, slots := #[.long (-34)], vm := .none },
  { cls := 8, slots := #[.long (-33)], vm := .none },
  { cls := 8, slots := #[.long (-32)], vm := .none },
  { cls := 8, slots := #[.long (-31)], vm := .none },
  { cls := 8, slots := #[.long (-30)], vm := .none },
  { cls := 8, slots := #[.long (-29)], vm := .none },
  { cls := 8, slots := #[.long (-28)], vm := .none },
  { cls := 8, slots := #[.long (-27)], vm := .none },
  { cls := 8, slots := #[.long (-26)], vm := .none },
  { cls := 8, slots := #[.long (-25)], vm := .none },
  { cls := 8, slots := #[.long (-24)], vm := .none },
  { cls := 8, slots := #[.long (-23)], vm := .none },
  { cls := 8, slots := #[.long (-22)], vm := .none },
  { cls := 8, slots := #[.long (-21)], vm := .none },
  { cls := 8, slots := #[.long (-20)], vm := .none },
  { cls := 8, slots := #[.long (-19)], vm := .none },
  { cls := 8, slots := #[.long (-18)], vm := .none },
  { cls := 8, slots := #[.long (-17)], vm := .none },
  { cls := 8, slots := #[.long (-16)], vm := .none },
  { cls := 8, slots := #[.long (-15)], vm := .none },
  { cls := 8, slots := #[.long (-14)], vm := .none },
  { cls := 8, slots := #[.long (-13)], vm := .none },
  { cls := 8, slots := #[.long (-12)], vm := .none },
  { cls := 8, slots := #[.long (-11)], vm := .none },
  { cls := 8, slots := #[.long (-10)], vm := .none },
  { cls := 8, slots := #[.long (-9)], vm := .none },
  { cls := 8, slots := #[.long (-8)], vm := .none },
  { cls := 8, slots := #[.long (-7)], vm := .none },
  { cls := 8, slots := #[.long (-6)], vm := .none },
  { cls := 8, slots := #[.long (-5)], vm := .none },
  { cls := 8, slots := #[.long (-4)], vm := .none },
  { cls := 8, slots := #[.long (-3)], vm := .none },
  { cls := 8, slots := #[.long (-2)], vm := .none },
  { cls := 8, slots := #[.long (-1)], vm := .none },
  { cls := 8, slots := #[.long (0)], vm := .none },
  { cls := 8, slots := #[.long (1)], vm := .none },
  { cls := 8, slots := #[.long (2)], vm := .none },
  { cls := 8, slots := #[.long (3)], vm := .none },
  { cls := 8, slots := #[.long (4)], vm := .none },
  { cls := 8, slots := #[.long (5)], vm := .none },
  { cls := 8, slots := #[.long (6)], vm := .none },
  { cls := 8, slots := #[.long (7)], vm := .none },
  { cls := 8, slots := #[.long (8)], vm := .none },
  { cls := 8, slots := #[.long (9)], vm := .none },
  { cls := 8, slots := #[.long (10)], vm := .none },
  { cls := 8, slots := #[.long (11)], vm := .none },
  { cls := 8, slots := #[.long (12)], vm := .none },
  { cls := 8, slots := #[.long (13)], vm := .none },
  { cls := 8, slots := #[.long (14)], vm := .none },
  { cls := 8, slots := #[.long (15)], vm := .none },
  { cls := 8, slots := #[.long (16)], vm := .none },
  { cls := 8, slots := #[.long (17)], vm := .none },
  { cls := 8, slots := #[.long (18)], vm := .none },
  { cls := 8, slots := #[.long (19)], vm := .none },
  { cls := 8, slots := #[.long (20)], vm := .none },
  { cls := 8, slots := #[.long (21)], vm := .none },
  { cls := 8, slots := #[.long (22)], vm := .none },
  { cls := 8, slots := #[.long (23)], vm := .none },
  { cls := 8, slots := #[.long (24)], vm := .none },
  { cls := 8, slots := #[.long (25)], vm := .none },
  { cls := 8, slots := #[.long (26)], vm := .none },
  { cls := 8, slots := #[.long (27)], vm := .none },
  { cls := 8, slots := #[.long (28)], vm := .none },
  { cls := 8, slots := #[.long (29)], vm := .none },
  { cls := 8, slots := #[.long (30)], vm := .none },
  { cls := 8, slots := #[.long (31)], vm := .none },
  { cls := 8, slots := #[.long (32)], vm := .none },
  { cls := 8, slots := #[.long (33)], vm := .none },
  { cls := 8, slots := #[.long (34)], vm := .none },
  { cls := 8, slots := #[.long (35)], vm := .none },
  { cls := 8, slots := #[.long (36)], vm := .none },
  { cls := 8, slots := #[.long (37)], vm := .none },
  { cls := 8, slots := #[.long (38)], vm := .none },
  { cls := 8, slots := #[.long (39)], vm := .none },
  { cls := 8, slots := #[.long (40)], vm := .none },
  { cls := 8, slots := #[.long (41)], vm := .none },
  { cls := 8, slots := #[.long (42)], vm := .none },
  { cls := 8, slots := #[.long (43)], vm := .none },
  { cls := 8, slots := #[.long (44)], vm := .none },
  { cls := 8, slots := #[.long (45)], vm := .none },
  { cls := 8, slots := #[.long (46)], vm := .none },
  { cls := 8, slots := #[.long (47)], vm := .none },
  { cls := 8, slots := #[.long (48)], vm := .none },
  { cls := 8, slots := #[.long (49)], vm := .none },
  { cls := 8, slots := #[.long (50)], vm := .none },
  { cls := 8, slots := #[.long (51)], vm := .none },
  { cls := 8, slots := #[.long (52)], vm := .none },
  { cls := 8, slots := #[.long (53)], vm := .none },
  { cls := 8, slots := #[.long (54)], vm := .none },
  { cls := 8, slots := #[.long (55)], vm := .none },
  { cls := 8, slots := #[.long (56)], vm := .none },
  { cls := 8, slots := #[.long (57)], vm := .none },
  { cls := 8, slots := #[.long (58)], vm := .none },
  { cls := 8, slots := #[.long (59)], vm := .none },
  { cls := 8, slots := #[.long (60)], vm := .none },
  { cls := 8, slots := #[.long (61)], vm := .none },
  { cls := 8, slots := #[.long (62)], vm := .none },
  { cls := 8, slots := #[.long (63)], vm := .none },
  { cls := 8, slots := #[.long (64)], vm := .none },
  { cls := 8, slots := #[.long (65)], vm := .none },
  { cls := 8, slots := #[.long (66)], vm := .none },
  { cls := 8, slots := #[.long (67)], vm := .none },
  { cls := 8, slots := #[.long (68)], vm := .none },
  { cls := 8, slots := #[.long (69)], vm := .none },
  { cls := 8, slots := #[.long (70)], vm := .none },
  { cls := 8, slots := #[.long (71)], vm := .none },
  { cls := 8, slots := #[.long (72)], vm := .none },
  { cls := 8, slots := #[.long (73)], vm := .none },
  { cls := 8, slots := #[.long (74)], vm := .none },
  { cls := 8, slots := #[.long (75)], vm := .none },
  { cls := 8, slots := #[.long (76)], vm := .none },
  { cls := 8, slots := #[.long (77)], vm := .none },
  { cls := 8, slots := #[.long (78)], vm := .none },
  { cls := 8, slots := #[.long (79)], vm := .none },
  { cls := 8, slots := #[.long (80)], vm := .none },
  { cls := 8, slots := #[.long (81)], vm := .none },
  { cls := 8, slots := #[.long (82)], vm := .none },
  { cls := 8, slots := #[.long (83)], vm := .none },
  { cls := 8, slots := #[.long (84)], vm := .none },
  { cls := 8, slots := #[.long (85)], vm := .none },
  { cls := 8, slots := #[.long (86)], vm := .none },
  { cls := 8, slots := #[.long (87)], vm := .none },
  { cls := 8, slots := #[.long (88)], vm := .none },
  { cls := 8, slots := #[.long (89)], vm := .none },
  { cls := 8, slots := #[.long (90)], vm := .none },
  { cls := 8, slots := #[.long (91)], vm := .none },
  { cls := 8, slots := #[.long (92)], vm := .none },
  { cls := 8, slots := #[.long (93)], vm := .none },
  { cls := 8, slots := #[.long (94)], vm := .none },
  { cls := 8, slots := #[.long (95)], vm := .none },
  { cls := 8, slots := #[.long (96)], vm := .none },
  { cls := 8, slots := #[.long (97)], vm := .none },
  { cls := 8, slots := #[.long (98)], vm := .none },
  { cls := 8, slots := #[.long (99)], vm := .none },
  { cls := 8, slots := #[.long (100)], vm := .none },
  { cls := 8, slots := #[.long (101)], vm := .none },
  { cls := 8, slots := #[.long (102)], vm := .none },
  { cls := 8, slots := #[.long (103)], vm := .none },
  { cls := 8, slots := #[.long (104)], vm := .none },
  { cls := 8, slots := #[.long (105)], vm := .none },
  { cls := 8, slots := #[.long (106)], vm := .none },
  { cls := 8, slots := #[.long (107)], vm := .none },
  { cls := 8, slots := #[.long (108)], vm := .none },
  { cls := 8, slots := #[.long (109)], vm := .none },
  { cls := 8, slots := #[.long (110)], vm := .none },
  { cls := 8, slots := #[.long (111)], vm := .none },
  { cls := 8, slots := #[.long (112)], vm := .none },
  { cls := 8, slots := #[.long (113)], vm := .none },
  { cls := 8, slots := #[.long (114)], vm := .none },
  { cls := 8, slots := #[.long (115)], vm := .none },
  { cls := 8, slots := #[.long (116)], vm := .none },
  { cls := 8, slots := #[.long (117)], vm := .none },
  { cls := 8, slots := #[.long (118)], vm := .none },
  { cls := 8, slots := #[.long (119)], vm := .none },
  { cls := 8, slots := #[.long (120)], vm := .none },
  { cls := 8, slots := #[.long (121)], vm := .none },
  { cls := 8, slots := #[.long (122)], vm := .none },
  { cls := 8, slots := #[.long (123)], vm := .none },
  { cls := 8, slots := #[.long (124)], vm := .none },
  { cls := 8, slots := #[.long (125)], vm := .none },
  { cls := 8, slots := #[.long (126)], vm := .none },
  { cls := 8, slots := #[.long (127)], vm := .none }]
def classes : Array Class := #[k0, k1, k2, k3, k4, k5, k6, k7, k8, k9, k10, k11, k12, k13, k14, k15]
def interned : List (Array UInt16 × Addr) := []
def slotsUsed : Nat := 515
def theMethod : MethodId := ⟨1, 1⟩
def args0 : Array Value := #[.long 5, .long 6, .long 7, .long 8, .int 3]
def aboutOver (below : List Frame) : State where
  vm := { classes := classes, interned := interned.toArray }
  heap := heap
  slotsUsed := slotsUsed
  threads := #[{ frames := .invoking theMethod args0 :: below }]
def below0 : List Frame := [.native { method := ⟨0, 0⟩, args := #[] }]
def about1 : State := aboutOver below0
def p0 : Program := .bare "" "" ""
def e0 : Env := launch0.env 0 0 0
theorem w_frames : about1.frames = Frame.invoking theMethod args0 :: below0 := rfl
set_option maxRecDepth 65536 in
theorem w_args : argsFit about1.vm theMethod args0 = true := by decide +kernel
set_option maxRecDepth 65536 in
theorem w_heap : heapFits about1 = true := by decide +kernel
set_option maxRecDepth 65536 in
theorem w_runnable : about1.curStatus? = some .runnable := by decide +kernel
set_option maxRecDepth 65536 in
theorem w_alone : about1.alone = true := by decide +kernel
set_option maxRecDepth 65536 in
theorem w_named : about1.methodNamed? x = some theMethod := by decide +kernel
set_option maxRecDepth 65536 in
theorem w_hears : about1.hears theMethod below0 = true := by decide +kernel
set_option maxRecDepth 65536 in
theorem w_ripe : about1.ripe theMethod args0 below0 = true := by decide +kernel
theorem w_running : about1.status = .running := rfl
set_option maxRecDepth 65536 in
theorem w_room : about1.hasRoom e0.platform room_1 = true :=
  launch0.hasRoom_least _ room_1 (by decide +kernel) (by decide +kernel) (by decide +kernel) (by decide +kernel) (by decide +kernel) (by decide +kernel)
theorem allAtoms_all (ts : List Jvm.Cond) (a : Array Jvm.Value) (st : Jvm.State) : (allAtoms ts).before a st = ts.all (fun c => c.before a st) := by
  induction ts with
  | nil => rfl
  | cons c t ih =>
    show (Jvm.Cond.and c (allAtoms t)).before a st = _
    rw [Jvm.Cond.before_and, ih, List.all_cons]
def words1 : List Jvm.Cond := Jvm.Cond.code x code maxLocals ret :: tables_1
/-- a 'code' word, met by the world's own term for the bytes: nothing is compared byte by byte -/
theorem code_word {y : MethodName} {bytes : ByteArray} {mx : Nat} {rt : Option FieldType} {a : Array Value} {s : State} {m : MethodId} {meth : Method} {c : Code} (h1 : s.methodNamed? y = some m) (h2 : s.vm.method? m = some meth) (h3 : meth.code = some c) (h4 : c.code = bytes)
    (h5 : (c.maxLocals == mx && c.exceptionTable.isEmpty && decide (c.maxStack ≤ mostOperands) && decide (meth.sig.returnType = rt) && !meth.locks && decide (parseMethodDescriptor y.desc = some meth.sig)) = true) : (Jvm.Cond.code y bytes mx rt).before a s = true := by
  simp only [Bool.and_eq_true, beq_iff_eq, Bool.not_eq_true', decide_eq_true_eq] at h5
  obtain ⟨⟨⟨⟨⟨g1, g2⟩, g3⟩, g4⟩, g5⟩, g6⟩ := h5
  simp [Cond.before, Cond.holds, Cond.value, h1, h2, h3, h4, g1, g2, g3, g4, g5, g6]
def isCode : Jvm.Cond → Bool
  | .code _ _ _ _ => true
  | _ => false
theorem all_split {L : List Jvm.Cond} {P : Jvm.Cond → Bool} (h1 : L.all (fun c => isCode c || P c) = true) (h2 : ∀ c ∈ L.filter isCode, P c = true) : L.all P = true := by
  refine List.all_eq_true.mpr fun c hc => ?_
  have h := List.all_eq_true.mp h1 c hc
  rcases Bool.eq_false_or_eq_true (isCode c) with hi | hi
  · exact h2 c (List.mem_filter.mpr ⟨hc, hi⟩)
  · simpa [hi] using h
set_option maxRecDepth 65536 in
theorem w_c0 : (Jvm.Cond.code x code maxLocals ret).before args0 about1 = true := code_word (m := ⟨1, 1⟩) (meth := k1m1) (c := k1c1) (by decide +kernel) rfl rfl rfl (by decide +kernel)
set_option maxRecDepth 65536 in
theorem w_c1 : (Jvm.Cond.code ({ cls := "com/example/madingley/madingley/capability/Capability", name := "<init>", desc := "(JJ)V" } : Jvm.MethodName) prog_3_method_1_code (5 : Nat) (Option.none : Option Jvm.ClassFile.FieldType)).before args0 about1 = true := code_word (m := ⟨2, 0⟩) (meth := k2m0) (c := k2c0) (by decide +kernel) rfl rfl rfl (by decide +kernel)
set_option maxRecDepth 65536 in
theorem w_c2 : (Jvm.Cond.code ({ cls := "java/lang/Object", name := "<init>", desc := "()V" } : Jvm.MethodName) object_method_1_code (1 : Nat) (Option.none : Option Jvm.ClassFile.FieldType)).before args0 about1 = true := code_word (m := ⟨0, 0⟩) (meth := k0m0) (c := k0c0) (by decide +kernel) rfl rfl rfl (by decide +kernel)
set_option maxRecDepth 65536 in
theorem w_c3 : (Jvm.Cond.code ({ cls := "com/example/madingley/madingley/capability/Capability", name := "equals", desc := "(Ljava/lang/Object;)Z" } : Jvm.MethodName) prog_3_method_19_code (3 : Nat) (Option.some Jvm.ClassFile.FieldType.boolean)).before args0 about1 = true := code_word (m := ⟨2, 1⟩) (meth := k2m1) (c := k2c1) (by decide +kernel) rfl rfl rfl (by decide +kernel)
set_option maxRecDepth 65536 in
theorem w_c4 : (Jvm.Cond.code ({ cls := "java/lang/Long", name := "valueOf", desc := "(J)Ljava/lang/Long;" } : Jvm.MethodName) jdk_35_method_24_code (3 : Nat) (Option.some (Jvm.ClassFile.FieldType.object "java/lang/Long"))).before args0 about1 = true := code_word (m := ⟨8, 0⟩) (meth := k8m0) (c := k8c0) (by decide +kernel) rfl rfl rfl (by decide +kernel)
set_option maxRecDepth 65536 in
theorem w_c5 : (Jvm.Cond.code ({ cls := "java/lang/Long", name := "<init>", desc := "(J)V" } : Jvm.MethodName) jdk_35_method_26_code (3 : Nat) (Option.none : Option Jvm.ClassFile.FieldType)).before args0 about1 = true := code_word (m := ⟨8, 1⟩) (meth := k8m1) (c := k8c1) (by decide +kernel) rfl rfl rfl (by decide +kernel)
set_option maxRecDepth 65536 in
theorem w_c6 : (Jvm.Cond.code ({ cls := "java/lang/Number", name := "<init>", desc := "()V" } : Jvm.MethodName) jdk_18_method_1_code (1 : Nat) (Option.none : Option Jvm.ClassFile.FieldType)).before args0 about1 = true := code_word (m := ⟨4, 0⟩) (meth := k4m0) (c := k4c0) (by decide +kernel) rfl rfl rfl (by decide +kernel)
def codes1 : List Jvm.Cond := [Jvm.Cond.code x code maxLocals ret, Jvm.Cond.code ({ cls := "com/example/madingley/madingley/capability/Capability", name := "<init>", desc := "(JJ)V" } : Jvm.MethodName) prog_3_method_1_code (5 : Nat) (Option.none : Option Jvm.ClassFile.FieldType), Jvm.Cond.code ({ cls := "java/lang/Object", name := "<init>", desc := "()V" } : Jvm.MethodName) object_method_1_code (1 : Nat) (Option.none : Option Jvm.ClassFile.FieldType), Jvm.Cond.code ({ cls := "com/example/madingley/madingley/capability/Capability", name := "equals", desc := "(Ljava/lang/Object;)Z" } : Jvm.MethodName) prog_3_method_19_code (3 : Nat) (Option.some Jvm.ClassFile.FieldType.boolean), Jvm.Cond.code ({ cls := "java/lang/Long", name := "valueOf", desc := "(J)Ljava/lang/Long;" } : Jvm.MethodName) jdk_35_method_24_code (3 : Nat) (Option.some (Jvm.ClassFile.FieldType.object "java/lang/Long")), Jvm.Cond.code ({ cls := "java/lang/Long", name := "<init>", desc := "(J)V" } : Jvm.MethodName) jdk_35_method_26_code (3 : Nat) (Option.none : Option Jvm.ClassFile.FieldType), Jvm.Cond.code ({ cls := "java/lang/Number", name := "<init>", desc := "()V" } : Jvm.MethodName) jdk_18_method_1_code (1 : Nat) (Option.none : Option Jvm.ClassFile.FieldType)]
set_option maxRecDepth 65536 in
theorem codes_eq : words1.filter isCode = codes1 := rfl
theorem w_codes : ∀ c ∈ words1.filter isCode, c.before args0 about1 = true := by
  rw [codes_eq]
  intro c hc
  simp only [codes1, List.mem_cons, List.not_mem_nil, or_false] at hc
  rcases hc with rfl | rfl | rfl | rfl | rfl | rfl | rfl
  · exact w_c0
  · exact w_c1
  · exact w_c2
  · exact w_c3
  · exact w_c4
  · exact w_c5
  · exact w_c6
set_option maxRecDepth 65536 in
theorem w_t1 : (words1.take 24).all (fun c => isCode c || c.before args0 about1) = true := by decide +kernel
set_option maxRecDepth 65536 in
theorem w_t2 : (words1.drop 24).all (fun c => isCode c || c.before args0 about1) = true := by decide +kernel
theorem w_tables : (allAtoms (Jvm.Cond.code x code maxLocals ret :: tables_1)).before args0 about1 = true := by
  rw [allAtoms_all]
  show words1.all (fun c => c.before args0 about1) = true
  refine all_split ?_ w_codes
  rw [← List.take_append_drop 24 words1, List.all_append, w_t1, w_t2]
  rfl
set_option maxRecDepth 65536 in
theorem w_rest : rest_1_c.before args0 about1 = true := by decide +kernel
set_option maxRecDepth 65536 in
theorem w_case : (Jvm.Cond.and given_1 narrow_1).before args0 about1 = true := by decide +kernel
theorem w_applies : (headSpec (Jvm.Cond.code x code maxLocals ret :: tables_1) room_1).applies x e0.platform about1 = true :=
  (Spec.applies_iff w_frames).mpr ⟨w_running, w_runnable, w_alone, w_named, w_hears, w_ripe, w_room, w_tables⟩
theorem atStart : AtStart classFile x code maxLocals ret World_1 tables_1 room_1 Calls_1 rest_1 Pre_1 launch0 p0 e0 about1 theMethod args0 below0 :=
  ⟨lists_1, trivial, launch0.admits_env _ _ _, launch0.least_env, fairChoices_fair.cas, fairChoices_fair.clock, w_frames, w_args, w_heap, w_applies, trivial, w_rest, w_case⟩
end start1
theorem witness_1 : WitnessClaimed_1 := ⟨start1.p0, start1.e0, start1.about1, start1.theMethod, start1.args0, start1.below0, start1.atStart⟩
end Jvm.Pilot.@@N@@
